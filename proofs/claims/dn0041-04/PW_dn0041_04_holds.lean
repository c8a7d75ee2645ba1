import PyProof.Rows.All
import Wide.All
import OpenK.AllK
import Wide.FinOn
import PySem.Challenge.RW_dn0041_04
open PySem PySem.W PyProof.Rows PySem.Calls
set_option Elab.async false
set_option maxRecDepth 100000
set_option maxHeartbeats 8000000
set_option linter.unusedVariables false
open_top hd04 for PySem.Challenge.rw_dn0041_04
namespace Mine
local macro_rules | `(tactic| omega) => `(tactic| lia)
def Stop (P : Prop) : Prop := P
theorem Stop.mk {P : Prop} (h : Stop P) : P := h

def LeaveF (h₀ : Heap) (L : Addr) (m : Str → Option Value) (g : Heap) (rest : List (Addr × Obj)) (R : Result → Shared → Prop) (v : Value) (s' : Shared) : Prop :=
  ∃ L' m' own', Fr g L' s'.heap m' ∧ News g L' s'.heap own' ∧
    (Fr h₀ L s'.heap m → News h₀ L s'.heap (own' ++ rest) → (∀ p ∈ own', ∀ q ∈ rest, p.1 ≠ q.1) → R (.ok (.ret v)) s')

structure At (K : Frag) (p : Program) (loose : List Str) (mean : ExcName → Option Value) (mg mb : Str → Option Value) (A : Around) (h₀ : Heap) (L : Addr) (d : Nat) : Prop where
  ex : ∃ A₀ base outer env, Below A₀ base outer h₀ ∧ A.frames = some (env :: outer) ∧ env.frame = some L ∧ env.scope.kind = .function
  X : K.In h₀
  T : Top p loose mean mg mb h₀
  hd : A.depth + d < recursionLimit
  hu : A.units + 16 * d + 16 < cLine
  hh : A.handled = none

section
variable {prog : Program} {w : World} {A : Around} {s : Shared} {h₀ : Heap} {L : Addr} {m : Str → Option Value} {own rest : List (Addr × Obj)} {K : Frag}
  {p : Program} {loose : List Str} {mean : ExcName → Option Value} {mg mb : Str → Option Value} {d : Nat} {Q : Value → Shared → Prop} {E : Value → Shared → Prop}
  {name qual : Str} {params : Arguments} {body : List Stmt} {scope : Scope} {dV kV doc pm cdv ct oc : Value} {an od : Option Addr} {osl : Array (Option Value)} {f : Addr} {args : List Value} {kw : List (Str × Value)} {binds : List (Str × Value)}

theorem At.less {d d' : Nat} (C : At K p loose mean mg mb A h₀ L d) (h : d' ≤ d) : At K p loose mean mg mb A h₀ L d' :=
  ⟨C.ex, C.X, C.T, by have := C.hd; omega, by have := C.hu; omega, C.hh⟩

theorem call_at (C : At K p loose mean mg mb A h₀ L (d + 1)) (F : Fr h₀ L s.heap m) (N : News h₀ L s.heap (own ++ rest)) (hsep : ∀ p ∈ own, ∀ q ∈ rest, p.1 ≠ q.1)
    (ho : K.lookup f = some ⟨oc, od, .func (fnOf name qual params body scope dV kV doc pm an cdv ct), osl⟩) (hcd : codeIn K cdv qual = true)
    (hbind : BindsTo s (fnOf name qual params body scope dV kV doc pm an cdv ct) ⟨args, kw⟩ binds) (hloc : ∀ y ∈ binds, scope.names.lookup y.1 = some .local)
    (h : ∀ g L' h₁, At K p loose mean mg mb (A.deeper (envOf qual scope L' f cdv)) g L' d → Fr g L' h₁ (fun y => binds.reverse.lookup y) → News g L' h₁ own → (∀ q ∈ rest, g.get? q.1 = some q.2) → h₀.StaysIn g → 
      wpAny (model prog w) (A.deeper (envOf qual scope L' f cdv)) (execs body (envOf qual scope L' f cdv))
        (fun fl s' => LeaveF h₀ L m g rest (fun r s' => match r with | .ok (.ret v) => Q v s' | .ok _ => False | .error e => E e s') (match fl with | .ret v => v | _ => .none) s')
        (fun e s' => wpAny (model prog w) (A.deeper (envOf qual scope L' f cdv)) (leaving (envOf qual scope L' f cdv) e) (fun _ s'' => E e s'') (fun e' s'' => E e' s'') s')
        { s with heap := h₁, toks := s.toks + binds.length })
    (hco : scope.isCoroutine = false) (hgen : scope.isGenerator = false) (hk : scope.kind = .function)
    (hcell : ∀ x ∈ scope.names, x.2 ≠ .cell) : wpAny (model prog w) A (call (.ref f) args kw) Q E s := by
  obtain ⟨⟨A₀, base, outer, env, B, hA, hf, hke⟩, X, T, hd, hu, hh⟩ := C
  have N' : News h₀ L s.heap own := fun q hq => N q (List.mem_append_left _ hq)
  refine wpAny_call ?_
  obtain ⟨FG, BG, st, lv⟩ := groundX (R := fun r s' => match r with | .ok (.ret v) => Q v s' | .ok _ => False | .error e => E e s') B F N' hA hf hke
  have hrest : ∀ q ∈ rest, (hideAll s.heap (own.map (·.1))).get? q.1 = some q.2 := fun q hq =>
    hideAll_get _ (N q (List.mem_append_right _ hq)).1 fun hm => by
      obtain ⟨p, hp, e⟩ := List.mem_map.mp hm
      exact hsep p hp q hq e
  refine codeAny_call_def (fd := fnOf name qual params body scope dV kV doc pm an cdv ct) (body := body) (binds := binds) (by omega) ((X.keeps F.keep) _ _ ho) rfl (T.nolimit.keeps F.keep) (codeRec_of (X.keeps F.keep) hcd) rfl hbind hcell hloc (fun h₁ hns hk₁ => ?_) hco hgen hk
  refine wpAny_mono (h (hideAll s.heap (own.map (·.1))) s.heap.objs.size h₁ ?_ ⟨hns, fun b o e => hk₁ b o (of_hideAll _ e), Nat.le_of_eq (hideAll_size _ _)⟩
    (fun p hp => ⟨hk₁ _ _ (N' p hp).1, Nat.ne_of_lt (Heap.lt_size (N' p hp).1), hideAll_none _ (List.mem_map_of_mem hp)⟩) hrest st) (fun fl s' hl => ?_) fun _ _ y => y
  · refine ⟨⟨A, base, env :: outer, envOf qual scope s.heap.objs.size f cdv, BG, ?_, rfl, hk⟩, X.keeps st, T.keeps st, ?_, ?_, hh⟩
    · show Option.map _ A.frames = _
      rw [hA]; rfl
    · show A.depth + 1 + d < _
      omega
    · show A.units + 3 + 16 * d + 16 < _
      omega
  · obtain ⟨L', m', own', F', N'', k⟩ := hl
    refine lv _ _ ⟨L', m', own', F', N'', fun kF kN => k kF (fun q hq => ?_) fun q hq r hr e => ?_⟩
    · rcases List.mem_append.mp hq with hq | hq
      · exact kN q hq
      · exact ⟨F'.keep _ _ (hrest q hq), (N q (List.mem_append_right _ hq)).2⟩
    · have h1 := (N'' q hq).2.2
      rw [e, hrest r hr] at h1
      cases h1
end
section
variable {prog : Program} {w : World} {A : Around} {E : Value → Shared → Prop} {s : Shared} {h₀ : Heap} {L : Addr} {m : Str → Option Value} {news news' : List (Addr × Obj)} {D : Addr} {vs : List Value} {n : Nat} {k : Int} {u : Tok} {v : Value}
theorem getElem?_getD {k : Nat} (h : k < vs.length) : vs[k]? = some (vs.getD k .none) := by
  simp [List.getD, List.getElem?_eq_getElem h]
theorem item_gen {value slice : Expr} {Q : Value → Shared → Prop} (N : News h₀ L s.heap news) (hm : (D, listOf vs.toArray n) ∈ news) (h0 : 0 ≤ k) (hk : k < vs.length) (hfit : vs.length < 2 ^ 62)
    (h : Q (vs.getD k.toNat .none) s)
    (hs : subscripted slice false (.ref D) (.int k u) = operate [.ref D, .int k u] (getItem (.ref D) (.int k u)) := by with_unfolding_all rfl) (hg : ∀ r, letTemporaryGo value (.ref D) r = pure () := by intro _; with_unfolding_all rfl) :
    wpAny (model prog w) A (subscriptTail value slice (.ref D) (.int k u)) Q E s :=
  kim_list (l := vs) (n := n) N hm rfl rfl h0 (by omega) (getElem?_getD (by omega)) h hs hg
theorem set_gen {Q : Unit → Shared → Prop} (F : Fr h₀ L s.heap m) (N : News h₀ L s.heap news) (U : Upd D (listOf vs.toArray n) (listOf (vs.set k.toNat v).toArray n) news news') (h0 : 0 ≤ k) (hk : k < vs.length) (hfit : vs.length < 2 ^ 62)
    (h : ∀ h', Fr h₀ L h' m → News h₀ L h' news' → Q () { s with heap := h' }) :
    wpAny (model prog w) A (setItem (.ref D) (.int k u) v) Q E s := by
  obtain ⟨pre, post, rfl, rfl, a, b⟩ := U.split
  have z := N (D, listOf vs.toArray n) (List.mem_append.mpr (.inr (.head _)))
  refine ki_setAt z.1 h0 (by omega) (by simp; omega) (h _ (F.change (Heap.SameBut.update ..) z.2.1 z.2.2) (ki_turn _ N a b ?_ ?_))
  · show vs.toArray.setIfInBounds k.toNat v = (vs.set k.toNat v).toArray
    apply Array.toList_inj.mp
    simp
  · simp
theorem len_gen {Q : Value → Shared → Prop} (N : News h₀ L s.heap news) (hm : (D, listOf vs.toArray n) ∈ news) (hfit : vs.length < 2 ^ 62)
    (h : Q (.int vs.length (s.toks + 1)) { s with toks := s.toks + 1 + 1 }) : wpAny (model prog w) A (call (.builtin "len") [.ref D]) Q E s :=
  len_list (items := vs.toArray) (PySem.IsL.isList (n := n) (N _ hm).1) (by simp; omega) (by simpa using h)
end

section
variable {prog : Program} {w : World} {A : Around} {E : Value → Shared → Prop} {s : Shared} {h₀ : Heap} {L : Addr} {m : Str → Option Value} {news news' : List (Addr × Obj)} {D : Addr} {vs ws : List Value} {n : Nat} {k : Int} {u : Tok} {v x y : Value}
theorem append_gen {Q : Value → Shared → Prop} (F : Fr h₀ L s.heap m) (N : News h₀ L s.heap news) (U : Upd D (listOf vs.toArray n) (listOf (vs ++ [x]).toArray (n + 1)) news news') (hfit : vs.length ≤ 2 ^ 20)
    (h : ∀ h', Fr h₀ L h' m → News h₀ L h' news' → Q .none { s with heap := h' }) : wpAny (model prog w) A (call (.builtin "list.append") [.ref D, x]) Q E s :=
  append_K (its := vs.toArray) F N (by simpa using U) h (by simp [sizeLine]; omega)
theorem pop_gen {Q : Value → Shared → Prop} (F : Fr h₀ L s.heap m) (N : News h₀ L s.heap news) (hv : vs = ws ++ [y]) (U : Upd D (listOf vs.toArray n) (listOf ws.toArray (n + 1)) news news') (hfit : vs.length ≤ 2 ^ 20)
    (h : ∀ h', Fr h₀ L h' m → News h₀ L h' news' → Q y { s with heap := h' }) : wpAny (model prog w) A (call (.builtin "list.pop") [.ref D]) Q E s :=
  kl_pop (its := vs.toArray) F N (by rw [hv]; exact kpa_last y ws) U (by simp [sizeLine]; omega) h
theorem truthy_gen {Q : Bool → Shared → Prop} (N : News h₀ L s.heap news) (hm : (D, listOf vs.toArray n) ∈ news) (hfit : vs.length < 2 ^ 62)
    (h : Q (decide (vs ≠ [])) { s with toks := s.toks + 1 + 1 }) : wpAny (model prog w) A (truthy (.ref D)) Q E s :=
  wpAny_truthy_list (items := vs.toArray) (PySem.IsL.isList (n := n) (N _ hm).1) (by simp; omega) (by
    have e : (!vs.toArray.isEmpty) = decide (vs ≠ []) := by cases vs <;> simp
    rw [e]; exact h)
theorem insert_gen {Q : Value → Shared → Prop} (F : Fr h₀ L s.heap m) (N : News h₀ L s.heap news) (h0 : 0 ≤ k) (hk : k ≤ vs.length) (U : Upd D (listOf vs.toArray n) (listOf (vs.take k.toNat ++ y :: vs.drop k.toNat).toArray (n + 1)) news news') (hfit : vs.length ≤ 2 ^ 20)
    (h : ∀ h', Fr h₀ L h' m → News h₀ L h' news' → Q .none { s with heap := h' }) : wpAny (model prog w) A (call (.builtin "list.insert") [.ref D, .int k u, y]) Q E s :=
  kl_insert (its := vs.toArray) F N (by simp [Builtin.List.listFitsIndex]; omega) (by
    show kl_ins vs k y = _
    unfold kl_ins
    rw [if_neg (by omega)]
    have e : min k.toNat vs.length = k.toNat := by omega
    rw [e]) U (by simp [sizeLine]; omega) h
end

section
variable {prog : Program} {w : World} {A : Around} {E : Value → Shared → Prop} {s : Shared} {h₀ : Heap} {L l : Addr} {m : Str → Option Value} {news : List (Addr × Obj)} {value slice : PySem.Expr} {its : Array Value} {zs : List Value} {vl vu : Value} {lo hi : Option Int} {Q : Value → Shared → Prop}
theorem slice_gen (F : Fr h₀ L s.heap m) (N : News h₀ L s.heap news) (hl : s.heap.IsList l its) (pl : IsPart vl lo) (pu : IsPart vu hi) (e : (slicePick its lo hi none).toList = zs)
    (h : ∀ D h', Fr h₀ L h' m → News h₀ L h' ((D, listOf zs.toArray 0) :: news) → (∀ p ∈ news, p.1 < D) → Q (.ref D) { s with heap := h' })
    (hs : subscripted slice false (.ref l) (.ref s.heap.objs.size) = operate [.ref s.heap.objs.size, .ref l] (getItem (.ref l) (.ref s.heap.objs.size))) (hz : its.size ≤ 2 ^ 20) :
    wpAny (model prog w) A (subscriptTail value slice (.ref l) (.ref s.heap.objs.size)) Q E { s with heap := s.heap.push { cls := .type "slice", data := .fields #[vl, vu, .none] } } := by
  refine tail_any (Heap.IsList.typeIs (s := { s with heap := s.heap.push { cls := .type "slice", data := .fields #[vl, vu, .none] } }) (hl.push _)) list_getitem_lookup
    (wpAny_getItem_list_slice (hl.push _) (Heap.IsSliceOf.new ..) pl pu .none (by simp) ?_ (by simp only [sizeLine]; omega)) hs
  have N1 := News.push (F.push { cls := .type "slice", data := .fields #[vl, vu, .none] }) (N.grown fun _ _ e => Heap.get?_push_of_some _ e) { cls := .type "list", data := .seq (slicePick its lo hi none) }
  rw [Heap.size_push] at N1
  have ez : slicePick its lo hi none = zs.toArray := by rw [← e]
  rw [ez] at N1
  have hq := h _ _ ((F.push _).push _) N1 (fun p hp => Nat.lt_succ_of_lt (Heap.lt_size (N p hp).1))
  rw [Heap.size_push, ez]
  exact hq
theorem pick_from (vs : List Value) (k : Nat) : (slicePick vs.toArray (some (k : Int)) none none).toList = vs.drop k := by rw [slicePick_from']
theorem pick_upto (vs : List Value) (k : Nat) : (slicePick vs.toArray none (some (k : Int)) none).toList = vs.take k := by rw [slicePick_upto']
theorem pick_last (vs : List Value) : (slicePick vs.toArray (some (-1)) none none).toList = vs.drop (vs.length - 1) := by
  have := slicePick_last vs.toArray 1 (Nat.le_refl _)
  rw [show (-((1 : Nat) : Int)) = -1 from rfl] at this
  rw [this]; simp
end

section
variable {prog : Program} {w : World} {A : Around} {E : Value → Shared → Prop} {s : Shared} {h₀ : Heap} {L D b : Addr} {m : Str → Option Value} {rest : List (Addr × Obj)} {vs us : List Value} {n n2 : Nat} {Q : Value → Shared → Prop}
end
def Cmp (prog : Program) (w : World) (g : Heap) (S : Value → Prop) (lt : Value → Value → Bool) : Prop :=
  ∀ x y, S x → S y → ∀ (A : Around) (s : Shared) (Q : Value → Shared → Prop) (E : Value → Shared → Prop), A.units + 8 < cLine → (∀ b o, g.get? b = some o → s.heap.get? b = some o) →
    (∀ tk, Q (.bool (lt x y)) { s with toks := tk }) → wpAny (model prog w) A (compareOp .Lt x y) Q E s

def sd (lt : Value → Value → Bool) (start : Nat) (x : Value) (pos : Nat) (vs : List Value) : List Value :=
  if h : start < pos then
    if lt x (vs.getD ((pos - 1) / 2) .none) then sd lt start x ((pos - 1) / 2) (vs.set pos (vs.getD ((pos - 1) / 2) .none)) else vs.set pos x
  else vs.set pos x
termination_by pos
decreasing_by omega

theorem kst_self {m : Str → Option Value} {ps : List (Str × Value)} (h : ∀ p ∈ ps, m p.1 = some p.2) : m = kstB m ps := funext fun _ => (kstB_eq h fun _ => rfl).symm
theorem shr_half {prog : Program} {w : World} {A : Around} {E : Value → Shared → Prop} {s : Shared} {Q : Value → Shared → Prop} {p : Nat} {t u : Tok} (hp : 0 < p) (h : Q (.int (((p - 1) / 2 : Nat) : Int) s.toks) { s with toks := s.toks + 1 }) :
    wpAny (model prog w) A (binaryOp .RShift (.int ((p : Int) - 1) t) (.int 1 u)) Q E s := by
  refine rshift_int (by decide) ?_
  have e : ((p : Int) - 1).fdiv (2 ^ Int.toNat 1) = (((p - 1) / 2 : Nat) : Int) := by
    have h2 : ((2 : Int) ^ Int.toNat 1) = 2 := by decide
    rw [h2, Int.fdiv_eq_ediv_of_nonneg _ (by decide)]
    omega
  rw [e]; exact h
theorem toNat_oa (k : Nat) : (1 + ((k : Nat) : Int)).toNat = 1 + k := by omega
theorem toNat_oas (k : Nat) : (1 + ((k : Nat) : Int) - 1).toNat = 1 + k - 1 := by omega
theorem toNat_succ (k : Nat) : (((k : Nat) : Int) + 1).toNat = k + 1 := by omega
theorem getD_mem {vs : List Value} {k : Nat} (h : k < vs.length) : vs.getD k .none ∈ vs := by
  simp [List.getD, List.getElem?_eq_getElem h]
theorem all_set {S : Value → Prop} {vs : List Value} {k : Nat} {x : Value} (h : ∀ v ∈ vs, S v) (hx : S x) : ∀ v ∈ vs.set k x, S v := fun v hv => by
  rcases List.mem_or_eq_of_mem_set hv with h1 | h1
  · exact h v h1
  · exact h1 ▸ hx
theorem Cmp.mono {prog : Program} {w : World} {g g' : Heap} {S : Value → Prop} {lt : Value → Value → Bool} (h : Cmp prog w g S lt) (hs : g.StaysIn g') : Cmp prog w g' S lt :=
  fun x y hx hy A s Q E hu hk hq => h x y hx hy A s Q E hu (fun b o e => hk b o (hs b o e)) hq

def su (lt : Value → Value → Bool) (pos : Nat) (vs : List Value) : Nat × List Value :=
  if h : 2 * pos + 1 < vs.length then
    if hr : 2 * pos + 1 + 1 < vs.length ∧ lt (vs.getD (2 * pos + 1) .none) (vs.getD (2 * pos + 1 + 1) .none) = false then
      su lt (2 * pos + 1 + 1) (vs.set pos (vs.getD (2 * pos + 1 + 1) .none))
    else su lt (2 * pos + 1) (vs.set pos (vs.getD (2 * pos + 1) .none))
  else (pos, vs)
termination_by vs.length - pos
decreasing_by all_goals (simp only [List.length_set]; omega)

def sup (lt : Value → Value → Bool) (pos : Nat) (vs : List Value) : List Value :=
  sd lt pos (vs.getD pos .none) (su lt pos vs).1 ((su lt pos vs).2.set (su lt pos vs).1 (vs.getD pos .none))


theorem half_int {prog : Program} {w : World} {A : Around} {E : Value → Shared → Prop} {s : Shared} {Q : Value → Shared → Prop} {p q : Nat} {t u : Tok} (h : Q (.int (((p + q) / 2 : Nat) : Int) s.toks) { s with toks := s.toks + 1 }) :
    wpAny (model prog w) A (binaryOp .FloorDiv (.int ((p : Int) + (q : Int)) t) (.int 2 u)) Q E s := by
  refine floordiv_int (by decide) ?_
  have e : ((p : Int) + (q : Int)).fdiv 2 = (((p + q) / 2 : Nat) : Int) := by
    rw [Int.fdiv_eq_ediv_of_nonneg _ (by decide)]
    omega
  rw [e]; exact h
def bisR (lt : Value → Value → Bool) (x : Value) (vs : List Value) (lo hi : Nat) : Nat :=
  if h : lo < hi then
    if lt x (vs.getD ((lo + hi) / 2) .none) then bisR lt x vs lo ((lo + hi) / 2) else bisR lt x vs ((lo + hi) / 2 + 1) hi
  else lo
termination_by hi - lo
decreasing_by all_goals omega
def insAt (vs : List Value) (k : Nat) (x : Value) : List Value := vs.take k ++ x :: vs.drop k
theorem insAt_length {vs : List Value} {k : Nat} {x : Value} (h : k ≤ vs.length) : (insAt vs k x).length = vs.length + 1 := by
  simp [insAt]; omega
theorem wp_cut {α : Type} {M : Model} {A : Around} {t : Sem α} {Q : α → Shared → Prop} {E : Value → Shared → Prop} {s : Shared} (P : α → Shared → Prop) (h : wpAny M A t P E s) (k : ∀ a s', P a s' → Q a s') : wpAny M A t Q E s := wpAny_mono h k fun _ _ x => x
def ival : Value → Int
  | .int i _ => i
  | _ => 0
inductive IsInt (v : Value) : Prop
  | mk (i : Int) (t : Tok) (h : v = .int i t) : IsInt v
def ltI (x y : Value) : Bool := decide (ival x < ival y)
theorem cmp_ints (prog : Program) (w : World) (g : Heap) : Cmp prog w g IsInt ltI := by
  rintro x y ⟨i, t, rfl⟩ ⟨j, u, rfl⟩ A s Q E _ _ hq
  exact lt_int (hq s.toks)
theorem isInt_of {vs : List Value} {ns : List Int} (h : IntsAre vs ns) : ∀ v ∈ vs, IsInt v := by
  induction h with
  | nil => intro v hv; cases hv
  | cons i t _ ih =>
    intro v hv
    rcases List.mem_cons.mp hv with rfl | hv
    · exact ⟨i, t, rfl⟩
    · exact ih v hv
theorem ival_of {vs : List Value} {ns : List Int} (h : IntsAre vs ns) : vs.map ival = ns := by
  induction h with
  | nil => rfl
  | cons i t _ ih => rw [List.map_cons, ih]; rfl
theorem intsAre_of {vs : List Value} (h : ∀ v ∈ vs, IsInt v) : IntsAre vs (vs.map ival) := by
  induction vs with
  | nil => exact .nil
  | cons x r ih =>
    obtain ⟨i, t, rfl⟩ := h _ (.head _)
    exact .cons i t (ih fun v hv => h v (.tail _ hv))

def IsNext (f : Flow) : Prop := f = .next
theorem fr_kst {h₀ h : Heap} {L : Addr} {m : Str → Option Value} {ps : List (Str × Value)} (F : Fr h₀ L h m) (hp : ∀ p ∈ ps, m p.1 = some p.2) : Fr h₀ L h (kstB m ps) := by
  rw [← kst_self hp]; exact F

theorem at_law {K : Frag} {p : Program} {loose : List Str} {mean : ExcName → Option Value} {mg mb : Str → Option Value} {h₀ : Heap} {L : Addr} (B : Below callerA h₀ [] h₀) (X : K.In h₀) (T : Top p loose mean mg mb h₀) (env : Env)
    (hf : env.frame = some L) (hk : env.scope.kind = .function) : At K p loose mean mg mb (callerA.deeper env) h₀ L 20 :=
  ⟨⟨callerA, h₀, [], env, B, rfl, hf, hk⟩, X, T, by show callerA.depth + 1 + 20 < _; decide, by show callerA.units + 3 + 16 * 20 + 16 < _; decide, rfl⟩

def hpush (lt : Value → Value → Bool) (vs : List Value) (x : Value) : List Value := sd lt 0 x vs.length (vs ++ [x])
def hpop (lt : Value → Value → Bool) (ws : List Value) (y : Value) : Value × List Value := if ws = [] then (y, []) else (ws.getD 0 .none, sup lt 0 (ws.set 0 y))
theorem law_units (env : Env) : (callerA.deeper env).units + 64 < cLine := by show callerA.units + 3 + 64 < _; decide
theorem drop_hd {h₀ h : Heap} {L : Addr} {a : Addr × Obj} {own : List (Addr × Obj)} (N : News h₀ L h (a :: own)) : News h₀ L h own := fun p hp => N p (.tail _ hp)

theorem rep_flat {α : Type} (v : α) : ∀ k : Nat, (List.replicate k [v]).flatten = List.replicate k v
  | 0 => rfl
  | k + 1 => by rw [List.replicate_succ, List.flatten_cons, rep_flat v k]; rfl
theorem ints_append {vs us : List Value} {ns ms : List Int} (h : IntsAre vs ns) (h' : IntsAre us ms) : IntsAre (vs ++ us) (ns ++ ms) := by
  induction h with
  | nil => exact h'
  | cons i t _ ih => exact .cons i t ih

def hrep (lt : Value → Value → Bool) (vs : List Value) (x : Value) : Value × List Value := (vs.getD 0 .none, sup lt 0 (vs.set 0 x))
def hfyFrom (lt : Value → Value → Bool) : Nat → List Value → List Value
  | 0, vs => vs
  | k + 1, vs => hfyFrom lt k (sup lt k vs)
def hfy (lt : Value → Value → Bool) (vs : List Value) : List Value := hfyFrom lt (vs.length / 2) vs
theorem half1_int {prog : Program} {w : World} {A : Around} {E : Value → Shared → Prop} {s : Shared} {Q : Value → Shared → Prop} {p : Nat} {t u : Tok} (h : Q (.int ((p / 2 : Nat) : Int) s.toks) { s with toks := s.toks + 1 }) :
    wpAny (model prog w) A (binaryOp .FloorDiv (.int (p : Int) t) (.int 2 u)) Q E s := by
  refine floordiv_int (by decide) ?_
  have e : ((p : Int)).fdiv 2 = ((p / 2 : Nat) : Int) := by
    rw [Int.fdiv_eq_ediv_of_nonneg _ (by decide)]
    omega
  rw [e]; exact h
theorem sub1_half {prog : Program} {w : World} {A : Around} {E : Value → Shared → Prop} {s : Shared} {Q : Value → Shared → Prop} {p : Nat} {t u : Tok} (hp : 0 < p) (h : Q (.int (((p - 1) / 2 : Nat) : Int) s.toks) { s with toks := s.toks + 1 }) :
    wpAny (model prog w) A (binaryOp .FloorDiv (.int ((p : Int) - 1) t) (.int 2 u)) Q E s := by
  refine floordiv_int (by decide) ?_
  have e : ((p : Int) - 1).fdiv 2 = (((p - 1) / 2 : Nat) : Int) := by
    rw [Int.fdiv_eq_ediv_of_nonneg _ (by decide)]
    omega
  rw [e]; exact h
def LoopEnd (h₀ : Heap) (L : Addr) (s : Shared) (own : List (Addr × Obj)) (Jn : (Str → Option Value) → List (Addr × Obj) → Prop) (Q : Flow → Shared → Prop) (f : Flow) (s' : Shared) : Prop :=
  match f with
  | .ret v => Q (.ret v) s'
  | .brk => Q .next s'
  | _ => ∃ h' tk m' var', s' = { s with heap := h', toks := tk } ∧ Fr h₀ L h' m' ∧ News h₀ L h' (var' ++ own) ∧ (∀ p ∈ own, ∀ q ∈ var', p.1 ≠ q.1) ∧ Jn m' var'
section
variable {prog : Program} {w : World} {A : Around} {E : Value → Shared → Prop} {s s₂ : Shared} {env : Env} {h₀ : Heap} {x : Str} {body : List Stmt} {Q : Flow → Shared → Prop} {m : Str → Option Value} {kept news : List (Addr × Obj)}
theorem loop_walks {I : Addr} {fp wr : List Addr} {n : Nat} {P : Nat → Value → Prop} {St : Nat → Heap → Prop} (W : Walks prog w A I fp wr n P St) (hLf : env.locals ∉ fp) (hwr : ∀ b ∈ wr, h₀.get? b = none) (hst : St 0 s₂.heap)
    (hlive : ∀ i h, St i h → ∀ b ∈ fp, ∃ o, h.get? b = some o) (F : Fr h₀ env.locals s₂.heap m) (N : News h₀ env.locals s₂.heap (news ++ kept)) (hsep : ∀ p ∈ kept, ∀ q ∈ news, p.1 ≠ q.1) (hnf : ∀ q ∈ news, q.1 ∉ fp) (hkw : ∀ p ∈ kept, p.1 ∉ wr)
    (J : Nat → (Str → Option Value) → List (Addr × Obj) → Prop) (hJ : J 0 m news)
    (turn : ∀ i v m₁ var h tk own, i < n → P i v → J i m₁ var → (∀ p ∈ kept, p ∈ own) → (∀ p ∈ own, ∀ q ∈ var, p.1 ≠ q.1) → Fr h₀ env.locals h (fun y => if y = x then some v else m₁ y) → News h₀ env.locals h (var ++ own) →
      wpAny (model prog w) A (execs body env) (LoopEnd h₀ env.locals s₂ own (J (i + 1)) Q) E { s₂ with heap := h, toks := tk })
    (done : ∀ m₁ var h tk, J n m₁ var → (∀ p ∈ kept, ∀ q ∈ var, p.1 ≠ q.1) → Fr h₀ env.locals h m₁ → News h₀ env.locals h (var ++ kept) → Q .next { s₂ with heap := h, toks := tk }) :
    LoopAtV prog w A h₀ env x body Q E (.ref I) s₂ := by
  refine ⟨I, fp, wr, n, P, St, m, news ++ kept, fun i m₁ ns => ∃ var, ns = var ++ kept ∧ J i m₁ var ∧ (∀ q ∈ var, q.1 ∉ fp) ∧ (∀ p ∈ kept, ∀ q ∈ var, p.1 ≠ q.1), rfl, W, hLf, hwr, ?_, hst, F, N, ⟨news, rfl, hJ, hnf, hsep⟩, ?_, ?_⟩
  · intro p hp
    rcases List.mem_append.mp hp with hp | hp
    · exact fun hb => hnf p hp (W.sub _ hb)
    · exact hkw p hp
  · rintro i v m₁ ns s₁ own ⟨h, tk, rfl⟩ hi hP ⟨var, rfl, hJ₁, hvf, hkv⟩ hnw hown hownh hmem hSt F₁ N₁
    refine wpAny_mono (turn i v m₁ var h tk (own ++ kept) hi hP hJ₁ (fun p hp => List.mem_append_right _ hp) (fun p hp q hq => ?_) F₁ (fun p hp => N₁ p ?_)) (fun f s' hf => ?_) fun _ _ e => e
    · rcases List.mem_append.mp hp with hp | hp
      · exact fun e => hvf q hq (e ▸ hown p hp)
      · exact hkv p hp q hq
    · rcases List.mem_append.mp hp with hp | hp
      · exact List.mem_append_right _ (List.mem_append_left _ hp)
      · rcases List.mem_append.mp hp with hp | hp
        · exact List.mem_append_left _ hp
        · exact List.mem_append_right _ (List.mem_append_right _ hp)
    · have fin : (∃ h' tk' m' var', s' = { s₂ with heap := h', toks := tk' } ∧ Fr h₀ env.locals h' m' ∧ News h₀ env.locals h' (var' ++ (own ++ kept)) ∧ (∀ p ∈ own ++ kept, ∀ q ∈ var', p.1 ≠ q.1) ∧ J (i + 1) m' var') →
          LoopStepU h₀ env.locals wr own (fun m₁ ns => ∃ var, ns = var ++ kept ∧ J (i + 1) m₁ var ∧ (∀ q ∈ var, q.1 ∉ fp) ∧ (∀ p ∈ kept, ∀ q ∈ var, p.1 ≠ q.1)) { s₂ with heap := h, toks := tk } .next s' := by
        rintro ⟨h', tk', m', var', rfl, F', N', hs', hJ'⟩
        have hvf' : ∀ q ∈ var', q.1 ∉ fp := fun q hq hb => by
          obtain ⟨o, ho⟩ := hlive _ _ hSt q.1 hb
          exact hs' _ (List.mem_append_left _ (hmem _ hb (N' q (List.mem_append_left _ hq)).2.2 o ho)) q hq rfl
        refine ⟨rfl, h', tk', m', var' ++ kept, rfl, F', fun p hp => N' p ?_, fun p hp => ?_, var', rfl, hJ', hvf', fun p hp q hq => hs' p (List.mem_append_right _ hp) q hq⟩
        · rcases List.mem_append.mp hp with hp | hp
          · exact List.mem_append_right _ (List.mem_append_left _ hp)
          · rcases List.mem_append.mp hp with hp | hp
            · exact List.mem_append_left _ hp
            · exact List.mem_append_right _ (List.mem_append_right _ hp)
        · rcases List.mem_append.mp hp with hp | hp
          · exact fun hb => hvf' p hp (W.sub _ hb)
          · exact hkw p hp
      cases f with
      | ret v => exact .ret hf
      | brk => exact .brk hf
      | next => exact .next (fin hf)
      | cont => exact .cont (fin hf)
  · rintro h' tk m' ns F' N' hw ⟨var, rfl, hJ', hvf, hkv⟩
    exact done m' var h' tk hJ' hkv F' N'

theorem iter_list {l : Addr} {vs : List Value} (hh : A.handled = none) (hl : s.heap.IsList l vs.toArray) (hlL : l ≠ env.locals) (F : Fr h₀ env.locals s.heap m) (N : News h₀ env.locals s.heap (news ++ kept)) (hsep : ∀ p ∈ kept, ∀ q ∈ news, p.1 ≠ q.1) (hnl : ∀ q ∈ news, q.1 ≠ l)
    (J : Nat → (Str → Option Value) → List (Addr × Obj) → Prop) (hJ : J 0 m news)
    (turn : ∀ i v m₁ var h tk own, vs[i]? = some v → J i m₁ var → (∀ p ∈ kept, p ∈ own) → (∀ p ∈ own, ∀ q ∈ var, p.1 ≠ q.1) → Fr h₀ env.locals h (fun y => if y = x then some v else m₁ y) → News h₀ env.locals h (var ++ own) →
      wpAny (model prog w) A (execs body env) (LoopEnd h₀ env.locals s own (J (i + 1)) Q) E { s with heap := h, toks := tk })
    (done : ∀ m₁ var h tk, J vs.length m₁ var → (∀ p ∈ kept, ∀ q ∈ var, p.1 ≠ q.1) → Fr h₀ env.locals h m₁ → News h₀ env.locals h (var ++ kept) → Q .next { s with heap := h, toks := tk }) :
    wpAny (model prog w) A (pyIter (.ref l)) (fun it s₂ => LoopAtV prog w A h₀ env x body Q E it s₂) E s := by
  obtain ⟨ol, hol, hol2⟩ := id hl
  have hne : l ≠ s.heap.objs.size := Nat.ne_of_lt (Heap.lt_size hol)
  refine wpAny_pyIter_list hl ?_
  have W := Walks.list (prog := prog) (w := w) hh s.heap.objs.size l hne vs.toArray
  refine loop_walks (kept := kept) (news := news) (m := m) W ?_ ?_ ⟨⟨_, Heap.get?_push_size _ rfl, rfl, rfl⟩, hl.at fun o e => Heap.get?_push_of_some _ e⟩ ?_ (F.push _) (fun p hp => ⟨Heap.get?_push_of_some _ (N p hp).1, (N p hp).2⟩) hsep ?_ ?_ J hJ ?_ ?_
  · intro hm
    rcases List.mem_cons.mp hm with e | hm
    · exact absurd F.ns.lt (e ▸ Nat.lt_irrefl _)
    · exact hlL (List.mem_singleton.mp hm).symm
  · intro b hb
    rw [List.mem_singleton.mp hb]
    exact next_is_new F
  · rintro i h ⟨⟨o, ho, _⟩, o', ho', _⟩ b hb
    rcases List.mem_cons.mp hb with rfl | hb
    · exact ⟨o, ho⟩
    · exact (List.mem_singleton.mp hb) ▸ ⟨o', ho'⟩
  · intro q hq hb
    rcases List.mem_cons.mp hb with e | hb
    · exact absurd (Heap.lt_size (N q (List.mem_append_left _ hq)).1) (e ▸ Nat.lt_irrefl _)
    · exact hnl q hq (List.mem_singleton.mp hb)
  · intro p hp hb
    exact absurd (Heap.lt_size (N p (List.mem_append_right _ hp)).1) ((List.mem_singleton.mp hb) ▸ Nat.lt_irrefl _)
  · intro i v m₁ var h tk own hi hP hJ' h1 h2 F' N'
    exact turn i v m₁ var h tk own (by simpa using hP) hJ' h1 h2 F' N'
  · intro m₁ var h tk hJ' h1 F' N'
    exact done m₁ var h tk (by simpa using hJ') h1 F' N'

theorem iter_range {r : Addr} {a b c : Int} {t u v : Tok} {n : Nat} (hh : A.handled = none) (hr : IsRange s.heap r a b c t u v) (hsmall : Builtin.Range.small a b c = true) (hn : Builtin.Range.rangeSize a b c = n)
    (F : Fr h₀ env.locals s.heap m) (N : News h₀ env.locals s.heap (news ++ kept)) (hsep : ∀ p ∈ kept, ∀ q ∈ news, p.1 ≠ q.1)
    (J : Nat → (Str → Option Value) → List (Addr × Obj) → Prop) (hJ : J 0 m news)
    (turn : ∀ i t m₁ var h tk own, i < n → J i m₁ var → (∀ p ∈ kept, p ∈ own) → (∀ p ∈ own, ∀ q ∈ var, p.1 ≠ q.1) → Fr h₀ env.locals h (fun y => if y = x then some (.int (a + (i : Int) * c) t) else m₁ y) → News h₀ env.locals h (var ++ own) →
      wpAny (model prog w) A (execs body env) (LoopEnd h₀ env.locals s own (J (i + 1)) Q) E { s with heap := h, toks := tk })
    (done : ∀ m₁ var h tk, J n m₁ var → (∀ p ∈ kept, ∀ q ∈ var, p.1 ≠ q.1) → Fr h₀ env.locals h m₁ → News h₀ env.locals h (var ++ kept) → Q .next { s with heap := h, toks := tk }) :
    wpAny (model prog w) A (pyIter (.ref r)) (fun it s₂ => LoopAtV prog w A h₀ env x body Q E it s₂) E s := by
  refine wpAny_pyIter_range hr hsmall ?_
  have W := Walks.range (prog := prog) (w := w) hh s.heap.objs.size a c n
  refine loop_walks (kept := kept) (news := news) (m := m) W ?_ ?_ ?_ ?_ (F.push _) (fun p hp => ⟨Heap.get?_push_of_some _ (N p hp).1, (N p hp).2⟩) hsep ?_ ?_ J hJ ?_ ?_
  · intro hm
    exact absurd F.ns.lt ((List.mem_singleton.mp hm) ▸ Nat.lt_irrefl _)
  · intro b hb
    rw [List.mem_singleton.mp hb]
    exact next_is_new F
  · have e : a + ((0 : Nat) : Int) * c = a := by simp
    have e2 : (n : Int) - ((0 : Nat) : Int) = n := by simp
    show IsRangeIter (s.heap.push _) s.heap.objs.size (a + ((0 : Nat) : Int) * c) ((n : Int) - ((0 : Nat) : Int)) c
    rw [e, e2, ← hn]
    exact Heap.get?_push_size _ rfl
  · intro i h hst b hb
    exact (List.mem_singleton.mp hb) ▸ ⟨_, hst⟩
  · intro q hq hb
    exact absurd (Heap.lt_size (N q (List.mem_append_left _ hq)).1) ((List.mem_singleton.mp hb) ▸ Nat.lt_irrefl _)
  · intro p hp hb
    exact absurd (Heap.lt_size (N p (List.mem_append_right _ hp)).1) ((List.mem_singleton.mp hb) ▸ Nat.lt_irrefl _)
  · rintro i v m₁ var h tk own hi ⟨t', rfl⟩ hJ' h1 h2 F' N'
    exact turn i t' m₁ var h tk own hi hJ' h1 h2 F' N'
  · intro m₁ var h tk hJ' h1 F' N'
    exact done m₁ var h tk hJ' h1 F' N'

theorem iter_range_up {r : Addr} {a b : Int} {t u v : Tok} (n : Nat) (hh : A.handled = none) (hr : IsRange s.heap r a b 1 t u v) (ha : -1000000 ≤ a) (ha' : a < 1000000) (hb : -1000000 ≤ b) (hb' : b < 1000000) (hn : n = (b - a).toNat)
    (F : Fr h₀ env.locals s.heap m) (N : News h₀ env.locals s.heap (news ++ kept)) (hsep : ∀ p ∈ kept, ∀ q ∈ news, p.1 ≠ q.1)
    (J : Nat → (Str → Option Value) → List (Addr × Obj) → Prop) (hJ : J 0 m news)
    (turn : ∀ i t m₁ var h tk own, i < n → J i m₁ var → (∀ p ∈ kept, p ∈ own) → (∀ p ∈ own, ∀ q ∈ var, p.1 ≠ q.1) → Fr h₀ env.locals h (fun y => if y = x then some (.int (a + (i : Int)) t) else m₁ y) → News h₀ env.locals h (var ++ own) →
      wpAny (model prog w) A (execs body env) (LoopEnd h₀ env.locals s own (J (i + 1)) Q) E { s with heap := h, toks := tk })
    (done : ∀ m₁ var h tk, J n m₁ var → (∀ p ∈ kept, ∀ q ∈ var, p.1 ≠ q.1) → Fr h₀ env.locals h m₁ → News h₀ env.locals h (var ++ kept) → Q .next { s with heap := h, toks := tk }) :
    wpAny (model prog w) A (pyIter (.ref r)) (fun it s₂ => LoopAtV prog w A h₀ env x body Q E it s₂) E s := by
  refine iter_range (n := n) hh hr (small_one (by omega) (by omega) (by omega) (by omega)) (by rw [hn]; exact rangeSize_nat a b) F N hsep J hJ ?_ done
  intro i t m₁ var h tk own hi hj h1 h2 F' N'
  rw [Int.mul_one] at F'
  exact turn i t m₁ var h tk own hi hj h1 h2 F' N'
end

section
variable {prog : Program} {w : World} {A : Around} {h₀ : Heap} {L : Addr} {m : Str → Option Value} {env : Env} {elt : Expr} {x : Str} {scope : Scope} {cl : List (Str × Addr)} {s : Shared} {S : List (Addr × Obj) → Prop} {P : Nat → Value → Prop} {Fin : List Value → List (Addr × Obj) → Prop}
theorem comp_rest {n : Nat} {news₀ : List (Addr × Obj)} (J : Nat → List Value → List (Addr × Obj) → Prop) (hJ : J 0 [] news₀)
    (turn : ∀ i v I oI C oC D m₂ ys news h tk (E' : Value → Shared → Prop), i < n → P i v → J i ys news → LCg.NsObj oC m₂ → m₂ x = some v → Fr h₀ L h m → News h₀ L h ((I, oI) :: (C, oC) :: (D, LCg.lst ys) :: news) → LCg.Off3 I C D news → ((@Ne Nat I C) ∧ (@Ne Nat I D) ∧ (@Ne Nat C D)) →
      wpAny (model prog w) A (eval elt (compEnvC scope cl C env)) (LCg.CompEnd h₀ L m { s with heap := h, toks := tk } I oI C oC D (LCg.lst ys) S (fun y news' => J (i + 1) (ys ++ [y]) news')) E' { s with heap := h, toks := tk })
    (fin : ∀ ys news, J n ys news → Fin ys news) : LCg.CompRest prog w A h₀ L m env elt x scope cl s S P Fin n 0 [] news₀ := by
  have key : ∀ (j i : Nat) (ys : List Value) (news : List (Addr × Obj)), i + j = n → J i ys news → LCg.CompRest prog w A h₀ L m env elt x scope cl s S P Fin j i ys news := by
    intro j
    induction j with
    | zero =>
      intro i ys news hi hj
      obtain rfl : i = n := by omega
      exact LCg.CompRest.zero (fin ys news hj)
    | succ j ih =>
      intro i ys news hi hj
      refine LCg.CompRest.succ ?_
      intro v I oI C oC D m₂ h tk E' hv hC hx F N off ne
      refine wpAny_mono (turn i v I oI C oC D m₂ ys news h tk E' (by omega) hv hj hC hx F N off ne) (fun y s₂ hq => ?_) fun _ _ e => e
      obtain ⟨h', tk', nw, e, F', N', off', hS, hn⟩ := hq
      exact ⟨h', tk', nw, e, F', N', off', hS, ih (i + 1) _ _ (by omega) hn⟩
  exact key n 0 [] news₀ (by omega) hJ
end
theorem getD_set {vs : List Value} {i j : Nat} {x d : Value} (h : j < vs.length) : (vs.set j x).getD i d = if i = j then x else vs.getD i d := by
  simp only [List.getD, List.getElem?_set]
  by_cases e : i = j
  · subst e; simp [h]
  · have e' : ¬ j = i := fun q => e q.symm
    simp [e, e']
theorem set_swap {vs : List Value} {i j : Nat} {x : Value} (hi : i < vs.length) (hj : j < vs.length) (h : j ≠ i) : ((vs.set i (vs.getD j .none)).set j x).Perm (vs.set i x) := by
  have hp := List.set_set_perm (as := vs.set i x) (i := i) (j := j) (by simpa using hi) (by simpa using hj)
  have e1 : (vs.set i x)[j]'(by simpa using hj) = vs.getD j .none := by
    rw [List.getElem_set_ne (by omega)]; simp [List.getD, hj]
  have e2 : (vs.set i x)[i]'(by simpa using hi) = x := by simp
  rw [e1, e2, List.set_set] at hp
  exact hp
theorem sd_perm {lt : Value → Value → Bool} {start : Nat} {x : Value} : ∀ (pos : Nat) (vs : List Value), pos < vs.length → (sd lt start x pos vs).Perm (vs.set pos x) := by
  intro pos
  induction pos using Nat.strongRecOn with
  | _ pos ih =>
    intro vs h
    rw [sd]
    split
    · split
      · refine (ih _ (by omega) _ (by simp only [List.length_set]; omega)).trans ?_
        exact set_swap h (by omega) (by omega)
      · exact .refl _
    · exact .refl _
theorem su_len {lt : Value → Value → Bool} : ∀ (k pos : Nat) (vs : List Value), vs.length - pos = k → pos < vs.length → (su lt pos vs).2.length = vs.length ∧ (su lt pos vs).1 < vs.length := by
  intro k
  induction k using Nat.strongRecOn with
  | _ k ih =>
    intro pos vs hk h
    rw [su]
    split
    · split
      · have := ih _ (by simp only [List.length_set]; omega) (2 * pos + 1 + 1) (vs.set pos (vs.getD (2 * pos + 1 + 1) .none)) rfl (by simp only [List.length_set]; omega)
        simpa only [List.length_set] using this
      · have := ih _ (by simp only [List.length_set]; omega) (2 * pos + 1) (vs.set pos (vs.getD (2 * pos + 1) .none)) rfl (by simp only [List.length_set]; omega)
        simpa only [List.length_set] using this
    · exact ⟨rfl, h⟩
theorem su_perm {lt : Value → Value → Bool} {x : Value} : ∀ (k pos : Nat) (vs : List Value), vs.length - pos = k → pos < vs.length → ((su lt pos vs).2.set (su lt pos vs).1 x).Perm (vs.set pos x) := by
  intro k
  induction k using Nat.strongRecOn with
  | _ k ih =>
    intro pos vs hk h
    rw [su]
    split
    · split
      · refine (ih _ (by simp only [List.length_set]; omega) (2 * pos + 1 + 1) (vs.set pos (vs.getD (2 * pos + 1 + 1) .none)) rfl (by simp only [List.length_set]; omega)).trans ?_
        exact set_swap h (by omega) (by omega)
      · refine (ih _ (by simp only [List.length_set]; omega) (2 * pos + 1) (vs.set pos (vs.getD (2 * pos + 1) .none)) rfl (by simp only [List.length_set]; omega)).trans ?_
        exact set_swap h (by omega) (by omega)
    · exact .refl _
theorem set_self {vs : List Value} {i : Nat} (h : i < vs.length) : vs.set i (vs.getD i .none) = vs := by
  apply List.ext_getElem?
  intro j
  rw [List.getElem?_set]
  by_cases e : i = j
  · subst e; simp [h, List.getD]
  · simp [e]
theorem sup_perm {lt : Value → Value → Bool} {pos : Nat} {vs : List Value} (h : pos < vs.length) : (sup lt pos vs).Perm vs := by
  obtain ⟨h1, h2⟩ := su_len (lt := lt) _ pos vs rfl h
  refine (sd_perm _ _ (by simp only [List.length_set]; omega)).trans ?_
  rw [List.set_set]
  refine (su_perm _ pos vs rfl h).trans ?_
  rw [set_self h]
theorem hpush_perm {lt : Value → Value → Bool} {vs : List Value} {x : Value} : (hpush lt vs x).Perm (x :: vs) := by
  refine (sd_perm _ _ (by simp)).trans ?_
  have e : (vs ++ [x]).set vs.length x = vs ++ [x] := by
    rw [List.set_append_right _ _ (Nat.le_refl _)]; simp
  rw [e]
  exact List.perm_append_comm
theorem set_perm_cons {vs : List Value} {x : Value} (h : 0 < vs.length) : (vs.getD 0 .none :: vs.set 0 x).Perm (x :: vs) := by
  cases vs with
  | nil => simp at h
  | cons y r => simp only [List.getD_cons_zero, List.set_cons_zero]; exact List.Perm.swap _ _ _
theorem hpop_perm {lt : Value → Value → Bool} {ws : List Value} {y : Value} : ((hpop lt ws y).1 :: (hpop lt ws y).2).Perm (ws ++ [y]) := by
  rw [hpop]
  split
  · rename_i h; subst h; exact .refl _
  · rename_i h
    have hl := List.length_pos_iff.mpr h
    exact (((sup_perm (by simpa using hl)).cons _).trans (set_perm_cons hl)).trans (List.perm_append_comm (l₁ := [y]) (l₂ := ws))

structure WO (lt : Value → Value → Bool) : Prop where
  asym : ∀ x y, lt x y = true → lt y x = false
  ntr : ∀ x y z, lt x y = false → lt y z = false → lt x z = false
theorem WO.irr {lt : Value → Value → Bool} (o : WO lt) (x : Value) : lt x x = false := by
  cases h : lt x x with
  | false => rfl
  | true => have := o.asym x x h; rw [h] at this; cases this
theorem wo_int : WO ltI := ⟨fun x y h => by simp only [ltI, decide_eq_true_eq, decide_eq_false_iff_not] at *; omega, fun x y z h1 h2 => by simp only [ltI, decide_eq_false_iff_not] at *; omega⟩

def HeapAt (lt : Value → Value → Bool) (s : Nat) (vs : List Value) : Prop := ∀ i, 0 < i → i < vs.length → s ≤ (i - 1) / 2 → lt (vs.getD i .none) (vs.getD ((i - 1) / 2) .none) = false
inductive Desc (s : Nat) : Nat → Prop
  | refl : Desc s s
  | left {p : Nat} : Desc s p → Desc s (2 * p + 1)
  | right {p : Nat} : Desc s p → Desc s (2 * p + 1 + 1)
theorem Desc.le {s p : Nat} (h : Desc s p) : s ≤ p := by
  induction h with
  | refl => exact Nat.le_refl _
  | left _ ih => omega
  | right _ ih => omega
theorem Desc.up {s p : Nat} (h : Desc s p) (hn : s < p) : Desc s ((p - 1) / 2) := by
  cases h with
  | refl => omega
  | left h => rename_i p; have e : (2 * p + 1 - 1) / 2 = p := by omega
              rw [e]; exact h
  | right h => rename_i p; have e : (2 * p + 1 + 1 - 1) / 2 = p := by omega
               rw [e]; exact h
theorem desc_zero : ∀ p, Desc 0 p := by
  intro p
  induction p using Nat.strongRecOn with
  | _ p ih =>
    match p, ih with
    | 0, _ => exact .refl
    | p + 1, ih =>
      have h := ih (p / 2) (by omega)
      rcases Nat.mod_two_eq_zero_or_one p with e | e
      · have e2 : p + 1 = 2 * (p / 2) + 1 := by omega
        rw [e2]; exact .left h
      · have e2 : p + 1 = 2 * (p / 2) + 1 + 1 := by omega
        rw [e2]; exact .right h

theorem sd_heap {lt : Value → Value → Bool} (o : WO lt) {s : Nat} {x : Value} : ∀ (p : Nat) (ws : List Value), p < ws.length → Desc s p →
    (∀ i, 0 < i → i < ws.length → s ≤ (i - 1) / 2 → i ≠ p → lt ((ws.set p x).getD i .none) ((ws.set p x).getD ((i - 1) / 2) .none) = false) →
    (s < p → ∀ i, 0 < i → i < ws.length → (i - 1) / 2 = p → lt (ws.getD i .none) (ws.getD ((p - 1) / 2) .none) = false) →
    HeapAt lt s (sd lt s x p ws) := by
  intro p
  induction p using Nat.strongRecOn with
  | _ p ih =>
    intro ws hp hd ha hb
    rw [sd]
    split
    · rename_i hs
      have hup := hd.up hs
      have hupl := hup.le
      split
      · rename_i hlt
        have hpp : (p - 1) / 2 < p := by omega
        refine ih _ hpp _ (by simp only [List.length_set]; omega) hup ?_ ?_
        · intro i h0 hi hsi hne
          rw [List.length_set] at hi
          have e : ∀ k, ((ws.set p (ws.getD ((p - 1) / 2) .none)).set ((p - 1) / 2) x).getD k .none = if k = (p - 1) / 2 then x else if k = p then ws.getD ((p - 1) / 2) .none else ws.getD k .none := fun k => by
            rw [getD_set (by rw [List.length_set]; omega), getD_set hp]
          rw [e, e, if_neg hne]
          by_cases e1 : i = p
          · subst e1
            rw [if_pos rfl, if_pos rfl]
            exact o.asym _ _ hlt
          · rw [if_neg e1]
            have hA := ha i h0 hi hsi e1
            rw [getD_set hp, getD_set hp, if_neg e1] at hA
            by_cases e2 : (i - 1) / 2 = (p - 1) / 2
            · rw [if_pos e2]
              rw [if_neg (by omega), e2] at hA
              exact o.ntr _ _ _ hA (o.asym _ _ hlt)
            · rw [if_neg e2]
              by_cases e3 : (i - 1) / 2 = p
              · rw [if_pos e3]
                exact hb hs i h0 hi e3
              · rw [if_neg e3]
                rw [if_neg e3] at hA
                exact hA
        · intro hs2 i h0 hi hpi
          rw [List.length_set] at hi
          have hup2 := (hup.up hs2).le
          have hA := ha ((p - 1) / 2) (by omega) (by omega) hup2 (by omega)
          rw [getD_set hp, getD_set hp, if_neg (by omega), if_neg (by omega)] at hA
          rw [getD_set hp, getD_set hp]
          rw [if_neg (show ¬ ((p - 1) / 2 - 1) / 2 = p by omega)]
          by_cases e1 : i = p
          · rw [if_pos e1]; exact hA
          · rw [if_neg e1]
            have hB := ha i h0 hi (by omega) e1
            rw [getD_set hp, getD_set hp, if_neg e1, if_neg (by omega), hpi] at hB
            exact o.ntr _ _ _ hB hA
      · rename_i hlt
        intro i h0 hi hsi
        rw [List.length_set] at hi
        by_cases e1 : i = p
        · subst e1
          rw [getD_set hp, getD_set hp, if_pos rfl, if_neg (by omega)]
          simpa using hlt
        · exact ha i h0 hi hsi e1
    · rename_i hs
      intro i h0 hi hsi
      rw [List.length_set] at hi
      refine ha i h0 hi hsi ?_
      have := hd.le
      omega

theorem su_heap {lt : Value → Value → Bool} (o : WO lt) {s : Nat} {x : Value} : ∀ (k p : Nat) (ws : List Value), ws.length - p = k → p < ws.length → Desc s p →
    (∀ i, 0 < i → i < ws.length → s ≤ (i - 1) / 2 → i ≠ p → (i - 1) / 2 ≠ p → lt (ws.getD i .none) (ws.getD ((i - 1) / 2) .none) = false) →
    (s < p → ∀ i, 0 < i → i < ws.length → (i - 1) / 2 = p → lt (ws.getD i .none) (ws.getD ((p - 1) / 2) .none) = false) →
    HeapAt lt s (sd lt s x (su lt p ws).1 ((su lt p ws).2.set (su lt p ws).1 x)) := by
  intro k
  induction k using Nat.strongRecOn with
  | _ k ih =>
    intro p ws hk hp hd ha hb
    have hle := hd.le
    -- one step to the child c
    have step : ∀ c, (c - 1) / 2 = p → 0 < c → p < c → c < ws.length → Desc s c → (∀ i, 0 < i → i < ws.length → (i - 1) / 2 = p → lt (ws.getD i .none) (ws.getD c .none) = false) →
        HeapAt lt s (sd lt s x (su lt c (ws.set p (ws.getD c .none))).1 ((su lt c (ws.set p (ws.getD c .none))).2.set (su lt c (ws.set p (ws.getD c .none))).1 x)) := by
      intro c hc h0c hpc hcl hdc hmin
      refine ih (ws.length - c) (by omega) c _ (by rw [List.length_set]) (by rw [List.length_set]; exact hcl) hdc ?_ ?_
      · intro i h0 hi hsi hne hne2
        rw [List.length_set] at hi
        rw [getD_set hp, getD_set hp]
        by_cases e1 : i = p
        · subst e1
          rw [if_pos rfl, if_neg (by omega)]
          exact hb (by have := hsi; omega) c h0c hcl hc
        · rw [if_neg e1]
          by_cases e2 : (i - 1) / 2 = p
          · rw [if_pos e2]; exact hmin i h0 hi e2
          · rw [if_neg e2]; exact ha i h0 hi hsi e1 e2
      · intro hs i h0 hi hic
        rw [List.length_set] at hi
        rw [getD_set hp, getD_set hp, hc, if_pos rfl, if_neg (by omega)]
        have := ha i h0 hi (by omega) (by omega) (by omega)
        rw [hic] at this
        exact this
    rw [su]
    split
    · rename_i hl
      split
      · rename_i hr
        refine step (2 * p + 1 + 1) (by omega) (by omega) (by omega) hr.1 (.right hd) ?_
        intro i h0 hi hip
        have hi2 : i = 2 * p + 1 ∨ i = 2 * p + 1 + 1 := by omega
        rcases hi2 with rfl | rfl
        · exact hr.2
        · exact o.irr _
      · rename_i hr
        refine step (2 * p + 1) (by omega) (by omega) (by omega) hl (.left hd) ?_
        intro i h0 hi hip
        have hi2 : i = 2 * p + 1 ∨ i = 2 * p + 1 + 1 := by omega
        rcases hi2 with rfl | rfl
        · exact o.irr _
        · cases h : lt (ws.getD (2 * p + 1) .none) (ws.getD (2 * p + 1 + 1) .none) with
          | true => exact o.asym _ _ h
          | false => exact absurd ⟨hi, h⟩ hr
    · rename_i hl
      dsimp only
      refine sd_heap o p _ (by rw [List.length_set]; exact hp) hd ?_ ?_
      · intro i h0 hi hsi hne
        rw [List.length_set] at hi
        rw [List.set_set, getD_set hp, getD_set hp, if_neg hne, if_neg (by omega)]
        exact ha i h0 hi hsi hne (by omega)
      · intro hs i h0 hi hip
        rw [List.length_set] at hi
        omega
theorem sup_heap {lt : Value → Value → Bool} (o : WO lt) {s : Nat} {vs : List Value} (hs : s < vs.length) (h : HeapAt lt (s + 1) vs) : HeapAt lt s (sup lt s vs) := by
  refine su_heap o _ s vs rfl hs .refl ?_ ?_
  · intro i h0 hi hsi hne hne2
    exact h i h0 hi (by omega)
  · intro h; exact absurd h (Nat.lt_irrefl _)
theorem hpush_heap {lt : Value → Value → Bool} (o : WO lt) {vs : List Value} {x : Value} (h : HeapAt lt 0 vs) : HeapAt lt 0 (hpush lt vs x) := by
  refine sd_heap o vs.length _ (by simp) (desc_zero _) ?_ ?_
  · intro i h0 hi _ hne
    simp only [List.length_append, List.length_cons, List.length_nil] at hi
    rw [getD_set (by simp), getD_set (by simp), if_neg hne, if_neg (by omega)]
    have e : ∀ j, j < vs.length → (vs ++ [x]).getD j .none = vs.getD j .none := fun j hj => by simp only [List.getD]; rw [List.getElem?_append_left hj]
    rw [e i (by omega), e _ (by omega)]
    exact h i h0 (by omega) (by omega)
  · intro _ i h0 hi hip
    simp only [List.length_append, List.length_cons, List.length_nil] at hi
    omega
theorem heap_set0 {lt : Value → Value → Bool} {vs : List Value} {x : Value} (h : HeapAt lt 0 vs) : HeapAt lt 1 (vs.set 0 x) := by
  intro i h0 hi hsi
  rw [List.length_set] at hi
  rw [getD_set (by omega), getD_set (by omega), if_neg (by omega), if_neg (by omega)]
  exact h i h0 hi (by omega)
theorem heap_append {lt : Value → Value → Bool} {ws : List Value} {y : Value} (h : HeapAt lt 0 (ws ++ [y])) : HeapAt lt 0 ws := by
  intro i h0 hi _
  have := h i h0 (by simp; omega) (by omega)
  have e : ∀ j, j < ws.length → (ws ++ [y]).getD j .none = ws.getD j .none := fun j hj => by simp only [List.getD]; rw [List.getElem?_append_left hj]
  rw [e i hi, e _ (by omega)] at this
  exact this
theorem hpop_heap {lt : Value → Value → Bool} (o : WO lt) {ws : List Value} {y : Value} (h : HeapAt lt 0 (ws ++ [y])) : HeapAt lt 0 (hpop lt ws y).2 := by
  rw [hpop]
  split
  · intro i _ hi; simp at hi
  · rename_i h1
    have hl := List.length_pos_iff.mpr h1
    exact sup_heap o (by simpa using hl) (heap_set0 (heap_append h))
theorem heap_min {lt : Value → Value → Bool} (o : WO lt) {vs : List Value} (h : HeapAt lt 0 vs) : ∀ i, i < vs.length → lt (vs.getD i .none) (vs.getD 0 .none) = false := by
  intro i
  induction i using Nat.strongRecOn with
  | _ i ih =>
    intro hi
    by_cases h0 : i = 0
    · subst h0; exact o.irr _
    · exact o.ntr _ _ _ (h i (by omega) hi (by omega)) (ih _ (by omega) (by omega))
theorem heap_min_mem {lt : Value → Value → Bool} (o : WO lt) {vs : List Value} (h : HeapAt lt 0 vs) {v : Value} (hv : v ∈ vs) : lt v (vs.getD 0 .none) = false := by
  obtain ⟨i, hi, rfl⟩ := List.getElem_of_mem hv
  have := heap_min o h i hi
  simpa [List.getD, hi] using this
theorem hpop_min {lt : Value → Value → Bool} (o : WO lt) {ws : List Value} {y : Value} (h : HeapAt lt 0 (ws ++ [y])) : ∀ v ∈ ws ++ [y], lt v (hpop lt ws y).1 = false := by
  intro v hv
  have h2 := heap_min_mem o h hv
  rw [hpop]
  split
  · rename_i h1; subst h1; exact h2
  · rename_i h1
    have hl := List.length_pos_iff.mpr h1
    have e : (ws ++ [y]).getD 0 .none = ws.getD 0 .none := by simp only [List.getD]; rw [List.getElem?_append_left hl]
    rw [e] at h2
    exact h2
theorem bisR_spec {lt : Value → Value → Bool} {x : Value} {vs : List Value} (mono : ∀ i j, i ≤ j → j < vs.length → lt x (vs.getD i .none) = true → lt x (vs.getD j .none) = true) :
    ∀ (lo hi : Nat), lo ≤ hi → hi ≤ vs.length → (∀ i, i < lo → lt x (vs.getD i .none) = false) → (∀ i, hi ≤ i → i < vs.length → lt x (vs.getD i .none) = true) →
      lo ≤ bisR lt x vs lo hi ∧ bisR lt x vs lo hi ≤ hi ∧ (∀ i, i < bisR lt x vs lo hi → lt x (vs.getD i .none) = false) ∧ (∀ i, bisR lt x vs lo hi ≤ i → i < vs.length → lt x (vs.getD i .none) = true) := by
  intro lo hi
  induction hd : hi - lo using Nat.strongRecOn generalizing lo hi with
  | _ n ih =>
    intro hlh hhl h1 h2
    rw [bisR]
    split
    · rename_i hlt
      split
      · rename_i hc
        have := ih _ (by omega) lo ((lo + hi) / 2) rfl (by omega) (by omega) h1 (fun i hi1 hi2 => mono _ i hi1 hi2 hc)
        exact ⟨this.1, by omega, this.2.2⟩
      · rename_i hc
        have hc' : lt x (vs.getD ((lo + hi) / 2) .none) = false := by simpa using hc
        have := ih _ (by omega) ((lo + hi) / 2 + 1) hi rfl (by omega) hhl (fun i hi1 => by
          cases hq : lt x (vs.getD i .none) with
          | false => rfl
          | true => rw [mono i ((lo + hi) / 2) (by omega) (by omega) hq] at hc'; cases hc') h2
        exact ⟨by omega, this.2⟩
    · rename_i hlt
      exact ⟨Nat.le_refl _, hlh, h1, fun i hi1 hi2 => h2 i (by omega) hi2⟩
def Rising (lt : Value → Value → Bool) (vs : List Value) : Prop := vs.Pairwise fun a b => lt b a = false
theorem rising_le {lt : Value → Value → Bool} (o : WO lt) {vs : List Value} (h : Rising lt vs) {i j : Nat} (hij : i ≤ j) (hj : j < vs.length) : lt (vs.getD j .none) (vs.getD i .none) = false := by
  rcases Nat.lt_or_eq_of_le hij with hlt | rfl
  · have := List.pairwise_iff_getElem.mp h i j (by omega) hj hlt
    simpa [List.getD, hj, show i < vs.length by omega] using this
  · exact o.irr _
theorem rising_monoR {lt : Value → Value → Bool} (o : WO lt) {vs : List Value} (h : Rising lt vs) (x : Value) : ∀ i j, i ≤ j → j < vs.length → lt x (vs.getD i .none) = true → lt x (vs.getD j .none) = true := by
  intro i j hij hj hx
  cases hq : lt x (vs.getD j .none) with
  | true => rfl
  | false => have := o.ntr _ _ _ hq (rising_le o h hij hj); rw [hx] at this; cases this
theorem mem_take_getD {vs : List Value} {k : Nat} {v : Value} (h : v ∈ vs.take k) : ∃ i, i < k ∧ i < vs.length ∧ vs.getD i .none = v := by
  obtain ⟨i, hi, rfl⟩ := List.getElem_of_mem h
  simp only [List.length_take] at hi
  exact ⟨i, by omega, by omega, by simp [List.getD, show i < vs.length by omega]⟩
theorem mem_drop_getD {vs : List Value} {k : Nat} {v : Value} (h : v ∈ vs.drop k) : ∃ i, k ≤ i ∧ i < vs.length ∧ vs.getD i .none = v := by
  obtain ⟨i, hi, rfl⟩ := List.getElem_of_mem h
  simp only [List.length_drop] at hi
  exact ⟨k + i, by omega, by omega, by simp [List.getD, show k + i < vs.length by omega]⟩
theorem insAt_perm {vs : List Value} {k : Nat} {x : Value} : (insAt vs k x).Perm (x :: vs) := by
  unfold insAt
  refine List.perm_middle.trans ?_
  rw [List.take_append_drop]
theorem insAt_rising {lt : Value → Value → Bool} {vs : List Value} {k : Nat} {x : Value} (h : Rising lt vs) (h1 : ∀ i, i < k → i < vs.length → lt x (vs.getD i .none) = false) (h2 : ∀ i, k ≤ i → i < vs.length → lt (vs.getD i .none) x = false) : Rising lt (insAt vs k x) := by
  unfold insAt Rising
  rw [List.pairwise_append]
  refine ⟨h.sublist (List.take_sublist _ _), ?_, ?_⟩
  · rw [List.pairwise_cons]
    refine ⟨fun a ha => ?_, h.sublist (List.drop_sublist _ _)⟩
    obtain ⟨i, hi1, hi2, rfl⟩ := mem_drop_getD ha
    exact h2 i hi1 hi2
  · intro a ha b hb
    rcases List.mem_cons.mp hb with rfl | hb
    · obtain ⟨i, hi1, hi2, rfl⟩ := mem_take_getD ha
      exact h1 i hi1 hi2
    · have hp := h
      unfold Rising at hp
      rw [← List.take_append_drop k vs, List.pairwise_append] at hp
      exact hp.2.2 a ha b hb
section
variable {prog : Program} {w : World} {A : Around} {E : Value → Shared → Prop} {s : Shared}
theorem sub_ri_reversed : isSubtype (.type "range_iterator") (.type "reversed") = pure false := by rw [isSubtype_type]; kernel_rfl
abbrev riObj (x n c : Int) : Obj := { cls := .type "range_iterator", dict := none, data := .fields #[rawInt x, rawInt n, rawInt c], slots := #[] }
theorem meets_range_reversed (r : Addr) (a b c : Int) (t u v : Tok) (hc0 : ¬(!(Builtin.Range.rangeFitsLong a && Builtin.Range.rangeFitsLong b && Builtin.Range.rangeFitsLong c && Builtin.Range.rangeFitsLong (-c) && Builtin.Range.rangeFitsLong (a - c) && Builtin.Range.rangeFitsLong (Builtin.Range.rangeSize a b c))) = true) :
    Meets (Builtin.«range.__reversed__» ⟨[.ref r], []⟩)
      (fun _ R s => s.heap.get? r = some { cls := .type "range", dict := none, data := .fields #[.int a t, .int b u, .int c v], slots := #[] } ∧ R (.ok (.ret (Value.ref s.heap.objs.size))) { s with heap := s.heap.push { cls := Value.type (if (Builtin.Range.rangeFitsLong a && Builtin.Range.rangeFitsLong b && Builtin.Range.rangeFitsLong c && Builtin.Range.rangeFitsLong (-c) && Builtin.Range.rangeFitsLong (a - c) && Builtin.Range.rangeFitsLong (Builtin.Range.rangeSize a b c)) = true then "range_iterator" else "longrange_iterator"), data := .fields #[rawInt (a + (Builtin.Range.rangeSize a b c - 1) * c), rawInt (Builtin.Range.rangeSize a b c), rawInt (-c)] } }) :=
  .of_wp fun prog w A R s h => by obtain ⟨hp, g, d, tk, os⟩ := s; obtain ⟨hl, h⟩ := h; wp_walk; exact ⟨_, rfl, h⟩
theorem call_range_reversed {r : Addr} {k : Nat} {t u v : Tok} {Q : Value → Shared → Prop} (hr : IsRange s.heap r 0 (k : Int) 1 t u v) (hk : k < 1000000)
    (h : Q (.ref s.heap.objs.size) { s with heap := s.heap.push (riObj ((k : Int) - 1) k (-1)) }) : wpAny (model prog w) A (call (.builtin "range.__reversed__") [.ref r]) Q E s := by
  have hsz : Builtin.Range.rangeSize 0 (k : Int) 1 = (k : Int) := by rw [rangeSize_nat]; omega
  have hsm : (Builtin.Range.rangeFitsLong 0 && Builtin.Range.rangeFitsLong (k : Int) && Builtin.Range.rangeFitsLong 1 && Builtin.Range.rangeFitsLong (-1) && Builtin.Range.rangeFitsLong (0 - 1) && Builtin.Range.rangeFitsLong (Builtin.Range.rangeSize 0 (k : Int) 1)) = true := by
    rw [hsz]
    simp only [Builtin.Range.rangeFitsLong, Bool.and_eq_true, decide_eq_true_eq]
    omega
  refine call_meets F.slot_range_reversed ⟨_, hr, rfl⟩ F.entry_range_reversed (F.args_range_reversed_1 _) (meets_range_reversed r 0 (k : Int) 1 t u v (by rw [hsm]; decide)) ⟨hr, ?_⟩
  rw [hsm, if_pos rfl, hsz]
  have e : 0 + ((k : Int) - 1) * 1 = (k : Int) - 1 := by omega
  rw [e]
  exact h
theorem code_reversed_range {r : Addr} {k : Nat} {t u v : Tok} {Q₁ : Value → Shared → Prop} (hr : IsRange s.heap r 0 (k : Int) 1 t u v) (hk : k < 1000000)
    (h : Q₁ (.ref s.heap.objs.size) { s with heap := s.heap.push (riObj ((k : Int) - 1) k (-1)) }) :
    codeAny (model prog w) A (.call (.builtin "reversed.__new__") ⟨[.type "reversed", .ref r], []⟩) (wants Q₁ E) s := by
  refine codeAny_of_tree ?_
  show wpAny _ A.in1 (do checkBuiltinCall "reversed.__new__" ⟨[.type "reversed", .ref r], []⟩; again (.builtin "reversed.__new__" ⟨[.type "reversed", .ref r], []⟩)) _ _ s
  refine wpAny_bind (wpAny_of_eq (F.newCall_reversed_1 _) (wpAny_pure ⟨plainId_quiet F.plain_reversed_new _, codeAny_builtin F.entry_reversed_new ?_⟩))
  rw [Around.under_plainId F.plain_reversed_new _]
  have hT : s.TypeIs (.ref r) "range" := ⟨_, hr, rfl⟩
  unfold Builtin.«reversed.__new__»
  refine wpAny_bind (wpAny_of_eq (newClass_reversed _) ?_)
  try dsimp only
  refine wpAny_bind (wpAny_of_eq (a := ()) (by first | rfl | kernel_rfl) ?_)
  refine wpAny_bind (wpAny_of_eq (a := ()) (by first | rfl | kernel_rfl) ?_)
  try dsimp only
  refine wpAny_bind (wpAny_specialOf hT F.slot_range_reversed.lookup ?_)
  try dsimp only
  refine wpAny_bind (wpAny_of_eq (F.slot_range_reversed.bind _) ?_)
  try dsimp only
  first
  | rw [if_neg (show ¬ ((Value.builtin "range.__reversed__" == Value.none) = true) from Bool.false_ne_true)]
  | (show wpAny _ _ (if (Value.builtin "range.__reversed__" == Value.none) = true then _ else _) _ _ _; rw [if_neg (show ¬ ((Value.builtin "range.__reversed__" == Value.none) = true) from Bool.false_ne_true)])
  refine wpAny_bind (wpAny_rule ?_)
  refine wpAny_bind (m := runValue (.call (.builtin "range.__reversed__") ⟨[.ref r], []⟩)) (show wpAny _ _ (call (.builtin "range.__reversed__") [.ref r]) _ _ _ from call_range_reversed hr hk ?_)
  first
  | exact wpAny_pure h
  | exact wpAny_bind (wpAny_pure (wpAny_pure h))
theorem call_reversed_range {r : Addr} {k : Nat} {t u v : Tok} {Q : Value → Shared → Prop} (hr : IsRange s.heap r 0 (k : Int) 1 t u v) (hk : k < 1000000)
    (h : Q (.ref s.heap.objs.size) { s with heap := s.heap.push (riObj ((k : Int) - 1) k (-1)) }) : wpAny (model prog w) A (call (.type "reversed") [.ref r]) Q E s := by
  refine callType_other (U := "range_iterator") (Q₁ := fun obj s₁ => obj = .ref s.heap.objs.size ∧ s₁ = { s with heap := s.heap.push (riObj ((k : Int) - 1) k (-1)) }) (by decide +kernel) F.create_reversed ⟨_, _, F.mro_reversed⟩ F.made_reversed sub_ri_reversed (F.typeCall_reversed_1 _) (code_reversed_range hr hk ⟨rfl, rfl⟩) ?_
  rintro obj s₁ ⟨rfl, rfl⟩
  exact ⟨⟨_, Heap.get?_push_size _ rfl, rfl⟩, h⟩
variable {env : Env} {h₀ : Heap} {x : Str} {body : List Stmt} {Q : Flow → Shared → Prop} {m : Str → Option Value} {kept news : List (Addr × Obj)}
theorem iter_ri_down {I : Addr} (n : Nat) (hh : A.handled = none) (hI : IsRangeIter s.heap I ((n : Int) - 1) n (-1)) (hI0 : h₀.get? I = none) (hIL : I ≠ env.locals)
    (F : Fr h₀ env.locals s.heap m) (N : News h₀ env.locals s.heap (news ++ kept)) (hsep : ∀ p ∈ kept, ∀ q ∈ news, p.1 ≠ q.1) (hnI : ∀ q ∈ news ++ kept, q.1 ≠ I)
    (J : Nat → (Str → Option Value) → List (Addr × Obj) → Prop) (hJ : J 0 m news)
    (turn : ∀ i t m₁ var h tk own, i < n → J i m₁ var → (∀ p ∈ kept, p ∈ own) → (∀ p ∈ own, ∀ q ∈ var, p.1 ≠ q.1) → Fr h₀ env.locals h (fun y => if y = x then some (.int ((n : Int) - 1 - (i : Int)) t) else m₁ y) → News h₀ env.locals h (var ++ own) →
      wpAny (model prog w) A (execs body env) (LoopEnd h₀ env.locals s own (J (i + 1)) Q) E { s with heap := h, toks := tk })
    (done : ∀ m₁ var h tk, J n m₁ var → (∀ p ∈ kept, ∀ q ∈ var, p.1 ≠ q.1) → Fr h₀ env.locals h m₁ → News h₀ env.locals h (var ++ kept) → Q .next { s with heap := h, toks := tk }) :
    wpAny (model prog w) A (pyIter (.ref I)) (fun it s₂ => LoopAtV prog w A h₀ env x body Q E it s₂) E s := by
  refine wpAny_pyIter_rangeiter hI ?_
  have W := Walks.range (prog := prog) (w := w) hh I ((n : Int) - 1) (-1) n
  refine loop_walks (kept := kept) (news := news) (m := m) W ?_ ?_ ?_ ?_ F N hsep ?_ ?_ J hJ ?_ done
  · intro hm; exact hIL (List.mem_singleton.mp hm).symm
  · intro b hb; rw [List.mem_singleton.mp hb]; exact hI0
  · have e : (n : Int) - 1 + ((0 : Nat) : Int) * (-1) = (n : Int) - 1 := by simp
    have e2 : (n : Int) - ((0 : Nat) : Int) = n := by simp
    show IsRangeIter s.heap I ((n : Int) - 1 + ((0 : Nat) : Int) * (-1)) ((n : Int) - ((0 : Nat) : Int)) (-1)
    rw [e, e2]; exact hI
  · intro i h hst b hb
    exact (List.mem_singleton.mp hb) ▸ ⟨_, hst⟩
  · intro q hq hb
    exact hnI q (List.mem_append_left _ hq) (List.mem_singleton.mp hb)
  · intro p hp hb
    exact hnI p (List.mem_append_right _ hp) (List.mem_singleton.mp hb)
  · rintro i v m₁ var h tk own hi ⟨t', rfl⟩ hJ' h1 h2 F' N'
    have e : (n : Int) - 1 + (i : Int) * (-1) = (n : Int) - 1 - i := by omega
    rw [e] at F'
    exact turn i t' m₁ var h tk own hi hJ' h1 h2 F' N'
end
section
section
variable {α : Type} {a : α} {k l m : List α}
def Lin (l m : List α) : Prop := ∀ q, q ∈ l → q ∈ m
theorem lin_mem {p : α} (h : Lin l m) (hp : p ∈ l) : p ∈ m := h p hp
theorem lin_nil : Lin [] m := fun _ h => nomatch h
theorem lin_refl : Lin l l := fun _ h => h
theorem lin_cons (h : a ∈ m) (t : Lin l m) : Lin (a :: l) m := fun q hq => by
  rcases List.mem_cons.mp hq with rfl | hq
  · exact h
  · exact t q hq
theorem lin_app (h : Lin k m) (t : Lin l m) : Lin (k ++ l) m := fun q hq => (List.mem_append.mp hq).elim (h q) (t q)
theorem lin_here : Lin l (l ++ m) := fun _ h => List.mem_append_left _ h
theorem lin_tail (h : Lin l m) : Lin l (a :: m) := fun q hq => .tail _ (h q hq)
theorem lin_skip (h : Lin l m) : Lin l (k ++ m) := fun q hq => List.mem_append_right _ (h q hq)
end
def Halt : Prop := True
theorem halt_stop {P : Prop} (_ : Halt) (h : Stop P) : P := h
end
section
section kraft
def ks : List (Nat × Nat) → Nat
  | [] => 0
  | p :: r => 2 ^ p.2 + ks r
def kc (M : Nat) : List (Nat × Nat) → Nat
  | [] => 0
  | p :: r => p.1 * (M - p.2) + kc M r
def fsum : List (Nat × Nat) → Nat
  | [] => 0
  | p :: r => p.1 + fsum r
theorem ks_append (P Q : List (Nat × Nat)) : ks (P ++ Q) = ks P + ks Q := by
  induction P with
  | nil => simp [ks]
  | cons p r ih => simp only [List.cons_append, ks, ih]; omega
theorem kc_append (M : Nat) (P Q : List (Nat × Nat)) : kc M (P ++ Q) = kc M P + kc M Q := by
  induction P with
  | nil => simp [kc]
  | cons p r ih => simp only [List.cons_append, kc, ih]; omega
theorem fsum_append (P Q : List (Nat × Nat)) : fsum (P ++ Q) = fsum P + fsum Q := by
  induction P with
  | nil => simp [fsum]
  | cons p r ih => simp only [List.cons_append, fsum, ih]; omega
theorem fsum_map (P : List (Nat × Nat)) : fsum P = (P.map (·.1)).sum := by
  induction P with
  | nil => rfl
  | cons p r ih => simp [fsum, ih]
theorem ks_perm {P Q : List (Nat × Nat)} (h : P.Perm Q) : ks P = ks Q := by
  induction h with
  | nil => rfl
  | cons x _ ih => simp [ks, ih]
  | swap x y l => simp only [ks]; omega
  | trans _ _ h1 h2 => exact h1.trans h2
theorem kc_perm {M : Nat} {P Q : List (Nat × Nat)} (h : P.Perm Q) : kc M P = kc M Q := by
  induction h with
  | nil => rfl
  | cons x _ ih => simp [kc, ih]
  | swap x y l => simp only [kc]; omega
  | trans _ _ h1 h2 => exact h1.trans h2
def p2s : List Nat → Nat
  | [] => 0
  | e :: r => 2 ^ e + p2s r
theorem ks_p2s (P : List (Nat × Nat)) : ks P = p2s (P.map (·.2)) := by
  induction P with
  | nil => rfl
  | cons p r ih => simp [ks, p2s, ih]
theorem p2s_perm {P Q : List Nat} (h : P.Perm Q) : p2s P = p2s Q := by
  induction h with
  | nil => rfl
  | cons x _ ih => simp [p2s, ih]
  | swap x y l => simp only [p2s]; omega
  | trans _ _ h1 h2 => exact h1.trans h2
theorem ks_mem {P : List (Nat × Nat)} {p : Nat × Nat} (h : p ∈ P) : 2 ^ p.2 ≤ ks P := by
  induction P with
  | nil => cases h
  | cons q r ih =>
    simp only [ks]
    rcases List.mem_cons.mp h with rfl | h
    · omega
    · exact Nat.le_trans (ih h) (Nat.le_add_left _ _)
theorem ks_le {P : List (Nat × Nat)} {M : Nat} (h : ks P ≤ 2 ^ M) : ∀ p ∈ P, p.2 ≤ M := fun p hp =>
  (Nat.pow_le_pow_iff_right (by decide)).mp (Nat.le_trans (ks_mem hp) h)
theorem kc_succ {M : Nat} : ∀ {P : List (Nat × Nat)}, (∀ p ∈ P, p.2 ≤ M) → kc (M + 1) P = kc M P + fsum P
  | [], _ => rfl
  | p :: r, h => by
    have h1 := h p (.head _)
    have ih := kc_succ (P := r) fun q hq => h q (.tail _ hq)
    simp only [kc, fsum, ih]
    rw [show M + 1 - p.2 = (M - p.2) + 1 by omega, Nat.mul_succ]
    omega
def shift (k : Nat) (P : List (Nat × Nat)) : List (Nat × Nat) := P.map fun p => (p.1, p.2 + k)
theorem shift_fst (k : Nat) (P : List (Nat × Nat)) : (shift k P).map (·.1) = P.map (·.1) := by simp [shift]
theorem ks_shift (k : Nat) (P : List (Nat × Nat)) : ks (shift k P) = 2 ^ k * ks P := by
  induction P with
  | nil => rfl
  | cons p r ih =>
    show 2 ^ (p.2 + k) + ks (shift k r) = 2 ^ k * (2 ^ p.2 + ks r)
    rw [ih, Nat.pow_add, Nat.mul_add, Nat.mul_comm (2 ^ p.2)]
theorem kc_shift (k M : Nat) (P : List (Nat × Nat)) : kc (M + k) (shift k P) = kc M P := by
  induction P with
  | nil => rfl
  | cons p r ih =>
    show p.1 * (M + k - (p.2 + k)) + kc (M + k) (shift k r) = p.1 * (M - p.2) + kc M r
    rw [ih, Nat.add_sub_add_right]
theorem ks_shift_le {k M : Nat} {P : List (Nat × Nat)} (h : ks P ≤ 2 ^ M) : ks (shift k P) ≤ 2 ^ (M + k) := by
  rw [ks_shift, Nat.pow_add, Nat.mul_comm]
  exact Nat.mul_le_mul_right _ h
theorem exch {M a b e f : Nat} (hab : a ≤ b) (hfe : f ≤ e) : a * (M - f) + b * (M - e) ≤ a * (M - e) + b * (M - f) := by
  obtain ⟨j, rfl⟩ := Nat.exists_eq_add_of_le hab
  obtain ⟨k, hk⟩ := Nat.exists_eq_add_of_le (show M - e ≤ M - f by omega)
  rw [hk]
  simp only [Nat.mul_add, Nat.add_mul]
  omega
theorem min_mem : ∀ {l : List Nat}, l ≠ [] → ∃ m ∈ l, ∀ x ∈ l, m ≤ x
  | [], h => absurd rfl h
  | [a], _ => ⟨a, .head _, fun x hx => by rw [List.mem_singleton.mp hx]; exact Nat.le_refl _⟩
  | a :: b :: r, _ => by
    obtain ⟨m, hm, hle⟩ := min_mem (l := b :: r) (by simp)
    rcases Nat.le_total a m with h | h
    · refine ⟨a, .head _, fun x hx => ?_⟩
      rcases List.mem_cons.mp hx with rfl | hx
      · exact Nat.le_refl _
      · exact Nat.le_trans h (hle x hx)
    · refine ⟨m, .tail _ hm, fun x hx => ?_⟩
      rcases List.mem_cons.mp hx with rfl | hx
      · exact h
      · exact hle x hx
theorem rearr (M : Nat) : ∀ (n : Nat) (P : List (Nat × Nat)), P.length = n →
    ∃ Q : List (Nat × Nat), (Q.map (·.1)).Perm (P.map (·.1)) ∧ (Q.map (·.2)).Perm (P.map (·.2)) ∧ (Q.map (·.1)).Pairwise (· ≤ ·) ∧ (Q.map (·.2)).Pairwise (· ≤ ·) ∧ kc M Q ≤ kc M P := by
  intro n
  induction n with
  | zero =>
    intro P hP
    obtain rfl := List.length_eq_zero_iff.mp hP
    exact ⟨[], .refl _, .refl _, .nil, .nil, Nat.le_refl _⟩
  | succ n ih =>
    intro P hP
    have hne : P ≠ [] := by rintro rfl; simp at hP
    obtain ⟨a, ha, hamin⟩ := min_mem (l := P.map (·.1)) (by simpa using hne)
    obtain ⟨f, hf, hfmin⟩ := min_mem (l := P.map (·.2)) (by simpa using hne)
    -- a row with (a, f) in front, at no greater cost
    obtain ⟨R, hR1, hR2, hRc, hRl⟩ : ∃ R : List (Nat × Nat), ((a :: R.map (·.1)).Perm (P.map (·.1))) ∧ ((f :: R.map (·.2)).Perm (P.map (·.2))) ∧ kc M ((a, f) :: R) ≤ kc M P ∧ R.length = n := by
      by_cases hmem : (a, f) ∈ P
      · have hp := List.perm_cons_erase hmem
        refine ⟨P.erase (a, f), (hp.map (fun p : Nat × Nat => p.1)).symm, (hp.map (fun p : Nat × Nat => p.2)).symm, Nat.le_of_eq (kc_perm hp).symm, ?_⟩
        have := hp.length_eq
        simp only [List.length_cons] at this
        omega
      · obtain ⟨⟨a', e⟩, hx, hxa⟩ := List.mem_map.mp ha
        obtain ⟨⟨b, f'⟩, hy, hyf⟩ := List.mem_map.mp hf
        obtain rfl : a' = a := hxa
        obtain rfl : f' = f := hyf
        have hne2 : (b, f') ≠ (a', e) := by
          intro h; rw [Prod.mk.injEq] at h; obtain ⟨rfl, rfl⟩ := h; exact hmem hy
        have hp1 := List.perm_cons_erase hx
        have hy2 : (b, f') ∈ P.erase (a', e) := (List.mem_erase_of_ne hne2).mpr hy
        have hp2 := hp1.trans ((List.perm_cons_erase hy2).cons _)
        generalize (P.erase (a', e)).erase (b, f') = P' at hp2
        have hab : a' ≤ b := hamin b (List.mem_map.mpr ⟨_, hy, rfl⟩)
        have hfe : f' ≤ e := hfmin e (List.mem_map.mpr ⟨_, hx, rfl⟩)
        refine ⟨(b, e) :: P', (hp2.map (fun p : Nat × Nat => p.1)).symm, ?_, ?_, ?_⟩
        · exact (List.Perm.swap _ _ _).trans (hp2.map (fun p : Nat × Nat => p.2)).symm
        · rw [kc_perm hp2]
          have := exch (M := M) hab hfe
          simp only [kc]
          omega
        · have := hp2.length_eq
          simp only [List.length_cons] at this ⊢
          omega
    obtain ⟨Q, h1, h2, h3, h4, h5⟩ := ih R hRl
    refine ⟨(a, f) :: Q, (h1.cons _).trans hR1, (h2.cons _).trans hR2, List.pairwise_cons.mpr ⟨fun x hx => ?_, h3⟩, List.pairwise_cons.mpr ⟨fun x hx => ?_, h4⟩, ?_⟩
    · exact hamin x (hR1.mem_iff.mp (.tail _ (h1.mem_iff.mp hx)))
    · exact hfmin x (hR2.mem_iff.mp (.tail _ (h2.mem_iff.mp hx)))
    · simp only [kc] at hRc ⊢; omega

def minN : List Nat → Nat
  | [] => 0
  | [x] => x
  | x :: y :: r => min x (minN (y :: r))
theorem minN_le : ∀ {l : List Nat} {x : Nat}, x ∈ l → minN l ≤ x
  | [a], x, h => by rw [List.mem_singleton.mp h]; exact Nat.le_refl _
  | a :: b :: r, x, h => by
    rw [minN]
    rcases List.mem_cons.mp h with rfl | h
    · exact Nat.min_le_left _ _
    · exact Nat.le_trans (Nat.min_le_right _ _) (minN_le h)
theorem minN_mem : ∀ {l : List Nat}, l ≠ [] → minN l ∈ l
  | [], h => absurd rfl h
  | [a], _ => .head _
  | a :: b :: r, _ => by
    rw [minN]
    rcases Nat.le_total a (minN (b :: r)) with h | h
    · rw [Nat.min_eq_left h]; exact .head _
    · rw [Nat.min_eq_right h]; exact .tail _ (minN_mem (by simp))
def ocF : Nat → List Nat → Nat
  | 0, _ => 0
  | n + 1, l => if l.length < 2 then 0 else l.sum + minN ((List.range (l.length - 1)).map fun m => ocF n (l.take (m + 1)) + ocF n (l.drop (m + 1)))
theorem ocF_more : ∀ (n k : Nat) (l : List Nat), l.length ≤ n → ocF (n + k) l = ocF n l := by
  intro n
  induction n with
  | zero =>
    intro k l hl
    obtain rfl := List.length_eq_zero_iff.mp (Nat.le_zero.mp hl)
    cases k with
    | zero => rfl
    | succ k => simp [ocF]
  | succ n ih =>
    intro k l hl
    rw [show n + 1 + k = (n + k) + 1 by omega, ocF, ocF]
    split
    · rfl
    · congr 2
      refine List.map_congr_left fun m hm => ?_
      have hm' := List.mem_range.mp hm
      rw [ih k _ (by rw [List.length_take]; omega), ih k _ (by rw [List.length_drop]; omega)]
def oc (l : List Nat) : Nat := ocF l.length l
theorem oc_short {l : List Nat} (h : l.length < 2) : oc l = 0 := by
  rw [oc]
  cases hl : l.length with
  | zero => rfl
  | succ n => rw [ocF, if_pos h]
theorem oc_eq {l : List Nat} (h : ¬ l.length < 2) : oc l = l.sum + minN ((List.range (l.length - 1)).map fun m => oc (l.take (m + 1)) + oc (l.drop (m + 1))) := by
  obtain ⟨n, hn⟩ : ∃ n, l.length = n + 1 := ⟨l.length - 1, by omega⟩
  rw [oc, hn, ocF, if_neg h, hn]
  congr 2
  refine List.map_congr_left fun m hm => ?_
  have hm' := List.mem_range.mp hm
  have key : ∀ l' : List Nat, l'.length ≤ n → ocF n l' = oc l' := fun l' hl' => by
    rw [oc, show n = l'.length + (n - l'.length) by omega, ocF_more _ _ _ (Nat.le_refl _)]
  rw [key _ (by rw [List.length_take]; omega), key _ (by rw [List.length_drop]; omega)]
theorem oc_cut {l : List Nat} {k : Nat} (h0 : 0 < k) (hk : k < l.length) : oc l ≤ l.sum + (oc (l.take k) + oc (l.drop k)) := by
  rw [oc_eq (by omega)]
  refine Nat.add_le_add_left (minN_le (List.mem_map.mpr ⟨k - 1, List.mem_range.mpr (by omega), ?_⟩)) _
  rw [show k - 1 + 1 = k by omega]
theorem oc_has {l : List Nat} (h : ¬ l.length < 2) : ∃ k, 0 < k ∧ k < l.length ∧ oc l = l.sum + (oc (l.take k) + oc (l.drop k)) := by
  rw [oc_eq h]
  obtain ⟨m, hm, e⟩ := List.mem_map.mp (minN_mem (l := (List.range (l.length - 1)).map fun m => oc (l.take (m + 1)) + oc (l.drop (m + 1))) (by simp; omega))
  have hm' := List.mem_range.mp hm
  exact ⟨m + 1, by omega, by omega, by rw [e]⟩

theorem ks_dvd {u : Nat} : ∀ {P : List (Nat × Nat)}, (∀ p ∈ P, u ≤ p.2) → 2 ^ u ∣ ks P
  | [], _ => ⟨0, rfl⟩
  | p :: r, h => by
    refine Nat.dvd_add (Nat.pow_dvd_pow 2 (h p (.head _))) (ks_dvd fun q hq => h q (.tail _ hq))
theorem dvd_gap {u R H : Nat} (h1 : u ∣ R) (h2 : u ∣ H) (h : H < R) : H + u ≤ R := by
  obtain ⟨r, rfl⟩ := h1
  obtain ⟨k, rfl⟩ := h2
  have hk : k < r := by
    rcases Nat.lt_or_ge k r with h' | h'
    · exact h'
    · have := Nat.mul_le_mul_left u h'; omega
  have := Nat.mul_le_mul_left u hk
  rw [Nat.mul_succ] at this
  exact this
theorem ks_pos {P : List (Nat × Nat)} (h : P ≠ []) : 0 < ks P := by
  cases P with
  | nil => exact absurd rfl h
  | cons p r => simp only [ks]; have := Nat.two_pow_pos p.2; omega
theorem great_cut {P : Nat → Prop} [DecidablePred P] : ∀ n, P 1 → 1 ≤ n → ∃ k, 1 ≤ k ∧ k ≤ n ∧ P k ∧ (k < n → ¬ P (k + 1)) := by
  intro n
  induction n with
  | zero => intro _ h; omega
  | succ n ih =>
    intro h1 _
    by_cases hn : n = 0
    · subst hn; exact ⟨1, by omega, by omega, h1, fun h => by omega⟩
    · by_cases hp : P (n + 1)
      · exact ⟨n + 1, by omega, by omega, hp, fun h => by omega⟩
      · obtain ⟨k, a, b, c, d⟩ := ih h1 (by omega)
        refine ⟨k, a, by omega, c, fun h => ?_⟩
        rcases Nat.lt_or_ge k n with h' | h'
        · exact d h'
        · obtain rfl : k = n := by omega
          exact hp
theorem oc_le : ∀ (n : Nat) (M : Nat) (P : List (Nat × Nat)), P.length = n → P ≠ [] → (P.map (·.2)).Pairwise (· ≤ ·) → ks P ≤ 2 ^ M → oc (P.map (·.1)) ≤ kc M P := by
  intro n
  induction n using Nat.strongRecOn with
  | _ n ih =>
    intro M P hn hne hs hk
    by_cases h2 : P.length < 2
    · rw [oc_short (by rw [List.length_map]; exact h2)]; exact Nat.zero_le _
    obtain ⟨p, q, r, rfl⟩ : ∃ p q r, P = p :: q :: r := by
      cases P with
      | nil => exact absurd rfl hne
      | cons p P => cases P with
        | nil => simp at h2
        | cons q r => exact ⟨p, q, r, rfl⟩
    have hlt : ∀ x ∈ p :: q :: r, x.2 < M := by
      intro x hx
      have hp := List.perm_cons_erase hx
      have e := ks_perm hp
      have hpos : 0 < ks ((p :: q :: r).erase x) := ks_pos (by
        intro h0; have := hp.length_eq; rw [h0] at this; simp at this)
      simp only [ks] at e hk
      refine (Nat.pow_lt_pow_iff_right (by decide : 1 < 2)).mp ?_
      omega
    obtain ⟨M, rfl⟩ : ∃ M', M = M' + 1 := ⟨M - 1, by have := hlt p (.head _); omega⟩
    generalize hPP : p :: q :: r = P at *
    have hle : ∀ x ∈ P, x.2 ≤ M := fun x hx => by have := hlt x hx; omega
    have h1 : ks (P.take 1) ≤ 2 ^ M := by
      rw [← hPP]
      have := hlt p (by rw [← hPP]; exact .head _)
      simp only [List.take_succ_cons, List.take_zero, ks]
      have := Nat.pow_le_pow_right (n := 2) (by decide) (show p.2 ≤ M by omega)
      omega
    obtain ⟨k, hk1, hk2, hk3, hk4⟩ := great_cut (P := fun k => ks (P.take k) ≤ 2 ^ M) (P.length - 1) h1 (by omega)
    have hsplit : ks (P.take k) + ks (P.drop k) = ks P := by rw [← ks_append, List.take_append_drop]
    have hdrop : ks (P.drop k) ≤ 2 ^ M := by
      have hkl : k < P.length := by omega
      have hd : P.drop k = P[k] :: P.drop (k + 1) := List.drop_eq_getElem_cons hkl
      have hkm := hle _ (List.getElem_mem hkl)
      have hpw := Nat.pow_le_pow_right (n := 2) (by decide) hkm
      by_cases hlast : k = P.length - 1
      · have h0 : P.drop (k + 1) = [] := List.drop_eq_nil_of_le (by omega)
        rw [hd, h0]
        simp only [ks]
        omega
      · have hbig := hk4 (by omega)
        have htk : P.take (k + 1) = P.take k ++ [P[k]] := by rw [List.take_succ_eq_append_getElem hkl]
        rw [htk, ks_append] at hbig
        simp only [ks] at hbig
        rcases Nat.lt_or_ge (2 ^ M) (ks (P.drop k)) with hgt | hge
        · exfalso
          have hsd : ∀ x ∈ P.drop k, P[k].2 ≤ x.2 := by
            intro x hx
            rw [hd] at hx
            rcases List.mem_cons.mp hx with rfl | hx
            · exact Nat.le_refl _
            · have hs2 : ((P.drop k).map (·.2)).Pairwise (· ≤ ·) := by rw [List.map_drop]; exact hs.sublist (List.drop_sublist _ _)
              rw [hd, List.map_cons] at hs2
              exact (List.pairwise_cons.mp hs2).1 _ (List.mem_map.mpr ⟨x, hx, rfl⟩)
          have hgap := dvd_gap (ks_dvd hsd) (Nat.pow_dvd_pow 2 hkm) hgt
          rw [Nat.pow_succ] at hk
          omega
        · exact hge
    have e1 := ih k (by omega) M (P.take k) (by rw [List.length_take]; omega) (by intro h; have h9 : (P.take k).length = 0 := (by rw [h]; rfl); rw [List.length_take] at h9; omega) (by rw [List.map_take]; exact hs.sublist (List.take_sublist _ _)) hk3
    have e2 := ih (P.length - k) (by omega) M (P.drop k) (by rw [List.length_drop]) (by intro h; have h9 : (P.drop k).length = 0 := (by rw [h]; rfl); rw [List.length_drop] at h9; omega) (by rw [List.map_drop]; exact hs.sublist (List.drop_sublist _ _)) hdrop
    have hcut := oc_cut (l := P.map (·.1)) (k := k) (by omega) (by rw [List.length_map]; omega)
    rw [← List.map_take, ← List.map_drop, ← fsum_map] at hcut
    rw [kc_succ hle]
    have hc : kc M (P.take k) + kc M (P.drop k) = kc M P := by rw [← kc_append, List.take_append_drop]
    omega
theorem oc_feas : ∀ (n : Nat) (l : List Nat), l.length = n → ∃ (M : Nat) (P : List (Nat × Nat)), P.map (·.1) = l ∧ ks P ≤ 2 ^ M ∧ kc M P = oc l := by
  intro n
  induction n using Nat.strongRecOn with
  | _ n ih =>
    intro l hl
    by_cases h2 : l.length < 2
    · rw [oc_short h2]
      cases l with
      | nil => exact ⟨0, [], rfl, by simp [ks], rfl⟩
      | cons a r =>
        obtain rfl : r = [] := by cases r with
          | nil => rfl
          | cons b r => simp at h2; omega
        exact ⟨0, [(a, 0)], rfl, by simp [ks], by simp [kc]⟩
    · obtain ⟨k, h0, hk, e⟩ := oc_has h2
      obtain ⟨M1, P1, a1, b1, c1⟩ := ih k (by omega) (l.take k) (by rw [List.length_take]; omega)
      obtain ⟨M2, P2, a2, b2, c2⟩ := ih (l.length - k) (by omega) (l.drop k) (by rw [List.length_drop])
      have s1 := ks_shift_le (k := M2) b1
      have s2 := ks_shift_le (k := M1) b2
      have t1 := kc_shift M2 M1 P1
      have t2 := kc_shift M1 M2 P2
      rw [Nat.add_comm M2 M1] at s2 t2
      have u1 := kc_succ (ks_le s1)
      have u2 := kc_succ (ks_le s2)
      refine ⟨M1 + M2 + 1, shift M2 P1 ++ shift M1 P2, ?_, ?_, ?_⟩
      · rw [List.map_append, shift_fst, shift_fst, a1, a2, List.take_append_drop]
      · rw [ks_append, Nat.pow_succ]; omega
      · rw [kc_append, u1, u2, t1, t2, c1, c2, e, fsum_map, fsum_map, shift_fst, shift_fst, a1, a2]
        have : l.sum = (l.take k).sum + (l.drop k).sum := by rw [← List.sum_append_nat, List.take_append_drop]
        omega

def insN (x : Nat) : List Nat → List Nat
  | [] => [x]
  | y :: r => if x ≤ y then x :: y :: r else y :: insN x r
theorem insN_perm (x : Nat) : ∀ l, (insN x l).Perm (x :: l)
  | [] => .refl _
  | y :: r => by
    rw [insN]
    split
    · exact .refl _
    · exact ((insN_perm x r).cons y).trans (List.Perm.swap _ _ _)
theorem insN_sorted {x : Nat} : ∀ {l : List Nat}, l.Pairwise (· ≤ ·) → (insN x l).Pairwise (· ≤ ·)
  | [], _ => List.pairwise_singleton _ _
  | y :: r, h => by
    have h' := List.pairwise_cons.mp h
    rw [insN]
    split
    · rename_i hxy
      refine List.pairwise_cons.mpr ⟨fun z hz => ?_, h⟩
      rcases List.mem_cons.mp hz with rfl | hz
      · exact hxy
      · exact Nat.le_trans hxy (h'.1 z hz)
    · rename_i hxy
      refine List.pairwise_cons.mpr ⟨fun z hz => ?_, insN_sorted h'.2⟩
      rcases List.mem_cons.mp ((insN_perm x r).mem_iff.mp hz) with rfl | hz
      · omega
      · exact h'.1 z hz
def hufS : List Nat → Nat
  | [] => 0
  | [_] => 0
  | a :: b :: r => (a + b) + hufS (insN (a + b) r)
termination_by l => l.length
decreasing_by
  rw [(insN_perm _ _).length_eq]; simp
theorem sorted_unique : ∀ {l l' : List Nat}, l.Perm l' → l.Pairwise (· ≤ ·) → l'.Pairwise (· ≤ ·) → l = l'
  | [], l', h, _, _ => by rw [h.nil_eq]
  | a :: r, [], h, _, _ => by have := h.length_eq; simp at this
  | a :: r, b :: r', h, h1, h2 => by
    have h1' := List.pairwise_cons.mp h1
    have h2' := List.pairwise_cons.mp h2
    have hab : a = b := by
      have hb : a ≤ b := by
        rcases List.mem_cons.mp (h.mem_iff.mpr (.head _ : b ∈ b :: r')) with e | hm
        · omega
        · exact h1'.1 b hm
      have ha : b ≤ a := by
        rcases List.mem_cons.mp (h.mem_iff.mp (.head _ : a ∈ a :: r)) with e | hm
        · omega
        · exact h2'.1 a hm
      omega
    subst hab
    rw [sorted_unique h.cons_inv h1'.2 h2'.2]
theorem huf_feas : ∀ (n : Nat) (l : List Nat), l.length = n → l ≠ [] → ∃ (M : Nat) (P : List (Nat × Nat)), (P.map (·.1)).Perm l ∧ ks P ≤ 2 ^ M ∧ kc M P = hufS l := by
  intro n
  induction n using Nat.strongRecOn with
  | _ n ih =>
    intro l hl hne
    match l, hl, hne with
    | [], _, hne => exact absurd rfl hne
    | [a], _, _ => exact ⟨0, [(a, 0)], .refl _, by simp [ks], by simp [kc, hufS]⟩
    | a :: b :: r, hl, _ =>
      have hp := insN_perm (a + b) r
      obtain ⟨M, P, h1, h2, h3⟩ := ih (insN (a + b) r).length (by rw [hp.length_eq, ← hl]; simp) _ rfl (by intro h; have := hp.length_eq; rw [h] at this; simp at this)
      have hmem : a + b ∈ P.map (·.1) := (h1.trans hp).mem_iff.mpr (.head _)
      obtain ⟨⟨ab, e⟩, hx, hxe⟩ := List.mem_map.mp hmem
      obtain rfl : ab = a + b := hxe
      have hq := List.perm_cons_erase hx
      generalize P.erase (a + b, e) = R at hq
      have he := ks_le h2 _ hx
      dsimp only at he
      have k2 := ks_perm hq
      have k3 := kc_perm (M := M) hq
      simp only [ks, kc] at k2 k3
      refine ⟨M + 1, (a, e) :: (b, e) :: shift 1 R, ?_, ?_, ?_⟩
      · have h4 : ((a + b) :: R.map (·.1)).Perm ((a + b) :: r) := (hq.map (fun p : Nat × Nat => p.1)).symm.trans (h1.trans hp)
        have h5 := h4.cons_inv
        simp only [List.map_cons, shift_fst]
        exact (h5.cons _).cons _
      · simp only [ks]
        rw [ks_shift, Nat.pow_succ]
        omega
      · simp only [kc]
        rw [kc_shift, hufS, ← h3, k3, show M + 1 - e = (M - e) + 1 by omega, Nat.mul_succ, Nat.mul_succ, Nat.add_mul]
        omega
theorem huf_le : ∀ (n : Nat) (l : List Nat), l.length = n → l.Pairwise (· ≤ ·) → ∀ (M : Nat) (P : List (Nat × Nat)), (P.map (·.1)).Perm l → ks P ≤ 2 ^ M → hufS l ≤ kc M P := by
  intro n
  induction n using Nat.strongRecOn with
  | _ n ih =>
    intro l hl hs M P hP hk
    obtain ⟨Q, q1, q2, q3, q4, q5⟩ := rearr M _ P rfl
    have hQl : Q.map (·.1) = l := sorted_unique (q1.trans hP) q3 hs
    rw [ks_p2s, ← p2s_perm q2, ← ks_p2s] at hk
    refine Nat.le_trans ?_ q5
    match Q, hQl, hk, q4 with
    | [], hQl, _, _ => rw [← hQl]; simp [hufS]
    | [_], hQl, _, _ => rw [← hQl]; simp [hufS]
    | (a, e1) :: (b, e2) :: R, hQl, hk, q4 =>
      subst hQl
      have hs' := List.pairwise_cons.mp hs
      have hs2 := List.pairwise_cons.mp hs'.2
      have q4' := List.pairwise_cons.mp q4
      have q42 := List.pairwise_cons.mp q4'.2
      have h12 : e1 ≤ e2 := q4'.1 e2 (.head _)
      have he2 := ks_le hk (b, e2) (.tail _ (.head _))
      dsimp only at he2
      simp only [ks] at hk
      have hdR : 2 ^ e2 ∣ 2 ^ e2 + ks R := Nat.dvd_add (Nat.dvd_refl _) (ks_dvd fun p hp => q42.1 _ (List.mem_map.mpr ⟨p, hp, rfl⟩))
      have hlt : 2 ^ e2 + ks R < 2 ^ M := by have := Nat.two_pow_pos e1; omega
      have hgap := dvd_gap (Nat.pow_dvd_pow 2 he2) hdR hlt
      have heM : e2 + 1 ≤ M := by
        refine (Nat.pow_le_pow_iff_right (by decide : 1 < 2)).mp ?_
        rw [Nat.pow_succ]; omega
      have hp := insN_perm (a + b) (R.map (·.1))
      have := ih (insN (a + b) (R.map (·.1))).length (by rw [hp.length_eq, ← hl]; simp) _ rfl (insN_sorted hs2.2) M ((a + b, e2 + 1) :: R) hp.symm (by simp only [ks]; rw [Nat.pow_succ]; omega)
      simp only [List.map_cons, hufS]
      refine Nat.le_trans (Nat.add_le_add_left this _) ?_
      simp only [kc]
      have c1 : a * (M - e2) ≤ a * (M - e1) := Nat.mul_le_mul_left _ (by omega)
      rw [show M - e2 = (M - (e2 + 1)) + 1 by omega, Nat.mul_succ] at c1
      rw [show M - e2 = (M - (e2 + 1)) + 1 by omega, Nat.mul_succ, Nat.add_mul]
      omega
theorem huf_oc {l : List Nat} (hs : l.Pairwise (· ≤ ·)) : hufS l = oc l := by
  by_cases hne : l = []
  · subst hne; rw [oc_short (by simp)]; simp [hufS]
  refine Nat.le_antisymm ?_ ?_
  · obtain ⟨M, P, h1, h2, h3⟩ := oc_feas _ l rfl
    rw [← h3]
    exact huf_le _ l rfl hs M P (by rw [h1]) h2
  · obtain ⟨M, P, h1, h2, h3⟩ := huf_feas _ l rfl hne
    obtain ⟨Q, q1, q2, q3, q4, q5⟩ := rearr M _ P rfl
    have hQl : Q.map (·.1) = l := sorted_unique (q1.trans h1) q3 hs
    rw [ks_p2s, ← p2s_perm q2, ← ks_p2s] at h2
    have := oc_le _ M Q rfl (by rintro rfl; exact hne (by rw [← hQl]; rfl)) q4 h2
    rw [hQl] at this
    omega
end kraft
end
section
section
open PySem.SeqAt PySem.MeetsSeq PySem.MeetsSeq2 PySem.MeetsSeq3 PySem.SeqRoads2
open PySem.AutoSeq1 (wpAny_loadPart')
theorem lt_intR {prog : Program} {w : World} {A : Around} {E : Value → Shared → Prop} {s : Shared} {a b : Int} {t u : Tok} {Q : Value → Shared → Prop} (h : Q (.bool (decide (a < b))) s) : wpAny (model prog w) A (richCompare .Lt (.int a t) (.int b u)) Q E s := wpAny_lt_int h
abbrev tup2 (i j : Int) (t u : Tok) (n : Nat) : Obj := { cls := .type "tuple", data := .seq #[.int i t, .int j u] n }
theorem lt_tup2_meets (l b : Addr) (i j i' j' : Int) (t u t' u' : Tok) (n n2 : Nat) :
    Meets (Builtin.«tuple.__lt__» ⟨[.ref l, .ref b], []⟩)
      (fun _ R s => s.heap.get? l = some (tup2 i j t u n) ∧ s.heap.get? b = some (tup2 i' j' t' u' n2) ∧ R (.ok (.ret (.bool (decide (i < i' ∨ i = i' ∧ j < j'))))) s) :=
  .of_wp fun prog w A R s h => by
    obtain ⟨hp, g, d, tk, os⟩ := s; obtain ⟨hl, hb, h⟩ := h
    have f2 := AutoSeq1.sub_tuple_tuple
    wp_walk using wpAny_loadPart' hl, wpAny_loadPart' hb, wpAny_forIn_list _ (fun rest b s' => b.1 = none ∧ s' = ⟨hp, g, d, tk, os⟩ ∧ (rest = [(.int i t, .int i' t'), (.int j u, .int j' u')] ∨ (rest = [(.int j u, .int j' u')] ∧ i = i') ∨ (rest = [] ∧ i = i' ∧ j = j'))) _
    case turn =>
      rintro ⟨y, x⟩ rest b s' ⟨hb', rfl, h1 | ⟨h1, rfl⟩ | ⟨h1, _, _⟩⟩
      · injection h1 with h2 h3
        obtain ⟨rfl, rfl⟩ := Prod.mk.inj h2
        refine wpAny_bind (EqAt.int_int i t i' t' prog w _ _ ?_)
        cases hy : (i == i') with
        | true =>
          wp_walk
          exact ⟨rfl, rfl, .inr (.inl ⟨h3, by simpa using hy⟩)⟩
        | false =>
          have hne : i ≠ i' := by simpa using hy
          wp_walk using lt_intR
          have e : decide (i < i' ∨ i = i' ∧ j < j') = decide (i < i') := by simp [hne]
          rw [e] at h
          exact ⟨_, rfl, h⟩
      · injection h1 with h2 h3
        obtain ⟨rfl, rfl⟩ := Prod.mk.inj h2
        refine wpAny_bind (EqAt.int_int j u j' u' prog w _ _ ?_)
        cases hy : (j == j') with
        | true =>
          wp_walk
          exact ⟨rfl, rfl, .inr (.inr ⟨h3, rfl, by simpa using hy⟩)⟩
        | false =>
          wp_walk using lt_intR
          have e : decide (i < i ∨ i = i ∧ j < j') = decide (j < j') := by simp
          rw [e] at h
          exact ⟨_, rfl, h⟩
      · cases h1
    case fin =>
      rintro ⟨b1, b2⟩ s' ⟨hb', rfl, h1 | ⟨h1, _⟩ | ⟨_, rfl, rfl⟩⟩
      · cases h1
      · cases h1
      · simp only at hb'
        subst hb'
        wp_walk
        have e : decide (i < i ∨ i = i ∧ j < j) = false := by simp
        rw [e] at h
        exact ⟨_, rfl, h⟩
    case h => exact ⟨rfl, rfl, .inl rfl⟩
end
theorem lt_tup2 {prog : Program} {w : World} {A : Around} {E : Value → Shared → Prop} {s : Shared} {Q : Value → Shared → Prop} {a b : Addr} {i j i' j' : Int} {t u t' u' : Tok} {n n2 : Nat} (ha : s.heap.get? a = some (tup2 i j t u n)) (hb : s.heap.get? b = some (tup2 i' j' t' u' n2)) (hu : A.units + 8 < cLine)
    (h : Q (.bool (decide (i < i' ∨ i = i' ∧ j < j'))) s) : wpAny (model prog w) A (compareOp .Lt (.ref a) (.ref b)) Q E s :=
  cmp_ofLt (richCompare_meets_room (op := .Lt) ⟨_, ha, rfl⟩ ⟨_, hb, rfl⟩ F.slot_tuple_lt F.entry_tuple_lt (F.args_tuple_lt_2 _ _) (lt_tup2_meets a b i j i' j' t u t' u' n n2) ⟨ha, hb, ⟨by simp, h⟩⟩ (by omega))
end
section
theorem eqN {a b : Nat} (h : a = b) : a = b := h
section
variable {prog : Program} {w : World} {A : Around} {E : Value → Shared → Prop} {s s₂ : Shared} {env : Env} {h₀ : Heap} {xi xc : Str} {body : List Stmt} {Q : Flow → Shared → Prop} {m : Str → Option Value} {kept news : List (Addr × Obj)}
end
end
section
section
variable {prog : Program} {w : World} {A : Around} {R : Result → Shared → Prop} {I : Addr} {fp wr : List Addr} {n : Nat} {P : Nat → Value → Prop} {St : Nat → Heap → Prop} {g : Heap} {S : Value → Prop} {lt : Value → Value → Bool} {vs : List Value}
end
section
variable {prog : Program} {w : World} {A : Around} {E : Value → Shared → Prop} {s : Shared} {h₀ : Heap} {L : Addr} {m : Str → Option Value} {news news' : List (Addr × Obj)} {D : Addr} {vs : List Value} {n : Nat} {u : Tok} {v : Value}
theorem last_gen {value slice : Expr} {Q : Value → Shared → Prop} (N : News h₀ L s.heap news) (hm : (D, listOf vs.toArray n) ∈ news) (hk : 0 < vs.length)
    (h : Q (vs.getD (vs.length - 1) .none) s)
    (hs : subscripted slice false (.ref D) (.int (-1) u) = operate [.ref D, .int (-1) u] (getItem (.ref D) (.int (-1) u)) := by with_unfolding_all rfl) :
    wpAny (model prog w) A (subscriptTail value slice (.ref D) (.int (-1) u)) Q E s := by
  refine kde_neg (j := vs.length - 1) (v := vs.getD (vs.length - 1) .none) (N.isList hm) (by decide) (by decide) ?_ (getElem?_getD (by omega)) h hs
  unfold seqIndex?
  have e : (-1 : Int) + (vs.length : Int) = ((vs.length - 1 : Nat) : Int) := by omega
  simp only [show (-1 : Int) < 0 by decide, if_true, e]
  rw [if_pos (by simp; omega), Int.toNat_natCast]
theorem getD_snoc {ws : List Value} {y : Value} : (ws ++ [y]).getD ((ws ++ [y]).length - 1) .none = y := by simp [List.getD]
theorem pick_run2 (k j : Nat) : (slicePick vs.toArray (some (k : Int)) (some (j : Int)) none).toList = (vs.drop k).take (j - k) := by
  rw [slicePick_plain]
  simp only [Option.elim, clipAt_nat, List.size_toArray]
  rcases Nat.le_total k vs.length with h | h
  · rw [Nat.min_eq_left h]
    rcases Nat.le_total j vs.length with h' | h'
    · rw [Nat.min_eq_left h']
    · rw [Nat.min_eq_right h', List.take_of_length_le (by simp), List.take_of_length_le (by simp; omega)]
  · rw [Nat.min_eq_right h, List.drop_of_length_le (by simp), List.drop_of_length_le h]; simp
end
end
section
section
variable {prog : Program} {w : World} {A : Around} {s : Shared} {h₀ : Heap} {L : Addr} {m : Str → Option Value} {own rest : List (Addr × Obj)} {K : Frag}
  {p : Program} {loose : List Str} {mean : ExcName → Option Value} {mg mb : Str → Option Value} {d : Nat} {Q : Value → Shared → Prop} {E : Value → Shared → Prop}
  {name qual : Str} {params : Arguments} {body : List Stmt} {scope : Scope} {dV kV doc pm cdv ct oc : Value} {an od : Option Addr} {osl : Array (Option Value)} {f : Addr} {args : List Value} {kw : List (Str × Value)} {binds : List (Str × Value)}
theorem call_atC (C : At K p loose mean mg mb A h₀ L (d + 1)) (F : Fr h₀ L s.heap m) (N : News h₀ L s.heap (own ++ rest)) (hsep : ∀ p ∈ own, ∀ q ∈ rest, p.1 ≠ q.1)
    (ho : K.lookup f = some ⟨oc, od, .func (fnOf name qual params body scope dV kV doc pm an cdv ct), osl⟩) (hcd : codeIn K cdv qual = true)
    (hbind : BindsTo s (fnOf name qual params body scope dV kV doc pm an cdv ct) ⟨args, kw⟩ binds) (hkind : (binds.all fun y => scope.names.lookup y.1 == some .local || scope.names.lookup y.1 == some .cell) = true)
    (hnd : ((cellsFrom 0 scope.names []).map (·.1)).Nodup)
    (h : ∀ g L' h₁ tk cells, At K p loose mean mg mb (A.deeper (envOfC qual scope L' f cdv)) g L' d → Fr g L' h₁ (bindL (envOfC qual scope L' f cdv).kindOf binds fun _ => none) → News g L' h₁ (cells ++ own) →
      CellsAre (bindC (envOfC qual scope L' f cdv).kindOf binds fun _ => none) (cellsFrom (L' + 1) scope.names []) cells → (∀ q ∈ rest, g.get? q.1 = some q.2) → h₀.StaysIn g → (∀ p ∈ own, @LT.lt Nat _ p.1 L') →
      wpAny (model prog w) (A.deeper (envOfC qual scope L' f cdv)) (execs body (envOfC qual scope L' f cdv))
        (fun fl s' => LeaveF h₀ L m g rest (fun r s' => match r with | .ok (.ret v) => Q v s' | .ok _ => False | .error e => E e s') (match fl with | .ret v => v | _ => .none) s')
        (fun e s' => wpAny (model prog w) (A.deeper (envOfC qual scope L' f cdv)) (leaving (envOfC qual scope L' f cdv) e) (fun _ s'' => E e s'') (fun e' s'' => E e' s'') s')
        { s with heap := h₁, toks := tk })
    (hco : scope.isCoroutine = false) (hgen : scope.isGenerator = false) (hk : scope.kind = .function) : wpAny (model prog w) A (call (.ref f) args kw) Q E s := by
  obtain ⟨⟨A₀, base, outer, env, B, hA, hf, hke⟩, X, T, hd, hu, hh⟩ := C
  have N' : News h₀ L s.heap own := fun q hq => N q (List.mem_append_left _ hq)
  refine wpAny_call ?_
  obtain ⟨FG, BG, st, lv⟩ := groundX (R := fun r s' => match r with | .ok (.ret v) => Q v s' | .ok _ => False | .error e => E e s') B F N' hA hf hke
  have hrest : ∀ q ∈ rest, (hideAll s.heap (own.map (·.1))).get? q.1 = some q.2 := fun q hq =>
    hideAll_get _ (N q (List.mem_append_right _ hq)).1 fun hm => by
      obtain ⟨p, hp, e⟩ := List.mem_map.mp hm
      exact hsep p hp q hq e
  refine codeAny_call_function (by omega) ((X.keeps F.keep) _ _ ho) rfl hco hgen rfl (codeRec_of (X.keeps F.keep) hcd) (hbind _ _ _ _ ?_)
  refine wpAny_newFunctionEnv_cells hk (kindsX hkind _) fun env' he s' x => ?_
  subst he
  refine ⟨(T.nolimit.keeps F.keep).keeps x.toInCall.keep, codeAny_func ?_⟩
  obtain ⟨h₁, tk, rfl, _⟩ := x.done
  have hk₁ := x.toInCall.keep
  obtain ⟨cells, NC, Y⟩ := Cl.news (h₀ := s.heap) (Nat.le_refl _) fun n c hm => ⟨x.cell n c (lookup_of_mem_nodup (cellsFrom_names scope.names 0 (s.heap.objs.size + 1) [] [] rfl ▸ hnd) hm), x.above n c hm⟩
  refine wpAny_mono (h (hideAll s.heap (own.map (·.1))) s.heap.objs.size h₁ tk cells ?_ ⟨x.toInCall.ns, fun b o e => hk₁ b o (of_hideAll _ e), Nat.le_of_eq (hideAll_size _ _)⟩ (fun p hp => ?_) Y hrest st (fun p hp => Heap.lt_size (N' p hp).1)) (fun fl s' hl => ?_) fun _ _ y => y
  · refine ⟨⟨A, base, env :: outer, envOfC qual scope s.heap.objs.size f cdv, BG, ?_, rfl, hk⟩, X.keeps st, T.keeps st, ?_, ?_, hh⟩
    · show Option.map _ A.frames = _
      rw [hA]; rfl
    · show A.depth + 1 + d < _
      omega
    · show A.units + 3 + 16 * d + 16 < _
      omega
  · rcases List.mem_append.mp hp with hp | hp
    · refine ⟨(NC p hp).1, (NC p hp).2.1, ?_⟩
      cases q : (hideAll s.heap (own.map (·.1))).get? p.1 with
      | none => rfl
      | some o => have := of_hideAll _ q; rw [(NC p hp).2.2] at this; cases this
    · exact ⟨hk₁ _ _ (N' p hp).1, Nat.ne_of_lt (Heap.lt_size (N' p hp).1), hideAll_none _ (List.mem_map_of_mem hp)⟩
  · obtain ⟨L', m', own', F', N'', k⟩ := hl
    refine lv _ _ ⟨L', m', own', F', N'', fun kF kN => k kF (fun q hq => ?_) fun q hq r hr e => ?_⟩
    · rcases List.mem_append.mp hq with hq | hq
      · exact kN q hq
      · exact ⟨F'.keep _ _ (hrest q hq), (N q (List.mem_append_right _ hq)).2⟩
    · have h1 := (N'' q hq).2.2
      rw [e, hrest r hr] at h1
      cases h1
end
end
section
section
variable {prog : Program} {w : World} {A : Around} {h₀ : Heap} {L : Addr} {m : Str → Option Value} {env : Env} {ct elt : Expr} {x : Str} {scope : Scope} {cl : List (Str × Addr)} {s : Shared} {S : List (Addr × Obj) → Prop} {P : Nat → Value → Prop} {Fin : List Value → List (Addr × Obj) → Prop}
theorem comp_restT {n : Nat} {news₀ : List (Addr × Obj)} (J : Nat → List Value → List (Addr × Obj) → Prop) (hJ : J 0 [] news₀)
    (turn : ∀ i v I oI C oC D m₂ ys news h tk (E' : Value → Shared → Prop), i < n → P i v → J i ys news → LCg.NsObj oC m₂ → m₂ x = some v → Fr h₀ L h m → News h₀ L h ((I, oI) :: (C, oC) :: (D, LCg.lst ys) :: news) → LCg.Off3 I C D news → ((@Ne Nat I C) ∧ (@Ne Nat I D) ∧ (@Ne Nat C D)) →
      wpAny (model prog w) A (PySem.isTrue ct (compEnvC scope cl C env) (eval ct (compEnvC scope cl C env))) (fun ok s' => if ok = true then
        wpAny (model prog w) A (eval elt (compEnvC scope cl C env)) (LCg.CompEnd h₀ L m { s with heap := h, toks := tk } I oI C oC D (LCg.lst ys) S (fun y news' => J (i + 1) (ys ++ [y]) news')) E' s'
        else LCg.CompEnd h₀ L m { s with heap := h, toks := tk } I oI C oC D (LCg.lst ys) S (fun _ news' => J (i + 1) ys news') Value.none s') E' { s with heap := h, toks := tk })
    (fin : ∀ ys news, J n ys news → Fin ys news) : LCt.CompRestT prog w A h₀ L m env ct elt x scope cl s S P Fin n 0 [] news₀ := by
  have key : ∀ (j i : Nat) (ys : List Value) (news : List (Addr × Obj)), i + j = n → J i ys news → LCt.CompRestT prog w A h₀ L m env ct elt x scope cl s S P Fin j i ys news := by
    intro j
    induction j with
    | zero =>
      intro i ys news hi hj
      obtain rfl : i = n := by omega
      exact LCt.CompRestT.zero (fin ys news hj)
    | succ j ih =>
      intro i ys news hi hj
      refine LCt.CompRestT.succ ?_
      intro v I oI C oC D m₂ h tk E' hv hC hx F N off ne
      refine wpAny_mono (turn i v I oI C oC D m₂ ys news h tk E' (by omega) hv hj hC hx F N off ne) (fun ok s₂ hq => ?_) fun _ _ e => e
      cases ok with
      | true =>
        rw [if_pos rfl] at hq ⊢
        refine wpAny_mono hq (fun y s₃ hq => ?_) fun _ _ e => e
        obtain ⟨h', tk', nw, e, F', N', off', hS, hn⟩ := hq
        exact ⟨h', tk', nw, e, F', N', off', hS, ih (i + 1) _ _ (by omega) hn⟩
      | false =>
        rw [if_neg (by decide)] at hq ⊢
        obtain ⟨h', tk', nw, e, F', N', off', hS, hn⟩ := hq
        exact ⟨h', tk', nw, e, F', N', off', hS, ih (i + 1) _ _ (by omega) hn⟩
  exact key n 0 [] news₀ (by omega) hJ
end
end
section
section
variable {prog : Program} {w : World} {A A₀ : Around} {s : Shared} {base h₀ : Heap} {outer : List Env} {env : Env} {L : Addr} {m : Str → Option Value} {own rest : List (Addr × Obj)} {K : Frag}
  {p : Program} {loose : List Str} {mean : ExcName → Option Value} {mg mb : Str → Option Value} {d : Nat} {Q : Value → Shared → Prop} {E : Value → Shared → Prop}
  {name qual : Str} {params : Arguments} {body : List Stmt} {scope : Scope} {dV kV doc pm cdv ct oc : Value} {an od : Option Addr} {osl : Array (Option Value)} {f : Addr} {args : List Value} {kw : List (Str × Value)} {binds : List (Str × Value)}

theorem call_atB (C : At K p loose mean mg mb A h₀ L (d + 1)) (B : Below A₀ base outer h₀) (hA : A.frames = some (env :: outer)) (hf : env.frame = some L) (hke : env.scope.kind = .function) (F : Fr h₀ L s.heap m) (N : News h₀ L s.heap (own ++ rest)) (hsep : ∀ p ∈ own, ∀ q ∈ rest, p.1 ≠ q.1)
    (ho : K.lookup f = some ⟨oc, od, .func (fnOf name qual params body scope dV kV doc pm an cdv ct), osl⟩) (hcd : codeIn K cdv qual = true)
    (hbind : BindsTo s (fnOf name qual params body scope dV kV doc pm an cdv ct) ⟨args, kw⟩ binds) (hloc : ∀ y ∈ binds, scope.names.lookup y.1 = some .local)
    (h : ∀ g L' h₁, At K p loose mean mg mb (A.deeper (envOf qual scope L' f cdv)) g L' d → Fr h₀ L g m → Below A base (env :: outer) g → Fr g L' h₁ (fun y => binds.reverse.lookup y) → News g L' h₁ own → (∀ q ∈ rest, g.get? q.1 = some q.2) → h₀.StaysIn g →
      wpAny (model prog w) (A.deeper (envOf qual scope L' f cdv)) (execs body (envOf qual scope L' f cdv))
        (fun fl s' => LeaveF h₀ L m g rest (fun r s' => match r with | .ok (.ret v) => Q v s' | .ok _ => False | .error e => E e s') (match fl with | .ret v => v | _ => .none) s')
        (fun e s' => wpAny (model prog w) (A.deeper (envOf qual scope L' f cdv)) (leaving (envOf qual scope L' f cdv) e) (fun _ s'' => E e s'') (fun e' s'' => E e' s'') s')
        { s with heap := h₁, toks := s.toks + binds.length })
    (hco : scope.isCoroutine = false) (hgen : scope.isGenerator = false) (hk : scope.kind = .function)
    (hcell : ∀ x ∈ scope.names, x.2 ≠ .cell) : wpAny (model prog w) A (call (.ref f) args kw) Q E s := by
  obtain ⟨_, X, T, hd, hu, hh⟩ := C
  have N' : News h₀ L s.heap own := fun q hq => N q (List.mem_append_left _ hq)
  refine wpAny_call ?_
  obtain ⟨FG, BG, st, lv⟩ := groundX (R := fun r s' => match r with | .ok (.ret v) => Q v s' | .ok _ => False | .error e => E e s') B F N' hA hf hke
  have hrest : ∀ q ∈ rest, (hideAll s.heap (own.map (·.1))).get? q.1 = some q.2 := fun q hq =>
    hideAll_get _ (N q (List.mem_append_right _ hq)).1 fun hm => by
      obtain ⟨p, hp, e⟩ := List.mem_map.mp hm
      exact hsep p hp q hq e
  refine codeAny_call_def (fd := fnOf name qual params body scope dV kV doc pm an cdv ct) (body := body) (binds := binds) (by omega) ((X.keeps F.keep) _ _ ho) rfl (T.nolimit.keeps F.keep) (codeRec_of (X.keeps F.keep) hcd) rfl hbind hcell hloc (fun h₁ hns hk₁ => ?_) hco hgen hk
  refine wpAny_mono (h (hideAll s.heap (own.map (·.1))) s.heap.objs.size h₁ ?_ FG BG ⟨hns, fun b o e => hk₁ b o (of_hideAll _ e), Nat.le_of_eq (hideAll_size _ _)⟩
    (fun p hp => ⟨hk₁ _ _ (N' p hp).1, Nat.ne_of_lt (Heap.lt_size (N' p hp).1), hideAll_none _ (List.mem_map_of_mem hp)⟩) hrest st) (fun fl s' hl => ?_) fun _ _ y => y
  · refine ⟨⟨A, base, env :: outer, envOf qual scope s.heap.objs.size f cdv, BG, ?_, rfl, hk⟩, X.keeps st, T.keeps st, ?_, ?_, hh⟩
    · show Option.map _ A.frames = _
      rw [hA]; rfl
    · show A.depth + 1 + d < _
      omega
    · show A.units + 3 + 16 * d + 16 < _
      omega
  · obtain ⟨L', m', own', F', N'', k⟩ := hl
    refine lv _ _ ⟨L', m', own', F', N'', fun kF kN => k kF (fun q hq => ?_) fun q hq r hr e => ?_⟩
    · rcases List.mem_append.mp hq with hq | hq
      · exact kN q hq
      · exact ⟨F'.keep _ _ (hrest q hq), (N q (List.mem_append_right _ hq)).2⟩
    · have h1 := (N'' q hq).2.2
      rw [e, hrest r hr] at h1
      cases h1

def LeaveT (fs : List Addr) (h₀ : Heap) (L : Addr) (m : Str → Option Value) (g : Heap) (rest : List (Addr × Obj)) (R : Result → Shared → Prop) (v : Value) (s' : Shared) : Prop :=
  ∃ g' L' m' own', KtsTurn fs g g' ∧ Fr g' L' s'.heap m' ∧ News g' L' s'.heap own' ∧
    (Fr h₀ L s'.heap m → News h₀ L s'.heap (own' ++ rest) → (∀ p ∈ own', ∀ q ∈ rest, p.1 ≠ q.1) → R (.ok (.ret v)) s')

end
end
section
def LoopAtA (prog : Program) (w : World) (A : Around) (env : Env) (target : Expr) (body : List Stmt) (Q : Flow → Shared → Prop) (E : Value → Shared → Prop) (it : Value) (s₂ : Shared) : Prop :=
  PassesOwn (model prog w) A env E → codeAny (model prog w) A (.forLoop target it body [] env) (fun r s' => match r with | .ok f => Q f s' | .error e => cameBackBy (model prog w) A env E e s') s₂
section
variable {prog : Program} {w : World} {A : Around} {E : Value → Shared → Prop} {s s₂ : Shared} {env : Env} {h₀ : Heap} {target : Expr} {body : List Stmt} {Q : Flow → Shared → Prop} {m : Str → Option Value} {kept news : List (Addr × Obj)}
theorem For_any {pos : Pos} {iter : Expr} (h : wpAny (model prog w) A (eval iter env) (fun xv s₁ => wpAny (model prog w) A (pyIter xv) (fun it s₂ => LoopAtA prog w A env target body Q E it s₂) E s₁) E s)
    (hs : ∀ x, foldedSetIterable iter env x = pure x := by intro _; rfl) (hE : PassesOwn (model prog w) A env E := by passes_own) :
    wpAny (model prog w) A (exec (.For target iter body [] pos) env) Q E s :=
  wpAny_For (wpAny_mono h (fun _ _ h₁ => wpAny_mono h₁ (fun _ _ h₂ => h₂ hE) fun _ _ e => e) fun _ _ e => e) hs
theorem loop_walksA {I : Addr} {fp wr : List Addr} {n : Nat} {P : Nat → Value → Prop} {St : Nat → Heap → Prop} (W : Walks prog w A I fp wr n P St)
    (go : ∀ i v (s : Shared) (Q : Unit → Shared → Prop) (E : Value → Shared → Prop), P i v → St (i + 1) s.heap → Q () s → wpAny (model prog w) A (letOwnedTupleGo target (.ref I) v) Q E s)
    (hLf : env.locals ∉ fp) (hwr : ∀ b ∈ wr, h₀.get? b = none) (hst : St 0 s₂.heap)
    (hlive : ∀ i h, St i h → ∀ b ∈ fp, ∃ o, h.get? b = some o) (F : Fr h₀ env.locals s₂.heap m) (N : News h₀ env.locals s₂.heap (news ++ kept)) (hsep : ∀ p ∈ kept, ∀ q ∈ news, p.1 ≠ q.1) (hnf : ∀ q ∈ news, q.1 ∉ fp) (hkw : ∀ p ∈ kept, p.1 ∉ wr)
    (J : Nat → (Str → Option Value) → List (Addr × Obj) → Prop) (hJ : J 0 m news)
    (turn : ∀ i v m₁ var h tk own, i < n → P i v → J i m₁ var → (∀ p ∈ kept, p ∈ own) → (∀ p ∈ own, ∀ q ∈ var, p.1 ≠ q.1) → Fr h₀ env.locals h m₁ → News h₀ env.locals h (var ++ own) →
      wpAny (model prog w) A (assign target env v) (fun _ s' => wpAny (model prog w) A (execs body env) (LoopEnd h₀ env.locals s₂ own (J (i + 1)) Q) E s') E { s₂ with heap := h, toks := tk })
    (done : ∀ m₁ var h tk, J n m₁ var → (∀ p ∈ kept, ∀ q ∈ var, p.1 ≠ q.1) → Fr h₀ env.locals h m₁ → News h₀ env.locals h (var ++ kept) → Q .next { s₂ with heap := h, toks := tk }) :
    LoopAtA prog w A env target body Q E (.ref I) s₂ := by
  intro hE
  have hLw : env.locals ∉ wr := fun h => hLf (W.sub _ h)
  have old : ∀ b o, h₀.get? b = some o → b ∉ wr := fun b o e hb => by rw [hwr b hb] at e; cases e
  refine codeAny_forLoop_any
    (fun k s' => ∃ h' tk m' var i, s' = { s₂ with heap := h', toks := tk } ∧ St i h' ∧ Fr h₀ env.locals h' m' ∧ News h₀ env.locals h' (var ++ kept) ∧ (∀ p ∈ kept, ∀ q ∈ var, p.1 ≠ q.1) ∧ (∀ q ∈ var, q.1 ∉ fp) ∧ J i m' var ∧ i ≤ n ∧ k = n + 1 - i) ?_ (n + 1)
    ⟨s₂.heap, s₂.toks, m, news, 0, rfl, hst, F, N, hsep, hnf, hJ, Nat.zero_le _, rfl⟩
  rintro k s' ⟨h', tk, m', var, i, rfl, hst', F', N', hkv, hvf, hJ', hi, rfl⟩
  have hnw : ∀ p ∈ var ++ kept, p.1 ∉ wr := fun p hp => by
    rcases List.mem_append.mp hp with hp | hp
    · exact fun hb => hvf p hp (W.sub _ hb)
    · exact hkw p hp
  have next : ∀ h₁ : Heap, (∀ b o, b ∉ wr → h'.get? b = some o → h₁.get? b = some o) → Fr h₀ env.locals h₁ m' ∧ News h₀ env.locals h₁ (var ++ kept) := fun h₁ hk₁ =>
    ⟨⟨F'.ns.at' fun o e => hk₁ _ o hLw e, fun b o e => hk₁ b o (old b o e) (F'.keep b o e), F'.above⟩, fun p hp => ⟨hk₁ _ _ (hnw p hp) (N' p hp).1, (N' p hp).2⟩⟩
  by_cases hlt : i < n
  · refine W.item i _ _ _ hlt hst' fun v h₁ tk₁ hP hst₁ hk₁ => ?_
    obtain ⟨F₁, N₁⟩ := next h₁ hk₁
    refine go i v _ _ _ hP hst₁ ?_
    have Nown : News h₀ env.locals h₁ (ownOf h₀ fp h₁) := news_ownOf hLf
    have t := turn i v m' var h₁ tk₁ (ownOf h₀ fp h₁ ++ kept) hlt hP hJ' (fun p hp => List.mem_append_right _ hp) (fun p hp q hq => by
      rcases List.mem_append.mp hp with hp | hp
      · exact fun e => hvf q hq (e ▸ ownOf_sub p hp)
      · exact hkv p hp q hq) F₁ (fun p hp => by
      rcases List.mem_append.mp hp with hp | hp
      · exact N₁ p (List.mem_append_left _ hp)
      · rcases List.mem_append.mp hp with hp | hp
        · exact Nown p hp
        · exact N₁ p (List.mem_append_right _ hp))
    have fin : ∀ s₃, (∃ h' tk' m' var', s₃ = { s₂ with heap := h', toks := tk' } ∧ Fr h₀ env.locals h' m' ∧ News h₀ env.locals h' (var' ++ (ownOf h₀ fp h₁ ++ kept)) ∧ (∀ p ∈ ownOf h₀ fp h₁ ++ kept, ∀ q ∈ var', p.1 ≠ q.1) ∧ J (i + 1) m' var') →
        ∃ m, m < n + 1 - i ∧ ∃ h' tk m' var i, s₃ = { s₂ with heap := h', toks := tk } ∧ St i h' ∧ Fr h₀ env.locals h' m' ∧ News h₀ env.locals h' (var ++ kept) ∧ (∀ p ∈ kept, ∀ q ∈ var, p.1 ≠ q.1) ∧ (∀ q ∈ var, q.1 ∉ fp) ∧ J i m' var ∧ i ≤ n ∧ m = n + 1 - i := by
      rintro s₃ ⟨h₃, tk₃, m₃, var₃, rfl, F₃, N₃, hs₃, hJ₃⟩
      have hvf₃ : ∀ q ∈ var₃, q.1 ∉ fp := fun q hq hb => by
        obtain ⟨o, ho⟩ := hlive _ _ hst₁ q.1 hb
        exact hs₃ _ (List.mem_append_left _ (mem_ownOf hb (N₃ q (List.mem_append_left _ hq)).2.2 ho)) q hq rfl
      refine ⟨n + 1 - (i + 1), by omega, h₃, tk₃, m₃, var₃, i + 1, rfl, ?_, F₃, fun p hp => N₃ p ?_, fun p hp => hs₃ p (List.mem_append_right _ hp), hvf₃, hJ₃, hlt, rfl⟩
      · refine W.frame _ _ _ hst₁ fun b hb o e => ?_
        cases hn : h₀.get? b with
        | some o₀ =>
          have : o₀ = o := by have := F₁.keep b o₀ hn; rw [e] at this; exact (Option.some.inj this).symm
          exact this ▸ F₃.keep b o₀ hn
        | none => exact (N₃ _ (List.mem_append_right _ (List.mem_append_left _ (mem_ownOf hb hn e)))).1
      · rcases List.mem_append.mp hp with hp | hp
        · exact List.mem_append_left _ hp
        · exact List.mem_append_right _ (List.mem_append_right _ hp)
    refine wpAny_passesOwn hE (wpAny_mono t (fun _ s₃ ht => ?_) fun _ _ e => e)
    refine wpAny_passesOwn hE (wpAny_mono ht (fun f s₄ hf => ?_) fun _ _ e => e)
    cases f with
    | ret v => exact hf
    | brk => exact hf
    | cont => exact fin _ hf
    | next => exact fin _ hf
  · have hin : i = n := by omega
    subst hin
    refine W.done _ _ _ hst' fun h₁ tk₁ hk₁ => wpAny_execs_nil ?_
    obtain ⟨F₁, N₁⟩ := next h₁ hk₁
    exact done m' var h₁ tk₁ hJ' hkv F₁ N₁
theorem iter_listA {l : Addr} {vs : List Value} (hh : A.handled = none) (hl : s.heap.IsList l vs.toArray) (hlL : l ≠ env.locals)
    (go : ∀ I i v (s : Shared) (Q : Unit → Shared → Prop) (E : Value → Shared → Prop), vs[i]? = some v → s.heap.IsListIter I l (i + 1) → Q () s → wpAny (model prog w) A (letOwnedTupleGo target (.ref I) v) Q E s)
    (F : Fr h₀ env.locals s.heap m) (N : News h₀ env.locals s.heap (news ++ kept)) (hsep : ∀ p ∈ kept, ∀ q ∈ news, p.1 ≠ q.1) (hnl : ∀ q ∈ news, q.1 ≠ l)
    (J : Nat → (Str → Option Value) → List (Addr × Obj) → Prop) (hJ : J 0 m news)
    (turn : ∀ i v m₁ var h tk own, vs[i]? = some v → J i m₁ var → (∀ p ∈ kept, p ∈ own) → (∀ p ∈ own, ∀ q ∈ var, p.1 ≠ q.1) → Fr h₀ env.locals h m₁ → News h₀ env.locals h (var ++ own) →
      wpAny (model prog w) A (assign target env v) (fun _ s' => wpAny (model prog w) A (execs body env) (LoopEnd h₀ env.locals s own (J (i + 1)) Q) E s') E { s with heap := h, toks := tk })
    (done : ∀ m₁ var h tk, J vs.length m₁ var → (∀ p ∈ kept, ∀ q ∈ var, p.1 ≠ q.1) → Fr h₀ env.locals h m₁ → News h₀ env.locals h (var ++ kept) → Q .next { s with heap := h, toks := tk }) :
    wpAny (model prog w) A (pyIter (.ref l)) (fun it s₂ => LoopAtA prog w A env target body Q E it s₂) E s := by
  obtain ⟨ol, hol, hol2⟩ := id hl
  have hne : l ≠ s.heap.objs.size := Nat.ne_of_lt (Heap.lt_size hol)
  refine wpAny_pyIter_list hl ?_
  have W := Walks.list (prog := prog) (w := w) hh s.heap.objs.size l hne vs.toArray
  refine loop_walksA (kept := kept) (news := news) (m := m) W (fun i v s' Q' E' hP hS hq => go _ i v s' Q' E' (by simpa using hP) hS.1 hq) ?_ ?_ ⟨⟨_, Heap.get?_push_size _ rfl, rfl, rfl⟩, hl.at fun o e => Heap.get?_push_of_some _ e⟩ ?_ (F.push _) (fun p hp => ⟨Heap.get?_push_of_some _ (N p hp).1, (N p hp).2⟩) hsep ?_ ?_ J hJ ?_ ?_
  · intro hm
    rcases List.mem_cons.mp hm with e | hm
    · exact absurd F.ns.lt (e ▸ Nat.lt_irrefl _)
    · exact hlL (List.mem_singleton.mp hm).symm
  · intro b hb
    rw [List.mem_singleton.mp hb]
    exact next_is_new F
  · rintro i h ⟨⟨o, ho, _⟩, o', ho', _⟩ b hb
    rcases List.mem_cons.mp hb with rfl | hb
    · exact ⟨o, ho⟩
    · exact (List.mem_singleton.mp hb) ▸ ⟨o', ho'⟩
  · intro q hq hb
    rcases List.mem_cons.mp hb with e | hb
    · exact absurd (Heap.lt_size (N q (List.mem_append_left _ hq)).1) (e ▸ Nat.lt_irrefl _)
    · exact hnl q hq (List.mem_singleton.mp hb)
  · intro p hp hb
    exact absurd (Heap.lt_size (N p (List.mem_append_right _ hp)).1) ((List.mem_singleton.mp hb) ▸ Nat.lt_irrefl _)
  · intro i v m₁ var h tk own hi hP hJ' h1 h2 F' N'
    exact turn i v m₁ var h tk own (by simpa using hP) hJ' h1 h2 F' N'
  · intro m₁ var h tk hJ' h1 F' N'
    exact done m₁ var h tk (by simpa using hJ') h1 F' N'
theorem iter_range_upA {y : Str} {py : Pos} {r : Addr} {a b : Int} {t u v : Tok} (n : Nat) (hh : A.handled = none) (hr : IsRange s.heap r a b 1 t u v) (ha : -1000000 ≤ a) (ha' : a < 1000000) (hb : -1000000 ≤ b) (hb' : b < 1000000) (hn : n = (b - a).toNat)
    (F : Fr h₀ env.locals s.heap m) (N : News h₀ env.locals s.heap (news ++ kept)) (hsep : ∀ p ∈ kept, ∀ q ∈ news, p.1 ≠ q.1)
    (J : Nat → (Str → Option Value) → List (Addr × Obj) → Prop) (hJ : J 0 m news)
    (turn : ∀ i t m₁ var h tk own, i < n → J i m₁ var → (∀ p ∈ kept, p ∈ own) → (∀ p ∈ own, ∀ q ∈ var, p.1 ≠ q.1) → Fr h₀ env.locals h m₁ → News h₀ env.locals h (var ++ own) →
      wpAny (model prog w) A (assign (.Name y py) env (.int (a + (i : Int)) t)) (fun _ s' => wpAny (model prog w) A (execs body env) (LoopEnd h₀ env.locals s own (J (i + 1)) Q) E s') E { s with heap := h, toks := tk })
    (done : ∀ m₁ var h tk, J n m₁ var → (∀ p ∈ kept, ∀ q ∈ var, p.1 ≠ q.1) → Fr h₀ env.locals h m₁ → News h₀ env.locals h (var ++ kept) → Q .next { s with heap := h, toks := tk }) :
    wpAny (model prog w) A (pyIter (.ref r)) (fun it s₂ => LoopAtA prog w A env (.Name y py) body Q E it s₂) E s := by
  have hsmall := small_one (a := a) (b := b) (by omega) (by omega) (by omega) (by omega)
  have hsz : Builtin.Range.rangeSize a b 1 = n := by rw [hn]; exact rangeSize_nat a b
  refine wpAny_pyIter_range hr hsmall ?_
  have W := Walks.range (prog := prog) (w := w) hh s.heap.objs.size a 1 n
  refine loop_walksA (kept := kept) (news := news) (m := m) W (fun i v s' Q' E' hP hS hq => wpAny_pure hq) ?_ ?_ ?_ ?_ (F.push _) (fun p hp => ⟨Heap.get?_push_of_some _ (N p hp).1, (N p hp).2⟩) hsep ?_ ?_ J hJ ?_ ?_
  · intro hm
    exact absurd F.ns.lt ((List.mem_singleton.mp hm) ▸ Nat.lt_irrefl _)
  · intro b hb
    rw [List.mem_singleton.mp hb]
    exact next_is_new F
  · have e : a + ((0 : Nat) : Int) * 1 = a := by simp
    have e2 : (n : Int) - ((0 : Nat) : Int) = n := by simp
    show IsRangeIter (s.heap.push _) s.heap.objs.size (a + ((0 : Nat) : Int) * 1) ((n : Int) - ((0 : Nat) : Int)) 1
    rw [e, e2, ← hsz]
    exact Heap.get?_push_size _ rfl
  · intro i h hst b hb
    exact (List.mem_singleton.mp hb) ▸ ⟨_, hst⟩
  · intro q hq hb
    exact absurd (Heap.lt_size (N q (List.mem_append_left _ hq)).1) ((List.mem_singleton.mp hb) ▸ Nat.lt_irrefl _)
  · intro p hp hb
    exact absurd (Heap.lt_size (N p (List.mem_append_right _ hp)).1) ((List.mem_singleton.mp hb) ▸ Nat.lt_irrefl _)
  · rintro i v m₁ var h tk own hi ⟨t', rfl⟩ hJ' h1 h2 F' N'
    have e : a + (i : Int) * 1 = a + i := by omega
    rw [e]
    exact turn i t' m₁ var h tk own hi hJ' h1 h2 F' N'
  · intro m₁ var h tk hJ' h1 F' N'
    exact done m₁ var h tk hJ' h1 F' N'
end
end
section
theorem kf_ints_of {vs : List Value} {ns : List Int} (h : IntsAre vs ns) : W.kf_ints vs = true := by
  induction h with
  | nil => rfl
  | cons i t _ ih => exact ih
theorem rem_at {x : Int} {vs : List Value} {ns : List Int} (h : IntsAre vs ns) (hx : x ∈ ns) : ∃ j q, W.kf_at x vs = some j ∧ W.ki_delL vs j = some q ∧ IntsAre q (ns.erase x) := by
  induction h with
  | nil => cases hx
  | cons i t hr ih =>
    by_cases e : i = x
    · subst e
      exact ⟨0, _, by simp [W.kf_at, isInt], rfl, by rw [List.erase_cons_head]; exact hr⟩
    · have hx' : x ∈ _ := (List.mem_cons.mp hx).resolve_left fun q => e q.symm
      obtain ⟨j, q, h1, h2, h3⟩ := ih hx'
      refine ⟨j + 1, .int i t :: q, ?_, ?_, ?_⟩
      · have e1 : isInt x (.int i t) = false := by simp [isInt, e]
        simp [W.kf_at, e1, h1]
      · simp [W.ki_delL, h2]
      · rw [List.erase_cons_tail (by simpa using e)]
        exact .cons i t h3
theorem remove_gen {prog : Program} {w : World} {A : Around} {E : Value → Shared → Prop} {s : Shared} {h₀ : Heap} {L D : Addr} {m : Str → Option Value} {rest : List (Addr × Obj)} {vs : List Value} {n : Nat} {ns : List Int} {x : Int} {t : Tok} {Q : Value → Shared → Prop}
    (F : Fr h₀ L s.heap m) (N : News h₀ L s.heap ((D, W.listOf vs.toArray n) :: rest)) (hs : ∀ q ∈ rest, q.1 ≠ D) (hI : IntsAre vs ns) (hx : x ∈ ns) (hfit : vs.length ≤ 2 ^ 20)
    (h : ∀ h' q, Fr h₀ L h' m → News h₀ L h' ((D, W.listOf q.toArray (n + 1)) :: rest) → IntsAre q (ns.erase x) → Q .none { s with heap := h' }) :
    wpAny (model prog w) A (call (.builtin "list.remove") [.ref D, .int x t]) Q E s := by
  obtain ⟨j, q, h1, h2, h3⟩ := rem_at hI hx
  exact W.kf_remove (its := vs.toArray) F N (by simpa using kf_ints_of hI) (by simpa using h1) (by simpa using h2) (Upd.head hs) (by simp [sizeLine]; omega) fun h' F' N' => h h' q F' N' h3
end
section
theorem Stop.out {P : Prop} (h : P) : Stop P := h
section grid
abbrev Cell := Addr × List Value × Nat
def led (cs : List Cell) : List (Addr × Obj) := cs.map fun c => (c.1, W.listOf c.2.1.toArray c.2.2)
def refs (cs : List Cell) : List Value := cs.map fun c => .ref c.1
def adr (cs : List Cell) (k : Nat) : Addr := (cs.getD k (0, [], 0)).1
def vals (cs : List Cell) (k : Nat) : List Value := (cs.getD k (0, [], 0)).2.1
def cnt (cs : List Cell) (k : Nat) : Nat := (cs.getD k (0, [], 0)).2.2
variable {cs : List Cell} {k j : Nat} {post : List (Addr × Obj)} {vs' : List Value} {n' : Nat}
theorem cell_at (hk : k < cs.length) : cs[k] = (adr cs k, vals cs k, cnt cs k) := by
  simp [adr, vals, cnt, List.getD, hk]
theorem led_mem (hk : k < cs.length) : (adr cs k, W.listOf (vals cs k).toArray (cnt cs k)) ∈ led cs := by
  refine List.mem_map.mpr ⟨cs[k], List.getElem_mem hk, ?_⟩
  rw [cell_at hk]
theorem adr_mem0 (hk : k < cs.length) : adr cs k ∈ cs.map (·.1) := by
  refine List.mem_map.mpr ⟨cs[k], List.getElem_mem hk, ?_⟩
  rw [cell_at hk]
theorem led_adr {q : Addr × Obj} (h : q ∈ led cs) : q.1 ∈ cs.map (·.1) := by
  obtain ⟨c, hc, rfl⟩ := List.mem_map.mp h
  exact List.mem_map.mpr ⟨c, hc, rfl⟩
theorem refs_len : (refs cs).length = cs.length := by simp [refs]
theorem led_len : (led cs).length = cs.length := by simp [led]
theorem refs_getD (hk : k < cs.length) : (refs cs).getD k .none = .ref (adr cs k) := by
  simp [refs, adr, List.getD, hk]
theorem refs_append (a b : List Cell) : refs (a ++ b) = refs a ++ refs b := by simp [refs]
theorem led_append (a b : List Cell) : led (a ++ b) = led a ++ led b := by simp [led]
theorem upd_led : ∀ {cs : List Cell} {k : Nat}, (cs.map (·.1)).Nodup → k < cs.length → (∀ q ∈ post, q.1 ∉ cs.map (·.1)) →
    Upd (adr cs k) (W.listOf (vals cs k).toArray (cnt cs k)) (W.listOf vs'.toArray n') (led cs ++ post) (led (cs.set k (adr cs k, vs', n')) ++ post)
  | [], k, _, hk, _ => absurd hk (Nat.not_lt_zero _)
  | c :: r, 0, hn, hk, hp => by
    rw [List.map_cons, List.nodup_cons] at hn
    refine Upd.head fun p hp' => ?_
    rcases List.mem_append.mp hp' with h | h
    · intro e; exact hn.1 (by have := led_adr h; rw [e] at this; exact this)
    · intro e; exact hp p h (by rw [e]; exact .head _)
  | c :: r, k + 1, hn, hk, hp => by
    rw [List.map_cons, List.nodup_cons] at hn
    have hk' : k < r.length := by simpa using hk
    have ih := upd_led hn.2 hk' fun q hq h => hp q hq (.tail _ h)
    refine Upd.tail (fun e => hn.1 ?_) ih
    have := adr_mem0 hk'
    have e' : c.1 = adr r k := e
    rw [e']; exact this
theorem adr_set : adr (cs.set k (adr cs k, vs', n')) j = adr cs j := by
  unfold adr
  simp only [List.getD, List.getElem?_set]
  by_cases e : k = j
  · subst e
    by_cases h : k < cs.length
    · simp [h]
    · simp [h]
  · simp [e]
theorem vals_set_self (hk : k < cs.length) {a : Addr} : vals (cs.set k (a, vs', n')) k = vs' := by
  simp [vals, List.getD, hk]
theorem vals_set_ne {a : Addr} (h : k ≠ j) : vals (cs.set k (a, vs', n')) j = vals cs j := by
  simp [vals, List.getD, h]
theorem map_adr_set : (cs.set k (adr cs k, vs', n')).map (·.1) = cs.map (·.1) := by
  rw [List.map_set]
  apply List.ext_getElem
  · simp
  · intro i h1 h2
    rw [List.getElem_set]
    split
    · rename_i e
      subst e
      have hk : k < cs.length := by simpa using h2
      simp [adr, List.getD, hk]
    · rfl
theorem refs_set : refs (cs.set k (adr cs k, vs', n')) = refs cs := by
  have h := congrArg (List.map Value.ref) (map_adr_set (cs := cs) (k := k) (vs' := vs') (n' := n'))
  simpa [refs, List.map_map, Function.comp_def] using h
theorem vals_snoc_old {c : Cell} (h : k < cs.length) : vals (cs ++ [c]) k = vals cs k := by
  simp [vals, List.getD, List.getElem?_append_left h]
theorem vals_snoc_new {c : Cell} : vals (cs ++ [c]) cs.length = c.2.1 := by
  simp [vals, List.getD]
theorem nodup_snoc {c : Cell} (h : (cs.map (·.1)).Nodup) (hc : c.1 ∉ cs.map (·.1)) : ((cs ++ [c]).map (·.1)).Nodup := by
  rw [List.map_append, List.nodup_append]
  refine ⟨h, by simp, fun a ha b hb => ?_⟩
  rintro rfl
  have : a = c.1 := by simpa using hb
  exact hc (this ▸ ha)
end grid
section
variable {prog : Program} {w : World} {A : Around} {E : Value → Shared → Prop} {s : Shared} {h₀ : Heap} {L D : Addr} {m : Str → Option Value} {news : List (Addr × Obj)} {cs : List Cell} {n : Nat} {k j : Int} {u : Tok} {value slice : Expr} {Q : Value → Shared → Prop}
theorem grid_row (N : News h₀ L s.heap news) (hm : (D, W.listOf (refs cs).toArray n) ∈ news) (h0 : 0 ≤ k) (hk : k < cs.length) (hfit : cs.length < 2 ^ 62) (h : Q (.ref (adr cs k.toNat)) s)
    (hs : subscripted slice false (.ref D) (.int k u) = operate [.ref D, .int k u] (getItem (.ref D) (.int k u)) := by with_unfolding_all rfl) (hg : ∀ r, letTemporaryGo value (.ref D) r = pure () := by intro _; with_unfolding_all rfl) :
    wpAny (model prog w) A (subscriptTail value slice (.ref D) (.int k u)) Q E s := by
  refine item_gen N hm h0 (by rw [refs_len]; exact hk) (by rw [refs_len]; exact hfit) ?_ hs hg
  rw [refs_getD (by omega)]; exact h
theorem grid_cell {i : Nat} (N : News h₀ L s.heap news) (hm : ∀ p ∈ led cs, p ∈ news) (hi : i < cs.length) (h0 : 0 ≤ j) (hj : j < (vals cs i).length) (hfit : (vals cs i).length < 2 ^ 62) (h : Q ((vals cs i).getD j.toNat .none) s)
    (hs : subscripted slice false (.ref (adr cs i)) (.int j u) = operate [.ref (adr cs i), .int j u] (getItem (.ref (adr cs i)) (.int j u)) := by with_unfolding_all rfl) (hg : ∀ r, letTemporaryGo value (.ref (adr cs i)) r = pure () := by intro _; with_unfolding_all rfl) :
    wpAny (model prog w) A (subscriptTail value slice (.ref (adr cs i)) (.int j u)) Q E s :=
  item_gen N (hm _ (led_mem hi)) h0 hj hfit h hs hg
end
theorem off1_mem {D : Addr} : ∀ {l : List (Addr × Obj)}, LCg.Off1 D l → ∀ p ∈ l, @Ne Nat p.1 D
  | [], _, _, h => nomatch h
  | _ :: _, x, p, h => by
    rcases List.mem_cons.mp h with rfl | h
    · exact x.1
    · exact off1_mem x.2 p h
def RowsAre (cs : List Cell) (rows : List (List Int)) : Prop := (∀ c ∈ cs, ∀ v ∈ c.2.1, IsInt v) ∧ cs.map (fun c => c.2.1.map ival) = rows
theorem RowsAre.len {cs : List Cell} {rows : List (List Int)} (h : RowsAre cs rows) : rows.length = cs.length := by rw [← h.2]; simp
theorem RowsAre.row {cs : List Cell} {rows : List (List Int)} (h : RowsAre cs rows) {k : Nat} (hk : k < cs.length) : IntsAre (vals cs k) (rows.getD k []) := by
  have e : rows.getD k [] = (vals cs k).map ival := by
    rw [← h.2]
    simp [List.getD, hk, vals]
  rw [e]
  refine intsAre_of fun v hv => h.1 cs[k] (List.getElem_mem hk) v ?_
  rw [cell_at hk]; exact hv
theorem RowsAre.nil : RowsAre [] [] := ⟨(fun c hc => nomatch hc), rfl⟩
theorem RowsAre.snoc {cs : List Cell} {rows : List (List Int)} (h : RowsAre cs rows) {c : Cell} {r : List Int} (hc : IntsAre c.2.1 r) : RowsAre (cs ++ [c]) (rows ++ [r]) := by
  refine ⟨fun d hd v hv => ?_, ?_⟩
  · rcases List.mem_append.mp hd with hd | hd
    · exact h.1 d hd v hv
    · obtain rfl := List.mem_singleton.mp hd
      exact isInt_of hc v hv
  · rw [List.map_append, h.2, List.map_cons, List.map_nil, ival_of hc]
theorem RowsAre.put {cs : List Cell} {rows : List (List Int)} (h : RowsAre cs rows) {k : Nat} {c : Cell} {r : List Int} (hc : IntsAre c.2.1 r) : RowsAre (cs.set k c) (rows.set k r) := by
  refine ⟨fun d hd v hv => ?_, ?_⟩
  · rcases List.mem_or_eq_of_mem_set hd with hd | rfl
    · exact h.1 d hd v hv
    · exact isInt_of hc v hv
  · rw [List.map_set, h.2, ival_of hc]
theorem grid_last {prog : Program} {w : World} {A : Around} {E : Value → Shared → Prop} {s : Shared} {h₀ : Heap} {L D : Addr} {news : List (Addr × Obj)} {cs : List Cell} {n : Nat} {u : Tok} {value slice : Expr} {Q : Value → Shared → Prop}
    (N : News h₀ L s.heap news) (hm : (D, W.listOf (refs cs).toArray n) ∈ news) (hk : 0 < cs.length) (h : Q (.ref (adr cs (cs.length - 1))) s)
    (hs : subscripted slice false (.ref D) (.int (-1) u) = operate [.ref D, .int (-1) u] (getItem (.ref D) (.int (-1) u)) := by with_unfolding_all rfl) :
    wpAny (model prog w) A (subscriptTail value slice (.ref D) (.int (-1) u)) Q E s := by
  refine last_gen N hm (by rw [refs_len]; exact hk) ?_ hs
  rw [refs_len, refs_getD (by omega)]; exact h
end
section
structure Grid (cs : List Cell) (c : Nat) (mx : Nat → Nat → Int) : Prop where
  len : cs.length = c
  row : ∀ i, i < c → (vals cs i).length = c
  val : ∀ i j, i < c → j < c → ∃ t, (vals cs i).getD j .none = .int (mx i j) t
theorem Grid.put {cs : List Cell} {c : Nat} {mx : Nat → Nat → Int} (G : Grid cs c mx) {i j : Nat} (hi : i < c) (hj : j < c) (x : Int) (t : Tok) (n' : Nat) :
    Grid (cs.set i (adr cs i, (vals cs i).set j (.int x t), n')) c (fun i' j' => if i' = i ∧ j' = j then x else mx i' j') := by
  have hil : i < cs.length := by rw [G.len]; exact hi
  refine ⟨by rw [List.length_set]; exact G.len, fun k hk => ?_, fun k l hk hl => ?_⟩
  · by_cases e : i = k
    · subst e; rw [vals_set_self hil, List.length_set]; exact G.row _ hi
    · rw [vals_set_ne e]; exact G.row _ hk
  · by_cases e : i = k
    · subst e
      rw [vals_set_self hil, getD_set (by rw [G.row _ hi]; exact hj)]
      by_cases e2 : l = j
      · exact ⟨t, by simp [e2]⟩
      · obtain ⟨t', h⟩ := G.val i l hi hl
        exact ⟨t', by simp [e2]; simpa using h⟩
    · rw [vals_set_ne e]
      obtain ⟨t', h⟩ := G.val k l hk hl
      have e' : ¬ k = i := fun q => e q.symm
      exact ⟨t', by simp [e']; simpa using h⟩
theorem grid_zero {cs : List Cell} {c : Nat} (hl : cs.length = c) (h : ∀ k, k < c → IntsAre (vals cs k) (List.replicate c 0)) : Grid cs c fun _ _ => 0 := by
  refine ⟨hl, fun i hi => by simpa using (h i hi).length, fun i j hi hj => ?_⟩
  have hlen : (vals cs i).length = c := by simpa using (h i hi).length
  have hj' : j < (vals cs i).length := by omega
  obtain ⟨x, t, e⟩ := isInt_of (h i hi) _ (getD_mem hj')
  refine ⟨t, ?_⟩
  have hv := ival_of (h i hi)
  have : ((vals cs i).map ival).getD j 0 = 0 := by rw [hv]; simp [List.getD, hj]
  have e2 : ((vals cs i).map ival).getD j 0 = ival ((vals cs i).getD j .none) := by simp [List.getD, hj']
  rw [e2, e] at this
  rw [e]
  have : x = 0 := this
  rw [this]
def seg (sz : List Nat) (i j : Nat) : List Nat := (sz.drop i).take (j - i)
theorem seg_len {sz : List Nat} {i j : Nat} (hj : j ≤ sz.length) : (seg sz i j).length = j - i := by
  simp [seg]; omega
theorem seg_take {sz : List Nat} {i j k : Nat} (hij : i ≤ j) (hjk : j ≤ k) : (seg sz i k).take (j - i) = seg sz i j := by
  simp only [seg, List.take_take]; congr 1; omega
theorem seg_drop {sz : List Nat} {i j k : Nat} (hij : i ≤ j) (hjk : j ≤ k) : (seg sz i k).drop (j - i) = seg sz j k := by
  simp only [seg, List.drop_take, List.drop_drop]; congr 1
  · omega
  · congr 1; omega
theorem minN_int {l : List Nat} {M : Int} (h : M ∈ l.map Int.ofNat) (hle : ∀ a ∈ l.map Int.ofNat, M ≤ a) : M = (minN l : Nat) := by
  obtain ⟨x, hx, rfl⟩ := List.mem_map.mp h
  have hne : l ≠ [] := fun e => by rw [e] at hx; cases hx
  have h1 := minN_le hx
  have h2 := hle _ (List.mem_map.mpr ⟨_, minN_mem hne, rfl⟩)
  simp only [Int.ofNat_eq_natCast] at h2 ⊢
  omega
theorem sum_ofNat (l : List Nat) : (l.map Int.ofNat).sum = ((l.sum : Nat) : Int) := by
  induction l with
  | nil => rfl
  | cons a r ih => simp only [List.map_cons, List.sum_cons, ih, Int.ofNat_eq_natCast]; omega
theorem seg_step {sz : List Nat} {i w : Nat} (hw : 2 ≤ w) (hl : i + w ≤ sz.length) {M : Int} {ns : List Int} (hns : ns = (List.range (w - 1)).map fun m => ((oc (seg sz i (i + 1 + m)) : Nat) : Int) + ((oc (seg sz (i + 1 + m) (i + w)) : Nat) : Int))
    (h : M ∈ ns) (hle : ∀ a ∈ ns, M ≤ a) : ((seg sz i (i + w)).map Int.ofNat).sum + M = ((oc (seg sz i (i + w)) : Nat) : Int) := by
  have hlen : (seg sz i (i + w)).length = w := by rw [seg_len hl]; omega
  rw [oc_eq (by rw [hlen]; omega), sum_ofNat]
  have e : ns = ((List.range ((seg sz i (i + w)).length - 1)).map fun m => oc ((seg sz i (i + w)).take (m + 1)) + oc ((seg sz i (i + w)).drop (m + 1))).map Int.ofNat := by
    rw [hns, hlen, List.map_map]
    refine List.map_congr_left fun m hm => ?_
    have hm' := List.mem_range.mp hm
    have e1 := seg_take (sz := sz) (i := i) (j := i + 1 + m) (k := i + w) (by omega) (by omega)
    have e2 := seg_drop (sz := sz) (i := i) (j := i + 1 + m) (k := i + w) (by omega) (by omega)
    rw [show i + 1 + m - i = m + 1 by omega] at e1 e2
    rw [← e1, ← e2]
    simp
  rw [e] at h hle
  have := minN_int h hle
  omega
theorem seg_all (sz : List Nat) : seg sz 0 sz.length = sz := by simp [seg]
theorem ints_seg {vs : List Value} {sz : List Nat} (h : IntsAre vs (sz.map Int.ofNat)) (i j : Nat) : IntsAre ((vs.drop i).take (j - i)) ((seg sz i j).map Int.ofNat) := by
  have h1 := intsAre_of (vs := (vs.drop i).take (j - i)) (fun v hv => isInt_of h v (List.mem_of_mem_drop (List.mem_of_mem_take hv)))
  have e : ((vs.drop i).take (j - i)).map ival = (seg sz i j).map Int.ofNat := by
    rw [List.map_take, List.map_drop, ival_of h, seg, List.map_take, List.map_drop]
  rw [e] at h1
  exact h1
theorem intsN_snoc {vs : List Value} {ns : List Int} (h : IntsAre vs ns) (i : Int) (t : Tok) : IntsAre (vs ++ [.int i t]) (ns ++ [i]) := ints_append h (.cons i t .nil)
theorem ints_take {vs : List Value} {ns : List Int} (h : IntsAre vs ns) (k : Nat) : IntsAre (vs.take k) (ns.take k) := by
  have h1 := intsAre_of (vs := vs.take k) (fun v hv => isInt_of h v (List.mem_of_mem_take hv))
  rw [List.map_take, ival_of h] at h1
  exact h1
theorem ints_drop {vs : List Value} {ns : List Int} (h : IntsAre vs ns) (k : Nat) : IntsAre (vs.drop k) (ns.drop k) := by
  have h1 := intsAre_of (vs := vs.drop k) (fun v hv => isInt_of h v (List.mem_of_mem_drop hv))
  rw [List.map_drop, ival_of h] at h1
  exact h1
end
section
section runsP
def minI : List Int → Int
  | [] => 0
  | [x] => x
  | x :: y :: r => min x (minI (y :: r))
theorem minI_le : ∀ {l : List Int} {x : Int}, x ∈ l → minI l ≤ x
  | [a], x, h => by rw [List.mem_singleton.mp h]; exact Int.le_refl _
  | a :: b :: r, x, h => by
    rw [minI]
    rcases List.mem_cons.mp h with rfl | h
    · exact Int.min_le_left _ _
    · exact Int.le_trans (Int.min_le_right _ _) (minI_le h)
theorem minI_mem : ∀ {l : List Int}, l ≠ [] → minI l ∈ l
  | [], h => absurd rfl h
  | [a], _ => .head _
  | a :: b :: r, _ => by
    rw [minI]
    rcases Int.le_total a (minI (b :: r)) with h | h
    · rw [Int.min_eq_left h]; exact .head _
    · rw [Int.min_eq_right h]; exact .tail _ (minI_mem (by simp))
theorem minI_eq {l : List Int} {M : Int} (h : M ∈ l) (hle : ∀ a ∈ l, M ≤ a) : M = minI l := by
  have h1 := minI_le h
  have h2 := hle _ (minI_mem fun e => by rw [e] at h; cases h)
  omega
def lastN (rows : List (List Int)) : Int := (rows.getLastD []).getLastD 0
def ableP (rows : List (List Int)) (x : Int) : Bool := decide (rows ≠ []) && decide (lastN rows ≤ x)
def pickX (mem : List Int) (rows : List (List Int)) : Int := if mem.filter (ableP rows) = [] then minI mem else minI (mem.filter (ableP rows))
def pickR (mem : List Int) (rows : List (List Int)) : List (List Int) :=
  if mem.filter (ableP rows) = [] then rows ++ [[minI mem]] else rows.dropLast ++ [rows.getLastD [] ++ [minI (mem.filter (ableP rows))]]
def runsF : Nat → List Int → List Int → List (List Int) → List (List Int)
  | 0, _, _, rows => rows
  | n + 1, mem, coming, rows => if mem = [] then rows else runsF n (mem.erase (pickX mem rows) ++ coming.take 1) (coming.drop 1) (pickR mem rows)
theorem runsF_nil (n : Nat) (c : List Int) (rows : List (List Int)) : runsF n [] c rows = rows := by cases n <;> simp [runsF]
theorem pickX_mem {mem : List Int} {rows : List (List Int)} (h : mem ≠ []) : pickX mem rows ∈ mem := by
  rw [pickX]
  split
  · exact minI_mem h
  · rename_i h1
    exact (List.mem_filter.mp (minI_mem h1)).1
def RowsOk (rows : List (List Int)) : Prop := ∀ r ∈ rows, r ≠ [] ∧ r.Pairwise (· ≤ ·)
theorem able_ne {rows : List (List Int)} {x : Int} (h : ableP rows x = true) : rows ≠ [] ∧ lastN rows ≤ x := by simpa [ableP] using h
theorem rows_split {rows : List (List Int)} (h : rows ≠ []) : rows = rows.dropLast ++ [rows.getLastD []] := by
  cases rows with
  | nil => exact absurd rfl h
  | cons a r =>
    have := (List.dropLast_concat_getLast (l := a :: r) (by simp)).symm
    rw [List.getLastD_eq_getLast?, List.getLast?_eq_some_getLast (by simp)]
    simpa using this
theorem rising_last {r : List Int} (h : r.Pairwise (· ≤ ·)) (hne : r ≠ []) : ∀ y ∈ r, y ≤ r.getLastD 0 := by
  intro y hy
  have e : r = r.dropLast ++ [r.getLastD 0] := by
    cases r with
    | nil => exact absurd rfl hne
    | cons a r =>
      have := (List.dropLast_concat_getLast (l := a :: r) (by simp)).symm
      rw [List.getLastD_eq_getLast?, List.getLast?_eq_some_getLast (by simp)]
      simpa using this
  rw [e] at h hy
  rcases List.mem_append.mp hy with h1 | h1
  · exact (List.pairwise_append.mp h).2.2 y h1 _ (.head _)
  · rw [List.mem_singleton.mp h1]; exact Int.le_refl _
theorem pickR_ok {mem : List Int} {rows : List (List Int)} (h : RowsOk rows) : RowsOk (pickR mem rows) := by
  rw [pickR]
  split
  · intro r hr
    rcases List.mem_append.mp hr with hr | hr
    · exact h r hr
    · rw [List.mem_singleton.mp hr]; exact ⟨by simp, List.pairwise_singleton _ _⟩
  · rename_i h1
    obtain ⟨_, hab⟩ := List.mem_filter.mp (minI_mem h1)
    obtain ⟨hne, hle⟩ := able_ne hab
    have e := rows_split hne
    intro r hr
    rcases List.mem_append.mp hr with hr | hr
    · exact h r (List.dropLast_subset _ hr)
    · rw [List.mem_singleton.mp hr]
      have hl := h (rows.getLastD []) (by rw [e]; simp)
      refine ⟨by simp, List.pairwise_append.mpr ⟨hl.2, List.pairwise_singleton _ _, fun a ha b hb => ?_⟩⟩
      rw [List.mem_singleton.mp hb]
      exact Int.le_trans (rising_last hl.2 hl.1 a ha) hle
theorem pickR_flat {mem : List Int} {rows : List (List Int)} : (pickR mem rows).flatten = rows.flatten ++ [pickX mem rows] := by
  rw [pickR, pickX]
  split
  · simp
  · rename_i h1
    obtain ⟨_, hab⟩ := List.mem_filter.mp (minI_mem h1)
    have e := rows_split (able_ne hab).1
    have e2 : rows.flatten = rows.dropLast.flatten ++ rows.getLastD [] := by
      conv => lhs; rw [e]
      simp
    rw [e2]
    simp
theorem runsF_spec : ∀ (n : Nat) (mem coming : List Int) (rows : List (List Int)), n = mem.length + coming.length → (mem = [] → coming = []) → RowsOk rows →
    RowsOk (runsF n mem coming rows) ∧ (runsF n mem coming rows).flatten.Perm (rows.flatten ++ (mem ++ coming)) := by
  intro n
  induction n with
  | zero =>
    intro mem coming rows hn _ ho
    have h1 : mem = [] := List.length_eq_zero_iff.mp (by omega)
    have h2 : coming = [] := List.length_eq_zero_iff.mp (by omega)
    subst h1 h2
    exact ⟨ho, by simp [runsF]⟩
  | succ n ih =>
    intro mem coming rows hn hmc ho
    rw [runsF]
    split
    · rename_i h1
      rw [h1, hmc h1]
      exact ⟨ho, by simp⟩
    · rename_i h1
      have hm := pickX_mem (rows := rows) h1
      have hp := List.perm_cons_erase hm
      have hl := hp.length_eq
      rw [List.length_cons] at hl
      obtain ⟨a, b⟩ := ih (mem.erase (pickX mem rows) ++ coming.take 1) (coming.drop 1) (pickR mem rows) (by
        simp only [List.length_append, List.length_take, List.length_drop]; omega) (fun h => by
          have := congrArg List.length h
          simp only [List.length_append, List.length_take, List.length_nil] at this
          apply List.length_eq_zero_iff.mp
          rw [List.length_drop]; omega) (pickR_ok ho)
      refine ⟨a, b.trans ?_⟩
      rw [pickR_flat]
      have e : (mem.erase (pickX mem rows) ++ coming.take 1) ++ coming.drop 1 = mem.erase (pickX mem rows) ++ coming := by
        rw [List.append_assoc, List.take_append_drop]
      rw [e, List.append_assoc]
      refine List.Perm.append_left _ ?_
      show ((pickX mem rows) :: (mem.erase (pickX mem rows) ++ coming)).Perm _
      exact (hp.append_right coming).symm
def tag (rows : List (List Int)) (x : Int) : Int := if ableP rows x = true then (rows.length : Int) - 1 else rows.length
def pushRow (rows : List (List Int)) (r : Int) (x : Int) : List (List Int) :=
  if r = rows.length then rows ++ [[x]] else rows.set r.toNat (rows.getD r.toNat [] ++ [x])
def lexlt (p q : Int × Int) : Prop := p.1 < q.1 ∨ p.1 = q.1 ∧ p.2 < q.2
theorem set_last {rows : List (List Int)} (h : rows ≠ []) (z : List Int) : rows.set (rows.length - 1) z = rows.dropLast ++ [z] := by
  have e := rows_split h
  have hl : rows.dropLast.length = rows.length - 1 := by simp
  conv => lhs; rw [e]
  rw [List.set_append_right _ _ (by simp)]
  simp
theorem getD_last {rows : List (List Int)} (h : rows ≠ []) : rows.getD (rows.length - 1) [] = rows.getLastD [] := by
  simp [List.getD, List.getLastD_eq_getLast?, List.getLast?_eq_getElem?]
theorem pickR_last {mem : List Int} {rows : List (List Int)} : pickR mem rows ≠ [] ∧ lastN (pickR mem rows) = pickX mem rows := by
  rw [pickR, pickX]
  split <;> simp [lastN, List.getLastD_eq_getLast?]
theorem tag_new {mem : List Int} {rows : List (List Int)} (y : Int) : tag (pickR mem rows) y = if pickX mem rows ≤ y then ((pickR mem rows).length : Int) - 1 else (pickR mem rows).length := by
  obtain ⟨h1, h2⟩ := pickR_last (mem := mem) (rows := rows)
  rw [tag, ableP, h2]
  by_cases h : pickX mem rows ≤ y <;> simp [h1, h]
theorem tag_step {mem : List Int} {rows : List (List Int)} {keys : List (Int × Int)} {r x : Int} (hk : keys.Perm (mem.map fun y => (tag rows y, y))) (hm : (r, x) ∈ keys) (hmin : ∀ p ∈ keys, ¬ lexlt p (r, x)) :
    x ∈ mem ∧ x = pickX mem rows ∧ pushRow rows r x = pickR mem rows ∧ 0 ≤ r ∧ r ≤ rows.length ∧ (∀ y ∈ mem, tag (pickR mem rows) y = tag rows y) ∧ ∀ y, tag (pickR mem rows) y = if x ≤ y then r else r + 1 := by
  obtain ⟨x', hx, e⟩ := List.mem_map.mp (hk.mem_iff.mp hm)
  obtain ⟨er, rfl⟩ := Prod.mk.inj e
  have hmin' : ∀ y ∈ mem, ¬ lexlt (tag rows y, y) (r, x') := fun y hy => hmin _ (hk.mem_iff.mpr (List.mem_map.mpr ⟨y, hy, rfl⟩))
  by_cases hab : mem.filter (ableP rows) = []
  · have hno : ∀ y ∈ mem, ableP rows y = false := fun y hy => by
      cases h : ableP rows y with
      | false => rfl
      | true => have : y ∈ mem.filter (ableP rows) := List.mem_filter.mpr ⟨hy, h⟩; rw [hab] at this; cases this
    have htag : ∀ y ∈ mem, tag rows y = rows.length := fun y hy => by rw [tag, hno y hy]; simp
    have hr : r = rows.length := by rw [← er, htag _ hx]
    have hX : pickX mem rows = minI mem := by rw [pickX, if_pos hab]
    have hR : pickR mem rows = rows ++ [[minI mem]] := by rw [pickR, if_pos hab]
    have hxm : x' = minI mem := minI_eq hx fun y hy => by
      have := hmin' y hy
      rw [htag y hy, hr] at this
      simp only [lexlt, not_or, not_and] at this
      have := this.2 trivial
      omega
    have hl : ((pickR mem rows).length : Int) = r + 1 := by rw [hR, hr]; simp
    refine ⟨hx, by rw [hX]; exact hxm, ?_, by omega, by omega, fun y hy => ?_, fun y => ?_⟩
    · rw [pushRow, if_pos hr, hR, hxm]
    · rw [tag_new, hX, if_pos (minI_le hy), htag y hy, hl, hr]; omega
    · rw [tag_new, hX, ← hxm, hl]
      by_cases h : x' ≤ y <;> simp [h]
  · have hz := minI_mem hab
    obtain ⟨hz1, hz2⟩ := List.mem_filter.mp hz
    obtain ⟨hne, hzl⟩ := able_ne hz2
    have hpos := List.length_pos_iff.mpr hne
    have htz : tag rows (minI (mem.filter (ableP rows))) = (rows.length : Int) - 1 := by rw [tag, hz2]; simp
    have hxa : ableP rows x' = true := by
      cases h : ableP rows x' with
      | true => rfl
      | false =>
        have h1 : tag rows x' = rows.length := by rw [tag, h]; simp
        have := hmin' _ hz1
        rw [htz, ← er, h1] at this
        exact absurd (Or.inl (by show (rows.length : Int) - 1 < rows.length; omega)) this
    have hr : r = (rows.length : Int) - 1 := by rw [← er, tag, hxa]; simp
    have hX : pickX mem rows = minI (mem.filter (ableP rows)) := by rw [pickX, if_neg hab]
    have hR : pickR mem rows = rows.dropLast ++ [rows.getLastD [] ++ [minI (mem.filter (ableP rows))]] := by rw [pickR, if_neg hab]
    have hxm : x' = minI (mem.filter (ableP rows)) := minI_eq (List.mem_filter.mpr ⟨hx, hxa⟩) fun y hy => by
      obtain ⟨hy1, hy2⟩ := List.mem_filter.mp hy
      have := hmin' y hy1
      have h1 : tag rows y = (rows.length : Int) - 1 := by rw [tag, hy2]; simp
      rw [h1, hr] at this
      simp only [lexlt, not_or, not_and] at this
      have := this.2 trivial
      omega
    have hl : ((pickR mem rows).length : Int) = r + 1 := by rw [hR, hr]; simp; omega
    refine ⟨hx, by rw [hX]; exact hxm, ?_, by omega, by omega, fun y hy => ?_, fun y => ?_⟩
    · rw [pushRow, if_neg (by omega), hR, hr, show ((rows.length : Int) - 1).toNat = rows.length - 1 by omega, set_last hne, getD_last hne, hxm]
    · rw [tag_new, hX, hl, hr]
      cases h : ableP rows y with
      | true =>
        rw [if_pos (minI_le (List.mem_filter.mpr ⟨hy, h⟩)), tag, h]; simp
      | false =>
        have h1 : ¬ lastN rows ≤ y := fun h2 => by
          have : ableP rows y = true := by simp [ableP, hne, h2]
          rw [h] at this; cases this
        rw [if_neg (by omega), tag, h]; simp
    · rw [tag_new, hX, ← hxm, hl]
      by_cases h : x' ≤ y <;> simp [h]
def rowsOf (out : List (Int × Int)) : List (List Int) := out.foldl (fun rows p => pushRow rows p.1 p.2) []
theorem rowsOf_snoc (out : List (Int × Int)) (p : Int × Int) : rowsOf (out ++ [p]) = pushRow (rowsOf out) p.1 p.2 := by simp [rowsOf]
def OutOk (out : List (Int × Int)) : Prop := ∀ k (h : k < out.length), 0 ≤ (out[k]).1 ∧ (out[k]).1 ≤ (rowsOf (out.take k)).length
theorem outOk_snoc {out : List (Int × Int)} {p : Int × Int} (h : OutOk out) (h1 : 0 ≤ p.1) (h2 : p.1 ≤ (rowsOf out).length) : OutOk (out ++ [p]) := by
  intro k hk
  rcases Nat.lt_or_ge k out.length with hlt | hge
  · rw [List.getElem_append_left hlt, List.take_append_of_le_length (Nat.le_of_lt hlt)]
    exact h k hlt
  · have e : k = out.length := by simp at hk; omega
    subst e
    rw [List.getElem_append_right (Nat.le_refl _)]
    simpa using ⟨h1, h2⟩
theorem runs_turn {n : Nat} {mem coming : List Int} {keys : List (Int × Int)} {out : List (Int × Int)} {r x : Int} (hn : n = mem.length + coming.length) (hk : keys.Perm (mem.map fun y => (tag (rowsOf out) y, y))) (ho : OutOk out)
    (hm : (r, x) ∈ keys) (hmin : ∀ p ∈ keys, ¬ lexlt p (r, x)) : ∃ n', n = n' + 1 ∧ OutOk (out ++ [(r, x)]) ∧
      runsF n mem coming (rowsOf out) = runsF n' (mem.erase x ++ coming.take 1) (coming.drop 1) (rowsOf (out ++ [(r, x)])) ∧ n' = (mem.erase x ++ coming.take 1).length + (coming.drop 1).length ∧
      ∀ ks, keys.Perm ((r, x) :: ks) → (coming = [] → ks.Perm ((mem.erase x ++ coming.take 1).map fun y => (tag (rowsOf (out ++ [(r, x)])) y, y))) ∧
        ∀ y rest, coming = y :: rest → (((if x ≤ y then r else r + 1), y) :: ks).Perm ((mem.erase x ++ coming.take 1).map fun y => (tag (rowsOf (out ++ [(r, x)])) y, y)) := by
  obtain ⟨hx, hX, hR, h0, h1, ht, hy⟩ := tag_step hk hm hmin
  have hne : mem ≠ [] := fun e => by rw [e] at hx; cases hx
  have hpos := List.length_pos_iff.mpr hne
  obtain ⟨n', rfl⟩ : ∃ n', n = n' + 1 := ⟨n - 1, by omega⟩
  have hp := List.perm_cons_erase hx
  have hl := hp.length_eq
  rw [List.length_cons] at hl
  have eR : rowsOf (out ++ [(r, x)]) = pickR mem (rowsOf out) := by rw [rowsOf_snoc]; exact hR
  refine ⟨n', rfl, outOk_snoc ho h0 h1, ?_, ?_, ?_⟩
  · rw [runsF, if_neg hne, ← hX, eR]
  · simp only [List.length_append, List.length_take, List.length_drop]; omega
  · intro ks hks
    rw [eR]
    have e1 : ks.Perm ((mem.erase x).map fun y => (tag (pickR mem (rowsOf out)) y, y)) := by
      have h2 : ((r, x) :: ks).Perm ((tag (rowsOf out) x, x) :: (mem.erase x).map fun y => (tag (rowsOf out) y, y)) := hks.symm.trans (hk.trans (hp.map _))
      obtain ⟨x', hx', e⟩ := List.mem_map.mp (hk.mem_iff.mp hm)
      obtain ⟨er, rfl⟩ := Prod.mk.inj e
      rw [er] at h2
      have h3 := h2.cons_inv
      have e4 : ((mem.erase x').map fun y => (tag (rowsOf out) y, y)) = (mem.erase x').map fun y => (tag (pickR mem (rowsOf out)) y, y) :=
        List.map_congr_left fun y hy => by rw [ht y (List.mem_of_mem_erase hy)]
      rw [← e4]; exact h3
    constructor
    · intro hc
      rw [hc]; simpa using e1
    · intro y rest hc
      rw [hc, List.take_succ_cons, List.take_zero, List.map_append, List.map_cons, List.map_nil, hy y]
      exact (e1.cons _).trans (List.perm_append_comm (l₁ := [_]))
theorem RowsAre.last {cs : List Cell} {rows : List (List Int)} (h : RowsAre cs rows) (hne : rows ≠ []) (hok : RowsOk rows) : 0 < (vals cs (cs.length - 1)).length ∧ ∃ t, (vals cs (cs.length - 1)).getD ((vals cs (cs.length - 1)).length - 1) .none = .int (lastN rows) t := by
  have hl := h.len
  have hpos := List.length_pos_iff.mpr hne
  have hr := h.row (k := cs.length - 1) (by omega)
  rw [← hl, getD_last hne] at hr
  rw [← hl]
  have hmem : rows.getLastD [] ∈ rows := by
    have e := rows_split hne
    have h9 : rows.getLastD [] ∈ rows.dropLast ++ [rows.getLastD []] := List.mem_append_right _ (.head _)
    rw [← e] at h9; exact h9
  have hne2 := (hok _ hmem).1
  have hlen := hr.length
  have hp2 := List.length_pos_iff.mpr hne2
  have hlt : (vals cs (rows.length - 1)).length - 1 < (vals cs (rows.length - 1)).length := by omega
  refine ⟨by omega, ?_⟩
  obtain ⟨x, t, e⟩ := isInt_of hr _ (getD_mem hlt)
  refine ⟨t, ?_⟩
  rw [e]
  have hv := ival_of hr
  have e2 : ((vals cs (rows.length - 1)).map ival).getD ((vals cs (rows.length - 1)).length - 1) 0 = ival ((vals cs (rows.length - 1)).getD ((vals cs (rows.length - 1)).length - 1) .none) := by simp [List.getD, hlt]
  rw [e, hv] at e2
  have e3 : (rows.getLastD []).getD ((vals cs (rows.length - 1)).length - 1) 0 = lastN rows := by
    rw [lastN, hlen]
    simp [List.getD, List.getLastD_eq_getLast?, List.getLast?_eq_getElem?]
  rw [e3] at e2
  have : x = lastN rows := e2.symm
  rw [this]
theorem take_filter_succ {l : List Int} {i : Nat} {y : Int} {f : Int → Bool} (h : l[i]? = some y) : (l.take (i + 1)).filter f = (l.take i).filter f ++ (if f y = true then [y] else []) := by
  rw [List.take_add_one, h, List.filter_append]
  congr 1
  cases hf : f y <;> simp [hf]
end runsP
end
section
section
open PySem.Spec PySem.SeqAt
def dRow (r : List Int) : PyData := .list (r.map PyData.int)
def dRows (rows : List (List Int)) : PyData := .list (rows.map dRow)
theorem readsAll_rows {h : Heap} : ∀ {cs : List Cell} {rows : List (List Int)}, (∀ p ∈ led cs, h.get? p.1 = some p.2) → RowsAre cs rows → ∃ as, ReadsAll h (refs cs) (rows.map dRow) as
  | [], rows, _, hr => by
    obtain rfl : rows = [] := by rw [← hr.2]; rfl
    exact ⟨[], .nil⟩
  | c :: cs, rows, hl, hr => by
    have e : rows = (c.2.1.map ival) :: cs.map (fun c => c.2.1.map ival) := by rw [← hr.2]; rfl
    obtain ⟨as, ih⟩ := readsAll_rows (h := h) (cs := cs) (rows := cs.map fun c => c.2.1.map ival) (fun p hp => hl p (.tail _ hp)) ⟨fun d hd => hr.1 d (.tail _ hd), rfl⟩
    have h1 := hl (c.1, W.listOf c.2.1.toArray c.2.2) (.head _)
    have h2 := reads_of_ints (PySem.IsL.isList (n := c.2.2) h1) (intsAre_of (hr.1 c (.head _)))
    rw [e]
    exact ⟨_, .cons h2 ih⟩
theorem reads_rows {h : Heap} {R : Addr} {n : Nat} {cs : List Cell} {rows : List (List Int)} (hR : h.get? R = some (W.listOf (refs cs).toArray n)) (hl : ∀ p ∈ led cs, h.get? p.1 = some p.2) (hr : RowsAre cs rows) : ∃ as, Reads h (.ref R) (dRows rows) as := by
  obtain ⟨as, h1⟩ := readsAll_rows hl hr
  exact ⟨_, Reads.list hR rfl rfl (by simpa using h1)⟩
theorem canLayAll0_rows : ∀ rows : List (List Int), PyData.canLayAll0 (rows.map dRow) = true
  | [] => by simp [PyData.canLayAll0]
  | r :: rs => by
    simp only [List.map_cons, PyData.canLayAll0, dRow, PyData.canLay0, canLayAll0_ints r, Bool.true_and]
    exact canLayAll0_rows rs
theorem depthAll_rows : ∀ rows : List (List Int), PyData.depthAll (rows.map dRow) ≤ 4
  | [] => by simp [PyData.depthAll]
  | r :: rs => by
    have h1 := depthAll_rows rs
    have h2 := W.depthAll_ints r
    simp only [List.map_cons, PyData.depthAll, dRow, PyData.depth]
    have h3 : PyData.depthAll (rs.map dRow) ≤ 4 := h1
    simp only [Nat.max_le]
    omega
theorem shaped_rows (rows : List (List Int)) : shaped (dRows rows) = true := by
  have h1 := depthAll_rows rows
  have h2 : PyData.depth (dRows rows) ≤ 64 := by simp only [dRows, PyData.depth]; omega
  show (PyData.canLay0 (dRows rows) && decide (PyData.depth (dRows rows) ≤ 64)) = true
  rw [Bool.and_eq_true]
  exact ⟨by simp only [dRows, PyData.canLay0]; exact canLayAll0_rows rows, decide_eq_true h2⟩
theorem noMix_rows : ∀ a b : List (List Int), noMixAll (a.map dRow) (b.map dRow) = true
  | [], [] => by simp [noMixAll]
  | [], _ :: _ => by simp [noMixAll]
  | _ :: _, [] => by simp [noMixAll]
  | x :: r, y :: q => by
    simp only [List.map_cons, noMixAll, dRow, noMix, noMix_ints x y, Bool.true_and]
    exact noMix_rows r q
theorem same_rows : ∀ a b : List (List Int), PySem.Spec.sameAll (a.map dRow) (b.map dRow) = decide (a = b)
  | [], [] => by simp [PySem.Spec.sameAll]
  | [], _ :: _ => by simp [PySem.Spec.sameAll]
  | _ :: _, [] => by simp [PySem.Spec.sameAll]
  | x :: r, y :: q => by
    have ih := same_rows r q
    simp only [List.map_cons, PySem.Spec.sameAll, ih]
    have h1 : PySem.Spec.same (dRow x) (dRow y) = decide (x = y) := by simp only [dRow, PySem.Spec.same]; exact same_ints x y
    rw [h1]
    by_cases h : x = y <;> simp [h]
end
section
variable {prog : Program} {w : World} {A : Around} {E : Value → Shared → Prop} {s : Shared} {h₀ : Heap} {L R R' : Addr} {n n' : Nat} {news : List (Addr × Obj)} {cs cs' : List Cell} {rows rows' : List (List Int)} {Q : Value → Shared → Prop}
theorem ne_rows (N : News h₀ L s.heap news) (hR : (R, W.listOf (refs cs).toArray n) ∈ news) (hl : ∀ p ∈ led cs, p ∈ news) (hr : RowsAre cs rows) (hR' : (R', W.listOf (refs cs').toArray n') ∈ news) (hl' : ∀ p ∈ led cs', p ∈ news) (hr' : RowsAre cs' rows') (hu : A.units + 64 < cLine)
    (h : Q (.bool (!decide (rows = rows'))) s) : wpAny (model prog w) A (compareOp .NotEq (.ref R) (.ref R')) Q E s := by
  obtain ⟨as, h1⟩ := reads_rows (N _ hR).1 (fun p hp => (N p (hl p hp)).1) hr
  obtain ⟨bs, h2⟩ := reads_rows (N _ hR').1 (fun p hp => (N p (hl' p hp)).1) hr'
  exact ne_dataH_same h1 h2 (shaped_rows _) (shaped_rows _) hu (by simp only [dRows, PySem.SeqAt.noMix]; exact noMix_rows _ _) (by simp only [dRows, PySem.Spec.same]; rw [same_rows]; exact h)
end
end
section
abbrev KF := Addr → Int × Int
def vkey (kf : KF) : Value → Int × Int
  | .ref b => kf b
  | _ => (0, 0)
def ltK (kf : KF) (x y : Value) : Bool := decide ((vkey kf x).1 < (vkey kf y).1 ∨ (vkey kf x).1 = (vkey kf y).1 ∧ (vkey kf x).2 < (vkey kf y).2)
theorem wo_K (kf : KF) : WO (ltK kf) := ⟨fun x y h => by simp only [ltK, decide_eq_true_eq, decide_eq_false_iff_not] at *; omega, fun x y z h1 h2 => by simp only [ltK, decide_eq_false_iff_not] at *; omega⟩
theorem ltK_lex {kf : KF} {x y : Value} : ltK kf x y = false ↔ ¬ lexlt (vkey kf x) (vkey kf y) := by simp [ltK, lexlt]
inductive IsTup (its : List (Addr × Obj)) (kf : KF) (v : Value) : Prop
  | mk (b : Addr) (t u : Tok) (n : Nat) (h : v = .ref b) (hm : (b, tup2 (kf b).1 (kf b).2 t u n) ∈ its) : IsTup its kf v
theorem cmp_tup {prog : Program} {w : World} {g : Heap} {its : List (Addr × Obj)} {kf : KF} (h : ∀ q ∈ its, g.get? q.1 = some q.2) : Cmp prog w g (IsTup its kf) (ltK kf) := by
  rintro x y ⟨a, t, u, n, rfl, ha⟩ ⟨b, t', u', n', rfl, hb⟩ A s Q E hu hk hq
  exact lt_tup2 (hk _ _ (h _ ha)) (hk _ _ (h _ hb)) hu (hq s.toks)
def kfUp (kf : KF) (b : Addr) (k : Int × Int) : KF := fun a => if a = b then k else kf a
theorem kfUp_new (kf : KF) (b : Addr) (k : Int × Int) : kfUp kf b k b = k := by simp [kfUp]
theorem vkey_up {its : List (Addr × Obj)} {kf : KF} {b : Addr} {k : Int × Int} (hb : ∀ q ∈ its, q.1 ≠ b) {v : Value} (hv : IsTup its kf v) : vkey (kfUp kf b k) v = vkey kf v := by
  obtain ⟨c, t, u, n, rfl, hc⟩ := hv
  have : c ≠ b := hb _ hc
  simp [vkey, kfUp, this]
theorem isTup_up {its : List (Addr × Obj)} {kf : KF} {b : Addr} {k : Int × Int} {o : Obj} (hb : ∀ q ∈ its, q.1 ≠ b) {v : Value} (hv : IsTup its kf v) : IsTup ((b, o) :: its) (kfUp kf b k) v := by
  obtain ⟨c, t, u, n, rfl, hc⟩ := hv
  have : c ≠ b := hb _ hc
  exact ⟨c, t, u, n, rfl, by simp only [kfUp, this, if_false]; exact .tail _ hc⟩
theorem isTup_new {its : List (Addr × Obj)} {kf : KF} {b : Addr} {i j : Int} {t u : Tok} {n : Nat} : IsTup ((b, tup2 i j t u n) :: its) (kfUp kf b (i, j)) (.ref b) := ⟨b, t, u, n, rfl, by rw [kfUp_new]; exact .head _⟩
theorem heapAt_congr {lt lt' : Value → Value → Bool} {s : Nat} {vs : List Value} (h : ∀ v ∈ vs, ∀ w ∈ vs, lt' v w = lt v w) (hp : HeapAt lt s vs) : HeapAt lt' s vs := by
  intro i h1 h2 h3
  rw [h _ (getD_mem h2) _ (getD_mem (by omega))]
  exact hp i h1 h2 h3
theorem heapAt_up {its : List (Addr × Obj)} {kf : KF} {b : Addr} {k : Int × Int} {s : Nat} {vs : List Value} (hb : ∀ q ∈ its, q.1 ≠ b) (hv : ∀ v ∈ vs, IsTup its kf v) (h : HeapAt (ltK kf) s vs) : HeapAt (ltK (kfUp kf b k)) s vs :=
  heapAt_congr (fun v h1 w h2 => by simp only [ltK, vkey_up hb (hv v h1), vkey_up hb (hv w h2)]) h
theorem keys_up {its : List (Addr × Obj)} {kf : KF} {b : Addr} {k : Int × Int} {vs : List Value} (hb : ∀ q ∈ its, q.1 ≠ b) (hv : ∀ v ∈ vs, IsTup its kf v) : vs.map (vkey (kfUp kf b k)) = vs.map (vkey kf) :=
  List.map_congr_left fun v h => vkey_up hb (hv v h)
theorem hrep_perm {lt : Value → Value → Bool} {vs : List Value} {x : Value} (h : 0 < vs.length) : ((hrep lt vs x).1 :: (hrep lt vs x).2).Perm (x :: vs) := by
  refine List.Perm.trans (List.Perm.cons _ ?_) (set_perm_cons h)
  exact sup_perm (by simpa using h)
theorem hrep_heap {lt : Value → Value → Bool} (o : WO lt) {vs : List Value} {x : Value} (h : 0 < vs.length) (hp : HeapAt lt 0 vs) : HeapAt lt 0 (hrep lt vs x).2 :=
  sup_heap o (by simpa using h) (heap_set0 hp)
theorem hrep_len {lt : Value → Value → Bool} {vs : List Value} {x : Value} (h : 0 < vs.length) : (hrep lt vs x).2.length = vs.length := by
  have := (hrep_perm (lt := lt) (x := x) h).length_eq
  simpa using this
theorem hfyFrom_perm {lt : Value → Value → Bool} : ∀ (k : Nat) (vs : List Value), k ≤ vs.length → (hfyFrom lt k vs).Perm vs
  | 0, _, _ => .refl _
  | k + 1, vs, h => by
    rw [hfyFrom]
    have e := sup_perm (lt := lt) (pos := k) (vs := vs) (by omega)
    exact (hfyFrom_perm k _ (by rw [e.length_eq]; omega)).trans e
theorem hfy_perm {lt : Value → Value → Bool} (vs : List Value) : (hfy lt vs).Perm vs := hfyFrom_perm _ _ (by omega)
theorem hfyFrom_heap {lt : Value → Value → Bool} (o : WO lt) : ∀ (k : Nat) (vs : List Value), k ≤ vs.length → HeapAt lt k vs → HeapAt lt 0 (hfyFrom lt k vs)
  | 0, _, _, h => h
  | k + 1, vs, hk, h => by
    rw [hfyFrom]
    have e := sup_perm (lt := lt) (pos := k) (vs := vs) (by omega)
    exact hfyFrom_heap o k _ (by rw [e.length_eq]; omega) (sup_heap o (by omega) h)
theorem hfy_heap {lt : Value → Value → Bool} (o : WO lt) (vs : List Value) : HeapAt lt 0 (hfy lt vs) :=
  hfyFrom_heap o _ _ (by omega) fun i h1 h2 h3 => absurd h3 (by omega)
end
section
section putP
def sortN (l : List Nat) : List Nat := l.foldr insN []
theorem sortN_perm : ∀ l, (sortN l).Perm l
  | [] => .refl _
  | a :: r => (insN_perm a (sortN r)).trans ((sortN_perm r).cons a)
theorem sortN_sorted : ∀ l, (sortN l).Pairwise (· ≤ ·)
  | [] => .nil
  | a :: r => insN_sorted (sortN_sorted r)
def hufOf (l : List Nat) : Nat := hufS (sortN l)
theorem sortN_eq {l l' : List Nat} (h : l.Perm l') : sortN l = sortN l' :=
  sorted_unique ((sortN_perm l).trans (h.trans (sortN_perm l').symm)) (sortN_sorted l) (sortN_sorted l')
theorem hufOf_perm {l l' : List Nat} (h : l.Perm l') : hufOf l = hufOf l' := by rw [hufOf, hufOf, sortN_eq h]
theorem hufOf_sorted {l z : List Nat} (h : z.Perm l) (hs : z.Pairwise (· ≤ ·)) : hufOf l = oc z := by
  rw [hufOf, ← huf_oc hs]
  congr 1
  exact sorted_unique ((sortN_perm l).trans h.symm) (sortN_sorted l) hs
theorem hufOf_step {l : List Nat} {a b : Nat} {r : List Nat} (h : l.Perm (a :: b :: r)) (ha : ∀ x ∈ b :: r, a ≤ x) (hb : ∀ x ∈ r, b ≤ x) : hufOf l = (a + b) + hufOf ((a + b) :: r) := by
  have hs : (a :: b :: sortN r).Pairwise (· ≤ ·) := by
    refine List.pairwise_cons.mpr ⟨fun x hx => ?_, List.pairwise_cons.mpr ⟨fun x hx => hb x ((sortN_perm r).mem_iff.mp hx), sortN_sorted r⟩⟩
    rcases List.mem_cons.mp hx with rfl | hx
    · exact ha _ (.head _)
    · exact ha x (.tail _ ((sortN_perm r).mem_iff.mp hx))
  have e : sortN l = a :: b :: sortN r := sorted_unique ((sortN_perm l).trans (h.trans ((((sortN_perm r).symm.cons b).cons a)))) (sortN_sorted l) hs
  rw [hufOf, e, hufS]
  rfl
theorem hufOf_short {l : List Nat} (h : l.length < 2) : hufOf l = 0 := by
  match l, h with
  | [], _ => simp [hufOf, sortN, hufS]
  | [a], _ => simp [hufOf, sortN, insN, hufS]
def cel (ix : List Nat) (p : Int × Int) : Nat := ix.getD p.2.toNat 0
structure Live (cp : List Cell) (ix : List Nat) (keys : List (Int × Int)) (ns : List Int) : Prop where
  key : ∀ p ∈ keys, 0 ≤ p.2 ∧ p.2.toNat < ix.length ∧ p.1 = ((vals cp (cel ix p)).length : Int) ∧ Rising ltI (vals cp (cel ix p))
  ixs : ∀ c ∈ ix, c < cp.length
  itg : ∀ k, k < cp.length → ∀ v ∈ vals cp k, IsInt v
  nd : (keys.map (cel ix)).Nodup
  all : (((keys.map (cel ix)).flatMap (vals cp)).map ival).Perm ns
  last : keys ≠ [] → ∃ p ∈ keys, p.2.toNat + 1 = ix.length
theorem Live.perm {cp : List Cell} {ix : List Nat} {keys keys' : List (Int × Int)} {ns : List Int} (h : Live cp ix keys ns) (hp : keys.Perm keys') : Live cp ix keys' ns :=
  ⟨fun p hq => h.key p (hp.mem_iff.mpr hq), h.ixs, h.itg, ((hp.map _).nodup_iff).mp h.nd, ((((hp.map _).flatMap_right _).map _).symm).trans h.all,
    fun hne => by
      obtain ⟨p, hq, e⟩ := h.last fun e0 => hne (by rw [e0] at hp; exact hp.nil_eq.symm)
      exact ⟨p, hp.mem_iff.mp hq, e⟩⟩
theorem cel_lt {ix : List Nat} {p : Int × Int} (h : p.2.toNat < ix.length) : cel ix p ∈ ix := by
  simp [cel, List.getD, h]
theorem cel_snoc {ix : List Nat} {p : Int × Int} {c : Nat} (h : p.2.toNat < ix.length) : cel (ix ++ [c]) p = cel ix p := by
  simp [cel, List.getD, List.getElem?_append_left h]
theorem cel_new {ix : List Nat} {c : Nat} {l : Int} : cel (ix ++ [c]) (l, (ix.length : Int)) = c := by simp [cel, List.getD]
theorem Live.join {cp : List Cell} {ix : List Nat} {p1 p2 : Int × Int} {ks : List (Int × Int)} {ns : List Int} (h : Live cp ix (p1 :: p2 :: ks) ns) {zs : List Value} {n' : Nat} (hz : Rising ltI zs) (hp : zs.Perm (vals cp (cel ix p1) ++ vals cp (cel ix p2))) :
    Live (cp.set (cel ix p1) (adr cp (cel ix p1), zs, n')) (ix ++ [cel ix p1]) (((zs.length : Int), (ix.length : Int)) :: ks) ns := by
  obtain ⟨h1, h2, h3, h4⟩ := h.key p1 (.head _)
  have hc1 : cel ix p1 < cp.length := h.ixs _ (cel_lt h2)
  obtain ⟨g1, g2, g3, g4⟩ := h.key p2 (.tail _ (.head _))
  have hc2 : cel ix p2 < cp.length := h.ixs _ (cel_lt g2)
  have hnd := h.nd
  rw [List.map_cons, List.map_cons, List.nodup_cons, List.nodup_cons] at hnd
  obtain ⟨n1, n2, n3⟩ := hnd
  have hne : ∀ q ∈ ks, cel ix p1 ≠ cel ix q := fun q hq e => n1 (.tail _ (List.mem_map.mpr ⟨q, hq, e.symm⟩))
  have hks : ks.map (cel (ix ++ [cel ix p1])) = ks.map (cel ix) := List.map_congr_left fun q hq => cel_snoc (h.key q (.tail _ (.tail _ hq))).2.1
  have hself := vals_set_self (cs := cp) (k := cel ix p1) (vs' := zs) (n' := n') hc1 (a := adr cp (cel ix p1))
  refine ⟨fun p hq => ?_, fun c hc => ?_, fun k hk v hv => ?_, ?_, ?_, fun _ => ⟨_, .head _, by simp⟩⟩
  · rcases List.mem_cons.mp hq with rfl | hq
    · rw [cel_new, hself]
      refine ⟨by omega, by simp, rfl, hz⟩
    · obtain ⟨a1, a2, a3, a4⟩ := h.key p (.tail _ (.tail _ hq))
      rw [cel_snoc a2, vals_set_ne (hne p hq)]
      exact ⟨a1, by rw [List.length_append]; omega, a3, a4⟩
  · rw [List.length_set]
    rcases List.mem_append.mp hc with hc | hc
    · exact h.ixs c hc
    · rw [List.mem_singleton.mp hc]; exact hc1
  · rw [List.length_set] at hk
    by_cases e : cel ix p1 = k
    · subst e
      rw [hself] at hv
      rcases List.mem_append.mp (hp.mem_iff.mp hv) with hv | hv
      · exact h.itg _ hc1 v hv
      · exact h.itg _ hc2 v hv
    · rw [vals_set_ne e] at hv
      exact h.itg k hk v hv
  · rw [List.map_cons, cel_new, hks, List.nodup_cons]
    exact ⟨fun hm => n1 (.tail _ hm), n3⟩
  · rw [List.map_cons, cel_new, hks, List.flatMap_cons, hself]
    have e : (ks.map (cel ix)).flatMap (vals (cp.set (cel ix p1) (adr cp (cel ix p1), zs, n'))) = (ks.map (cel ix)).flatMap (vals cp) := by
      rw [List.flatMap_def, List.flatMap_def, List.map_map, List.map_map]
      congr 1
      exact List.map_congr_left fun q hq => vals_set_ne (hne q hq)
    rw [e]
    refine List.Perm.trans (((hp.append_right _)).map _) ?_
    have := h.all
    rw [List.map_cons, List.map_cons, List.flatMap_cons, List.flatMap_cons, ← List.append_assoc] at this
    exact this
theorem lens_step {keys ks : List (Int × Int)} {p1 p2 : Int × Int} (h : keys.Perm (p1 :: p2 :: ks)) (h0 : ∀ p ∈ keys, 0 ≤ p.1) (h1 : ∀ p ∈ p2 :: ks, ¬ lexlt p p1) (h2 : ∀ p ∈ ks, ¬ lexlt p p2) :
    hufOf (keys.map fun p => p.1.toNat) = (p1.1.toNat + p2.1.toNat) + hufOf ((p1.1.toNat + p2.1.toNat) :: ks.map fun p => p.1.toNat) := by
  have key : ∀ p q : Int × Int, ¬ lexlt p q → q.1 ≤ p.1 := fun p q hn => by
    simp only [lexlt, not_or] at hn
    omega
  refine hufOf_step (h.map _) (fun x hx => ?_) (fun x hx => ?_)
  · rw [← List.map_cons (f := fun p : Int × Int => p.1.toNat)] at hx
    obtain ⟨p, hp, rfl⟩ := List.mem_map.mp hx
    have := key _ _ (h1 p hp)
    omega
  · obtain ⟨p, hp, rfl⟩ := List.mem_map.mp hx
    have := key _ _ (h2 p hp)
    omega
inductive InsStep (cur : List Value) (x : Value) (p pl : Nat) : Prop
  | mk (h1 : p ≤ pl) (h2 : pl ≤ cur.length) (h3 : Rising ltI (insAt cur pl x)) (h4 : ∀ j, j < pl → ltI x ((insAt cur pl x).getD j .none) = false) : InsStep cur x p pl
theorem ins_step {cur : List Value} {x : Value} {p : Nat} (hr : Rising ltI cur) (hp : p ≤ cur.length) (hlo : ∀ j, j < p → ltI x (cur.getD j .none) = false) : InsStep cur x p (bisR ltI x cur p cur.length) := by
  obtain ⟨a1, a2, a3, a4⟩ := bisR_spec (rising_monoR wo_int hr x) p cur.length hp (Nat.le_refl _) hlo (fun i h1 h2 => absurd h2 (by omega))
  refine ⟨a1, a2, insAt_rising hr (fun i hi _ => a3 i hi) (fun i h1 h2 => wo_int.asym _ _ (a4 i h1 h2)), fun j hj => ?_⟩
  have e : (insAt cur (bisR ltI x cur p cur.length) x).getD j .none = cur.getD j .none := by
    simp only [insAt, List.getD]
    rw [List.getElem?_append_left (by rw [List.length_take]; omega), List.getElem?_take_of_lt hj]
  rw [e]
  exact a3 j hj
def rfs (cp : List Cell) (ix : List Nat) : List Value := ix.map fun c => .ref (adr cp c)
theorem rfs_len {cp : List Cell} {ix : List Nat} : (rfs cp ix).length = ix.length := by simp [rfs]
theorem rfs_range (cp : List Cell) : rfs cp (List.range cp.length) = refs cp := by
  apply List.ext_getElem
  · simp [rfs, refs]
  · intro i h1 h2
    have hi : i < cp.length := by simpa [refs] using h2
    simp [rfs, refs, adr, List.getD, hi]
theorem rfs_set {cp : List Cell} {ix : List Nat} {k : Nat} {vs' : List Value} {n' : Nat} : rfs (cp.set k (adr cp k, vs', n')) ix = rfs cp ix := by
  unfold rfs
  exact List.map_congr_left fun c _ => by rw [adr_set]
theorem rfs_getD {cp : List Cell} {ix : List Nat} {k : Nat} (h : k < ix.length) : (rfs cp ix).getD k .none = .ref (adr cp (ix.getD k 0)) := by
  simp [rfs, List.getD, h]
theorem rising_ints {vs : List Value} : Rising ltI vs ↔ (vs.map ival).Pairwise (· ≤ ·) := by
  unfold Rising
  rw [List.pairwise_map]
  constructor
  · intro h; exact h.imp fun hab => by simp only [ltI, decide_eq_false_iff_not] at hab; omega
  · intro h; exact h.imp fun hab => by simp only [ltI, decide_eq_false_iff_not]; omega
theorem RowsAre.vals_map {cs : List Cell} {rows : List (List Int)} (h : RowsAre cs rows) : (List.range cs.length).map (fun k => (vals cs k).map ival) = rows := by
  rw [← h.2]
  apply List.ext_getElem
  · simp
  · intro i h1 h2
    have hi : i < cs.length := by simpa using h2
    simp [vals, List.getD, hi]
theorem live_init {cp : List Cell} {rows : List (List Int)} {ns : List Int} (h : RowsAre cp rows) (hris : ∀ r ∈ rows, r.Pairwise (· ≤ ·)) (hfl : rows.flatten.Perm ns) :
    Live cp (List.range cp.length) ((List.range cp.length).map fun k => (((vals cp k).length : Int), (k : Int))) ns := by
  have hc : ∀ k, k < cp.length → cel (List.range cp.length) (((vals cp k).length : Int), (k : Int)) = k := fun k hk => by simp [cel, List.getD, hk]
  have hm : ((List.range cp.length).map fun k => (((vals cp k).length : Int), (k : Int))).map (cel (List.range cp.length)) = List.range cp.length := by
    rw [List.map_map]
    conv => rhs; rw [← List.map_id (List.range cp.length)]
    exact List.map_congr_left fun k hk => hc k (List.mem_range.mp hk)
  refine ⟨fun p hp => ?_, fun c hc => List.mem_range.mp hc, fun k hk v hv => isInt_of (h.row hk) v hv, by rw [hm]; exact List.nodup_range, ?_, fun hne => ?_⟩
  · obtain ⟨k, hk, rfl⟩ := List.mem_map.mp hp
    have hk' := List.mem_range.mp hk
    rw [hc k hk']
    refine ⟨by omega, by simpa using hk', rfl, rising_ints.mpr ?_⟩
    rw [ival_of (h.row hk')]
    refine hris _ ?_
    have : k < rows.length := by rw [h.len]; exact hk'
    simp only [List.getD, this, List.getElem?_eq_getElem, Option.getD_some]
    exact List.getElem_mem _
  · rw [hm]
    refine List.Perm.trans (List.Perm.of_eq ?_) hfl
    rw [← h.vals_map, List.flatMap_def, List.map_flatten, List.map_map]
    rfl
  · have hpos : 0 < cp.length := by
      rcases Nat.eq_zero_or_pos cp.length with h0 | h0
      · rw [h0] at hne; exact absurd rfl hne
      · exact h0
    exact ⟨_, List.mem_map.mpr ⟨cp.length - 1, List.mem_range.mpr (by omega), rfl⟩, by simp; omega⟩
theorem lens_init {cp : List Cell} {rows : List (List Int)} (h : RowsAre cp rows) : ((List.range cp.length).map fun k => (((vals cp k).length : Int), (k : Int))).map (fun p => p.1.toNat) = rows.map List.length := by
  rw [← h.vals_map, List.map_map, List.map_map]
  exact List.map_congr_left fun k _ => by simp
def ledO (cs : List Cell) (k : Nat) : List (Addr × Obj) := (led cs).eraseIdx k
theorem ledO_mem {cs : List Cell} {k : Nat} {p : Addr × Obj} (h : p ∈ ledO cs k) : p ∈ led cs := List.mem_of_mem_eraseIdx h
theorem ledO_ne {cs : List Cell} {k : Nat} {p : Addr × Obj} (hn : (cs.map (·.1)).Nodup) (hk : k < cs.length) (h : p ∈ ledO cs k) : p.1 ≠ adr cs k := by
  obtain ⟨i, hi, hne, e⟩ := List.mem_eraseIdx_iff_getElem.mp h
  have hi' : i < cs.length := by rw [led_len] at hi; exact hi
  intro e2
  have h1 : (cs.map (·.1))[i]'(by simpa using hi') = (cs.map (·.1))[k]'(by simpa using hk) := by
    rw [List.getElem_map, List.getElem_map]
    have h2 : (led cs)[i].1 = cs[i].1 := by simp [led]
    rw [← h2, e, e2, cell_at hk]
  rcases Nat.lt_or_gt_of_ne hne with h3 | h3
  · exact List.pairwise_iff_getElem.mp hn i k _ _ h3 h1
  · exact List.pairwise_iff_getElem.mp hn k i _ _ h3 h1.symm
theorem ledO_has {cs : List Cell} {k j : Nat} (hj : j < cs.length) (hne : j ≠ k) : (adr cs j, W.listOf (vals cs j).toArray (cnt cs j)) ∈ ledO cs k := by
  refine List.mem_eraseIdx_iff_getElem.mpr ⟨j, by rw [led_len]; exact hj, hne, ?_⟩
  simp only [led, List.getElem_map]
  rw [cell_at hj]
theorem led_set {cs : List Cell} {k : Nat} {vs' : List Value} {n' : Nat} {p : Addr × Obj} (h : p ∈ led (cs.set k (adr cs k, vs', n'))) : p = (adr cs k, W.listOf vs'.toArray n') ∨ p ∈ ledO cs k := by
  obtain ⟨c, hc, rfl⟩ := List.mem_map.mp h
  obtain ⟨i, hi, e⟩ := List.mem_iff_getElem.mp hc
  rw [List.length_set] at hi
  by_cases hik : i = k
  · subst hik
    rw [List.getElem_set_self] at e
    subst e
    exact .inl rfl
  · rw [List.getElem_set_ne (Ne.symm hik)] at e
    subst e
    refine .inr ?_
    rw [cell_at hi]
    exact ledO_has hi hik
theorem rfs_snoc {cp : List Cell} {ix : List Nat} {c : Nat} : rfs cp (ix ++ [c]) = rfs cp ix ++ [.ref (adr cp c)] := by simp [rfs]
theorem live_two {cp : List Cell} {ix : List Nat} {p1 p2 : Int × Int} {ks : List (Int × Int)} {ns : List Int} (h : Live cp ix (p1 :: p2 :: ks) ns) : (vals cp (cel ix p1)).length + (vals cp (cel ix p2)).length ≤ ns.length := by
  have := h.all.length_eq
  simp only [List.map_cons, List.flatMap_cons, List.map_append, List.length_append, List.length_map] at this
  omega
end putP
end
section
section
variable {prog : Program} {w : World} {A A₀ : Around} {s : Shared} {base h₀ : Heap} {outer : List Env} {env : Env} {L : Addr} {m : Str → Option Value} {own rest : List (Addr × Obj)} {K : Frag}
  {p : Program} {loose : List Str} {mean : ExcName → Option Value} {mg mb : Str → Option Value} {d : Nat} {Q : Value → Shared → Prop} {E : Value → Shared → Prop}
  {name qual : Str} {params : Arguments} {body : List Stmt} {scope : Scope} {dV kV doc pm cdv ct oc : Value} {an od : Option Addr} {osl : Array (Option Value)} {f : Addr} {args : List Value} {kw : List (Str × Value)} {binds : List (Str × Value)}
theorem call_atTC (C : At K p loose mean mg mb A h₀ L (d + 1)) (B : Below A₀ base [] h₀) (hA : A.frames = some [env]) (hf : env.frame = some L) (hke : env.scope.kind = .function) (F : Fr h₀ L s.heap m) (N : News h₀ L s.heap (own ++ rest)) (hsep : ∀ p ∈ own, ∀ q ∈ rest, p.1 ≠ q.1)
    (ho : K.lookup f = some ⟨oc, od, .func (fnOf name qual params body scope dV kV doc pm an cdv ct), osl⟩) (hcd : codeIn K cdv qual = true)
    (hbind : BindsTo s (fnOf name qual params body scope dV kV doc pm an cdv ct) ⟨args, kw⟩ binds) (hkind : (binds.all fun y => scope.names.lookup y.1 == some .local || scope.names.lookup y.1 == some .cell) = true)
    (hnd : ((cellsFrom 0 scope.names []).map (·.1)).Nodup)
    (h : ∀ g L' h₁ tk cells, At K p loose mean mg mb (A.deeper (envOfC qual scope L' f cdv)) g L' d → Below A base [env] g → KtsDicts ([env].filterMap (·.frame)) g → Fr g L' h₁ (bindL (envOfC qual scope L' f cdv).kindOf binds fun _ => none) → News g L' h₁ (cells ++ own) →
      CellsAre (bindC (envOfC qual scope L' f cdv).kindOf binds fun _ => none) (cellsFrom (L' + 1) scope.names []) cells → (∀ q ∈ rest, g.get? q.1 = some q.2) → h₀.StaysIn g → (∀ p ∈ own, @LT.lt Nat _ p.1 L') →
      wpAny (model prog w) (A.deeper (envOfC qual scope L' f cdv)) (execs body (envOfC qual scope L' f cdv))
        (fun fl s' => LeaveT ([env].filterMap (·.frame)) h₀ L m g rest (fun r s' => match r with | .ok (.ret v) => Q v s' | .ok _ => False | .error e => E e s') (match fl with | .ret v => v | _ => .none) s')
        (fun e s' => wpAny (model prog w) (A.deeper (envOfC qual scope L' f cdv)) (leaving (envOfC qual scope L' f cdv) e) (fun _ s'' => E e s'') (fun e' s'' => E e' s'') s')
        { s with heap := h₁, toks := tk })
    (hco : scope.isCoroutine = false) (hgen : scope.isGenerator = false) (hk : scope.kind = .function) : wpAny (model prog w) A (call (.ref f) args kw) Q E s := by
  obtain ⟨_, X, T, hd, hu, hh⟩ := C
  have N' : News h₀ L s.heap own := fun q hq => N q (List.mem_append_left _ hq)
  have hfs : [env].filterMap (·.frame) = [L] := by simp [hf]
  refine wpAny_call ?_
  obtain ⟨FG, BG, st, lv⟩ := groundX (R := fun r s' => match r with | .ok (.ret v) => Q v s' | .ok _ => False | .error e => E e s') B F N' hA hf hke
  have hrest : ∀ q ∈ rest, (hideAll s.heap (own.map (·.1))).get? q.1 = some q.2 := fun q hq =>
    hideAll_get _ (N q (List.mem_append_right _ hq)).1 fun hm => by
      obtain ⟨p, hp, e⟩ := List.mem_map.mp hm
      exact hsep p hp q hq e
  obtain ⟨oL, es, ep, hLg, hLd, hLk, hLf⟩ := id FG.ns
  refine codeAny_call_function (by omega) ((X.keeps F.keep) _ _ ho) rfl hco hgen rfl (codeRec_of (X.keeps F.keep) hcd) (hbind _ _ _ _ ?_)
  refine wpAny_newFunctionEnv_cells hk (kindsX hkind _) fun env' he s' x => ?_
  subst he
  refine ⟨(T.nolimit.keeps F.keep).keeps x.toInCall.keep, codeAny_func ?_⟩
  obtain ⟨h₁, tk, rfl, _⟩ := x.done
  have hk₁ := x.toInCall.keep
  obtain ⟨cells, NC, Y⟩ := Cl.news (h₀ := s.heap) (Nat.le_refl _) fun n c hm => ⟨x.cell n c (lookup_of_mem_nodup (cellsFrom_names scope.names 0 (s.heap.objs.size + 1) [] [] rfl ▸ hnd) hm), x.above n c hm⟩
  refine wpAny_mono (h (hideAll s.heap (own.map (·.1))) s.heap.objs.size h₁ tk cells ?_ BG (fun b hb => ?_) ⟨x.toInCall.ns, fun b o e => hk₁ b o (of_hideAll _ e), Nat.le_of_eq (hideAll_size _ _)⟩ (fun p hp => ?_) Y hrest st (fun p hp => Heap.lt_size (N' p hp).1)) (fun fl s' hl => ?_) fun _ _ y => y
  · refine ⟨⟨A, base, [env], envOfC qual scope s.heap.objs.size f cdv, BG, ?_, rfl, hk⟩, X.keeps st, T.keeps st, ?_, ?_, hh⟩
    · show Option.map _ A.frames = _
      rw [hA]; rfl
    · show A.depth + 1 + d < _
      omega
    · show A.units + 3 + 16 * d + 16 < _
      omega
  · rw [hfs] at hb
    obtain rfl := List.mem_singleton.mp hb
    exact ⟨oL, es, ep, hLg, hLd⟩
  · rcases List.mem_append.mp hp with hp | hp
    · refine ⟨(NC p hp).1, (NC p hp).2.1, ?_⟩
      cases q : (hideAll s.heap (own.map (·.1))).get? p.1 with
      | none => rfl
      | some o => have := of_hideAll _ q; rw [(NC p hp).2.2] at this; cases this
    · exact ⟨hk₁ _ _ (N' p hp).1, Nat.ne_of_lt (Heap.lt_size (N' p hp).1), hideAll_none _ (List.mem_map_of_mem hp)⟩
  · obtain ⟨g', L', m', own', T', F', N'', k⟩ := hl
    rw [hfs] at T'
    have nL₀ : h₀.get? L = none := kts_self F
    obtain ⟨sl, hs⟩ := T'.up hLg
    have hrest' : ∀ q ∈ rest, g'.get? q.1 = some q.2 := fun q hq => T'.other _ _ (hrest q hq) (fun hm => (N q (List.mem_append_right _ hq)).2.1 (List.mem_singleton.mp hm))
    refine k ⟨⟨_, es, ep, F'.keep _ _ hs, hLd, hLk, hLf⟩, fun b o e => F'.keep b o (T'.other b o (st b o e) (fun q => ?_)), F.above⟩ (fun q hq => ?_) fun q hq r hr e => ?_
    · rw [List.mem_singleton.mp q, nL₀] at e; cases e
    · rcases List.mem_append.mp hq with hq | hq
      · refine ⟨(N'' q hq).1, fun z => ?_, ?_⟩
        · have := (N'' q hq).2.2; rw [z, hs] at this; cases this
        · cases z : h₀.get? q.1 with
          | none => rfl
          | some o =>
            obtain ⟨sl', hs'⟩ := T'.up (st _ _ z)
            have := (N'' q hq).2.2
            rw [hs'] at this
            cases this
      · exact ⟨F'.keep _ _ (hrest' q hq), (N q (List.mem_append_right _ hq)).2⟩
    · have h1 := (N'' q hq).2.2
      rw [e, hrest' r hr] at h1
      cases h1
end
section
variable {prog : Program} {w : World} {A₀ : Around} {E : Value → Shared → Prop} {s' : Shared} {base g g₀ G : Heap} {outer : List Env} {L a e : Addr} {m : Str → Option Value} {name : Str} {scope : Scope} {cd : Value} {cl : List (Str × Addr)}
  {b₀ : Stmt} {suite : List Stmt} {pos np : Pos} {hds : List ExceptHandler} {Q : Flow → Shared → Prop} {news more : List (Addr × Obj)} {KK : Frag}
  {p : Program} {loose : List Str} {mean : ExcName → Option Value} {mg mb : Str → Option Value} {x : Str} {X T' : String}
theorem caughtX (R : RaisedSN base G (envX name scope L a cd cl :: outer) e (.type X) news s'.heap) (F : Fr g L G m) (B : Below A₀ base outer g) (hsm : G.UpToSlots s'.heap) (XB : KK.In base) (TB : Top p loose mean mg mb base)
    (D : KtsDicts (outer.filterMap (·.frame)) g) (T0 : KtsTurn (outer.filterMap (·.frame)) g₀ g) (hmore : ∀ q ∈ more, G.get? q.1 = some q.2 ∧ q.1 ≠ L ∧ g.get? q.1 = none)
    (ex : nsIn KK mainGlobals x = some none) (hv : bootBuiltins x = some (.type T')) (hn' : x ≠ "__name__")
    (hexc : isSubtype (.type T') (.type "BaseException") = pure true) (hnt : isSubtype (.type ((Manifest.find? T').elim "type" fun y => y.metatype)) (.type "tuple") = pure false) (hsub : isSubtype (.type X) (.type T') = pure true)
    (k : ∀ h' g', KtsTurn (outer.filterMap (·.frame)) g₀ g' → Fr g' L h' m → News g' L h' (news ++ more) → Below A₀ base outer g' → KK.In g' → Top p loose mean mg mb g' → KtsDicts (outer.filterMap (·.frame)) g' →
      wpAny (model prog w) ((A₀.deeper (envX name scope L a cd cl)).mark (some (.ref e))) (execs (b₀ :: suite) (envX name scope L a cd cl)) Q E { s' with heap := h' })
    (hk : scope.kind = .function := by rfl) (hx : (envX name scope L a cd cl).kindOf x = some .globalImplicit := by rfl) (hd : (x == ("__debug__" : Str)) = false := by decide)
    (hE : PassesOwnAt (model prog w) ((A₀.deeper (envX name scope L a cd cl)).mark (some (.ref e))) (A₀.deeper (envX name scope L a cd cl)) (envX name scope L a cd cl) E := by passes_own) :
    wpAny (model prog w) (A₀.deeper (envX name scope L a cd cl)) (noteFrame (.ref e) (envX name scope L a cd cl))
      (fun _ s₂ => wpAny (model prog w) (A₀.deeper (envX name scope L a cd cl)) (setFlight (.ref e) none) (fun _ s₃ =>
        wpAny (model prog w) (A₀.deeper (envX name scope L a cd cl)) (handleBy (.ref e) (envX name scope L a cd cl) (.ExceptHandler (some (.Name x np)) none (b₀ :: suite) pos :: hds)) Q E s₃) E s₂) E s' := by
  obtain ⟨B₁, a0, hB, hBG, hl, hfl⟩ := R
  have hL : B₁.get? L = none := by
    obtain ⟨_, ⟨L', _, hf, hn', _⟩, _⟩ := hfl.2.2.1
    obtain rfl : L = L' := Option.some.inj hf
    exact hn'
  have hBG' : ∀ b o, G.get? b = some o → b ∉ (envOf name scope L a cd :: outer).filterMap (·.frame) → B₁.get? b = some o := hBG
  refine wpAny_looks_onW (Around.frames_deeper B.stack) rfl hfl fun h₄ hheld₄ hsm₄ => ?_
  refine wpAny_landsW hheld₄ fun h₅ hheld hsm₅' => ?_
  obtain ⟨g₅, T₅, F₅, K₅⟩ := kts_ground B F hBG' hheld.1 (hsm.trans (hsm₄.trans hsm₅'))
  obtain ⟨ob, hob, hobc⟩ := hheld.there
  refine wpAny_handleBy_builtin (X := X) (T := T') (b := true) hexc hnt hsub (nameX_B F₅ (XB.keeps K₅.stays) (topRead_of (TB.keeps K₅.stays)) ex hv hn' ⟨rfl, ⟨ob, hob, hobc⟩, ?_⟩ hk hx hd)
  refine lands_againW hheld fun h₆ hfl₆ hsm₆ => ?_
  obtain ⟨g₆, T₆, F₆, K₆⟩ := kts_ground B F hBG' hfl₆.1 ((hsm.trans (hsm₄.trans hsm₅')).trans hsm₆)
  refine wpAny_passesOwnAt hE (k h₆ g₆ (T0.trans T₆) F₆ (fun q hq => ?_) K₆ (XB.keeps K₆.stays) (TB.keeps K₆.stays) (D.turn T₆))
  rcases List.mem_append.mp hq with hq | hq
  · exact ⟨hfl₆.1 _ _ (hl q hq).1, (fun z => by have := (hl q hq).1; rw [z, hL] at this; cases this), T₆.none_ _ (kts_none F.keep (hl q hq).2.1)⟩
  · obtain ⟨h1, h2, h3⟩ := hmore q hq
    refine ⟨hfl₆.1 _ _ (hBG' _ _ h1 fun hm => ?_), h2, T₆.none_ _ h3⟩
    rcases kts_mem hm with z | z
    · exact h2 z
    · obtain ⟨o, ho, _⟩ := (B.frames.mem z).2
      rw [h3] at ho
      cases ho
end
end
local macro_rules | `(tactic| walk_at "exec While") => `(tactic| refine Stop.mk ?_)
local macro_rules | `(tactic| walk_at "exec While Compare") => `(tactic| refine Stop.mk ?_)
local macro_rules | `(tactic| walk_at "call ref") => `(tactic| refine Stop.mk ?_)
local macro_rules | `(tactic| walk_at "compareOp Lt") => `(tactic| refine Stop.mk ?_)
local macro_rules | `(tactic| walk_at "binaryOp RShift int int") => `(tactic| (with_reducible refine shr_half ?_ ?_; (case refine_1 => omega)))
local macro_rules | `(tactic| walk_at "call builtin:len") => `(tactic| (k_here; (with_reducible show wpAny _ _ (call (Value.builtin _) [Value.ref _]) _ _ _); k_dflt (refine' len_gen ?k1 ?k2 ?k3 ?_; (case k1 => k_asm); (case k2 => k_mem); (case k3 => ((try simp only [List.length_set, List.length_append, List.length_cons, List.length_nil]); omega)); k_whole)))
local macro_rules | `(tactic| walk_at "subscriptTail") => `(tactic| (k_here; (with_reducible show wpAny _ _ (subscriptTail _ _ (Value.ref _) (Value.int _ _)) _ _ _); k_dflt (refine' item_gen ?k1 ?k2 ?k3 ?k4 ?k5 ?_ ?k6 ?k7; (case k1 => k_asm); (case k2 => k_mem); (case k3 => omega); (case k4 => ((try simp only [List.length_set, List.length_append, List.length_cons, List.length_nil]); omega)); (case k5 => ((try simp only [List.length_set, List.length_append, List.length_cons, List.length_nil]); omega)); (case k6 => with_unfolding_all rfl); (case k7 => (intro _; with_unfolding_all rfl)); k_whole); (try simp only [Int.toNat_natCast, toNat_succ, toNat_oa, toNat_oas])))
local macro_rules | `(tactic| walk_at "setItem") => `(tactic| (k_here; (with_reducible show wpAny _ _ (setItem (Value.ref _) (Value.int _ _) _) _ _ _); k_dflt (refine' set_gen ?k1 ?k2 ?k3 ?k4 ?k5 ?k6 ?_; (case k1 => k_asm); (case k2 => k_asm); (case k3 => k_upd); (case k4 => omega); (case k5 => ((try simp only [List.length_set, List.length_append, List.length_cons, List.length_nil]); omega)); (case k6 => ((try simp only [List.length_set, List.length_append, List.length_cons, List.length_nil]); omega)); k_whole); intro h' F' N'; (try simp only [Int.toNat_natCast, toNat_succ, toNat_oa, toNat_oas] at N'); (try k_sweep)))
local macro_rules | `(tactic| walk_at "call builtin:list.append") => `(tactic| (k_here; (with_reducible show wpAny _ _ (call (Value.builtin _) [Value.ref _, _]) _ _ _); k_dflt (refine' append_gen ?k1 ?k2 ?k3 ?k4 ?_; (case k1 => k_asm); (case k2 => k_asm); (case k3 => k_upd); (case k4 => ((try simp only [List.length_set, List.length_append, List.length_cons, List.length_nil]); omega)); k_whole); intro h' F' N'; (try k_sweep)))
local macro_rules | `(tactic| walk_at "truthy ref") => `(tactic| (k_here; (with_reducible show wpAny _ _ (truthy (Value.ref _)) _ _ _); k_dflt (refine' truthy_gen ?k1 ?k2 ?k3 ?_; (case k1 => k_asm); (case k2 => k_mem); (case k3 => ((try simp only [List.length_set, List.length_append, List.length_cons, List.length_nil]); omega)); k_whole)))
local macro_rules | `(tactic| walk_at "call builtin:list.pop") => `(tactic| (k_here; (with_reducible show wpAny _ _ (call (Value.builtin _) [Value.ref _]) _ _ _); refine Stop.mk ?_))
local macro_rules | `(tactic| walk_at "binaryOp FloorDiv int int") => `(tactic| first | (with_reducible refine half_int ?_) | (with_reducible refine half1_int ?_) | (with_reducible refine sub1_half ?_ ?_; (case refine_1 => omega)))
local macro_rules | `(tactic| walk_at "call builtin:list.insert") => `(tactic| (k_here; (with_reducible show wpAny _ _ (call (Value.builtin _) [Value.ref _, Value.int _ _, _]) _ _ _); k_dflt (refine' insert_gen ?k1 ?k2 ?k3 ?k4 ?k5 ?k6 ?_; (case k1 => k_asm); (case k2 => k_asm); (case k5 => k_upd); (case k3 => omega); (case k4 => omega); (case k6 => omega); k_whole); intro h' F' N'; (try simp only [Int.toNat_natCast, toNat_succ, toNat_oa, toNat_oas] at N'); (try k_sweep)))
local macro_rules | `(tactic| k_all) => `(tactic| assumption)
local macro_rules | `(tactic| walk_at "exec For") => `(tactic| refine Stop.mk ?_)
local macro_rules | `(tactic| walk_at "exec For Name Name cons nil") => `(tactic| refine Stop.mk ?_)
local macro_rules | `(tactic| walk_at "exec For Name Call cons nil") => `(tactic| refine Stop.mk ?_)
local macro_rules | `(tactic| walk_at "pyIter ref") => `(tactic| refine Stop.mk ?_)
local macro_rules | `(tactic| walk_at "compareOp NotEq ref ref") => `(tactic| (k_here; (with_reducible show wpAny _ _ (compareOp CmpOp.NotEq (Value.ref _) (Value.ref _)) _ _ _); (refine' ne_intsK ?k1 ?k2 ?k3 ?k4 ?k5 ?_; (case k1 => first | is_list | exact News.isList (by k_asm) (by k_mem)); (case k2 => first | assumption | exact IntsAre.nil); (case k3 => first | is_list | exact News.isList (by k_asm) (by k_mem)); (case k4 => first | assumption | exact IntsAre.nil); (case k5 => first | omega | units_room); k_whole)))
local macro_rules | `(tactic| walk_at "exec Assign cons ListComp") => `(tactic| refine Stop.mk ?_)
local macro_rules | `(tactic| walk_at "eval ListComp") => `(tactic| refine Stop.mk ?_)
local macro_rules | `(tactic| walk_at "CompSrc") => `(tactic| refine Stop.mk ?_)
local macro_rules | `(tactic| walk_at "subscriptTail Call Name cons nil Slice ref ref") => `(tactic| refine Stop.mk ?_)
local macro_rules | `(tactic| walk_at "call builtin:list.extend") => `(tactic| refine Stop.mk ?_)
local macro_rules | `(tactic| walk_at "compareOp Eq ref ref") => `(tactic| (k_here; (with_reducible show wpAny _ _ (compareOp CmpOp.Eq (Value.ref _) (Value.ref _)) _ _ _); (refine' eq_intsK ?k1 ?k2 ?k3 ?k4 ?k5 ?_; (case k1 => first | is_list | exact News.isList (by k_asm) (by k_mem)); (case k2 => first | assumption | exact IntsAre.nil); (case k3 => first | is_list | exact News.isList (by k_asm) (by k_mem)); (case k4 => first | assumption | exact IntsAre.nil); (case k5 => first | omega | units_room); k_whole)))
section
inductive SiftA (lt : Value → Value → Bool) (S : Value → Prop) (a : Addr) (n start : Nat) (t1 : Tok) (x : Value) (pos : Nat) (vs : List Value) (n₁ : Nat) (m₁ : Str → Option Value) (news₁ : List (Addr × Obj)) : Prop
  | mk (p : Nat) (ws : List Value) (tp : Tok) (u : Str → Option Value) (h0 : m₁ = kstB u [(Str.ofString "heap", .ref a), (Str.ofString "startpos", .int start t1), (Str.ofString "newitem", x), (Str.ofString "pos", .int p tp)]) (h1 : news₁ = [(a, listOf ws.toArray n)]) (h2 : p < ws.length) (h3 : ws.length < 1000) (h4 : (∀ v ∈ ws, S v)) (h5 : sd lt start x p ws = sd lt start x pos vs) (h6 : n₁ = p) : SiftA lt S a n start t1 x pos vs n₁ m₁ news₁
inductive SiftB (lt : Value → Value → Bool) (S : Value → Prop) (a : Addr) (n pos : Nat) (vs : List Value) (n₁ : Nat) (m₁ : Str → Option Value) (news₁ : List (Addr × Obj)) : Prop
  | mk (p : Nat) (ws : List Value) (tp t3 t4 t5 : Tok) (u : Str → Option Value) (h0 : m₁ = kstB u [(Str.ofString "heap", .ref a), (Str.ofString "startpos", .int pos t3), (Str.ofString "endpos", .int vs.length t4), (Str.ofString "newitem", vs.getD pos .none), (Str.ofString "pos", .int p tp), (Str.ofString "childpos", .int ((2 * p + 1 : Nat) : Int) t5)]) (h1 : news₁ = [(a, listOf ws.toArray n)]) (h2 : p < ws.length) (h3 : ws.length = vs.length) (h4 : (∀ v ∈ ws, S v)) (h5 : su lt p ws = su lt pos vs) (h6 : n₁ = vs.length - p) : SiftB lt S a n pos vs n₁ m₁ news₁
theorem siftdown_spec {prog : Program} {w : World} {A : Around} {s : Shared} {h₀ : Heap} {L : Addr} {m : Str → Option Value} {rest : List (Addr × Obj)}
    {p : Program} {loose : List Str} {mean : ExcName → Option Value} {mg mb : Str → Option Value} {d : Nat} {Q : Value → Shared → Prop} {E : Value → Shared → Prop}
    {S : Value → Prop} {lt : Value → Value → Bool} {a : Addr} {vs : List Value} {n : Nat} {start pos : Nat} {ist ips : Int} {t1 t2 : Tok} (hst : ist = start) (hps : ips = pos)
    (C : At (hd04.heap_39 w.params) p loose mean mg mb A h₀ L (d + 1)) (F : Fr h₀ L s.heap m) (N : News h₀ L s.heap ((a, listOf vs.toArray n) :: rest)) (hsep : ∀ q ∈ rest, q.1 ≠ a)
    (hpos : pos < vs.length) (hlen : vs.length < 1000) (hS : ∀ v ∈ vs, S v) (hcmp : ∀ g : Heap, (∀ q ∈ rest, g.get? q.1 = some q.2) → h₀.StaysIn g → Cmp prog w g S lt)
    (hQ : ∀ h' tk, Fr h₀ L h' m → News h₀ L h' ((a, listOf (sd lt start (vs.getD pos .none) pos vs).toArray n) :: rest) → Q .none { s with heap := h', toks := tk }) :
    wpAny (model prog w) A (call (.ref 49) [.ref a, .int ist t1, .int ips t2]) Q E s := by
  subst hst hps
  w_top off
  refine' call_at (own := [(a, listOf vs.toArray n)]) (rest := rest) (binds := [(Str.ofString "heap", .ref a), (Str.ofString "startpos", .int start t1), (Str.ofString "pos", .int pos t2)]) C F N (fun p hp q hq e => ?hs) ?ho ?hcd ?hb ?hl ?_ ?h1 ?h2 ?h3 ?h4
  case ho => k_is
  case hcd => k_is
  case hb => exact BindsTo.of_eq rfl
  case hl => exact locs rfl
  case h1 => rfl
  case h2 => rfl
  case h3 => rfl
  case h4 => decide
  case hs =>
    obtain rfl := List.mem_singleton.mp hp
    exact hsep q hq e.symm
  intro g L' h₁ C' F' N' hr hst
  have hc := hcmp g hr hst
  have hx : S (vs.getD pos .none) := hS _ (getD_mem hpos)
  clear hcmp hsep F N hr hst
  obtain ⟨⟨A₀, base, outer, env, B', hA', hf', hk'⟩, X', T', hd', hu', hh'⟩ := C'
  repeat' (first | walk1 | (dsimp only; walk1))
  unfold Stop
  refine While_inv2 (SiftA lt S a n start t1 (vs.getD pos .none) pos vs) (n₀ := pos) (by assumption) (by assumption) ?_ ?_
  · exact ⟨pos, vs, t2, _, kst_self (by kst_all), rfl, hpos, hlen, hS, rfl, rfl⟩
  · rintro n₁ m₁ news₁ h₂ tk₁ F₂ N₂ ⟨p, ws, tp, u, rfl, rfl, hp, hlen', hS', htgt, rfl⟩
    dsimp only [kstB] at F₂
    rw [sd] at htgt
    generalize vs.getD pos .none = x at *
    repeat' (first | walk1 | (dsimp only; walk1))
    · -- the test holds
      rename_i hlt _ _ _
      rw [dif_pos (by omega)] at htgt
      refine hc _ _ hx (hS' _ (getD_mem (by omega))) _ _ _ _ (by omega) (Fr.keep (by assumption)) ?_
      intro tk₂
      repeat' (first | walk1 | (dsimp only; walk1))
      · rename_i hl _ _ _ _
        rw [if_pos hl] at htgt
        dsimp only
        exact ⟨_, _, _, _, _, rfl, by assumption, by assumption, by omega, _, _, _, _, kst_self (by kst_all), rfl, by simp only [List.length_set]; omega, by simp only [List.length_set]; omega, all_set hS' (hS' _ (getD_mem (by omega))), htgt, rfl⟩
      · rename_i hl
        rw [if_neg (by rw [hl]; decide)] at htgt
        dsimp only [WhileStep2]
        repeat' (first | walk1 | (dsimp only; walk1))
        refine ⟨_, _, _, by assumption, by assumption, fun kF kN _ => ?_⟩
        rw [htgt] at kN
        exact hQ _ _ kF kN
    · rename_i hlt _ _ _
      rw [dif_neg (by omega)] at htgt
      refine ⟨_, _, _, by assumption, by assumption, fun kF kN _ => ?_⟩
      rw [htgt] at kN
      exact hQ _ _ kF kN

theorem siftup_spec {prog : Program} {w : World} {A : Around} {s : Shared} {h₀ : Heap} {L : Addr} {m : Str → Option Value} {rest : List (Addr × Obj)}
    {p : Program} {loose : List Str} {mean : ExcName → Option Value} {mg mb : Str → Option Value} {d : Nat} {Q : Value → Shared → Prop} {E : Value → Shared → Prop}
    {S : Value → Prop} {lt : Value → Value → Bool} {a : Addr} {vs : List Value} {n : Nat} {pos : Nat} {ips : Int} {t2 : Tok} (hps : ips = pos)
    (C : At (hd04.heap_39 w.params) p loose mean mg mb A h₀ L (d + 2)) (F : Fr h₀ L s.heap m) (N : News h₀ L s.heap ((a, listOf vs.toArray n) :: rest)) (hsep : ∀ q ∈ rest, q.1 ≠ a)
    (hpos : pos < vs.length) (hlen : vs.length < 1000) (hS : ∀ v ∈ vs, S v) (hcmp : ∀ g : Heap, (∀ q ∈ rest, g.get? q.1 = some q.2) → h₀.StaysIn g → Cmp prog w g S lt)
    (hQ : ∀ h' tk, Fr h₀ L h' m → News h₀ L h' ((a, listOf (sup lt pos vs).toArray n) :: rest) → Q .none { s with heap := h', toks := tk }) :
    wpAny (model prog w) A (call (.ref 56) [.ref a, .int ips t2]) Q E s := by
  subst hps
  w_top off
  refine' call_at (own := [(a, listOf vs.toArray n)]) (rest := rest) (binds := [(Str.ofString "heap", .ref a), (Str.ofString "pos", .int pos t2)]) C F N (fun p hp q hq e => ?hs) ?ho ?hcd ?hb ?hl ?_ ?h1 ?h2 ?h3 ?h4
  case ho => k_is
  case hcd => k_is
  case hb => exact BindsTo.of_eq rfl
  case hl => exact locs rfl
  case h1 => rfl
  case h2 => rfl
  case h3 => rfl
  case h4 => decide
  case hs =>
    obtain rfl := List.mem_singleton.mp hp
    exact hsep q hq e.symm
  intro g L' h₁ C' F' N' hr hst
  have hc := hcmp g hr hst
  have hx : S (vs.getD pos .none) := hS _ (getD_mem hpos)
  clear hcmp hsep F N hr hst
  have C1 := C'
  obtain ⟨⟨A₀, base, outer, env, B', hA', hf', hk'⟩, X', T', hd', hu', hh'⟩ := C1
  repeat' (first | walk1 | (dsimp only; walk1))
  unfold Stop
  refine While_inv2 (SiftB lt S a n pos vs) (n₀ := vs.length - pos) (by assumption) (by assumption) ?_ ?_
  · exact ⟨pos, vs, _, _, _, _, _, kst_self (by kst_all), rfl, hpos, rfl, hS, rfl, rfl⟩
  · rintro n₁ m₁ news₁ h₂ tk₁ F₂ N₂ ⟨p, ws, tp, t3, t4, t5, u, rfl, rfl, hp, hlen', hS', htgt, rfl⟩
    dsimp only [kstB] at F₂
    rw [su] at htgt
    repeat' (first | walk1 | (dsimp only; walk1))
    · rename_i h1 _ _ _ h2
      rw [dif_pos (by omega)] at htgt
      refine hc _ _ (hS' _ (getD_mem (by omega))) (hS' _ (getD_mem (by omega))) _ _ _ _ (by omega) (Fr.keep (by assumption)) ?_
      intro tk₂
      repeat' (first | walk1 | (dsimp only; walk1))
      · rename lt _ _ = true => h3
        rw [dif_neg (by rw [h3]; simp)] at htgt
        exact ⟨_, _, _, _, _, rfl, by assumption, by assumption, by omega, _, _, _, _, _, _, _, kst_self (by kst_all), rfl, by simp only [List.length_set]; omega, by simp only [List.length_set]; omega, all_set hS' (hS' _ (getD_mem (by omega))), htgt, rfl⟩
      · rename lt _ _ = false => h3
        rw [dif_pos ⟨by omega, h3⟩] at htgt
        exact ⟨_, _, _, _, _, rfl, by assumption, by assumption, by omega, _, _, _, _, _, _, _, kst_self (by kst_all), rfl, by simp only [List.length_set]; omega, by simp only [List.length_set]; omega, all_set hS' (hS' _ (getD_mem (by omega))), htgt, rfl⟩
    · rename_i h1 _ h2 _ _ _ _ _ _ _
      rw [dif_pos (by omega), dif_neg (by omega)] at htgt
      exact ⟨_, _, _, _, _, rfl, by assumption, by assumption, by omega, _, _, _, _, _, _, _, kst_self (by kst_all), rfl, by simp only [List.length_set]; omega, by simp only [List.length_set]; omega, all_set hS' (hS' _ (getD_mem (by omega))), htgt, rfl⟩
    · rename_i h1 _ _ _
      rw [dif_neg (by omega)] at htgt
      refine siftdown_spec (S := S) (lt := lt) (rest := []) rfl rfl C' (by assumption) (by assumption) (fun q hq => nomatch hq) (by simp only [List.length_set]; omega) (by simp only [List.length_set]; omega) (all_set hS' hx) (fun g' _ hs => hc.mono hs) ?_
      intro h' tk kF kN
      repeat' (first | walk1 | (dsimp only; walk1))
      refine ⟨_, _, _, kF, kN, fun kF kN _ => ?_⟩
      have e : (ws.set p (vs.getD pos Value.none)).getD p Value.none = vs.getD pos .none := by
        simp [List.getD, hp]
      rw [e] at kN
      have e2 : sd lt pos (vs.getD pos Value.none) p (ws.set p (vs.getD pos Value.none)) = sup lt pos vs := by
        rw [sup, ← htgt]
      rw [e2] at kN
      exact hQ _ _ kF kN
end
section

theorem heapreplace_spec {prog : Program} {w : World} {A : Around} {s : Shared} {h₀ : Heap} {L : Addr} {m : Str → Option Value} {rest : List (Addr × Obj)} {p : Program} {loose : List Str} {mean : ExcName → Option Value} {mg mb : Str → Option Value} {d : Nat} {Q : Value → Shared → Prop} {E : Value → Shared → Prop} {S : Value → Prop} {lt : Value → Value → Bool} {a : Addr} {vs : List Value} {n : Nat} {x : Value}
    (C : At (hd04.heap_39 w.params) p loose mean mg mb A h₀ L (d + 3)) (F : Fr h₀ L s.heap m) (N : News h₀ L s.heap ((a, listOf vs.toArray n) :: rest)) (hsep : ∀ q ∈ rest, q.1 ≠ a)
    (hlen : vs.length < 990) (hne : 0 < vs.length) (hS : ∀ v ∈ vs, S v) (hx : S x) (hcmp : ∀ g : Heap, (∀ q ∈ rest, g.get? q.1 = some q.2) → h₀.StaysIn g → Cmp prog w g S lt)
    (hQ : ∀ h' tk, Fr h₀ L h' m → News h₀ L h' ((a, listOf (hrep lt vs x).2.toArray n) :: rest) → Q (hrep lt vs x).1 { s with heap := h', toks := tk }) :
    wpAny (model prog w) A (call (.ref 35) [.ref a, x]) Q E s := by
  obtain ⟨hnd, dp, fr0, gd0, un0⟩ := A
  obtain rfl : hnd = none := C.hh
  obtain ⟨A₁, base₁, outer₁, env₁, B₁, hA₁, hf₁, hk₁⟩ := C.ex
  obtain rfl : fr0 = _ := hA₁
  w_top off
  refine' call_at (own := [(a, listOf vs.toArray n)]) (rest := rest) (binds := [(Str.ofString "heap", .ref a), (Str.ofString "item", x)]) C F N (fun p hp q hq e => ?hs) ?ho ?hcd ?hb ?hl ?_ ?h1 ?h2 ?h3 ?h4
  case ho => k_is
  case hcd => k_is
  case hb => exact BindsTo.of_eq rfl
  case hl => exact locs rfl
  case h1 => rfl
  case h2 => rfl
  case h3 => rfl
  case h4 => decide
  case hs =>
    obtain rfl := List.mem_singleton.mp hp
    exact hsep q hq e.symm
  intro g L' h₁ C' F' N' hr hst
  have C1 := C'
  obtain ⟨⟨A₀, base, outer, env, B', hA', hf', hk'⟩, X', T', hd', hu', hh'⟩ := C1
  have hc := hcmp g hr hst
  clear hcmp hsep F N hr hst
  repeat' (first | walk1 | (dsimp only; walk1))
  unfold Stop
  refine siftup_spec (S := S) (lt := lt) (rest := []) (pos := 0) rfl C' (by assumption) (by assumption) (fun q hq => nomatch hq) (by simp only [List.length_set]; omega) (by simp only [List.length_set]; omega) (all_set hS hx) (fun g' _ hs => hc.mono hs) ?_
  intro h' tk kF kN
  repeat' (first | walk1 | (dsimp only; walk1))
  dsimp only
  exact ⟨_, _, _, kF, kN, fun kF kN _ => hQ _ _ kF kN⟩
end
section

theorem heapify_spec {prog : Program} {w : World} {A : Around} {s : Shared} {h₀ : Heap} {L : Addr} {m : Str → Option Value} {rest : List (Addr × Obj)} {p : Program} {loose : List Str} {mean : ExcName → Option Value} {mg mb : Str → Option Value} {d : Nat} {Q : Value → Shared → Prop} {E : Value → Shared → Prop} {S : Value → Prop} {lt : Value → Value → Bool} {a : Addr} {vs : List Value} {n : Nat}
    (C : At (hd04.heap_39 w.params) p loose mean mg mb A h₀ L (d + 3)) (F : Fr h₀ L s.heap m) (N : News h₀ L s.heap ((a, listOf vs.toArray n) :: rest)) (hsep : ∀ q ∈ rest, q.1 ≠ a)
    (hlen : vs.length < 990) (hS : ∀ v ∈ vs, S v) (hcmp : ∀ g : Heap, (∀ q ∈ rest, g.get? q.1 = some q.2) → h₀.StaysIn g → Cmp prog w g S lt)
    (hQ : ∀ h' tk, Fr h₀ L h' m → News h₀ L h' ((a, listOf (hfy lt vs).toArray n) :: rest) → Q .none { s with heap := h', toks := tk }) :
    wpAny (model prog w) A (call (.ref 42) [.ref a]) Q E s := by
  obtain ⟨hnd, dp, fr0, gd0, un0⟩ := A
  obtain rfl : hnd = none := C.hh
  obtain ⟨A₁, base₁, outer₁, env₁, B₁, hA₁, hf₁, hk₁⟩ := C.ex
  obtain rfl : fr0 = _ := hA₁
  w_top off
  refine' call_at (own := [(a, listOf vs.toArray n)]) (rest := rest) (binds := [(Str.ofString "x", .ref a)]) C F N (fun p hp q hq e => ?hs) ?ho ?hcd ?hb ?hl ?_ ?h1 ?h2 ?h3 ?h4
  case ho => k_is
  case hcd => k_is
  case hb => exact BindsTo.of_eq rfl
  case hl => exact locs rfl
  case h1 => rfl
  case h2 => rfl
  case h3 => rfl
  case h4 => decide
  case hs =>
    obtain rfl := List.mem_singleton.mp hp
    exact hsep q hq e.symm
  intro g L' h₁ C' F' N' hr hst
  have C1 := C'
  obtain ⟨⟨A₀, base, outer, env, B', hA', hf', hk'⟩, X', T', hd', hu', hh'⟩ := C1
  have hc := hcmp g hr hst
  clear hcmp hsep F N hr hst
  repeat' (first | walk1 | (dsimp only; walk1))
  unfold Stop
  refine For_invV g rfl rfl ?_
  repeat' (first | walk1 | (dsimp only; walk1))
  rename IsRange _ _ _ _ _ _ _ _ => hR
  rename Fr g L' _ _ => F3
  rename News g L' _ _ => N3
  refine call_reversed_range hR (by omega) ?_
  repeat' (first | walk1 | (dsimp only; walk1))
  unfold Stop
  refine iter_ri_down (vs.length / 2) (kept := []) (news := [(a, listOf vs.toArray n)]) rfl (Heap.get?_push_size _ rfl) (next_is_new F3) (Ne.symm (Nat.ne_of_lt F3.ns.lt)) (F3.push _) (N3.grown fun _ _ e => Heap.get?_push_of_some _ e) (fun _ hp => nomatch hp) (fun q hq => Nat.ne_of_lt (Heap.lt_size (N3 q hq).1))
    (fun i m₁ var => ∃ ws u, m₁ = kstB u [(Str.ofString "x", .ref a)] ∧ var = [(a, listOf ws.toArray n)] ∧ ws.length = vs.length ∧ (∀ v ∈ ws, S v) ∧ hfyFrom lt (vs.length / 2 - i) ws = hfy lt vs) ?_ ?_ ?_
  · exact ⟨_, _, kst_self (by kst_all), rfl, rfl, hS, rfl⟩
  · rintro i t m₁ var h tk own hi ⟨ws, u, rfl, rfl, hwl, hwS, hw⟩ _ hso F₁ N₁
    have hok : ∀ p ∈ own, p.1 ≠ a := fun p hp => hso p hp (a, _) (.head _)
    dsimp only [kstB] at F₁
    simp only [List.cons_append, List.nil_append] at N₁
    change Fr g L' _ _ at F₁
    change News g L' _ _ at N₁
    repeat' (first | walk1 | (dsimp only; walk1))
    unfold Stop
    have hk : vs.length / 2 - i = (vs.length / 2 - (i + 1)) + 1 := by omega
    rw [hk, hfyFrom] at hw
    have hsp := sup_perm (lt := lt) (pos := vs.length / 2 - (i + 1)) (vs := ws) (by omega)
    refine siftup_spec (d := 0) (S := S) (lt := lt) (pos := vs.length / 2 - (i + 1)) (by omega) (C'.less (by omega)) F₁ N₁ hok (by omega) (by omega) hwS (fun g' _ hs => hc.mono hs) ?_
    intro h' tk kF kN
    repeat' (first | walk1 | (dsimp only; walk1))
    exact ⟨_, _, _, [_], rfl, kF, kN, fun p hp q hq => (List.mem_singleton.mp hq) ▸ hok p hp, _, _, kst_self (by kst_all), rfl, by rw [hsp.length_eq]; exact hwl, fun v hv => hwS v (hsp.mem_iff.mp hv), hw⟩
  · rintro m₁ var h tk ⟨ws, u, rfl, rfl, hwl, hwS, hw⟩ _ F₁ N₁
    rw [Nat.sub_self, hfyFrom] at hw
    subst hw
    change Fr g L' _ _ at F₁
    change News g L' _ _ at N₁
    dsimp only
    repeat' (first | walk1 | (dsimp only; walk1))
    exact ⟨_, _, _, F₁, N₁, fun kF kN _ => hQ _ _ kF kN⟩
end
section
theorem heappush_spec {prog : Program} {w : World} {A : Around} {s : Shared} {h₀ : Heap} {L : Addr} {m : Str → Option Value} {rest : List (Addr × Obj)} {p : Program} {loose : List Str} {mean : ExcName → Option Value} {mg mb : Str → Option Value} {d : Nat} {Q : Value → Shared → Prop} {E : Value → Shared → Prop} {S : Value → Prop} {lt : Value → Value → Bool} {a : Addr} {vs : List Value} {n : Nat} {x : Value}
    (C : At (hd04.heap_39 w.params) p loose mean mg mb A h₀ L (d + 2)) (F : Fr h₀ L s.heap m) (N : News h₀ L s.heap ((a, listOf vs.toArray n) :: rest)) (hsep : ∀ q ∈ rest, q.1 ≠ a)
    (hlen : vs.length < 990) (hS : ∀ v ∈ vs, S v) (hx : S x) (hcmp : ∀ g : Heap, (∀ q ∈ rest, g.get? q.1 = some q.2) → h₀.StaysIn g → Cmp prog w g S lt)
    (hQ : ∀ h' tk, Fr h₀ L h' m → News h₀ L h' ((a, listOf (hpush lt vs x).toArray (n + 1)) :: rest) → Q .none { s with heap := h', toks := tk }) :
    wpAny (model prog w) A (call (.ref 21) [.ref a, x]) Q E s := by
  obtain ⟨hnd, dp, fr0, gd0, un0⟩ := A
  obtain rfl : hnd = none := C.hh
  obtain ⟨A₁, base₁, outer₁, env₁, B₁, hA₁, hf₁, hk₁⟩ := C.ex
  obtain rfl : fr0 = _ := hA₁
  w_top off
  refine' call_at (own := [(a, listOf vs.toArray n)]) (rest := rest) (binds := [(Str.ofString "heap", .ref a), (Str.ofString "item", x)]) C F N (fun p hp q hq e => ?hs) ?ho ?hcd ?hb ?hl ?_ ?h1 ?h2 ?h3 ?h4
  case ho => k_is
  case hcd => k_is
  case hb => exact BindsTo.of_eq rfl
  case hl => exact locs rfl
  case h1 => rfl
  case h2 => rfl
  case h3 => rfl
  case h4 => decide
  case hs =>
    obtain rfl := List.mem_singleton.mp hp
    exact hsep q hq e.symm
  intro g L' h₁ C' F' N' hr hst
  have C1 := C'
  obtain ⟨⟨A₀, base, outer, env, B', hA', hf', hk'⟩, X', T', hd', hu', hh'⟩ := C1
  have hc := hcmp g hr hst
  clear hcmp hsep F N hr hst
  repeat' (first | walk1 | (dsimp only; walk1))
  unfold Stop
  refine siftdown_spec (S := S) (lt := lt) (rest := []) (start := 0) (pos := vs.length) rfl (by simp) C' (by assumption) (by assumption) (fun q hq => nomatch hq) (by simp) (by simp; omega) (fun v hv => ?_) (fun g' _ hs => hc.mono hs) ?_
  · rcases List.mem_append.mp hv with h | h
    · exact hS v h
    · exact (List.mem_singleton.mp h) ▸ hx
  intro h' tk kF kN
  repeat' (first | walk1 | (dsimp only; walk1))
  have e : (vs ++ [x]).getD vs.length .none = x := by simp [List.getD]
  rw [e] at kN
  exact ⟨_, _, _, kF, kN, fun kF kN _ => hQ _ _ kF kN⟩

end
section
theorem heappop_spec {prog : Program} {w : World} {A : Around} {s : Shared} {h₀ : Heap} {L : Addr} {m : Str → Option Value} {rest : List (Addr × Obj)} {p : Program} {loose : List Str} {mean : ExcName → Option Value} {mg mb : Str → Option Value} {d : Nat} {Q : Value → Shared → Prop} {E : Value → Shared → Prop} {S : Value → Prop} {lt : Value → Value → Bool} {a : Addr} {vs : List Value} {n : Nat} {ws : List Value} {y : Value} (hvs : vs = ws ++ [y])
    (C : At (hd04.heap_39 w.params) p loose mean mg mb A h₀ L (d + 3)) (F : Fr h₀ L s.heap m) (N : News h₀ L s.heap ((a, listOf vs.toArray n) :: rest)) (hsep : ∀ q ∈ rest, q.1 ≠ a)
    (hlen : vs.length < 990) (hS : ∀ v ∈ vs, S v) (hcmp : ∀ g : Heap, (∀ q ∈ rest, g.get? q.1 = some q.2) → h₀.StaysIn g → Cmp prog w g S lt)
    (hQ : ∀ h' tk, Fr h₀ L h' m → News h₀ L h' ((a, listOf (hpop lt ws y).2.toArray (n + 1)) :: rest) → Q (hpop lt ws y).1 { s with heap := h', toks := tk }) :
    wpAny (model prog w) A (call (.ref 28) [.ref a]) Q E s := by
  obtain ⟨hnd, dp, fr0, gd0, un0⟩ := A
  obtain rfl : hnd = none := C.hh
  obtain ⟨A₁, base₁, outer₁, env₁, B₁, hA₁, hf₁, hk₁⟩ := C.ex
  obtain rfl : fr0 = _ := hA₁
  w_top off
  refine' call_at (own := [(a, listOf vs.toArray n)]) (rest := rest) (binds := [(Str.ofString "heap", .ref a)]) C F N (fun p hp q hq e => ?hs) ?ho ?hcd ?hb ?hl ?_ ?h1 ?h2 ?h3 ?h4
  case ho => k_is
  case hcd => k_is
  case hb => exact BindsTo.of_eq rfl
  case hl => exact locs rfl
  case h1 => rfl
  case h2 => rfl
  case h3 => rfl
  case h4 => decide
  case hs =>
    obtain rfl := List.mem_singleton.mp hp
    exact hsep q hq e.symm
  intro g L' h₁ C' F' N' hr hst
  have C1 := C'
  obtain ⟨⟨A₀, base, outer, env, B', hA', hf', hk'⟩, X', T', hd', hu', hh'⟩ := C1
  have hc := hcmp g hr hst
  have hy : S y := hS y (by rw [hvs]; simp)
  have hlw : ws.length + 1 = vs.length := by rw [hvs]; simp
  have hSw : ∀ v ∈ ws, S v := fun v hv => hS v (by rw [hvs]; simp [hv])
  clear hcmp hsep F N hr hst
  repeat' (first | walk1 | (dsimp only; walk1))
  unfold Stop
  refine pop_gen (by assumption) (by assumption) hvs (by k_upd) (by omega) ?_
  intro h2 F2 N2
  repeat' (first | walk1 | (dsimp only; walk1))
  · rename ws ≠ [] => hne
    have hl0 : 0 < ws.length := List.length_pos_iff.mpr hne
    repeat' (first | walk1 | (dsimp only; walk1))
    unfold Stop
    refine siftup_spec (S := S) (lt := lt) (rest := []) (pos := 0) rfl C' (by assumption) (by assumption) (fun q hq => nomatch hq) (by simp only [List.length_set]; omega) (by simp only [List.length_set]; omega) (all_set hSw hy) (fun g' _ hs => hc.mono hs) ?_
    intro h' tk kF kN
    repeat' (first | walk1 | (dsimp only; walk1))
    dsimp only
    refine ⟨_, _, _, kF, kN, fun kF kN _ => ?_⟩
    have e : hpop lt ws y = (ws.getD 0 .none, sup lt 0 (ws.set 0 y)) := by rw [hpop, if_neg hne]
    rw [e] at hQ
    exact hQ _ _ kF kN
  · rename ¬ ws ≠ [] => hne
    have hne' : ws = [] := by simpa using hne
    subst hne'
    dsimp only
    exact ⟨_, _, _, by assumption, by assumption, fun kF kN _ => hQ _ _ kF kN⟩

end
section
inductive BisW (lt : Value → Value → Bool) (a : Addr) (n : Nat) (x : Value) (vs : List Value) (lo : Nat) (n₁ : Nat) (m₁ : Str → Option Value) (news₁ : List (Addr × Obj)) : Prop
  | mk (l1 h1 : Nat) (t1 t2 : Tok) (u : Str → Option Value) (e0 : m₁ = kstB u [(Str.ofString "a", .ref a), (Str.ofString "x", x), (Str.ofString "lo", .int l1 t1), (Str.ofString "hi", .int h1 t2)]) (e1 : news₁ = [(a, listOf vs.toArray n)]) (e2 : l1 ≤ h1) (e3 : h1 ≤ vs.length) (e4 : bisR lt x vs l1 h1 = bisR lt x vs lo vs.length) (e5 : n₁ = h1 - l1) : BisW lt a n x vs lo n₁ m₁ news₁

theorem bisect_right_spec {prog : Program} {w : World} {A : Around} {s : Shared} {h₀ : Heap} {L : Addr} {m : Str → Option Value} {rest : List (Addr × Obj)} {p : Program} {loose : List Str} {mean : ExcName → Option Value} {mg mb : Str → Option Value} {d : Nat} {Q : Value → Shared → Prop} {E : Value → Shared → Prop} {S : Value → Prop} {lt : Value → Value → Bool} {a : Addr} {vs : List Value} {n : Nat} {x : Value} {lo : Nat} {ilo : Int} {tl : Tok} (hilo : ilo = lo) (hlo : lo ≤ vs.length)
    (C : At (hd04.heap_39 w.params) p loose mean mg mb A h₀ L (d + 1)) (F : Fr h₀ L s.heap m) (N : News h₀ L s.heap ((a, listOf vs.toArray n) :: rest)) (hsep : ∀ q ∈ rest, q.1 ≠ a)
    (hlen : vs.length < 990) (hS : ∀ v ∈ vs, S v) (hx : S x) (hcmp : ∀ g : Heap, (∀ q ∈ rest, g.get? q.1 = some q.2) → h₀.StaysIn g → Cmp prog w g S lt)
    (hQ : ∀ h' tk t, Fr h₀ L h' m → News h₀ L h' ((a, listOf vs.toArray n) :: rest) → Q (.int (bisR lt x vs lo vs.length : Nat) t) { s with heap := h', toks := tk }) :
    wpAny (model prog w) A (call (.ref 65) [.ref a, x, .int ilo tl]) Q E s := by
  subst hilo
  obtain ⟨hnd, dp, fr0, gd0, un0⟩ := A
  obtain rfl : hnd = none := C.hh
  obtain ⟨A₁, base₁, outer₁, env₁, B₁, hA₁, hf₁, hk₁⟩ := C.ex
  obtain rfl : fr0 = _ := hA₁
  w_top off
  refine' call_at (own := [(a, listOf vs.toArray n)]) (rest := rest) (binds := [(Str.ofString "a", .ref a), (Str.ofString "x", x), (Str.ofString "lo", .int lo tl), (Str.ofString "hi", .none), (Str.ofString "key", .none)]) C F N (fun p hp q hq e => ?hs) ?ho ?hcd ?hb ?hl ?_ ?h1 ?h2 ?h3 ?h4
  case ho => k_is
  case hcd => k_is
  case hb => exact kp_binds (C.X.keeps F.keep) (fun _ => rfl)
  case hl => exact locs rfl
  case h1 => rfl
  case h2 => rfl
  case h3 => rfl
  case h4 => decide
  case hs =>
    obtain rfl := List.mem_singleton.mp hp
    exact hsep q hq e.symm
  intro g L' h₁ C' F' N' hr hst
  have C1 := C'
  obtain ⟨⟨A₀, base, outer, env, B', hA', hf', hk'⟩, X', T', hd', hu', hh'⟩ := C1
  have hc := hcmp g hr hst
  clear hcmp hsep F N hr hst
  repeat' (first | walk1 | (dsimp only; walk1))
  unfold Stop
  refine While_inv2 (BisW lt a n x vs lo) (n₀ := vs.length - lo) (by assumption) (by assumption) ?_ ?_
  · exact ⟨lo, vs.length, _, _, _, kst_self (by kst_all), rfl, by omega, by omega, rfl, rfl⟩
  · rintro n₁ m₁ news₁ h₂ tk₁ F₂ N₂ ⟨lo1, hi1, t1, t2, u, rfl, rfl, hlh, hhi, htgt, rfl⟩
    dsimp only [kstB] at F₂
    rw [bisR] at htgt
    repeat' (first | walk1 | (dsimp only; walk1))
    · rename (lo1 : Int) < (hi1 : Int) => h1
      rw [dif_pos (by omega)] at htgt
      refine hc _ _ hx (hS _ (getD_mem (by omega))) _ _ _ _ (by omega) (Fr.keep (by assumption)) ?_
      intro tk₂
      repeat' (first | walk1 | (dsimp only; walk1))
      · rename lt x _ = true => h3
        rw [if_pos h3] at htgt
        exact ⟨_, _, _, _, _, rfl, by assumption, by assumption, by omega, _, _, _, _, _, kst_self (by kst_all), rfl, by omega, by omega, htgt, rfl⟩
      · rename lt x _ = false => h3
        rw [if_neg (by rw [h3]; decide)] at htgt
        exact ⟨_, _, _, _, _, rfl, by assumption, by assumption, by omega, _, _, _, _, _, kst_self (by kst_all), rfl, by omega, by omega, htgt, rfl⟩
    · rename ¬ (lo1 : Int) < (hi1 : Int) => h1
      rw [dif_neg (by omega)] at htgt
      dsimp only
      rw [htgt]
      exact ⟨_, _, _, by assumption, by assumption, fun kF kN _ => hQ _ _ _ kF kN⟩
end
section
local macro_rules | `(tactic| walk_at "leaving ref") => `(tactic| refine Stop.mk ?_)
theorem heapreplace_raises {prog : Program} {w : World} {A : Around} {s : Shared} {h₀ : Heap} {L : Addr} {m : Str → Option Value} {rest : List (Addr × Obj)} {p : Program} {loose : List Str} {mean : ExcName → Option Value} {mg mb : Str → Option Value} {d : Nat} {Q : Value → Shared → Prop} {E : Value → Shared → Prop} {A₀ : Around} {base : Heap} {outer : List Env} {env : Env} {a : Addr} {n : Nat} {x : Value}
    (C : At (hd04.heap_39 w.params) p loose mean mg mb A h₀ L (d + 3)) (F : Fr h₀ L s.heap m) (B : Below A₀ base outer h₀) (hA : A.frames = some (env :: outer)) (hf : env.frame = some L) (hke : env.scope.kind = .function) (N : News h₀ L s.heap ((a, listOf ([] : List Value).toArray n) :: rest)) (hsep : ∀ q ∈ rest, q.1 ≠ a)
    (hE : ∀ G h' tk e, Fr h₀ L G m → (∀ q ∈ rest, G.get? q.1 = some q.2) → RaisedSN base G (env :: outer) e (.type "IndexError") [(a, listOf ([] : List Value).toArray n)] h' → G.UpToSlots h' → E (.ref e) { s with heap := h', toks := tk }) :
    wpAny (model prog w) A (call (.ref 35) [.ref a, x]) Q E s := by
  obtain ⟨hnd, dp, fr0, gd0, un0⟩ := A
  obtain rfl : hnd = none := C.hh
  obtain rfl : fr0 = _ := hA
  w_top off
  w_top off
  refine' call_atB (own := [(a, listOf ([] : List Value).toArray n)]) (rest := rest) (binds := [(Str.ofString "heap", .ref a), (Str.ofString "item", x)]) C B rfl hf hke F N (fun p hp q hq e => ?hs) ?ho ?hcd ?hb ?hl ?_ ?h1 ?h2 ?h3 ?h4
  case ho => k_is
  case hcd => k_is
  case hb => exact BindsTo.of_eq rfl
  case hl => exact locs rfl
  case h1 => rfl
  case h2 => rfl
  case h3 => rfl
  case h4 => decide
  case hs =>
    obtain rfl := List.mem_singleton.mp hp
    exact hsep q hq e.symm
  intro g L' h₁ C' FG BG F' N' hr hst
  clear hsep F N hst B
  have C1 := C'
  obtain ⟨⟨A₉, base₉, outer₉, env₉, B', hA', hf', hk'⟩, X', T', hd', hu', hh'⟩ := C1
  repeat' (first | walk1 | (dsimp only; walk1))
  unfold Stop
  rename Heap.NewExc _ _ _ _ => hx
  refine leave_newS BG hx F' N' ?_
  intro h3 R _ hup
  exact hE g h3 _ _ FG hr R hup
end
local macro_rules | `(tactic| walk_at "subscriptTail Name UnaryOp ref int") => `(tactic| (k_here; (with_reducible show wpAny _ _ (subscriptTail _ _ (Value.ref _) (Value.int (-1) _)) _ _ _); k_dflt (refine' last_gen ?k1 ?k2 ?k3 ?_ ?k6; (case k1 => k_asm); (case k2 => k_mem); (case k3 => ((try simp only [List.length_set, List.length_append, List.length_cons, List.length_nil]); omega)); (case k6 => with_unfolding_all rfl); k_whole); (try simp only [getD_snoc])))
local macro_rules | `(tactic| walk_at "subscriptTail Name Slice ref ref") => `(tactic| refine Stop.mk ?_)
local macro_rules | `(tactic| walk_at "call builtin:min") => `(tactic| refine Stop.mk ?_)
local macro_rules | `(tactic| walk_at "compareOp Eq") => `(tactic| refine Stop.mk ?_)
local macro_rules | `(tactic| walk_at "call type:zip") => `(tactic| refine Stop.mk ?_)
local macro_rules | `(tactic| walk_at "compareOp Eq ref ref") => `(tactic| (k_here; (with_reducible show wpAny _ _ (compareOp CmpOp.Eq (Value.ref _) (Value.ref _)) _ _ _); refine Stop.mk ?_))
local macro_rules | `(tactic| walk_at "CompSrcT") => `(tactic| refine Stop.mk ?_)
local macro_rules | `(tactic| walk_at "compareOp IsNot") => `(tactic| refine Stop.mk ?_)
local macro_rules | `(tactic| walk_at "subscriptTail") => `(tactic| (k_here; (with_reducible show wpAny _ _ (subscriptTail _ _ (Value.ref _) (Value.int _ _)) _ _ _); k_dflt (refine' grid_row ?k1 ?k2 ?k3 ?k4 ?k5 ?_ ?k6 ?k7; (case k1 => k_asm); (case k2 => k_mem); (case k3 => omega); (case k4 => omega); (case k5 => omega); (case k6 => with_unfolding_all rfl); (case k7 => (intro _; with_unfolding_all rfl)); k_whole); (try simp only [Int.toNat_natCast, toNat_succ, toNat_oa, toNat_oas])))
local macro_rules | `(tactic| walk_at "subscriptTail Name UnaryOp ref int") => `(tactic| (k_here; (with_reducible show wpAny _ _ (subscriptTail _ _ (Value.ref _) (Value.int (-1) _)) _ _ _); k_dflt (refine' grid_last ?k1 ?k2 ?k3 ?_ ?k6; (case k1 => k_asm); (case k2 => k_mem); (case k3 => omega); (case k6 => with_unfolding_all rfl); k_whole)))
local macro_rules | `(tactic| walk_at "call builtin:sorted") => `(tactic| refine Stop.mk ?_)
local macro_rules | `(tactic| walk_at "subscriptTail Name Name ref int") => `(tactic| (k_here; (with_reducible show wpAny _ _ (subscriptTail _ _ (Value.ref _) (Value.int _ _)) _ _ _); k_dflt (refine' item_gen ?k1 ?k2 ?k3 ?k4 ?k5 ?_ ?k6 ?k7; (case k1 => k_asm); (case k2 => k_mem); (case k3 => omega); (case k4 => ((try simp only [List.length_set, List.length_append, List.length_cons, List.length_nil]); omega)); (case k5 => ((try simp only [List.length_set, List.length_append, List.length_cons, List.length_nil]); omega)); (case k6 => with_unfolding_all rfl); (case k7 => (intro _; with_unfolding_all rfl)); k_whole); (try simp only [Int.toNat_natCast, toNat_succ, toNat_oa, toNat_oas])))
local macro_rules | `(tactic| walk_at "subscriptTail Name Name ref int") => `(tactic| (k_here; (with_reducible show wpAny _ _ (subscriptTail _ _ (Value.ref _) (Value.int _ _)) _ _ _); k_dflt (refine' grid_row ?k1 ?k2 ?k3 ?k4 ?k5 ?_ ?k6 ?k7; (case k1 => k_asm); (case k2 => k_mem); (case k3 => omega); (case k4 => omega); (case k5 => omega); (case k6 => with_unfolding_all rfl); (case k7 => (intro _; with_unfolding_all rfl)); k_whole); (try simp only [Int.toNat_natCast, toNat_succ, toNat_oa, toNat_oas])))
local macro_rules | `(tactic| walk_at "subscriptTail Name BinOp ref int") => `(tactic| (k_here; (with_reducible show wpAny _ _ (subscriptTail _ _ (Value.ref _) (Value.int _ _)) _ _ _); k_dflt (refine' item_gen ?k1 ?k2 ?k3 ?k4 ?k5 ?_ ?k6 ?k7; (case k1 => k_asm); (case k2 => k_mem); (case k3 => omega); (case k4 => ((try simp only [List.length_set, List.length_append, List.length_cons, List.length_nil]); omega)); (case k5 => ((try simp only [List.length_set, List.length_append, List.length_cons, List.length_nil]); omega)); (case k6 => with_unfolding_all rfl); (case k7 => (intro _; with_unfolding_all rfl)); k_whole); (try simp only [Int.toNat_natCast, toNat_succ, toNat_oa, toNat_oas])))
local macro_rules | `(tactic| walk_at "subscriptTail Name BinOp ref int") => `(tactic| (k_here; (with_reducible show wpAny _ _ (subscriptTail _ _ (Value.ref _) (Value.int _ _)) _ _ _); k_dflt (refine' grid_row ?k1 ?k2 ?k3 ?k4 ?k5 ?_ ?k6 ?k7; (case k1 => k_asm); (case k2 => k_mem); (case k3 => omega); (case k4 => omega); (case k5 => omega); (case k6 => with_unfolding_all rfl); (case k7 => (intro _; with_unfolding_all rfl)); k_whole); (try simp only [Int.toNat_natCast, toNat_succ, toNat_oa, toNat_oas])))
local macro_rules | `(tactic| walk_at "subscriptTail Name Constant ref int") => `(tactic| (k_here; (with_reducible show wpAny _ _ (subscriptTail _ _ (Value.ref _) (Value.int _ _)) _ _ _); k_dflt (refine' item_gen ?k1 ?k2 ?k3 ?k4 ?k5 ?_ ?k6 ?k7; (case k1 => k_asm); (case k2 => k_mem); (case k3 => omega); (case k4 => ((try simp only [List.length_set, List.length_append, List.length_cons, List.length_nil]); omega)); (case k5 => ((try simp only [List.length_set, List.length_append, List.length_cons, List.length_nil]); omega)); (case k6 => with_unfolding_all rfl); (case k7 => (intro _; with_unfolding_all rfl)); k_whole); (try simp only [Int.toNat_natCast, toNat_succ, toNat_oa, toNat_oas])))
local macro_rules | `(tactic| walk_at "subscriptTail Name Constant ref int") => `(tactic| (k_here; (with_reducible show wpAny _ _ (subscriptTail _ _ (Value.ref _) (Value.int _ _)) _ _ _); k_dflt (refine' grid_row ?k1 ?k2 ?k3 ?k4 ?k5 ?_ ?k6 ?k7; (case k1 => k_asm); (case k2 => k_mem); (case k3 => omega); (case k4 => omega); (case k5 => omega); (case k6 => with_unfolding_all rfl); (case k7 => (intro _; with_unfolding_all rfl)); k_whole); (try simp only [Int.toNat_natCast, toNat_succ, toNat_oa, toNat_oas])))
local macro_rules | `(tactic| walk_at "compareOp NotEq ref ref") => `(tactic| refine halt_stop (by assumption) ?_)
local macro_rules | `(tactic| walk_at "getMethod ref") => `(tactic| refine halt_stop (by assumption) ?_)
section
inductive LeaA (L' a : Addr) (vs : List Value) (n : Nat) (oW oK oI oC : Obj) (i : Nat) (ys : List Value) (news : List (Addr × Obj)) : Prop
  | mk (cs : List Cell) (h0 : news = (L' + 1 + 1 + 1 + 1, oW) :: (L' + 1 + 1 + 1, oK) :: (L' + 1 + 1, oI) :: (L' + 1, oC) :: (a, W.listOf vs.toArray n) :: led cs) (h1 : ys = refs cs) (h2 : cs.length = i) (h3 : (cs.map (·.1)).Nodup) (h4 : (∀ c ∈ cs, @LT.lt Nat _ (L' + 1 + 1 + 1 + 1) c.1)) (h5 : ∀ k, k < i → IntsAre (vals cs k) (List.replicate (vs.length + 1) 0)) : LeaA L' a vs n oW oK oI oC i ys news
inductive LeaB (L' a : Addr) (cs : List Cell) (vs : List Value) (sz : List Nat) (e : Nat) (m₁ : Str → Option Value) (var : List (Addr × Obj)) : Prop
  | mk (u : Str → Option Value) (oW oI : Obj) (vW vI : Option Value) (cs' : List Cell) (mx : Nat → Nat → Int) (h0 : m₁ = kstB u [(Str.ofString "sizes", .ref a)]) (h1 : var = (L' + 1 + 1 + 1 + 1, oW) :: (L' + 1 + 1, oI) :: led cs') (h2 : oW.data = .cell vW) (h3 : oI.data = .cell vI) (h4 : cs'.map (·.1) = cs.map (·.1)) (h5 : Grid cs' (vs.length + 1) mx) (h6 : ∀ i j, i ≤ j → j ≤ vs.length → j - i < 2 + e → mx i j = ((oc (seg sz i j) : Nat) : Int)) : LeaB L' a cs vs sz e m₁ var
inductive LeaC (L' a : Addr) (cs : List Cell) (vs : List Value) (sz : List Nat) (e : Nat) (i : Nat) (m₁ : Str → Option Value) (var : List (Addr × Obj)) : Prop
  | mk (u : Str → Option Value) (oI : Obj) (vI : Option Value) (cs' : List Cell) (mx : Nat → Nat → Int) (h0 : m₁ = kstB u [(Str.ofString "sizes", .ref a)]) (h1 : var = (L' + 1 + 1, oI) :: led cs') (h2 : oI.data = .cell vI) (h3 : cs'.map (·.1) = cs.map (·.1)) (h4 : Grid cs' (vs.length + 1) mx) (h5 : ∀ i' j, i' ≤ j → j ≤ vs.length → (j - i' < 2 + e ∨ (j - i' = 2 + e ∧ i' < i)) → mx i' j = ((oc (seg sz i' j) : Nat) : Int)) : LeaC L' a cs vs sz e i m₁ var
theorem least_spec {prog : Program} {w : World} {A : Around} {s : Shared} {h₀ : Heap} {L : Addr} {m : Str → Option Value} {rest : List (Addr × Obj)} {p : Program} {loose : List Str} {mean : ExcName → Option Value} {mg mb : Str → Option Value} {d : Nat} {Q : Value → Shared → Prop} {E : Value → Shared → Prop} {a : Addr} {vs : List Value} {n : Nat} {sz : List Nat}
    (C : At (hd04.heap_39 w.params) p loose mean mg mb A h₀ L (d + 2)) (F : Fr h₀ L s.heap m) (N : News h₀ L s.heap ((a, listOf vs.toArray n) :: rest)) (hsep : ∀ q ∈ rest, q.1 ≠ a) (hlen : vs.length ≤ 63) (hI : IntsAre vs (sz.map Int.ofNat))
    (hQ : ∀ h' tk t, Fr h₀ L h' m → News h₀ L h' ((a, listOf vs.toArray n) :: rest) → Q (.int (oc sz : Nat) t) { s with heap := h', toks := tk }) :
    wpAny (model prog w) A (call (.ref 90) [.ref a]) Q E s := by
  obtain ⟨hnd, dp, fr0, gd0, un0⟩ := A
  obtain rfl : hnd = none := C.hh
  obtain ⟨A₁, base₁, outer₁, env₁, B₁, hA₁, hf₁, hk₁⟩ := C.ex
  obtain rfl : fr0 = _ := hA₁
  w_top off
  refine' call_atC (own := [(a, listOf vs.toArray n)]) (rest := rest) (binds := [(Str.ofString "sizes", .ref a)]) C F N (fun p hp q hq e => ?hs) ?ho ?hcd ?hb ?hl ?hn ?_ ?h1 ?h2 ?h3
  case ho => k_is
  case hcd => k_is
  case hb => exact BindsTo.of_eq rfl
  case hl => exact rfl
  case hn => decide +kernel
  case h1 => rfl
  case h2 => rfl
  case h3 => rfl
  case hs =>
    simp only [List.mem_cons, List.not_mem_nil, or_false] at hp
    subst hp
    exact hsep q hq e.symm
  intro g L' h₁ tk cells C' F' N' Y hr hst hlo
  have haL := ltN (a := a) (b := L') (hlo _ (.head _))
  k_cells Y
  rename_i oW oK oI oC0 dW dK dI dC0
  simp only [List.cons_append, List.nil_append] at N'
  clear hsep F N hr hst hlo
  have hIS : Stop (IntsAre vs (sz.map Int.ofNat)) := hI
  have hlsz : sz.length = vs.length := by have := hI.length; simpa using this.symm
  clear hI
  have C1 := C'
  obtain ⟨⟨A₀, base, outer, env, B', hA', hf', hk'⟩, X', T', hd', hu', hh'⟩ := C1
  repeat' (first | walk1 | (dsimp only; walk1))
  unfold Stop
  rename Fr g L' _ _ => F2
  rename News g L' _ _ => N2
  rename_i hA oC hdC
  refine wpAny_Assign_Name ?_ (by with_unfolding_all rfl)
  refine LCg.ListComp_U (F₀ := F2) rfl (by decide) rfl (by decide) rfl ?_
  repeat' (first | walk1 | (dsimp only; walk1))
  unfold Stop
  rename IsRange _ _ _ _ _ _ _ _ => hR
  rename Fr g L' _ _ => F3
  rename News g L' _ _ => N3
  try clear F2 N2
  refine LCg.CompSrc.range (n := vs.length + 1) rfl F3 N3 hR (small_one (by omega) (by omega) (by omega) (by omega)) (by rw [rangeSize_nat]; congr 1) (by simp only [sizeLine]; omega) ?_
  intro g6
  refine comp_rest (LeaA L' a vs n oW oK oI oC) ⟨[], rfl, rfl, rfl, .nil, (fun c hc => nomatch hc), (fun k hk => absurd hk (Nat.not_lt_zero _))⟩ ?_ ?_
  · rintro i v I oI' C oC' D m₂ ys news h7 tk7 E' hi ⟨t7, rfl⟩ ⟨cs, rfl, rfl, hcl, hnd, hlo, hzr⟩ hC hx7 F7 N7 off ne
    clear F3 N3 hR
    repeat' (first | walk1 | (dsimp only; walk1))
    rename Fr g L' _ _ => F8
    rename News g L' _ _ => N8
    rename IntsAre _ _ => hz
    rename _ < _ ∧ I < _ ∧ _ => hlt9
    rename_i D9 h9 n1 s1 e1 e2 e3
    clear s1 e1 e2 e3
    have hr9 : (List.replicate ((vs.length : Int) + 1).toNat [Value.int 0 tk7]).flatten = List.replicate (vs.length + 1) (Value.int 0 tk7) := by
      rw [rep_flat, show ((vs.length : Int) + 1).toNat = vs.length + 1 by omega]
    rw [hr9, rep_flat, show ((vs.length : Int) + 1).toNat = vs.length + 1 by omega] at hz
    rw [hr9] at N8
    have hled : ∀ q ∈ led cs, @LT.lt Nat _ q.1 D9 := kst_ltOf hlt9.2.2.2.2.2.2.2.2.2
    refine ⟨_, _, (L' + 1 + 1 + 1 + 1, oW) :: (L' + 1 + 1 + 1, oK) :: (L' + 1 + 1, oI) :: (L' + 1, oC) :: (a, W.listOf vs.toArray n) :: led (cs ++ [(D9, List.replicate (vs.length + 1) (Value.int 0 tk7), 0)]), rfl, F8, cb_drop N8 (fun p hp => ?_), LCg.Off3.of (fun p hp => ?_), trivial, cs ++ [(D9, List.replicate (vs.length + 1) (Value.int 0 tk7), 0)], rfl, by rw [refs_append]; rfl, by simp [hcl], nodup_snoc hnd (fun hm => ?_), fun c hc => ?_, fun k hk => ?_⟩
    · rw [led_append] at hp
      refine lin_mem ?_ hp; repeat' first | with_reducible exact lin_refl | exact lin_nil | refine lin_cons ?_ ?_ | refine lin_app ?_ ?_ | with_reducible exact lin_here | refine lin_tail ?_ | exact lin_refl | exact lin_here | refine lin_skip ?_ | exact .head _ | refine .tail _ ?_ | refine List.mem_append_right _ ?_ | assumption
    · rw [led_append] at hp
      have o9 := LCg.Off3.mem off p
      obtain ⟨_, q1, q2, q3, _⟩ := hlt9
      simp only [List.mem_cons, List.mem_append, led, List.map_cons, List.map_nil, List.not_mem_nil, or_false] at hp o9
      rcases hp with h | h | h | h | h | h | h
      · exact o9 (by simp [h])
      · exact o9 (by simp [h])
      · exact o9 (by simp [h])
      · exact o9 (by simp [h])
      · exact o9 (by simp [h])
      · exact o9 (by simp [h])
      · subst h; exact ⟨neN (by dsimp only; omega), neN (by dsimp only; omega), neN (by dsimp only; omega)⟩
    · obtain ⟨c, hc, e⟩ := List.mem_map.mp hm
      have := hled _ (List.mem_map.mpr ⟨c, hc, rfl⟩)
      have e' : c.1 = D9 := e
      dsimp only at this
      rw [e'] at this
      exact absurd this (Nat.lt_irrefl _)
    · rcases List.mem_append.mp hc with hc | hc
      · exact hlo c hc
      · obtain rfl := List.mem_singleton.mp hc
        exact hlt9.2.2.2.2.1
    · rcases Nat.lt_or_ge k i with hki | hki
      · rw [vals_snoc_old (by omega)]; exact hzr k hki
      · obtain rfl : k = cs.length := by omega
        rw [vals_snoc_new]; exact hz
  · rintro ys news ⟨cs, rfl, rfl, hcl, hnd, hlo, hzr⟩ D h7 tk7 F7 N7 off
    clear F3 N3 hR
    dsimp only
    have hoff := off1_mem off
    have hDK := hoff _ (.tail _ (.head _))
    have hDl : ∀ q ∈ led cs, @Ne Nat q.1 D := fun q hq => hoff q (.tail _ (.tail _ (.tail _ (.tail _ (.tail _ hq)))))
    have hcs : ∀ q ∈ led cs, @LT.lt Nat _ (L' + 1 + 1 + 1 + 1) q.1 := fun q hq => by
      obtain ⟨c, hc, e⟩ := List.mem_map.mp (led_adr hq)
      rw [← e]; exact hlo c hc
    refine stCN (own := [(D, LCg.lst (refs cs)), (L' + 1 + 1 + 1 + 1, oW)]) (rest := (L' + 1 + 1, oI) :: (L' + 1, oC) :: (a, W.listOf vs.toArray n) :: led cs) F7 N7 rfl dK (fun p hp => ?_) (fun p hp => ?_) ?_
    · simp only [List.mem_cons, List.not_mem_nil, or_false] at hp
      rcases hp with rfl | rfl
      · exact neN (fun e => hDK e.symm)
      · exact neN (by dsimp only; omega)
    · simp only [List.mem_cons] at hp
      rcases hp with rfl | rfl | rfl | hp
      · exact neN (by dsimp only; omega)
      · exact neN (by dsimp only; omega)
      · exact neN (by dsimp only; omega)
      · have := hcs p hp; exact neN (by omega)
    intro h8 oK2 F8 N8 hdK
    simp only [List.cons_append, List.nil_append] at N8
    clear N7 F7
    have G0 := grid_zero hcl hzr
    have hD1 := hoff _ (.head _)
    have hD2 := hoff _ (.tail _ (.tail _ (.head _)))
    have hD3 := hoff _ (.tail _ (.tail _ (.tail _ (.head _))))
    have hD4 := hoff _ (.tail _ (.tail _ (.tail _ (.tail _ (.head _)))))
    dsimp only at hD1 hD2 hD3 hD4 hDK
    clear hoff off hzr
    repeat' (first | walk1 | (dsimp only; walk1))
    unfold Stop
    refine For_any ?_
    repeat' (first | walk1 | (dsimp only; walk1))
    unfold Stop
    rename IsRange _ _ _ _ _ _ _ _ => hR1
    rename Fr g L' _ _ => F9
    rename News g L' _ _ => N9
    refine iter_range_upA (vs.length - 1) (kept := [(D, W.listOf (refs cs).toArray (refs cs).length), (L' + 1 + 1 + 1, oK2), (L' + 1, oC), (a, W.listOf vs.toArray n)]) (news := (L' + 1 + 1 + 1 + 1, oW) :: (L' + 1 + 1, oI) :: led cs) rfl hR1 (by omega) (by omega) (by omega) (by omega) (by omega) F9 (cb_drop N9 (fun p hp => ?_)) ?_
      (LeaB L' a cs vs sz) ?_ ?_ ?_
    · refine lin_mem ?_ hp; repeat' first | with_reducible exact lin_refl | exact lin_nil | refine lin_cons ?_ ?_ | refine lin_app ?_ ?_ | with_reducible exact lin_here | refine lin_tail ?_ | exact lin_refl | exact lin_here | refine lin_skip ?_ | exact .head _ | refine .tail _ ?_ | refine List.mem_append_right _ ?_ | assumption
    · intro p hp q hq
      simp only [List.mem_cons, List.not_mem_nil, or_false] at hp hq
      rcases hq with rfl | rfl | hq
      · rcases hp with rfl | rfl | rfl | rfl <;> exact neN (by dsimp only; omega)
      · rcases hp with rfl | rfl | rfl | rfl <;> exact neN (by dsimp only; omega)
      · have h1 := hcs q hq
        have h2 := hDl q hq
        rcases hp with rfl | rfl | rfl | rfl <;> exact neN (by dsimp only; omega)
    · exact ⟨_, _, _, _, _, cs, _, kst_self (by kst_all), rfl, dW, dI, rfl, G0, fun i j h1 h2 h3 => by rw [oc_short]; rfl; rw [seg_len (by omega)]; omega⟩
    · rintro e t9 m₁ var h tk own he ⟨u, oW1, oI1, vW, vI, cs1, mx, rfl, rfl, hoW, hoI, hca, G, hmx⟩ hkp hso F₁ N₁
      clear N9 F9 hR1
      change Fr g L' _ _ at F₁
      change News g L' _ _ at N₁
      have hcs1 : ∀ q ∈ led cs1, @LT.lt Nat _ (L' + 1 + 1 + 1 + 1) q.1 := fun q hq => by
        have h9 := led_adr hq
        rw [hca] at h9
        obtain ⟨c, hc, e⟩ := List.mem_map.mp h9
        rw [← e]; exact hlo c hc
      refine wpAny_assign_Name (stCN (own := []) (rest := (L' + 1 + 1, oI1) :: led cs1 ++ own) F₁ N₁ rfl hoW (fun p hp => nomatch hp) (fun p hp => ?_) ?_)
      · simp only [List.cons_append, List.mem_cons, List.mem_append] at hp
        rcases hp with rfl | hp | hp
        · exact neN (by dsimp only; omega)
        · have := hcs1 p hp; exact neN (by omega)
        · exact hso p hp _ (.head _)
      intro h2 oW2 F2 N2 hoW2
      replace N2 : News g L' h2 ((L' + 1 + 1, oI1) :: (L' + 1 + 1 + 1 + 1, oW2) :: (D, W.listOf (refs cs).toArray (refs cs).length) :: (L' + 1 + 1 + 1, oK2) :: (L' + 1, oC) :: (a, W.listOf vs.toArray n) :: (led cs1 ++ own)) := fun p hp => by
        simp only [List.mem_cons, List.mem_append] at hp
        refine N2 p ?_
        simp only [List.cons_append, List.nil_append, List.mem_cons, List.mem_append]
        rcases hp with h | h | h | h | h | h | h | h
        · simp [h]
        · simp [h]
        · exact .inr (.inr (.inr (hkp p (by simp [h]))))
        · exact .inr (.inr (.inr (hkp p (by simp [h]))))
        · exact .inr (.inr (.inr (hkp p (by simp [h]))))
        · exact .inr (.inr (.inr (hkp p (by simp [h]))))
        · simp [h]
        · simp [h]
      have hso1 : ∀ p ∈ own, p.1 ≠ L' + 1 + 1 + 1 + 1 := fun p hp => hso p hp _ (.head _)
      have hso2 : ∀ p ∈ own, p.1 ≠ L' + 1 + 1 := fun p hp => hso p hp _ (.tail _ (.head _))
      have hso3 : ∀ p ∈ own, ∀ q ∈ led cs1, p.1 ≠ q.1 := fun p hp q hq => hso p hp _ (.tail _ (.tail _ hq))
      clear N₁ F₁ hso
      dsimp only [kstB] at F2
      dsimp only
      repeat' (first | walk1 | (dsimp only; walk1))
      unfold Stop
      refine For_any ?_
      repeat' (first | walk1 | (dsimp only; walk1))
      unfold Stop
      rename IsRange _ _ _ _ _ _ _ _ => hR1
      rename Fr g L' _ _ => F3
      rename News g L' _ _ => N3
      refine iter_range_upA (vs.length - (2 + e) + 1) (kept := (L' + 1 + 1 + 1 + 1, oW2) :: (D, W.listOf (refs cs).toArray (refs cs).length) :: (L' + 1 + 1 + 1, oK2) :: (L' + 1, oC) :: (a, W.listOf vs.toArray n) :: own) (news := (L' + 1 + 1, oI1) :: led cs1) rfl hR1 (by omega) (by omega) (by omega) (by omega) (by omega) F3 (cb_drop N3 (fun p hp => ?_)) ?_
        (LeaC L' a cs vs sz e) ?_ ?_ ?_
      · refine lin_mem ?_ hp; repeat' first | with_reducible exact lin_refl | exact lin_nil | refine lin_cons ?_ ?_ | refine lin_app ?_ ?_ | with_reducible exact lin_here | refine lin_tail ?_ | exact lin_refl | exact lin_here | refine lin_skip ?_ | exact .head _ | refine .tail _ ?_ | refine List.mem_append_right _ ?_ | assumption
      · intro p hp q hq
        simp only [List.mem_cons] at hp hq
        rcases hq with rfl | hq
        · rcases hp with rfl | rfl | rfl | rfl | rfl | hp
          · exact neN (by dsimp only; omega)
          · exact neN (by dsimp only; omega)
          · exact neN (by dsimp only; omega)
          · exact neN (by dsimp only; omega)
          · exact neN (by dsimp only; omega)
          · exact hso2 p hp
        · have h1 := hcs1 q hq
          have h2 : @Ne Nat q.1 D := fun e => hso3 _ (hkp _ (.head _)) q hq e.symm
          rcases hp with rfl | rfl | rfl | rfl | rfl | hp
          · exact neN (by dsimp only; omega)
          · exact neN (by dsimp only; omega)
          · exact neN (by dsimp only; omega)
          · exact neN (by dsimp only; omega)
          · exact neN (by dsimp only; omega)
          · exact hso3 p hp q hq
      · exact ⟨_, _, _, cs1, _, kst_self (by kst_all), rfl, hoI, hca, G, fun i j h1 h2 h3 => hmx i j h1 h2 (by omega)⟩
      · rintro i t8 m₁ var h tk own2 hi ⟨u, oI2, vI2, cs2, mx2, rfl, rfl, hoI2, hca2, G2, hmx2⟩ hkp2 hso9 F₁ N₁
        clear N3 F3 hR1
        change Fr g L' _ _ at F₁
        change News g L' _ _ at N₁
        have hcs2 : ∀ q ∈ led cs2, @LT.lt Nat _ (L' + 1 + 1 + 1 + 1) q.1 := fun q hq => by
          have h9 := led_adr hq
          rw [hca2] at h9
          obtain ⟨c, hc, e⟩ := List.mem_map.mp h9
          rw [← e]; exact hlo c hc
        have hsp2 : ∀ p ∈ own2, p.1 ≠ L' + 1 + 1 := fun p hp => hso9 p hp _ (.head _)
        have hsp3 : ∀ p ∈ own2, ∀ q ∈ led cs2, p.1 ≠ q.1 := fun p hp q hq => hso9 p hp _ (.tail _ hq)
        refine wpAny_assign_Name (stCN (own := []) (rest := led cs2 ++ own2) F₁ N₁ rfl hoI2 (fun p hp => nomatch hp) (fun p hp => ?_) ?_)
        · rcases List.mem_append.mp hp with hp | hp
          · have := hcs2 p hp; exact neN (by omega)
          · exact hsp2 p hp
        intro h3 oI3 F3 N3 hoI3
        have er : refs cs = refs cs2 := by
          have := congrArg (List.map Value.ref) hca2
          simpa [refs, List.map_map, Function.comp_def] using this.symm
        rw [er] at hkp2
        replace N3 : News g L' h3 ((L' + 1 + 1, oI3) :: (L' + 1 + 1 + 1 + 1, oW2) :: (D, W.listOf (refs cs2).toArray (refs cs2).length) :: (L' + 1 + 1 + 1, oK2) :: (L' + 1, oC) :: (a, W.listOf vs.toArray n) :: (led cs2 ++ own2)) := fun p hp => by
          simp only [List.mem_cons, List.mem_append] at hp
          refine N3 p ?_
          simp only [List.cons_append, List.nil_append, List.mem_cons, List.mem_append]
          rcases hp with h | h | h | h | h | h | h | h
          · simp [h]
          · exact .inr (.inr (hkp2 p (by simp [h])))
          · exact .inr (.inr (hkp2 p (by simp [h])))
          · exact .inr (.inr (hkp2 p (by simp [h])))
          · exact .inr (.inr (hkp2 p (by simp [h])))
          · exact .inr (.inr (hkp2 p (by simp [h])))
          · simp [h]
          · simp [h]
        clear N₁ F₁ hso9
        have hcl2 := G2.len
        have e0 : (0 : Int) + (i : Int) = (i : Int) := by omega
        rw [e0] at hoI3
        dsimp only [kstB] at F3
        dsimp only
        repeat' (first | walk1 | (dsimp only; walk1))
        unfold Stop
        rename Fr g L' _ _ => F4
        refine LCg.Assign_ListComp_U (F₀ := F4) rfl (by with_unfolding_all rfl) rfl (by decide) rfl (by decide) rfl rfl rfl ?_
        repeat' (first | walk1 | (dsimp only; walk1))
        unfold Stop
        rename IsRange _ _ _ _ _ _ _ _ => hR4
        rename Fr g L' _ _ => F5
        rename News g L' _ _ => N5
        refine LCg.CompSrc.range (n := 1 + e) rfl F5 N5 hR4 (small_one (by omega) (by omega) (by omega) (by omega)) (by rw [rangeSize_nat]; congr 1; omega) (by simp only [sizeLine]; omega) ?_
        intro g6
        refine comp_rest (fun k ys news => news = (L' + 1 + 1, oI3) :: (L' + 1 + 1 + 1 + 1, oW2) :: (D, W.listOf (refs cs2).toArray (refs cs2).length) :: (L' + 1 + 1 + 1, oK2) :: (L' + 1, oC) :: (a, W.listOf vs.toArray n) :: (led cs2 ++ own2) ∧
            IntsAre ys ((List.range k).map fun m => mx2 i (i + 1 + m) + mx2 (i + 1 + m) (i + (2 + e)))) ⟨rfl, .nil⟩ ?_ ?_
        · rintro k v I oI' C oC' D9 m₂ ys news h7 tk7 E' hk ⟨t7, rfl⟩ ⟨rfl, hys⟩ hC hx7 F7 N7 off ne
          have e1 : (i : Int) + 1 + (k : Int) = ((i + 1 + k : Nat) : Int) := by omega
          rw [e1] at hx7
          clear F5 N5 hR4
          have hysS : Stop (IntsAre ys ((List.range k).map fun m => mx2 i (i + 1 + m) + mx2 (i + 1 + m) (i + (2 + e)))) := hys
          clear hys
          repeat' (first | walk1 | (dsimp only; walk1))
          refine grid_cell (i := i) (cs := cs2) N7 (fun p hp => by simp [hp]) (by omega) (by omega) (by rw [G2.row _ (by omega)]; omega) (by rw [G2.row _ (by omega)]; omega) ?_ (by with_unfolding_all rfl) (by intro _; with_unfolding_all rfl)
          obtain ⟨t8, e8⟩ := G2.val i (i + 1 + k) (by omega) (by omega)
          rw [Int.toNat_natCast, e8]
          repeat' (first | walk1 | (dsimp only; walk1))
          refine grid_cell (i := i + 1 + k) (cs := cs2) N7 (fun p hp => by simp [hp]) (by omega) (by omega) (by rw [G2.row _ (by omega)]; omega) (by rw [G2.row _ (by omega)]; omega) ?_ (by with_unfolding_all rfl) (by intro _; with_unfolding_all rfl)
          obtain ⟨t9, e9⟩ := G2.val (i + 1 + k) (i + (2 + e)) (by omega) (by omega)
          rw [show ((i : Int) + (2 + (e : Int))).toNat = i + (2 + e) by omega, e9]
          repeat' (first | walk1 | (dsimp only; walk1))
          refine ⟨_, _, _, rfl, F7, N7, off, trivial, rfl, ?_⟩
          rw [List.range_succ, List.map_append]
          exact intsN_snoc hysS _ _
        · rintro ys news ⟨rfl, hys⟩ D9 h7 tk7 F7 N7 off
          clear F5 N5 hR4
          dsimp only
          have hysS : Stop (IntsAre ys ((List.range (1 + e)).map fun m => mx2 i (i + 1 + m) + mx2 (i + 1 + m) (i + (2 + e)))) := hys
          clear hys
          repeat' (first | walk1 | (dsimp only; walk1))
          unfold Stop
          refine slice_gen (zs := (vs.drop i).take (i + (2 + e) - i)) F7 N7 (PySem.IsL.isList (n := n) (N7 (a, W.listOf vs.toArray n) (by simp)).1) (IsPart.int _ _) (IsPart.int _ _) (by rw [show (i : Int) + (2 + (e : Int)) = ((i + (2 + e) : Nat) : Int) by omega]; exact pick_run2 i (i + (2 + e))) ?_ (by with_unfolding_all rfl) (by simp; omega)
          intro D8 h8 F8 N8 l8
          have hsg := ints_seg hIS i (i + (2 + e))
          generalize hzs : (vs.drop i).take (i + (2 + e) - i) = zs at *
          clear N7 F7
          repeat' (first | walk1 | (dsimp only; walk1))
          unfold Stop
          rename Fr g L' _ _ => F9
          rename News g L' _ _ => N9
          have hysl := IntsAre.length (show IntsAre ys _ from hysS)
          refine min_list_N rfl F9 N9 (PySem.IsL.isList (n := ys.length) (N9 (D9, W.listOf ys.toArray ys.length) (by simp [LCg.lst, W.listOf])).1) hysS (by simp; omega) ?_
          intro h10 M tM tk10 F10 N10 hM hle
          have hns : ((List.range (1 + e)).map fun m => mx2 i (i + 1 + m) + mx2 (i + 1 + m) (i + (2 + e))) = (List.range (2 + e - 1)).map fun m => ((oc (seg sz i (i + 1 + m)) : Nat) : Int) + ((oc (seg sz (i + 1 + m) (i + (2 + e))) : Nat) : Int) := by
            rw [show 2 + e - 1 = 1 + e by omega]
            refine List.map_congr_left fun m hm => ?_
            have hm' := List.mem_range.mp hm
            rw [hmx2 i (i + 1 + m) (by omega) (by omega) (by omega), hmx2 (i + 1 + m) (i + (2 + e)) (by omega) (by omega) (by omega)]
          have hstep := seg_step (by omega) (by omega) hns hM hle
          clear N9 F9 N8 F8 hM hle
          repeat' (first | walk1 | (dsimp only; walk1))
          rw [hstep, show (i : Int) + (2 + (e : Int)) = ((i + (2 + e) : Nat) : Int) by omega]
          refine set_gen (D := adr cs2 i) (vs := vals cs2 i) (n := cnt cs2 i) F10 (news := led cs2 ++ ((L' + 1 + 1, oI3) :: own2)) (cb_drop N10 (fun p hp => ?_)) (upd_led (by rw [hca2]; exact hnd) (by omega) (fun q hq hm => ?_)) (by omega) (by rw [G2.row _ (by omega)]; omega) (by rw [G2.row _ (by omega)]; omega) ?_
          · refine lin_mem ?_ hp; repeat' first | with_reducible exact lin_refl | exact lin_nil | refine lin_cons ?_ ?_ | refine lin_app ?_ ?_ | with_reducible exact lin_here | refine lin_tail ?_ | exact lin_refl | exact lin_here | refine lin_skip ?_ | exact .head _ | refine .tail _ ?_ | refine List.mem_append_right _ ?_ | assumption
          · obtain ⟨c, hc, e9⟩ := List.mem_map.mp hm
            have hcl : (c.1, W.listOf c.2.1.toArray c.2.2) ∈ led cs2 := List.mem_map.mpr ⟨c, hc, rfl⟩
            rcases List.mem_cons.mp hq with rfl | hq
            · have h1 := ltN (hcs2 _ hcl)
              have h2 := eqN e9
              dsimp only at h1 h2
              omega
            · exact hsp3 q hq _ hcl e9.symm
          intro h11 F11 N11
          rw [Int.toNat_natCast] at N11
          clear N10 F10
          repeat' (first | walk1 | (dsimp only; walk1))
          refine ⟨_, _, _, (L' + 1 + 1, oI3) :: led (cs2.set i (adr cs2 i, (vals cs2 i).set (i + (2 + e)) (Value.int (oc (seg sz i (i + (2 + e))) : Nat) tk10), cnt cs2 i)), rfl, F11, cb_drop N11 (fun p hp => ?_), fun p hp q hq => ?_, _, _, _, _, _, kst_self (by kst_all), rfl, hoI3, by rw [map_adr_set]; exact hca2, G2.put (by omega) (by omega) _ _ _, fun i' j h1 h2 h3 => ?_⟩
          · refine lin_mem ?_ hp; repeat' first | with_reducible exact lin_refl | exact lin_nil | refine lin_cons ?_ ?_ | refine lin_app ?_ ?_ | with_reducible exact lin_here | refine lin_tail ?_ | exact lin_refl | exact lin_here | refine lin_skip ?_ | exact .head _ | refine .tail _ ?_ | refine List.mem_append_right _ ?_ | assumption
          · rcases List.mem_cons.mp hq with rfl | hq
            · exact hsp2 p hp
            · have h9 := led_adr hq
              rw [map_adr_set] at h9
              obtain ⟨c, hc, e9⟩ := List.mem_map.mp h9
              rw [← e9]
              exact hsp3 p hp (c.1, W.listOf c.2.1.toArray c.2.2) (List.mem_map.mpr ⟨c, hc, rfl⟩)
          · by_cases hij : i' = i ∧ j = i + (2 + e)
            · rw [if_pos hij, hij.1, hij.2]
            · rw [if_neg hij]; exact hmx2 i' j h1 h2 (by omega)
      · rintro m₁ var h tk ⟨u, oI2, vI2, cs2, mx2, rfl, rfl, hoI2, hca2, G2, hmx2⟩ hso9 F₁ N₁
        dsimp only
        refine wpAny_execs_nil ?_
        change Fr g L' _ _ at F₁
        change News g L' _ _ at N₁
        refine ⟨_, _, _, (L' + 1 + 1 + 1 + 1, oW2) :: (L' + 1 + 1, oI2) :: led cs2, rfl, F₁, cb_drop N₁ (fun p hp => ?_), fun p hp q hq => ?_, _, _, _, _, _, cs2, _, rfl, rfl, hoW2, hoI2, hca2, G2, fun i j h1 h2 h3 => hmx2 i j h1 h2 (by omega)⟩
        · refine lin_mem ?_ hp; repeat' first | with_reducible exact lin_refl | exact lin_nil | refine lin_cons ?_ ?_ | refine lin_app ?_ ?_ | with_reducible exact lin_here | refine lin_tail ?_ | exact lin_refl | exact lin_here | refine lin_skip ?_ | exact .head _ | refine .tail _ ?_ | refine List.mem_append_right _ ?_ | assumption
        · simp only [List.mem_cons] at hq
          rcases hq with rfl | rfl | hq
          · exact hso1 p hp
          · exact hso2 p hp
          · exact hso9 p (by simp [hp]) q (.tail _ hq)
    · rintro m₁ var h tk ⟨u, oW1, oI1, vW, vI, cs1, mx, rfl, rfl, hoW, hoI, hca, G, hmx⟩ hso F₁ N₁
      clear N9 F9 hR1 hso
      change Fr g L' _ _ at F₁
      change News g L' _ _ at N₁
      have er : refs cs = refs cs1 := by
        have := congrArg (List.map Value.ref) hca
        simpa [refs, List.map_map, Function.comp_def] using this.symm
      rw [er] at N₁
      replace N₁ : News g L' h ((D, W.listOf (refs cs1).toArray (refs cs1).length) :: (L' + 1 + 1 + 1, oK2) :: (L' + 1, oC) :: (a, W.listOf vs.toArray n) :: led cs1) := cb_drop N₁ fun p hp => by
        refine lin_mem ?_ hp; repeat' first | with_reducible exact lin_refl | exact lin_nil | refine lin_cons ?_ ?_ | refine lin_app ?_ ?_ | with_reducible exact lin_here | refine lin_tail ?_ | exact lin_refl | exact lin_here | refine lin_skip ?_ | exact .head _ | refine .tail _ ?_ | refine List.mem_append_right _ ?_ | assumption
      have hcl1 := G.len
      dsimp only [kstB] at F₁
      dsimp only
      repeat' (first | walk1 | (dsimp only; walk1))
      refine grid_cell (i := 0) (cs := cs1) N₁ (fun p hp => by simp [hp]) (by omega) (by omega) (by rw [G.row _ (by omega)]; omega) (by rw [G.row _ (by omega)]; omega) ?_ (by with_unfolding_all rfl) (by intro _; with_unfolding_all rfl)
      obtain ⟨t9, e9⟩ := G.val 0 vs.length (by omega) (by omega)
      rw [Int.toNat_natCast, e9, hmx 0 vs.length (by omega) (by omega) (by omega), ← hlsz, seg_all]
      repeat' (first | walk1 | (dsimp only; walk1))
      exact ⟨_, _, [(a, W.listOf vs.toArray n)], F₁, cb_drop N₁ (fun p hp => by rw [List.mem_singleton.mp hp]; simp), fun kF kN _ => hQ _ _ _ kF kN⟩
end
section
inductive RunC (s : Shared) (g : Heap) (L' M K a R : Addr) (ms cm vs : List Value) (nm nc n : Nat) (mI cI : List Int) (rows : List (List Int)) (oR : Obj) (s' : Shared) : Prop
  | mk (h' : Heap) (tk : Nat) (u' : Str → Option Value) (B : Addr) (ab : List Value) (abI : List Int) (cs' : List Cell) (rows' : List (List Int)) (nR' : Nat) (h0 : s' = { s with heap := h', toks := tk }) (h1 : Fr g L' h' (kstB u' [(Str.ofString "able", .ref B), (Str.ofString "memory", .ref M), (Str.ofString "coming", .ref K)])) (h2 : News g L' h' ((L' + 1, oR) :: (M, W.listOf ms.toArray nm) :: (K, W.listOf cm.toArray nc) :: (a, W.listOf vs.toArray n) :: (R, W.listOf (refs cs').toArray nR') :: led cs')) (h3 : h'.IsList B ab.toArray) (h4 : IntsAre ab abI) (h5 : 0 < abI.length) (h6 : minI abI = pickX mI rows) (h7 : RowsAre cs' rows') (h8 : rows' ≠ []) (h9 : rows'.dropLast ++ [rows'.getLastD [] ++ [pickX mI rows]] = pickR mI rows) (h10 : (cs'.map (·.1)).Nodup) (h11 : (∀ c ∈ cs', (@Ne Nat c.1 M) ∧ (@Ne Nat c.1 R) ∧ (@Ne Nat c.1 (L' + 1)) ∧ (@Ne Nat c.1 K) ∧ (@Ne Nat c.1 a))) (h12 : cs'.length + (mI.length + cI.length) ≤ 64) (h13 : ∀ c ∈ cs', c.2.1.length + (mI.length + cI.length) ≤ 63) : RunC s g L' M K a R ms cm vs nm nc n mI cI rows oR s'
inductive RunW (L' a : Addr) (vs : List Value) (n k : Nat) (ns : List Int) (n₁ : Nat) (m₁ : Str → Option Value) (news₁ : List (Addr × Obj)) : Prop
  | mk (u : Str → Option Value) (M K R : Addr) (ms cm : List Value) (mI cI : List Int) (nm nc nR : Nat) (cs : List Cell) (rows : List (List Int)) (oR : Obj) (h0 : m₁ = kstB u [(Str.ofString "memory", .ref M), (Str.ofString "coming", .ref K)]) (h1 : news₁ = (L' + 1, oR) :: (M, W.listOf ms.toArray nm) :: (K, W.listOf cm.toArray nc) :: (a, W.listOf vs.toArray n) :: (R, W.listOf (refs cs).toArray nR) :: led cs) (h2 : oR.data = .cell (some (.ref R))) (h3 : IntsAre ms mI) (h4 : IntsAre cm cI) (h5 : RowsAre cs rows) (h6 : RowsOk rows) (h7 : (cs.map (·.1)).Nodup) (h8 : (@Ne Nat M (L' + 1))) (h9 : (@Ne Nat M K)) (h10 : (@Ne Nat M a)) (h11 : (@Ne Nat M R)) (h12 : (∀ c ∈ cs, @Ne Nat c.1 M)) (h13 : (@Ne Nat R (L' + 1))) (h14 : (@Ne Nat R K)) (h15 : (@Ne Nat R a)) (h16 : (∀ c ∈ cs, @Ne Nat c.1 R)) (h17 : (∀ c ∈ cs, (@Ne Nat c.1 (L' + 1)) ∧ (@Ne Nat c.1 K) ∧ (@Ne Nat c.1 a))) (h18 : n₁ = mI.length + cI.length) (h19 : cs.length + n₁ ≤ 63) (h20 : (∀ c ∈ cs, c.2.1.length + n₁ ≤ 63)) (h21 : runsF n₁ mI cI rows = runsF ns.length (ns.take k) (ns.drop k) []) : RunW L' a vs n k ns n₁ m₁ news₁
theorem runs_spec {prog : Program} {w : World} {A : Around} {s : Shared} {h₀ : Heap} {L : Addr} {m : Str → Option Value} {rest : List (Addr × Obj)} {p : Program} {loose : List Str} {mean : ExcName → Option Value} {mg mb : Str → Option Value} {d : Nat} {Q : Value → Shared → Prop} {E : Value → Shared → Prop} {a : Addr} {vs : List Value} {n k : Nat} {tk₀ : Tok} {ns : List Int}
    (C : At (hd04.heap_39 w.params) p loose mean mg mb A h₀ L (d + 6)) (F : Fr h₀ L s.heap m) (N : News h₀ L s.heap ((a, listOf vs.toArray n) :: rest)) (hsep : ∀ q ∈ rest, q.1 ≠ a) (hlen : vs.length ≤ 63) (hk : k ≤ 10) (hI : IntsAre vs ns)
    (hQ : ∀ h' tk R cs nR, Fr h₀ L h' m → News h₀ L h' ((R, listOf (refs cs).toArray nR) :: (led cs ++ (a, listOf vs.toArray n) :: rest)) → (cs.map (·.1)).Nodup → R ∉ cs.map (·.1) → R ≠ a → a ∉ cs.map (·.1) → (∀ q ∈ rest, q.1 ≠ R ∧ q.1 ∉ cs.map (·.1)) → RowsAre cs (runsF ns.length (ns.take k) (ns.drop k) []) → Q (.ref R) { s with heap := h', toks := tk }) :
    wpAny (model prog w) A (call (.ref 80) [.ref a, .int k tk₀]) Q E s := by
  obtain ⟨hnd, dp, fr0, gd0, un0⟩ := A
  obtain rfl : hnd = none := C.hh
  obtain ⟨A₁, base₁, outer₁, env₁, B₁, hA₁, hf₁, hk₁⟩ := C.ex
  obtain rfl : fr0 = _ := hA₁
  w_top off
  refine' call_atC (own := [(a, listOf vs.toArray n)]) (rest := rest) (binds := [(Str.ofString "numbers", .ref a), (Str.ofString "size", .int k tk₀)]) C F N (fun p hp q hq e => ?hs) ?ho ?hcd ?hb ?hl ?hn ?_ ?h1 ?h2 ?h3
  case ho => k_is
  case hcd => k_is
  case hb => exact BindsTo.of_eq rfl
  case hl => exact rfl
  case hn => decide +kernel
  case h1 => rfl
  case h2 => rfl
  case h3 => rfl
  case hs =>
    simp only [List.mem_cons, List.not_mem_nil, or_false] at hp
    subst hp
    exact hsep q hq e.symm
  intro g L' h₁ tk cells C' F' N' Y hr hst hlo
  have haL := ltN (a := a) (b := L') (hlo _ (.head _))
  k_cells Y
  rename_i oR0 dR0
  simp only [List.cons_append, List.nil_append] at N'
  clear hsep F N hst hlo
  have hIS : Stop (IntsAre vs ns) := hI
  have hlsz : ns.length = vs.length := by have := hI.length; omega
  clear hI
  have C1 := C'
  obtain ⟨⟨A₀, base, outer, env, B', hA', hf', hk'⟩, X', T', hd', hu', hh'⟩ := C1
  repeat' (first | walk1 | (dsimp only; walk1))
  unfold Stop
  refine slice_gen (zs := vs.take k) F' N' (PySem.IsL.isList (n := n) (N' (a, W.listOf vs.toArray n) (by simp)).1) IsPart.none (IsPart.int _ _) (pick_upto vs k) ?_ (by with_unfolding_all rfl) (by simp; omega)
  intro M h2 F2 N2 l2
  have l2a := ltN (l2 _ (.head _))
  have l2b := ltN (l2 _ (.tail _ (.head _)))
  dsimp only at l2a l2b
  clear N' F' l2
  repeat' (first | walk1 | (dsimp only; walk1))
  unfold Stop
  rename Fr g L' _ _ => F3
  rename News g L' _ _ => N3
  refine slice_gen (zs := vs.drop k) F3 N3 (PySem.IsL.isList (n := n) (N3 (a, W.listOf vs.toArray n) (by simp)).1) (IsPart.int _ _) IsPart.none (pick_from vs k) ?_ (by with_unfolding_all rfl) (by simp; omega)
  intro K h4 F4 N4 l4
  have l4a := ltN (l4 _ (.head _))
  have l4b := ltN (l4 _ (.tail _ (.head _)))
  have l4c := ltN (l4 _ (.tail _ (.tail _ (.head _))))
  dsimp only at l4a l4b l4c
  clear N3 F3 l4
  repeat' (first | walk1 | (dsimp only; walk1))
  unfold Stop
  rename_i R hx lR h5 oR F5 N5 hoR
  obtain ⟨lR1, lR2, lR3, lR4⟩ := lR
  have hmI : IntsAre (vs.take k) (ns.take k) := ints_take hIS k
  have hcI : IntsAre (vs.drop k) (ns.drop k) := ints_drop hIS k
  have hl1 : (ns.take k).length + (ns.drop k).length = ns.length := by simp; omega
  refine While_inv2 (RunW L' a vs n k ns) (n₀ := ns.length) F5 (show News g L' h5 ((L' + 1, oR) :: (M, W.listOf (vs.take k).toArray 0) :: (K, W.listOf (vs.drop k).toArray 0) :: (a, W.listOf vs.toArray n) :: (R, W.listOf (refs []).toArray 0) :: led []) from cb_drop N5 (fun p hp => ?_)) ?_ ?_
  · refine lin_mem ?_ hp; repeat' first | with_reducible exact lin_refl | exact lin_nil | refine lin_cons ?_ ?_ | refine lin_app ?_ ?_ | with_reducible exact lin_here | refine lin_tail ?_ | exact lin_refl | exact lin_here | refine lin_skip ?_ | exact .head _ | refine .tail _ ?_ | refine List.mem_append_right _ ?_ | assumption
  · refine ⟨_, M, K, R, _, _, _, _, 0, 0, 0, [], [], oR, kst_self (by kst_all), rfl, hoR, hmI, hcI, RowsAre.nil, (fun r hr => nomatch hr), .nil, by omega, by omega, by omega, by omega, (fun c hc => nomatch hc), by omega, by omega, by omega, (fun c hc => nomatch hc), (fun c hc => nomatch hc), hl1.symm, by simp; omega, (fun c hc => nomatch hc), rfl⟩
  · rintro n₁ m₁ news₁ h₂ tk₁ F₂ N₂ ⟨u, M, K, R, ms, cm, mI, cI, nm, nc, nR, cs, rows, oR, rfl, rfl, hoR, hmI, hcI, hra, hok, hnd, hM1, hM2, hM3, hM4, hM5, hR1, hR2, hR3, hR4, hC, rfl, hcl, hrl, htgt⟩
    clear F5 N5
    dsimp only [kstB] at F₂
    repeat' (first | walk1 | (dsimp only; walk1))
    · rename decide (mI = []) = true => hemp
      rename Fr g L' _ _ => F3
      rename News g L' _ _ => N3
      obtain rfl : mI = [] := by simpa using hemp
      rw [runsF_nil] at htgt
      subst htgt
      dsimp only
      refine ⟨_, _, (R, W.listOf (refs cs).toArray nR) :: (led cs ++ [(a, W.listOf vs.toArray n)]), F3, cb_drop N3 (fun p hp => ?_), fun kF kN hs => ?_⟩
      · refine lin_mem ?_ hp; repeat' first | with_reducible exact lin_refl | exact lin_nil | refine lin_cons ?_ ?_ | refine lin_app ?_ ?_ | with_reducible exact lin_here | refine lin_tail ?_ | exact lin_refl | exact lin_here | refine lin_skip ?_ | exact .head _ | refine .tail _ ?_ | refine List.mem_append_right _ ?_ | assumption
      · refine hQ _ _ R cs nR kF (by simpa using kN) hnd (fun hm => ?_) (neN hR3) (fun hm => ?_) (fun q hq => ⟨fun e => hs _ (.head _) q hq e.symm, fun hm => ?_⟩) hra
        · obtain ⟨c, hc, e⟩ := List.mem_map.mp hm
          exact hR4 c hc e
        · obtain ⟨c, hc, e⟩ := List.mem_map.mp hm
          exact (hC c hc).2.2 e
        · obtain ⟨c, hc, e⟩ := List.mem_map.mp hm
          exact hs (c.1, W.listOf c.2.1.toArray c.2.2) (.tail _ (List.mem_append_left _ (List.mem_map.mpr ⟨c, hc, rfl⟩))) q hq e
    · rename decide (mI = []) = false => hemp
      rename Fr g L' _ _ => F3
      rename News g L' _ _ => N3
      have hne : mI ≠ [] := by simpa using hemp
      replace N3 : News g L' _ ((L' + 1, oR) :: (M, W.listOf ms.toArray nm) :: (K, W.listOf cm.toArray nc) :: (a, W.listOf vs.toArray n) :: (R, W.listOf (refs cs).toArray nR) :: led cs) := cb_drop N3 (fun p hp => .tail _ hp)
      unfold Stop
      refine LCt.Assign_ListComp_T (F₀ := F3) rfl (by with_unfolding_all rfl) rfl (by decide) rfl (by decide) rfl rfl rfl ?_
      repeat' (first | walk1 | (dsimp only; walk1))
      unfold Stop
      have hmS : Stop (IntsAre ms mI) := hmI
      have hcS : Stop (IntsAre cm cI) := hcI
      have hml := hmI.length
      clear hmI hcI
      have hcl0 : cs.length ≤ 63 := by omega
      refine LCt.CompSrcT.ledger (k := nm) (its := ms.toArray) rfl F3 N3 (.tail _ (.head _)) (by simp [sizeLine]; omega) ?_
      intro g6
      refine comp_restT (fun i ys news => news = (L' + 1, oR) :: (M, W.listOf ms.toArray nm) :: (K, W.listOf cm.toArray nc) :: (a, W.listOf vs.toArray n) :: (R, W.listOf (refs cs).toArray nR) :: led cs ∧
          IntsAre ys ((mI.take i).filter (ableP rows))) ⟨rfl, .nil⟩ ?_ ?_
      · rintro i v I oI C oC' D m₂ ys news h7 tk7 E' hi hv ⟨rfl, hys⟩ hC7 hx7 F7 N7 off ne
        have hv2 : ms[i]? = some v := by simpa using hv
        obtain ⟨y, ty, rfl⟩ : IsInt v := isInt_of hmS v (List.mem_of_getElem? hv2)
        have hiy : mI[i]? = some y := by rw [← ival_of hmS, List.getElem?_map, hv2]; rfl
        have hysS : Stop (IntsAre ys ((mI.take i).filter (ableP rows))) := hys
        clear hys N3 F3 hv
        have hlt9 : Halt := trivial
        repeat' (first | walk1 | (dsimp only; walk1))
        refine Stop.out ?_
        clear hlt9
        rename Fr g L' _ _ => F8
        rename News g L' _ _ => N8
        by_cases hrn : rows = []
        · refine ne_rows (cs := cs) (cs' := []) (rows' := []) (n := nR) N8 (by simp) (fun p hp => by simp [hp]) hra (.head _) (fun p hp => nomatch hp) RowsAre.nil (by have := C'.hu; omega) ?_
          subst hrn
          repeat' (first | walk1 | (dsimp only; walk1))
          refine ⟨_, _, _, rfl, F8, cb_drop N8 (fun p hp => .tail _ hp), off, .inr ⟨_, .tail _ (.head _), rfl, _, rfl⟩, rfl, ?_⟩
          rw [take_filter_succ hiy]
          have hysI : IntsAre ys ((mI.take i).filter (ableP [])) := hysS
          have hno : ableP [] y = false := by simp [ableP]
          rw [hno, if_neg (by decide), List.append_nil]
          exact hysI
        · refine ne_rows (cs := cs) (cs' := []) (rows' := []) (n := nR) N8 (by simp) (fun p hp => by simp [hp]) hra (.head _) (fun p hp => nomatch hp) RowsAre.nil (by have := C'.hu; omega) ?_
          have hcp : 0 < cs.length := by have := List.length_pos_iff.mpr hrn; have := hra.len; omega
          rw [show (!decide (rows = [])) = true by simp [hrn]]
          repeat' (first | walk1 | (dsimp only; walk1))
          obtain ⟨hlp, tl, hle⟩ := hra.last hrn hok
          refine last_gen (vs := vals cs (cs.length - 1)) (n := cnt cs (cs.length - 1)) (by assumption) (by simp [led_mem (show cs.length - 1 < cs.length by omega)]) hlp ?_ (by with_unfolding_all rfl)
          rw [hle]
          repeat' (first | walk1 | (dsimp only; walk1))
          · rename lastN rows ≤ y => hly
            refine ⟨_, _, _, rfl, F8, cb_drop N8 (fun p hp => .tail _ hp), off, .inr ⟨_, .tail _ (.head _), rfl, _, rfl⟩, rfl, ?_⟩
            have hyes : ableP rows y = true := by simp [ableP, hrn, hly]
            rw [take_filter_succ hiy, hyes, if_pos rfl]
            exact intsN_snoc hysS _ _
          · rename ¬ lastN rows ≤ y => hly
            refine ⟨_, _, _, rfl, F8, cb_drop N8 (fun p hp => .tail _ hp), off, .inr ⟨_, .tail _ (.head _), rfl, _, rfl⟩, rfl, ?_⟩
            have hno : ableP rows y = false := by simp [ableP, hly]
            rw [take_filter_succ hiy, hno, if_neg (by decide), List.append_nil]
            exact hysS
      · rintro ys news ⟨rfl, hys⟩ D h7 tk7 F7 N7 off
        rw [show ms.toArray.size = mI.length by simp; omega, List.take_length] at hys
        have hysS : Stop (IntsAre ys (mI.filter (ableP rows))) := hys
        clear N3 F3
        dsimp only
        refine wpAny_execs_cons ?_
        have hoffs := off1_mem off
        refine wp_cut (fun f s' => Stop (IsNext f ∧ RunC s g L' M K a R ms cm vs nm nc n mI cI rows oR s')) ?_ ?_
        · skip
          repeat' (first | walk1 | (dsimp only; walk1))
          refine Stop.out ?_
          rename Fr g L' _ _ => F8
          rename News g L' _ _ => N8
          refine eq_intsK (PySem.IsL.isList (n := ys.length) (N8 (D, W.listOf ys.toArray ys.length) (by simp [LCg.lst, W.listOf])).1) hysS (PySem.IsL.isList (n := 0) (N8 (_, W.listOf ([] : List Value).toArray 0) (.head _)).1) .nil (by have := C'.hu; omega) ?_
          by_cases hfl : mI.filter (ableP rows) = []
          · rw [show decide (mI.filter (ableP rows) = []) = true by simp [hfl]]
            repeat' (first | walk1 | (dsimp only; walk1))
            rename Fr g L' _ _ => F9
            rename News g L' _ _ => N9
            rename _ < _ ∧ D < _ ∧ _ => l9
            rename_i E0 hE0 E9 hE9
            obtain ⟨_, l9D, l9L, l9M, l9K, l9a, l9R, l9cs⟩ := l9
            have l9c := kst_ltOf l9cs
            refine append_gen (D := R) (vs := refs cs) (n := nR) (x := .ref E9) F9 (cb_drop N9 (news := (R, W.listOf (refs cs).toArray nR) :: (E9, W.listOf ([] : List Value).toArray 0) :: (L' + 1, oR) :: (M, W.listOf ms.toArray nm) :: (K, W.listOf cm.toArray nc) :: (a, W.listOf vs.toArray n) :: led cs) (fun p hp => ?_)) (Upd.head (fun p hp => ?_)) (by rw [refs_len]; omega) ?_
            · refine lin_mem ?_ hp; repeat' first | with_reducible exact lin_refl | exact lin_nil | refine lin_cons ?_ ?_ | refine lin_app ?_ ?_ | with_reducible exact lin_here | refine lin_tail ?_ | exact lin_refl | exact lin_here | refine lin_skip ?_ | exact .head _ | refine .tail _ ?_ | refine List.mem_append_right _ ?_ | assumption
            · simp only [List.mem_cons] at hp
              rcases hp with rfl | rfl | rfl | rfl | rfl | hp
              · exact neN (by dsimp only; omega)
              · exact neN (by dsimp only; omega)
              · exact neN (by dsimp only; omega)
              · exact neN (by dsimp only; omega)
              · exact neN (by dsimp only; omega)
              · obtain ⟨c, hc, e⟩ := List.mem_map.mp (led_adr hp)
                exact fun e2 => hR4 c hc (e.trans e2)
            intro h10 F10 N10
            clear N9 F9
            repeat' (first | walk1 | (dsimp only; walk1))
            rename Fr g L' _ _ => F11
            rename News g L' _ _ => N11
            refine Stop.out ⟨rfl, _, _, _, M, ms, mI, cs ++ [(E9, [], 0)], rows ++ [[]], nR + 1, rfl, fr_kst F11 (by kst_all), cb_drop N11 (fun p hp => ?_), PySem.IsL.isList (n := nm) (N11 (M, W.listOf ms.toArray nm) (by simp)).1, hmS, List.length_pos_iff.mpr hne, ?_, hra.snoc .nil, by simp, ?_, nodup_snoc hnd (fun hm => ?_), fun c hc => ?_, by simp; omega, fun c hc => ?_⟩
            · rw [led_append, refs_append] at hp
              refine lin_mem ?_ hp; repeat' first | with_reducible exact lin_refl | exact lin_nil | refine lin_cons ?_ ?_ | refine lin_app ?_ ?_ | with_reducible exact lin_here | refine lin_tail ?_ | exact lin_refl | exact lin_here | refine lin_skip ?_ | exact .head _ | refine .tail _ ?_ | refine List.mem_append_right _ ?_ | assumption
            · rw [pickX, if_pos hfl]
            · rw [pickX, pickR, if_pos hfl, if_pos hfl]; simp [List.getLastD_eq_getLast?]
            · obtain ⟨c, hc, e⟩ := List.mem_map.mp hm
              have h1 := ltN (l9c _ (List.mem_map.mpr ⟨c, hc, rfl⟩))
              have h2 := eqN e
              dsimp only at h1 h2
              omega
            · rcases List.mem_append.mp hc with hc | hc
              · exact ⟨hM5 c hc, hR4 c hc, hC c hc⟩
              · obtain rfl := List.mem_singleton.mp hc
                exact ⟨by dsimp only; omega, by dsimp only; omega, by dsimp only; omega, by dsimp only; omega, by dsimp only; omega⟩
            · rcases List.mem_append.mp hc with hc | hc
              · exact hrl c hc
              · obtain rfl := List.mem_singleton.mp hc
                simp; omega
          · rw [show decide (mI.filter (ableP rows) = []) = false by simp [hfl]]
            repeat' (first | walk1 | (dsimp only; walk1))
            refine Stop.out ⟨rfl, _, _, _, D, ys, mI.filter (ableP rows), cs, rows, nR, rfl, fr_kst F8 (by kst_all), cb_drop N8 (fun p hp => .tail _ (.tail _ hp)), PySem.IsL.isList (n := ys.length) (N8 (D, W.listOf ys.toArray ys.length) (by simp [LCg.lst, W.listOf])).1, hysS, List.length_pos_iff.mpr hfl, ?_, hra, ?_, ?_, hnd, fun c hc => ⟨hM5 c hc, hR4 c hc, hC c hc⟩, by omega, hrl⟩
            · rw [pickX, if_neg hfl]
            · obtain ⟨_, hz2⟩ := List.mem_filter.mp (minI_mem hfl)
              exact (able_ne hz2).1
            · rw [pickX, pickR, if_neg hfl, if_neg hfl]
        · rintro f s' ⟨rfl, h', tk8, u', B, ab, abI, cs', rows', nR', rfl, F8, N8, hlB, habI, habp, hmin, hra', hrn', hpk, hnd', hC', hcl', hrl'⟩
          clear N7 F7 off hoffs
          dsimp only [kstB] at F8
          dsimp only
          repeat' (first | walk1 | (dsimp only; walk1))
          refine Stop.out ?_
          refine min_list_N rfl F8 N8 hlB habI habp ?_
          intro h9 X tX tk9 F9 N9 hX hXle
          obtain rfl : X = pickX mI rows := by rw [← hmin]; exact minI_eq hX hXle
          have hXm := pickX_mem (rows := rows) hne
          have hstep : runsF (mI.length + cI.length) mI cI rows = runsF (mI.length + cI.length - 1) (mI.erase (pickX mI rows) ++ cI.take 1) (cI.drop 1) (pickR mI rows) := by
            have hp := List.length_pos_iff.mpr hne
            rw [show mI.length + cI.length = (mI.length + cI.length - 1) + 1 by omega, runsF, if_neg hne]
            rfl
          have hpos := List.length_pos_iff.mpr hne
          have hel := (List.perm_cons_erase hXm).length_eq
          rw [List.length_cons] at hel
          have hpok := pickR_ok (mem := mI) hok
          rw [← hpk] at hpok hstep
          have hcp : 0 < cs'.length := by have := List.length_pos_iff.mpr hrn'; have := hra'.len; omega
          have hcl64 : cs'.length ≤ 64 := by omega
          generalize hXe : pickX mI rows = X at *
          clear N8 F8 hX hXle hXe hlB habI habp
          have hlt9 : Halt := trivial
          repeat' (first | walk1 | (dsimp only; walk1))
          refine Stop.out ?_
          clear hlt9
          rename Fr g L' _ _ => F10
          rename News g L' _ _ => N10
          have hkl : cs'.length - 1 < cs'.length := by omega
          refine W.kf_method (D := adr cs' (cs'.length - 1)) (its := (vals cs' (cs'.length - 1)).toArray) (n := cnt cs' (cs'.length - 1)) N10 (by simp [led_mem hkl]) PySem.F.slot_list_append PySem.F.type_list_append ?_
          repeat' (first | walk1 | (dsimp only; walk1))
          have hvl : (vals cs' (cs'.length - 1)).length ≤ 63 := by
            have := hrl' cs'[cs'.length - 1] (List.getElem_mem hkl)
            rw [cell_at hkl] at this
            dsimp only at this
            omega
          refine append_gen (vs := vals cs' (cs'.length - 1)) (n := cnt cs' (cs'.length - 1)) F10 (cb_drop N10 (news := led cs' ++ ((M, W.listOf ms.toArray nm) :: (L' + 1, oR) :: (K, W.listOf cm.toArray nc) :: (a, W.listOf vs.toArray n) :: (R, W.listOf (refs cs').toArray nR') :: [])) (fun p hp => ?_)) (upd_led hnd' hkl (fun q hq hm => ?_)) (by omega) ?_
          · refine lin_mem ?_ hp; repeat' first | with_reducible exact lin_refl | exact lin_nil | refine lin_cons ?_ ?_ | refine lin_app ?_ ?_ | with_reducible exact lin_here | refine lin_tail ?_ | exact lin_refl | exact lin_here | refine lin_skip ?_ | exact .head _ | refine .tail _ ?_ | refine List.mem_append_right _ ?_ | assumption
          · obtain ⟨c, hc, e⟩ := List.mem_map.mp hm
            obtain ⟨c1, c2, c3, c4, c5⟩ := hC' c hc
            simp only [List.mem_cons, List.not_mem_nil, or_false] at hq
            rcases hq with rfl | rfl | rfl | rfl | rfl
            · exact c1 e
            · exact c3 e
            · exact c4 e
            · exact c5 e
            · exact c2 e
          intro h11 F11 N11
          obtain ⟨cs2, hcs2⟩ : ∃ cs2, cs2 = cs'.set (cs'.length - 1) (adr cs' (cs'.length - 1), vals cs' (cs'.length - 1) ++ [Value.int X tX], cnt cs' (cs'.length - 1) + 1) := ⟨_, rfl⟩
          have hra2 : RowsAre cs2 (rows'.dropLast ++ [rows'.getLastD [] ++ [X]]) := by
            have h1 := hra'.row hkl
            rw [← hra'.len, getD_last hrn'] at h1
            have h2 := hra'.put (k := cs'.length - 1) (c := (adr cs' (cs'.length - 1), vals cs' (cs'.length - 1) ++ [Value.int X tX], cnt cs' (cs'.length - 1) + 1)) (r := rows'.getLastD [] ++ [X]) (by rw [← hra'.len]; exact intsN_snoc h1 X tX)
            rw [← hcs2, ← hra'.len, set_last hrn'] at h2
            exact h2
          have hm2 : cs2.map (·.1) = cs'.map (·.1) := by rw [hcs2, map_adr_set]
          have hr2 : refs cs' = refs cs2 := by rw [hcs2, refs_set]
          have hrl2 : ∀ c ∈ cs2, c.2.1.length + (mI.length + cI.length - 1) ≤ 63 := by
            intro c hc
            rw [hcs2] at hc
            rcases List.mem_or_eq_of_mem_set hc with hc | rfl
            · have := hrl' c hc; omega
            · have := hrl' cs'[cs'.length - 1] (List.getElem_mem hkl)
              rw [cell_at hkl] at this
              dsimp only at this
              simp only [List.length_append, List.length_cons, List.length_nil]
              omega
          rw [← hcs2, hr2] at N11
          have hl2 : cs2.length = cs'.length := by rw [hcs2, List.length_set]
          rw [← hm2] at hnd'
          have hC2 : ∀ c ∈ cs2, (@Ne Nat c.1 M) ∧ (@Ne Nat c.1 R) ∧ (@Ne Nat c.1 (L' + 1)) ∧ (@Ne Nat c.1 K) ∧ (@Ne Nat c.1 a) := by
            intro c hc
            have h1 : c.1 ∈ cs2.map (·.1) := List.mem_map.mpr ⟨c, hc, rfl⟩
            rw [hm2] at h1
            obtain ⟨c', hc', e⟩ := List.mem_map.mp h1
            rw [← e]; exact hC' c' hc'
          clear hcs2 hra' hrl' hC' hm2 hr2 hvl hkl N10 F10
          repeat' (first | walk1 | (dsimp only; walk1))
          refine remove_gen (n := nm) (rest := (L' + 1, oR) :: (K, W.listOf cm.toArray nc) :: (a, W.listOf vs.toArray n) :: (R, W.listOf (refs cs2).toArray nR') :: led cs2) F11 (cb_drop N11 (fun p hp => ?_)) (fun q hq => ?_) hmS hXm (by omega) ?_
          · refine lin_mem ?_ hp; repeat' first | with_reducible exact lin_refl | exact lin_nil | refine lin_cons ?_ ?_ | refine lin_app ?_ ?_ | with_reducible exact lin_here | refine lin_tail ?_ | exact lin_refl | exact lin_here | refine lin_skip ?_ | exact .head _ | refine .tail _ ?_ | refine List.mem_append_right _ ?_ | assumption
          · simp only [List.mem_cons] at hq
            rcases hq with rfl | rfl | rfl | rfl | hq
            · exact neN (by dsimp only; omega)
            · exact neN (by dsimp only; omega)
            · exact neN (by dsimp only; omega)
            · exact neN (by dsimp only; omega)
            · obtain ⟨c, hc, e⟩ := List.mem_map.mp (led_adr hq)
              exact fun e2 => (hC2 c hc).1 (e.trans e2)
          intro h12 q12 F12 N12 hq12
          have hcml := IntsAre.length (show IntsAre cm cI from hcS)
          have hql := hq12.length
          clear N11 F11
          repeat' (first | walk1 | (dsimp only; walk1))
          refine Stop.out ?_
          rename Fr g L' _ _ => F13
          rename News g L' _ _ => N13
          refine slice_gen (zs := cm.take 1) F13 N13 (PySem.IsL.isList (n := nc) (N13 (K, W.listOf cm.toArray nc) (by simp)).1) IsPart.none (IsPart.int _ _) (pick_upto cm 1) ?_ (by with_unfolding_all rfl) (by simp; omega)
          intro T h14 F14 N14 l14
          have h14i := ints_take (show IntsAre cm cI from hcS) 1
          clear N13 F13
          repeat' (first | walk1 | (dsimp only; walk1))
          refine Stop.out ?_
          rename Fr g L' _ _ => F15
          rename News g L' _ _ => N15
          rename IntsAre _ (mI.erase X ++ cI.take 1) => hI15
          rename T < _ ∧ M < _ ∧ _ => l15
          rename_i M2 ws2 hx15 h15
          obtain ⟨l15T, l15M, l15L, l15K, l15a, l15R, l15cs⟩ := l15
          have l15c := kst_ltOf l15cs
          refine slice_gen (zs := cm.drop 1) F15 N15 (PySem.IsL.isList (n := nc) (N15 (K, W.listOf cm.toArray nc) (by simp)).1) (IsPart.int _ _) IsPart.none (pick_from cm 1) ?_ (by with_unfolding_all rfl) (by simp; omega)
          intro K2 h16 F16 N16 l16
          have l16M := ltN (l16 _ (.head _))
          have l16L := ltN (l16 _ (.tail _ (.tail _ (.tail _ (.head _)))))
          have l16a := ltN (l16 _ (.tail _ (.tail _ (.tail _ (.tail _ (.tail _ (.head _)))))))
          have l16R := ltN (l16 _ (.tail _ (.tail _ (.tail _ (.tail _ (.tail _ (.tail _ (.head _))))))))
          have l16c : ∀ q ∈ led cs2, @LT.lt Nat _ q.1 K2 := fun q hq => l16 _ (.tail _ (.tail _ (.tail _ (.tail _ (.tail _ (.tail _ (.tail _ hq)))))))
          have h16i := ints_drop (show IntsAre cm cI from hcS) 1
          dsimp only at l16M l16L l16a l16R
          have hlm : ∀ c ∈ cs2, (c.1, W.listOf c.2.1.toArray c.2.2) ∈ led cs2 := fun c hc => List.mem_map.mpr ⟨c, hc, rfl⟩
          clear N15 F15 l16
          repeat' (first | walk1 | (dsimp only; walk1))
          rename Fr g L' _ _ => F17
          rename News g L' _ _ => N17
          refine ⟨_, _, _, _, _, rfl, F17, (show News g L' _ ((L' + 1, oR) :: (M2, W.listOf ws2.toArray 0) :: (K2, W.listOf (cm.drop 1).toArray 0) :: (a, W.listOf vs.toArray n) :: (R, W.listOf (refs cs2).toArray nR') :: led cs2) from cb_drop N17 (fun p hp => ?_)), ?_, _, M2, K2, R, ws2, _, mI.erase X ++ cI.take 1, cI.drop 1, _, _, _, cs2, _, oR, kst_self (by kst_all), rfl, hoR, hI15, h16i, hra2, hpok, hnd', by omega, by omega, by omega, by omega, fun c hc => ?_, by omega, by omega, by omega, fun c hc => (hC2 c hc).2.1, fun c hc => ⟨(hC2 c hc).2.2.1, ?_, (hC2 c hc).2.2.2.2⟩, rfl, ?_, fun c hc => ?_, ?_⟩
          · refine lin_mem ?_ hp; repeat' first | with_reducible exact lin_refl | exact lin_nil | refine lin_cons ?_ ?_ | refine lin_app ?_ ?_ | with_reducible exact lin_here | refine lin_tail ?_ | exact lin_refl | exact lin_here | refine lin_skip ?_ | exact .head _ | refine .tail _ ?_ | refine List.mem_append_right _ ?_ | assumption
          · simp only [List.length_append, List.length_take, List.length_drop]; omega
          · have := ltN (l15c _ (hlm c hc)); dsimp only at this; omega
          · have := ltN (l16c _ (hlm c hc)); dsimp only at this; omega
          · simp only [List.length_append, List.length_take, List.length_drop]; omega
          · have := hrl2 c hc
            simp only [List.length_append, List.length_take, List.length_drop]; omega
          · rw [← htgt, hstep]
            congr 1
            simp only [List.length_append, List.length_take, List.length_drop]; omega
end
section
inductive HeapA (S1 a : Addr) (vs : List Value) (k n : Nat) (ns : List Int) (i : Nat) (ys : List Value) (news : List (Addr × Obj)) : Prop
  | mk (its : List (Addr × Obj)) (kf : KF) (h0 : news = (S1, W.listOf (vs.take k).toArray 0) :: (a, W.listOf vs.toArray n) :: its) (h1 : (∀ v ∈ ys, IsTup its kf v)) (h2 : ys.map (vkey kf) = (ns.take i).map (fun x => ((0 : Int), x))) (h3 : (∀ q ∈ its, @LT.lt Nat _ S1 q.1)) : HeapA S1 a vs k n ns i ys news
inductive HeapB (D O : Addr) (k : Nat) (ns : List Int) (i : Nat) (m₁ : Str → Option Value) (var : List (Addr × Obj)) : Prop
  | mk (u : Str → Option Value) (hp ol : List Value) (its : List (Addr × Obj)) (kf : KF) (nh no : Nat) (mem : List Int) (h0 : m₁ = kstB u [(Str.ofString "heap", .ref D), (Str.ofString "out", .ref O)]) (h1 : var = (D, W.listOf hp.toArray nh) :: (O, W.listOf ol.toArray no) :: its) (h2 : HeapAt (ltK kf) 0 hp) (h3 : (∀ v ∈ hp, IsTup its kf v)) (h4 : (∀ v ∈ ol, IsTup its kf v)) (h5 : OutOk (ol.map (vkey kf))) (h6 : (hp.map (vkey kf)).Perm (mem.map fun y => (tag (rowsOf (ol.map (vkey kf))) y, y))) (h7 : runsF (mem.length + (ns.drop (k + i)).length) mem (ns.drop (k + i)) (rowsOf (ol.map (vkey kf))) = runsF ns.length (ns.take k) (ns.drop k) []) (h8 : hp.length = (ns.take k).length) (h9 : ol.length = i) (h10 : (∀ q ∈ its, (@Ne Nat q.1 D) ∧ (@Ne Nat q.1 O))) : HeapB D O k ns i m₁ var
inductive HeapC (D O a : Addr) (vs : List Value) (n k : Nat) (its1 : List (Addr × Obj)) (kf1 : KF) (ns : List Int) (n₁ : Nat) (m₁ : Str → Option Value) (news₁ : List (Addr × Obj)) : Prop
  | mk (u : Str → Option Value) (hp ol : List Value) (nh no : Nat) (mem : List Int) (h0 : m₁ = kstB u [(Str.ofString "heap", .ref D), (Str.ofString "out", .ref O)]) (h1 : news₁ = (D, W.listOf hp.toArray nh) :: (O, W.listOf ol.toArray no) :: (a, W.listOf vs.toArray n) :: its1) (h2 : HeapAt (ltK kf1) 0 hp) (h3 : (∀ v ∈ hp, IsTup its1 kf1 v)) (h4 : (∀ v ∈ ol, IsTup its1 kf1 v)) (h5 : OutOk (ol.map (vkey kf1))) (h6 : (hp.map (vkey kf1)).Perm (mem.map fun y => (tag (rowsOf (ol.map (vkey kf1))) y, y))) (h7 : runsF hp.length mem [] (rowsOf (ol.map (vkey kf1))) = runsF ns.length (ns.take k) (ns.drop k) []) (h8 : ol.length + hp.length ≤ 63) (h9 : n₁ = hp.length) : HeapC D O a vs n k its1 kf1 ns n₁ m₁ news₁
inductive HeapD (R : Addr) (ol : List Value) (kf1 : KF) (i : Nat) (m₁ : Str → Option Value) (var : List (Addr × Obj)) : Prop
  | mk (u : Str → Option Value) (cs : List Cell) (nR : Nat) (h0 : m₁ = kstB u [(Str.ofString "rows", .ref R)]) (h1 : var = (R, W.listOf (refs cs).toArray nR) :: led cs) (h2 : RowsAre cs (rowsOf ((ol.map (vkey kf1)).take i))) (h3 : (cs.map (·.1)).Nodup) (h4 : (∀ c ∈ cs, @Ne Nat c.1 R)) (h5 : cs.length ≤ i) (h6 : ∀ c ∈ cs, c.2.1.length ≤ i) : HeapD R ol kf1 i m₁ var
theorem byheap_spec {prog : Program} {w : World} {A : Around} {s : Shared} {h₀ : Heap} {L : Addr} {m : Str → Option Value} {rest : List (Addr × Obj)} {p : Program} {loose : List Str} {mean : ExcName → Option Value} {mg mb : Str → Option Value} {d : Nat} {Q : Value → Shared → Prop} {E : Value → Shared → Prop} {a : Addr} {vs : List Value} {n k : Nat} {tk₀ : Tok} {ns : List Int}
    (C : At (hd04.heap_39 w.params) p loose mean mg mb A h₀ L (d + 6)) (F : Fr h₀ L s.heap m) (N : News h₀ L s.heap ((a, listOf vs.toArray n) :: rest)) (hsep : ∀ q ∈ rest, q.1 ≠ a) (hlen : vs.length ≤ 63) (hk1 : 1 ≤ k) (hk : k ≤ 10) (hI : IntsAre vs ns)
    (hQ : ∀ h' tk R cs nR, Fr h₀ L h' m → News h₀ L h' ((R, listOf (refs cs).toArray nR) :: (led cs ++ (a, listOf vs.toArray n) :: rest)) → (cs.map (·.1)).Nodup → R ∉ cs.map (·.1) → R ≠ a → a ∉ cs.map (·.1) → (∀ q ∈ rest, q.1 ≠ R ∧ q.1 ∉ cs.map (·.1)) → RowsAre cs (runsF ns.length (ns.take k) (ns.drop k) []) → Q (.ref R) { s with heap := h', toks := tk }) :
    wpAny (model prog w) A (call (.ref 75) [.ref a, .int k tk₀]) Q E s := by
  obtain ⟨hnd, dp, fr0, gd0, un0⟩ := A
  obtain rfl : hnd = none := C.hh
  obtain ⟨A₁, base₁, outer₁, env₁, B₁, hA₁, hf₁, hk₁⟩ := C.ex
  obtain rfl : fr0 = _ := hA₁
  w_top off
  refine' call_at (own := [(a, listOf vs.toArray n)]) (rest := rest) (binds := [(Str.ofString "numbers", .ref a), (Str.ofString "size", .int k tk₀)]) C F N (fun p hp q hq e => ?hs) ?ho ?hcd ?hb ?hl ?_ ?h1 ?h2 ?h3 ?h4
  case ho => k_is
  case hcd => k_is
  case hb => exact BindsTo.of_eq rfl
  case hl => exact locs rfl
  case h1 => rfl
  case h2 => rfl
  case h3 => rfl
  case h4 => decide
  case hs =>
    simp only [List.mem_cons, List.not_mem_nil, or_false] at hp
    subst hp
    exact hsep q hq e.symm
  intro g L' h₁ C' F' N' hr hst
  have hIS : Stop (IntsAre vs ns) := hI
  have hlsz : ns.length = vs.length := by have := hI.length; omega
  clear hsep F N hst hI
  have C1 := C'
  obtain ⟨⟨A₀, base, outer, env, B', hA', hf', hk'⟩, X', T', hd', hu', hh'⟩ := C1
  repeat' (first | walk1 | (dsimp only; walk1))
  unfold Stop
  rename Fr g L' _ _ => F2
  refine LCg.Assign_ListComp_U (F₀ := F2) rfl (by with_unfolding_all rfl) rfl (by decide) rfl (by decide) rfl rfl rfl ?_
  repeat' (first | walk1 | (dsimp only; walk1))
  unfold Stop
  rename News g L' _ _ => N2
  refine slice_gen (zs := vs.take k) F2 N2 (PySem.IsL.isList (n := n) (N2 (a, W.listOf vs.toArray n) (by simp)).1) IsPart.none (IsPart.int _ _) (pick_upto vs k) ?_ (by with_unfolding_all rfl) (by simp; omega)
  intro S1 h3 F3 N3 l3
  have l3a := ltN (l3 _ (.head _))
  dsimp only at l3a
  clear l3
  refine LCg.CompSrc.ledger (k := 0) (its := (vs.take k).toArray) rfl F3 N3 (.head _) (by simp [sizeLine]; omega) ?_
  intro g6
  refine comp_rest (HeapA S1 a vs k n ns) ⟨[], fun _ => (0, 0), rfl, (fun v hv => nomatch hv), rfl, (fun v hv => nomatch hv)⟩ ?_ ?_
  · rintro i v I oI C oC D m₂ ys news h7 tk7 E' hi hv ⟨its, kf, rfl, hyT, hyk, hits⟩ hC hx F7 N7 off ne
    have hv2 : (vs.take k)[i]? = some v := by simpa using hv
    obtain ⟨y, ty, rfl⟩ : IsInt v := isInt_of hIS v (List.mem_of_mem_take (List.mem_of_getElem? hv2))
    have hiy0 : (ns.take k)[i]? = some y := by rw [← ival_of hIS, ← List.map_take, List.getElem?_map, hv2]; rfl
    have hiy : ns[i]? = some y := by
      rw [List.getElem?_take] at hiy0
      split at hiy0
      · exact hiy0
      · cases hiy0
    clear F3 N3 N2 hv
    repeat' (first | walk1 | (dsimp only; walk1))
    rename Fr g L' _ _ => F8
    rename News g L' _ _ => N8
    rename I < _ ∧ C < _ ∧ _ => l8
    rename_i b h8
    obtain ⟨l8I, l8C, l8D, l8S, l8a, l8i⟩ := l8
    have hbi : ∀ q ∈ its, q.1 ≠ b := fun q hq => Nat.ne_of_lt (kst_ltOf l8i q hq)
    refine ⟨_, _, (S1, W.listOf (vs.take k).toArray 0) :: (a, W.listOf vs.toArray n) :: (b, tup2 0 y tk7 ty 0) :: its, rfl, F8, cb_drop N8 (fun p hp => ?_), ⟨off.1, off.2.1, ⟨neN (by dsimp only; omega), neN (by dsimp only; omega), neN (by dsimp only; omega)⟩, off.2.2⟩, .inr ⟨_, .head _, rfl, _, rfl⟩, (b, tup2 0 y tk7 ty 0) :: its, kfUp kf b (0, y), rfl, fun v hv => ?_, ?_, fun q hq => ?_⟩
    · refine lin_mem ?_ hp; repeat' first | with_reducible exact lin_refl | exact lin_nil | refine lin_cons ?_ ?_ | refine lin_app ?_ ?_ | with_reducible exact lin_here | refine lin_tail ?_ | exact lin_refl | exact lin_here | refine lin_skip ?_ | exact .head _ | refine .tail _ ?_ | refine List.mem_append_right _ ?_ | assumption
    · rcases List.mem_append.mp hv with hv | hv
      · exact isTup_up hbi (hyT v hv)
      · rw [List.mem_singleton.mp hv]; exact isTup_new
    · rw [List.map_append, keys_up hbi hyT, hyk, List.take_add_one, hiy, List.map_append]
      simp [vkey, kfUp]
    · rcases List.mem_cons.mp hq with rfl | hq
      · exact l8S
      · exact hits q hq
  · rintro ys news ⟨its, kf, rfl, hyT, hyk, hits⟩ D h7 tk7 F7 N7 off
    clear F3 N3 N2
    dsimp only
    repeat' (first | walk1 | (dsimp only; walk1))
    unfold Stop
    have hylen : ys.length = (ns.take k).length := by
      have := congrArg List.length hyk
      simp at this ⊢
      omega
    have hyl2 : ys.length ≤ 10 := by rw [hylen, List.length_take]; omega
    have hoff := off1_mem off
    have hDS := hoff _ (.head _)
    have hDa := hoff _ (.tail _ (.head _))
    have hDi : ∀ q ∈ its, @Ne Nat q.1 D := fun q hq => hoff q (.tail _ (.tail _ hq))
    dsimp only at hDS hDa
    clear hoff off
    refine heapify_spec (d := d) (S := IsTup its kf) (lt := ltK kf) (a := D) (vs := ys) (n := ys.length) (rest := (a, W.listOf vs.toArray n) :: its) (C'.less (by omega)) F7 (cb_drop N7 (fun p hp => ?_)) (fun q hq => ?_) (by omega) hyT (fun g' hr _ => cmp_tup fun q hq => hr q (.tail _ hq)) ?_
    · refine lin_mem ?_ hp; repeat' first | with_reducible exact lin_refl | exact lin_nil | refine lin_cons ?_ ?_ | refine lin_app ?_ ?_ | with_reducible exact lin_here | refine lin_tail ?_ | exact lin_refl | exact lin_here | refine lin_skip ?_ | exact .head _ | refine .tail _ ?_ | refine List.mem_append_right _ ?_ | assumption
    · rcases List.mem_cons.mp hq with rfl | hq
      · exact neN (fun e => hDa e)
      · exact hDi q hq
    intro h8 tk8 F8 N8
    clear N7 F7
    have hH0 := hfy_heap (wo_K kf) ys
    have hHp := hfy_perm (lt := ltK kf) ys
    have hHT : ∀ v ∈ hfy (ltK kf) ys, IsTup its kf v := fun v hv => hyT v (hHp.mem_iff.mp hv)
    have hHk : ((hfy (ltK kf) ys).map (vkey kf)).Perm ((ns.take k).map fun y => (tag (rowsOf []) y, y)) := by
      have h1 := hHp.map (vkey kf)
      rw [hyk, show ((vs.take k).toArray.size) = (ns.take k).length by simp; omega] at h1
      have h2 : (ns.take (ns.take k).length).map (fun x => ((0 : Int), x)) = (ns.take k).map fun y => (tag (rowsOf []) y, y) := by
        rw [show ns.take (ns.take k).length = ns.take k by rw [List.length_take]; exact (List.take_eq_take_min).symm]
        refine List.map_congr_left fun x _ => ?_
        simp [tag, rowsOf, ableP]
      rw [h2] at h1
      exact h1
    have hHl := hHp.length_eq
    generalize hfy (ltK kf) ys = hp0 at *
    repeat' (first | walk1 | (dsimp only; walk1))
    unfold Stop
    rename Fr g L' _ _ => F9
    rename News g L' _ _ => N9
    rename D < _ ∧ a < _ ∧ _ => l9
    rename_i O hx9 h9
    obtain ⟨l9D, l9a, l9i⟩ := l9
    have hOi := kst_ltOf l9i
    refine For_invV g rfl rfl ?_
    repeat' (first | walk1 | (dsimp only; walk1))
    unfold Stop
    refine slice_gen (zs := vs.drop k) F9 N9 (PySem.IsL.isList (n := n) (N9 (a, W.listOf vs.toArray n) (by simp)).1) (IsPart.int _ _) IsPart.none (pick_from vs k) ?_ (by with_unfolding_all rfl) (by simp; omega)
    intro S2 h10 F10 N10 l10
    have l10O := ltN (l10 _ (.head _))
    have l10D := ltN (l10 _ (.tail _ (.head _)))
    have l10a := ltN (l10 _ (.tail _ (.tail _ (.head _))))
    have l10i : ∀ q ∈ its, @LT.lt Nat _ q.1 S2 := fun q hq => l10 _ (.tail _ (.tail _ (.tail _ hq)))
    dsimp only at l10O l10D l10a
    clear l10
    repeat' (first | walk1 | (dsimp only; walk1))
    refine Stop.out ?_
    refine iter_list (l := S2) (vs := vs.drop k) (kept := [(S2, W.listOf (vs.drop k).toArray 0), (a, W.listOf vs.toArray n)]) (news := (D, W.listOf hp0.toArray ys.length) :: (O, W.listOf ([] : List Value).toArray 0) :: its) rfl (PySem.IsL.isList (n := 0) (N10 _ (.head _)).1) (N10 _ (.head _)).2.1 F10 (cb_drop N10 (fun p hp => ?_)) (fun p hp q hq => ?_) (fun q hq => ?_)
      (HeapB D O k ns) ?_ ?_ ?_
    · refine lin_mem ?_ hp; repeat' first | with_reducible exact lin_refl | exact lin_nil | refine lin_cons ?_ ?_ | refine lin_app ?_ ?_ | with_reducible exact lin_here | refine lin_tail ?_ | exact lin_refl | exact lin_here | refine lin_skip ?_ | exact .head _ | refine .tail _ ?_ | refine List.mem_append_right _ ?_ | assumption
    · simp only [List.mem_cons, List.not_mem_nil, or_false] at hp hq
      rcases hq with rfl | rfl | hq
      · rcases hp with rfl | rfl <;> exact neN (by dsimp only; omega)
      · rcases hp with rfl | rfl <;> exact neN (by dsimp only; omega)
      · have h1 := l10i q hq
        have h2 := hits q hq
        rcases hp with rfl | rfl <;> exact neN (by dsimp only; omega)
    · simp only [List.mem_cons] at hq
      rcases hq with rfl | rfl | hq
      · exact neN (by dsimp only; omega)
      · exact neN (by dsimp only; omega)
      · have h1 := l10i q hq; exact neN (by omega)
    · exact ⟨_, hp0, [], its, kf, _, _, ns.take k, kst_self (by kst_all), rfl, hH0, hHT, (fun v hv => nomatch hv), (fun k hk => absurd hk (Nat.not_lt_zero _)), hHk, by rw [Nat.add_zero]; congr 1; simp; omega, by omega, rfl, fun q hq => ⟨hDi q hq, Nat.ne_of_lt (hOi q hq)⟩⟩
    · rintro i v m₁ var h tk own hv ⟨u, hp, ol, its1, kf1, nh, no, mem, rfl, rfl, hHeap, hhT, hoT, hok, hkeys, htgt, hhl, hol, hsp⟩ hkp hso F₁ N₁
      clear N10 F10 N9 F9 hH0 hHT hHk hHp
      change Fr g L' _ _ at F₁
      change News g L' _ _ at N₁
      obtain ⟨hik, _⟩ := List.getElem?_eq_some_iff.mp hv
      rw [List.length_drop] at hik
      obtain ⟨y, ty, rfl⟩ : IsInt v := isInt_of hIS v (List.mem_of_mem_drop (List.mem_of_getElem? hv))
      have hyd : ns.drop (k + i) = y :: ns.drop (k + (i + 1)) := by
        have h1 : (ns.drop k)[i]? = some y := by rw [← ival_of hIS, ← List.map_drop, List.getElem?_map, hv]; rfl
        rw [List.getElem?_drop] at h1
        obtain ⟨h2, h3⟩ := List.getElem?_eq_some_iff.mp h1
        rw [List.drop_eq_getElem_cons h2, h3]
        rfl
      have hhpos : 0 < hp.length := by rw [hhl, List.length_take]; omega
      have hhl2 : hp.length ≤ 10 := by rw [hhl, List.length_take]; omega
      obtain ⟨b0, t0, u0, n0, e0, hm0⟩ := hhT _ (getD_mem hhpos)
      have hx0 : (kf1 b0) ∈ hp.map (vkey kf1) := List.mem_map.mpr ⟨_, getD_mem hhpos, by rw [e0]; rfl⟩
      have hmin0 : ∀ p ∈ hp.map (vkey kf1), ¬ lexlt p (kf1 b0) := fun p hp9 => by
        obtain ⟨v9, hv9, rfl⟩ := List.mem_map.mp hp9
        have := heap_min_mem (wo_K kf1) hHeap hv9
        rw [e0] at this
        exact ltK_lex.mp this
      obtain ⟨⟨r, x0⟩, hk0⟩ : ∃ k0, k0 = kf1 b0 := ⟨_, rfl⟩
      rw [← hk0] at hx0 hmin0 hm0
      dsimp only at hm0
      obtain ⟨n', hn', hok', hst', hnn', hks'⟩ := runs_turn (coming := ns.drop (k + i)) rfl hkeys hok hx0 hmin0
      replace N₁ : News g L' h ((b0, tup2 r x0 t0 u0 n0) :: (D, W.listOf hp.toArray nh) :: (O, W.listOf ol.toArray no) :: (a, W.listOf vs.toArray n) :: (its1 ++ own)) := fun p hp => by
        simp only [List.mem_cons, List.mem_append] at hp
        refine N₁ p ?_
        simp only [List.cons_append, List.mem_cons, List.mem_append]
        rcases hp with h | h | h | h | h | h
        · rw [h]; exact .inr (.inr (.inl hm0))
        · simp [h]
        · simp [h]
        · exact .inr (.inr (.inr (hkp p (by simp [h]))))
        · simp [h]
        · simp [h]
      have hso1 : ∀ p ∈ own, (@Ne Nat p.1 D) ∧ (@Ne Nat p.1 O) := fun p hp => ⟨hso p hp _ (.head _), hso p hp _ (.tail _ (.head _))⟩
      have hso2 : ∀ p ∈ own, ∀ q ∈ its1, p.1 ≠ q.1 := fun p hp q hq => hso p hp _ (.tail _ (.tail _ hq))
      clear hso
      dsimp only [kstB] at F₁
      dsimp only [tup2] at N₁
      repeat' (first | walk1 | (dsimp only; walk1))
      rw [show hp.getD (Int.toNat 0) Value.none = .ref b0 from e0]
      repeat' (first | walk1 | (dsimp only; walk1))
      · rename x0 ≤ y => hxy
        refine Stop.out ?_
        rename Fr g L' _ _ => F8
        rename News g L' _ _ => N8
        rename b0 < _ ∧ D < _ ∧ _ => l8
        rename_i b h8
        obtain ⟨T9, N8⟩ : ∃ T9, News g L' h8 ((b, tup2 r y T9 ty 0) :: (b0, tup2 r x0 t0 u0 n0) :: (D, W.listOf hp.toArray nh) :: (O, W.listOf ol.toArray no) :: (a, W.listOf vs.toArray n) :: (its1 ++ own)) := ⟨_, N8⟩
        obtain ⟨l8b, l8D, l8O, l8a, l8i⟩ := l8
        have l8c := kst_ltOf l8i
        have hbi : ∀ q ∈ its1, q.1 ≠ b := fun q hq => Nat.ne_of_lt (l8c q (List.mem_append_left _ hq))
        have hbo : ∀ q ∈ own, q.1 ≠ b := fun q hq => Nat.ne_of_lt (l8c q (List.mem_append_right _ hq))
        refine heapreplace_spec (d := d) (S := IsTup ((b, tup2 r y T9 ty 0) :: its1) (kfUp kf1 b (r, y))) (lt := ltK (kfUp kf1 b (r, y))) (a := D) (vs := hp) (n := nh) (x := .ref b) (rest := (O, W.listOf ol.toArray no) :: (b, tup2 r y T9 ty 0) :: (its1 ++ own)) (C'.less (by omega)) F8 (cb_drop N8 (fun p hp => ?_)) (fun q hq => ?_) (by omega) hhpos (fun v hv => isTup_up hbi (hhT v hv)) isTup_new (fun g' hr _ => cmp_tup fun q hq => hr q ?_) ?_
        · refine lin_mem ?_ hp; repeat' first | with_reducible exact lin_refl | exact lin_nil | refine lin_cons ?_ ?_ | refine lin_app ?_ ?_ | with_reducible exact lin_here | refine lin_tail ?_ | exact lin_refl | exact lin_here | refine lin_skip ?_ | exact .head _ | refine .tail _ ?_ | refine List.mem_append_right _ ?_ | assumption
        · simp only [List.mem_cons, List.mem_append] at hq
          rcases hq with rfl | rfl | hq | hq
          · exact neN (by dsimp only; omega)
          · exact neN (by dsimp only; omega)
          · exact (hsp q hq).1
          · exact (hso1 q hq).1
        · rcases List.mem_cons.mp hq with rfl | hq
          · exact .tail _ (.head _)
          · exact .tail _ (.tail _ (List.mem_append_left _ hq))
        intro h9 tk9 F9 N9
        have hb0b : b0 ≠ b := hbi _ hm0
        have hvb0 : vkey (kfUp kf1 b (r, y)) (.ref b0) = (r, x0) := by simp only [vkey, kfUp, hb0b, if_false]; exact hk0.symm
        have hpm := hrep_perm (lt := ltK (kfUp kf1 b (r, y))) (x := .ref b) hhpos
        have hhp' := hrep_heap (x := .ref b) (wo_K (kfUp kf1 b (r, y))) hhpos (heapAt_up hbi hhT hHeap)
        have hhl' := hrep_len (lt := ltK (kfUp kf1 b (r, y))) (x := .ref b) hhpos
        rw [show (hrep (ltK (kfUp kf1 b (r, y))) hp (.ref b)).1 = .ref b0 from e0] at hpm ⊢
        generalize (hrep (ltK (kfUp kf1 b (r, y))) hp (.ref b)).2 = hp2 at *
        clear N8 F8
        repeat' (first | walk1 | (dsimp only; walk1))
        refine append_gen (D := O) (vs := ol) (n := no) (x := .ref b0) F9 (cb_drop N9 (news := (O, W.listOf ol.toArray no) :: (D, W.listOf hp2.toArray nh) :: (b, tup2 r y T9 ty 0) :: (its1 ++ own)) (fun p hp => ?_)) (Upd.head (fun p hp => ?_)) (by omega) ?_
        · refine lin_mem ?_ hp; repeat' first | with_reducible exact lin_refl | exact lin_nil | refine lin_cons ?_ ?_ | refine lin_app ?_ ?_ | with_reducible exact lin_here | refine lin_tail ?_ | exact lin_refl | exact lin_here | refine lin_skip ?_ | exact .head _ | refine .tail _ ?_ | refine List.mem_append_right _ ?_ | assumption
        · simp only [List.mem_cons, List.mem_append] at hp
          rcases hp with rfl | rfl | hp | hp
          · exact neN (by dsimp only; omega)
          · exact neN (by dsimp only; omega)
          · exact (hsp p hp).2
          · exact (hso1 p hp).2
        intro h10 F10 N10
        clear N9 F9
        repeat' (first | walk1 | (dsimp only; walk1))
        rename Fr g L' _ _ => F11
        rename News g L' _ _ => N11
        have hok2 : (ol ++ [Value.ref b0]).map (vkey (kfUp kf1 b (r, y))) = ol.map (vkey kf1) ++ [(r, x0)] := by
          rw [List.map_append, keys_up hbi hoT, List.map_cons, List.map_nil, hvb0]
        have hd1 : (ns.drop (k + i)).drop 1 = ns.drop (k + (i + 1)) := by rw [hyd]; rfl
        refine ⟨_, _, _, (D, W.listOf hp2.toArray nh) :: (O, W.listOf (ol ++ [Value.ref b0]).toArray (no + 1)) :: (b, tup2 r y T9 ty 0) :: its1, rfl, F11, cb_drop N11 (fun p hp => ?_), fun p hp q hq => ?_, _, hp2, ol ++ [Value.ref b0], (b, tup2 r y T9 ty 0) :: its1, kfUp kf1 b (r, y), nh, no + 1, mem.erase x0 ++ (ns.drop (k + i)).take 1, kst_self (by kst_all), rfl, hhp', fun v hv => ?_, fun v hv => ?_, by rw [hok2]; exact hok', ?_, ?_, by omega, by simp; omega, fun q hq => ?_⟩
        · refine lin_mem ?_ hp; repeat' first | with_reducible exact lin_refl | exact lin_nil | refine lin_cons ?_ ?_ | refine lin_app ?_ ?_ | with_reducible exact lin_here | refine lin_tail ?_ | exact lin_refl | exact lin_here | refine lin_skip ?_ | exact .head _ | refine .tail _ ?_ | refine List.mem_append_right _ ?_ | assumption
        · simp only [List.mem_cons] at hq
          rcases hq with rfl | rfl | rfl | hq
          · exact (hso1 p hp).1
          · exact (hso1 p hp).2
          · exact hbo p hp
          · exact hso2 p hp q hq
        · rcases List.mem_cons.mp (hpm.mem_iff.mp (.tail _ hv)) with rfl | hv
          · exact isTup_new
          · exact isTup_up hbi (hhT v hv)
        · rcases List.mem_append.mp hv with hv | hv
          · exact isTup_up hbi (hoT v hv)
          · rw [List.mem_singleton.mp hv, ← e0]; exact isTup_up hbi (hhT _ (getD_mem hhpos))
        · rw [hok2]
          have h1 := (hks' _ (List.perm_cons_erase hx0)).2 y _ hyd
          rw [if_pos hxy] at h1
          refine List.Perm.trans ?_ h1
          have h2 := hpm.map (vkey (kfUp kf1 b (r, y)))
          rw [List.map_cons, List.map_cons, hvb0, keys_up hbi hhT, show vkey (kfUp kf1 b (r, y)) (.ref b) = (r, y) from kfUp_new _ _ _] at h2
          exact (h2.trans (((List.perm_cons_erase hx0).cons _).trans (List.Perm.swap _ _ _))).cons_inv
        · rw [hok2, ← htgt, hst', ← hd1, hnn']
        · rcases List.mem_cons.mp hq with rfl | hq
          · exact ⟨neN (by dsimp only; omega), neN (by dsimp only; omega)⟩
          · exact hsp q hq
      · rename ¬ x0 ≤ y => hxy
        refine Stop.out ?_
        rename Fr g L' _ _ => F8
        rename News g L' _ _ => N8
        rename b0 < _ ∧ D < _ ∧ _ => l8
        rename_i b h8
        obtain ⟨T9, N8⟩ : ∃ T9, News g L' h8 ((b, tup2 (r + 1) y T9 ty 0) :: (b0, tup2 r x0 t0 u0 n0) :: (D, W.listOf hp.toArray nh) :: (O, W.listOf ol.toArray no) :: (a, W.listOf vs.toArray n) :: (its1 ++ own)) := ⟨_, N8⟩
        obtain ⟨l8b, l8D, l8O, l8a, l8i⟩ := l8
        have l8c := kst_ltOf l8i
        have hbi : ∀ q ∈ its1, q.1 ≠ b := fun q hq => Nat.ne_of_lt (l8c q (List.mem_append_left _ hq))
        have hbo : ∀ q ∈ own, q.1 ≠ b := fun q hq => Nat.ne_of_lt (l8c q (List.mem_append_right _ hq))
        refine heapreplace_spec (d := d) (S := IsTup ((b, tup2 (r + 1) y T9 ty 0) :: its1) (kfUp kf1 b ((r + 1), y))) (lt := ltK (kfUp kf1 b ((r + 1), y))) (a := D) (vs := hp) (n := nh) (x := .ref b) (rest := (O, W.listOf ol.toArray no) :: (b, tup2 (r + 1) y T9 ty 0) :: (its1 ++ own)) (C'.less (by omega)) F8 (cb_drop N8 (fun p hp => ?_)) (fun q hq => ?_) (by omega) hhpos (fun v hv => isTup_up hbi (hhT v hv)) isTup_new (fun g' hr _ => cmp_tup fun q hq => hr q ?_) ?_
        · refine lin_mem ?_ hp; repeat' first | with_reducible exact lin_refl | exact lin_nil | refine lin_cons ?_ ?_ | refine lin_app ?_ ?_ | with_reducible exact lin_here | refine lin_tail ?_ | exact lin_refl | exact lin_here | refine lin_skip ?_ | exact .head _ | refine .tail _ ?_ | refine List.mem_append_right _ ?_ | assumption
        · simp only [List.mem_cons, List.mem_append] at hq
          rcases hq with rfl | rfl | hq | hq
          · exact neN (by dsimp only; omega)
          · exact neN (by dsimp only; omega)
          · exact (hsp q hq).1
          · exact (hso1 q hq).1
        · rcases List.mem_cons.mp hq with rfl | hq
          · exact .tail _ (.head _)
          · exact .tail _ (.tail _ (List.mem_append_left _ hq))
        intro h9 tk9 F9 N9
        have hb0b : b0 ≠ b := hbi _ hm0
        have hvb0 : vkey (kfUp kf1 b ((r + 1), y)) (.ref b0) = (r, x0) := by simp only [vkey, kfUp, hb0b, if_false]; exact hk0.symm
        have hpm := hrep_perm (lt := ltK (kfUp kf1 b ((r + 1), y))) (x := .ref b) hhpos
        have hhp' := hrep_heap (x := .ref b) (wo_K (kfUp kf1 b ((r + 1), y))) hhpos (heapAt_up hbi hhT hHeap)
        have hhl' := hrep_len (lt := ltK (kfUp kf1 b ((r + 1), y))) (x := .ref b) hhpos
        rw [show (hrep (ltK (kfUp kf1 b ((r + 1), y))) hp (.ref b)).1 = .ref b0 from e0] at hpm ⊢
        generalize (hrep (ltK (kfUp kf1 b ((r + 1), y))) hp (.ref b)).2 = hp2 at *
        clear N8 F8
        repeat' (first | walk1 | (dsimp only; walk1))
        refine append_gen (D := O) (vs := ol) (n := no) (x := .ref b0) F9 (cb_drop N9 (news := (O, W.listOf ol.toArray no) :: (D, W.listOf hp2.toArray nh) :: (b, tup2 (r + 1) y T9 ty 0) :: (its1 ++ own)) (fun p hp => ?_)) (Upd.head (fun p hp => ?_)) (by omega) ?_
        · refine lin_mem ?_ hp; repeat' first | with_reducible exact lin_refl | exact lin_nil | refine lin_cons ?_ ?_ | refine lin_app ?_ ?_ | with_reducible exact lin_here | refine lin_tail ?_ | exact lin_refl | exact lin_here | refine lin_skip ?_ | exact .head _ | refine .tail _ ?_ | refine List.mem_append_right _ ?_ | assumption
        · simp only [List.mem_cons, List.mem_append] at hp
          rcases hp with rfl | rfl | hp | hp
          · exact neN (by dsimp only; omega)
          · exact neN (by dsimp only; omega)
          · exact (hsp p hp).2
          · exact (hso1 p hp).2
        intro h10 F10 N10
        clear N9 F9
        repeat' (first | walk1 | (dsimp only; walk1))
        rename Fr g L' _ _ => F11
        rename News g L' _ _ => N11
        have hok2 : (ol ++ [Value.ref b0]).map (vkey (kfUp kf1 b ((r + 1), y))) = ol.map (vkey kf1) ++ [(r, x0)] := by
          rw [List.map_append, keys_up hbi hoT, List.map_cons, List.map_nil, hvb0]
        have hd1 : (ns.drop (k + i)).drop 1 = ns.drop (k + (i + 1)) := by rw [hyd]; rfl
        refine ⟨_, _, _, (D, W.listOf hp2.toArray nh) :: (O, W.listOf (ol ++ [Value.ref b0]).toArray (no + 1)) :: (b, tup2 (r + 1) y T9 ty 0) :: its1, rfl, F11, cb_drop N11 (fun p hp => ?_), fun p hp q hq => ?_, _, hp2, ol ++ [Value.ref b0], (b, tup2 (r + 1) y T9 ty 0) :: its1, kfUp kf1 b ((r + 1), y), nh, no + 1, mem.erase x0 ++ (ns.drop (k + i)).take 1, kst_self (by kst_all), rfl, hhp', fun v hv => ?_, fun v hv => ?_, by rw [hok2]; exact hok', ?_, ?_, by omega, by simp; omega, fun q hq => ?_⟩
        · refine lin_mem ?_ hp; repeat' first | with_reducible exact lin_refl | exact lin_nil | refine lin_cons ?_ ?_ | refine lin_app ?_ ?_ | with_reducible exact lin_here | refine lin_tail ?_ | exact lin_refl | exact lin_here | refine lin_skip ?_ | exact .head _ | refine .tail _ ?_ | refine List.mem_append_right _ ?_ | assumption
        · simp only [List.mem_cons] at hq
          rcases hq with rfl | rfl | rfl | hq
          · exact (hso1 p hp).1
          · exact (hso1 p hp).2
          · exact hbo p hp
          · exact hso2 p hp q hq
        · rcases List.mem_cons.mp (hpm.mem_iff.mp (.tail _ hv)) with rfl | hv
          · exact isTup_new
          · exact isTup_up hbi (hhT v hv)
        · rcases List.mem_append.mp hv with hv | hv
          · exact isTup_up hbi (hoT v hv)
          · rw [List.mem_singleton.mp hv, ← e0]; exact isTup_up hbi (hhT _ (getD_mem hhpos))
        · rw [hok2]
          have h1 := (hks' _ (List.perm_cons_erase hx0)).2 y _ hyd
          rw [if_neg hxy] at h1
          refine List.Perm.trans ?_ h1
          have h2 := hpm.map (vkey (kfUp kf1 b ((r + 1), y)))
          rw [List.map_cons, List.map_cons, hvb0, keys_up hbi hhT, show vkey (kfUp kf1 b ((r + 1), y)) (.ref b) = ((r + 1), y) from kfUp_new _ _ _] at h2
          exact (h2.trans (((List.perm_cons_erase hx0).cons _).trans (List.Perm.swap _ _ _))).cons_inv
        · rw [hok2, ← htgt, hst', ← hd1, hnn']
        · rcases List.mem_cons.mp hq with rfl | hq
          · exact ⟨neN (by dsimp only; omega), neN (by dsimp only; omega)⟩
          · exact hsp q hq
    · rintro m₁ var h tk ⟨u, hp, ol, its1, kf1, nh, no, mem, rfl, rfl, hHeap, hhT, hoT, hok, hkeys, htgt, hhl, hol, hsp⟩ hso F₁ N₁
      clear N10 F10 N9 F9 hH0 hHT hHk hHp
      change Fr g L' _ _ at F₁
      change News g L' _ _ at N₁
      have hd0 : ns.drop (k + (vs.drop k).length) = [] := List.drop_eq_nil_of_le (by rw [List.length_drop]; omega)
      rw [hd0, List.length_nil, Nat.add_zero] at htgt
      replace N₁ : News g L' h ((D, W.listOf hp.toArray nh) :: (O, W.listOf ol.toArray no) :: (a, W.listOf vs.toArray n) :: its1) := cb_drop N₁ fun p hp => by
        refine lin_mem ?_ hp; repeat' first | with_reducible exact lin_refl | exact lin_nil | refine lin_cons ?_ ?_ | refine lin_app ?_ ?_ | with_reducible exact lin_here | refine lin_tail ?_ | exact lin_refl | exact lin_here | refine lin_skip ?_ | exact .head _ | refine .tail _ ?_ | refine List.mem_append_right _ ?_ | assumption
      have hia : ∀ q ∈ its1, @Ne Nat q.1 a := fun q hq e => hso (a, _) (.tail _ (.head _)) q (.tail _ (.tail _ hq)) e.symm
      clear hso
      have hml := hkeys.length_eq
      simp only [List.length_map] at hml
      have hhl2 : hp.length ≤ 10 := by rw [hhl, List.length_take]; omega
      have hol2 : ol.length + hp.length ≤ 63 := by rw [hhl, hol, List.length_take, List.length_drop]; omega
      rw [← hml] at htgt
      clear hhl hol hml
      dsimp only [kstB] at F₁
      dsimp only
      repeat' (first | walk1 | (dsimp only; walk1))
      refine Stop.out ?_
      refine While_inv2 (HeapC D O a vs n k its1 kf1 ns) (n₀ := hp.length) F₁ N₁ ?_ ?_
      · exact ⟨_, hp, ol, _, _, mem, kst_self (by kst_all), rfl, hHeap, hhT, hoT, hok, hkeys, htgt, hol2, rfl⟩
      · rintro n₁ m₁ news₁ h₂ tk₁ F₂ N₂ ⟨u, hp, ol, nh, no, mem, rfl, rfl, hHeap, hhT, hoT, hok, hkeys, htgt, hol2, rfl⟩
        clear N₁ F₁
        dsimp only [kstB] at F₂
        repeat' (first | walk1 | (dsimp only; walk1))
        · skip
          refine Stop.out ?_
          rename 0 < (hp.length : Int) => hpi
          have hne : hp ≠ [] := List.length_pos_iff.mp (by omega)
          have hcat := List.dropLast_concat_getLast hne
          have hpm := hpop_perm (lt := ltK kf1) (ws := hp.dropLast) (y := hp.getLast hne)
          have hhp2 := hpop_heap (wo_K kf1) (ws := hp.dropLast) (y := hp.getLast hne) (by rw [hcat]; exact hHeap)
          have hmin := hpop_min (wo_K kf1) (ws := hp.dropLast) (y := hp.getLast hne) (by rw [hcat]; exact hHeap)
          rw [hcat] at hpm hmin
          obtain ⟨b0, t0, u0, n0, e0, hm0⟩ := hhT _ (hpm.mem_iff.mp (.head _))
          rw [e0] at hmin
          refine heappop_spec (d := d) (S := IsTup its1 kf1) (lt := ltK kf1) (a := D) (vs := hp) (n := nh) (rest := (O, W.listOf ol.toArray no) :: (a, W.listOf vs.toArray n) :: its1) hcat.symm (C'.less (by omega)) F₂ N₂ (fun q hq => ?_) (by omega) hhT (fun g' hr _ => cmp_tup fun q hq => hr q (.tail _ (.tail _ hq))) ?_
          · simp only [List.mem_cons] at hq
            rcases hq with rfl | rfl | hq
            · exact neN (by dsimp only; omega)
            · exact neN (by dsimp only; omega)
            · exact (hsp q hq).1
          intro h3 tk3 F3 N3
          rw [e0] at hpm ⊢
          generalize (hpop (ltK kf1) hp.dropLast (hp.getLast hne)).2 = hp2 at *
          have hl2 := hpm.length_eq
          rw [List.length_cons] at hl2
          have hk2 := hpm.map (vkey kf1)
          rw [List.map_cons] at hk2
          obtain ⟨⟨r, x0⟩, hk0⟩ : ∃ k0, k0 = kf1 b0 := ⟨_, rfl⟩
          have hv0 : vkey kf1 (.ref b0) = (r, x0) := hk0.symm
          rw [hv0] at hk2
          have hx0 : (r, x0) ∈ hp.map (vkey kf1) := hk2.mem_iff.mp (.head _)
          have hmin0 : ∀ p ∈ hp.map (vkey kf1), ¬ lexlt p (r, x0) := fun p hp9 => by
            obtain ⟨v9, hv9, rfl⟩ := List.mem_map.mp hp9
            have := ltK_lex.mp (hmin v9 hv9)
            rw [hv0] at this
            exact this
          have hml := hkeys.length_eq
          simp only [List.length_map] at hml
          obtain ⟨n', hn', hok', hst', hnn', hks'⟩ := runs_turn (coming := []) (n := hp.length) (by simp; omega) hkeys hok hx0 hmin0
          clear N₂ F₂
          repeat' (first | walk1 | (dsimp only; walk1))
          refine append_gen (D := O) (vs := ol) (n := no) (x := .ref b0) F3 (cb_drop N3 (news := (O, W.listOf ol.toArray no) :: (D, W.listOf hp2.toArray (nh + 1)) :: (a, W.listOf vs.toArray n) :: its1) (fun p hp => ?_)) (Upd.head (fun p hp => ?_)) (by omega) ?_
          · refine lin_mem ?_ hp; repeat' first | with_reducible exact lin_refl | exact lin_nil | refine lin_cons ?_ ?_ | refine lin_app ?_ ?_ | with_reducible exact lin_here | refine lin_tail ?_ | exact lin_refl | exact lin_here | refine lin_skip ?_ | exact .head _ | refine .tail _ ?_ | refine List.mem_append_right _ ?_ | assumption
          · simp only [List.mem_cons] at hp
            rcases hp with rfl | rfl | hp
            · exact neN (by dsimp only; omega)
            · exact neN (by dsimp only; omega)
            · exact (hsp p hp).2
          intro h4 F4 N4
          clear N3 F3
          repeat' (first | walk1 | (dsimp only; walk1))
          rename Fr g L' _ _ => F5
          rename News g L' _ _ => N5
          have hok2 : (ol ++ [Value.ref b0]).map (vkey kf1) = ol.map (vkey kf1) ++ [(r, x0)] := by rw [List.map_append, List.map_cons, List.map_nil, hv0]
          refine ⟨_, _, _, _, _, rfl, F5, (show News g L' _ ((D, W.listOf hp2.toArray (nh + 1)) :: (O, W.listOf (ol ++ [Value.ref b0]).toArray (no + 1)) :: (a, W.listOf vs.toArray n) :: its1) from cb_drop N5 (fun p hp => ?_)), ?_, _, hp2, ol ++ [Value.ref b0], _, _, mem.erase x0, kst_self (by kst_all), rfl, hhp2, fun v hv => hhT v (hpm.mem_iff.mp (.tail _ hv)), fun v hv => ?_, by rw [hok2]; exact hok', ?_, ?_, by simp; omega, rfl⟩
          · refine lin_mem ?_ hp; repeat' first | with_reducible exact lin_refl | exact lin_nil | refine lin_cons ?_ ?_ | refine lin_app ?_ ?_ | with_reducible exact lin_here | refine lin_tail ?_ | exact lin_refl | exact lin_here | refine lin_skip ?_ | exact .head _ | refine .tail _ ?_ | refine List.mem_append_right _ ?_ | assumption
          · omega
          · rcases List.mem_append.mp hv with hv | hv
            · exact hoT v hv
            · rw [List.mem_singleton.mp hv, ← e0]; exact hhT _ (by rw [e0]; exact hpm.mem_iff.mp (.head _))
          · rw [hok2]
            have h1 := (hks' _ hk2.symm).1 rfl
            simpa using h1
          · rw [hok2, ← htgt, hst']
            simp only [List.take_nil, List.drop_nil, List.append_nil] at hnn' ⊢
            congr 1
            simp at hnn'
            omega
        · refine Stop.out ?_
          rename Fr g L' _ _ => F3
          rename News g L' _ _ => N3
          rename D < _ ∧ O < _ ∧ _ => l3
          rename_i R hx3 h3
          obtain ⟨l3D, l3O, l3a, l3i⟩ := l3
          have l3c := kst_ltOf l3i
          have hp0 : hp = [] := List.length_eq_zero_iff.mp (by omega)
          subst hp0
          simp only [List.length_nil, runsF] at htgt
          refine For_any ?_
          repeat' (first | walk1 | (dsimp only; walk1))
          refine Stop.out ?_
          refine iter_listA (l := O) (vs := ol) (kept := (O, W.listOf ol.toArray no) :: (a, W.listOf vs.toArray n) :: its1) (news := [(R, W.listOf ([] : List Value).toArray 0)]) rfl (PySem.IsL.isList (n := no) (N3 (O, W.listOf ol.toArray no) (by simp)).1) (N3 (O, W.listOf ol.toArray no) (by simp)).2.1 (fun I i v s' Q' E' hv hI hq => ?_) F3 (cb_drop N3 (fun p hp => ?_)) (fun p hp q hq => ?_) (fun q hq => ?_)
            (HeapD R ol kf1) ?_ ?_ ?_
          · obtain ⟨b, t, u', n', rfl, hb⟩ := hoT v (List.mem_of_getElem? hv)
            exact wpAny_letOwnedTupleGo_listiter hI hq
          · refine lin_mem ?_ hp; repeat' first | with_reducible exact lin_refl | exact lin_nil | refine lin_cons ?_ ?_ | refine lin_app ?_ ?_ | with_reducible exact lin_here | refine lin_tail ?_ | exact lin_refl | exact lin_here | refine lin_skip ?_ | exact .head _ | refine .tail _ ?_ | refine List.mem_append_right _ ?_ | assumption
          · rw [List.mem_singleton.mp hq]
            simp only [List.mem_cons] at hp
            rcases hp with rfl | rfl | hp
            · exact neN (by dsimp only; omega)
            · exact neN (by dsimp only; omega)
            · exact Nat.ne_of_lt (l3c p hp)
          · rw [List.mem_singleton.mp hq]; exact neN (by dsimp only; omega)
          · exact ⟨_, [], 0, kst_self (by kst_all), rfl, RowsAre.nil, .nil, (fun c hc => nomatch hc), Nat.le_refl _, (fun c hc => nomatch hc)⟩
          · rintro i v m₁ var h tk own hv ⟨u, cs, nR, rfl, rfl, hra, hnd, hcR, hcl, hcr⟩ hkp hso F₁ N₁
            clear N3 F3
            change Fr g L' _ _ at F₁
            change News g L' _ _ at N₁
            obtain ⟨hil, _⟩ := List.getElem?_eq_some_iff.mp hv
            obtain ⟨b, tr, tx, nb, rfl, hb⟩ := hoT v (List.mem_of_getElem? hv)
            obtain ⟨⟨r, x⟩, hk0⟩ : ∃ k0, k0 = kf1 b := ⟨_, rfl⟩
            rw [← hk0] at hb
            dsimp only at hb
            have hki : (ol.map (vkey kf1))[i]? = some (r, x) := by rw [List.getElem?_map, hv]; exact congrArg some hk0.symm
            obtain ⟨hkl0, hki2⟩ := List.getElem?_eq_some_iff.mp hki
            have hb2 := hok i hkl0
            rw [hki2] at hb2
            have hrows1 : rowsOf ((ol.map (vkey kf1)).take (i + 1)) = pushRow (rowsOf ((ol.map (vkey kf1)).take i)) r x := by
              rw [List.take_add_one, hki]; exact rowsOf_snoc _ _
            have hrlen := hra.len
            have hrefs := refs_len (cs := cs)
            have hr0 : 0 ≤ r := hb2.1
            have hr1 : r ≤ (cs.length : Int) := by have := hb2.2; dsimp only at this; omega
            have hso1 : ∀ p ∈ own, p.1 ≠ R := fun p hp => hso p hp _ (.head _)
            have hcR2 : ∀ c ∈ cs, (@Ne Nat c.1 R) ∧ ∀ p ∈ own, p.1 ≠ c.1 := fun c hc => ⟨hcR c hc, fun p hp => hso p hp (c.1, W.listOf c.2.1.toArray c.2.2) (.tail _ (List.mem_map.mpr ⟨c, hc, rfl⟩))⟩
            replace N₁ : News g L' h ((b, { cls := .type "tuple", data := .seq #[.int r tr, .int x tx] nb }) :: (R, W.listOf (refs cs).toArray nR) :: (led cs ++ own)) := fun p hp => by
              simp only [List.mem_cons, List.mem_append] at hp
              refine N₁ p ?_
              simp only [List.cons_append, List.mem_cons, List.mem_append]
              rcases hp with h | h | h | h
              · exact .inr (.inr (by rw [h]; exact hkp _ (.tail _ (.tail _ hb))))
              · simp [h]
              · simp [h]
              · simp [h]
            have hcl63 : cs.length ≤ 63 := by omega
            clear hso
            dsimp only [kstB] at F₁
            repeat' (first | walk1 | (dsimp only; walk1))
            · rename r = ((refs cs).length : Int) => hrc0
              have hrc : r = (cs.length : Int) := by omega
              rename Fr g L' _ _ => F5
              rename News g L' _ _ => N5
              rename b < _ ∧ R < _ ∧ _ => l5
              rename_i E0 h5
              obtain ⟨l5b, l5R, l5i⟩ := l5
              have l5c := kst_ltOf l5i
              refine append_gen (D := R) (vs := refs cs) (n := nR) (x := .ref E0) F5 (cb_drop N5 (news := (R, W.listOf (refs cs).toArray nR) :: (E0, W.listOf ([] : List Value).toArray 0) :: (led cs ++ own)) (fun p hp => ?_)) (Upd.head (fun p hp => ?_)) (by omega) ?_
              · refine lin_mem ?_ hp; repeat' first | with_reducible exact lin_refl | exact lin_nil | refine lin_cons ?_ ?_ | refine lin_app ?_ ?_ | with_reducible exact lin_here | refine lin_tail ?_ | exact lin_refl | exact lin_here | refine lin_skip ?_ | exact .head _ | refine .tail _ ?_ | refine List.mem_append_right _ ?_ | assumption
              · simp only [List.mem_cons, List.mem_append] at hp
                rcases hp with rfl | hp | hp
                · exact neN (by dsimp only; omega)
                · obtain ⟨c, hc, e⟩ := List.mem_map.mp (led_adr hp)
                  exact fun e2 => hcR c hc (e.trans e2)
                · exact hso1 p hp
              intro h6 F6 N6
              obtain ⟨nR1, hnR1⟩ : ∃ nR1, nR1 = nR + 1 := ⟨_, rfl⟩
              obtain ⟨cs1, hcs1⟩ : ∃ cs1 : List Cell, cs1 = cs ++ [(E0, [], 0)] := ⟨_, rfl⟩
              have hE0 : ∀ q ∈ led cs ++ own, @Ne Nat q.1 E0 := fun q hq => Nat.ne_of_lt (l5c q hq)
              have hcs1l : cs1.length = cs.length + 1 := by rw [hcs1]; simp
              have hnd1 : (cs1.map (·.1)).Nodup := by
                rw [hcs1]
                refine nodup_snoc hnd fun hm => ?_
                obtain ⟨c, hc, e⟩ := List.mem_map.mp hm
                exact hE0 (c.1, W.listOf c.2.1.toArray c.2.2) (List.mem_append_left _ (List.mem_map.mpr ⟨c, hc, rfl⟩)) e
              have hcR1 : ∀ c ∈ cs1, (@Ne Nat c.1 R) ∧ ∀ p ∈ own, p.1 ≠ c.1 := by
                intro c hc
                rw [hcs1] at hc
                rcases List.mem_append.mp hc with hc | hc
                · exact hcR2 c hc
                · rw [List.mem_singleton.mp hc]
                  exact ⟨by dsimp only; omega, fun p hp => hE0 p (List.mem_append_right _ hp)⟩
              have hcr1 : ∀ c ∈ cs1, c.2.1.length ≤ i := by
                intro c hc
                rw [hcs1] at hc
                rcases List.mem_append.mp hc with hc | hc
                · exact hcr c hc
                · rw [List.mem_singleton.mp hc]; exact Nat.zero_le _
              have hra1 : RowsAre cs1 (rowsOf ((ol.map (vkey kf1)).take i) ++ [[]]) := by rw [hcs1]; exact hra.snoc .nil
              have hrows2 : rowsOf ((ol.map (vkey kf1)).take (i + 1)) = (rowsOf ((ol.map (vkey kf1)).take i) ++ [[]]).set r.toNat ((rowsOf ((ol.map (vkey kf1)).take i) ++ [[]]).getD r.toNat [] ++ [x]) := by
                rw [hrows1, pushRow, if_pos (by omega), show r.toNat = (rowsOf ((ol.map (vkey kf1)).take i)).length by omega]
                simp [List.getD]
              replace N6 : News g L' h6 ((R, W.listOf (refs cs1).toArray nR1) :: (led cs1 ++ own)) := cb_drop N6 fun p hp => by
                rw [hcs1, hnR1, refs_append, led_append] at hp
                simp only [led, refs, List.map_cons, List.map_nil, List.mem_cons, List.mem_append, List.not_mem_nil, or_false] at hp ⊢
                rcases hp with h | (h | h) | h <;> simp [h]
              have hkl : r.toNat < cs1.length := by omega
              have hrefs1 := refs_len (cs := cs1)
              clear N5 F5 hcs1
              have hlt9 : Halt := trivial
              repeat' (first | walk1 | (dsimp only; walk1))
              refine Stop.out ?_
              clear hlt9
              rename Fr g L' _ _ => F6
              rename News g L' _ _ => N6
              refine W.kf_method (D := adr cs1 r.toNat) (its := (vals cs1 r.toNat).toArray) (n := cnt cs1 r.toNat) N6 (by simp [led_mem hkl]) PySem.F.slot_list_append PySem.F.type_list_append ?_
              repeat' (first | walk1 | (dsimp only; walk1))
              have hvl : (vals cs1 r.toNat).length ≤ i := by
                have := hcr1 cs1[r.toNat] (List.getElem_mem hkl)
                rw [cell_at hkl] at this
                exact this
              refine append_gen (vs := vals cs1 r.toNat) (n := cnt cs1 r.toNat) F6 (cb_drop N6 (news := led cs1 ++ ((R, W.listOf (refs cs1).toArray nR1) :: own)) (fun p hp => ?_)) (upd_led hnd1 hkl (fun q hq hm => ?_)) (by omega) ?_
              · refine lin_mem ?_ hp; repeat' first | with_reducible exact lin_refl | exact lin_nil | refine lin_cons ?_ ?_ | refine lin_app ?_ ?_ | with_reducible exact lin_here | refine lin_tail ?_ | exact lin_refl | exact lin_here | refine lin_skip ?_ | exact .head _ | refine .tail _ ?_ | refine List.mem_append_right _ ?_ | assumption
              · obtain ⟨c, hc, e⟩ := List.mem_map.mp hm
                rcases List.mem_cons.mp hq with rfl | hq
                · exact (hcR1 c hc).1 e
                · exact (hcR1 c hc).2 q hq e.symm
              intro h7 F7 N7
              clear N6 F6
              repeat' (first | walk1 | (dsimp only; walk1))
              refine ⟨_, _, _, (R, W.listOf (refs cs1).toArray nR1) :: led (cs1.set r.toNat (adr cs1 r.toNat, vals cs1 r.toNat ++ [Value.int x tx], cnt cs1 r.toNat + 1)), rfl, F7, cb_drop N7 (fun p hp => ?_), fun p hp q hq => ?_, _, _, nR1, kst_self (by kst_all), by rw [refs_set], ?_, by rw [map_adr_set]; exact hnd1, fun c hc => ?_, by rw [List.length_set]; omega, fun c hc => ?_⟩
              · refine lin_mem ?_ hp; repeat' first | with_reducible exact lin_refl | exact lin_nil | refine lin_cons ?_ ?_ | refine lin_app ?_ ?_ | with_reducible exact lin_here | refine lin_tail ?_ | exact lin_refl | exact lin_here | refine lin_skip ?_ | exact .head _ | refine .tail _ ?_ | refine List.mem_append_right _ ?_ | assumption
              · rcases List.mem_cons.mp hq with rfl | hq
                · exact hso1 p hp
                · have h9 := led_adr hq
                  rw [map_adr_set] at h9
                  obtain ⟨c, hc, e⟩ := List.mem_map.mp h9
                  rw [← e]; exact ((hcR1 c hc).2 p hp)
              · rw [hrows2]
                exact hra1.put (intsN_snoc (hra1.row hkl) x tx)
              · have h9 : c.1 ∈ (cs1.set r.toNat (adr cs1 r.toNat, vals cs1 r.toNat ++ [Value.int x tx], cnt cs1 r.toNat + 1)).map (·.1) := List.mem_map.mpr ⟨c, hc, rfl⟩
                rw [map_adr_set] at h9
                obtain ⟨c', hc', e⟩ := List.mem_map.mp h9
                rw [← e]; exact (hcR1 c' hc').1
              · rcases List.mem_or_eq_of_mem_set hc with hc | rfl
                · have := hcr1 c hc; omega
                · simp only [List.length_append, List.length_cons, List.length_nil]; omega
            · rename r ≠ ((refs cs).length : Int) => hrc0
              obtain ⟨nR1, hnR1⟩ : ∃ nR1, nR1 = nR := ⟨_, rfl⟩
              obtain ⟨cs1, hcs1⟩ : ∃ cs1 : List Cell, cs1 = cs := ⟨_, rfl⟩
              subst hnR1 hcs1
              have hkl : r.toNat < cs1.length := by omega
              have hnd1 := hnd
              have hcR1 := hcR2
              have hcr1 := hcr
              have hra1 := hra
              have hrows2 : rowsOf ((ol.map (vkey kf1)).take (i + 1)) = (rowsOf ((ol.map (vkey kf1)).take i)).set r.toNat ((rowsOf ((ol.map (vkey kf1)).take i)).getD r.toNat [] ++ [x]) := by
                rw [hrows1, pushRow, if_neg (by omega)]
              rename Fr g L' _ _ => F6
              rename News g L' _ _ => N6
              refine W.kf_method (D := adr cs1 r.toNat) (its := (vals cs1 r.toNat).toArray) (n := cnt cs1 r.toNat) N6 (by simp [led_mem hkl]) PySem.F.slot_list_append PySem.F.type_list_append ?_
              repeat' (first | walk1 | (dsimp only; walk1))
              have hvl : (vals cs1 r.toNat).length ≤ i := by
                have := hcr1 cs1[r.toNat] (List.getElem_mem hkl)
                rw [cell_at hkl] at this
                exact this
              refine append_gen (vs := vals cs1 r.toNat) (n := cnt cs1 r.toNat) F6 (cb_drop N6 (news := led cs1 ++ ((R, W.listOf (refs cs1).toArray nR1) :: own)) (fun p hp => ?_)) (upd_led hnd1 hkl (fun q hq hm => ?_)) (by omega) ?_
              · refine lin_mem ?_ hp; repeat' first | with_reducible exact lin_refl | exact lin_nil | refine lin_cons ?_ ?_ | refine lin_app ?_ ?_ | with_reducible exact lin_here | refine lin_tail ?_ | exact lin_refl | exact lin_here | refine lin_skip ?_ | exact .head _ | refine .tail _ ?_ | refine List.mem_append_right _ ?_ | assumption
              · obtain ⟨c, hc, e⟩ := List.mem_map.mp hm
                rcases List.mem_cons.mp hq with rfl | hq
                · exact (hcR1 c hc).1 e
                · exact (hcR1 c hc).2 q hq e.symm
              intro h7 F7 N7
              clear N6 F6
              repeat' (first | walk1 | (dsimp only; walk1))
              refine ⟨_, _, _, (R, W.listOf (refs cs1).toArray nR1) :: led (cs1.set r.toNat (adr cs1 r.toNat, vals cs1 r.toNat ++ [Value.int x tx], cnt cs1 r.toNat + 1)), rfl, F7, cb_drop N7 (fun p hp => ?_), fun p hp q hq => ?_, _, _, nR1, kst_self (by kst_all), by rw [refs_set], ?_, by rw [map_adr_set]; exact hnd1, fun c hc => ?_, by rw [List.length_set]; omega, fun c hc => ?_⟩
              · refine lin_mem ?_ hp; repeat' first | with_reducible exact lin_refl | exact lin_nil | refine lin_cons ?_ ?_ | refine lin_app ?_ ?_ | with_reducible exact lin_here | refine lin_tail ?_ | exact lin_refl | exact lin_here | refine lin_skip ?_ | exact .head _ | refine .tail _ ?_ | refine List.mem_append_right _ ?_ | assumption
              · rcases List.mem_cons.mp hq with rfl | hq
                · exact hso1 p hp
                · have h9 := led_adr hq
                  rw [map_adr_set] at h9
                  obtain ⟨c, hc, e⟩ := List.mem_map.mp h9
                  rw [← e]; exact ((hcR1 c hc).2 p hp)
              · rw [hrows2]
                exact hra1.put (intsN_snoc (hra1.row hkl) x tx)
              · have h9 : c.1 ∈ (cs1.set r.toNat (adr cs1 r.toNat, vals cs1 r.toNat ++ [Value.int x tx], cnt cs1 r.toNat + 1)).map (·.1) := List.mem_map.mpr ⟨c, hc, rfl⟩
                rw [map_adr_set] at h9
                obtain ⟨c', hc', e⟩ := List.mem_map.mp h9
                rw [← e]; exact (hcR1 c' hc').1
              · rcases List.mem_or_eq_of_mem_set hc with hc | rfl
                · have := hcr1 c hc; omega
                · simp only [List.length_append, List.length_cons, List.length_nil]; omega
          · rintro m₁ var h tk ⟨u, cs, nR, rfl, rfl, hra, hnd, hcR, hcl, hcr⟩ hso F₁ N₁
            clear N3 F3
            change Fr g L' _ _ at F₁
            change News g L' _ _ at N₁
            rw [List.take_of_length_le (by simp), htgt] at hra
            dsimp only [kstB] at F₁
            dsimp only
            repeat' (first | walk1 | (dsimp only; walk1))
            refine ⟨_, _, (R, W.listOf (refs cs).toArray nR) :: (led cs ++ [(a, W.listOf vs.toArray n)]), F₁, cb_drop N₁ (fun p hp => ?_), fun kF kN hs => ?_⟩
            · refine lin_mem ?_ hp; repeat' first | with_reducible exact lin_refl | exact lin_nil | refine lin_cons ?_ ?_ | refine lin_app ?_ ?_ | with_reducible exact lin_here | refine lin_tail ?_ | exact lin_refl | exact lin_here | refine lin_skip ?_ | exact .head _ | refine .tail _ ?_ | refine List.mem_append_right _ ?_ | assumption
            · refine hQ _ _ R cs nR kF (by simpa using kN) hnd (fun hm => ?_) (neN (by omega)) (fun hm => ?_) (fun q hq => ⟨fun e => hs _ (.head _) q hq e.symm, fun hm => ?_⟩) hra
              · obtain ⟨c, hc, e⟩ := List.mem_map.mp hm
                exact hcR c hc e
              · obtain ⟨c, hc, e⟩ := List.mem_map.mp hm
                exact hso (a, W.listOf vs.toArray n) (.tail _ (.head _)) (c.1, W.listOf c.2.1.toArray c.2.2) (.tail _ (List.mem_map.mpr ⟨c, hc, rfl⟩)) e.symm
              · obtain ⟨c, hc, e⟩ := List.mem_map.mp hm
                exact hs (c.1, W.listOf c.2.1.toArray c.2.2) (.tail _ (List.mem_append_left _ (List.mem_map.mpr ⟨c, hc, rfl⟩))) q hq e
end
section
inductive PutA (a : Addr) (cs : List Cell) (n : Nat) (rows : List (List Int)) (i : Nat) (ys : List Value) (news : List (Addr × Obj)) : Prop
  | mk (cp : List Cell) (h0 : news = (a, W.listOf (refs cs).toArray n) :: (led cs ++ led cp)) (h1 : ys = refs cp) (h2 : RowsAre cp (rows.take i)) (h3 : (cp.map (·.1)).Nodup) (h4 : (∀ c ∈ cp, (@Ne Nat c.1 a) ∧ ∀ q ∈ led cs, @Ne Nat c.1 q.1)) : PutA a cs n rows i ys news
inductive PutB (H D : Addr) (cp : List Cell) (i : Nat) (m₁ : Str → Option Value) (var : List (Addr × Obj)) : Prop
  | mk (u : Str → Option Value) (hp : List Value) (its : List (Addr × Obj)) (kf : KF) (nh : Nat) (h0 : m₁ = kstB u [(Str.ofString "heap", .ref H), (Str.ofString "rows", .ref D)]) (h1 : var = (H, W.listOf hp.toArray nh) :: its) (h2 : HeapAt (ltK kf) 0 hp) (h3 : (∀ v ∈ hp, IsTup its kf v)) (h4 : (hp.map (vkey kf)).Perm ((List.range i).map fun k => (((vals cp k).length : Int), (k : Int)))) (h5 : hp.length = i) (h6 : (∀ q ∈ its, @Ne Nat q.1 H)) : PutB H D cp i m₁ var
inductive PutC (H D : Addr) (cp : List Cell) (kx : List (Addr × Obj)) (ns : List Int) (rows : List (List Int)) (n₁ : Nat) (m₁ : Str → Option Value) (news₁ : List (Addr × Obj)) : Prop
  | mk (u : Str → Option Value) (hp : List Value) (its : List (Addr × Obj)) (kf : KF) (nh nD : Nat) (cq : List Cell) (ix : List Nat) (cost : Nat) (tc : Tok) (h0 : m₁ = kstB u [(Str.ofString "heap", .ref H), (Str.ofString "rows", .ref D), (Str.ofString "cost", .int cost tc)]) (h1 : news₁ = (H, W.listOf hp.toArray nh) :: (D, W.listOf (rfs cq ix).toArray nD) :: (led cq ++ (its ++ kx))) (h2 : HeapAt (ltK kf) 0 hp) (h3 : (∀ v ∈ hp, IsTup its kf v)) (h4 : Live cq ix (hp.map (vkey kf)) ns) (h5 : cq.map (·.1) = cp.map (·.1)) (h6 : (∀ q ∈ its, (@Ne Nat q.1 H) ∧ (@Ne Nat q.1 D) ∧ q.1 ∉ cp.map (·.1))) (h7 : cost + hufOf ((hp.map (vkey kf)).map fun p => p.1.toNat) = hufOf (rows.map List.length)) (h8 : (hp.length = 0 ↔ rows = [])) (h9 : (ix.length = 0 ↔ rows = [])) (h10 : ix.length + hp.length ≤ 126) (h11 : hp.length ≤ 63) (h12 : n₁ = hp.length) : PutC H D cp kx ns rows n₁ m₁ news₁
inductive PutD (H D : Addr) (cost : Nat) (tc : Tok) (cq : List Cell) (c1 c2 : Nat) (i : Nat) (m₁ : Str → Option Value) (var : List (Addr × Obj)) : Prop
  | mk (u : Str → Option Value) (cur : List Value) (nc pl : Nat) (tp : Tok) (h0 : m₁ = kstB u [(Str.ofString "heap", .ref H), (Str.ofString "rows", .ref D), (Str.ofString "cost", .int cost tc), (Str.ofString "one", .ref (adr cq c1)), (Str.ofString "place", .int pl tp)]) (h1 : var = [(adr cq c1, W.listOf cur.toArray nc)]) (h2 : Rising ltI cur) (h3 : cur.Perm (vals cq c1 ++ (vals cq c2).take i)) (h4 : pl ≤ cur.length) (h5 : (∀ v, (vals cq c2)[i]? = some v → ∀ j, j < pl → ltI v (cur.getD j .none) = false)) : PutD H D cost tc cq c1 c2 i m₁ var
theorem put_spec {prog : Program} {w : World} {A : Around} {s : Shared} {h₀ : Heap} {L : Addr} {m : Str → Option Value} {rest : List (Addr × Obj)} {p : Program} {loose : List Str} {mean : ExcName → Option Value} {mg mb : Str → Option Value} {d : Nat} {Q : Value → Shared → Prop} {E : Value → Shared → Prop} {a : Addr} {cs : List Cell} {n : Nat} {rows : List (List Int)} {ns : List Int}
    (C : At (hd04.heap_39 w.params) p loose mean mg mb A h₀ L (d + 6)) (F : Fr h₀ L s.heap m) (N : News h₀ L s.heap ((a, W.listOf (refs cs).toArray n) :: (led cs ++ rest))) (hsep : ∀ q ∈ rest, q.1 ≠ a ∧ q.1 ∉ cs.map (·.1)) (hra : RowsAre cs rows) (hcl : cs.length ≤ 63) (hrl : ∀ r ∈ rows, r.length ≤ 63)
    (hris : ∀ r ∈ rows, r.Pairwise (· ≤ ·)) (hfl : rows.flatten.Perm ns) (hnl : ns.length ≤ 63)
    (hQ : ∀ (h' : Heap) (tk : Nat) (T R : Addr) (rf : List Value) (nR : Nat) (t : Tok) (nT : Nat) (XL : List Cell) (zs : List Int), Fr h₀ L h' m → News h₀ L h' ((T, { cls := .type "tuple", data := .seq #[.int (hufOf (rows.map List.length) : Nat) t, .ref R] nT }) :: (R, W.listOf rf.toArray nR) :: (led XL ++ (a, W.listOf (refs cs).toArray n) :: (led cs ++ rest))) →
      rf.length ≤ 200 → (rf.length = 0 ↔ rows = []) → rf.drop (rf.length - 1) = refs XL → zs.Perm ns → zs.Pairwise (· ≤ ·) → RowsAre XL (if rows = [] then [] else [zs]) → Q (.ref T) { s with heap := h', toks := tk }) :
    wpAny (model prog w) A (call (.ref 85) [.ref a]) Q E s := by
  obtain ⟨hnd, dp, fr0, gd0, un0⟩ := A
  obtain rfl : hnd = none := C.hh
  obtain ⟨A₁, base₁, outer₁, env₁, B₁, hA₁, hf₁, hk₁⟩ := C.ex
  obtain rfl : fr0 = _ := hA₁
  w_top off
  refine' call_at (own := ((a, W.listOf (refs cs).toArray n) :: led cs)) (rest := rest) (binds := [(Str.ofString "runs", .ref a)]) C F N (fun p hp q hq e => ?hs) ?ho ?hcd ?hb ?hl ?_ ?h1 ?h2 ?h3 ?h4
  case ho => k_is
  case hcd => k_is
  case hb => exact BindsTo.of_eq rfl
  case hl => exact locs rfl
  case h1 => rfl
  case h2 => rfl
  case h3 => rfl
  case h4 => decide
  case hs =>
    rcases List.mem_cons.mp hp with rfl | hp
    · exact (hsep q hq).1 e.symm
    · exact (hsep q hq).2 (by have := led_adr hp; rw [e] at this; exact this)
  intro g L' h₁ C' F' N' hr hst
  clear hsep F N hst
  have C1 := C'
  obtain ⟨⟨A₀, base, outer, env, B', hA', hf', hk'⟩, X', T', hd', hu', hh'⟩ := C1
  repeat' (first | walk1 | (dsimp only; walk1))
  unfold Stop
  rename Fr g L' _ _ => F2
  refine LCg.Assign_ListComp_U (F₀ := F2) rfl (by with_unfolding_all rfl) rfl (by decide) rfl (by decide) rfl rfl rfl ?_
  repeat' (first | walk1 | (dsimp only; walk1))
  refine Stop.out ?_
  rename News g L' _ _ => N2
  refine LCg.CompSrc.ledger (k := n) (its := (refs cs).toArray) rfl F2 N2 (.head _) (by simp [sizeLine, refs_len]; omega) ?_
  intro g6
  refine comp_rest (PutA a cs n rows) ⟨[], by simp [led], rfl, RowsAre.nil, .nil, (fun c hc => nomatch hc)⟩ ?_ ?_
  · rintro i v I oI C oC D m₂ ys news h7 tk7 E' hi hv ⟨cp, rfl, rfl, hcp, hnd, hca⟩ hC hx F7 N7 off ne
    have hil : i < cs.length := by simpa [refs_len] using hi
    obtain rfl : v = .ref (adr cs i) := by
      have h1 : (refs cs)[i]? = some v := by simpa using hv
      have h2 := refs_getD hil
      rw [List.getD, h1] at h2
      exact h2
    have hrow := hra.row hil
    have hri : rows[i]? = some (rows.getD i []) := by simp [List.getD, show i < rows.length by rw [hra.len]; exact hil]
    replace N7 : News g L' h7 ((adr cs i, W.listOf (vals cs i).toArray (cnt cs i)) :: (I, oI) :: (C, oC) :: (D, LCg.lst (refs cp)) :: (a, W.listOf (refs cs).toArray n) :: (led cs ++ led cp)) := fun p hp => by
      rcases List.mem_cons.mp hp with rfl | hp
      · exact N7 _ (.tail _ (.tail _ (.tail _ (.tail _ (List.mem_append_left _ (led_mem hil))))))
      · exact N7 p hp
    have hvl : (vals cs i).length ≤ 63 := by
      rw [hrow.length]
      exact hrl _ (by rw [List.getElem?_eq_some_iff] at hri; obtain ⟨_, e⟩ := hri; rw [← e]; exact List.getElem_mem _)
    clear hv
    repeat' (first | walk1 | (dsimp only; walk1))
    show LCg.CompEnd _ _ _ _ _ _ _ _ _ _ _ _ _ _
    rename Fr g L' _ _ => F8
    rename News g L' _ _ => N8
    rename _ < _ ∧ I < _ ∧ _ => l8
    rename_i b cb h8
    obtain ⟨_, l8I, l8C, l8D, l8a, l8i⟩ := l8
    have l8c := kst_ltOf l8i
    refine ⟨_, _, (a, W.listOf (refs cs).toArray n) :: (led cs ++ led (cp ++ [(b, vals cs i, cb)])), rfl, F8, cb_drop N8 (fun p hp => ?_), LCg.Off3.of (fun p hp => ?_), .inr ⟨_, .head _, rfl, _, rfl⟩, cp ++ [(b, vals cs i, cb)], rfl, by rw [refs_append]; rfl, ?_, nodup_snoc hnd (fun hm => ?_), fun c hc => ?_⟩
    · rw [led_append] at hp
      refine lin_mem ?_ hp; repeat' first | with_reducible exact lin_refl | exact lin_nil | refine lin_cons ?_ ?_ | refine lin_app ?_ ?_ | with_reducible exact lin_here | refine lin_tail ?_ | exact lin_refl | exact lin_here | refine lin_skip ?_ | exact .head _ | refine .tail _ ?_ | refine List.mem_append_right _ ?_ | assumption
    · rw [led_append] at hp
      have o9 := LCg.Off3.mem off p
      simp only [led, List.map_cons, List.map_nil, List.mem_cons, List.mem_append, List.not_mem_nil, or_false] at hp o9
      rcases hp with h | h | h | h
      · exact o9 (by simp [h])
      · exact o9 (by simp [h])
      · exact o9 (by simp [h])
      · subst h; exact ⟨neN (by dsimp only; omega), neN (by dsimp only; omega), neN (by dsimp only; omega)⟩
    · rw [List.take_add_one, hri]
      exact hcp.snoc hrow
    · obtain ⟨c, hc, e⟩ := List.mem_map.mp hm
      have h1 := ltN (l8c (c.1, W.listOf c.2.1.toArray c.2.2) (List.mem_append_right _ (List.mem_map.mpr ⟨c, hc, rfl⟩)))
      have h2 := eqN e
      dsimp only at h1 h2
      omega
    · rcases List.mem_append.mp hc with hc | hc
      · exact hca c hc
      · rw [List.mem_singleton.mp hc]
        refine ⟨by dsimp only; omega, fun q hq => ?_⟩
        have h1 := ltN (l8c q (List.mem_append_left _ hq))
        dsimp only
        omega
  · rintro ys news ⟨cp, rfl, rfl, hcp, hnd, hca⟩ D h7 tk7 F7 N7 off
    rw [show (refs cs).toArray.size = rows.length by simp [refs_len, hra.len], List.take_length] at hcp
    dsimp only
    repeat' (first | walk1 | (dsimp only; walk1))
    refine Stop.out ?_
    rename Fr g L' _ _ => F8
    rename News g L' _ _ => N8
    rename D < _ ∧ a < _ ∧ _ => l8
    rename_i H hx8 h8
    obtain ⟨l8D, l8a, l8i⟩ := l8
    have l8c := kst_ltOf l8i
    have hoff := off1_mem off
    have hDa := hoff _ (.head _)
    have hDc : ∀ q ∈ led cs ++ led cp, @Ne Nat q.1 D := fun q hq => hoff q (.tail _ hq)
    dsimp only at hDa
    have hcpl : cp.length = cs.length := by rw [← hcp.len, hra.len]
    clear hoff off
    replace N8 : News g L' h8 ((H, W.listOf ([] : List Value).toArray 0) :: (D, W.listOf (refs cp).toArray (refs cp).length) :: (a, W.listOf (refs cs).toArray n) :: (led cs ++ led cp)) := cb_drop N8 fun p hp => by
      refine lin_mem ?_ hp; repeat' first | with_reducible exact lin_refl | exact lin_nil | refine lin_cons ?_ ?_ | refine lin_app ?_ ?_ | with_reducible exact lin_here | refine lin_tail ?_ | exact lin_refl | exact lin_here | refine lin_skip ?_ | exact .head _ | refine .tail _ ?_ | refine List.mem_append_right _ ?_ | assumption
    have hrefs0 := refs_len (cs := cp)
    refine For_invV g rfl rfl ?_
    repeat' (first | walk1 | (dsimp only; walk1))
    refine Stop.out ?_
    rename IsRange _ _ _ _ _ _ _ _ => hR1
    rename Fr g L' _ _ => F9
    rename News g L' _ _ => N9
    have hrefs := refs_len (cs := cp)
    refine iter_range_up cp.length (kept := (D, W.listOf (refs cp).toArray (refs cp).length) :: (a, W.listOf (refs cs).toArray n) :: (led cs ++ led cp)) (news := [(H, W.listOf ([] : List Value).toArray 0)]) rfl hR1 (by omega) (by omega) (by omega) (by omega) (by omega) F9 (cb_drop N9 (fun p hp => ?_)) (fun p hp q hq => ?_)
      (PutB H D cp) ?_ ?_ ?_
    · refine lin_mem ?_ hp; repeat' first | with_reducible exact lin_refl | exact lin_nil | refine lin_cons ?_ ?_ | refine lin_app ?_ ?_ | with_reducible exact lin_here | refine lin_tail ?_ | exact lin_refl | exact lin_here | refine lin_skip ?_ | exact .head _ | refine .tail _ ?_ | refine List.mem_append_right _ ?_ | assumption
    · rw [List.mem_singleton.mp hq]
      simp only [List.mem_cons] at hp
      rcases hp with rfl | rfl | hp
      · exact neN (by dsimp only; omega)
      · exact neN (by dsimp only; omega)
      · exact Nat.ne_of_lt (l8c p hp)
    · exact ⟨_, [], [], fun _ => (0, 0), 0, kst_self (by kst_all), rfl, (fun i h1 h2 _ => absurd h2 (Nat.not_lt_zero _)), (fun v hv => nomatch hv), .refl _, rfl, (fun q hq => nomatch hq)⟩
    · rintro i t9 m₁ var h tk own hi ⟨u, hp, its, kf, nh, rfl, rfl, hHp, hhT, hkeys, hhl, hsp⟩ hkp hso F₁ N₁
      clear N9 F9 hR1
      change Fr g L' _ _ at F₁
      change News g L' _ _ at N₁
      have hso1 : ∀ p ∈ own, p.1 ≠ H := fun p hp => hso p hp _ (.head _)
      have hso2 : ∀ p ∈ own, ∀ q ∈ its, p.1 ≠ q.1 := fun p hp q hq => hso p hp _ (.tail _ hq)
      replace N₁ : News g L' h ((adr cp i, W.listOf (vals cp i).toArray (cnt cp i)) :: (H, W.listOf hp.toArray nh) :: (D, W.listOf (refs cp).toArray (refs cp).length) :: (its ++ own)) := fun p hp => by
        simp only [List.mem_cons, List.mem_append] at hp
        refine N₁ p ?_
        simp only [List.cons_append, List.mem_cons, List.mem_append]
        rcases hp with h | h | h | h | h
        · exact .inr (.inr (by rw [h]; exact hkp _ (.tail _ (.tail _ (List.mem_append_right _ (led_mem hi))))))
        · simp [h]
        · exact .inr (.inr (hkp _ (by simp [h])))
        · simp [h]
        · simp [h]
      have hvl : (vals cp i).length ≤ 63 := by
        have h1 := hcp.row hi
        rw [h1.length]
        refine hrl _ ?_
        have : i < rows.length := by rw [hcp.len]; exact hi
        simp only [List.getD, this, List.getElem?_eq_getElem, Option.getD_some]
        exact List.getElem_mem _
      clear hso
      have e0 : (0 : Int) + (i : Int) = (i : Int) := by omega
      rw [e0] at F₁
      dsimp only [kstB] at F₁
      repeat' (first | walk1 | (dsimp only; walk1))
      refine Stop.out ?_
      rename Fr g L' _ _ => F8
      rename News g L' _ _ => N8
      rename adr cp i < _ ∧ H < _ ∧ _ => l8
      rename_i b h8'
      obtain ⟨T9, N8⟩ : ∃ T9, News g L' h8' ((b, tup2 ((vals cp i).length : Int) (i : Int) T9 t9 0) :: (adr cp i, W.listOf (vals cp i).toArray (cnt cp i)) :: (H, W.listOf hp.toArray nh) :: (D, W.listOf (refs cp).toArray (refs cp).length) :: (its ++ own)) := ⟨_, N8⟩
      obtain ⟨l8r, l8H, l8D', l8i'⟩ := l8
      have l8c' := kst_ltOf l8i'
      have hbi : ∀ q ∈ its, q.1 ≠ b := fun q hq => Nat.ne_of_lt (l8c' q (List.mem_append_left _ hq))
      have hbo : ∀ q ∈ own, q.1 ≠ b := fun q hq => Nat.ne_of_lt (l8c' q (List.mem_append_right _ hq))
      have hHb : H ≠ b := neN (by omega)
      refine heappush_spec (d := d) (S := IsTup ((b, tup2 ((vals cp i).length : Int) (i : Int) T9 t9 0) :: its) (kfUp kf b (((vals cp i).length : Int), (i : Int)))) (lt := ltK (kfUp kf b (((vals cp i).length : Int), (i : Int)))) (a := H) (vs := hp) (n := nh) (x := .ref b) (rest := (b, tup2 ((vals cp i).length : Int) (i : Int) T9 t9 0) :: (its ++ own)) (C'.less (by omega)) F8 (cb_drop N8 (fun p hp => ?_)) (fun q hq => ?_) (by omega) (fun v hv => isTup_up hbi (hhT v hv)) isTup_new (fun g' hr _ => cmp_tup fun q hq => hr q ?_) ?_
      · refine lin_mem ?_ hp; repeat' first | with_reducible exact lin_refl | exact lin_nil | refine lin_cons ?_ ?_ | refine lin_app ?_ ?_ | with_reducible exact lin_here | refine lin_tail ?_ | exact lin_refl | exact lin_here | refine lin_skip ?_ | exact .head _ | refine .tail _ ?_ | refine List.mem_append_right _ ?_ | assumption
      · simp only [List.mem_cons, List.mem_append] at hq
        rcases hq with rfl | hq | hq
        · exact Ne.symm hHb
        · exact hsp q hq
        · exact hso1 q hq
      · rcases List.mem_cons.mp hq with rfl | hq
        · exact .head _
        · exact .tail _ (List.mem_append_left _ hq)
      intro h9 tk9 F9 N9
      clear N8 F8
      have hpm := hpush_perm (lt := ltK (kfUp kf b (((vals cp i).length : Int), (i : Int)))) (vs := hp) (x := .ref b)
      have hhp' := hpush_heap (wo_K (kfUp kf b (((vals cp i).length : Int), (i : Int)))) (x := .ref b) (heapAt_up hbi hhT hHp)
      generalize hpush (ltK (kfUp kf b (((vals cp i).length : Int), (i : Int)))) hp (.ref b) = hp2 at *
      repeat' (first | walk1 | (dsimp only; walk1))
      refine ⟨_, _, _, (H, W.listOf hp2.toArray (nh + 1)) :: (b, tup2 ((vals cp i).length : Int) (i : Int) T9 t9 0) :: its, rfl, F9, cb_drop N9 (fun p hp => ?_), fun p hp q hq => ?_, _, hp2, (b, tup2 ((vals cp i).length : Int) (i : Int) T9 t9 0) :: its, kfUp kf b (((vals cp i).length : Int), (i : Int)), nh + 1, kst_self (by kst_all), rfl, hhp', fun v hv => ?_, ?_, ?_, fun q hq => ?_⟩
      · refine lin_mem ?_ hp; repeat' first | with_reducible exact lin_refl | exact lin_nil | refine lin_cons ?_ ?_ | refine lin_app ?_ ?_ | with_reducible exact lin_here | refine lin_tail ?_ | exact lin_refl | exact lin_here | refine lin_skip ?_ | exact .head _ | refine .tail _ ?_ | refine List.mem_append_right _ ?_ | assumption
      · simp only [List.mem_cons] at hq
        rcases hq with rfl | rfl | hq
        · exact hso1 p hp
        · exact hbo p hp
        · exact hso2 p hp q hq
      · rcases List.mem_cons.mp (hpm.mem_iff.mp hv) with rfl | hv
        · exact isTup_new
        · exact isTup_up hbi (hhT v hv)
      · have h2 := hpm.map (vkey (kfUp kf b (((vals cp i).length : Int), (i : Int))))
        rw [List.map_cons, keys_up hbi hhT, show vkey (kfUp kf b (((vals cp i).length : Int), (i : Int))) (.ref b) = (((vals cp i).length : Int), (i : Int)) from kfUp_new _ _ _] at h2
        rw [List.range_succ, List.map_append, List.map_cons, List.map_nil]
        exact h2.trans ((hkeys.cons _).trans (List.perm_append_singleton _ _).symm)
      · rw [hpm.length_eq, List.length_cons, hhl]
      · rcases List.mem_cons.mp hq with rfl | hq
        · exact Ne.symm hHb
        · exact hsp q hq
    · rintro m₁ var h tk ⟨u, hp, its, kf, nh, rfl, rfl, hHp, hhT, hkeys, hhl, hsp⟩ hso F₁ N₁
      clear N9 F9 hR1
      change Fr g L' _ _ at F₁
      change News g L' _ _ at N₁
      have hDits : ∀ q ∈ its, @Ne Nat q.1 D := fun q hq e => hso (D, W.listOf (refs cp).toArray (refs cp).length) (.head _) q (.tail _ hq) e.symm
      have haits : ∀ q ∈ its, @Ne Nat q.1 a := fun q hq e => hso (a, W.listOf (refs cs).toArray n) (.tail _ (.head _)) q (.tail _ hq) e.symm
      have hcits : ∀ q ∈ its, ∀ p ∈ led cs ++ led cp, @Ne Nat q.1 p.1 := fun q hq p hp e => hso p (.tail _ (.tail _ hp)) q (.tail _ hq) e.symm
      have hLive := (live_init hcp hris hfl).perm hkeys.symm
      have hlens := lens_init hcp
      dsimp only [kstB] at F₁
      dsimp only
      repeat' (first | walk1 | (dsimp only; walk1))
      refine Stop.out ?_
      rename Fr g L' _ _ => F2
      rename News g L' _ _ => N2
      obtain ⟨kx, hkx⟩ : ∃ kx, kx = (a, W.listOf (refs cs).toArray n) :: led cs := ⟨_, rfl⟩
      have hkxs : ∀ q ∈ kx, (@Ne Nat q.1 H) ∧ (@Ne Nat q.1 D) ∧ ∀ c ∈ cp, @Ne Nat c.1 q.1 := by
        intro q hq
        rw [hkx] at hq
        rcases List.mem_cons.mp hq with rfl | hq
        · exact ⟨by dsimp only; omega, by dsimp only; omega, fun c hc => (hca c hc).1⟩
        · exact ⟨Nat.ne_of_lt (l8c q (List.mem_append_left _ hq)), hDc q (List.mem_append_left _ hq), fun c hc => (hca c hc).2 q hq⟩
      have hcps : ∀ c ∈ cp, (@Ne Nat c.1 H) ∧ (@Ne Nat c.1 D) := fun c hc => by
        have h1 : (c.1, W.listOf c.2.1.toArray c.2.2) ∈ led cp := List.mem_map.mpr ⟨c, hc, rfl⟩
        exact ⟨Nat.ne_of_lt (l8c _ (List.mem_append_right _ h1)), hDc _ (List.mem_append_right _ h1)⟩
      have hHD : @Ne Nat H D := by omega
      have hcpl2 : cp.length = rows.length := hcp.len.symm
      have hrow0 : rows = [] ↔ cp.length = 0 := by rw [hcpl2]; exact List.length_eq_zero_iff.symm
      refine While_inv2 (PutC H D cp kx ns rows) (n₀ := hp.length) F2 (cb_drop N2 (news := (H, W.listOf hp.toArray nh) :: (D, W.listOf (rfs cp (List.range cp.length)).toArray (refs cp).length) :: (led cp ++ (its ++ kx))) (fun p hp => ?_)) ?_ ?_
      · rw [hkx, rfs_range] at hp
        refine lin_mem ?_ hp; repeat' first | with_reducible exact lin_refl | exact lin_nil | refine lin_cons ?_ ?_ | refine lin_app ?_ ?_ | with_reducible exact lin_here | refine lin_tail ?_ | exact lin_refl | exact lin_here | refine lin_skip ?_ | exact .head _ | refine .tail _ ?_ | refine List.mem_append_right _ ?_ | assumption
      · refine ⟨_, hp, its, kf, nh, (refs cp).length, cp, List.range cp.length, 0, _, kst_self (by kst_all), rfl, hHp, hhT, hLive, rfl, fun q hq => ⟨hsp q hq, hDits q hq, fun hm => ?_⟩, ?_, by rw [hhl]; exact hrow0.symm, by rw [List.length_range]; exact hrow0.symm, by rw [List.length_range]; omega, by omega, rfl⟩
        · obtain ⟨c, hc, e⟩ := List.mem_map.mp hm
          exact hcits q hq (c.1, W.listOf c.2.1.toArray c.2.2) (List.mem_append_right _ (List.mem_map.mpr ⟨c, hc, rfl⟩)) e.symm
        · rw [Nat.zero_add, ← hlens]
          exact hufOf_perm (hkeys.map _)
      · rintro n₁ m₁ news₁ h₂ tk₁ F₂ N₂ ⟨u, hp, its, kf, nh, nD, cq, ix, cost, tc, rfl, rfl, hHp, hhT, hLv, hcq, hits, hcost, hh0, hi0, hil, hhl, rfl⟩
        clear N2 F2
        dsimp only [kstB] at F₂
        repeat' (first | walk1 | (dsimp only; walk1))
        · skip
          refine Stop.out ?_
          rename 1 < (hp.length : Int) => hpi
          have hcqs : ∀ q ∈ led cq, (@Ne Nat q.1 H) ∧ (@Ne Nat q.1 D) := fun q hq => by
            have h1 := led_adr hq
            rw [hcq] at h1
            obtain ⟨c, hc, e⟩ := List.mem_map.mp h1
            rw [← e]; exact hcps c hc
          have hallH : ∀ q ∈ led cq ++ (its ++ kx), (@Ne Nat q.1 H) ∧ (@Ne Nat q.1 D) := fun q hq => by
            simp only [List.mem_append] at hq
            rcases hq with hq | hq | hq
            · exact hcqs q hq
            · exact ⟨(hits q hq).1, (hits q hq).2.1⟩
            · exact ⟨(hkxs q hq).1, (hkxs q hq).2.1⟩
          have hne : hp ≠ [] := List.length_pos_iff.mp (by omega)
          have hcat := List.dropLast_concat_getLast hne
          have hpm := hpop_perm (lt := ltK kf) (ws := hp.dropLast) (y := hp.getLast hne)
          have hhp2 := hpop_heap (wo_K kf) (ws := hp.dropLast) (y := hp.getLast hne) (by rw [hcat]; exact hHp)
          have hmin := hpop_min (wo_K kf) (ws := hp.dropLast) (y := hp.getLast hne) (by rw [hcat]; exact hHp)
          rw [hcat] at hpm hmin
          obtain ⟨b1, t1, u1, n1, e1, hm1⟩ := hhT _ (hpm.mem_iff.mp (.head _))
          rw [e1] at hmin
          refine heappop_spec (d := d) (S := IsTup its kf) (lt := ltK kf) (a := H) (vs := hp) (n := nh) (rest := (D, W.listOf (rfs cq ix).toArray nD) :: (led cq ++ (its ++ kx))) hcat.symm (C'.less (by omega)) F₂ N₂ (fun q hq => ?_) (by omega) hhT (fun g' hr _ => cmp_tup fun q hq => hr q (.tail _ (List.mem_append_right _ (List.mem_append_left _ hq)))) ?_
          · rcases List.mem_cons.mp hq with rfl | hq
            · exact Ne.symm hHD
            · exact (hallH q hq).1
          intro h3 tk3 F3 N3
          rw [e1] at hpm ⊢
          generalize (hpop (ltK kf) hp.dropLast (hp.getLast hne)).2 = hp2 at *
          obtain ⟨⟨l1, k1⟩, hk1⟩ : ∃ k0, k0 = kf b1 := ⟨_, rfl⟩
          rw [← hk1] at hm1
          dsimp only at hm1
          replace N3 : News g L' h3 ((b1, { cls := .type "tuple", data := .seq #[.int l1 t1, .int k1 u1] n1 }) :: (H, W.listOf hp2.toArray (nh + 1)) :: (D, W.listOf (rfs cq ix).toArray nD) :: (led cq ++ (its ++ kx))) := fun p hp => by
            rcases List.mem_cons.mp hp with rfl | hp
            · exact N3 _ (.tail _ (.tail _ (List.mem_append_right _ (List.mem_append_left _ hm1))))
            · exact N3 p hp
          have hLv2 := hLv.perm (hpm.map (vkey kf)).symm
          rw [List.map_cons, show vkey kf (.ref b1) = (l1, k1) from hk1.symm] at hLv2
          obtain ⟨hk10, hk1l, _, _⟩ := hLv2.key _ (.head _)
          dsimp only at hk10 hk1l
          have hrfl := rfs_len (cp := cq) (ix := ix)
          clear N₂ F₂
          repeat' (first | walk1 | (dsimp only; walk1))
          refine Stop.out ?_
          rename Fr g L' _ _ => F4
          rename News g L' _ _ => N4
          rw [rfs_getD hk1l] at F4
          obtain ⟨c1, hc1⟩ : ∃ c1, c1 = cel ix (l1, k1) := ⟨_, rfl⟩
          rw [show ix.getD k1.toNat 0 = c1 from hc1.symm] at F4
          have hl2 := hpm.length_eq
          rw [List.length_cons] at hl2
          have hne2 : hp2 ≠ [] := List.length_pos_iff.mp (by omega)
          have hcat2 := List.dropLast_concat_getLast hne2
          have hpm2 := hpop_perm (lt := ltK kf) (ws := hp2.dropLast) (y := hp2.getLast hne2)
          have hhp3 := hpop_heap (wo_K kf) (ws := hp2.dropLast) (y := hp2.getLast hne2) (by rw [hcat2]; exact hhp2)
          have hmin2 := hpop_min (wo_K kf) (ws := hp2.dropLast) (y := hp2.getLast hne2) (by rw [hcat2]; exact hhp2)
          rw [hcat2] at hpm2 hmin2
          have hhT2 : ∀ v ∈ hp2, IsTup its kf v := fun v hv => hhT v (hpm.mem_iff.mp (.tail _ hv))
          obtain ⟨b2, t2, u2, n2, e2, hm2⟩ := hhT2 _ (hpm2.mem_iff.mp (.head _))
          rw [e2] at hmin2
          refine For_invV g rfl rfl ?_
          repeat' (first | walk1 | (dsimp only; walk1))
          refine Stop.out ?_
          refine heappop_spec (d := d) (S := IsTup its kf) (lt := ltK kf) (a := H) (vs := hp2) (n := nh + 1) (rest := (D, W.listOf (rfs cq ix).toArray nD) :: (led cq ++ (its ++ kx))) hcat2.symm (C'.less (by omega)) F4 (drop_hd N4) (fun q hq => ?_) (by omega) hhT2 (fun g' hr _ => cmp_tup fun q hq => hr q (.tail _ (List.mem_append_right _ (List.mem_append_left _ hq)))) ?_
          · rcases List.mem_cons.mp hq with rfl | hq
            · exact Ne.symm hHD
            · exact (hallH q hq).1
          intro h5 tk5 F5 N5
          rw [e2] at hpm2 ⊢
          generalize (hpop (ltK kf) hp2.dropLast (hp2.getLast hne2)).2 = hp3 at *
          obtain ⟨⟨l2, k2⟩, hk2⟩ : ∃ k0, k0 = kf b2 := ⟨_, rfl⟩
          rw [← hk2] at hm2
          dsimp only at hm2
          replace N5 : News g L' h5 ((b2, { cls := .type "tuple", data := .seq #[.int l2 t2, .int k2 u2] n2 }) :: (H, W.listOf hp3.toArray (nh + 1 + 1)) :: (D, W.listOf (rfs cq ix).toArray nD) :: (led cq ++ (its ++ kx))) := fun p hp => by
            rcases List.mem_cons.mp hp with rfl | hp
            · exact N5 _ (.tail _ (.tail _ (List.mem_append_right _ (List.mem_append_left _ hm2))))
            · exact N5 p hp
          have hpk2 := hpm2.map (vkey kf)
          rw [List.map_cons, show vkey kf (.ref b2) = (l2, k2) from hk2.symm] at hpk2
          have hLv3 := hLv2.perm ((hpk2.symm).cons (l1, k1))
          obtain ⟨hk20, hk2l, _, _⟩ := hLv3.key _ (.tail _ (.head _))
          dsimp only at hk20 hk2l
          clear N4 F4
          repeat' (first | walk1 | (dsimp only; walk1))
          rw [rfs_getD hk2l]
          obtain ⟨c2, hc2⟩ : ∃ c2, c2 = cel ix (l2, k2) := ⟨_, rfl⟩
          rw [show ix.getD k2.toNat 0 = c2 from hc2.symm]
          have hnd3 := hLv3.nd
          rw [List.map_cons, List.map_cons, ← hc1, ← hc2, List.nodup_cons, List.nodup_cons] at hnd3
          have hc21 : c2 ≠ c1 := fun e => hnd3.1 (by rw [e]; exact .head _)
          have hc1l : c1 < cq.length := by rw [hc1]; exact hLv3.ixs _ (cel_lt hk1l)
          have hc2l : c2 < cq.length := by rw [hc2]; exact hLv3.ixs _ (cel_lt hk2l)
          have hlen12 := live_two hLv3
          have hz1 := hLv3.key _ (.head _)
          have hz2 := hLv3.key _ (.tail _ (.head _))
          rw [← hc1, ← hc2] at hlen12
          rw [← hc1] at hz1
          rw [← hc2] at hz2
          obtain ⟨_, _, hl1e, hris1⟩ := hz1
          obtain ⟨_, _, hl2e, hris2⟩ := hz2
          dsimp only at hl1e hl2e
          have hint1 := hLv3.itg c1 hc1l
          have hint2 := hLv3.itg c2 hc2l
          have hndq : (cq.map (·.1)).Nodup := by rw [hcq]; exact hnd
          have hstill : ∀ q ∈ ledO cq c1 ++ (its ++ kx), q.1 ≠ adr cq c1 := fun q hq => by
            have ha9 : adr cq c1 ∈ cp.map (·.1) := by rw [← hcq]; exact adr_mem0 hc1l
            simp only [List.mem_append] at hq
            rcases hq with hq | hq | hq
            · exact ledO_ne hndq hc1l hq
            · exact fun e => (hits q hq).2.2 (by rw [e]; exact ha9)
            · obtain ⟨c, hc, e⟩ := List.mem_map.mp ha9
              intro e9
              exact (hkxs q hq).2.2 c hc (e.trans e9.symm)
          have hHD1 : (@Ne Nat (adr cq c1) H) ∧ (@Ne Nat (adr cq c1) D) := hcqs _ (led_mem hc1l)
          refine iter_list (l := adr cq c2) (vs := vals cq c2) (kept := (H, W.listOf hp3.toArray (nh + 1 + 1)) :: (D, W.listOf (rfs cq ix).toArray nD) :: (ledO cq c1 ++ (its ++ kx))) (news := [(adr cq c1, W.listOf (vals cq c1).toArray (cnt cq c1))]) rfl (PySem.IsL.isList (n := cnt cq c2) (N5 (adr cq c2, W.listOf (vals cq c2).toArray (cnt cq c2)) ?_).1) (N5 (adr cq c2, W.listOf (vals cq c2).toArray (cnt cq c2)) ?_).2.1 F5 (cb_drop N5 (fun p hp => ?_)) (fun p hp q hq => ?_) (fun q hq => ?_)
            (PutD H D cost tc cq c1 c2) ?_ ?_ ?_
          · exact .tail _ (.tail _ (.tail _ (List.mem_append_left _ (led_mem hc2l))))
          · exact .tail _ (.tail _ (.tail _ (List.mem_append_left _ (led_mem hc2l))))
          · simp only [List.cons_append, List.nil_append, List.mem_cons, List.mem_append] at hp ⊢
            rcases hp with h | h | h | h | h | h
            · rw [h]; exact .inr (.inr (.inr (.inl (led_mem hc1l))))
            · simp [h]
            · simp [h]
            · exact .inr (.inr (.inr (.inl (ledO_mem h))))
            · simp [h]
            · simp [h]
          · rw [List.mem_singleton.mp hq]
            simp only [List.mem_cons] at hp
            rcases hp with rfl | rfl | hp
            · exact Ne.symm hHD1.1
            · exact Ne.symm hHD1.2
            · exact hstill p hp
          · rw [List.mem_singleton.mp hq]
            exact Ne.symm (hstill _ (List.mem_append_left _ (ledO_has hc2l hc21)))
          · exact ⟨_, vals cq c1, cnt cq c1, 0, _, kst_self (by kst_all), rfl, hris1, by simp, Nat.zero_le _, fun v _ j hj => absurd hj (Nat.not_lt_zero _)⟩
          · rintro i v m₁ var h tk own hv ⟨u, cur, nc, pl, tp, rfl, rfl, hrc, hpc, hpl, hbef⟩ hkp hso F₁ N₁
            clear N5 F5
            change Fr g L' _ _ at F₁
            change News g L' _ _ at N₁
            simp only [List.cons_append, List.nil_append] at N₁
            have hso1 : ∀ p ∈ own, p.1 ≠ adr cq c1 := fun p hp => hso p hp _ (.head _)
            obtain ⟨hil9, _⟩ := List.getElem?_eq_some_iff.mp hv
            have hvI : IsInt v := hint2 v (List.mem_of_getElem? hv)
            have hcurI : ∀ z ∈ cur, IsInt z := fun z hz => by
              rcases List.mem_append.mp (hpc.mem_iff.mp hz) with h9 | h9
              · exact hint1 z h9
              · exact hint2 z (List.mem_of_mem_take h9)
            have hcl9 := hpc.length_eq
            rw [List.length_append, List.length_take] at hcl9
            obtain ⟨hs1, hs2, hs3, hs4⟩ := ins_step hrc hpl (hbef v hv)
            dsimp only [kstB] at F₁
            repeat' (first | walk1 | (dsimp only; walk1))
            refine Stop.out ?_
            refine bisect_right_spec (d := d) (S := IsInt) (lt := ltI) (a := adr cq c1) (vs := cur) (n := nc) (x := v) (lo := pl) rfl hpl (C'.less (by omega)) F₁ N₁ hso1 (by omega) hcurI hvI (fun g' _ _ => cmp_ints _ _ _) ?_
            intro h9 tk9 t9 F9 N9
            clear N₁ F₁
            generalize bisR ltI v cur pl cur.length = pl2 at *
            repeat' (first | walk1 | (dsimp only; walk1))
            rename Fr g L' _ _ => F10
            rename News g L' _ _ => N10
            refine ⟨_, _, _, [(adr cq c1, W.listOf (insAt cur pl2 v).toArray (nc + 1))], rfl, F10, N10, fun p hp q hq => ?_, _, insAt cur pl2 v, nc + 1, pl2, t9, kst_self (by kst_all), rfl, hs3, ?_, by rw [insAt_length hs2]; omega, fun z hz j hj => ?_⟩
            · rw [List.mem_singleton.mp hq]; exact hso1 p hp
            · refine insAt_perm.trans ?_
              rw [List.take_add_one, hv, Option.toList_some, ← List.append_assoc]
              exact (hpc.cons v).trans (List.perm_append_singleton _ _).symm
            · have hzv : ltI z v = false := by
                obtain ⟨hz1, hz2⟩ := List.getElem?_eq_some_iff.mp hz
                have h8 := rising_le wo_int hris2 (Nat.le_succ i) hz1
                simp only [List.getD, hv, hz, Option.getD_some] at h8
                exact h8
              exact wo_int.ntr _ _ _ hzv (hs4 j hj)
          · rintro m₁ var h tk ⟨u, cur, nc, pl, tp, rfl, rfl, hrc, hpc, _, _⟩ hso F₁ N₁
            clear N5 F5
            change Fr g L' _ _ at F₁
            change News g L' _ _ at N₁
            simp only [List.cons_append, List.nil_append] at N₁
            rw [List.take_length] at hpc
            have hcl9 := hpc.length_eq
            rw [List.length_append] at hcl9
            dsimp only [kstB] at F₁
            dsimp only
            repeat' (first | walk1 | (dsimp only; walk1))
            refine Stop.out ?_
            rename Fr g L' _ _ => F8
            rename News g L' _ _ => N8
            rename adr cq c1 < _ ∧ H < _ ∧ _ => l8
            rename_i b h8'
            rw [hrfl] at N8
            obtain ⟨T8, T9, N8⟩ : ∃ T8 T9, News g L' h8' ((b, tup2 (cur.length : Int) (ix.length : Int) T8 T9 0) :: (adr cq c1, W.listOf cur.toArray nc) :: (H, W.listOf hp3.toArray (nh + 1 + 1)) :: (D, W.listOf (rfs cq ix).toArray nD) :: (ledO cq c1 ++ (its ++ kx))) := ⟨_, _, N8⟩
            rw [show ((cost : Int) + (cur.length : Int)) = ((cost + cur.length : Nat) : Int) from (Int.natCast_add _ _).symm] at F8
            obtain ⟨l8r, l8H, l8D', l8i'⟩ := l8
            have l8c' := kst_ltOf l8i'
            have hbi : ∀ q ∈ its, q.1 ≠ b := fun q hq => Nat.ne_of_lt (l8c' q (List.mem_append_right _ (List.mem_append_left _ hq)))
            have hHb : H ≠ b := neN (by omega)
            have hhT3 : ∀ v ∈ hp3, IsTup its kf v := fun v hv => hhT2 v (hpm2.mem_iff.mp (.tail _ hv))
            have hl3 := hpm2.length_eq
            rw [List.length_cons] at hl3
            obtain ⟨kf', hkf'⟩ : ∃ kf', kf' = kfUp kf b ((cur.length : Int), (ix.length : Int)) := ⟨_, rfl⟩
            have hTup : ∀ v ∈ hp3, IsTup ((b, tup2 (cur.length : Int) (ix.length : Int) T8 T9 0) :: its) kf' v := fun v hv => by rw [hkf']; exact isTup_up hbi (hhT3 v hv)
            have hTupb : IsTup ((b, tup2 (cur.length : Int) (ix.length : Int) T8 T9 0) :: its) kf' (.ref b) := by rw [hkf']; exact isTup_new
            have hHp3 : HeapAt (ltK kf') 0 hp3 := by rw [hkf']; exact heapAt_up hbi hhT3 hhp3
            have hk3 : hp3.map (vkey kf') = hp3.map (vkey kf) := by rw [hkf']; exact keys_up hbi hhT3
            have hkb : vkey kf' (.ref b) = ((cur.length : Int), (ix.length : Int)) := by rw [hkf']; exact kfUp_new _ _ _
            refine heappush_spec (d := d) (S := IsTup ((b, tup2 (cur.length : Int) (ix.length : Int) T8 T9 0) :: its) kf') (lt := ltK kf') (a := H) (vs := hp3) (n := nh + 1 + 1) (x := .ref b) (rest := (b, tup2 (cur.length : Int) (ix.length : Int) T8 T9 0) :: (adr cq c1, W.listOf cur.toArray nc) :: (D, W.listOf (rfs cq ix).toArray nD) :: (ledO cq c1 ++ (its ++ kx))) (C'.less (by omega)) F8 (cb_drop N8 (fun p hp => ?_)) (fun q hq => ?_) (by omega) hTup hTupb (fun g' hr _ => cmp_tup fun q hq => hr q ?_) ?_
            · refine lin_mem ?_ hp; repeat' first | with_reducible exact lin_refl | exact lin_nil | refine lin_cons ?_ ?_ | refine lin_app ?_ ?_ | with_reducible exact lin_here | refine lin_tail ?_ | exact lin_refl | exact lin_here | refine lin_skip ?_ | exact .head _ | refine .tail _ ?_ | refine List.mem_append_right _ ?_ | assumption
            · simp only [List.mem_cons] at hq
              rcases hq with rfl | rfl | rfl | hq
              · exact Ne.symm hHb
              · exact hHD1.1
              · exact Ne.symm hHD
              · rcases List.mem_append.mp hq with hq | hq
                · exact (hcqs q (ledO_mem hq)).1
                · exact (hallH q (List.mem_append_right _ hq)).1
            · rcases List.mem_cons.mp hq with rfl | hq
              · exact .head _
              · exact .tail _ (.tail _ (.tail _ (List.mem_append_right _ (List.mem_append_left _ hq))))
            intro h9 tk9 F9 N9
            clear N8 F8
            have hpm4 := hpush_perm (lt := ltK kf') (vs := hp3) (x := .ref b)
            have hhp4 := hpush_heap (wo_K kf') (x := .ref b) hHp3
            generalize hpush (ltK kf') hp3 (.ref b) = hp4 at *
            have hl4 := hpm4.length_eq
            rw [List.length_cons] at hl4
            have hpk4 := hpm4.map (vkey kf')
            rw [List.map_cons, hk3, hkb] at hpk4
            repeat' (first | walk1 | (dsimp only; walk1))
            refine append_gen (D := D) (vs := rfs cq ix) (n := nD) (x := .ref (adr cq c1)) F9 (cb_drop N9 (news := (D, W.listOf (rfs cq ix).toArray nD) :: (H, W.listOf hp4.toArray (nh + 1 + 1 + 1)) :: (b, tup2 (cur.length : Int) (ix.length : Int) T8 T9 0) :: (adr cq c1, W.listOf cur.toArray nc) :: (ledO cq c1 ++ (its ++ kx))) (fun p hp => ?_)) (Upd.head (fun p hp => ?_)) (by omega) ?_
            · refine lin_mem ?_ hp; repeat' first | with_reducible exact lin_refl | exact lin_nil | refine lin_cons ?_ ?_ | refine lin_app ?_ ?_ | with_reducible exact lin_here | refine lin_tail ?_ | exact lin_refl | exact lin_here | refine lin_skip ?_ | exact .head _ | refine .tail _ ?_ | refine List.mem_append_right _ ?_ | assumption
            · simp only [List.mem_cons] at hp
              rcases hp with rfl | rfl | rfl | hp
              · exact hHD
              · exact neN (by dsimp only; omega)
              · exact hHD1.2
              · rcases List.mem_append.mp hp with hp | hp
                · exact (hcqs p (ledO_mem hp)).2
                · exact (hallH p (List.mem_append_right _ hp)).2
            intro h10 F10 N10
            clear N9 F9
            repeat' (first | walk1 | (dsimp only; walk1))
            rename Fr g L' _ _ => F11
            rename News g L' _ _ => N11
            rw [hc1] at hpc
            rw [hc2] at hpc
            have hLv4 := (hLv3.join (n' := nc) hrc hpc).perm hpk4.symm
            rw [← hc1] at hLv4
            have hpk : (hp.map (vkey kf)).Perm ((l1, k1) :: (l2, k2) :: hp3.map (vkey kf)) := by
              have h7 := hpm.map (vkey kf)
              rw [List.map_cons, show vkey kf (.ref b1) = (l1, k1) from hk1.symm] at h7
              exact h7.symm.trans (hpk2.symm.cons _)
            have hstep := lens_step hpk (fun p hp => by rw [(hLv.key p hp).2.2.1]; omega) (fun p hp => by
              obtain ⟨v, hv, rfl⟩ := List.mem_map.mp (hpk2.mem_iff.mp hp)
              have h7 := ltK_lex.mp (hmin v (hpm.mem_iff.mp (.tail _ hv)))
              rw [show vkey kf (.ref b1) = (l1, k1) from hk1.symm] at h7
              exact h7) (fun p hp => by
              obtain ⟨v, hv, rfl⟩ := List.mem_map.mp (hpk2.mem_iff.mp (.tail _ hp))
              have h7 := ltK_lex.mp (hmin2 v hv)
              rw [show vkey kf (.ref b2) = (l2, k2) from hk2.symm] at h7
              exact h7)
            dsimp only at hstep
            refine ⟨_, _, _, _, _, rfl, F11, (show News g L' _ ((H, W.listOf hp4.toArray (nh + 1 + 1 + 1)) :: (D, W.listOf (rfs (cq.set c1 (adr cq c1, cur, nc)) (ix ++ [c1])).toArray (nD + 1)) :: (led (cq.set c1 (adr cq c1, cur, nc)) ++ (((b, tup2 (cur.length : Int) (ix.length : Int) T8 T9 0) :: its) ++ kx))) from cb_drop N11 (fun p hp => ?_)), ?_, _, hp4, (b, tup2 (cur.length : Int) (ix.length : Int) T8 T9 0) :: its, kf', _, _, cq.set c1 (adr cq c1, cur, nc), ix ++ [c1], cost + cur.length, _, kst_self (by kst_all), rfl, hhp4, fun v hv => ?_, hLv4, by rw [map_adr_set]; exact hcq, fun q hq => ?_, ?_, ?_, ?_, ?_, ?_, rfl⟩
            · rw [rfs_snoc, rfs_set, adr_set] at hp
              simp only [List.cons_append, List.mem_cons, List.mem_append] at hp ⊢
              rcases hp with h | h | h | h | h | h
              · simp [h]
              · simp [h]
              · rcases led_set h with h | h
                · simp [h]
                · simp [h]
              · simp [h]
              · simp [h]
              · simp [h]
            · omega
            · rcases List.mem_cons.mp (hpm4.mem_iff.mp hv) with rfl | hv
              · exact hTupb
              · exact hTup v hv
            · rcases List.mem_cons.mp hq with rfl | hq
              · refine ⟨Ne.symm hHb, neN (by dsimp only; omega), fun hm => ?_⟩
                rw [← hcq] at hm
                obtain ⟨c, hc, e⟩ := List.mem_map.mp hm
                obtain ⟨k9, hk9, e9⟩ := List.mem_iff_getElem.mp hc
                by_cases hkc : k9 = c1
                · subst hkc
                  rw [cell_at hk9] at e9
                  rw [← e9] at e
                  have h1 := eqN e
                  dsimp only at h1
                  omega
                · have h1 := ltN (l8c' _ (List.mem_append_left _ (ledO_has hk9 hkc)))
                  rw [cell_at hk9] at e9
                  rw [← e9] at e
                  have h2 := eqN e
                  dsimp only at h1 h2
                  omega
              · exact hits q hq
            · rw [hufOf_perm (hpk4.map _), List.map_cons]
              rw [hstep] at hcost
              have h6 : ((cur.length : Int)).toNat = l1.toNat + l2.toNat := by omega
              have h7 : cur.length = l1.toNat + l2.toNat := by omega
              dsimp only
              rw [h6, h7]
              omega
            · constructor
              · intro h; omega
              · intro h; have := hh0.mpr h; omega
            · constructor
              · intro h; simp at h
              · intro h; have := hh0.mpr h; omega
            · rw [List.length_append, List.length_cons, List.length_nil]; omega
            · omega
        · rename Fr g L' _ _ => F3
          rename News g L' _ _ => N3
          rename ¬ 1 < (hp.length : Int) => hle
          rename H < _ ∧ D < _ ∧ _ => lT
          rename_i T h3
          have hshort : hufOf ((hp.map (vkey kf)).map fun p => p.1.toNat) = 0 := hufOf_short (by simp; omega)
          rw [hshort, Nat.add_zero] at hcost
          subst hcost
          by_cases hr0 : rows = []
          · have hx : ix = [] := List.length_eq_zero_iff.mp (hi0.mpr hr0)
            subst hx
            refine ⟨_, _, (T, { cls := .type "tuple", data := .seq #[.int (hufOf (rows.map List.length) : Nat) tc, .ref D] }) :: (D, W.listOf (rfs cq []).toArray nD) :: ([] ++ (a, W.listOf (refs cs).toArray n) :: led cs), F3, cb_drop N3 (fun p hp => ?_), fun kF kN hs => ?_⟩
            · rw [hkx]
              refine lin_mem ?_ hp; repeat' first | with_reducible exact lin_refl | exact lin_nil | refine lin_cons ?_ ?_ | refine lin_app ?_ ?_ | with_reducible exact lin_here | refine lin_tail ?_ | exact lin_refl | exact lin_here | refine lin_skip ?_ | exact .head _ | refine .tail _ ?_ | refine List.mem_append_right _ ?_ | assumption
            · refine hQ _ _ T D (rfs cq []) nD tc 0 [] [] kF (by simpa [led] using kN) (by simp [rfs]) (by simp [rfs, hr0]) (by simp [rfs, refs]) ?_ .nil (by rw [if_pos hr0]; exact RowsAre.nil)
              rw [hr0] at hfl
              exact hfl
          · have hp1 : hp.length = 1 := by
              have : hp.length ≠ 0 := fun e => hr0 (hh0.mp e)
              omega
            obtain ⟨v, rfl⟩ := List.length_eq_one_iff.mp hp1
            rw [List.map_cons, List.map_nil] at hLv
            obtain ⟨q0, hq0, hlast⟩ := hLv.last (by simp)
            obtain rfl := List.mem_singleton.mp hq0
            obtain ⟨z1, z2, z3, z4⟩ := hLv.key _ (.head _)
            have hcl9 : cel ix (vkey kf v) < cq.length := hLv.ixs _ (cel_lt z2)
            have hall := hLv.all
            rw [List.map_cons, List.map_nil, List.flatMap_cons, List.flatMap_nil, List.append_nil] at hall
            refine ⟨_, _, (T, { cls := .type "tuple", data := .seq #[.int (hufOf (rows.map List.length) : Nat) tc, .ref D] }) :: (D, W.listOf (rfs cq ix).toArray nD) :: (led [(adr cq (cel ix (vkey kf v)), vals cq (cel ix (vkey kf v)), cnt cq (cel ix (vkey kf v)))] ++ (a, W.listOf (refs cs).toArray n) :: led cs), F3, cb_drop N3 (fun p hp => ?_), fun kF kN hs => ?_⟩
            · rw [hkx]
              have h9 := led_mem hcl9
              simp only [List.mem_cons, List.mem_append, led, List.map_cons, List.map_nil, List.not_mem_nil, or_false] at hp h9 ⊢
              rcases hp with h | h | h | h | h
              · simp [h]
              · simp [h]
              · rw [h]; exact .inr (.inr (.inr (.inl h9)))
              · simp [h]
              · simp [h]
            · refine hQ _ _ T D (rfs cq ix) nD tc 0 [(adr cq (cel ix (vkey kf v)), vals cq (cel ix (vkey kf v)), cnt cq (cel ix (vkey kf v)))] ((vals cq (cel ix (vkey kf v))).map ival) kF (by simpa using kN) (by rw [rfs_len]; omega) (by rw [rfs_len]; exact hi0) ?_ hall (rising_ints.mp z4) ?_
              · have hl9 : (rfs cq ix).length = ix.length := rfs_len
                rw [List.drop_eq_getElem_cons (by omega), List.drop_of_length_le (by omega)]
                have h9 := rfs_getD (cp := cq) z2
                rw [List.getD, List.getElem?_eq_getElem (by omega), Option.getD_some] at h9
                have e9 : (rfs cq ix).length - 1 = (vkey kf v).2.toNat := by omega
                simp only [e9, h9]
                rfl
              · rw [if_neg hr0]
                exact RowsAre.nil.snoc (c := (adr cq (cel ix (vkey kf v)), vals cq (cel ix (vkey kf v)), cnt cq (cel ix (vkey kf v)))) (intsAre_of (hLv.itg _ hcl9))
end
section
inductive OneA (L' Hh P : Addr) (k : Nat) (tk₀ : Tok) (oC5 : Obj) (i : Nat) (m₁ : Str → Option Value) (var : List (Addr × Obj)) : Prop
  | mk (u : Str → Option Value) (hp pl : List Value) (nh np : Nat) (h0 : m₁ = kstB u [(Str.ofString "plain", .ref P), (Str.ofString "count", .int k tk₀)]) (h1 : var = [(L' + 1, oC5), (Hh, W.listOf hp.toArray nh), (P, W.listOf pl.toArray np)]) (h2 : HeapAt ltI 0 hp) (h3 : (∀ v ∈ hp, IsInt v)) (h4 : (∀ v ∈ pl, IsInt v)) (h5 : (hp.map ival).Perm (pl.map ival)) (h6 : hp.length = k) : OneA L' Hh P k tk₀ oC5 i m₁ var
theorem sorted_uniqueI : ∀ {l l' : List Int}, l.Perm l' → l.Pairwise (· ≤ ·) → l'.Pairwise (· ≤ ·) → l = l'
  | [], l', h, _, _ => by rw [h.nil_eq]
  | a :: r, [], h, _, _ => by have := h.length_eq; simp at this
  | a :: r, b :: r', h, h1, h2 => by
    have h1' := List.pairwise_cons.mp h1
    have h2' := List.pairwise_cons.mp h2
    have hab : a = b := by
      have hb : a ≤ b := by
        rcases List.mem_cons.mp (h.mem_iff.mpr (.head _ : b ∈ b :: r')) with e | hm
        · omega
        · exact h1'.1 b hm
      have ha : b ≤ a := by
        rcases List.mem_cons.mp (h.mem_iff.mp (.head _ : a ∈ a :: r)) with e | hm
        · omega
        · exact h2'.1 a hm
      omega
    subst hab
    rw [sorted_uniqueI h.cons_inv h1'.2 h2'.2]
theorem one_spec {prog : Program} {w : World} {A : Around} {s : Shared} {h₀ : Heap} {L : Addr} {m : Str → Option Value} {rest : List (Addr × Obj)} {p : Program} {loose : List Str} {mean : ExcName → Option Value} {mg mb : Str → Option Value} {d : Nat} {Q : Value → Shared → Prop} {E : Value → Shared → Prop} {A₀ : Around} {base : Heap} {env : Env} {a : Addr} {vs : List Value} {n k : Nat} {tk₀ : Tok} {ns : List Int}
    (C : At (hd04.heap_39 w.params) p loose mean mg mb A h₀ L (d + 12)) (F : Fr h₀ L s.heap m) (B : Below A₀ base [] h₀) (XB : Frag.In (hd04.heap_39 w.params) base) (TB : Top p loose mean mg mb base) (hA : A.frames = some [env]) (hf : env.frame = some L) (hke : env.scope.kind = .function) (N : News h₀ L s.heap ((a, listOf vs.toArray n) :: rest)) (hsep : ∀ q ∈ rest, q.1 ≠ a) (hlen : vs.length ≤ 70) (hk1 : 1 ≤ k) (hk : k ≤ 9) (hI : IntsAre vs ns)
    (hQ : ∀ h' tk, Fr h₀ L h' m → News h₀ L h' ((a, listOf vs.toArray n) :: rest) → Q (.bool true) { s with heap := h', toks := tk }) :
    wpAny (model prog w) A (call (.ref 70) [.ref a, .int k tk₀]) Q E s := by
  obtain ⟨hnd, dp, fr0, gd0, un0⟩ := A
  obtain rfl : hnd = none := C.hh
  obtain rfl : fr0 = _ := hA
  w_top off
  w_top off
  refine' call_atTC (own := [(a, listOf vs.toArray n)]) (rest := rest) (binds := [(Str.ofString "numbers", .ref a), (Str.ofString "count", .int k tk₀)]) C B rfl hf hke F N (fun p hp q hq e => ?hs) ?ho ?hcd ?hb ?hl ?hn ?_ ?h1 ?h2 ?h3
  case ho => k_is
  case hcd => k_is
  case hb => exact BindsTo.of_eq rfl
  case hl => exact rfl
  case hn => decide +kernel
  case h1 => rfl
  case h2 => rfl
  case h3 => rfl
  case hs =>
    obtain rfl := List.mem_singleton.mp hp
    exact hsep q hq e.symm
  intro g L' h₁ tk cells C' BG D F' N' Y hr hst hlo
  have haL := ltN (a := a) (b := L') (hlo _ (.head _))
  k_cells Y
  rename_i oC0 dC0
  simp only [List.cons_append, List.nil_append] at N'
  clear hsep F N hst hlo B
  have hIS : Stop (IntsAre vs ns) := hI
  clear hI
  have C1 := C'
  obtain ⟨⟨A₉, base₉, outer₉, env₉, B', hA', hf', hk'⟩, X', T', hd', hu', hh'⟩ := C1
  repeat' (first | walk1 | (dsimp only; walk1))
  refine wpAny_Try_except ?_
  repeat' (first | walk1 | (dsimp only; walk1))
  unfold Stop
  rename Fr g L' _ _ => F2
  rename News g L' _ _ => N2
  rename L' + 1 < _ ∧ a < _ => lH
  rename Obj.data _ = Data.cell (some (Value.ref _)) => dC
  rename_i H0 _ _ oC _ _
  obtain ⟨lH1, lH2⟩ := lH
  refine heapreplace_raises (d := d) (a := H0) (n := 0) (rest := [(L' + 1, oC), (a, W.listOf vs.toArray n)]) (C'.less (by omega)) F2 BG rfl rfl rfl N2 (fun q hq => ?_) ?_
  · simp only [List.mem_cons, List.not_mem_nil, or_false] at hq
    rcases hq with rfl | rfl
    · exact neN (by dsimp only; omega)
    · exact neN (by dsimp only; omega)
  intro G h3 tk3 e FG hG R hup
  refine' caughtX (T' := "IndexError") (more := [(L' + 1, oC), (a, W.listOf vs.toArray n)]) R FG BG hup XB TB D KtsTurn.refl (fun q hq => ⟨hG q hq, (N2 q (.tail _ hq)).2⟩) ?ex PyProof.Rows.Boot.«IndexError» ?hn PySem.F.isExc_IndexError PySem.F.notTuple_IndexError ?hsb ?_
  case ex => k_is
  case hn => decide
  case hsb => kts_sub
  intro h4 g' T4 F4 N4 K4 X4 P4 D4
  simp only [List.cons_append, List.nil_append] at N4
  have C4 : At (hd04.heap_39 w.params) p loose mean mg mb _ g' L' (d + 11) := ⟨⟨_, _, _, _, K4, by exact rfl, by exact rfl, by exact rfl⟩, X4, P4, hd', hu', hh'⟩
  clear D BG N2 F2 R FG
  repeat' (first | walk1 | (dsimp only; walk1))
  refine Stop.out ?_
  rename Fr g' L' _ _ => F5
  rename News g' L' _ _ => N5
  rename Obj.data _ = Data.cell (some (Value.ref _)) => dC5
  rename _ < _ ∧ _ < _ ∧ _ < _ ∧ _ < _ ∧ H0 < _ ∧ L' + 1 < _ ∧ a < _ => l5
  rename _ < _ ∧ _ < _ ∧ H0 < _ ∧ L' + 1 < _ ∧ a < _ => lh5
  rename_i tH l2 hx0 l1b Hh hx1 iH nH sH eH e2H e3H hx2 oC5 tP l3 hx3 l1c P hx4 iP nP sP eP e2P e3P h5
  obtain ⟨_, _, _, lHL, lHa⟩ := lh5
  obtain ⟨_, lPH, _, _, _, lPL, lPa⟩ := l5
  clear iH nH sH eH e2H e3H iP nP sP eP e2P e3P l1b l1c
  rw [Int.toNat_natCast, rep_flat, rep_flat] at N5
  refine For_invV g' rfl rfl ?_
  repeat' (first | walk1 | (dsimp only; walk1))
  refine Stop.out ?_
  refine iter_list (l := a) (vs := vs) (kept := [(a, W.listOf vs.toArray n)]) (news := [(L' + 1, oC5), (Hh, W.listOf (List.replicate k (Value.int 0 tH)).toArray 0), (P, W.listOf (List.replicate k (Value.int 0 tP)).toArray 0)]) rfl (PySem.IsL.isList (n := n) (N5 (a, W.listOf vs.toArray n) (by simp)).1) (N5 (a, W.listOf vs.toArray n) (by simp)).2.1 F5 (cb_drop N5 (fun p hp => ?_)) (fun p hp q hq => ?_) (fun q hq => ?_)
    (OneA L' Hh P k tk₀ oC5) ?_ ?_ ?_
  · refine lin_mem ?_ hp; repeat' first | with_reducible exact lin_refl | exact lin_nil | refine lin_cons ?_ ?_ | refine lin_app ?_ ?_ | with_reducible exact lin_here | refine lin_tail ?_ | exact lin_refl | exact lin_here | refine lin_skip ?_ | exact .head _ | refine .tail _ ?_ | refine List.mem_append_right _ ?_ | assumption
  · rw [List.mem_singleton.mp hp]
    simp only [List.mem_cons, List.not_mem_nil, or_false] at hq
    rcases hq with rfl | rfl | rfl <;> exact neN (by dsimp only; omega)
  · simp only [List.mem_cons, List.not_mem_nil, or_false] at hq
    rcases hq with rfl | rfl | rfl <;> exact neN (by dsimp only; omega)
  · have hgr : ∀ i, i < k → (List.replicate k (Value.int 0 tH)).getD i .none = .int 0 tH := fun i hi => by simp [List.getD, hi]
    refine ⟨_, _, _, 0, 0, kst_self (by kst_all), rfl, fun i h1 h2 h3 => ?_, fun v hv => ?_, fun v hv => ?_, ?_, by simp⟩
    · rw [List.length_replicate] at h2
      rw [hgr i h2, hgr _ (by omega)]
      exact wo_int.irr _
    · exact ⟨0, tH, List.eq_of_mem_replicate hv⟩
    · exact ⟨0, tP, List.eq_of_mem_replicate hv⟩
    · rw [List.map_replicate, List.map_replicate]; exact .refl _
  · rintro i v m₁ var h tk own hv ⟨u, hp, pl, nh, np, rfl, rfl, hHp, hhI, hpI, hprm, hhl⟩ hkp hso F₁ N₁
    clear N5 F5
    change Fr g' L' _ _ at F₁
    change News g' L' _ _ at N₁
    simp only [List.cons_append, List.nil_append] at N₁
    obtain ⟨hil, _⟩ := List.getElem?_eq_some_iff.mp hv
    obtain ⟨y, ty, rfl⟩ : IsInt v := isInt_of hIS v (List.mem_of_getElem? hv)
    have hsoL : ∀ p ∈ own, @Ne Nat p.1 (L' + 1) := fun p hp => hso p hp _ (.head _)
    have hsoH : ∀ p ∈ own, @Ne Nat p.1 Hh := fun p hp => hso p hp _ (.tail _ (.head _))
    have hsoP : ∀ p ∈ own, @Ne Nat p.1 P := fun p hp => hso p hp _ (.tail _ (.tail _ (.head _)))
    clear hso
    have hpll := hprm.length_eq
    simp only [List.length_map] at hpll
    have hplI := intsAre_of hpI
    have hplS : Stop (IntsAre pl (pl.map ival)) := hplI
    clear hplI
    dsimp only [kstB] at F₁
    repeat' (first | walk1 | (dsimp only; walk1))
    refine Stop.out ?_
    refine min_list_N rfl F₁ N₁ (PySem.IsL.isList (n := np) (N₁ (P, W.listOf pl.toArray np) (by simp)).1) hplS (by simp; omega) ?_
    intro h9 X tX tk9 F9 N9 hX hXle
    clear N₁ F₁
    repeat' (first | walk1 | (dsimp only; walk1))
    rename Fr g' L' _ _ => F10
    rename News g' L' _ _ => N10
    refine remove_gen (D := P) (vs := pl) (n := np) (rest := (L' + 1, oC5) :: (Hh, W.listOf hp.toArray nh) :: own) F10 (cb_drop N10 (fun p hp => ?_)) (fun q hq => ?_) hplS hX (by omega) ?_
    · refine lin_mem ?_ hp; repeat' first | with_reducible exact lin_refl | exact lin_nil | refine lin_cons ?_ ?_ | refine lin_app ?_ ?_ | with_reducible exact lin_here | refine lin_tail ?_ | exact lin_refl | exact lin_here | refine lin_skip ?_ | exact .head _ | refine .tail _ ?_ | refine List.mem_append_right _ ?_ | assumption
    · simp only [List.mem_cons] at hq
      rcases hq with rfl | rfl | hq
      · exact neN (by dsimp only; omega)
      · exact neN (by dsimp only; omega)
      · exact hsoP q hq
    intro h12 q12 F12 N12 hq12
    have hq12S : Stop (IntsAre q12 ((pl.map ival).erase X)) := hq12
    have hq12l := hq12.length
    have hel := (List.perm_cons_erase hX).length_eq
    simp only [List.length_cons, List.length_map] at hel
    clear N10 F10 hq12
    repeat' (first | walk1 | (dsimp only; walk1))
    refine Stop.out ?_
    rename Fr g' L' _ _ => F13
    rename News g' L' _ _ => N13
    have hhpos : 0 < hp.length := by omega
    refine heapreplace_spec (d := d) (S := IsInt) (lt := ltI) (a := Hh) (vs := hp) (n := nh) (x := .int y ty) (rest := (P, W.listOf (q12 ++ [Value.int y ty]).toArray (np + 1 + 1)) :: (L' + 1, oC5) :: own) (C4.less (by omega)) F13 (cb_drop N13 (fun p hp => ?_)) (fun q hq => ?_) (by omega) hhpos hhI ⟨_, _, rfl⟩ (fun g9 _ _ => cmp_ints _ _ _) ?_
    · refine lin_mem ?_ hp; repeat' first | with_reducible exact lin_refl | exact lin_nil | refine lin_cons ?_ ?_ | refine lin_app ?_ ?_ | with_reducible exact lin_here | refine lin_tail ?_ | exact lin_refl | exact lin_here | refine lin_skip ?_ | exact .head _ | refine .tail _ ?_ | refine List.mem_append_right _ ?_ | assumption
    · simp only [List.mem_cons] at hq
      rcases hq with rfl | rfl | hq
      · exact neN (by dsimp only; omega)
      · exact neN (by dsimp only; omega)
      · exact hsoH q hq
    intro h14 tk14 F14 N14
    clear N13 F13
    obtain ⟨x0, t0, e0⟩ : IsInt (hp.getD 0 .none) := hhI _ (getD_mem hhpos)
    obtain rfl : x0 = X := by
      have h1 : x0 ∈ hp.map ival := List.mem_map.mpr ⟨_, getD_mem hhpos, by rw [e0]; rfl⟩
      have h2 := hXle _ (hprm.mem_iff.mp h1)
      obtain ⟨v9, hv9, e9⟩ := List.mem_map.mp (hprm.mem_iff.mpr hX)
      have h3 := heap_min_mem wo_int hHp hv9
      rw [e0] at h3
      have h4 : ¬ (ival v9 < x0) := of_decide_eq_false h3
      rw [e9] at h4
      omega
    have hpm := hrep_perm (lt := ltI) (x := .int y ty) hhpos
    have hhp' := hrep_heap wo_int (x := .int y ty) hhpos hHp
    have hhl' := hrep_len (lt := ltI) (x := .int y ty) hhpos
    rw [show (hrep ltI hp (.int y ty)).1 = .int x0 t0 from e0] at hpm ⊢
    generalize (hrep ltI hp (.int y ty)).2 = hp2 at *
    have hh2I : ∀ v ∈ hp2, IsInt v := fun v hv => by
      rcases List.mem_cons.mp (hpm.mem_iff.mp (.tail _ hv)) with rfl | hv
      · exact ⟨_, _, rfl⟩
      · exact hhI v hv
    have hq2 : IntsAre (q12 ++ [Value.int y ty]) ((pl.map ival).erase x0 ++ [y]) := intsN_snoc hq12S _ _
    have hprm2 : (hp2.map ival).Perm ((pl.map ival).erase x0 ++ [y]) := by
      have h1 := hpm.map ival
      rw [List.map_cons, List.map_cons] at h1
      have h2 := h1.trans ((hprm.trans (List.perm_cons_erase hX)).cons _)
      exact ((h2.trans (List.Perm.swap _ _ _)).cons_inv).trans (List.perm_append_singleton _ _).symm
    have hq2S : Stop (IntsAre (q12 ++ [Value.int y ty]) ((pl.map ival).erase x0 ++ [y])) := hq2
    clear hq2
    repeat' (first | walk1 | (dsimp only; walk1))
    all_goals try (rename x0 ≠ x0 => hc; exact absurd rfl hc)
    · refine Stop.out ?_
      try (rename x0 = x0 => hc; clear hc)
      refine kso_sorted F14 N14 (PySem.IsL.isList (n := nh) (N14 (Hh, W.listOf hp2.toArray nh) (.head _)).1) (intsAre_of hh2I) (by simp; omega) ?_
      intro S1 vs1 ns1 c1 h15 F15 N15 l15 hI1 _ hp1 ho1 _
      have l15H := ltN (l15 _ (.head _))
      have l15P := ltN (l15 _ (.tail _ (.head _)))
      have l15L := ltN (l15 _ (.tail _ (.tail _ (.head _))))
      have l15o : ∀ q ∈ own, @LT.lt Nat _ q.1 S1 := fun q hq => l15 _ (.tail _ (.tail _ (.tail _ hq)))
      dsimp only at l15H l15P l15L
      clear l15 N14 F14
      have hI1S : Stop (IntsAre vs1 ns1) := hI1
      clear hI1
      repeat' (first | walk1 | (dsimp only; walk1))
      refine Stop.out ?_
      refine kso_sorted F15 N15 (PySem.IsL.isList (n := np + 1 + 1) (N15 (P, W.listOf (q12 ++ [Value.int y ty]).toArray (np + 1 + 1)) (by simp)).1) hq2S (by simp; omega) ?_
      intro S2 vs2 ns2 c2 h16 F16 N16 l16 hI2 _ hp2' ho2 _
      clear N15 F15 l16
      obtain rfl : ns1 = ns2 := sorted_uniqueI ((hp1.trans hprm2).trans hp2'.symm) ho1 ho2
      refine ne_intsK (PySem.IsL.isList (n := c1) (N16 (S1, W.listOf vs1.toArray c1) (.tail _ (.head _))).1) hI1S (PySem.IsL.isList (n := c2) (N16 (S2, W.listOf vs2.toArray c2) (.head _)).1) hI2 (by have := C4.hu; omega) ?_
      rw [show (!decide (ns1 = ns1)) = false by simp]
      clear hI2
      replace N16 : News g' L' h16 ((L' + 1, oC5) :: (Hh, W.listOf hp2.toArray nh) :: (P, W.listOf (q12 ++ [Value.int y ty]).toArray (np + 1 + 1)) :: own) := cb_drop N16 fun p hp => by
        refine lin_mem ?_ hp; repeat' first | with_reducible exact lin_refl | exact lin_nil | refine lin_cons ?_ ?_ | refine lin_app ?_ ?_ | with_reducible exact lin_here | refine lin_tail ?_ | exact lin_refl | exact lin_here | refine lin_skip ?_ | exact .head _ | refine .tail _ ?_ | refine List.mem_append_right _ ?_ | assumption
      repeat' (first | walk1 | (dsimp only; walk1))
      refine Stop.out ?_
      refine LCt.ListComp_T (F₀ := F16) rfl (by decide) rfl (by decide) rfl ?_
      repeat' (first | walk1 | (dsimp only; walk1))
      refine Stop.out ?_
      rename IsRange _ _ _ _ _ _ _ _ => hR
      rename Fr g' L' _ _ => F17
      rename News g' L' _ _ => N17
      refine LCt.CompSrcT.range (n := k - 1) rfl F17 N17 hR (small_one (by omega) (by omega) (by omega) (by omega)) (by rw [rangeSize_nat]; congr 1; omega) (by simp only [sizeLine]; omega) ?_
      intro g6
      refine comp_restT (fun i ys news => news = (L' + 1, oC5) :: (Hh, W.listOf hp2.toArray nh) :: (P, W.listOf (q12 ++ [Value.int y ty]).toArray (np + 1 + 1)) :: own ∧ ys = []) ⟨rfl, rfl⟩ ?_ ?_
      · rintro i9 v I oI C oC' D m₂ ys news h7 tk7 E' hi ⟨t7, rfl⟩ ⟨rfl, rfl⟩ hC hx7 F7 N7 off ne
        have e9 : (1 : Int) + (i9 : Int) = ((i9 + 1 : Nat) : Int) := by omega
        rw [e9] at hx7
        have hlt9 := hhp' (i9 + 1) (by omega) (by omega) (Nat.zero_le _)
        have hi1 : i9 + 1 < hp2.length := by omega
        have hi2 : (i9 + 1 - 1) / 2 < hp2.length := by omega
        clear F17 N17 hR
        generalize i9 + 1 = j9 at *
        repeat' (first | walk1 | (dsimp only; walk1))
        refine Stop.out ?_
        refine cmp_ints prog w g' _ _ (hh2I _ (getD_mem hi1)) (hh2I _ (getD_mem hi2)) _ _ _ _ (by have := C4.hu; omega) (Fr.keep F7) ?_
        intro tk8
        rw [hlt9]
        repeat' (first | walk1 | (dsimp only; walk1))
        exact ⟨_, _, _, rfl, F7, N7, off, trivial, rfl, trivial⟩
      · rintro ys news ⟨rfl, rfl⟩ D h7 tk7 F7 N7 off
        clear F17 N17 hR
        dsimp only
        repeat' (first | walk1 | (dsimp only; walk1))
        rename Fr g' L' _ _ => F18
        rename News g' L' _ _ => N18
        have hq2I : IntsAre (q12 ++ [Value.int y ty]) ((pl.map ival).erase x0 ++ [y]) := hq2S
        refine ⟨_, _, _, [(L' + 1, oC5), (Hh, W.listOf hp2.toArray nh), (P, W.listOf (q12 ++ [Value.int y ty]).toArray (np + 1 + 1))], rfl, F18, cb_drop N18 (fun p hp => ?_), fun p hp q hq => ?_, _, hp2, q12 ++ [Value.int y ty], nh, np + 1 + 1, kst_self (by kst_all), rfl, hhp', hh2I, isInt_of hq2I, by rw [ival_of hq2I]; exact hprm2, by omega⟩
        · refine lin_mem ?_ hp; repeat' first | with_reducible exact lin_refl | exact lin_nil | refine lin_cons ?_ ?_ | refine lin_app ?_ ?_ | with_reducible exact lin_here | refine lin_tail ?_ | exact lin_refl | exact lin_here | refine lin_skip ?_ | exact .head _ | refine .tail _ ?_ | refine List.mem_append_right _ ?_ | assumption
        · simp only [List.mem_cons, List.not_mem_nil, or_false] at hq
          rcases hq with rfl | rfl | rfl
          · exact hsoL p hp
          · exact hsoH p hp
          · exact hsoP p hp
  · rintro m₁ var h tk ⟨u, hp, pl, nh, np, rfl, rfl, hHp, hhI, hpI, hprm, hhl⟩ hso F₁ N₁
    clear N5 F5
    change Fr g' L' _ _ at F₁
    change News g' L' _ _ at N₁
    dsimp only [kstB] at F₁
    dsimp only
    repeat' (first | walk1 | (dsimp only; walk1))
    dsimp only
    refine ⟨g', _, _, [(a, W.listOf vs.toArray n)], T4, F₁, cb_drop N₁ (fun p hp => ?_), fun kF kN hs => hQ _ _ kF kN⟩
    rw [List.mem_singleton.mp hp]; simp
end
section
theorem flat_len : ∀ {rows : List (List Int)}, (∀ r ∈ rows, r ≠ []) → rows.length ≤ rows.flatten.length
  | [], _ => Nat.le_refl _
  | r :: rs, h => by
    have h1 := flat_len fun x hx => h x (.tail _ hx)
    have h2 := List.length_pos_iff.mpr (h r (.head _))
    rw [List.flatten_cons, List.length_append, List.length_cons]
    omega
local macro_rules | `(tactic| walk_at "compareOp NotEq ref ref") => `(tactic| refine Stop.mk ?_)
theorem law04 : PySem.Challenge.rw_dn0041_04.Holds := hd04 (by
  k_fill
  intro w s₀ s₁ mg mb G Y fa o pm cd doc dV kV ho hd hcd hD hmg hg args vals as hpre hlay hrd hwl hlo
  have KX := kIn_of Y
  k_behind G ho hd hcd hD hmg hpre hlay hrd hwl hlo cd
  rename Top _ _ _ _ _ _ => T
  rename_i ns0 hs0 hlay0 hL0 hr2 hl2 as3 as2 la vs0 as1 hLs ra w1 r0 hI hr3 hc1 hc2 K0 h₁ F N0
  have K0' : Below callerA s₁.heap [] s₁.heap := K0
  have C0 := at_law (L := s₁.heap.objs.size) K0' KX T
  refine wpAny_execs_cons ?_
  refine wp_cut (fun f s' => Stop (IsNext f ∧ ∃ (h' : Heap) (tk : Nat) (u : Str → Option Value) (sz : Nat) (t : Tok), s' = { s₁ with heap := h', toks := tk } ∧ 2 ≤ sz ∧ sz ≤ 6 ∧
      Fr s₁.heap s₁.heap.objs.size h' (kstB u [(Str.ofString "script", .ref la), (Str.ofString "size", .int sz t)]))) ?_ ?_
  · repeat' (first | walk1 | (dsimp only; walk1))
    refine Stop.out ?_
    refine slice_gen (zs := vs0.take 1) F N0 (F.lst hLs) IsPart.none (IsPart.int _ _) (pick_upto vs0 1) ?_ (by with_unfolding_all rfl) (by have := hI.length; simp; omega)
    intro D1 h2 F2 N2 l2
    have hI1 : IntsAre (vs0.take 1) (ns0.take 1) := ints_take hI 1
    clear l2 F N0
    repeat' (first | walk1 | (dsimp only; walk1))
    rename Fr s₁.heap s₁.heap.objs.size _ _ => F3
    have hm0 := fmod_lo (ns0.take 1).sum (n := 5) (by decide)
    have hm1 := fmod_hi (ns0.take 1).sum (n := 5) (by decide)
    obtain ⟨z, hz⟩ : ∃ z : Nat, 2 + Int.fmod (ns0.take 1).sum 5 = (z : Int) := ⟨(2 + Int.fmod (ns0.take 1).sum 5).toNat, by omega⟩
    rw [hz] at F3
    exact Stop.out ⟨rfl, _, _, _, z, _, rfl, by omega, by omega, fr_kst F3 (by kst_all)⟩
  · rintro f s' ⟨rfl, h2, tk2, u, sz, t, rfl, hsz2, hsz6, F2⟩
    have N2 : News s₁.heap s₁.heap.objs.size h2 [] := fun p hp => nomatch hp
    have hvl0 : vs0.length ≤ 63 := by have := hI.length; omega
    have hvl1 : ns0.length = vs0.length := by have := hI.length; omega
    clear N0 F
    dsimp only [kstB] at F2
    dsimp only
    all_goals try k_fold
    repeat' (first | walk1 | (dsimp only; walk1))
    refine Stop.out ?_
    rename Fr s₁.heap s₁.heap.objs.size _ _ => F3
    rename News s₁.heap s₁.heap.objs.size _ _ => N3
    rename IntsAre _ (ns0 ++ [-1, 1]) => hI3
    rename_i D3 ws3 h3 lD3
    have hws : ws3.length ≤ 65 := by have h1 := hI3.length; rw [List.length_append] at h1; simp at h1; omega
    obtain ⟨k, hk⟩ : ∃ k : Nat, (2 * (sz : Int) - 3) = (k : Int) := ⟨2 * sz - 3, by omega⟩
    rw [hk]
    refine one_spec (d := 0) (a := D3) (vs := ws3) (n := 0) (k := k) (rest := []) ((C0 _ rfl rfl).less (by omega)) F3 K0' KX T rfl rfl rfl (fun p hp => N3 p (by rw [List.mem_singleton.mp hp]; exact .head _)) (fun q hq => nomatch hq) (by omega) (by omega) (by omega) hI3 ?_
    intro h4 tk4 F4 N4
    clear N3 F3 hI3 lD3
    repeat' (first | walk1 | (dsimp only; walk1))
    refine Stop.out ?_
    refine slice_gen (zs := vs0.drop 1) F4 N4 (F4.lst hLs) (IsPart.int _ _) IsPart.none (pick_from vs0 1) ?_ (by with_unfolding_all rfl) (by simp; omega)
    intro Nn h5 F5 N5 l5
    clear l5 N4 F4
    repeat' (first | walk1 | (dsimp only; walk1))
    refine Stop.out ?_
    rename Fr s₁.heap s₁.heap.objs.size _ _ => F6
    rename News s₁.heap s₁.heap.objs.size _ _ => N6
    have hIn : IntsAre (vs0.drop 1) (ns0.drop 1) := ints_drop hI 1
    have hInS : Stop (IntsAre (vs0.drop 1) (ns0.drop 1)) := hIn
    clear hIn
    have hvd : (vs0.drop 1).length ≤ 62 := by rw [List.length_drop]; omega
    have hnd0 : (ns0.drop 1).length = (vs0.drop 1).length := by simp [hvl1]
    generalize vs0.drop 1 = vs1 at *
    generalize ns0.drop 1 = ns1 at *
    refine byheap_spec (d := 0) (a := Nn) (vs := vs1) (n := 0) (k := sz) (rest := []) ((C0 _ rfl rfl).less (by omega)) F6 (fun p hp => N6 p (by rw [List.mem_singleton.mp hp]; exact .head _)) (fun q hq => nomatch hq) (by omega) (by omega) (by omega) hInS ?_
    intro h7 tk7 R cs nR F7 N7 hnd hRc hRa hac _ hra
    obtain ⟨hok, hfl⟩ := runsF_spec ns1.length (ns1.take sz) (ns1.drop sz) [] (by simp; omega) (fun h => by
      have h1 := congrArg List.length h
      rw [List.length_take, List.length_nil] at h1
      exact List.drop_eq_nil_of_le (by omega)) (fun r hr => nomatch hr)
    rw [List.flatten_nil, List.nil_append, List.take_append_drop] at hfl
    generalize hrows : runsF ns1.length (ns1.take sz) (ns1.drop sz) [] = rows at *
    clear N6 F6
    repeat' (first | walk1 | (dsimp only; walk1))
    refine Stop.out ?_
    rename Fr s₁.heap s₁.heap.objs.size _ _ => F8
    rename News s₁.heap s₁.heap.objs.size _ _ => N8
    refine runs_spec (d := 0) (a := Nn) (vs := vs1) (n := 0) (k := sz) (rest := (R, W.listOf (refs cs).toArray nR) :: led cs) ((C0 _ rfl rfl).less (by omega)) F8 (cb_drop N8 (fun p hp => ?_)) (fun q hq => ?_) (by omega) (by omega) hInS ?_
    · refine lin_mem ?_ hp; repeat' first | with_reducible exact lin_refl | exact lin_nil | refine lin_cons ?_ ?_ | refine lin_app ?_ ?_ | with_reducible exact lin_here | refine lin_tail ?_ | exact lin_refl | exact lin_here | refine lin_skip ?_ | exact .head _ | refine .tail _ ?_ | refine List.mem_append_right _ ?_ | assumption
    · rcases List.mem_cons.mp hq with rfl | hq
      · exact hRa
      · exact fun e => hac (by rw [← e]; exact led_adr hq)
    intro h9 tk9 R2 cs2 nR2 F9 N9 _ _ _ _ _ hra2
    rw [hrows] at hra2
    clear N8 F8
    repeat' (first | walk1 | (dsimp only; walk1))
    refine Stop.out ?_
    refine ne_rows (R := R) (R' := R2) (cs := cs) (cs' := cs2) (n := nR) (n' := nR2) (rows := rows) (rows' := rows) N9 (by simp) (fun p hp => by simp [hp]) hra (.head _) (fun p hp => by simp [hp]) hra2 (law_units _) ?_
    rw [show (!decide (rows = rows)) = false by simp]
    repeat' (first | walk1 | (dsimp only; walk1))
    refine Stop.out ?_
    have hrl : ∀ r ∈ rows, r.length ≤ 63 := fun r hr => by
      have h1 := (List.sublist_flatten_of_mem hr).length_le
      have h2 := hfl.length_eq
      omega
    have hcl : cs.length ≤ 62 := by
      have h1 := flat_len (rows := rows) fun r hr => (hok r hr).1
      have h2 := hfl.length_eq
      have h3 := hra.len
      omega
    refine put_spec (d := 0) (a := R) (cs := cs) (n := nR) (rows := rows) (ns := ns1) (rest := [(Nn, W.listOf vs1.toArray 0)]) ((C0 _ rfl rfl).less (by omega)) F9 (cb_drop N9 (fun p hp => ?_)) (fun q hq => ?_) hra (by omega) hrl (fun r hr => (hok r hr).2) hfl (by omega) ?_
    · refine lin_mem ?_ hp; repeat' first | with_reducible exact lin_refl | exact lin_nil | refine lin_cons ?_ ?_ | refine lin_app ?_ ?_ | with_reducible exact lin_here | refine lin_tail ?_ | exact lin_refl | exact lin_here | refine lin_skip ?_ | exact .head _ | refine .tail _ ?_ | refine List.mem_append_right _ ?_ | assumption
    · rw [List.mem_singleton.mp hq]; exact ⟨Ne.symm hRa, hac⟩
    intro h10 tk10 T3 R3 rf nR3 t3 nT3 XL zs F10 N10 hrf hrf0 hrfd hzs hzp hxl
    clear N9 F9
    repeat' (first | walk1 | (dsimp only; walk1))
    refine Stop.out ?_
    rename Fr s₁.heap s₁.heap.objs.size _ _ => F11
    rename News s₁.heap s₁.heap.objs.size _ _ => N11
    refine slice_gen (zs := refs XL) F11 N11 (PySem.IsL.isList (n := nR3) (N11 (R3, W.listOf rf.toArray nR3) (.tail _ (.head _))).1) (IsPart.int _ _) IsPart.none (by rw [← hrfd]; exact pick_last rf) ?_ (by with_unfolding_all rfl) (by simp; omega)
    intro S1 h12 F12 N12 l12
    clear l12 N11 F11
    repeat' (first | walk1 | (dsimp only; walk1))
    refine Stop.out ?_
    refine kso_sorted F12 N12 (PySem.IsL.isList (n := 0) (N12 (Nn, W.listOf vs1.toArray 0) (by simp)).1) hInS (by omega) ?_
    intro S2 vs2 ns2 c2 h13 F13 N13 l13 hI2 _ hp2 ho2 _
    obtain rfl : ns2 = zs := sorted_uniqueI (hp2.trans hzs.symm) ho2 hzp
    have hI2S : Stop (IntsAre vs2 ns2) := hI2
    clear l13 N12 F12 hI2
    repeat' (first | walk1 | (dsimp only; walk1))
    refine Stop.out ?_
    rename Fr s₁.heap s₁.heap.objs.size _ _ => F14
    rename News s₁.heap s₁.heap.objs.size _ _ => N14
    rename S2 < _ ∧ _ => l14
    rename_i l4 h14
    obtain ⟨c4, hc4⟩ : ∃ c4 : List Cell, c4 = if rows = [] then [] else [(S2, vs2, c2)] := ⟨_, rfl⟩
    have hc4r : ([Value.ref S2] : List Value).take rf.length = refs c4 := by
      rw [hc4]
      split
      · rename_i h
        rw [hrf0.mpr h]; rfl
      · rename_i h
        have : rf.length ≠ 0 := fun e => h (hrf0.mp e)
        rw [List.take_of_length_le (by simp; omega)]; rfl
    have hc4a : RowsAre c4 (if rows = [] then [] else [ns2]) := by
      rw [hc4]
      split
      · exact RowsAre.nil
      · exact RowsAre.nil.snoc (c := (S2, vs2, c2)) hI2S
    have hc4l : ∀ p ∈ led c4, p = (S2, W.listOf vs2.toArray c2) := by
      rw [hc4]
      split
      · intro p hp; cases hp
      · intro p hp; exact List.mem_singleton.mp hp
    refine slice_gen (zs := refs c4) F14 N14 (PySem.IsL.isList (n := 0) (N14 (l4, W.listOf #[Value.ref S2] 0) (.head _)).1) IsPart.none (IsPart.int _ _) (by rw [← hc4r]; exact pick_upto _ _) ?_ (by with_unfolding_all rfl) (by simp)
    intro S3 h15 F15 N15 l15
    clear l15 N14 F14 l14
    --cut0
    repeat' (first | walk1 | (dsimp only; walk1))
    refine Stop.out ?_
    refine ne_rows (R := S1) (R' := S3) (cs := XL) (cs' := c4) (n := 0) (n' := 0) N15 (by simp) (fun p hp => by simp [hp]) hxl (.head _) (fun p hp => by rw [hc4l p hp]; simp) hc4a (law_units _) ?_
    rw [show (!decide ((if rows = [] then [] else [ns2]) = (if rows = [] then [] else [ns2]))) = false by simp]
    have N16 : News s₁.heap s₁.heap.objs.size h15 ((R, W.listOf (refs cs).toArray nR) :: led cs) := cb_drop N15 fun p hp => by
      refine lin_mem ?_ hp; repeat' first | with_reducible exact lin_refl | exact lin_nil | refine lin_cons ?_ ?_ | refine lin_app ?_ ?_ | with_reducible exact lin_here | refine lin_tail ?_ | exact lin_refl | exact lin_here | refine lin_skip ?_ | exact .head _ | refine .tail _ ?_ | refine List.mem_append_right _ ?_ | assumption
    clear N15
    repeat' (first | walk1 | (dsimp only; walk1))
    --cut1
    refine Stop.out ?_
    refine LCg.ListComp_U (F₀ := F15) rfl (by decide) rfl (by decide) rfl ?_
    repeat' (first | walk1 | (dsimp only; walk1))
    refine Stop.out ?_
    refine LCg.CompSrc.ledger (k := nR) (its := (refs cs).toArray) rfl F15 N16 (.head _) (by simp [sizeLine, refs_len]; omega) ?_
    intro g6
    --cut2
    refine comp_rest (fun i ys news => news = (R, W.listOf (refs cs).toArray nR) :: led cs ∧ IntsAre ys ((rows.take i).map fun r => (r.length : Int))) ⟨rfl, .nil⟩ ?_ ?_
    · rintro i v I oI C oC D m₂ ys news h17 tk17 E' hi hv ⟨rfl, hys⟩ hC hx F17 N17 off ne
      have hil : i < cs.length := by simpa [refs_len] using hi
      obtain rfl : v = .ref (adr cs i) := by
        have h1 : (refs cs)[i]? = some v := by simpa using hv
        have h2 := refs_getD hil
        rw [List.getD, h1] at h2
        exact h2
      have hrow := hra.row hil
      have hri : rows[i]? = some (rows.getD i []) := by simp [List.getD, show i < rows.length by rw [hra.len]; exact hil]
      have hrln := hrow.length
      replace N17 : News s₁.heap s₁.heap.objs.size h17 ((adr cs i, W.listOf (vals cs i).toArray (cnt cs i)) :: (I, oI) :: (C, oC) :: (D, LCg.lst ys) :: (R, W.listOf (refs cs).toArray nR) :: led cs) := fun p hp => by
        rcases List.mem_cons.mp hp with rfl | hp
        · exact N17 _ (.tail _ (.tail _ (.tail _ (.tail _ (led_mem hil)))))
        · exact N17 p hp
      have hvl : (vals cs i).length ≤ 63 := by
        rw [hrln]
        exact hrl _ (List.mem_of_getElem? hri)
      have hysS : Stop (IntsAre ys ((rows.take i).map fun r => (r.length : Int))) := hys
      clear hv hys hrow
      repeat' (first | walk1 | (dsimp only; walk1))
      refine ⟨_, _, _, rfl, F17, cb_drop N17 (fun p hp => .tail _ hp), off, .inr ⟨_, .head _, rfl, _, rfl⟩, rfl, ?_⟩
      rw [List.take_add_one, hri, List.map_append, Option.toList_some, List.map_cons, List.map_nil, ← hrln]
      exact intsN_snoc hysS _ _
    · rintro ys news ⟨rfl, hys⟩ D h17 tk17 F17 N17 off
      rw [show (refs cs).toArray.size = rows.length by simp [refs_len, hra.len], List.take_length] at hys
      have hysS : Stop (IntsAre ys (rows.map fun r => (r.length : Int))) := hys
      clear hys
      dsimp only
      repeat' (first | walk1 | (dsimp only; walk1))
      refine Stop.out ?_
      refine kso_sorted F17 N17 (PySem.IsL.isList (n := ys.length) (N17 (D, W.listOf ys.toArray ys.length) (by simp [LCg.lst, W.listOf])).1) hysS (by rw [List.length_map, hra.len]; omega) ?_
      intro S4 vs4 ns4 c5 h18 F18 N18 l18 hI4 hl4 hp4 ho4 _
      have hnn : ∀ z ∈ ns4, 0 ≤ z := fun z hz => by
        obtain ⟨r, _, rfl⟩ := List.mem_map.mp (hp4.mem_iff.mp hz)
        omega
      have hcast : ns4 = (ns4.map Int.toNat).map Int.ofNat := by
        rw [List.map_map]
        conv => lhs; rw [← List.map_id ns4]
        exact List.map_congr_left fun z hz => by have := hnn z hz; simp; omega
      have hI4S : Stop (IntsAre vs4 ((ns4.map Int.toNat).map Int.ofNat)) := by rw [← hcast]; exact hI4
      have hl44 := hI4.length
      have hhuf : hufOf (rows.map List.length) = oc (ns4.map Int.toNat) := by
        refine hufOf_sorted ?_ ?_
        · have h1 := hp4.map Int.toNat
          rw [List.map_map] at h1
          refine h1.trans (List.Perm.of_eq ?_)
          exact List.map_congr_left fun r _ => by simp
        · rw [List.pairwise_map]
          exact ho4.imp fun h => by omega
      clear N17 F17 l18 hI4
      rw [List.length_map, hra.len] at hl4
      repeat' (first | walk1 | (dsimp only; walk1))
      refine Stop.out ?_
      refine least_spec (d := 0) (a := S4) (vs := vs4) (n := c5) (sz := ns4.map Int.toNat) (rest := []) ((C0 _ rfl rfl).less (by omega)) F18 (fun p hp => N18 p (by rw [List.mem_singleton.mp hp]; exact .head _)) (fun q hq => nomatch hq) (by omega) hI4S ?_
      intro h19 tk19 t19 F19 N19
      rw [← hhuf]
      clear N18 F18
      repeat' (first | walk1 | (dsimp only; walk1))
      k_steps)
end
end Mine

theorem PySem.Challenge.cw_dn0041_04_holds : PySem.Challenge.rw_dn0041_04.Holds := by
  exact Mine.law04
