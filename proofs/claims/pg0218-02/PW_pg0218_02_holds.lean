import PyProof.Rows.All
import Wide.All
import OpenK.AllK
import Wide.FinOn
import Lean
import PySem.Challenge.RW_pg0218_02
open PySem PySem.W PySem.Calls PySem.Spec PyProof.Rows
set_option Elab.async false
set_option maxRecDepth 100000
set_option maxHeartbeats 8000000
set_option compiler.extract_closed false
set_option genSizeOf false
set_option genInjectivity false
-- Hd02
namespace Mine
open_top hd for PySem.Challenge.rw_pg0218_02
end Mine
local macro_rules | `(tactic| omega) => `(tactic| first | with_reducible (first | assumption | decide | exact Nat.le_trans (by assumption) (by decide) | exact Nat.ne_of_gt (by assumption) | exact Nat.ne_of_lt (by assumption) | exact Int.natCast_nonneg _) | lia | omega (config := {}))
-- B0
namespace Mine

/-- g: what stays as it is; news: what is ours to change -/
structure Own (g h : Heap) (news : List (Addr × Obj)) : Prop where
  keep : ∀ b o, g.get? b = some o → h.get? b = some o
  size : g.objs.size ≤ h.objs.size
  mine : ∀ p ∈ news, h.get? p.1 = some p.2 ∧ g.get? p.1 = none

theorem Own.of {g h : Heap} {L : Addr} {m : Str → Option Value} {news : List (Addr × Obj)} (F : Fr g L h m) (N : News g L h news) : Own g h news := by
  refine ⟨F.keep, ?_, fun p hp => ⟨(N p hp).1, (N p hp).2.2⟩⟩
  obtain ⟨oL, es, ep, hL, r⟩ := F.ns
  exact Nat.le_of_lt (Nat.lt_of_le_of_lt F.above (Heap.lt_size hL))

theorem kstB_lookup : ∀ l : List (Str × Value), kstB (fun _ => none) l = fun y => l.lookup y
  | [] => rfl
  | p :: r => by
    funext y
    show (if y = p.1 then some p.2 else kstB (fun _ => none) r y) = (p :: r).lookup y
    obtain ⟨a, b⟩ := p
    rw [List.lookup_cons, kstB_lookup r]
    by_cases h : y = a
    · subst h; simp
    · have : (y == a) = false := by simpa using h
      simp [h, this]

/-- what a call of f does, told to any caller -/
noncomputable def Tell (prog : Program) (w : World) (K : Frag) (p : Program) (loose : List Str) (mean : ExcName → Option Value) (mg mb : Str → Option Value) (PG : Heap → Prop) (d u : Nat) (f : Value) (args : List Value) (news : List (Addr × Obj)) (Post : Value → List (Addr × Obj) → Prop) : Prop :=
  ∀ (A : Around) (base g : Heap) (outer : List Env) (s : Shared) (Q E : Value → Shared → Prop),
    Below A base outer g → A.handled = none → K.In g → Top p loose mean mg mb g → PG g → Own g s.heap news → A.depth + d < recursionLimit → A.units + u < cLine →
    (∀ v news' h' tk', Post v news' → Own g h' news' → Q v { s with heap := h', toks := tk' }) →
    wpAny (model prog w) A (call f args) Q E s

section
variable {prog : Program} {w : World} {K : Frag} {p : Program} {loose : List Str} {mean : ExcName → Option Value} {mg mb : Str → Option Value} {PG : Heap → Prop} {d u : Nat} {f : Value} {args : List Value} {news : List (Addr × Obj)} {Post : Value → List (Addr × Obj) → Prop}

theorem Tell.enter {fa : Addr} {name qual : Str} {params : Arguments} {body : List Stmt} {scope : Scope} {dV kV doc pm cdv ct oc : Value} {an od : Option Addr} {osl : Array (Option Value)} {binds : List (Str × Value)}
    (ho : K.lookup fa = some ⟨oc, od, .func (fnOf name qual params body scope dV kV doc pm an cdv ct), osl⟩) (hcd : codeIn K cdv qual = true)
    (hbind : ∀ s : Shared, BindsTo s (fnOf name qual params body scope dV kV doc pm an cdv ct) ⟨args, []⟩ binds) (hloc : ∀ y ∈ binds, scope.names.lookup y.1 = some .local)
    (hco : scope.isCoroutine = false) (hgen : scope.isGenerator = false) (hk : scope.kind = .function) (hcell : ∀ x ∈ scope.names, x.2 ≠ .cell)
    (h : ∀ (A : Around) (base g : Heap) (outer : List Env) (s : Shared) (L : Addr) (Q : Value → Shared → Prop), Below A base outer g → A.handled = none → K.In g → Top p loose mean mg mb g → PG g →
      Fr g L s.heap (kstB (fun _ => none) binds.reverse) → News g L s.heap news → (∀ q ∈ news, q.1 < L) → A.depth + d < recursionLimit → A.units + u < cLine →
      (∀ v news' h' tk', Post v news' → Own g h' news' → Q v { s with heap := h', toks := tk' }) →
      wpAny (model prog w) (A.deeper (envOf qual scope L fa cdv)) (execs body (envOf qual scope L fa cdv)) (fun fl s' => Q (match fl with | .ret v => v | _ => .none) s') (fun _ _ => False) s) :
    Tell prog w K p loose mean mg mb PG d u (.ref fa) args news Post := by
  intro A base g outer s Q E B hH X T hP O hd hu hret
  refine wpAny_call ?_
  have Xs : K.In s.heap := fun a o e => O.keep _ _ (X a o e)
  refine codeAny_call_def (fd := fnOf name qual params body scope dV kV doc pm an cdv ct) (body := body) (binds := binds) (Nat.lt_of_le_of_lt (Nat.le_add_right _ _) hd) (Xs _ _ ho) rfl (T.nolimit.keeps O.keep) (codeRec_of Xs hcd) rfl (hbind s) hcell hloc (fun h₁ hns hk₁ => ?_) hco hgen hk
  have F : Fr g s.heap.objs.size h₁ (kstB (fun _ => none) binds.reverse) := by
    rw [kstB_lookup]
    exact ⟨hns, fun b o e => hk₁ b o (O.keep b o e), O.size⟩
  have N : News g s.heap.objs.size h₁ news := fun q hq => ⟨hk₁ _ _ (O.mine q hq).1, Nat.ne_of_lt (Heap.lt_size (O.mine q hq).1), (O.mine q hq).2⟩
  have z := h A base g outer { s with heap := h₁, toks := s.toks + binds.length } s.heap.objs.size Q B hH X T hP F N (fun q hq => Heap.lt_size (O.mine q hq).1) hd hu (fun v news' h' tk' hp ho => hret v news' h' tk' hp ho)
  exact wpAny_mono z (fun fl s' hq => by cases fl <;> exact hq) fun _ _ e => e.elim

theorem hide_get {l : List Addr} {h : Heap} {b : Addr} {o : Obj} (e : (hideAll h l).get? b = some o) : h.get? b = some o ∧ b ∉ l := by
  refine ⟨of_hideAll _ e, fun q => ?_⟩
  rw [hideAll_none _ q] at e; cases e

/-- a call told, within a frame: sub is what the callee may change, rest what stays -/
theorem Tell.use {A₀ A : Around} {base g : Heap} {outer : List Env} {env : Env} {L : Addr} {m : Str → Option Value} {s : Shared} {sub rest led : List (Addr × Obj)} {Q E : Value → Shared → Prop}
    (S : Tell prog w K p loose mean mg mb PG d u f args sub Post)
    (B : Below A₀ base outer g) (hH : A.handled = none) (F : Fr g L s.heap m) (N : News g L s.heap led) (X : K.In g) (T : Top p loose mean mg mb g)
    (hA : A.frames = some (env :: outer)) (hf : env.frame = some L) (hke : env.scope.kind = .function)
    (hsub : ∀ q ∈ sub, q ∈ led) (hrest : ∀ q ∈ rest, q ∈ led) (hap : ∀ q ∈ rest, ∀ r ∈ sub, q.1 ≠ r.1)
    (hP : ∀ g', g.StaysIn g' → (∀ q ∈ rest, g'.get? q.1 = some q.2) → PG g')
    (hd : A.depth + d < recursionLimit) (hu : A.units + u < cLine)
    (ret : ∀ v news' h' tk', Post v news' → Fr g L h' m → News g L h' (news' ++ rest) → (∀ q ∈ news', ∀ r ∈ rest, q.1 ≠ r.1) → Q v { s with heap := h', toks := tk' }) :
    wpAny (model prog w) A (call f args) Q E s := by
  have NS : News g L s.heap sub := fun q hq => N q (hsub q hq)
  obtain ⟨FG, BG, st, _⟩ := groundX (R := fun _ _ => True) B F NS hA hf hke
  have nr : ∀ q ∈ rest, (hideAll s.heap (sub.map (·.1))).get? q.1 = some q.2 := fun q hq =>
    hideAll_get _ (N q (hrest q hq)).1 fun hm => by
      obtain ⟨r, hr, e⟩ := List.mem_map.mp hm
      exact hap q hq r hr e.symm
  refine S A base (hideAll s.heap (sub.map (·.1))) (env :: outer) s Q E BG hH (fun a o e => st _ _ (X a o e)) (T.keeps (fun b o e => st b o e)) (hP _ st nr)
    ⟨fun b o e => of_hideAll _ e, Nat.le_of_eq (hideAll_size _ _), fun q hq => ⟨(NS q hq).1, hideAll_none _ (List.mem_map_of_mem hq)⟩⟩ hd hu (fun v news' h' tk' hp O => ?_)
  obtain ⟨oL, es, ep, hL, r⟩ := FG.ns
  have gnone : ∀ q ∈ news', g.get? q.1 = none := fun q hq => by
    cases e : g.get? q.1 with
    | none => rfl
    | some o => have := st _ _ e; rw [(O.mine q hq).2] at this; cases this
  refine ret v news' h' tk' hp ⟨⟨oL, es, ep, O.keep _ _ hL, r⟩, fun b o e => O.keep _ _ (st _ _ e), F.above⟩ (fun q hq => ?_) (fun q hq r hr e => ?_)
  · rcases List.mem_append.mp hq with hq | hq
    · refine ⟨(O.mine q hq).1, fun e => ?_, gnone q hq⟩
      have := (O.mine q hq).2; rw [e, hL] at this; cases this
    · exact ⟨O.keep _ _ (nr q hq), (N q (hrest q hq)).2⟩
  · have := (O.mine q hq).2; rw [e, nr r hr] at this; cases this
end

noncomputable def VarsIn (m : Str → Option Value) (ps : List (Str × Value)) : Prop := ∀ p ∈ ps, m p.1 = some p.2
/-- a while by a state: vars are the names that are told, Led the ledger -/
noncomputable def WPost {σ : Type} (h₀ : Heap) (L : Addr) (s : Shared) (vars : σ → List (Str × Value)) (Led : σ → List (Addr × Obj)) (P : σ → Prop) (μ : σ → Nat) (Q : Flow → Shared → Prop) (c : σ) (f : Flow) (s₂ : Shared) : Prop :=
  match f with
  | .ret v => Q (.ret v) s₂
  | .brk => Q .next s₂
  | _ => ∃ (c' : σ) (h' : Heap) (tk : Nat) (m' : Str → Option Value) (news' : List (Addr × Obj)), s₂ = { s with heap := h', toks := tk } ∧ Fr h₀ L h' m' ∧ News h₀ L h' news' ∧ (∀ p ∈ Led c', p ∈ news') ∧ VarsIn m' (vars c') ∧ P c' ∧ μ c' < μ c

section
variable {prog : Program} {w : World} {A : Around} {Q : Flow → Shared → Prop} {s : Shared} {env : Env} {h₀ : Heap} {L : Addr}
theorem fr_kstB {h : Heap} {ps : List (Str × Value)} {m : Str → Option Value} (h1 : ∀ p ∈ ps, m p.1 = some p.2) (F : Fr h₀ L h m) : Fr h₀ L h (kstB m ps) := by
  have em : kstB m ps = m := by funext y; exact kstB_eq h1 fun _ => rfl
  rw [em]; exact F
theorem while_by {σ : Type} {test : Expr} {body : List Stmt} {pos : Pos} {m₀ : Str → Option Value} {news₀ : List (Addr × Obj)} (vars : σ → List (Str × Value)) (Led : σ → List (Addr × Obj)) (P : σ → Prop) (μ : σ → Nat) (c₀ : σ)
    (F : Fr h₀ L s.heap m₀) (N : News h₀ L s.heap news₀) (hl : ∀ p ∈ Led c₀, p ∈ news₀) (hk : VarsIn m₀ (vars c₀)) (hp : P c₀)
    (turn : ∀ (c : σ) (v : Str → Option Value) h tk, P c → Fr h₀ L h (kstB v (vars c)) → News h₀ L h (Led c) →
      wpAny (model prog w) A (isTrue test env (eval test env)) (fun b s₂ =>
        if b = true then wpAny (model prog w) A (execs body env) (WPost h₀ L s vars Led P μ Q c) (fun _ _ => False) s₂ else Q .next s₂) (fun _ _ => False) { s with heap := h, toks := tk }) :
    wpAny (model prog w) A (exec (.While test body [] pos) env) Q (fun _ _ => False) s := by
  refine While_inv2 (fun n m nx => ∃ c : σ, nx = Led c ∧ μ c = n ∧ (∀ p ∈ vars c, m p.1 = some p.2) ∧ P c) (n₀ := μ c₀) (news := Led c₀) F (fun p hp => N p (hl p hp)) ⟨c₀, rfl, rfl, hk, hp⟩ ?_ PassesOwn.never
  rintro n m₁ nx h tk F₁ N₁ ⟨c, rfl, rfl, h1, hp'⟩
  refine wpAny_mono (turn c m₁ h tk hp' (fr_kstB h1 F₁) N₁) (fun b s₂ hb => ?_) fun _ _ x => x
  cases b with
  | false => simpa using hb
  | true =>
    simp only [if_true] at hb ⊢
    refine wpAny_mono hb (fun f s₃ q => ?_) fun _ _ x => x
    cases f with
    | ret v => exact q
    | brk => exact q
    | next =>
      obtain ⟨c', h', tk', m', news', rfl, F', N', hn, hk9, hp9, hm9⟩ := q
      exact ⟨h', tk', m', Led c', μ c', rfl, F', fun p hp => N' p (hn p hp), hm9, c', rfl, rfl, hk9, hp9⟩
    | cont =>
      obtain ⟨c', h', tk', m', news', rfl, F', N', hn, hk9, hp9, hm9⟩ := q
      exact ⟨h', tk', m', Led c', μ c', rfl, F', fun p hp => N' p (hn p hp), hm9, c', rfl, rfl, hk9, hp9⟩
end
end Mine
namespace Mine
section
variable {σ : Type} {h₀ : Heap} {L : Addr} {s : Shared} {vars : σ → List (Str × Value)} {Led : σ → List (Addr × Obj)} {P : σ → Prop} {μ : σ → Nat} {Q : Flow → Shared → Prop} {c : σ} {h' : Heap} {tk : Nat} {m' : Str → Option Value} {news' : List (Addr × Obj)}
theorem WPost.cont (c' : σ) (F : Fr h₀ L h' m') (N : News h₀ L h' news') (hl : ∀ p ∈ Led c', p ∈ news') (hk : VarsIn m' (vars c')) (hp : P c') (hm : μ c' < μ c) : WPost h₀ L s vars Led P μ Q c .cont { s with heap := h', toks := tk } :=
  ⟨c', h', tk, m', news', rfl, F, N, hl, hk, hp, hm⟩
theorem WPost.next (c' : σ) (F : Fr h₀ L h' m') (N : News h₀ L h' news') (hl : ∀ p ∈ Led c', p ∈ news') (hk : VarsIn m' (vars c')) (hp : P c') (hm : μ c' < μ c) : WPost h₀ L s vars Led P μ Q c .next { s with heap := h', toks := tk } :=
  ⟨c', h', tk, m', news', rfl, F, N, hl, hk, hp, hm⟩
theorem WPost.brk {s₂ : Shared} (h : Q .next s₂) : WPost h₀ L s vars Led P μ Q c .brk s₂ := h
noncomputable def VarIs (m : Str → Option Value) (x : Str) (v : Value) : Prop := m x = some v
theorem VarIs.of {m : Str → Option Value} {x : Str} {v : Value} (h : m x = some v) : VarIs m x v := h
theorem vars_cons {m : Str → Option Value} {x : Str} {v : Value} {r : List (Str × Value)} (h : VarIs m x v) (hr : VarsIn m r) : VarsIn m ((x, v) :: r) := fun p hp => by
  rcases List.mem_cons.mp hp with rfl | hp
  · exact h
  · exact hr p hp
theorem vars_nil {m : Str → Option Value} : VarsIn m [] := fun _ h => nomatch h
end
section
variable {prog : Program} {w : World} {A : Around} {E : Value → Shared → Prop} {s : Shared} {Q : Value → Shared → Prop}
theorem shr_one {x : Int} {t u : Tok} (h : ∀ tk, Q (.int (x / 2) tk) { s with toks := tk + 1 }) : wpAny (model prog w) A (binaryOp .RShift (.int x t) (.int 1 u)) Q E s := by
  refine rshift_int (by decide) ?_
  rw [show (2 : Int) ^ Int.toNat 1 = 2 from rfl, Int.fdiv_eq_ediv_of_nonneg _ (by decide)]
  exact h _
end
section
variable {M : Model} {A : Around} {E : Value → Shared → Prop} {s : Shared} {h₀ : Heap} {L a : Addr} {m : Str → Option Value} {cn : Str} {cs : Scope} {ccd : Value} {cl : List (Str × Addr)} {x : Str} {Q : Unit → Shared → Prop} {news : List (Addr × Obj)}
/-- a store of an int: the tokens are forgotten -/
theorem storeI {i : Int} {t : Tok} (F : Fr h₀ L s.heap m) (N : News h₀ L s.heap news)
    (h : ∀ h' t' tk', Fr h₀ L h' (fun y => if y = x then some (.int i t') else m y) → News h₀ L h' news → Q () { s with heap := h', toks := tk' })
    (hk : cs.kind = .function := by rfl) (hx : (envX cn cs L a ccd cl).kindOf x = some .local := by rfl) : wpAny M A (storeName (envX cn cs L a ccd cl) x (.int i t)) Q E s :=
  storeX_L F N (fun h' F' N' => h h' t _ F' N') hk hx
theorem storeS {i : Str} {t : Tok} (F : Fr h₀ L s.heap m) (N : News h₀ L s.heap news)
    (h : ∀ h' t' tk', Fr h₀ L h' (fun y => if y = x then some (.str i t') else m y) → News h₀ L h' news → Q () { s with heap := h', toks := tk' })
    (hk : cs.kind = .function := by rfl) (hx : (envX cn cs L a ccd cl).kindOf x = some .local := by rfl) : wpAny M A (storeName (envX cn cs L a ccd cl) x (.str i t)) Q E s :=
  storeX_L F N (fun h' F' N' => h h' t _ F' N') hk hx
end
theorem var_int {m : Str → Option Value} {x : Str} {i j : Int} {t : Tok} (h : VarIs m x (.int i t)) (e : i = j) : VarIs m x (.int j t) := e ▸ h
theorem tn {k : Int} {i : Nat} (h : k = i) : k.toNat = i := by omega
end Mine
-- B1
namespace Mine
section
variable {prog : Program} {w : World} {A : Around} {E : Value → Shared → Prop} {s : Shared} {h₀ : Heap} {L D : Addr} {m : Str → Option Value} {news news' : List (Addr × Obj)} {vs : List Value} {n : Nat} {k : Int} {t u : Tok}
theorem item_g {value slice : PySem.Expr} {Q : Value → Shared → Prop} (N : News h₀ L s.heap news) (hm : (D, listOf vs.toArray n) ∈ news) (h0 : 0 ≤ k) (h1 : k < vs.length) (hfit : k < 2 ^ 63) (h : ∀ x, vs[k.toNat]? = some x → Q x s)
    (hs : subscripted slice false (.ref D) (.int k u) = operate [.ref D, .int k u] (getItem (.ref D) (.int k u)) := by with_unfolding_all rfl) :
    wpAny (model prog w) A (subscriptTail value slice (.ref D) (.int k u)) Q E s := by
  have hl : s.heap.IsList D vs.toArray := PySem.IsL.isList (n := n) (N _ hm).1
  have hi : k.toNat < vs.length := by omega
  exact tail_any hl.typeIs slot_list_getitem.lookup (wpAny_getItem_list hl h0 hfit (by simpa using List.getElem?_eq_getElem hi) (h _ (List.getElem?_eq_getElem hi))) hs
theorem set_g {v : Value} {Q : Unit → Shared → Prop} (F : Fr h₀ L s.heap m) (N : News h₀ L s.heap news) (U : Upd D (listOf vs.toArray n) (listOf (vs.set k.toNat v).toArray n) news news') (h0 : 0 ≤ k) (h1 : k < vs.length) (hfit : k < 2 ^ 63)
    (h : ∀ h', Fr h₀ L h' m → News h₀ L h' news' → Q () { s with heap := h' }) :
    wpAny (model prog w) A (setItem (.ref D) (.int k t) v) Q E s := by
  obtain ⟨pre, post, rfl, rfl, a, b⟩ := U.split
  have z := N (D, listOf vs.toArray n) (List.mem_append.mpr (.inr (.head _)))
  have hs : vs.toArray.size = vs.length := List.size_toArray ..
  refine ki_setAt z.1 h0 hfit (by omega) (h _ (F.change (Heap.SameBut.update ..) z.2.1 z.2.2) (ki_turn _ N a b ?_ ?_))
  · show vs.toArray.setIfInBounds k.toNat v = (vs.set k.toNat v).toArray
    apply Array.toList_inj.mp
    simp
  · simp
end
section
variable {prog : Program} {w : World} {A : Around} {E : Value → Shared → Prop} {s : Shared} {h₀ : Heap} {L D : Addr} {m : Str → Option Value} {news news' : List (Addr × Obj)} {vs : List Value} {n : Nat}
theorem len_g {Q : Value → Shared → Prop} (N : News h₀ L s.heap news) (hm : (D, listOf vs.toArray n) ∈ news) (hfit : vs.length ≤ 1000000) (h : ∀ t tk, Q (.int (vs.length : Int) t) { s with toks := tk }) :
    wpAny (model prog w) A (call (.builtin "len") [.ref D]) Q E s := by
  have hl : s.heap.IsList D vs.toArray := PySem.IsL.isList (n := n) (N _ hm).1
  have e : vs.toArray.size = vs.length := List.size_toArray ..
  exact len_list hl (by rw [e]; omega) (by rw [e]; exact h _ _)
theorem truthy_g {Q : Bool → Shared → Prop} (N : News h₀ L s.heap news) (hm : (D, listOf vs.toArray n) ∈ news) (hfit : vs.length ≤ 1000000) (h : ∀ tk, Q (decide (0 < vs.length)) { s with toks := tk }) :
    wpAny (model prog w) A (truthy (.ref D)) Q E s := by
  have hl : s.heap.IsList D vs.toArray := PySem.IsL.isList (n := n) (N _ hm).1
  have e : vs.toArray.size = vs.length := List.size_toArray ..
  have e2 : (!vs.toArray.isEmpty) = decide (0 < vs.length) := by cases vs <;> simp
  exact wpAny_truthy_list hl (by rw [e]; omega) (by rw [e2]; exact h _)
theorem last_snoc (y : Value) : ∀ p : List Value, kl_last (p ++ [y]) = some (p, y)
  | [] => rfl
  | x :: r => by
    rw [List.cons_append, kl_last, last_snoc y r]
theorem pop_g {p : List Value} {y : Value} {Q : Value → Shared → Prop} (F : Fr h₀ L s.heap m) (N : News h₀ L s.heap news) (U : Upd D (listOf (p ++ [y]).toArray n) (listOf p.toArray (n + 1)) news news') (hfit : p.length < 1000000)
    (h : ∀ h', Fr h₀ L h' m → News h₀ L h' news' → Q y { s with heap := h' }) : wpAny (model prog w) A (call (.builtin "list.pop") [.ref D]) Q E s :=
  kl_pop F N (last_snoc y p) U (by show (p ++ [y]).length ≤ sizeLine; rw [List.length_append, sizeLine_eq]; show p.length + 1 ≤ _; omega) h
end
/-- the items that P tells are compared by lt, wherever g stays -/
noncomputable def Cmp (prog : Program) (w : World) (lt : Value → Value → Bool) (P : Value → Prop) (g : Heap) : Prop :=
  ∀ (x y : Value), P x → P y → ∀ (A : Around) (s : Shared) (Q E : Value → Shared → Prop), (∀ b o, g.get? b = some o → s.heap.get? b = some o) → A.units + 8 < cLine →
    (∀ tk, Q (.bool (lt x y)) { s with toks := tk }) → wpAny (model prog w) A (compareOp .Lt x y) Q E s
theorem Cmp.keeps {prog : Program} {w : World} {lt : Value → Value → Bool} {P : Value → Prop} {g g' : Heap} (c : Cmp prog w lt P g) (k : ∀ b o, g.get? b = some o → g'.get? b = some o) : Cmp prog w lt P g' :=
  fun x y hx hy A s Q E hk hu h => c x y hx hy A s Q E (fun b o e => hk b o (k b o e)) hu h
theorem cmp_g {prog : Program} {w : World} {A : Around} {E : Value → Shared → Prop} {s : Shared} {g : Heap} {L : Addr} {m : Str → Option Value} {lt : Value → Value → Bool} {P : Value → Prop} {x y : Value} {Q : Value → Shared → Prop}
    (C : Cmp prog w lt P g) (F : Fr g L s.heap m) (hx : P x) (hy : P y) (hu : A.units + 8 < cLine) (h : ∀ tk, Q (.bool (lt x y)) { s with toks := tk }) :
    wpAny (model prog w) A (compareOp .Lt x y) Q E s := C x y hx hy A s Q E F.keep hu h

/-- heapq's way down to the root -/
noncomputable def sdn {α : Type} (lt : α → α → Bool) (new : α) (start : Nat) : Nat → List α → Nat → List α
  | 0, xs, pos => xs.set pos new
  | f + 1, xs, pos => if start < pos then (if lt new (xs.getD ((pos - 1) / 2) new) then sdn lt new start f (xs.set pos (xs.getD ((pos - 1) / 2) new)) ((pos - 1) / 2) else xs.set pos new) else xs.set pos new
theorem sdn_fuel {α : Type} (lt : α → α → Bool) (new : α) (start : Nat) : ∀ (f f' : Nat) (xs : List α) (pos : Nat), pos ≤ f → pos ≤ f' → sdn lt new start f xs pos = sdn lt new start f' xs pos
  | 0, 0, xs, pos, _, _ => rfl
  | 0, f' + 1, xs, pos, h, _ => by
    have : pos = 0 := by omega
    subst this
    simp [sdn]
  | f + 1, 0, xs, pos, _, h => by
    have : pos = 0 := by omega
    subst this
    simp [sdn]
  | f + 1, f' + 1, xs, pos, h, h' => by
    simp only [sdn]
    by_cases hs : start < pos
    · simp only [hs, if_true]
      by_cases hl : lt new (xs.getD ((pos - 1) / 2) new) = true
      · simp only [hl, if_true]
        exact sdn_fuel lt new start f f' _ _ (by omega) (by omega)
      · simp only [hl]; rfl
    · simp only [hs, if_false]
theorem sdn_step {α : Type} (lt : α → α → Bool) (new : α) (start : Nat) {xs : List α} {pos : Nat} {x : α} (h : start < pos) (hx : xs[(pos - 1) / 2]? = some x) (hl : lt new x = true) : sdn lt new start pos xs pos = sdn lt new start ((pos - 1) / 2) (xs.set pos x) ((pos - 1) / 2) := by
  obtain ⟨q, rfl⟩ : ∃ q, pos = q + 1 := ⟨pos - 1, by omega⟩
  rw [sdn]
  have e : xs.getD ((q + 1 - 1) / 2) new = x := by rw [List.getD_eq_getElem?_getD, hx]; rfl
  rw [if_pos h, e, if_pos hl]
  exact sdn_fuel lt new start _ _ _ _ (by omega) (by omega)
theorem sdn_stop {α : Type} (lt : α → α → Bool) (new : α) (start : Nat) {xs : List α} {pos : Nat} {x : α} (h : start < pos) (hx : xs[(pos - 1) / 2]? = some x) (hl : lt new x = false) : sdn lt new start pos xs pos = xs.set pos new := by
  obtain ⟨q, rfl⟩ : ∃ q, pos = q + 1 := ⟨pos - 1, by omega⟩
  rw [sdn]
  have e : xs.getD ((q + 1 - 1) / 2) new = x := by rw [List.getD_eq_getElem?_getD, hx]; rfl
  rw [if_pos h, e, hl]
  rfl
theorem sdn_top {α : Type} (lt : α → α → Bool) (new : α) (start : Nat) {xs : List α} {pos : Nat} (h : ¬ start < pos) : sdn lt new start pos xs pos = xs.set pos new := by
  cases pos with
  | zero => rfl
  | succ q => rw [sdn, if_neg h]
end Mine
namespace Mine
/-- the greater road down: the child that goes up -/
noncomputable def kid {α : Type} (lt : α → α → Bool) (d : α) (xs : List α) (c : Nat) : Nat := if c + 1 < xs.length then (if lt (xs.getD c d) (xs.getD (c + 1) d) then c else c + 1) else c
noncomputable def sup {α : Type} (lt : α → α → Bool) (new : α) (start : Nat) : Nat → List α → Nat → List α
  | 0, xs, pos => sdn lt new start pos (xs.set pos new) pos
  | f + 1, xs, pos => if 2 * pos + 1 < xs.length then sup lt new start f (xs.set pos (xs.getD (kid lt new xs (2 * pos + 1)) new)) (kid lt new xs (2 * pos + 1)) else sdn lt new start pos (xs.set pos new) pos
theorem kid_ge {α : Type} (lt : α → α → Bool) (d : α) (xs : List α) (c : Nat) : c ≤ kid lt d xs c := by
  unfold kid; split <;> (try split) <;> omega
theorem kid_lt {α : Type} (lt : α → α → Bool) (d : α) (xs : List α) (c : Nat) (h : c < xs.length) : kid lt d xs c < xs.length := by
  unfold kid; split <;> (try split) <;> omega
theorem sup_fuel {α : Type} (lt : α → α → Bool) (new : α) (start : Nat) : ∀ (f f' : Nat) (xs : List α) (pos : Nat), xs.length ≤ f + pos → xs.length ≤ f' + pos → sup lt new start f xs pos = sup lt new start f' xs pos
  | 0, 0, xs, pos, _, _ => rfl
  | 0, f' + 1, xs, pos, h, _ => by rw [sup, sup, if_neg (by omega)]
  | f + 1, 0, xs, pos, _, h => by rw [sup, sup, if_neg (by omega)]
  | f + 1, f' + 1, xs, pos, h, h' => by
    rw [sup, sup]
    have := kid_ge lt new xs (2 * pos + 1)
    split
    · exact sup_fuel lt new start f f' _ _ (by rw [List.length_set]; omega) (by rw [List.length_set]; omega)
    · rfl
theorem sup_end {α : Type} (lt : α → α → Bool) (new : α) (start : Nat) {xs : List α} {pos : Nat} (h : ¬ 2 * pos + 1 < xs.length) : sup lt new start xs.length xs pos = sdn lt new start pos (xs.set pos new) pos := by
  cases e : xs.length with
  | zero => rfl
  | succ f => rw [sup, if_neg h]
theorem sup_step {α : Type} (lt : α → α → Bool) (new : α) (start : Nat) {xs : List α} {pos c : Nat} {x : α} (h : 2 * pos + 1 < xs.length) (hc : kid lt new xs (2 * pos + 1) = c) (hx : xs[c]? = some x) :
    sup lt new start xs.length xs pos = sup lt new start (xs.set pos x).length (xs.set pos x) c := by
  have e : xs.getD c new = x := by rw [List.getD_eq_getElem?_getD, hx]; rfl
  have hk := kid_ge lt new xs (2 * pos + 1)
  rw [List.length_set]
  obtain ⟨f, hf⟩ : ∃ f, xs.length = f + 1 := ⟨xs.length - 1, by omega⟩
  rw [hf, sup, if_pos h, hc, e]
  exact sup_fuel _ _ _ _ _ _ _ (by rw [List.length_set]; omega) (by rw [List.length_set]; omega)
theorem kid_right {α : Type} {lt : α → α → Bool} {d : α} {xs : List α} {c : Nat} {x y : α} (hx : xs[c]? = some x) (hy : xs[c + 1]? = some y) (h : lt x y = false) : kid lt d xs c = c + 1 := by
  have h1 := (List.getElem?_eq_some_iff.mp hy).1
  have ex : xs.getD c d = x := by rw [List.getD_eq_getElem?_getD, hx]; rfl
  have ey : xs.getD (c + 1) d = y := by rw [List.getD_eq_getElem?_getD, hy]; rfl
  rw [kid, if_pos h1, ex, ey, h]; rfl
theorem kid_left {α : Type} {lt : α → α → Bool} {d : α} {xs : List α} {c : Nat} {x y : α} (hx : xs[c]? = some x) (hy : xs[c + 1]? = some y) (h : lt x y = true) : kid lt d xs c = c := by
  have h1 := (List.getElem?_eq_some_iff.mp hy).1
  have ex : xs.getD c d = x := by rw [List.getD_eq_getElem?_getD, hx]; rfl
  have ey : xs.getD (c + 1) d = y := by rw [List.getD_eq_getElem?_getD, hy]; rfl
  rw [kid, if_pos h1, ex, ey, h]; rfl
theorem kid_last {α : Type} {lt : α → α → Bool} {d : α} {xs : List α} {c : Nat} (h : ¬ c + 1 < xs.length) : kid lt d xs c = c := by
  rw [kid, if_neg h]
end Mine
namespace Mine
section
variable {prog : Program} {w : World} {A : Around} {E : Value → Shared → Prop} {s : Shared} {h₀ : Heap} {L D : Addr} {m : Str → Option Value} {news news' : List (Addr × Obj)} {vs : List Value} {n : Nat}
theorem append_g {v : Value} {Q : Value → Shared → Prop} (F : Fr h₀ L s.heap m) (N : News h₀ L s.heap news) (U : Upd D (listOf vs.toArray n) (listOf (vs ++ [v]).toArray (n + 1)) news news') (hfit : vs.length ≤ 1000000)
    (h : ∀ h', Fr h₀ L h' m → News h₀ L h' news' → Q .none { s with heap := h' }) : wpAny (model prog w) A (call (.builtin "list.append") [.ref D, v]) Q E s :=
  append_K F N (by rw [List.push_toArray]; exact U) h (by rw [List.size_toArray, sizeLine_eq]; omega)
end
noncomputable def hpush {α : Type} (lt : α → α → Bool) (v : α) (vs : List α) : List α := sdn lt v 0 vs.length (vs ++ [v]) vs.length
noncomputable def hpop {α : Type} (lt : α → α → Bool) (p : List α) (y : α) : α × List α := match p with
  | [] => (y, [])
  | x :: q => (x, sup lt y 0 (y :: q).length (y :: q) 0)
end Mine
-- B2
namespace Mine
section
variable {prog : Program} {w : World} {K : Frag} {p : Program} {loose : List Str} {mean : ExcName → Option Value} {mg mb : Str → Option Value} {PG : Heap → Prop} {d u : Nat} {f : Value} {args : List Value} {news : List (Addr × Obj)} {Post : Value → List (Addr × Obj) → Prop}
/-- entry of a def with cells -/
theorem Tell.enterC {fa : Addr} {name qual : Str} {params : Arguments} {body : List Stmt} {scope : Scope} {dV kV doc pm cdv ct oc : Value} {an od : Option Addr} {osl : Array (Option Value)} {binds : List (Str × Value)}
    (ho : K.lookup fa = some ⟨oc, od, .func (fnX name qual params body scope [] dV kV doc pm an cdv ct), osl⟩) (hcd : codeIn K cdv qual = true)
    (hbind : ∀ s : Shared, BindsTo s (fnX name qual params body scope [] dV kV doc pm an cdv ct) ⟨args, []⟩ binds)
    (hkind : (binds.all fun y => scope.names.lookup y.1 == some .local || scope.names.lookup y.1 == some .cell) = true) (hnd : ((cellsFrom 0 scope.names []).map (·.1)).Nodup)
    (hco : scope.isCoroutine = false) (hgen : scope.isGenerator = false) (hk : scope.kind = .function)
    (h : ∀ (A : Around) (base g : Heap) (outer : List Env) (s : Shared) (L : Addr) (cells : List (Addr × Obj)) (Q : Value → Shared → Prop), Below A base outer g → A.handled = none → K.In g → Top p loose mean mg mb g → PG g →
      Fr g L s.heap (bindL (envOfC qual scope L fa cdv).kindOf binds fun _ => none) → News g L s.heap (cells ++ news) → CellsAre (bindC (envOfC qual scope L fa cdv).kindOf binds fun _ => none) (cellsFrom (L + 1) scope.names []) cells →
      (∀ q ∈ news, q.1 < L) → A.depth + d < recursionLimit → A.units + u < cLine →
      (∀ v news' h' tk', Post v news' → Own g h' news' → Q v { s with heap := h', toks := tk' }) →
      wpAny (model prog w) (A.deeper (envOfC qual scope L fa cdv)) (execs body (envOfC qual scope L fa cdv)) (fun fl s' => Q (match fl with | .ret v => v | _ => .none) s') (fun _ _ => False) s) :
    Tell prog w K p loose mean mg mb PG d u (.ref fa) args news Post := by
  intro A base g outer s Q E B hH X T hP O hd hu hret
  refine wpAny_call ?_
  have Xs : K.In s.heap := fun a o e => O.keep _ _ (X a o e)
  suffices H : ∀ R : Result → Shared → Prop, (∀ v s', Q v s' → R (.ok (.ret v)) s') → codeAny (model prog w) A (.call (.ref fa) ⟨args, []⟩) R s from H _ fun _ _ h => h
  intro R hR
  refine codeAny_call_function (Nat.lt_of_le_of_lt (Nat.le_add_right _ _) hd) (Xs _ _ ho) rfl hco hgen rfl (codeRec_of Xs hcd) ?_
  refine hbind s _ _ _ _ ?_
  refine wpAny_newFunctionEnv_cells hk (kindsX hkind _) fun env' he s' x => ?_
  subst he
  refine ⟨(T.nolimit.keeps O.keep).keeps x.toInCall.keep, codeAny_func ?_⟩
  obtain ⟨h₁, tk, rfl, _⟩ := x.done
  have hk₁ := x.toInCall.keep
  obtain ⟨cells, NC, Y⟩ := Cl.news (h₀ := s.heap) (Nat.le_refl _) fun n c hm => ⟨x.cell n c (lookup_of_mem_nodup (cellsFrom_names scope.names 0 (s.heap.objs.size + 1) [] [] rfl ▸ hnd) hm), x.above n c hm⟩
  have F : Fr g s.heap.objs.size h₁ (bindL (envOfC qual scope s.heap.objs.size fa cdv).kindOf binds fun _ => none) := ⟨x.toInCall.ns, fun b o e => hk₁ b o (O.keep b o e), O.size⟩
  have N : News g s.heap.objs.size h₁ (cells ++ news) := fun q hq => by
    rcases List.mem_append.mp hq with hq | hq
    · refine ⟨(NC q hq).1, (NC q hq).2.1, ?_⟩
      cases e : g.get? q.1 with
      | none => rfl
      | some o => have := O.keep _ _ e; rw [(NC q hq).2.2] at this; cases this
    · exact ⟨hk₁ _ _ (O.mine q hq).1, Nat.ne_of_lt (Heap.lt_size (O.mine q hq).1), (O.mine q hq).2⟩
  have z := h A base g outer { s with heap := h₁, toks := tk } s.heap.objs.size cells Q B hH X T hP F N Y (fun q hq => Heap.lt_size (O.mine q hq).1) hd hu (fun v news' h' tk' hp ho => hret v news' h' tk' hp ho)
  exact wpAny_mono z (fun fl s' hq => hR _ _ hq) fun _ _ e => e.elim

/-- entry of a def that g bears, closing over cells -/
theorem Tell.enterX {fa : Addr} {name qual : Str} {params : Arguments} {body : List Stmt} {scope : Scope} {cl : List (Str × Addr)} {dV kV doc pm cdv ct : Value} {an : Option Addr} {binds : List (Str × Value)}
    (ho : ∀ g, PG g → ∃ fo, g.get? fa = some fo ∧ fo.data = .func (fnX name qual params body scope cl dV kV doc pm an cdv ct) ∧ g.CodeRec cdv qual)
    (hbind : ∀ s : Shared, BindsTo s (fnX name qual params body scope cl dV kV doc pm an cdv ct) ⟨args, []⟩ binds) (hloc : ∀ y ∈ binds, scope.names.lookup y.1 = some .local)
    (hco : scope.isCoroutine = false) (hgen : scope.isGenerator = false) (hk : scope.kind = .function) (hcell : ∀ x ∈ scope.names, x.2 ≠ .cell)
    (h : ∀ (A : Around) (base g : Heap) (outer : List Env) (s : Shared) (L : Addr) (Q : Value → Shared → Prop), Below A base outer g → A.handled = none → K.In g → Top p loose mean mg mb g → PG g →
      Fr g L s.heap (kstB (fun _ => none) binds.reverse) → News g L s.heap news → (∀ q ∈ news, q.1 < L) → A.depth + d < recursionLimit → A.units + u < cLine →
      (∀ v news' h' tk', Post v news' → Own g h' news' → Q v { s with heap := h', toks := tk' }) →
      wpAny (model prog w) (A.deeper (envX qual scope L fa cdv cl)) (execs body (envX qual scope L fa cdv cl)) (fun fl s' => Q (match fl with | .ret v => v | _ => .none) s') (fun _ _ => False) s) :
    Tell prog w K p loose mean mg mb PG d u (.ref fa) args news Post := by
  intro A base g outer s Q E B hH X T hP O hd hu hret
  refine wpAny_call ?_
  obtain ⟨fo, hfo, hfd, hcr⟩ := ho g hP
  refine codeAny_call_def (fd := fnX name qual params body scope cl dV kV doc pm an cdv ct) (body := body) (binds := binds) (Nat.lt_of_le_of_lt (Nat.le_add_right _ _) hd) (O.keep _ _ hfo) hfd (T.nolimit.keeps O.keep) (hcr.keeps O.keep) rfl (hbind s) hcell hloc (fun h₁ hns hk₁ => ?_) hco hgen hk
  have F : Fr g s.heap.objs.size h₁ (kstB (fun _ => none) binds.reverse) := by
    rw [kstB_lookup]
    exact ⟨hns, fun b o e => hk₁ b o (O.keep b o e), O.size⟩
  have N : News g s.heap.objs.size h₁ news := fun q hq => ⟨hk₁ _ _ (O.mine q hq).1, Nat.ne_of_lt (Heap.lt_size (O.mine q hq).1), (O.mine q hq).2⟩
  have z := h A base g outer { s with heap := h₁, toks := s.toks + binds.length } s.heap.objs.size Q B hH X T hP F N (fun q hq => Heap.lt_size (O.mine q hq).1) hd hu (fun v news' h' tk' hp ho => hret v news' h' tk' hp ho)
  exact wpAny_mono z (fun fl s' hq => by cases fl <;> exact hq) fun _ _ e => e.elim
end
/-- a cell that g bears -/
noncomputable def CellIs (g : Heap) (c : Addr) (v : Value) : Prop := ∃ o, g.get? c = some o ∧ o.data = .cell (some v)
theorem nameX_G {M : Model} {A : Around} {E : Value → Shared → Prop} {s : Shared} {h₀ : Heap} {L a : Addr} {m : Str → Option Value} {cn : Str} {cs : Scope} {ccd : Value} {cl : List (Str × Addr)} {x : Str} {pos : Pos} {v : Value} {Q : Value → Shared → Prop} {c : Addr}
    (F : Fr h₀ L s.heap m) (hc : cl.lookup x = some c) (hg : CellIs h₀ c v) (h : Q v s)
    (hk : cs.kind = .function := by rfl) (hx : (envX cn cs L a ccd cl).kindOf x = some .free := by rfl) (hb : (x == ("__debug__" : Str)) = false := by decide) (hn : (x == ("__classdict__" : Str)) = false := by decide) :
    wpAny M A (eval (.Name x pos) (envX cn cs L a ccd cl)) Q E s := by
  obtain ⟨o, ho, hd⟩ := hg
  exact wpAny_Name (wpAny_loadName_free hk hx hc ⟨o, F.keep _ _ ho, hd⟩ h hn) hb

/-- k figures of x to the base 2^n, the lowest first -/
noncomputable def digs (n : Nat) : Nat → Nat → List Int
  | _, 0 => []
  | x, k + 1 => ((x % 2 ^ n : Nat) : Int) :: digs n (x / 2 ^ n) k
theorem digs_length (n : Nat) : ∀ k x, (digs n x k).length = k
  | 0, _ => rfl
  | k + 1, x => by rw [digs, List.length_cons, digs_length n k]
theorem digs_split (n : Nat) : ∀ a b x, digs n x (a + b) = digs n (x % 2 ^ (a * n)) a ++ digs n (x / 2 ^ (a * n)) b
  | 0, b, x => by simp [digs]
  | a + 1, b, x => by
    have e : a + 1 + b = (a + b) + 1 := by omega
    rw [e, digs, digs, digs_split n a b, List.cons_append]
    have p : 2 ^ ((a + 1) * n) = 2 ^ n * 2 ^ (a * n) := by rw [← Nat.pow_add]; congr 1; rw [Nat.succ_mul]; omega
    have h1 : x % 2 ^ ((a + 1) * n) % 2 ^ n = x % 2 ^ n := by rw [p]; exact Nat.mod_mul_right_mod x _ _
    have h2 : x % 2 ^ ((a + 1) * n) / 2 ^ n = x / 2 ^ n % 2 ^ (a * n) := by rw [p]; exact Nat.mod_mul_right_div_self x _ _
    have h3 : x / 2 ^ n / 2 ^ (a * n) = x / 2 ^ ((a + 1) * n) := by rw [p, Nat.div_div_eq_div_mul]
    rw [h1, h2, h3]
theorem digs_one (n x : Nat) (h : x < 2 ^ n) : digs n x 1 = [(x : Int)] := by
  rw [digs, digs, Nat.mod_eq_of_lt h]
end Mine
namespace Mine
section
variable {prog : Program} {w : World} {A : Around} {E : Value → Shared → Prop} {s : Shared} {Q : Value → Shared → Prop}
theorem shr_nat {x k : Nat} {t u : Tok} (h : ∀ tk, Q (.int ((x / 2 ^ k : Nat) : Int) tk) { s with toks := tk + 1 }) : wpAny (model prog w) A (binaryOp .RShift (.int x t) (.int k u)) Q E s := by
  refine rshift_int (Int.natCast_nonneg _) ?_
  have e : (x : Int).fdiv (2 ^ (k : Int).toNat) = ((x / 2 ^ k : Nat) : Int) := by
    rw [Int.toNat_natCast, Int.fdiv_eq_ediv_of_nonneg _ (by exact_mod_cast Nat.zero_le _)]
    push_cast; rfl
  rw [e]; exact h _
theorem shl_nat {x k : Nat} {t u : Tok} (hx : x < 2 ^ 64) (hk : k ≤ 1000000) (h : ∀ tk, Q (.int ((x * 2 ^ k : Nat) : Int) tk) { s with toks := tk + 1 }) : wpAny (model prog w) A (binaryOp .LShift (.int x t) (.int k u)) Q E s := by
  refine lshift_int_small (Int.natCast_nonneg _) (by omega) (by rw [Int.natAbs_natCast]; exact hx) ?_
  have e : (x : Int) * 2 ^ (k : Int).toNat = ((x * 2 ^ k : Nat) : Int) := by
    rw [Int.toNat_natCast]; push_cast; rfl
  rw [e]; exact h _
end
theorem xor_low (x k : Nat) : Builtin.bitXor (x : Int) ((x / 2 ^ k * 2 ^ k : Nat) : Int) = ((x % 2 ^ k : Nat) : Int) := by
  have h1 : x &&& (x / 2 ^ k * 2 ^ k) = x / 2 ^ k * 2 ^ k := by
    apply Nat.eq_of_testBit_eq
    intro i
    rw [Nat.testBit_and, Nat.testBit_mul_two_pow]
    by_cases hi : k ≤ i
    · simp only [hi, decide_true, Bool.true_and, Nat.testBit_div_two_pow]
      rw [show i - k + k = i by omega, Bool.and_self]
    · simp [hi]
  rw [bitXor_and, bitAnd_pp (Int.natCast_nonneg _) (Int.natCast_nonneg _), Int.toNat_natCast, Int.toNat_natCast, h1]
  have := Nat.div_add_mod x (2 ^ k)
  rw [Nat.mul_comm] at this
  omega

/-- the def within a def's body -/
noncomputable def innerIn (K : Frag) (a : Addr) : Option (Arguments × List Stmt × Scope) := match K.lookup a with
  | some ⟨_, _, .func fd, _⟩ => (match fd.body with
    | .stmts (.FunctionDef _ ps b _ _ _ sc _ _ _ :: _) => some (ps, b, sc)
    | .stmts (_ :: .FunctionDef _ ps b _ _ _ sc _ _ _ :: _) => some (ps, b, sc)
    | _ => none)
  | _ => none
theorem lk {K : Frag} {a : Addr} {o : Obj} (h : K.lookup a = some o) : K.lookup a = some o := h

/-- the list with its places a to b turned -/
noncomputable def put (ns : List Int) (a b : Nat) (ds : List Int) : List Int := ns.take a ++ ds ++ ns.drop b
theorem put_length {ns ds : List Int} {a b : Nat} (h : a ≤ b) (hb : b ≤ ns.length) (hd : ds.length = b - a) : (put ns a b ds).length = ns.length := by
  simp only [put, List.length_append, List.length_take, List.length_drop, hd]; omega
theorem put_one {ns : List Int} {a : Nat} {x : Int} (h : a < ns.length) : ns.set a x = put ns a (a + 1) [x] := by
  rw [List.set_eq_take_append_cons_drop, if_pos h, put, List.append_assoc, List.singleton_append]
theorem put_put {ns ds es : List Int} {a m b : Nat} (h1 : a ≤ m) (h2 : m ≤ b) (hb : b ≤ ns.length) (hd : ds.length = m - a) : put (put ns a m ds) m b es = put ns a b (ds ++ es) := by
  have hl : (ns.take a ++ ds).length = m := by simp only [List.length_append, List.length_take, hd]; omega
  unfold put
  rw [List.take_append_of_le_length (by omega), List.take_of_length_le (by omega), List.drop_append, List.drop_of_length_le (by omega), hl, List.drop_drop]
  simp only [List.nil_append, List.append_assoc]
  rw [show m + (b - m) = b by omega]
end Mine
namespace Mine
theorem fnAt_g {g h : Heap} {L f : Addr} {m : Str → Option Value} {fd : FuncData} (hf : ∃ fo, g.get? f = some fo ∧ fo.data = .func fd) (F : Fr g L h m) : FnAt f h := by
  obtain ⟨⟨oc, od, da, sl⟩, h1, h2⟩ := hf
  dsimp only at h2
  subst h2
  exact ⟨oc, od, fd, sl, F.keep _ _ h1⟩
end Mine
namespace Mine
/-- the table of a def's code: nothing yet (then c is any object of no use), or the inner def's code, which is c -/
noncomputable def TabIs (line col : Nat) (ql : Str) (ps : Array Value) (c : Addr) (oc : Obj) : Prop :=
  ps = #[] ∨ ∃ vs t, ps = #[rawInt line, rawInt col, .ref c] ∧ oc.data = .fields vs ∧ vs[1]? = some (.str ql t)
noncomputable def bitsOf (a : Nat) : Nat := Builtin.Int.intBits (a : Int)
theorem bitsOf_lt (a : Nat) : a < 2 ^ bitsOf a := by
  unfold bitsOf Builtin.Int.intBits
  by_cases h : a = 0
  · subst h; decide
  · have : ((a : Int) == 0) = false := by simp; omega
    rw [this]
    simp only [Int.natAbs_natCast, Bool.false_eq_true, if_false]
    exact Nat.lt_log2_self
theorem bitsOf_le {a k : Nat} (h : a < 2 ^ k) : bitsOf a ≤ k := by
  unfold bitsOf Builtin.Int.intBits
  by_cases h0 : a = 0
  · subst h0; simp
  · have : ((a : Int) == 0) = false := by simp; omega
    rw [this]
    simp only [Int.natAbs_natCast, Bool.false_eq_true, if_false]
    have := (Nat.log2_lt h0).mpr h
    omega
theorem bitsOf_pos {a : Nat} (h : a ≠ 0) : 1 ≤ bitsOf a := by
  unfold bitsOf Builtin.Int.intBits
  have : ((a : Int) == 0) = false := by simp; omega
  rw [this]; simp
/-- how many figures a has to the base 2^n -/
noncomputable def figs (a n : Nat) : Nat := (bitsOf a + n - 1) / n
theorem figs_zero (n : Nat) (h : 1 ≤ n) : figs 0 n = 0 := by
  have : bitsOf 0 = 0 := rfl
  unfold figs; rw [this, Nat.div_eq_of_lt (by omega)]
theorem figs_pos {a n : Nat} (h : a ≠ 0) (hn : 1 ≤ n) : 1 ≤ figs a n := by
  have := bitsOf_pos h
  unfold figs
  rw [Nat.le_div_iff_mul_le (by omega)]; omega
theorem figs_fit {a n : Nat} (hn : 1 ≤ n) : a < 2 ^ (figs a n * n) := by
  refine Nat.lt_of_lt_of_le (bitsOf_lt a) (Nat.pow_le_pow_right (by decide) ?_)
  unfold figs
  have h1 := Nat.div_add_mod (bitsOf a + n - 1) n
  have h2 := Nat.mod_lt (bitsOf a + n - 1) (show 0 < n by omega)
  rw [Nat.mul_comm n] at h1
  omega
theorem figs_le {a n k : Nat} (hn : 1 ≤ n) (h : a < 2 ^ k) : figs a n ≤ k := by
  have hb := bitsOf_le h
  unfold figs
  rcases Nat.eq_zero_or_pos (bitsOf a) with e | e
  · rw [e, Nat.div_eq_of_lt (by omega)]; exact Nat.zero_le _
  · have h1 : bitsOf a + n - 1 ≤ bitsOf a * n := by
      obtain ⟨b, hb⟩ : ∃ b, bitsOf a = b + 1 := ⟨bitsOf a - 1, by omega⟩
      obtain ⟨c, rfl⟩ : ∃ c, n = c + 1 := ⟨n - 1, by omega⟩
      rw [hb, Nat.add_mul, Nat.mul_add]; omega
    have h2 := Nat.div_le_div_right (c := n) h1
    rw [Nat.mul_div_cancel _ (by omega)] at h2
    omega
end Mine
namespace Mine
theorem rep_flat {α : Type} (x : α) : ∀ k : Nat, (List.replicate k [x]).flatten = List.replicate k x
  | 0 => rfl
  | k + 1 => by rw [List.replicate_succ, List.replicate_succ, List.flatten_cons, rep_flat x k]; rfl
theorem rep_g {prog : Program} {w : World} {A : Around} {E : Value → Shared → Prop} {s : Shared} {h₀ : Heap} {L : Addr} {m : Str → Option Value} {news : List (Addr × Obj)} {l : Addr} {x : Value} {e k : Nat} {u : Tok} {Q : Value → Shared → Prop}
    (F : Fr h₀ L s.heap m) (N : News h₀ L s.heap news) (hm : (l, listOf #[x] e) ∈ news) (hk : k ≤ 256)
    (h : ∀ D h', Fr h₀ L h' m → News h₀ L h' ((D, listOf (List.replicate k x).toArray 0) :: news) → (∀ p ∈ news, p.1 < D) → Q (.ref D) { s with heap := h' }) : wpAny (model prog w) A (binaryOp .Mult (.ref l) (.int k u)) Q E s := by
  have hl : s.heap.IsList l [x].toArray := PySem.IsL.isList (n := e) (N _ hm).1
  have e1 : (List.replicate (k : Int).toNat [x]).flatten = List.replicate k x := by
    rw [Int.toNat_natCast, rep_flat]
  exact KMa.mul F N hl (by omega) (by omega) (by rw [Int.toNat_natCast]; simp; omega) e1 h
theorem figs_eq (a n : Nat) (hn : 1 ≤ n) : ((Builtin.Int.intBits (a : Int) : Int) + n - 1).fdiv n = ((figs a n : Nat) : Int) := by
  rw [Int.fdiv_eq_ediv_of_nonneg _ (by omega)]
  unfold figs bitsOf
  rw [show ((Builtin.Int.intBits (a : Int) : Int) + n - 1) = ((Builtin.Int.intBits (a : Int) + n - 1 : Nat) : Int) by omega]
  rfl
theorem ints_replicate (k : Nat) (t : Tok) : IntsAre (List.replicate k (.int 0 t)) (List.replicate k 0) := by
  induction k with
  | zero => exact .nil
  | succ k ih => exact .cons 0 t ih
end Mine
namespace Mine
theorem updF_app {d : Addr} {o : Obj} {post : List (Addr × Obj)} (hp : ∀ p ∈ post, p.1 ≠ d) : ∀ {pre : List (Addr × Obj)}, (∀ p ∈ pre, p.1 ≠ d) → UpdF d o (pre ++ (d, o) :: post) (fun o' => pre ++ (d, o') :: post)
  | [], _ => .head hp
  | _ :: _, h => .tail (h _ (.head _)) (updF_app hp fun q hq => h q (.tail _ hq))
section
variable {M : Model} {A : Around} {E : Value → Shared → Prop} {s : Shared} {h₀ : Heap} {L a c P : Addr} {m mg mb : Str → Option Value} {cn : Str} {cs : Scope} {ccd : Value} {cl : List (Str × Addr)} {pre : List (Addr × Obj)}
  {p : Program} {loose : List Str} {mean : ExcName → Option Value} {name qual : Str} {params : Arguments} {body : List Stmt} {scope : Scope} {ps : Array Value} {pos : Pos} {firstLine : Nat} {clos : List (Str × Addr)} {c0 : Addr} {oc0 : Obj}
/-- a def within a def is made: for the first time, or once more -/
theorem nest_tab {Q : Value → Shared → Prop} (F : Fr h₀ L s.heap m) (N : News h₀ L s.heap (pre ++ [(P, tabObj ps), (c0, oc0)])) (T : Top p loose mean mg mb h₀) (C : CodeHd h₀ c P) (hcd : ccd = .ref c) (ht : TabIs pos.line pos.col qual ps c0 oc0)
    (hP : ∀ q ∈ pre, q.1 ≠ P) (hc : ∀ q ∈ pre, q.1 ≠ c0) (hPc : c0 ≠ P) (hcl : closureFor scope (envX cn cs L a ccd cl) = pure clos)
    (h : ∀ f c' oc vs t ctv doc ps' h' tk, Fr h₀ L h' m →
      News h₀ L h' ((f, fnMade name qual params body scope clos doc ((mg "__name__").getD .none) c' ctv) :: (pre ++ [(P, tabObj ps'), (c', oc)])) →
      oc.data = .fields vs → vs[1]? = some (.str qual t) → TabIs pos.line pos.col qual ps' c' oc → (∀ q ∈ pre, q.1 ≠ c') → c' ≠ P → (∀ q ∈ pre ++ [(P, tabObj ps'), (c', oc)], q.1 < f) → Q (.ref f) { s with heap := h', toks := tk }) :
    wpAny M A (makeFunction name qual params (.stmts body) scope (envX cn cs L a ccd cl) [] [] [] pos firstLine) Q E s := by
  have hp0 : ∀ q ∈ [(c0, oc0)], q.1 ≠ P := fun q hq => by rw [List.mem_singleton.mp hq]; exact hPc
  rcases ht with rfl | ⟨vs, t, rfl, hd, hv⟩
  · refine nest_K F N T C hcd (updF_app hp0 hP) (by exact True.intro) rfl hcl fun f c' oc vs t ctv doc h' tk F' N' d1 d2 l1 l2 => ?_
    have l3 : ∀ q ∈ pre, q.1 < c' := fun q hq => l1 q (List.mem_append_left _ hq)
    have l4 : P < c' := l1 (P, tabObj #[]) (List.mem_append_right _ (.head _))
    refine h f c' oc vs t ctv doc _ h' tk F' (fun q hq => ?_) d1 d2 (.inr ⟨vs, t, rfl, d1, d2⟩) (fun q hq => Nat.ne_of_lt (l3 q hq)) (Nat.ne_of_gt l4) (fun q hq => ?_)
    · rcases List.mem_cons.mp hq with rfl | hq
      · exact N' _ (.head _)
      · rcases List.mem_append.mp hq with hq | hq
        · exact N' _ (.tail _ (.tail _ (List.mem_append_left _ hq)))
        · rcases List.mem_cons.mp hq with rfl | hq
          · exact N' _ (.tail _ (.tail _ (List.mem_append_right _ (.head _))))
          · rw [List.mem_singleton.mp hq]; exact N' _ (.tail _ (.head _))
    · rcases List.mem_append.mp hq with hq | hq
      · exact Nat.lt_trans (l3 q hq) l2
      · rcases List.mem_cons.mp hq with rfl | hq
        · exact Nat.lt_trans l4 l2
        · rw [List.mem_singleton.mp hq]; exact l2
  · refine nestHit_K (c' := c0) F N T C hcd (List.mem_append_right _ (.head _)) (by simp [TriplesOk, rawInt]) (by simp [codeAmong, rawInt]) hcl fun f ctv doc h' tk F' N' l1 => ?_
    exact h f c0 oc0 vs t ctv doc _ h' tk F' N' hd hv (.inr ⟨vs, t, rfl, hd, hv⟩) hc hPc l1
end
end Mine
namespace Mine
noncomputable def AllNe (d : Addr) : List (Addr × Obj) → Prop
  | [] => True
  | p :: r => @Ne Nat p.1 d ∧ AllNe d r
theorem allNe_of {d : Addr} : ∀ {l : List (Addr × Obj)}, (∀ p ∈ l, p.1 ≠ d) → AllNe d l
  | [], _ => trivial
  | p :: _, h => ⟨h p (.head _), allNe_of fun q hq => h q (.tail _ hq)⟩
end Mine
namespace Mine
theorem put_all {ns ds : List Int} {k : Nat} (h : ns.length ≤ k) : put ns 0 k ds = ds := by
  unfold put
  rw [List.take_zero, List.drop_of_length_le h, List.nil_append, List.append_nil]
theorem News.sub {g h : Heap} {L : Addr} {led sub : List (Addr × Obj)} (N : News g L h led) (hs : ∀ q ∈ sub, q ∈ led) : News g L h sub := fun q hq => N q (hs q hq)
end Mine
-- B3
namespace Mine
/-- the value of figures to the base 2^n, the lowest first -/
noncomputable def valI (n : Nat) : List Int → Int
  | [] => 0
  | d :: r => d + 2 ^ n * valI n r
theorem valI_app (n : Nat) : ∀ a b : List Int, valI n (a ++ b) = valI n a + 2 ^ (a.length * n) * valI n b
  | [], b => by simp [valI]
  | d :: r, b => by
    rw [List.cons_append, valI, valI_app n r b, valI, List.length_cons, Nat.succ_mul, Int.pow_add, Int.mul_add]
    have : (2 ^ n : Int) * (2 ^ (r.length * n) * valI n b) = 2 ^ (r.length * n) * 2 ^ n * valI n b := by
      rw [← Int.mul_assoc, Int.mul_comm (2 ^ n)]
    push_cast
    rw [this]
    omega
noncomputable def Figs (n : Nat) (ds : List Int) : Prop := ∀ d ∈ ds, 0 ≤ d ∧ d < 2 ^ n
theorem valI_pos {n : Nat} : ∀ {ds : List Int}, Figs n ds → 0 ≤ valI n ds
  | [], _ => Int.le_refl _
  | d :: r, h => by
    have h1 := (h d (.head _)).1
    have h2 := valI_pos (n := n) (ds := r) fun x hx => h x (.tail _ hx)
    have h3 : 0 ≤ (2 ^ n : Int) * valI n r := Int.mul_nonneg (by exact_mod_cast Nat.zero_le _) h2
    rw [valI]; omega
theorem valI_lt {n : Nat} : ∀ {ds : List Int}, Figs n ds → valI n ds < 2 ^ (ds.length * n)
  | [], _ => by simp [valI]
  | d :: r, h => by
    have h1 := (h d (.head _)).2
    have h2 := valI_lt (n := n) (ds := r) fun x hx => h x (.tail _ hx)
    have p : (0 : Int) ≤ 2 ^ n := by exact_mod_cast Nat.zero_le _
    have h3 : (2 ^ n : Int) * (valI n r + 1) ≤ 2 ^ n * 2 ^ (r.length * n) := Int.mul_le_mul_of_nonneg_left (by omega) p
    rw [Int.mul_add, Int.mul_one] at h3
    rw [valI, List.length_cons, Nat.succ_mul, Int.pow_add, Int.mul_comm (2 ^ (r.length * n))]
    push_cast at *
    omega
noncomputable def cut (ns : List Int) (a b : Nat) : List Int := (ns.drop a).take (b - a)
theorem cut_one {ns : List Int} {a : Nat} {x : Int} (h : ns[a]? = some x) : cut ns a (a + 1) = [x] := by
  unfold cut
  have ha := (List.getElem?_eq_some_iff.mp h).1
  rw [show a + 1 - a = 1 by omega, List.drop_eq_getElem_cons ha]
  have := (List.getElem?_eq_some_iff.mp h).2
  rw [this]; rfl
theorem cut_app {ns : List Int} {a m b : Nat} (h1 : a ≤ m) (h2 : m ≤ b) : cut ns a b = cut ns a m ++ cut ns m b := by
  unfold cut
  rw [show b - a = (m - a) + (b - m) by omega, List.take_add, List.drop_drop, show a + (m - a) = m by omega]
theorem cut_length {ns : List Int} {a b : Nat} (h : b ≤ ns.length) : (cut ns a b).length = b - a := by
  unfold cut
  rw [List.length_take, List.length_drop]; omega
theorem cut_all (ns : List Int) : cut ns 0 ns.length = ns := by simp [cut]
theorem cut_figs {n : Nat} {ns : List Int} (h : Figs n ns) (a b : Nat) : Figs n (cut ns a b) := fun d hd => h d (List.mem_of_mem_drop (List.mem_of_mem_take hd))
section
variable {prog : Program} {w : World} {A : Around} {E : Value → Shared → Prop} {s : Shared} {Q : Value → Shared → Prop}
theorem shl_int {x : Int} {k : Nat} {t u : Tok} (h0 : 0 ≤ x) (hx : x < 2 ^ 200) (hk : k ≤ 1000000) (h : ∀ tk, Q (.int (x * 2 ^ k) tk) { s with toks := tk + 1 }) : wpAny (model prog w) A (binaryOp .LShift (.int x t) (.int k u)) Q E s := by
  obtain ⟨y, rfl⟩ := Int.eq_ofNat_of_zero_le h0
  have hb : bitsOf y ≤ 200 := bitsOf_le (by exact_mod_cast hx)
  refine lshift_int (Int.natCast_nonneg _) (by show ((bitsOf y : Nat) : Int) + k ≤ _; omega) ?_
  rw [Int.toNat_natCast]; exact h _
theorem item_G {g : Heap} {L D : Addr} {m : Str → Option Value} {vs : List Value} {e : Nat} {k : Int} {u : Tok} {value slice : PySem.Expr} (F : Fr g L s.heap m) (hg : g.get? D = some (listOf vs.toArray e)) (h0 : 0 ≤ k) (h1 : k < vs.length) (hfit : k < 2 ^ 63) (h : ∀ x, vs[k.toNat]? = some x → Q x s)
    (hs : subscripted slice false (.ref D) (.int k u) = operate [.ref D, .int k u] (getItem (.ref D) (.int k u)) := by with_unfolding_all rfl) :
    wpAny (model prog w) A (subscriptTail value slice (.ref D) (.int k u)) Q E s := by
  have hl : s.heap.IsList D vs.toArray := PySem.IsL.isList (n := e) (F.keep _ _ hg)
  have hi : k.toNat < vs.length := by omega
  exact tail_any hl.typeIs slot_list_getitem.lookup (wpAny_getItem_list hl h0 hfit (by simp [List.getElem?_eq_getElem hi]) (h _ (List.getElem?_eq_getElem hi))) hs
end
theorem ints_get {vs : List Value} {ns : List Int} (h : IntsAre vs ns) {i : Nat} {x : Value} (hx : vs[i]? = some x) : ∃ k t, x = .int k t ∧ ns[i]? = some k := by
  induction h generalizing i with
  | nil => simp at hx
  | cons k t _ ih =>
    cases i with
    | zero => simp at hx; exact ⟨k, t, hx.symm, rfl⟩
    | succ i => simpa using ih (by simpa using hx)
end Mine
namespace Mine
section
variable {prog : Program} {w : World} {A : Around} {E : Value → Shared → Prop} {s : Shared} {g : Heap} {L D : Addr} {m : Str → Option Value} {vs : List Value} {n : Nat}
theorem len_G {Q : Value → Shared → Prop} (F : Fr g L s.heap m) (hg : g.get? D = some (listOf vs.toArray n)) (hfit : vs.length ≤ 1000000) (h : ∀ t tk, Q (.int (vs.length : Int) t) { s with toks := tk }) :
    wpAny (model prog w) A (call (.builtin "len") [.ref D]) Q E s := by
  have hl : s.heap.IsList D vs.toArray := PySem.IsL.isList (n := n) (F.keep _ _ hg)
  have e : vs.toArray.size = vs.length := List.size_toArray ..
  exact len_list hl (by rw [e]; omega) (by rw [e]; exact h _ _)
theorem truthy_G {Q : Bool → Shared → Prop} (F : Fr g L s.heap m) (hg : g.get? D = some (listOf vs.toArray n)) (hfit : vs.length ≤ 1000000) (h : ∀ tk, Q (decide (0 < vs.length)) { s with toks := tk }) :
    wpAny (model prog w) A (truthy (.ref D)) Q E s := by
  have hl : s.heap.IsList D vs.toArray := PySem.IsL.isList (n := n) (F.keep _ _ hg)
  have e : vs.toArray.size = vs.length := List.size_toArray ..
  have e2 : (!vs.toArray.isEmpty) = decide (0 < vs.length) := by cases vs <;> simp
  exact wpAny_truthy_list hl (by rw [e]; omega) (by rw [e2]; exact h _)
end
end Mine
-- B4
namespace Mine
/-- the end of a turn of a for -/
noncomputable def FPost {σ : Type} (h₀ : Heap) (L : Addr) (s : Shared) (vars : σ → List (Str × Value)) (Led : σ → List (Addr × Obj)) (Inv : σ → Prop) (own : List (Addr × Obj)) (I : Addr) (Q : Flow → Shared → Prop) (f : Flow) (s₂ : Shared) : Prop :=
  match f with
  | .ret v => Q (.ret v) s₂
  | .brk => Q .next s₂
  | _ => ∃ (c' : σ) (h' : Heap) (tk : Nat) (m' : Str → Option Value) (news' : List (Addr × Obj)), s₂ = { s with heap := h', toks := tk } ∧ Fr h₀ L h' m' ∧ News h₀ L h' news' ∧ (∀ p ∈ own, p ∈ news') ∧ (∀ p ∈ Led c', p ∈ news') ∧ (∀ p ∈ Led c', p.1 ≠ I) ∧ VarsIn m' (vars c') ∧ Inv c'
section
variable {σ : Type} {h₀ : Heap} {L : Addr} {s : Shared} {vars : σ → List (Str × Value)} {Led : σ → List (Addr × Obj)} {Inv : σ → Prop} {own : List (Addr × Obj)} {I : Addr} {Q : Flow → Shared → Prop} {h' : Heap} {tk : Nat} {m' : Str → Option Value} {news' : List (Addr × Obj)}
theorem FPost.next (c' : σ) (F : Fr h₀ L h' m') (N : News h₀ L h' news') (ho : ∀ p ∈ own, p ∈ news') (hl : ∀ p ∈ Led c', p ∈ news') (hi : ∀ p ∈ Led c', p.1 ≠ I) (hk : VarsIn m' (vars c')) (hp : Inv c') : FPost h₀ L s vars Led Inv own I Q .next { s with heap := h', toks := tk } :=
  ⟨c', h', tk, m', news', rfl, F, N, ho, hl, hi, hk, hp⟩
theorem FPost.cont (c' : σ) (F : Fr h₀ L h' m') (N : News h₀ L h' news') (ho : ∀ p ∈ own, p ∈ news') (hl : ∀ p ∈ Led c', p ∈ news') (hi : ∀ p ∈ Led c', p.1 ≠ I) (hk : VarsIn m' (vars c')) (hp : Inv c') : FPost h₀ L s vars Led Inv own I Q .cont { s with heap := h', toks := tk } :=
  ⟨c', h', tk, m', news', rfl, F, N, ho, hl, hi, hk, hp⟩
theorem FPost.ret {v : Value} {s₂ : Shared} (h : Q (.ret v) s₂) : FPost h₀ L s vars Led Inv own I Q (.ret v) s₂ := h
theorem FPost.brk {s₂ : Shared} (h : Q .next s₂) : FPost h₀ L s vars Led Inv own I Q .brk s₂ := h
end
section
variable {prog : Program} {w : World} {A : Around} {s : Shared} {env : Env} {h₀ : Heap} {x : Str} {body : List Stmt} {Q : Flow → Shared → Prop}
/-- a walk of an iterator I over the list l -/
theorem loop_by {σ : Type} {I l : Addr} {lo : Obj} {n : Nat} {P : Nat → Value → Prop} {St : Nat → Heap → Prop} (vars : σ → List (Str × Value)) (Led : σ → List (Addr × Obj)) (Inv : Nat → σ → Prop) (c₀ : σ) {m₀ : Str → Option Value} {io : Obj}
    (W : Walks prog w A I [I, l] [I] n P St) (hlive : ∀ i h, St i h → ∃ it, h.get? I = some it) (hst : St 0 s.heap) (F : Fr h₀ env.locals s.heap m₀) (N : News h₀ env.locals s.heap ((I, io) :: (l, lo) :: Led c₀)) (hl : l ≠ I) (hI : ∀ p ∈ Led c₀, p.1 ≠ I) (hk : VarsIn m₀ (vars c₀)) (hp : Inv 0 c₀)
    (turn : ∀ (i : Nat) (c : σ) (v : Value) (it : Obj) (u : Str → Option Value) (h : Heap) (tk : Nat), i < n → P i v → Inv i c → (∀ p ∈ (l, lo) :: Led c, p.1 ≠ I) → Fr h₀ env.locals h (fun y => if y = x then some v else kstB u (vars c) y) → News h₀ env.locals h ((I, it) :: (l, lo) :: Led c) →
      wpAny (model prog w) A (execs body env) (FPost h₀ env.locals { s with heap := h, toks := tk } vars Led (Inv (i + 1)) [(I, it), (l, lo)] I Q) (fun _ _ => False) { s with heap := h, toks := tk })
    (done : ∀ (c : σ) (u : Str → Option Value) (h : Heap) (tk : Nat), Inv n c → Fr h₀ env.locals h (kstB u (vars c)) → News h₀ env.locals h ((l, lo) :: Led c) → Q .next { s with heap := h, toks := tk }) :
    LoopAtV prog w A h₀ env x body Q (fun _ _ => False) (.ref I) s := by
  have hIx := N _ (.head _)
  have hlx := N (l, lo) (.tail _ (.head _))
  refine ⟨I, [I, l], [I], n, P, St, m₀, (l, lo) :: Led c₀, fun i m₁ news₁ => ∃ c, news₁ = (l, lo) :: Led c ∧ VarsIn m₁ (vars c) ∧ Inv i c, rfl, W, ?_, ?_, ?_, hst, F, fun p hp => N p (.tail _ hp), ⟨c₀, rfl, hk, hp⟩, ?_, ?_⟩
  · intro hm
    rcases List.mem_cons.mp hm with e | hm
    · exact hIx.2.1 e.symm
    · exact hlx.2.1 (List.mem_singleton.mp hm).symm
  · intro b hb
    rw [List.mem_singleton.mp hb]; exact hIx.2.2
  · intro p hp hm
    have e := List.mem_singleton.mp hm
    rcases List.mem_cons.mp hp with rfl | hp
    · exact hl e
    · exact hI p hp e
  · rintro i v m₁ news₁ s₁ own ⟨h1, tk1, rfl⟩ hin hP ⟨c, rfl, hv, hinv⟩ hoff hown hget hall hst₁ F₁ N₁
    have hne : ∀ p ∈ (l, lo) :: Led c, p.1 ≠ I := fun p hp e => hoff p hp (by rw [e]; exact .head _)
    have em : (fun y => if y = x then some v else m₁ y) = fun y => if y = x then some v else kstB m₁ (vars c) y := by
      funext y
      rw [kstB_eq hv (fun _ => rfl)]
    rw [em] at F₁
    obtain ⟨it, hit⟩ := hlive _ _ hst₁
    have N₂ : News h₀ env.locals h1 ((I, it) :: (l, lo) :: Led c) := fun p hp => by
      rcases List.mem_cons.mp hp with rfl | hp
      · exact N₁ _ (List.mem_append_left _ (hall I (.head _) hIx.2.2 _ hit))
      · exact N₁ _ (List.mem_append_right _ hp)
    refine wpAny_mono (turn i c v it m₁ h1 tk1 hin hP hinv hne F₁ N₂) (fun f s₂ p => ?_) fun _ _ e => e
    have fin : (∃ (c' : σ) (h' : Heap) (tk : Nat) (m' : Str → Option Value) (news' : List (Addr × Obj)), s₂ = { s with heap := h', toks := tk } ∧ Fr h₀ env.locals h' m' ∧ News h₀ env.locals h' news' ∧ (∀ p ∈ [(I, it), (l, lo)], p ∈ news') ∧ (∀ p ∈ Led c', p ∈ news') ∧ (∀ p ∈ Led c', p.1 ≠ I) ∧ VarsIn m' (vars c') ∧ Inv (i + 1) c') →
        LoopStepU h₀ env.locals [I] own (fun m₁ news₁ => ∃ c, news₁ = (l, lo) :: Led c ∧ VarsIn m₁ (vars c) ∧ Inv (i + 1) c) { s with heap := h1, toks := tk1 } .next s₂ := by
      rintro ⟨c', h', tk, m', news', e, F', N', ho, hL, hLI, hv', hinv'⟩
      refine ⟨rfl, h', tk, m', (l, lo) :: Led c', e, F', fun p hp => ?_, fun p hp hm => ?_, c', rfl, hv', hinv'⟩
      · rcases List.mem_append.mp hp with hp | hp
        · have h2 : h1.get? p.1 = some p.2 := hget p hp
          rcases List.mem_cons.mp (hown p hp) with h3 | h3
          · have : p = (I, it) := by
              rw [h3, hit] at h2
              exact Prod.ext h3 (Option.some.inj h2).symm
            rw [this]; exact N' _ (ho _ (.head _))
          · have h3' : p.1 = l := List.mem_singleton.mp h3
            have : p = (l, lo) := by
              rw [h3', (N₂ (l, lo) (.tail _ (.head _))).1] at h2
              exact Prod.ext h3' (Option.some.inj h2).symm
            rw [this]; exact N' _ (ho _ (.tail _ (.head _)))
        · rcases List.mem_cons.mp hp with rfl | hp
          · exact N' _ (ho _ (.tail _ (.head _)))
          · exact N' _ (hL _ hp)
      · have e := List.mem_singleton.mp hm
        rcases List.mem_cons.mp hp with rfl | hp
        · exact hl e
        · exact hLI p hp e
    cases f with
    | ret v => exact .ret p
    | brk => exact .brk p
    | next => exact .next (fin p)
    | cont => exact .cont (fin p)
  · rintro h' tk m' news' F' N' _ ⟨c, rfl, hv, hinv⟩
    exact done c m' h' tk hinv (fr_kstB hv F') N'

/-- for over a list of the ledger -/
theorem iter_by {σ : Type} {l : Addr} {vs : List Value} {e : Nat} (vars : σ → List (Str × Value)) (Led : σ → List (Addr × Obj)) (Inv : Nat → σ → Prop) (c₀ : σ) {m₀ : Str → Option Value} {news₀ : List (Addr × Obj)}
    (hh : A.handled = none) (F : Fr h₀ env.locals s.heap m₀) (N : News h₀ env.locals s.heap news₀) (hl : (l, listOf vs.toArray e) ∈ news₀) (hL : ∀ p ∈ Led c₀, p ∈ news₀) (hk : VarsIn m₀ (vars c₀)) (hp : Inv 0 c₀)
    (turn : ∀ (I : Addr) (i : Nat) (c : σ) (v : Value) (it : Obj) (u : Str → Option Value) (h : Heap) (tk : Nat), (∀ q ∈ news₀, q.1 < I) → vs[i]? = some v → Inv i c → (∀ p ∈ (l, listOf vs.toArray e) :: Led c, p.1 ≠ I) → Fr h₀ env.locals h (fun y => if y = x then some v else kstB u (vars c) y) → News h₀ env.locals h ((I, it) :: (l, listOf vs.toArray e) :: Led c) →
      wpAny (model prog w) A (execs body env) (FPost h₀ env.locals { s with heap := h, toks := tk } vars Led (Inv (i + 1)) [(I, it), (l, listOf vs.toArray e)] I Q) (fun _ _ => False) { s with heap := h, toks := tk })
    (done : ∀ (c : σ) (u : Str → Option Value) (h : Heap) (tk : Nat), Inv vs.length c → Fr h₀ env.locals h (kstB u (vars c)) → News h₀ env.locals h ((l, listOf vs.toArray e) :: Led c) → Q .next { s with heap := h, toks := tk }) :
    wpAny (model prog w) A (pyIter (.ref l)) (fun it s₂ => LoopAtV prog w A h₀ env x body Q (fun _ _ => False) it s₂) (fun _ _ => False) s := by
  have hlt : ∀ q ∈ news₀, q.1 < s.heap.objs.size := fun q hq => Heap.lt_size (N q hq).1
  have hls : s.heap.IsList l vs.toArray := PySem.IsL.isList (n := e) (N _ hl).1
  refine wpAny_pyIter_list hls ?_
  have hne : l ≠ s.heap.objs.size := Nat.ne_of_lt (hlt _ hl)
  have W := Walks.list (prog := prog) (w := w) hh s.heap.objs.size l hne vs.toArray
  have hlen : vs.toArray.size = vs.length := List.size_toArray ..
  rw [hlen] at W
  refine loop_by (io := { cls := .type "list_iterator", data := .fields #[.ref l, .int 0 0] }) (lo := listOf vs.toArray e) vars Led Inv c₀ W (fun i h hs => let ⟨o, ho, _⟩ := hs.1; ⟨o, ho⟩) ⟨⟨_, Heap.get?_push_size _ rfl, rfl, rfl⟩, hls.at fun o e => Heap.get?_push_of_some _ e⟩ (F.push _)
    (fun q hq => ?_) hne (fun q hq => Nat.ne_of_lt (hlt _ (hL q hq))) hk hp ?_ done
  · have N' := News.push F N { cls := Value.type "list_iterator", data := Data.fields #[.ref l, .int 0 0] }
    rcases List.mem_cons.mp hq with rfl | hq
    · exact N' _ (.head _)
    · rcases List.mem_cons.mp hq with rfl | hq
      · exact N' _ (.tail _ hl)
      · exact N' _ (.tail _ (hL _ hq))
  · intro i c v it u h tk hin hP hinv hne' F' N'
    exact turn _ i c v it u h tk hlt (by simpa using hP) hinv hne' F' N'
/-- for over reversed(list) of the ledger -/
theorem iter_rev_by {σ : Type} {l I : Addr} {vs : List Value} {e : Nat} (vars : σ → List (Str × Value)) (Led : σ → List (Addr × Obj)) (Inv : Nat → σ → Prop) (c₀ : σ) {m₀ : Str → Option Value} {news₀ : List (Addr × Obj)}
    (hh : A.handled = none) (F : Fr h₀ env.locals s.heap m₀) (N : News h₀ env.locals s.heap ((I, revObj l ((vs.length : Int) - 1)) :: news₀)) (hIlt : ∀ q ∈ news₀, q.1 < I) (hl : (l, listOf vs.toArray e) ∈ news₀) (hL : ∀ p ∈ Led c₀, p ∈ news₀) (hk : VarsIn m₀ (vars c₀)) (hp : Inv 0 c₀)
    (turn : ∀ (i : Nat) (c : σ) (v : Value) (it : Obj) (u : Str → Option Value) (h : Heap) (tk : Nat), vs.reverse[i]? = some v → Inv i c → (∀ p ∈ (l, listOf vs.toArray e) :: Led c, p.1 ≠ I) → Fr h₀ env.locals h (fun y => if y = x then some v else kstB u (vars c) y) → News h₀ env.locals h ((I, it) :: (l, listOf vs.toArray e) :: Led c) →
      wpAny (model prog w) A (execs body env) (FPost h₀ env.locals { s with heap := h, toks := tk } vars Led (Inv (i + 1)) [(I, it), (l, listOf vs.toArray e)] I Q) (fun _ _ => False) { s with heap := h, toks := tk })
    (done : ∀ (c : σ) (u : Str → Option Value) (h : Heap) (tk : Nat), Inv vs.length c → Fr h₀ env.locals h (kstB u (vars c)) → News h₀ env.locals h ((l, listOf vs.toArray e) :: Led c) → Q .next { s with heap := h, toks := tk }) :
    wpAny (model prog w) A (pyIter (.ref I)) (fun it s₂ => LoopAtV prog w A h₀ env x body Q (fun _ _ => False) it s₂) (fun _ _ => False) s := by
  have hls : s.heap.IsList l vs.toArray := PySem.IsL.isList (n := e) (N _ (.tail _ hl)).1
  have hit : s.heap.IsRevIter I l ((vs.length : Int) - 1) := ⟨_, (N _ (.head _)).1, rfl, rfl⟩
  refine wpAny_pyIter_revIter hit ?_
  have hne : l ≠ I := Nat.ne_of_lt (hIlt _ hl)
  have W := Walks.listRev (prog := prog) (w := w) hh I l hne vs.toArray
  have hlen : vs.toArray.size = vs.length := List.size_toArray ..
  rw [hlen] at W
  refine loop_by (io := revObj l ((vs.length : Int) - 1)) (lo := listOf vs.toArray e) vars Led Inv c₀ W (fun i h hs => let ⟨o, ho, _⟩ := hs.2.1; ⟨o, ho⟩) ⟨Nat.zero_le _, by simpa using hit, hls⟩ F
    (fun q hq => ?_) hne (fun q hq => Nat.ne_of_lt (hIlt _ (hL q hq))) hk hp ?_ done
  · rcases List.mem_cons.mp hq with rfl | hq
    · exact N _ (.head _)
    · rcases List.mem_cons.mp hq with rfl | hq
      · exact N _ (.tail _ hl)
      · exact N _ (.tail _ (hL _ hq))
  · intro i c v it u h tk hin hP hinv hne' F' N'
    refine turn i c v it u h tk ?_ hinv hne' F' N'
    rw [List.getElem?_reverse hin]
    simpa using hP
end
end Mine
namespace Mine
noncomputable def ql35 : Str := (Str.ofString "_int2digits" ++ Str.ofString ".<locals>.") ++ Str.ofString "inner"
noncomputable def ql42 : Str := (Str.ofString "_digits2int" ++ Str.ofString ".<locals>.") ++ Str.ofString "inner"
/-- the two tables of code and what they hold -/
structure Tabs where
  p1 : Array Value
  c1 : Addr
  o1 : Obj
  p2 : Array Value
  c2 : Addr
  o2 : Obj
abbrev Tabs.led (T : Tabs) : List (Addr × Obj) := [(30, tabObj T.p1), (T.c1, T.o1), (37, tabObj T.p2), (T.c2, T.o2)]
structure Tabs.Ok (T : Tabs) : Prop where
  t1 : TabIs 32 4 ql35 T.p1 T.c1 T.o1
  t2 : TabIs 47 4 ql42 T.p2 T.c2 T.o2
  n1 : @Ne Nat T.c1 30
  n2 : @Ne Nat T.c1 37
  n3 : @Ne Nat T.c1 T.c2
  n4 : @Ne Nat T.c2 30
  n5 : @Ne Nat T.c2 37
theorem digs_get (n : Nat) : ∀ (k x j : Nat), j < k → (digs n x k)[j]? = some ((x / 2 ^ (j * n) % 2 ^ n : Nat) : Int)
  | k + 1, x, 0, _ => by simp [digs]
  | k + 1, x, j + 1, h => by
    rw [digs, List.getElem?_cons_succ, digs_get n k _ j (by omega), Nat.div_div_eq_div_mul, ← Nat.pow_add, Nat.succ_mul, Nat.add_comm n]
theorem digs_figs (n : Nat) : ∀ (k x : Nat), Figs n (digs n x k)
  | 0, _, d, h => by cases h
  | k + 1, x, d, h => by
    rcases List.mem_cons.mp h with rfl | h
    · exact ⟨Int.natCast_nonneg _, by exact_mod_cast Nat.mod_lt _ (Nat.two_pow_pos _)⟩
    · exact digs_figs n k _ d h
/-- one step of the long division -/
theorem long_step {a b n : Nat} (hb : 0 < b) (hbn : b < 2 ^ n) (m : Nat) : let A := a / 2 ^ (m * n); let A0 := a / 2 ^ ((m + 1) * n); let d := A % 2 ^ n; let y := A0 % b * 2 ^ n + d
    y / b < 2 ^ n ∧ A % b = y % b ∧ A / b = A0 / b * 2 ^ n + y / b := by
  intro A A0 d y
  have h0 : A0 = A / 2 ^ n := by
    show a / 2 ^ ((m + 1) * n) = a / 2 ^ (m * n) / 2 ^ n
    rw [Nat.div_div_eq_div_mul, ← Nat.pow_add, Nat.succ_mul]
  have h1 : A = A0 * 2 ^ n + d := by
    rw [h0, Nat.mul_comm]; exact (Nat.div_add_mod A (2 ^ n)).symm
  have h2 : A0 = b * (A0 / b) + A0 % b := (Nat.div_add_mod A0 b).symm
  have h3 : A = y + b * (A0 / b * 2 ^ n) := by
    have : A0 * 2 ^ n = b * (A0 / b) * 2 ^ n + A0 % b * 2 ^ n := by rw [← Nat.add_mul, ← h2]
    rw [h1, this, Nat.mul_assoc]
    show _ = A0 % b * 2 ^ n + d + _
    omega
  have hd : d < 2 ^ n := Nat.mod_lt _ (Nat.two_pow_pos _)
  have hr : A0 % b < b := Nat.mod_lt _ hb
  refine ⟨?_, ?_, ?_⟩
  · rw [Nat.div_lt_iff_lt_mul hb]
    have : (A0 % b + 1) * 2 ^ n ≤ b * 2 ^ n := Nat.mul_le_mul_right _ hr
    rw [Nat.add_mul, Nat.one_mul] at this
    rw [Nat.mul_comm (2 ^ n)]
    show A0 % b * 2 ^ n + d < _
    omega
  · rw [h3, Nat.add_mul_mod_self_left]
  · rw [h3, Nat.add_mul_div_left _ _ hb, Nat.add_comm]
end Mine
namespace Mine
theorem reverse_g {prog : Program} {w : World} {A : Around} {E : Value → Shared → Prop} {s : Shared} {h₀ : Heap} {L D : Addr} {m : Str → Option Value} {news news' : List (Addr × Obj)} {vs : List Value} {n : Nat} {Q : Value → Shared → Prop} (F : Fr h₀ L s.heap m) (N : News h₀ L s.heap news) (U : Upd D (listOf vs.toArray n) (listOf vs.reverse.toArray n) news news') (hfit : vs.length ≤ 1000000)
    (h : ∀ h', Fr h₀ L h' m → News h₀ L h' news' → Q .none { s with heap := h' }) : wpAny (model prog w) A (call (.builtin "list.reverse") [.ref D]) Q E s :=
  kl_reverse F N rfl U (by show vs.length ≤ _; rw [sizeLine_eq]; omega) h
theorem ints_append {vs ws : List Value} {ns ms : List Int} (h : IntsAre vs ns) (k : IntsAre ws ms) : IntsAre (vs ++ ws) (ns ++ ms) := by
  induction h with
  | nil => exact k
  | cons i t _ ih => exact .cons i t ih
theorem ints_reverse {vs : List Value} {ns : List Int} (h : IntsAre vs ns) : IntsAre vs.reverse ns.reverse := by
  induction h with
  | nil => exact .nil
  | cons i t _ ih => rw [List.reverse_cons, List.reverse_cons]; exact ints_append ih (.cons i t .nil)
end Mine
namespace Mine
noncomputable def AllNe' (d : Addr) : List (Addr × Obj) → Prop
  | [] => True
  | p :: r => @Ne Nat d p.1 ∧ AllNe' d r
theorem allNe_of' {d : Addr} : ∀ {l : List (Addr × Obj)}, (∀ p ∈ l, d ≠ p.1) → AllNe' d l
  | [], _ => trivial
  | p :: _, h => ⟨h p (.head _), allNe_of' fun q hq => h q (.tail _ hq)⟩
end Mine
namespace Mine
theorem ne_of_all {d : Addr} : ∀ {l : List (Addr × Obj)}, AllNe d l → ∀ p ∈ l, p.1 ≠ d
  | [], _, _, hp => (nomatch hp)
  | q :: r, h, p, hp => by
    rcases List.mem_cons.mp hp with rfl | hp
    · exact h.1
    · exact ne_of_all h.2 p hp
theorem ltOf {d : Addr} {l : List (Addr × Obj)} (h : AllLt d l) : ∀ p ∈ l, p.1 < d := ktn_ltOf h
end Mine
-- B5
section
open PySem.Builtin PySem.Builtin.Str
namespace Mine
theorem gives_find4 (x y : PySem.Str) (i j : Int) (t u v w : Tok) : Gives («str.find» ⟨[.str x t, .str y u, .int i v, .int j w], []⟩) (.int (match occurrences x y (fromIndex x.length i) (min (fromIndex x.length j) x.length) 1 with | k :: _ => (k : Int) | [] => -1)) := by
  show Gives (match occurrences x y (fromIndex x.length i) (min (fromIndex x.length j) x.length) 1 with | k :: _ => retInt k | [] => (do rule "str.find.not-found"; retInt (-1))) _
  cases occurrences x y (fromIndex x.length i) (min (fromIndex x.length j) x.length) 1 with
  | nil => exact .rule (.of_eq rfl)
  | cons k _ => exact .of_eq rfl
noncomputable def find4 (x y : PySem.Str) (i : Nat) : Int := match occurrences x y i x.length 1 with | k :: _ => (k : Int) | [] => -1
theorem call_find4 {prog : Program} {w : World} {A : Around} {E : Value → Shared → Prop} {s : Shared} {x y : PySem.Str} {t u v v' : Tok} {i : Nat} {Q : Value → Shared → Prop} (h : ∀ t' tk, Q (.int (find4 x y i) t') { s with toks := tk }) :
    wpAny (model prog w) A (call (.builtin "str.find") [.str x t, .str y u, .int i v, .int x.length v']) Q E s := by
  refine call_gives F.slot_str_find (typeIs_str _ _ _) F.entry_str_find (F.args_str_find_4 _ _ _ _) (gives_find4 x y i x.length t u v v') ?_
  have e1 : fromIndex x.length (i : Int) = i := by unfold fromIndex; rw [if_neg (by omega)]; omega
  have e2 : min (fromIndex x.length (x.length : Int)) x.length = x.length := by
    have : fromIndex x.length (x.length : Int) = x.length := by unfold fromIndex; rw [if_neg (by omega)]; omega
    rw [this, Nat.min_self]
  rw [e1, e2]
  exact h _ _
/-- is the one a subsequence of the other -/
noncomputable def subL : List Nat → List Nat → Bool
  | [], _ => true
  | _ :: _, [] => false
  | c :: cs, g :: gs => if c == g then subL cs gs else subL (c :: cs) gs
theorem subL_none {c : Nat} {cs : List Nat} : ∀ {gs : List Nat}, (∀ j : Nat, gs[j]? ≠ some c) → subL (c :: cs) gs = false
  | [], _ => rfl
  | g :: gs, h => by
    have h0 : (c == g) = false := by
      rw [beq_eq_false_iff_ne]; intro e; exact h 0 (by rw [e]; rfl)
    rw [subL, h0]
    exact subL_none (fun j => by simpa using h (j + 1))
theorem subL_some {c : Nat} {cs : List Nat} : ∀ {gs : List Nat} {k : Nat}, gs[k]? = some c → (∀ j : Nat, j < k → gs[j]? ≠ some c) → subL (c :: cs) gs = subL cs (gs.drop (k + 1))
  | [], k, h, _ => by simp at h
  | g :: gs, 0, h, _ => by
    have : g = c := by simpa using h
    subst this
    simp [subL]
  | g :: gs, k + 1, h, hn => by
    have h0 : (c == g) = false := by
      rw [beq_eq_false_iff_ne]; intro e; exact hn 0 (Nat.zero_lt_succ _) (by rw [e]; rfl)
    rw [subL, h0]
    exact subL_some (by simpa using h) (fun j hj => by simpa using hn (j + 1) (by omega))
noncomputable def one (c : Nat) : PySem.Str := ⟨#[c]⟩
noncomputable def strOf (gs : List Nat) : PySem.Str := ⟨gs.toArray⟩
theorem strOf_length (gs : List Nat) : (strOf gs).length = gs.length := by simp [strOf, PySem.Str.length]
open StrLaws in
theorem at_one (gs : List Nat) (c i : Nat) : At (strOf gs) (one c) (strOf gs).length i ↔ gs[i]? = some c := by
  unfold At
  rw [subAt_eq, strOf_length]
  have e1 : (one c).length = 1 := rfl
  have e2 : (strOf gs).cps.toList = gs := rfl
  have e3 : (one c).cps.toList = [c] := rfl
  rw [e1, e2, e3]
  constructor
  · rintro ⟨h1, h2⟩
    have h3 := eq_of_beq h2
    have hi : i < gs.length := by omega
    rw [List.drop_eq_getElem_cons hi] at h3
    rw [List.getElem?_eq_getElem hi]
    exact congrArg some (List.cons.inj h3).1
  · intro h
    have hi := (List.getElem?_eq_some_iff.mp h).1
    have hv := (List.getElem?_eq_some_iff.mp h).2
    refine ⟨by omega, ?_⟩
    rw [List.drop_eq_getElem_cons hi, hv]
    simp
open StrLaws in
theorem find4_one (gs : List Nat) (c i : Nat) : (find4 (strOf gs) (one c) i = -1 ∧ ∀ k : Nat, i ≤ k → gs[k]? ≠ some c) ∨ ∃ k : Nat, find4 (strOf gs) (one c) i = (k : Int) ∧ i ≤ k ∧ gs[k]? = some c ∧ ∀ j : Nat, i ≤ j → j < k → gs[j]? ≠ some c := by
  unfold find4
  rcases occ_head_from (strOf gs) (one c) i 1 (Nat.le_refl _) with ⟨h1, h2⟩ | ⟨k, r, h1, h2, h3, h4⟩
  · rw [h1]; exact .inl ⟨rfl, fun k hk => fun e => h2 k hk ((at_one gs c k).mpr e)⟩
  · rw [h1]; exact .inr ⟨k, rfl, h2, (at_one gs c k).mp h3, fun j a b e => h4 j a b ((at_one gs c j).mpr e)⟩
open StrLaws in
theorem find4_empty (gs : List Nat) (i : Nat) (hi : i ≤ gs.length) : find4 (strOf gs) PySem.Str.empty i = (i : Int) := by
  have ha : ∀ k, k ≤ gs.length → At (strOf gs) PySem.Str.empty (strOf gs).length k := fun k hk => by
    unfold At
    rw [subAt_eq, strOf_length]
    exact ⟨hk, by simp [PySem.Str.empty, PySem.Str.length]⟩
  unfold find4
  rcases occ_head_from (strOf gs) PySem.Str.empty i 1 (Nat.le_refl _) with ⟨h1, h2⟩ | ⟨k, r, h1, h2, h3, h4⟩
  · exact absurd (ha i hi) (h2 i (Nat.le_refl _))
  · rw [h1]
    rcases Nat.lt_or_eq_of_le h2 with h | h
    · exact absurd (ha i hi) (h4 i (Nat.le_refl _) h)
    · rw [h]
end Mine
namespace Mine
theorem strs_cons {vs : List Value} {x : PySem.Str} {r : List PySem.Str} (h : StrsAre vs (x :: r)) : ∃ t vr, vs = .str x t :: vr ∧ StrsAre vr r := by
  cases h with
  | cons a u h => exact ⟨u, _, rfl, h⟩
theorem strs_snoc {vs : List Value} {x : PySem.Str} {r : List PySem.Str} (h : StrsAre vs (r ++ [x])) : ∃ t vr, vs = vr ++ [.str x t] ∧ StrsAre vr r := by
  rcases PyProof.Rows.strs_nil_or_snoc h with ⟨_, e⟩ | ⟨vi, yi, y, t, rfl, e, hi⟩
  · simp at e
  · obtain ⟨rfl, e2⟩ := List.append_inj' e rfl
    cases e2
    exact ⟨t, vi, rfl, hi⟩
theorem strs_get {vs : List Value} {xs : List PySem.Str} (h : StrsAre vs xs) {i : Nat} {v : Value} (hv : vs[i]? = some v) : ∃ x t, v = .str x t ∧ xs[i]? = some x := by
  induction h generalizing i with
  | nil => simp at hv
  | cons a u _ ih =>
    cases i with
    | zero => simp at hv; exact ⟨a, u, hv.symm, rfl⟩
    | succ i => simpa using ih (by simpa using hv)
/-- the pieces fed one by one -/
noncomputable def feed : List PySem.Str → List Nat → Bool
  | [], _ => true
  | p :: ps, gs => match p.cps.toList with
    | [] => feed ps gs
    | c :: _ => match gs.dropWhile (· != c) with
      | [] => false
      | _ :: r => feed ps r
end Mine
namespace Mine
noncomputable def codesOf (ps : List PySem.Str) : List Nat := ps.flatMap (fun p => p.cps.toList)
theorem codesOf_pieces (cs : List Nat) : codesOf (PySem.Str.empty :: (cs.map one ++ [PySem.Str.empty])) = cs := by
  have h : ∀ l : List Nat, (l.map one).flatMap (fun p => p.cps.toList) = l := by
    intro l
    induction l with
    | nil => rfl
    | cons a r ih => rw [List.map_cons, List.flatMap_cons, ih]; rfl
  unfold codesOf
  rw [List.flatMap_cons, List.flatMap_append, h]
  show [] ++ (cs ++ ([] ++ [])) = cs
  simp
theorem piece_kind {cs : List Nat} {p : PySem.Str} (h : p ∈ PySem.Str.empty :: (cs.map one ++ [PySem.Str.empty])) : p = PySem.Str.empty ∨ ∃ c, p = one c := by
  rcases List.mem_cons.mp h with rfl | h
  · exact .inl rfl
  · rcases List.mem_append.mp h with h | h
    · obtain ⟨c, _, rfl⟩ := List.mem_map.mp h
      exact .inr ⟨c, rfl⟩
    · exact .inl (List.mem_singleton.mp h)
theorem codesOf_drop {ps : List PySem.Str} {i : Nat} {p : PySem.Str} (h : ps[i]? = some p) : codesOf (ps.drop i) = p.cps.toList ++ codesOf (ps.drop (i + 1)) := by
  have hi := (List.getElem?_eq_some_iff.mp h).1
  have hv := (List.getElem?_eq_some_iff.mp h).2
  rw [List.drop_eq_getElem_cons hi, hv]; rfl
end Mine
end
-- B6
section
open PySem.Builtin PySem.Builtin.Str
namespace Mine
abbrev dots : PySem.Str := PySem.Str.ofString "..."
noncomputable def dotted (cs : List Nat) : List Nat := cs.flatMap fun c => [c, 46, 46, 46]
noncomputable def wantOf (cs : List Nat) : PySem.Str := Txt.join dots (PySem.Str.empty :: (cs.map one ++ [PySem.Str.empty]))
theorem dots_list : dots.cps.toList = [46, 46, 46] := by decide
theorem join_codes : ∀ cs : List Nat, (PySem.Str.join dots (PySem.Str.empty :: (cs.map one ++ [PySem.Str.empty]))).cps.toList = [46, 46, 46] ++ dotted cs ∧
    (PySem.Str.join dots (cs.map one ++ [PySem.Str.empty])).cps.toList = dotted cs
  | [] => ⟨by decide, by decide⟩
  | c :: r => by
    have ih := join_codes r
    have h1 : ∃ p q, r.map one ++ [PySem.Str.empty] = p :: q := by cases r <;> exact ⟨_, _, rfl⟩
    obtain ⟨p, q, e⟩ := h1
    have h2 : (PySem.Str.join dots ((c :: r).map one ++ [PySem.Str.empty])).cps.toList = dotted (c :: r) := by
      rw [List.map_cons, List.cons_append]
      have := ih.2
      rw [e] at this ⊢
      show ((one c) ++ dots ++ PySem.Str.join dots (p :: q)).cps.toList = _
      rw [PySem.Str.cps_append, PySem.Str.cps_append, Array.toList_append, Array.toList_append, this, dots_list]
      rfl
    refine ⟨?_, h2⟩
    show (PySem.Str.empty ++ dots ++ PySem.Str.join dots ((c :: r).map one ++ [PySem.Str.empty])).cps.toList = _
    rw [PySem.Str.cps_append, PySem.Str.cps_append, Array.toList_append, Array.toList_append, h2, dots_list]
    rfl
theorem want_codes (cs : List Nat) : (wantOf cs).cps.toList = [46, 46, 46] ++ dotted cs := by
  unfold wantOf Txt.join
  rw [StrLaws.glued_eq_join]
  exact (join_codes cs).1
theorem dotted_length : ∀ cs : List Nat, (dotted cs).length = 4 * cs.length
  | [] => rfl
  | c :: r => by
    show ([c, 46, 46, 46] ++ dotted r).length = _
    rw [List.length_append, dotted_length r, List.length_cons]
    simp; omega
theorem want_length (cs : List Nat) : (wantOf cs).length = 3 + 4 * cs.length := by
  have : (wantOf cs).length = (wantOf cs).cps.toList.length := by simp [PySem.Str.length]
  rw [this, want_codes, List.length_append, dotted_length]; rfl
open StrLaws in
theorem at_dots {W : PySem.Str} {i : Nat} : At W dots W.length i ↔ i + 3 ≤ W.length ∧ (W.cps.toList.drop i).take 3 = [46, 46, 46] := by
  unfold At
  rw [subAt_eq, dots_list]
  have e : dots.length = 3 := by decide
  rw [e, beq_iff_eq]
open StrLaws in
theorem parts_dotted {W : PySem.Str} : ∀ (rest : List Nat) (a f : Nat) (cuts : List Nat), W.cps.toList.drop a = dotted rest → a + 4 * rest.length = W.length → (∀ c ∈ rest, c ≠ 46) → ChainG W dots W.length a cuts f → (∀ k, f ≤ k → ¬ At W dots W.length k) →
    partsFrom W 3 a cuts = rest.map one ++ [PySem.Str.empty]
  | [], a, f, cuts, hd, hl, _, hG, _ => by
    have hl' : a = W.length := hl
    cases cuts with
    | nil =>
      show [strSub W a W.length] = _
      have : strSub W a W.length = PySem.Str.empty := by
        apply PySem.Str.ext'
        apply Array.toList_inj.mp
        rw [strSub_toList, hd]; simp [dotted, PySem.Str.empty]
      rw [this]; rfl
    | cons c0 r0 =>
      have h1 := hG.1
      have h2 := (at_dots.mp hG.2.1).1
      omega
  | c :: r, a, f, cuts, hd, hl, hc, hG, hn => by
    have hd' : W.cps.toList.drop a = c :: 46 :: 46 :: 46 :: dotted r := hd
    have hl' : a + 4 * (r.length + 1) = W.length := hl
    have hA : At W dots W.length (a + 1) := by
      refine at_dots.mpr ⟨by omega, ?_⟩
      rw [← List.drop_drop, hd']; rfl
    have hA0 : ¬ At W dots W.length a := fun h => by
      have := (at_dots.mp h).2
      rw [hd'] at this
      have := (List.cons.inj this).1
      exact hc c (.head _) this
    cases cuts with
    | nil =>
      have e : f = a := hG
      exact absurd hA (hn _ (by omega))
    | cons c0 r0 =>
      obtain ⟨h1, h2, h3, h4⟩ := hG
      have e0 : c0 = a + 1 := by
        rcases Nat.lt_trichotomy c0 (a + 1) with h | h | h
        · have : c0 = a := by omega
          subst this; exact absurd h2 hA0
        · exact h
        · exact absurd hA (h3 _ (by omega) h)
      subst e0
      have ih := parts_dotted r (a + 1 + 3) f r0 (by rw [show a + 1 + 3 = a + 4 by omega, ← List.drop_drop, hd']; rfl) (by omega) (fun d hd => hc d (.tail _ hd)) h4 hn
      show strSub W a (a + 1) :: partsFrom W 3 (a + 1 + 3) r0 = _
      rw [ih]
      have : strSub W a (a + 1) = one c := by
        apply PySem.Str.ext'
        apply Array.toList_inj.mp
        rw [strSub_toList, hd', show a + 1 - a = 1 by omega]; rfl
      rw [this]; rfl
open StrLaws in
theorem want_in (cs : List Nat) : At (wantOf cs) dots (wantOf cs).length 0 := by
  refine at_dots.mpr ⟨by rw [want_length]; omega, ?_⟩
  rw [want_codes]; rfl
open StrLaws in
theorem want_found (cs : List Nat) : (occurrences (wantOf cs) dots 0 (wantOf cs).length 1).isEmpty = false := by
  have h := (found_iff (wantOf cs) dots).mpr ⟨0, want_in cs⟩
  rwa [Bool.not_eq_true'] at h
theorem kind_pos (x : PySem.Str) : 1 ≤ PySem.Builtin.Str.strKind x := by
  unfold PySem.Builtin.Str.strKind; split
  · decide
  · split <;> decide
open StrLaws in
theorem want_split (cs : List Nat) (hc : ∀ c ∈ cs, c ≠ 46) : Txt.split (wantOf cs) dots = PySem.Str.empty :: (cs.map one ++ [PySem.Str.empty]) := by
  obtain ⟨f, hG, hn⟩ := occ_tight (wantOf cs) dots (by decide)
  have hk : PySem.Builtin.Str.strKind dots = 1 := by decide +kernel
  have hl3 : dots.length = 3 := by decide
  have hA := want_in cs
  have hW := want_length cs
  have hkw := kind_pos (wantOf cs)
  have hno : (decide ((wantOf cs).length < dots.length) || decide (PySem.Builtin.Str.strKind (wantOf cs) < PySem.Builtin.Str.strKind dots)) = false := by
    rw [hk, hl3, hW, Bool.or_eq_false_iff, decide_eq_false_iff_not, decide_eq_false_iff_not]; omega
  unfold Txt.split
  rw [hno]
  cases e : occurrences (wantOf cs) dots 0 (wantOf cs).length ((wantOf cs).length + 1) with
  | nil =>
    rw [e] at hG
    have ef : f = 0 := hG
    exact absurd hA (hn 0 (by omega))
  | cons c0 r0 =>
    rw [e] at hG
    obtain ⟨h1, h2, h3, h4⟩ := hG
    have e0 : c0 = 0 := by
      rcases Nat.eq_zero_or_pos c0 with h | h
      · exact h
      · exact absurd hA (h3 0 (Nat.le_refl _) h)
    subst e0
    show partsBetween (wantOf cs) (0 :: r0) dots.length = _
    rw [partsBetween_eq, hl3]
    show strSub (wantOf cs) 0 0 :: partsFrom (wantOf cs) 3 (0 + 3) r0 = _
    rw [hl3] at h4
    rw [parts_dotted cs 3 f r0 (by rw [want_codes]; rfl) (by omega) hc h4 hn]
    have : strSub (wantOf cs) 0 0 = PySem.Str.empty := by
      apply PySem.Str.ext'
      apply Array.toList_inj.mp
      rw [strSub_toList]; rfl
    rw [this]
end Mine
end
-- B7
namespace Mine
section
variable {prog : Program} {w : World} {A : Around} {h₀ : Heap} {L : Addr} {m : Str → Option Value} {env : Env} {elt ct : Expr} {x : Str} {scope : Scope} {cl : List (Str × Addr)} {s : Shared} {S : List (Addr × Obj) → Prop} {P : Nat → Value → Prop} {Fin : List Value → List (Addr × Obj) → Prop} {news : List (Addr × Obj)}
/-- a block by an invariant of what it has gathered -/
theorem comp_rest {n : Nat} (Inv : Nat → List Value → Prop) (h0 : Inv 0 [])
    (turn : ∀ i v I oI C oC D m₂ ys h tk (E' : Value → Shared → Prop), i < n → P i v → Inv i ys → LCg.NsObj oC m₂ → m₂ x = some v → Fr h₀ L h m → News h₀ L h ((I, oI) :: (C, oC) :: (D, LCg.lst ys) :: news) → LCg.Off3 I C D news →
      wpAny (model prog w) A (eval elt (compEnvC scope cl C env)) (LCg.CompEnd h₀ L m { s with heap := h, toks := tk } I oI C oC D (LCg.lst ys) S (fun y news' => news' = news ∧ Inv (i + 1) (ys ++ [y]))) E' { s with heap := h, toks := tk })
    (fin : ∀ ys, Inv n ys → Fin ys news) : LCg.CompRest prog w A h₀ L m env elt x scope cl s S P Fin n 0 [] news := by
  have key : ∀ (j i : Nat) (ys : List Value), i + j = n → Inv i ys → LCg.CompRest prog w A h₀ L m env elt x scope cl s S P Fin j i ys news := by
    intro j
    induction j with
    | zero =>
      intro i ys hi hy
      have e : i = n := by omega
      subst e
      exact LCg.CompRest.zero (fin ys hy)
    | succ j ih =>
      intro i ys hi hy
      refine LCg.CompRest.succ ?_
      intro v I oI C oC D m₂ h tk E' hv hC hx F N off ne
      refine wpAny_mono (turn i v I oI C oC D m₂ ys h tk E' (by omega) hv hy hC hx F N off) (fun y s₂ hq => ?_) fun _ _ e => e
      obtain ⟨h', tk', nw, e, F', N', off', hS, hn, hy'⟩ := hq
      subst hn
      exact ⟨h', tk', nw, e, F', N', off', hS, ih (i + 1) _ (by omega) hy'⟩
  exact key n 0 [] (by omega) h0
theorem compT_rest {n : Nat} (Inv : Nat → List Value → Prop) (h0 : Inv 0 [])
    (turn : ∀ i v I oI C oC D m₂ ys h tk (E' : Value → Shared → Prop), i < n → P i v → Inv i ys → LCg.NsObj oC m₂ → m₂ x = some v → Fr h₀ L h m → News h₀ L h ((I, oI) :: (C, oC) :: (D, LCg.lst ys) :: news) → LCg.Off3 I C D news →
      wpAny (model prog w) A (isTrue ct (compEnvC scope cl C env) (eval ct (compEnvC scope cl C env))) (fun ok s' => if ok = true then
        wpAny (model prog w) A (eval elt (compEnvC scope cl C env)) (LCg.CompEnd h₀ L m { s with heap := h, toks := tk } I oI C oC D (LCg.lst ys) S (fun y news' => news' = news ∧ Inv (i + 1) (ys ++ [y]))) E' s'
        else LCg.CompEnd h₀ L m { s with heap := h, toks := tk } I oI C oC D (LCg.lst ys) S (fun _ news' => news' = news ∧ Inv (i + 1) ys) Value.none s') E' { s with heap := h, toks := tk })
    (fin : ∀ ys, Inv n ys → Fin ys news) : LCt.CompRestT prog w A h₀ L m env ct elt x scope cl s S P Fin n 0 [] news := by
  have key : ∀ (j i : Nat) (ys : List Value), i + j = n → Inv i ys → LCt.CompRestT prog w A h₀ L m env ct elt x scope cl s S P Fin j i ys news := by
    intro j
    induction j with
    | zero =>
      intro i ys hi hy
      have e : i = n := by omega
      subst e
      exact LCt.CompRestT.zero (fin ys hy)
    | succ j ih =>
      intro i ys hi hy
      refine LCt.CompRestT.succ ?_
      intro v I oI C oC D m₂ h tk E' hv hC hx F N off ne
      refine wpAny_mono (turn i v I oI C oC D m₂ ys h tk E' (by omega) hv hy hC hx F N off) (fun ok s₂ hq => ?_) fun _ _ e => e
      cases ok with
      | true =>
        simp only [if_true] at hq ⊢
        refine wpAny_mono hq (fun y s₃ hq => ?_) fun _ _ e => e
        obtain ⟨h', tk', nw, e, F', N', off', hS, hn, hy'⟩ := hq
        subst hn
        exact ⟨h', tk', nw, e, F', N', off', hS, ih (i + 1) _ (by omega) hy'⟩
      | false =>
        simp only [Bool.false_eq_true, if_false] at hq ⊢
        obtain ⟨h', tk', nw, e, F', N', off', hS, hn, hy'⟩ := hq
        subst hn
        exact ⟨h', tk', nw, e, F', N', off', hS, ih (i + 1) _ (by omega) hy'⟩
  exact key n 0 [] (by omega) h0
end
theorem pick_but (vs : List Value) : (slicePick vs.toArray none (some (-1)) none).toList = vs.dropLast := by
  have e : sliceBounds none (some (-1)) none vs.toArray.size = (((0 : Nat) : Int), ((vs.toArray.size - 1 : Nat) : Int), 1) := by
    simp only [sliceBounds, Option.getD_none, show (1 : Int) > 0 by decide, if_true, if_pos (show (-1 : Int) < 0 by decide)]
    congr 1
    congr 1
    omega
  rw [kmk_pick_nat _ e]
  show ((vs.drop 0).take (vs.toArray.size - 1 - 0)) = _
  rw [List.drop_zero, Nat.sub_zero, List.size_toArray, List.dropLast_eq_take]
theorem pick_upto (vs : List Value) (k : Nat) : (slicePick vs.toArray none (some (k : Int)) none).toList = vs.take k := by
  have e : sliceBounds none (some (k : Int)) none vs.toArray.size = (((0 : Nat) : Int), ((min k vs.toArray.size : Nat) : Int), 1) := by
    simp only [sliceBounds, Option.getD_none, show (1 : Int) > 0 by decide, if_true, if_neg (show ¬ ((k : Int) < 0) by omega)]
    congr 1
    congr 1
    omega
  rw [kmk_pick_nat _ e]
  show ((vs.drop 0).take (min k vs.toArray.size - 0)) = _
  rw [List.drop_zero, Nat.sub_zero, List.size_toArray]
  rcases Nat.le_total k vs.length with h | h
  · rw [Nat.min_eq_left h]
  · rw [Nat.min_eq_right h, List.take_of_length_le (Nat.le_refl _), List.take_of_length_le h]
theorem pick_from (vs : List Value) (k : Nat) : (slicePick vs.toArray (some (k : Int)) none none).toList = vs.drop k := by
  have e : sliceBounds (some (k : Int)) none none vs.toArray.size = (((min k vs.toArray.size : Nat) : Int), ((vs.toArray.size : Nat) : Int), 1) := by
    simp only [sliceBounds, Option.getD_none, show (1 : Int) > 0 by decide, if_true, if_neg (show ¬ ((k : Int) < 0) by omega)]
    congr 1
    omega
  rw [kmk_pick_nat _ e]
  show ((vs.drop (min k vs.toArray.size)).take (vs.toArray.size - min k vs.toArray.size)) = _
  rw [List.size_toArray]
  rcases Nat.le_total k vs.length with h | h
  · rw [Nat.min_eq_left h, List.take_of_length_le (by rw [List.length_drop]; omega)]
  · rw [Nat.min_eq_right h, List.drop_of_length_le (Nat.le_refl _), List.drop_of_length_le h]; simp
theorem strs_carried' {vs : List Value} {ys : List PySem.Str} (h : StrsAre vs ys) : CarriedAll vs (ys.map fun a => PyData.str a) := h.carried
theorem join_g {prog : Program} {w : World} {A : Around} {E : Value → Shared → Prop} {s : Shared} {h₀ : Heap} {L D : Addr} {news : List (Addr × Obj)} {vs : List Value} {n : Nat} {xs : List PySem.Str} {x : PySem.Str} {t : Tok} {Q : Value → Shared → Prop}
    (N : News h₀ L s.heap news) (hm : (D, listOf vs.toArray n) ∈ news) (hs : StrsAre vs xs) (h1 : ∀ a ∈ xs, a.length ≤ 8) (hx : x.length ≤ 8) (hn : xs.length ≤ 1000)
    (h : ∀ t' k, Q (.str (PySem.Txt.join x xs) t') { s with toks := k }) : wpAny (model prog w) A (PySem.call (.builtin "str.join") [.str x t, .ref D]) Q E s := by
  refine KT.join_B (g := fun a => a) 8 (PySem.IsL.isList (n := n) (N _ hm).1) (strs_carried' hs) h1 (by omega) (by omega) ?_
  intro t' k
  rw [List.map_id']
  exact h t' k
theorem strs_append {vs ws : List Value} {xs ys : List PySem.Str} (h : StrsAre vs xs) (k : StrsAre ws ys) : StrsAre (vs ++ ws) (xs ++ ys) := by
  induction h with
  | nil => exact k
  | cons i t _ ih => exact .cons i t ih
/-- a figure's sign -/
theorem str_fig {prog : Program} {w : World} {A : Around} {E : Value → Shared → Prop} {s : Shared} {a : Int} {t : Tok} {Q : Value → Shared → Prop} (ha : a = 0 ∨ a = 1) (h : ∀ t' tk, Q (.str (one (48 + a.toNat)) t') { s with toks := tk }) :
    wpAny (model prog w) A (PySem.call (.type "str") [.int a t]) Q E s := by
  have e : PySem.Str.ofString (toString a) = one (48 + a.toNat) := by
    rcases ha with rfl | rfl <;> decide +kernel
  refine PySem.P.str_of_int (by rcases ha with rfl | rfl <;> decide) ?_
  show Q (.str (PySem.Str.ofString (toString a)) _) _
  rw [e]; exact h _ _
end Mine
namespace Mine
/-- heaps of values and heaps of what they mean -/
noncomputable def intOf : Value → Int
  | .int i _ => i
  | _ => 0
section
variable {α β : Type} {lt : α → α → Bool} {lt' : β → β → Bool} (f : α → β) (hf : ∀ x y, lt x y = lt' (f x) (f y))
include hf
theorem sdn_map (new : α) (start : Nat) : ∀ (n : Nat) (xs : List α) (pos : Nat), (sdn lt new start n xs pos).map f = sdn lt' (f new) start n (xs.map f) pos
  | 0, xs, pos => by rw [sdn, sdn, List.map_set]
  | n + 1, xs, pos => by
    rw [sdn, sdn]
    have eg : (xs.map f).getD ((pos - 1) / 2) (f new) = f (xs.getD ((pos - 1) / 2) new) := by
      rw [List.getD_eq_getElem?_getD, List.getD_eq_getElem?_getD, List.getElem?_map, Option.getD_map]
    rw [eg, ← hf]
    split
    · split
      · rw [sdn_map new start n, List.map_set]
      · rw [List.map_set]
    · rw [List.map_set]
theorem kid_map (d : α) (xs : List α) (c : Nat) : kid lt d xs c = kid lt' (f d) (xs.map f) c := by
  unfold kid
  have eg : ∀ i : Nat, (xs.map f).getD i (f d) = f (xs.getD i d) := fun i => by
    rw [List.getD_eq_getElem?_getD, List.getD_eq_getElem?_getD, List.getElem?_map, Option.getD_map]
  rw [eg, eg, ← hf, List.length_map]
theorem sup_map (new : α) (start : Nat) : ∀ (n : Nat) (xs : List α) (pos : Nat), (sup lt new start n xs pos).map f = sup lt' (f new) start n (xs.map f) pos
  | 0, xs, pos => by rw [sup, sup, sdn_map f hf, List.map_set]
  | n + 1, xs, pos => by
    have eg : ∀ i : Nat, (xs.map f).getD i (f new) = f (xs.getD i new) := fun i => by
      rw [List.getD_eq_getElem?_getD, List.getD_eq_getElem?_getD, List.getElem?_map, Option.getD_map]
    rw [sup, sup, ← kid_map f hf, eg, List.length_map]
    split
    · rw [sup_map new start n, List.map_set]
    · rw [sdn_map f hf, List.map_set]
theorem hpush_map (v : α) (vs : List α) : (hpush lt v vs).map f = hpush lt' (f v) (vs.map f) := by
  unfold hpush
  rw [sdn_map f hf, List.map_append, List.length_map]; rfl
theorem hpop_map (p : List α) (y : α) : f (hpop lt p y).1 = (hpop lt' (p.map f) (f y)).1 ∧ (hpop lt p y).2.map f = (hpop lt' (p.map f) (f y)).2 := by
  cases p with
  | nil => exact ⟨rfl, rfl⟩
  | cons x q =>
    refine ⟨rfl, ?_⟩
    show (sup lt y 0 (y :: q).length (y :: q) 0).map f = _
    rw [sup_map f hf]
    show sup lt' (f y) 0 (y :: q).length (f y :: q.map f) 0 = sup lt' (f y) 0 (f y :: q.map f).length (f y :: q.map f) 0
    simp
end
section
variable {α : Type} (lt : α → α → Bool)
theorem mem_set_of {xs : List α} {i : Nat} {a x : α} (h : x ∈ xs.set i a) : x ∈ xs ∨ x = a := List.mem_or_eq_of_mem_set h
theorem getD_or {xs : List α} {i : Nat} {d : α} : xs.getD i d ∈ xs ∨ xs.getD i d = d := by
  rw [List.getD_eq_getElem?_getD]
  cases h : xs[i]? with
  | none => exact .inr rfl
  | some a => exact .inl (List.mem_of_getElem? h)
theorem sdn_all {P : α → Prop} (new : α) (start : Nat) (hn : P new) : ∀ (n : Nat) (xs : List α) (pos : Nat), (∀ x ∈ xs, P x) → ∀ x ∈ sdn lt new start n xs pos, P x
  | 0, xs, pos, h, x, hx => by
    rw [sdn] at hx
    rcases mem_set_of hx with hx | rfl
    · exact h x hx
    · exact hn
  | n + 1, xs, pos, h, x, hx => by
    have hs : ∀ (a : α), P a → ∀ x ∈ xs.set pos a, P x := fun a ha x hx => by
      rcases mem_set_of hx with hx | rfl
      · exact h x hx
      · exact ha
    have hg : P (xs.getD ((pos - 1) / 2) new) := by
      rcases getD_or (xs := xs) (i := (pos - 1) / 2) (d := new) with h1 | h1
      · exact h _ h1
      · rw [h1]; exact hn
    rw [sdn] at hx
    split at hx
    · split at hx
      · exact sdn_all new start hn n _ _ (hs _ hg) x hx
      · exact hs _ hn x hx
    · exact hs _ hn x hx
theorem sup_all {P : α → Prop} (new : α) (start : Nat) (hn : P new) : ∀ (n : Nat) (xs : List α) (pos : Nat), (∀ x ∈ xs, P x) → ∀ x ∈ sup lt new start n xs pos, P x
  | 0, xs, pos, h, x, hx => by
    rw [sup] at hx
    refine sdn_all lt new start hn _ _ _ (fun x hx => ?_) x hx
    rcases mem_set_of hx with hx | rfl
    · exact h x hx
    · exact hn
  | n + 1, xs, pos, h, x, hx => by
    have hs : ∀ (a : α), P a → ∀ x ∈ xs.set pos a, P x := fun a ha x hx => by
      rcases mem_set_of hx with hx | rfl
      · exact h x hx
      · exact ha
    have hg : ∀ i : Nat, P (xs.getD i new) := fun i => by
      rcases getD_or (xs := xs) (i := i) (d := new) with h1 | h1
      · exact h _ h1
      · rw [h1]; exact hn
    rw [sup] at hx
    split at hx
    · exact sup_all new start hn n _ _ (hs _ (hg _)) x hx
    · exact sdn_all lt new start hn _ _ _ (hs _ hn) x hx
theorem hpush_all {P : α → Prop} {v : α} {vs : List α} (hv : P v) (h : ∀ x ∈ vs, P x) : ∀ x ∈ hpush lt v vs, P x :=
  sdn_all lt v 0 hv _ _ _ fun x hx => by
    rcases List.mem_append.mp hx with hx | hx
    · exact h x hx
    · rw [List.mem_singleton.mp hx]; exact hv
theorem hpop_all {P : α → Prop} {p : List α} {y : α} (hy : P y) (h : ∀ x ∈ p, P x) : P (hpop lt p y).1 ∧ ∀ x ∈ (hpop lt p y).2, P x := by
  cases p with
  | nil => exact ⟨hy, fun x hx => by cases hx⟩
  | cons a q =>
    refine ⟨h a (.head _), sup_all lt y 0 hy _ _ _ fun x hx => ?_⟩
    rcases List.mem_cons.mp hx with rfl | hx
    · exact hy
    · exact h x (.tail _ hx)
end
noncomputable def IsInt (v : Value) : Prop := ∃ i t, v = .int i t
theorem ints_of {vs : List Value} (h : ∀ v ∈ vs, IsInt v) : IntsAre vs (vs.map intOf) := by
  induction vs with
  | nil => exact .nil
  | cons v r ih =>
    obtain ⟨i, t, rfl⟩ := h _ (.head _)
    exact .cons i t (ih fun v hv => h v (.tail _ hv))
theorem ints_val {vs : List Value} {ns : List Int} (h : IntsAre vs ns) : (∀ v ∈ vs, IsInt v) ∧ vs.map intOf = ns := by
  induction h with
  | nil => exact ⟨fun v hv => (nomatch hv), rfl⟩
  | cons i t _ ih =>
    refine ⟨fun v hv => ?_, by rw [List.map_cons, ih.2]; rfl⟩
    rcases List.mem_cons.mp hv with rfl | hv
    · exact ⟨i, t, rfl⟩
    · exact ih.1 v hv
noncomputable def ltI (x y : Int) : Bool := decide (x < y)
noncomputable def ltV (x y : Value) : Bool := ltI (intOf x) (intOf y)
theorem cmp_int {prog : Program} {w : World} {g : Heap} : Cmp prog w ltV IsInt g := by
  rintro x y ⟨i, t, rfl⟩ ⟨j, u, rfl⟩ A s Q E hk hu h
  exact lt_int (h s.toks)
theorem push_ints {vs : List Value} {ns : List Int} {i : Int} {t : Tok} (h : IntsAre vs ns) : IntsAre (hpush ltV (.int i t) vs) (hpush ltI i ns) := by
  have ⟨h1, h2⟩ := ints_val h
  have := ints_of (hpush_all ltV (v := .int i t) ⟨i, t, rfl⟩ h1)
  rwa [hpush_map intOf (lt := ltV) (lt' := ltI) (fun _ _ => rfl), h2] at this
theorem pop_ints {p : List Value} {y : Value} {ns : List Int} {b : Int} (h : IntsAre p ns) (hy : ∃ t, y = .int b t) : (∃ t, (hpop ltV p y).1 = .int (hpop ltI ns b).1 t) ∧ IntsAre (hpop ltV p y).2 (hpop ltI ns b).2 := by
  have ⟨h1, h2⟩ := ints_val h
  obtain ⟨t, rfl⟩ := hy
  have a := hpop_all ltV (y := .int b t) ⟨b, t, rfl⟩ h1
  have e := hpop_map intOf (lt := ltV) (lt' := ltI) (fun _ _ => rfl) p (.int b t)
  rw [h2] at e
  refine ⟨?_, ?_⟩
  · obtain ⟨i, u, hi⟩ := a.1
    have e1 := e.1
    rw [hi] at e1 ⊢
    exact ⟨u, by rw [show i = _ from e1]; rfl⟩
  · have := ints_of a.2
    rwa [e.2] at this
end Mine
namespace Mine
section
variable {prog : Program} {w : World} {A : Around} {E : Value → Shared → Prop} {s : Shared} {h₀ : Heap} {L a b l : Addr} {m : Str → Option Value} {news : List (Addr × Obj)} {vs ws : List Value} {n k : Nat} {Q : Value → Shared → Prop}
theorem add_g (F : Fr h₀ L s.heap m) (N : News h₀ L s.heap news) (ha : (a, listOf vs.toArray n) ∈ news) (hb : (b, listOf ws.toArray k) ∈ news)
    (h : ∀ D h', Fr h₀ L h' m → News h₀ L h' ((D, listOf (vs ++ ws).toArray 0) :: news) → (∀ p ∈ news, p.1 < D) → Q (.ref D) { s with heap := h' })
    (hz : vs.length + ws.length ≤ 100000) : wpAny (model prog w) A (binaryOp .Add (.ref a) (.ref b)) Q E s :=
  kmk_add_lit (its := vs.toArray) (its2 := ws.toArray) F N (PySem.IsL.isList (n := n) (N _ ha).1) (PySem.IsL.isList (n := k) (N _ hb).1) rfl h (by rw [sizeLine_eq]; exact Nat.le_trans hz (by decide))
end
end Mine
namespace Mine
section
variable {prog : Program} {w : World} {A : Around} {E : Value → Shared → Prop} {s : Shared} {h₀ : Heap} {L a b l : Addr} {m : Str → Option Value} {news : List (Addr × Obj)} {vs ws : List Value} {n k : Nat} {t : Tok} {ops : List Value} {value slice : PySem.Expr} {Q : Value → Shared → Prop}
theorem but_g (F : Fr h₀ L s.heap m) (N : News h₀ L s.heap news) (hm : (l, listOf vs.toArray n) ∈ news) (hz : vs.length ≤ 100000)
    (h : ∀ D h', Fr h₀ L h' m → News h₀ L h' ((D, listOf vs.dropLast.toArray 0) :: news) → (∀ p ∈ news, p.1 < D) → Q (.ref D) { s with heap := h' })
    (hs : subscripted slice false (.ref l) (.ref s.heap.objs.size) = operate [.ref s.heap.objs.size, .ref l] (getItem (.ref l) (.ref s.heap.objs.size)) := by with_unfolding_all rfl) :
    wpAny (model prog w) A (subscriptTail value slice (.ref l) (.ref s.heap.objs.size)) Q E { s with heap := s.heap.push { cls := .type "slice", data := .fields #[.none, .int (-1) t, .none] } } :=
  kba_turn (value' := PySem.Expr.Name (PySem.Str.ofString "_") ⟨0, 0, 0, 0⟩) (fun _ => rfl) (kmk_slice_lit (its := vs.toArray) F N (PySem.IsL.isList (n := n) (N _ hm).1) .none (.int _ _) (pick_but _) h hs (fun _ => rfl) (by rw [sizeLine_eq, List.size_toArray]; exact Nat.le_trans hz (by decide)))
theorem upto_g (F : Fr h₀ L s.heap m) (N : News h₀ L s.heap news) (hm : (l, listOf vs.toArray n) ∈ news) (hz : vs.length ≤ 100000)
    (h : ∀ D h', Fr h₀ L h' m → News h₀ L h' ((D, listOf (vs.take k).toArray 0) :: news) → (∀ p ∈ news, p.1 < D) → Q (.ref D) { s with heap := h' })
    (hs : subscripted slice false (.ref l) (.ref s.heap.objs.size) = operate [.ref s.heap.objs.size, .ref l] (getItem (.ref l) (.ref s.heap.objs.size)) := by with_unfolding_all rfl) :
    wpAny (model prog w) A (subscriptTail value slice (.ref l) (.ref s.heap.objs.size)) Q E { s with heap := s.heap.push { cls := .type "slice", data := .fields #[.none, .int k t, .none] } } :=
  kba_turn (value' := PySem.Expr.Name (PySem.Str.ofString "_") ⟨0, 0, 0, 0⟩) (fun _ => rfl) (kmk_slice_lit (its := vs.toArray) F N (PySem.IsL.isList (n := n) (N _ hm).1) .none (.int _ _) (pick_upto _ _) h hs (fun _ => rfl) (by rw [sizeLine_eq, List.size_toArray]; exact Nat.le_trans hz (by decide)))
theorem from_g (F : Fr h₀ L s.heap m) (N : News h₀ L s.heap news) (hm : (l, listOf vs.toArray n) ∈ news) (hz : vs.length ≤ 100000)
    (h : ∀ D h', Fr h₀ L h' m → News h₀ L h' ((D, listOf (vs.drop k).toArray 0) :: news) → (∀ p ∈ news, p.1 < D) → Q (.ref D) { s with heap := h' })
    (hs : subscripted slice false (.ref l) (.ref s.heap.objs.size) = operate [.ref s.heap.objs.size, .ref l] (getItem (.ref l) (.ref s.heap.objs.size)) := by with_unfolding_all rfl) :
    wpAny (model prog w) A (subscriptTail value slice (.ref l) (.ref s.heap.objs.size)) Q E { s with heap := s.heap.push { cls := .type "slice", data := .fields #[.int k t, .none, .none] } } :=
  kba_turn (value' := PySem.Expr.Name (PySem.Str.ofString "_") ⟨0, 0, 0, 0⟩) (fun _ => rfl) (kmk_slice_lit (its := vs.toArray) F N (PySem.IsL.isList (n := n) (N _ hm).1) (.int _ _) .none (pick_from _ _) h hs (fun _ => rfl) (by rw [sizeLine_eq, List.size_toArray]; exact Nat.le_trans hz (by decide)))
theorem rev_g (F : Fr h₀ L s.heap m) (N : News h₀ L s.heap news) (hm : (l, listOf vs.toArray n) ∈ news) (hz : vs.length ≤ 100000)
    (h : ∀ D h', Fr h₀ L h' m → News h₀ L h' ((D, listOf vs.reverse.toArray 0) :: news) → (∀ p ∈ news, p.1 < D) → Q (.ref D) { s with heap := h' })
    (hs : subscripted slice false (.ref l) (.ref s.heap.objs.size) = operate ops (getItem (.ref l) (.ref s.heap.objs.size)) := by with_unfolding_all rfl) :
    wpAny (model prog w) A (subscriptTail value slice (.ref l) (.ref s.heap.objs.size)) Q E { s with heap := s.heap.push { cls := .type "slice", data := .fields #[.none, .none, .int (-1) t] } } :=
  kba_turn (value' := PySem.Expr.Name (PySem.Str.ofString "_") ⟨0, 0, 0, 0⟩) (fun _ => rfl) (krv_lit (its := vs.toArray) (zs := vs.reverse) F N (PySem.IsL.isList (n := n) (N _ hm).1) (.int _ _) rfl h hs (fun _ => rfl) (by rw [sizeLine_eq, List.size_toArray]; exact Nat.le_trans hz (by decide)))
end
end Mine
namespace Mine
/-- a fact that omega does not see -/
noncomputable def Hid (p : Prop) : Prop := p
theorem hid_l {a b : Nat} (h : Hid (@Ne Nat a b)) : a ≠ b := h
theorem hid_r {a b : Nat} (h : Hid (@Ne Nat b a)) : a ≠ b := Ne.symm h
theorem hid {p : Prop} (h : p) : Hid p := h
end Mine
namespace Mine
theorem off1_l {D a : Addr} {o : Obj} : ∀ {l : List (Addr × Obj)}, LCg.Off1 D l → (a, o) ∈ l → a ≠ D
  | p :: r, h, hm => by
    rcases List.mem_cons.mp hm with rfl | hm
    · exact h.1
    · exact off1_l h.2 hm
theorem off1_r {D a : Addr} {o : Obj} {l : List (Addr × Obj)} (h : LCg.Off1 D l) (hm : (a, o) ∈ l) : D ≠ a := (off1_l h hm).symm
end Mine
namespace Mine
theorem off1_of {D : Addr} : ∀ {l : List (Addr × Obj)}, (∀ p ∈ l, p.1 ≠ D) → LCg.Off1 D l
  | [], _ => trivial
  | p :: _, h => ⟨h p (.head _), off1_of fun q hq => h q (.tail _ hq)⟩
end Mine
-- B8
namespace Mine
noncomputable def rowOf (x : Nat) : List Nat := ((digs 1 x (figs x 1)).dropLast.reverse).map (fun i => 48 + i.toNat)
noncomputable def toldStep (gs : List Nat) (x : Int) (i : Nat) (h : List Int) : List Int := if subL (rowOf x.toNat ++ [48 + i]) gs then hpush ltI (2 * x + i) h else h
noncomputable def toldAt (gs : List Nat) (x : Int) (h : List Int) : Nat → List Int
  | 0 => h
  | i + 1 => toldStep gs x i (toldAt gs x h i)
noncomputable def toldRun (gs : List Nat) : Nat → List Int → List Int → Option (List Int)
  | 0, _, _ => none
  | f + 1, heap, told => match heap.getLast? with
    | none => some told
    | some y =>
      if 1 ≤ (hpop ltI heap.dropLast y).1 ∧ (hpop ltI heap.dropLast y).1 < 1048576 ∧ heap.length ≤ 500 ∧ told.length ≤ 500 then
        toldRun gs f (toldAt gs (hpop ltI heap.dropLast y).1 (hpop ltI heap.dropLast y).2 2) (told ++ [(hpop ltI heap.dropLast y).1])
      else none
theorem toldRun_step {gs : List Nat} {f : Nat} {p told R : List Int} {y : Int} (h : toldRun gs (f + 1) (p ++ [y]) told = some R) :
    1 ≤ (hpop ltI p y).1 ∧ (hpop ltI p y).1 < 1048576 ∧ p.length + 1 ≤ 500 ∧ told.length ≤ 500 ∧ toldRun gs f (toldAt gs (hpop ltI p y).1 (hpop ltI p y).2 2) (told ++ [(hpop ltI p y).1]) = some R := by
  rw [toldRun] at h
  rw [List.getLast?_concat, List.dropLast_concat] at h
  dsimp only at h
  split at h
  · rename_i hc
    refine ⟨hc.1, hc.2.1, ?_, hc.2.2.2, h⟩
    have := hc.2.2.1
    simpa using this
  · cases h
theorem ints_snoc {vs : List Value} {v : Value} {ns : List Int} (h : IntsAre (vs ++ [v]) ns) : ∃ ms i t, ns = ms ++ [i] ∧ v = .int i t ∧ IntsAre vs ms := by
  have ⟨h1, h2⟩ := ints_val h
  obtain ⟨i, t, e⟩ := h1 v (by simp)
  subst e
  refine ⟨vs.map intOf, i, t, ?_, rfl, ints_of fun v hv => h1 v (List.mem_append_left _ hv)⟩
  rw [← h2, List.map_append]; rfl
theorem row_length (x : Nat) : (rowOf x).length = figs x 1 - 1 := by
  unfold rowOf
  rw [List.length_map, List.length_reverse, List.length_dropLast, digs_length]
theorem row_sign {x c : Nat} (h : c ∈ rowOf x) : c ≠ 46 := by
  obtain ⟨i, _, rfl⟩ := List.mem_map.mp h
  omega
theorem ints_dropLast {vs : List Value} {ns : List Int} (h : IntsAre vs ns) : IntsAre vs.dropLast ns.dropLast := by
  rw [List.dropLast_eq_take, List.dropLast_eq_take, h.length]
  exact h.take _
theorem figs_bit {k x : Nat} {i : Int} (h : i ∈ digs 1 x k) : i = 0 ∨ i = 1 := by
  have := digs_figs 1 k x i h
  have h2 : (2 : Int) ^ 1 = 2 := by decide
  rw [h2] at this
  omega
theorem sdn_len {α : Type} {lt : α → α → Bool} {v : α} (st : Nat) : ∀ (n : Nat) (xs : List α) (pos : Nat), (sdn lt v st n xs pos).length = xs.length := by
  intro n
  induction n with
  | zero => intro xs pos; rw [sdn, List.length_set]
  | succ n ih =>
    intro xs pos
    rw [sdn]
    split
    · split
      · rw [ih, List.length_set]
      · rw [List.length_set]
    · rw [List.length_set]
theorem hpush_len {α : Type} {lt : α → α → Bool} {v : α} {vs : List α} : (hpush lt v vs).length = vs.length + 1 := by
  unfold hpush
  rw [sdn_len, List.length_append]; rfl
theorem sup_len {α : Type} {lt : α → α → Bool} {v : α} : ∀ (n : Nat) (xs : List α) (pos : Nat), (sup lt v 0 n xs pos).length = xs.length := by
  intro n
  induction n with
  | zero => intro xs pos; rw [sup, sdn_len, List.length_set]
  | succ n ih =>
    intro xs pos
    rw [sup]
    split
    · rw [ih, List.length_set]
    · rw [sdn_len, List.length_set]
theorem hpop_len {α : Type} {lt : α → α → Bool} {p : List α} {y : α} : (hpop lt p y).2.length = p.length := by
  cases p with
  | nil => rfl
  | cons x q =>
    show (sup lt y 0 (y :: q).length (y :: q) 0).length = _
    rw [sup_len]; rfl
theorem row_map (a : Nat) : (rowOf a).map one = ((digs 1 a (figs a 1)).dropLast.reverse).map (fun i => one (48 + i.toNat)) := by
  unfold rowOf; rw [List.map_map]; rfl
theorem want_short (r : List Nat) (c : Nat) : ∀ x ∈ [PySem.Str.ofString ""] ++ r.map one ++ [one c, PySem.Str.ofString ""], x.length ≤ 8 := by
  have h0 : (PySem.Str.ofString "").length = 0 := by decide
  have h1 : ∀ c, (one c).length = 1 := fun _ => rfl
  intro x hx
  simp only [List.mem_append, List.mem_cons, List.not_mem_nil, or_false, List.mem_map] at hx
  rcases hx with (rfl | ⟨a, _, rfl⟩) | rfl | rfl
  · rw [h0]; decide
  · rw [h1]; decide
  · rw [h1]; decide
  · rw [h0]; decide
theorem want_eq (r : List Nat) (i : Nat) : PySem.Txt.join (PySem.Str.ofString "...") ([PySem.Str.ofString ""] ++ r.map one ++ [one (48 + (i : Int).toNat), PySem.Str.ofString ""]) = wantOf (r ++ [48 + i]) := by
  unfold wantOf
  have e : PySem.Str.ofString "" = PySem.Str.empty := by decide
  rw [e, Int.toNat_natCast, List.map_append]
  simp
theorem want_sign (x i : Nat) : ∀ c ∈ rowOf x ++ [48 + i], c ≠ 46 := by
  intro c hc
  rcases List.mem_append.mp hc with hc | hc
  · exact row_sign hc
  · rw [List.mem_singleton.mp hc]; omega
end Mine
-- B9
namespace Mine
noncomputable def runsRun : Nat → Nat → Nat → List Int → Option (List Int)
  | 0, _, _, _ => none
  | f + 1, a, b, row =>
    if 0 < a + b then
      if a < 1048576 ∧ b < 1048576 ∧ row.length ≤ 200 ∧ a / (b + 1) ≤ 200 ∧ b / (a % (b + 1) + 1) ≤ 200 then
        runsRun f (a % (b + 1)) (b % (a % (b + 1) + 1)) (row ++ List.replicate (a / (b + 1)) 0 ++ List.replicate (b / (a % (b + 1) + 1)) 1)
      else none
    else some row
theorem runsRun_done {f a b : Nat} {row R : List Int} (h : runsRun (f + 1) a b row = some R) (hz : ¬ 0 < a + b) : row = R := by
  rw [runsRun, if_neg hz] at h
  exact Option.some.inj h
theorem runsRun_step {f a b : Nat} {row R : List Int} (h : runsRun (f + 1) a b row = some R) (hz : 0 < a + b) :
    (a < 1048576 ∧ b < 1048576 ∧ row.length ≤ 200 ∧ a / (b + 1) ≤ 200 ∧ b / (a % (b + 1) + 1) ≤ 200) ∧ runsRun f (a % (b + 1)) (b % (a % (b + 1) + 1)) (row ++ List.replicate (a / (b + 1)) 0 ++ List.replicate (b / (a % (b + 1) + 1)) 1) = some R := by
  rw [runsRun, if_pos hz] at h
  split at h
  · rename_i hc; exact ⟨hc, h⟩
  · cases h
theorem ints_rep (x : Int) (t : Tok) : ∀ k : Nat, IntsAre (List.replicate k (.int x t)) (List.replicate k x)
  | 0 => .nil
  | k + 1 => .cons x t (ints_rep x t k)
end Mine
-- B10
namespace Mine
section
variable {prog : Program} {w : World} {A : Around} {s : Shared} {env : Env} {h₀ : Heap} {target : PySem.Expr} {body : List Stmt} {Q : Flow → Shared → Prop}
/-- for, of any target, over a list that g bears -/
theorem turnsG_by {σ : Type} {l : Addr} {vs : List Value} {e : Nat} (vars : σ → List (Str × Value)) (Led : σ → List (Addr × Obj)) (Inv : Nat → σ → Prop) (c₀ : σ) {m₀ : Str → Option Value} {news₀ : List (Addr × Obj)}
    (hgo : ∀ it v, letOwnedTupleGo target it v = pure ()) (hh : A.handled = none) (hgl : h₀.get? l = some (listOf vs.toArray e)) (F : Fr h₀ env.locals s.heap m₀) (N : News h₀ env.locals s.heap news₀) (hL : ∀ p ∈ Led c₀, p ∈ news₀) (hk : VarsIn m₀ (vars c₀)) (hp : Inv 0 c₀)
    (turn : ∀ (I : Addr) (i : Nat) (c : σ) (v : Value) (it : Obj) (u : Str → Option Value) (h : Heap) (tk : Nat), (∀ q ∈ news₀, q.1 < I) → vs[i]? = some v → Inv i c → (∀ p ∈ Led c, p.1 ≠ I) → Fr h₀ env.locals h (kstB u (vars c)) → News h₀ env.locals h ((I, it) :: Led c) →
      wpAny (model prog w) A (assign target env v) (fun _ s₃ => wpAny (model prog w) A (execs body env) (FPost h₀ env.locals { s with heap := h, toks := tk } vars Led (Inv (i + 1)) [(I, it)] I Q) (fun _ _ => False) s₃) (fun _ _ => False) { s with heap := h, toks := tk })
    (done : ∀ (c : σ) (u : Str → Option Value) (h : Heap) (tk : Nat), Inv vs.length c → Fr h₀ env.locals h (kstB u (vars c)) → News h₀ env.locals h (Led c) → Q .next { s with heap := h, toks := tk }) :
    wpAny (model prog w) A (pyIter (.ref l)) (fun it s₂ => TurnsAt prog w A h₀ env target body Q (fun _ _ => False) it s₂) (fun _ _ => False) s := by
  have hls : s.heap.IsList l vs.toArray := PySem.IsL.isList (n := e) (F.keep _ _ hgl)
  refine wpAny_pyIter_list hls ?_
  have hlt : ∀ q ∈ news₀, q.1 < s.heap.objs.size := fun q hq => Heap.lt_size (N q hq).1
  have hll : l < s.heap.objs.size := Heap.lt_size (F.keep _ _ hgl)
  generalize hI : s.heap.objs.size = I at hlt hll ⊢
  have W := Walks.list (prog := prog) (w := w) hh I l (Nat.ne_of_lt hll) vs.toArray
  have hlen : vs.toArray.size = vs.length := List.size_toArray ..
  rw [hlen] at W
  have hI₀ : h₀.get? I = none := by
    cases e : h₀.get? I with
    | none => rfl
    | some o => exact absurd (Heap.lt_size (F.keep _ _ e)) (by rw [hI]; exact Nat.lt_irrefl _)
  have hLI : env.locals ≠ I := by rw [← hI]; exact Nat.ne_of_lt F.ns.lt
  have hLl : env.locals ≠ l := fun q => by
    have := Heap.get?_none_of_le F.above
    rw [q, hgl] at this; cases this
  have up : ∀ b o, s.heap.get? b = some o → (s.heap.push { cls := .type "list_iterator", data := .fields #[.ref l, .int 0 0] }).get? b = some o := fun b o e => Heap.get?_push_of_some _ e
  refine ⟨I, [I, l], [I], vs.length, fun i v _ => vs.toArray[i]? = some v, _, _, m₀, Led c₀, fun i m₁ news₁ => ∃ c, news₁ = Led c ∧ VarsIn m₁ (vars c) ∧ Inv i c, rfl, KTurns.ofWalks W (fun i v s Q E _ hq => by rw [hgo]; exact wpAny_pure hq), ?_, ?_, ?_, ⟨⟨_, by rw [← hI]; exact Heap.get?_push_size _ rfl, rfl, rfl⟩, hls.at fun o e => up _ o e⟩, F.keeps up, (News.sub N hL).grown up, ⟨c₀, rfl, hk, hp⟩, ?_, ?_⟩
  · intro hm
    rcases List.mem_cons.mp hm with e | hm
    · exact hLI e
    · exact hLl (List.mem_singleton.mp hm)
  · intro b hb
    rw [List.mem_singleton.mp hb]; exact hI₀
  · intro p hp hm
    exact Nat.lt_irrefl _ ((List.mem_singleton.mp hm) ▸ hlt p (hL p hp))
  · rintro i v m₁ news₁ h1 tk1 own hin hP ⟨c, rfl, hv, hinv⟩ hoff hown hget hall hst₁ F₁ N₁
    have hne : ∀ p ∈ Led c, p.1 ≠ I := fun p hp e => hoff p hp (by rw [e]; exact .head _)
    obtain ⟨it, hit, _⟩ := hst₁.1
    have hiI : (I, it) ∈ own := hall I (.head _) hI₀ _ hit
    have N₂ : News h₀ env.locals h1 ((I, it) :: Led c) := fun p hp => by
      rcases List.mem_cons.mp hp with rfl | hp
      · exact N₁ _ (List.mem_append_left _ hiI)
      · exact N₁ _ (List.mem_append_right _ hp)
    refine wpAny_mono (turn I i c v it m₁ h1 tk1 hlt (by simpa using hP) hinv hne (fr_kstB hv F₁) N₂) (fun _ s₃ h₃ => wpAny_mono h₃ (fun f s₂ p => ?_) fun _ _ e => e) fun _ _ e => e
    have fin : (∃ (c' : σ) (h' : Heap) (tk : Nat) (m' : Str → Option Value) (news' : List (Addr × Obj)), s₂ = { s with heap := h', toks := tk } ∧ Fr h₀ env.locals h' m' ∧ News h₀ env.locals h' news' ∧ (∀ p ∈ [(I, it)], p ∈ news') ∧ (∀ p ∈ Led c', p ∈ news') ∧ (∀ p ∈ Led c', p.1 ≠ I) ∧ VarsIn m' (vars c') ∧ Inv (i + 1) c') →
        ∃ h' tk m' news', s₂ = { s with heap := h', toks := tk } ∧ Fr h₀ env.locals h' m' ∧ News h₀ env.locals h' (own ++ news') ∧ (∀ p ∈ news', p.1 ∉ [I]) ∧ ∃ c, news' = Led c ∧ VarsIn m' (vars c) ∧ Inv (i + 1) c := by
      rintro ⟨c', h', tk, m', news', e, F', N', ho, hL', hLI', hv', hinv'⟩
      refine ⟨h', tk, m', Led c', e, F', fun p hp => ?_, fun p hp hm => hLI' p hp (List.mem_singleton.mp hm), c', rfl, hv', hinv'⟩
      rcases List.mem_append.mp hp with hp | hp
      · have h2 : h1.get? p.1 = some p.2 := hget p hp
        rcases List.mem_cons.mp (hown p hp) with h3 | h3
        · have : p = (I, it) := by
            rw [h3, hit] at h2
            exact Prod.ext h3 (Option.some.inj h2).symm
          rw [this]; exact N' _ (ho _ (.head _))
        · have h4 := (N₁ p (List.mem_append_left _ hp)).2.2
          rw [List.mem_singleton.mp h3, hgl] at h4; cases h4
      · exact N' _ (hL' _ hp)
    cases f with
    | ret v => exact p
    | brk => exact p
    | next =>
      obtain ⟨h', tk, m', news', a, b, c, d, e⟩ := fin p
      exact ⟨rfl, h', tk, m', news', a, b, c, d, e⟩
    | cont =>
      obtain ⟨h', tk, m', news', a, b, c, d, e⟩ := fin p
      exact ⟨rfl, h', tk, m', news', a, b, c, d, e⟩
  · rintro h' tk m' news' F' N' _ ⟨c, rfl, hv, hinv⟩
    exact done c m' h' tk hinv (fr_kstB hv F') N'
end
noncomputable def struckNext (ns : List Int) (f : Int) : List Int := ns ++ (ns.map (fun n => 2 * n + f)).filter (fun n => !ns.any (· == n))
theorem struck_take {fs : List Int} {i : Nat} {x : Int} (h : fs[i]? = some x) (s : List Int) : (fs.take (i + 1)).foldl struckNext s = struckNext ((fs.take i).foldl struckNext s) x := by
  rw [List.take_add_one, h, List.foldl_append]; rfl
structure StrSt where
  nl : Addr
  nv : List Value
  ne : Nat
  ns : List Int
  oF : Obj
  oN : Obj
theorem notIn_g {prog : Program} {w : World} {A : Around} {E : Value → Shared → Prop} {s : Shared} {h₀ : Heap} {L l : Addr} {news : List (Addr × Obj)} {vs : List Value} {ns : List Int} {n : Nat} {k : Int} {t : Tok} {Q : Value → Shared → Prop}
    (N : News h₀ L s.heap news) (hm : (l, listOf vs.toArray n) ∈ news) (hI : IntsAre vs ns) (h : Q (.bool (!ns.any (· == k))) s) : wpAny (model prog w) A (compareOp .NotIn (.int k t) (.ref l)) Q E s := by
  refine SeqRoads2.notIn_list (fun y => intOf y == k) (fun y hy => ?_) (N _ hm).1 ?_
  · obtain ⟨i, u, rfl⟩ := (ints_val hI).1 y (by simpa using hy)
    exact MeetsSeq.EqGives.int i k u t
  · have e : vs.toArray.any (fun y => intOf y == k) = ns.any (· == k) := by
      rw [← (ints_val hI).2, List.any_map, List.any_toArray]; rfl
    rw [e]; exact h
end Mine
-- B11
namespace Mine
noncomputable def codes (fs : List Int) : List Nat := fs.map (fun x => 48 + x.toNat)
noncomputable def frontOf (n : Nat) : Nat := n / 2 ^ (bitsOf n - 2) % 2
noncomputable def endOf (n : Int) : Int × Int := ((frontOf n.toNat : Nat), (n.toNat % 2 : Nat))
noncomputable def cnt (R : List Int) (f b : Nat) : Nat := (R.drop 1).countP (fun n => frontOf n.toNat == f && n.toNat % 2 == b)
structure Fact (fs R B : List Int) : Prop where
  told : toldRun (codes fs) 80 [1] [] = some R
  perm : R.isPerm (fs.foldl struckNext [1]) = true
  sort : R.Pairwise (· ≤ ·)
  len : R.length ≤ 60
  big : ∀ n ∈ R.drop 1, 2 ≤ n ∧ n < 1048576
  runs : runsRun 20 (cnt R 0 0 + cnt R 0 1) (cnt R 1 0 + cnt R 1 1) [] = some fs
  back : runsRun 20 (cnt R 0 0 + cnt R 1 0) (cnt R 0 1 + cnt R 1 1) [] = some B
  fig : ∀ d ∈ B, 0 ≤ d ∧ d < 2
  blen : B.length ≤ 20
  last : R.getLast? = some (valI 1 (B ++ [1]))
  due : ∀ f ∈ [0, 1], ∀ l ∈ [0, 1], (1 + (cnt R f 0 + cnt R f 1)) * (1 + (cnt R 0 l + cnt R 1 l)) / (R.length + 1) = cnt R f l ∧ (1 + (cnt R f 0 + cnt R f 1)) * (1 + (cnt R 0 l + cnt R 1 l)) % (R.length + 1) = (if f = l then 1 else R.length)
noncomputable def sortedB : List Int → Bool
  | a :: b :: r => decide (a ≤ b) && sortedB (b :: r)
  | _ => true
theorem sortedB_pw : ∀ {l : List Int}, sortedB l = true → l.Pairwise (· ≤ ·)
  | [], _ => .nil
  | [_], _ => List.pairwise_singleton _ _
  | a :: b :: r, h => by
    simp only [sortedB, Bool.and_eq_true, decide_eq_true_eq] at h
    have := sortedB_pw h.2
    refine List.pairwise_cons.mpr ⟨fun x hx => ?_, this⟩
    rcases List.mem_cons.mp hx with rfl | hx
    · exact h.1
    · exact Int.le_trans h.1 ((List.pairwise_cons.mp this).1 x hx)
noncomputable def okB (fs R B : List Int) : Bool :=
  R.isPerm (fs.foldl struckNext [1]) && sortedB R && decide (R.length ≤ 60) && (R.drop 1).all (fun n => decide (2 ≤ n) && decide (n < 1048576)) &&
  B.all (fun d => decide (0 ≤ d) && decide (d < 2)) && decide (B.length ≤ 20) && (R.getLast? == some (valI 1 (B ++ [1]))) &&
  [0, 1].all (fun f => [0, 1].all fun l => (1 + (cnt R f 0 + cnt R f 1)) * (1 + (cnt R 0 l + cnt R 1 l)) / (R.length + 1) == cnt R f l && ((1 + (cnt R f 0 + cnt R f 1)) * (1 + (cnt R 0 l + cnt R 1 l)) % (R.length + 1) == (if f = l then 1 else R.length)))
noncomputable def okW (fs : List Int) : Bool := match toldRun (codes fs) 80 [1] [] with
  | none => false
  | some R => match runsRun 20 (cnt R 0 0 + cnt R 1 0) (cnt R 0 1 + cnt R 1 1) [] with
    | none => false
    | some B => (runsRun 20 (cnt R 0 0 + cnt R 0 1) (cnt R 1 0 + cnt R 1 1) [] == some fs) && okB fs R B
noncomputable def words : Nat → List (List Int)
  | 0 => [[]]
  | k + 1 => (words k).map (0 :: ·) ++ (words k).map (1 :: ·)
theorem mem_words : ∀ {fs : List Int}, (∀ x ∈ fs, x = 0 ∨ x = 1) → fs ∈ words fs.length
  | [], _ => .head _
  | x :: r, h => by
    have ih := mem_words (fs := r) fun y hy => h y (.tail _ hy)
    show x :: r ∈ (words r.length).map (0 :: ·) ++ (words r.length).map (1 :: ·)
    rcases h x (.head _) with rfl | rfl
    · exact List.mem_append_left _ (List.mem_map.mpr ⟨r, ih, rfl⟩)
    · exact List.mem_append_right _ (List.mem_map.mpr ⟨r, ih, rfl⟩)
theorem ok4 : (words 4).all okW = true := by decide +kernel
theorem ok5 : (words 5).all okW = true := by decide +kernel
theorem ok6 : (words 6).all okW = true := by decide +kernel
theorem fact_of {fs : List Int} (h : ∀ x ∈ fs, x = 0 ∨ x = 1) (h4 : 4 ≤ fs.length) (h6 : fs.length ≤ 6) : ∃ R B, Fact fs R B := by
  have hm := mem_words h
  have hw : okW fs = true := by
    have hc : fs.length = 4 ∨ fs.length = 5 ∨ fs.length = 6 := by omega
    rcases hc with e | e | e <;> rw [e] at hm
    · exact List.all_eq_true.mp ok4 _ hm
    · exact List.all_eq_true.mp ok5 _ hm
    · exact List.all_eq_true.mp ok6 _ hm
  unfold okW at hw
  cases e1 : toldRun (codes fs) 80 [1] [] with
  | none => rw [e1] at hw; cases hw
  | some R =>
    rw [e1] at hw
    dsimp only at hw
    cases e2 : runsRun 20 (cnt R 0 0 + cnt R 1 0) (cnt R 0 1 + cnt R 1 1) [] with
    | none => rw [e2] at hw; cases hw
    | some B =>
      rw [e2] at hw
      simp only [okB, Bool.and_eq_true, beq_iff_eq, decide_eq_true_eq, List.all_eq_true] at hw
      obtain ⟨a, ⟨⟨⟨⟨⟨⟨b, c⟩, d⟩, e⟩, f⟩, g⟩, i⟩, j⟩ := hw
      exact ⟨R, B, e1, b, sortedB_pw c, d, fun n hn => e n hn, a, e2, fun n hn => f n hn, g, i, j⟩
theorem perm_sorted {l r : List Int} (h : l.Perm r) (a : l.Pairwise (· ≤ ·)) (b : r.Pairwise (· ≤ ·)) : l = r :=
  List.Perm.eq_of_pairwise (fun x y _ _ h1 h2 => Int.le_antisymm h1 h2) a b h
end Mine
-- B12
section
open PySem.Builtin PySem.Builtin.Str
namespace Mine
theorem join_flat : ∀ cs : List Nat, (PySem.Str.join (PySem.Str.ofString "") (cs.map one)).cps.toList = cs
  | [] => by decide
  | [c] => rfl
  | c :: d :: r => by
    have ih := join_flat (d :: r)
    show ((one c) ++ (PySem.Str.ofString "") ++ PySem.Str.join (PySem.Str.ofString "") ((d :: r).map one)).cps.toList = _
    rw [PySem.Str.cps_append, PySem.Str.cps_append, Array.toList_append, Array.toList_append, ih]
    rfl
theorem join_str (cs : List Nat) : PySem.Txt.join (PySem.Str.ofString "") (cs.map one) = strOf cs := by
  unfold Txt.join
  rw [StrLaws.glued_eq_join]
  apply PySem.Str.ext'
  apply Array.toList_inj.mp
  rw [join_flat]; rfl
theorem codes_map (fs : List Int) : (codes fs).map one = fs.map (fun x => one (48 + x.toNat)) := by
  unfold codes; rw [List.map_map]; rfl
abbrev pairO (x y : Int) (u1 u2 : Tok) : Obj := { cls := .type "tuple", data := .seq #[.int x u1, .int y u2] 0 }
/-- the values are pairs that the ledger bears -/
inductive PairsIn (ts : List (Addr × Obj)) : List Value → List (Int × Int) → Prop
  | nil : PairsIn ts [] []
  | cons {a : Addr} {x y : Int} {t u : Tok} {vs : List Value} {ps : List (Int × Int)} : (a, pairO x y t u) ∈ ts → PairsIn ts vs ps → PairsIn ts (.ref a :: vs) ((x, y) :: ps)
theorem PairsIn.mono {ts us : List (Addr × Obj)} (k : ∀ p ∈ ts, p ∈ us) {vs : List Value} {ps : List (Int × Int)} (x : PairsIn ts vs ps) : PairsIn us vs ps := by
  induction x with
  | nil => exact .nil
  | cons e _ ih => exact .cons (k _ e) ih
theorem PairsIn.length {ts : List (Addr × Obj)} {vs : List Value} {ps : List (Int × Int)} (x : PairsIn ts vs ps) : vs.length = ps.length := by
  induction x with
  | nil => rfl
  | cons _ _ ih => simp [ih]
theorem PairsIn.app {ts : List (Addr × Obj)} {vs ws : List Value} {ps qs : List (Int × Int)} (x : PairsIn ts vs ps) (y : PairsIn ts ws qs) : PairsIn ts (vs ++ ws) (ps ++ qs) := by
  induction x with
  | nil => exact y
  | cons e _ ih => exact .cons e ih
theorem bits_two {n : Nat} (h : (2 : Int) ≤ n) : 2 ≤ Builtin.Int.intBits (n : Int) := by
  show 2 ≤ bitsOf n
  rcases Nat.lt_or_ge (bitsOf n) 2 with h1 | h1
  · have h2 := bitsOf_lt n
    have h3 : 2 ^ bitsOf n ≤ 2 ^ 1 := Nat.pow_le_pow_right (by decide) (by omega)
    omega
  · exact h1
theorem end_eq {n : Nat} : endOf (n : Int) = (((n : Int).fdiv (2 ^ ((Builtin.Int.intBits (n : Int) : Int) - 2).toNat)).fmod 2, (n : Int).fmod 2) := by
  unfold endOf frontOf
  have e : ((Builtin.Int.intBits (n : Int) : Int) - 2).toNat = bitsOf n - 2 := by
    show ((bitsOf n : Int) - 2).toNat = _
    omega
  have p : (0 : Int) ≤ 2 ^ (bitsOf n - 2) := Int.pow_nonneg (by decide)
  rw [e, Int.toNat_natCast, Int.fdiv_eq_ediv_of_nonneg _ p, Int.fmod_eq_emod_of_nonneg _ (by decide), Int.fmod_eq_emod_of_nonneg _ (by decide)]
  push_cast
  rfl
section
variable {prog : Program} {w : World} {A : Around} {h₀ : Heap} {L : Addr} {m : Str → Option Value} {env : Env} {elt ct : Expr} {x : Str} {scope : Scope} {cl : List (Str × Addr)} {s : Shared} {S : List (Addr × Obj) → Prop} {P : Nat → Value → Prop} {Fin : List Value → List (Addr × Obj) → Prop} {news : List (Addr × Obj)}
theorem comp_restN {n : Nat} (Inv : Nat → List Value → List (Addr × Obj) → Prop) (h0 : Inv 0 [] news)
    (turn : ∀ i v I oI C oC D m₂ ys nw h tk (E' : Value → Shared → Prop), i < n → P i v → Inv i ys nw → LCg.NsObj oC m₂ → m₂ x = some v → Fr h₀ L h m → News h₀ L h ((I, oI) :: (C, oC) :: (D, LCg.lst ys) :: nw) → LCg.Off3 I C D nw →
      wpAny (model prog w) A (eval elt (compEnvC scope cl C env)) (LCg.CompEnd h₀ L m { s with heap := h, toks := tk } I oI C oC D (LCg.lst ys) S (fun y news' => Inv (i + 1) (ys ++ [y]) news')) E' { s with heap := h, toks := tk })
    (fin : ∀ ys nw, Inv n ys nw → Fin ys nw) : LCg.CompRest prog w A h₀ L m env elt x scope cl s S P Fin n 0 [] news := by
  have key : ∀ (j i : Nat) (ys : List Value) (nw : List (Addr × Obj)), i + j = n → Inv i ys nw → LCg.CompRest prog w A h₀ L m env elt x scope cl s S P Fin j i ys nw := by
    intro j
    induction j with
    | zero =>
      intro i ys nw hi hy
      have e : i = n := by omega
      subst e
      exact LCg.CompRest.zero (fin ys nw hy)
    | succ j ih =>
      intro i ys nw hi hy
      refine LCg.CompRest.succ ?_
      intro v I oI C oC D m₂ h tk E' hv hC hx F N off ne
      refine wpAny_mono (turn i v I oI C oC D m₂ ys nw h tk E' (by omega) hv hy hC hx F N off) (fun y s₂ hq => ?_) fun _ _ e => e
      obtain ⟨h', tk', nw', e, F', N', off', hS, hy'⟩ := hq
      exact ⟨h', tk', nw', e, F', N', off', hS, ih (i + 1) _ nw' (by omega) hy'⟩
  exact key n 0 [] news (by omega) h0
end
end Mine
end
-- B13
section
open PyProof.Rows.LCg
namespace Mine
/-- a comprehension whose letter is a cell: what is left of it -/
noncomputable def CompRestC (prog : Program) (w : World) (A : Around) (h₀ : Heap) (L : Addr) (m : Str → Option Value) (env : Env) (elt : Expr) (x : Str) (scope : Scope) (cl : List (Str × Addr)) (s : Shared) (S : List (Addr × Obj) → Prop) (P : Nat → Value → Prop)
    (Fin : List Value → List (Addr × Obj) → Prop) : Nat → Nat → List Value → List (Addr × Obj) → Prop
  | 0, _, ys, news => Fin ys news
  | k + 1, i, ys, news => ∀ v I oI C oC K oK D h tk (E' : Value → Shared → Prop), P i v → oK.data = Data.cell (some v) → Fr h₀ L h m → News h₀ L h ((I, oI) :: (C, oC) :: (D, lst ys) :: (K, oK) :: news) → Off3 I C D ((K, oK) :: news) → (∀ p ∈ news, p.1 ≠ K) →
      wpAny (model prog w) A (eval elt (compEnvC scope ((x, K) :: cl) C env)) (CompEnd h₀ L m { s with heap := h, toks := tk } I oI C oC D (lst ys) (fun nw => ∃ nw', nw = (K, oK) :: nw' ∧ S nw' ∧ ∀ p ∈ nw', p.1 ≠ K)
        (fun y nw => ∀ nw', nw = (K, oK) :: nw' → CompRestC prog w A h₀ L m env elt x scope cl s S P Fin k (i + 1) (ys ++ [y]) nw')) E' { s with heap := h, toks := tk }
theorem relabel_cell {env : Env} : ∀ {names : List (Str × NameKind)} {x : Str}, names.lookup x = some .cell →
    (names.map fun (n, k) => if (k == NameKind.free && env.scope.kind == .function && env.kindOf n == some .cell) then (n, NameKind.cell) else (n, k)).lookup x = some .cell
  | [], _, h => by simp at h
  | (n, k) :: r, x, h => by
    have ih := @relabel_cell env r x
    rw [List.map_cons]
    by_cases hx : x = n
    · subst hx
      rw [List.lookup_cons_self] at h
      cases h
      show List.lookup x ((x, NameKind.cell) :: _) = _
      rw [List.lookup_cons_self]
    · have hb : (x == n) = false := by simpa using hx
      have h' : List.lookup x r = some .cell := by rw [List.lookup_cons, hb] at h; exact h
      show List.lookup x ((if (k == NameKind.free && env.scope.kind == .function && env.kindOf n == some .cell) = true then (n, NameKind.cell) else (n, k)) :: _) = _
      by_cases hc : (k == NameKind.free && env.scope.kind == .function && env.kindOf n == some .cell) = true
      · rw [if_pos hc]; simp only [List.lookup_cons, hb]; exact ih h'
      · rw [if_neg hc]; simp only [List.lookup_cons, hb]; exact ih h'
section
variable {prog : Program} {w : World} {A : Around} {E : Value → Shared → Prop} {s : Shared} {h₀ : Heap} {L : Addr} {m : Str → Option Value} {env : Env}
theorem block_C {elt iter : Expr} {x : Str} {px : Pos} {scope : Scope} {cl : List (Str × Addr)} {pos : Pos} {s₂ : Shared} {I : Addr} {fp : List Addr} {n : Nat} {P : Nat → Value → Prop} {St : Nat → Heap → Prop} {S : List (Addr × Obj) → Prop} {news : List (Addr × Obj)}
    {Fin : List Value → List (Addr × Obj) → Prop} {RR : Value → Addr → Result → Shared → Prop}
    (W : Walks prog w A I fp [I] n P St) (hsz : n ≤ sizeLine) (hIo : ∀ i h, St i h → ∃ o, h.get? I = some o)
    (hSt : ∀ i h h' o nw, St i h → h.get? I = some o → h'.get? I = some o → (∀ b o, h₀.get? b = some o → h'.get? b = some o) → News h₀ L h' nw → S nw → St i h')
    (hcf : ∀ k, cellsFrom k scope.names cl = (x, k) :: cl) (hpc : ∀ h : Heap, pushCells h scope.names = h.push { cls := .type "cell", data := .cell none })
    (hkind : scope.kind = .function) (hx : scope.names.lookup x = some .cell) (hst : St 0 s₂.heap) (hfp : ∀ b ∈ fp, b < s₂.heap.objs.size)
    (F : Fr h₀ L s₂.heap m) (N : News h₀ L s₂.heap news) (hIL : L ≠ I) (hI₀ : h₀.get? I = none) (off : ∀ p ∈ news, p.1 ≠ I) (hS : S news)
    (R : CompRestC prog w A h₀ L m env elt x scope cl s₂ S P Fin n 0 [] news)
    (hRR : ∀ D C h tk m' ys news', Fr h₀ L h m → News h₀ L h ((D, lst ys) :: news') → Off1 D news' → h.Ns C m' → h₀.get? C = none → h₀.get? D = none → C ≠ L → D ≠ L → C ≠ D → (∀ p ∈ news', p.1 ≠ C) → Fin ys news' → RR (.ref D) C (.ok .next) { s₂ with heap := h, toks := tk }) :
    wpAny (model prog w) A (newList []) (fun acc s₃ => wpAny (model prog w) A (newFunctionEnv scope env.globals cl [] env.qual none .none (some env)) (fun cenv s₄ =>
      codeAny (model prog w) A (.compStart (.ListComp elt [⟨.Name x px, iter, [], 0⟩] scope pos) 0 (.ref I) acc { cenv with scope := relabel scope env }) (RR acc cenv.locals) s₄) E s₃) E s₂ := by
  refine wpAny_newObj_type ?_
  generalize hH2 : s₂.heap.push { cls := .type "list", dict := none, data := .seq ([] : List Value).toArray } = H2
  simp only [newFunctionEnv, Option.isSome_some, if_true]
  refine wpAny_bind (wpAny_alloc ?_)
  dsimp only
  generalize hH3 : H2.push { cls := .type "dict", data := .dict #[] } = H3
  refine wpAny_bind (wpAny_layCells _ (fun name kind cells => by cases hkc : kind == NameKind.cell <;> simp) _ _ _ _ ?_)
  dsimp only
  rw [hcf, hpc]
  generalize hH4 : H3.push { cls := .type "cell", data := .cell none } = h₁
  refine wpAny_bind ?_
  rw [List.forIn_nil]
  refine wpAny_pure (wpAny_pure ?_)
  dsimp only
  have hC : H2.objs.size = s₂.heap.objs.size + 1 := by rw [← hH2, Heap.size_push]
  have hK : H3.objs.size = s₂.heap.objs.size + 2 := by rw [← hH3, Heap.size_push, hC]
  have hDC : s₂.heap.objs.size ≠ H2.objs.size := by rw [hC]; exact Nat.ne_of_lt (Nat.lt_succ_self _)
  have hDK : s₂.heap.objs.size ≠ H3.objs.size := by rw [hK]; exact Nat.ne_of_lt (by omega)
  have hCK : H2.objs.size ≠ H3.objs.size := by rw [hC, hK]; exact Nat.ne_of_lt (by omega)
  have below : ∀ b, b < s₂.heap.objs.size → b ≠ H2.objs.size ∧ b ≠ s₂.heap.objs.size ∧ b ≠ H3.objs.size := fun b hb => ⟨by rw [hC]; exact Nat.ne_of_lt (Nat.lt_succ_of_lt hb), Nat.ne_of_lt hb, by rw [hK]; exact Nat.ne_of_lt (by omega)⟩
  have hDf : s₂.heap.objs.size ∉ fp := fun hm => Nat.lt_irrefl _ (hfp _ hm)
  have hKf : H3.objs.size ∉ fp := fun hm => by have := hfp _ hm; rw [hK] at this; exact absurd this (Nat.not_lt.mpr (Nat.le_add_right _ _))
  have hIf : I ∈ fp := W.sub I (List.mem_singleton.mpr rfl)
  have hIlt : I < s₂.heap.objs.size := hfp I hIf
  have old2 : ∀ b o, s₂.heap.get? b = some o → H2.get? b = some o := fun b o e => hH2 ▸ Heap.get?_push_of_some _ e
  have old3 : ∀ b o, H2.get? b = some o → H3.get? b = some o := fun b o e => hH3 ▸ Heap.get?_push_of_some _ e
  have old4 : ∀ b o, H3.get? b = some o → h₁.get? b = some o := fun b o e => hH4 ▸ Heap.get?_push_of_some _ e
  have old : ∀ b o, s₂.heap.get? b = some o → h₁.get? b = some o := fun b o e => old4 _ _ (old3 _ _ (old2 _ _ e))
  have hacc : h₁.get? s₂.heap.objs.size = some (lst []) := old4 _ _ (old3 _ _ (hH2 ▸ Heap.get?_push_size _ rfl))
  have hns₁ : h₁.Ns H2.objs.size (fun _ => none) := (hH3 ▸ Heap.Ns.new H2 _ : H3.Ns H2.objs.size fun _ => none).at' fun o e => old4 _ _ e
  have hkc₁ : h₁.get? H3.objs.size = some { cls := .type "cell", data := .cell none } := hH4 ▸ Heap.get?_push_size _ rfl
  have hst₁ : St 0 h₁ := W.frame _ _ _ hst fun b _ o e => old b o e
  have fresh : ∀ a, s₂.heap.objs.size ≤ a → s₂.heap.get? a = none := fun a ha => by
    cases e : s₂.heap.get? a with
    | none => rfl
    | some o' => exact absurd (Heap.lt_size e) (Nat.not_lt.mpr ha)
  have fresh₀ : ∀ a, s₂.heap.objs.size ≤ a → h₀.get? a = none := fun a ha => by
    cases e : h₀.get? a with
    | none => rfl
    | some o' => have := F.keep a o' e; rw [fresh a ha] at this; cases this
  have hD₀ : h₀.get? s₂.heap.objs.size = none := fresh₀ _ (Nat.le_refl _)
  have hC₀ : h₀.get? H2.objs.size = none := fresh₀ _ (by rw [hC]; exact Nat.le_succ _)
  have hK₀ : h₀.get? H3.objs.size = none := fresh₀ _ (by rw [hK]; omega)
  have hLlt : L < s₂.heap.objs.size := F.ns.lt
  have hDL : s₂.heap.objs.size ≠ L := Ne.symm (below L hLlt).2.1
  have hCL : H2.objs.size ≠ L := Ne.symm (below L hLlt).1
  have hKL : H3.objs.size ≠ L := Ne.symm (below L hLlt).2.2
  have hCI : I ≠ H2.objs.size := (below I hIlt).1
  have hDI : I ≠ s₂.heap.objs.size := (below I hIlt).2.1
  have hKI : I ≠ H3.objs.size := (below I hIlt).2.2
  have off₀ : Off3 I H2.objs.size s₂.heap.objs.size news := Off3.of fun p hp => ⟨off p hp, (below _ (Heap.lt_size (N p hp).1)).1, (below _ (Heap.lt_size (N p hp).1)).2.1⟩
  have offK₀ : ∀ p ∈ news, p.1 ≠ H3.objs.size := fun p hp => (below _ (Heap.lt_size (N p hp).1)).2.2
  have loop : ∀ s₃ : Shared, s₃ = { s₂ with heap := h₁ } →
      codeAny (model prog w) A (.compLoop (.ListComp elt [⟨.Name x px, iter, [], 0⟩] scope pos) 0 (.ref I) (.ref s₂.heap.objs.size) (compEnvC scope ((x, H3.objs.size) :: cl) H2.objs.size env))
        (RR (.ref s₂.heap.objs.size) H2.objs.size) s₃ := by
    rintro s₃ rfl
    refine codeAny_compLoop_tests
      (fun k s' => ∃ h' tk i ys m' oK vK news', s' = { s₂ with heap := h', toks := tk } ∧ i ≤ n ∧ k = n + 1 - i ∧ ys.length = i ∧ St i h' ∧ Fr h₀ L h' m ∧ h'.Ns H2.objs.size m' ∧ News h₀ L h' ((s₂.heap.objs.size, lst ys) :: (H3.objs.size, oK) :: news') ∧ oK.data = Data.cell vK ∧
        Off3 I H2.objs.size s₂.heap.objs.size news' ∧ (∀ p ∈ news', p.1 ≠ H3.objs.size) ∧ S news' ∧ CompRestC prog w A h₀ L m env elt x scope cl s₂ S P Fin (n - i) i ys news') ?_ (n + 1)
      ⟨h₁, _, 0, [], _, { cls := .type "cell", data := .cell none }, none, news, rfl, Nat.zero_le _, rfl, rfl, hst₁, F.keeps old, hns₁, fun p hp => ?_, rfl, off₀, offK₀, hS, R⟩
    · rintro k s' ⟨h', tk, i, ys, m', oK, vK, news', rfl, hi, rfl, hyl, hst', F', hn', N', hdK, off', offK', hS', R'⟩
      have off3 := off'.mem
      by_cases hlt : i < n
      · obtain ⟨j, hj⟩ : ∃ j, n - i = j + 1 := ⟨n - i - 1, by omega⟩
        rw [hj] at R'
        refine W.item i _ _ _ hlt hst' fun v h₂ tk₂ hPv hst₂ hk₂ => ?_
        have zK : h₂.get? H3.objs.size = some oK := hk₂ _ _ (by simpa using Ne.symm hKI) (N' _ (.tail _ (.head _))).1
        refine wpAny_assign_Name (wpAny_storeName_cell (c := H3.objs.size) (by simp [compEnvC, relabel, hkind]) (relabel_cell hx) (by simp [compEnvC]) ⟨oK, zK, hdK⟩ (fun h₃ hv₃ hs₃ => ?_))
        obtain ⟨oK', hoK', hdK'⟩ := hv₃
        refine wpAny_tests_nil ?_
        simp only [if_true]
        have hst₃ : St (i + 1) h₃ := W.frame _ _ _ hst₂ fun b hb o e => hs₃.extBut b o (fun q => hKf (by have q' : b = H3.objs.size := q; rw [← q']; exact hb)) e
        obtain ⟨oI, heI⟩ := hIo _ _ hst₃
        have hn₃ : h₃.Ns H2.objs.size m' := (hn'.at' fun o e => hk₂ _ o (by simpa using Ne.symm hCI) e : h₂.Ns H2.objs.size m').sameBut hs₃ hCK
        obtain ⟨oC, heC, hoC⟩ := ns_obj hn₃
        have F₃ : Fr h₀ L h₃ m := (fr_but F' hk₂ hIL hI₀).change hs₃ hKL hK₀
        have N₂ : News h₀ L h₂ ((s₂.heap.objs.size, lst ys) :: news') := news_but (News.sub N' (fun p hp => by
          rcases List.mem_cons.mp hp with rfl | hp
          · exact .head _
          · exact .tail _ (.tail _ hp))) hk₂ fun p hp => by
          rcases List.mem_cons.mp hp with rfl | hp
          · exact Ne.symm hDI
          · exact (off3 p hp).1
        have N₃ : News h₀ L h₃ ((I, oI) :: (H2.objs.size, oC) :: (s₂.heap.objs.size, lst ys) :: (H3.objs.size, oK') :: news') := fun p hp => by
          rcases List.mem_cons.mp hp with rfl | hp
          · exact ⟨heI, Ne.symm hIL, hI₀⟩
          · rcases List.mem_cons.mp hp with rfl | hp
            · exact ⟨heC, hCL, hC₀⟩
            · rcases List.mem_cons.mp hp with rfl | hp
              · exact ⟨hs₃.extBut _ _ hDK (N₂ _ (.head _)).1, (N₂ _ (.head _)).2⟩
              · rcases List.mem_cons.mp hp with rfl | hp
                · exact ⟨hoK', hKL, hK₀⟩
                · exact ⟨hs₃.extBut _ _ (offK' p hp) (N₂ p (.tail _ hp)).1, (N₂ p (.tail _ hp)).2⟩
        refine wpAny_mono (R' v I oI H2.objs.size oC H3.objs.size oK' s₂.heap.objs.size h₃ _ _ hPv hdK' F₃ N₃ ⟨⟨Ne.symm hKI, Ne.symm hCK, Ne.symm hDK⟩, off'⟩ offK') (fun y s₄ h₄ => ?_) fun _ _ e => e
        obtain ⟨h₄, tk₄, news₄, rfl, F₄, N₄, off₄, ⟨nw, rfl, hS₄, offK₄⟩, R₄⟩ := h₄
        replace R₄ := R₄ nw rfl
        have zI := (N₄ (I, oI) List.mem_cons_self).1
        have zC := (N₄ (H2.objs.size, oC) (List.mem_cons_of_mem _ List.mem_cons_self)).1
        have zD := (N₄ (s₂.heap.objs.size, lst ys) (List.mem_cons_of_mem _ (List.mem_cons_of_mem _ List.mem_cons_self))).1
        have zK₄ := N₄ (H3.objs.size, oK') (List.mem_cons_of_mem _ (List.mem_cons_of_mem _ (List.mem_cons_of_mem _ List.mem_cons_self)))
        have N₄' : News h₀ L h₄ nw := fun p hp => N₄ p (List.mem_cons_of_mem _ (List.mem_cons_of_mem _ (List.mem_cons_of_mem _ (List.mem_cons_of_mem _ hp))))
        have hst₄ : St (i + 1) h₄ := hSt _ _ _ _ _ hst₃ heI zI F₄.keep N₄' hS₄
        refine append_at (hsz := by show ys.toArray.size ≤ sizeLine; rw [List.size_toArray, hyl]; exact Nat.le_trans hi hsz) zD fun h₅ hs₅ hD₅ => ?_
        have off4 := off₄.2.mem
        refine ⟨n + 1 - (i + 1), by omega, h₅, tk₄, i + 1, ys ++ [y], _, oK', _, nw, rfl, hlt, rfl, by rw [List.length_append, List.length_singleton, hyl], W.frame _ _ _ hst₄ fun b hb o e => hs₅.extBut b o (fun q => hDf (q ▸ hb)) e, F₄.change hs₅ hDL hD₀,
          (hoC.ns zC).sameBut hs₅ (Ne.symm hDC), fun p hp => ?_, hdK', off₄.2, offK₄, hS₄, ?_⟩
        · rcases List.mem_cons.mp hp with rfl | hp
          · exact ⟨hD₅.trans (congrArg some (lst_snoc ys y)), hDL, hD₀⟩
          · rcases List.mem_cons.mp hp with rfl | hp
            · exact ⟨hs₅.extBut _ _ (Ne.symm hDK) zK₄.1, zK₄.2⟩
            · exact ⟨hs₅.extBut _ _ (off4 p hp).2.2 (N₄' p hp).1, (N₄' p hp).2⟩
        · rw [show n - (i + 1) = j by omega]
          exact R₄
      · obtain rfl : i = n := Nat.le_antisymm hi (Nat.not_lt.mp hlt)
        rw [Nat.sub_self] at R'
        refine W.done _ _ _ hst' fun h₂ tk₂ hk₂ => ?_
        exact hRR _ _ h₂ tk₂ _ ys news' (fr_but F' hk₂ hIL hI₀) (news_but (News.sub N' (fun p hp => by
          rcases List.mem_cons.mp hp with rfl | hp
          · exact .head _
          · exact .tail _ (.tail _ hp))) hk₂ fun p hp => by
          rcases List.mem_cons.mp hp with rfl | hp
          · exact Ne.symm hDI
          · exact (off3 p hp).1) off'.one (hn'.at' fun o e => hk₂ _ o (by simpa using Ne.symm hCI) e) hC₀ hD₀ hCL hDL (Ne.symm hDC) (fun p hp => (off3 p hp).2.1) R'
    · rcases List.mem_cons.mp hp with rfl | hp
      · exact ⟨hacc, hDL, hD₀⟩
      · rcases List.mem_cons.mp hp with rfl | hp
        · exact ⟨hkc₁, hKL, hK₀⟩
        · exact ⟨old _ _ (N p hp).1, (N p hp).2⟩
  exact codeAny_compStart_list (loop _ rfl) (W.self 0 _ _ _ hst₁ (loop _ rfl))
noncomputable def SrcC (prog : Program) (w : World) (A : Around) (h₀ : Heap) (L : Addr) (m : Str → Option Value) (env : Env) (elt : Expr) (x : Str) (scope : Scope) (cl : List (Str × Addr)) (Fin : Shared → List Value → List (Addr × Obj) → Prop) (xv : Value) (s₁ : Shared) : Prop :=
  ∃ ax its news, xv = .ref ax ∧ A.handled = none ∧ Fr h₀ L s₁.heap m ∧ News h₀ L s₁.heap news ∧ SrcAt h₀ ax its news ∧ its.size ≤ sizeLine ∧
    ∀ s₂ : Shared, (∃ h, s₂ = { s₁ with heap := h }) → CompRestC prog w A h₀ L m env elt x scope cl s₂ (SrcAt h₀ ax its) (fun i v => its[i]? = some v) (Fin s₂) its.size 0 [] news
theorem SrcC.ledger {elt : Expr} {x : Str} {scope : Scope} {cl : List (Str × Addr)} {Fin : Shared → List Value → List (Addr × Obj) → Prop} {ax : Addr} {its : Array Value} {k : Nat} {news : List (Addr × Obj)} {s₁ : Shared}
    (hh : A.handled = none) (F : Fr h₀ L s₁.heap m) (N : News h₀ L s₁.heap news) (hm : (ax, ({ cls := .type "list", data := .seq its k } : Obj)) ∈ news) (hsz : its.size ≤ sizeLine)
    (h : ∀ g, CompRestC prog w A h₀ L m env elt x scope cl { s₁ with heap := g } (SrcAt h₀ ax its) (fun i v => its[i]? = some v) (Fin { s₁ with heap := g }) its.size 0 [] news) :
    SrcC prog w A h₀ L m env elt x scope cl Fin (.ref ax) s₁ := ⟨ax, its, news, rfl, hh, F, N, .inr ⟨_, hm, rfl, _, rfl⟩, hsz, fun _ ⟨g, e⟩ => e ▸ h g⟩
theorem Assign_ListComp_C {elt iter : Expr} {x y : Str} {px py : Pos} {scope : Scope} {cl : List (Str × Addr)} {pos spos : Pos} {Q : Flow → Shared → Prop} (_ : Fr h₀ L s.heap m) (hLe : env.locals = L)
    (hsw : swapsWith (.ListComp elt [⟨.Name x px, iter, [], 0⟩] scope pos) (some (.Name y py)) spos.line env = pure true)
    (hclos : closureFor scope env = pure cl) (hcf : ∀ k, cellsFrom k scope.names cl = (x, k) :: cl) (hpc : ∀ h : Heap, pushCells h scope.names = h.push { cls := .type "cell", data := .cell none }) (hkind : scope.kind = .function)
    (hnames : ∀ z ∈ scope.names, z.2 = .local → scope.names.lookup z.1 = some .local) (hx : scope.names.lookup x = some .cell)
    (hy : env.kindOf y = some .local) (hp : (env.scope.kind == .class || (env.scope.kind == .module && env.locals != env.globals)) = false)
    (h : wpAny (model prog w) A (eval iter env) (SrcC prog w A h₀ L m env elt x scope cl (fun s₂ => FinA h₀ L m s₂ y Q)) E s)
    (hs : ∀ x, foldedSetIterable iter env x = pure x := by intro _; rfl) :
    wpAny (model prog w) A (exec (.Assign [.Name y py] (.ListComp elt [⟨.Name x px, iter, [], 0⟩] scope pos) spos) env) Q E s := by
  subst hLe
  rw [exec_Assign_Name_used _ _ _ _ hsw]
  refine wpAny_bind (wpAny_standAt (wpAny_bind ?_))
  show wpAny _ A (do let _ ← comprehension (.ListComp elt [⟨.Name x px, iter, [], 0⟩] scope pos) scope env _ (newList []) false (eval iter env) (some (assign (.Name y py) env))) _ _ s
  refine wpAny_bind (wpAny_mono (wpAny_comprehension_free (use := some (assign (.Name y py) env)) (Q := fun _ s' => Q .next s') rfl hs hclos hkind hnames
    (wpAny_mono h (fun xv s₁ h₁ => ?_) fun _ _ e => e)) (fun _ s' hq => wpAny_pure (wpAny_pure hq)) fun _ _ e => e)
  obtain ⟨ax, its, news, rfl, hh, F, N, S, hsz, R⟩ := h₁
  have hl := S.list F.keep N
  have hlt : ax < s₁.heap.objs.size := by obtain ⟨_, e, _⟩ := hl; exact Heap.lt_size e
  refine wpAny_pyIter_list hl ?_
  have up : ∀ b o, s₁.heap.get? b = some o → (s₁.heap.push { cls := .type "list_iterator", data := .fields #[.ref ax, .int 0 0] }).get? b = some o := fun b o e => Heap.get?_push_of_some _ e
  refine block_C (Walks.list hh s₁.heap.objs.size ax (Nat.ne_of_lt hlt) its) hsz (fun i h st => by obtain ⟨o, e, _⟩ := st.1; exact ⟨o, e⟩) list_st hcf hpc hkind hx ⟨⟨_, Heap.get?_push_size _ rfl, rfl, rfl⟩, hl.push _⟩ (fun b hb => ?_)
    (F.keeps up) (N.grown up) (Nat.ne_of_lt F.ns.lt) (next_is_new F) (fun p hp => Nat.ne_of_lt (Heap.lt_size (N p hp).1)) S (R _ ⟨_, rfl⟩) ?_
  · show b < (s₁.heap.push _).objs.size
    rw [Heap.size_push]
    rcases List.mem_cons.mp hb with rfl | hb
    · exact Nat.lt_succ_self _
    · rw [List.mem_singleton.mp hb]; exact Nat.lt_succ_of_lt hlt
  · intro D C h' tk m' ys news' F' N' o1 hn hC₀ hD₀ hCL hDL hCD offC fin
    show wpAny _ A (assign (.Name y py) env (.ref D)) _ _ _
    refine wpAny_assign_Name (wpAny_storeName_local hy F'.ns (fun h₂ hn₂ hs₂ => ?_) hp)
    have hL₀ : h₀.get? env.locals = none := Heap.get?_none_of_le F'.above
    have F₂ : Fr h₀ env.locals h₂ (fun z => if z = y then some (.ref D) else m z) := ⟨hn₂, fun b o e => hs₂.extBut b o (fun q => by rw [q, hL₀] at e; cases e) (F'.keep b o e), F'.above⟩
    refine ⟨m', hn.sameBut hs₂ hCL, fun h'' hs'' => fin D h'' _ (F₂.change hs'' hCL hC₀) (fun p hp => ?_) o1⟩
    have z : h₂.get? p.1 = some p.2 := hs₂.extBut _ _ (N' p hp).2.1 (N' p hp).1
    refine ⟨hs''.extBut _ _ ?_ z, (N' p hp).2⟩
    rcases List.mem_cons.mp hp with rfl | hp
    · exact Ne.symm hCD
    · exact offC p hp
end
end Mine
end
-- B14
namespace Mine
noncomputable def pd (p : Int × Int) : PyData := .tuple [.int p.1, .int p.2]
theorem pairs_read {h : Heap} {ts : List (Addr × Obj)} (k : ∀ p ∈ ts, h.get? p.1 = some p.2) {vs : List Value} {ps : List (Int × Int)} (x : PairsIn ts vs ps) : ∃ as, ReadsAll h vs (ps.map pd) as := by
  induction x with
  | nil => exact ⟨_, .nil⟩
  | cons e _ ih =>
    obtain ⟨as, ih⟩ := ih
    exact ⟨_, .cons (.tuple (k _ e) rfl rfl (.cons (.int _ _) (.cons (.int _ _) .nil))) ih⟩
theorem pairs_lay : ∀ ps : List (Int × Int), PyData.canLayAll0 (ps.map pd) = true
  | [] => rfl
  | p :: r => by
    rw [List.map_cons]
    show (PyData.canLay0 (pd p) && PyData.canLayAll0 (r.map pd)) = true
    rw [pairs_lay r]; rfl
theorem pairs_count (a b : Int) : ∀ ps : List (Int × Int), (ps.map pd).countP (fun y => PyData.eqv y (pd (a, b))) = ps.countP (fun p => p.1 == a && p.2 == b)
  | [] => rfl
  | (x, y) :: r => by
    rw [List.map_cons, List.countP_cons, List.countP_cons, pairs_count a b r]
    have e : PyData.eqv (pd (x, y)) (pd (a, b)) = (x == a && y == b) := by
      show PyData.eqv (.tuple [.int x, .int y]) (.tuple [.int a, .int b]) = _
      simp [PyData.eqv, PyData.eqvAll]
    rw [e]
section
variable {prog : Program} {w : World} {A : Around} {E : Value → Shared → Prop} {s : Shared} {h₀ : Heap} {L l t : Addr} {news ts : List (Addr × Obj)} {vs : List Value} {ps : List (Int × Int)} {n : Nat} {a b : Int} {ta tb : Tok} {Q : Value → Shared → Prop}
theorem count_pairs (N : News h₀ L s.heap news) (hm : (l, listOf vs.toArray n) ∈ news) (hp : PairsIn ts vs ps) (hts : ∀ p ∈ ts, p ∈ news) (ht : (t, pairO a b ta tb) ∈ news) (hu : A.units + 10 < cLine)
    (h : ∀ u k, Q (.int (ps.countP (fun p => p.1 == a && p.2 == b) : Nat) u) { s with toks := k }) : wpAny (model prog w) A (PySem.call (.builtin "list.count") [.ref l, .ref t]) Q E s := by
  obtain ⟨as, rs⟩ := pairs_read (h := s.heap) (fun p hp => (N p (hts p hp)).1) hp
  have rx : Reads s.heap (.ref t) (pd (a, b)) _ := .tuple (N _ ht).1 rfl rfl (.cons (.int _ _) (.cons (.int _ _) .nil))
  have hl := (N _ hm).1
  refine call_meets PySem.F.slot_list_count ⟨_, hl, rfl⟩ PySem.F.entry_list_count (PySem.F.args_list_count_2 _ _) (SeqAt.list_countAt l vs.toArray n none #[] (.ref t) (fun y => PyData.eqv (SeqAt.readOf s.heap y) (pd (a, b)))) ⟨hl, SeqAt.items_eqAt rs rx (pairs_lay ps) rfl ?_, ?_⟩
  · have h1 : min (PyData.depthAll (ps.map pd)) (pd (a, b)).depth ≤ (pd (a, b)).depth := Nat.min_le_right _ _
    have h2 : (pd (a, b)).depth ≤ 5 := by show PyData.depth (.tuple [.int a, .int b]) ≤ 5; simp [PyData.depth, PyData.depthAll]
    show A.units + 1 + _ < cLine
    omega
  · have e : vs.toArray.toList.countP (fun y => PyData.eqv (SeqAt.readOf s.heap y) (pd (a, b))) = ps.countP (fun p => p.1 == a && p.2 == b) := by
      rw [← pairs_count, ← SeqAt.readsAll_map _ _ _ (pairs_lay ps) rs, List.countP_map]; rfl
    rw [e]
    exact h _ _
end
end Mine
namespace Mine
open PyProof.Rows.LCg in
theorem restC_N {prog : Program} {w : World} {A : Around} {h₀ : Heap} {L : Addr} {m : Str → Option Value} {env : Env} {elt : PySem.Expr} {x : Str} {scope : Scope} {cl : List (Str × Addr)} {s : Shared} {S : List (Addr × Obj) → Prop} {P : Nat → Value → Prop} {Fin : List Value → List (Addr × Obj) → Prop} {news : List (Addr × Obj)}
    {n : Nat} (Inv : Nat → List Value → List (Addr × Obj) → Prop) (h0 : Inv 0 [] news)
    (turn : ∀ i v I oI C oC K oK D ys nw h tk (E' : Value → Shared → Prop), i < n → P i v → Inv i ys nw → oK.data = Data.cell (some v) → Fr h₀ L h m → News h₀ L h ((I, oI) :: (C, oC) :: (D, lst ys) :: (K, oK) :: nw) → Off3 I C D ((K, oK) :: nw) → (∀ p ∈ nw, p.1 ≠ K) →
      wpAny (model prog w) A (eval elt (compEnvC scope ((x, K) :: cl) C env)) (CompEnd h₀ L m { s with heap := h, toks := tk } I oI C oC D (lst ys) (fun nw => ∃ nw', nw = (K, oK) :: nw' ∧ S nw' ∧ ∀ p ∈ nw', p.1 ≠ K)
        (fun y nw => ∀ nw', nw = (K, oK) :: nw' → Inv (i + 1) (ys ++ [y]) nw')) E' { s with heap := h, toks := tk })
    (fin : ∀ ys nw, Inv n ys nw → Fin ys nw) : CompRestC prog w A h₀ L m env elt x scope cl s S P Fin n 0 [] news := by
  have key : ∀ (j i : Nat) (ys : List Value) (nw : List (Addr × Obj)), i + j = n → Inv i ys nw → CompRestC prog w A h₀ L m env elt x scope cl s S P Fin j i ys nw := by
    intro j
    induction j with
    | zero =>
      intro i ys nw hi hy
      have e : i = n := by omega
      subst e
      exact fin ys nw hy
    | succ j ih =>
      intro i ys nw hi hy
      intro v I oI C oC K oK D h tk E' hv hK F N off offK
      refine wpAny_mono (turn i v I oI C oC K oK D ys nw h tk E' (by omega) hv hy hK F N off offK) (fun y s₂ hq => ?_) fun _ _ e => e
      obtain ⟨h', tk', nw', e, F', N', off', hS, hy'⟩ := hq
      exact ⟨h', tk', nw', e, F', N', off', hS, fun nw'' e' => ih (i + 1) _ nw'' (by omega) (hy' nw'' e')⟩
  exact key n 0 [] news (by omega) h0
noncomputable def RowsIn (base us : List (Addr × Obj)) (R : List Int) (ys : List Value) (i : Nat) : Prop :=
  ys.length = i ∧ ∀ j, j < i → ∃ r t0 t1, ys[j]? = some (.ref r) ∧ (r, LCg.lst [.int (cnt R j 0 : Nat) t0, .int (cnt R j 1 : Nat) t1]) ∈ us ∧ LCg.Off1 r base
theorem RowsIn.add {base us us' : List (Addr × Obj)} {R : List Int} {ys : List Value} {i : Nat} {r : Addr} {t0 t1 : Tok} (h : RowsIn base us R ys i) (k : ∀ p ∈ us, p ∈ us') (hr : (r, LCg.lst [.int (cnt R i 0 : Nat) t0, .int (cnt R i 1 : Nat) t1]) ∈ us') (ho : LCg.Off1 r base) : RowsIn base us' R (ys ++ [.ref r]) (i + 1) := by
  refine ⟨by rw [List.length_append, h.1]; rfl, fun j hj => ?_⟩
  rcases Nat.lt_or_ge j i with hj' | hj'
  · obtain ⟨r', a, b, e, hm, o⟩ := h.2 j hj'
    exact ⟨r', a, b, by rw [List.getElem?_append_left (by rw [h.1]; exact hj')]; exact e, k _ hm, o⟩
  · have e : j = i := by omega
    subst e
    exact ⟨r, t0, t1, by rw [← h.1, List.getElem?_concat_length], hr, ho⟩
theorem cnt_pairs (R : List Int) (f b : Nat) : ((R.drop 1).map endOf).countP (fun p => p.1 == (f : Int) && p.2 == (b : Int)) = cnt R f b := by
  rw [List.countP_map]
  unfold cnt endOf
  refine List.countP_congr fun n _ => ?_
  show ((((frontOf n.toNat : Nat) : Int) == (f : Int)) && (((n.toNat % 2 : Nat) : Int) == (b : Int))) = true ↔ _
  simp only [Bool.and_eq_true, beq_iff_eq]
  omega
end Mine
namespace Mine
theorem last_getD {R : List Int} {q : Int} (h : R.getLast? = some q) : R.getD (-1 + (R.length : Int)).toNat 0 = q ∧ 1 ≤ R.length := by
  have hl : 1 ≤ R.length := by
    cases R with
    | nil => cases h
    | cons a r => simp
  refine ⟨?_, hl⟩
  rw [List.getLast?_eq_getElem?] at h
  rw [show (-1 + (R.length : Int)).toNat = R.length - 1 by omega, List.getD_eq_getElem?_getD, h]; rfl
end Mine
namespace Mine
theorem ne_pairs {prog : Program} {w : World} {A : Around} {E : Value → Shared → Prop} {s : Shared} {h₀ : Heap} {L a b : Addr} {news : List (Addr × Obj)} {x y x' y' : Int} {t u t' u' : Tok} {Q : Value → Shared → Prop}
    (N : News h₀ L s.heap news) (ha : (a, pairO x y t u) ∈ news) (hb : (b, pairO x' y' t' u') ∈ news) (hu : A.units + 64 < cLine) (hx : x = x') (hy : y = y') (h : Q (.bool false) s) : wpAny (model prog w) A (compareOp .NotEq (.ref a) (.ref b)) Q E s := by
  subst hx hy
  refine PyProof.Rows.ne_dataH (da := pd (x, y)) (db := pd (x, y)) (.tuple (N _ ha).1 rfl rfl (.cons (.int _ _) (.cons (.int _ _) .nil))) (.tuple (N _ hb).1 rfl rfl (.cons (.int _ _) (.cons (.int _ _) .nil))) rfl rfl hu ?_
  have e : PyData.eqv (pd (x, y)) (pd (x, y)) = true := by
    show PyData.eqv (.tuple [.int x, .int y]) (.tuple [.int x, .int y]) = true
    simp [PyData.eqv, PyData.eqvAll]
  rw [e]; exact h
theorem cnt_le (R : List Int) (f b : Nat) (h : R.length ≤ 60) : cnt R f b ≤ 60 := by
  unfold cnt
  refine Nat.le_trans List.countP_le_length ?_
  rw [List.length_drop]; omega
theorem due_lt {a b : Nat} (ha : a ≤ 121) (hb : b ≤ 121) : a * b < 2 ^ 60 := by
  have := Nat.mul_le_mul ha hb
  omega
end Mine
-- B15
namespace Mine
section
variable {prog : Program} {w : World} {A : Around} {s : Shared} {env : Env} {h₀ : Heap} {target : PySem.Expr} {body : List Stmt} {Q : Flow → Shared → Prop}
/-- for, of any target, over a list of the ledger -/
theorem turnsL_by {σ : Type} {l : Addr} {vs : List Value} {e : Nat} (vars : σ → List (Str × Value)) (Led : σ → List (Addr × Obj)) (Inv : Nat → σ → Prop) (c₀ : σ) {m₀ : Str → Option Value} {news₀ : List (Addr × Obj)}
    (hgo : ∀ it v, letOwnedTupleGo target it v = pure ()) (hh : A.handled = none) (F : Fr h₀ env.locals s.heap m₀) (N : News h₀ env.locals s.heap news₀) (hl : (l, listOf vs.toArray e) ∈ news₀) (hL : ∀ p ∈ Led c₀, p ∈ news₀) (hk : VarsIn m₀ (vars c₀)) (hp : Inv 0 c₀)
    (turn : ∀ (I : Addr) (i : Nat) (c : σ) (v : Value) (it : Obj) (u : Str → Option Value) (h : Heap) (tk : Nat), (∀ q ∈ news₀, q.1 < I) → vs[i]? = some v → Inv i c → (∀ p ∈ (l, listOf vs.toArray e) :: Led c, p.1 ≠ I) → Fr h₀ env.locals h (kstB u (vars c)) → News h₀ env.locals h ((I, it) :: (l, listOf vs.toArray e) :: Led c) →
      wpAny (model prog w) A (assign target env v) (fun _ s₃ => wpAny (model prog w) A (execs body env) (FPost h₀ env.locals { s with heap := h, toks := tk } vars Led (Inv (i + 1)) [(I, it), (l, listOf vs.toArray e)] I Q) (fun _ _ => False) s₃) (fun _ _ => False) { s with heap := h, toks := tk })
    (done : ∀ (c : σ) (u : Str → Option Value) (h : Heap) (tk : Nat), Inv vs.length c → Fr h₀ env.locals h (kstB u (vars c)) → News h₀ env.locals h (Led c) → Q .next { s with heap := h, toks := tk }) :
    wpAny (model prog w) A (pyIter (.ref l)) (fun it s₂ => TurnsAt prog w A h₀ env target body Q (fun _ _ => False) it s₂) (fun _ _ => False) s := by
  have hls : s.heap.IsList l vs.toArray := PySem.IsL.isList (n := e) (N _ hl).1
  refine wpAny_pyIter_list hls ?_
  have hlt : ∀ q ∈ news₀, q.1 < s.heap.objs.size := fun q hq => Heap.lt_size (N q hq).1
  have hll : l < s.heap.objs.size := hlt _ hl
  have hl₀ : h₀.get? l = none := (N _ hl).2.2
  have hLl : env.locals ≠ l := Ne.symm (N _ hl).2.1
  generalize hI : s.heap.objs.size = I at hlt hll ⊢
  have W := Walks.list (prog := prog) (w := w) hh I l (Nat.ne_of_lt hll) vs.toArray
  have hlen : vs.toArray.size = vs.length := List.size_toArray ..
  rw [hlen] at W
  have hI₀ : h₀.get? I = none := by
    cases e : h₀.get? I with
    | none => rfl
    | some o => exact absurd (Heap.lt_size (F.keep _ _ e)) (by rw [hI]; exact Nat.lt_irrefl _)
  have hLI : env.locals ≠ I := by rw [← hI]; exact Nat.ne_of_lt F.ns.lt
  have up : ∀ b o, s.heap.get? b = some o → (s.heap.push { cls := .type "list_iterator", data := .fields #[.ref l, .int 0 0] }).get? b = some o := fun b o e => Heap.get?_push_of_some _ e
  refine ⟨I, [I, l], [I], vs.length, fun i v _ => vs.toArray[i]? = some v, _, fun i h => h.IsListIter I l i ∧ h.get? l = some (listOf vs.toArray e), m₀, Led c₀, fun i m₁ news₁ => ∃ c, news₁ = Led c ∧ VarsIn m₁ (vars c) ∧ Inv i c, rfl,
    KTurns.ofWalks (St := fun i h => h.IsListIter I l i ∧ h.get? l = some (listOf vs.toArray e)) (P := fun i v => vs.toArray[i]? = some v) ⟨W.sub, fun i h h' st k => ⟨st.1.at fun o e => k I (.head _) o e, k l (.tail _ (.head _)) _ st.2⟩, fun i s Q E hi st hq => ?it, fun s Q E st hq => W.done s Q E ⟨st.1, PySem.IsL.isList (n := e) st.2⟩ hq, fun i s Q E st hq => W.self i s Q E ⟨st.1, PySem.IsL.isList (n := e) st.2⟩ hq⟩ (fun i v s Q E _ hq => by rw [hgo]; exact wpAny_pure hq), ?_, ?_, ?_, ⟨⟨_, by rw [← hI]; exact Heap.get?_push_size _ rfl, rfl, rfl⟩, up _ _ (N _ hl).1⟩, F.keeps up, (News.sub N hL).grown up, ⟨c₀, rfl, hk, hp⟩, ?_, ?_⟩
  case it =>
    refine W.item i s Q E hi ⟨st.1, PySem.IsL.isList (n := e) st.2⟩ fun v h' tk hv st' k => hq v h' tk hv ⟨st'.1, k l _ ?_ st.2⟩ k
    intro hm
    exact Nat.ne_of_lt hll (List.mem_singleton.mp hm)
  · intro hm
    rcases List.mem_cons.mp hm with e | hm
    · exact hLI e
    · exact hLl (List.mem_singleton.mp hm)
  · intro b hb
    rw [List.mem_singleton.mp hb]; exact hI₀
  · intro p hp hm
    exact Nat.lt_irrefl _ ((List.mem_singleton.mp hm) ▸ hlt p (hL p hp))
  · rintro i v m₁ news₁ h1 tk1 own hin hP ⟨c, rfl, hv, hinv⟩ hoff hown hget hall hst₁ F₁ N₁
    have hne : ∀ p ∈ (l, listOf vs.toArray e) :: Led c, p.1 ≠ I := fun p hp ee => by
      rcases List.mem_cons.mp hp with rfl | hp
      · exact Nat.ne_of_lt hll ee
      · exact hoff p hp (by rw [ee]; exact .head _)
    have hst2 : h1.IsListIter I l (i + 1) ∧ h1.get? l = some (listOf vs.toArray e) := hst₁
    obtain ⟨⟨it, hit, _⟩, hl1⟩ := hst2
    have hiI : (I, it) ∈ own := hall I (.head _) hI₀ _ hit
    have hlI : (l, listOf vs.toArray e) ∈ own := hall l (.tail _ (.head _)) hl₀ _ hl1
    have N₂ : News h₀ env.locals h1 ((I, it) :: (l, listOf vs.toArray e) :: Led c) := fun p hp => by
      rcases List.mem_cons.mp hp with rfl | hp
      · exact N₁ _ (List.mem_append_left _ hiI)
      · rcases List.mem_cons.mp hp with rfl | hp
        · exact N₁ _ (List.mem_append_left _ hlI)
        · exact N₁ _ (List.mem_append_right _ hp)
    refine wpAny_mono (turn I i c v it m₁ h1 tk1 hlt (by simpa using hP) hinv hne (fr_kstB hv F₁) N₂) (fun _ s₃ h₃ => wpAny_mono h₃ (fun f s₂ p => ?_) fun _ _ e => e) fun _ _ e => e
    have fin : (∃ (c' : σ) (h' : Heap) (tk : Nat) (m' : Str → Option Value) (news' : List (Addr × Obj)), s₂ = { s with heap := h', toks := tk } ∧ Fr h₀ env.locals h' m' ∧ News h₀ env.locals h' news' ∧ (∀ p ∈ [(I, it), (l, listOf vs.toArray e)], p ∈ news') ∧ (∀ p ∈ Led c', p ∈ news') ∧ (∀ p ∈ Led c', p.1 ≠ I) ∧ VarsIn m' (vars c') ∧ Inv (i + 1) c') →
        ∃ h' tk m' news', s₂ = { s with heap := h', toks := tk } ∧ Fr h₀ env.locals h' m' ∧ News h₀ env.locals h' (own ++ news') ∧ (∀ p ∈ news', p.1 ∉ [I]) ∧ ∃ c, news' = Led c ∧ VarsIn m' (vars c) ∧ Inv (i + 1) c := by
      rintro ⟨c', h', tk, m', news', ee, F', N', ho, hL', hLI', hv', hinv'⟩
      refine ⟨h', tk, m', Led c', ee, F', fun p hp => ?_, fun p hp hm => hLI' p hp (List.mem_singleton.mp hm), c', rfl, hv', hinv'⟩
      rcases List.mem_append.mp hp with hp | hp
      · have h2 : h1.get? p.1 = some p.2 := hget p hp
        rcases List.mem_cons.mp (hown p hp) with h3 | h3
        · have : p = (I, it) := by
            rw [h3, hit] at h2
            exact Prod.ext h3 (Option.some.inj h2).symm
          rw [this]; exact N' _ (ho _ (.head _))
        · have h4 := List.mem_singleton.mp h3
          have : p = (l, listOf vs.toArray e) := by
            rw [h4, hl1] at h2
            exact Prod.ext h4 (Option.some.inj h2).symm
          rw [this]; exact N' _ (ho _ (.tail _ (.head _)))
      · exact N' _ (hL' _ hp)
    cases f with
    | ret v => exact p
    | brk => exact p
    | next =>
      obtain ⟨h', tk, m', news', a, b, c, d, e⟩ := fin p
      exact ⟨rfl, h', tk, m', news', a, b, c, d, e⟩
    | cont =>
      obtain ⟨h', tk, m', news', a, b, c, d, e⟩ := fin p
      exact ⟨rfl, h', tk, m', news', a, b, c, d, e⟩
  · rintro h' tk m' news' F' N' _ ⟨c, rfl, hv, hinv⟩
    exact done c m' h' tk hinv (fr_kstB hv F') N'
end
theorem room_of {a c e d n : Nat} (h : a + d < n) (k : c + e ≤ d) : a + c + e < n := by
  have := Nat.add_le_add_left k a
  rw [← Nat.add_assoc] at this
  exact Nat.lt_of_le_of_lt this h
end Mine
namespace Mine
local macro_rules | `(tactic| omega) => `(tactic| first | with_reducible (first | assumption | decide | exact room_of (by assumption) (by decide) | exact Nat.le_trans (by assumption) (by decide) | exact Nat.ne_of_gt (by assumption) | exact Nat.ne_of_lt (by assumption) | exact Int.natCast_nonneg _) | lia | omega (config := {}))
local macro_rules | `(tactic| k_steps) => `(tactic| repeat' (fail_if_success (walk_at "mine stop")); (first | (k_unfold; (try dsimp only)) | (k_end; wrow_close) | walk1 | (dsimp only; walk1) | fail "no step"))
local macro_rules | `(tactic| walk_at "mine stop") => `(tactic| with_reducible first | show wpAny _ _ (exec (Stmt.While _ _ _ _) _) _ _ _ | show wpAny _ _ (PySem.call (Value.ref _) _ _) _ _ _ | show wpAny _ _ (pyIter (Value.ref _)) _ _ _ | show LCg.CompSrc _ _ _ _ _ _ _ _ _ _ _ _ _ _ | show LCt.CompSrcT _ _ _ _ _ _ _ _ _ _ _ _ _ _ _ | show wpAny _ _ (subscriptTail _ (PySem.Expr.Slice _ _ _ _) (Value.ref _) _) _ _ _ | show wpAny _ _ (PySem.call (Value.builtin "str.join") _ _) _ _ _ | show wpAny _ _ (compareOp .NotIn (Value.int _ _) (Value.ref _)) _ _ _)
local macro_rules | `(tactic| walk_at "subscriptTail") => `(tactic| (k_here; k_dflt (refine' item_g (by k_asm) (by k_mem) (by omega) (by omega) (by omega) ?_ (by with_unfolding_all rfl); k_whole); intro x' hx'))
local macro_rules | `(tactic| walk_at "setItem ref int") => `(tactic| (k_here; k_dflt (refine' set_g (by k_asm) (by k_asm) (by k_upd) (by omega) (by omega) (by omega) ?_; k_whole); intro h' F' N'; (try k_sweep)))
local macro_rules | `(tactic| walk_at "compareOp Lt") => `(tactic| (k_here; (with_reducible rename Cmp _ _ _ _ _ => hC); k_dflt (refine' cmp_g hC ?k1 ?k2 ?k3 ?k4 ?_; (case k1 => k_asm); (case k2 => first | assumption | exact (by assumption : ∀ v ∈ _, _) _ (List.mem_of_getElem? (by assumption))); (case k3 => first | assumption | exact (by assumption : ∀ v ∈ _, _) _ (List.mem_of_getElem? (by assumption))); (case k4 => (simp only [units_deeper]; omega)); k_whole); intro tk'))
local macro_rules | `(tactic| walk_at "binaryOp RShift int int") => `(tactic| ((with_reducible show wpAny _ _ (binaryOp _ (Value.int _ _) (Value.int 1 _)) _ _ _); refine shr_one ?_; intro tk'; (try dsimp only)))
local macro_rules | `(tactic| walk_at "storeName") => `(tactic| (k_here; k_dflt (refine' storeI (by k_asm) (by k_asm) ?_ (by rfl) (by rfl); k_whole); intro h' t' tk' F' N'; (try k_sweep); (try dsimp only)))
local macro_rules | `(tactic| walk_at "storeName") => `(tactic| (k_here; k_dflt (refine' storeS (by k_asm) (by k_asm) ?_ (by rfl) (by rfl); k_whole); intro h' t' tk' F' N'; (try k_sweep); (try dsimp only)))
local macro_rules | `(tactic| walk_at "mine sub") => `(tactic| (repeat (first | exact List.forall_mem_nil _ | refine List.forall_mem_cons.mpr ⟨by first | walk_at "mine mem" | k_mem, ?_⟩)))
local macro_rules | `(tactic| walk_at "mine apart") => `(tactic| (repeat (first | exact List.forall_mem_nil _ | (refine List.forall_mem_cons.mpr ⟨?_, ?_⟩) | (show _ ≠ _; k_ne))))
local macro_rules | `(tactic| walk_at "mine room") => `(tactic| (simp only [depth_deeper, units_deeper]; omega))
local macro_rules | `(tactic| walk_at "call builtin:len") => `(tactic| (k_here; k_dflt (refine' len_g (by k_asm) (by k_mem) (by omega) ?_; k_whole); intro t' tk'))
local macro_rules | `(tactic| walk_at "truthy ref") => `(tactic| (k_here; k_dflt (refine' truthy_g (by k_asm) (by k_mem) (by omega) ?_; k_whole); intro tk'))
local macro_rules | `(tactic| walk_at "mine vars") => `(tactic| (first | exact vars_nil | (refine vars_cons ?h ?r; (case h => with_unfolding_all exact VarIs.of rfl); (case r => walk_at "mine vars")) | (refine vars_cons ?h ?r; (case h => (refine' var_int ?h1 ?e1; (case h1 => with_unfolding_all exact VarIs.of rfl); (case e1 => ((try dsimp only); omega)))); (case r => walk_at "mine vars"))))
local macro_rules | `(tactic| walk_at "call builtin:list.append") => `(tactic| (k_here; k_dflt (refine' append_g (by k_asm) (by k_asm) (by k_upd) (by omega) ?_; k_whole); intro h' F' N'; (try k_sweep)))
local macro_rules | `(tactic| walk_at "call builtin:list.pop") => `(tactic| (k_here; k_dflt (refine' pop_g (by k_asm) (by k_asm) (by k_upd) (by omega) ?_; k_whole); intro h' F' N'; (try k_sweep)))
local macro_rules | `(tactic| walk_at "call builtin:list.reverse") => `(tactic| (k_here; k_dflt (refine' reverse_g (by k_asm) (by k_asm) (by k_upd) (by omega) ?_; k_whole); intro h' F' N'; (try k_sweep)))
local macro_rules | `(tactic| walk_at "assign Tuple") => `(tactic| (k_here; k_dflt (refine' unpackN_ (by k_asm) (by k_asm) (News.isTup (by k_asm) (by k_mem)) (by assumption) (by rfl) (by rfl) ?_; k_whole); intro h' F' N'; (try k_sweep); (try dsimp only)))
local macro_rules | `(tactic| walk_at "unpackItems") => `(tactic| (k_here; k_dflt (refine' unpackItemsN_ (by k_asm) (by k_asm) (News.isTup (by k_asm) (by k_mem)) (by assumption) (by rfl) ?_; k_whole); intro h' F' N'; (try k_sweep); (try dsimp only)))
local macro_rules | `(tactic| walk_at "exec Assign cons ListComp") => `(tactic| (k_here; lcg_look; k_dflt (refine LCg.Assign_ListComp_U (F₀ := by k_asm) (by rfl) (by with_unfolding_all rfl) (by with_unfolding_all rfl) (by decide) (by rfl) (by decide) (by rfl) (by rfl) (by rfl) ?_)))
local macro_rules | `(tactic| walk_at "eval ListComp") => `(tactic| (k_here; lcg_look; k_dflt (refine LCg.ListComp_U (F₀ := by k_asm) (by with_unfolding_all rfl) (by decide) (by rfl) (by decide) (by rfl) ?_)))
local macro_rules | `(tactic| walk_at "call type:str") => `(tactic| (k_here; k_dflt (refine' str_fig (by first | assumption | omega) ?_; k_whole); intro t' tk'))
local macro_rules | `(tactic| walk_at "binaryOp Add ref ref") => `(tactic| (k_here; k_dflt (refine' add_g (by k_asm) (by k_asm) (by k_mem) (by k_mem) ?_ (by ((try simp only [List.length_cons, List.length_nil, List.length_append, List.length_replicate]); omega)); k_whole); intro D' h' F' N' l1; (try k_lt l1); (try k_sweep)))
local macro_rules | `(tactic| walk_at "mine slice") => `(tactic| ((first | (refine' but_g ?F ?N ?l ?z ?_ ?s; (case s => with_unfolding_all rfl)) | (refine' rev_g ?F ?N ?l ?z ?_ ?s; (case s => with_unfolding_all rfl)) | (refine' upto_g ?F ?N ?l ?z ?_ ?s; (case s => with_unfolding_all rfl)) | (refine' from_g ?F ?N ?l ?z ?_ ?s; (case s => with_unfolding_all rfl))); (case F => k_asm); (case N => k_asm); (case l => k_mem); (case z => ((try simp only [List.length_dropLast, List.length_reverse, List.length_take, List.length_drop]); omega)); intro D' h' F' N' l1; (try k_lt l1); (try k_sweep)))
local macro_rules | `(tactic| k_ne) => `(tactic| (refine neN ?_; (try dsimp only); first | exact hid_l (by with_reducible assumption) | exact hid_r (by with_reducible assumption) | fail "hid"))
local macro_rules | `(tactic| walk_at "CompEnd") => `(tactic| (k_dflt (refine LCg.CompEnd.intro (by k_asm) (by k_asm) _ ?sub (by with_reducible assumption) ?src ⟨rfl, ?_⟩; (case sub => exact fun _ hp => hp); (case src => exact Or.inr ⟨_, by k_mem, rfl, _, rfl⟩))))
local macro_rules | `(tactic| walk_at "mine mem") => `(tactic| first | (with_reducible exact List.mem_cons_self) | (with_reducible refine List.mem_cons_of_mem _ ?_; walk_at "mine mem"))
local macro_rules | `(tactic| k_ne) => `(tactic| (refine neN ?_; (try dsimp only); first | exact off1_l (by with_reducible assumption) (by walk_at "mine mem") | exact off1_r (by with_reducible assumption) (by walk_at "mine mem") | fail "off"))
local macro_rules | `(tactic| walk_at "FinE") => `(tactic| ((unfold LCg.FinE); intro D' h' tk' F' N' o1'; (try simp only [List.nil_append, List.cons_append] at N'); (try dsimp only)))
local macro_rules | `(tactic| walk_at "FinA") => `(tactic| ((unfold LCg.FinA); intro D' h' tk' F' N' o1'; (try simp only [List.nil_append, List.cons_append] at N'); (try dsimp only)))
local macro_rules | `(tactic| walk_at "eval ListComp") => `(tactic| (k_here; lct_look; k_dflt (refine LCt.ListComp_T (F₀ := by k_asm) (by with_unfolding_all rfl) (by decide) (by rfl) (by decide) (by rfl) ?_)))
local macro_rules | `(tactic| walk_at "exec Assign cons ListComp") => `(tactic| (k_here; lct_look; k_dflt (refine LCt.Assign_ListComp_T (F₀ := by k_asm) (by rfl) (by with_unfolding_all rfl) (by with_unfolding_all rfl) (by decide) (by rfl) (by decide) (by rfl) (by rfl) (by rfl) ?_)))
local macro_rules | `(tactic| walk_at "execs cons") => `(tactic| (k_here; (try dsimp only); k_dflt k_gentoks))
local macro_rules | `(tactic| walk_at "execs nil") => `(tactic| (k_here; (try dsimp only); k_dflt k_gentoks))
local macro_rules | `(tactic| walk_at "call builtin:list.append") => `(tactic| (k_here; (dsimp only [List.cons_append, List.nil_append]); walk_at "call builtin:list.append"))
-- S1
section
theorem siftdown_t {w : World} {p : Program} {loose : List Str} {mean : ExcName → Option Value} {mg mb : Str → Option Value} {lt : Value → Value → Bool} {P : Value → Prop} {l : Addr} {vs : List Value} {n : Nat} {start pos : Nat} {t1 t2 : Tok} {v₀ : Value}
    (hP : ∀ v ∈ vs, P v) (hv : vs[pos]? = some v₀) (hfit : vs.length ≤ 1000000) :
    Tell PySem.Challenge.rw_pg0218_02.row.prog w (hd.heap_39 w.params) p loose mean mg mb (Cmp PySem.Challenge.rw_pg0218_02.row.prog w lt P) 1 12 (.ref 84) [.ref l, .int start t1, .int pos t2] [(l, listOf vs.toArray n)] (fun v news => v = .none ∧ news = [(l, listOf (sdn lt v₀ start pos vs pos).toArray n)]) := by
  k_fill
  have hpos : pos < vs.length := (List.getElem?_eq_some_iff.mp hv).1
  have hP0 : P v₀ := hP _ (List.mem_of_getElem? hv)
  refine Tell.enter (binds := [("heap", .ref l), ("startpos", .int start t1), ("pos", .int pos t2)]) (by k_is) (by k_is) (fun s => BindsTo.of_eq rfl) (locs rfl) rfl rfl rfl (by decide) ?_
  intro A base g outer s L Q B hH X T hC F N hlt hd hu hret
  k_steps
  rename _[_]? = some _ => hx
  rename Fr _ _ _ _ => F1
  rename News _ _ _ _ => N1
  have hxe := Option.some.inj (hv.symm.trans hx)
  subst hxe
  refine while_by (σ := List Value × Nat × Tok) (fun c => [("heap", .ref l), ("startpos", .int start t1), ("pos", .int c.2.1 c.2.2), ("newitem", v₀)]) (fun c => [(l, listOf c.1.toArray n)])
    (fun c => (∀ v ∈ c.1, P v) ∧ c.1.length = vs.length ∧ c.2.1 < vs.length ∧ sdn lt v₀ start c.2.1 c.1 c.2.1 = sdn lt v₀ start pos vs pos) (fun c => c.2.1) (vs, pos, t2) F1 N1 (fun _ h => h) ?_ ⟨hP, rfl, hpos, rfl⟩ ?_
  · walk_at "mine vars"
  · clear F1 N1 hx
    rintro ⟨xs, ps, tp⟩ v h tk ⟨q1, q2, q3, q4⟩ F N
    dsimp only at q1 q2 q3 q4 F N
    k_steps
    · rename _[_]? = some _ => hx
      rw [tn (show ((ps : Int) - 1) / 2 = ((ps - 1) / 2 : Nat) by omega)] at hx
      refine WPost.cont (xs.set ps _, (ps - 1) / 2, _) (by assumption) (by assumption) (fun _ h => h) (by walk_at "mine vars") ⟨?_, ?_, ?_, ?_⟩ ?_
      · intro v hv
        rcases List.mem_or_eq_of_mem_set hv with h | h
        · exact q1 v h
        · rw [h]; exact q1 _ (List.mem_of_getElem? hx)
      · simpa using q2
      · dsimp only; omega
      · rw [← q4]
        exact (sdn_step lt v₀ start (by omega) hx (by assumption)).symm
      · dsimp only; omega
    · rename _[_]? = some _ => hx
      rw [tn (show ((ps : Int) - 1) / 2 = ((ps - 1) / 2 : Nat) by omega)] at hx
      refine WPost.brk ?_
      k_steps
      refine hret _ _ _ _ ⟨rfl, ?_⟩ (Own.of (by assumption) (by assumption))
      rw [← q4, sdn_stop _ _ _ (by omega) hx (by assumption)]
      rfl
    · refine hret _ _ _ _ ⟨rfl, ?_⟩ (Own.of (by assumption) (by assumption))
      rw [← q4, sdn_top _ _ _ (by omega)]
      rfl
end
-- S2
section
theorem siftup_t {w : World} {p : Program} {loose : List Str} {mean : ExcName → Option Value} {mg mb : Str → Option Value} {lt : Value → Value → Bool} {P : Value → Prop} {l : Addr} {vs : List Value} {n : Nat} {pos : Nat} {t1 : Tok} {v₀ : Value}
    (hP : ∀ v ∈ vs, P v) (hv : vs[pos]? = some v₀) (hfit : vs.length ≤ 1000000) :
    Tell PySem.Challenge.rw_pg0218_02.row.prog w (hd.heap_39 w.params) p loose mean mg mb (Cmp PySem.Challenge.rw_pg0218_02.row.prog w lt P) 2 20 (.ref 91) [.ref l, .int pos t1] [(l, listOf vs.toArray n)] (fun v news => v = .none ∧ news = [(l, listOf (sup lt v₀ pos vs.length vs pos).toArray n)]) := by
  k_fill
  have hpos : pos < vs.length := (List.getElem?_eq_some_iff.mp hv).1
  have hP0 : P v₀ := hP _ (List.mem_of_getElem? hv)
  refine Tell.enter (binds := [("heap", .ref l), ("pos", .int pos t1)]) (by k_is) (by k_is) (fun s => BindsTo.of_eq rfl) (locs rfl) rfl rfl rfl (by decide) ?_
  intro A base g outer s L Q B hH X T hC F N hlt hd hu hret
  k_steps
  rename _[_]? = some _ => hx
  rename Fr _ _ _ _ => F1
  rename News _ _ _ _ => N1
  have hxe := Option.some.inj (hv.symm.trans hx)
  subst hxe
  rename_i te _ _ ts _ _ _ tc _
  refine while_by (σ := List Value × Nat × Tok × Tok × Tok × Tok) (fun c => [("heap", .ref l), ("endpos", .int vs.length c.2.2.1), ("startpos", .int pos c.2.2.2.1), ("newitem", v₀), ("pos", .int c.2.1 c.2.2.2.2.1), ("childpos", .int (2 * (c.2.1 : Int) + 1) c.2.2.2.2.2)]) (fun c => [(l, listOf c.1.toArray n)])
    (fun c => (∀ v ∈ c.1, P v) ∧ c.1.length = vs.length ∧ c.2.1 < vs.length ∧ sup lt v₀ pos c.1.length c.1 c.2.1 = sup lt v₀ pos vs.length vs pos) (fun c => vs.length - c.2.1) (vs, pos, te, ts, t1, tc) F1 N1 (fun _ h => h) ?hk ⟨hP, rfl, hpos, rfl⟩ ?turn
  case hk => walk_at "mine vars"
  clear F1 N1 hx
  rintro ⟨xs, ps, te, ts, tp, tc⟩ v h tk ⟨q1, q2, q3, q4⟩ F N
  dsimp only at q1 q2 q3 q4 F N
  k_steps
  · rename_i x1 h1 x2 h2 _ hlt x3 h3 _ _ _ _ _ _ _ _ _
    rw [tn (show (2 * (ps : Int) + 1) = (2 * ps + 1 : Nat) by omega)] at h1 h3
    rw [tn (show (2 * (ps : Int) + 1 + 1) = (2 * ps + 1 + 1 : Nat) by omega)] at h2
    refine WPost.next (xs.set ps _, 2 * ps + 1, te, ts, _, _) (by assumption) (by assumption) (fun _ h => h) (by walk_at "mine vars") ⟨?_, ?_, ?_, ?_⟩ ?_
    · intro v hv
      rcases List.mem_or_eq_of_mem_set hv with h | h
      · exact q1 v h
      · rw [h]; exact q1 _ (List.mem_of_getElem? h3)
    · simpa using q2
    · dsimp only; omega
    · rw [← q4]
      exact (sup_step lt v₀ pos (by omega) (kid_left h1 h2 hlt) h3).symm
    · dsimp only; omega
  · rename_i x1 h1 x2 h2 _ hlt _ _ _ x3 h3 _ _ _ _ _ _ _ _ _
    rw [tn (show (2 * (ps : Int) + 1) = (2 * ps + 1 : Nat) by omega)] at h1
    rw [tn (show (2 * (ps : Int) + 1 + 1) = (2 * ps + 1 + 1 : Nat) by omega)] at h2 h3
    refine WPost.next (xs.set ps _, 2 * ps + 1 + 1, te, ts, _, _) (by assumption) (by assumption) (fun _ h => h) (by walk_at "mine vars") ⟨?_, ?_, ?_, ?_⟩ ?_
    · intro v hv
      rcases List.mem_or_eq_of_mem_set hv with h | h
      · exact q1 v h
      · rw [h]; exact q1 _ (List.mem_of_getElem? h3)
    · simpa using q2
    · dsimp only; omega
    · rw [← q4]
      exact (sup_step lt v₀ pos (by omega) (kid_right h1 h2 hlt) h3).symm
    · dsimp only; omega
  · rename_i hno x3 h3 _ _ _ _ _ _ _ _ _
    rw [tn (show (2 * (ps : Int) + 1) = (2 * ps + 1 : Nat) by omega)] at h3
    refine WPost.next (xs.set ps _, 2 * ps + 1, te, ts, _, _) (by assumption) (by assumption) (fun _ h => h) (by walk_at "mine vars") ⟨?_, ?_, ?_, ?_⟩ ?_
    · intro v hv
      rcases List.mem_or_eq_of_mem_set hv with h | h
      · exact q1 v h
      · rw [h]; exact q1 _ (List.mem_of_getElem? h3)
    · simpa using q2
    · dsimp only; omega
    · rw [← q4]
      exact (sup_step lt v₀ pos (by omega) (kid_last (by omega)) h3).symm
    · dsimp only; omega
  · skip
    refine' Tell.use (rest := []) (siftdown_t (vs := xs.set ps v₀) (v₀ := v₀) (P := P) (lt := lt) ?hP ?hv ?hfit) ?cB1 ?cH1 ?cF1 ?cN1 ?cX1 ?cT1 ?cA1 ?cf1 ?ck1 ?cs1 ?cr1 ?ca1 ?cP1 ?cd1 ?cu1 ?cret1
    case cB1 => exact B
    case cH1 => first | exact hH | assumption
    case cF1 => assumption
    case cN1 => assumption
    case cX1 => exact X
    case cT1 => first | exact T | assumption
    case cA1 => exact Around.frames_deeper B.stack
    case cf1 => exact rfl
    case ck1 => exact rfl
    case cs1 => walk_at "mine sub"
    case cr1 => walk_at "mine sub"
    case ca1 => walk_at "mine apart"
    case cP1 => exact fun g' st _ => hC.keeps (fun b o e => st b o e)
    case cd1 => walk_at "mine room"
    case cu1 => walk_at "mine room"
    case hP =>
      intro v hv
      rcases List.mem_or_eq_of_mem_set hv with h | h
      · exact q1 v h
      · rw [h]; exact hP0
    case hv => rw [List.getElem?_set_self (by omega)]
    case hfit => rw [List.length_set]; omega
    rintro _ _ h' tk' ⟨rfl, rfl⟩ F' N' -
    k_steps
    refine hret _ _ _ _ ⟨rfl, ?_⟩ (Own.of F' N')
    rw [← q4, sup_end _ _ _ (by omega)]
    rfl
end
-- S3
section
theorem heappush_t {w : World} {p : Program} {loose : List Str} {mean : ExcName → Option Value} {mg mb : Str → Option Value} {lt : Value → Value → Bool} {P : Value → Prop} {l : Addr} {vs : List Value} {n : Nat} {v : Value}
    (hP : ∀ v ∈ vs, P v) (hv : P v) (hfit : vs.length ≤ 100000) :
    Tell PySem.Challenge.rw_pg0218_02.row.prog w (hd.heap_39 w.params) p loose mean mg mb (Cmp PySem.Challenge.rw_pg0218_02.row.prog w lt P) 2 20 (.ref 70) [.ref l, v] [(l, listOf vs.toArray n)] (fun r news => r = .none ∧ news = [(l, listOf (hpush lt v vs).toArray (n + 1))]) := by
  k_fill
  refine Tell.enter (binds := [("heap", .ref l), ("item", v)]) (by k_is) (by k_is) (fun s => BindsTo.of_eq rfl) (locs rfl) rfl rfl rfl (by decide) ?_
  intro A base g outer s L Q B hH X T hC F N hlt hd hu hret
  have hlen : (vs ++ [v]).length = vs.length + 1 := by simp
  k_steps
  rw [hlen, show ((vs.length + 1 : Nat) : Int) - 1 = (vs.length : Nat) by omega]
  refine' Tell.use (rest := []) (siftdown_t (vs := vs ++ [v]) (v₀ := v) (P := P) (lt := lt) (start := 0) (pos := vs.length) ?hP ?hv ?hfit) ?cB1 ?cH1 ?cF1 ?cN1 ?cX1 ?cT1 ?cA1 ?cf1 ?ck1 ?cs1 ?cr1 ?ca1 ?cP1 ?cd1 ?cu1 ?cret1
  case cB1 => exact B
  case cH1 => first | exact hH | assumption
  case cF1 => assumption
  case cN1 => assumption
  case cX1 => exact X
  case cT1 => first | exact T | assumption
  case cA1 => exact Around.frames_deeper B.stack
  case cf1 => exact rfl
  case ck1 => exact rfl
  case cs1 => walk_at "mine sub"
  case cr1 => walk_at "mine sub"
  case ca1 => walk_at "mine apart"
  case cP1 => exact fun g' st _ => hC.keeps (fun b o e => st b o e)
  case cd1 => walk_at "mine room"
  case cu1 => walk_at "mine room"
  case hP => simpa [or_imp, forall_and] using ⟨hP, hv⟩
  case hv => simp
  case hfit => omega
  rintro _ _ h' tk' ⟨rfl, rfl⟩ F' N' -
  k_steps
  exact hret _ _ _ _ ⟨rfl, rfl⟩ (Own.of F' N')
theorem heappop_t {w : World} {p : Program} {loose : List Str} {mean : ExcName → Option Value} {mg mb : Str → Option Value} {lt : Value → Value → Bool} {P : Value → Prop} {l : Addr} {vs : List Value} {n : Nat} {y : Value}
    (hP : ∀ v ∈ vs, P v) (hv : P y) (hfit : vs.length ≤ 100000) :
    Tell PySem.Challenge.rw_pg0218_02.row.prog w (hd.heap_39 w.params) p loose mean mg mb (Cmp PySem.Challenge.rw_pg0218_02.row.prog w lt P) 3 30 (.ref 77) [.ref l] [(l, listOf (vs ++ [y]).toArray n)] (fun r news => r = (hpop lt vs y).1 ∧ news = [(l, listOf (hpop lt vs y).2.toArray (n + 1))]) := by
  k_fill
  refine Tell.enter (binds := [("heap", .ref l)]) (by k_is) (by k_is) (fun s => BindsTo.of_eq rfl) (locs rfl) rfl rfl rfl (by decide) ?_
  intro A base g outer s L Q B hH X T hC F N hlt hd hu hret
  k_steps
  · rename vs[_]? = some _ => hx
    rename 0 < vs.length => hpos
    obtain ⟨x, q, rfl⟩ : ∃ x q, vs = x :: q := by
      cases vs with
      | nil => exact absurd hpos (by decide)
      | cons x q => exact ⟨x, q, rfl⟩
    have hxe := Option.some.inj (show some x = some _ from hx)
    subst hxe
    refine' Tell.use (rest := []) (siftup_t (vs := y :: q) (v₀ := y) (P := P) (lt := lt) (pos := 0) ?hP ?hv ?hfit) ?cB2 ?cH2 ?cF2 ?cN2 ?cX2 ?cT2 ?cA2 ?cf2 ?ck2 ?cs2 ?cr2 ?ca2 ?cP2 ?cd2 ?cu2 ?cret2
    case cB2 => exact B
    case cH2 => first | exact hH | assumption
    case cF2 => assumption
    case cN2 => assumption
    case cX2 => exact X
    case cT2 => first | exact T | assumption
    case cA2 => exact Around.frames_deeper B.stack
    case cf2 => exact rfl
    case ck2 => exact rfl
    case cs2 => walk_at "mine sub"
    case cr2 => walk_at "mine sub"
    case ca2 => walk_at "mine apart"
    case cP2 => exact fun g' st _ => hC.keeps (fun b o e => st b o e)
    case cd2 => walk_at "mine room"
    case cu2 => walk_at "mine room"
    case hP =>
      intro v hv'
      rcases List.mem_cons.mp hv' with h | h
      · rw [h]; exact hv
      · exact hP v (.tail _ h)
    case hv => rfl
    case hfit => simp only [List.length_cons] at *; omega
    rintro _ _ h' tk' ⟨rfl, rfl⟩ F' N' -
    k_steps
    exact hret _ _ _ _ ⟨rfl, rfl⟩ (Own.of F' N')
  · rename ¬ 0 < vs.length => hpos
    have hnil : vs = [] := by
      cases vs with
      | nil => rfl
      | cons x q => exact absurd (Nat.zero_lt_succ _) hpos
    subst hnil
    exact hret _ _ _ _ ⟨rfl, rfl⟩ (Own.of (by assumption) (by assumption))
end
-- S4
section
/-- what stays when _int2digits' inner def is called -/
structure InOk (fi cn ca ci dl : Addr) (nv : Value) (fd : FuncData) (g : Heap) : Prop where
  fn : ∃ fo, g.get? fi = some fo ∧ fo.data = .func fd
  code : g.CodeRec fd.code fd.qualname
  n : CellIs g cn nv
  a : CellIs g ca (.ref dl)
  i : CellIs g ci (.ref fi)
theorem InOk.keeps {fi cn ca ci dl : Addr} {nv : Value} {fd : FuncData} {g g' : Heap} (x : InOk fi cn ca ci dl nv fd g) (k : ∀ b o, g.get? b = some o → g'.get? b = some o) : InOk fi cn ca ci dl nv fd g' where
  fn := let ⟨fo, h1, h2⟩ := x.fn; ⟨fo, k _ _ h1, h2⟩
  code := x.code.keeps k
  n := let ⟨o, h1, h2⟩ := x.n; ⟨o, k _ _ h1, h2⟩
  a := let ⟨o, h1, h2⟩ := x.a; ⟨o, k _ _ h1, h2⟩
  i := let ⟨o, h1, h2⟩ := x.i; ⟨o, k _ _ h1, h2⟩
section
local macro_rules | `(tactic| walk_at "eval Name") => `(tactic| (k_here; k_dflt (refine' nameX_G (by k_asm) (by assumption) (by assumption) ?_ (by rfl) (by rfl); k_whole)))
local macro_rules | `(tactic| walk_at "mine stop") => `(tactic| with_reducible show wpAny _ _ (storeName _ (Str.ofString "mid") _) _ _ _)
local macro_rules | `(tactic| walk_at "mine stop") => `(tactic| with_reducible show wpAny _ _ (storeName _ (Str.ofString "shift") _) _ _ _)
local macro_rules | `(tactic| walk_at "mine stop") => `(tactic| with_reducible show wpAny _ _ (storeName _ (Str.ofString "lower") _) _ _ _)
local macro_rules | `(tactic| walk_at "binaryOp RShift int int") => `(tactic| ((with_reducible show wpAny _ _ (binaryOp _ (Value.int (Nat.cast _) _) (Value.int (Nat.cast _) _)) _ _ _); refine shr_nat ?_; intro tk'; (try dsimp only)))
local macro_rules | `(tactic| walk_at "binaryOp LShift int int") => `(tactic| ((with_reducible show wpAny _ _ (binaryOp _ (Value.int (Nat.cast _) _) (Value.int (Nat.cast _) _)) _ _ _); refine' shl_nat (by assumption) (by assumption) ?_; intro tk'; (try dsimp only)))
local macro_rules | `(tactic| walk_at "callWith ref") => `(tactic| (k_here; (with_reducible rename ∃ _, _ ∧ _ => hFn); k_dflt (refine' callWith_F (fnAt_g hFn (by k_asm)) ?_; k_whole)))
local macro_rules | `(tactic| walk_at "And") => `(tactic| (k_here; (with_reducible show FnAt _ _ ∧ _); (with_reducible rename ∃ _, _ ∧ _ => hFn); k_dflt (refine ⟨fnAt_g hFn (by k_asm), ?_⟩); (try dsimp only [List.nil_append, List.cons_append])))
theorem inner_t {w : World} {p : Program} {loose : List Str} {mean : ExcName → Option Value} {mg mb : Str → Option Value} {fi cn ca ci dl : Addr} {nm ql : Str} {ips : Arguments} {ib : List Stmt} {isc : Scope} {cl : List (Str × Addr)} {doc pm ctv cdv : Value} {n : Nat} {tn : Tok}
    (hi : innerIn (hd.heap_39 w.params) 35 = some (ips, ib, isc)) (h1 : cl.lookup (Str.ofString "n") = some cn) (h2 : cl.lookup (Str.ofString "a_digits") = some ca) (h3 : cl.lookup (Str.ofString "inner") = some ci) (hn : 1 ≤ n) (hn2 : n ≤ 64) :
    ∀ (k : Nat) (x lo hi : Nat) (vs : List Value) (ns : List Int) (e : Nat) (t1 t2 t3 : Tok), hi - lo = k → lo < hi → hi ≤ ns.length → ns.length ≤ 64 → x < 2 ^ ((hi - lo) * n) → x < 2 ^ 64 → IntsAre vs ns →
    Tell PySem.Challenge.rw_pg0218_02.row.prog w (hd.heap_39 w.params) p loose mean mg mb (InOk fi cn ca ci dl (.int n tn) (fnX nm ql ips ib isc cl .none .none doc pm none cdv ctv)) (k + 1) (3 * k + 20) (.ref fi) [.int x t1, .int lo t2, .int hi t3] [(dl, listOf vs.toArray e)]
      (fun v news => v = .none ∧ ∃ vs' : List Value, IntsAre vs' (put ns lo hi (digs n x (hi - lo))) ∧ news = [(dl, listOf vs'.toArray e)]) := by
  k_fill
  have hk := lk (K := hd.heap_39 w.params) (a := 35) (by k_is)
  rw [innerIn, hk] at hi
  dsimp only at hi
  obtain ⟨rfl, r⟩ := Prod.mk.inj (Option.some.inj hi)
  obtain ⟨rfl, rfl⟩ := Prod.mk.inj r
  clear hi hk r
  intro k
  induction k using Nat.strongRecOn with
  | ind k ih =>
  intro x lo hi vs ns e t1 t2 t3 hkk hlt hhi hns hx hx2 hI
  have hlen : vs.length = ns.length := hI.length
  refine Tell.enterX (binds := [("x", .int x t1), ("L", .int lo t2), ("R", .int hi t3)]) (fun g hg => ⟨_, hg.fn.choose_spec.1, hg.fn.choose_spec.2, hg.code⟩) (fun s => BindsTo.of_eq rfl) (locs rfl) rfl rfl rfl (by decide) ?_
  intro A base g outer s L Q B hH X T hG F N hltL hd hu hret
  have gn := hG.n
  have ga := hG.a
  have gi := hG.i
  have gf := hG.fn
  k_steps
  · rename (lo : Int) + 1 = hi => hq
    have hh : hi = lo + 1 := by omega
    subst hh
    refine hret _ _ _ _ ⟨rfl, _, ?_, rfl⟩ (Own.of (by assumption) (by assumption))
    rw [show lo + 1 - lo = 1 by omega] at hx ⊢
    rw [digs_one n x (by rw [Nat.one_mul] at hx; exact hx), ← put_one (by omega)]
    exact ints_set hI lo
  · rename (lo : Int) + 1 ≠ hi => hq
    have hh : lo + 1 < hi := by omega
    have hm1 : lo < (lo + hi) / 2 := by omega
    have hm2 : (lo + hi) / 2 < hi := by omega
    rw [show ((lo : Int) + hi) / 2 = ((lo + hi) / 2 : Nat) by omega]
    generalize (lo + hi) / 2 = m at hm1 hm2 ⊢
    walk1
    k_steps
    rw [show ((m : Int) - lo) * n = ((m - lo) * n : Nat) by rw [← Int.natCast_sub (by omega)]; push_cast; rfl]
    have hs : (m - lo) * n ≤ 1000000 := by
      have : (m - lo) * n ≤ 64 * 64 := Nat.mul_le_mul (by omega) hn2
      omega
    have hup : x / 2 ^ ((m - lo) * n) < 2 ^ 64 := Nat.lt_of_le_of_lt (Nat.div_le_self _ _) hx2
    walk1
    k_steps
    rw [xor_low]
    walk1
    k_steps
    have e64 : x % 2 ^ ((m - lo) * n) < 2 ^ 64 := Nat.lt_of_le_of_lt (Nat.mod_le _ _) hx2
    refine' Tell.use (rest := []) (ih (m - lo) (by omega) (x % 2 ^ ((m - lo) * n)) lo m vs ns e _ _ _ rfl (by omega) (by omega) hns (Nat.mod_lt _ (Nat.two_pow_pos _)) e64 hI) ?cB1 ?cH1 ?cF1 ?cN1 ?cX1 ?cT1 ?cA1 ?cf1 ?ck1 ?cs1 ?cr1 ?ca1 ?cP1 ?cd1 ?cu1 ?cret1
    case cB1 => exact B
    case cH1 => first | exact hH | assumption
    case cF1 => assumption
    case cN1 => assumption
    case cX1 => exact X
    case cT1 => first | exact T | assumption
    case cA1 => exact Around.frames_deeper B.stack
    case cf1 => exact rfl
    case ck1 => exact rfl
    case cs1 => walk_at "mine sub"
    case cr1 => walk_at "mine sub"
    case ca1 => walk_at "mine apart"
    case cP1 => exact fun g' st _ => hG.keeps (fun b o e => st b o e)
    case cd1 => walk_at "mine room"
    case cu1 => walk_at "mine room"
    rintro _ _ h' tk' ⟨rfl, vs1, hI1, rfl⟩ F' N' -
    simp only [List.cons_append, List.nil_append] at N'
    have hl1 : (put ns lo m (digs n (x % 2 ^ ((m - lo) * n)) (m - lo))).length = ns.length := put_length (by omega) (by omega) (digs_length ..)
    k_steps
    have hx3 : x / 2 ^ ((m - lo) * n) < 2 ^ ((hi - m) * n) := by
      rw [Nat.div_lt_iff_lt_mul (Nat.two_pow_pos _), ← Nat.pow_add, ← Nat.add_mul]
      rw [show hi - m + (m - lo) = hi - lo by omega]; exact hx
    refine' Tell.use (rest := []) (ih (hi - m) (by omega) (x / 2 ^ ((m - lo) * n)) m hi vs1 _ e _ _ _ rfl (by omega) (by omega) (by omega) hx3 hup hI1) ?cB2 ?cH2 ?cF2 ?cN2 ?cX2 ?cT2 ?cA2 ?cf2 ?ck2 ?cs2 ?cr2 ?ca2 ?cP2 ?cd2 ?cu2 ?cret2
    case cB2 => exact B
    case cH2 => first | exact hH | assumption
    case cF2 => assumption
    case cN2 => assumption
    case cX2 => exact X
    case cT2 => first | exact T | assumption
    case cA2 => exact Around.frames_deeper B.stack
    case cf2 => exact rfl
    case ck2 => exact rfl
    case cs2 => walk_at "mine sub"
    case cr2 => walk_at "mine sub"
    case ca2 => walk_at "mine apart"
    case cP2 => exact fun g' st _ => hG.keeps (fun b o e => st b o e)
    case cd2 => walk_at "mine room"
    case cu2 => walk_at "mine room"
    rintro _ _ h' tk' ⟨rfl, vs2, hI2, rfl⟩ F' N' -
    k_steps
    refine hret _ _ _ _ ⟨rfl, vs2, ?_, rfl⟩ (Own.of F' N')
    rw [put_put (by omega) (by omega) hhi (digs_length ..)] at hI2
    rw [show hi - lo = (m - lo) + (hi - m) by omega, digs_split]
    exact hI2
end
end
-- S5
section
local macro_rules | `(tactic| walk_at "mine stop") => `(tactic| with_reducible show wpAny _ _ (exec (Stmt.FunctionDef _ _ _ _ _ _ _ _ _ _) _) _ _ _)
local macro_rules | `(tactic| walk_at "mine stop") => `(tactic| with_reducible show wpAny _ _ (binaryOp .Mult (Value.ref _) _) _ _ _)
theorem i2d_t {w : World} {p : Program} {loose : List Str} {mean : ExcName → Option Value} {mg mb : Str → Option Value} {a n : Nat} {t1 t2 : Tok} {ps : Array Value} {c : Addr} {oc : Obj}
    (hn : 1 ≤ n) (hn2 : n ≤ 64) (ha : a < 2 ^ 60) (htl : TabIs 32 4 ql35 ps c oc) (hc : c ≠ 30) :
    Tell PySem.Challenge.rw_pg0218_02.row.prog w (hd.heap_39 w.params) p loose mean mg mb (fun g => CodeHd g 34 30) 70 250 (.ref 35) [.int a t1, .int n t2] [(30, tabObj ps), (c, oc)]
      (fun v news => ∃ (dl : Addr) (ds : List Value) (e : Nat) (ps' : Array Value) (c' : Addr) (oc' : Obj), v = .ref dl ∧ IntsAre ds (digs n a (figs a n)) ∧ TabIs 32 4 ql35 ps' c' oc' ∧ dl ≠ 30 ∧ dl ≠ c' ∧ c' ≠ 30 ∧ news = [(dl, listOf ds.toArray e), (30, tabObj ps'), (c', oc')]) := by
  k_fill
  refine Tell.enterC (binds := [("a", .int a t1), ("n", .int n t2)]) (by k_is) (by k_is) (fun s => BindsTo.of_eq rfl) rfl (by decide +kernel) rfl rfl rfl ?_
  intro A base g outer s L cells Q B hH X T hG F N Y hlt hd hu hret
  k_cells Y
  rename_i oI oA oN dI dA dN
  replace dN : oN.data = .cell (some (.int n t2)) := dN
  simp only [List.cons_append, List.nil_append] at N
  have hfg : figs a n ≤ 60 := figs_le hn ha
  k_lt hlt
  replace hc := neN hc
  k_steps
  rw [figs_eq a n hn]
  refine rep_g (by assumption) (by assumption) (by k_mem) (by omega) ?_
  intro D h' F' N' l1
  k_lt l1
  generalize hz : List.replicate (figs a n) (Value.int 0 s.toks) = zs at N'
  have hI0 : IntsAre zs (List.replicate (figs a n) 0) := hz ▸ ints_replicate _ _
  have hzl : zs.length = figs a n := by rw [← hz, List.length_replicate]
  clear hz
  k_steps
  rename _ = Data.cell (some (Value.ref D)) => dA2
  rename News _ _ _ _ => N1
  k_dflt (refine' nestDef_K ?d0 ?k0 ?a0 ?_; (case d0 => exact rfl); (case k0 => exact rfl); (case a0 => exact rfl))
  k_dflt (refine' nest_tab (pre := [_, _, _, _, _]) (P := 30) (ps := ps) (c0 := c) (oc0 := oc) ?F N1 ?T ?C ?cd ?tb ?hP ?hc ?hPc ?cl ?_; (case F => k_asm); (case T => k_asm); (case cd => exact rfl); (case C => exact hG); (case tb => exact htl); (case hP => k_all); (case hc => k_all); (case hPc => exact hc); (case cl => exact rfl))
  intro f2 c2 oc2 vs2 t2' ct2 dc2 ps2 h2 tk2 F2 N2 hd2 hv2 htab2 hne2 hc2P hlt2
  simp only [List.cons_append, List.nil_append] at N2 hlt2
  k_lt hlt2
  replace hne2 : AllNe c2 _ := allNe_of hne2
  simp only [AllNe, and_true] at hne2
  replace hc2P := neN hc2P
  k_steps
  · rename (a : Int) ≠ 0 => ha0
    rename _ = Data.cell (some (Value.ref f2)) => dI2
    have hfp : 1 ≤ figs a n := figs_pos (by omega) hn
    have hx := figs_fit (a := a) hn
    rw [hzl]
    refine' Tell.use (rest := [(f2, _), (L + 1, _), (L + 1 + 1, _), (L + 1 + 1 + 1, _), (30, tabObj ps2), (c2, oc2)]) (inner_t (ca := L + 1 + 1) (cn := L + 1) (ci := L + 1 + 1 + 1) (dl := D) (fi := f2) (tn := t2) (ql := ql35) (cdv := .ref c2) ?hin ?h1 ?h2 ?h3 hn hn2 (figs a n) a 0 (figs a n) zs (List.replicate (figs a n) 0) 0 _ _ _ (by omega) (by omega) (by rw [List.length_replicate]; omega) (by rw [List.length_replicate]; omega) (by exact hx) (by omega) hI0) ?cB1 ?cH1 ?cF1 ?cN1 ?cX1 ?cT1 ?cA1 ?cf1 ?ck1 ?cs1 ?cr1 ?ca1 ?cP1 ?cd1 ?cu1 ?cret1
    case cB1 => exact B
    case cH1 => first | exact hH | assumption
    case cF1 => assumption
    case cN1 => assumption
    case cX1 => exact X
    case cT1 => first | exact T | assumption
    case cA1 => exact Around.frames_deeper B.stack
    case cf1 => exact rfl
    case ck1 => exact rfl
    case cs1 => walk_at "mine sub"
    case cr1 => walk_at "mine sub"
    case ca1 => walk_at "mine apart"
    case cP1 => exact fun g' st hr => ⟨⟨_, hr _ (.head _), rfl⟩, ⟨c2, oc2, vs2, t2', rfl, hr _ (.tail _ (.tail _ (.tail _ (.tail _ (.tail _ (.head _)))))), hd2, hv2⟩, ⟨_, hr _ (.tail _ (.head _)), dN⟩, ⟨_, hr _ (.tail _ (.tail _ (.head _))), dA2⟩, ⟨_, hr _ (.tail _ (.tail _ (.tail _ (.head _)))), dI2⟩⟩
    case cd1 => walk_at "mine room"
    case cu1 => walk_at "mine room"
    case hin =>
      have hk := lk (K := Mine.hd.heap_39 w.params) (a := 35) (by k_is)
      rw [innerIn, hk]
    case h1 => rfl
    case h2 => rfl
    case h3 => rfl
    rintro _ _ h' tk' ⟨rfl, vs', hI', rfl⟩ F' N' hap
    simp only [List.cons_append, List.nil_append] at N'
    k_steps
    refine hret _ _ _ _ ⟨D, vs', 0, ps2, c2, oc2, rfl, ?_, htab2, neN (by omega), neN (by omega), hc2P, rfl⟩ (Own.of F' (News.sub N' (by walk_at "mine sub")))
    rw [put_all (by rw [List.length_replicate]; omega), Nat.sub_zero] at hI'
    exact hI'
  · rename (a : Int) = 0 => ha0
    have ha1 : a = 0 := by omega
    subst ha1
    refine hret _ _ _ _ ⟨D, zs, 0, ps2, c2, oc2, rfl, ?_, htab2, neN (by omega), neN (by omega), hc2P, rfl⟩ (Own.of (by assumption) (News.sub (by assumption) (by walk_at "mine sub")))
    rw [figs_zero n hn] at hI0 ⊢
    exact hI0
end
-- S6
section
structure In2 (fi cn cd ci dl : Addr) (nv : Value) (lo : Obj) (fd : FuncData) (g : Heap) : Prop where
  fn : ∃ fo, g.get? fi = some fo ∧ fo.data = .func fd
  code : g.CodeRec fd.code fd.qualname
  n : CellIs g cn nv
  d : CellIs g cd (.ref dl)
  i : CellIs g ci (.ref fi)
  l : g.get? dl = some lo
theorem In2.keeps {fi cn cd ci dl : Addr} {nv : Value} {lo : Obj} {fd : FuncData} {g g' : Heap} (x : In2 fi cn cd ci dl nv lo fd g) (k : ∀ b o, g.get? b = some o → g'.get? b = some o) : In2 fi cn cd ci dl nv lo fd g' where
  fn := let ⟨fo, h1, h2⟩ := x.fn; ⟨fo, k _ _ h1, h2⟩
  code := x.code.keeps k
  n := let ⟨o, h1, h2⟩ := x.n; ⟨o, k _ _ h1, h2⟩
  d := let ⟨o, h1, h2⟩ := x.d; ⟨o, k _ _ h1, h2⟩
  i := let ⟨o, h1, h2⟩ := x.i; ⟨o, k _ _ h1, h2⟩
  l := k _ _ x.l
section
local macro_rules | `(tactic| walk_at "eval Name") => `(tactic| (k_here; k_dflt (refine' nameX_G (by k_asm) (by assumption) (by assumption) ?_ (by rfl) (by rfl); k_whole)))
local macro_rules | `(tactic| walk_at "mine stop") => `(tactic| with_reducible show wpAny _ _ (storeName _ (Str.ofString "mid") _) _ _ _)
local macro_rules | `(tactic| walk_at "mine stop") => `(tactic| with_reducible show wpAny _ _ (storeName _ (Str.ofString "shift") _) _ _ _)
local macro_rules | `(tactic| walk_at "mine stop") => `(tactic| with_reducible show wpAny _ _ (binaryOp .LShift _ _) _ _ _)
local macro_rules | `(tactic| walk_at "callWith ref") => `(tactic| (k_here; (with_reducible rename ∃ _, _ ∧ _ => hFn); k_dflt (refine' callWith_F (fnAt_g hFn (by k_asm)) ?_; k_whole)))
local macro_rules | `(tactic| walk_at "And") => `(tactic| (k_here; (with_reducible show FnAt _ _ ∧ _); (with_reducible rename ∃ _, _ ∧ _ => hFn); k_dflt (refine ⟨fnAt_g hFn (by k_asm), ?_⟩); (try dsimp only [List.nil_append, List.cons_append])))
local macro_rules | `(tactic| walk_at "subscriptTail") => `(tactic| (k_here; (with_reducible rename _ = some (listOf _ _) => hGl); k_dflt (refine' item_G (by k_asm) hGl (by omega) (by omega) (by omega) ?_ (by with_unfolding_all rfl); k_whole); intro x' hx'))
theorem inner2_t {w : World} {p : Program} {loose : List Str} {mean : ExcName → Option Value} {mg mb : Str → Option Value} {fi cn cd ci dl : Addr} {nm ql : Str} {ips : Arguments} {ib : List Stmt} {isc : Scope} {cl : List (Str × Addr)} {doc pm ctv cdv : Value} {n : Nat} {tn : Tok} {vs : List Value} {ns : List Int} {e : Nat}
    (hi : innerIn (hd.heap_39 w.params) 42 = some (ips, ib, isc)) (h1 : cl.lookup (Str.ofString "n") = some cn) (h2 : cl.lookup (Str.ofString "digits") = some cd) (h3 : cl.lookup (Str.ofString "inner") = some ci) (hn2 : n ≤ 64)
    (hI : IntsAre vs ns) (hF : Figs n ns) (hns : ns.length ≤ 64) (hsz : ns.length * n ≤ 200) :
    ∀ (k : Nat) (lo hi : Nat) (t2 t3 : Tok), hi - lo = k → lo < hi → hi ≤ ns.length →
    Tell PySem.Challenge.rw_pg0218_02.row.prog w (hd.heap_39 w.params) p loose mean mg mb (In2 fi cn cd ci dl (.int n tn) (listOf vs.toArray e) (fnX nm ql ips ib isc cl .none .none doc pm none cdv ctv)) (k + 1) (3 * k + 20) (.ref fi) [.int lo t2, .int hi t3] []
      (fun v news => ∃ t, v = .int (valI n (cut ns lo hi)) t ∧ news = []) := by
  k_fill
  have hk := lk (K := Mine.hd.heap_39 w.params) (a := 42) (by k_is)
  rw [innerIn, hk] at hi
  dsimp only at hi
  obtain ⟨rfl, r⟩ := Prod.mk.inj (Option.some.inj hi)
  obtain ⟨rfl, rfl⟩ := Prod.mk.inj r
  clear hi hk r
  intro k
  induction k using Nat.strongRecOn with
  | ind k ih =>
  intro lo hi t2 t3 hkk hlt hhi
  have hlen : vs.length = ns.length := hI.length
  refine Tell.enterX (binds := [("L", .int lo t2), ("R", .int hi t3)]) (fun g hg => ⟨_, hg.fn.choose_spec.1, hg.fn.choose_spec.2, hg.code⟩) (fun s => BindsTo.of_eq rfl) (locs rfl) rfl rfl rfl (by decide) ?_
  intro A base g outer s L Q B hH X T hG F N hltL hd hu hret
  have gn := hG.n
  have gd := hG.d
  have gi := hG.i
  have gf := hG.fn
  have gl := hG.l
  k_steps
  · rename (lo : Int) + 1 = hi => hq
    rename vs[_]? = some _ => hx
    have hh : hi = lo + 1 := by omega
    subst hh
    obtain ⟨kk, tt, rfl, hx2⟩ := ints_get hI hx
    refine hret _ _ _ _ ⟨tt, ?_, rfl⟩ (Own.of (by assumption) (by assumption))
    rw [cut_one (show ns[lo]? = some kk from hx2)]
    simp [valI]
  · rename (lo : Int) + 1 ≠ hi => hq
    have hh : lo + 1 < hi := by omega
    have hm1 : lo < (lo + hi) / 2 := by omega
    have hm2 : (lo + hi) / 2 < hi := by omega
    rw [show ((lo : Int) + hi) / 2 = ((lo + hi) / 2 : Nat) by omega]
    generalize (lo + hi) / 2 = m at hm1 hm2 ⊢
    walk1
    k_steps
    rw [show ((m : Int) - lo) * n = ((m - lo) * n : Nat) by rw [← Int.natCast_sub (by omega)]; push_cast; rfl]
    have hs : (m - lo) * n ≤ 1000000 := by
      have : (m - lo) * n ≤ 64 * 64 := Nat.mul_le_mul (by omega) hn2
      omega
    walk1
    k_steps
    refine' Tell.use (rest := []) (ih (hi - m) (by omega) m hi _ _ rfl (by omega) (by omega)) ?cB1 ?cH1 ?cF1 ?cN1 ?cX1 ?cT1 ?cA1 ?cf1 ?ck1 ?cs1 ?cr1 ?ca1 ?cP1 ?cd1 ?cu1 ?cret1
    case cB1 => exact B
    case cH1 => first | exact hH | assumption
    case cF1 => assumption
    case cN1 => assumption
    case cX1 => exact X
    case cT1 => first | exact T | assumption
    case cA1 => exact Around.frames_deeper B.stack
    case cf1 => exact rfl
    case ck1 => exact rfl
    case cs1 => walk_at "mine sub"
    case cr1 => walk_at "mine sub"
    case ca1 => walk_at "mine apart"
    case cP1 => exact fun g' st _ => hG.keeps (fun b o e => st b o e)
    case cd1 => walk_at "mine room"
    case cu1 => walk_at "mine room"
    rintro _ _ h' tk' ⟨t', rfl, rfl⟩ F' N' -
    simp only [List.append_nil] at N'
    k_steps
    have hp0 := valI_pos (cut_figs hF m hi)
    have hp1 : valI n (cut ns m hi) < 2 ^ 200 := by
      refine Int.lt_of_lt_of_le (valI_lt (cut_figs hF m hi)) ?_
      rw [cut_length hhi]
      have : (hi - m) * n ≤ 200 := Nat.le_trans (Nat.mul_le_mul_right _ (by omega)) hsz
      exact_mod_cast Nat.pow_le_pow_right (by decide) this
    refine shl_int hp0 hp1 hs ?_
    intro tk2
    k_steps
    refine' Tell.use (rest := []) (ih (m - lo) (by omega) lo m _ _ rfl (by omega) (by omega)) ?cB2 ?cH2 ?cF2 ?cN2 ?cX2 ?cT2 ?cA2 ?cf2 ?ck2 ?cs2 ?cr2 ?ca2 ?cP2 ?cd2 ?cu2 ?cret2
    case cB2 => exact B
    case cH2 => first | exact hH | assumption
    case cF2 => assumption
    case cN2 => assumption
    case cX2 => exact X
    case cT2 => first | exact T | assumption
    case cA2 => exact Around.frames_deeper B.stack
    case cf2 => exact rfl
    case ck2 => exact rfl
    case cs2 => walk_at "mine sub"
    case cr2 => walk_at "mine sub"
    case ca2 => walk_at "mine apart"
    case cP2 => exact fun g' st _ => hG.keeps (fun b o e => st b o e)
    case cd2 => walk_at "mine room"
    case cu2 => walk_at "mine room"
    rintro _ _ h' tk' ⟨t', rfl, rfl⟩ F' N' -
    simp only [List.append_nil] at N'
    k_steps
    rw [show valI n (cut ns m hi) * 2 ^ ((m - lo) * n) + valI n (cut ns lo m) = valI n (cut ns lo hi) by
      rw [cut_app (a := lo) (m := m) (b := hi) (by omega) (by omega), valI_app, cut_length (by omega), Int.mul_comm, Int.add_comm]]
    exact hret _ _ _ _ ⟨_, rfl, rfl⟩ (Own.of (by assumption) (by assumption))
end
local macro_rules | `(tactic| walk_at "mine stop") => `(tactic| with_reducible show wpAny _ _ (exec (Stmt.FunctionDef _ _ _ _ _ _ _ _ _ _) _) _ _ _)
local macro_rules | `(tactic| walk_at "truthy ref") => `(tactic| (k_here; (with_reducible rename _ = some (listOf _ _) => hGl); k_dflt (refine' truthy_G (by k_asm) hGl (by omega) ?_; k_whole); intro tk'))
local macro_rules | `(tactic| walk_at "call builtin:len") => `(tactic| (k_here; (with_reducible rename _ = some (listOf _ _) => hGl); k_dflt (refine' len_G (by k_asm) hGl (by omega) ?_; k_whole); intro t' tk'))
theorem d2i_t {w : World} {p : Program} {loose : List Str} {mean : ExcName → Option Value} {mg mb : Str → Option Value} {dl : Addr} {n : Nat} {t2 : Tok} {ps : Array Value} {c : Addr} {oc : Obj} {vs : List Value} {ns : List Int} {e : Nat}
    (hn2 : n ≤ 64) (hI : IntsAre vs ns) (hF : Figs n ns) (hns : ns.length ≤ 64) (hsz : ns.length * n ≤ 200) (htl : TabIs 47 4 ql42 ps c oc) (hc : c ≠ 37) :
    Tell PySem.Challenge.rw_pg0218_02.row.prog w (hd.heap_39 w.params) p loose mean mg mb (fun g => CodeHd g 41 37 ∧ g.get? dl = some (listOf vs.toArray e)) 70 250 (.ref 42) [.ref dl, .int n t2] [(37, tabObj ps), (c, oc)]
      (fun v news => ∃ (t : Tok) (ps' : Array Value) (c' : Addr) (oc' : Obj), v = .int (valI n ns) t ∧ TabIs 47 4 ql42 ps' c' oc' ∧ c' ≠ 37 ∧ news = [(37, tabObj ps'), (c', oc')]) := by
  k_fill
  have hlen : vs.length = ns.length := hI.length
  refine Tell.enterC (binds := [("digits", .ref dl), ("n", .int n t2)]) (by k_is) (by k_is) (fun s => BindsTo.of_eq rfl) rfl (by decide +kernel) rfl rfl rfl ?_
  intro A base g outer s L cells Q B hH X T hG F N Y hlt hd hu hret
  obtain ⟨hG, gl⟩ := hG
  k_cells Y
  rename_i o1 o2 o3 d1 d2 d3
  replace d3 : o3.data = .cell (some (.ref dl)) := d3
  replace d2 : o2.data = .cell (some (.int n t2)) := d2
  simp only [List.cons_append, List.nil_append] at N
  k_lt hlt
  replace hc := neN hc
  k_steps
  k_dflt (refine' nestDef_K ?d0 ?k0 ?a0 ?_; (case d0 => exact rfl); (case k0 => exact rfl); (case a0 => exact rfl))
  k_dflt (refine' nest_tab (pre := [_, _, _]) (P := 37) (ps := ps) (c0 := c) (oc0 := oc) ?F N ?T ?C ?cd ?tb ?hP ?hc ?hPc ?cl ?_; (case F => k_asm); (case T => k_asm); (case cd => exact rfl); (case C => exact hG); (case tb => exact htl); (case hP => k_all); (case hc => k_all); (case hPc => exact hc); (case cl => exact rfl))
  intro f2 c2 oc2 vs2 t2' ct2 dc2 ps2 h2 tk2 F2 N2 hd2 hv2 htab2 hne2 hc2P hlt2
  simp only [List.cons_append, List.nil_append] at N2 hlt2
  k_lt hlt2
  replace hne2 : AllNe c2 _ := allNe_of hne2
  simp only [AllNe, and_true] at hne2
  replace hc2P := neN hc2P
  k_steps
  · rename 0 < vs.length => hpos
    rename _ = Data.cell (some (Value.ref f2)) => dI2
    have gl2 : g.get? dl = some (listOf vs.toArray e) := by assumption
    rw [hlen]
    refine' Tell.use (rest := [(f2, _), (L + 1, _), (L + 1 + 1, _), (L + 1 + 1 + 1, _), (37, tabObj ps2), (c2, oc2)]) (inner2_t (cd := L + 1) (cn := L + 1 + 1) (ci := L + 1 + 1 + 1) (dl := dl) (fi := f2) (tn := t2) (ql := ql42) (cdv := .ref c2) (e := e) ?hin ?h1 ?h2 ?h3 hn2 hI hF hns hsz ns.length 0 ns.length _ _ rfl (by omega) (Nat.le_refl _)) ?cB3 ?cH3 ?cF3 ?cN3 ?cX3 ?cT3 ?cA3 ?cf3 ?ck3 ?cs3 ?cr3 ?ca3 ?cP3 ?cd3 ?cu3 ?cret3
    case cB3 => exact B
    case cH3 => first | exact hH | assumption
    case cF3 => assumption
    case cN3 => assumption
    case cX3 => exact X
    case cT3 => first | exact T | assumption
    case cA3 => exact Around.frames_deeper B.stack
    case cf3 => exact rfl
    case ck3 => exact rfl
    case cs3 => walk_at "mine sub"
    case cr3 => walk_at "mine sub"
    case ca3 => walk_at "mine apart"
    case cP3 => exact fun g' st hr => ⟨⟨_, hr _ (.head _), rfl⟩, ⟨c2, oc2, vs2, t2', rfl, hr _ (.tail _ (.tail _ (.tail _ (.tail _ (.tail _ (.head _)))))), hd2, hv2⟩, ⟨_, hr _ (.tail _ (.tail _ (.head _))), d2⟩, ⟨_, hr _ (.tail _ (.head _)), d3⟩, ⟨_, hr _ (.tail _ (.tail _ (.tail _ (.head _)))), dI2⟩, st _ _ gl2⟩
    case cd3 => walk_at "mine room"
    case cu3 => walk_at "mine room"
    case hin =>
      have hk := lk (K := Mine.hd.heap_39 w.params) (a := 42) (by k_is)
      rw [innerIn, hk]
    case h1 => rfl
    case h2 => rfl
    case h3 => rfl
    rintro _ _ h' tk' ⟨t', rfl, rfl⟩ F' N' -
    simp only [List.cons_append, List.nil_append] at N'
    rw [cut_all]
    k_steps
    exact hret _ _ _ _ ⟨_, ps2, c2, oc2, rfl, htab2, hc2P, rfl⟩ (Own.of F' (News.sub N' (by walk_at "mine sub")))
  · rename ¬ 0 < vs.length => hpos
    have h0 : ns = [] := List.length_eq_zero_iff.mp (by omega)
    subst h0
    exact hret _ _ _ _ ⟨_, ps2, c2, oc2, rfl, htab2, hc2P, rfl⟩ (Own.of (by assumption) (News.sub (by assumption) (by walk_at "mine sub")))
end
-- S7
section
local macro_rules | `(tactic| walk_at "mine stop") => `(tactic| with_reducible show wpAny _ _ (PySem.call (Value.builtin "divmod") _ _) _ _ _)
theorem div_t {w : World} {p : Program} {loose : List Str} {mean : ExcName → Option Value} {mg mb : Str → Option Value} {PG : Heap → Prop} {a b n : Nat} {t1 t2 t3 : Tok} (ha : a < 2 ^ 200) (hb : 0 < b) (hb2 : b < 2 ^ 30) :
    Tell PySem.Challenge.rw_pg0218_02.row.prog w (hd.heap_39 w.params) p loose mean mg mb PG 1 20 (.ref 21) [.int a t1, .int b t2, .int n t3] []
      (fun v news => ∃ (T : Addr) (u1 u2 : Tok), v = .ref T ∧ news = [(T, { cls := .type "tuple", data := .seq #[.int (a / b : Nat) u1, .int (a % b : Nat) u2] 0 })]) := by
  k_fill
  have hbits : Builtin.Int.intBits (a : Int) ≤ 200 := bitsOf_le ha
  refine Tell.enter (binds := [("a", .int a t1), ("b", .int b t2), ("n", .int n t3)]) (by k_is) (by k_is) (fun s => BindsTo.of_eq rfl) (locs rfl) rfl rfl rfl (by decide) ?_
  intro A base g outer s L Q B hH X T hC F N hlt hd hu hret
  k_steps
  refine divmod_N (by assumption) (by assumption) (by omega) ?_ (.inl (PyProof.noPylong_small (by rw [Int.natAbs_natCast]; omega)))
  intro h' F' N'
  rw [Int.fdiv_eq_ediv_of_nonneg _ (by omega), Int.fmod_eq_emod_of_nonneg _ (by omega)] at N'
  exact hret _ _ _ _ ⟨_, _, _, rfl, rfl⟩ (Own.of F' N')
abbrev pairOf (x y : Int) (u1 u2 : Tok) : Obj := { cls := .type "tuple", data := .seq #[.int x u1, .int y u2] 0 }
local macro_rules | `(tactic| walk_at "binaryOp LShift int int") => `(tactic| ((with_reducible show wpAny _ _ (binaryOp _ (Value.int (Nat.cast _) _) (Value.int (Nat.cast _) _)) _ _ _); refine' shl_nat (by assumption) (by assumption) ?_; intro tk'; (try dsimp only)))
theorem divpos_t {w : World} {p : Program} {loose : List Str} {mean : ExcName → Option Value} {mg mb : Str → Option Value} {a b : Nat} {t1 t2 : Tok} {T : Tabs} (ha : a < 2 ^ 60) (hb : 0 < b) (hb2 : b < 2 ^ 30) (hT : T.Ok) :
    Tell PySem.Challenge.rw_pg0218_02.row.prog w (hd.heap_39 w.params) p loose mean mg mb (fun g => CodeHd g 34 30 ∧ CodeHd g 41 37) 80 280 (.ref 49) [.int a t1, .int b t2] T.led
      (fun v news => ∃ (D : Addr) (u1 u2 : Tok) (T' : Tabs), v = .ref D ∧ T'.Ok ∧ (@Ne Nat D 30 ∧ @Ne Nat D 37 ∧ @Ne Nat D T'.c1 ∧ @Ne Nat D T'.c2) ∧ news = (D, pairOf (a / b : Nat) (a % b : Nat) u1 u2) :: T'.led) := by
  k_fill
  obtain ⟨p1, c1, o1, p2, c2, o2⟩ := T
  obtain ⟨ht1, ht2, hn1, hn2, hn3, hn4, hn5⟩ := hT
  dsimp only [Tabs.led] at ht1 ht2 hn1 hn2 hn3 hn4 hn5 ⊢
  refine Tell.enter (binds := [("a", .int a t1), ("b", .int b t2)]) (by k_is) (by k_is) (fun s => BindsTo.of_eq rfl) (locs rfl) rfl rfl rfl (by decide) ?_
  intro A base g outer s L Q B hH X T hC F N hlt hd hu hret
  k_lt hlt
  k_steps
  generalize hn : Builtin.Int.intBits (b : Int) = n at *
  replace hn : bitsOf b = n := hn
  have hbn : b < 2 ^ n := hn ▸ bitsOf_lt b
  have hn30 : n ≤ 30 := hn ▸ bitsOf_le hb2
  have hn1' : 1 ≤ n := hn ▸ bitsOf_pos (by omega)
  refine' Tell.use (rest := [(37, _), (c2, _)]) (i2d_t (a := a) (n := n) hn1' (by omega) ha ht1 hn1) ?cB1 ?cH1 ?cF1 ?cN1 ?cX1 ?cT1 ?cA1 ?cf1 ?ck1 ?cs1 ?cr1 ?ca1 ?cP1 ?cd1 ?cu1 ?cret1
  case cB1 => exact B
  case cH1 => first | exact hH | assumption
  case cF1 => assumption
  case cN1 => assumption
  case cX1 => exact X
  case cT1 => first | exact T | assumption
  case cA1 => exact Around.frames_deeper B.stack
  case cf1 => exact rfl
  case ck1 => exact rfl
  case cs1 => walk_at "mine sub"
  case cr1 => walk_at "mine sub"
  case ca1 => walk_at "mine apart"
  case cP1 => exact fun g' st _ => CodeHd.keeps hC.1 (fun b o e => st b o e)
  case cd1 => walk_at "mine room"
  case cu1 => walk_at "mine room"
  rintro _ _ h' tk' ⟨dl, ds, e, q1, d1, q, rfl, hI, htab, hdl30, hdl, hd30, rfl⟩ F' N' hap
  simp only [List.cons_append, List.nil_append] at N'
  replace hap := fun q hq => allNe_of' (hap q hq)
  simp only [List.forall_mem_cons, List.forall_mem_nil, and_true, AllNe'] at hap
  k_steps
  rename News _ _ _ _ => N1
  rename Fr _ _ _ _ => F1
  rename _ ∧ _ => l1
  obtain ⟨k, hk⟩ : ∃ k, k = figs a n := ⟨_, rfl⟩
  rw [← hk] at hI
  have hdsl : ds.length = k := by rw [hI.length, digs_length]
  have hka : a < 2 ^ (k * n) := hk ▸ figs_fit hn1'
  have hk60 : k ≤ 60 := hk ▸ figs_le hn1' ha
  have hkn : k * n ≤ 200 := by
    have h1 : bitsOf a ≤ 60 := bitsOf_le ha
    have h2 : k * n ≤ bitsOf a + n - 1 := by rw [hk]; exact Nat.div_mul_le_self _ _
    omega
  rename_i tn _ _ _ _ tr _ lq _ _ _ D' _
  refine iter_rev_by (l := dl) (vs := ds) (e := e) (σ := Nat × List Int × List Value × Nat × Tok) (fun c => [("b", .int b t2), ("n", .int n tn), ("r", .int c.1 c.2.2.2.2), ("q_digits", .ref lq)]) (fun c => [(lq, listOf c.2.2.1.toArray c.2.2.2.1), (30, tabObj q1), (d1, q), (37, tabObj p2), (c2, o2)])
    (fun i c => c.1 = a / 2 ^ ((k - i) * n) % b ∧ IntsAre c.2.2.1 c.2.1 ∧ Figs n c.2.1 ∧ c.2.1.length = i ∧ valI n c.2.1.reverse = ((a / 2 ^ ((k - i) * n) / b : Nat) : Int)) (0, [], [], 0, tr) hH F1 N1 ?lt ?mem ?sub ?vars ?inv ?turn ?done
  case lt => exact ltOf (by simp only [AllLt, and_true]; exact l1)
  case mem => k_mem
  case sub => walk_at "mine sub"
  case vars => walk_at "mine vars"
  case inv =>
    rw [Nat.sub_zero, Nat.div_eq_of_lt hka]
    exact ⟨by simp, .nil, (fun _ h => nomatch h : Figs n []), rfl, by simp [valI]⟩
  case turn =>
    clear F1 N1
    rintro i ⟨r, qs, qv, qe, tr'⟩ v it u h tk hv ⟨i1, i2, i3, i4, i5⟩ hne F N
    dsimp only at i1 i2 i3 i4 i5 hne F N
    replace hne := allNe_of hne
    simp only [AllNe, and_true] at hne
    have hik : i < k := by
      have := (List.getElem?_eq_some_iff.mp hv).1
      rw [List.length_reverse] at this; omega
    obtain ⟨d, td, rfl, hd2⟩ := ints_get (ints_reverse hI) hv
    rw [List.getElem?_reverse (by rw [digs_length]; exact hik), digs_length, digs_get n k a _ (by omega)] at hd2
    replace hd2 := Option.some.inj hd2
    obtain ⟨s1, s2, s3⟩ := long_step (a := a) hb hbn (k - 1 - i)
    rw [show k - 1 - i + 1 = k - i by omega, ← i1] at s1 s2 s3
    generalize hdd : a / 2 ^ ((k - 1 - i) * n) % 2 ^ n = dd at *
    subst hd2
    have hddlt : dd < 2 ^ n := hdd ▸ Nat.mod_lt _ (Nat.two_pow_pos _)
    have hrb : r < b := i1 ▸ Nat.mod_lt _ hb
    have hr64 : r < 2 ^ 64 := by omega
    have hn6 : n ≤ 1000000 := by omega
    replace F : Fr g L h _ := F
    replace N : News g L h _ := N
    k_steps
    rw [← Int.natCast_add]
    have h200 : r * 2 ^ n + dd < 2 ^ 200 := by
      have e1 : 2 ^ n ≤ 2 ^ 30 := Nat.pow_le_pow_right (by decide) hn30
      have e2 : r * 2 ^ n ≤ 2 ^ 30 * 2 ^ 30 := Nat.mul_le_mul (by omega) e1
      have e3 : (2 : Nat) ^ 30 * 2 ^ 30 + 2 ^ 30 < 2 ^ 200 := by decide
      omega
    refine' Tell.use (rest := [(D', _), (dl, _), (lq, _), (30, _), (d1, _), (37, _), (c2, _)]) (div_t (a := r * 2 ^ n + dd) (b := b) (n := n) h200 hb hb2) ?cB2 ?cH2 ?cF2 ?cN2 ?cX2 ?cT2 ?cA2 ?cf2 ?ck2 ?cs2 ?cr2 ?ca2 ?cP2 ?cd2 ?cu2 ?cret2
    case cB2 => exact B
    case cH2 => first | exact hH | assumption
    case cF2 => assumption
    case cN2 => assumption
    case cX2 => exact X
    case cT2 => first | exact T | assumption
    case cA2 => exact Around.frames_deeper B.stack
    case cf2 => exact rfl
    case ck2 => exact rfl
    case cs2 => walk_at "mine sub"
    case cr2 => walk_at "mine sub"
    case ca2 => walk_at "mine apart"
    case cP2 => exact fun g' st _ => trivial
    case cd2 => walk_at "mine room"
    case cu2 => walk_at "mine room"
    rintro _ _ h' tk' ⟨TT, u1, u2, rfl, rfl⟩ F' N' hap2
    simp only [List.cons_append, List.nil_append] at N'
    replace hap2 := allNe_of' (hap2 _ (.head _))
    simp only [AllNe', and_true] at hap2
    have hqv : qv.length ≤ 1000000 := by have := i2.length; omega
    k_steps
    try dsimp only
    refine FPost.next ((r * 2 ^ n + dd) % b, qs ++ [(((r * 2 ^ n + dd) / b : Nat) : Int)], qv ++ [_], qe + 1, _) (by assumption) (by assumption) (by walk_at "mine sub") (by walk_at "mine sub") ?_ (by walk_at "mine vars") ⟨?_, ?_, ?_, ?_, ?_⟩
    · exact fun q hq => ne_of_all (by simp only [AllNe]; exact ⟨hne.2.1, hne.2.2.1, hne.2.2.2.1, hne.2.2.2.2.1, hne.2.2.2.2.2, trivial⟩) q hq
    · dsimp only
      rw [show k - (i + 1) = k - 1 - i by omega]; exact s2.symm
    · exact ints_append i2 (.cons _ _ .nil)
    · intro x hx
      rcases List.mem_append.mp hx with h | h
      · exact i3 x h
      · rw [List.mem_singleton.mp h]; exact ⟨Int.natCast_nonneg _, by exact_mod_cast s1⟩
    · simp [i4]
    · dsimp only
      rw [List.reverse_append, List.reverse_singleton, List.singleton_append, valI, i5, show k - (i + 1) = k - 1 - i by omega, s3]
      push_cast
      rw [Int.mul_comm (2 ^ n), Int.add_comm]
  case done =>
    clear F1 N1
    rintro ⟨r, qs, qv, qe, tr'⟩ u h tk ⟨i1, i2, i3, i4, i5⟩ F N
    dsimp only at i1 i2 i3 i4 i5 F N
    replace F : Fr g L h _ := F
    replace N : News g L h _ := N
    rw [hdsl] at i1 i4 i5
    rw [Nat.sub_self, Nat.zero_mul, Nat.pow_zero, Nat.div_one] at i1 i5
    have hqv : qv.length ≤ 1000000 := by have := i2.length; omega
    k_steps
    have hqi := ints_reverse i2
    have hql : qs.reverse.length = k := by rw [List.length_reverse, i4]
    have hapl : lq ≠ 30 ∧ lq ≠ d1 ∧ lq ≠ 37 ∧ lq ≠ c2 := by
      rename dl < lq ∧ _ => l0
      obtain ⟨l01, l02, l03, l04, l05⟩ := l0
      exact ⟨neN (by omega), neN (by omega), neN (by omega), neN (by omega)⟩
    refine' Tell.use (rest := [(lq, _), (30, _), (d1, _)]) (d2i_t (dl := lq) (n := n) (by omega) hqi (fun x hx => i3 x (List.mem_reverse.mp hx)) (by omega) (by rw [hql]; exact hkn) ht2 hn5) ?cB3 ?cH3 ?cF3 ?cN3 ?cX3 ?cT3 ?cA3 ?cf3 ?ck3 ?cs3 ?cr3 ?ca3 ?cP3 ?cd3 ?cu3 ?cret3
    case cB3 => exact B
    case cH3 => first | exact hH | assumption
    case cF3 => assumption
    case cN3 => assumption
    case cX3 => exact X
    case cT3 => first | exact T | assumption
    case cA3 => exact Around.frames_deeper B.stack
    case cf3 => exact rfl
    case ck3 => exact rfl
    case cs3 => walk_at "mine sub"
    case cr3 => walk_at "mine sub"
    case ca3 => walk_at "mine apart"
    case cP3 => exact fun g' st hr => ⟨CodeHd.keeps hC.2 (fun b o e => st b o e), hr _ (.head _)⟩
    case cd3 => walk_at "mine room"
    case cu3 => walk_at "mine room"
    rintro _ _ h' tk' ⟨t', q2, d2, qq2, rfl, htab2, hd37, rfl⟩ F' N' hap2
    simp only [List.cons_append, List.nil_append] at N'
    replace hap2 := fun q hq => allNe_of' (hap2 q hq)
    simp only [List.forall_mem_cons, and_true, AllNe'] at hap2
    rw [i5]
    subst i1
    k_steps
    rename 37 < _ ∧ _ => lz
    obtain ⟨lz1, lz2, lz3, lz4, lz5⟩ := lz
    exact hret _ _ _ _ ⟨_, _, _, ⟨q1, d1, q, q2, d2, qq2⟩, rfl, ⟨htab, htab2, hd30, hap.2.2.1.1, fun h => hap2.2.1.2.2 h.symm, hap2.2.1.2.1, hd37⟩, ⟨by omega, by omega, by dsimp only; omega, by dsimp only; omega⟩, rfl⟩ (Own.of (by assumption) (News.sub (by assumption) (by walk_at "mine sub")))
theorem intdiv_t {w : World} {p : Program} {loose : List Str} {mean : ExcName → Option Value} {mg mb : Str → Option Value} {a b : Nat} {t1 t2 : Tok} {T : Tabs} (ha : a < 2 ^ 60) (hb : 0 < b) (hb2 : b < 2 ^ 30) (hT : T.Ok) :
    Tell PySem.Challenge.rw_pg0218_02.row.prog w (hd.heap_39 w.params) p loose mean mg mb (fun g => CodeHd g 34 30 ∧ CodeHd g 41 37) 90 300 (.ref 56) [.int a t1, .int b t2] T.led
      (fun v news => ∃ (D : Addr) (u1 u2 : Tok) (T' : Tabs), v = .ref D ∧ T'.Ok ∧ (@Ne Nat D 30 ∧ @Ne Nat D 37 ∧ @Ne Nat D T'.c1 ∧ @Ne Nat D T'.c2) ∧ news = (D, pairOf (a / b : Nat) (a % b : Nat) u1 u2) :: T'.led) := by
  k_fill
  refine Tell.enter (binds := [("a", .int a t1), ("b", .int b t2)]) (by k_is) (by k_is) (fun s => BindsTo.of_eq rfl) (locs rfl) rfl rfl rfl (by decide) ?_
  intro A base g outer s L Q B hH X T9 hC F N hlt hd hu hret
  obtain ⟨p1, c1, o1, p2, c2, o2⟩ := T
  dsimp only [Tabs.led] at N hlt ⊢
  k_steps
  · have T := T9
    refine' Tell.use (rest := []) (divpos_t (T := ⟨p1, c1, o1, p2, c2, o2⟩) ha hb hb2 hT) ?cB4 ?cH4 ?cF4 ?cN4 ?cX4 ?cT4 ?cA4 ?cf4 ?ck4 ?cs4 ?cr4 ?ca4 ?cP4 ?cd4 ?cu4 ?cret4
    case cB4 => exact B
    case cH4 => first | exact hH | assumption
    case cF4 => assumption
    case cN4 => assumption
    case cX4 => exact X
    case cT4 => first | exact T | assumption
    case cA4 => exact Around.frames_deeper B.stack
    case cf4 => exact rfl
    case ck4 => exact rfl
    case cs4 => walk_at "mine sub"
    case cr4 => walk_at "mine sub"
    case ca4 => walk_at "mine apart"
    case cP4 => exact fun g' st _ => ⟨CodeHd.keeps hC.1 (fun b o e => st b o e), CodeHd.keeps hC.2 (fun b o e => st b o e)⟩
    case cd4 => walk_at "mine room"
    case cu4 => walk_at "mine room"
    rintro _ _ h' tk' ⟨D, u1, u2, T', rfl, hT', hD, rfl⟩ F' N' -
    simp only [List.append_nil] at N'
    exact hret _ _ _ _ ⟨D, u1, u2, T', rfl, hT', hD, rfl⟩ (Own.of F' N')
end
-- S8
section
local macro_rules | `(tactic| walk_at "mine stop") => `(tactic| with_reducible show wpAny _ _ (PySem.call (Value.builtin "str.split") _ _) _ _ _)
local macro_rules | `(tactic| walk_at "mine stop") => `(tactic| with_reducible show wpAny _ _ (compareOp .NotIn (Value.str _ _) (Value.str _ _)) _ _ _)
local macro_rules | `(tactic| walk_at "mine stop") => `(tactic| with_reducible show wpAny _ _ (subscriptTail _ _ (Value.ref _) _) _ _ _)
local macro_rules | `(tactic| walk_at "mine stop") => `(tactic| with_reducible show wpAny _ _ (PySem.call (Value.builtin "str.find") _ _) _ _ _)
local macro_rules | `(tactic| walk_at "mine stop") => `(tactic| with_reducible show wpAny _ _ (PySem.call (Value.builtin "len") [Value.str _ _] _) _ _ _)

theorem elm_t {w : World} {p : Program} {loose : List Str} {mean : ExcName → Option Value} {mg mb : Str → Option Value} {PG : Heap → Prop} {W : PySem.Str} {cs gs : List Nat} {t1 t2 : Tok}
    (hsp : Txt.split W dots = PySem.Str.empty :: (cs.map one ++ [PySem.Str.empty])) (hin : (PySem.Builtin.Str.occurrences W dots 0 W.length 1).isEmpty = false) (hW : W.length ≤ 10000) (hgs : gs.length ≤ 10000) (hcs : cs.length ≤ 10000) :
    Tell PySem.Challenge.rw_pg0218_02.row.prog w (hd.heap_39 w.params) p loose mean mg mb PG 1 20 (.ref 63) [.str W t1, .str (strOf gs) t2] []
      (fun v news => v = .bool (subL cs gs) ∧ news = []) := by
  k_fill
  refine Tell.enter (binds := [("want", .str W t1), ("got", .str (strOf gs) t2)]) (by k_is) (by k_is) (fun s => BindsTo.of_eq rfl) (locs rfl) rfl rfl rfl (by decide) ?_
  intro A base g outer s L Q B hH X T hC F N hlt hd hu hret
  k_steps
  refine notIn_str ?_
  rw [hin]
  k_steps
  refine KSpl.split1 (by assumption) (by assumption) (by decide) ?_ (by rw [sizeLine_eq]; omega)
  intro D sl h' k' e1 a1 F' N' l1
  rw [e1, hsp] at a1
  generalize strValues sl = vs at a1 N'
  obtain ⟨t0, vr, rfl, ar⟩ := strs_cons a1
  obtain ⟨tz, vm, rfl, am⟩ := strs_snoc ar
  have hvm : vm.length = cs.length := by rw [am.length, List.length_map]
  have hvl : (Value.str PySem.Str.empty t0 :: (vm ++ [Value.str PySem.Str.empty tz])).length = cs.length + 2 := by simp [hvm]
  k_steps
  have hgl : (strOf gs).length = gs.length := strOf_length gs
  refine len_str (by rw [hgl]; omega) ?_
  k_steps
  refine item_g (by assumption) (show (D, listOf (Value.str PySem.Str.empty t0 :: (vm ++ [Value.str PySem.Str.empty tz])).toArray 0) ∈ _ by k_mem) (by omega) (by omega) (by omega) ?_
  intro x hx
  have hxe := Option.some.inj (show some (Value.str PySem.Str.empty t0) = some x from hx)
  subst hxe
  k_steps
  clear hx
  rename News _ _ _ _ => N1
  refine item_last (vi := Value.str PySem.Str.empty t0 :: vm) (v := Value.str PySem.Str.empty tz) (PySem.IsL.isList (n := 0) (N1 (D, listOf (Value.str PySem.Str.empty t0 :: (vm ++ [Value.str PySem.Str.empty tz])).toArray 0) (by k_mem)).1) ?_
  k_steps
  rename Fr _ _ _ _ => F2
  rename News _ _ _ _ => N2
  rename_i te _ _ ts _ _ tw _ _ _ _ _ _
  refine iter_by (l := D) (vs := Value.str PySem.Str.empty t0 :: (vm ++ [Value.str PySem.Str.empty tz])) (e := 0) (σ := Nat × Tok) (fun c => [("got", .str (strOf gs) t2), ("startpos", .int c.1 c.2), ("endpos", .int (strOf gs).length te)]) (fun c => [])
    (fun i c => c.1 ≤ gs.length ∧ subL (codesOf ((PySem.Str.empty :: (cs.map one ++ [PySem.Str.empty])).drop i)) (gs.drop c.1) = subL cs gs) (0, ts) hH F2 N2 ?mem ?sub ?vars ?inv ?turn ?done
  case mem => k_mem
  case sub => exact fun _ h => nomatch h
  case vars => walk_at "mine vars"
  case inv => exact ⟨Nat.zero_le _, by rw [List.drop_zero, List.drop_zero, codesOf_pieces]⟩
  case turn =>
    clear F2 N2
    rintro I i ⟨st, tst⟩ v it u h tk - hv ⟨i1, i2⟩ hne F N
    dsimp only at i1 i2 F N
    replace hne := allNe_of hne
    simp only [AllNe, and_true] at hne
    obtain ⟨p, tp, rfl, hp⟩ := strs_get a1 hv
    rw [codesOf_drop hp] at i2
    replace F : Fr g L h _ := F
    replace N : News g L h _ := N
    k_steps
    refine call_find4 (i := st) ?_
    intro tf tkf
    rcases piece_kind (List.mem_of_getElem? hp) with rfl | ⟨c, rfl⟩
    · rw [find4_empty gs st i1]
      k_steps
      have hl0 : PySem.Str.empty.length = 0 := rfl
      refine len_str (by rw [hl0]; decide) ?_
      k_steps
      refine FPost.next (st, _) (by assumption) (by assumption) (by walk_at "mine sub") (fun _ h => nomatch h) (fun _ h => nomatch h) (by walk_at "mine vars") ⟨i1, ?_⟩
      exact i2
    · rcases find4_one gs c st with ⟨e, hno⟩ | ⟨k, e, hk1, hk2, hk3⟩
      · rw [e]
        k_steps
        refine FPost.ret ?_
        refine hret _ _ _ _ ⟨?_, rfl⟩ (Own.of (by assumption) (News.sub (by assumption) (fun _ h => nomatch h)))
        rw [← i2]
        show Value.bool false = Value.bool (subL (c :: _) _)
        rw [subL_none (fun j => by rw [List.getElem?_drop]; exact hno _ (by omega))]
      · rw [e]
        have hkl := (List.getElem?_eq_some_iff.mp hk2).1
        k_steps
        have hl1 : (one c).length = 1 := rfl
        refine len_str (by rw [hl1]; decide) ?_
        k_steps
        refine FPost.next (k + 1, _) (by assumption) (by assumption) (by walk_at "mine sub") (fun _ h => nomatch h) (fun _ h => nomatch h) (by walk_at "mine vars") ⟨by dsimp only; omega, ?_⟩
        rw [← i2]
        show _ = subL (c :: _) _
        rw [subL_some (k := k - st) (by rw [List.getElem?_drop, show st + (k - st) = k by omega]; exact hk2) (fun j hj => by rw [List.getElem?_drop]; exact hk3 _ (by omega) (by omega)), List.drop_drop, show st + (k - st + 1) = k + 1 by omega]
        rfl
  case done =>
    clear F2 N2
    rintro ⟨st, tst⟩ u h tk ⟨i1, i2⟩ F N
    replace F : Fr g L h _ := F
    replace N : News g L h _ := N
    k_steps
    refine hret _ _ _ _ ⟨?_, rfl⟩ (Own.of (by assumption) (News.sub (by assumption) (fun _ h => nomatch h)))
    rw [← i2, List.drop_of_length_le (by simp [hvm])]
    have e : ∀ l, subL [] l = true := fun l => by cases l <;> rfl
    show Value.bool true = Value.bool (subL [] _)
    rw [e]
end
-- S9
section
structure ToldSt where
  hv : List Value
  he : Nat
  tv : List Value
  te : Nat
  ps : Array Value
  c : Addr
  oc : Obj
  f : Nat
  H : List Int
  T : List Int
theorem told_t {w : World} {p : Program} {loose : List Str} {mean : ExcName → Option Value} {mg mb : Str → Option Value} {gs : List Nat} {t1 : Tok} {ps : Array Value} {c : Addr} {oc : Obj} {R : List Int} {f : Nat}
    (hR : toldRun gs f [1] [] = some R) (hgs : gs.length ≤ 10000) (htl : TabIs 32 4 ql35 ps c oc) (hc : c ≠ 30) :
    Tell PySem.Challenge.rw_pg0218_02.row.prog w (hd.heap_39 w.params) p loose mean mg mb (fun g => CodeHd g 34 30) 80 270 (.ref 96) [.str (strOf gs) t1] [(30, tabObj ps), (c, oc)]
      (fun v news => ∃ (dl : Addr) (ds : List Value) (e : Nat) (ps' : Array Value) (c' : Addr) (oc' : Obj), v = .ref dl ∧ IntsAre ds R ∧ TabIs 32 4 ql35 ps' c' oc' ∧ dl ≠ 30 ∧ dl ≠ c' ∧ c' ≠ 30 ∧ news = [(dl, listOf ds.toArray e), (30, tabObj ps'), (c', oc')]) := by
  k_fill
  refine Tell.enter (binds := [("text", .str (strOf gs) t1)]) (by k_is) (by k_is) (fun s => BindsTo.of_eq rfl) (locs rfl) rfl rfl rfl (by decide) ?_
  intro A base g outer s L Q B hH X T hC F N hlt hd hu hret
  k_steps
  rename Fr _ _ _ _ => F1
  rename News _ _ _ _ => N1
  rename_i hl _ lt1 _ _ tl _ lt2 _
  refine while_by (σ := ToldSt) (fun st => [("text", .str (strOf gs) t1), ("told", .ref tl), ("heap", .ref hl)]) (fun st => [(tl, listOf st.tv.toArray st.te), (hl, listOf st.hv.toArray st.he), (30, tabObj st.ps), (st.c, st.oc)])
    (fun st => toldRun gs st.f st.H st.T = some R ∧ IntsAre st.hv st.H ∧ IntsAre st.tv st.T ∧ TabIs 32 4 ql35 st.ps st.c st.oc ∧ Hid (@Ne Nat st.c 30) ∧ Hid (@Ne Nat hl st.c) ∧ Hid (@Ne Nat tl st.c)) (fun st => st.f) ⟨[.int 1 s.toks], 0, [], 0, ps, c, oc, f, [1], []⟩ F1 N1 ?mem ?vars ?inv ?turn
  case mem => walk_at "mine sub"
  case vars => walk_at "mine vars"
  case inv => exact ⟨hR, .cons _ _ .nil, .nil, htl, hc, Nat.ne_of_gt lt1.2, Nat.ne_of_gt lt2.2.2⟩
  case turn =>
    clear F1 N1
    rintro ⟨hv, he, tv, te, ps, c, oc, f, H, T9⟩ v h tk ⟨i1, i2, i3, i4, i5, i6, i7⟩ F N
    dsimp only at i1 i2 i3 i4 i5 i6 i7 F N
    replace F : Fr g L h _ := F
    replace N : News g L h _ := N
    cases f with
    | zero => exact nomatch i1
    | succ f =>
    rcases List.eq_nil_or_concat hv with rfl | ⟨pv, vy, rfl⟩
    · cases i2
      have hRT := Option.some.inj (show some T9 = some R from i1)
      subst hRT
      k_steps
      exact hret _ _ _ _ ⟨tl, tv, te, ps, c, oc, rfl, i3, i4, Nat.ne_of_gt lt2.2.1, i7, i5, rfl⟩ (Own.of F (News.sub N (by walk_at "mine sub")))
    · rw [List.concat_eq_append] at i2 N
      obtain ⟨q, b, tb, rfl, rfl, j2⟩ := ints_snoc i2
      obtain ⟨r1, r2, r3, r4, r5⟩ := toldRun_step i1
      have hpl : pv.length = q.length := j2.length
      have htv : tv.length = T9.length := i3.length
      have hpl2 : (pv ++ [Value.int b tb]).length = pv.length + 1 := by simp
      have hpos : 0 < (pv ++ [Value.int b tb]).length := by omega
      obtain ⟨⟨u, hu1⟩, hp2⟩ := pop_ints j2 (y := .int b tb) ⟨tb, rfl⟩
      obtain ⟨a, ea⟩ : ∃ a : Nat, (hpop ltI q b).1 = a := ⟨(hpop ltI q b).1.toNat, by omega⟩
      rw [ea] at hu1 r1 r2 r5
      have hP := (ints_val j2).1
      k_steps
      refine' Tell.use (rest := [(tl, listOf tv.toArray te), (30, tabObj ps), (c, oc)]) (heappop_t (lt := ltV) (P := IsInt) (vs := pv) (y := .int b tb) ?hP ?hv ?hfit) ?cB1 ?cH1 ?cF1 ?cN1 ?cX1 ?cT1 ?cA1 ?cf1 ?ck1 ?cs1 ?cr1 ?ca1 ?cP1 ?cd1 ?cu1 ?cret1
      case cB1 => exact B
      case cH1 => first | exact hH | assumption
      case cF1 => assumption
      case cN1 => assumption
      case cX1 => exact X
      case cT1 => first | exact T | assumption
      case cA1 => exact Around.frames_deeper B.stack
      case cf1 => exact rfl
      case ck1 => exact rfl
      case cs1 => walk_at "mine sub"
      case cr1 => walk_at "mine sub"
      case ca1 => walk_at "mine apart"
      case cP1 => exact fun _ _ _ => cmp_int
      case cd1 => walk_at "mine room"
      case cu1 => walk_at "mine room"
      case hP => exact hP
      case hv => exact ⟨_, _, rfl⟩
      case hfit => omega
      rintro _ _ h' tk' ⟨rfl, rfl⟩ F' N' -
      rw [hu1]
      have hh1 : (hpop ltI q b).2.length ≤ 500 := by rw [hpop_len]; omega
      generalize (hpop ltV pv (Value.int b tb)).2 = hv1 at hp2 N'
      generalize (hpop ltI q b).2 = H1 at hp2 r5 hh1
      simp only [List.cons_append, List.nil_append] at N'
      k_steps
      rename Fr _ _ _ _ => F6
      rename News _ _ _ _ => N6
      rename_i t0 _ _
      refine' Tell.use (rest := [(hl, listOf hv1.toArray (he + 1)), (tl, listOf (tv ++ [Value.int a t0]).toArray (te + 1))]) (i2d_t (a := a) (n := 1) (ps := ps) (c := c) (oc := oc) ?hn ?hn2 ?ha ?htl ?hc) ?cB2 ?cH2 ?cF2 ?cN2 ?cX2 ?cT2 ?cA2 ?cf2 ?ck2 ?cs2 ?cr2 ?ca2 ?cP2 ?cd2 ?cu2 ?cret2
      case cB2 => exact B
      case cH2 => first | exact hH | assumption
      case cF2 => assumption
      case cN2 => assumption
      case cX2 => exact X
      case cT2 => first | exact T | assumption
      case cA2 => exact Around.frames_deeper B.stack
      case cf2 => exact rfl
      case ck2 => exact rfl
      case cs2 => walk_at "mine sub"
      case cr2 => walk_at "mine sub"
      case ca2 => walk_at "mine apart"
      case cP2 => exact fun g' st hr => hC.keeps st
      case cd2 => walk_at "mine room"
      case cu2 => walk_at "mine room"
      case hn => decide
      case hn2 => decide
      case ha => omega
      case htl => exact i4
      case hc => exact i5
      clear F6 N6
      rintro _ _ h' tk' ⟨dl, ds, ed, ps', c', oc', rfl, q1, q2, q3, q4, q5, rfl⟩ F' N' hap
      simp only [List.cons_append, List.nil_append] at N'
      replace q3 := hid q3; replace q4 := hid q4; replace q5 := hid q5
      have hdl : ds.length = figs a 1 := by rw [q1.length, digs_length]
      have hfg : figs a 1 ≤ 20 := figs_le (by decide) (show a < 2 ^ 20 by omega)
      k_steps
      walk_at "mine slice"
      k_steps
      walk_at "mine slice"
      k_steps
      have hI := (ints_dropLast q1).reverse
      generalize hRv : ds.dropLast.reverse = rv at *
      have hrl : rv.length = figs a 1 - 1 := by rw [← hRv, List.length_reverse, List.length_dropLast, hdl]
      refine LCg.CompSrc.ledger hH (by k_asm) (by k_asm) (by k_mem) (by rw [sizeLine_eq, List.size_toArray]; omega) ?_
      intro g'
      refine comp_rest (fun i ys => StrsAre ys (((digs 1 a (figs a 1)).dropLast.reverse.take i).map (fun i => one (48 + i.toNat)))) .nil ?tu ?fi
      case tu =>
        intro i v I oI C oC D m₂ ys h tk E' hi hv hinv hC2 hx F N off
        obtain ⟨k, tt, rfl, hk⟩ := IntsAre.at hI i v (by simpa using hv)
        have hk2 : k = 0 ∨ k = 1 := by
          have h1 := List.mem_of_getElem? hk
          rw [List.mem_reverse] at h1
          exact figs_bit ((List.dropLast_sublist _).mem h1)
        k_steps
        rw [List.take_add_one, hk, List.map_append]
        exact strs_append hinv (.cons _ _ .nil)
      case fi =>
        intro ys hinv
        rw [List.take_of_length_le (by rw [List.size_toArray, hI.length]; exact Nat.le_refl _), ← row_map] at hinv
        have hyl : ys.length ≤ 20 := by rw [hinv.length, List.length_map, row_length]; omega
        k_steps
        rename Fr _ _ _ _ => F2
        rename News _ _ _ _ => N2
        rename_i Ds _ t6 o1 lf _ hlf
        have e1 : Hid (@Ne Nat hl tl) := Nat.ne_of_lt lt2.1
        have e2 : Hid (@Ne Nat hl 30) := Nat.ne_of_gt lt1.1
        have e3 : Hid (@Ne Nat tl 30) := Nat.ne_of_gt lt2.2.1
        have e4 : Hid (@Ne Nat c' hl) := hap (c', oc') (by simp) (hl, _) (.head _)
        have e5 : Hid (@Ne Nat c' tl) := hap (c', oc') (by simp) (tl, _) (.tail _ (.head _))
        clear hap
        refine iter_by (l := lf) (vs := [.int 0 t6, .int 1 (t6 + 1)]) (e := 0) (σ := List Value × Nat × List Int) (fun c => [("text", .str (strOf gs) t1), ("told", .ref tl), ("heap", .ref hl), ("number", .int a t0), ("signs", .ref Ds)])
          (fun c => [(hl, listOf c.1.toArray c.2.1), (tl, listOf (tv ++ [Value.int a t0]).toArray (te + 1)), (30, tabObj ps'), (c', oc'), (Ds, LCg.lst ys)])
          (fun i c => IntsAre c.1 c.2.2 ∧ c.2.2.length ≤ 500 + i ∧ c.2.2 = toldAt gs a H1 i) (hv1, he + 1, H1) hH F2 N2 ?mem2 ?sub2 ?vars2 ?inv2 ?turn2 ?done2
        case mem2 => k_mem
        case sub2 => walk_at "mine sub"
        case vars2 => walk_at "mine vars"
        case inv2 => exact ⟨hp2, hh1, rfl⟩
        case turn2 =>
          clear F2 N2
          rintro I i ⟨hvc, hec, Hc⟩ v it u h tk - hv ⟨k1, k2, k3⟩ hne F N
          dsimp only at k1 k2 k3 F N
          replace F : Fr g L h _ := F
          replace N : News g L h _ := N
          obtain ⟨hi, tv9, rfl⟩ : i < 2 ∧ ∃ t, v = .int i t := by
            match i, hv with
            | 0, hv => exact ⟨by decide, _, (Option.some.inj hv).symm⟩
            | 1, hv => exact ⟨by decide, _, (Option.some.inj hv).symm⟩
          have hi2 : (i : Int) = 0 ∨ (i : Int) = 1 := by omega
          have hkl : hvc.length = Hc.length := k1.length
          k_steps
          refine' join_g (xs := [PySem.Str.ofString ""] ++ (rowOf a).map one ++ [one (48 + (i : Int).toNat), PySem.Str.ofString ""]) ?jN ?jm ?js ?j1 ?jx ?jn ?_
          case jN => k_asm
          case jm => k_mem
          case js => exact strs_append (strs_append (.cons _ _ .nil) hinv) (.cons _ _ (.cons _ _ .nil))
          case j1 => exact want_short _ _
          case jx => decide
          case jn => simp only [List.length_append, List.length_map, row_length, List.length_cons, List.length_nil]; omega
          intro tw tkw
          rw [want_eq]
          rename Fr _ _ _ _ => F3
          rename News _ _ _ _ => N3
          replace N3 := News.sub N3 (show ∀ q ∈ [(hl, listOf hvc.toArray hec), (tl, listOf (tv ++ [Value.int a t0]).toArray (te + 1)), (30, tabObj ps'), (c', oc'), (Ds, LCg.lst ys), (I, it), (lf, listOf [Value.int 0 t6, Value.int 1 (t6 + 1)].toArray 0)], q ∈ _ by walk_at "mine sub")
          k_steps
          replace hne := off1_of hne
          refine' Tell.use (rest := [(hl, listOf hvc.toArray hec), (tl, listOf (tv ++ [Value.int a t0]).toArray (te + 1)), (30, tabObj ps'), (c', oc'), (Ds, LCg.lst ys), (I, it), (lf, listOf [Value.int 0 t6, Value.int 1 (t6 + 1)].toArray 0)]) (elm_t (PG := fun _ => True) (W := wantOf (rowOf a ++ [48 + i])) (cs := rowOf a ++ [48 + i]) (gs := gs) ?esp (want_found _) ?eW hgs ?ec) ?cB3 ?cH3 ?cF3 ?cN3 ?cX3 ?cT3 ?cA3 ?cf3 ?ck3 ?cs3 ?cr3 ?ca3 ?cP3 ?cd3 ?cu3 ?cret3
          case cB3 => exact B
          case cH3 => first | exact hH | assumption
          case cF3 => assumption
          case cN3 => assumption
          case cX3 => exact X
          case cT3 => first | exact T | assumption
          case cA3 => exact Around.frames_deeper B.stack
          case cf3 => exact rfl
          case ck3 => exact rfl
          case cs3 => walk_at "mine sub"
          case cr3 => walk_at "mine sub"
          case ca3 => walk_at "mine apart"
          case cP3 => exact fun _ _ _ => trivial
          case cd3 => walk_at "mine room"
          case cu3 => walk_at "mine room"
          case esp => exact want_split _ (want_sign _ _)
          case eW => rw [want_length, List.length_append, row_length]; simp only [List.length_cons, List.length_nil]; omega
          case ec => rw [List.length_append, row_length]; simp only [List.length_cons, List.length_nil]; omega
          rintro _ _ h' tk' ⟨rfl, rfl⟩ F' N' -
          simp only [List.nil_append] at N'
          have hstep : toldAt gs a H1 (i + 1) = if subL (rowOf a ++ [48 + i]) gs then hpush ltI (2 * a + i) Hc else Hc := by
            rw [toldAt, ← k3, toldStep, Int.toNat_natCast]
          cases hb : subL (rowOf a ++ [48 + i]) gs with
          | true =>
            rw [hb] at hstep
            k_steps
            refine' Tell.use (rest := [(tl, listOf (tv ++ [Value.int a t0]).toArray (te + 1)), (30, tabObj ps'), (c', oc'), (Ds, LCg.lst ys), (I, it), (lf, listOf [Value.int 0 t6, Value.int 1 (t6 + 1)].toArray 0)]) (heappush_t (lt := ltV) (P := IsInt) (vs := hvc) (v := .int (2 * a + i) _) ?hP4 ?hv4 ?hf4) ?cB4 ?cH4 ?cF4 ?cN4 ?cX4 ?cT4 ?cA4 ?cf4 ?ck4 ?cs4 ?cr4 ?ca4 ?cP4 ?cd4 ?cu4 ?cret4
            case cB4 => exact B
            case cH4 => first | exact hH | assumption
            case cF4 => assumption
            case cN4 => assumption
            case cX4 => exact X
            case cT4 => first | exact T | assumption
            case cA4 => exact Around.frames_deeper B.stack
            case cf4 => exact rfl
            case ck4 => exact rfl
            case cs4 => walk_at "mine sub"
            case cr4 => walk_at "mine sub"
            case ca4 => walk_at "mine apart"
            case cP4 => exact fun _ _ _ => cmp_int
            case cd4 => walk_at "mine room"
            case cu4 => walk_at "mine room"
            case hP4 => exact (ints_val k1).1
            case hv4 => exact ⟨_, _, rfl⟩
            case hf4 => omega
            rintro _ _ h' tk' ⟨rfl, rfl⟩ F' N' -
            simp only [List.cons_append, List.nil_append] at N'
            k_steps
            refine FPost.next (hpush ltV (.int (2 * a + i) _) hvc, hec + 1, hpush ltI (2 * a + i) Hc) (by k_asm) (by k_asm) (by walk_at "mine sub") (by walk_at "mine sub") (by k_all) (by walk_at "mine vars") ⟨push_ints k1, by dsimp only; rw [hpush_len]; omega, hstep.symm⟩
          | false =>
            rw [hb] at hstep
            k_steps
            refine FPost.next (hvc, hec, Hc) (by k_asm) (by k_asm) (by walk_at "mine sub") (by walk_at "mine sub") (by k_all) (by walk_at "mine vars") ⟨k1, by dsimp only; omega, hstep.symm⟩
        case done2 =>
          clear F2 N2
          rintro ⟨hvc, hec, Hc⟩ u h tk ⟨k1, k2, k3⟩ F N
          dsimp only at k1 k2 k3 F N
          replace F : Fr g L h _ := F
          replace N : News g L h _ := N
          k_steps
          refine WPost.next ⟨hvc, hec, tv ++ [.int a t0], te + 1, ps', c', oc', f, Hc, T9 ++ [(a : Int)]⟩ (by k_asm) (by k_asm) (by walk_at "mine sub") (by walk_at "mine vars") ⟨by rw [k3]; exact r5, k1, ints_append i3 (.cons _ _ .nil), q2, q5, e4.symm, e5.symm⟩ (Nat.lt_succ_self _)
end
-- S10
section
local macro_rules | `(tactic| walk_at "mine stop") => `(tactic| with_reducible show wpAny _ _ (binaryOp Operator.Mult (Value.ref _) (Value.int _ _)) _ _ _)
structure RunSt where
  a : Nat
  b : Nat
  ta : Tok
  tb : Tok
  rl : Addr
  rv : List Value
  re : Nat
  row : List Int
  T : Tabs
  f : Nat
theorem runs_t {w : World} {p : Program} {loose : List Str} {mean : ExcName → Option Value} {mg mb : Str → Option Value} {a b : Nat} {t1 t2 : Tok} {T : Tabs} {R : List Int} {f : Nat}
    (hR : runsRun f a b [] = some R) (hT : T.Ok) :
    Tell PySem.Challenge.rw_pg0218_02.row.prog w (hd.heap_39 w.params) p loose mean mg mb (fun g => CodeHd g 34 30 ∧ CodeHd g 41 37) 100 320 (.ref 108) [.int a t1, .int b t2] T.led
      (fun v news => ∃ (D : Addr) (ds : List Value) (e : Nat) (T' : Tabs), v = .ref D ∧ IntsAre ds R ∧ T'.Ok ∧ (@Ne Nat D 30 ∧ @Ne Nat D 37 ∧ @Ne Nat D T'.c1 ∧ @Ne Nat D T'.c2) ∧ news = (D, listOf ds.toArray e) :: T'.led) := by
  k_fill
  refine Tell.enter (binds := [("noughts", .int a t1), ("ones", .int b t2)]) (by k_is) (by k_is) (fun s => BindsTo.of_eq rfl) (locs rfl) rfl rfl rfl (by decide) ?_
  intro A base g outer s L Q B hH X T9 hC F N hlt hd hu hret
  have hltT : ∀ q ∈ T.led, q.1 < L := hlt
  dsimp only [Tabs.led] at N hlt
  k_lt hlt
  k_steps
  rename Fr _ _ _ _ => F1
  rename News _ _ _ _ => N1
  rename_i rl _ hrl _
  refine while_by (σ := RunSt) (fun st => [("noughts", .int st.a st.ta), ("ones", .int st.b st.tb), ("row", .ref st.rl)]) (fun st => [(st.rl, listOf st.rv.toArray st.re), (30, tabObj st.T.p1), (st.T.c1, st.T.o1), (37, tabObj st.T.p2), (st.T.c2, st.T.o2)])
    (fun st => runsRun st.f st.a st.b st.row = some R ∧ IntsAre st.rv st.row ∧ st.T.Ok ∧ Hid (@Ne Nat st.rl 30) ∧ Hid (@Ne Nat st.rl 37) ∧ Hid (@Ne Nat st.rl st.T.c1) ∧ Hid (@Ne Nat st.rl st.T.c2)) (fun st => st.f) ⟨a, b, t1, t2, rl, [], 0, [], T, f⟩ F1 N1 ?mem ?vars ?inv ?turn
  case mem => walk_at "mine sub"
  case vars => walk_at "mine vars"
  case inv => exact ⟨hR, .nil, hT, Nat.ne_of_gt hrl.1, Nat.ne_of_gt hrl.2.2.1, Nat.ne_of_gt hrl.2.1, Nat.ne_of_gt hrl.2.2.2⟩
  case turn =>
    clear F1 N1 hrl hlt hltT hT hR
    clear a b t1 t2 rl T
    rintro ⟨a, b, ta, tb, rl, rv, re, row, T, f⟩ v h tk ⟨i1, i2, i3, e1, e2, e3, e4⟩ F N
    dsimp only at i1 i2 i3 e1 e2 e3 e4 F N
    replace F : Fr g L h _ := F
    replace N : News g L h _ := N
    cases f with
    | zero => exact nomatch i1
    | succ f =>
    by_cases hz : 0 < a + b
    · obtain ⟨⟨r1, r2, r3, r4, r5⟩, r6⟩ := runsRun_step i1 hz
      have hrv : rv.length = row.length := i2.length
      have hz' : (0 : Int) < a + b := by omega
      k_steps
      rw [show (b : Int) + 1 = ((b + 1 : Nat) : Int) from rfl]
      refine' Tell.use (rest := [(rl, listOf rv.toArray re)]) (intdiv_t (a := a) (b := b + 1) (T := T) (by omega) (by omega) (by omega) i3) ?cB1 ?cH1 ?cF1 ?cN1 ?cX1 ?cT1 ?cA1 ?cf1 ?ck1 ?cs1 ?cr1 ?ca1 ?cP1 ?cd1 ?cu1 ?cret1
      case cB1 => exact B
      case cH1 => first | exact hH | assumption
      case cF1 => assumption
      case cN1 => assumption
      case cX1 => exact X
      case cT1 => first | exact T | assumption
      case cA1 => exact Around.frames_deeper B.stack
      case cf1 => exact rfl
      case ck1 => exact rfl
      case cs1 => walk_at "mine sub"
      case cr1 => walk_at "mine sub"
      case ca1 => walk_at "mine apart"
      case cP1 => exact fun g' st _ => ⟨CodeHd.keeps hC.1 (fun b o e => st b o e), CodeHd.keeps hC.2 (fun b o e => st b o e)⟩
      case cd1 => walk_at "mine room"
      case cu1 => walk_at "mine room"
      rintro _ _ h' tk' ⟨D, u1, u2, T', rfl, hT', ⟨d1, d2, d3, d4⟩, rfl⟩ F' N' hap
      have a1 : Hid (@Ne Nat D rl) := hap (D, _) (.head _) _ (.head _)
      have a2 : Hid (@Ne Nat T'.c1 rl) := hap (T'.c1, T'.o1) (.tail _ (.tail _ (.head _))) _ (.head _)
      have a3 : Hid (@Ne Nat T'.c2 rl) := hap (T'.c2, T'.o2) (.tail _ (.tail _ (.tail _ (.tail _ (.head _))))) _ (.head _)
      replace d1 := hid d1; replace d2 := hid d2; replace d3 := hid d3; replace d4 := hid d4
      clear hap
      simp only [Tabs.led, List.cons_append, List.nil_append] at N'
      generalize hka : a / (b + 1) = ka at *
      generalize hra : a % (b + 1) = ra at *
      k_steps
      refine rep_g (k := ka) (by assumption) (by assumption) (by k_mem) (by omega) ?_
      intro D2 h2 F2 N2 l2
      k_lt l2
      k_steps
      rename Fr _ _ _ _ => F3
      rename News _ _ _ _ => N3
      rename_i z1 _ _ _ rl3 _ lt3 _
      replace N3 := News.sub N3 (show ∀ q ∈ [(rl3, listOf (rv ++ List.replicate ka (Value.int 0 z1)).toArray 0), (30, tabObj T'.p1), (T'.c1, T'.o1), (37, tabObj T'.p2), (T'.c2, T'.o2)], q ∈ _ by walk_at "mine sub")
      have b1 : Hid (@Ne Nat rl3 30) := Nat.ne_of_gt lt3.2.2.2.1
      have hra1 : ra < 1048577 := by rw [← hra]; exact Nat.lt_of_lt_of_le (Nat.mod_lt _ (Nat.succ_pos _)) (by omega)
      rw [show (ra : Int) + 1 = ((ra + 1 : Nat) : Int) from rfl]
      refine' Tell.use (rest := [(rl3, listOf (rv ++ List.replicate ka (Value.int 0 z1)).toArray 0)]) (intdiv_t (a := b) (b := ra + 1) (T := T') (by omega) (by omega) (by omega) hT') ?cB2 ?cH2 ?cF2 ?cN2 ?cX2 ?cT2 ?cA2 ?cf2 ?ck2 ?cs2 ?cr2 ?ca2 ?cP2 ?cd2 ?cu2 ?cret2
      case cB2 => exact B
      case cH2 => first | exact hH | assumption
      case cF2 => assumption
      case cN2 => assumption
      case cX2 => exact X
      case cT2 => first | exact T | assumption
      case cA2 => exact Around.frames_deeper B.stack
      case cf2 => exact rfl
      case ck2 => exact rfl
      case cs2 => walk_at "mine sub"
      case cr2 => walk_at "mine sub"
      case ca2 => walk_at "mine apart"
      case cP2 => exact fun g' st _ => ⟨CodeHd.keeps hC.1 (fun b o e => st b o e), CodeHd.keeps hC.2 (fun b o e => st b o e)⟩
      case cd2 => walk_at "mine room"
      case cu2 => walk_at "mine room"
      clear d1 d2 d3 d4 a1 a2 a3
      rintro _ _ h' tk' ⟨E9, u3, u4, T2, rfl, hT2, ⟨d1, d2, d3, d4⟩, rfl⟩ F' N' hap
      have a1 : Hid (@Ne Nat E9 rl3) := hap (E9, _) (.head _) _ (.head _)
      have a2 : Hid (@Ne Nat T2.c1 rl3) := hap (T2.c1, T2.o1) (.tail _ (.tail _ (.head _))) _ (.head _)
      have a3 : Hid (@Ne Nat T2.c2 rl3) := hap (T2.c2, T2.o2) (.tail _ (.tail _ (.tail _ (.tail _ (.head _))))) _ (.head _)
      replace d1 := hid d1; replace d2 := hid d2; replace d3 := hid d3; replace d4 := hid d4
      clear hap
      simp only [Tabs.led, List.cons_append, List.nil_append] at N'
      generalize hkb : b / (ra + 1) = kb at *
      generalize hrb : b % (ra + 1) = rb at *
      k_steps
      refine rep_g (k := kb) (by assumption) (by assumption) (by k_mem) (by omega) ?_
      intro D4 h4 F4 N4 l4
      k_lt l4
      have hl6 : (rv ++ List.replicate ka (Value.int 0 z1)).length ≤ 500 := by rw [List.length_append, List.length_replicate]; omega
      k_steps
      rename Fr _ _ _ _ => F5
      rename News _ _ _ _ => N5
      rename_i zb _ _ _ rl5 _ lt5 _
      refine WPost.next ⟨ra, rb, _, _, rl5, rv ++ List.replicate ka (Value.int 0 z1) ++ List.replicate kb (Value.int 1 zb), 0, row ++ List.replicate ka 0 ++ List.replicate kb 1, T2, f⟩ (by k_asm) (by k_asm) (by walk_at "mine sub") (by walk_at "mine vars")
        ⟨r6, ints_append (ints_append i2 (ints_rep _ _ _)) (ints_rep _ _ _), hT2, Nat.ne_of_gt lt5.2.2.2.1, Nat.ne_of_gt lt5.2.2.2.2.2.1, Nat.ne_of_gt lt5.2.2.2.2.1, Nat.ne_of_gt lt5.2.2.2.2.2.2.1⟩ (Nat.lt_succ_self _)
    · have hRT := runsRun_done i1 hz
      subst hRT
      have hz' : ¬ (0 : Int) < a + b := by omega
      k_steps
      exact hret _ _ _ _ ⟨rl, rv, re, T, rfl, i2, i3, ⟨e1, e2, e3, e4⟩, rfl⟩ (Own.of (by assumption) (by assumption))
end
-- S11
section
local macro_rules | `(tactic| walk_at "mine stop") => `(tactic| with_reducible show wpAny _ _ (exec (Stmt.For _ _ _ _ _) _) _ _ _)
theorem struck_t {w : World} {p : Program} {loose : List Str} {mean : ExcName → Option Value} {mg mb : Str → Option Value} {fl : Addr} {fv : List Value} {fe : Nat} {fs : List Int}
    (hI : IntsAre fv fs) (hl : fs.length ≤ 6) (hS : (fs.foldl struckNext [1]).length < 64) :
    Tell PySem.Challenge.rw_pg0218_02.row.prog w (hd.heap_39 w.params) p loose mean mg mb (fun g => g.get? fl = some (listOf fv.toArray fe)) 10 40 (.ref 101) [.ref fl] []
      (fun v news => ∃ (D : Addr) (ds : List Value) (e : Nat) (R : List Int), v = .ref D ∧ IntsAre ds R ∧ R.Perm (fs.foldl struckNext [1]) ∧ R.Pairwise (· ≤ ·) ∧ news = [(D, listOf ds.toArray e)]) := by
  k_fill
  refine Tell.enterC (binds := [("figures", .ref fl)]) (by k_is) (by k_is) (fun s => BindsTo.of_eq rfl) rfl (by decide +kernel) rfl rfl rfl ?_
  intro A base g outer s L cells Q B hH X T hG F N Y hlt hd hu hret
  k_cells Y
  k_steps
  rename Fr _ _ _ _ => F1
  rename News _ _ _ _ => N1
  simp only [List.cons_append, List.nil_append] at N1
  rename_i oF o2 dF _ nl _ _ _ lt1 _ oN dN
  refine For_turns F1 ?_ (hE := PassesOwn.never)
  k_steps
  refine turnsG_by (vs := fv) (e := fe) (σ := StrSt) (fun c => [("figures", .ref fl)]) (fun c => [(c.nl, listOf c.nv.toArray c.ne), (L + 1 + 1, c.oF), (L + 1, c.oN)])
    (fun i c => IntsAre c.nv c.ns ∧ c.ns = (fs.take i).foldl struckNext [1] ∧ c.ns.length ≤ 2 ^ i ∧ c.oN.data = .cell (some (.ref c.nl)) ∧ (∃ x, c.oF.data = .cell x) ∧ Hid (@Ne Nat c.nl (L + 1)) ∧ Hid (@Ne Nat c.nl (L + 1 + 1)))
    ⟨nl, [.int 1 s.toks], 0, [1], oF, oN⟩ (fun _ _ => rfl) hH hG F1 N1 ?sub ?vars ?inv ?turn ?done
  case sub => walk_at "mine sub"
  case vars => walk_at "mine vars"
  case inv => exact ⟨.cons _ _ .nil, rfl, Nat.le_refl 1, dN, ⟨_, dF⟩, Nat.ne_of_gt (lt1 (L + 1, o2) (.tail _ (.head _))), Nat.ne_of_gt (lt1 (L + 1 + 1, _) (.head _))⟩
  case turn =>
    clear F1 N1
    rintro I i ⟨ql, nv, ne9, ns, oF, oN⟩ v it u h tk - hv ⟨i1, i2, i7, i3, i4, i5, i6⟩ hne F N
    dsimp only at i1 i2 i3 i4 i5 i6 i7 hne F N
    replace hne := off1_of hne
    replace F : Fr g L h _ := F
    replace N : News g L h _ := N
    obtain ⟨x, t9, rfl, hx⟩ := IntsAre.at hI i v (by simpa using hv)
    obtain ⟨x0, i4⟩ := i4
    have hi6 : i < 6 := by have := (List.getElem?_eq_some_iff.mp hx).1; omega
    have h64 : ns.length ≤ 64 := Nat.le_trans i7 (Nat.pow_le_pow_right (by decide) (show i ≤ 6 by omega))
    have hnl : nv.length = ns.length := i1.length
    k_steps
    rename Fr _ _ _ _ => F2
    rename News _ _ _ _ => N2
    rename_i _ oF2 dF2
    refine LCg.CompSrc.ledger hH (by k_asm) (by k_asm) (by k_mem) (by rw [sizeLine_eq, List.size_toArray]; omega) ?_
    intro g'
    refine comp_rest (fun j ys => IntsAre ys ((ns.take j).map (fun n => 2 * n + x))) .nil ?tu ?fi
    case tu =>
      intro j v I2 oI C oC D m₂ ys h tk E' hj hv hinv hC2 hx2 F N off
      obtain ⟨n, tt, rfl, hn⟩ := IntsAre.at i1 j v (by simpa using hv)
      k_steps
      rw [List.take_add_one, hn, List.map_append]
      exact ints_append hinv (.cons _ _ .nil)
    case fi =>
      intro ys hinv
      rw [List.take_of_length_le (by rw [List.size_toArray, hnl]; exact Nat.le_refl _)] at hinv
      have hyl : ys.length = ns.length := by rw [hinv.length, List.length_map]
      k_steps
      rename Fr _ _ _ _ => F3
      rename News _ _ _ _ => N3
      rename_i lo9 _ _ o19
      refine LCt.CompSrcT.ledger hH (by k_asm) (by k_asm) (by k_mem) (by rw [sizeLine_eq, List.size_toArray]; omega) ?_
      intro g'
      refine compT_rest (fun j zs => IntsAre zs (((ns.map (fun n => 2 * n + x)).take j).filter (fun n => !ns.any (· == n)))) .nil ?tu2 ?fi2
      case tu2 =>
        intro j v I2 oI C oC D m₂ zs h tk E' hj hv hinv2 hC2 hx2 F N off
        obtain ⟨n, tt, rfl, hn⟩ := IntsAre.at hinv j v (by simpa using hv)
        k_steps
        refine notIn_g (by assumption) (by k_mem) i1 ?_
        have hfil : (((ns.map (fun n => 2 * n + x)).take (j + 1)).filter (fun n => !ns.any (· == n))) = (((ns.map (fun n => 2 * n + x)).take j).filter (fun n => !ns.any (· == n))) ++ (if !ns.any (· == n) then [n] else []) := by
          rw [List.take_add_one, hn, List.filter_append]
          congr 1
          cases hb : !ns.any (· == n) <;> simp [hb]
        rw [hfil]
        cases hb : !ns.any (· == n) with
        | true =>
          k_steps
          exact ints_append hinv2 (.cons _ _ .nil)
        | false =>
          k_steps
          show IntsAre zs (_ ++ [])
          rw [List.append_nil]; exact hinv2
      case fi2 =>
        intro zs hinv2
        rw [List.take_of_length_le (by rw [List.size_toArray, List.length_map, hyl]; exact Nat.le_refl _)] at hinv2
        have hzl : zs.length ≤ ns.length := by
          rw [hinv2.length]
          exact Nat.le_trans (List.length_filter_le _ _) (by rw [List.length_map]; exact Nat.le_refl _)
        k_steps
        rename Fr _ _ _ _ => F4
        rename News _ _ _ _ => N4
        rename_i nl2 _ lt9 _ oN9 dN9
        refine FPost.next ⟨nl2, nv ++ zs, 0, struckNext ns x, oF2, oN9⟩ F4 N4 (by walk_at "mine sub") (by walk_at "mine sub") (List.forall_mem_cons.mpr ⟨Nat.ne_of_gt lt9.2.2.1, List.forall_mem_cons.mpr ⟨off1_l hne (.tail _ (.head _)), List.forall_mem_cons.mpr ⟨off1_l hne (.tail _ (.tail _ (.head _))), List.forall_mem_nil _⟩⟩⟩) (by walk_at "mine vars") ⟨ints_append i1 hinv2, by rw [struck_take hx, ← i2], ?_, dN9, ⟨_, dF2⟩, Nat.ne_of_gt lt9.2.2.2.2.2, Nat.ne_of_gt lt9.2.2.2.2.1⟩
        show (ns ++ _).length ≤ 2 ^ (i + 1)
        have h1 := List.length_filter_le (fun n => !ns.any (· == n)) (ns.map (fun n => 2 * n + x))
        rw [List.length_map] at h1
        rw [List.length_append, Nat.pow_succ]
        omega
  case done =>
    clear F1 N1
    rintro ⟨ql, nv, ne9, ns, oF, oN⟩ u h tk ⟨i1, i2, i7, i3, i4, i5, i6⟩ F N
    dsimp only at i1 i2 i3 i4 i5 i6 i7 F N
    replace F : Fr g L h _ := F
    replace N : News g L h _ := N
    rw [List.take_of_length_le (by rw [hI.length]; exact Nat.le_refl _)] at i2
    subst i2
    k_steps
    rename Fr _ _ _ _ => F6
    rename News _ _ _ _ => N6
    exact hret _ _ _ _ ⟨_, _, _, _, rfl, by assumption, by assumption, by assumption, rfl⟩ (Own.of F6 (fun q hq => N6 q (by rw [List.mem_singleton.mp hq]; exact List.mem_cons_self)))
end
-- S12
section
local macro_rules | `(tactic| walk_at "mine stop") => `(tactic| with_reducible show wpAny _ _ (compareOp CmpOp.NotEq (Value.int _ _) (Value.int _ _)) _ _ _)
local macro_rules | `(tactic| walk_at "mine stop") => `(tactic| with_reducible show wpAny _ _ (subscriptTail _ _ (Value.ref _) (Value.int (-1) _)) _ _ _)
local macro_rules | `(tactic| walk_at "mine stop") => `(tactic| with_reducible show wpAny _ _ (exec (Stmt.Assign [PySem.Expr.Name (PySem.Str.ofString "backs") _] _ _) _) _ _ _)
local macro_rules | `(tactic| walk_at "mine stop") => `(tactic| with_reducible show wpAny _ _ (PySem.call (Value.builtin _) [Value.ref _, Value.ref _]) _ _ _)

theorem off1_all {D : Addr} {l : List (Addr × Obj)} (h : LCg.Off1 D l) : ∀ p ∈ l, p.1 ≠ D := fun p hp => off1_l (a := p.1) (o := p.2) h hp
noncomputable def DoneAt (g : Heap) (L : Addr) (s : Shared) (fl : Flow) (s' : Shared) : Prop := ∃ h' tk m', fl = .ret (.bool true) ∧ Fr g L h' m' ∧ GrownAt 30 h' ∧ GrownAt 37 h' ∧ s' = { s with heap := h', toks := tk }
local macro_rules | `(tactic| walk_at "mine stop") => `(tactic| with_reducible show DoneAt _ _ _ _ _)
local macro_rules | `(tactic| walk_at "mine stop") => `(tactic| with_reducible show wpAny _ _ (compareOp CmpOp.NotEq (Value.ref _) (Value.ref _)) _ _ _)
theorem DoneAt.of {g : Heap} {L : Addr} {s : Shared} {h' : Heap} {tk : Nat} {m' : Str → Option Value} (F : Fr g L h' m') (a : GrownAt 30 h') (b : GrownAt 37 h') : DoneAt g L s (.ret (.bool true)) { s with heap := h', toks := tk } := ⟨h', tk, m', rfl, F, a, b, rfl⟩
theorem done_by {M : Model} {A : Around} {t : Sem Flow} {Q : Flow → Shared → Prop} {E : Value → Shared → Prop} {s : Shared} {g : Heap} {L : Addr} {m : Str → Option Value} (_ : Fr g L s.heap m)
    (h : wpAny M A t (DoneAt g L s) (fun _ _ => False) s)
    (k : ∀ h' tk m', Fr g L h' m' → GrownAt 30 h' → GrownAt 37 h' → Q (.ret (.bool true)) { s with heap := h', toks := tk }) : wpAny M A t Q E s :=
  wpAny_mono h (fun fl s' x => by obtain ⟨h', tk, m', rfl, F', a, b, rfl⟩ := x; exact k h' tk m' F' a b) fun _ _ e => e.elim
theorem law_holds : PySem.Challenge.rw_pg0218_02.Holds := by
  refine hd ?_
  w_strict (k_go0)
  refine done_by (by assumption) ?walk ?post
  case post =>
    intro h' tk m' F9 g1 g2
    dsimp only
    refine ⟨?_, ⟨g1, g2, trivial⟩⟩
    k_end; wrow_close
  case walk =>
    rename Fr _ _ _ _ => F
    rename News _ _ _ _ => N
    rename IntsAre _ _ => hI
    rename Below _ _ _ _ => B
    rename Top _ _ _ _ _ _ => T
    rename Frag.In _ _ => X
    rename CodeHd _ (41, 37).fst _ => G2
    rename CodeHd _ (34, 30).fst _ => G1
    rename _ ∧ _ => lt0
    rename Heap.IsList (ghostOf _ _) _ _ => hSL
    rename ¬ _ => hcond
    rename Obj.data _ = Data.cell _ => dE
    revert hI hcond dE X T B F hSL G1 G2 N lt0
    rename CellsAre .. => z; clear z
    rename Dflts .. => z; clear z
    rename True => z; clear z
    rename ReadsAllW .. => z; clear z
    rename Reads .. => z; clear z
    rename Well .. => z; clear z
    rename ReadsAll .. => z; clear z
    rename Heap.IsList _ _ _ => z; clear z
    rename WData.layableAll _ = true => z; clear z
    rename WShape.hasAll _ _ _ = true => z; clear z
    rename PyData.layable0 _ = true => z; clear z
    rename PyData.layableAll0 _ = true => z; clear z
    rename Shape.has _ _ = true => z; clear z
    rename TabsAt .. => z; clear z
    rename TopW .. => z; clear z
    rename TopE .. => z; clear z
    rename Tables .. => z; clear z
    rename Top _ _ _ _ _ _ => z; clear z
    rename LooseAre .. => z; clear z
    rename Flt.MathXP .. => z; clear z
    rename ∀ _, _ => z; clear z
    rename _ = #[] => z; clear z
    rename Heap.CodeRec _ _ _ => z; clear z
    rename Heap.get? _ _ = _ => z; clear z
    rename Ground .. => z; clear z
    intro hI hcond dE X T B F hSL G1 G2 N lt0
    rename_i w s0 s1 mg mb Y a5 a6 a7 a8 a9 ns a10 a11 sl vs a12 h1 a13 oE
    clear Y
    dsimp only at G1 G2
    generalize ghostOf _ _ = g at *
    generalize hL : s1.heap.objs.size = L at *
    clear hL
    replace dE : oE.data = Data.cell none := dE
    replace F : Fr g L h1 (fun y => if y = Str.ofString "script" then some (.ref sl) else none) := F
    have hlen : vs.length = ns.length := hI.length
    k_steps
    rename IntsAre _ (ns ++ _) => hI2
    rename_i ws' _ _
    generalize hz : (if (if (ns.length : Int) < 6 then (ns.length : Int) else 6) > 4 then (if (ns.length : Int) < 6 then (ns.length : Int) else 6) else 4) = z at *
    obtain ⟨k, rfl, hk4, hk6, hkn⟩ : ∃ k : Nat, z = (k : Int) ∧ 4 ≤ k ∧ k ≤ 6 ∧ k ≤ ns.length + 4 := ⟨z.toNat, by split at hz <;> (try split at hz) <;> omega, by split at hz <;> (try split at hz) <;> omega, by split at hz <;> (try split at hz) <;> omega, by split at hz <;> (try split at hz) <;> omega⟩
    clear hz
    have hl2 := hI2.length
    rw [List.length_append, show [(0 : Int), 1, 1, 0].length = 4 from rfl] at hl2
    have hns : ns.length ≤ 63 := by omega
    walk_at "mine slice"
    k_steps
    have hH : callerA.handled = none := rfl
    have hd : callerA.depth + 200 < recursionLimit := by decide
    have hu : callerA.units + 1000 < cLine := by decide
    have hI3 := hI2.take k
    have hk : ((ns ++ [0, 1, 1, 0]).take k).length = k := by
      rw [List.length_take, List.length_append, show [(0 : Int), 1, 1, 0].length = 4 from rfl, Nat.min_eq_left hkn]
    have hkw := hI3.length
    rw [hk] at hkw
    generalize List.take k (ns ++ [0, 1, 1, 0]) = ns3 at *
    generalize hw3 : List.take k _ = ws3 at *
    refine LCg.CompSrc.ledger hH (by k_asm) (by k_asm) (by k_mem) (by rw [sizeLine_eq, List.size_toArray]; omega) ?_
    intro g'
    refine comp_rest (fun i ys => IntsAre ys ((ns3.take i).map (fun x => x.fmod 2))) .nil ?tu ?fi
    case tu =>
      intro i v I oI C oC D m₂ ys h tk E' hi hv hinv hC2 hx F N off
      obtain ⟨x, tt, rfl, hn⟩ := IntsAre.at hI3 i v (by simpa using hv)
      k_steps
      rw [List.take_add_one, hn, List.map_append]
      exact ints_append hinv (.cons _ _ .nil)
    case fi =>
      intro fv hfv
      rw [List.take_of_length_le (by rw [List.size_toArray, hkw, hk]; exact Nat.le_refl _)] at hfv
      obtain ⟨fs, hfs⟩ : ∃ fs, fs = ns3.map (fun x => x.fmod 2) := ⟨_, rfl⟩
      rw [← hfs] at hfv
      have hfl : fs.length = k := by rw [hfs, List.length_map, hk]
      have hfb : ∀ x ∈ fs, x = 0 ∨ x = 1 := by
        intro x hx
        rw [hfs] at hx
        obtain ⟨y, _, rfl⟩ := List.mem_map.mp hx
        rw [Int.fmod_eq_emod_of_nonneg _ (by decide)]
        omega
      clear hfs
      obtain ⟨R, BB, fact⟩ := fact_of hfb (by omega) (by omega)
      have hfvl := hfv.length
      k_steps
      rename Fr _ _ _ _ => F2
      rename News _ _ _ _ => N2
      rename LCg.Off1 _ _ => o2
      rename_i y5 y6 y7 y8 y9 y10 y11 u1 y13 lt1 u3 y16 y17 lt2 u2 y20 y21 lt3 y23 fl y25 y26
      clear y21 y23
      refine LCg.CompSrc.ledger hH (by k_asm) (by k_asm) (by k_mem) (by rw [sizeLine_eq, List.size_toArray]; omega) ?_
      intro g'
      refine comp_rest (fun i ys => StrsAre ys ((fs.take i).map (fun x => one (48 + x.toNat)))) .nil ?tu ?fi
      case tu =>
        intro i v I oI C oC D m₂ ys h tk E' hi hv hinv hC2 hx F N off
        obtain ⟨x, tt, rfl, hn⟩ := IntsAre.at hfv i v (by simpa using hv)
        have hx01 := hfb x (List.mem_of_getElem? hn)
        k_steps
        rw [List.take_add_one, hn, List.map_append]
        exact strs_append hinv (.cons _ _ .nil)
      case fi =>
        intro ys hys
        rw [List.take_of_length_le (by rw [List.size_toArray, hfvl]; exact Nat.le_refl _), ← codes_map] at hys
        k_steps
        refine' join_g ?jN ?jm hys ?j1 ?jx ?jn ?_
        case jN => k_asm
        case jm => k_mem
        case j1 =>
          intro a ha
          obtain ⟨c, _, rfl⟩ := List.mem_map.mp ha
          exact show (1 : Nat) ≤ 8 by decide
        case jx => decide
        case jn => rw [List.length_map, codes, List.length_map]; omega
        intro tw tkw
        rw [join_str]
        k_steps
        clear hys
        have hcl : (codes fs).length = fs.length := by rw [codes, List.length_map]
        refine' Tell.use (rest := [(fl, LCg.lst fv), (u2, W.listOf ws3.toArray 0), (L + 1, oE), (37, tabObj #[])]) (told_t (gs := codes fs) (ps := #[]) (c := u1) (oc := _) fact.told ?hgs (.inl rfl) ?hc) ?cB1 ?cH1 ?cF1 ?cN1 ?cX1 ?cT1 ?cA1 ?cf1 ?ck1 ?cs1 ?cr1 ?ca1 ?cP1 ?cd1 ?cu1 ?cret1
        case cB1 => exact B
        case cH1 => first | exact hH | assumption
        case cF1 => assumption
        case cN1 => assumption
        case cX1 => exact X
        case cT1 => first | exact T | assumption
        case cA1 => exact Around.frames_deeper B.stack
        case cf1 => exact rfl
        case ck1 => exact rfl
        case cs1 => walk_at "mine sub"
        case cr1 => walk_at "mine sub"
        case ca1 => walk_at "mine apart"
        case cP1 => exact fun g' st _ => G1.keeps (fun b o e => st b o e)
        case cd1 => walk_at "mine room"
        case cu1 => walk_at "mine room"
        case hgs => omega
        case hc => exact neN (by omega)
        rintro _ _ h' tk' ⟨dl, ds, e1, p1, c1, q1, rfl, hds, ht1, d1, d2, d3, rfl⟩ F' N' hap
        replace d1 := hid d1; replace d2 := hid d2; replace d3 := hid d3
        have d4 : Hid (@Ne Nat dl fl) := hap (dl, _) (.head _) (fl, _) (.head _)
        have d5 : Hid (@Ne Nat dl u2) := hap (dl, _) (.head _) (u2, _) (.tail _ (.head _))
        have d6 : Hid (@Ne Nat dl (L + 1)) := hap (dl, _) (.head _) (L + 1, _) (.tail _ (.tail _ (.head _)))
        have d7 : Hid (@Ne Nat dl 37) := hap (dl, _) (.head _) (37, _) (.tail _ (.tail _ (.tail _ (.head _))))
        have d8 : Hid (@Ne Nat c1 fl) := hap (c1, q1) (.tail _ (.tail _ (.head _))) (fl, _) (.head _)
        have d9 : Hid (@Ne Nat c1 u2) := hap (c1, q1) (.tail _ (.tail _ (.head _))) (u2, _) (.tail _ (.head _))
        have d10 : Hid (@Ne Nat c1 (L + 1)) := hap (c1, q1) (.tail _ (.tail _ (.head _))) (L + 1, _) (.tail _ (.tail _ (.head _)))
        have d11 : Hid (@Ne Nat c1 37) := hap (c1, q1) (.tail _ (.tail _ (.head _))) (37, _) (.tail _ (.tail _ (.tail _ (.head _))))
        have d12 : Hid (@Ne Nat fl u2) := (off1_l o2 (.head _)).symm
        have d13 : Hid (@Ne Nat fl (L + 1)) := (off1_l o2 (.tail _ (.tail _ (.tail _ (.head _))))).symm
        have d14 : Hid (@Ne Nat fl 30) := (off1_l o2 (.tail _ (.tail _ (.tail _ (.tail _ (.head _)))))).symm
        have d15 : Hid (@Ne Nat fl 37) := (off1_l o2 (.tail _ (.tail _ (.tail _ (.tail _ (.tail _ (.head _))))))).symm
        have d16 : Hid (@Ne Nat u2 (L + 1)) := hid (by omega)
        have d17 : Hid (@Ne Nat u2 30) := hid (by omega)
        have d18 : Hid (@Ne Nat u2 37) := hid (by omega)
        have d19 : Hid (@Ne Nat (L + 1) 30) := hid (by omega)
        have d20 : Hid (@Ne Nat (L + 1) 37) := hid (by omega)
        clear hap o2 lt1 lt2 lt3 hw3 hI2 hl2 hk
        clear N2 F2
        simp only [List.cons_append, List.nil_append] at N'
        k_steps
        refine' Tell.use (rest := [(dl, W.listOf ds.toArray e1), (30, tabObj p1), (c1, q1), (fl, LCg.lst fv), (u2, W.listOf ws3.toArray 0), (L + 1, oE), (37, tabObj #[])]) (struck_t (fl := fl) (fv := fv) (fe := fv.length) hfv (by omega) ?hS) ?cB2 ?cH2 ?cF2 ?cN2 ?cX2 ?cT2 ?cA2 ?cf2 ?ck2 ?cs2 ?cr2 ?ca2 ?cP2 ?cd2 ?cu2 ?cret2
        case cB2 => exact B
        case cH2 => first | exact hH | assumption
        case cF2 => assumption
        case cN2 => assumption
        case cX2 => exact X
        case cT2 => first | exact T | assumption
        case cA2 => exact Around.frames_deeper B.stack
        case cf2 => exact rfl
        case ck2 => exact rfl
        case cs2 => walk_at "mine sub"
        case cr2 => walk_at "mine sub"
        case ca2 => walk_at "mine apart"
        case cP2 => exact fun g' st hr => hr (fl, _) (.tail _ (.tail _ (.tail _ (.head _))))
        case cd2 => walk_at "mine room"
        case cu2 => walk_at "mine room"
        case hS =>
          have e := (List.isPerm_iff.mp fact.perm).length_eq
          have := fact.len
          omega
        rintro _ _ h' tk' ⟨kl, ks, e2, R2, rfl, hks, hpm, hpw, rfl⟩ F' N' -
        have hRR : R2 = R := perm_sorted (hpm.trans (List.isPerm_iff.mp fact.perm).symm) hpw fact.sort
        subst hRR
        simp only [List.cons_append, List.nil_append] at N'
        k_steps
        walk1
        k_steps
        have hRl := fact.len
        have hdl := hds.length
        refine' from_g (k := 1) ?gF ?gN ?gl ?gz ?_ ?gs
        case gs => with_unfolding_all rfl
        case gF => k_asm
        case gN => k_asm
        case gl => k_mem
        case gz => omega
        intro el h4 F4 N4 l4
        have hI4 := hds.drop 1
        generalize hw4 : List.drop 1 ds = es at *
        have hel : es.length = R2.length - 1 := by rw [← hw4, List.length_drop, hdl]
        clear hw4
        have d21 : Hid (@Ne Nat el kl) := hid (Nat.ne_of_gt (l4 (kl, _) (.head _)))
        have d22 : Hid (@Ne Nat el dl) := hid (Nat.ne_of_gt (l4 (dl, _) (.tail _ (.head _))))
        have d23 : Hid (@Ne Nat el 30) := hid (Nat.ne_of_gt (l4 (30, _) (.tail _ (.tail _ (.head _)))))
        have d24 : Hid (@Ne Nat el c1) := hid (Nat.ne_of_gt (l4 (c1, q1) (.tail _ (.tail _ (.tail _ (.head _))))))
        have d25 : Hid (@Ne Nat el fl) := hid (Nat.ne_of_gt (l4 (fl, _) (.tail _ (.tail _ (.tail _ (.tail _ (.head _)))))))
        have d26 : Hid (@Ne Nat el u2) := hid (Nat.ne_of_gt (l4 (u2, _) (.tail _ (.tail _ (.tail _ (.tail _ (.tail _ (.head _))))))))
        have d27 : Hid (@Ne Nat el (L + 1)) := hid (Nat.ne_of_gt (l4 (L + 1, _) (.tail _ (.tail _ (.tail _ (.tail _ (.tail _ (.tail _ (.head _)))))))))
        have d28 : Hid (@Ne Nat el 37) := hid (Nat.ne_of_gt (l4 (37, _) (.tail _ (.tail _ (.tail _ (.tail _ (.tail _ (.tail _ (.tail _ (.head _))))))))))
        clear l4
        replace N4 := News.sub N4 (show ∀ q ∈ [(el, W.listOf es.toArray 0), (dl, W.listOf ds.toArray e1), (30, tabObj p1), (c1, q1), (fl, LCg.lst fv), (u2, W.listOf ws3.toArray 0), (L + 1, oE), (37, tabObj #[])], q ∈ _ by walk_at "mine sub")
        k_steps
        refine LCg.CompSrc.ledger hH F4 N4 (by k_mem) (by rw [sizeLine_eq, List.size_toArray]; omega) ?_
        intro g'
        refine comp_restN (fun i ys nw => ∃ ts, nw = (el, W.listOf es.toArray 0) :: (dl, W.listOf ds.toArray e1) :: (30, tabObj p1) :: (c1, q1) :: (fl, LCg.lst fv) :: (u2, W.listOf ws3.toArray 0) :: (L + 1, oE) :: (37, tabObj #[]) :: ts ∧ PairsIn ts ys (((R2.drop 1).take i).map endOf) ∧ ∀ p ∈ ts, @Ne Nat p.1 (L + 1)) ⟨[], rfl, .nil, fun _ hp => nomatch hp⟩ ?tu ?fi
        case tu =>
          rintro i v I oI C oC D m₂ ys _ h tk E' hi hv ⟨ts, rfl, hinv, hts⟩ hC2 hx F N off
          obtain ⟨x, tt, rfl, hn⟩ := IntsAre.at hI4 i v (by simpa using hv)
          obtain ⟨hx2, hx3⟩ := fact.big x (List.mem_of_getElem? hn)
          obtain ⟨n, rfl⟩ : ∃ n : Nat, x = n := ⟨x.toNat, by omega⟩
          have hb2 : 2 ≤ Builtin.Int.intBits (n : Int) := bits_two hx2
          k_steps
          rename Fr _ _ _ _ => F5
          rename News _ _ _ _ => N5
          rename _ ∧ _ => lt5
          rename_i D5 _
          obtain ⟨t5, u5, N6⟩ : ∃ t u, News g L _ ((D5, pairO (endOf n).1 (endOf n).2 t u) :: _) := by rw [end_eq]; exact ⟨_, _, N5⟩
          refine LCg.CompEnd.intro F5 N6 ((el, W.listOf es.toArray 0) :: (dl, W.listOf ds.toArray e1) :: (30, tabObj p1) :: (c1, q1) :: (fl, LCg.lst fv) :: (u2, W.listOf ws3.toArray 0) :: (L + 1, oE) :: (37, tabObj #[]) :: (D5, pairO (endOf n).1 (endOf n).2 t5 u5) :: ts) ?sub5 ?off5 (Or.inr ⟨_, .head _, rfl, _, rfl⟩) ⟨(D5, pairO (endOf n).1 (endOf n).2 t5 u5) :: ts, rfl, ?_, List.forall_mem_cons.mpr ⟨Nat.ne_of_gt lt5.2.2.2.2.2.2.2.2.2.1, hts⟩⟩
          case sub5 =>
            intro p hp
            simp only [List.mem_cons] at hp ⊢
            rcases hp with h | h | h | h | h | h | h | h | h | h | h | h | h
            all_goals simp only [h, true_or, or_true]
          case off5 =>
            exact ⟨off.1, off.2.1, off.2.2.1, off.2.2.2.1, off.2.2.2.2.1, off.2.2.2.2.2.1, off.2.2.2.2.2.2.1, off.2.2.2.2.2.2.2.1, ⟨Nat.ne_of_gt lt5.1, Nat.ne_of_gt lt5.2.1, Nat.ne_of_gt lt5.2.2.1⟩, off.2.2.2.2.2.2.2.2⟩
          rw [List.take_add_one, hn, List.map_append]
          refine PairsIn.app (PairsIn.mono (fun p hp => .tail _ hp) hinv) ?_
          exact PairsIn.cons (x := (endOf n).1) (y := (endOf n).2) (.head _) .nil
        case fi =>
          rintro ys _ ⟨ts, rfl, hys, hts⟩
          rw [List.take_of_length_le (by rw [List.size_toArray, hI4.length]; exact Nat.le_refl _)] at hys
          k_steps
          rename Fr _ _ _ _ => F6
          rename News _ _ _ _ => N6
          rename LCg.Off1 _ _ => o6
          rename_i nl h6 tk6
          have dn1 : Hid (@Ne Nat nl dl) := (off1_l o6 (.tail _ (.head _))).symm
          have dn2 : Hid (@Ne Nat nl 30) := (off1_l o6 (.tail _ (.tail _ (.head _)))).symm
          have dn3 : Hid (@Ne Nat nl c1) := (off1_l o6 (.tail _ (.tail _ (.tail _ (.head _))))).symm
          have dn4 : Hid (@Ne Nat nl fl) := (off1_l o6 (.tail _ (.tail _ (.tail _ (.tail _ (.head _)))))).symm
          have dn5 : Hid (@Ne Nat nl u2) := (off1_l o6 (.tail _ (.tail _ (.tail _ (.tail _ (.tail _ (.head _))))))).symm
          have dn6 : Hid (@Ne Nat nl (L + 1)) := (off1_l o6 (.tail _ (.tail _ (.tail _ (.tail _ (.tail _ (.tail _ (.head _)))))))).symm
          have dn7 : Hid (@Ne Nat nl 37) := (off1_l o6 (.tail _ (.tail _ (.tail _ (.tail _ (.tail _ (.tail _ (.tail _ (.head _))))))))).symm
          replace N6 : News g L h6 ([(nl, LCg.lst ys), (dl, W.listOf ds.toArray e1), (30, tabObj p1), (c1, q1), (fl, LCg.lst fv), (u2, W.listOf ws3.toArray 0), (37, tabObj #[])] ++ (L + 1, oE) :: ts) := fun p hp => N6 p (by
            simp only [List.mem_append, List.mem_cons, List.not_mem_nil, or_false] at hp ⊢
            rcases hp with (h | h | h | h | h | h | h) | h | h
            all_goals simp only [h, true_or, or_true])
          clear N4 F4 o6
          refine' storeX_C F6 N6 ?gc (updF_app ?gp ?gq) dE ?_ ?ga ?gb
          case gc => exact rfl
          case ga => exact rfl
          case gb => exact rfl
          case gp => exact hts
          case gq => walk_at "mine apart"
          intro h7 oE7 F7 N7 dE7
          clear N6 F6 dE
          simp only [List.cons_append, List.nil_append] at N7
          k_steps
          refine Assign_ListComp_C F7 rfl (by with_unfolding_all rfl) (by with_unfolding_all rfl) (fun _ => rfl) (fun _ => rfl) rfl (by decide) (by rfl) (by rfl) (by rfl) ?_
          k_steps
          rename News _ _ _ _ => N8
          rename Fr _ _ _ _ => F8
          rename_i bl h8 _
          refine SrcC.ledger hH F8 N8 (.head _) (show 2 ≤ sizeLine by rw [sizeLine_eq]; decide) ?_
          intro g'
          refine restC_N (fun i rs nw => ∃ us, nw = (bl, W.listOf #[Value.int 0 tk, Value.int 1 (tk + 1)] 0) :: (nl, LCg.lst ys) :: (dl, W.listOf ds.toArray e1) :: (30, tabObj p1) :: (c1, q1) :: (fl, LCg.lst fv) :: (u2, W.listOf ws3.toArray 0) :: (37, tabObj #[]) :: (L + 1, oE7) :: us ∧ (∀ p ∈ ts, p ∈ us) ∧ RowsIn [(dl, W.listOf ds.toArray e1), (30, tabObj p1), (c1, q1), (fl, LCg.lst fv), (u2, W.listOf ws3.toArray 0), (37, tabObj #[])] us R2 rs i) ⟨ts, rfl, fun _ hp => hp, rfl, fun j hj => nomatch hj⟩ ?tu ?fi
          case tu =>
            rintro i v I oI C oC K oK D rs _ h tkb E' hi hv ⟨us, rfl, hus, hrows⟩ dK F N off offK
            obtain ⟨ti, rfl⟩ : ∃ t, v = .int (i : Int) t := by
              match i, hv with
              | 0, hv => exact ⟨_, (Option.some.inj hv).symm⟩
              | 1, hv => exact ⟨_, (Option.some.inj hv).symm⟩
            refine LCg.ListComp_U (F₀ := F) (by with_unfolding_all rfl) (by decide) (by rfl) (by decide) (by rfl) ?_
            k_steps
            rename News _ _ _ _ => N9
            rename Fr _ _ _ _ => F9
            refine LCg.CompSrc.ledger hH F9 N9 (.head _) (show 2 ≤ sizeLine by rw [sizeLine_eq]; decide) ?_
            intro g''
            refine comp_rest (fun j zs => IntsAre zs (([(cnt R2 i 0 : Nat), (cnt R2 i 1 : Nat)].take j).map (fun c : Nat => (c : Int)))) .nil ?tu2 ?fi2
            case tu2 =>
              intro j v2 I2 oI2 C2 oC2 D2 m2 zs h tkc E' hj hv2 hinv hC2 hx F N off2
              obtain ⟨tj, hj2, rfl⟩ : ∃ t, j < 2 ∧ v2 = .int (j : Int) t := by
                match j, hv2 with
                | 0, hv2 => exact ⟨_, by decide, (Option.some.inj hv2).symm⟩
                | 1, hv2 => exact ⟨_, by decide, (Option.some.inj hv2).symm⟩
              k_steps
              refine count_pairs (ts := ts) (by assumption) (by k_mem) hys (fun p hp => ?hin) (by k_mem) (by walk_at "mine room") ?_
              case hin =>
                have := hus p hp
                simp only [List.mem_cons, this, or_true]
              intro u9 k9
              rw [cnt_pairs]
              k_steps
              have hj3 : [cnt R2 i 0, cnt R2 i 1][j]? = some (cnt R2 i j) := by
                match j, hj2 with
                | 0, _ => rfl
                | 1, _ => rfl
              refine LCg.CompEnd.intro (by assumption) (by assumption) _ (fun _ hp => .tail _ hp) off2 (Or.inr ⟨_, .head _, rfl, _, rfl⟩) ⟨rfl, ?_⟩
              rw [List.take_add_one, hj3, List.map_append]
              exact ints_append hinv (.cons _ _ .nil)
            case fi2 =>
              intro zs hz
              obtain ⟨t0, t1, rfl⟩ : ∃ t0 t1, zs = [.int (cnt R2 i 0 : Nat) t0, .int (cnt R2 i 1 : Nat) t1] := by
                have hz' : IntsAre zs [((cnt R2 i 0 : Nat) : Int), ((cnt R2 i 1 : Nat) : Int)] := hz
                cases hz' with
                | cons _ t0 hz' =>
                  cases hz' with
                  | cons _ t1 hz' =>
                    cases hz'
                    exact ⟨_, _, rfl⟩
              k_steps
              rename Fr _ _ _ _ => F10
              rename News _ _ _ _ => N10
              rename LCg.Off1 _ _ => o10
              rename_i rl h10 tk10
              have hins : ∀ p ∈ (bl, W.listOf #[Value.int 0 tk, Value.int 1 (tk + 1)] 0) :: (nl, LCg.lst ys) :: (dl, W.listOf ds.toArray e1) :: (30, tabObj p1) :: (c1, q1) :: (fl, LCg.lst fv) :: (u2, W.listOf ws3.toArray 0) :: (37, tabObj #[]) :: (L + 1, oE7) :: (rl, LCg.lst [Value.int (cnt R2 i 0 : Nat) t0, Value.int (cnt R2 i 1 : Nat) t1]) :: us, p = (rl, LCg.lst [Value.int (cnt R2 i 0 : Nat) t0, Value.int (cnt R2 i 1 : Nat) t1]) ∨ p ∈ (bl, W.listOf #[Value.int 0 tk, Value.int 1 (tk + 1)] 0) :: (nl, LCg.lst ys) :: (dl, W.listOf ds.toArray e1) :: (30, tabObj p1) :: (c1, q1) :: (fl, LCg.lst fv) :: (u2, W.listOf ws3.toArray 0) :: (37, tabObj #[]) :: (L + 1, oE7) :: us := by
                intro p hp
                simp only [List.mem_cons] at hp ⊢
                rcases hp with h | h | h | h | h | h | h | h | h | h | h
                all_goals simp only [h, true_or, or_true]
              refine LCg.CompEnd.intro F10 N10 ((K, oK) :: (bl, W.listOf #[Value.int 0 tk, Value.int 1 (tk + 1)] 0) :: (nl, LCg.lst ys) :: (dl, W.listOf ds.toArray e1) :: (30, tabObj p1) :: (c1, q1) :: (fl, LCg.lst fv) :: (u2, W.listOf ws3.toArray 0) :: (37, tabObj #[]) :: (L + 1, oE7) :: (rl, LCg.lst [Value.int (cnt R2 i 0 : Nat) t0, Value.int (cnt R2 i 1 : Nat) t1]) :: us) ?sub10 ?off10 ⟨_, rfl, Or.inr ⟨_, .head _, rfl, _, rfl⟩, ?offK10⟩ ?rest10
              case sub10 =>
                intro p hp
                rcases List.mem_cons.mp hp with rfl | hp
                · exact .tail _ (.tail _ (.head _))
                rcases List.mem_cons.mp hp with rfl | hp
                · exact .tail _ (.tail _ (.tail _ (.head _)))
                rcases List.mem_cons.mp hp with rfl | hp
                · exact .tail _ (.tail _ (.tail _ (.tail _ (.head _))))
                rcases List.mem_cons.mp hp with rfl | hp
                · exact .tail _ (.tail _ (.tail _ (.tail _ (.tail _ (.head _)))))
                rcases hins p hp with rfl | hp
                · exact .head _
                · exact .tail _ (.tail _ (.tail _ (.tail _ (.tail _ (.tail _ hp)))))
              case off10 =>
                refine LCg.Off3.of fun p hp => ?_
                rcases List.mem_cons.mp hp with rfl | hp
                · exact off.mem _ (.head _)
                rcases hins p hp with rfl | hp
                · exact ⟨Ne.symm o10.2.1, Ne.symm o10.2.2.1, Ne.symm o10.2.2.2.1⟩
                · exact off.mem p (.tail _ hp)
              case offK10 =>
                intro p hp
                rcases hins p hp with rfl | hp
                · exact Ne.symm o10.2.2.2.2.1
                · exact offK p hp
              case rest10 =>
                intro nw' e
                cases e
                exact ⟨_ :: us, rfl, fun p hp => .tail _ (hus p hp), RowsIn.add hrows (fun p hp => .tail _ hp) (.head _) ⟨o10.2.2.2.2.2.2.2.1, o10.2.2.2.2.2.2.2.2.1, o10.2.2.2.2.2.2.2.2.2.1, o10.2.2.2.2.2.2.2.2.2.2.1, o10.2.2.2.2.2.2.2.2.2.2.2.1, o10.2.2.2.2.2.2.2.2.2.2.2.2.1, trivial⟩⟩
          case fi =>
            rintro rs _ ⟨us, rfl, hus, hrows⟩
            obtain ⟨hrl, hr⟩ := hrows
            obtain ⟨r0, t00, t01, hr0, mr0, or0⟩ := hr 0 (show 0 < 2 by decide)
            obtain ⟨r1, t10, t11, hr1, mr1, or1⟩ := hr 1 (show 1 < 2 by decide)
            obtain rfl : rs = [.ref r0, .ref r1] := by
              match rs, hrl, hr0, hr1 with
              | [a, b], _, h0, h1 => rw [Option.some.inj h0, Option.some.inj h1]
            unfold LCg.FinA
            intro bo h11 tk11 F11 N11 o11
            replace N11 := News.sub N11 (show ∀ q ∈ [(bo, LCg.lst [Value.ref r0, Value.ref r1]), (r0, LCg.lst [Value.int (cnt R2 0 0 : Nat) t00, Value.int (cnt R2 0 1 : Nat) t01]), (r1, LCg.lst [Value.int (cnt R2 1 0 : Nat) t10, Value.int (cnt R2 1 1 : Nat) t11]), (dl, W.listOf ds.toArray e1), (30, tabObj p1), (c1, q1), (fl, LCg.lst fv), (u2, W.listOf ws3.toArray 0), (37, tabObj #[])], q ∈ _ by
              intro q hq
              simp only [List.mem_cons, List.not_mem_nil, or_false] at hq ⊢
              rcases hq with h | h | h | h | h | h | h | h | h
              · simp only [h, true_or]
              · rw [h]; simp only [mr0, or_true]
              · rw [h]; simp only [mr1, or_true]
              all_goals simp only [h, true_or, or_true])
            k_steps
            rename _ ∧ _ => lfr
            rename News _ _ _ _ => N12
            rename_i fr _ h12 F12
            obtain ⟨tf0, tf1, N13⟩ : ∃ t u, News g L h12 ((fr, W.listOf #[Value.int ((cnt R2 0 0 + cnt R2 0 1 : Nat) : Int) t, Value.int ((cnt R2 1 0 + cnt R2 1 1 : Nat) : Int) u] 0) :: _) := ⟨_, _, N12⟩
            clear N12
            rename News _ _ _ _ => N12
            have df1 : Hid (@Ne Nat fr bo) := Nat.ne_of_gt lfr.1
            have df2 : Hid (@Ne Nat fr 30) := Nat.ne_of_gt lfr.2.2.2.2.1
            have df3 : Hid (@Ne Nat fr c1) := Nat.ne_of_gt lfr.2.2.2.2.2.1
            have df4 : Hid (@Ne Nat fr u2) := Nat.ne_of_gt lfr.2.2.2.2.2.2.2.1
            have df5 : Hid (@Ne Nat fr 37) := Nat.ne_of_gt lfr.2.2.2.2.2.2.2.2
            have df6 : Hid (@Ne Nat bo 30) := (off1_l o11 (by walk_at "mine mem")).symm
            have df7 : Hid (@Ne Nat bo c1) := (off1_l o11 (by walk_at "mine mem")).symm
            have df8 : Hid (@Ne Nat bo u2) := (off1_l o11 (by walk_at "mine mem")).symm
            have df9 : Hid (@Ne Nat bo 37) := (off1_l o11 (by walk_at "mine mem")).symm
            have dr2 : Hid (@Ne Nat r0 30) := (off1_l or0 (by walk_at "mine mem")).symm
            have dr3 : Hid (@Ne Nat r0 c1) := (off1_l or0 (by walk_at "mine mem")).symm
            have dr4 : Hid (@Ne Nat r0 u2) := (off1_l or0 (by walk_at "mine mem")).symm
            have dr5 : Hid (@Ne Nat r0 37) := (off1_l or0 (by walk_at "mine mem")).symm
            have dr6 : Hid (@Ne Nat r1 30) := (off1_l or1 (by walk_at "mine mem")).symm
            have dr7 : Hid (@Ne Nat r1 c1) := (off1_l or1 (by walk_at "mine mem")).symm
            have dr8 : Hid (@Ne Nat r1 u2) := (off1_l or1 (by walk_at "mine mem")).symm
            have dr9 : Hid (@Ne Nat r1 37) := (off1_l or1 (by walk_at "mine mem")).symm
            clear o11 or0 or1 lfr hrl hr hr0 hr1 mr0 mr1 hus dE7
            walk1
            k_steps
            rename _ ∧ _ => lbk
            rename News _ _ _ _ => N13
            rename_i bk _ h13 F13 ta tb
            obtain ⟨tb0, tb1, N14⟩ : ∃ t u, News g L h13 ((bk, W.listOf #[Value.int ((cnt R2 0 0 + cnt R2 1 0 : Nat) : Int) t, Value.int ((cnt R2 0 1 + cnt R2 1 1 : Nat) : Int) u] 0) :: _) := ⟨_, _, N13⟩
            clear N13
            have df10 : Hid (@Ne Nat bk 30) := Nat.ne_of_gt lbk.2.2.2.2.2.1
            have df11 : Hid (@Ne Nat bk c1) := Nat.ne_of_gt lbk.2.2.2.2.2.2.1
            have df12 : Hid (@Ne Nat bk u2) := Nat.ne_of_gt lbk.2.2.2.2.2.2.2.2.1
            have df13 : Hid (@Ne Nat bk 37) := Nat.ne_of_gt lbk.2.2.2.2.2.2.2.2.2
            clear lbk
            have hT0 : Tabs.Ok ⟨p1, c1, q1, #[], u2, W.listOf ws3.toArray 0⟩ := ⟨ht1, .inl rfl, d3, d11, d9, d17, d18⟩
            show wpAny _ _ (PySem.call _ [Value.int ((cnt R2 0 0 + cnt R2 0 1 : Nat) : Int) _, Value.int ((cnt R2 1 0 + cnt R2 1 1 : Nat) : Int) _]) _ _ _
            refine' Tell.use (rest := [(bk, W.listOf #[Value.int ((cnt R2 0 0 + cnt R2 1 0 : Nat) : Int) tb0, Value.int ((cnt R2 0 1 + cnt R2 1 1 : Nat) : Int) tb1] 0), (fr, W.listOf #[Value.int ((cnt R2 0 0 + cnt R2 0 1 : Nat) : Int) tf0, Value.int ((cnt R2 1 0 + cnt R2 1 1 : Nat) : Int) tf1] 0), (bo, LCg.lst [Value.ref r0, Value.ref r1]), (r0, LCg.lst [Value.int (cnt R2 0 0 : Nat) t00, Value.int (cnt R2 0 1 : Nat) t01]), (r1, LCg.lst [Value.int (cnt R2 1 0 : Nat) t10, Value.int (cnt R2 1 1 : Nat) t11]), (dl, W.listOf ds.toArray e1), (fl, LCg.lst fv)]) (runs_t (T := ⟨p1, c1, q1, #[], u2, W.listOf ws3.toArray 0⟩) fact.runs hT0) ?cB3 ?cH3 ?cF3 ?cN3 ?cX3 ?cT3 ?cA3 ?cf3 ?ck3 ?cs3 ?cr3 ?ca3 ?cP3 ?cd3 ?cu3 ?cret3
            case cB3 => exact B
            case cH3 => first | exact hH | assumption
            case cF3 => assumption
            case cN3 => assumption
            case cX3 => exact X
            case cT3 => first | exact T | assumption
            case cA3 => exact Around.frames_deeper B.stack
            case cf3 => exact rfl
            case ck3 => exact rfl
            case cs3 => walk_at "mine sub"
            case cr3 => walk_at "mine sub"
            case ca3 => walk_at "mine apart"
            case cP3 => exact fun g' st _ => ⟨CodeHd.keeps G1 (fun b o e => st b o e), CodeHd.keeps G2 (fun b o e => st b o e)⟩
            case cd3 => walk_at "mine room"
            case cu3 => walk_at "mine room"
            rintro _ _ h' tk' ⟨wl, wv, we, T2, rfl, hwv, hT2, ⟨w1, w2, w3, w4⟩, rfl⟩ F' N' hap
            simp only [Tabs.led, List.cons_append, List.nil_append] at N'
            k_steps
            walk1
            k_steps
            have ac1 : LCg.Off1 T2.c1 [(bk, W.listOf #[Value.int ((cnt R2 0 0 + cnt R2 1 0 : Nat) : Int) tb0, Value.int ((cnt R2 0 1 + cnt R2 1 1 : Nat) : Int) tb1] 0), (fr, W.listOf #[Value.int ((cnt R2 0 0 + cnt R2 0 1 : Nat) : Int) tf0, Value.int ((cnt R2 1 0 + cnt R2 1 1 : Nat) : Int) tf1] 0), (bo, LCg.lst [Value.ref r0, Value.ref r1]), (r0, LCg.lst [Value.int (cnt R2 0 0 : Nat) t00, Value.int (cnt R2 0 1 : Nat) t01]), (r1, LCg.lst [Value.int (cnt R2 1 0 : Nat) t10, Value.int (cnt R2 1 1 : Nat) t11]), (dl, W.listOf ds.toArray e1), (fl, LCg.lst fv)] := off1_of fun r hr => (hap (T2.c1, T2.o1) (.tail _ (.tail _ (.head _))) r hr).symm
            have ac2 : LCg.Off1 T2.c2 [(bk, W.listOf #[Value.int ((cnt R2 0 0 + cnt R2 1 0 : Nat) : Int) tb0, Value.int ((cnt R2 0 1 + cnt R2 1 1 : Nat) : Int) tb1] 0), (fr, W.listOf #[Value.int ((cnt R2 0 0 + cnt R2 0 1 : Nat) : Int) tf0, Value.int ((cnt R2 1 0 + cnt R2 1 1 : Nat) : Int) tf1] 0), (bo, LCg.lst [Value.ref r0, Value.ref r1]), (r0, LCg.lst [Value.int (cnt R2 0 0 : Nat) t00, Value.int (cnt R2 0 1 : Nat) t01]), (r1, LCg.lst [Value.int (cnt R2 1 0 : Nat) t10, Value.int (cnt R2 1 1 : Nat) t11]), (dl, W.listOf ds.toArray e1), (fl, LCg.lst fv)] := off1_of fun r hr => (hap (T2.c2, T2.o2) (.tail _ (.tail _ (.tail _ (.tail _ (.head _))))) r hr).symm
            clear hap w1 w2 w3 w4 N14
            show wpAny _ _ (PySem.call _ [Value.int ((cnt R2 0 0 + cnt R2 1 0 : Nat) : Int) _, Value.int ((cnt R2 0 1 + cnt R2 1 1 : Nat) : Int) _]) _ _ _
            refine' Tell.use (rest := [(bk, W.listOf #[Value.int ((cnt R2 0 0 + cnt R2 1 0 : Nat) : Int) tb0, Value.int ((cnt R2 0 1 + cnt R2 1 1 : Nat) : Int) tb1] 0), (fr, W.listOf #[Value.int ((cnt R2 0 0 + cnt R2 0 1 : Nat) : Int) tf0, Value.int ((cnt R2 1 0 + cnt R2 1 1 : Nat) : Int) tf1] 0), (bo, LCg.lst [Value.ref r0, Value.ref r1]), (r0, LCg.lst [Value.int (cnt R2 0 0 : Nat) t00, Value.int (cnt R2 0 1 : Nat) t01]), (r1, LCg.lst [Value.int (cnt R2 1 0 : Nat) t10, Value.int (cnt R2 1 1 : Nat) t11]), (dl, W.listOf ds.toArray e1)]) (runs_t (T := T2) fact.back hT2) ?cB4 ?cH4 ?cF4 ?cN4 ?cX4 ?cT4 ?cA4 ?cf4 ?ck4 ?cs4 ?cr4 ?ca4 ?cP4 ?cd4 ?cu4 ?cret4
            case cB4 => exact B
            case cH4 => first | exact hH | assumption
            case cF4 => assumption
            case cN4 => assumption
            case cX4 => exact X
            case cT4 => first | exact T | assumption
            case cA4 => exact Around.frames_deeper B.stack
            case cf4 => exact rfl
            case ck4 => exact rfl
            case cs4 => walk_at "mine sub"
            case cr4 => walk_at "mine sub"
            case ca4 => walk_at "mine apart"
            case cP4 => exact fun g' st _ => ⟨CodeHd.keeps G1 (fun b o e => st b o e), CodeHd.keeps G2 (fun b o e => st b o e)⟩
            case cd4 => walk_at "mine room"
            case cu4 => walk_at "mine room"
            clear ac1 ac2
            rintro _ _ h' tk' ⟨vl, vv, ve, T3, rfl, hvv, hT3, ⟨w1, w2, w3, w4⟩, rfl⟩ F' N' hap
            simp only [Tabs.led, List.cons_append, List.nil_append] at N'
            have ac1 : LCg.Off1 T3.c1 [(bk, W.listOf #[Value.int ((cnt R2 0 0 + cnt R2 1 0 : Nat) : Int) tb0, Value.int ((cnt R2 0 1 + cnt R2 1 1 : Nat) : Int) tb1] 0), (fr, W.listOf #[Value.int ((cnt R2 0 0 + cnt R2 0 1 : Nat) : Int) tf0, Value.int ((cnt R2 1 0 + cnt R2 1 1 : Nat) : Int) tf1] 0), (bo, LCg.lst [Value.ref r0, Value.ref r1]), (r0, LCg.lst [Value.int (cnt R2 0 0 : Nat) t00, Value.int (cnt R2 0 1 : Nat) t01]), (r1, LCg.lst [Value.int (cnt R2 1 0 : Nat) t10, Value.int (cnt R2 1 1 : Nat) t11]), (dl, W.listOf ds.toArray e1)] := off1_of fun r hr => (hap (T3.c1, T3.o1) (.tail _ (.tail _ (.head _))) r hr).symm
            have ac2 : LCg.Off1 T3.c2 [(bk, W.listOf #[Value.int ((cnt R2 0 0 + cnt R2 1 0 : Nat) : Int) tb0, Value.int ((cnt R2 0 1 + cnt R2 1 1 : Nat) : Int) tb1] 0), (fr, W.listOf #[Value.int ((cnt R2 0 0 + cnt R2 0 1 : Nat) : Int) tf0, Value.int ((cnt R2 1 0 + cnt R2 1 1 : Nat) : Int) tf1] 0), (bo, LCg.lst [Value.ref r0, Value.ref r1]), (r0, LCg.lst [Value.int (cnt R2 0 0 : Nat) t00, Value.int (cnt R2 0 1 : Nat) t01]), (r1, LCg.lst [Value.int (cnt R2 1 0 : Nat) t10, Value.int (cnt R2 1 1 : Nat) t11]), (dl, W.listOf ds.toArray e1)] := off1_of fun r hr => (hap (T3.c2, T3.o2) (.tail _ (.tail _ (.tail _ (.tail _ (.head _))))) r hr).symm
            clear hap
            have hvl := hvv.length
            have hbl := fact.blen
            replace w1 := hid w1; replace w2 := hid w2; replace w3 := hid w3; replace w4 := hid w4
            k_steps
            rename _ ∧ _ => lal
            rename News _ _ _ _ => N16
            rename Fr _ _ _ _ => F16
            rename_i al h16
            have hn1 := hid hT3.n1; have hn2 := hid hT3.n2; have hn3 := hid hT3.n3; have hn4 := hid hT3.n4; have hn5 := hid hT3.n5
            have da1 : Hid (@Ne Nat al 37) := hid (by omega)
            have da2 : Hid (@Ne Nat al T3.c2) := hid (by omega)
            clear lal
            refine' Tell.use (rest := [(al, W.listOf (vv ++ [Value.int 1 tk']).toArray 0), (30, tabObj T3.p1), (T3.c1, T3.o1), (bk, W.listOf #[Value.int ((cnt R2 0 0 + cnt R2 1 0 : Nat) : Int) tb0, Value.int ((cnt R2 0 1 + cnt R2 1 1 : Nat) : Int) tb1] 0), (fr, W.listOf #[Value.int ((cnt R2 0 0 + cnt R2 0 1 : Nat) : Int) tf0, Value.int ((cnt R2 1 0 + cnt R2 1 1 : Nat) : Int) tf1] 0), (bo, LCg.lst [Value.ref r0, Value.ref r1]), (r0, LCg.lst [Value.int (cnt R2 0 0 : Nat) t00, Value.int (cnt R2 0 1 : Nat) t01]), (r1, LCg.lst [Value.int (cnt R2 1 0 : Nat) t10, Value.int (cnt R2 1 1 : Nat) t11]), (dl, W.listOf ds.toArray e1)]) (d2i_t (dl := al) (n := 1) (vs := vv ++ [Value.int 1 tk']) (ns := BB ++ [1]) (e := 0) (by decide) (ints_append hvv (.cons _ _ .nil)) ?figs1 ?len1 ?len2 hT3.t2 hT3.n5) ?cB5 ?cH5 ?cF5 ?cN5 ?cX5 ?cT5 ?cA5 ?cf5 ?ck5 ?cs5 ?cr5 ?ca5 ?cP5 ?cd5 ?cu5 ?cret5
            case cB5 => exact B
            case cH5 => first | exact hH | assumption
            case cF5 => assumption
            case cN5 => assumption
            case cX5 => exact X
            case cT5 => first | exact T | assumption
            case cA5 => exact Around.frames_deeper B.stack
            case cf5 => exact rfl
            case ck5 => exact rfl
            case cs5 => walk_at "mine sub"
            case cr5 => walk_at "mine sub"
            case ca5 => walk_at "mine apart"
            case cP5 => exact fun g' st hr => ⟨CodeHd.keeps G2 (fun b o e => st b o e), hr (al, _) (.head _)⟩
            case cd5 => walk_at "mine room"
            case cu5 => walk_at "mine room"
            case figs1 =>
              intro d hd9
              rcases List.mem_append.mp hd9 with h | h
              · exact fact.fig d h
              · rw [List.mem_singleton.mp h]; decide
            case len1 => rw [List.length_append]; show _ + 1 ≤ 64; omega
            case len2 => rw [List.length_append]; show (_ + 1) * 1 ≤ 200; omega
            rintro _ _ h' tk' ⟨tv, p9, c9, o9, rfl, ht9, hc9, rfl⟩ F' N' hap
            simp only [List.cons_append, List.nil_append] at N'
            have ac3 : LCg.Off1 c9 [(30, tabObj T3.p1), (T3.c1, T3.o1), (bk, W.listOf #[Value.int ((cnt R2 0 0 + cnt R2 1 0 : Nat) : Int) tb0, Value.int ((cnt R2 0 1 + cnt R2 1 1 : Nat) : Int) tb1] 0), (fr, W.listOf #[Value.int ((cnt R2 0 0 + cnt R2 0 1 : Nat) : Int) tf0, Value.int ((cnt R2 1 0 + cnt R2 1 1 : Nat) : Int) tf1] 0), (bo, LCg.lst [Value.ref r0, Value.ref r1]), (r0, LCg.lst [Value.int (cnt R2 0 0 : Nat) t00, Value.int (cnt R2 0 1 : Nat) t01]), (r1, LCg.lst [Value.int (cnt R2 1 0 : Nat) t10, Value.int (cnt R2 1 1 : Nat) t11]), (dl, W.listOf ds.toArray e1)] := off1_of fun r hr => (hap (c9, o9) (.tail _ (.head _)) r (.tail _ hr)).symm
            clear hap
            have hT4 : Tabs.Ok ⟨T3.p1, T3.c1, T3.o1, p9, c9, o9⟩ := ⟨hT3.t1, ht9, hT3.n1, hT3.n2, off1_l ac3 (.tail _ (.head _)), (off1_l ac3 (.head _)).symm, hc9⟩
            replace N' := News.sub N' (show ∀ q ∈ [(30, tabObj T3.p1), (T3.c1, T3.o1), (37, tabObj p9), (c9, o9), (bk, W.listOf #[Value.int ((cnt R2 0 0 + cnt R2 1 0 : Nat) : Int) tb0, Value.int ((cnt R2 0 1 + cnt R2 1 1 : Nat) : Int) tb1] 0), (fr, W.listOf #[Value.int ((cnt R2 0 0 + cnt R2 0 1 : Nat) : Int) tf0, Value.int ((cnt R2 1 0 + cnt R2 1 1 : Nat) : Int) tf1] 0), (bo, LCg.lst [Value.ref r0, Value.ref r1]), (r0, LCg.lst [Value.int (cnt R2 0 0 : Nat) t00, Value.int (cnt R2 0 1 : Nat) t01]), (r1, LCg.lst [Value.int (cnt R2 1 0 : Nat) t10, Value.int (cnt R2 1 1 : Nat) t11]), (dl, W.listOf ds.toArray e1)], q ∈ _ by walk_at "mine sub")
            have hlast := fact.last
            generalize valI 1 (BB ++ [1]) = q at *
            clear hfv hfl hfb
            obtain ⟨hq, hR1⟩ := last_getD hlast
            k_steps
            refine item_list_ints_neg (PySem.IsL.isList (n := e1) ((by assumption : News _ _ _ _).get (by k_mem))) hds (by decide) (by omega) (by decide) ?_
            intro t17
            rw [hq]
            k_steps
            refine PyProof.Rows.ne_int ?_
            rw [bne_self_eq_false]
            k_steps
            rename News _ _ _ _ => N18
            rename Fr _ _ _ _ => F18
            rename _ ∧ _ => ll
            rename_i te tk18 lf h18
            rw [hdl] at F18
            have hc00 := cnt_le R2 0 0 hRl; have hc01 := cnt_le R2 0 1 hRl; have hc10 := cnt_le R2 1 0 hRl; have hc11 := cnt_le R2 1 1 hRl
            have hll : LCg.Off1 lf [(30, tabObj T3.p1), (T3.c1, T3.o1), (37, tabObj p9), (c9, o9), (bk, W.listOf #[Value.int ((cnt R2 0 0 + cnt R2 1 0 : Nat) : Int) tb0, Value.int ((cnt R2 0 1 + cnt R2 1 1 : Nat) : Int) tb1] 0), (fr, W.listOf #[Value.int ((cnt R2 0 0 + cnt R2 0 1 : Nat) : Int) tf0, Value.int ((cnt R2 1 0 + cnt R2 1 1 : Nat) : Int) tf1] 0), (bo, LCg.lst [Value.ref r0, Value.ref r1]), (r0, LCg.lst [Value.int (cnt R2 0 0 : Nat) t00, Value.int (cnt R2 0 1 : Nat) t01]), (r1, LCg.lst [Value.int (cnt R2 1 0 : Nat) t10, Value.int (cnt R2 1 1 : Nat) t11])] := ⟨Nat.ne_of_lt ll.1, Nat.ne_of_lt ll.2.1, Nat.ne_of_lt ll.2.2.1, Nat.ne_of_lt ll.2.2.2.1, Nat.ne_of_lt ll.2.2.2.2.1, Nat.ne_of_lt ll.2.2.2.2.2.1, Nat.ne_of_lt ll.2.2.2.2.2.2.1, Nat.ne_of_lt ll.2.2.2.2.2.2.2.1, Nat.ne_of_lt ll.2.2.2.2.2.2.2.2.1, trivial⟩
            clear ll
            replace N18 := News.sub N18 (show ∀ q ∈ [(lf, W.listOf #[Value.int 0 tk18, Value.int 1 (tk18 + 1)] 0), (30, tabObj T3.p1), (T3.c1, T3.o1), (37, tabObj p9), (c9, o9), (bk, W.listOf #[Value.int ((cnt R2 0 0 + cnt R2 1 0 : Nat) : Int) tb0, Value.int ((cnt R2 0 1 + cnt R2 1 1 : Nat) : Int) tb1] 0), (fr, W.listOf #[Value.int ((cnt R2 0 0 + cnt R2 0 1 : Nat) : Int) tf0, Value.int ((cnt R2 1 0 + cnt R2 1 1 : Nat) : Int) tf1] 0), (bo, LCg.lst [Value.ref r0, Value.ref r1]), (r0, LCg.lst [Value.int (cnt R2 0 0 : Nat) t00, Value.int (cnt R2 0 1 : Nat) t01]), (r1, LCg.lst [Value.int (cnt R2 1 0 : Nat) t10, Value.int (cnt R2 1 1 : Nat) t11])], q ∈ _ by walk_at "mine sub")
            refine turnsL_by (l := lf) (vs := [Value.int 0 tk18, Value.int 1 (tk18 + 1)]) (e := 0) (σ := Tabs) (fun c => [("both", .ref bo), ("fronts", .ref fr), ("backs", .ref bk), ("every", .int (R2.length + 1) te)])
              (fun c => [(30, tabObj c.p1), (c.c1, c.o1), (37, tabObj c.p2), (c.c2, c.o2), (bk, W.listOf #[Value.int ((cnt R2 0 0 + cnt R2 1 0 : Nat) : Int) tb0, Value.int ((cnt R2 0 1 + cnt R2 1 1 : Nat) : Int) tb1] 0), (fr, W.listOf #[Value.int ((cnt R2 0 0 + cnt R2 0 1 : Nat) : Int) tf0, Value.int ((cnt R2 1 0 + cnt R2 1 1 : Nat) : Int) tf1] 0), (bo, LCg.lst [Value.ref r0, Value.ref r1]), (r0, LCg.lst [Value.int (cnt R2 0 0 : Nat) t00, Value.int (cnt R2 0 1 : Nat) t01]), (r1, LCg.lst [Value.int (cnt R2 1 0 : Nat) t10, Value.int (cnt R2 1 1 : Nat) t11])])
              (fun i c => c.Ok ∧ LCg.Off1 c.c1 [(lf, W.listOf #[Value.int 0 tk18, Value.int 1 (tk18 + 1)] 0), (bk, W.listOf #[Value.int ((cnt R2 0 0 + cnt R2 1 0 : Nat) : Int) tb0, Value.int ((cnt R2 0 1 + cnt R2 1 1 : Nat) : Int) tb1] 0), (fr, W.listOf #[Value.int ((cnt R2 0 0 + cnt R2 0 1 : Nat) : Int) tf0, Value.int ((cnt R2 1 0 + cnt R2 1 1 : Nat) : Int) tf1] 0), (bo, LCg.lst [Value.ref r0, Value.ref r1]), (r0, LCg.lst [Value.int (cnt R2 0 0 : Nat) t00, Value.int (cnt R2 0 1 : Nat) t01]), (r1, LCg.lst [Value.int (cnt R2 1 0 : Nat) t10, Value.int (cnt R2 1 1 : Nat) t11])] ∧ LCg.Off1 c.c2 [(lf, W.listOf #[Value.int 0 tk18, Value.int 1 (tk18 + 1)] 0), (bk, W.listOf #[Value.int ((cnt R2 0 0 + cnt R2 1 0 : Nat) : Int) tb0, Value.int ((cnt R2 0 1 + cnt R2 1 1 : Nat) : Int) tb1] 0), (fr, W.listOf #[Value.int ((cnt R2 0 0 + cnt R2 0 1 : Nat) : Int) tf0, Value.int ((cnt R2 1 0 + cnt R2 1 1 : Nat) : Int) tf1] 0), (bo, LCg.lst [Value.ref r0, Value.ref r1]), (r0, LCg.lst [Value.int (cnt R2 0 0 : Nat) t00, Value.int (cnt R2 0 1 : Nat) t01]), (r1, LCg.lst [Value.int (cnt R2 1 0 : Nat) t10, Value.int (cnt R2 1 1 : Nat) t11])])
              ⟨T3.p1, T3.c1, T3.o1, p9, c9, o9⟩ (fun _ _ => rfl) hH F18 N18 ?om ?os ?ov ⟨hT4, ⟨Ne.symm hll.2.1, ac1.1, ac1.2.1, ac1.2.2.1, ac1.2.2.2.1, ac1.2.2.2.2.1, trivial⟩, ⟨Ne.symm hll.2.2.2.1, ac3.2.2.1, ac3.2.2.2.1, ac3.2.2.2.2.1, ac3.2.2.2.2.2.1, ac3.2.2.2.2.2.2.1, trivial⟩⟩ ?ot ?od
            case om => exact .head _
            case os => walk_at "mine sub"
            case ov => walk_at "mine vars"
            case ot =>
              have hlf : LCg.Off1 lf [(bk, W.listOf #[Value.int ((cnt R2 0 0 + cnt R2 1 0 : Nat) : Int) tb0, Value.int ((cnt R2 0 1 + cnt R2 1 1 : Nat) : Int) tb1] 0), (fr, W.listOf #[Value.int ((cnt R2 0 0 + cnt R2 0 1 : Nat) : Int) tf0, Value.int ((cnt R2 1 0 + cnt R2 1 1 : Nat) : Int) tf1] 0), (bo, LCg.lst [Value.ref r0, Value.ref r1]), (r0, LCg.lst [Value.int (cnt R2 0 0 : Nat) t00, Value.int (cnt R2 0 1 : Nat) t01]), (r1, LCg.lst [Value.int (cnt R2 1 0 : Nat) t10, Value.int (cnt R2 1 1 : Nat) t11])] := hll.2.2.2.2
              have dl1 : Hid (@Ne Nat lf 30) := Ne.symm hll.1
              have dl2 : Hid (@Ne Nat lf 37) := Ne.symm hll.2.2.1
              clear F18 N18 ac1 ac2 ac3 hT4 hT3 ht9 hc9 hll hT2 hT0 hwv hvv
              clear hn1 hn2 hn3 hn4 hn5
              rintro I i T v it u h tk - hv ⟨i1, i2, i3⟩ hne F N
              try dsimp only at i1 i2 i3 hne F N
              replace hne := off1_of hne
              replace F : Fr g L h _ := F
              replace N : News g L h _ := N
              have hn1 := hid i1.n1; have hn2 := hid i1.n2; have hn3 := hid i1.n3; have hn4 := hid i1.n4; have hn5 := hid i1.n5
              obtain ⟨rfl, ti, rfl⟩ | ⟨rfl, ti, rfl⟩ : (i = 0 ∧ ∃ t, v = .int 0 t) ∨ (i = 1 ∧ ∃ t, v = .int 1 t) := by
                match i, hv with
                | 0, hv => exact .inl ⟨rfl, _, (Option.some.inj hv).symm⟩
                | 1, hv => exact .inr ⟨rfl, _, (Option.some.inj hv).symm⟩
              · skip
                k_steps
                rename News _ _ _ _ => N20
                rename Fr _ _ _ _ => F20
                rename _ ∧ _ => l20
                rename_i tf20 tk20 lg h20
                refine turnsL_by (l := lg) (vs := [Value.int 0 tk20, Value.int 1 (tk20 + 1)]) (e := 0) (σ := Tabs) (fun c => [("both", .ref bo), ("fronts", .ref fr), ("backs", .ref bk), ("every", .int (R2.length + 1) te), ("first", .int 0 tf20)])
                  (fun c => [(30, tabObj c.p1), (c.c1, c.o1), (37, tabObj c.p2), (c.c2, c.o2), (I, it), (lf, W.listOf #[Value.int 0 tk18, Value.int 1 (tk18 + 1)] 0), (bk, W.listOf #[Value.int ((cnt R2 0 0 + cnt R2 1 0 : Nat) : Int) tb0, Value.int ((cnt R2 0 1 + cnt R2 1 1 : Nat) : Int) tb1] 0), (fr, W.listOf #[Value.int ((cnt R2 0 0 + cnt R2 0 1 : Nat) : Int) tf0, Value.int ((cnt R2 1 0 + cnt R2 1 1 : Nat) : Int) tf1] 0), (bo, LCg.lst [Value.ref r0, Value.ref r1]), (r0, LCg.lst [Value.int (cnt R2 0 0 : Nat) t00, Value.int (cnt R2 0 1 : Nat) t01]), (r1, LCg.lst [Value.int (cnt R2 1 0 : Nat) t10, Value.int (cnt R2 1 1 : Nat) t11])])
                  (fun j c => c.Ok ∧ LCg.Off1 c.c1 [(lg, W.listOf #[Value.int 0 tk20, Value.int 1 (tk20 + 1)] 0), (I, it), (lf, W.listOf #[Value.int 0 tk18, Value.int 1 (tk18 + 1)] 0), (bk, W.listOf #[Value.int ((cnt R2 0 0 + cnt R2 1 0 : Nat) : Int) tb0, Value.int ((cnt R2 0 1 + cnt R2 1 1 : Nat) : Int) tb1] 0), (fr, W.listOf #[Value.int ((cnt R2 0 0 + cnt R2 0 1 : Nat) : Int) tf0, Value.int ((cnt R2 1 0 + cnt R2 1 1 : Nat) : Int) tf1] 0), (bo, LCg.lst [Value.ref r0, Value.ref r1]), (r0, LCg.lst [Value.int (cnt R2 0 0 : Nat) t00, Value.int (cnt R2 0 1 : Nat) t01]), (r1, LCg.lst [Value.int (cnt R2 1 0 : Nat) t10, Value.int (cnt R2 1 1 : Nat) t11])] ∧ LCg.Off1 c.c2 [(lg, W.listOf #[Value.int 0 tk20, Value.int 1 (tk20 + 1)] 0), (I, it), (lf, W.listOf #[Value.int 0 tk18, Value.int 1 (tk18 + 1)] 0), (bk, W.listOf #[Value.int ((cnt R2 0 0 + cnt R2 1 0 : Nat) : Int) tb0, Value.int ((cnt R2 0 1 + cnt R2 1 1 : Nat) : Int) tb1] 0), (fr, W.listOf #[Value.int ((cnt R2 0 0 + cnt R2 0 1 : Nat) : Int) tf0, Value.int ((cnt R2 1 0 + cnt R2 1 1 : Nat) : Int) tf1] 0), (bo, LCg.lst [Value.ref r0, Value.ref r1]), (r0, LCg.lst [Value.int (cnt R2 0 0 : Nat) t00, Value.int (cnt R2 0 1 : Nat) t01]), (r1, LCg.lst [Value.int (cnt R2 1 0 : Nat) t10, Value.int (cnt R2 1 1 : Nat) t11])])
                  T (fun _ _ => rfl) hH F20 N20 ?im0 ?is0 ?iv0 ⟨i1, ⟨Nat.ne_of_gt l20.2.2.2.1, Ne.symm hne.2.2.1, i2⟩, ⟨Nat.ne_of_gt l20.2.2.2.2.2.1, Ne.symm hne.2.2.2.2.1, i3⟩⟩ ?it0 ?id0
                case im0 => exact .head _
                case is0 => walk_at "mine sub"
                case iv0 => walk_at "mine vars"
                case it0 =>
                  have dg1 : Hid (@Ne Nat lg 30) := Nat.ne_of_gt l20.2.2.1
                  have dg2 : Hid (@Ne Nat lg 37) := Nat.ne_of_gt l20.2.2.2.2.1
                  clear F20 N20 l20 i1 i2 i3
                  clear hn1 hn2 hn3 hn4 hn5
                  rintro I2 j U v it2 uu h tk - hv2 ⟨k1, k2, k3⟩ hne2 F N
                  try dsimp only at k1 k2 k3 hne2 F N
                  replace hne2 := off1_of hne2
                  replace F : Fr g L h _ := F
                  replace N : News g L h _ := N
                  have hn1 := hid k1.n1; have hn2 := hid k1.n2; have hn3 := hid k1.n3; have hn4 := hid k1.n4; have hn5 := hid k1.n5
                  obtain ⟨rfl, tj, rfl⟩ | ⟨rfl, tj, rfl⟩ : (j = 0 ∧ ∃ t, v = .int 0 t) ∨ (j = 1 ∧ ∃ t, v = .int 1 t) := by
                    match j, hv2 with
                    | 0, hv => exact .inl ⟨rfl, _, (Option.some.inj hv).symm⟩
                    | 1, hv => exact .inr ⟨rfl, _, (Option.some.inj hv).symm⟩
                  · skip
                    k_steps
                    rename News _ _ _ _ => N21
                    rename Fr _ _ _ _ => F21
                    rename _ ∧ _ => l21
                    rename_i du h21 _ _ _
                    obtain ⟨tx, ty, N22⟩ : ∃ t u, News g L _ ((du, pairO (cnt R2 0 0 : Nat) 1 t u) :: _) := ⟨_, _, N21⟩
                    clear N21
                    show wpAny _ _ (PySem.call _ [Value.int (((1 + (cnt R2 0 0 + cnt R2 0 1)) * (1 + (cnt R2 0 0 + cnt R2 1 0)) : Nat) : Int) _, Value.int ((R2.length + 1 : Nat) : Int) _]) _ _ _
                    refine' Tell.use (rest := [(du, pairO (cnt R2 0 0 : Nat) 1 tx ty), (I2, it2), (lg, W.listOf #[Value.int 0 tk20, Value.int 1 (tk20 + 1)] 0), (I, it), (lf, W.listOf #[Value.int 0 tk18, Value.int 1 (tk18 + 1)] 0), (bk, W.listOf #[Value.int ((cnt R2 0 0 + cnt R2 1 0 : Nat) : Int) tb0, Value.int ((cnt R2 0 1 + cnt R2 1 1 : Nat) : Int) tb1] 0), (fr, W.listOf #[Value.int ((cnt R2 0 0 + cnt R2 0 1 : Nat) : Int) tf0, Value.int ((cnt R2 1 0 + cnt R2 1 1 : Nat) : Int) tf1] 0), (bo, LCg.lst [Value.ref r0, Value.ref r1]), (r0, LCg.lst [Value.int (cnt R2 0 0 : Nat) t00, Value.int (cnt R2 0 1 : Nat) t01]), (r1, LCg.lst [Value.int (cnt R2 1 0 : Nat) t10, Value.int (cnt R2 1 1 : Nat) t11])]) (intdiv_t (a := (1 + (cnt R2 0 0 + cnt R2 0 1)) * (1 + (cnt R2 0 0 + cnt R2 1 0))) (b := R2.length + 1) (T := U) (due_lt (by omega) (by omega)) (by omega) (by omega) k1) ?cB6 ?cH6 ?cF6 ?cN6 ?cX6 ?cT6 ?cA6 ?cf6 ?ck6 ?cs6 ?cr6 ?ca6 ?cP6 ?cd6 ?cu6 ?cret6
                    case cB6 => exact B
                    case cH6 => first | exact hH | assumption
                    case cF6 => assumption
                    case cN6 => assumption
                    case cX6 => exact X
                    case cT6 => first | exact T | assumption
                    case cA6 => exact Around.frames_deeper B.stack
                    case cf6 => exact rfl
                    case ck6 => exact rfl
                    case cs6 => walk_at "mine sub"
                    case cr6 => walk_at "mine sub"
                    case ca6 => walk_at "mine apart"
                    case cP6 => exact fun g' st _ => ⟨CodeHd.keeps G1 (fun b o e => st b o e), CodeHd.keeps G2 (fun b o e => st b o e)⟩
                    case cd6 => walk_at "mine room"
                    case cu6 => walk_at "mine room"
                    rintro _ _ h' tk' ⟨D9, x1, x2, T9, rfl, hT9, -, rfl⟩ F' N' hap
                    simp only [Tabs.led, List.cons_append, List.nil_append] at N'
                    have a1 : LCg.Off1 T9.c1 [(du, pairO (cnt R2 0 0 : Nat) 1 tx ty), (I2, it2), (lg, W.listOf #[Value.int 0 tk20, Value.int 1 (tk20 + 1)] 0), (I, it), (lf, W.listOf #[Value.int 0 tk18, Value.int 1 (tk18 + 1)] 0), (bk, W.listOf #[Value.int ((cnt R2 0 0 + cnt R2 1 0 : Nat) : Int) tb0, Value.int ((cnt R2 0 1 + cnt R2 1 1 : Nat) : Int) tb1] 0), (fr, W.listOf #[Value.int ((cnt R2 0 0 + cnt R2 0 1 : Nat) : Int) tf0, Value.int ((cnt R2 1 0 + cnt R2 1 1 : Nat) : Int) tf1] 0), (bo, LCg.lst [Value.ref r0, Value.ref r1]), (r0, LCg.lst [Value.int (cnt R2 0 0 : Nat) t00, Value.int (cnt R2 0 1 : Nat) t01]), (r1, LCg.lst [Value.int (cnt R2 1 0 : Nat) t10, Value.int (cnt R2 1 1 : Nat) t11])] := off1_of fun r hr => (hap (T9.c1, T9.o1) (.tail _ (.tail _ (.head _))) r hr).symm
                    have a2 : LCg.Off1 T9.c2 [(du, pairO (cnt R2 0 0 : Nat) 1 tx ty), (I2, it2), (lg, W.listOf #[Value.int 0 tk20, Value.int 1 (tk20 + 1)] 0), (I, it), (lf, W.listOf #[Value.int 0 tk18, Value.int 1 (tk18 + 1)] 0), (bk, W.listOf #[Value.int ((cnt R2 0 0 + cnt R2 1 0 : Nat) : Int) tb0, Value.int ((cnt R2 0 1 + cnt R2 1 1 : Nat) : Int) tb1] 0), (fr, W.listOf #[Value.int ((cnt R2 0 0 + cnt R2 0 1 : Nat) : Int) tf0, Value.int ((cnt R2 1 0 + cnt R2 1 1 : Nat) : Int) tf1] 0), (bo, LCg.lst [Value.ref r0, Value.ref r1]), (r0, LCg.lst [Value.int (cnt R2 0 0 : Nat) t00, Value.int (cnt R2 0 1 : Nat) t01]), (r1, LCg.lst [Value.int (cnt R2 1 0 : Nat) t10, Value.int (cnt R2 1 1 : Nat) t11])] := off1_of fun r hr => (hap (T9.c2, T9.o2) (.tail _ (.tail _ (.tail _ (.tail _ (.head _))))) r hr).symm
                    clear hap l21 k2 k3
                    have hdue := fact.due 0 (by decide) 0 (by decide)
                    k_steps
                    refine ne_pairs (a := D9) (b := du) N' (.head _) (by walk_at "mine mem") (by walk_at "mine room") (by rw [hdue.1]) (by rw [hdue.2]; rfl) ?_
                    k_steps
                    refine FPost.next T9 (by k_asm) (by k_asm) (by walk_at "mine sub") (by walk_at "mine sub") (List.forall_mem_cons.mpr ⟨hne2.2.1, List.forall_mem_cons.mpr ⟨Ne.symm a1.2.1, List.forall_mem_cons.mpr ⟨hne2.2.2.2.1, List.forall_mem_cons.mpr ⟨Ne.symm a2.2.1, off1_all hne2.2.2.2.2.2⟩⟩⟩⟩) (by walk_at "mine vars") ⟨hT9, a1.2.2, a2.2.2⟩
                  · skip
                    k_steps
                    rename News _ _ _ _ => N21
                    rename Fr _ _ _ _ => F21
                    rename _ ∧ _ => l21
                    rename_i du h21 _ _ _
                    obtain ⟨tx, ty, N22⟩ : ∃ t u, News g L _ ((du, pairO (cnt R2 0 1 : Nat) ((R2.length : Int) + 1 - 1) t u) :: _) := ⟨_, _, N21⟩
                    clear N21
                    show wpAny _ _ (PySem.call _ [Value.int (((1 + (cnt R2 0 0 + cnt R2 0 1)) * (1 + (cnt R2 0 1 + cnt R2 1 1)) : Nat) : Int) _, Value.int ((R2.length + 1 : Nat) : Int) _]) _ _ _
                    refine' Tell.use (rest := [(du, pairO (cnt R2 0 1 : Nat) ((R2.length : Int) + 1 - 1) tx ty), (I2, it2), (lg, W.listOf #[Value.int 0 tk20, Value.int 1 (tk20 + 1)] 0), (I, it), (lf, W.listOf #[Value.int 0 tk18, Value.int 1 (tk18 + 1)] 0), (bk, W.listOf #[Value.int ((cnt R2 0 0 + cnt R2 1 0 : Nat) : Int) tb0, Value.int ((cnt R2 0 1 + cnt R2 1 1 : Nat) : Int) tb1] 0), (fr, W.listOf #[Value.int ((cnt R2 0 0 + cnt R2 0 1 : Nat) : Int) tf0, Value.int ((cnt R2 1 0 + cnt R2 1 1 : Nat) : Int) tf1] 0), (bo, LCg.lst [Value.ref r0, Value.ref r1]), (r0, LCg.lst [Value.int (cnt R2 0 0 : Nat) t00, Value.int (cnt R2 0 1 : Nat) t01]), (r1, LCg.lst [Value.int (cnt R2 1 0 : Nat) t10, Value.int (cnt R2 1 1 : Nat) t11])]) (intdiv_t (a := (1 + (cnt R2 0 0 + cnt R2 0 1)) * (1 + (cnt R2 0 1 + cnt R2 1 1))) (b := R2.length + 1) (T := U) (due_lt (by omega) (by omega)) (by omega) (by omega) k1) ?cB7 ?cH7 ?cF7 ?cN7 ?cX7 ?cT7 ?cA7 ?cf7 ?ck7 ?cs7 ?cr7 ?ca7 ?cP7 ?cd7 ?cu7 ?cret7
                    case cB7 => exact B
                    case cH7 => first | exact hH | assumption
                    case cF7 => assumption
                    case cN7 => assumption
                    case cX7 => exact X
                    case cT7 => first | exact T | assumption
                    case cA7 => exact Around.frames_deeper B.stack
                    case cf7 => exact rfl
                    case ck7 => exact rfl
                    case cs7 => walk_at "mine sub"
                    case cr7 => walk_at "mine sub"
                    case ca7 => walk_at "mine apart"
                    case cP7 => exact fun g' st _ => ⟨CodeHd.keeps G1 (fun b o e => st b o e), CodeHd.keeps G2 (fun b o e => st b o e)⟩
                    case cd7 => walk_at "mine room"
                    case cu7 => walk_at "mine room"
                    rintro _ _ h' tk' ⟨D9, x1, x2, T9, rfl, hT9, -, rfl⟩ F' N' hap
                    simp only [Tabs.led, List.cons_append, List.nil_append] at N'
                    have a1 : LCg.Off1 T9.c1 [(du, pairO (cnt R2 0 1 : Nat) ((R2.length : Int) + 1 - 1) tx ty), (I2, it2), (lg, W.listOf #[Value.int 0 tk20, Value.int 1 (tk20 + 1)] 0), (I, it), (lf, W.listOf #[Value.int 0 tk18, Value.int 1 (tk18 + 1)] 0), (bk, W.listOf #[Value.int ((cnt R2 0 0 + cnt R2 1 0 : Nat) : Int) tb0, Value.int ((cnt R2 0 1 + cnt R2 1 1 : Nat) : Int) tb1] 0), (fr, W.listOf #[Value.int ((cnt R2 0 0 + cnt R2 0 1 : Nat) : Int) tf0, Value.int ((cnt R2 1 0 + cnt R2 1 1 : Nat) : Int) tf1] 0), (bo, LCg.lst [Value.ref r0, Value.ref r1]), (r0, LCg.lst [Value.int (cnt R2 0 0 : Nat) t00, Value.int (cnt R2 0 1 : Nat) t01]), (r1, LCg.lst [Value.int (cnt R2 1 0 : Nat) t10, Value.int (cnt R2 1 1 : Nat) t11])] := off1_of fun r hr => (hap (T9.c1, T9.o1) (.tail _ (.tail _ (.head _))) r hr).symm
                    have a2 : LCg.Off1 T9.c2 [(du, pairO (cnt R2 0 1 : Nat) ((R2.length : Int) + 1 - 1) tx ty), (I2, it2), (lg, W.listOf #[Value.int 0 tk20, Value.int 1 (tk20 + 1)] 0), (I, it), (lf, W.listOf #[Value.int 0 tk18, Value.int 1 (tk18 + 1)] 0), (bk, W.listOf #[Value.int ((cnt R2 0 0 + cnt R2 1 0 : Nat) : Int) tb0, Value.int ((cnt R2 0 1 + cnt R2 1 1 : Nat) : Int) tb1] 0), (fr, W.listOf #[Value.int ((cnt R2 0 0 + cnt R2 0 1 : Nat) : Int) tf0, Value.int ((cnt R2 1 0 + cnt R2 1 1 : Nat) : Int) tf1] 0), (bo, LCg.lst [Value.ref r0, Value.ref r1]), (r0, LCg.lst [Value.int (cnt R2 0 0 : Nat) t00, Value.int (cnt R2 0 1 : Nat) t01]), (r1, LCg.lst [Value.int (cnt R2 1 0 : Nat) t10, Value.int (cnt R2 1 1 : Nat) t11])] := off1_of fun r hr => (hap (T9.c2, T9.o2) (.tail _ (.tail _ (.tail _ (.tail _ (.head _))))) r hr).symm
                    clear hap l21 k2 k3
                    have hdue := fact.due 0 (by decide) 1 (by decide)
                    k_steps
                    refine ne_pairs (a := D9) (b := du) N' (.head _) (by walk_at "mine mem") (by walk_at "mine room") (by rw [hdue.1]) (by rw [hdue.2]; show (R2.length : Int) = (R2.length : Int) + 1 - 1; omega) ?_
                    k_steps
                    refine FPost.next T9 (by k_asm) (by k_asm) (by walk_at "mine sub") (by walk_at "mine sub") (List.forall_mem_cons.mpr ⟨hne2.2.1, List.forall_mem_cons.mpr ⟨Ne.symm a1.2.1, List.forall_mem_cons.mpr ⟨hne2.2.2.2.1, List.forall_mem_cons.mpr ⟨Ne.symm a2.2.1, off1_all hne2.2.2.2.2.2⟩⟩⟩⟩) (by walk_at "mine vars") ⟨hT9, a1.2.2, a2.2.2⟩
                case id0 =>
                  clear F20 N20 l20 i1 i2 i3
                  clear hn1 hn2 hn3 hn4 hn5
                  rintro U uu h tk ⟨k1, k2, k3⟩ F N
                  try dsimp only at k1 k2 k3 F N
                  replace F : Fr g L h _ := F
                  replace N : News g L h _ := N
                  k_steps
                  refine FPost.next U F N (by walk_at "mine sub") (by walk_at "mine sub") (List.forall_mem_cons.mpr ⟨hne.2.1, List.forall_mem_cons.mpr ⟨Ne.symm k2.2.1, List.forall_mem_cons.mpr ⟨hne.2.2.2.1, List.forall_mem_cons.mpr ⟨Ne.symm k3.2.1, off1_all hne.2.2.2.2.2⟩⟩⟩⟩) (by walk_at "mine vars") ⟨k1, k2.2.2, k3.2.2⟩
              · skip
                k_steps
                rename News _ _ _ _ => N20
                rename Fr _ _ _ _ => F20
                rename _ ∧ _ => l20
                rename_i tf20 tk20 lg h20
                refine turnsL_by (l := lg) (vs := [Value.int 0 tk20, Value.int 1 (tk20 + 1)]) (e := 0) (σ := Tabs) (fun c => [("both", .ref bo), ("fronts", .ref fr), ("backs", .ref bk), ("every", .int (R2.length + 1) te), ("first", .int 1 tf20)])
                  (fun c => [(30, tabObj c.p1), (c.c1, c.o1), (37, tabObj c.p2), (c.c2, c.o2), (I, it), (lf, W.listOf #[Value.int 0 tk18, Value.int 1 (tk18 + 1)] 0), (bk, W.listOf #[Value.int ((cnt R2 0 0 + cnt R2 1 0 : Nat) : Int) tb0, Value.int ((cnt R2 0 1 + cnt R2 1 1 : Nat) : Int) tb1] 0), (fr, W.listOf #[Value.int ((cnt R2 0 0 + cnt R2 0 1 : Nat) : Int) tf0, Value.int ((cnt R2 1 0 + cnt R2 1 1 : Nat) : Int) tf1] 0), (bo, LCg.lst [Value.ref r0, Value.ref r1]), (r0, LCg.lst [Value.int (cnt R2 0 0 : Nat) t00, Value.int (cnt R2 0 1 : Nat) t01]), (r1, LCg.lst [Value.int (cnt R2 1 0 : Nat) t10, Value.int (cnt R2 1 1 : Nat) t11])])
                  (fun j c => c.Ok ∧ LCg.Off1 c.c1 [(lg, W.listOf #[Value.int 0 tk20, Value.int 1 (tk20 + 1)] 0), (I, it), (lf, W.listOf #[Value.int 0 tk18, Value.int 1 (tk18 + 1)] 0), (bk, W.listOf #[Value.int ((cnt R2 0 0 + cnt R2 1 0 : Nat) : Int) tb0, Value.int ((cnt R2 0 1 + cnt R2 1 1 : Nat) : Int) tb1] 0), (fr, W.listOf #[Value.int ((cnt R2 0 0 + cnt R2 0 1 : Nat) : Int) tf0, Value.int ((cnt R2 1 0 + cnt R2 1 1 : Nat) : Int) tf1] 0), (bo, LCg.lst [Value.ref r0, Value.ref r1]), (r0, LCg.lst [Value.int (cnt R2 0 0 : Nat) t00, Value.int (cnt R2 0 1 : Nat) t01]), (r1, LCg.lst [Value.int (cnt R2 1 0 : Nat) t10, Value.int (cnt R2 1 1 : Nat) t11])] ∧ LCg.Off1 c.c2 [(lg, W.listOf #[Value.int 0 tk20, Value.int 1 (tk20 + 1)] 0), (I, it), (lf, W.listOf #[Value.int 0 tk18, Value.int 1 (tk18 + 1)] 0), (bk, W.listOf #[Value.int ((cnt R2 0 0 + cnt R2 1 0 : Nat) : Int) tb0, Value.int ((cnt R2 0 1 + cnt R2 1 1 : Nat) : Int) tb1] 0), (fr, W.listOf #[Value.int ((cnt R2 0 0 + cnt R2 0 1 : Nat) : Int) tf0, Value.int ((cnt R2 1 0 + cnt R2 1 1 : Nat) : Int) tf1] 0), (bo, LCg.lst [Value.ref r0, Value.ref r1]), (r0, LCg.lst [Value.int (cnt R2 0 0 : Nat) t00, Value.int (cnt R2 0 1 : Nat) t01]), (r1, LCg.lst [Value.int (cnt R2 1 0 : Nat) t10, Value.int (cnt R2 1 1 : Nat) t11])])
                  T (fun _ _ => rfl) hH F20 N20 ?im1 ?is1 ?iv1 ⟨i1, ⟨Nat.ne_of_gt l20.2.2.2.1, Ne.symm hne.2.2.1, i2⟩, ⟨Nat.ne_of_gt l20.2.2.2.2.2.1, Ne.symm hne.2.2.2.2.1, i3⟩⟩ ?it1 ?id1
                case im1 => exact .head _
                case is1 => walk_at "mine sub"
                case iv1 => walk_at "mine vars"
                case it1 =>
                  have dg1 : Hid (@Ne Nat lg 30) := Nat.ne_of_gt l20.2.2.1
                  have dg2 : Hid (@Ne Nat lg 37) := Nat.ne_of_gt l20.2.2.2.2.1
                  clear F20 N20 l20 i1 i2 i3
                  clear hn1 hn2 hn3 hn4 hn5
                  rintro I2 j U v it2 uu h tk - hv2 ⟨k1, k2, k3⟩ hne2 F N
                  try dsimp only at k1 k2 k3 hne2 F N
                  replace hne2 := off1_of hne2
                  replace F : Fr g L h _ := F
                  replace N : News g L h _ := N
                  have hn1 := hid k1.n1; have hn2 := hid k1.n2; have hn3 := hid k1.n3; have hn4 := hid k1.n4; have hn5 := hid k1.n5
                  obtain ⟨rfl, tj, rfl⟩ | ⟨rfl, tj, rfl⟩ : (j = 0 ∧ ∃ t, v = .int 0 t) ∨ (j = 1 ∧ ∃ t, v = .int 1 t) := by
                    match j, hv2 with
                    | 0, hv => exact .inl ⟨rfl, _, (Option.some.inj hv).symm⟩
                    | 1, hv => exact .inr ⟨rfl, _, (Option.some.inj hv).symm⟩
                  · skip
                    k_steps
                    rename News _ _ _ _ => N21
                    rename Fr _ _ _ _ => F21
                    rename _ ∧ _ => l21
                    rename_i du h21 _ _ _
                    obtain ⟨tx, ty, N22⟩ : ∃ t u, News g L _ ((du, pairO (cnt R2 1 0 : Nat) ((R2.length : Int) + 1 - 1) t u) :: _) := ⟨_, _, N21⟩
                    clear N21
                    show wpAny _ _ (PySem.call _ [Value.int (((1 + (cnt R2 1 0 + cnt R2 1 1)) * (1 + (cnt R2 0 0 + cnt R2 1 0)) : Nat) : Int) _, Value.int ((R2.length + 1 : Nat) : Int) _]) _ _ _
                    refine' Tell.use (rest := [(du, pairO (cnt R2 1 0 : Nat) ((R2.length : Int) + 1 - 1) tx ty), (I2, it2), (lg, W.listOf #[Value.int 0 tk20, Value.int 1 (tk20 + 1)] 0), (I, it), (lf, W.listOf #[Value.int 0 tk18, Value.int 1 (tk18 + 1)] 0), (bk, W.listOf #[Value.int ((cnt R2 0 0 + cnt R2 1 0 : Nat) : Int) tb0, Value.int ((cnt R2 0 1 + cnt R2 1 1 : Nat) : Int) tb1] 0), (fr, W.listOf #[Value.int ((cnt R2 0 0 + cnt R2 0 1 : Nat) : Int) tf0, Value.int ((cnt R2 1 0 + cnt R2 1 1 : Nat) : Int) tf1] 0), (bo, LCg.lst [Value.ref r0, Value.ref r1]), (r0, LCg.lst [Value.int (cnt R2 0 0 : Nat) t00, Value.int (cnt R2 0 1 : Nat) t01]), (r1, LCg.lst [Value.int (cnt R2 1 0 : Nat) t10, Value.int (cnt R2 1 1 : Nat) t11])]) (intdiv_t (a := (1 + (cnt R2 1 0 + cnt R2 1 1)) * (1 + (cnt R2 0 0 + cnt R2 1 0))) (b := R2.length + 1) (T := U) (due_lt (by omega) (by omega)) (by omega) (by omega) k1) ?cB8 ?cH8 ?cF8 ?cN8 ?cX8 ?cT8 ?cA8 ?cf8 ?ck8 ?cs8 ?cr8 ?ca8 ?cP8 ?cd8 ?cu8 ?cret8
                    case cB8 => exact B
                    case cH8 => first | exact hH | assumption
                    case cF8 => assumption
                    case cN8 => assumption
                    case cX8 => exact X
                    case cT8 => first | exact T | assumption
                    case cA8 => exact Around.frames_deeper B.stack
                    case cf8 => exact rfl
                    case ck8 => exact rfl
                    case cs8 => walk_at "mine sub"
                    case cr8 => walk_at "mine sub"
                    case ca8 => walk_at "mine apart"
                    case cP8 => exact fun g' st _ => ⟨CodeHd.keeps G1 (fun b o e => st b o e), CodeHd.keeps G2 (fun b o e => st b o e)⟩
                    case cd8 => walk_at "mine room"
                    case cu8 => walk_at "mine room"
                    rintro _ _ h' tk' ⟨D9, x1, x2, T9, rfl, hT9, -, rfl⟩ F' N' hap
                    simp only [Tabs.led, List.cons_append, List.nil_append] at N'
                    have a1 : LCg.Off1 T9.c1 [(du, pairO (cnt R2 1 0 : Nat) ((R2.length : Int) + 1 - 1) tx ty), (I2, it2), (lg, W.listOf #[Value.int 0 tk20, Value.int 1 (tk20 + 1)] 0), (I, it), (lf, W.listOf #[Value.int 0 tk18, Value.int 1 (tk18 + 1)] 0), (bk, W.listOf #[Value.int ((cnt R2 0 0 + cnt R2 1 0 : Nat) : Int) tb0, Value.int ((cnt R2 0 1 + cnt R2 1 1 : Nat) : Int) tb1] 0), (fr, W.listOf #[Value.int ((cnt R2 0 0 + cnt R2 0 1 : Nat) : Int) tf0, Value.int ((cnt R2 1 0 + cnt R2 1 1 : Nat) : Int) tf1] 0), (bo, LCg.lst [Value.ref r0, Value.ref r1]), (r0, LCg.lst [Value.int (cnt R2 0 0 : Nat) t00, Value.int (cnt R2 0 1 : Nat) t01]), (r1, LCg.lst [Value.int (cnt R2 1 0 : Nat) t10, Value.int (cnt R2 1 1 : Nat) t11])] := off1_of fun r hr => (hap (T9.c1, T9.o1) (.tail _ (.tail _ (.head _))) r hr).symm
                    have a2 : LCg.Off1 T9.c2 [(du, pairO (cnt R2 1 0 : Nat) ((R2.length : Int) + 1 - 1) tx ty), (I2, it2), (lg, W.listOf #[Value.int 0 tk20, Value.int 1 (tk20 + 1)] 0), (I, it), (lf, W.listOf #[Value.int 0 tk18, Value.int 1 (tk18 + 1)] 0), (bk, W.listOf #[Value.int ((cnt R2 0 0 + cnt R2 1 0 : Nat) : Int) tb0, Value.int ((cnt R2 0 1 + cnt R2 1 1 : Nat) : Int) tb1] 0), (fr, W.listOf #[Value.int ((cnt R2 0 0 + cnt R2 0 1 : Nat) : Int) tf0, Value.int ((cnt R2 1 0 + cnt R2 1 1 : Nat) : Int) tf1] 0), (bo, LCg.lst [Value.ref r0, Value.ref r1]), (r0, LCg.lst [Value.int (cnt R2 0 0 : Nat) t00, Value.int (cnt R2 0 1 : Nat) t01]), (r1, LCg.lst [Value.int (cnt R2 1 0 : Nat) t10, Value.int (cnt R2 1 1 : Nat) t11])] := off1_of fun r hr => (hap (T9.c2, T9.o2) (.tail _ (.tail _ (.tail _ (.tail _ (.head _))))) r hr).symm
                    clear hap l21 k2 k3
                    have hdue := fact.due 1 (by decide) 0 (by decide)
                    k_steps
                    refine ne_pairs (a := D9) (b := du) N' (.head _) (by walk_at "mine mem") (by walk_at "mine room") (by rw [hdue.1]) (by rw [hdue.2]; show (R2.length : Int) = (R2.length : Int) + 1 - 1; omega) ?_
                    k_steps
                    refine FPost.next T9 (by k_asm) (by k_asm) (by walk_at "mine sub") (by walk_at "mine sub") (List.forall_mem_cons.mpr ⟨hne2.2.1, List.forall_mem_cons.mpr ⟨Ne.symm a1.2.1, List.forall_mem_cons.mpr ⟨hne2.2.2.2.1, List.forall_mem_cons.mpr ⟨Ne.symm a2.2.1, off1_all hne2.2.2.2.2.2⟩⟩⟩⟩) (by walk_at "mine vars") ⟨hT9, a1.2.2, a2.2.2⟩
                  · skip
                    k_steps
                    rename News _ _ _ _ => N21
                    rename Fr _ _ _ _ => F21
                    rename _ ∧ _ => l21
                    rename_i du h21 _ _ _
                    obtain ⟨tx, ty, N22⟩ : ∃ t u, News g L _ ((du, pairO (cnt R2 1 1 : Nat) 1 t u) :: _) := ⟨_, _, N21⟩
                    clear N21
                    show wpAny _ _ (PySem.call _ [Value.int (((1 + (cnt R2 1 0 + cnt R2 1 1)) * (1 + (cnt R2 0 1 + cnt R2 1 1)) : Nat) : Int) _, Value.int ((R2.length + 1 : Nat) : Int) _]) _ _ _
                    refine' Tell.use (rest := [(du, pairO (cnt R2 1 1 : Nat) 1 tx ty), (I2, it2), (lg, W.listOf #[Value.int 0 tk20, Value.int 1 (tk20 + 1)] 0), (I, it), (lf, W.listOf #[Value.int 0 tk18, Value.int 1 (tk18 + 1)] 0), (bk, W.listOf #[Value.int ((cnt R2 0 0 + cnt R2 1 0 : Nat) : Int) tb0, Value.int ((cnt R2 0 1 + cnt R2 1 1 : Nat) : Int) tb1] 0), (fr, W.listOf #[Value.int ((cnt R2 0 0 + cnt R2 0 1 : Nat) : Int) tf0, Value.int ((cnt R2 1 0 + cnt R2 1 1 : Nat) : Int) tf1] 0), (bo, LCg.lst [Value.ref r0, Value.ref r1]), (r0, LCg.lst [Value.int (cnt R2 0 0 : Nat) t00, Value.int (cnt R2 0 1 : Nat) t01]), (r1, LCg.lst [Value.int (cnt R2 1 0 : Nat) t10, Value.int (cnt R2 1 1 : Nat) t11])]) (intdiv_t (a := (1 + (cnt R2 1 0 + cnt R2 1 1)) * (1 + (cnt R2 0 1 + cnt R2 1 1))) (b := R2.length + 1) (T := U) (due_lt (by omega) (by omega)) (by omega) (by omega) k1) ?cB9 ?cH9 ?cF9 ?cN9 ?cX9 ?cT9 ?cA9 ?cf9 ?ck9 ?cs9 ?cr9 ?ca9 ?cP9 ?cd9 ?cu9 ?cret9
                    case cB9 => exact B
                    case cH9 => first | exact hH | assumption
                    case cF9 => assumption
                    case cN9 => assumption
                    case cX9 => exact X
                    case cT9 => first | exact T | assumption
                    case cA9 => exact Around.frames_deeper B.stack
                    case cf9 => exact rfl
                    case ck9 => exact rfl
                    case cs9 => walk_at "mine sub"
                    case cr9 => walk_at "mine sub"
                    case ca9 => walk_at "mine apart"
                    case cP9 => exact fun g' st _ => ⟨CodeHd.keeps G1 (fun b o e => st b o e), CodeHd.keeps G2 (fun b o e => st b o e)⟩
                    case cd9 => walk_at "mine room"
                    case cu9 => walk_at "mine room"
                    rintro _ _ h' tk' ⟨D9, x1, x2, T9, rfl, hT9, -, rfl⟩ F' N' hap
                    simp only [Tabs.led, List.cons_append, List.nil_append] at N'
                    have a1 : LCg.Off1 T9.c1 [(du, pairO (cnt R2 1 1 : Nat) 1 tx ty), (I2, it2), (lg, W.listOf #[Value.int 0 tk20, Value.int 1 (tk20 + 1)] 0), (I, it), (lf, W.listOf #[Value.int 0 tk18, Value.int 1 (tk18 + 1)] 0), (bk, W.listOf #[Value.int ((cnt R2 0 0 + cnt R2 1 0 : Nat) : Int) tb0, Value.int ((cnt R2 0 1 + cnt R2 1 1 : Nat) : Int) tb1] 0), (fr, W.listOf #[Value.int ((cnt R2 0 0 + cnt R2 0 1 : Nat) : Int) tf0, Value.int ((cnt R2 1 0 + cnt R2 1 1 : Nat) : Int) tf1] 0), (bo, LCg.lst [Value.ref r0, Value.ref r1]), (r0, LCg.lst [Value.int (cnt R2 0 0 : Nat) t00, Value.int (cnt R2 0 1 : Nat) t01]), (r1, LCg.lst [Value.int (cnt R2 1 0 : Nat) t10, Value.int (cnt R2 1 1 : Nat) t11])] := off1_of fun r hr => (hap (T9.c1, T9.o1) (.tail _ (.tail _ (.head _))) r hr).symm
                    have a2 : LCg.Off1 T9.c2 [(du, pairO (cnt R2 1 1 : Nat) 1 tx ty), (I2, it2), (lg, W.listOf #[Value.int 0 tk20, Value.int 1 (tk20 + 1)] 0), (I, it), (lf, W.listOf #[Value.int 0 tk18, Value.int 1 (tk18 + 1)] 0), (bk, W.listOf #[Value.int ((cnt R2 0 0 + cnt R2 1 0 : Nat) : Int) tb0, Value.int ((cnt R2 0 1 + cnt R2 1 1 : Nat) : Int) tb1] 0), (fr, W.listOf #[Value.int ((cnt R2 0 0 + cnt R2 0 1 : Nat) : Int) tf0, Value.int ((cnt R2 1 0 + cnt R2 1 1 : Nat) : Int) tf1] 0), (bo, LCg.lst [Value.ref r0, Value.ref r1]), (r0, LCg.lst [Value.int (cnt R2 0 0 : Nat) t00, Value.int (cnt R2 0 1 : Nat) t01]), (r1, LCg.lst [Value.int (cnt R2 1 0 : Nat) t10, Value.int (cnt R2 1 1 : Nat) t11])] := off1_of fun r hr => (hap (T9.c2, T9.o2) (.tail _ (.tail _ (.tail _ (.tail _ (.head _))))) r hr).symm
                    clear hap l21 k2 k3
                    have hdue := fact.due 1 (by decide) 1 (by decide)
                    k_steps
                    refine ne_pairs (a := D9) (b := du) N' (.head _) (by walk_at "mine mem") (by walk_at "mine room") (by rw [hdue.1]) (by rw [hdue.2]; rfl) ?_
                    k_steps
                    refine FPost.next T9 (by k_asm) (by k_asm) (by walk_at "mine sub") (by walk_at "mine sub") (List.forall_mem_cons.mpr ⟨hne2.2.1, List.forall_mem_cons.mpr ⟨Ne.symm a1.2.1, List.forall_mem_cons.mpr ⟨hne2.2.2.2.1, List.forall_mem_cons.mpr ⟨Ne.symm a2.2.1, off1_all hne2.2.2.2.2.2⟩⟩⟩⟩) (by walk_at "mine vars") ⟨hT9, a1.2.2, a2.2.2⟩
                case id1 =>
                  clear F20 N20 l20 i1 i2 i3
                  clear hn1 hn2 hn3 hn4 hn5
                  rintro U uu h tk ⟨k1, k2, k3⟩ F N
                  try dsimp only at k1 k2 k3 F N
                  replace F : Fr g L h _ := F
                  replace N : News g L h _ := N
                  k_steps
                  refine FPost.next U F N (by walk_at "mine sub") (by walk_at "mine sub") (List.forall_mem_cons.mpr ⟨hne.2.1, List.forall_mem_cons.mpr ⟨Ne.symm k2.2.1, List.forall_mem_cons.mpr ⟨hne.2.2.2.1, List.forall_mem_cons.mpr ⟨Ne.symm k3.2.1, off1_all hne.2.2.2.2.2⟩⟩⟩⟩) (by walk_at "mine vars") ⟨k1, k2.2.2, k3.2.2⟩
            case od =>
              clear F18 N18
              rintro T u h tk ⟨i1, i2, i3⟩ F N
              try dsimp only at i1 i2 i3 F N
              replace F : Fr g L h _ := F
              replace N : News g L h _ := N
              k_steps
              exact DoneAt.of F (GrownAt.of N (by walk_at "mine mem")) (GrownAt.of N (by walk_at "mine mem"))
end
end Mine
set_option maxRecDepth 100000 in
set_option maxHeartbeats 8000000 in
theorem PySem.Challenge.cw_pg0218_02_holds : PySem.Challenge.rw_pg0218_02.Holds := by
  exact Mine.law_holds
