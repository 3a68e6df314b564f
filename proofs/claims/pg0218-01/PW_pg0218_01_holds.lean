import PyProof.Rows.All
import Wide.All
import OpenK.AllK
import Wide.FinOn
import Lean
import PySem.Challenge.RW_pg0218_01
open PySem PySem.W PySem.Calls PySem.Spec PyProof.Rows
set_option Elab.async false
set_option maxRecDepth 100000
set_option maxHeartbeats 8000000
set_option compiler.extract_closed false
set_option genSizeOf false
set_option genInjectivity false
-- Hd01
namespace Mine
open_top hd for PySem.Challenge.rw_pg0218_01
end Mine
local macro_rules | `(tactic| omega) => `(tactic| first | with_reducible (first | assumption | decide | exact Nat.le_trans (by assumption) (by decide) | exact Nat.ne_of_gt (by assumption) | exact Nat.ne_of_lt (by assumption) | exact Int.natCast_nonneg _) | lia | omega (config := {}))
-- B0
namespace Mine

/-- g: what stays as it is; news: what is ours to change -/
structure Own (g h : Heap) (news : List (Addr × Obj)) : Prop where
  keep : ∀ b o, g.get? b = some o → h.get? b = some o
  size : g.objs.size ≤ h.objs.size
  mine : ∀ p ∈ news, h.get? p.1 = some p.2 ∧ g.get? p.1 = none

theorem Own.of {g h : Heap} {L : Addr} {m : Str → Option Value} {news : List (Addr × Obj)} (F : Fr g L h m) (N : News g L h news) : Own g h news := by
  refine ⟨F.keep, ?_, fun p hp => ⟨(N p hp).1, (N p hp).2.2⟩⟩
  obtain ⟨oL, es, ep, hL, r⟩ := F.ns
  exact Nat.le_of_lt (Nat.lt_of_le_of_lt F.above (Heap.lt_size hL))

theorem kstB_lookup : ∀ l : List (Str × Value), kstB (fun _ => none) l = fun y => l.lookup y
  | [] => rfl
  | p :: r => by
    funext y
    show (if y = p.1 then some p.2 else kstB (fun _ => none) r y) = (p :: r).lookup y
    obtain ⟨a, b⟩ := p
    rw [List.lookup_cons, kstB_lookup r]
    by_cases h : y = a
    · subst h; simp
    · have : (y == a) = false := by simpa using h
      simp [h, this]

/-- what a call of f does, told to any caller -/
noncomputable def Tell (prog : Program) (w : World) (K : Frag) (p : Program) (loose : List Str) (mean : ExcName → Option Value) (mg mb : Str → Option Value) (PG : Heap → Prop) (d u : Nat) (f : Value) (args : List Value) (news : List (Addr × Obj)) (Post : Value → List (Addr × Obj) → Prop) : Prop :=
  ∀ (A : Around) (base g : Heap) (outer : List Env) (s : Shared) (Q E : Value → Shared → Prop),
    Below A base outer g → A.handled = none → K.In g → Top p loose mean mg mb g → PG g → Own g s.heap news → A.depth + d < recursionLimit → A.units + u < cLine →
    (∀ v news' h' tk', Post v news' → Own g h' news' → Q v { s with heap := h', toks := tk' }) →
    wpAny (model prog w) A (call f args) Q E s

section
variable {prog : Program} {w : World} {K : Frag} {p : Program} {loose : List Str} {mean : ExcName → Option Value} {mg mb : Str → Option Value} {PG : Heap → Prop} {d u : Nat} {f : Value} {args : List Value} {news : List (Addr × Obj)} {Post : Value → List (Addr × Obj) → Prop}

theorem Tell.enter {fa : Addr} {name qual : Str} {params : Arguments} {body : List Stmt} {scope : Scope} {dV kV doc pm cdv ct oc : Value} {an od : Option Addr} {osl : Array (Option Value)} {binds : List (Str × Value)}
    (ho : K.lookup fa = some ⟨oc, od, .func (fnOf name qual params body scope dV kV doc pm an cdv ct), osl⟩) (hcd : codeIn K cdv qual = true)
    (hbind : ∀ s : Shared, BindsTo s (fnOf name qual params body scope dV kV doc pm an cdv ct) ⟨args, []⟩ binds) (hloc : ∀ y ∈ binds, scope.names.lookup y.1 = some .local)
    (hco : scope.isCoroutine = false) (hgen : scope.isGenerator = false) (hk : scope.kind = .function) (hcell : ∀ x ∈ scope.names, x.2 ≠ .cell)
    (h : ∀ (A : Around) (base g : Heap) (outer : List Env) (s : Shared) (L : Addr) (Q : Value → Shared → Prop), Below A base outer g → A.handled = none → K.In g → Top p loose mean mg mb g → PG g →
      Fr g L s.heap (kstB (fun _ => none) binds.reverse) → News g L s.heap news → (∀ q ∈ news, q.1 < L) → A.depth + d < recursionLimit → A.units + u < cLine →
      (∀ v news' h' tk', Post v news' → Own g h' news' → Q v { s with heap := h', toks := tk' }) →
      wpAny (model prog w) (A.deeper (envOf qual scope L fa cdv)) (execs body (envOf qual scope L fa cdv)) (fun fl s' => Q (match fl with | .ret v => v | _ => .none) s') (fun _ _ => False) s) :
    Tell prog w K p loose mean mg mb PG d u (.ref fa) args news Post := by
  intro A base g outer s Q E B hH X T hP O hd hu hret
  refine wpAny_call ?_
  have Xs : K.In s.heap := fun a o e => O.keep _ _ (X a o e)
  refine codeAny_call_def (fd := fnOf name qual params body scope dV kV doc pm an cdv ct) (body := body) (binds := binds) (Nat.lt_of_le_of_lt (Nat.le_add_right _ _) hd) (Xs _ _ ho) rfl (T.nolimit.keeps O.keep) (codeRec_of Xs hcd) rfl (hbind s) hcell hloc (fun h₁ hns hk₁ => ?_) hco hgen hk
  have F : Fr g s.heap.objs.size h₁ (kstB (fun _ => none) binds.reverse) := by
    rw [kstB_lookup]
    exact ⟨hns, fun b o e => hk₁ b o (O.keep b o e), O.size⟩
  have N : News g s.heap.objs.size h₁ news := fun q hq => ⟨hk₁ _ _ (O.mine q hq).1, Nat.ne_of_lt (Heap.lt_size (O.mine q hq).1), (O.mine q hq).2⟩
  have z := h A base g outer { s with heap := h₁, toks := s.toks + binds.length } s.heap.objs.size Q B hH X T hP F N (fun q hq => Heap.lt_size (O.mine q hq).1) hd hu (fun v news' h' tk' hp ho => hret v news' h' tk' hp ho)
  exact wpAny_mono z (fun fl s' hq => by cases fl <;> exact hq) fun _ _ e => e.elim

/-- a call told, within a frame: sub is what the callee may change, rest what stays -/
theorem Tell.use {A₀ A : Around} {base g : Heap} {outer : List Env} {env : Env} {L : Addr} {m : Str → Option Value} {s : Shared} {sub rest led : List (Addr × Obj)} {Q E : Value → Shared → Prop}
    (S : Tell prog w K p loose mean mg mb PG d u f args sub Post)
    (B : Below A₀ base outer g) (hH : A.handled = none) (F : Fr g L s.heap m) (N : News g L s.heap led) (X : K.In g) (T : Top p loose mean mg mb g)
    (hA : A.frames = some (env :: outer)) (hf : env.frame = some L) (hke : env.scope.kind = .function)
    (hsub : ∀ q ∈ sub, q ∈ led) (hrest : ∀ q ∈ rest, q ∈ led) (hap : ∀ q ∈ rest, ∀ r ∈ sub, q.1 ≠ r.1)
    (hP : ∀ g', g.StaysIn g' → (∀ q ∈ rest, g'.get? q.1 = some q.2) → PG g')
    (hd : A.depth + d < recursionLimit) (hu : A.units + u < cLine)
    (ret : ∀ v news' h' tk', Post v news' → Fr g L h' m → News g L h' (news' ++ rest) → (∀ q ∈ news', ∀ r ∈ rest, q.1 ≠ r.1) → Q v { s with heap := h', toks := tk' }) :
    wpAny (model prog w) A (call f args) Q E s := by
  have NS : News g L s.heap sub := fun q hq => N q (hsub q hq)
  obtain ⟨FG, BG, st, _⟩ := groundX (R := fun _ _ => True) B F NS hA hf hke
  have nr : ∀ q ∈ rest, (hideAll s.heap (sub.map (·.1))).get? q.1 = some q.2 := fun q hq =>
    hideAll_get _ (N q (hrest q hq)).1 fun hm => by
      obtain ⟨r, hr, e⟩ := List.mem_map.mp hm
      exact hap q hq r hr e.symm
  refine S A base (hideAll s.heap (sub.map (·.1))) (env :: outer) s Q E BG hH (fun a o e => st _ _ (X a o e)) (T.keeps (fun b o e => st b o e)) (hP _ st nr)
    ⟨fun b o e => of_hideAll _ e, Nat.le_of_eq (hideAll_size _ _), fun q hq => ⟨(NS q hq).1, hideAll_none _ (List.mem_map_of_mem hq)⟩⟩ hd hu (fun v news' h' tk' hp O => ?_)
  obtain ⟨oL, es, ep, hL, r⟩ := FG.ns
  have gnone : ∀ q ∈ news', g.get? q.1 = none := fun q hq => by
    cases e : g.get? q.1 with
    | none => rfl
    | some o => have := st _ _ e; rw [(O.mine q hq).2] at this; cases this
  refine ret v news' h' tk' hp ⟨⟨oL, es, ep, O.keep _ _ hL, r⟩, fun b o e => O.keep _ _ (st _ _ e), F.above⟩ (fun q hq => ?_) (fun q hq r hr e => ?_)
  · rcases List.mem_append.mp hq with hq | hq
    · refine ⟨(O.mine q hq).1, fun e => ?_, gnone q hq⟩
      have := (O.mine q hq).2; rw [e, hL] at this; cases this
    · exact ⟨O.keep _ _ (nr q hq), (N q (hrest q hq)).2⟩
  · have := (O.mine q hq).2; rw [e, nr r hr] at this; cases this
end

noncomputable def VarsIn (m : Str → Option Value) (ps : List (Str × Value)) : Prop := ∀ p ∈ ps, m p.1 = some p.2
/-- a while by a state: vars are the names that are told, Led the ledger -/
noncomputable def WPost {σ : Type} (h₀ : Heap) (L : Addr) (s : Shared) (vars : σ → List (Str × Value)) (Led : σ → List (Addr × Obj)) (P : σ → Prop) (μ : σ → Nat) (Q : Flow → Shared → Prop) (c : σ) (f : Flow) (s₂ : Shared) : Prop :=
  match f with
  | .ret v => Q (.ret v) s₂
  | .brk => Q .next s₂
  | _ => ∃ (c' : σ) (h' : Heap) (tk : Nat) (m' : Str → Option Value) (news' : List (Addr × Obj)), s₂ = { s with heap := h', toks := tk } ∧ Fr h₀ L h' m' ∧ News h₀ L h' news' ∧ (∀ p ∈ Led c', p ∈ news') ∧ VarsIn m' (vars c') ∧ P c' ∧ μ c' < μ c

section
variable {prog : Program} {w : World} {A : Around} {Q : Flow → Shared → Prop} {s : Shared} {env : Env} {h₀ : Heap} {L : Addr}
theorem fr_kstB {h : Heap} {ps : List (Str × Value)} {m : Str → Option Value} (h1 : ∀ p ∈ ps, m p.1 = some p.2) (F : Fr h₀ L h m) : Fr h₀ L h (kstB m ps) := by
  have em : kstB m ps = m := by funext y; exact kstB_eq h1 fun _ => rfl
  rw [em]; exact F
theorem while_by {σ : Type} {test : Expr} {body : List Stmt} {pos : Pos} {m₀ : Str → Option Value} {news₀ : List (Addr × Obj)} (vars : σ → List (Str × Value)) (Led : σ → List (Addr × Obj)) (P : σ → Prop) (μ : σ → Nat) (c₀ : σ)
    (F : Fr h₀ L s.heap m₀) (N : News h₀ L s.heap news₀) (hl : ∀ p ∈ Led c₀, p ∈ news₀) (hk : VarsIn m₀ (vars c₀)) (hp : P c₀)
    (turn : ∀ (c : σ) (v : Str → Option Value) h tk, P c → Fr h₀ L h (kstB v (vars c)) → News h₀ L h (Led c) →
      wpAny (model prog w) A (isTrue test env (eval test env)) (fun b s₂ =>
        if b = true then wpAny (model prog w) A (execs body env) (WPost h₀ L s vars Led P μ Q c) (fun _ _ => False) s₂ else Q .next s₂) (fun _ _ => False) { s with heap := h, toks := tk }) :
    wpAny (model prog w) A (exec (.While test body [] pos) env) Q (fun _ _ => False) s := by
  refine While_inv2 (fun n m nx => ∃ c : σ, nx = Led c ∧ μ c = n ∧ (∀ p ∈ vars c, m p.1 = some p.2) ∧ P c) (n₀ := μ c₀) (news := Led c₀) F (fun p hp => N p (hl p hp)) ⟨c₀, rfl, rfl, hk, hp⟩ ?_ PassesOwn.never
  rintro n m₁ nx h tk F₁ N₁ ⟨c, rfl, rfl, h1, hp'⟩
  refine wpAny_mono (turn c m₁ h tk hp' (fr_kstB h1 F₁) N₁) (fun b s₂ hb => ?_) fun _ _ x => x
  cases b with
  | false => simpa using hb
  | true =>
    simp only [if_true] at hb ⊢
    refine wpAny_mono hb (fun f s₃ q => ?_) fun _ _ x => x
    cases f with
    | ret v => exact q
    | brk => exact q
    | next =>
      obtain ⟨c', h', tk', m', news', rfl, F', N', hn, hk9, hp9, hm9⟩ := q
      exact ⟨h', tk', m', Led c', μ c', rfl, F', fun p hp => N' p (hn p hp), hm9, c', rfl, rfl, hk9, hp9⟩
    | cont =>
      obtain ⟨c', h', tk', m', news', rfl, F', N', hn, hk9, hp9, hm9⟩ := q
      exact ⟨h', tk', m', Led c', μ c', rfl, F', fun p hp => N' p (hn p hp), hm9, c', rfl, rfl, hk9, hp9⟩
end
end Mine
namespace Mine
section
variable {σ : Type} {h₀ : Heap} {L : Addr} {s : Shared} {vars : σ → List (Str × Value)} {Led : σ → List (Addr × Obj)} {P : σ → Prop} {μ : σ → Nat} {Q : Flow → Shared → Prop} {c : σ} {h' : Heap} {tk : Nat} {m' : Str → Option Value} {news' : List (Addr × Obj)}
theorem WPost.cont (c' : σ) (F : Fr h₀ L h' m') (N : News h₀ L h' news') (hl : ∀ p ∈ Led c', p ∈ news') (hk : VarsIn m' (vars c')) (hp : P c') (hm : μ c' < μ c) : WPost h₀ L s vars Led P μ Q c .cont { s with heap := h', toks := tk } :=
  ⟨c', h', tk, m', news', rfl, F, N, hl, hk, hp, hm⟩
theorem WPost.next (c' : σ) (F : Fr h₀ L h' m') (N : News h₀ L h' news') (hl : ∀ p ∈ Led c', p ∈ news') (hk : VarsIn m' (vars c')) (hp : P c') (hm : μ c' < μ c) : WPost h₀ L s vars Led P μ Q c .next { s with heap := h', toks := tk } :=
  ⟨c', h', tk, m', news', rfl, F, N, hl, hk, hp, hm⟩
theorem WPost.brk {s₂ : Shared} (h : Q .next s₂) : WPost h₀ L s vars Led P μ Q c .brk s₂ := h
noncomputable def VarIs (m : Str → Option Value) (x : Str) (v : Value) : Prop := m x = some v
theorem VarIs.of {m : Str → Option Value} {x : Str} {v : Value} (h : m x = some v) : VarIs m x v := h
theorem vars_cons {m : Str → Option Value} {x : Str} {v : Value} {r : List (Str × Value)} (h : VarIs m x v) (hr : VarsIn m r) : VarsIn m ((x, v) :: r) := fun p hp => by
  rcases List.mem_cons.mp hp with rfl | hp
  · exact h
  · exact hr p hp
theorem vars_nil {m : Str → Option Value} : VarsIn m [] := fun _ h => nomatch h
end
section
variable {prog : Program} {w : World} {A : Around} {E : Value → Shared → Prop} {s : Shared} {Q : Value → Shared → Prop}
theorem shr_one {x : Int} {t u : Tok} (h : ∀ tk, Q (.int (x / 2) tk) { s with toks := tk + 1 }) : wpAny (model prog w) A (binaryOp .RShift (.int x t) (.int 1 u)) Q E s := by
  refine rshift_int (by decide) ?_
  rw [show (2 : Int) ^ Int.toNat 1 = 2 from rfl, Int.fdiv_eq_ediv_of_nonneg _ (by decide)]
  exact h _
end
section
variable {M : Model} {A : Around} {E : Value → Shared → Prop} {s : Shared} {h₀ : Heap} {L a : Addr} {m : Str → Option Value} {cn : Str} {cs : Scope} {ccd : Value} {cl : List (Str × Addr)} {x : Str} {Q : Unit → Shared → Prop} {news : List (Addr × Obj)}
/-- a store of an int: the tokens are forgotten -/
theorem storeI {i : Int} {t : Tok} (F : Fr h₀ L s.heap m) (N : News h₀ L s.heap news)
    (h : ∀ h' t' tk', Fr h₀ L h' (fun y => if y = x then some (.int i t') else m y) → News h₀ L h' news → Q () { s with heap := h', toks := tk' })
    (hk : cs.kind = .function := by rfl) (hx : (envX cn cs L a ccd cl).kindOf x = some .local := by rfl) : wpAny M A (storeName (envX cn cs L a ccd cl) x (.int i t)) Q E s :=
  storeX_L F N (fun h' F' N' => h h' t _ F' N') hk hx
theorem storeS {i : Str} {t : Tok} (F : Fr h₀ L s.heap m) (N : News h₀ L s.heap news)
    (h : ∀ h' t' tk', Fr h₀ L h' (fun y => if y = x then some (.str i t') else m y) → News h₀ L h' news → Q () { s with heap := h', toks := tk' })
    (hk : cs.kind = .function := by rfl) (hx : (envX cn cs L a ccd cl).kindOf x = some .local := by rfl) : wpAny M A (storeName (envX cn cs L a ccd cl) x (.str i t)) Q E s :=
  storeX_L F N (fun h' F' N' => h h' t _ F' N') hk hx
end
theorem var_int {m : Str → Option Value} {x : Str} {i j : Int} {t : Tok} (h : VarIs m x (.int i t)) (e : i = j) : VarIs m x (.int j t) := e ▸ h
theorem tn {k : Int} {i : Nat} (h : k = i) : k.toNat = i := by omega
end Mine
-- B1
namespace Mine
section
variable {prog : Program} {w : World} {A : Around} {E : Value → Shared → Prop} {s : Shared} {h₀ : Heap} {L D : Addr} {m : Str → Option Value} {news news' : List (Addr × Obj)} {vs : List Value} {n : Nat} {k : Int} {t u : Tok}
theorem item_g {value slice : PySem.Expr} {Q : Value → Shared → Prop} (N : News h₀ L s.heap news) (hm : (D, listOf vs.toArray n) ∈ news) (h0 : 0 ≤ k) (h1 : k < vs.length) (hfit : k < 2 ^ 63) (h : ∀ x, vs[k.toNat]? = some x → Q x s)
    (hs : subscripted slice false (.ref D) (.int k u) = operate [.ref D, .int k u] (getItem (.ref D) (.int k u)) := by with_unfolding_all rfl) :
    wpAny (model prog w) A (subscriptTail value slice (.ref D) (.int k u)) Q E s := by
  have hl : s.heap.IsList D vs.toArray := PySem.IsL.isList (n := n) (N _ hm).1
  have hi : k.toNat < vs.length := by omega
  exact tail_any hl.typeIs slot_list_getitem.lookup (wpAny_getItem_list hl h0 hfit (by simpa using List.getElem?_eq_getElem hi) (h _ (List.getElem?_eq_getElem hi))) hs
theorem set_g {v : Value} {Q : Unit → Shared → Prop} (F : Fr h₀ L s.heap m) (N : News h₀ L s.heap news) (U : Upd D (listOf vs.toArray n) (listOf (vs.set k.toNat v).toArray n) news news') (h0 : 0 ≤ k) (h1 : k < vs.length) (hfit : k < 2 ^ 63)
    (h : ∀ h', Fr h₀ L h' m → News h₀ L h' news' → Q () { s with heap := h' }) :
    wpAny (model prog w) A (setItem (.ref D) (.int k t) v) Q E s := by
  obtain ⟨pre, post, rfl, rfl, a, b⟩ := U.split
  have z := N (D, listOf vs.toArray n) (List.mem_append.mpr (.inr (.head _)))
  have hs : vs.toArray.size = vs.length := List.size_toArray ..
  refine ki_setAt z.1 h0 hfit (by omega) (h _ (F.change (Heap.SameBut.update ..) z.2.1 z.2.2) (ki_turn _ N a b ?_ ?_))
  · show vs.toArray.setIfInBounds k.toNat v = (vs.set k.toNat v).toArray
    apply Array.toList_inj.mp
    simp
  · simp
end
section
variable {prog : Program} {w : World} {A : Around} {E : Value → Shared → Prop} {s : Shared} {h₀ : Heap} {L D : Addr} {m : Str → Option Value} {news news' : List (Addr × Obj)} {vs : List Value} {n : Nat}
theorem len_g {Q : Value → Shared → Prop} (N : News h₀ L s.heap news) (hm : (D, listOf vs.toArray n) ∈ news) (hfit : vs.length ≤ 1000000) (h : ∀ t tk, Q (.int (vs.length : Int) t) { s with toks := tk }) :
    wpAny (model prog w) A (call (.builtin "len") [.ref D]) Q E s := by
  have hl : s.heap.IsList D vs.toArray := PySem.IsL.isList (n := n) (N _ hm).1
  have e : vs.toArray.size = vs.length := List.size_toArray ..
  exact len_list hl (by rw [e]; omega) (by rw [e]; exact h _ _)
theorem truthy_g {Q : Bool → Shared → Prop} (N : News h₀ L s.heap news) (hm : (D, listOf vs.toArray n) ∈ news) (hfit : vs.length ≤ 1000000) (h : ∀ tk, Q (decide (0 < vs.length)) { s with toks := tk }) :
    wpAny (model prog w) A (truthy (.ref D)) Q E s := by
  have hl : s.heap.IsList D vs.toArray := PySem.IsL.isList (n := n) (N _ hm).1
  have e : vs.toArray.size = vs.length := List.size_toArray ..
  have e2 : (!vs.toArray.isEmpty) = decide (0 < vs.length) := by cases vs <;> simp
  exact wpAny_truthy_list hl (by rw [e]; omega) (by rw [e2]; exact h _)
theorem last_snoc (y : Value) : ∀ p : List Value, kl_last (p ++ [y]) = some (p, y)
  | [] => rfl
  | x :: r => by
    rw [List.cons_append, kl_last, last_snoc y r]
theorem pop_g {p : List Value} {y : Value} {Q : Value → Shared → Prop} (F : Fr h₀ L s.heap m) (N : News h₀ L s.heap news) (U : Upd D (listOf (p ++ [y]).toArray n) (listOf p.toArray (n + 1)) news news') (hfit : p.length < 1000000)
    (h : ∀ h', Fr h₀ L h' m → News h₀ L h' news' → Q y { s with heap := h' }) : wpAny (model prog w) A (call (.builtin "list.pop") [.ref D]) Q E s :=
  kl_pop F N (last_snoc y p) U (by show (p ++ [y]).length ≤ sizeLine; rw [List.length_append, sizeLine_eq]; show p.length + 1 ≤ _; omega) h
end
/-- the items that P tells are compared by lt, wherever g stays -/
noncomputable def Cmp (prog : Program) (w : World) (lt : Value → Value → Bool) (P : Value → Prop) (g : Heap) : Prop :=
  ∀ (x y : Value), P x → P y → ∀ (A : Around) (s : Shared) (Q E : Value → Shared → Prop), (∀ b o, g.get? b = some o → s.heap.get? b = some o) → A.units + 8 < cLine →
    (∀ tk, Q (.bool (lt x y)) { s with toks := tk }) → wpAny (model prog w) A (compareOp .Lt x y) Q E s
theorem Cmp.keeps {prog : Program} {w : World} {lt : Value → Value → Bool} {P : Value → Prop} {g g' : Heap} (c : Cmp prog w lt P g) (k : ∀ b o, g.get? b = some o → g'.get? b = some o) : Cmp prog w lt P g' :=
  fun x y hx hy A s Q E hk hu h => c x y hx hy A s Q E (fun b o e => hk b o (k b o e)) hu h
theorem cmp_g {prog : Program} {w : World} {A : Around} {E : Value → Shared → Prop} {s : Shared} {g : Heap} {L : Addr} {m : Str → Option Value} {lt : Value → Value → Bool} {P : Value → Prop} {x y : Value} {Q : Value → Shared → Prop}
    (C : Cmp prog w lt P g) (F : Fr g L s.heap m) (hx : P x) (hy : P y) (hu : A.units + 8 < cLine) (h : ∀ tk, Q (.bool (lt x y)) { s with toks := tk }) :
    wpAny (model prog w) A (compareOp .Lt x y) Q E s := C x y hx hy A s Q E F.keep hu h

/-- heapq's way down to the root -/
noncomputable def sdn {α : Type} (lt : α → α → Bool) (new : α) (start : Nat) : Nat → List α → Nat → List α
  | 0, xs, pos => xs.set pos new
  | f + 1, xs, pos => if start < pos then (if lt new (xs.getD ((pos - 1) / 2) new) then sdn lt new start f (xs.set pos (xs.getD ((pos - 1) / 2) new)) ((pos - 1) / 2) else xs.set pos new) else xs.set pos new
theorem sdn_fuel {α : Type} (lt : α → α → Bool) (new : α) (start : Nat) : ∀ (f f' : Nat) (xs : List α) (pos : Nat), pos ≤ f → pos ≤ f' → sdn lt new start f xs pos = sdn lt new start f' xs pos
  | 0, 0, xs, pos, _, _ => rfl
  | 0, f' + 1, xs, pos, h, _ => by
    have : pos = 0 := by omega
    subst this
    simp [sdn]
  | f + 1, 0, xs, pos, _, h => by
    have : pos = 0 := by omega
    subst this
    simp [sdn]
  | f + 1, f' + 1, xs, pos, h, h' => by
    simp only [sdn]
    by_cases hs : start < pos
    · simp only [hs, if_true]
      by_cases hl : lt new (xs.getD ((pos - 1) / 2) new) = true
      · simp only [hl, if_true]
        exact sdn_fuel lt new start f f' _ _ (by omega) (by omega)
      · simp only [hl]; rfl
    · simp only [hs, if_false]
theorem sdn_step {α : Type} (lt : α → α → Bool) (new : α) (start : Nat) {xs : List α} {pos : Nat} {x : α} (h : start < pos) (hx : xs[(pos - 1) / 2]? = some x) (hl : lt new x = true) : sdn lt new start pos xs pos = sdn lt new start ((pos - 1) / 2) (xs.set pos x) ((pos - 1) / 2) := by
  obtain ⟨q, rfl⟩ : ∃ q, pos = q + 1 := ⟨pos - 1, by omega⟩
  rw [sdn]
  have e : xs.getD ((q + 1 - 1) / 2) new = x := by rw [List.getD_eq_getElem?_getD, hx]; rfl
  rw [if_pos h, e, if_pos hl]
  exact sdn_fuel lt new start _ _ _ _ (by omega) (by omega)
theorem sdn_stop {α : Type} (lt : α → α → Bool) (new : α) (start : Nat) {xs : List α} {pos : Nat} {x : α} (h : start < pos) (hx : xs[(pos - 1) / 2]? = some x) (hl : lt new x = false) : sdn lt new start pos xs pos = xs.set pos new := by
  obtain ⟨q, rfl⟩ : ∃ q, pos = q + 1 := ⟨pos - 1, by omega⟩
  rw [sdn]
  have e : xs.getD ((q + 1 - 1) / 2) new = x := by rw [List.getD_eq_getElem?_getD, hx]; rfl
  rw [if_pos h, e, hl]
  rfl
theorem sdn_top {α : Type} (lt : α → α → Bool) (new : α) (start : Nat) {xs : List α} {pos : Nat} (h : ¬ start < pos) : sdn lt new start pos xs pos = xs.set pos new := by
  cases pos with
  | zero => rfl
  | succ q => rw [sdn, if_neg h]
end Mine
namespace Mine
/-- the greater road down: the child that goes up -/
noncomputable def kid {α : Type} (lt : α → α → Bool) (d : α) (xs : List α) (c : Nat) : Nat := if c + 1 < xs.length then (if lt (xs.getD c d) (xs.getD (c + 1) d) then c else c + 1) else c
noncomputable def sup {α : Type} (lt : α → α → Bool) (new : α) (start : Nat) : Nat → List α → Nat → List α
  | 0, xs, pos => sdn lt new start pos (xs.set pos new) pos
  | f + 1, xs, pos => if 2 * pos + 1 < xs.length then sup lt new start f (xs.set pos (xs.getD (kid lt new xs (2 * pos + 1)) new)) (kid lt new xs (2 * pos + 1)) else sdn lt new start pos (xs.set pos new) pos
theorem kid_ge {α : Type} (lt : α → α → Bool) (d : α) (xs : List α) (c : Nat) : c ≤ kid lt d xs c := by
  unfold kid; split <;> (try split) <;> omega
theorem sup_fuel {α : Type} (lt : α → α → Bool) (new : α) (start : Nat) : ∀ (f f' : Nat) (xs : List α) (pos : Nat), xs.length ≤ f + pos → xs.length ≤ f' + pos → sup lt new start f xs pos = sup lt new start f' xs pos
  | 0, 0, xs, pos, _, _ => rfl
  | 0, f' + 1, xs, pos, h, _ => by rw [sup, sup, if_neg (by omega)]
  | f + 1, 0, xs, pos, _, h => by rw [sup, sup, if_neg (by omega)]
  | f + 1, f' + 1, xs, pos, h, h' => by
    rw [sup, sup]
    have := kid_ge lt new xs (2 * pos + 1)
    split
    · exact sup_fuel lt new start f f' _ _ (by rw [List.length_set]; omega) (by rw [List.length_set]; omega)
    · rfl
theorem sup_end {α : Type} (lt : α → α → Bool) (new : α) (start : Nat) {xs : List α} {pos : Nat} (h : ¬ 2 * pos + 1 < xs.length) : sup lt new start xs.length xs pos = sdn lt new start pos (xs.set pos new) pos := by
  cases e : xs.length with
  | zero => rfl
  | succ f => rw [sup, if_neg h]
theorem sup_step {α : Type} (lt : α → α → Bool) (new : α) (start : Nat) {xs : List α} {pos c : Nat} {x : α} (h : 2 * pos + 1 < xs.length) (hc : kid lt new xs (2 * pos + 1) = c) (hx : xs[c]? = some x) :
    sup lt new start xs.length xs pos = sup lt new start (xs.set pos x).length (xs.set pos x) c := by
  have e : xs.getD c new = x := by rw [List.getD_eq_getElem?_getD, hx]; rfl
  have hk := kid_ge lt new xs (2 * pos + 1)
  rw [List.length_set]
  obtain ⟨f, hf⟩ : ∃ f, xs.length = f + 1 := ⟨xs.length - 1, by omega⟩
  rw [hf, sup, if_pos h, hc, e]
  exact sup_fuel _ _ _ _ _ _ _ (by rw [List.length_set]; omega) (by rw [List.length_set]; omega)
theorem kid_right {α : Type} {lt : α → α → Bool} {d : α} {xs : List α} {c : Nat} {x y : α} (hx : xs[c]? = some x) (hy : xs[c + 1]? = some y) (h : lt x y = false) : kid lt d xs c = c + 1 := by
  have h1 := (List.getElem?_eq_some_iff.mp hy).1
  have ex : xs.getD c d = x := by rw [List.getD_eq_getElem?_getD, hx]; rfl
  have ey : xs.getD (c + 1) d = y := by rw [List.getD_eq_getElem?_getD, hy]; rfl
  rw [kid, if_pos h1, ex, ey, h]; rfl
theorem kid_left {α : Type} {lt : α → α → Bool} {d : α} {xs : List α} {c : Nat} {x y : α} (hx : xs[c]? = some x) (hy : xs[c + 1]? = some y) (h : lt x y = true) : kid lt d xs c = c := by
  have h1 := (List.getElem?_eq_some_iff.mp hy).1
  have ex : xs.getD c d = x := by rw [List.getD_eq_getElem?_getD, hx]; rfl
  have ey : xs.getD (c + 1) d = y := by rw [List.getD_eq_getElem?_getD, hy]; rfl
  rw [kid, if_pos h1, ex, ey, h]; rfl
theorem kid_last {α : Type} {lt : α → α → Bool} {d : α} {xs : List α} {c : Nat} (h : ¬ c + 1 < xs.length) : kid lt d xs c = c := by
  rw [kid, if_neg h]
end Mine
namespace Mine
section
variable {prog : Program} {w : World} {A : Around} {E : Value → Shared → Prop} {s : Shared} {h₀ : Heap} {L D : Addr} {m : Str → Option Value} {news news' : List (Addr × Obj)} {vs : List Value} {n : Nat}
theorem append_g {v : Value} {Q : Value → Shared → Prop} (F : Fr h₀ L s.heap m) (N : News h₀ L s.heap news) (U : Upd D (listOf vs.toArray n) (listOf (vs ++ [v]).toArray (n + 1)) news news') (hfit : vs.length ≤ 1000000)
    (h : ∀ h', Fr h₀ L h' m → News h₀ L h' news' → Q .none { s with heap := h' }) : wpAny (model prog w) A (call (.builtin "list.append") [.ref D, v]) Q E s :=
  append_K F N (by rw [List.push_toArray]; exact U) h (by rw [List.size_toArray, sizeLine_eq]; omega)
end
noncomputable def hpush {α : Type} (lt : α → α → Bool) (v : α) (vs : List α) : List α := sdn lt v 0 vs.length (vs ++ [v]) vs.length
noncomputable def hpop {α : Type} (lt : α → α → Bool) (p : List α) (y : α) : α × List α := match p with
  | [] => (y, [])
  | x :: q => (x, sup lt y 0 (y :: q).length (y :: q) 0)
end Mine
-- B2
namespace Mine
section
variable {prog : Program} {w : World} {K : Frag} {p : Program} {loose : List Str} {mean : ExcName → Option Value} {mg mb : Str → Option Value} {PG : Heap → Prop} {d u : Nat} {f : Value} {args : List Value} {news : List (Addr × Obj)} {Post : Value → List (Addr × Obj) → Prop}
/-- entry of a def with cells -/
theorem Tell.enterC {fa : Addr} {name qual : Str} {params : Arguments} {body : List Stmt} {scope : Scope} {dV kV doc pm cdv ct oc : Value} {an od : Option Addr} {osl : Array (Option Value)} {binds : List (Str × Value)}
    (ho : K.lookup fa = some ⟨oc, od, .func (fnX name qual params body scope [] dV kV doc pm an cdv ct), osl⟩) (hcd : codeIn K cdv qual = true)
    (hbind : ∀ s : Shared, BindsTo s (fnX name qual params body scope [] dV kV doc pm an cdv ct) ⟨args, []⟩ binds)
    (hkind : (binds.all fun y => scope.names.lookup y.1 == some .local || scope.names.lookup y.1 == some .cell) = true) (hnd : ((cellsFrom 0 scope.names []).map (·.1)).Nodup)
    (hco : scope.isCoroutine = false) (hgen : scope.isGenerator = false) (hk : scope.kind = .function)
    (h : ∀ (A : Around) (base g : Heap) (outer : List Env) (s : Shared) (L : Addr) (cells : List (Addr × Obj)) (Q : Value → Shared → Prop), Below A base outer g → A.handled = none → K.In g → Top p loose mean mg mb g → PG g →
      Fr g L s.heap (bindL (envOfC qual scope L fa cdv).kindOf binds fun _ => none) → News g L s.heap (cells ++ news) → CellsAre (bindC (envOfC qual scope L fa cdv).kindOf binds fun _ => none) (cellsFrom (L + 1) scope.names []) cells →
      (∀ q ∈ news, q.1 < L) → A.depth + d < recursionLimit → A.units + u < cLine →
      (∀ v news' h' tk', Post v news' → Own g h' news' → Q v { s with heap := h', toks := tk' }) →
      wpAny (model prog w) (A.deeper (envOfC qual scope L fa cdv)) (execs body (envOfC qual scope L fa cdv)) (fun fl s' => Q (match fl with | .ret v => v | _ => .none) s') (fun _ _ => False) s) :
    Tell prog w K p loose mean mg mb PG d u (.ref fa) args news Post := by
  intro A base g outer s Q E B hH X T hP O hd hu hret
  refine wpAny_call ?_
  have Xs : K.In s.heap := fun a o e => O.keep _ _ (X a o e)
  suffices H : ∀ R : Result → Shared → Prop, (∀ v s', Q v s' → R (.ok (.ret v)) s') → codeAny (model prog w) A (.call (.ref fa) ⟨args, []⟩) R s from H _ fun _ _ h => h
  intro R hR
  refine codeAny_call_function (Nat.lt_of_le_of_lt (Nat.le_add_right _ _) hd) (Xs _ _ ho) rfl hco hgen rfl (codeRec_of Xs hcd) ?_
  refine hbind s _ _ _ _ ?_
  refine wpAny_newFunctionEnv_cells hk (kindsX hkind _) fun env' he s' x => ?_
  subst he
  refine ⟨(T.nolimit.keeps O.keep).keeps x.toInCall.keep, codeAny_func ?_⟩
  obtain ⟨h₁, tk, rfl, _⟩ := x.done
  have hk₁ := x.toInCall.keep
  obtain ⟨cells, NC, Y⟩ := Cl.news (h₀ := s.heap) (Nat.le_refl _) fun n c hm => ⟨x.cell n c (lookup_of_mem_nodup (cellsFrom_names scope.names 0 (s.heap.objs.size + 1) [] [] rfl ▸ hnd) hm), x.above n c hm⟩
  have F : Fr g s.heap.objs.size h₁ (bindL (envOfC qual scope s.heap.objs.size fa cdv).kindOf binds fun _ => none) := ⟨x.toInCall.ns, fun b o e => hk₁ b o (O.keep b o e), O.size⟩
  have N : News g s.heap.objs.size h₁ (cells ++ news) := fun q hq => by
    rcases List.mem_append.mp hq with hq | hq
    · refine ⟨(NC q hq).1, (NC q hq).2.1, ?_⟩
      cases e : g.get? q.1 with
      | none => rfl
      | some o => have := O.keep _ _ e; rw [(NC q hq).2.2] at this; cases this
    · exact ⟨hk₁ _ _ (O.mine q hq).1, Nat.ne_of_lt (Heap.lt_size (O.mine q hq).1), (O.mine q hq).2⟩
  have z := h A base g outer { s with heap := h₁, toks := tk } s.heap.objs.size cells Q B hH X T hP F N Y (fun q hq => Heap.lt_size (O.mine q hq).1) hd hu (fun v news' h' tk' hp ho => hret v news' h' tk' hp ho)
  exact wpAny_mono z (fun fl s' hq => hR _ _ hq) fun _ _ e => e.elim

/-- entry of a def that g bears, closing over cells -/
theorem Tell.enterX {fa : Addr} {name qual : Str} {params : Arguments} {body : List Stmt} {scope : Scope} {cl : List (Str × Addr)} {dV kV doc pm cdv ct : Value} {an : Option Addr} {binds : List (Str × Value)}
    (ho : ∀ g, PG g → ∃ fo, g.get? fa = some fo ∧ fo.data = .func (fnX name qual params body scope cl dV kV doc pm an cdv ct) ∧ g.CodeRec cdv qual)
    (hbind : ∀ s : Shared, BindsTo s (fnX name qual params body scope cl dV kV doc pm an cdv ct) ⟨args, []⟩ binds) (hloc : ∀ y ∈ binds, scope.names.lookup y.1 = some .local)
    (hco : scope.isCoroutine = false) (hgen : scope.isGenerator = false) (hk : scope.kind = .function) (hcell : ∀ x ∈ scope.names, x.2 ≠ .cell)
    (h : ∀ (A : Around) (base g : Heap) (outer : List Env) (s : Shared) (L : Addr) (Q : Value → Shared → Prop), Below A base outer g → A.handled = none → K.In g → Top p loose mean mg mb g → PG g →
      Fr g L s.heap (kstB (fun _ => none) binds.reverse) → News g L s.heap news → (∀ q ∈ news, q.1 < L) → A.depth + d < recursionLimit → A.units + u < cLine →
      (∀ v news' h' tk', Post v news' → Own g h' news' → Q v { s with heap := h', toks := tk' }) →
      wpAny (model prog w) (A.deeper (envX qual scope L fa cdv cl)) (execs body (envX qual scope L fa cdv cl)) (fun fl s' => Q (match fl with | .ret v => v | _ => .none) s') (fun _ _ => False) s) :
    Tell prog w K p loose mean mg mb PG d u (.ref fa) args news Post := by
  intro A base g outer s Q E B hH X T hP O hd hu hret
  refine wpAny_call ?_
  obtain ⟨fo, hfo, hfd, hcr⟩ := ho g hP
  refine codeAny_call_def (fd := fnX name qual params body scope cl dV kV doc pm an cdv ct) (body := body) (binds := binds) (Nat.lt_of_le_of_lt (Nat.le_add_right _ _) hd) (O.keep _ _ hfo) hfd (T.nolimit.keeps O.keep) (hcr.keeps O.keep) rfl (hbind s) hcell hloc (fun h₁ hns hk₁ => ?_) hco hgen hk
  have F : Fr g s.heap.objs.size h₁ (kstB (fun _ => none) binds.reverse) := by
    rw [kstB_lookup]
    exact ⟨hns, fun b o e => hk₁ b o (O.keep b o e), O.size⟩
  have N : News g s.heap.objs.size h₁ news := fun q hq => ⟨hk₁ _ _ (O.mine q hq).1, Nat.ne_of_lt (Heap.lt_size (O.mine q hq).1), (O.mine q hq).2⟩
  have z := h A base g outer { s with heap := h₁, toks := s.toks + binds.length } s.heap.objs.size Q B hH X T hP F N (fun q hq => Heap.lt_size (O.mine q hq).1) hd hu (fun v news' h' tk' hp ho => hret v news' h' tk' hp ho)
  exact wpAny_mono z (fun fl s' hq => by cases fl <;> exact hq) fun _ _ e => e.elim
end
/-- a cell that g bears -/
noncomputable def CellIs (g : Heap) (c : Addr) (v : Value) : Prop := ∃ o, g.get? c = some o ∧ o.data = .cell (some v)
theorem nameX_G {M : Model} {A : Around} {E : Value → Shared → Prop} {s : Shared} {h₀ : Heap} {L a : Addr} {m : Str → Option Value} {cn : Str} {cs : Scope} {ccd : Value} {cl : List (Str × Addr)} {x : Str} {pos : Pos} {v : Value} {Q : Value → Shared → Prop} {c : Addr}
    (F : Fr h₀ L s.heap m) (hc : cl.lookup x = some c) (hg : CellIs h₀ c v) (h : Q v s)
    (hk : cs.kind = .function := by rfl) (hx : (envX cn cs L a ccd cl).kindOf x = some .free := by rfl) (hb : (x == ("__debug__" : Str)) = false := by decide) (hn : (x == ("__classdict__" : Str)) = false := by decide) :
    wpAny M A (eval (.Name x pos) (envX cn cs L a ccd cl)) Q E s := by
  obtain ⟨o, ho, hd⟩ := hg
  exact wpAny_Name (wpAny_loadName_free hk hx hc ⟨o, F.keep _ _ ho, hd⟩ h hn) hb

/-- k figures of x to the base 2^n, the lowest first -/
noncomputable def digs (n : Nat) : Nat → Nat → List Int
  | _, 0 => []
  | x, k + 1 => ((x % 2 ^ n : Nat) : Int) :: digs n (x / 2 ^ n) k
theorem digs_length (n : Nat) : ∀ k x, (digs n x k).length = k
  | 0, _ => rfl
  | k + 1, x => by rw [digs, List.length_cons, digs_length n k]
theorem digs_split (n : Nat) : ∀ a b x, digs n x (a + b) = digs n (x % 2 ^ (a * n)) a ++ digs n (x / 2 ^ (a * n)) b
  | 0, b, x => by simp [digs]
  | a + 1, b, x => by
    have e : a + 1 + b = (a + b) + 1 := by omega
    rw [e, digs, digs, digs_split n a b, List.cons_append]
    have p : 2 ^ ((a + 1) * n) = 2 ^ n * 2 ^ (a * n) := by rw [← Nat.pow_add]; congr 1; rw [Nat.succ_mul]; omega
    have h1 : x % 2 ^ ((a + 1) * n) % 2 ^ n = x % 2 ^ n := by rw [p]; exact Nat.mod_mul_right_mod x _ _
    have h2 : x % 2 ^ ((a + 1) * n) / 2 ^ n = x / 2 ^ n % 2 ^ (a * n) := by rw [p]; exact Nat.mod_mul_right_div_self x _ _
    have h3 : x / 2 ^ n / 2 ^ (a * n) = x / 2 ^ ((a + 1) * n) := by rw [p, Nat.div_div_eq_div_mul]
    rw [h1, h2, h3]
theorem digs_one (n x : Nat) (h : x < 2 ^ n) : digs n x 1 = [(x : Int)] := by
  rw [digs, digs, Nat.mod_eq_of_lt h]
end Mine
namespace Mine
section
variable {prog : Program} {w : World} {A : Around} {E : Value → Shared → Prop} {s : Shared} {Q : Value → Shared → Prop}
theorem shr_nat {x k : Nat} {t u : Tok} (h : ∀ tk, Q (.int ((x / 2 ^ k : Nat) : Int) tk) { s with toks := tk + 1 }) : wpAny (model prog w) A (binaryOp .RShift (.int x t) (.int k u)) Q E s := by
  refine rshift_int (Int.natCast_nonneg _) ?_
  have e : (x : Int).fdiv (2 ^ (k : Int).toNat) = ((x / 2 ^ k : Nat) : Int) := by
    rw [Int.toNat_natCast, Int.fdiv_eq_ediv_of_nonneg _ (by exact_mod_cast Nat.zero_le _)]
    push_cast; rfl
  rw [e]; exact h _
theorem shl_nat {x k : Nat} {t u : Tok} (hx : x < 2 ^ 64) (hk : k ≤ 1000000) (h : ∀ tk, Q (.int ((x * 2 ^ k : Nat) : Int) tk) { s with toks := tk + 1 }) : wpAny (model prog w) A (binaryOp .LShift (.int x t) (.int k u)) Q E s := by
  refine lshift_int_small (Int.natCast_nonneg _) (by omega) (by rw [Int.natAbs_natCast]; exact hx) ?_
  have e : (x : Int) * 2 ^ (k : Int).toNat = ((x * 2 ^ k : Nat) : Int) := by
    rw [Int.toNat_natCast]; push_cast; rfl
  rw [e]; exact h _
end
theorem xor_low (x k : Nat) : Builtin.bitXor (x : Int) ((x / 2 ^ k * 2 ^ k : Nat) : Int) = ((x % 2 ^ k : Nat) : Int) := by
  have h1 : x &&& (x / 2 ^ k * 2 ^ k) = x / 2 ^ k * 2 ^ k := by
    apply Nat.eq_of_testBit_eq
    intro i
    rw [Nat.testBit_and, Nat.testBit_mul_two_pow]
    by_cases hi : k ≤ i
    · simp only [hi, decide_true, Bool.true_and, Nat.testBit_div_two_pow]
      rw [show i - k + k = i by omega, Bool.and_self]
    · simp [hi]
  rw [bitXor_and, bitAnd_pp (Int.natCast_nonneg _) (Int.natCast_nonneg _), Int.toNat_natCast, Int.toNat_natCast, h1]
  have := Nat.div_add_mod x (2 ^ k)
  rw [Nat.mul_comm] at this
  omega

/-- the def within a def's body -/
noncomputable def innerIn (K : Frag) (a : Addr) : Option (Arguments × List Stmt × Scope) := match K.lookup a with
  | some ⟨_, _, .func fd, _⟩ => (match fd.body with
    | .stmts (.FunctionDef _ ps b _ _ _ sc _ _ _ :: _) => some (ps, b, sc)
    | .stmts (_ :: .FunctionDef _ ps b _ _ _ sc _ _ _ :: _) => some (ps, b, sc)
    | _ => none)
  | _ => none
theorem lk {K : Frag} {a : Addr} {o : Obj} (h : K.lookup a = some o) : K.lookup a = some o := h

/-- the list with its places a to b turned -/
noncomputable def put (ns : List Int) (a b : Nat) (ds : List Int) : List Int := ns.take a ++ ds ++ ns.drop b
theorem put_length {ns ds : List Int} {a b : Nat} (h : a ≤ b) (hb : b ≤ ns.length) (hd : ds.length = b - a) : (put ns a b ds).length = ns.length := by
  simp only [put, List.length_append, List.length_take, List.length_drop, hd]; omega
theorem put_one {ns : List Int} {a : Nat} {x : Int} (h : a < ns.length) : ns.set a x = put ns a (a + 1) [x] := by
  rw [List.set_eq_take_append_cons_drop, if_pos h, put, List.append_assoc, List.singleton_append]
theorem put_put {ns ds es : List Int} {a m b : Nat} (h1 : a ≤ m) (h2 : m ≤ b) (hb : b ≤ ns.length) (hd : ds.length = m - a) : put (put ns a m ds) m b es = put ns a b (ds ++ es) := by
  have hl : (ns.take a ++ ds).length = m := by simp only [List.length_append, List.length_take, hd]; omega
  unfold put
  rw [List.take_append_of_le_length (by omega), List.take_of_length_le (by omega), List.drop_append, List.drop_of_length_le (by omega), hl, List.drop_drop]
  simp only [List.nil_append, List.append_assoc]
  rw [show m + (b - m) = b by omega]
end Mine
namespace Mine
theorem fnAt_g {g h : Heap} {L f : Addr} {m : Str → Option Value} {fd : FuncData} (hf : ∃ fo, g.get? f = some fo ∧ fo.data = .func fd) (F : Fr g L h m) : FnAt f h := by
  obtain ⟨⟨oc, od, da, sl⟩, h1, h2⟩ := hf
  dsimp only at h2
  subst h2
  exact ⟨oc, od, fd, sl, F.keep _ _ h1⟩
end Mine
namespace Mine
/-- the table of a def's code: nothing yet (then c is any object of no use), or the inner def's code, which is c -/
noncomputable def TabIs (line col : Nat) (ql : Str) (ps : Array Value) (c : Addr) (oc : Obj) : Prop :=
  ps = #[] ∨ ∃ vs t, ps = #[rawInt line, rawInt col, .ref c] ∧ oc.data = .fields vs ∧ vs[1]? = some (.str ql t)
noncomputable def bitsOf (a : Nat) : Nat := Builtin.Int.intBits (a : Int)
theorem bitsOf_lt (a : Nat) : a < 2 ^ bitsOf a := by
  unfold bitsOf Builtin.Int.intBits
  by_cases h : a = 0
  · subst h; decide
  · have : ((a : Int) == 0) = false := by simp; omega
    rw [this]
    simp only [Int.natAbs_natCast, Bool.false_eq_true, if_false]
    exact Nat.lt_log2_self
theorem bitsOf_le {a k : Nat} (h : a < 2 ^ k) : bitsOf a ≤ k := by
  unfold bitsOf Builtin.Int.intBits
  by_cases h0 : a = 0
  · subst h0; simp
  · have : ((a : Int) == 0) = false := by simp; omega
    rw [this]
    simp only [Int.natAbs_natCast, Bool.false_eq_true, if_false]
    have := (Nat.log2_lt h0).mpr h
    omega
theorem bitsOf_pos {a : Nat} (h : a ≠ 0) : 1 ≤ bitsOf a := by
  unfold bitsOf Builtin.Int.intBits
  have : ((a : Int) == 0) = false := by simp; omega
  rw [this]; simp
/-- how many figures a has to the base 2^n -/
noncomputable def figs (a n : Nat) : Nat := (bitsOf a + n - 1) / n
theorem figs_zero (n : Nat) (h : 1 ≤ n) : figs 0 n = 0 := by
  have : bitsOf 0 = 0 := rfl
  unfold figs; rw [this, Nat.div_eq_of_lt (by omega)]
theorem figs_pos {a n : Nat} (h : a ≠ 0) (hn : 1 ≤ n) : 1 ≤ figs a n := by
  have := bitsOf_pos h
  unfold figs
  rw [Nat.le_div_iff_mul_le (by omega)]; omega
theorem figs_fit {a n : Nat} (hn : 1 ≤ n) : a < 2 ^ (figs a n * n) := by
  refine Nat.lt_of_lt_of_le (bitsOf_lt a) (Nat.pow_le_pow_right (by decide) ?_)
  unfold figs
  have h1 := Nat.div_add_mod (bitsOf a + n - 1) n
  have h2 := Nat.mod_lt (bitsOf a + n - 1) (show 0 < n by omega)
  rw [Nat.mul_comm n] at h1
  omega
theorem figs_le {a n k : Nat} (hn : 1 ≤ n) (h : a < 2 ^ k) : figs a n ≤ k := by
  have hb := bitsOf_le h
  unfold figs
  rcases Nat.eq_zero_or_pos (bitsOf a) with e | e
  · rw [e, Nat.div_eq_of_lt (by omega)]; exact Nat.zero_le _
  · have h1 : bitsOf a + n - 1 ≤ bitsOf a * n := by
      obtain ⟨b, hb⟩ : ∃ b, bitsOf a = b + 1 := ⟨bitsOf a - 1, by omega⟩
      obtain ⟨c, rfl⟩ : ∃ c, n = c + 1 := ⟨n - 1, by omega⟩
      rw [hb, Nat.add_mul, Nat.mul_add]; omega
    have h2 := Nat.div_le_div_right (c := n) h1
    rw [Nat.mul_div_cancel _ (by omega)] at h2
    omega
end Mine
namespace Mine
theorem rep_flat {α : Type} (x : α) : ∀ k : Nat, (List.replicate k [x]).flatten = List.replicate k x
  | 0 => rfl
  | k + 1 => by rw [List.replicate_succ, List.replicate_succ, List.flatten_cons, rep_flat x k]; rfl
theorem rep_g {prog : Program} {w : World} {A : Around} {E : Value → Shared → Prop} {s : Shared} {h₀ : Heap} {L : Addr} {m : Str → Option Value} {news : List (Addr × Obj)} {l : Addr} {x : Value} {e k : Nat} {u : Tok} {Q : Value → Shared → Prop}
    (F : Fr h₀ L s.heap m) (N : News h₀ L s.heap news) (hm : (l, listOf #[x] e) ∈ news) (hk : k ≤ 256)
    (h : ∀ D h', Fr h₀ L h' m → News h₀ L h' ((D, listOf (List.replicate k x).toArray 0) :: news) → (∀ p ∈ news, p.1 < D) → Q (.ref D) { s with heap := h' }) : wpAny (model prog w) A (binaryOp .Mult (.ref l) (.int k u)) Q E s := by
  have hl : s.heap.IsList l [x].toArray := PySem.IsL.isList (n := e) (N _ hm).1
  have e1 : (List.replicate (k : Int).toNat [x]).flatten = List.replicate k x := by
    rw [Int.toNat_natCast, rep_flat]
  exact KMa.mul F N hl (by omega) (by omega) (by rw [Int.toNat_natCast]; simp; omega) e1 h
theorem figs_eq (a n : Nat) (hn : 1 ≤ n) : ((Builtin.Int.intBits (a : Int) : Int) + n - 1).fdiv n = ((figs a n : Nat) : Int) := by
  rw [Int.fdiv_eq_ediv_of_nonneg _ (by omega)]
  unfold figs bitsOf
  rw [show ((Builtin.Int.intBits (a : Int) : Int) + n - 1) = ((Builtin.Int.intBits (a : Int) + n - 1 : Nat) : Int) by omega]
  rfl
theorem ints_replicate (k : Nat) (t : Tok) : IntsAre (List.replicate k (.int 0 t)) (List.replicate k 0) := by
  induction k with
  | zero => exact .nil
  | succ k ih => exact .cons 0 t ih
end Mine
namespace Mine
theorem updF_app {d : Addr} {o : Obj} {post : List (Addr × Obj)} (hp : ∀ p ∈ post, p.1 ≠ d) : ∀ {pre : List (Addr × Obj)}, (∀ p ∈ pre, p.1 ≠ d) → UpdF d o (pre ++ (d, o) :: post) (fun o' => pre ++ (d, o') :: post)
  | [], _ => .head hp
  | _ :: _, h => .tail (h _ (.head _)) (updF_app hp fun q hq => h q (.tail _ hq))
section
variable {M : Model} {A : Around} {E : Value → Shared → Prop} {s : Shared} {h₀ : Heap} {L a c P : Addr} {m mg mb : Str → Option Value} {cn : Str} {cs : Scope} {ccd : Value} {cl : List (Str × Addr)} {pre : List (Addr × Obj)}
  {p : Program} {loose : List Str} {mean : ExcName → Option Value} {name qual : Str} {params : Arguments} {body : List Stmt} {scope : Scope} {ps : Array Value} {pos : Pos} {firstLine : Nat} {clos : List (Str × Addr)} {c0 : Addr} {oc0 : Obj}
/-- a def within a def is made: for the first time, or once more -/
theorem nest_tab {Q : Value → Shared → Prop} (F : Fr h₀ L s.heap m) (N : News h₀ L s.heap (pre ++ [(P, tabObj ps), (c0, oc0)])) (T : Top p loose mean mg mb h₀) (C : CodeHd h₀ c P) (hcd : ccd = .ref c) (ht : TabIs pos.line pos.col qual ps c0 oc0)
    (hP : ∀ q ∈ pre, q.1 ≠ P) (hc : ∀ q ∈ pre, q.1 ≠ c0) (hPc : c0 ≠ P) (hcl : closureFor scope (envX cn cs L a ccd cl) = pure clos)
    (h : ∀ f c' oc vs t ctv doc ps' h' tk, Fr h₀ L h' m →
      News h₀ L h' ((f, fnMade name qual params body scope clos doc ((mg "__name__").getD .none) c' ctv) :: (pre ++ [(P, tabObj ps'), (c', oc)])) →
      oc.data = .fields vs → vs[1]? = some (.str qual t) → TabIs pos.line pos.col qual ps' c' oc → (∀ q ∈ pre, q.1 ≠ c') → c' ≠ P → (∀ q ∈ pre ++ [(P, tabObj ps'), (c', oc)], q.1 < f) → Q (.ref f) { s with heap := h', toks := tk }) :
    wpAny M A (makeFunction name qual params (.stmts body) scope (envX cn cs L a ccd cl) [] [] [] pos firstLine) Q E s := by
  have hp0 : ∀ q ∈ [(c0, oc0)], q.1 ≠ P := fun q hq => by rw [List.mem_singleton.mp hq]; exact hPc
  rcases ht with rfl | ⟨vs, t, rfl, hd, hv⟩
  · refine nest_K F N T C hcd (updF_app hp0 hP) (by exact True.intro) rfl hcl fun f c' oc vs t ctv doc h' tk F' N' d1 d2 l1 l2 => ?_
    have l3 : ∀ q ∈ pre, q.1 < c' := fun q hq => l1 q (List.mem_append_left _ hq)
    have l4 : P < c' := l1 (P, tabObj #[]) (List.mem_append_right _ (.head _))
    refine h f c' oc vs t ctv doc _ h' tk F' (fun q hq => ?_) d1 d2 (.inr ⟨vs, t, rfl, d1, d2⟩) (fun q hq => Nat.ne_of_lt (l3 q hq)) (Nat.ne_of_gt l4) (fun q hq => ?_)
    · rcases List.mem_cons.mp hq with rfl | hq
      · exact N' _ (.head _)
      · rcases List.mem_append.mp hq with hq | hq
        · exact N' _ (.tail _ (.tail _ (List.mem_append_left _ hq)))
        · rcases List.mem_cons.mp hq with rfl | hq
          · exact N' _ (.tail _ (.tail _ (List.mem_append_right _ (.head _))))
          · rw [List.mem_singleton.mp hq]; exact N' _ (.tail _ (.head _))
    · rcases List.mem_append.mp hq with hq | hq
      · exact Nat.lt_trans (l3 q hq) l2
      · rcases List.mem_cons.mp hq with rfl | hq
        · exact Nat.lt_trans l4 l2
        · rw [List.mem_singleton.mp hq]; exact l2
  · refine nestHit_K (c' := c0) F N T C hcd (List.mem_append_right _ (.head _)) (by simp [TriplesOk, rawInt]) (by simp [codeAmong, rawInt]) hcl fun f ctv doc h' tk F' N' l1 => ?_
    exact h f c0 oc0 vs t ctv doc _ h' tk F' N' hd hv (.inr ⟨vs, t, rfl, hd, hv⟩) hc hPc l1
end
end Mine
namespace Mine
noncomputable def AllNe (d : Addr) : List (Addr × Obj) → Prop
  | [] => True
  | p :: r => @Ne Nat p.1 d ∧ AllNe d r
theorem allNe_of {d : Addr} : ∀ {l : List (Addr × Obj)}, (∀ p ∈ l, p.1 ≠ d) → AllNe d l
  | [], _ => trivial
  | p :: _, h => ⟨h p (.head _), allNe_of fun q hq => h q (.tail _ hq)⟩
end Mine
namespace Mine
theorem put_all {ns ds : List Int} {k : Nat} (h : ns.length ≤ k) : put ns 0 k ds = ds := by
  unfold put
  rw [List.take_zero, List.drop_of_length_le h, List.nil_append, List.append_nil]
theorem News.sub {g h : Heap} {L : Addr} {led sub : List (Addr × Obj)} (N : News g L h led) (hs : ∀ q ∈ sub, q ∈ led) : News g L h sub := fun q hq => N q (hs q hq)
end Mine
-- B3
namespace Mine
/-- the value of figures to the base 2^n, the lowest first -/
noncomputable def valI (n : Nat) : List Int → Int
  | [] => 0
  | d :: r => d + 2 ^ n * valI n r
theorem valI_app (n : Nat) : ∀ a b : List Int, valI n (a ++ b) = valI n a + 2 ^ (a.length * n) * valI n b
  | [], b => by simp [valI]
  | d :: r, b => by
    rw [List.cons_append, valI, valI_app n r b, valI, List.length_cons, Nat.succ_mul, Int.pow_add, Int.mul_add]
    have : (2 ^ n : Int) * (2 ^ (r.length * n) * valI n b) = 2 ^ (r.length * n) * 2 ^ n * valI n b := by
      rw [← Int.mul_assoc, Int.mul_comm (2 ^ n)]
    push_cast
    rw [this]
    omega
noncomputable def Figs (n : Nat) (ds : List Int) : Prop := ∀ d ∈ ds, 0 ≤ d ∧ d < 2 ^ n
theorem valI_pos {n : Nat} : ∀ {ds : List Int}, Figs n ds → 0 ≤ valI n ds
  | [], _ => Int.le_refl _
  | d :: r, h => by
    have h1 := (h d (.head _)).1
    have h2 := valI_pos (n := n) (ds := r) fun x hx => h x (.tail _ hx)
    have h3 : 0 ≤ (2 ^ n : Int) * valI n r := Int.mul_nonneg (by exact_mod_cast Nat.zero_le _) h2
    rw [valI]; omega
theorem valI_lt {n : Nat} : ∀ {ds : List Int}, Figs n ds → valI n ds < 2 ^ (ds.length * n)
  | [], _ => by simp [valI]
  | d :: r, h => by
    have h1 := (h d (.head _)).2
    have h2 := valI_lt (n := n) (ds := r) fun x hx => h x (.tail _ hx)
    have p : (0 : Int) ≤ 2 ^ n := by exact_mod_cast Nat.zero_le _
    have h3 : (2 ^ n : Int) * (valI n r + 1) ≤ 2 ^ n * 2 ^ (r.length * n) := Int.mul_le_mul_of_nonneg_left (by omega) p
    rw [Int.mul_add, Int.mul_one] at h3
    rw [valI, List.length_cons, Nat.succ_mul, Int.pow_add, Int.mul_comm (2 ^ (r.length * n))]
    push_cast at *
    omega
noncomputable def cut (ns : List Int) (a b : Nat) : List Int := (ns.drop a).take (b - a)
theorem cut_one {ns : List Int} {a : Nat} {x : Int} (h : ns[a]? = some x) : cut ns a (a + 1) = [x] := by
  unfold cut
  have ha := (List.getElem?_eq_some_iff.mp h).1
  rw [show a + 1 - a = 1 by omega, List.drop_eq_getElem_cons ha]
  have := (List.getElem?_eq_some_iff.mp h).2
  rw [this]; rfl
theorem cut_app {ns : List Int} {a m b : Nat} (h1 : a ≤ m) (h2 : m ≤ b) : cut ns a b = cut ns a m ++ cut ns m b := by
  unfold cut
  rw [show b - a = (m - a) + (b - m) by omega, List.take_add, List.drop_drop, show a + (m - a) = m by omega]
theorem cut_length {ns : List Int} {a b : Nat} (h : b ≤ ns.length) : (cut ns a b).length = b - a := by
  unfold cut
  rw [List.length_take, List.length_drop]; omega
theorem cut_all (ns : List Int) : cut ns 0 ns.length = ns := by simp [cut]
theorem cut_figs {n : Nat} {ns : List Int} (h : Figs n ns) (a b : Nat) : Figs n (cut ns a b) := fun d hd => h d (List.mem_of_mem_drop (List.mem_of_mem_take hd))
section
variable {prog : Program} {w : World} {A : Around} {E : Value → Shared → Prop} {s : Shared} {Q : Value → Shared → Prop}
theorem shl_int {x : Int} {k : Nat} {t u : Tok} (h0 : 0 ≤ x) (hx : x < 2 ^ 200) (hk : k ≤ 1000000) (h : ∀ tk, Q (.int (x * 2 ^ k) tk) { s with toks := tk + 1 }) : wpAny (model prog w) A (binaryOp .LShift (.int x t) (.int k u)) Q E s := by
  obtain ⟨y, rfl⟩ := Int.eq_ofNat_of_zero_le h0
  have hb : bitsOf y ≤ 200 := bitsOf_le (by exact_mod_cast hx)
  refine lshift_int (Int.natCast_nonneg _) (by show ((bitsOf y : Nat) : Int) + k ≤ _; omega) ?_
  rw [Int.toNat_natCast]; exact h _
theorem item_G {g : Heap} {L D : Addr} {m : Str → Option Value} {vs : List Value} {e : Nat} {k : Int} {u : Tok} {value slice : PySem.Expr} (F : Fr g L s.heap m) (hg : g.get? D = some (listOf vs.toArray e)) (h0 : 0 ≤ k) (h1 : k < vs.length) (hfit : k < 2 ^ 63) (h : ∀ x, vs[k.toNat]? = some x → Q x s)
    (hs : subscripted slice false (.ref D) (.int k u) = operate [.ref D, .int k u] (getItem (.ref D) (.int k u)) := by with_unfolding_all rfl) :
    wpAny (model prog w) A (subscriptTail value slice (.ref D) (.int k u)) Q E s := by
  have hl : s.heap.IsList D vs.toArray := PySem.IsL.isList (n := e) (F.keep _ _ hg)
  have hi : k.toNat < vs.length := by omega
  exact tail_any hl.typeIs slot_list_getitem.lookup (wpAny_getItem_list hl h0 hfit (by simp [List.getElem?_eq_getElem hi]) (h _ (List.getElem?_eq_getElem hi))) hs
end
theorem ints_get {vs : List Value} {ns : List Int} (h : IntsAre vs ns) {i : Nat} {x : Value} (hx : vs[i]? = some x) : ∃ k t, x = .int k t ∧ ns[i]? = some k := by
  induction h generalizing i with
  | nil => simp at hx
  | cons k t _ ih =>
    cases i with
    | zero => simp at hx; exact ⟨k, t, hx.symm, rfl⟩
    | succ i => simpa using ih (by simpa using hx)
end Mine
namespace Mine
section
variable {prog : Program} {w : World} {A : Around} {E : Value → Shared → Prop} {s : Shared} {g : Heap} {L D : Addr} {m : Str → Option Value} {vs : List Value} {n : Nat}
theorem len_G {Q : Value → Shared → Prop} (F : Fr g L s.heap m) (hg : g.get? D = some (listOf vs.toArray n)) (hfit : vs.length ≤ 1000000) (h : ∀ t tk, Q (.int (vs.length : Int) t) { s with toks := tk }) :
    wpAny (model prog w) A (call (.builtin "len") [.ref D]) Q E s := by
  have hl : s.heap.IsList D vs.toArray := PySem.IsL.isList (n := n) (F.keep _ _ hg)
  have e : vs.toArray.size = vs.length := List.size_toArray ..
  exact len_list hl (by rw [e]; omega) (by rw [e]; exact h _ _)
theorem truthy_G {Q : Bool → Shared → Prop} (F : Fr g L s.heap m) (hg : g.get? D = some (listOf vs.toArray n)) (hfit : vs.length ≤ 1000000) (h : ∀ tk, Q (decide (0 < vs.length)) { s with toks := tk }) :
    wpAny (model prog w) A (truthy (.ref D)) Q E s := by
  have hl : s.heap.IsList D vs.toArray := PySem.IsL.isList (n := n) (F.keep _ _ hg)
  have e : vs.toArray.size = vs.length := List.size_toArray ..
  have e2 : (!vs.toArray.isEmpty) = decide (0 < vs.length) := by cases vs <;> simp
  exact wpAny_truthy_list hl (by rw [e]; omega) (by rw [e2]; exact h _)
end
end Mine
-- B4
namespace Mine
/-- the end of a turn of a for -/
noncomputable def FPost {σ : Type} (h₀ : Heap) (L : Addr) (s : Shared) (vars : σ → List (Str × Value)) (Led : σ → List (Addr × Obj)) (Inv : σ → Prop) (own : List (Addr × Obj)) (I : Addr) (Q : Flow → Shared → Prop) (f : Flow) (s₂ : Shared) : Prop :=
  match f with
  | .ret v => Q (.ret v) s₂
  | .brk => Q .next s₂
  | _ => ∃ (c' : σ) (h' : Heap) (tk : Nat) (m' : Str → Option Value) (news' : List (Addr × Obj)), s₂ = { s with heap := h', toks := tk } ∧ Fr h₀ L h' m' ∧ News h₀ L h' news' ∧ (∀ p ∈ own, p ∈ news') ∧ (∀ p ∈ Led c', p ∈ news') ∧ (∀ p ∈ Led c', p.1 ≠ I) ∧ VarsIn m' (vars c') ∧ Inv c'
section
variable {σ : Type} {h₀ : Heap} {L : Addr} {s : Shared} {vars : σ → List (Str × Value)} {Led : σ → List (Addr × Obj)} {Inv : σ → Prop} {own : List (Addr × Obj)} {I : Addr} {Q : Flow → Shared → Prop} {h' : Heap} {tk : Nat} {m' : Str → Option Value} {news' : List (Addr × Obj)}
theorem FPost.next (c' : σ) (F : Fr h₀ L h' m') (N : News h₀ L h' news') (ho : ∀ p ∈ own, p ∈ news') (hl : ∀ p ∈ Led c', p ∈ news') (hi : ∀ p ∈ Led c', p.1 ≠ I) (hk : VarsIn m' (vars c')) (hp : Inv c') : FPost h₀ L s vars Led Inv own I Q .next { s with heap := h', toks := tk } :=
  ⟨c', h', tk, m', news', rfl, F, N, ho, hl, hi, hk, hp⟩
theorem FPost.ret {v : Value} {s₂ : Shared} (h : Q (.ret v) s₂) : FPost h₀ L s vars Led Inv own I Q (.ret v) s₂ := h
end
section
variable {prog : Program} {w : World} {A : Around} {s : Shared} {env : Env} {h₀ : Heap} {x : Str} {body : List Stmt} {Q : Flow → Shared → Prop}
/-- a walk of an iterator I over the list l -/
theorem loop_by {σ : Type} {I l : Addr} {lo : Obj} {n : Nat} {P : Nat → Value → Prop} {St : Nat → Heap → Prop} (vars : σ → List (Str × Value)) (Led : σ → List (Addr × Obj)) (Inv : Nat → σ → Prop) (c₀ : σ) {m₀ : Str → Option Value} {io : Obj}
    (W : Walks prog w A I [I, l] [I] n P St) (hlive : ∀ i h, St i h → ∃ it, h.get? I = some it) (hst : St 0 s.heap) (F : Fr h₀ env.locals s.heap m₀) (N : News h₀ env.locals s.heap ((I, io) :: (l, lo) :: Led c₀)) (hl : l ≠ I) (hI : ∀ p ∈ Led c₀, p.1 ≠ I) (hk : VarsIn m₀ (vars c₀)) (hp : Inv 0 c₀)
    (turn : ∀ (i : Nat) (c : σ) (v : Value) (it : Obj) (u : Str → Option Value) (h : Heap) (tk : Nat), i < n → P i v → Inv i c → (∀ p ∈ (l, lo) :: Led c, p.1 ≠ I) → Fr h₀ env.locals h (fun y => if y = x then some v else kstB u (vars c) y) → News h₀ env.locals h ((I, it) :: (l, lo) :: Led c) →
      wpAny (model prog w) A (execs body env) (FPost h₀ env.locals { s with heap := h, toks := tk } vars Led (Inv (i + 1)) [(I, it), (l, lo)] I Q) (fun _ _ => False) { s with heap := h, toks := tk })
    (done : ∀ (c : σ) (u : Str → Option Value) (h : Heap) (tk : Nat), Inv n c → Fr h₀ env.locals h (kstB u (vars c)) → News h₀ env.locals h ((l, lo) :: Led c) → Q .next { s with heap := h, toks := tk }) :
    LoopAtV prog w A h₀ env x body Q (fun _ _ => False) (.ref I) s := by
  have hIx := N _ (.head _)
  have hlx := N (l, lo) (.tail _ (.head _))
  refine ⟨I, [I, l], [I], n, P, St, m₀, (l, lo) :: Led c₀, fun i m₁ news₁ => ∃ c, news₁ = (l, lo) :: Led c ∧ VarsIn m₁ (vars c) ∧ Inv i c, rfl, W, ?_, ?_, ?_, hst, F, fun p hp => N p (.tail _ hp), ⟨c₀, rfl, hk, hp⟩, ?_, ?_⟩
  · intro hm
    rcases List.mem_cons.mp hm with e | hm
    · exact hIx.2.1 e.symm
    · exact hlx.2.1 (List.mem_singleton.mp hm).symm
  · intro b hb
    rw [List.mem_singleton.mp hb]; exact hIx.2.2
  · intro p hp hm
    have e := List.mem_singleton.mp hm
    rcases List.mem_cons.mp hp with rfl | hp
    · exact hl e
    · exact hI p hp e
  · rintro i v m₁ news₁ s₁ own ⟨h1, tk1, rfl⟩ hin hP ⟨c, rfl, hv, hinv⟩ hoff hown hget hall hst₁ F₁ N₁
    have hne : ∀ p ∈ (l, lo) :: Led c, p.1 ≠ I := fun p hp e => hoff p hp (by rw [e]; exact .head _)
    have em : (fun y => if y = x then some v else m₁ y) = fun y => if y = x then some v else kstB m₁ (vars c) y := by
      funext y
      rw [kstB_eq hv (fun _ => rfl)]
    rw [em] at F₁
    obtain ⟨it, hit⟩ := hlive _ _ hst₁
    have N₂ : News h₀ env.locals h1 ((I, it) :: (l, lo) :: Led c) := fun p hp => by
      rcases List.mem_cons.mp hp with rfl | hp
      · exact N₁ _ (List.mem_append_left _ (hall I (.head _) hIx.2.2 _ hit))
      · exact N₁ _ (List.mem_append_right _ hp)
    refine wpAny_mono (turn i c v it m₁ h1 tk1 hin hP hinv hne F₁ N₂) (fun f s₂ p => ?_) fun _ _ e => e
    have fin : (∃ (c' : σ) (h' : Heap) (tk : Nat) (m' : Str → Option Value) (news' : List (Addr × Obj)), s₂ = { s with heap := h', toks := tk } ∧ Fr h₀ env.locals h' m' ∧ News h₀ env.locals h' news' ∧ (∀ p ∈ [(I, it), (l, lo)], p ∈ news') ∧ (∀ p ∈ Led c', p ∈ news') ∧ (∀ p ∈ Led c', p.1 ≠ I) ∧ VarsIn m' (vars c') ∧ Inv (i + 1) c') →
        LoopStepU h₀ env.locals [I] own (fun m₁ news₁ => ∃ c, news₁ = (l, lo) :: Led c ∧ VarsIn m₁ (vars c) ∧ Inv (i + 1) c) { s with heap := h1, toks := tk1 } .next s₂ := by
      rintro ⟨c', h', tk, m', news', e, F', N', ho, hL, hLI, hv', hinv'⟩
      refine ⟨rfl, h', tk, m', (l, lo) :: Led c', e, F', fun p hp => ?_, fun p hp hm => ?_, c', rfl, hv', hinv'⟩
      · rcases List.mem_append.mp hp with hp | hp
        · have h2 : h1.get? p.1 = some p.2 := hget p hp
          rcases List.mem_cons.mp (hown p hp) with h3 | h3
          · have : p = (I, it) := by
              rw [h3, hit] at h2
              exact Prod.ext h3 (Option.some.inj h2).symm
            rw [this]; exact N' _ (ho _ (.head _))
          · have h3' : p.1 = l := List.mem_singleton.mp h3
            have : p = (l, lo) := by
              rw [h3', (N₂ (l, lo) (.tail _ (.head _))).1] at h2
              exact Prod.ext h3' (Option.some.inj h2).symm
            rw [this]; exact N' _ (ho _ (.tail _ (.head _)))
        · rcases List.mem_cons.mp hp with rfl | hp
          · exact N' _ (ho _ (.tail _ (.head _)))
          · exact N' _ (hL _ hp)
      · have e := List.mem_singleton.mp hm
        rcases List.mem_cons.mp hp with rfl | hp
        · exact hl e
        · exact hLI p hp e
    cases f with
    | ret v => exact .ret p
    | brk => exact .brk p
    | next => exact .next (fin p)
    | cont => exact .cont (fin p)
  · rintro h' tk m' news' F' N' _ ⟨c, rfl, hv, hinv⟩
    exact done c m' h' tk hinv (fr_kstB hv F') N'

/-- for over a list of the ledger -/
theorem iter_by {σ : Type} {l : Addr} {vs : List Value} {e : Nat} (vars : σ → List (Str × Value)) (Led : σ → List (Addr × Obj)) (Inv : Nat → σ → Prop) (c₀ : σ) {m₀ : Str → Option Value} {news₀ : List (Addr × Obj)}
    (hh : A.handled = none) (F : Fr h₀ env.locals s.heap m₀) (N : News h₀ env.locals s.heap news₀) (hl : (l, listOf vs.toArray e) ∈ news₀) (hL : ∀ p ∈ Led c₀, p ∈ news₀) (hk : VarsIn m₀ (vars c₀)) (hp : Inv 0 c₀)
    (turn : ∀ (I : Addr) (i : Nat) (c : σ) (v : Value) (it : Obj) (u : Str → Option Value) (h : Heap) (tk : Nat), (∀ q ∈ news₀, q.1 < I) → vs[i]? = some v → Inv i c → (∀ p ∈ (l, listOf vs.toArray e) :: Led c, p.1 ≠ I) → Fr h₀ env.locals h (fun y => if y = x then some v else kstB u (vars c) y) → News h₀ env.locals h ((I, it) :: (l, listOf vs.toArray e) :: Led c) →
      wpAny (model prog w) A (execs body env) (FPost h₀ env.locals { s with heap := h, toks := tk } vars Led (Inv (i + 1)) [(I, it), (l, listOf vs.toArray e)] I Q) (fun _ _ => False) { s with heap := h, toks := tk })
    (done : ∀ (c : σ) (u : Str → Option Value) (h : Heap) (tk : Nat), Inv vs.length c → Fr h₀ env.locals h (kstB u (vars c)) → News h₀ env.locals h ((l, listOf vs.toArray e) :: Led c) → Q .next { s with heap := h, toks := tk }) :
    wpAny (model prog w) A (pyIter (.ref l)) (fun it s₂ => LoopAtV prog w A h₀ env x body Q (fun _ _ => False) it s₂) (fun _ _ => False) s := by
  have hlt : ∀ q ∈ news₀, q.1 < s.heap.objs.size := fun q hq => Heap.lt_size (N q hq).1
  have hls : s.heap.IsList l vs.toArray := PySem.IsL.isList (n := e) (N _ hl).1
  refine wpAny_pyIter_list hls ?_
  have hne : l ≠ s.heap.objs.size := Nat.ne_of_lt (hlt _ hl)
  have W := Walks.list (prog := prog) (w := w) hh s.heap.objs.size l hne vs.toArray
  have hlen : vs.toArray.size = vs.length := List.size_toArray ..
  rw [hlen] at W
  refine loop_by (io := { cls := .type "list_iterator", data := .fields #[.ref l, .int 0 0] }) (lo := listOf vs.toArray e) vars Led Inv c₀ W (fun i h hs => let ⟨o, ho, _⟩ := hs.1; ⟨o, ho⟩) ⟨⟨_, Heap.get?_push_size _ rfl, rfl, rfl⟩, hls.at fun o e => Heap.get?_push_of_some _ e⟩ (F.push _)
    (fun q hq => ?_) hne (fun q hq => Nat.ne_of_lt (hlt _ (hL q hq))) hk hp ?_ done
  · have N' := News.push F N { cls := Value.type "list_iterator", data := Data.fields #[.ref l, .int 0 0] }
    rcases List.mem_cons.mp hq with rfl | hq
    · exact N' _ (.head _)
    · rcases List.mem_cons.mp hq with rfl | hq
      · exact N' _ (.tail _ hl)
      · exact N' _ (.tail _ (hL _ hq))
  · intro i c v it u h tk hin hP hinv hne' F' N'
    exact turn _ i c v it u h tk hlt (by simpa using hP) hinv hne' F' N'
/-- for over reversed(list) of the ledger -/
theorem iter_rev_by {σ : Type} {l I : Addr} {vs : List Value} {e : Nat} (vars : σ → List (Str × Value)) (Led : σ → List (Addr × Obj)) (Inv : Nat → σ → Prop) (c₀ : σ) {m₀ : Str → Option Value} {news₀ : List (Addr × Obj)}
    (hh : A.handled = none) (F : Fr h₀ env.locals s.heap m₀) (N : News h₀ env.locals s.heap ((I, revObj l ((vs.length : Int) - 1)) :: news₀)) (hIlt : ∀ q ∈ news₀, q.1 < I) (hl : (l, listOf vs.toArray e) ∈ news₀) (hL : ∀ p ∈ Led c₀, p ∈ news₀) (hk : VarsIn m₀ (vars c₀)) (hp : Inv 0 c₀)
    (turn : ∀ (i : Nat) (c : σ) (v : Value) (it : Obj) (u : Str → Option Value) (h : Heap) (tk : Nat), vs.reverse[i]? = some v → Inv i c → (∀ p ∈ (l, listOf vs.toArray e) :: Led c, p.1 ≠ I) → Fr h₀ env.locals h (fun y => if y = x then some v else kstB u (vars c) y) → News h₀ env.locals h ((I, it) :: (l, listOf vs.toArray e) :: Led c) →
      wpAny (model prog w) A (execs body env) (FPost h₀ env.locals { s with heap := h, toks := tk } vars Led (Inv (i + 1)) [(I, it), (l, listOf vs.toArray e)] I Q) (fun _ _ => False) { s with heap := h, toks := tk })
    (done : ∀ (c : σ) (u : Str → Option Value) (h : Heap) (tk : Nat), Inv vs.length c → Fr h₀ env.locals h (kstB u (vars c)) → News h₀ env.locals h ((l, listOf vs.toArray e) :: Led c) → Q .next { s with heap := h, toks := tk }) :
    wpAny (model prog w) A (pyIter (.ref I)) (fun it s₂ => LoopAtV prog w A h₀ env x body Q (fun _ _ => False) it s₂) (fun _ _ => False) s := by
  have hls : s.heap.IsList l vs.toArray := PySem.IsL.isList (n := e) (N _ (.tail _ hl)).1
  have hit : s.heap.IsRevIter I l ((vs.length : Int) - 1) := ⟨_, (N _ (.head _)).1, rfl, rfl⟩
  refine wpAny_pyIter_revIter hit ?_
  have hne : l ≠ I := Nat.ne_of_lt (hIlt _ hl)
  have W := Walks.listRev (prog := prog) (w := w) hh I l hne vs.toArray
  have hlen : vs.toArray.size = vs.length := List.size_toArray ..
  rw [hlen] at W
  refine loop_by (io := revObj l ((vs.length : Int) - 1)) (lo := listOf vs.toArray e) vars Led Inv c₀ W (fun i h hs => let ⟨o, ho, _⟩ := hs.2.1; ⟨o, ho⟩) ⟨Nat.zero_le _, by simpa using hit, hls⟩ F
    (fun q hq => ?_) hne (fun q hq => Nat.ne_of_lt (hIlt _ (hL q hq))) hk hp ?_ done
  · rcases List.mem_cons.mp hq with rfl | hq
    · exact N _ (.head _)
    · rcases List.mem_cons.mp hq with rfl | hq
      · exact N _ (.tail _ hl)
      · exact N _ (.tail _ (hL _ hq))
  · intro i c v it u h tk hin hP hinv hne' F' N'
    refine turn i c v it u h tk ?_ hinv hne' F' N'
    rw [List.getElem?_reverse hin]
    simpa using hP
end
end Mine
namespace Mine
noncomputable def ql35 : Str := (Str.ofString "_int2digits" ++ Str.ofString ".<locals>.") ++ Str.ofString "inner"
noncomputable def ql42 : Str := (Str.ofString "_digits2int" ++ Str.ofString ".<locals>.") ++ Str.ofString "inner"
/-- the two tables of code and what they hold -/
structure Tabs where
  p1 : Array Value
  c1 : Addr
  o1 : Obj
  p2 : Array Value
  c2 : Addr
  o2 : Obj
abbrev Tabs.led (T : Tabs) : List (Addr × Obj) := [(30, tabObj T.p1), (T.c1, T.o1), (37, tabObj T.p2), (T.c2, T.o2)]
structure Tabs.Ok (T : Tabs) : Prop where
  t1 : TabIs 32 4 ql35 T.p1 T.c1 T.o1
  t2 : TabIs 47 4 ql42 T.p2 T.c2 T.o2
  n1 : @Ne Nat T.c1 30
  n2 : @Ne Nat T.c1 37
  n3 : @Ne Nat T.c1 T.c2
  n4 : @Ne Nat T.c2 30
  n5 : @Ne Nat T.c2 37
theorem digs_get (n : Nat) : ∀ (k x j : Nat), j < k → (digs n x k)[j]? = some ((x / 2 ^ (j * n) % 2 ^ n : Nat) : Int)
  | k + 1, x, 0, _ => by simp [digs]
  | k + 1, x, j + 1, h => by
    rw [digs, List.getElem?_cons_succ, digs_get n k _ j (by omega), Nat.div_div_eq_div_mul, ← Nat.pow_add, Nat.succ_mul, Nat.add_comm n]
/-- one step of the long division -/
theorem long_step {a b n : Nat} (hb : 0 < b) (hbn : b < 2 ^ n) (m : Nat) : let A := a / 2 ^ (m * n); let A0 := a / 2 ^ ((m + 1) * n); let d := A % 2 ^ n; let y := A0 % b * 2 ^ n + d
    y / b < 2 ^ n ∧ A % b = y % b ∧ A / b = A0 / b * 2 ^ n + y / b := by
  intro A A0 d y
  have h0 : A0 = A / 2 ^ n := by
    show a / 2 ^ ((m + 1) * n) = a / 2 ^ (m * n) / 2 ^ n
    rw [Nat.div_div_eq_div_mul, ← Nat.pow_add, Nat.succ_mul]
  have h1 : A = A0 * 2 ^ n + d := by
    rw [h0, Nat.mul_comm]; exact (Nat.div_add_mod A (2 ^ n)).symm
  have h2 : A0 = b * (A0 / b) + A0 % b := (Nat.div_add_mod A0 b).symm
  have h3 : A = y + b * (A0 / b * 2 ^ n) := by
    have : A0 * 2 ^ n = b * (A0 / b) * 2 ^ n + A0 % b * 2 ^ n := by rw [← Nat.add_mul, ← h2]
    rw [h1, this, Nat.mul_assoc]
    show _ = A0 % b * 2 ^ n + d + _
    omega
  have hd : d < 2 ^ n := Nat.mod_lt _ (Nat.two_pow_pos _)
  have hr : A0 % b < b := Nat.mod_lt _ hb
  refine ⟨?_, ?_, ?_⟩
  · rw [Nat.div_lt_iff_lt_mul hb]
    have : (A0 % b + 1) * 2 ^ n ≤ b * 2 ^ n := Nat.mul_le_mul_right _ hr
    rw [Nat.add_mul, Nat.one_mul] at this
    rw [Nat.mul_comm (2 ^ n)]
    show A0 % b * 2 ^ n + d < _
    omega
  · rw [h3, Nat.add_mul_mod_self_left]
  · rw [h3, Nat.add_mul_div_left _ _ hb, Nat.add_comm]
end Mine
namespace Mine
theorem reverse_g {prog : Program} {w : World} {A : Around} {E : Value → Shared → Prop} {s : Shared} {h₀ : Heap} {L D : Addr} {m : Str → Option Value} {news news' : List (Addr × Obj)} {vs : List Value} {n : Nat} {Q : Value → Shared → Prop} (F : Fr h₀ L s.heap m) (N : News h₀ L s.heap news) (U : Upd D (listOf vs.toArray n) (listOf vs.reverse.toArray n) news news') (hfit : vs.length ≤ 1000000)
    (h : ∀ h', Fr h₀ L h' m → News h₀ L h' news' → Q .none { s with heap := h' }) : wpAny (model prog w) A (call (.builtin "list.reverse") [.ref D]) Q E s :=
  kl_reverse F N rfl U (by show vs.length ≤ _; rw [sizeLine_eq]; omega) h
theorem ints_append {vs ws : List Value} {ns ms : List Int} (h : IntsAre vs ns) (k : IntsAre ws ms) : IntsAre (vs ++ ws) (ns ++ ms) := by
  induction h with
  | nil => exact k
  | cons i t _ ih => exact .cons i t ih
theorem ints_reverse {vs : List Value} {ns : List Int} (h : IntsAre vs ns) : IntsAre vs.reverse ns.reverse := by
  induction h with
  | nil => exact .nil
  | cons i t _ ih => rw [List.reverse_cons, List.reverse_cons]; exact ints_append ih (.cons i t .nil)
end Mine
namespace Mine
noncomputable def AllNe' (d : Addr) : List (Addr × Obj) → Prop
  | [] => True
  | p :: r => @Ne Nat d p.1 ∧ AllNe' d r
theorem allNe_of' {d : Addr} : ∀ {l : List (Addr × Obj)}, (∀ p ∈ l, d ≠ p.1) → AllNe' d l
  | [], _ => trivial
  | p :: _, h => ⟨h p (.head _), allNe_of' fun q hq => h q (.tail _ hq)⟩
end Mine
namespace Mine
theorem ne_of_all {d : Addr} : ∀ {l : List (Addr × Obj)}, AllNe d l → ∀ p ∈ l, p.1 ≠ d
  | [], _, _, hp => (nomatch hp)
  | q :: r, h, p, hp => by
    rcases List.mem_cons.mp hp with rfl | hp
    · exact h.1
    · exact ne_of_all h.2 p hp
theorem ltOf {d : Addr} {l : List (Addr × Obj)} (h : AllLt d l) : ∀ p ∈ l, p.1 < d := ktn_ltOf h
theorem half_lt {lo m hi k : Nat} (h : hi - lo = k) (a : lo < m) (b : m < hi) : m - lo < k ∧ hi - m < k :=
  ⟨h ▸ Nat.sub_lt_sub_right (Nat.le_of_lt a) b, h ▸ Nat.sub_lt_sub_left (Nat.lt_trans a b) a⟩
theorem half_add {lo m hi : Nat} (a : lo < m) (b : m < hi) : hi - m + (m - lo) = hi - lo ∧ hi - lo = (m - lo) + (hi - m) := by omega
theorem half_mid {lo hi : Nat} (h : lo + 1 < hi) : lo < (lo + hi) / 2 ∧ (lo + hi) / 2 < hi := by omega
theorem half_le {lo hi N : Nat} (h : hi ≤ N) (b : N ≤ 64) : hi - lo ≤ 64 := by omega
theorem room_dep {A : Around} {e : Env} {k d : Nat} (h : A.depth + (k + 1) < recursionLimit) (hd : d < k) : (A.deeper e).depth + (d + 1) < recursionLimit := by rw [depth_deeper]; omega
theorem room_unit {A : Around} {e : Env} {k d : Nat} (h : A.units + (3 * k + 20) < cLine) (hd : d < k) : (A.deeper e).units + (3 * d + 20) < cLine := by rw [units_deeper]; omega
end Mine
-- B5
section
open PySem.Builtin PySem.Builtin.Str
namespace Mine
theorem gives_find4 (x y : PySem.Str) (i j : Int) (t u v w : Tok) : Gives («str.find» ⟨[.str x t, .str y u, .int i v, .int j w], []⟩) (.int (match occurrences x y (fromIndex x.length i) (min (fromIndex x.length j) x.length) 1 with | k :: _ => (k : Int) | [] => -1)) := by
  show Gives (match occurrences x y (fromIndex x.length i) (min (fromIndex x.length j) x.length) 1 with | k :: _ => retInt k | [] => (do rule "str.find.not-found"; retInt (-1))) _
  cases occurrences x y (fromIndex x.length i) (min (fromIndex x.length j) x.length) 1 with
  | nil => exact .rule (.of_eq rfl)
  | cons k _ => exact .of_eq rfl
noncomputable def find4 (x y : PySem.Str) (i : Nat) : Int := match occurrences x y i x.length 1 with | k :: _ => (k : Int) | [] => -1
theorem call_find4 {prog : Program} {w : World} {A : Around} {E : Value → Shared → Prop} {s : Shared} {x y : PySem.Str} {t u v v' : Tok} {i : Nat} {Q : Value → Shared → Prop} (h : ∀ t' tk, Q (.int (find4 x y i) t') { s with toks := tk }) :
    wpAny (model prog w) A (call (.builtin "str.find") [.str x t, .str y u, .int i v, .int x.length v']) Q E s := by
  refine call_gives F.slot_str_find (typeIs_str _ _ _) F.entry_str_find (F.args_str_find_4 _ _ _ _) (gives_find4 x y i x.length t u v v') ?_
  have e1 : fromIndex x.length (i : Int) = i := by unfold fromIndex; rw [if_neg (by omega)]; omega
  have e2 : min (fromIndex x.length (x.length : Int)) x.length = x.length := by
    have : fromIndex x.length (x.length : Int) = x.length := by unfold fromIndex; rw [if_neg (by omega)]; omega
    rw [this, Nat.min_self]
  rw [e1, e2]
  exact h _ _
/-- is the one a subsequence of the other -/
noncomputable def subL : List Nat → List Nat → Bool
  | [], _ => true
  | _ :: _, [] => false
  | c :: cs, g :: gs => if c == g then subL cs gs else subL (c :: cs) gs
theorem subL_none {c : Nat} {cs : List Nat} : ∀ {gs : List Nat}, (∀ j : Nat, gs[j]? ≠ some c) → subL (c :: cs) gs = false
  | [], _ => rfl
  | g :: gs, h => by
    have h0 : (c == g) = false := by
      rw [beq_eq_false_iff_ne]; intro e; exact h 0 (by rw [e]; rfl)
    rw [subL, h0]
    exact subL_none (fun j => by simpa using h (j + 1))
theorem subL_some {c : Nat} {cs : List Nat} : ∀ {gs : List Nat} {k : Nat}, gs[k]? = some c → (∀ j : Nat, j < k → gs[j]? ≠ some c) → subL (c :: cs) gs = subL cs (gs.drop (k + 1))
  | [], k, h, _ => by simp at h
  | g :: gs, 0, h, _ => by
    have : g = c := by simpa using h
    subst this
    simp [subL]
  | g :: gs, k + 1, h, hn => by
    have h0 : (c == g) = false := by
      rw [beq_eq_false_iff_ne]; intro e; exact hn 0 (Nat.zero_lt_succ _) (by rw [e]; rfl)
    rw [subL, h0]
    exact subL_some (by simpa using h) (fun j hj => by simpa using hn (j + 1) (by omega))
noncomputable def one (c : Nat) : PySem.Str := ⟨#[c]⟩
noncomputable def strOf (gs : List Nat) : PySem.Str := ⟨gs.toArray⟩
theorem strOf_length (gs : List Nat) : (strOf gs).length = gs.length := by simp [strOf, PySem.Str.length]
open StrLaws in
theorem at_one (gs : List Nat) (c i : Nat) : At (strOf gs) (one c) (strOf gs).length i ↔ gs[i]? = some c := by
  unfold At
  rw [subAt_eq, strOf_length]
  have e1 : (one c).length = 1 := rfl
  have e2 : (strOf gs).cps.toList = gs := rfl
  have e3 : (one c).cps.toList = [c] := rfl
  rw [e1, e2, e3]
  constructor
  · rintro ⟨h1, h2⟩
    have h3 := eq_of_beq h2
    have hi : i < gs.length := by omega
    rw [List.drop_eq_getElem_cons hi] at h3
    rw [List.getElem?_eq_getElem hi]
    exact congrArg some (List.cons.inj h3).1
  · intro h
    have hi := (List.getElem?_eq_some_iff.mp h).1
    have hv := (List.getElem?_eq_some_iff.mp h).2
    refine ⟨by omega, ?_⟩
    rw [List.drop_eq_getElem_cons hi, hv]
    simp
open StrLaws in
theorem find4_one (gs : List Nat) (c i : Nat) : (find4 (strOf gs) (one c) i = -1 ∧ ∀ k : Nat, i ≤ k → gs[k]? ≠ some c) ∨ ∃ k : Nat, find4 (strOf gs) (one c) i = (k : Int) ∧ i ≤ k ∧ gs[k]? = some c ∧ ∀ j : Nat, i ≤ j → j < k → gs[j]? ≠ some c := by
  unfold find4
  rcases occ_head_from (strOf gs) (one c) i 1 (Nat.le_refl _) with ⟨h1, h2⟩ | ⟨k, r, h1, h2, h3, h4⟩
  · rw [h1]; exact .inl ⟨rfl, fun k hk => fun e => h2 k hk ((at_one gs c k).mpr e)⟩
  · rw [h1]; exact .inr ⟨k, rfl, h2, (at_one gs c k).mp h3, fun j a b e => h4 j a b ((at_one gs c j).mpr e)⟩
open StrLaws in
theorem find4_empty (gs : List Nat) (i : Nat) (hi : i ≤ gs.length) : find4 (strOf gs) PySem.Str.empty i = (i : Int) := by
  have ha : ∀ k, k ≤ gs.length → At (strOf gs) PySem.Str.empty (strOf gs).length k := fun k hk => by
    unfold At
    rw [subAt_eq, strOf_length]
    exact ⟨hk, by simp [PySem.Str.empty, PySem.Str.length]⟩
  unfold find4
  rcases occ_head_from (strOf gs) PySem.Str.empty i 1 (Nat.le_refl _) with ⟨h1, h2⟩ | ⟨k, r, h1, h2, h3, h4⟩
  · exact absurd (ha i hi) (h2 i (Nat.le_refl _))
  · rw [h1]
    rcases Nat.lt_or_eq_of_le h2 with h | h
    · exact absurd (ha i hi) (h4 i (Nat.le_refl _) h)
    · rw [h]
end Mine
namespace Mine
theorem strs_cons {vs : List Value} {x : PySem.Str} {r : List PySem.Str} (h : StrsAre vs (x :: r)) : ∃ t vr, vs = .str x t :: vr ∧ StrsAre vr r := by
  cases h with
  | cons a u h => exact ⟨u, _, rfl, h⟩
theorem strs_snoc {vs : List Value} {x : PySem.Str} {r : List PySem.Str} (h : StrsAre vs (r ++ [x])) : ∃ t vr, vs = vr ++ [.str x t] ∧ StrsAre vr r := by
  rcases PyProof.Rows.strs_nil_or_snoc h with ⟨_, e⟩ | ⟨vi, yi, y, t, rfl, e, hi⟩
  · simp at e
  · obtain ⟨rfl, e2⟩ := List.append_inj' e rfl
    cases e2
    exact ⟨t, vi, rfl, hi⟩
theorem strs_get {vs : List Value} {xs : List PySem.Str} (h : StrsAre vs xs) {i : Nat} {v : Value} (hv : vs[i]? = some v) : ∃ x t, v = .str x t ∧ xs[i]? = some x := by
  induction h generalizing i with
  | nil => simp at hv
  | cons a u _ ih =>
    cases i with
    | zero => simp at hv; exact ⟨a, u, hv.symm, rfl⟩
    | succ i => simpa using ih (by simpa using hv)
end Mine
namespace Mine
noncomputable def codesOf (ps : List PySem.Str) : List Nat := ps.flatMap (fun p => p.cps.toList)
theorem codesOf_pieces (cs : List Nat) : codesOf (PySem.Str.empty :: (cs.map one ++ [PySem.Str.empty])) = cs := by
  have h : ∀ l : List Nat, (l.map one).flatMap (fun p => p.cps.toList) = l := by
    intro l
    induction l with
    | nil => rfl
    | cons a r ih => rw [List.map_cons, List.flatMap_cons, ih]; rfl
  unfold codesOf
  rw [List.flatMap_cons, List.flatMap_append, h]
  show [] ++ (cs ++ ([] ++ [])) = cs
  simp
theorem piece_kind {cs : List Nat} {p : PySem.Str} (h : p ∈ PySem.Str.empty :: (cs.map one ++ [PySem.Str.empty])) : p = PySem.Str.empty ∨ ∃ c, p = one c := by
  rcases List.mem_cons.mp h with rfl | h
  · exact .inl rfl
  · rcases List.mem_append.mp h with h | h
    · obtain ⟨c, _, rfl⟩ := List.mem_map.mp h
      exact .inr ⟨c, rfl⟩
    · exact .inl (List.mem_singleton.mp h)
theorem codesOf_drop {ps : List PySem.Str} {i : Nat} {p : PySem.Str} (h : ps[i]? = some p) : codesOf (ps.drop i) = p.cps.toList ++ codesOf (ps.drop (i + 1)) := by
  have hi := (List.getElem?_eq_some_iff.mp h).1
  have hv := (List.getElem?_eq_some_iff.mp h).2
  rw [List.drop_eq_getElem_cons hi, hv]; rfl
end Mine
end
-- B6
section
open PySem.Builtin PySem.Builtin.Str
namespace Mine
abbrev dots : PySem.Str := PySem.Str.ofString "..."
noncomputable def dotted (cs : List Nat) : List Nat := cs.flatMap fun c => [c, 46, 46, 46]
noncomputable def wantOf (cs : List Nat) : PySem.Str := Txt.join dots (PySem.Str.empty :: (cs.map one ++ [PySem.Str.empty]))
theorem dots_list : dots.cps.toList = [46, 46, 46] := by decide
theorem join_codes : ∀ cs : List Nat, (PySem.Str.join dots (PySem.Str.empty :: (cs.map one ++ [PySem.Str.empty]))).cps.toList = [46, 46, 46] ++ dotted cs ∧
    (PySem.Str.join dots (cs.map one ++ [PySem.Str.empty])).cps.toList = dotted cs
  | [] => ⟨by decide, by decide⟩
  | c :: r => by
    have ih := join_codes r
    have h1 : ∃ p q, r.map one ++ [PySem.Str.empty] = p :: q := by cases r <;> exact ⟨_, _, rfl⟩
    obtain ⟨p, q, e⟩ := h1
    have h2 : (PySem.Str.join dots ((c :: r).map one ++ [PySem.Str.empty])).cps.toList = dotted (c :: r) := by
      rw [List.map_cons, List.cons_append]
      have := ih.2
      rw [e] at this ⊢
      show ((one c) ++ dots ++ PySem.Str.join dots (p :: q)).cps.toList = _
      rw [PySem.Str.cps_append, PySem.Str.cps_append, Array.toList_append, Array.toList_append, this, dots_list]
      rfl
    refine ⟨?_, h2⟩
    show (PySem.Str.empty ++ dots ++ PySem.Str.join dots ((c :: r).map one ++ [PySem.Str.empty])).cps.toList = _
    rw [PySem.Str.cps_append, PySem.Str.cps_append, Array.toList_append, Array.toList_append, h2, dots_list]
    rfl
theorem want_codes (cs : List Nat) : (wantOf cs).cps.toList = [46, 46, 46] ++ dotted cs := by
  unfold wantOf Txt.join
  rw [StrLaws.glued_eq_join]
  exact (join_codes cs).1
theorem dotted_length : ∀ cs : List Nat, (dotted cs).length = 4 * cs.length
  | [] => rfl
  | c :: r => by
    show ([c, 46, 46, 46] ++ dotted r).length = _
    rw [List.length_append, dotted_length r, List.length_cons]
    simp; omega
theorem want_length (cs : List Nat) : (wantOf cs).length = 3 + 4 * cs.length := by
  have : (wantOf cs).length = (wantOf cs).cps.toList.length := by simp [PySem.Str.length]
  rw [this, want_codes, List.length_append, dotted_length]; rfl
open StrLaws in
theorem at_dots {W : PySem.Str} {i : Nat} : At W dots W.length i ↔ i + 3 ≤ W.length ∧ (W.cps.toList.drop i).take 3 = [46, 46, 46] := by
  unfold At
  rw [subAt_eq, dots_list]
  have e : dots.length = 3 := by decide
  rw [e, beq_iff_eq]
open StrLaws in
theorem parts_dotted {W : PySem.Str} : ∀ (rest : List Nat) (a f : Nat) (cuts : List Nat), W.cps.toList.drop a = dotted rest → a + 4 * rest.length = W.length → (∀ c ∈ rest, c ≠ 46) → ChainG W dots W.length a cuts f → (∀ k, f ≤ k → ¬ At W dots W.length k) →
    partsFrom W 3 a cuts = rest.map one ++ [PySem.Str.empty]
  | [], a, f, cuts, hd, hl, _, hG, _ => by
    have hl' : a = W.length := hl
    cases cuts with
    | nil =>
      show [strSub W a W.length] = _
      have : strSub W a W.length = PySem.Str.empty := by
        apply PySem.Str.ext'
        apply Array.toList_inj.mp
        rw [strSub_toList, hd]; simp [dotted, PySem.Str.empty]
      rw [this]; rfl
    | cons c0 r0 =>
      have h1 := hG.1
      have h2 := (at_dots.mp hG.2.1).1
      omega
  | c :: r, a, f, cuts, hd, hl, hc, hG, hn => by
    have hd' : W.cps.toList.drop a = c :: 46 :: 46 :: 46 :: dotted r := hd
    have hl' : a + 4 * (r.length + 1) = W.length := hl
    have hA : At W dots W.length (a + 1) := by
      refine at_dots.mpr ⟨by omega, ?_⟩
      rw [← List.drop_drop, hd']; rfl
    have hA0 : ¬ At W dots W.length a := fun h => by
      have := (at_dots.mp h).2
      rw [hd'] at this
      have := (List.cons.inj this).1
      exact hc c (.head _) this
    cases cuts with
    | nil =>
      have e : f = a := hG
      exact absurd hA (hn _ (by omega))
    | cons c0 r0 =>
      obtain ⟨h1, h2, h3, h4⟩ := hG
      have e0 : c0 = a + 1 := by
        rcases Nat.lt_trichotomy c0 (a + 1) with h | h | h
        · have : c0 = a := by omega
          subst this; exact absurd h2 hA0
        · exact h
        · exact absurd hA (h3 _ (by omega) h)
      subst e0
      have ih := parts_dotted r (a + 1 + 3) f r0 (by rw [show a + 1 + 3 = a + 4 by omega, ← List.drop_drop, hd']; rfl) (by omega) (fun d hd => hc d (.tail _ hd)) h4 hn
      show strSub W a (a + 1) :: partsFrom W 3 (a + 1 + 3) r0 = _
      rw [ih]
      have : strSub W a (a + 1) = one c := by
        apply PySem.Str.ext'
        apply Array.toList_inj.mp
        rw [strSub_toList, hd', show a + 1 - a = 1 by omega]; rfl
      rw [this]; rfl
open StrLaws in
theorem want_in (cs : List Nat) : At (wantOf cs) dots (wantOf cs).length 0 := by
  refine at_dots.mpr ⟨by rw [want_length]; omega, ?_⟩
  rw [want_codes]; rfl
open StrLaws in
theorem want_found (cs : List Nat) : (occurrences (wantOf cs) dots 0 (wantOf cs).length 1).isEmpty = false := by
  have h := (found_iff (wantOf cs) dots).mpr ⟨0, want_in cs⟩
  rwa [Bool.not_eq_true'] at h
theorem kind_pos (x : PySem.Str) : 1 ≤ PySem.Builtin.Str.strKind x := by
  unfold PySem.Builtin.Str.strKind; split
  · decide
  · split <;> decide
open StrLaws in
theorem want_split (cs : List Nat) (hc : ∀ c ∈ cs, c ≠ 46) : Txt.split (wantOf cs) dots = PySem.Str.empty :: (cs.map one ++ [PySem.Str.empty]) := by
  obtain ⟨f, hG, hn⟩ := occ_tight (wantOf cs) dots (by decide)
  have hk : PySem.Builtin.Str.strKind dots = 1 := by decide +kernel
  have hl3 : dots.length = 3 := by decide
  have hA := want_in cs
  have hW := want_length cs
  have hkw := kind_pos (wantOf cs)
  have hno : (decide ((wantOf cs).length < dots.length) || decide (PySem.Builtin.Str.strKind (wantOf cs) < PySem.Builtin.Str.strKind dots)) = false := by
    rw [hk, hl3, hW, Bool.or_eq_false_iff, decide_eq_false_iff_not, decide_eq_false_iff_not]; omega
  unfold Txt.split
  rw [hno]
  cases e : occurrences (wantOf cs) dots 0 (wantOf cs).length ((wantOf cs).length + 1) with
  | nil =>
    rw [e] at hG
    have ef : f = 0 := hG
    exact absurd hA (hn 0 (by omega))
  | cons c0 r0 =>
    rw [e] at hG
    obtain ⟨h1, h2, h3, h4⟩ := hG
    have e0 : c0 = 0 := by
      rcases Nat.eq_zero_or_pos c0 with h | h
      · exact h
      · exact absurd hA (h3 0 (Nat.le_refl _) h)
    subst e0
    show partsBetween (wantOf cs) (0 :: r0) dots.length = _
    rw [partsBetween_eq, hl3]
    show strSub (wantOf cs) 0 0 :: partsFrom (wantOf cs) 3 (0 + 3) r0 = _
    rw [hl3] at h4
    rw [parts_dotted cs 3 f r0 (by rw [want_codes]; rfl) (by omega) hc h4 hn]
    have : strSub (wantOf cs) 0 0 = PySem.Str.empty := by
      apply PySem.Str.ext'
      apply Array.toList_inj.mp
      rw [strSub_toList]; rfl
    rw [this]
end Mine
end
-- B7
namespace Mine
section
variable {prog : Program} {w : World} {A : Around} {h₀ : Heap} {L : Addr} {m : Str → Option Value} {env : Env} {elt ct : Expr} {x : Str} {scope : Scope} {cl : List (Str × Addr)} {s : Shared} {S : List (Addr × Obj) → Prop} {P : Nat → Value → Prop} {Fin : List Value → List (Addr × Obj) → Prop} {news : List (Addr × Obj)}
/-- a block by an invariant of what it has gathered -/
theorem comp_rest {n : Nat} (Inv : Nat → List Value → Prop) (h0 : Inv 0 [])
    (turn : ∀ i v I oI C oC D m₂ ys h tk (E' : Value → Shared → Prop), i < n → P i v → Inv i ys → LCg.NsObj oC m₂ → m₂ x = some v → Fr h₀ L h m → News h₀ L h ((I, oI) :: (C, oC) :: (D, LCg.lst ys) :: news) → LCg.Off3 I C D news →
      wpAny (model prog w) A (eval elt (compEnvC scope cl C env)) (LCg.CompEnd h₀ L m { s with heap := h, toks := tk } I oI C oC D (LCg.lst ys) S (fun y news' => news' = news ∧ Inv (i + 1) (ys ++ [y]))) E' { s with heap := h, toks := tk })
    (fin : ∀ ys, Inv n ys → Fin ys news) : LCg.CompRest prog w A h₀ L m env elt x scope cl s S P Fin n 0 [] news := by
  have key : ∀ (j i : Nat) (ys : List Value), i + j = n → Inv i ys → LCg.CompRest prog w A h₀ L m env elt x scope cl s S P Fin j i ys news := by
    intro j
    induction j with
    | zero =>
      intro i ys hi hy
      have e : i = n := by omega
      subst e
      exact LCg.CompRest.zero (fin ys hy)
    | succ j ih =>
      intro i ys hi hy
      refine LCg.CompRest.succ ?_
      intro v I oI C oC D m₂ h tk E' hv hC hx F N off ne
      refine wpAny_mono (turn i v I oI C oC D m₂ ys h tk E' (by omega) hv hy hC hx F N off) (fun y s₂ hq => ?_) fun _ _ e => e
      obtain ⟨h', tk', nw, e, F', N', off', hS, hn, hy'⟩ := hq
      subst hn
      exact ⟨h', tk', nw, e, F', N', off', hS, ih (i + 1) _ (by omega) hy'⟩
  exact key n 0 [] (by omega) h0
end
theorem pick_upto (vs : List Value) (k : Nat) : (slicePick vs.toArray none (some (k : Int)) none).toList = vs.take k := by
  have e : sliceBounds none (some (k : Int)) none vs.toArray.size = (((0 : Nat) : Int), ((min k vs.toArray.size : Nat) : Int), 1) := by
    simp only [sliceBounds, Option.getD_none, show (1 : Int) > 0 by decide, if_true, if_neg (show ¬ ((k : Int) < 0) by omega)]
    congr 1
    congr 1
    omega
  rw [kmk_pick_nat _ e]
  show ((vs.drop 0).take (min k vs.toArray.size - 0)) = _
  rw [List.drop_zero, Nat.sub_zero, List.size_toArray]
  rcases Nat.le_total k vs.length with h | h
  · rw [Nat.min_eq_left h]
  · rw [Nat.min_eq_right h, List.take_of_length_le (Nat.le_refl _), List.take_of_length_le h]
theorem strs_carried' {vs : List Value} {ys : List PySem.Str} (h : StrsAre vs ys) : CarriedAll vs (ys.map fun a => PyData.str a) := h.carried
theorem join_g {prog : Program} {w : World} {A : Around} {E : Value → Shared → Prop} {s : Shared} {h₀ : Heap} {L D : Addr} {news : List (Addr × Obj)} {vs : List Value} {n : Nat} {xs : List PySem.Str} {x : PySem.Str} {t : Tok} {Q : Value → Shared → Prop}
    (N : News h₀ L s.heap news) (hm : (D, listOf vs.toArray n) ∈ news) (hs : StrsAre vs xs) (h1 : ∀ a ∈ xs, a.length ≤ 8) (hx : x.length ≤ 8) (hn : xs.length ≤ 1000)
    (h : ∀ t' k, Q (.str (PySem.Txt.join x xs) t') { s with toks := k }) : wpAny (model prog w) A (PySem.call (.builtin "str.join") [.str x t, .ref D]) Q E s := by
  refine KT.join_B (g := fun a => a) 8 (PySem.IsL.isList (n := n) (N _ hm).1) (strs_carried' hs) h1 (by omega) (by omega) ?_
  intro t' k
  rw [List.map_id']
  exact h t' k
theorem strs_append {vs ws : List Value} {xs ys : List PySem.Str} (h : StrsAre vs xs) (k : StrsAre ws ys) : StrsAre (vs ++ ws) (xs ++ ys) := by
  induction h with
  | nil => exact k
  | cons i t _ ih => exact .cons i t ih
end Mine
namespace Mine
/-- heaps of values and heaps of what they mean -/
noncomputable def intOf : Value → Int
  | .int i _ => i
  | _ => 0
section
variable {α β : Type} {lt : α → α → Bool} {lt' : β → β → Bool} (f : α → β) (hf : ∀ x y, lt x y = lt' (f x) (f y))
include hf
theorem sdn_map (new : α) (start : Nat) : ∀ (n : Nat) (xs : List α) (pos : Nat), (sdn lt new start n xs pos).map f = sdn lt' (f new) start n (xs.map f) pos
  | 0, xs, pos => by rw [sdn, sdn, List.map_set]
  | n + 1, xs, pos => by
    rw [sdn, sdn]
    have eg : (xs.map f).getD ((pos - 1) / 2) (f new) = f (xs.getD ((pos - 1) / 2) new) := by
      rw [List.getD_eq_getElem?_getD, List.getD_eq_getElem?_getD, List.getElem?_map, Option.getD_map]
    rw [eg, ← hf]
    split
    · split
      · rw [sdn_map new start n, List.map_set]
      · rw [List.map_set]
    · rw [List.map_set]
theorem kid_map (d : α) (xs : List α) (c : Nat) : kid lt d xs c = kid lt' (f d) (xs.map f) c := by
  unfold kid
  have eg : ∀ i : Nat, (xs.map f).getD i (f d) = f (xs.getD i d) := fun i => by
    rw [List.getD_eq_getElem?_getD, List.getD_eq_getElem?_getD, List.getElem?_map, Option.getD_map]
  rw [eg, eg, ← hf, List.length_map]
theorem sup_map (new : α) (start : Nat) : ∀ (n : Nat) (xs : List α) (pos : Nat), (sup lt new start n xs pos).map f = sup lt' (f new) start n (xs.map f) pos
  | 0, xs, pos => by rw [sup, sup, sdn_map f hf, List.map_set]
  | n + 1, xs, pos => by
    have eg : ∀ i : Nat, (xs.map f).getD i (f new) = f (xs.getD i new) := fun i => by
      rw [List.getD_eq_getElem?_getD, List.getD_eq_getElem?_getD, List.getElem?_map, Option.getD_map]
    rw [sup, sup, ← kid_map f hf, eg, List.length_map]
    split
    · rw [sup_map new start n, List.map_set]
    · rw [sdn_map f hf, List.map_set]
theorem hpush_map (v : α) (vs : List α) : (hpush lt v vs).map f = hpush lt' (f v) (vs.map f) := by
  unfold hpush
  rw [sdn_map f hf, List.map_append, List.length_map]; rfl
theorem hpop_map (p : List α) (y : α) : f (hpop lt p y).1 = (hpop lt' (p.map f) (f y)).1 ∧ (hpop lt p y).2.map f = (hpop lt' (p.map f) (f y)).2 := by
  cases p with
  | nil => exact ⟨rfl, rfl⟩
  | cons x q =>
    refine ⟨rfl, ?_⟩
    show (sup lt y 0 (y :: q).length (y :: q) 0).map f = _
    rw [sup_map f hf]
    show sup lt' (f y) 0 (y :: q).length (f y :: q.map f) 0 = sup lt' (f y) 0 (f y :: q.map f).length (f y :: q.map f) 0
    simp
end
section
variable {α : Type} (lt : α → α → Bool)
theorem mem_set_of {xs : List α} {i : Nat} {a x : α} (h : x ∈ xs.set i a) : x ∈ xs ∨ x = a := List.mem_or_eq_of_mem_set h
theorem getD_or {xs : List α} {i : Nat} {d : α} : xs.getD i d ∈ xs ∨ xs.getD i d = d := by
  rw [List.getD_eq_getElem?_getD]
  cases h : xs[i]? with
  | none => exact .inr rfl
  | some a => exact .inl (List.mem_of_getElem? h)
theorem sdn_all {P : α → Prop} (new : α) (start : Nat) (hn : P new) : ∀ (n : Nat) (xs : List α) (pos : Nat), (∀ x ∈ xs, P x) → ∀ x ∈ sdn lt new start n xs pos, P x
  | 0, xs, pos, h, x, hx => by
    rw [sdn] at hx
    rcases mem_set_of hx with hx | rfl
    · exact h x hx
    · exact hn
  | n + 1, xs, pos, h, x, hx => by
    have hs : ∀ (a : α), P a → ∀ x ∈ xs.set pos a, P x := fun a ha x hx => by
      rcases mem_set_of hx with hx | rfl
      · exact h x hx
      · exact ha
    have hg : P (xs.getD ((pos - 1) / 2) new) := by
      rcases getD_or (xs := xs) (i := (pos - 1) / 2) (d := new) with h1 | h1
      · exact h _ h1
      · rw [h1]; exact hn
    rw [sdn] at hx
    split at hx
    · split at hx
      · exact sdn_all new start hn n _ _ (hs _ hg) x hx
      · exact hs _ hn x hx
    · exact hs _ hn x hx
theorem sup_all {P : α → Prop} (new : α) (start : Nat) (hn : P new) : ∀ (n : Nat) (xs : List α) (pos : Nat), (∀ x ∈ xs, P x) → ∀ x ∈ sup lt new start n xs pos, P x
  | 0, xs, pos, h, x, hx => by
    rw [sup] at hx
    refine sdn_all lt new start hn _ _ _ (fun x hx => ?_) x hx
    rcases mem_set_of hx with hx | rfl
    · exact h x hx
    · exact hn
  | n + 1, xs, pos, h, x, hx => by
    have hs : ∀ (a : α), P a → ∀ x ∈ xs.set pos a, P x := fun a ha x hx => by
      rcases mem_set_of hx with hx | rfl
      · exact h x hx
      · exact ha
    have hg : ∀ i : Nat, P (xs.getD i new) := fun i => by
      rcases getD_or (xs := xs) (i := i) (d := new) with h1 | h1
      · exact h _ h1
      · rw [h1]; exact hn
    rw [sup] at hx
    split at hx
    · exact sup_all new start hn n _ _ (hs _ (hg _)) x hx
    · exact sdn_all lt new start hn _ _ _ (hs _ hn) x hx
theorem hpush_all {P : α → Prop} {v : α} {vs : List α} (hv : P v) (h : ∀ x ∈ vs, P x) : ∀ x ∈ hpush lt v vs, P x :=
  sdn_all lt v 0 hv _ _ _ fun x hx => by
    rcases List.mem_append.mp hx with hx | hx
    · exact h x hx
    · rw [List.mem_singleton.mp hx]; exact hv
theorem hpop_all {P : α → Prop} {p : List α} {y : α} (hy : P y) (h : ∀ x ∈ p, P x) : P (hpop lt p y).1 ∧ ∀ x ∈ (hpop lt p y).2, P x := by
  cases p with
  | nil => exact ⟨hy, fun x hx => by cases hx⟩
  | cons a q =>
    refine ⟨h a (.head _), sup_all lt y 0 hy _ _ _ fun x hx => ?_⟩
    rcases List.mem_cons.mp hx with rfl | hx
    · exact hy
    · exact h x (.tail _ hx)
end
noncomputable def IsInt (v : Value) : Prop := ∃ i t, v = .int i t
theorem ints_of {vs : List Value} (h : ∀ v ∈ vs, IsInt v) : IntsAre vs (vs.map intOf) := by
  induction vs with
  | nil => exact .nil
  | cons v r ih =>
    obtain ⟨i, t, rfl⟩ := h _ (.head _)
    exact .cons i t (ih fun v hv => h v (.tail _ hv))
end Mine
namespace Mine
section
variable {prog : Program} {w : World} {A : Around} {E : Value → Shared → Prop} {s : Shared} {h₀ : Heap} {L a b l : Addr} {m : Str → Option Value} {news : List (Addr × Obj)} {vs ws : List Value} {n k : Nat} {Q : Value → Shared → Prop}
theorem add_g (F : Fr h₀ L s.heap m) (N : News h₀ L s.heap news) (ha : (a, listOf vs.toArray n) ∈ news) (hb : (b, listOf ws.toArray k) ∈ news)
    (h : ∀ D h', Fr h₀ L h' m → News h₀ L h' ((D, listOf (vs ++ ws).toArray 0) :: news) → (∀ p ∈ news, p.1 < D) → Q (.ref D) { s with heap := h' })
    (hz : vs.length + ws.length ≤ 100000) : wpAny (model prog w) A (binaryOp .Add (.ref a) (.ref b)) Q E s :=
  kmk_add_lit (its := vs.toArray) (its2 := ws.toArray) F N (PySem.IsL.isList (n := n) (N _ ha).1) (PySem.IsL.isList (n := k) (N _ hb).1) rfl h (by rw [sizeLine_eq]; exact Nat.le_trans hz (by decide))
end
end Mine
namespace Mine
section
variable {prog : Program} {w : World} {A : Around} {E : Value → Shared → Prop} {s : Shared} {h₀ : Heap} {L a b l : Addr} {m : Str → Option Value} {news : List (Addr × Obj)} {vs ws : List Value} {n k : Nat} {t : Tok} {ops : List Value} {value slice : PySem.Expr} {Q : Value → Shared → Prop}
theorem upto_g (F : Fr h₀ L s.heap m) (N : News h₀ L s.heap news) (hm : (l, listOf vs.toArray n) ∈ news) (hz : vs.length ≤ 100000)
    (h : ∀ D h', Fr h₀ L h' m → News h₀ L h' ((D, listOf (vs.take k).toArray 0) :: news) → (∀ p ∈ news, p.1 < D) → Q (.ref D) { s with heap := h' })
    (hs : subscripted slice false (.ref l) (.ref s.heap.objs.size) = operate [.ref s.heap.objs.size, .ref l] (getItem (.ref l) (.ref s.heap.objs.size)) := by with_unfolding_all rfl) :
    wpAny (model prog w) A (subscriptTail value slice (.ref l) (.ref s.heap.objs.size)) Q E { s with heap := s.heap.push { cls := .type "slice", data := .fields #[.none, .int k t, .none] } } :=
  kba_turn (value' := PySem.Expr.Name (PySem.Str.ofString "_") ⟨0, 0, 0, 0⟩) (fun _ => rfl) (kmk_slice_lit (its := vs.toArray) F N (PySem.IsL.isList (n := n) (N _ hm).1) .none (.int _ _) (pick_upto _ _) h hs (fun _ => rfl) (by rw [sizeLine_eq, List.size_toArray]; exact Nat.le_trans hz (by decide)))
end
end Mine
namespace Mine
/-- a fact that omega does not see -/
noncomputable def Hid (p : Prop) : Prop := p
theorem hid_l {a b : Nat} (h : Hid (@Ne Nat a b)) : a ≠ b := h
theorem hid_r {a b : Nat} (h : Hid (@Ne Nat b a)) : a ≠ b := Ne.symm h
theorem hid {p : Prop} (h : p) : Hid p := h
end Mine
namespace Mine
theorem off1_l {D a : Addr} {o : Obj} : ∀ {l : List (Addr × Obj)}, LCg.Off1 D l → (a, o) ∈ l → a ≠ D
  | p :: r, h, hm => by
    rcases List.mem_cons.mp hm with rfl | hm
    · exact h.1
    · exact off1_l h.2 hm
theorem off1_r {D a : Addr} {o : Obj} {l : List (Addr × Obj)} (h : LCg.Off1 D l) (hm : (a, o) ∈ l) : D ≠ a := (off1_l h hm).symm
end Mine
namespace Mine
theorem off1_of {D : Addr} : ∀ {l : List (Addr × Obj)}, (∀ p ∈ l, p.1 ≠ D) → LCg.Off1 D l
  | [], _ => trivial
  | p :: _, h => ⟨h p (.head _), off1_of fun q hq => h q (.tail _ hq)⟩
end Mine
-- B8
namespace Mine
theorem sdn_len {α : Type} {lt : α → α → Bool} {v : α} (st : Nat) : ∀ (n : Nat) (xs : List α) (pos : Nat), (sdn lt v st n xs pos).length = xs.length := by
  intro n
  induction n with
  | zero => intro xs pos; rw [sdn, List.length_set]
  | succ n ih =>
    intro xs pos
    rw [sdn]
    split
    · split
      · rw [ih, List.length_set]
      · rw [List.length_set]
    · rw [List.length_set]
theorem hpush_len {α : Type} {lt : α → α → Bool} {v : α} {vs : List α} : (hpush lt v vs).length = vs.length + 1 := by
  unfold hpush
  rw [sdn_len, List.length_append]; rfl
theorem sup_len {α : Type} {lt : α → α → Bool} {v : α} : ∀ (n : Nat) (xs : List α) (pos : Nat), (sup lt v 0 n xs pos).length = xs.length := by
  intro n
  induction n with
  | zero => intro xs pos; rw [sup, sdn_len, List.length_set]
  | succ n ih =>
    intro xs pos
    rw [sup]
    split
    · rw [ih, List.length_set]
    · rw [sdn_len, List.length_set]
theorem hpop_len {α : Type} {lt : α → α → Bool} {p : List α} {y : α} : (hpop lt p y).2.length = p.length := by
  cases p with
  | nil => rfl
  | cons x q =>
    show (sup lt y 0 (y :: q).length (y :: q) 0).length = _
    rw [sup_len]; rfl
end Mine
-- B10
namespace Mine
section
variable {prog : Program} {w : World} {A : Around} {s : Shared} {env : Env} {h₀ : Heap} {target : PySem.Expr} {body : List Stmt} {Q : Flow → Shared → Prop}
end
end Mine
-- B12
section
open PySem.Builtin PySem.Builtin.Str
namespace Mine
theorem join_flat : ∀ cs : List Nat, (PySem.Str.join (PySem.Str.ofString "") (cs.map one)).cps.toList = cs
  | [] => by decide
  | [c] => rfl
  | c :: d :: r => by
    have ih := join_flat (d :: r)
    show ((one c) ++ (PySem.Str.ofString "") ++ PySem.Str.join (PySem.Str.ofString "") ((d :: r).map one)).cps.toList = _
    rw [PySem.Str.cps_append, PySem.Str.cps_append, Array.toList_append, Array.toList_append, ih]
    rfl
theorem join_str (cs : List Nat) : PySem.Txt.join (PySem.Str.ofString "") (cs.map one) = strOf cs := by
  unfold Txt.join
  rw [StrLaws.glued_eq_join]
  apply PySem.Str.ext'
  apply Array.toList_inj.mp
  rw [join_flat]; rfl
abbrev pairO (x y : Int) (u1 u2 : Tok) : Obj := { cls := .type "tuple", data := .seq #[.int x u1, .int y u2] 0 }
/-- the values are pairs that the ledger bears -/
inductive PairsIn (ts : List (Addr × Obj)) : List Value → List (Int × Int) → Prop
  | nil : PairsIn ts [] []
  | cons {a : Addr} {x y : Int} {t u : Tok} {vs : List Value} {ps : List (Int × Int)} : (a, pairO x y t u) ∈ ts → PairsIn ts vs ps → PairsIn ts (.ref a :: vs) ((x, y) :: ps)
theorem PairsIn.mono {ts us : List (Addr × Obj)} (k : ∀ p ∈ ts, p ∈ us) {vs : List Value} {ps : List (Int × Int)} (x : PairsIn ts vs ps) : PairsIn us vs ps := by
  induction x with
  | nil => exact .nil
  | cons e _ ih => exact .cons (k _ e) ih
theorem PairsIn.length {ts : List (Addr × Obj)} {vs : List Value} {ps : List (Int × Int)} (x : PairsIn ts vs ps) : vs.length = ps.length := by
  induction x with
  | nil => rfl
  | cons _ _ ih => simp [ih]
section
variable {prog : Program} {w : World} {A : Around} {h₀ : Heap} {L : Addr} {m : Str → Option Value} {env : Env} {elt ct : Expr} {x : Str} {scope : Scope} {cl : List (Str × Addr)} {s : Shared} {S : List (Addr × Obj) → Prop} {P : Nat → Value → Prop} {Fin : List Value → List (Addr × Obj) → Prop} {news : List (Addr × Obj)}
theorem comp_restN {n : Nat} (Inv : Nat → List Value → List (Addr × Obj) → Prop) (h0 : Inv 0 [] news)
    (turn : ∀ i v I oI C oC D m₂ ys nw h tk (E' : Value → Shared → Prop), i < n → P i v → Inv i ys nw → LCg.NsObj oC m₂ → m₂ x = some v → Fr h₀ L h m → News h₀ L h ((I, oI) :: (C, oC) :: (D, LCg.lst ys) :: nw) → LCg.Off3 I C D nw →
      wpAny (model prog w) A (eval elt (compEnvC scope cl C env)) (LCg.CompEnd h₀ L m { s with heap := h, toks := tk } I oI C oC D (LCg.lst ys) S (fun y news' => Inv (i + 1) (ys ++ [y]) news')) E' { s with heap := h, toks := tk })
    (fin : ∀ ys nw, Inv n ys nw → Fin ys nw) : LCg.CompRest prog w A h₀ L m env elt x scope cl s S P Fin n 0 [] news := by
  have key : ∀ (j i : Nat) (ys : List Value) (nw : List (Addr × Obj)), i + j = n → Inv i ys nw → LCg.CompRest prog w A h₀ L m env elt x scope cl s S P Fin j i ys nw := by
    intro j
    induction j with
    | zero =>
      intro i ys nw hi hy
      have e : i = n := by omega
      subst e
      exact LCg.CompRest.zero (fin ys nw hy)
    | succ j ih =>
      intro i ys nw hi hy
      refine LCg.CompRest.succ ?_
      intro v I oI C oC D m₂ h tk E' hv hC hx F N off ne
      refine wpAny_mono (turn i v I oI C oC D m₂ ys nw h tk E' (by omega) hv hy hC hx F N off) (fun y s₂ hq => ?_) fun _ _ e => e
      obtain ⟨h', tk', nw', e, F', N', off', hS, hy'⟩ := hq
      exact ⟨h', tk', nw', e, F', N', off', hS, ih (i + 1) _ nw' (by omega) hy'⟩
  exact key n 0 [] news (by omega) h0
end
end Mine
end
-- B13
section
open PyProof.Rows.LCg
namespace Mine
section
variable {prog : Program} {w : World} {A : Around} {E : Value → Shared → Prop} {s : Shared} {h₀ : Heap} {L : Addr} {m : Str → Option Value} {env : Env}
end
end Mine
end
-- B14
namespace Mine
section
variable {prog : Program} {w : World} {A : Around} {E : Value → Shared → Prop} {s : Shared} {h₀ : Heap} {L l t : Addr} {news ts : List (Addr × Obj)} {vs : List Value} {ps : List (Int × Int)} {n : Nat} {a b : Int} {ta tb : Tok} {Q : Value → Shared → Prop}
end
end Mine
namespace Mine
end Mine
namespace Mine
end Mine
namespace Mine
end Mine
-- B15
namespace Mine
section
variable {prog : Program} {w : World} {A : Around} {s : Shared} {env : Env} {h₀ : Heap} {target : PySem.Expr} {body : List Stmt} {Q : Flow → Shared → Prop}
theorem turn_step {σ : Type} {own fixed : List (Addr × Obj)} {I : Addr} {it : Obj} {v : Value} {h1 : Heap} {S : Shared} (vars : σ → List (Str × Value)) (Led : σ → List (Addr × Obj)) (Inv : σ → Prop)
    (t : wpAny (model prog w) A (assign target env v) (fun _ s₃ => wpAny (model prog w) A (execs body env) (FPost h₀ env.locals S vars Led Inv ((I, it) :: fixed) I Q) (fun _ _ => False) s₃) (fun _ _ => False) S)
    (hit : h1.get? I = some it) (hfix : ∀ p ∈ fixed, h1.get? p.1 = some p.2) (hown : ∀ p ∈ own, p.1 ∈ I :: fixed.map (·.1)) (hget : ∀ p ∈ own, h1.get? p.1 = some p.2) :
    wpAny (model prog w) A (assign target env v) (fun _ s₃ => wpAny (model prog w) A (execs body env) (LoopStepV h₀ env.locals [I] own (fun m₁ news₁ => ∃ c, news₁ = Led c ∧ VarsIn m₁ (vars c) ∧ Inv c) S (fun v s' => Q (.ret v) s') fun s' => Q .next s') (fun _ _ => False) s₃) (fun _ _ => False) S := by
  refine wpAny_mono t (fun _ s₃ h₃ => wpAny_mono h₃ (fun f s₂ p => ?_) fun _ _ e => e) fun _ _ e => e
  have fin : (∃ (c' : σ) (h' : Heap) (tk : Nat) (m' : Str → Option Value) (news' : List (Addr × Obj)), s₂ = { S with heap := h', toks := tk } ∧ Fr h₀ env.locals h' m' ∧ News h₀ env.locals h' news' ∧ (∀ p ∈ (I, it) :: fixed, p ∈ news') ∧ (∀ p ∈ Led c', p ∈ news') ∧ (∀ p ∈ Led c', p.1 ≠ I) ∧ VarsIn m' (vars c') ∧ Inv c') →
      ∃ h' tk m' news', s₂ = { S with heap := h', toks := tk } ∧ Fr h₀ env.locals h' m' ∧ News h₀ env.locals h' (own ++ news') ∧ (∀ p ∈ news', p.1 ∉ [I]) ∧ ∃ c, news' = Led c ∧ VarsIn m' (vars c) ∧ Inv c := by
    rintro ⟨c', h', tk, m', news', ee, F', N', ho, hL', hLI', hv', hinv'⟩
    refine ⟨h', tk, m', Led c', ee, F', fun p hp => ?_, fun p hp hm => hLI' p hp (List.mem_singleton.mp hm), c', rfl, hv', hinv'⟩
    rcases List.mem_append.mp hp with hp | hp
    · have h2 : h1.get? p.1 = some p.2 := hget p hp
      have key : ∀ q ∈ (I, it) :: fixed, q.1 = p.1 → p ∈ news' := fun q hq e => by
        have h3 : h1.get? q.1 = some q.2 := by
          rcases List.mem_cons.mp hq with rfl | hq
          · exact hit
          · exact hfix q hq
        rw [e, h2] at h3
        have : p = q := Prod.ext e.symm (Option.some.inj h3)
        rw [this]; exact ho _ hq
      rcases List.mem_cons.mp (hown p hp) with h3 | h3
      · exact N' _ (key (I, it) (.head _) h3.symm)
      · obtain ⟨q, hq, e⟩ := List.mem_map.mp h3
        exact N' _ (key q (.tail _ hq) e)
    · exact N' _ (hL' _ hp)
  cases f with
  | ret v => exact p
  | brk => exact p
  | next =>
    obtain ⟨h', tk, m', news', a, b, c, d, e⟩ := fin p
    exact ⟨rfl, h', tk, m', news', a, b, c, d, e⟩
  | cont =>
    obtain ⟨h', tk, m', news', a, b, c, d, e⟩ := fin p
    exact ⟨rfl, h', tk, m', news', a, b, c, d, e⟩
/-- for, of any target, over a list of the ledger -/
theorem turnsL_by {σ : Type} {l : Addr} {vs : List Value} {e : Nat} (vars : σ → List (Str × Value)) (Led : σ → List (Addr × Obj)) (Inv : Nat → σ → Prop) (c₀ : σ) {m₀ : Str → Option Value} {news₀ : List (Addr × Obj)}
    (hgo : ∀ it v, letOwnedTupleGo target it v = pure ()) (hh : A.handled = none) (F : Fr h₀ env.locals s.heap m₀) (N : News h₀ env.locals s.heap news₀) (hl : (l, listOf vs.toArray e) ∈ news₀) (hL : ∀ p ∈ Led c₀, p ∈ news₀) (hk : VarsIn m₀ (vars c₀)) (hp : Inv 0 c₀)
    (turn : ∀ (I : Addr) (i : Nat) (c : σ) (v : Value) (it : Obj) (u : Str → Option Value) (h : Heap) (tk : Nat), (∀ q ∈ news₀, q.1 < I) → vs[i]? = some v → Inv i c → (∀ p ∈ (l, listOf vs.toArray e) :: Led c, p.1 ≠ I) → Fr h₀ env.locals h (kstB u (vars c)) → News h₀ env.locals h ((I, it) :: (l, listOf vs.toArray e) :: Led c) →
      wpAny (model prog w) A (assign target env v) (fun _ s₃ => wpAny (model prog w) A (execs body env) (FPost h₀ env.locals { s with heap := h, toks := tk } vars Led (Inv (i + 1)) [(I, it), (l, listOf vs.toArray e)] I Q) (fun _ _ => False) s₃) (fun _ _ => False) { s with heap := h, toks := tk })
    (done : ∀ (c : σ) (u : Str → Option Value) (h : Heap) (tk : Nat), Inv vs.length c → Fr h₀ env.locals h (kstB u (vars c)) → News h₀ env.locals h (Led c) → Q .next { s with heap := h, toks := tk }) :
    wpAny (model prog w) A (pyIter (.ref l)) (fun it s₂ => TurnsAt prog w A h₀ env target body Q (fun _ _ => False) it s₂) (fun _ _ => False) s := by
  have hls : s.heap.IsList l vs.toArray := PySem.IsL.isList (n := e) (N _ hl).1
  refine wpAny_pyIter_list hls ?_
  have hlt : ∀ q ∈ news₀, q.1 < s.heap.objs.size := fun q hq => Heap.lt_size (N q hq).1
  have hll : l < s.heap.objs.size := hlt _ hl
  have hl₀ : h₀.get? l = none := (N _ hl).2.2
  have hLl : env.locals ≠ l := Ne.symm (N _ hl).2.1
  generalize hI : s.heap.objs.size = I at hlt hll ⊢
  have W := Walks.list (prog := prog) (w := w) hh I l (Nat.ne_of_lt hll) vs.toArray
  have hlen : vs.toArray.size = vs.length := List.size_toArray ..
  rw [hlen] at W
  have hI₀ : h₀.get? I = none := by
    cases e : h₀.get? I with
    | none => rfl
    | some o => exact absurd (Heap.lt_size (F.keep _ _ e)) (by rw [hI]; exact Nat.lt_irrefl _)
  have hLI : env.locals ≠ I := by rw [← hI]; exact Nat.ne_of_lt F.ns.lt
  have up : ∀ b o, s.heap.get? b = some o → (s.heap.push { cls := .type "list_iterator", data := .fields #[.ref l, .int 0 0] }).get? b = some o := fun b o e => Heap.get?_push_of_some _ e
  refine ⟨I, [I, l], [I], vs.length, fun i v _ => vs.toArray[i]? = some v, _, fun i h => h.IsListIter I l i ∧ h.get? l = some (listOf vs.toArray e), m₀, Led c₀, fun i m₁ news₁ => ∃ c, news₁ = Led c ∧ VarsIn m₁ (vars c) ∧ Inv i c, rfl,
    KTurns.ofWalks (St := fun i h => h.IsListIter I l i ∧ h.get? l = some (listOf vs.toArray e)) (P := fun i v => vs.toArray[i]? = some v) ⟨W.sub, fun i h h' st k => ⟨st.1.at fun o e => k I (.head _) o e, k l (.tail _ (.head _)) _ st.2⟩, fun i s Q E hi st hq => ?it, fun s Q E st hq => W.done s Q E ⟨st.1, PySem.IsL.isList (n := e) st.2⟩ hq, fun i s Q E st hq => W.self i s Q E ⟨st.1, PySem.IsL.isList (n := e) st.2⟩ hq⟩ (fun i v s Q E _ hq => by rw [hgo]; exact wpAny_pure hq), ?_, ?_, ?_, ⟨⟨_, by rw [← hI]; exact Heap.get?_push_size _ rfl, rfl, rfl⟩, up _ _ (N _ hl).1⟩, F.keeps up, (News.sub N hL).grown up, ⟨c₀, rfl, hk, hp⟩, ?_, ?_⟩
  case it =>
    refine W.item i s Q E hi ⟨st.1, PySem.IsL.isList (n := e) st.2⟩ fun v h' tk hv st' k => hq v h' tk hv ⟨st'.1, k l _ ?_ st.2⟩ k
    intro hm
    exact Nat.ne_of_lt hll (List.mem_singleton.mp hm)
  · intro hm
    rcases List.mem_cons.mp hm with e | hm
    · exact hLI e
    · exact hLl (List.mem_singleton.mp hm)
  · intro b hb
    rw [List.mem_singleton.mp hb]; exact hI₀
  · intro p hp hm
    exact Nat.lt_irrefl _ ((List.mem_singleton.mp hm) ▸ hlt p (hL p hp))
  · rintro i v m₁ news₁ h1 tk1 own hin hP ⟨c, rfl, hv, hinv⟩ hoff hown hget hall hst₁ F₁ N₁
    have hne : ∀ p ∈ (l, listOf vs.toArray e) :: Led c, p.1 ≠ I := fun p hp ee => by
      rcases List.mem_cons.mp hp with rfl | hp
      · exact Nat.ne_of_lt hll ee
      · exact hoff p hp (by rw [ee]; exact .head _)
    have hst2 : h1.IsListIter I l (i + 1) ∧ h1.get? l = some (listOf vs.toArray e) := hst₁
    obtain ⟨⟨it, hit, _⟩, hl1⟩ := hst2
    have hiI : (I, it) ∈ own := hall I (.head _) hI₀ _ hit
    have hlI : (l, listOf vs.toArray e) ∈ own := hall l (.tail _ (.head _)) hl₀ _ hl1
    have N₂ : News h₀ env.locals h1 ((I, it) :: (l, listOf vs.toArray e) :: Led c) := fun p hp => by
      rcases List.mem_cons.mp hp with rfl | hp
      · exact N₁ _ (List.mem_append_left _ hiI)
      · rcases List.mem_cons.mp hp with rfl | hp
        · exact N₁ _ (List.mem_append_left _ hlI)
        · exact N₁ _ (List.mem_append_right _ hp)
    exact turn_step vars Led (Inv (i + 1)) (turn I i c v it m₁ h1 tk1 hlt (by simpa using hP) hinv hne (fr_kstB hv F₁) N₂) hit (fun p hp => by rw [List.mem_singleton.mp hp]; exact hl1) hown hget
  · rintro h' tk m' news' F' N' _ ⟨c, rfl, hv, hinv⟩
    exact done c m' h' tk hinv (fr_kstB hv F') N'
end
theorem room_of {a c e d n : Nat} (h : a + d < n) (k : c + e ≤ d) : a + c + e < n := by
  have := Nat.add_le_add_left k a
  rw [← Nat.add_assoc] at this
  exact Nat.lt_of_le_of_lt this h
end Mine
-- B16
namespace Mine
/-- what a heap asks of its order -/
structure Lin {α : Type} (lt : α → α → Bool) : Prop where
  irr : ∀ a, lt a a = false
  asym : ∀ a b, lt a b = true → lt b a = false
  tr : ∀ a b c, lt b a = false → lt c b = false → lt c a = false
theorem getD_set {α : Type} (xs : List α) (i j : Nat) (a d : α) (h : i < xs.length) : (xs.set i a).getD j d = if j = i then a else xs.getD j d := by
  rw [List.getD_eq_getElem?_getD, List.getElem?_set, List.getD_eq_getElem?_getD]
  by_cases e : i = j
  · subst e; rw [if_pos rfl, if_pos h, if_pos rfl]; rfl
  · rw [if_neg e, if_neg (Ne.symm e)]
theorem count_swap {α : Type} [DecidableEq α] (xs : List α) (p q : Nat) (v d : α) (hp : p < xs.length) (hq : q < xs.length) (h : p ≠ q) (b : α) : ((xs.set p (xs.getD q d)).set q v).count b = (xs.set p v).count b := by
  have e : xs.getD q d = xs[q] := by rw [List.getD_eq_getElem?_getD, List.getElem?_eq_getElem hq]; rfl
  rw [e, List.count_set (by rw [List.length_set]; exact hq), List.count_set hp, List.count_set hp, List.getElem_set, if_neg h]
  have h1 : xs[p] == b → 1 ≤ xs.count b := fun e => List.count_pos_iff.mpr (by rw [← beq_iff_eq.mp e]; exact List.getElem_mem _)
  have h2 : xs[q] == b → 1 ≤ xs.count b := fun e => List.count_pos_iff.mpr (by rw [← beq_iff_eq.mp e]; exact List.getElem_mem _)
  by_cases a1 : (xs[p] == b) = true <;> by_cases a2 : (xs[q] == b) = true <;> simp only [a1, a2, if_true, if_false, Bool.false_eq_true] <;> simp only [a1, a2, forall_const] at h1 h2 <;> omega
section
variable {α : Type} {lt : α → α → Bool} (O : Lin lt) (d : α)
noncomputable def IsHeap (lt : α → α → Bool) (d : α) (xs : List α) : Prop := ∀ i, 1 ≤ i → i < xs.length → lt (xs.getD i d) (xs.getD ((i - 1) / 2) d) = false
structure HeapX (lt : α → α → Bool) (d : α) (ys : List α) (pos : Nat) : Prop where
  h1 : ∀ i, 1 ≤ i → i < ys.length → i ≠ pos → lt (ys.getD i d) (ys.getD ((i - 1) / 2) d) = false
  h2 : ∀ i, 1 ≤ i → i < ys.length → (i - 1) / 2 = pos → 1 ≤ pos → lt (ys.getD i d) (ys.getD ((pos - 1) / 2) d) = false
structure Hole (lt : α → α → Bool) (d : α) (xs : List α) (pos : Nat) : Prop where
  g1 : ∀ i, 1 ≤ i → i < xs.length → i ≠ pos → (i - 1) / 2 ≠ pos → lt (xs.getD i d) (xs.getD ((i - 1) / 2) d) = false
  g2 : ∀ i, 1 ≤ i → i < xs.length → (i - 1) / 2 = pos → 1 ≤ pos → lt (xs.getD i d) (xs.getD ((pos - 1) / 2) d) = false
theorem getD_any {xs : List α} {i : Nat} {a b : α} (h : i < xs.length) : xs.getD i a = xs.getD i b := by
  rw [List.getD_eq_getElem?_getD, List.getD_eq_getElem?_getD, List.getElem?_eq_getElem h]; rfl
theorem par_lt {i : Nat} (h : 1 ≤ i) : (i - 1) / 2 < i := Nat.lt_of_le_of_lt (Nat.div_le_self _ _) (Nat.sub_lt h (by decide))
include O in
theorem sdn_heap [DecidableEq α] (new : α) : ∀ (f : Nat) (xs : List α) (pos : Nat), pos ≤ f → pos < xs.length → HeapX lt d (xs.set pos new) pos →
    IsHeap lt d (sdn lt new 0 f xs pos) ∧ ∀ b, (sdn lt new 0 f xs pos).count b = (xs.set pos new).count b
  | 0, xs, pos, hf, hp, H => by
    have e : pos = 0 := by omega
    subst e
    exact ⟨fun i h1 h2 => H.h1 i h1 h2 (by omega), fun b => rfl⟩
  | f + 1, xs, pos, hf, hp, H => by
    rw [sdn]
    have top : ∀ i, (xs.set pos new).getD i d = if i = pos then new else xs.getD i d := fun i => getD_set xs pos i new d hp
    have hlen : (xs.set pos new).length = xs.length := List.length_set
    by_cases h0 : 0 < pos
    · rw [if_pos h0]
      have hq : (pos - 1) / 2 < xs.length := Nat.lt_trans (par_lt h0) hp
      have hlt0 := par_lt h0
      have hqp : (pos - 1) / 2 ≠ pos := Nat.ne_of_lt (par_lt h0)
      rw [getD_any (b := d) hq]
      generalize hqe : (pos - 1) / 2 = q at *
      by_cases hl : lt new (xs.getD q d) = true
      · rw [if_pos hl]
        have hq' : q < (xs.set pos (xs.getD q d)).length := by rw [List.length_set]; exact hq
        have at' : ∀ i, ((xs.set pos (xs.getD q d)).set q new).getD i d = if i = q then new else if i = pos then xs.getD q d else xs.getD i d := fun i => by
          rw [getD_set _ _ _ _ _ hq', getD_set _ _ _ _ _ hp]
        have len' : ((xs.set pos (xs.getD q d)).set q new).length = xs.length := by rw [List.length_set, List.length_set]
        have ih := sdn_heap new f (xs.set pos (xs.getD q d)) q (Nat.le_of_lt_succ (Nat.lt_of_lt_of_le hlt0 hf)) hq' ⟨fun i i1 i2 i3 => ?_, fun i i1 i2 i3 i4 => ?_⟩
        · refine ⟨ih.1, fun b => ?_⟩
          rw [ih.2 b, count_swap xs pos q new d hp hq (Ne.symm hqp)]
        · rw [len'] at i2
          rw [at', at', if_neg i3]
          by_cases e1 : i = pos
          · subst e1
            rw [if_pos rfl, hqe, if_pos rfl]
            exact O.asym _ _ hl
          · rw [if_neg e1]
            by_cases e2 : (i - 1) / 2 = q
            · rw [if_pos e2]
              have := H.h1 i i1 (Nat.lt_of_lt_of_eq i2 hlen.symm) e1
              rw [top, top, if_neg e1, e2, if_neg hqp] at this
              exact O.tr _ _ _ (O.asym _ _ hl) this
            · rw [if_neg e2]
              by_cases e3 : (i - 1) / 2 = pos
              · rw [if_pos e3]
                have := H.h2 i i1 (Nat.lt_of_lt_of_eq i2 hlen.symm) e3 h0
                rw [top, top, if_neg e1, hqe, if_neg hqp] at this
                exact this
              · rw [if_neg e3]
                have := H.h1 i i1 (Nat.lt_of_lt_of_eq i2 hlen.symm) e1
                rw [top, top, if_neg e1, if_neg e3] at this
                exact this
        · rw [len'] at i2
          have hpq : (q - 1) / 2 ≠ q := Nat.ne_of_lt (par_lt i4)
          have hpp : (q - 1) / 2 ≠ pos := Nat.ne_of_lt (Nat.lt_trans (par_lt i4) hlt0)
          rw [at', at', if_neg hpq, if_neg hpp]
          have hq1 := H.h1 q i4 (Nat.lt_of_lt_of_eq hq hlen.symm) hqp
          rw [top, top, if_neg hqp, if_neg hpp] at hq1
          have hiq : i ≠ q := Nat.ne_of_gt (i3 ▸ par_lt i1)
          rw [if_neg hiq]
          by_cases e1 : i = pos
          · rw [if_pos e1]; exact hq1
          · rw [if_neg e1]
            have := H.h1 i i1 (Nat.lt_of_lt_of_eq i2 hlen.symm) e1
            rw [top, top, if_neg e1, i3, if_neg hqp] at this
            exact O.tr _ _ _ hq1 this
      · rw [if_neg hl]
        refine ⟨fun i i1 i2 => ?_, fun b => rfl⟩
        by_cases e1 : i = pos
        · subst e1
          rw [top, top, if_pos rfl, hqe, if_neg hqp]
          simpa using hl
        · exact H.h1 i i1 i2 e1
    · rw [if_neg h0]
      exact ⟨fun i h1 h2 => H.h1 i h1 h2 (by omega), fun b => rfl⟩
theorem kid_two (new : α) (xs : List α) (c : Nat) (h : c < xs.length) : (kid lt new xs c = c ∨ (kid lt new xs c = c + 1 ∧ c + 1 < xs.length)) := by
  unfold kid
  split
  · rename_i h1
    split
    · exact .inl rfl
    · exact .inr ⟨rfl, h1⟩
  · exact .inl rfl
include O in
theorem kid_min (new : α) (xs : List α) (c i : Nat) (h : c < xs.length) (hi : i < xs.length) (hc : i = c ∨ i = c + 1) : lt (xs.getD i d) (xs.getD (kid lt new xs c) d) = false := by
  unfold kid
  split
  · rename_i h1
    rw [getD_any (b := d) h, getD_any (b := d) h1]
    split
    · rename_i h2
      rcases hc with rfl | rfl
      · exact O.irr _
      · exact O.asym _ _ h2
    · rename_i h2
      rcases hc with rfl | rfl
      · simpa using h2
      · exact O.irr _
  · rename_i h1
    rcases hc with rfl | rfl
    · exact O.irr _
    · exact absurd hi h1
theorem kid_facts {c pos N : Nat} (h0 : 2 * pos + 1 < N) (h : c = 2 * pos + 1 ∨ (c = 2 * pos + 1 + 1 ∧ 2 * pos + 1 + 1 < N)) : c < N ∧ pos < c ∧ (c - 1) / 2 = pos := by
  have e : pos ≤ 2 * pos := Nat.le_mul_of_pos_left pos (by decide)
  rcases h with rfl | ⟨rfl, h⟩
  · exact ⟨h0, Nat.lt_succ_of_le e, Nat.mul_div_cancel_left pos (by decide)⟩
  · exact ⟨h, Nat.lt_succ_of_lt (Nat.lt_succ_of_le e), Nat.mul_add_div (m := 2) (by decide) pos 1⟩
include O in
theorem sup_heap [DecidableEq α] (new : α) : ∀ (f : Nat) (xs : List α) (pos : Nat), xs.length ≤ f + pos → pos < xs.length → Hole lt d xs pos →
    IsHeap lt d (sup lt new 0 f xs pos) ∧ ∀ b, (sup lt new 0 f xs pos).count b = (xs.set pos new).count b
  | 0, xs, pos, hf, hp, H => absurd hp (by omega)
  | f + 1, xs, pos, hf, hp, H => by
    rw [sup]
    by_cases h0 : 2 * pos + 1 < xs.length
    · rw [if_pos h0]
      have hk := kid_two (lt := lt) new xs (2 * pos + 1) h0
      have hm := fun i hi hc => kid_min O d new xs (2 * pos + 1) i h0 hi hc
      generalize hce : kid lt new xs (2 * pos + 1) = c at *
      obtain ⟨hcl, hpc, hpar⟩ := kid_facts h0 hk
      have hcp : c ≠ pos := Nat.ne_of_gt hpc
      have hc1 : 1 ≤ c := Nat.lt_of_le_of_lt (Nat.zero_le pos) hpc
      rw [getD_any (b := d) hcl]
      have at' : ∀ i, (xs.set pos (xs.getD c d)).getD i d = if i = pos then xs.getD c d else xs.getD i d := fun i => getD_set _ _ _ _ _ hp
      have ih := sup_heap new f (xs.set pos (xs.getD c d)) c (by rw [List.length_set]; exact Nat.le_trans hf (by rw [Nat.add_assoc, Nat.add_comm 1]; exact Nat.add_le_add_left hpc f)) (by rw [List.length_set]; exact hcl) ⟨fun i i1 i2 i3 i4 => ?_, fun i i1 i2 i3 i4 => ?_⟩
      · refine ⟨ih.1, fun b => ?_⟩
        rw [ih.2 b, count_swap xs pos c new d hp hcl (Ne.symm hcp)]
      · rw [List.length_set] at i2
        rw [at', at']
        by_cases e1 : i = pos
        · subst e1
          rw [if_pos rfl, if_neg (Nat.ne_of_lt (par_lt i1))]
          exact H.g2 c hc1 hcl hpar i1
        · rw [if_neg e1]
          by_cases e2 : (i - 1) / 2 = pos
          · rw [if_pos e2]
            exact hm i i2 (by omega)
          · rw [if_neg e2]
            exact H.g1 i i1 i2 e1 e2
      · rw [List.length_set] at i2
        have hci : c < i := i3 ▸ par_lt i1
        rw [at', at', if_neg (Nat.ne_of_gt (Nat.lt_trans hpc hci)), hpar, if_pos rfl, ← i3]
        exact H.g1 i i1 i2 (Nat.ne_of_gt (Nat.lt_trans hpc hci)) fun e => hcp (i3.symm.trans e)
    · rw [if_neg h0]
      have e : (xs.set pos new).set pos new = xs.set pos new := List.set_set ..
      have hno : ∀ i, 1 ≤ i → i < xs.length → (i - 1) / 2 ≠ pos := fun i i1 i2 => by omega
      have s := sdn_heap O d new pos (xs.set pos new) pos (Nat.le_refl _) (by rw [List.length_set]; exact hp) (by
        rw [e]
        have top : ∀ i, (xs.set pos new).getD i d = if i = pos then new else xs.getD i d := fun i => getD_set xs pos i new d hp
        refine ⟨fun i i1 i2 i3 => ?_, fun i i1 i2 i3 i4 => ?_⟩
        · rw [List.length_set] at i2
          rw [top, top, if_neg i3, if_neg (hno i i1 i2)]
          exact H.g1 i i1 i2 i3 (hno i i1 i2)
        · rw [List.length_set] at i2
          exact absurd i3 (hno i i1 i2))
      rw [e] at s
      exact s
include O in
theorem hpush_heap [DecidableEq α] {v : α} {vs : List α} (H : IsHeap lt d vs) : IsHeap lt d (hpush lt v vs) ∧ ∀ b, (hpush lt v vs).count b = (vs ++ [v]).count b := by
  have e : (vs ++ [v]).set vs.length v = vs ++ [v] := by
    rw [List.set_append_right _ _ (Nat.le_refl _), Nat.sub_self]; rfl
  have hg : ∀ i, i < vs.length → (vs ++ [v]).getD i d = vs.getD i d := fun i hi => by
    rw [List.getD_eq_getElem?_getD, List.getD_eq_getElem?_getD, List.getElem?_append_left hi]
  have s := sdn_heap O d v vs.length (vs ++ [v]) vs.length (Nat.le_refl _) (by simp) (by
    rw [e]
    refine ⟨fun i i1 i2 i3 => ?_, fun i i1 i2 i3 i4 => ?_⟩
    · rw [List.length_append] at i2
      have : i < vs.length := by
        have : [v].length = 1 := rfl
        omega
      rw [hg i this, hg _ (by omega)]
      exact H i i1 this
    · rw [List.length_append] at i2
      have : [v].length = 1 := rfl
      omega)
  rw [e] at s
  exact s
include O in
theorem heap_root {xs : List α} (H : IsHeap lt d xs) : ∀ i, i < xs.length → lt (xs.getD i d) (xs.getD 0 d) = false := by
  intro i
  induction i using Nat.strongRecOn with
  | ind i ih =>
    intro hi
    rcases Nat.eq_zero_or_pos i with rfl | h0
    · exact O.irr _
    · exact O.tr _ _ _ (ih _ (show (i - 1) / 2 < i by omega) (by omega)) (H i h0 hi)
include O in
theorem hpop_heap [DecidableEq α] {p : List α} {y : α} (H : IsHeap lt d (p ++ [y])) : IsHeap lt d (hpop lt p y).2 ∧ (∀ b, ((hpop lt p y).1 :: (hpop lt p y).2).count b = (p ++ [y]).count b) ∧ ∀ z ∈ (hpop lt p y).2, lt z (hpop lt p y).1 = false := by
  cases p with
  | nil => exact ⟨fun i _ h => absurd h (Nat.not_lt_zero _), fun b => rfl, fun z hz => nomatch hz⟩
  | cons x q =>
    show IsHeap lt d (sup lt y 0 (y :: q).length (y :: q) 0) ∧ (∀ b, (x :: sup lt y 0 (y :: q).length (y :: q) 0).count b = _) ∧ ∀ z ∈ sup lt y 0 (y :: q).length (y :: q) 0, lt z x = false
    have hg : ∀ i, 1 ≤ i → i < (y :: q).length → (y :: q).getD i d = (x :: q ++ [y]).getD i d := fun i h1 h2 => by
      obtain ⟨j, rfl⟩ : ∃ j, i = j + 1 := ⟨i - 1, by omega⟩
      rw [List.getD_eq_getElem?_getD, List.getD_eq_getElem?_getD, List.getElem?_append_left (by simpa using h2)]
      rfl
    have s := sup_heap O d y (y :: q).length (y :: q) 0 (Nat.le_refl _) (Nat.succ_pos _) ⟨fun i i1 i2 i3 i4 => by
      rw [hg i i1 i2, hg _ (by omega) (by omega)]
      exact H i i1 (by rw [List.length_append]; have : (x :: q).length = (y :: q).length := rfl; omega), fun i _ _ _ h => absurd h (by decide)⟩
    have e : (y :: q).set 0 y = y :: q := rfl
    rw [e] at s
    have hc : ∀ b, (x :: sup lt y 0 (y :: q).length (y :: q) 0).count b = (x :: q ++ [y]).count b := fun b => by
      rw [List.count_cons, s.2 b, List.count_cons, List.count_append, List.count_cons, List.count_singleton]
      omega
    refine ⟨s.1, hc, fun z hz => ?_⟩
    have hz' : z ∈ x :: q ++ [y] := by
      have := hc z
      exact List.count_pos_iff.mp (by rw [← this]; exact List.count_pos_iff.mpr (.tail _ hz))
    obtain ⟨i, hi, rfl⟩ := List.mem_iff_getElem.mp hz'
    have := heap_root O d H i hi
    rw [List.getD_eq_getElem?_getD, List.getElem?_eq_getElem hi] at this
    exact this
end
end Mine
-- B17
namespace Mine
/-- what the statement asks of a deck, plainly -/
noncomputable def downN : Nat → List Nat
  | 0 => []
  | k + 1 => (k + 1) :: downN k
noncomputable def upN (a : Nat) : Nat → List Nat
  | 0 => []
  | k + 1 => a :: upN (a + 1) k
noncomputable def cutOk (deck : List Nat) (c : Nat) : Bool := subL (downN c) deck && subL (upN (c + 1) (deck.length - c)) deck
noncomputable def cutsOf (deck : List Nat) : List Nat := (List.range (deck.length + 1)).filter (cutOk deck)
noncomputable def RestsAt (xs : List Nat) (many k : Nat) : Prop := (((xs.drop (k * many)).take many).map (· % many)).Perm (List.range many)
noncomputable def RestsOk (deck : List Nat) : Prop := ∀ many, 2 ≤ many → many ≤ deck.length → ∀ k, k < deck.length / many → RestsAt deck many k
noncomputable def maxN : List Nat → Nat
  | [] => 0
  | a :: r => Nat.max a (maxN r)
noncomputable def bitsIn (deck : List Nat) : List Int := (upN 1 (deck.length - 1)).map fun p => if maxN (deck.take p) < deck.getD p 0 then 1 else 0
noncomputable def toldBits (bits : List Int) : List Int :=
  digs 1 (valI 1 bits).toNat (figs (valI 1 bits).toNat 1) ++ List.replicate (bits.length - figs (valI 1 bits).toNat 1) 0
noncomputable def rowGo : List Int → Int → Int → List Int → List Int
  | [], _, _, row => row
  | b :: r, lo, hi, row => if b = 1 then rowGo r lo (hi + 1) (row ++ [hi + 1]) else rowGo r (lo - 1) hi (row ++ [lo - 1])
noncomputable def backOf (deck : List Nat) : List Int :=
  rowGo (toldBits (bitsIn deck)) (1 + ((toldBits (bitsIn deck)).count 0 : Nat)) (1 + ((toldBits (bitsIn deck)).count 0 : Nat)) [1 + ((toldBits (bitsIn deck)).count 0 : Nat)]
noncomputable def BackOk (deck : List Nat) : Prop := backOf deck = deck.map (fun (c : Nat) => (c : Int))
inductive Riff : List Nat → List Nat → List Nat → Prop
  | none_l (b : List Nat) : Riff [] b b
  | none_r (a : List Nat) : Riff a [] a
  | left {x : Nat} {a b d : List Nat} (h : Riff a b d) : Riff (x :: a) b (x :: d)
  | right {y : Nat} {a b d : List Nat} (h : Riff a b d) : Riff a (y :: b) (y :: d)
/-- the same checks, cheap for the kernel -/
noncomputable def subF (deck : List Nat) : List Nat → Bool :=
  List.rec (fun w => List.rec true (fun _ _ _ => false) w)
    (fun d _ ih w => List.rec true (fun a w' _ => cond (Nat.beq a d) (ih w') (ih (a :: w'))) w) deck
noncomputable def downF (c : Nat) : List Nat := Nat.rec [] (fun k ih => (k + 1) :: ih) c
noncomputable def upF (k : Nat) : Nat → List Nat := Nat.rec (fun _ => []) (fun _ ih a => a :: ih (Nat.add a 1)) k
noncomputable def memF (c : Nat) (xs : List Nat) : Bool := List.rec false (fun d _ ih => cond (Nat.beq c d) true ih) xs
/-- every figure below k stands among the rests -/
noncomputable def allF (k : Nat) (xs : List Nat) : Bool := Nat.rec true (fun j ih => cond (memF j xs) ih false) k
noncomputable def takeF (k : Nat) : List Nat → List Nat := Nat.rec (fun _ => []) (fun _ ih xs => List.rec [] (fun a r _ => a :: ih r) xs) k
noncomputable def dropF (k : Nat) : List Nat → List Nat := Nat.rec (fun xs => xs) (fun _ ih xs => List.rec [] (fun _ r _ => ih r) xs) k
noncomputable def modsF (m : Nat) (xs : List Nat) : List Nat := List.rec [] (fun a _ ih => Nat.mod a m :: ih) xs
noncomputable def partsF (m : Nat) (k : Nat) : List Nat → Bool := Nat.rec (fun _ => true) (fun _ ih xs => cond (allF m (modsF m (takeF m xs))) (ih (dropF m xs)) false) k
noncomputable def restsF (deck : List Nat) (n : Nat) : Bool := Nat.rec true (fun j ih => cond (partsF (Nat.add j 2) (Nat.div n (Nat.add j 2)) deck) ih false) (Nat.sub n 1)
noncomputable def eqF (xs : List Nat) : List Nat → Bool := List.rec (fun ys => List.rec true (fun _ _ _ => false) ys) (fun a _ ih ys => List.rec false (fun b r _ => cond (Nat.beq a b) (ih r) false) ys) xs
/-- the bits of a deck: does a card overtop all ahead of it -/
noncomputable def bitsF (xs : List Nat) : Nat → List Bool := List.rec (fun _ => []) (fun a _ ih top => cond (Nat.ble a top) (false :: ih top) (true :: ih a)) xs
noncomputable def zerosF (bs : List Bool) : Nat := List.rec 0 (fun b _ ih => cond b ih (Nat.add ih 1)) bs
noncomputable def rowF (bs : List Bool) : Nat → Nat → List Nat := List.rec (fun _ _ => []) (fun b _ ih lo hi => cond b (Nat.add hi 1 :: ih lo (Nat.add hi 1)) (Nat.sub lo 1 :: ih (Nat.sub lo 1) hi)) bs
noncomputable def backF (deck : List Nat) : Bool := List.rec false (fun a r _ => (fun bs => (fun lo => eqF (lo :: rowF bs lo lo) deck) (Nat.add 1 (zerosF bs))) (bitsF r a)) deck
noncomputable def cutsF (deck : List Nat) (n : Nat) : Nat → List Nat := Nat.rec (fun _ => []) (fun _ ih c => cond (cond (subF deck (downF c)) (subF deck (upF (Nat.sub n c) (Nat.add c 1))) false) (c :: ih (Nat.add c 1)) (ih (Nat.add c 1))) (Nat.add n 1)
noncomputable def fullF (deck : List Nat) (n : Nat) : Bool := cond (eqF (cutsF deck n 0) (List.rec [] (fun a _ _ => [Nat.sub a 1, a]) deck)) (cond (restsF deck n) (backF deck) false) false
noncomputable def noneF (deck : List Nat) (n : Nat) : Bool := cond (eqF (cutsF deck n 0) []) (cond (restsF deck n) false (cond (backF deck) false true)) false
noncomputable def getF (i : Nat) (xs : List Nat) : Nat := Nat.rec (fun xs => List.rec 0 (fun a _ _ => a) xs) (fun _ ih xs => List.rec 0 (fun _ r _ => ih r) xs) i xs
noncomputable def setF (i : Nat) (v : Nat) : List Nat → List Nat := Nat.rec (fun xs => List.rec [] (fun _ r _ => v :: r) xs) (fun _ ih xs => List.rec [] (fun a r _ => a :: ih r) xs) i
noncomputable def swapF (xs : List Nat) (i j : Nat) : List Nat := setF j (getF i xs) (setF i (getF j xs) xs)
noncomputable def eitherF (o : List Nat) (n : Nat) : Bool := cond (fullF o n) true (noneF o n)
noncomputable def rowsF (deck : List Nat) (n i : Nat) (k : Nat) : Bool := Nat.rec true (fun j ih => cond (eitherF (swapF deck i j) n) ih false) k
noncomputable def pairsF (deck : List Nat) (n : Nat) : Bool := Nat.rec true (fun i ih => cond (rowsF deck n i i) ih false) n
noncomputable def okF (deck : List Nat) (n : Nat) : Bool := cond (fullF deck n) (pairsF deck n) false
/-- all merges that hold the check p -/
noncomputable def mergeF (p : List Nat → Bool) (f : Nat) : List Nat → List Nat → List Nat → Bool :=
  Nat.rec (fun _ _ _ => false) (fun _ ih pre a b => List.rec (p (pre ++ b)) (fun x a' _ => List.rec (p (pre ++ a)) (fun y b' _ => cond (ih (pre ++ [x]) a' b) (ih (pre ++ [y]) a b') false) b) a) f
noncomputable def headF (n c : Nat) : Bool := mergeF (fun d => okF d n) n [c + 1] (downF c) (upF (n - c - 1) (c + 2))

theorem downF_eq : ∀ c, downF c = downN c
  | 0 => rfl
  | c + 1 => by show (c + 1) :: downF c = _; rw [downF_eq c]; rfl
theorem upF_eq : ∀ k a, upF k a = upN a k
  | 0, _ => rfl
  | k + 1, a => by show a :: upF k (a + 1) = _; rw [upF_eq k]; rfl
theorem cond_b {α : Type} (b : Bool) (x y : α) : cond b x y = if b = true then x else y := by cases b <;> rfl
theorem beq_no {a b : Nat} (h : a ≠ b) : Nat.beq a b = false := Bool.eq_false_iff.mpr fun e => h (Nat.eq_of_beq_eq_true e)
theorem beq_b (a b : Nat) : Nat.beq a b = (a == b) := by
  by_cases h : a = b
  · subst h; simp
  · rw [beq_no h]; exact (beq_false_of_ne h).symm
theorem subF_eq : ∀ deck w, subF deck w = subL w deck
  | [], [] => rfl
  | [], _ :: _ => rfl
  | d :: ds, [] => rfl
  | d :: ds, a :: w => by
    show cond (Nat.beq a d) (subF ds w) (subF ds (a :: w)) = _
    rw [subF_eq ds w, subF_eq ds (a :: w), subL, cond_b, beq_b]
theorem memF_eq (c : Nat) : ∀ xs, memF c xs = true ↔ c ∈ xs
  | [] => by simp [memF]
  | d :: r => by
    have e : memF c (d :: r) = cond (Nat.beq c d) true (memF c r) := rfl
    rw [e, List.mem_cons, ← memF_eq c r]
    by_cases h : c = d
    · subst h; simp
    · rw [beq_no h]; simp [h]
theorem allF_eq (xs : List Nat) : ∀ k, allF k xs = true ↔ ∀ j, j < k → j ∈ xs
  | 0 => ⟨fun _ _ h => absurd h (Nat.not_lt_zero _), fun _ => rfl⟩
  | k + 1 => by
    have e : allF (k + 1) xs = cond (memF k xs) (allF k xs) false := rfl
    rw [e]
    cases hm : memF k xs with
    | true =>
      show allF k xs = true ↔ _
      rw [allF_eq xs k]
      refine ⟨fun h j hj => ?_, fun h j hj => h j (by omega)⟩
      rcases Nat.lt_or_ge j k with hj' | hj'
      · exact h j hj'
      · obtain rfl : j = k := by omega
        exact (memF_eq j xs).mp hm
    | false =>
      refine ⟨fun h => Bool.noConfusion h, fun h => ?_⟩
      have := (memF_eq k xs).mpr (h k (by omega))
      rw [hm] at this; cases this
theorem takeF_eq : ∀ k xs, takeF k xs = xs.take k
  | 0, _ => rfl
  | k + 1, [] => rfl
  | k + 1, a :: r => by show a :: takeF k r = _; rw [takeF_eq k r]; rfl
theorem dropF_eq : ∀ k xs, dropF k xs = xs.drop k
  | 0, _ => rfl
  | k + 1, [] => rfl
  | k + 1, a :: r => by show dropF k r = _; rw [dropF_eq k r]; rfl
theorem modsF_eq (m : Nat) : ∀ xs, modsF m xs = xs.map (· % m)
  | [] => rfl
  | a :: r => by show a % m :: modsF m r = _; rw [modsF_eq m r]; rfl
theorem perm_all : ∀ (m : Nat) (ys : List Nat), ys.length = m → ((∀ j, j < m → j ∈ ys) ↔ ys.Perm (List.range m))
  | 0, ys, h => by
    have : ys = [] := List.length_eq_zero_iff.mp h
    subst this; simp
  | m + 1, ys, h => by
    refine ⟨fun hj => ?_, fun p j hj => p.symm.mem_iff.mp (by simpa using hj)⟩
    have hm := hj m (by omega)
    have p := List.perm_cons_erase hm
    have hl : (ys.erase m).length = m := by rw [List.length_erase_of_mem hm, h]; rfl
    have ih := (perm_all m (ys.erase m) hl).mp fun j hj' => (List.mem_erase_of_ne (by omega)).mpr (hj j (by omega))
    rw [List.range_succ]
    exact p.trans ((ih.cons m).trans (List.perm_append_comm (l₁ := [m]) (l₂ := List.range m)))
theorem partsF_eq {m : Nat} (hm : 0 < m) : ∀ (k : Nat) (xs : List Nat), k * m ≤ xs.length → (partsF m k xs = true ↔ ∀ i, i < k → RestsAt xs m i)
  | 0, _, _ => ⟨fun _ _ h => absurd h (Nat.not_lt_zero _), fun _ => rfl⟩
  | k + 1, xs, h => by
    have e : partsF m (k + 1) xs = cond (allF m (modsF m (takeF m xs))) (partsF m k (dropF m xs)) false := rfl
    have hk : (k + 1) * m = k * m + m := Nat.succ_mul k m
    have h0 : allF m (modsF m (takeF m xs)) = true ↔ RestsAt xs m 0 := by
      rw [allF_eq, modsF_eq, takeF_eq, RestsAt, Nat.zero_mul, List.drop_zero]
      exact perm_all m _ (by rw [List.length_map, List.length_take]; omega)
    have hs : partsF m k (dropF m xs) = true ↔ ∀ i, i < k → RestsAt xs m (i + 1) := by
      rw [partsF_eq hm k (dropF m xs) (by rw [dropF_eq, List.length_drop]; omega)]
      refine forall_congr' fun i => forall_congr' fun _ => ?_
      unfold RestsAt
      rw [dropF_eq, List.drop_drop, show m + i * m = (i + 1) * m by rw [Nat.succ_mul]; omega]
    rw [e]
    cases ha : allF m (modsF m (takeF m xs)) with
    | true =>
      show partsF m k (dropF m xs) = true ↔ _
      rw [hs]
      refine ⟨fun h i hi => ?_, fun h i hi => h (i + 1) (by omega)⟩
      cases i with
      | zero => exact h0.mp ha
      | succ i => exact h i (by omega)
    | false =>
      refine ⟨fun h => Bool.noConfusion h, fun h => ?_⟩
      have := h0.mpr (h 0 (by omega))
      rw [ha] at this; cases this
theorem restsGo_eq (deck : List Nat) : ∀ j, (Nat.rec true (fun j ih => cond (partsF (Nat.add j 2) (Nat.div deck.length (Nat.add j 2)) deck) ih false) j : Bool) = true ↔ ∀ i, i < j → ∀ k, k < deck.length / (i + 2) → RestsAt deck (i + 2) k
  | 0 => ⟨fun _ _ h => absurd h (Nat.not_lt_zero _), fun _ => rfl⟩
  | j + 1 => by
    have hp : partsF (Nat.add j 2) (Nat.div deck.length (Nat.add j 2)) deck = true ↔ ∀ k, k < deck.length / (j + 2) → RestsAt deck (j + 2) k := partsF_eq (by show 0 < j + 2; omega) _ _ (Nat.div_mul_le_self _ _)
    show cond (partsF (Nat.add j 2) (Nat.div deck.length (Nat.add j 2)) deck) (Nat.rec true (fun j ih => cond (partsF (Nat.add j 2) (Nat.div deck.length (Nat.add j 2)) deck) ih false) j : Bool) false = true ↔ _
    cases ha : partsF (Nat.add j 2) (Nat.div deck.length (Nat.add j 2)) deck with
    | true =>
      refine (restsGo_eq deck j).trans ⟨fun h i hi => ?_, fun h i hi => h i (by omega)⟩
      rcases Nat.lt_or_ge i j with hj' | hj'
      · exact h i hj'
      · obtain rfl : i = j := by omega
        exact hp.mp ha
    | false =>
      refine ⟨fun h => Bool.noConfusion h, fun h => ?_⟩
      have := hp.mpr (h j (by omega))
      rw [ha] at this; cases this
theorem restsF_eq (deck : List Nat) : restsF deck deck.length = true ↔ RestsOk deck := by
  refine (restsGo_eq deck (Nat.sub deck.length 1)).trans ⟨fun h many h2 hl k hk => ?_, fun h i hi k hk => h (i + 2) (by omega) (by have : i < deck.length - 1 := hi; omega) k hk⟩
  obtain ⟨i, rfl⟩ : ∃ i, many = i + 2 := ⟨many - 2, by omega⟩
  exact h i (by show i < deck.length - 1; omega) k hk
theorem eqF_eq : ∀ xs ys, eqF xs ys = true ↔ xs = ys
  | [], [] => by simp [eqF]
  | [], _ :: _ => by simp [eqF]
  | _ :: _, [] => by simp [eqF]
  | a :: r, b :: q => by
    have e : eqF (a :: r) (b :: q) = cond (Nat.beq a b) (eqF r q) false := rfl
    rw [e, List.cons.injEq, ← eqF_eq r q]
    by_cases h : a = b
    · subst h; simp
    · rw [beq_no h]; simp [h]
theorem rest_eq {m : Nat} {rs : List Nat} {ns : List Int} (p : ns.Perm (rs.map fun x => ((x % m : Nat) : Int))) (o : ns.Pairwise (· ≤ ·)) :
    (ns = (List.range m).map fun (i : Nat) => 0 + (i : Int) * 1) ↔ (rs.map (· % m)).Perm (List.range m) := by
  have e0 : ((List.range m).map fun (i : Nat) => 0 + (i : Int) * 1) = (List.range m).map fun (i : Nat) => (i : Int) := List.map_congr_left fun i _ => by omega
  have e1 : (rs.map fun x => ((x % m : Nat) : Int)) = (rs.map (· % m)).map fun (i : Nat) => (i : Int) := by rw [List.map_map]; rfl
  have back : ∀ l : List Nat, (l.map fun (i : Nat) => (i : Int)).map Int.toNat = l := fun l => by
    rw [List.map_map]
    exact (List.map_congr_left fun i _ => Int.toNat_natCast i).trans (List.map_id l)
  rw [e0]
  rw [e1] at p
  refine ⟨fun e => ?_, fun q => ?_⟩
  · rw [e] at p
    have q := p.map Int.toNat
    rw [back, back] at q
    exact q.symm
  · refine List.Perm.eq_of_pairwise (fun x y _ _ h1 h2 => Int.le_antisymm h1 h2) o ?_ (p.trans (q.map _))
    rw [List.pairwise_map]
    exact (List.pairwise_lt_range (n := m)).imp fun h => by omega
end Mine
-- B18
namespace Mine
/-- a figure's sign, for figures 0 to 9 -/
theorem dig_sign : ∀ n : Nat, n < 10 → PySem.Str.ofString (toString (n : Int)) = one (48 + n) := by decide +kernel
theorem dig_log : ∀ n : Nat, n < 10 → ((n : Int).natAbs).log2 < 1920 := by decide +kernel
section
variable {prog : Program} {w : World} {A : Around} {E : Value → Shared → Prop} {s : Shared} {h₀ : Heap} {L : Addr} {m : Str → Option Value} {env : Env}
theorem str_dig {n : Nat} {t : Tok} {Q : Value → Shared → Prop} (hn : n < 10) (h : ∀ t' tk, Q (.str (one (48 + n)) t') { s with toks := tk }) :
    wpAny (model prog w) A (PySem.call (.type "str") [.int (n : Int) t]) Q E s := by
  have e := dig_sign n hn
  refine PySem.P.str_of_int (dig_log n hn) ?_
  show Q (.str (PySem.Str.ofString (toString (n : Int))) _) _
  rw [e]; exact h _ _
noncomputable def rangeObj (a b c : Int) (t u v : Tok) : Obj := { cls := .type "range", dict := none, data := .fields #[.int a t, .int b u, .int c v], slots := #[] }
/-- a range laid in the ledger -/
theorem range3_g {Q : Value → Shared → Prop} {a b c : Int} {t u v : Tok} {news : List (Addr × Obj)} (F : Fr h₀ L s.heap m) (N : News h₀ L s.heap news) (hc : c ≠ 0)
    (hp : Builtin.divisionGoesByPylong (b - a) c = false)
    (h : ∀ D h' tk, Fr h₀ L h' m → News h₀ L h' ((D, rangeObj a b c t u v) :: news) → (∀ p ∈ news, p.1 < D) → Q (.ref D) { s with heap := h', toks := tk }) :
    wpAny (model prog w) A (PySem.call (.type "range") [.int a t, .int b u, .int c v]) Q E s := by
  refine call_range_3 hc ?_ (.inl hp)
  refine h _ _ _ (F.push _) (fun p hp => ?_) (fun p hp => Heap.lt_size (N p hp).1)
  rcases List.mem_cons.mp hp with rfl | hp
  · exact ⟨Heap.get?_push_size _ rfl, Nat.ne_of_gt F.ns.lt, next_is_new F⟩
  · exact ⟨Heap.get?_push_of_some _ (N p hp).1, (N p hp).2⟩
/-- what a comprehension over a range of any step asks -/
noncomputable def RangeSrc (prog : Program) (w : World) (A : Around) (h₀ : Heap) (L : Addr) (m : Str → Option Value) (env : Env) (elt : Expr) (x : Str) (scope : Scope) (cl : List (Str × Addr)) (Fin : Shared → List Value → List (Addr × Obj) → Prop) (xv : Value) (s₁ : Shared) : Prop :=
  ∃ (r : Addr) (a b c : Int) (t u v : Tok) (n : Nat) (news : List (Addr × Obj)), xv = .ref r ∧ Fr h₀ L s₁.heap m ∧ News h₀ L s₁.heap news ∧
      IsRange s₁.heap r a b c t u v ∧ Builtin.Range.small a b c = true ∧ Builtin.Range.rangeSize a b c = ((n : Nat) : Int) ∧ n ≤ sizeLine ∧
      ∀ g, LCg.CompRest prog w A h₀ L m env elt x scope cl { s₁ with heap := g } (fun _ => True) (fun i v => i < n ∧ ∃ t, v = .int (a + (i : Int) * c) t) (Fin { s₁ with heap := g }) n 0 [] news
/-- a comprehension over a range of any step -/
theorem ListComp_R {elt iter : Expr} {x : Str} {px : Pos} {scope : Scope} {cl : List (Str × Addr)} {pos : Pos} {Q : Value → Shared → Prop} (hh : A.handled = none) (_ : Fr h₀ L s.heap m)
    (hclos : closureFor scope env = pure cl) (hcell : ∀ y ∈ scope.names, y.2 ≠ .cell) (hkind : scope.kind = .function)
    (hnames : ∀ y ∈ scope.names, y.2 = .local → scope.names.lookup y.1 = some .local) (hx : scope.names.lookup x = some .local)
    (h : wpAny (model prog w) A (eval iter env) (RangeSrc prog w A h₀ L m env elt x scope cl (fun s₂ => LCg.FinE h₀ L m s₂ Q)) E s)
    (hs : ∀ x, foldedSetIterable iter env x = pure x := by intro _; rfl) :
    wpAny (model prog w) A (eval (.ListComp elt [⟨.Name x px, iter, [], 0⟩] scope pos) env) Q E s := by
  rw [eval_ListComp]
  refine wpAny_comprehension_free (use := none) rfl hs hclos hkind hnames (wpAny_mono h (fun xv s₁ h₁ => ?_) fun _ _ e => e)
  obtain ⟨r, a, b, c, t, u, v, n, news, rfl, F, N, hr, hsm, hn, hsz, R⟩ := h₁
  have up : ∀ (o : Obj) b' o', s₁.heap.get? b' = some o' → (s₁.heap.push o).get? b' = some o' := fun _ _ _ e => Heap.get?_push_of_some _ e
  refine wpAny_pyIter_range hr hsm ?_
  refine LCg.block_U (S := fun _ => True) ((Walks.range hh s₁.heap.objs.size a c n).bound) hsz (fun i h st => ⟨_, st⟩) (fun i h h' o nw st e e' _ _ _ => ?_) hcell hkind hx (by show IsRangeIter _ _ _ _ _; rw [hn]; simpa using Heap.get?_push_size _ rfl) (fun b' hb => ?_)
    (F.keeps (up _)) (N.grown (up _)) (Nat.ne_of_lt F.ns.lt) (next_is_new F) (fun p hp => Nat.ne_of_lt (Heap.lt_size (N p hp).1)) trivial (R _) ?_
  · have st' : h.get? s₁.heap.objs.size = some _ := st
    show h'.get? s₁.heap.objs.size = some _
    rw [e', ← e]; exact st'
  · rw [List.mem_singleton.mp hb]
    show s₁.heap.objs.size < (s₁.heap.push _).objs.size
    rw [Heap.size_push]; exact Nat.lt_succ_self _
  · intro D C h tk m' ys news' F' N' o1 hn' hC₀ hD₀ hCL hDL hCD offC fin
    refine ⟨m', hn', fun h'' hs'' => fin D h'' tk (F'.change hs'' hCL hC₀) (fun p hp => ⟨hs''.extBut _ _ ?_ (N' p hp).1, (N' p hp).2⟩) o1⟩
    rcases List.mem_cons.mp hp with rfl | hp
    · exact Ne.symm hCD
    · exact offC p hp
end
theorem want_short1 (r : List Nat) : ∀ x ∈ [PySem.Str.ofString ""] ++ r.map one ++ [PySem.Str.ofString ""], x.length ≤ 8 := by
  have h0 : (PySem.Str.ofString "").length = 0 := by decide
  have h1 : ∀ c, (one c).length = 1 := fun _ => rfl
  intro x hx
  simp only [List.mem_append, List.mem_cons, List.not_mem_nil, or_false, List.mem_map] at hx
  rcases hx with (rfl | ⟨a, _, rfl⟩) | rfl
  · omega
  · rw [h1]; omega
  · omega
theorem want_eq1 (r : List Nat) : PySem.Txt.join (PySem.Str.ofString "...") ([PySem.Str.ofString ""] ++ r.map one ++ [PySem.Str.ofString ""]) = wantOf r := by
  unfold wantOf
  have e : PySem.Str.ofString "" = PySem.Str.empty := by decide
  rw [e]; simp
noncomputable def signs (cs : List Nat) : List Nat := cs.map (48 + ·)
theorem signs_map (cs : List Nat) : (cs.map fun x => one (48 + x)) = (signs cs).map one := by simp [signs]
theorem signs_sign (cs : List Nat) : ∀ c ∈ signs cs, c ≠ 46 := by
  intro c hc
  obtain ⟨x, _, rfl⟩ := List.mem_map.mp hc
  omega
theorem subL_signs : ∀ cs gs : List Nat, subL (signs cs) (signs gs) = subL cs gs
  | [], gs => by cases gs <;> rfl
  | c :: cs, [] => rfl
  | c :: cs, g :: gs => by
    have h1 := subL_signs cs gs
    have h2 := subL_signs (c :: cs) gs
    unfold signs at h1 h2 ⊢
    rw [List.map_cons] at h2 ⊢
    rw [List.map_cons, subL, subL, h1, h2]
    have : (48 + c == 48 + g) = (c == g) := by
      by_cases h : c = g
      · subst h; simp
      · rw [beq_false_of_ne h, beq_false_of_ne (by omega)]
    rw [this]
end Mine
-- B19
namespace Mine
section
variable {prog : Program} {w : World} {A : Around} {s : Shared} {env : Env} {h₀ : Heap} {target : PySem.Expr} {body : List Stmt} {Q : Flow → Shared → Prop}
/-- for, of any target, over a range -/
theorem turnsR_by {σ : Type} {r : Addr} {ra rb rc : Int} {rt ru rv : Tok} {n : Nat} (vars : σ → List (Str × Value)) (Led : σ → List (Addr × Obj)) (Inv : Nat → σ → Prop) (c₀ : σ) {m₀ : Str → Option Value} {news₀ : List (Addr × Obj)}
    (hgo : ∀ it v, letOwnedTupleGo target it v = pure ()) (hh : A.handled = none) (hr : IsRange s.heap r ra rb rc rt ru rv) (hsm : Builtin.Range.small ra rb rc = true) (hn : Builtin.Range.rangeSize ra rb rc = ((n : Nat) : Int)) (F : Fr h₀ env.locals s.heap m₀) (N : News h₀ env.locals s.heap news₀) (hL : ∀ p ∈ Led c₀, p ∈ news₀) (hk : VarsIn m₀ (vars c₀)) (hp : Inv 0 c₀)
    (turn : ∀ (I : Addr) (i : Nat) (c : σ) (v : Value) (it : Obj) (u : Str → Option Value) (h : Heap) (tk : Nat), (∀ q ∈ news₀, q.1 < I) → i < n → (∃ t, v = .int (ra + (i : Int) * rc) t) → Inv i c → (∀ p ∈ Led c, p.1 ≠ I) → Fr h₀ env.locals h (kstB u (vars c)) → News h₀ env.locals h ((I, it) :: Led c) →
      wpAny (model prog w) A (assign target env v) (fun _ s₃ => wpAny (model prog w) A (execs body env) (FPost h₀ env.locals { s with heap := h, toks := tk } vars Led (Inv (i + 1)) [(I, it)] I Q) (fun _ _ => False) s₃) (fun _ _ => False) { s with heap := h, toks := tk })
    (done : ∀ (c : σ) (u : Str → Option Value) (h : Heap) (tk : Nat), Inv n c → Fr h₀ env.locals h (kstB u (vars c)) → News h₀ env.locals h (Led c) → Q .next { s with heap := h, toks := tk }) :
    wpAny (model prog w) A (pyIter (.ref r)) (fun it s₂ => TurnsAt prog w A h₀ env target body Q (fun _ _ => False) it s₂) (fun _ _ => False) s := by
  refine wpAny_pyIter_range hr hsm ?_
  have hlt : ∀ q ∈ news₀, q.1 < s.heap.objs.size := fun q hq => Heap.lt_size (N q hq).1
  generalize hI : s.heap.objs.size = I at hlt ⊢
  have W := (Walks.range (prog := prog) (w := w) hh I ra rc n).bound
  have hI₀ : h₀.get? I = none := by
    cases e : h₀.get? I with
    | none => rfl
    | some o => exact absurd (Heap.lt_size (F.keep _ _ e)) (by rw [hI]; exact Nat.lt_irrefl _)
  have hLI : env.locals ≠ I := by rw [← hI]; exact Nat.ne_of_lt F.ns.lt
  have up : ∀ (o' : Obj) b o, s.heap.get? b = some o → (s.heap.push o').get? b = some o := fun _ b o e => Heap.get?_push_of_some _ e
  refine ⟨I, [I], [I], n, fun i v _ => i < n ∧ ∃ t, v = .int (ra + (i : Int) * rc) t, _, _, m₀, Led c₀, fun i m₁ news₁ => ∃ c, news₁ = Led c ∧ VarsIn m₁ (vars c) ∧ Inv i c, rfl, KTurns.ofWalks W (fun i v s Q E _ hq => by rw [hgo]; exact wpAny_pure hq), ?_, ?_, ?_, (by show IsRangeIter _ _ _ _ _; rw [hn, ← hI]; simpa using Heap.get?_push_size _ rfl), F.keeps (up _), (News.sub N hL).grown (up _), ⟨c₀, rfl, hk, hp⟩, ?_, ?_⟩
  · intro hm
    exact hLI (List.mem_singleton.mp hm)
  · intro b hb
    rw [List.mem_singleton.mp hb]; exact hI₀
  · intro p hp hm
    exact Nat.lt_irrefl _ ((List.mem_singleton.mp hm) ▸ hlt p (hL p hp))
  · rintro i v m₁ news₁ h1 tk1 own hin hP ⟨c, rfl, hv, hinv⟩ hoff hown hget hall hst₁ F₁ N₁
    have hne : ∀ p ∈ Led c, p.1 ≠ I := fun p hp e => hoff p hp (by rw [e]; exact .head _)
    obtain ⟨it, hit⟩ : ∃ it, h1.get? I = some it := ⟨_, hst₁⟩
    have hiI : (I, it) ∈ own := hall I (.head _) hI₀ _ hit
    have N₂ : News h₀ env.locals h1 ((I, it) :: Led c) := fun p hp => by
      rcases List.mem_cons.mp hp with rfl | hp
      · exact N₁ _ (List.mem_append_left _ hiI)
      · exact N₁ _ (List.mem_append_right _ hp)
    exact turn_step vars Led (Inv (i + 1)) (turn I i c v it m₁ h1 tk1 hlt hP.1 hP.2 hinv hne (fr_kstB hv F₁) N₂) hit (List.forall_mem_nil _) hown hget
  · rintro h' tk m' news' F' N' _ ⟨c, rfl, hv, hinv⟩
    exact done c m' h' tk hinv (fr_kstB hv F') N'
end
theorem pick_mid (vs : List Value) (j k : Nat) (hj : j ≤ k) (hk : k ≤ vs.length) : (slicePick vs.toArray (some (j : Int)) (some (k : Int)) none).toList = (vs.drop j).take (k - j) := by
  have e : sliceBounds (some (j : Int)) (some (k : Int)) none vs.toArray.size = ((j : Int), (k : Int), 1) := by
    rw [List.size_toArray]
    simp only [sliceBounds, Option.getD_none, show (1 : Int) > 0 by decide, if_true, if_neg (show ¬ ((k : Int) < 0) by omega), if_neg (show ¬ ((j : Int) < 0) by omega)]
    congr 1
    · omega
    · congr 1
      omega
  rw [kmk_pick_nat _ e]
section
variable {prog : Program} {w : World} {A : Around} {E : Value → Shared → Prop} {s : Shared} {h₀ : Heap} {L l : Addr} {m : Str → Option Value} {news : List (Addr × Obj)} {vs : List Value} {n : Nat} {value slice : PySem.Expr} {Q : Value → Shared → Prop}
/-- a list's slice between two bounds -/
theorem mid_g {a b : Int} {t u : Tok} {j k : Nat} (F : Fr h₀ L s.heap m) (N : News h₀ L s.heap news) (hm : (l, listOf vs.toArray n) ∈ news) (hz : vs.length ≤ 100000) (ha : a = (j : Nat)) (hb : b = (k : Nat)) (hj : j ≤ k) (hk : k ≤ vs.length)
    (h : ∀ D h', Fr h₀ L h' m → News h₀ L h' ((D, listOf ((vs.drop j).take (k - j)).toArray 0) :: news) → (∀ p ∈ news, p.1 < D) → Q (.ref D) { s with heap := h' })
    (hs : subscripted slice false (.ref l) (.ref s.heap.objs.size) = operate [.ref s.heap.objs.size, .ref l] (getItem (.ref l) (.ref s.heap.objs.size)) := by with_unfolding_all rfl) :
    wpAny (model prog w) A (subscriptTail value slice (.ref l) (.ref s.heap.objs.size)) Q E { s with heap := s.heap.push { cls := .type "slice", data := .fields #[.int a t, .int b u, .none] } } := by
  subst ha; subst hb
  exact kba_turn (value' := PySem.Expr.Name (PySem.Str.ofString "_") ⟨0, 0, 0, 0⟩) (fun _ => rfl) (kmk_slice_lit (its := vs.toArray) F N (PySem.IsL.isList (n := n) (N _ hm).1) (.int _ _) (.int _ _) (pick_mid _ _ _ hj hk) h hs (fun _ => rfl) (by rw [sizeLine_eq, List.size_toArray]; exact Nat.le_trans hz (by decide)))
end
section
variable {prog : Program} {w : World} {A : Around} {E : Value → Shared → Prop} {s : Shared} {h₀ : Heap} {L : Addr} {m : Str → Option Value} {news : List (Addr × Obj)} {Q : Value → Shared → Prop}
theorem range1_r {b : Int} {t : Tok} (F : Fr h₀ L s.heap m) (N : News h₀ L s.heap news)
    (h : ∀ r h' tk t₁ u₁ v₁, IsRange h' r 0 b 1 t₁ u₁ v₁ → Fr h₀ L h' m → News h₀ L h' news → Q (.ref r) { s with heap := h', toks := tk }) :
    wpAny (model prog w) A (PySem.call (.type "range") [.int b t]) Q E s :=
  range1_rows F N fun h' tk t₁ u₁ v₁ a b' c _ => h _ h' tk t₁ u₁ v₁ a b' c
theorem range2_r {a b : Int} {t u : Tok} (F : Fr h₀ L s.heap m) (N : News h₀ L s.heap news)
    (h : ∀ r h' tk t₁ u₁ v₁, IsRange h' r a b 1 t₁ u₁ v₁ → Fr h₀ L h' m → News h₀ L h' news → Q (.ref r) { s with heap := h', toks := tk }) :
    wpAny (model prog w) A (PySem.call (.type "range") [.int a t, .int b u]) Q E s :=
  range2_rows F N fun h' tk t₁ u₁ v₁ a b' c _ => h _ h' tk t₁ u₁ v₁ a b' c
theorem range3_r {a b c : Int} {t u v : Tok} (F : Fr h₀ L s.heap m) (N : News h₀ L s.heap news) (hc : c ≠ 0) (hp : Builtin.divisionGoesByPylong (b - a) c = false)
    (h : ∀ r h' tk t₁ u₁ v₁, IsRange h' r a b c t₁ u₁ v₁ → Fr h₀ L h' m → News h₀ L h' news → Q (.ref r) { s with heap := h', toks := tk }) :
    wpAny (model prog w) A (PySem.call (.type "range") [.int a t, .int b u, .int c v]) Q E s :=
  range3_rows F N hc (fun h' tk t₁ u₁ v₁ a b' c _ => h _ h' tk t₁ u₁ v₁ a b' c) (.inl hp)
end
theorem span_up : ∀ n : Nat, n < 10 → 2 ≤ n → Builtin.Range.small 2 ((n : Int) + 1) 1 = true ∧ Builtin.Range.rangeSize 2 ((n : Int) + 1) 1 = ((n - 1 : Nat) : Int) := by decide +kernel
theorem span_by : ∀ n : Nat, n < 10 → ∀ m : Nat, m < 10 → 2 ≤ m → m ≤ n → Builtin.Range.small 0 ((n : Int) - m + 1) m = true ∧ Builtin.Range.rangeSize 0 ((n : Int) - m + 1) m = ((n / m : Nat) : Int) ∧ Builtin.divisionGoesByPylong (((n : Int) - m + 1) - 0) m = false := by decide +kernel
section
variable {prog : Program} {w : World} {A : Around} {E : Value → Shared → Prop} {s : Shared} {h₀ : Heap} {L : Addr} {m : Str → Option Value} {news : List (Addr × Obj)} {Q : Value → Shared → Prop}
/-- a range written out as a list -/
theorem list_range_g {r : Addr} {a b c : Int} {t u v : Tok} {n : Nat} (hh : A.handled = none) (F : Fr h₀ L s.heap m) (N : News h₀ L s.heap news) (hr : IsRange s.heap r a b c t u v) (hsm : Builtin.Range.small a b c = true)
    (hn : Builtin.Range.rangeSize a b c = ((n : Nat) : Int)) (hlen : n ≤ 1000)
    (h : ∀ D vs c' h' tk, Fr h₀ L h' m → News h₀ L h' ((D, listOf vs.toArray c') :: news) → (∀ p ∈ news, p.1 < D) → IntsAre vs ((List.range n).map fun (i : Nat) => a + (i : Int) * c) → Q (.ref D) { s with heap := h', toks := tk }) :
    wpAny (model prog w) A (PySem.call (.type "list") [.ref r]) Q E s := by
  refine call_list_range hh hr hsm hn (by omega) fun h' tk acc c' hk hS hacc => ?_
  have hI : IntsAre acc.toList ((List.range n).map fun (i : Nat) => a + (i : Int) * c) := by
    have hv : ∀ x ∈ acc.toList, IsInt x := fun x hx => by
      obtain ⟨j, hj⟩ := List.getElem?_of_mem hx
      obtain ⟨tt, e⟩ := hacc.2 j x (by simpa using hj)
      exact ⟨_, _, e⟩
    have e := ints_of hv
    have e2 : acc.toList.map intOf = (List.range n).map fun (i : Nat) => a + (i : Int) * c := by
      refine List.ext_getElem? fun j => ?_
      rw [List.getElem?_map, List.getElem?_map]
      rcases Nat.lt_or_ge j n with hj | hj
      · obtain ⟨x, hx⟩ : ∃ x, acc.toList[j]? = some x := ⟨_, List.getElem?_eq_getElem (by rw [Array.length_toList, hacc.1]; exact hj)⟩
        obtain ⟨tt, e⟩ := hacc.2 j x (by simpa using hx)
        rw [hx, List.getElem?_range hj, e]; rfl
      · rw [List.getElem?_eq_none (by rw [Array.length_toList, hacc.1]; exact hj), List.getElem?_eq_none (by rw [List.length_range]; exact hj)]; rfl
    rw [e2] at e; exact e
  refine h _ acc.toList c' h' tk (F.keeps hk) (fun p hp => ?_) (fun p hp => Heap.lt_size (N p hp).1) hI
  rcases List.mem_cons.mp hp with rfl | hp
  · exact ⟨by rw [Array.toArray_toList]; exact hS, Nat.ne_of_gt F.ns.lt, next_is_new F⟩
  · exact ⟨hk _ _ (N p hp).1, (N p hp).2⟩
end
theorem span_0 : ∀ m : Nat, m < 10 → Builtin.Range.small 0 (m : Int) 1 = true ∧ Builtin.Range.rangeSize 0 (m : Int) 1 = ((m : Nat) : Int) := by decide +kernel
theorem off3_i {I C D : Addr} : ∀ {l : List (Addr × Obj)}, LCg.Off3 I C D l → LCg.Off1 I l
  | [], _ => trivial
  | _ :: _, x => ⟨x.1.1, off3_i x.2⟩
theorem off3_c {I C D : Addr} : ∀ {l : List (Addr × Obj)}, LCg.Off3 I C D l → LCg.Off1 C l
  | [], _ => trivial
  | _ :: _, x => ⟨x.1.2.1, off3_c x.2⟩
theorem off3_mk {I C D : Addr} : ∀ {l : List (Addr × Obj)}, LCg.Off1 I l → LCg.Off1 C l → LCg.Off1 D l → LCg.Off3 I C D l
  | [], _, _, _ => trivial
  | _ :: _, x, y, z => ⟨⟨x.1, y.1, z.1⟩, off3_mk x.2 y.2 z.2⟩
theorem span_1 : ∀ m : Nat, m < 10 → 1 ≤ m → Builtin.Range.small 1 (m : Int) 1 = true ∧ Builtin.Range.rangeSize 1 (m : Int) 1 = ((m - 1 : Nat) : Int) := by decide +kernel
end Mine
-- B20
namespace Mine
theorem maxN_le : ∀ {xs : List Nat} {m : Nat}, (∀ a ∈ xs, a ≤ m) → maxN xs ≤ m
  | [], _, _ => Nat.zero_le _
  | _ :: _, _, h => Nat.max_le.mpr ⟨h _ (.head _), maxN_le fun b hb => h b (.tail _ hb)⟩
theorem le_maxN : ∀ {xs : List Nat} {a : Nat}, a ∈ xs → a ≤ maxN xs
  | _ :: _, _, .head _ => Nat.le_max_left _ _
  | _ :: _, _, .tail _ h => Nat.le_trans (le_maxN h) (Nat.le_max_right _ _)
theorem upN_length : ∀ k a, (upN a k).length = k
  | 0, _ => rfl
  | k + 1, a => congrArg (· + 1) (upN_length k (a + 1))
theorem upN_get : ∀ {k a i : Nat}, i < k → (upN a k)[i]? = some (a + i)
  | _ + 1, _, 0, _ => rfl
  | k + 1, a, i + 1, h => by
    show (upN (a + 1) k)[i]? = _
    rw [upN_get (Nat.lt_of_succ_lt_succ h)]; congr 1; omega
theorem bits_length (gs : List Nat) : (bitsIn gs).length = gs.length - 1 := by
  rw [bitsIn, List.length_map, upN_length]
theorem bits_get {gs : List Nat} {i : Nat} (h : i + 1 < gs.length) :
    (bitsIn gs)[i]? = some (if maxN (gs.take (i + 1)) < gs.getD (i + 1) 0 then 1 else 0) := by
  rw [bitsIn, List.getElem?_map, upN_get (by omega), Option.map_some, Nat.add_comm 1 i]
theorem bit_of {gs : List Nat} {i : Nat} {M : Int} (h1 : M ∈ (gs.map fun (x : Nat) => (x : Int)).take (i + 1)) (h2 : ∀ a ∈ (gs.map fun (x : Nat) => (x : Int)).take (i + 1), a ≤ M) :
    M = ((maxN (gs.take (i + 1)) : Nat) : Int) := by
  rw [← List.map_take] at h1 h2
  obtain ⟨x, hx, rfl⟩ := List.mem_map.mp h1
  have a1 : x ≤ maxN (gs.take (i + 1)) := le_maxN hx
  have a2 : maxN (gs.take (i + 1)) ≤ x := maxN_le fun b hb => by
    have := h2 (b : Int) (List.mem_map.mpr ⟨b, hb, rfl⟩)
    omega
  omega
theorem bits_figs (gs : List Nat) : Figs 1 (bitsIn gs) := by
  intro d hd
  obtain ⟨p, _, rfl⟩ := List.mem_map.mp hd
  split <;> decide
theorem bit_next {gs : List Nat} {i : Nat} (h : i + 1 < gs.length) :
    (bitsIn gs).take (i + 1) = (bitsIn gs).take i ++ [if decide (((maxN (gs.take (i + 1)) : Nat) : Int) < (gs.map fun (x : Nat) => (x : Int)).getD ((i + 1 : Nat) : Int).toNat 0) = true then 1 else 0] := by
  have e : (gs.map fun (x : Nat) => (x : Int)).getD ((i + 1 : Nat) : Int).toNat 0 = ((gs.getD (i + 1) 0 : Nat) : Int) := by
    rw [Int.toNat_natCast, List.getD_eq_getElem?_getD, List.getD_eq_getElem?_getD, List.getElem?_map, List.getElem?_eq_getElem h]; rfl
  rw [List.take_add_one, bits_get h, e]
  congr 2
  simp only [decide_eq_true_eq, Int.ofNat_lt, Option.toList_some]
/-- what _law_led_back's loop holds -/
structure BackSt where
  lo : Int
  hi : Int
  tl : Tok
  th : Tok
  rv : List Value
  re : Nat
noncomputable def BackInv (bits want : List Int) (i : Nat) (c : BackSt) : Prop := ∃ rI, IntsAre c.rv rI ∧ c.rv.length = i + 1 ∧ rowGo (bits.drop i) c.lo c.hi rI = want
theorem BackInv.one {bits want : List Int} {i : Nat} {c : BackSt} {x : Int} {t u : Tok} {e : Nat} (h : BackInv bits want i c) (hb : bits[i]? = some x) (h1 : x = 1) : BackInv bits want (i + 1) ⟨c.lo, c.hi + 1, c.tl, t, c.rv ++ [.int (c.hi + 1) u], e⟩ := by
  obtain ⟨rI, a, b, d⟩ := h
  refine ⟨rI ++ [c.hi + 1], ints_append a (.cons _ _ .nil), by show (c.rv ++ _).length = _; rw [List.length_append, b]; rfl, ?_⟩
  rw [← d]
  obtain ⟨hlt, rfl⟩ := List.getElem?_eq_some_iff.mp hb
  rw [List.drop_eq_getElem_cons hlt, rowGo, if_pos h1]
theorem BackInv.not {bits want : List Int} {i : Nat} {c : BackSt} {x : Int} {t u : Tok} {e : Nat} (h : BackInv bits want i c) (hb : bits[i]? = some x) (h1 : ¬ x = 1) : BackInv bits want (i + 1) ⟨c.lo - 1, c.hi, t, c.th, c.rv ++ [.int (c.lo - 1) u], e⟩ := by
  obtain ⟨rI, a, b, d⟩ := h
  refine ⟨rI ++ [c.lo - 1], ints_append a (.cons _ _ .nil), by show (c.rv ++ _).length = _; rw [List.length_append, b]; rfl, ?_⟩
  rw [← d]
  obtain ⟨hlt, rfl⟩ := List.getElem?_eq_some_iff.mp hb
  rw [List.drop_eq_getElem_cons hlt, rowGo, if_neg h1]
theorem BackInv.fin {bits want : List Int} {c : BackSt} (h : BackInv bits want bits.length c) : IntsAre c.rv want := by
  obtain ⟨rI, a, b, d⟩ := h
  rw [List.drop_length, rowGo] at d
  rw [← d]; exact a
end Mine
-- B21
namespace Mine
/-- the smaller of two pairs of ints -/
noncomputable def ltP (p q : Int × Int) : Bool := decide (p.1 < q.1) || (p.1 == q.1 && decide (p.2 < q.2))
theorem lt_ints {prog : Program} {w : World} {A : Around} {E : Value → Shared → Prop} {s : Shared} {a b : Int} {t u : Tok} {Q : Value → Shared → Prop} (h : Q (.bool (decide (a < b))) s) :
    wpAny (model prog w) A (richCompare .Lt (.int a t) (.int b u)) Q E s := wpAny_lt_int h
theorem tuple_ltM (l b : Addr) (x y x' y' : Int) (t u t' u' : Tok) :
    Meets (Builtin.«tuple.__lt__» ⟨[.ref l, .ref b], []⟩)
      (fun _ R s => s.heap.get? l = some (pairO x y t u) ∧ s.heap.get? b = some (pairO x' y' t' u') ∧ R (.ok (.ret (.bool (ltP (x, y) (x', y'))))) s) :=
  .of_wp fun prog w A R s h => by
    obtain ⟨hp, g, d, tk, os⟩ := s; obtain ⟨hl, hb, h⟩ := h
    have f2 := AutoSeq1.sub_tuple_tuple
    wp_walk using wpAny_loadPart' hl, wpAny_loadPart' hb, wpAny_forIn_list _ (fun rest b s' => b.1 = none ∧ s' = ⟨hp, g, d, tk, os⟩ ∧ (rest = [(.int x t, .int x' t'), (.int y u, .int y' u')] ∨ (rest = [(.int y u, .int y' u')] ∧ x = x') ∨ (rest = [] ∧ x = x' ∧ y = y'))) _
    case turn =>
      rintro ⟨p, q⟩ rest b s' ⟨hb', rfl, hz⟩
      rcases hz with hz | ⟨hz, rfl⟩ | ⟨hz, _⟩
      · injection hz with h1 h2
        injection h1 with h3 h4
        subst h3 h4 h2
        refine wpAny_bind ((MeetsSeq.EqGives.int x x' t t') prog w _ _ _ _ ?_)
        cases hy : (x == x') with
        | true =>
          wp_walk
          exact ⟨rfl, rfl, .inr (.inl ⟨rfl, by simpa using hy⟩)⟩
        | false =>
          wp_walk using lt_ints
          have e : ltP (x, y) (x', y') = decide (x < x') := by unfold ltP; dsimp only; rw [hy, Bool.false_and, Bool.or_false]
          rw [e] at h
          exact ⟨_, rfl, h⟩
      · injection hz with h1 h2
        injection h1 with h3 h4
        subst h3 h4 h2
        refine wpAny_bind ((MeetsSeq.EqGives.int y y' u u') prog w _ _ _ _ ?_)
        cases hy : (y == y') with
        | true =>
          wp_walk
          exact ⟨rfl, rfl, .inr (.inr ⟨rfl, rfl, by simpa using hy⟩)⟩
        | false =>
          wp_walk using lt_ints
          have e : ltP (x, y) (x, y') = decide (y < y') := by unfold ltP; simp
          rw [e] at h
          exact ⟨_, rfl, h⟩
      · cases hz
    case fin =>
      rintro ⟨b1, b2⟩ s' ⟨hb', rfl, hz⟩
      simp only at hb'
      subst hb'
      rcases hz with hz | ⟨hz, _⟩ | ⟨_, rfl, rfl⟩
      · cases hz
      · cases hz
      · wp_walk
        have e : ltP (x, y) (x, y) = false := by unfold ltP; simp
        rw [e] at h
        exact ⟨_, rfl, by simpa [Builtin.Tuple.tupleCompareSizes] using h⟩
    case h =>
      exact ⟨rfl, rfl, .inl rfl⟩
theorem lt_pair {prog : Program} {w : World} {A : Around} {E : Value → Shared → Prop} {s : Shared} {l b : Addr} {x y x' y' : Int} {t u t' u' : Tok} {Q : Value → Shared → Prop}
    (hl : s.heap.get? l = some (pairO x y t u)) (hb : s.heap.get? b = some (pairO x' y' t' u')) (hu : A.units < cLine) (h : Q (.bool (ltP (x, y) (x', y'))) s) :
    wpAny (model prog w) A (compareOp .Lt (.ref l) (.ref b)) Q E s :=
  richCompare_meets_room (op := .Lt) ⟨_, hl, rfl⟩ ⟨_, hb, rfl⟩ PySem.F.slot_tuple_lt PySem.F.entry_tuple_lt (PySem.F.args_tuple_lt_2 _ _) (tuple_ltM l b x y x' y' t u t' u')
    ⟨hl, hb, show Value.bool (ltP (x, y) (x', y')) ≠ Value.notImplemented ∧ Q (.bool (ltP (x, y) (x', y'))) s from ⟨(fun x => nomatch x), h⟩⟩ hu
end Mine
-- B22
namespace Mine
section
variable {prog : Program} {w : World} {A : Around} {E : Value → Shared → Prop} {s : Shared} {h₀ : Heap} {L : Addr} {m : Str → Option Value} {news : List (Addr × Obj)} {Q : Value → Shared → Prop}
theorem range2_g {a b : Int} {t u : Tok} (F : Fr h₀ L s.heap m) (N : News h₀ L s.heap news)
    (h : ∀ D h' tk v, Fr h₀ L h' m → News h₀ L h' ((D, rangeObj a b 1 t u v) :: news) → (∀ p ∈ news, p.1 < D) → Q (.ref D) { s with heap := h', toks := tk }) :
    wpAny (model prog w) A (PySem.call (.type "range") [.int a t, .int b u]) Q E s := by
  refine call_range_2 ?_
  refine h _ _ _ s.toks (F.push _) (fun p hp => ?_) (fun p hp => Heap.lt_size (N p hp).1)
  rcases List.mem_cons.mp hp with rfl | hp
  · exact ⟨Heap.get?_push_size _ rfl, Nat.ne_of_gt F.ns.lt, next_is_new F⟩
  · exact ⟨Heap.get?_push_of_some _ (N p hp).1, (N p hp).2⟩
end
theorem span_down : ∀ c : Nat, c < 10 → Builtin.Range.small (c : Int) 0 (-1) = true ∧ Builtin.Range.rangeSize (c : Int) 0 (-1) = ((c : Nat) : Int) ∧ Builtin.divisionGoesByPylong (0 - (c : Int)) (-1) = false := by decide +kernel
theorem span_cut : ∀ n : Nat, n < 10 → ∀ c : Nat, c < 10 → c ≤ n → Builtin.Range.small ((c : Int) + 1) ((n : Int) + 1) 1 = true ∧ Builtin.Range.rangeSize ((c : Int) + 1) ((n : Int) + 1) 1 = ((n - c : Nat) : Int) := by decide +kernel
theorem downN_length : ∀ c, (downN c).length = c
  | 0 => rfl
  | c + 1 => congrArg (· + 1) (downN_length c)
theorem downN_get : ∀ {c i x : Nat}, (downN c)[i]? = some x → (c : Int) + (i : Int) * (-1) = (x : Nat)
  | c + 1, 0, x, h => by
    obtain rfl : c + 1 = x := Option.some.inj h
    omega
  | c + 1, i + 1, x, h => by
    have := downN_get (c := c) (i := i) h
    omega
theorem upN_get' {k a i x : Nat} (h : (upN a k)[i]? = some x) : (a : Int) + (i : Int) * 1 = (x : Nat) := by
  obtain ⟨hl, -⟩ := List.getElem?_eq_some_iff.mp h
  rw [upN_length] at hl
  rw [upN_get hl] at h
  obtain rfl := Option.some.inj h
  omega
theorem downN_lt {c b : Nat} (h : c < b) : ∀ x ∈ downN c, x < b := by
  intro x hx
  obtain ⟨i, hi⟩ := List.getElem?_of_mem hx
  have := downN_get hi
  omega
theorem upN_lt {a k b : Nat} (h : a + k ≤ b) : ∀ x ∈ upN a k, x < b := by
  intro x hx
  obtain ⟨i, hi⟩ := List.getElem?_of_mem hx
  obtain ⟨hl, -⟩ := List.getElem?_eq_some_iff.mp hi
  rw [upN_length] at hl
  have := upN_get' hi
  omega
noncomputable def CutsAt (gs : List Nat) (i : Nat) (vs : List Value) : Prop := IntsAre vs (((List.range i).filter (cutOk gs)).map fun (x : Nat) => (x : Int))
theorem CutsAt.yes {gs : List Nat} {i : Nat} {vs : List Value} {t : Tok} (h : CutsAt gs i vs) (b : cutOk gs i = true) : CutsAt gs (i + 1) (vs ++ [.int (i : Int) t]) := by
  unfold CutsAt at h ⊢
  rw [List.range_succ, List.filter_append, List.map_append, List.filter_cons_of_pos b]
  exact ints_append h (.cons _ _ .nil)
theorem CutsAt.no {gs : List Nat} {i : Nat} {vs : List Value} (h : CutsAt gs i vs) (b : cutOk gs i = false) : CutsAt gs (i + 1) vs := by
  unfold CutsAt at h ⊢
  rw [List.range_succ, List.filter_append, List.map_append, List.filter_cons_of_neg (by rw [b]; exact Bool.noConfusion), List.filter_nil, List.map_nil, List.append_nil]
  exact h
theorem CutsAt.len {gs : List Nat} {i : Nat} {vs : List Value} (h : CutsAt gs i vs) : vs.length ≤ i := by
  have e := h.length
  rw [List.length_map] at e
  have := List.length_filter_le (cutOk gs) (List.range i)
  rw [List.length_range] at this
  omega
theorem downN_pos {c : Nat} : ∀ x ∈ downN c, 1 ≤ x := by
  intro x hx
  obtain ⟨i, hi⟩ := List.getElem?_of_mem hx
  obtain ⟨hl, -⟩ := List.getElem?_eq_some_iff.mp hi
  rw [downN_length] at hl
  have := downN_get hi
  omega
theorem upN_pos {a k : Nat} (h : 1 ≤ a) : ∀ x ∈ upN a k, 1 ≤ x := by
  intro x hx
  obtain ⟨i, hi⟩ := List.getElem?_of_mem hx
  have := upN_get' hi
  omega
end Mine
-- B23
namespace Mine
/-- the pair that a value refers to -/
noncomputable def pairIn (h : Heap) : Value → Int × Int
  | .ref a => match h.get? a with
    | some { cls := _, dict := _, data := .seq xs _, slots := _ } => (intOf (xs.getD 0 .none), intOf (xs.getD 1 .none))
    | _ => (0, 0)
  | _ => (0, 0)
theorem pairIn_of {h : Heap} {a : Addr} {x y : Int} {t u : Tok} (e : h.get? a = some (pairO x y t u)) : pairIn h (.ref a) = (x, y) := by
  show (match h.get? a with
    | some { cls := _, dict := _, data := .seq xs _, slots := _ } => (intOf (xs.getD 0 .none), intOf (xs.getD 1 .none))
    | _ => (0, 0)) = _
  rw [e]; rfl
noncomputable def TupIn (ts : List (Addr × Obj)) (v : Value) : Prop := ∃ a x y t u, v = .ref a ∧ (a, pairO x y t u) ∈ ts
noncomputable def ltH (h : Heap) (v w : Value) : Bool := ltP (pairIn h v) (pairIn h w)
theorem PairsIn.look {h : Heap} {ts : List (Addr × Obj)} {vs : List Value} {ps : List (Int × Int)} (H : ∀ p ∈ ts, h.get? p.1 = some p.2) (x : PairsIn ts vs ps) : vs.map (pairIn h) = ps := by
  induction x with
  | nil => rfl
  | cons e _ ih => rw [List.map_cons, ih, pairIn_of (H _ e)]
theorem PairsIn.all {ts : List (Addr × Obj)} {vs : List Value} {ps : List (Int × Int)} (x : PairsIn ts vs ps) : ∀ v ∈ vs, TupIn ts v := by
  induction x with
  | nil => intro v hv; cases hv
  | cons e _ ih =>
    intro v hv
    rcases List.mem_cons.mp hv with rfl | hv
    · exact ⟨_, _, _, _, _, rfl, e⟩
    · exact ih v hv
theorem pairs_of {h : Heap} {ts : List (Addr × Obj)} (H : ∀ p ∈ ts, h.get? p.1 = some p.2) : ∀ {vs : List Value}, (∀ v ∈ vs, TupIn ts v) → PairsIn ts vs (vs.map (pairIn h))
  | [], _ => .nil
  | v :: vs, k => by
    obtain ⟨a, x, y, t, u, rfl, e⟩ := k v (.head _)
    rw [List.map_cons, pairIn_of (H _ e)]
    exact .cons e (pairs_of H fun w hw => k w (.tail _ hw))
theorem cmp_pair {prog : Program} {w : World} {h g : Heap} {ts : List (Addr × Obj)} (H : ∀ p ∈ ts, h.get? p.1 = some p.2) (G : ∀ p ∈ ts, g.get? p.1 = some p.2) : Cmp prog w (ltH h) (TupIn ts) g := by
  rintro _ _ ⟨a, x, y, t, u, rfl, e⟩ ⟨b, x', y', t', u', rfl, e'⟩ A s Q E hk hu hq
  have := hq s.toks
  rw [ltH, pairIn_of (H _ e), pairIn_of (H _ e')] at this
  exact lt_pair (hk _ _ (G _ e)) (hk _ _ (G _ e')) (by omega) this
theorem push_pairs {h : Heap} {ts : List (Addr × Obj)} {vs : List Value} {ps : List (Int × Int)} {a : Addr} {x y : Int} {t u : Tok} (H : ∀ p ∈ ts, h.get? p.1 = some p.2) (k : PairsIn ts vs ps) (e : (a, pairO x y t u) ∈ ts) :
    PairsIn ts (hpush (ltH h) (.ref a) vs) (hpush ltP (x, y) ps) := by
  have h1 := pairs_of H (hpush_all (ltH h) (v := .ref a) (P := TupIn ts) ⟨_, _, _, _, _, rfl, e⟩ k.all)
  rwa [hpush_map (pairIn h) (lt := ltH h) (lt' := ltP) (fun _ _ => rfl), k.look H, pairIn_of (H _ e)] at h1
theorem pop_pairs {h : Heap} {ts : List (Addr × Obj)} {vs : List Value} {ps : List (Int × Int)} {v : Value} {q : Int × Int} (H : ∀ p ∈ ts, h.get? p.1 = some p.2) (k : PairsIn ts vs ps) (e : PairsIn ts [v] [q]) :
    (∃ a t u, (hpop (ltH h) vs v).1 = .ref a ∧ (a, pairO (hpop ltP ps q).1.1 (hpop ltP ps q).1.2 t u) ∈ ts) ∧ PairsIn ts (hpop (ltH h) vs v).2 (hpop ltP ps q).2 := by
  have hv := e.all v (.head _)
  have hq : pairIn h v = q := by have := e.look H; exact (List.cons.inj this).1
  have a := hpop_all (ltH h) hv k.all
  have m := hpop_map (pairIn h) (lt := ltH h) (lt' := ltP) (fun _ _ => rfl) vs v
  rw [k.look H, hq] at m
  refine ⟨?_, ?_⟩
  · obtain ⟨b, x, y, t, u, hb, hm⟩ := a.1
    have m1 := m.1
    rw [hb, pairIn_of (H _ hm)] at m1
    refine ⟨b, t, u, hb, ?_⟩
    rw [← m1]; exact hm
  · have := pairs_of H a.2
    rwa [m.2] at this
/-- what a hand drops on the heap -/
noncomputable def dropGo (ws : List Int) : List Nat → Int → List (Int × Int) → List (Int × Int)
  | [], _, hp => hp
  | c :: r, hour, hp => dropGo ws r (hour + ws.getD (c - 1) 0) (hpush ltP (hour + ws.getD (c - 1) 0, (c : Int)) hp)
noncomputable def popAll : Nat → List (Int × Int) → List (Int × Int)
  | 0, _ => []
  | k + 1, hp => (hpop ltP hp.dropLast (hp.getLastD (0, 0))).1 :: popAll k (hpop ltP hp.dropLast (hp.getLastD (0, 0))).2
noncomputable def heapOf (ws : List Int) (cut : Nat) : List (Int × Int) := dropGo ws (upN (cut + 1) (ws.length - cut)) 0 (dropGo ws (downN cut) 0 [])
noncomputable def deckOf (ws : List Int) (cut : Nat) : List Int := (popAll ws.length (heapOf ws cut)).map Prod.snd
end Mine
-- B24
namespace Mine
theorem down_list (c : Nat) : ((List.range c).map fun (i : Nat) => (c : Int) + (i : Int) * (-1)) = (downN c).map fun (x : Nat) => (x : Int) := by
  refine List.ext_getElem? fun i => ?_
  rw [List.getElem?_map, List.getElem?_map]
  rcases Nat.lt_or_ge i c with h | h
  · obtain ⟨x, hx⟩ : ∃ x, (downN c)[i]? = some x := ⟨_, List.getElem?_eq_getElem (by rw [downN_length]; exact h)⟩
    rw [List.getElem?_range h, hx, Option.map_some, Option.map_some, downN_get hx]
  · rw [List.getElem?_eq_none (by rw [List.length_range]; exact h), List.getElem?_eq_none (by rw [downN_length]; exact h)]; rfl
theorem up_list (a k : Nat) : ((List.range k).map fun (i : Nat) => (a : Int) + (i : Int) * 1) = (upN a k).map fun (x : Nat) => (x : Int) := by
  refine List.ext_getElem? fun i => ?_
  rw [List.getElem?_map, List.getElem?_map]
  rcases Nat.lt_or_ge i k with h | h
  · rw [List.getElem?_range h, upN_get h, Option.map_some, Option.map_some]
    congr 1
    omega
  · rw [List.getElem?_eq_none (by rw [List.length_range]; exact h), List.getElem?_eq_none (by rw [upN_length]; exact h)]; rfl
theorem dropGo_length (ws : List Int) : ∀ (cs : List Nat) (hour : Int) (hp : List (Int × Int)), (dropGo ws cs hour hp).length = hp.length + cs.length
  | [], _, _ => rfl
  | c :: r, hour, hp => by
    rw [dropGo, dropGo_length ws r, hpush_len, List.length_cons]; omega
theorem heapOf_length (ws : List Int) (cut : Nat) (h : cut ≤ ws.length) : (heapOf ws cut).length = ws.length := by
  rw [heapOf, dropGo_length, dropGo_length, downN_length, upN_length]
  simp; omega
/-- what the loops of _law_dropped hold -/
structure DropSt where
  pv : List Value
  e : Nat
  ts : List (Addr × Obj)
  hour : Int
  th : Tok
noncomputable def DropInv (ws : List Int) (hl : Addr) (cards : List Nat) (want : List (Int × Int)) (j : Nat) (c : DropSt) : Prop :=
  ∃ ps, PairsIn c.ts c.pv ps ∧ ps.length ≤ 8 + j ∧ dropGo ws (cards.drop j) c.hour ps = want ∧ ∀ t ∈ c.ts, hl ≠ t.1
theorem DropInv.step {ws : List Int} {hl : Addr} {cards : List Nat} {want : List (Int × Int)} {j : Nat} {c : DropSt} {x : Nat} {h : Heap} {a : Addr} {t u v : Tok} {e : Nat} {hour' : Int} (I : DropInv ws hl cards want j c) (hx : cards[j]? = some x)
    (hh : hour' = c.hour + ws.getD (x - 1) 0) (H : ∀ p ∈ (a, pairO hour' (x : Int) t u) :: c.ts, h.get? p.1 = some p.2) (ha : hl ≠ a) :
    DropInv ws hl cards want (j + 1) ⟨hpush (ltH h) (.ref a) c.pv, e, (a, pairO hour' (x : Int) t u) :: c.ts, hour', v⟩ := by
  obtain ⟨ps, h1, h2, h3, h4⟩ := I
  refine ⟨_, push_pairs H (h1.mono fun p hp => .tail _ hp) (.head _), by rw [hpush_len]; omega, ?_, List.forall_mem_cons.mpr ⟨ha, h4⟩⟩
  rw [← h3]
  obtain ⟨hlt, rfl⟩ := List.getElem?_eq_some_iff.mp hx
  rw [List.drop_eq_getElem_cons hlt, dropGo, hh]
theorem DropInv.fin {ws : List Int} {hl : Addr} {cards : List Nat} {want : List (Int × Int)} {c : DropSt} (I : DropInv ws hl cards want cards.length c) : PairsIn c.ts c.pv want ∧ ∀ t ∈ c.ts, hl ≠ t.1 := by
  obtain ⟨ps, h1, h2, h3, h4⟩ := I
  rw [List.drop_length, dropGo] at h3
  exact ⟨h3 ▸ h1, h4⟩
theorem popAll_succ (k : Nat) (ps : List (Int × Int)) (q : Int × Int) : popAll (k + 1) (ps ++ [q]) = (hpop ltP ps q).1 :: popAll k (hpop ltP ps q).2 := by
  rw [popAll, List.dropLast_concat, List.getLastD_concat]
noncomputable def hpsAt (ws : List Int) (cut : Nat) : Nat → List (Int × Int)
  | 0 => []
  | 1 => dropGo ws (downN cut) 0 []
  | _ => heapOf ws cut
theorem hpsAt_length (ws : List Int) (cut : Nat) (h : cut ≤ ws.length) : ∀ k, (hpsAt ws cut k).length ≤ ws.length
  | 0 => Nat.zero_le _
  | 1 => by rw [hpsAt, dropGo_length, downN_length]; simp; omega
  | k + 2 => by show (heapOf ws cut).length ≤ _; rw [heapOf_length ws cut h]; exact Nat.le_refl _
theorem PairsIn.split {ts : List (Addr × Obj)} {vs : List Value} {y : Value} {ps : List (Int × Int)} (h : PairsIn ts (vs ++ [y]) ps) : ∃ qs q, ps = qs ++ [q] ∧ PairsIn ts vs qs ∧ PairsIn ts [y] [q] := by
  induction vs generalizing ps with
  | nil =>
    cases h with
    | cons e r =>
      cases r with
      | nil => exact ⟨[], _, rfl, .nil, .cons e .nil⟩
  | cons v vs ih =>
    cases h with
    | cons e r =>
      obtain ⟨qs, q, rfl, a, b⟩ := ih r
      exact ⟨_ :: qs, q, rfl, .cons e a, b⟩
theorem pop_step {ps : List (Int × Int)} {q : Int × Int} {all : List (Int × Int)} {i : Nat} (h : all.drop i = popAll (ps ++ [q]).length (ps ++ [q])) :
    (all.map Prod.snd).take (i + 1) = (all.map Prod.snd).take i ++ [(hpop ltP ps q).1.2] ∧ all.drop (i + 1) = popAll (hpop ltP ps q).2.length (hpop ltP ps q).2 := by
  rw [List.length_append, List.length_singleton, popAll_succ] at h
  have h0 : all[i]? = some (hpop ltP ps q).1 := by
    have e : (all.drop i)[0]? = some (hpop ltP ps q).1 := by rw [h]; rfl
    rwa [List.getElem?_drop, Nat.add_zero] at e
  refine ⟨?_, ?_⟩
  · rw [List.take_add_one, List.getElem?_map, h0]; rfl
  · have e := congrArg (List.drop 1) h
    rw [List.drop_drop] at e
    rw [e, hpop_len]; rfl
theorem popAll_length : ∀ (k : Nat) (hp : List (Int × Int)), (popAll k hp).length = k
  | 0, _ => rfl
  | k + 1, _ => congrArg (· + 1) (popAll_length k _)
theorem deckOf_length (ws : List Int) (cut : Nat) : (deckOf ws cut).length = ws.length := by
  rw [deckOf, List.length_map, popAll_length]
end Mine
-- B25
section
open PySem PySem.W PySem.Calls PySem.Spec PyProof.Rows PyProof.V
namespace Mine
/-- {a: b, b: a}.get(p, p) -/
noncomputable def goTo (a b p : Int) : Int := if p = b then a else if p = a then b else p
abbrev goesKvs (a b : Int) (u v : Tok) : List (Int × Value) := merged [] [(a, .int b u), (b, .int a v)]
theorem goes_at (a b p : Int) (u v : Tok) : valueAt (goesKvs a b u v) p = if p = b then some (.int a v) else if p = a then some (.int b u) else none := by
  by_cases hab : a = b
  · subst hab
    have e : goesKvs a a u v = [(a, .int a v)] := by simp [goesKvs, merged, stored]
    rw [e]
    by_cases hp : p = a
    · subst hp; simp [valueAt]
    · simp [valueAt, Ne.symm hp, hp]
  · have e : goesKvs a b u v = [(a, .int b u), (b, .int a v)] := by simp [goesKvs, merged, stored, hab]
    rw [e]
    by_cases hp : p = b
    · subst hp; simp [valueAt, hab]
    · by_cases hq : p = a
      · subst hq; simp [valueAt, hp]
      · simp [valueAt, hp, hq, Ne.symm hp, Ne.symm hq]
theorem goes_get (a b p : Int) (u v t : Tok) : ∃ t', (valueAt (goesKvs a b u v) p).getD (.int p t) = .int (goTo a b p) t' := by
  rw [goes_at]; unfold goTo
  split
  · exact ⟨_, rfl⟩
  · split
    · exact ⟨_, rfl⟩
    · exact ⟨_, rfl⟩
section
variable {prog : Program} {w : World} {A : Around} {E : Value → Shared → Prop} {s : Shared} {h₀ : Heap} {L d : Addr} {m : Str → Option Value} {news : List (Addr × Obj)} {g : Obj → List (Addr × Obj)} {o : Obj} {Q : Value → Shared → Prop}
theorem kdn_two {a b : Int} {t u t' u' : Tok} (F : Fr h₀ L s.heap m) (N : News h₀ L s.heap news) (U : UpdF d o news g) (hd : o.IsDictOf (PySem.intKind prog w) [])
    (h : ∀ h' o', Fr h₀ L h' m → News h₀ L h' (g o') → o'.IsDictOf (PySem.intKind prog w) (goesKvs a b u u') → Q (.ref d) { s with heap := h', toks := s.toks + 2 }) :
    KdnMade prog w (PySem.intKind prog w) d Q [(.int a t, .int b u), (.int b t', .int a u')] s := by
  obtain ⟨pre, post, rfl, hg, a1, b1⟩ := U.split
  have hm := N (d, o) (List.mem_append_right _ (.head _))
  refine ⟨[(a, .int b u), (b, .int a u')], ⟨intKind_is _ _ _ _, rfl, intKind_is _ _ _ _, rfl, trivial⟩, Heap.dictOf_iff.mpr ⟨o, hm.1, hd⟩, fun h' hmm hs => ?_⟩
  obtain ⟨o', ho', hd'⟩ := Heap.dictOf_iff.mp hmm
  exact h h' o' (F.change hs hm.2.1 hm.2.2) (hg o' ▸ N.setIn a1 b1 hs ho') hd'
theorem goes_call {a b p : Int} {u v t t' : Tok} (N : News h₀ L s.heap news) (hp : (d, o) ∈ news) (hd : o.IsDictOf (PySem.intKind prog w) (goesKvs a b u v)) (lo : (d == sysModules) = false) (h : ∀ t'' k, Q (.int (goTo a b p) t'') { s with toks := k }) :
    wpAny (model prog w) A (PySem.call (.builtin "dict.get") [.ref d, .int p t, .int p t']) Q E s := by
  obtain ⟨t2, e⟩ := goes_get a b p u v t'
  refine kdg_get2 (knd := PySem.intKind _ _) (dflt := .int p t') N hp hd lo (intKind_is _ _ _ _) _ rfl ?_
  rw [e]; exact h _ _
end
end Mine
end
-- B26
namespace Mine
noncomputable def dataThree (cs : List Int) (b c : Bool) : PyData := .list [.list (cs.map .int), .bool b, .bool c]
theorem reads_ints {h : Heap} {vs : List Value} {ns : List Int} (I : IntsAre vs ns) : ReadsAll h vs (ns.map .int) [] := by
  induction I with
  | nil => exact .nil
  | cons i t _ ih => exact .cons (as := []) (bs := []) (.int i t) ih
theorem reads_three {h : Heap} {X C : Addr} {cv : List Value} {ns : List Int} {b c : Bool} {e : Nat} (hX : h.get? X = some (listOf #[.ref C, .bool b, .bool c] 0)) (hC : h.get? C = some (listOf cv.toArray e)) (I : IntsAre cv ns) :
    ∃ as, Reads h (.ref X) (dataThree ns b c) as := by
  have r : ReadsAll h cv.toArray.toList (ns.map .int) [] := reads_ints I
  exact ⟨_, .list hX rfl rfl (.cons (.list hC rfl rfl r) (.cons (.bool _) (.cons (.bool _) .nil)))⟩
section
variable {prog : Program} {w : World} {A : Around} {E : Value → Shared → Prop} {s : Shared} {h₀ : Heap} {L X C Y D Z F T : Addr} {news : List (Addr × Obj)} {Q : Value → Shared → Prop} {cv dv : List Value} {e e' : Nat} {x y : Int} {b c : Bool}
theorem three_ne (N : News h₀ L s.heap news) (hX : (X, listOf #[.ref C, .bool true, .bool true] 0) ∈ news) (hC : (C, listOf cv.toArray e) ∈ news) (I : IntsAre cv [x, y]) (hY : (Y, listOf #[.ref D, .bool true, .bool true] 0) ∈ news) (hD : (D, listOf dv.toArray e') ∈ news) (J : IntsAre dv [x, y])
    (hu : A.units + 64 < cLine) (h : Q (.bool false) s) : wpAny (model prog w) A (compareOp .NotEq (.ref X) (.ref Y)) Q E s := by
  obtain ⟨_, r1⟩ := reads_three (N _ hX).1 (N _ hC).1 I
  obtain ⟨_, r2⟩ := reads_three (N _ hY).1 (N _ hD).1 J
  refine PyProof.Rows.ne_dataH r1 r2 rfl rfl hu ?_
  have q : PyData.eqv (dataThree [x, y] true true) (dataThree [x, y] true true) = true := by simp [dataThree, PyData.eqv, PyData.eqvAll]
  rw [q]; exact h
theorem three_in (N : News h₀ L s.heap news) (hX : (X, listOf #[.ref C, .bool b, .bool c] 0) ∈ news) (hC : (C, listOf cv.toArray e) ∈ news) {ns : List Int} (I : IntsAre cv ns)
    (hY : (Y, listOf #[.ref D, .bool true, .bool true] 0) ∈ news) (hD : (D, listOf dv.toArray e') ∈ news) (J : IntsAre dv [x, y]) {zv : List Value} {e2 : Nat} (hZ : (Z, listOf #[.ref F, .bool false, .bool false] 0) ∈ news) (hF : (F, listOf zv.toArray e2) ∈ news) (K : IntsAre zv [])
    (hT : (T, { cls := .type "tuple", data := .seq #[.ref Y, .ref Z] 0 }) ∈ news) (hu : A.units + 65 < cLine) (hcase : (ns = [x, y] ∧ b = true ∧ c = true) ∨ (ns = [] ∧ b = false ∧ c = false)) (h : Q (.bool true) s) :
    wpAny (model prog w) A (compareOp .In (.ref X) (.ref T)) Q E s := by
  obtain ⟨_, r1⟩ := reads_three (N _ hX).1 (N _ hC).1 I
  obtain ⟨_, r2⟩ := reads_three (N _ hY).1 (N _ hD).1 J
  obtain ⟨_, r3⟩ := reads_three (N _ hZ).1 (N _ hF).1 K
  obtain ⟨_, rt⟩ : ∃ as, Reads s.heap (.ref T) (.tuple [dataThree [x, y] true true, dataThree [] false false]) as := ⟨_, .tuple (N _ hT).1 rfl rfl (.cons r2 (.cons r3 .nil))⟩
  rcases hcase with ⟨rfl, rfl, rfl⟩ | ⟨rfl, rfl, rfl⟩
  · refine SeqAt.in_tuple_reads rt r1 (by rfl) (SeqAt.canLay_of_shaped (by rfl)) (room_in_shaped (by rfl) hu) ?_
    have q : ([dataThree [x, y] true true, dataThree [] false false].any fun z => PyData.eqv z (dataThree [x, y] true true)) = true := by simp [dataThree, PyData.eqv, PyData.eqvAll]
    rw [q]; exact h
  · refine SeqAt.in_tuple_reads rt r1 (by rfl) (SeqAt.canLay_of_shaped (by rfl)) (room_in_shaped (by rfl) hu) ?_
    have q : ([dataThree [x, y] true true, dataThree [] false false].any fun z => PyData.eqv z (dataThree [] false false)) = true := by simp [dataThree, PyData.eqv, PyData.eqvAll]
    rw [q]; exact h
end
end Mine
-- B27
namespace Mine
noncomputable def goN (a b p : Nat) : Nat := if p = b then a else if p = a then b else p
theorem goTo_nat (a b p : Nat) : goTo (a : Int) (b : Int) (p : Int) = ((goN a b p : Nat) : Int) := by
  unfold goTo goN
  by_cases h : p = b
  · subst h; simp
  · rw [if_neg h, if_neg (by omega)]
    by_cases h2 : p = a
    · subst h2; simp
    · rw [if_neg h2, if_neg (by omega)]
noncomputable def swapped (d : List Nat) (a b : Nat) : List Nat := (List.range d.length).map fun p => d.getD (goN a b p) 0
theorem swapped_length (d : List Nat) (a b : Nat) : (swapped d a b).length = d.length := by rw [swapped, List.length_map, List.length_range]
noncomputable def FullD (d : List Nat) : Prop := cutsOf d = [d.getD 0 0 - 1, d.getD 0 0] ∧ RestsOk d ∧ BackOk d
noncomputable def NoneD (d : List Nat) : Prop := cutsOf d = [] ∧ ¬ RestsOk d ∧ ¬ BackOk d
/-- a sorted list that bears just what two sorted lists bear is a riffle of them -/
theorem Riff.left_nil : ∀ {b d : List Nat}, Riff [] b d → d = b
  | _, _, .none_l _ => rfl
  | _, _, .none_r _ => rfl
  | _, _, .right h => by rw [Riff.left_nil h]
theorem Riff.right_nil : ∀ {a d : List Nat}, Riff a [] d → d = a
  | _, _, .none_l _ => rfl
  | _, _, .none_r _ => rfl
  | _, _, .left h => by rw [Riff.right_nil h]
theorem Riff.perm {a b d : List Nat} (h : Riff a b d) : d.Perm (a ++ b) := by
  induction h with
  | none_l b => exact List.Perm.refl _
  | none_r a => rw [List.append_nil]
  | left _ ih => exact ih.cons _
  | right _ ih => exact (ih.cons _).trans List.perm_middle.symm
theorem swapped_next {d : List Nat} {a b i : Nat} (h : i < d.length) : (swapped d a b).take (i + 1) = (swapped d a b).take i ++ [d.getD (goN a b i) 0] := by
  rw [List.take_add_one]
  congr 1
  rw [swapped, List.getElem?_map, List.getElem?_range h]; rfl
theorem getD_nat {d : List Nat} {j : Nat} (h : j < d.length) : (d.map fun (x : Nat) => (x : Int)).getD ((j : Nat) : Int).toNat 0 = ((d.getD j 0 : Nat) : Int) := by
  rw [Int.toNat_natCast, List.getD_eq_getElem?_getD, List.getD_eq_getElem?_getD, List.getElem?_map, List.getElem?_eq_getElem h]; rfl
theorem goN_lt {a b p n : Nat} (ha : a < n) (hb : b < n) (hp : p < n) : goN a b p < n := by
  unfold goN
  split
  · exact ha
  · split
    · exact hb
    · exact hp
theorem swapped_all {d : List Nat} {a b : Nat} {P : Nat → Prop} (ha : a < d.length) (hb : b < d.length) (h : ∀ x ∈ d, P x) : ∀ x ∈ swapped d a b, P x := by
  intro x hx
  obtain ⟨p, hp, rfl⟩ := List.mem_map.mp hx
  have hlt := goN_lt ha hb (List.mem_range.mp hp)
  rw [List.getD_eq_getElem?_getD, List.getElem?_eq_getElem hlt]
  exact h _ (List.getElem_mem hlt)
theorem first_in {d : List Nat} (h : 0 < d.length) : d.getD 0 0 ∈ d := by
  rw [List.getD_eq_getElem?_getD, List.getElem?_eq_getElem h]
  exact List.getElem_mem h
theorem pred_int {x : Nat} (h : 1 ≤ x) : ((x : Int) - 1) = ((x - 1 : Nat) : Int) := by omega
theorem size_of {l : Nat} {z : Int} (hz : (if (if (l : Int) < 8 then (l : Int) else 8) > 5 then (if (l : Int) < 8 then (l : Int) else 8) else 5) = z) : ∃ k : Nat, z = (k : Int) ∧ 5 ≤ k ∧ k ≤ 8 ∧ k ≤ l + 5 := by
  subst hz
  by_cases a : (l : Int) < 8
  · simp only [if_pos a]
    by_cases b : (l : Int) > 5
    · rw [if_pos b]; exact ⟨l, rfl, by omega, by omega, Nat.le_add_right _ _⟩
    · rw [if_neg b]; exact ⟨5, rfl, by decide, by decide, Nat.le_add_left _ _⟩
  · simp only [if_neg a]; rw [if_pos (by decide)]; exact ⟨8, rfl, by decide, by decide, by omega⟩
end Mine
-- B28
namespace Mine
theorem ltP_iff (p q : Int × Int) : ltP p q = true ↔ p.1 < q.1 ∨ (p.1 = q.1 ∧ p.2 < q.2) := by
  unfold ltP
  simp
theorem ltP_no (p q : Int × Int) : ltP p q = false ↔ ¬ (p.1 < q.1 ∨ (p.1 = q.1 ∧ p.2 < q.2)) := by
  rw [← ltP_iff]; simp
theorem linP : Lin ltP where
  irr a := (ltP_no a a).mpr fun h => h.elim (Int.lt_irrefl _) fun h => Int.lt_irrefl _ h.2
  asym a b h := (ltP_no b a).mpr fun k => ((ltP_iff a b).mp h).elim
    (fun h => k.elim (fun k => Int.lt_asymm h k) fun k => Int.lt_irrefl _ (k.1 ▸ h))
    (fun h => k.elim (fun k => Int.lt_irrefl _ (h.1 ▸ k)) fun k => Int.lt_asymm h.2 k.2)
  tr a b c h k := (ltP_no c a).mpr fun l => by
    have h := (ltP_no b a).mp h; have k := (ltP_no c b).mp k
    have h1 : a.1 ≤ b.1 := Int.not_lt.mp fun e => h (.inl e)
    have k1 : b.1 ≤ c.1 := Int.not_lt.mp fun e => k (.inl e)
    rcases l with l | ⟨l, m⟩
    · exact Int.not_lt.mpr (Int.le_trans h1 k1) l
    · have e1 : b.1 = a.1 := Int.le_antisymm (l ▸ k1) h1
      have e2 : c.1 = b.1 := l.trans e1.symm
      have h2 : a.2 ≤ b.2 := Int.not_lt.mp fun e => h (.inr ⟨e1, e⟩)
      have k2 : b.2 ≤ c.2 := Int.not_lt.mp fun e => k (.inr ⟨e2, e⟩)
      exact Int.not_lt.mpr (Int.le_trans h2 k2) m
/-- the hours and cards of a hand -/
noncomputable def handP (ws : List Int) : List Nat → Int → List (Int × Int)
  | [], _ => []
  | c :: r, hour => (hour + ws.getD (c - 1) 0, (c : Int)) :: handP ws r (hour + ws.getD (c - 1) 0)
theorem handP_snd (ws : List Int) : ∀ (cs : List Nat) (hour : Int), (handP ws cs hour).map Prod.snd = cs.map fun (x : Nat) => (x : Int)
  | [], _ => rfl
  | c :: r, hour => by rw [handP, List.map_cons, List.map_cons, handP_snd ws r]
theorem handP_up {ws : List Int} (hw : ∀ x ∈ ws, 1 ≤ x) : ∀ (cs : List Nat) (hour : Int), (∀ c ∈ cs, 1 ≤ c ∧ c ≤ ws.length) → (∀ q ∈ handP ws cs hour, hour < q.1) ∧ (handP ws cs hour).Pairwise (fun x y => ltP x y = true)
  | [], _, _ => by
    refine ⟨fun q h => ?_, List.Pairwise.nil⟩
    cases h
  | c :: r, hour, hc => by
    have ⟨h1, h2⟩ := hc c (.head _)
    have hp : 1 ≤ ws.getD (c - 1) 0 := by
      rw [List.getD_eq_getElem?_getD, List.getElem?_eq_getElem (show c - 1 < ws.length by omega)]
      exact hw _ (List.getElem_mem _)
    obtain ⟨a, b⟩ := handP_up hw r (hour + ws.getD (c - 1) 0) fun x hx => hc x (.tail _ hx)
    rw [handP]
    refine ⟨fun q hq => ?_, List.pairwise_cons.mpr ⟨fun q hq => (ltP_iff _ _).mpr (.inl (a q hq)), b⟩⟩
    rcases List.mem_cons.mp hq with rfl | hq
    · show hour < hour + _; omega
    · have := a q hq; omega
theorem perm_of {x y : List (Int × Int)} (h : ∀ b, @List.count (Int × Int) instBEqOfDecidableEq b x = @List.count (Int × Int) instBEqOfDecidableEq b y) : x.Perm y :=
  (@List.perm_iff_count (Int × Int) instBEqOfDecidableEq inferInstance x y).mpr h
theorem drop_heap (ws : List Int) : ∀ (cs : List Nat) (hour : Int) (hp : List (Int × Int)), IsHeap ltP (0, 0) hp → IsHeap ltP (0, 0) (dropGo ws cs hour hp) ∧ (dropGo ws cs hour hp).Perm (hp ++ handP ws cs hour)
  | [], _, hp, H => ⟨H, by rw [dropGo, handP, List.append_nil]⟩
  | c :: r, hour, hp, H => by
    have ⟨a, b⟩ := hpush_heap linP (0, 0) (v := (hour + ws.getD (c - 1) 0, (c : Int))) H
    have ⟨a', b'⟩ := drop_heap ws r (hour + ws.getD (c - 1) 0) _ a
    refine ⟨a', b'.trans ?_⟩
    rw [handP, show ((hour + ws.getD (c - 1) 0, (c : Int)) :: handP ws r (hour + ws.getD (c - 1) 0)) = [(hour + ws.getD (c - 1) 0, (c : Int))] ++ handP ws r (hour + ws.getD (c - 1) 0) from rfl, ← List.append_assoc]
    exact (perm_of b).append_right _
theorem pop_sorted : ∀ (k : Nat) (hp : List (Int × Int)), hp.length = k → IsHeap ltP (0, 0) hp → (popAll k hp).Perm hp ∧ (popAll k hp).Pairwise (fun x y => ltP y x = false)
  | 0, hp, hl, _ => by
    obtain rfl := List.length_eq_zero_iff.mp hl
    exact ⟨.refl _, .nil⟩
  | k + 1, hp, hl, H => by
    obtain ⟨q, y, rfl⟩ : ∃ q y, hp = q ++ [y] := ⟨_, _, (List.dropLast_concat_getLast (by intro e; rw [e] at hl; cases hl)).symm⟩
    rw [List.length_append, List.length_singleton] at hl
    have ⟨a, b, c⟩ := hpop_heap linP (0, 0) H
    have ⟨d, e⟩ := pop_sorted k (hpop ltP q y).2 (by rw [hpop_len]; omega) a
    rw [popAll_succ]
    exact ⟨(d.cons _).trans (perm_of b), List.pairwise_cons.mpr ⟨fun z hz => c z (d.mem_iff.mp hz), e⟩⟩
theorem riff_of : ∀ (P A B : List (Int × Int)) (a b : List Nat), P.Pairwise (fun x y => ltP y x = false) → P.Perm (A ++ B) → A.Pairwise (fun x y => ltP x y = true) → B.Pairwise (fun x y => ltP x y = true) →
    A.map Prod.snd = a.map (fun (x : Nat) => (x : Int)) → B.map Prod.snd = b.map (fun (x : Nat) => (x : Int)) → ∃ d : List Nat, P.map Prod.snd = d.map (fun (x : Nat) => (x : Int)) ∧ Riff a b d
  | [], A, B, a, b, _, hp, _, _, ha, hb => by
    have e := List.nil_perm.mp hp
    have e1 := List.append_eq_nil_iff.mp e
    rw [e1.1] at ha; rw [e1.2] at hb
    have a0 : a = [] := List.map_eq_nil_iff.mp ha.symm
    have b0 : b = [] := List.map_eq_nil_iff.mp hb.symm
    subst a0 b0
    exact ⟨[], rfl, .none_l _⟩
  | p :: P, A, B, a, b, hs, hp, hA, hB, ha, hb => by
    have ⟨s1, s2⟩ := List.pairwise_cons.mp hs
    have least : ∀ x, x ∈ A ++ B → x ≠ p → ltP x p = false := fun x hx hn => by
      rcases List.mem_cons.mp (hp.mem_iff.mpr hx) with e | h
      · exact absurd e hn
      · exact s1 x h
    rcases List.mem_append.mp (hp.mem_iff.mp (List.mem_cons_self)) with hm | hm
    · cases A with
      | nil => cases hm
      | cons x A' =>
        have ⟨t1, t2⟩ := List.pairwise_cons.mp hA
        have e : x = p := by
          rcases List.mem_cons.mp hm with e | h
          · exact e.symm
          · have h1 := t1 p h
            by_cases hx : x = p
            · exact hx
            · rw [least x (List.mem_cons_self) hx] at h1; cases h1
        subst e
        cases a with
        | nil => cases ha
        | cons c a' =>
          rw [List.map_cons, List.map_cons] at ha
          injection ha with h1 h2
          obtain ⟨d, hd, hr⟩ := riff_of P A' B a' b s2 (List.perm_cons _ |>.mp hp) t2 hB h2 hb
          exact ⟨c :: d, by rw [List.map_cons, List.map_cons, hd, h1], .left hr⟩
    · cases B with
      | nil => cases hm
      | cons x B' =>
        have ⟨t1, t2⟩ := List.pairwise_cons.mp hB
        have e : x = p := by
          rcases List.mem_cons.mp hm with e | h
          · exact e.symm
          · have h1 := t1 p h
            by_cases hx : x = p
            · exact hx
            · rw [least x (List.mem_append_right _ (List.mem_cons_self)) hx] at h1; cases h1
        subst e
        cases b with
        | nil => cases hb
        | cons c b' =>
          rw [List.map_cons, List.map_cons] at hb
          injection hb with h1 h2
          obtain ⟨d, hd, hr⟩ := riff_of P A B' a b' s2 (List.perm_cons _ |>.mp (hp.trans List.perm_middle)) hA t2 ha h2
          exact ⟨c :: d, by rw [List.map_cons, List.map_cons, hd, h1], .right hr⟩
theorem deck_riff {ws : List Int} {cut : Nat} (hw : ∀ x ∈ ws, 1 ≤ x) (hc : cut ≤ ws.length) : ∃ d : List Nat, deckOf ws cut = d.map (fun (x : Nat) => (x : Int)) ∧ Riff (downN cut) (upN (cut + 1) (ws.length - cut)) d := by
  have b1 : ∀ c ∈ downN cut, 1 ≤ c ∧ c ≤ ws.length := fun c h => ⟨downN_pos c h, Nat.le_of_lt_succ (downN_lt (by omega) c h)⟩
  have b2 : ∀ c ∈ upN (cut + 1) (ws.length - cut), 1 ≤ c ∧ c ≤ ws.length := fun c h => ⟨upN_pos (by omega) c h, Nat.le_of_lt_succ (upN_lt (by omega) c h)⟩
  have ⟨h1, p1⟩ := drop_heap ws (downN cut) 0 [] (fun i _ h => absurd h (Nat.not_lt_zero _))
  have ⟨h2, p2⟩ := drop_heap ws (upN (cut + 1) (ws.length - cut)) 0 _ h1
  have ⟨p3, s3⟩ := pop_sorted ws.length (heapOf ws cut) (heapOf_length ws cut hc) h2
  exact riff_of _ (handP ws (downN cut) 0) (handP ws (upN (cut + 1) (ws.length - cut)) 0) _ _ s3 (p3.trans (p2.trans (p1.append_right _))) (handP_up hw _ 0 b1).2 (handP_up hw _ 0 b2).2 (handP_snd ws _ 0) (handP_snd ws _ 0)
end Mine
-- B29
namespace Mine
theorem cutsF_go (deck : List Nat) (k : Nat) : ∀ c, (Nat.rec (fun _ => []) (fun _ ih c => cond (cond (subF deck (downF c)) (subF deck (upF (Nat.sub deck.length c) (Nat.add c 1))) false) (c :: ih (Nat.add c 1)) (ih (Nat.add c 1))) k : Nat → List Nat) c = (List.range' c k).filter (cutOk deck) := by
  induction k with
  | zero => intro c; rfl
  | succ k ih =>
    intro c
    show cond (cond (subF deck (downF c)) (subF deck (upF (deck.length - c) (c + 1))) false) (c :: _) _ = _
    rw [ih (c + 1), subF_eq, subF_eq, downF_eq, upF_eq, List.range'_succ, List.filter_cons]
    have e : cutOk deck c = cond (subL (downN c) deck) (subL (upN (c + 1) (deck.length - c)) deck) false := by
      unfold cutOk
      cases subL (downN c) deck <;> rfl
    rw [e, cond_b]
theorem cutsF_eq (deck : List Nat) : cutsF deck deck.length 0 = cutsOf deck := by
  rw [cutsOf, List.range_eq_range']
  exact cutsF_go deck (deck.length + 1) 0
theorem getF_eq : ∀ i xs, getF i xs = xs.getD i 0
  | 0, [] => rfl
  | 0, _ :: _ => rfl
  | i + 1, [] => rfl
  | i + 1, a :: r => by show getF i r = _; rw [getF_eq i r]; rfl
theorem setF_eq (v : Nat) : ∀ i xs, setF i v xs = xs.set i v
  | 0, [] => rfl
  | 0, _ :: _ => rfl
  | i + 1, [] => rfl
  | i + 1, a :: r => by show a :: setF i v r = _; rw [setF_eq v i r]; rfl
theorem goN_comm (a b p : Nat) : goN a b p = goN b a p := by
  unfold goN
  by_cases h : p = a <;> by_cases k : p = b
  · subst h; subst k; rfl
  · rw [if_neg k, if_pos h, if_pos h]
  · rw [if_pos k, if_neg h, if_pos k]
  · rw [if_neg k, if_neg h, if_neg h, if_neg k]
theorem swap_same (d : List Nat) (a : Nat) : swapped d a a = d := by
  refine List.ext_getElem? fun p => ?_
  rw [swapped, List.getElem?_map]
  rcases Nat.lt_or_ge p d.length with h | h
  · have e : goN a a p = p := by unfold goN; split; exact Eq.symm (by assumption); rfl
    rw [List.getElem?_range h, Option.map_some, e, List.getD_eq_getElem?_getD, List.getElem?_eq_getElem h]; rfl
  · rw [List.getElem?_eq_none (by rw [List.length_range]; exact h), List.getElem?_eq_none h]; rfl
theorem swapF_eq (d : List Nat) {i j : Nat} (hi : i < d.length) (hj : j < i) : swapF d i j = swapped d i j := by
  unfold swapF
  rw [setF_eq, setF_eq, getF_eq, getF_eq]
  refine List.ext_getElem? fun p => ?_
  rw [swapped, List.getElem?_map, List.getElem?_set, List.length_set, List.getElem?_set]
  rcases Nat.lt_or_ge p d.length with h | h
  · rw [List.getElem?_range h, Option.map_some]
    unfold goN
    by_cases h1 : p = j
    · subst h1; rw [if_pos rfl, if_pos h, if_pos rfl]
    · rw [if_neg (Ne.symm h1), if_neg h1]
      by_cases h2 : p = i
      · subst h2; rw [if_pos rfl, if_pos h, if_pos rfl]
      · rw [if_neg (Ne.symm h2), if_neg h2, List.getD_eq_getElem?_getD, List.getElem?_eq_getElem h]; rfl
  · rw [List.getElem?_eq_none (l := List.range _) (by rw [List.length_range]; exact h)]
    have a1 : ¬ j = p := by omega
    have a2 : ¬ i = p := by omega
    rw [if_neg a1, if_neg a2, List.getElem?_eq_none h]; rfl
theorem mergeF_ok {p : List Nat → Bool} : ∀ (f : Nat) (pre a b : List Nat), mergeF p f pre a b = true → ∀ d, Riff a b d → p (pre ++ d) = true
  | 0, _, _, _, h, _, _ => by cases (show false = true from h)
  | f + 1, pre, [], b, h, d, r => by rw [Riff.left_nil r]; exact h
  | f + 1, pre, x :: a, [], h, d, r => by rw [Riff.right_nil r]; exact h
  | f + 1, pre, x :: a, y :: b, h, d, r => by
    have e : cond (mergeF p f (pre ++ [x]) a (y :: b)) (mergeF p f (pre ++ [y]) (x :: a) b) false = true := h
    rw [cond_b] at e
    by_cases h1 : mergeF p f (pre ++ [x]) a (y :: b) = true
    · rw [if_pos h1] at e
      cases r with
      | left r' =>
        have := mergeF_ok f _ _ _ h1 _ r'
        rwa [List.append_assoc] at this
      | right r' =>
        have := mergeF_ok f _ _ _ e _ r'
        rwa [List.append_assoc] at this
    · rw [if_neg h1] at e; cases e
theorem heads {n c : Nat} {d : List Nat} (hn : 1 ≤ n) (hc : c ≤ n) (r : Riff (downN c) (upN (c + 1) (n - c)) d) :
    ∃ c' d', c' < n ∧ d = (c' + 1) :: d' ∧ Riff (downN c') (upN (c' + 2) (n - c' - 1)) d' := by
  have hu : c < n → upN (c + 1) (n - c) = (c + 1) :: upN (c + 2) (n - c - 1) := fun h => by
    obtain ⟨k, hk⟩ : ∃ k, n - c = k + 1 := ⟨n - c - 1, (Nat.succ_pred_eq_of_pos (Nat.sub_pos_of_lt h)).symm⟩
    rw [hk]; rfl
  generalize ha : downN c = a at r
  generalize hb : upN (c + 1) (n - c) = b at r
  cases r with
  | none_l b =>
    have hc0 : c = 0 := by have := downN_length c; rw [ha] at this; exact this.symm
    subst hc0
    rw [hu hn] at hb
    exact ⟨0, _, hn, hb.symm, .none_l _⟩
  | none_r a =>
    have h0 : n - c = 0 := by have := upN_length (n - c) (c + 1); rw [hb] at this; exact this.symm
    have hcn : c = n := Nat.le_antisymm hc (Nat.le_of_sub_eq_zero h0)
    cases c with
    | zero => rw [← hcn] at hn; cases hn
    | succ c' =>
      refine ⟨c', downN c', hc, ha.symm, ?_⟩
      rw [Nat.sub_sub, h0]
      exact .none_r _
  | @left x a' _ d' r' =>
    cases c with
    | zero => cases ha
    | succ c' =>
      have h1 : (c' + 1) :: downN c' = x :: a' := ha
      injection h1 with e1 e2
      subst e1 e2
      refine ⟨c', d', hc, rfl, ?_⟩
      rw [Nat.sub_sub, hb]
      exact r'
  | @right y _ b' d' r' =>
    have hlt : c < n := by
      rcases Nat.lt_or_ge c n with h | h
      · exact h
      · rw [Nat.sub_eq_zero_of_le h] at hb; cases hb
    rw [hu hlt] at hb
    injection hb with e1 e2
    subst e1 e2 ha
    exact ⟨c, d', hlt, rfl, r'⟩
theorem headF_ok {n c : Nat} (h : headF n c = true) {d : List Nat} (r : Riff (downN c) (upN (c + 2) (n - c - 1)) d) : okF ((c + 1) :: d) n = true := by
  have := mergeF_ok n [c + 1] (downF c) (upF (n - c - 1) (c + 2)) h d (by rw [downF_eq, upF_eq]; exact r)
  exact this
theorem rowsF_ok {deck : List Nat} {n i : Nat} : ∀ (k : Nat), rowsF deck n i k = true → ∀ j, j < k → eitherF (swapF deck i j) n = true
  | 0, _, _, h => absurd h (Nat.not_lt_zero _)
  | k + 1, h, j, hj => by
    have e : cond (eitherF (swapF deck i k) n) (rowsF deck n i k) false = true := h
    rw [cond_b] at e
    by_cases h1 : eitherF (swapF deck i k) n = true
    · rw [if_pos h1] at e
      rcases Nat.lt_or_ge j k with h2 | h2
      · exact rowsF_ok k e j h2
      · rw [show j = k by omega]; exact h1
    · rw [if_neg h1] at e; cases e
theorem pairsF_go {deck : List Nat} {n : Nat} : ∀ (m : Nat), (Nat.rec true (fun i ih => cond (rowsF deck n i i) ih false) m : Bool) = true → ∀ i, i < m → rowsF deck n i i = true
  | 0, _, _, h => absurd h (Nat.not_lt_zero _)
  | m + 1, h, i, hi => by
    have e : cond (rowsF deck n m m) (Nat.rec true (fun i ih => cond (rowsF deck n i i) ih false) m : Bool) false = true := h
    rw [cond_b] at e
    by_cases h1 : rowsF deck n m m = true
    · rw [if_pos h1] at e
      rcases Nat.lt_or_ge i m with h2 | h2
      · exact pairsF_go m e i h2
      · rw [show i = m by omega]; exact h1
    · rw [if_neg h1] at e; cases e
end Mine
-- B30
namespace Mine
noncomputable def toI (b : Bool) : Int := cond b 1 0
theorem maxN_snoc (xs : List Nat) (a : Nat) : maxN (xs ++ [a]) = Nat.max (maxN xs) a := by
  induction xs with
  | nil => show Nat.max a 0 = Nat.max 0 a; simp
  | cons x r ih => show Nat.max x (maxN (r ++ [a])) = Nat.max (Nat.max x (maxN r)) a; rw [ih]; simp only [Nat.max_def]; split <;> split <;> (try split) <;> (try split) <;> omega
theorem bits_go : ∀ (r pre : List Nat), bitsF r (maxN pre) = (upN pre.length r.length).map fun p => decide (maxN ((pre ++ r).take p) < (pre ++ r).getD p 0)
  | [], _ => rfl
  | a :: r, pre => by
    have ih := bits_go r (pre ++ [a])
    rw [maxN_snoc, List.length_append, List.length_singleton, List.append_assoc] at ih
    have h1 : ((pre ++ a :: r).take pre.length) = pre := List.take_left ..
    have h2 : (pre ++ a :: r).getD pre.length 0 = a := by
      rw [List.getD_eq_getElem?_getD, List.getElem?_append_right (Nat.le_refl _), Nat.sub_self]; rfl
    show cond (Nat.ble a (maxN pre)) (false :: bitsF r (maxN pre)) (true :: bitsF r a) = _
    rw [List.length_cons, upN, List.map_cons, h1, h2]
    show _ = _ :: List.map (fun p => decide (maxN ((pre ++ ([a] ++ r)).take p) < (pre ++ ([a] ++ r)).getD p 0)) _
    rw [← ih]
    by_cases h : a ≤ maxN pre
    · rw [Nat.ble_eq_true_of_le h, show (maxN pre).max a = maxN pre from Nat.max_eq_left h, decide_eq_false (Nat.not_lt.mpr h)]; rfl
    · have hb : Nat.ble a (maxN pre) = false := Bool.eq_false_iff.mpr fun e => h (Nat.le_of_ble_eq_true e)
      rw [hb, show (maxN pre).max a = a from Nat.max_eq_right (by omega), decide_eq_true (show maxN pre < a by omega)]; rfl
theorem bits_eq (a : Nat) (r : List Nat) : bitsIn (a :: r) = (bitsF r a).map toI := by
  have h := bits_go r [a]
  have e : maxN [a] = a := by show Nat.max a 0 = a; simp
  rw [e] at h
  rw [h, List.map_map]
  unfold bitsIn
  refine List.map_congr_left fun p _ => ?_
  show (if maxN ((a :: r).take p) < (a :: r).getD p 0 then (1 : Int) else 0) = toI (decide (maxN ((a :: r).take p) < (a :: r).getD p 0))
  by_cases hc : maxN ((a :: r).take p) < (a :: r).getD p 0
  · rw [if_pos hc, decide_eq_true hc]; rfl
  · rw [if_neg hc, decide_eq_false hc]; rfl
theorem bitsF_length : ∀ (r : List Nat) (t : Nat), (bitsF r t).length = r.length
  | [], _ => rfl
  | a :: r, t => by
    show (cond (Nat.ble a t) (false :: bitsF r t) (true :: bitsF r a)).length = _
    cases Nat.ble a t with
    | true => show (bitsF r t).length + 1 = _; rw [bitsF_length r t]; rfl
    | false => show (bitsF r a).length + 1 = _; rw [bitsF_length r a]; rfl
noncomputable def allB : Nat → (List Bool → Bool) → Bool
  | 0, p => p []
  | k + 1, p => allB k (fun r => p (true :: r)) && allB k (fun r => p (false :: r))
theorem allB_ok : ∀ {k : Nat} {p : List Bool → Bool}, allB k p = true → ∀ bs, bs.length = k → p bs = true
  | 0, p, h, bs, e => by
    obtain rfl := List.length_eq_zero_iff.mp e
    exact h
  | k + 1, p, h, [], e => by cases e
  | k + 1, p, h, b :: bs, e => by
    have ⟨h1, h2⟩ := Bool.and_eq_true_iff.mp h
    cases b with
    | true => exact allB_ok (p := fun r => p (true :: r)) h1 bs (Nat.succ.inj e)
    | false => exact allB_ok (p := fun r => p (false :: r)) h2 bs (Nat.succ.inj e)
noncomputable def toldOk (bs : List Bool) : Bool := decide (toldBits (bs.map toI) = bs.map toI)
theorem told_fin : ∀ k, k < 8 → allB k toldOk = true := by decide +kernel
theorem told_eq {bs : List Bool} (h : bs.length < 8) : toldBits (bs.map toI) = bs.map toI := of_decide_eq_true (allB_ok (told_fin _ h) bs rfl)
theorem zeros_eq : ∀ bs : List Bool, (bs.map toI).count 0 = zerosF bs
  | [] => rfl
  | true :: r => by
    have e : zerosF (true :: r) = zerosF r := rfl
    rw [e, ← zeros_eq r, List.map_cons, List.count_cons]; rfl
  | false :: r => by
    have e : zerosF (false :: r) = zerosF r + 1 := rfl
    rw [e, ← zeros_eq r, List.map_cons, List.count_cons]; rfl
theorem row_eq : ∀ (bs : List Bool) (lo hi : Nat) (row : List Int), zerosF bs ≤ lo → rowGo (bs.map toI) (lo : Int) (hi : Int) row = row ++ (rowF bs lo hi).map fun (x : Nat) => (x : Int)
  | [], lo, hi, row, _ => by rw [List.map_nil, rowGo]; exact (List.append_nil row).symm
  | true :: r, lo, hi, row, h => by
    have e : rowF (true :: r) lo hi = (hi + 1) :: rowF r lo (hi + 1) := rfl
    have h' : zerosF r ≤ lo := h
    rw [e, List.map_cons, rowGo, if_pos (by rfl), show ((hi : Int) + 1) = ((hi + 1 : Nat) : Int) by omega, row_eq r lo (hi + 1) _ h', List.map_cons, List.append_assoc]; rfl
  | false :: r, lo, hi, row, h => by
    have e : rowF (false :: r) lo hi = (lo - 1) :: rowF r (lo - 1) hi := rfl
    have h' : zerosF r + 1 ≤ lo := h
    rw [e, List.map_cons, rowGo, if_neg (by decide), show ((lo : Int) - 1) = ((lo - 1 : Nat) : Int) by omega, row_eq r (lo - 1) hi _ (by omega), List.map_cons, List.append_assoc]; rfl
theorem cast_inj {x y : List Nat} : (x.map fun (a : Nat) => (a : Int)) = (y.map fun (a : Nat) => (a : Int)) ↔ x = y := by
  refine ⟨fun h => ?_, fun h => by rw [h]⟩
  have back : ∀ l : List Nat, (l.map fun (i : Nat) => (i : Int)).map Int.toNat = l := fun l => by
    rw [List.map_map]
    exact (List.map_congr_left fun i _ => Int.toNat_natCast i).trans (List.map_id l)
  have := congrArg (List.map Int.toNat) h
  rwa [back, back] at this
theorem backF_eq {a : Nat} {r : List Nat} (h : r.length < 8) : backF (a :: r) = true ↔ BackOk (a :: r) := by
  have e : backF (a :: r) = eqF ((1 + zerosF (bitsF r a)) :: rowF (bitsF r a) (1 + zerosF (bitsF r a)) (1 + zerosF (bitsF r a))) (a :: r) := rfl
  rw [e, eqF_eq, BackOk, backOf, bits_eq, told_eq (by rw [bitsF_length]; exact h), zeros_eq]
  rw [show (1 : Int) + ((zerosF (bitsF r a) : Nat) : Int) = ((1 + zerosF (bitsF r a) : Nat) : Int) by omega, row_eq _ _ _ _ (Nat.le_add_left _ _)]
  exact cast_inj.symm
theorem fullF_ok {a : Nat} {r : List Nat} {n : Nat} (hn : (a :: r).length = n) (h8 : n ≤ 8) (h : fullF (a :: r) n = true) : FullD (a :: r) := by
  subst hn
  have hl : r.length < 8 := by rw [List.length_cons] at h8; omega
  have e : cond (eqF (cutsF (a :: r) (a :: r).length 0) [a - 1, a]) (cond (restsF (a :: r) (a :: r).length) (backF (a :: r)) false) false = true := h
  rw [cutsF_eq] at e
  cases h1 : eqF (cutsOf (a :: r)) [a - 1, a] with
  | false => rw [h1] at e; cases e
  | true =>
    rw [h1] at e
    cases h2 : restsF (a :: r) (a :: r).length with
    | false => rw [h2] at e; cases e
    | true =>
      rw [h2] at e
      exact ⟨(eqF_eq _ _).mp h1, (restsF_eq _).mp h2, (backF_eq hl).mp e⟩
theorem noneF_ok {a : Nat} {r : List Nat} {n : Nat} (hn : (a :: r).length = n) (h8 : n ≤ 8) (h : noneF (a :: r) n = true) : NoneD (a :: r) := by
  subst hn
  have hl : r.length < 8 := by rw [List.length_cons] at h8; omega
  have e : cond (eqF (cutsF (a :: r) (a :: r).length 0) []) (cond (restsF (a :: r) (a :: r).length) false (cond (backF (a :: r)) false true)) false = true := h
  rw [cutsF_eq] at e
  cases h1 : eqF (cutsOf (a :: r)) [] with
  | false => rw [h1] at e; cases e
  | true =>
    rw [h1] at e
    cases h2 : restsF (a :: r) (a :: r).length with
    | true => rw [h2] at e; cases e
    | false =>
      rw [h2] at e
      cases h3 : backF (a :: r) with
      | true => rw [h3] at e; cases e
      | false =>
        refine ⟨(eqF_eq _ _).mp h1, fun k => ?_, fun k => ?_⟩
        · rw [(restsF_eq _).mpr k] at h2; cases h2
        · rw [(backF_eq hl).mpr k] at h3; cases h3
end Mine
-- B31
namespace Mine
theorem head_5_0 : headF 5 0 = true := by decide +kernel
theorem head_5_1 : headF 5 1 = true := by decide +kernel
theorem head_5_2 : headF 5 2 = true := by decide +kernel
theorem head_5_3 : headF 5 3 = true := by decide +kernel
theorem head_5_4 : headF 5 4 = true := by decide +kernel
theorem head_6_0 : headF 6 0 = true := by decide +kernel
theorem head_6_1 : headF 6 1 = true := by decide +kernel
theorem head_6_2 : headF 6 2 = true := by decide +kernel
theorem head_6_3 : headF 6 3 = true := by decide +kernel
theorem head_6_4 : headF 6 4 = true := by decide +kernel
theorem head_6_5 : headF 6 5 = true := by decide +kernel
theorem head_7_0 : headF 7 0 = true := by decide +kernel
theorem head_7_1 : headF 7 1 = true := by decide +kernel
theorem head_7_2 : headF 7 2 = true := by decide +kernel
theorem head_7_3 : headF 7 3 = true := by decide +kernel
theorem head_7_4 : headF 7 4 = true := by decide +kernel
theorem head_7_5 : headF 7 5 = true := by decide +kernel
theorem head_7_6 : headF 7 6 = true := by decide +kernel
theorem head_8_0 : headF 8 0 = true := by decide +kernel
theorem head_8_1 : headF 8 1 = true := by decide +kernel
theorem head_8_2 : headF 8 2 = true := by decide +kernel
theorem head_8_3 : headF 8 3 = true := by decide +kernel
theorem head_8_4 : headF 8 4 = true := by decide +kernel
theorem head_8_5 : headF 8 5 = true := by decide +kernel
theorem head_8_6 : headF 8 6 = true := by decide +kernel
theorem head_8_7 : headF 8 7 = true := by decide +kernel
theorem heads_5 : ∀ c ∈ List.range 5, headF 5 c = true := List.forall_mem_cons.mpr ⟨head_5_0, List.forall_mem_cons.mpr ⟨head_5_1, List.forall_mem_cons.mpr ⟨head_5_2, List.forall_mem_cons.mpr ⟨head_5_3, List.forall_mem_cons.mpr ⟨head_5_4, List.forall_mem_nil _⟩⟩⟩⟩⟩
theorem heads_6 : ∀ c ∈ List.range 6, headF 6 c = true := List.forall_mem_cons.mpr ⟨head_6_0, List.forall_mem_cons.mpr ⟨head_6_1, List.forall_mem_cons.mpr ⟨head_6_2, List.forall_mem_cons.mpr ⟨head_6_3, List.forall_mem_cons.mpr ⟨head_6_4, List.forall_mem_cons.mpr ⟨head_6_5, List.forall_mem_nil _⟩⟩⟩⟩⟩⟩
theorem heads_7 : ∀ c ∈ List.range 7, headF 7 c = true := List.forall_mem_cons.mpr ⟨head_7_0, List.forall_mem_cons.mpr ⟨head_7_1, List.forall_mem_cons.mpr ⟨head_7_2, List.forall_mem_cons.mpr ⟨head_7_3, List.forall_mem_cons.mpr ⟨head_7_4, List.forall_mem_cons.mpr ⟨head_7_5, List.forall_mem_cons.mpr ⟨head_7_6, List.forall_mem_nil _⟩⟩⟩⟩⟩⟩⟩
theorem heads_8 : ∀ c ∈ List.range 8, headF 8 c = true := List.forall_mem_cons.mpr ⟨head_8_0, List.forall_mem_cons.mpr ⟨head_8_1, List.forall_mem_cons.mpr ⟨head_8_2, List.forall_mem_cons.mpr ⟨head_8_3, List.forall_mem_cons.mpr ⟨head_8_4, List.forall_mem_cons.mpr ⟨head_8_5, List.forall_mem_cons.mpr ⟨head_8_6, List.forall_mem_cons.mpr ⟨head_8_7, List.forall_mem_nil _⟩⟩⟩⟩⟩⟩⟩⟩
theorem head_all {n c : Nat} (h5 : 5 ≤ n) (h8 : n ≤ 8) (hc : c < n) : headF n c = true := by
  have h : n = 5 ∨ n = 6 ∨ n = 7 ∨ n = 8 := by omega
  rcases h with rfl | rfl | rfl | rfl
  · exact heads_5 c (List.mem_range.mpr hc)
  · exact heads_6 c (List.mem_range.mpr hc)
  · exact heads_7 c (List.mem_range.mpr hc)
  · exact heads_8 c (List.mem_range.mpr hc)
theorem final {n cut one two : Nat} {d : List Nat} (hr : Riff (downN cut) (upN (cut + 1) (n - cut)) d) (hc : cut ≤ n) (h5 : 5 ≤ n) (h8 : n ≤ 8) (h1 : one < n) (h2 : two < n) : FullD d ∧ (FullD (swapped d one two) ∨ NoneD (swapped d one two)) := by
  have hlen : d.length = n := by
    rw [hr.perm.length_eq, List.length_append, downN_length, upN_length]; omega
  obtain ⟨c, d', hcn, rfl, r⟩ := heads (by omega) hc hr
  have ok := headF_ok (head_all h5 h8 hcn) r
  have e : cond (fullF ((c + 1) :: d') n) (pairsF ((c + 1) :: d') n) false = true := ok
  rw [cond_b] at e
  by_cases hf : fullF ((c + 1) :: d') n = true
  · rw [if_pos hf] at e
    have full := fullF_ok hlen h8 hf
    refine ⟨full, ?_⟩
    have key : ∀ i j, i < n → j < i → FullD (swapped ((c + 1) :: d') i j) ∨ NoneD (swapped ((c + 1) :: d') i j) := fun i j hi hj => by
      have h := rowsF_ok i (pairsF_go n e i hi) j hj
      rw [swapF_eq _ (by rw [hlen]; exact hi) hj] at h
      have hl : (swapped ((c + 1) :: d') i j).length = n := by rw [swapped_length, hlen]
      generalize swapped ((c + 1) :: d') i j = o at *
      cases o with
      | nil => rw [List.length_nil] at hl; omega
      | cons a r =>
        have e2 : cond (fullF (a :: r) n) true (noneF (a :: r) n) = true := h
        rw [cond_b] at e2
        by_cases hg : fullF (a :: r) n = true
        · exact .inl (fullF_ok hl h8 hg)
        · rw [if_neg hg] at e2
          exact .inr (noneF_ok hl h8 e2)
    rcases Nat.lt_trichotomy one two with h | h | h
    · have e3 : swapped ((c + 1) :: d') one two = swapped ((c + 1) :: d') two one := List.map_congr_left fun p _ => by rw [goN_comm]
      rw [e3]
      exact key two one h2 h
    · subst h
      rw [swap_same]; exact .inl full
    · exact key one two h1 h
  · rw [if_neg hf] at e; cases e
end Mine
namespace Mine
local macro_rules | `(tactic| omega) => `(tactic| first | with_reducible (first | assumption | decide | exact room_of (by assumption) (by decide) | exact Nat.le_trans (by assumption) (by decide) | exact Nat.ne_of_gt (by assumption) | exact Nat.ne_of_lt (by assumption) | exact Int.natCast_nonneg _) | lia | omega (config := {}))
local macro_rules | `(tactic| k_steps) => `(tactic| repeat' (fail_if_success (walk_at "mine stop")); (first | (k_unfold; (try dsimp only)) | (k_end; wrow_close) | walk1 | (dsimp only; walk1) | fail "no step"))
local macro_rules | `(tactic| walk_at "mine stop") => `(tactic| with_reducible first | show wpAny _ _ (exec (Stmt.While _ _ _ _) _) _ _ _ | show wpAny _ _ (PySem.call (Value.ref _) _ _) _ _ _ | show wpAny _ _ (pyIter (Value.ref _)) _ _ _ | show LCg.CompSrc _ _ _ _ _ _ _ _ _ _ _ _ _ _ | show wpAny _ _ (subscriptTail _ (PySem.Expr.Slice _ _ _ _) (Value.ref _) _) _ _ _ | show wpAny _ _ (PySem.call (Value.builtin "str.join") _ _) _ _ _)
local macro_rules | `(tactic| walk_at "subscriptTail") => `(tactic| (k_here; k_dflt (refine' item_g (by k_asm) (by k_mem) (by omega) (by omega) (by omega) ?_ (by with_unfolding_all rfl); k_whole); intro x' hx'))
local macro_rules | `(tactic| walk_at "setItem ref int") => `(tactic| (k_here; k_dflt (refine' set_g (by k_asm) (by k_asm) (by k_upd) (by omega) (by omega) (by omega) ?_; k_whole); intro h' F' N'; (try k_sweep)))
local macro_rules | `(tactic| walk_at "mine P") => `(tactic| first | assumption | exact (by assumption : ∀ v ∈ _, _) _ (List.mem_of_getElem? (by assumption)))
local macro_rules | `(tactic| walk_at "compareOp Lt") => `(tactic| (k_here; (with_reducible rename Cmp _ _ _ _ _ => hC); k_dflt (refine' cmp_g hC (by k_asm) ?k2 ?k3 (by walk_at "mine room") ?_; (case k2 => walk_at "mine P"); (case k3 => walk_at "mine P"); k_whole); intro tk'))
local macro_rules | `(tactic| walk_at "binaryOp RShift int int") => `(tactic| ((with_reducible show wpAny _ _ (binaryOp _ (Value.int _ _) (Value.int 1 _)) _ _ _); refine shr_one ?_; intro tk'; (try dsimp only)))
local macro_rules | `(tactic| walk_at "storeName") => `(tactic| (k_here; k_dflt (refine' storeI (by k_asm) (by k_asm) ?_ (by rfl) (by rfl); k_whole); intro h' t' tk' F' N'; (try k_sweep); (try dsimp only)))
local macro_rules | `(tactic| walk_at "storeName") => `(tactic| (k_here; k_dflt (refine' storeS (by k_asm) (by k_asm) ?_ (by rfl) (by rfl); k_whole); intro h' t' tk' F' N'; (try k_sweep); (try dsimp only)))
local macro_rules | `(tactic| walk_at "mine sub") => `(tactic| (repeat (first | exact List.forall_mem_nil _ | refine List.forall_mem_cons.mpr ⟨by first | walk_at "mine mem" | k_mem | assumption, ?_⟩ | exact fun _ hq => by (repeat (first | exact hq | refine List.mem_cons_of_mem _ ?_)))))
local macro_rules | `(tactic| walk_at "mine apart") => `(tactic| (repeat (first | exact List.forall_mem_nil _ | exact (by assumption) | (refine List.forall_mem_cons.mpr ⟨?_, ?_⟩) | (show _ ≠ _; k_ne))))
local macro_rules | `(tactic| walk_at "mine room") => `(tactic| (simp only [depth_deeper, units_deeper]; omega))
local macro_rules | `(tactic| walk_at "call builtin:len") => `(tactic| (k_here; k_dflt (refine' len_g (by k_asm) (by k_mem) (by omega) ?_; k_whole); intro t' tk'))
local macro_rules | `(tactic| walk_at "truthy ref") => `(tactic| (k_here; k_dflt (refine' truthy_g (by k_asm) (by k_mem) (by omega) ?_; k_whole); intro tk'))
local macro_rules | `(tactic| walk_at "mine vars") => `(tactic| (first | exact vars_nil | (refine vars_cons (by with_unfolding_all exact VarIs.of rfl) ?_; walk_at "mine vars") | (refine vars_cons (var_int (by with_unfolding_all exact VarIs.of rfl) (by (try dsimp only); omega)) ?_; walk_at "mine vars")))
local macro_rules | `(tactic| walk_at "call builtin:list.append") => `(tactic| (k_here; k_dflt (refine' append_g (by k_asm) (by k_asm) (by k_upd) (by omega) ?_; k_whole); intro h' F' N'; (try k_sweep)))
local macro_rules | `(tactic| walk_at "call builtin:list.pop") => `(tactic| (k_here; k_dflt (refine' pop_g (by k_asm) (by k_asm) (by k_upd) (by omega) ?_; k_whole); intro h' F' N'; (try k_sweep)))
local macro_rules | `(tactic| walk_at "call builtin:list.reverse") => `(tactic| (k_here; k_dflt (refine' reverse_g (by k_asm) (by k_asm) (by k_upd) (by omega) ?_; k_whole); intro h' F' N'; (try k_sweep)))
local macro_rules | `(tactic| walk_at "assign Tuple") => `(tactic| (k_here; k_dflt (refine' unpackN_ (by k_asm) (by k_asm) (News.isTup (by k_asm) (by k_mem)) (by assumption) (by rfl) (by rfl) ?_; k_whole); intro h' F' N'; (try k_sweep); (try dsimp only)))
local macro_rules | `(tactic| walk_at "unpackItems") => `(tactic| (k_here; k_dflt (refine' unpackItemsN_ (by k_asm) (by k_asm) (News.isTup (by k_asm) (by k_mem)) (by assumption) (by rfl) ?_; k_whole); intro h' F' N'; (try k_sweep); (try dsimp only)))
local macro_rules | `(tactic| walk_at "exec Assign cons ListComp") => `(tactic| (k_here; lcg_look; k_dflt (refine LCg.Assign_ListComp_U (F₀ := by k_asm) (by rfl) (by with_unfolding_all rfl) (by with_unfolding_all rfl) (by decide) (by rfl) (by decide) (by rfl) (by rfl) (by rfl) ?_)))
local macro_rules | `(tactic| walk_at "eval ListComp") => `(tactic| (k_here; lcg_look; k_dflt (refine LCg.ListComp_U (F₀ := by k_asm) (by with_unfolding_all rfl) (by decide) (by rfl) (by decide) (by rfl) ?_)))
local macro_rules | `(tactic| walk_at "binaryOp Add ref ref") => `(tactic| (k_here; k_dflt (refine' add_g (by k_asm) (by k_asm) (by k_mem) (by k_mem) ?_ (by ((try simp only [List.length_cons, List.length_nil, List.length_append, List.length_replicate]); omega)); k_whole); intro D' h' F' N' l1; (try k_lt l1); (try k_sweep)))
local macro_rules | `(tactic| k_ne) => `(tactic| (refine neN ?_; (try dsimp only); first | exact hid_l (by with_reducible assumption) | exact hid_r (by with_reducible assumption) | fail "hid"))
local macro_rules | `(tactic| walk_at "CompEnd") => `(tactic| (k_dflt (refine LCg.CompEnd.intro (by k_asm) (by k_asm) _ ?sub (by with_reducible assumption) ?src ⟨rfl, ?_⟩; (case sub => exact fun _ hp => hp); (case src => exact Or.inr ⟨_, by k_mem, rfl, _, rfl⟩))))
local macro_rules | `(tactic| walk_at "mine mem") => `(tactic| first | (with_reducible exact List.mem_cons_self) | (with_reducible refine List.mem_cons_of_mem _ ?_; walk_at "mine mem"))
local macro_rules | `(tactic| k_ne) => `(tactic| (refine neN ?_; (try dsimp only); first | exact off1_l (by with_reducible assumption) (by walk_at "mine mem") | exact off1_r (by with_reducible assumption) (by walk_at "mine mem") | fail "off"))
local macro_rules | `(tactic| walk_at "FinE") => `(tactic| ((first | unfold LCg.FinE | unfold LCg.FinA); intro D' h' tk' F' N' o1'; (try simp only [List.nil_append, List.cons_append] at N'); (try dsimp only)))
local macro_rules | `(tactic| walk_at "FinA") => `(tactic| walk_at "FinE")
local macro_rules | `(tactic| walk_at "execs cons") => `(tactic| (k_here; (try dsimp only); k_dflt k_gentoks))
local macro_rules | `(tactic| walk_at "execs nil") => `(tactic| (k_here; (try dsimp only); k_dflt k_gentoks))
local macro_rules | `(tactic| walk_at "call builtin:list.append") => `(tactic| (k_here; (dsimp only [List.cons_append, List.nil_append]); walk_at "call builtin:list.append"))
-- R1
section
theorem siftdown_t {w : World} {p : Program} {loose : List Str} {mean : ExcName → Option Value} {mg mb : Str → Option Value} {lt : Value → Value → Bool} {P : Value → Prop} {l : Addr} {vs : List Value} {n : Nat} {start pos : Nat} {t1 t2 : Tok} {v₀ : Value}
    (hP : ∀ v ∈ vs, P v) (hv : vs[pos]? = some v₀) (hfit : vs.length ≤ 1000000) :
    Tell PySem.Challenge.rw_pg0218_01.row.prog w (hd.heap_39 w.params) p loose mean mg mb (Cmp PySem.Challenge.rw_pg0218_01.row.prog w lt P) 1 12 (.ref 84) [.ref l, .int start t1, .int pos t2] [(l, listOf vs.toArray n)] (fun v news => v = .none ∧ news = [(l, listOf (sdn lt v₀ start pos vs pos).toArray n)]) := by
  k_fill
  have hpos : pos < vs.length := (List.getElem?_eq_some_iff.mp hv).1
  have hP0 : P v₀ := hP _ (List.mem_of_getElem? hv)
  refine Tell.enter (binds := [("heap", .ref l), ("startpos", .int start t1), ("pos", .int pos t2)]) (by k_is) (by k_is) (fun s => BindsTo.of_eq rfl) (locs rfl) rfl rfl rfl (by decide) ?_
  intro A base g outer s L Q B hH X T hC F N hlt hd hu hret
  k_steps
  rename _[_]? = some _ => hx
  rename Fr _ _ _ _ => F1
  rename News _ _ _ _ => N1
  have hxe := Option.some.inj (hv.symm.trans hx)
  subst hxe
  refine while_by (σ := List Value × Nat × Tok) (fun c => [("heap", .ref l), ("startpos", .int start t1), ("pos", .int c.2.1 c.2.2), ("newitem", v₀)]) (fun c => [(l, listOf c.1.toArray n)])
    (fun c => (∀ v ∈ c.1, P v) ∧ c.1.length = vs.length ∧ c.2.1 < vs.length ∧ sdn lt v₀ start c.2.1 c.1 c.2.1 = sdn lt v₀ start pos vs pos) (fun c => c.2.1) (vs, pos, t2) F1 N1 (fun _ h => h) ?_ ⟨hP, rfl, hpos, rfl⟩ ?_
  · walk_at "mine vars"
  · clear F1 N1 hx
    rintro ⟨xs, ps, tp⟩ v h tk ⟨q1, q2, q3, q4⟩ F N
    dsimp only at q1 q2 q3 q4 F N
    k_steps
    · rename _[_]? = some _ => hx
      rw [tn (show ((ps : Int) - 1) / 2 = ((ps - 1) / 2 : Nat) by omega)] at hx
      refine WPost.cont (xs.set ps _, (ps - 1) / 2, _) (by assumption) (by assumption) (fun _ h => h) (by walk_at "mine vars") ⟨?_, ?_, ?_, ?_⟩ ?_
      · intro v hv
        rcases List.mem_or_eq_of_mem_set hv with h | h
        · exact q1 v h
        · rw [h]; exact q1 _ (List.mem_of_getElem? hx)
      · simpa using q2
      · dsimp only; omega
      · rw [← q4]
        exact (sdn_step lt v₀ start (by omega) hx (by assumption)).symm
      · dsimp only; omega
    · rename _[_]? = some _ => hx
      rw [tn (show ((ps : Int) - 1) / 2 = ((ps - 1) / 2 : Nat) by omega)] at hx
      refine WPost.brk ?_
      k_steps
      refine hret _ _ _ _ ⟨rfl, ?_⟩ (Own.of (by assumption) (by assumption))
      rw [← q4, sdn_stop _ _ _ (by omega) hx (by assumption)]
      rfl
    · refine hret _ _ _ _ ⟨rfl, ?_⟩ (Own.of (by assumption) (by assumption))
      rw [← q4, sdn_top _ _ _ (by omega)]
      rfl
end
-- R2
section
theorem siftup_t {w : World} {p : Program} {loose : List Str} {mean : ExcName → Option Value} {mg mb : Str → Option Value} {lt : Value → Value → Bool} {P : Value → Prop} {l : Addr} {vs : List Value} {n : Nat} {pos : Nat} {t1 : Tok} {v₀ : Value}
    (hP : ∀ v ∈ vs, P v) (hv : vs[pos]? = some v₀) (hfit : vs.length ≤ 1000000) :
    Tell PySem.Challenge.rw_pg0218_01.row.prog w (hd.heap_39 w.params) p loose mean mg mb (Cmp PySem.Challenge.rw_pg0218_01.row.prog w lt P) 2 20 (.ref 91) [.ref l, .int pos t1] [(l, listOf vs.toArray n)] (fun v news => v = .none ∧ news = [(l, listOf (sup lt v₀ pos vs.length vs pos).toArray n)]) := by
  k_fill
  have hpos : pos < vs.length := (List.getElem?_eq_some_iff.mp hv).1
  have hP0 : P v₀ := hP _ (List.mem_of_getElem? hv)
  refine Tell.enter (binds := [("heap", .ref l), ("pos", .int pos t1)]) (by k_is) (by k_is) (fun s => BindsTo.of_eq rfl) (locs rfl) rfl rfl rfl (by decide) ?_
  intro A base g outer s L Q B hH X T hC F N hlt hd hu hret
  k_steps
  rename _[_]? = some _ => hx
  rename Fr _ _ _ _ => F1
  rename News _ _ _ _ => N1
  have hxe := Option.some.inj (hv.symm.trans hx)
  subst hxe
  rename_i te _ _ ts _ _ _ tc _
  refine while_by (σ := List Value × Nat × Tok × Tok × Tok × Tok) (fun c => [("heap", .ref l), ("endpos", .int vs.length c.2.2.1), ("startpos", .int pos c.2.2.2.1), ("newitem", v₀), ("pos", .int c.2.1 c.2.2.2.2.1), ("childpos", .int (2 * (c.2.1 : Int) + 1) c.2.2.2.2.2)]) (fun c => [(l, listOf c.1.toArray n)])
    (fun c => (∀ v ∈ c.1, P v) ∧ c.1.length = vs.length ∧ c.2.1 < vs.length ∧ sup lt v₀ pos c.1.length c.1 c.2.1 = sup lt v₀ pos vs.length vs pos) (fun c => vs.length - c.2.1) (vs, pos, te, ts, t1, tc) F1 N1 (fun _ h => h) ?hk ⟨hP, rfl, hpos, rfl⟩ ?turn
  case hk => walk_at "mine vars"
  clear F1 N1 hx
  rintro ⟨xs, ps, te, ts, tp, tc⟩ v h tk ⟨q1, q2, q3, q4⟩ F N
  dsimp only at q1 q2 q3 q4 F N
  have z0 : 0 ≤ 2 * (ps : Int) + 1 := by omega
  have z2 : 2 * (ps : Int) + 1 + 1 < 2 ^ 63 := by omega
  have z1 : 2 * (ps : Int) + 1 < 2 ^ 63 := Int.lt_trans (Int.lt_add_one_iff.mpr (Int.le_refl _)) z2
  have z3 : (ps : Int) < 2 ^ 63 := by omega
  k_steps
  · rename_i x1 h1 x2 h2 _ hlt x3 h3 _ _ _ _ _ _ _ _ _
    rw [tn (show (2 * (ps : Int) + 1) = (2 * ps + 1 : Nat) by omega)] at h1 h3
    rw [tn (show (2 * (ps : Int) + 1 + 1) = (2 * ps + 1 + 1 : Nat) by omega)] at h2
    refine WPost.next (xs.set ps _, 2 * ps + 1, te, ts, _, _) (by assumption) (by assumption) (fun _ h => h) (by walk_at "mine vars") ⟨?_, ?_, ?_, ?_⟩ ?_
    · intro v hv
      rcases List.mem_or_eq_of_mem_set hv with h | h
      · exact q1 v h
      · rw [h]; exact q1 _ (List.mem_of_getElem? h3)
    · simpa using q2
    · dsimp only; omega
    · rw [← q4]
      exact (sup_step lt v₀ pos (by omega) (kid_left h1 h2 hlt) h3).symm
    · dsimp only; omega
  · rename_i x1 h1 x2 h2 _ hlt _ _ _ x3 h3 _ _ _ _ _ _ _ _ _
    rw [tn (show (2 * (ps : Int) + 1) = (2 * ps + 1 : Nat) by omega)] at h1
    rw [tn (show (2 * (ps : Int) + 1 + 1) = (2 * ps + 1 + 1 : Nat) by omega)] at h2 h3
    refine WPost.next (xs.set ps _, 2 * ps + 1 + 1, te, ts, _, _) (by assumption) (by assumption) (fun _ h => h) (by walk_at "mine vars") ⟨?_, ?_, ?_, ?_⟩ ?_
    · intro v hv
      rcases List.mem_or_eq_of_mem_set hv with h | h
      · exact q1 v h
      · rw [h]; exact q1 _ (List.mem_of_getElem? h3)
    · simpa using q2
    · dsimp only; omega
    · rw [← q4]
      exact (sup_step lt v₀ pos (by omega) (kid_right h1 h2 hlt) h3).symm
    · dsimp only; omega
  · rename_i hno x3 h3 _ _ _ _ _ _ _ _ _
    rw [tn (show (2 * (ps : Int) + 1) = (2 * ps + 1 : Nat) by omega)] at h3
    refine WPost.next (xs.set ps _, 2 * ps + 1, te, ts, _, _) (by assumption) (by assumption) (fun _ h => h) (by walk_at "mine vars") ⟨?_, ?_, ?_, ?_⟩ ?_
    · intro v hv
      rcases List.mem_or_eq_of_mem_set hv with h | h
      · exact q1 v h
      · rw [h]; exact q1 _ (List.mem_of_getElem? h3)
    · simpa using q2
    · dsimp only; omega
    · rw [← q4]
      exact (sup_step lt v₀ pos (by omega) (kid_last (by omega)) h3).symm
    · dsimp only; omega
  · skip
    refine' Tell.use (rest := []) (siftdown_t (vs := xs.set ps v₀) (v₀ := v₀) (P := P) (lt := lt) ?hP ?hv ?hfit) ?cB1 ?cH1 ?cF1 ?cN1 ?cX1 ?cT1 ?cA1 ?cf1 ?ck1 ?cs1 ?cr1 ?ca1 ?cP1 ?cd1 ?cu1 ?cret1
    case cB1 => exact B
    case cH1 => first | exact hH | assumption
    case cF1 => assumption
    case cN1 => assumption
    case cX1 => exact X
    case cT1 => first | exact T | assumption
    case cA1 => exact Around.frames_deeper B.stack
    case cf1 => exact rfl
    case ck1 => exact rfl
    case cs1 => walk_at "mine sub"
    case cr1 => walk_at "mine sub"
    case ca1 => walk_at "mine apart"
    case cP1 => exact fun g' st _ => hC.keeps (fun b o e => st b o e)
    case cd1 => walk_at "mine room"
    case cu1 => walk_at "mine room"
    case hP =>
      intro v hv
      rcases List.mem_or_eq_of_mem_set hv with h | h
      · exact q1 v h
      · rw [h]; exact hP0
    case hv => rw [List.getElem?_set_self (by omega)]
    case hfit => rw [List.length_set]; omega
    rintro _ _ h' tk' ⟨rfl, rfl⟩ F' N' -
    k_steps
    refine hret _ _ _ _ ⟨rfl, ?_⟩ (Own.of F' N')
    rw [← q4, sup_end _ _ _ (by omega)]
    rfl
end
-- R3
section
theorem heappush_t {w : World} {p : Program} {loose : List Str} {mean : ExcName → Option Value} {mg mb : Str → Option Value} {lt : Value → Value → Bool} {P : Value → Prop} {l : Addr} {vs : List Value} {n : Nat} {v : Value}
    (hP : ∀ v ∈ vs, P v) (hv : P v) (hfit : vs.length ≤ 100000) :
    Tell PySem.Challenge.rw_pg0218_01.row.prog w (hd.heap_39 w.params) p loose mean mg mb (Cmp PySem.Challenge.rw_pg0218_01.row.prog w lt P) 2 20 (.ref 70) [.ref l, v] [(l, listOf vs.toArray n)] (fun r news => r = .none ∧ news = [(l, listOf (hpush lt v vs).toArray (n + 1))]) := by
  k_fill
  refine Tell.enter (binds := [("heap", .ref l), ("item", v)]) (by k_is) (by k_is) (fun s => BindsTo.of_eq rfl) (locs rfl) rfl rfl rfl (by decide) ?_
  intro A base g outer s L Q B hH X T hC F N hlt hd hu hret
  have hlen : (vs ++ [v]).length = vs.length + 1 := by simp
  k_steps
  rw [hlen, show ((vs.length + 1 : Nat) : Int) - 1 = (vs.length : Nat) by omega]
  refine' Tell.use (rest := []) (siftdown_t (vs := vs ++ [v]) (v₀ := v) (P := P) (lt := lt) (start := 0) (pos := vs.length) ?hP ?hv ?hfit) ?cB1 ?cH1 ?cF1 ?cN1 ?cX1 ?cT1 ?cA1 ?cf1 ?ck1 ?cs1 ?cr1 ?ca1 ?cP1 ?cd1 ?cu1 ?cret1
  case cB1 => exact B
  case cH1 => first | exact hH | assumption
  case cF1 => assumption
  case cN1 => assumption
  case cX1 => exact X
  case cT1 => first | exact T | assumption
  case cA1 => exact Around.frames_deeper B.stack
  case cf1 => exact rfl
  case ck1 => exact rfl
  case cs1 => walk_at "mine sub"
  case cr1 => walk_at "mine sub"
  case ca1 => walk_at "mine apart"
  case cP1 => exact fun g' st _ => hC.keeps (fun b o e => st b o e)
  case cd1 => walk_at "mine room"
  case cu1 => walk_at "mine room"
  case hP => simpa [or_imp, forall_and] using ⟨hP, hv⟩
  case hv => simp
  case hfit => omega
  rintro _ _ h' tk' ⟨rfl, rfl⟩ F' N' -
  k_steps
  exact hret _ _ _ _ ⟨rfl, rfl⟩ (Own.of F' N')
theorem heappop_t {w : World} {p : Program} {loose : List Str} {mean : ExcName → Option Value} {mg mb : Str → Option Value} {lt : Value → Value → Bool} {P : Value → Prop} {l : Addr} {vs : List Value} {n : Nat} {y : Value}
    (hP : ∀ v ∈ vs, P v) (hv : P y) (hfit : vs.length ≤ 100000) :
    Tell PySem.Challenge.rw_pg0218_01.row.prog w (hd.heap_39 w.params) p loose mean mg mb (Cmp PySem.Challenge.rw_pg0218_01.row.prog w lt P) 3 30 (.ref 77) [.ref l] [(l, listOf (vs ++ [y]).toArray n)] (fun r news => r = (hpop lt vs y).1 ∧ news = [(l, listOf (hpop lt vs y).2.toArray (n + 1))]) := by
  k_fill
  refine Tell.enter (binds := [("heap", .ref l)]) (by k_is) (by k_is) (fun s => BindsTo.of_eq rfl) (locs rfl) rfl rfl rfl (by decide) ?_
  intro A base g outer s L Q B hH X T hC F N hlt hd hu hret
  k_steps
  · rename vs[_]? = some _ => hx
    rename 0 < vs.length => hpos
    obtain ⟨x, q, rfl⟩ : ∃ x q, vs = x :: q := by
      cases vs with
      | nil => exact absurd hpos (by decide)
      | cons x q => exact ⟨x, q, rfl⟩
    have hxe := Option.some.inj (show some x = some _ from hx)
    subst hxe
    refine' Tell.use (rest := []) (siftup_t (vs := y :: q) (v₀ := y) (P := P) (lt := lt) (pos := 0) ?hP ?hv ?hfit) ?cB2 ?cH2 ?cF2 ?cN2 ?cX2 ?cT2 ?cA2 ?cf2 ?ck2 ?cs2 ?cr2 ?ca2 ?cP2 ?cd2 ?cu2 ?cret2
    case cB2 => exact B
    case cH2 => first | exact hH | assumption
    case cF2 => assumption
    case cN2 => assumption
    case cX2 => exact X
    case cT2 => first | exact T | assumption
    case cA2 => exact Around.frames_deeper B.stack
    case cf2 => exact rfl
    case ck2 => exact rfl
    case cs2 => walk_at "mine sub"
    case cr2 => walk_at "mine sub"
    case ca2 => walk_at "mine apart"
    case cP2 => exact fun g' st _ => hC.keeps (fun b o e => st b o e)
    case cd2 => walk_at "mine room"
    case cu2 => walk_at "mine room"
    case hP =>
      intro v hv'
      rcases List.mem_cons.mp hv' with h | h
      · rw [h]; exact hv
      · exact hP v (.tail _ h)
    case hv => rfl
    case hfit => simp only [List.length_cons] at *; omega
    rintro _ _ h' tk' ⟨rfl, rfl⟩ F' N' -
    k_steps
    exact hret _ _ _ _ ⟨rfl, rfl⟩ (Own.of F' N')
  · rename ¬ 0 < vs.length => hpos
    have hnil : vs = [] := by
      cases vs with
      | nil => rfl
      | cons x q => exact absurd (Nat.zero_lt_succ _) hpos
    subst hnil
    exact hret _ _ _ _ ⟨rfl, rfl⟩ (Own.of (by assumption) (by assumption))
end
-- R6
section
/-- what stays when _int2digits' inner def is called -/
noncomputable def HidF (g : Heap) (fi : Addr) (fd : FuncData) : Prop := ∃ fo, g.get? fi = some fo ∧ fo.data = .func fd
structure InOk (fi cn ca ci dl : Addr) (nv : Value) (fd : FuncData) (g : Heap) : Prop where
  fn : HidF g fi fd
  code : g.CodeRec fd.code fd.qualname
  n : CellIs g cn nv
  a : CellIs g ca (.ref dl)
  i : CellIs g ci (.ref fi)
theorem InOk.keeps {fi cn ca ci dl : Addr} {nv : Value} {fd : FuncData} {g g' : Heap} (x : InOk fi cn ca ci dl nv fd g) (k : ∀ b o, g.get? b = some o → g'.get? b = some o) : InOk fi cn ca ci dl nv fd g' where
  fn := let ⟨fo, h1, h2⟩ := x.fn; ⟨fo, k _ _ h1, h2⟩
  code := x.code.keeps k
  n := let ⟨o, h1, h2⟩ := x.n; ⟨o, k _ _ h1, h2⟩
  a := let ⟨o, h1, h2⟩ := x.a; ⟨o, k _ _ h1, h2⟩
  i := let ⟨o, h1, h2⟩ := x.i; ⟨o, k _ _ h1, h2⟩
section
local macro_rules | `(tactic| walk_at "eval Name") => `(tactic| (k_here; k_dflt (refine' nameX_G (by k_asm) (by assumption) (by assumption) ?_ (by rfl) (by rfl); k_whole)))
local macro_rules | `(tactic| walk_at "mine stop") => `(tactic| with_reducible show wpAny _ _ (storeName _ (Str.ofString "mid") _) _ _ _)
local macro_rules | `(tactic| walk_at "mine stop") => `(tactic| with_reducible show wpAny _ _ (storeName _ (Str.ofString "shift") _) _ _ _)
local macro_rules | `(tactic| walk_at "mine stop") => `(tactic| with_reducible show wpAny _ _ (storeName _ (Str.ofString "lower") _) _ _ _)
local macro_rules | `(tactic| walk_at "binaryOp RShift int int") => `(tactic| ((with_reducible show wpAny _ _ (binaryOp _ (Value.int (Nat.cast _) _) (Value.int (Nat.cast _) _)) _ _ _); refine shr_nat ?_; intro tk'; (try dsimp only)))
local macro_rules | `(tactic| walk_at "binaryOp LShift int int") => `(tactic| ((with_reducible show wpAny _ _ (binaryOp _ (Value.int (Nat.cast _) _) (Value.int (Nat.cast _) _)) _ _ _); refine' shl_nat (by assumption) (by assumption) ?_; intro tk'; (try dsimp only)))
local macro_rules | `(tactic| walk_at "callWith ref") => `(tactic| (k_here; (with_reducible rename HidF _ _ _ => hFn); k_dflt (refine' callWith_F (fnAt_g hFn (by k_asm)) ?_; k_whole)))
local macro_rules | `(tactic| walk_at "And") => `(tactic| (k_here; (with_reducible show FnAt _ _ ∧ _); (with_reducible rename HidF _ _ _ => hFn); k_dflt (refine ⟨fnAt_g hFn (by k_asm), ?_⟩); (try dsimp only [List.nil_append, List.cons_append])))
theorem inner_t {w : World} {p : Program} {loose : List Str} {mean : ExcName → Option Value} {mg mb : Str → Option Value} {fi cn ca ci dl : Addr} {nm ql : Str} {ips : Arguments} {ib : List Stmt} {isc : Scope} {cl : List (Str × Addr)} {doc pm ctv cdv : Value} {n : Nat} {tn : Tok}
    (hi : innerIn (hd.heap_39 w.params) 35 = some (ips, ib, isc)) (h1 : cl.lookup (Str.ofString "n") = some cn) (h2 : cl.lookup (Str.ofString "a_digits") = some ca) (h3 : cl.lookup (Str.ofString "inner") = some ci) (hn : 1 ≤ n) (hn2 : n ≤ 64) :
    ∀ (k : Nat) (x lo hi : Nat) (vs : List Value) (ns : List Int) (e : Nat) (t1 t2 t3 : Tok), hi - lo = k → lo < hi → hi ≤ ns.length → ns.length ≤ 64 → x < 2 ^ ((hi - lo) * n) → x < 2 ^ 64 → IntsAre vs ns →
    Tell PySem.Challenge.rw_pg0218_01.row.prog w (hd.heap_39 w.params) p loose mean mg mb (InOk fi cn ca ci dl (.int n tn) (fnX nm ql ips ib isc cl .none .none doc pm none cdv ctv)) (k + 1) (3 * k + 20) (.ref fi) [.int x t1, .int lo t2, .int hi t3] [(dl, listOf vs.toArray e)]
      (fun v news => v = .none ∧ ∃ vs' : List Value, IntsAre vs' (put ns lo hi (digs n x (hi - lo))) ∧ news = [(dl, listOf vs'.toArray e)]) := by
  k_fill
  have hk := lk (K := hd.heap_39 w.params) (a := 35) (by k_is)
  rw [innerIn, hk] at hi
  dsimp only at hi
  obtain ⟨rfl, r⟩ := Prod.mk.inj (Option.some.inj hi)
  obtain ⟨rfl, rfl⟩ := Prod.mk.inj r
  clear hi hk r
  intro k
  induction k using Nat.strongRecOn with
  | ind k ih =>
  intro x lo hi vs ns e t1 t2 t3 hkk hlt hhi hns hx hx2 hI
  have hlen : vs.length = ns.length := hI.length
  refine Tell.enterX (binds := [("x", .int x t1), ("L", .int lo t2), ("R", .int hi t3)]) (fun g hg => ⟨_, hg.fn.choose_spec.1, hg.fn.choose_spec.2, hg.code⟩) (fun s => BindsTo.of_eq rfl) (locs rfl) rfl rfl rfl (by decide) ?_
  intro A base g outer s L Q B hH X T hG F N hltL hd hu hret
  have gn := hG.n
  have ga := hG.a
  have gi := hG.i
  have gf := hG.fn
  k_steps
  · rename (lo : Int) + 1 = hi => hq
    have hh : hi = lo + 1 := by omega
    subst hh
    refine hret _ _ _ _ ⟨rfl, _, ?_, rfl⟩ (Own.of (by assumption) (by assumption))
    rw [show lo + 1 - lo = 1 by omega] at hx ⊢
    rw [digs_one n x (by rw [Nat.one_mul] at hx; exact hx), ← put_one (by omega)]
    exact ints_set hI lo
  · rename (lo : Int) + 1 ≠ hi => hq
    have hh : lo + 1 < hi := by omega
    obtain ⟨hm1, hm2⟩ := half_mid hh
    rw [show ((lo : Int) + hi) / 2 = ((lo + hi) / 2 : Nat) by omega]
    generalize (lo + hi) / 2 = m at hm1 hm2 ⊢
    obtain ⟨hk1, hk2⟩ := half_lt hkk hm1 hm2
    have hm3 := Nat.le_of_lt hm1
    have hm4 := Nat.le_of_lt (Nat.lt_of_lt_of_le hm2 hhi)
    walk1
    k_steps
    rw [show ((m : Int) - lo) * n = ((m - lo) * n : Nat) by rw [← Int.natCast_sub hm3]; push_cast; rfl]
    have hs : (m - lo) * n ≤ 1000000 := by
      have : (m - lo) * n ≤ 64 * 64 := Nat.mul_le_mul (half_le hm4 hns) hn2
      omega
    have hup : x / 2 ^ ((m - lo) * n) < 2 ^ 64 := Nat.lt_of_le_of_lt (Nat.div_le_self _ _) hx2
    walk1
    k_steps
    rw [xor_low]
    walk1
    k_steps
    have e64 : x % 2 ^ ((m - lo) * n) < 2 ^ 64 := Nat.lt_of_le_of_lt (Nat.mod_le _ _) hx2
    refine' Tell.use (rest := []) (ih (m - lo) hk1 (x % 2 ^ ((m - lo) * n)) lo m vs ns e _ _ _ rfl hm1 hm4 hns (Nat.mod_lt _ (Nat.two_pow_pos _)) e64 hI) ?cB1 ?cH1 ?cF1 ?cN1 ?cX1 ?cT1 ?cA1 ?cf1 ?ck1 ?cs1 ?cr1 ?ca1 ?cP1 ?cd1 ?cu1 ?cret1
    case cB1 => exact B
    case cH1 => first | exact hH | assumption
    case cF1 => assumption
    case cN1 => assumption
    case cX1 => exact X
    case cT1 => first | exact T | assumption
    case cA1 => exact Around.frames_deeper B.stack
    case cf1 => exact rfl
    case ck1 => exact rfl
    case cs1 => walk_at "mine sub"
    case cr1 => walk_at "mine sub"
    case ca1 => walk_at "mine apart"
    case cP1 => exact fun g' st _ => hG.keeps (fun b o e => st b o e)
    case cd1 => exact room_dep hd hk1
    case cu1 => exact room_unit hu hk1
    rintro _ _ h' tk' ⟨rfl, vs1, hI1, rfl⟩ F' N' -
    simp only [List.cons_append, List.nil_append] at N'
    have hl1 : (put ns lo m (digs n (x % 2 ^ ((m - lo) * n)) (m - lo))).length = ns.length := put_length (by omega) (by omega) (digs_length ..)
    k_steps
    have hx3 : x / 2 ^ ((m - lo) * n) < 2 ^ ((hi - m) * n) := by
      rw [Nat.div_lt_iff_lt_mul (Nat.two_pow_pos _), ← Nat.pow_add, ← Nat.add_mul]
      rw [(half_add hm1 hm2).1]; exact hx
    refine' Tell.use (rest := []) (ih (hi - m) hk2 (x / 2 ^ ((m - lo) * n)) m hi vs1 _ e _ _ _ rfl hm2 (hl1.symm ▸ hhi) (hl1.symm ▸ hns) hx3 hup hI1) ?cB2 ?cH2 ?cF2 ?cN2 ?cX2 ?cT2 ?cA2 ?cf2 ?ck2 ?cs2 ?cr2 ?ca2 ?cP2 ?cd2 ?cu2 ?cret2
    case cB2 => exact B
    case cH2 => first | exact hH | assumption
    case cF2 => assumption
    case cN2 => assumption
    case cX2 => exact X
    case cT2 => first | exact T | assumption
    case cA2 => exact Around.frames_deeper B.stack
    case cf2 => exact rfl
    case ck2 => exact rfl
    case cs2 => walk_at "mine sub"
    case cr2 => walk_at "mine sub"
    case ca2 => walk_at "mine apart"
    case cP2 => exact fun g' st _ => hG.keeps (fun b o e => st b o e)
    case cd2 => exact room_dep hd hk2
    case cu2 => exact room_unit hu hk2
    rintro _ _ h' tk' ⟨rfl, vs2, hI2, rfl⟩ F' N' -
    k_steps
    refine hret _ _ _ _ ⟨rfl, vs2, ?_, rfl⟩ (Own.of F' N')
    rw [put_put (by omega) (by omega) hhi (digs_length ..)] at hI2
    rw [(half_add hm1 hm2).2, digs_split]
    exact hI2
-- R6
structure In2 (fi cn cd ci dl : Addr) (nv : Value) (lo : Obj) (fd : FuncData) (g : Heap) : Prop where
  fn : HidF g fi fd
  code : g.CodeRec fd.code fd.qualname
  n : CellIs g cn nv
  d : CellIs g cd (.ref dl)
  i : CellIs g ci (.ref fi)
  l : g.get? dl = some lo
theorem In2.keeps {fi cn cd ci dl : Addr} {nv : Value} {lo : Obj} {fd : FuncData} {g g' : Heap} (x : In2 fi cn cd ci dl nv lo fd g) (k : ∀ b o, g.get? b = some o → g'.get? b = some o) : In2 fi cn cd ci dl nv lo fd g' where
  fn := let ⟨fo, h1, h2⟩ := x.fn; ⟨fo, k _ _ h1, h2⟩
  code := x.code.keeps k
  n := let ⟨o, h1, h2⟩ := x.n; ⟨o, k _ _ h1, h2⟩
  d := let ⟨o, h1, h2⟩ := x.d; ⟨o, k _ _ h1, h2⟩
  i := let ⟨o, h1, h2⟩ := x.i; ⟨o, k _ _ h1, h2⟩
  l := k _ _ x.l
local macro_rules | `(tactic| walk_at "mine stop") => `(tactic| with_reducible show wpAny _ _ (binaryOp .LShift _ _) _ _ _)
local macro_rules | `(tactic| walk_at "subscriptTail") => `(tactic| (k_here; (with_reducible rename _ = some (listOf _ _) => hGl); k_dflt (refine' item_G (by k_asm) hGl (by omega) (by omega) (by omega) ?_ (by with_unfolding_all rfl); k_whole); intro x' hx'))
theorem inner2_t {w : World} {p : Program} {loose : List Str} {mean : ExcName → Option Value} {mg mb : Str → Option Value} {fi cn cd ci dl : Addr} {nm ql : Str} {ips : Arguments} {ib : List Stmt} {isc : Scope} {cl : List (Str × Addr)} {doc pm ctv cdv : Value} {n : Nat} {tn : Tok} {vs : List Value} {ns : List Int} {e : Nat}
    (hi : innerIn (hd.heap_39 w.params) 42 = some (ips, ib, isc)) (h1 : cl.lookup (Str.ofString "n") = some cn) (h2 : cl.lookup (Str.ofString "digits") = some cd) (h3 : cl.lookup (Str.ofString "inner") = some ci) (hn2 : n ≤ 64)
    (hI : IntsAre vs ns) (hF : Figs n ns) (hns : ns.length ≤ 64) (hsz : ns.length * n ≤ 200) :
    ∀ (k : Nat) (lo hi : Nat) (t2 t3 : Tok), hi - lo = k → lo < hi → hi ≤ ns.length →
    Tell PySem.Challenge.rw_pg0218_01.row.prog w (hd.heap_39 w.params) p loose mean mg mb (In2 fi cn cd ci dl (.int n tn) (listOf vs.toArray e) (fnX nm ql ips ib isc cl .none .none doc pm none cdv ctv)) (k + 1) (3 * k + 20) (.ref fi) [.int lo t2, .int hi t3] []
      (fun v news => ∃ t, v = .int (valI n (cut ns lo hi)) t ∧ news = []) := by
  k_fill
  have hk := lk (K := Mine.hd.heap_39 w.params) (a := 42) (by k_is)
  rw [innerIn, hk] at hi
  dsimp only at hi
  obtain ⟨rfl, r⟩ := Prod.mk.inj (Option.some.inj hi)
  obtain ⟨rfl, rfl⟩ := Prod.mk.inj r
  clear hi hk r
  intro k
  induction k using Nat.strongRecOn with
  | ind k ih =>
  intro lo hi t2 t3 hkk hlt hhi
  have hlen : vs.length = ns.length := hI.length
  refine Tell.enterX (binds := [("L", .int lo t2), ("R", .int hi t3)]) (fun g hg => ⟨_, hg.fn.choose_spec.1, hg.fn.choose_spec.2, hg.code⟩) (fun s => BindsTo.of_eq rfl) (locs rfl) rfl rfl rfl (by decide) ?_
  intro A base g outer s L Q B hH X T hG F N hltL hd hu hret
  have gn := hG.n
  have gd := hG.d
  have gi := hG.i
  have gf := hG.fn
  have gl := hG.l
  k_steps
  · rename (lo : Int) + 1 = hi => hq
    rename vs[_]? = some _ => hx
    have hh : hi = lo + 1 := by omega
    subst hh
    obtain ⟨kk, tt, rfl, hx2⟩ := ints_get hI hx
    refine hret _ _ _ _ ⟨tt, ?_, rfl⟩ (Own.of (by assumption) (by assumption))
    rw [cut_one (show ns[lo]? = some kk from hx2)]
    simp [valI]
  · rename (lo : Int) + 1 ≠ hi => hq
    have hh : lo + 1 < hi := by omega
    obtain ⟨hm1, hm2⟩ := half_mid hh
    rw [show ((lo : Int) + hi) / 2 = ((lo + hi) / 2 : Nat) by omega]
    generalize (lo + hi) / 2 = m at hm1 hm2 ⊢
    obtain ⟨hk1, hk2⟩ := half_lt hkk hm1 hm2
    have hm3 := Nat.le_of_lt hm1
    have hm4 := Nat.le_of_lt (Nat.lt_of_lt_of_le hm2 hhi)
    walk1
    k_steps
    rw [show ((m : Int) - lo) * n = ((m - lo) * n : Nat) by rw [← Int.natCast_sub hm3]; push_cast; rfl]
    have hs : (m - lo) * n ≤ 1000000 := by
      have : (m - lo) * n ≤ 64 * 64 := Nat.mul_le_mul (half_le hm4 hns) hn2
      omega
    walk1
    k_steps
    refine' Tell.use (rest := []) (ih (hi - m) hk2 m hi _ _ rfl hm2 hhi) ?cB1 ?cH1 ?cF1 ?cN1 ?cX1 ?cT1 ?cA1 ?cf1 ?ck1 ?cs1 ?cr1 ?ca1 ?cP1 ?cd1 ?cu1 ?cret1
    case cB1 => exact B
    case cH1 => first | exact hH | assumption
    case cF1 => assumption
    case cN1 => assumption
    case cX1 => exact X
    case cT1 => first | exact T | assumption
    case cA1 => exact Around.frames_deeper B.stack
    case cf1 => exact rfl
    case ck1 => exact rfl
    case cs1 => walk_at "mine sub"
    case cr1 => walk_at "mine sub"
    case ca1 => walk_at "mine apart"
    case cP1 => exact fun g' st _ => hG.keeps (fun b o e => st b o e)
    case cd1 => exact room_dep hd hk2
    case cu1 => exact room_unit hu hk2
    rintro _ _ h' tk' ⟨t', rfl, rfl⟩ F' N' -
    simp only [List.append_nil] at N'
    k_steps
    have hp0 := valI_pos (cut_figs hF m hi)
    have hp1 : valI n (cut ns m hi) < 2 ^ 200 := by
      refine Int.lt_of_lt_of_le (valI_lt (cut_figs hF m hi)) ?_
      rw [cut_length hhi]
      have : (hi - m) * n ≤ 200 := Nat.le_trans (Nat.mul_le_mul_right _ (by omega)) hsz
      exact_mod_cast Nat.pow_le_pow_right (by decide) this
    refine shl_int hp0 hp1 hs ?_
    intro tk2
    k_steps
    refine' Tell.use (rest := []) (ih (m - lo) hk1 lo m _ _ rfl hm1 hm4) ?cB2 ?cH2 ?cF2 ?cN2 ?cX2 ?cT2 ?cA2 ?cf2 ?ck2 ?cs2 ?cr2 ?ca2 ?cP2 ?cd2 ?cu2 ?cret2
    case cB2 => exact B
    case cH2 => first | exact hH | assumption
    case cF2 => assumption
    case cN2 => assumption
    case cX2 => exact X
    case cT2 => first | exact T | assumption
    case cA2 => exact Around.frames_deeper B.stack
    case cf2 => exact rfl
    case ck2 => exact rfl
    case cs2 => walk_at "mine sub"
    case cr2 => walk_at "mine sub"
    case ca2 => walk_at "mine apart"
    case cP2 => exact fun g' st _ => hG.keeps (fun b o e => st b o e)
    case cd2 => exact room_dep hd hk1
    case cu2 => exact room_unit hu hk1
    rintro _ _ h' tk' ⟨t', rfl, rfl⟩ F' N' -
    simp only [List.append_nil] at N'
    k_steps
    rw [show valI n (cut ns m hi) * 2 ^ ((m - lo) * n) + valI n (cut ns lo m) = valI n (cut ns lo hi) by
      rw [cut_app (a := lo) (m := m) (b := hi) (by omega) (by omega), valI_app, cut_length (by omega), Int.mul_comm, Int.add_comm]]
    exact hret _ _ _ _ ⟨_, rfl, rfl⟩ (Own.of (by assumption) (by assumption))
end
local macro_rules | `(tactic| walk_at "mine stop") => `(tactic| with_reducible show wpAny _ _ (exec (Stmt.FunctionDef _ _ _ _ _ _ _ _ _ _) _) _ _ _)
local macro_rules | `(tactic| walk_at "truthy ref") => `(tactic| (k_here; (with_reducible rename _ = some (listOf _ _) => hGl); k_dflt (refine' truthy_G (by k_asm) hGl (by omega) ?_; k_whole); intro tk'))
local macro_rules | `(tactic| walk_at "call builtin:len") => `(tactic| (k_here; (with_reducible rename _ = some (listOf _ _) => hGl); k_dflt (refine' len_G (by k_asm) hGl (by omega) ?_; k_whole); intro t' tk'))
theorem d2i_t {w : World} {p : Program} {loose : List Str} {mean : ExcName → Option Value} {mg mb : Str → Option Value} {dl : Addr} {n : Nat} {t2 : Tok} {ps : Array Value} {c : Addr} {oc : Obj} {vs : List Value} {ns : List Int} {e : Nat}
    (hn2 : n ≤ 64) (hI : IntsAre vs ns) (hF : Figs n ns) (hns : ns.length ≤ 64) (hsz : ns.length * n ≤ 200) (htl : TabIs 47 4 ql42 ps c oc) (hc : c ≠ 37) :
    Tell PySem.Challenge.rw_pg0218_01.row.prog w (hd.heap_39 w.params) p loose mean mg mb (fun g => CodeHd g 41 37 ∧ g.get? dl = some (listOf vs.toArray e)) 70 250 (.ref 42) [.ref dl, .int n t2] [(37, tabObj ps), (c, oc)]
      (fun v news => ∃ (t : Tok) (ps' : Array Value) (c' : Addr) (oc' : Obj), v = .int (valI n ns) t ∧ TabIs 47 4 ql42 ps' c' oc' ∧ c' ≠ 37 ∧ news = [(37, tabObj ps'), (c', oc')]) := by
  k_fill
  have hlen : vs.length = ns.length := hI.length
  refine Tell.enterC (binds := [("digits", .ref dl), ("n", .int n t2)]) (by k_is) (by k_is) (fun s => BindsTo.of_eq rfl) rfl (by decide +kernel) rfl rfl rfl ?_
  intro A base g outer s L cells Q B hH X T hG F N Y hlt hd hu hret
  obtain ⟨hG, gl⟩ := hG
  k_cells Y
  rename_i o1 o2 o3 d1 d2 d3
  replace d3 : o3.data = .cell (some (.ref dl)) := d3
  replace d2 : o2.data = .cell (some (.int n t2)) := d2
  simp only [List.cons_append, List.nil_append] at N
  k_lt hlt
  replace hc := neN hc
  k_steps
  k_dflt (refine' nestDef_K ?d0 ?k0 ?a0 ?_; (case d0 => exact rfl); (case k0 => exact rfl); (case a0 => exact rfl))
  k_dflt (refine' nest_tab (pre := [_, _, _]) (P := 37) (ps := ps) (c0 := c) (oc0 := oc) ?F N ?T ?C ?cd ?tb ?hP ?hc ?hPc ?cl ?_; (case F => k_asm); (case T => k_asm); (case cd => exact rfl); (case C => exact hG); (case tb => exact htl); (case hP => k_all); (case hc => k_all); (case hPc => exact hc); (case cl => exact rfl))
  intro f2 c2 oc2 vs2 t2' ct2 dc2 ps2 h2 tk2 F2 N2 hd2 hv2 htab2 hne2 hc2P hlt2
  simp only [List.cons_append, List.nil_append] at N2 hlt2
  k_lt hlt2
  replace hne2 : AllNe c2 _ := allNe_of hne2
  simp only [AllNe, and_true] at hne2
  replace hc2P := neN hc2P
  k_steps
  · rename 0 < vs.length => hpos
    rename _ = Data.cell (some (Value.ref f2)) => dI2
    have gl2 : g.get? dl = some (listOf vs.toArray e) := by assumption
    rw [hlen]
    refine' Tell.use (rest := [(f2, _), (L + 1, _), (L + 1 + 1, _), (L + 1 + 1 + 1, _), (37, tabObj ps2), (c2, oc2)]) (inner2_t (cd := L + 1) (cn := L + 1 + 1) (ci := L + 1 + 1 + 1) (dl := dl) (fi := f2) (tn := t2) (ql := ql42) (cdv := .ref c2) (e := e) ?hin ?h1 ?h2 ?h3 hn2 hI hF hns hsz ns.length 0 ns.length _ _ rfl (by omega) (Nat.le_refl _)) ?cB3 ?cH3 ?cF3 ?cN3 ?cX3 ?cT3 ?cA3 ?cf3 ?ck3 ?cs3 ?cr3 ?ca3 ?cP3 ?cd3 ?cu3 ?cret3
    case cB3 => exact B
    case cH3 => first | exact hH | assumption
    case cF3 => assumption
    case cN3 => assumption
    case cX3 => exact X
    case cT3 => first | exact T | assumption
    case cA3 => exact Around.frames_deeper B.stack
    case cf3 => exact rfl
    case ck3 => exact rfl
    case cs3 => walk_at "mine sub"
    case cr3 => walk_at "mine sub"
    case ca3 => walk_at "mine apart"
    case cP3 => exact fun g' st hr => ⟨⟨_, hr _ (.head _), rfl⟩, ⟨c2, oc2, vs2, t2', rfl, hr _ (.tail _ (.tail _ (.tail _ (.tail _ (.tail _ (.head _)))))), hd2, hv2⟩, ⟨_, hr _ (.tail _ (.tail _ (.head _))), d2⟩, ⟨_, hr _ (.tail _ (.head _)), d3⟩, ⟨_, hr _ (.tail _ (.tail _ (.tail _ (.head _)))), dI2⟩, st _ _ gl2⟩
    case cd3 => walk_at "mine room"
    case cu3 => walk_at "mine room"
    case hin =>
      have hk := lk (K := Mine.hd.heap_39 w.params) (a := 42) (by k_is)
      rw [innerIn, hk]
    case h1 => rfl
    case h2 => rfl
    case h3 => rfl
    rintro _ _ h' tk' ⟨t', rfl, rfl⟩ F' N' -
    simp only [List.cons_append, List.nil_append] at N'
    rw [cut_all]
    k_steps
    exact hret _ _ _ _ ⟨_, ps2, c2, oc2, rfl, htab2, hc2P, rfl⟩ (Own.of F' (News.sub N' (by walk_at "mine sub")))
  · rename ¬ 0 < vs.length => hpos
    have h0 : ns = [] := List.length_eq_zero_iff.mp (by omega)
    subst h0
    exact hret _ _ _ _ ⟨_, ps2, c2, oc2, rfl, htab2, hc2P, rfl⟩ (Own.of (by assumption) (News.sub (by assumption) (by walk_at "mine sub")))
end
-- R5
section
local macro_rules | `(tactic| walk_at "mine stop") => `(tactic| with_reducible show wpAny _ _ (exec (Stmt.FunctionDef _ _ _ _ _ _ _ _ _ _) _) _ _ _)
local macro_rules | `(tactic| walk_at "mine stop") => `(tactic| with_reducible show wpAny _ _ (binaryOp .Mult (Value.ref _) _) _ _ _)
theorem i2d_t {w : World} {p : Program} {loose : List Str} {mean : ExcName → Option Value} {mg mb : Str → Option Value} {a n : Nat} {t1 t2 : Tok} {ps : Array Value} {c : Addr} {oc : Obj}
    (hn : 1 ≤ n) (hn2 : n ≤ 64) (ha : a < 2 ^ 60) (htl : TabIs 32 4 ql35 ps c oc) (hc : c ≠ 30) :
    Tell PySem.Challenge.rw_pg0218_01.row.prog w (hd.heap_39 w.params) p loose mean mg mb (fun g => CodeHd g 34 30) 70 250 (.ref 35) [.int a t1, .int n t2] [(30, tabObj ps), (c, oc)]
      (fun v news => ∃ (dl : Addr) (ds : List Value) (e : Nat) (ps' : Array Value) (c' : Addr) (oc' : Obj), v = .ref dl ∧ IntsAre ds (digs n a (figs a n)) ∧ TabIs 32 4 ql35 ps' c' oc' ∧ dl ≠ 30 ∧ dl ≠ c' ∧ c' ≠ 30 ∧ news = [(dl, listOf ds.toArray e), (30, tabObj ps'), (c', oc')]) := by
  k_fill
  refine Tell.enterC (binds := [("a", .int a t1), ("n", .int n t2)]) (by k_is) (by k_is) (fun s => BindsTo.of_eq rfl) rfl (by decide +kernel) rfl rfl rfl ?_
  intro A base g outer s L cells Q B hH X T hG F N Y hlt hd hu hret
  k_cells Y
  rename_i oI oA oN dI dA dN
  replace dN : oN.data = .cell (some (.int n t2)) := dN
  simp only [List.cons_append, List.nil_append] at N
  have hfg : figs a n ≤ 60 := figs_le hn ha
  k_lt hlt
  replace hc := neN hc
  k_steps
  rename _ ∧ _ => l0
  have w1 : Hid (@Ne Nat _ (L + 1 + 1 + 1)) := Nat.ne_of_gt l0.1
  have w2 : Hid (@Ne Nat _ (L + 1 + 1)) := Nat.ne_of_gt l0.2.1
  have w3 : Hid (@Ne Nat _ (L + 1)) := Nat.ne_of_gt l0.2.2.1
  have w4 : Hid (@Ne Nat _ 30) := Nat.ne_of_gt l0.2.2.2.1
  have w5 : Hid (@Ne Nat _ c) := Nat.ne_of_gt l0.2.2.2.2
  rw [figs_eq a n hn]
  refine rep_g (by assumption) (by assumption) (by k_mem) (by omega) ?_
  intro D h' F' N' l1
  k_lt l1
  have v0 : Hid (@Ne Nat D _) := Nat.ne_of_gt l1.1
  have v1 : Hid (@Ne Nat D (L + 1 + 1 + 1)) := Nat.ne_of_gt l1.2.1
  have v2 : Hid (@Ne Nat D (L + 1 + 1)) := Nat.ne_of_gt l1.2.2.1
  have v3 : Hid (@Ne Nat D (L + 1)) := Nat.ne_of_gt l1.2.2.2.1
  have v4 : Hid (@Ne Nat D 30) := Nat.ne_of_gt l1.2.2.2.2.1
  have v5 : Hid (@Ne Nat D c) := Nat.ne_of_gt l1.2.2.2.2.2
  generalize hz : List.replicate (figs a n) (Value.int 0 s.toks) = zs at N'
  have hI0 : IntsAre zs (List.replicate (figs a n) 0) := hz ▸ ints_replicate _ _
  have hzl : zs.length = figs a n := by rw [← hz, List.length_replicate]
  clear hz
  k_steps
  rename _ = Data.cell (some (Value.ref D)) => dA2
  rename News _ _ _ _ => N1
  k_dflt (refine' nestDef_K ?d0 ?k0 ?a0 ?_; (case d0 => exact rfl); (case k0 => exact rfl); (case a0 => exact rfl))
  k_dflt (refine' nest_tab (pre := [_, _, _, _, _]) (P := 30) (ps := ps) (c0 := c) (oc0 := oc) ?F N1 ?T ?C ?cd ?tb ?hP ?hc ?hPc ?cl ?_; (case F => k_asm); (case T => k_asm); (case cd => exact rfl); (case C => exact hG); (case tb => exact htl); (case hP => k_all); (case hc => k_all); (case hPc => exact hc); (case cl => exact rfl))
  intro f2 c2 oc2 vs2 t2' ct2 dc2 ps2 h2 tk2 F2 N2 hd2 hv2 htab2 hne2 hc2P hlt2
  simp only [List.cons_append, List.nil_append] at N2 hlt2
  k_lt hlt2
  have u0 : Hid (@Ne Nat f2 D) := Nat.ne_of_gt hlt2.1
  have u1 : Hid (@Ne Nat f2 (L + 1 + 1 + 1)) := Nat.ne_of_gt hlt2.2.2.1
  have u2 : Hid (@Ne Nat f2 (L + 1 + 1)) := Nat.ne_of_gt hlt2.2.2.2.1
  have u3 : Hid (@Ne Nat f2 (L + 1)) := Nat.ne_of_gt hlt2.2.2.2.2.1
  have u4 : Hid (@Ne Nat f2 30) := Nat.ne_of_gt hlt2.2.2.2.2.2.1
  replace hne2 : AllNe c2 _ := allNe_of hne2
  simp only [AllNe, and_true] at hne2
  replace hc2P := neN hc2P
  k_steps
  · rename (a : Int) ≠ 0 => ha0
    rename _ = Data.cell (some (Value.ref f2)) => dI2
    have hfp : 1 ≤ figs a n := figs_pos (by omega) hn
    have hx := figs_fit (a := a) hn
    rw [hzl]
    refine' Tell.use (rest := [(f2, _), (L + 1, _), (L + 1 + 1, _), (L + 1 + 1 + 1, _), (30, tabObj ps2), (c2, oc2)]) (inner_t (ca := L + 1 + 1) (cn := L + 1) (ci := L + 1 + 1 + 1) (dl := D) (fi := f2) (tn := t2) (ql := ql35) (cdv := .ref c2) ?hin ?h1 ?h2 ?h3 hn hn2 (figs a n) a 0 (figs a n) zs (List.replicate (figs a n) 0) 0 _ _ _ (by omega) (by omega) (by rw [List.length_replicate]; omega) (by rw [List.length_replicate]; omega) (by exact hx) (by omega) hI0) ?cB1 ?cH1 ?cF1 ?cN1 ?cX1 ?cT1 ?cA1 ?cf1 ?ck1 ?cs1 ?cr1 ?ca1 ?cP1 ?cd1 ?cu1 ?cret1
    case cB1 => exact B
    case cH1 => first | exact hH | assumption
    case cF1 => assumption
    case cN1 => assumption
    case cX1 => exact X
    case cT1 => first | exact T | assumption
    case cA1 => exact Around.frames_deeper B.stack
    case cf1 => exact rfl
    case ck1 => exact rfl
    case cs1 => walk_at "mine sub"
    case cr1 => walk_at "mine sub"
    case ca1 => walk_at "mine apart"
    case cP1 => exact fun g' st hr => ⟨⟨_, hr _ (.head _), rfl⟩, ⟨c2, oc2, vs2, t2', rfl, hr _ (.tail _ (.tail _ (.tail _ (.tail _ (.tail _ (.head _)))))), hd2, hv2⟩, ⟨_, hr _ (.tail _ (.head _)), dN⟩, ⟨_, hr _ (.tail _ (.tail _ (.head _))), dA2⟩, ⟨_, hr _ (.tail _ (.tail _ (.tail _ (.head _)))), dI2⟩⟩
    case cd1 => walk_at "mine room"
    case cu1 => walk_at "mine room"
    case hin =>
      have hk := lk (K := Mine.hd.heap_39 w.params) (a := 35) (by k_is)
      rw [innerIn, hk]
    case h1 => rfl
    case h2 => rfl
    case h3 => rfl
    rintro _ _ h' tk' ⟨rfl, vs', hI', rfl⟩ F' N' hap
    simp only [List.cons_append, List.nil_append] at N'
    k_steps
    refine hret _ _ _ _ ⟨D, vs', 0, ps2, c2, oc2, rfl, ?_, htab2, v4, hne2.1, hc2P, rfl⟩ (Own.of F' (News.sub N' (by walk_at "mine sub")))
    rw [put_all (by rw [List.length_replicate]; omega), Nat.sub_zero] at hI'
    exact hI'
  · rename (a : Int) = 0 => ha0
    have ha1 : a = 0 := by omega
    subst ha1
    refine hret _ _ _ _ ⟨D, zs, 0, ps2, c2, oc2, rfl, ?_, htab2, v4, hne2.1, hc2P, rfl⟩ (Own.of (by assumption) (News.sub (by assumption) (by walk_at "mine sub")))
    rw [figs_zero n hn] at hI0 ⊢
    exact hI0
end
-- R7
section
local macro_rules | `(tactic| walk_at "mine stop") => `(tactic| with_reducible show wpAny _ _ (PySem.call (Value.builtin "divmod") _ _) _ _ _)
theorem div_t {w : World} {p : Program} {loose : List Str} {mean : ExcName → Option Value} {mg mb : Str → Option Value} {PG : Heap → Prop} {a b n : Nat} {t1 t2 t3 : Tok} (ha : a < 2 ^ 200) (hb : 0 < b) (hb2 : b < 2 ^ 30) :
    Tell PySem.Challenge.rw_pg0218_01.row.prog w (hd.heap_39 w.params) p loose mean mg mb PG 1 20 (.ref 21) [.int a t1, .int b t2, .int n t3] []
      (fun v news => ∃ (T : Addr) (u1 u2 : Tok), v = .ref T ∧ news = [(T, { cls := .type "tuple", data := .seq #[.int (a / b : Nat) u1, .int (a % b : Nat) u2] 0 })]) := by
  k_fill
  have hbits : Builtin.Int.intBits (a : Int) ≤ 200 := bitsOf_le ha
  refine Tell.enter (binds := [("a", .int a t1), ("b", .int b t2), ("n", .int n t3)]) (by k_is) (by k_is) (fun s => BindsTo.of_eq rfl) (locs rfl) rfl rfl rfl (by decide) ?_
  intro A base g outer s L Q B hH X T hC F N hlt hd hu hret
  k_steps
  refine divmod_N (by assumption) (by assumption) (by omega) ?_ (.inl (PyProof.noPylong_small (by rw [Int.natAbs_natCast]; omega)))
  intro h' F' N'
  rw [Int.fdiv_eq_ediv_of_nonneg _ (by omega), Int.fmod_eq_emod_of_nonneg _ (by omega)] at N'
  exact hret _ _ _ _ ⟨_, _, _, rfl, rfl⟩ (Own.of F' N')
abbrev pairOf (x y : Int) (u1 u2 : Tok) : Obj := { cls := .type "tuple", data := .seq #[.int x u1, .int y u2] 0 }
local macro_rules | `(tactic| walk_at "binaryOp LShift int int") => `(tactic| ((with_reducible show wpAny _ _ (binaryOp _ (Value.int (Nat.cast _) _) (Value.int (Nat.cast _) _)) _ _ _); refine' shl_nat (by assumption) (by assumption) ?_; intro tk'; (try dsimp only)))
theorem divpos_t {w : World} {p : Program} {loose : List Str} {mean : ExcName → Option Value} {mg mb : Str → Option Value} {a b : Nat} {t1 t2 : Tok} {T : Tabs} (ha : a < 2 ^ 60) (hb : 0 < b) (hb2 : b < 2 ^ 30) (hT : T.Ok) :
    Tell PySem.Challenge.rw_pg0218_01.row.prog w (hd.heap_39 w.params) p loose mean mg mb (fun g => CodeHd g 34 30 ∧ CodeHd g 41 37) 80 280 (.ref 49) [.int a t1, .int b t2] T.led
      (fun v news => ∃ (D : Addr) (u1 u2 : Tok) (T' : Tabs), v = .ref D ∧ T'.Ok ∧ (@Ne Nat D 30 ∧ @Ne Nat D 37 ∧ @Ne Nat D T'.c1 ∧ @Ne Nat D T'.c2) ∧ news = (D, pairOf (a / b : Nat) (a % b : Nat) u1 u2) :: T'.led) := by
  k_fill
  obtain ⟨p1, c1, o1, p2, c2, o2⟩ := T
  obtain ⟨ht1, ht2, hn1, hn2, hn3, hn4, hn5⟩ := hT
  dsimp only [Tabs.led] at ht1 ht2 hn1 hn2 hn3 hn4 hn5 ⊢
  refine Tell.enter (binds := [("a", .int a t1), ("b", .int b t2)]) (by k_is) (by k_is) (fun s => BindsTo.of_eq rfl) (locs rfl) rfl rfl rfl (by decide) ?_
  intro A base g outer s L Q B hH X T hC F N hlt hd hu hret
  k_lt hlt
  k_steps
  generalize hn : Builtin.Int.intBits (b : Int) = n at *
  replace hn : bitsOf b = n := hn
  have hbn : b < 2 ^ n := hn ▸ bitsOf_lt b
  have hn30 : n ≤ 30 := hn ▸ bitsOf_le hb2
  have hn1' : 1 ≤ n := hn ▸ bitsOf_pos (by omega)
  refine' Tell.use (rest := [(37, _), (c2, _)]) (i2d_t (a := a) (n := n) hn1' (by omega) ha ht1 hn1) ?cB1 ?cH1 ?cF1 ?cN1 ?cX1 ?cT1 ?cA1 ?cf1 ?ck1 ?cs1 ?cr1 ?ca1 ?cP1 ?cd1 ?cu1 ?cret1
  case cB1 => exact B
  case cH1 => first | exact hH | assumption
  case cF1 => assumption
  case cN1 => assumption
  case cX1 => exact X
  case cT1 => first | exact T | assumption
  case cA1 => exact Around.frames_deeper B.stack
  case cf1 => exact rfl
  case ck1 => exact rfl
  case cs1 => walk_at "mine sub"
  case cr1 => walk_at "mine sub"
  case ca1 => walk_at "mine apart"
  case cP1 => exact fun g' st _ => CodeHd.keeps hC.1 (fun b o e => st b o e)
  case cd1 => walk_at "mine room"
  case cu1 => walk_at "mine room"
  rintro _ _ h' tk' ⟨dl, ds, e, q1, d1, q, rfl, hI, htab, hdl30, hdl, hd30, rfl⟩ F' N' hap
  simp only [List.cons_append, List.nil_append] at N'
  replace hap := fun q hq => allNe_of' (hap q hq)
  simp only [List.forall_mem_cons, List.forall_mem_nil, and_true, AllNe'] at hap
  k_steps
  rename News _ _ _ _ => N1
  rename Fr _ _ _ _ => F1
  rename _ ∧ _ => l1
  obtain ⟨k, hk⟩ : ∃ k, k = figs a n := ⟨_, rfl⟩
  rw [← hk] at hI
  have hdsl : ds.length = k := by rw [hI.length, digs_length]
  have hka : a < 2 ^ (k * n) := hk ▸ figs_fit hn1'
  have hk60 : k ≤ 60 := hk ▸ figs_le hn1' ha
  have hkn : k * n ≤ 200 := by
    have h1 : bitsOf a ≤ 60 := bitsOf_le ha
    have h2 : k * n ≤ bitsOf a + n - 1 := by rw [hk]; exact Nat.div_mul_le_self _ _
    omega
  rename_i tn _ _ _ _ tr _ lq _ _ _ D' _
  refine iter_rev_by (l := dl) (vs := ds) (e := e) (σ := Nat × List Int × List Value × Nat × Tok) (fun c => [("b", .int b t2), ("n", .int n tn), ("r", .int c.1 c.2.2.2.2), ("q_digits", .ref lq)]) (fun c => [(lq, listOf c.2.2.1.toArray c.2.2.2.1), (30, tabObj q1), (d1, q), (37, tabObj p2), (c2, o2)])
    (fun i c => c.1 = a / 2 ^ ((k - i) * n) % b ∧ IntsAre c.2.2.1 c.2.1 ∧ Figs n c.2.1 ∧ c.2.1.length = i ∧ valI n c.2.1.reverse = ((a / 2 ^ ((k - i) * n) / b : Nat) : Int)) (0, [], [], 0, tr) hH F1 N1 ?lt ?mem ?sub ?vars ?inv ?turn ?done
  case lt => exact ltOf (by simp only [AllLt, and_true]; exact l1)
  case mem => k_mem
  case sub => walk_at "mine sub"
  case vars => walk_at "mine vars"
  case inv =>
    rw [Nat.sub_zero, Nat.div_eq_of_lt hka]
    exact ⟨by simp, .nil, (fun _ h => nomatch h : Figs n []), rfl, by simp [valI]⟩
  case turn =>
    clear F1 N1
    rintro i ⟨r, qs, qv, qe, tr'⟩ v it u h tk hv ⟨i1, i2, i3, i4, i5⟩ hne F N
    dsimp only at i1 i2 i3 i4 i5 hne F N
    replace hne := allNe_of hne
    simp only [AllNe, and_true] at hne
    have hik : i < k := by
      have := (List.getElem?_eq_some_iff.mp hv).1
      rw [List.length_reverse] at this; omega
    obtain ⟨d, td, rfl, hd2⟩ := ints_get (ints_reverse hI) hv
    rw [List.getElem?_reverse (by rw [digs_length]; exact hik), digs_length, digs_get n k a _ (by omega)] at hd2
    replace hd2 := Option.some.inj hd2
    obtain ⟨s1, s2, s3⟩ := long_step (a := a) hb hbn (k - 1 - i)
    rw [show k - 1 - i + 1 = k - i by omega, ← i1] at s1 s2 s3
    generalize hdd : a / 2 ^ ((k - 1 - i) * n) % 2 ^ n = dd at *
    subst hd2
    have hddlt : dd < 2 ^ n := hdd ▸ Nat.mod_lt _ (Nat.two_pow_pos _)
    have hrb : r < b := i1 ▸ Nat.mod_lt _ hb
    have hr64 : r < 2 ^ 64 := by omega
    have hn6 : n ≤ 1000000 := by omega
    replace F : Fr g L h _ := F
    replace N : News g L h _ := N
    k_steps
    rw [← Int.natCast_add]
    have h200 : r * 2 ^ n + dd < 2 ^ 200 := by
      have e1 : 2 ^ n ≤ 2 ^ 30 := Nat.pow_le_pow_right (by decide) hn30
      have e2 : r * 2 ^ n ≤ 2 ^ 30 * 2 ^ 30 := Nat.mul_le_mul (by omega) e1
      have e3 : (2 : Nat) ^ 30 * 2 ^ 30 + 2 ^ 30 < 2 ^ 200 := by decide
      omega
    refine' Tell.use (rest := [(D', _), (dl, _), (lq, _), (30, _), (d1, _), (37, _), (c2, _)]) (div_t (a := r * 2 ^ n + dd) (b := b) (n := n) h200 hb hb2) ?cB2 ?cH2 ?cF2 ?cN2 ?cX2 ?cT2 ?cA2 ?cf2 ?ck2 ?cs2 ?cr2 ?ca2 ?cP2 ?cd2 ?cu2 ?cret2
    case cB2 => exact B
    case cH2 => first | exact hH | assumption
    case cF2 => assumption
    case cN2 => assumption
    case cX2 => exact X
    case cT2 => first | exact T | assumption
    case cA2 => exact Around.frames_deeper B.stack
    case cf2 => exact rfl
    case ck2 => exact rfl
    case cs2 => walk_at "mine sub"
    case cr2 => walk_at "mine sub"
    case ca2 => walk_at "mine apart"
    case cP2 => exact fun g' st _ => trivial
    case cd2 => walk_at "mine room"
    case cu2 => walk_at "mine room"
    rintro _ _ h' tk' ⟨TT, u1, u2, rfl, rfl⟩ F' N' hap2
    simp only [List.cons_append, List.nil_append] at N'
    replace hap2 := allNe_of' (hap2 _ (.head _))
    simp only [AllNe', and_true] at hap2
    have hqv : qv.length ≤ 1000000 := by have := i2.length; omega
    k_steps
    try dsimp only
    refine FPost.next ((r * 2 ^ n + dd) % b, qs ++ [(((r * 2 ^ n + dd) / b : Nat) : Int)], qv ++ [_], qe + 1, _) (by assumption) (by assumption) (by walk_at "mine sub") (by walk_at "mine sub") ?_ (by walk_at "mine vars") ⟨?_, ?_, ?_, ?_, ?_⟩
    · exact fun q hq => ne_of_all (by simp only [AllNe]; exact ⟨hne.2.1, hne.2.2.1, hne.2.2.2.1, hne.2.2.2.2.1, hne.2.2.2.2.2, trivial⟩) q hq
    · dsimp only
      rw [show k - (i + 1) = k - 1 - i by omega]; exact s2.symm
    · exact ints_append i2 (.cons _ _ .nil)
    · intro x hx
      rcases List.mem_append.mp hx with h | h
      · exact i3 x h
      · rw [List.mem_singleton.mp h]; exact ⟨Int.natCast_nonneg _, by exact_mod_cast s1⟩
    · simp [i4]
    · dsimp only
      rw [List.reverse_append, List.reverse_singleton, List.singleton_append, valI, i5, show k - (i + 1) = k - 1 - i by omega, s3]
      push_cast
      rw [Int.mul_comm (2 ^ n), Int.add_comm]
  case done =>
    clear F1 N1
    rintro ⟨r, qs, qv, qe, tr'⟩ u h tk ⟨i1, i2, i3, i4, i5⟩ F N
    dsimp only at i1 i2 i3 i4 i5 F N
    replace F : Fr g L h _ := F
    replace N : News g L h _ := N
    rw [hdsl] at i1 i4 i5
    rw [Nat.sub_self, Nat.zero_mul, Nat.pow_zero, Nat.div_one] at i1 i5
    have hqv : qv.length ≤ 1000000 := by have := i2.length; omega
    k_steps
    have hqi := ints_reverse i2
    have hql : qs.reverse.length = k := by rw [List.length_reverse, i4]
    have hapl : lq ≠ 30 ∧ lq ≠ d1 ∧ lq ≠ 37 ∧ lq ≠ c2 := by
      rename dl < lq ∧ _ => l0
      obtain ⟨l01, l02, l03, l04, l05⟩ := l0
      exact ⟨neN (by omega), neN (by omega), neN (by omega), neN (by omega)⟩
    refine' Tell.use (rest := [(lq, _), (30, _), (d1, _)]) (d2i_t (dl := lq) (n := n) (by omega) hqi (fun x hx => i3 x (List.mem_reverse.mp hx)) (by omega) (by rw [hql]; exact hkn) ht2 hn5) ?cB3 ?cH3 ?cF3 ?cN3 ?cX3 ?cT3 ?cA3 ?cf3 ?ck3 ?cs3 ?cr3 ?ca3 ?cP3 ?cd3 ?cu3 ?cret3
    case cB3 => exact B
    case cH3 => first | exact hH | assumption
    case cF3 => assumption
    case cN3 => assumption
    case cX3 => exact X
    case cT3 => first | exact T | assumption
    case cA3 => exact Around.frames_deeper B.stack
    case cf3 => exact rfl
    case ck3 => exact rfl
    case cs3 => walk_at "mine sub"
    case cr3 => walk_at "mine sub"
    case ca3 => walk_at "mine apart"
    case cP3 => exact fun g' st hr => ⟨CodeHd.keeps hC.2 (fun b o e => st b o e), hr _ (.head _)⟩
    case cd3 => walk_at "mine room"
    case cu3 => walk_at "mine room"
    rintro _ _ h' tk' ⟨t', q2, d2, qq2, rfl, htab2, hd37, rfl⟩ F' N' hap2
    simp only [List.cons_append, List.nil_append] at N'
    replace hap2 := fun q hq => allNe_of' (hap2 q hq)
    simp only [List.forall_mem_cons, and_true, AllNe'] at hap2
    rw [i5]
    subst i1
    k_steps
    rename 37 < _ ∧ _ => lz
    obtain ⟨lz1, lz2, lz3, lz4, lz5⟩ := lz
    exact hret _ _ _ _ ⟨_, _, _, ⟨q1, d1, q, q2, d2, qq2⟩, rfl, ⟨htab, htab2, hd30, hap.2.2.1.1, fun h => hap2.2.1.2.2 h.symm, hap2.2.1.2.1, hd37⟩, ⟨by omega, by omega, by dsimp only; omega, by dsimp only; omega⟩, rfl⟩ (Own.of (by assumption) (News.sub (by assumption) (by walk_at "mine sub")))
theorem intdiv_t {w : World} {p : Program} {loose : List Str} {mean : ExcName → Option Value} {mg mb : Str → Option Value} {a b : Nat} {t1 t2 : Tok} {T : Tabs} (ha : a < 2 ^ 60) (hb : 0 < b) (hb2 : b < 2 ^ 30) (hT : T.Ok) :
    Tell PySem.Challenge.rw_pg0218_01.row.prog w (hd.heap_39 w.params) p loose mean mg mb (fun g => CodeHd g 34 30 ∧ CodeHd g 41 37) 90 300 (.ref 56) [.int a t1, .int b t2] T.led
      (fun v news => ∃ (D : Addr) (u1 u2 : Tok) (T' : Tabs), v = .ref D ∧ T'.Ok ∧ (@Ne Nat D 30 ∧ @Ne Nat D 37 ∧ @Ne Nat D T'.c1 ∧ @Ne Nat D T'.c2) ∧ news = (D, pairOf (a / b : Nat) (a % b : Nat) u1 u2) :: T'.led) := by
  k_fill
  refine Tell.enter (binds := [("a", .int a t1), ("b", .int b t2)]) (by k_is) (by k_is) (fun s => BindsTo.of_eq rfl) (locs rfl) rfl rfl rfl (by decide) ?_
  intro A base g outer s L Q B hH X T9 hC F N hlt hd hu hret
  obtain ⟨p1, c1, o1, p2, c2, o2⟩ := T
  dsimp only [Tabs.led] at N hlt ⊢
  k_steps
  · have T := T9
    refine' Tell.use (rest := []) (divpos_t (T := ⟨p1, c1, o1, p2, c2, o2⟩) ha hb hb2 hT) ?cB4 ?cH4 ?cF4 ?cN4 ?cX4 ?cT4 ?cA4 ?cf4 ?ck4 ?cs4 ?cr4 ?ca4 ?cP4 ?cd4 ?cu4 ?cret4
    case cB4 => exact B
    case cH4 => first | exact hH | assumption
    case cF4 => assumption
    case cN4 => assumption
    case cX4 => exact X
    case cT4 => first | exact T | assumption
    case cA4 => exact Around.frames_deeper B.stack
    case cf4 => exact rfl
    case ck4 => exact rfl
    case cs4 => walk_at "mine sub"
    case cr4 => walk_at "mine sub"
    case ca4 => walk_at "mine apart"
    case cP4 => exact fun g' st _ => ⟨CodeHd.keeps hC.1 (fun b o e => st b o e), CodeHd.keeps hC.2 (fun b o e => st b o e)⟩
    case cd4 => walk_at "mine room"
    case cu4 => walk_at "mine room"
    rintro _ _ h' tk' ⟨D, u1, u2, T', rfl, hT', hD, rfl⟩ F' N' -
    simp only [List.append_nil] at N'
    exact hret _ _ _ _ ⟨D, u1, u2, T', rfl, hT', hD, rfl⟩ (Own.of F' N')
end
-- R8
section
local macro_rules | `(tactic| walk_at "mine stop") => `(tactic| with_reducible show wpAny _ _ (PySem.call (Value.builtin "str.split") _ _) _ _ _)
local macro_rules | `(tactic| walk_at "mine stop") => `(tactic| with_reducible show wpAny _ _ (compareOp .NotIn (Value.str _ _) (Value.str _ _)) _ _ _)
local macro_rules | `(tactic| walk_at "mine stop") => `(tactic| with_reducible show wpAny _ _ (subscriptTail _ _ (Value.ref _) _) _ _ _)
local macro_rules | `(tactic| walk_at "mine stop") => `(tactic| with_reducible show wpAny _ _ (PySem.call (Value.builtin "str.find") _ _) _ _ _)
local macro_rules | `(tactic| walk_at "mine stop") => `(tactic| with_reducible show wpAny _ _ (PySem.call (Value.builtin "len") [Value.str _ _] _) _ _ _)

theorem elm_t {w : World} {p : Program} {loose : List Str} {mean : ExcName → Option Value} {mg mb : Str → Option Value} {PG : Heap → Prop} {W : PySem.Str} {cs gs : List Nat} {t1 t2 : Tok}
    (hsp : Txt.split W dots = PySem.Str.empty :: (cs.map one ++ [PySem.Str.empty])) (hin : (PySem.Builtin.Str.occurrences W dots 0 W.length 1).isEmpty = false) (hW : W.length ≤ 10000) (hgs : gs.length ≤ 10000) (hcs : cs.length ≤ 10000) :
    Tell PySem.Challenge.rw_pg0218_01.row.prog w (hd.heap_39 w.params) p loose mean mg mb PG 1 20 (.ref 63) [.str W t1, .str (strOf gs) t2] []
      (fun v news => v = .bool (subL cs gs) ∧ news = []) := by
  k_fill
  refine Tell.enter (binds := [("want", .str W t1), ("got", .str (strOf gs) t2)]) (by k_is) (by k_is) (fun s => BindsTo.of_eq rfl) (locs rfl) rfl rfl rfl (by decide) ?_
  intro A base g outer s L Q B hH X T hC F N hlt hd hu hret
  k_steps
  refine notIn_str ?_
  rw [hin]
  k_steps
  refine KSpl.split1 (by assumption) (by assumption) (by decide) ?_ (by rw [sizeLine_eq]; omega)
  intro D sl h' k' e1 a1 F' N' l1
  rw [e1, hsp] at a1
  generalize strValues sl = vs at a1 N'
  obtain ⟨t0, vr, rfl, ar⟩ := strs_cons a1
  obtain ⟨tz, vm, rfl, am⟩ := strs_snoc ar
  have hvm : vm.length = cs.length := by rw [am.length, List.length_map]
  have hvl : (Value.str PySem.Str.empty t0 :: (vm ++ [Value.str PySem.Str.empty tz])).length = cs.length + 2 := by simp [hvm]
  k_steps
  have hgl : (strOf gs).length = gs.length := strOf_length gs
  refine len_str (by rw [hgl]; omega) ?_
  k_steps
  refine item_g (by assumption) (show (D, listOf (Value.str PySem.Str.empty t0 :: (vm ++ [Value.str PySem.Str.empty tz])).toArray 0) ∈ _ by k_mem) (by omega) (by omega) (by omega) ?_
  intro x hx
  have hxe := Option.some.inj (show some (Value.str PySem.Str.empty t0) = some x from hx)
  subst hxe
  k_steps
  clear hx
  rename News _ _ _ _ => N1
  refine item_last (vi := Value.str PySem.Str.empty t0 :: vm) (v := Value.str PySem.Str.empty tz) (PySem.IsL.isList (n := 0) (N1 (D, listOf (Value.str PySem.Str.empty t0 :: (vm ++ [Value.str PySem.Str.empty tz])).toArray 0) (by k_mem)).1) ?_
  k_steps
  rename Fr _ _ _ _ => F2
  rename News _ _ _ _ => N2
  rename_i te _ _ ts _ _ tw _ _ _ _ _ _
  refine iter_by (l := D) (vs := Value.str PySem.Str.empty t0 :: (vm ++ [Value.str PySem.Str.empty tz])) (e := 0) (σ := Nat × Tok) (fun c => [("got", .str (strOf gs) t2), ("startpos", .int c.1 c.2), ("endpos", .int (strOf gs).length te)]) (fun c => [])
    (fun i c => c.1 ≤ gs.length ∧ subL (codesOf ((PySem.Str.empty :: (cs.map one ++ [PySem.Str.empty])).drop i)) (gs.drop c.1) = subL cs gs) (0, ts) hH F2 N2 ?mem ?sub ?vars ?inv ?turn ?done
  case mem => k_mem
  case sub => exact fun _ h => nomatch h
  case vars => walk_at "mine vars"
  case inv => exact ⟨Nat.zero_le _, by rw [List.drop_zero, List.drop_zero, codesOf_pieces]⟩
  case turn =>
    clear F2 N2
    rintro I i ⟨st, tst⟩ v it u h tk - hv ⟨i1, i2⟩ hne F N
    dsimp only at i1 i2 F N
    replace hne := allNe_of hne
    simp only [AllNe, and_true] at hne
    obtain ⟨p, tp, rfl, hp⟩ := strs_get a1 hv
    rw [codesOf_drop hp] at i2
    replace F : Fr g L h _ := F
    replace N : News g L h _ := N
    k_steps
    refine call_find4 (i := st) ?_
    intro tf tkf
    rcases piece_kind (List.mem_of_getElem? hp) with rfl | ⟨c, rfl⟩
    · rw [find4_empty gs st i1]
      k_steps
      have hl0 : PySem.Str.empty.length = 0 := rfl
      refine len_str (by rw [hl0]; decide) ?_
      k_steps
      refine FPost.next (st, _) (by assumption) (by assumption) (by walk_at "mine sub") (fun _ h => nomatch h) (fun _ h => nomatch h) (by walk_at "mine vars") ⟨i1, ?_⟩
      exact i2
    · rcases find4_one gs c st with ⟨e, hno⟩ | ⟨k, e, hk1, hk2, hk3⟩
      · rw [e]
        k_steps
        refine FPost.ret ?_
        refine hret _ _ _ _ ⟨?_, rfl⟩ (Own.of (by assumption) (News.sub (by assumption) (fun _ h => nomatch h)))
        rw [← i2]
        show Value.bool false = Value.bool (subL (c :: _) _)
        rw [subL_none (fun j => by rw [List.getElem?_drop]; exact hno _ (by omega))]
      · rw [e]
        have hkl := (List.getElem?_eq_some_iff.mp hk2).1
        k_steps
        have hl1 : (one c).length = 1 := rfl
        refine len_str (by rw [hl1]; decide) ?_
        k_steps
        refine FPost.next (k + 1, _) (by assumption) (by assumption) (by walk_at "mine sub") (fun _ h => nomatch h) (fun _ h => nomatch h) (by walk_at "mine vars") ⟨by dsimp only; omega, ?_⟩
        rw [← i2]
        show _ = subL (c :: _) _
        rw [subL_some (k := k - st) (by rw [List.getElem?_drop, show st + (k - st) = k by omega]; exact hk2) (fun j hj => by rw [List.getElem?_drop]; exact hk3 _ (by omega) (by omega)), List.drop_drop, show st + (k - st + 1) = k + 1 by omega]
        rfl
  case done =>
    clear F2 N2
    rintro ⟨st, tst⟩ u h tk ⟨i1, i2⟩ F N
    replace F : Fr g L h _ := F
    replace N : News g L h _ := N
    k_steps
    refine hret _ _ _ _ ⟨?_, rfl⟩ (Own.of (by assumption) (News.sub (by assumption) (fun _ h => nomatch h)))
    rw [← i2, List.drop_of_length_le (by simp [hvm])]
    have e : ∀ l, subL [] l = true := fun l => by cases l <;> rfl
    show Value.bool true = Value.bool (subL [] _)
    rw [e]
end
-- R9
section
local macro_rules | `(tactic| walk_at "call type:str") => `(tactic| (k_here; k_dflt (refine' str_dig (by first | assumption | omega) ?_; k_whole); intro t' tk'))
local macro_rules | `(tactic| walk_at "mine stop") => `(tactic| with_reducible show wpAny _ _ (eval (Expr.ListComp _ _ _ _) _) _ _ _)
local macro_rules | `(tactic| walk_at "mine stop") => `(tactic| with_reducible show RangeSrc _ _ _ _ _ _ _ _ _ _ _ _ _ _)
theorem found_t {w : World} {p : Program} {loose : List Str} {mean : ExcName → Option Value} {mg mb : Str → Option Value} {rl dl : Addr} {a b c : Int} {tr ur vr : Tok} {dv : List Value} {de : Nat} {cs gs : List Nat}
    (hsm : Builtin.Range.small a b c = true) (hn : Builtin.Range.rangeSize a b c = ((cs.length : Nat) : Int)) (hcs : ∀ (i : Nat) (x : Nat), cs[i]? = some x → a + (i : Int) * c = (x : Nat)) (hc9 : ∀ x ∈ cs, x < 10) (hcl : cs.length ≤ 9)
    (hI : IntsAre dv (gs.map fun (x : Nat) => (x : Int))) (hg9 : ∀ x ∈ gs, x < 10) (hgl : gs.length ≤ 9) :
    Tell PySem.Challenge.rw_pg0218_01.row.prog w (Mine.hd.heap_39 w.params) p loose mean mg mb (fun g => g.get? rl = some (rangeObj a b c tr ur vr) ∧ g.get? dl = some (listOf dv.toArray de)) 10 60 (.ref 101) [.ref rl, .ref dl] []
      (fun v news => v = .bool (subL cs gs) ∧ news = []) := by
  k_fill
  refine Tell.enter (binds := [("cards", .ref rl), ("deck", .ref dl)]) (by k_is) (by k_is) (fun s => BindsTo.of_eq rfl) (locs rfl) rfl rfl rfl (by decide) ?_
  intro A base g outer s L Q B hH X T hG F N hlt hd hu hret
  k_steps
  rename Fr _ _ _ _ => F1
  rename News _ _ _ _ => N1
  refine ListComp_R hH F1 (by with_unfolding_all rfl) (by decide) (by rfl) (by decide) (by rfl) ?_
  k_steps
  refine ⟨rl, a, b, c, tr, ur, vr, cs.length, _, rfl, by k_asm, by k_asm, F1.keep _ _ hG.1, hsm, hn, by rw [sizeLine_eq]; omega, ?_⟩
  intro g'
  refine comp_rest (fun i ys => StrsAre ys ((cs.take i).map fun x => one (48 + x))) .nil ?tu ?fi
  case tu =>
    rintro i v I oI C oC D m₂ ys h tk E' hi ⟨_, t0, rfl⟩ hinv hC2 hx F N off
    obtain ⟨x, hx9⟩ : ∃ x, cs[i]? = some x := ⟨_, List.getElem?_eq_getElem hi⟩
    rw [hcs i x hx9] at hx
    have hx10 := hc9 x (List.mem_of_getElem? hx9)
    k_steps
    refine LCg.CompEnd.intro (by k_asm) (by k_asm) _ (fun _ hp => hp) (by with_reducible assumption) trivial ⟨rfl, ?_⟩
    rw [List.take_add_one, hx9, List.map_append]
    exact strs_append hinv (.cons _ _ .nil)
  case fi =>
    intro ys hinv
    rw [List.take_length] at hinv
    have hyl : ys.length = cs.length := by rw [hinv.length, List.length_map]
    rw [signs_map] at hinv
    have hsl : (signs cs).length = cs.length := by unfold signs; rw [List.length_map]
    k_steps
    refine' join_g (xs := [PySem.Str.ofString ""] ++ (signs cs).map one ++ [PySem.Str.ofString ""]) ?jN ?jm ?js ?j1 ?jx ?jn ?_
    case jN => k_asm
    case jm => k_mem
    case js => exact strs_append (strs_append (.cons _ _ .nil) hinv) (.cons _ _ .nil)
    case j1 => exact want_short1 _
    case jx => decide
    case jn => simp only [List.length_append, List.length_map, List.length_cons, List.length_nil]; omega
    intro tw tkw
    rw [want_eq1]
    k_steps
    rename Fr _ _ _ _ => F2
    rename News _ _ _ _ => N2
    replace N2 := News.sub N2 (show ∀ q ∈ ([] : List (Addr × Obj)), q ∈ _ from fun _ h => nomatch h)
    refine LCg.ListComp_U F2 (by with_unfolding_all rfl) (by decide) (by rfl) (by decide) (by rfl) ?_
    k_steps
    refine LCg.CompSrc.base hH (by k_asm) N2 (show g.IsList dl dv.toArray from ⟨_, hG.2, rfl, _, rfl⟩) (by rw [sizeLine_eq, List.size_toArray, hI.length, List.length_map]; omega) ?_
    intro g'
    refine comp_rest (fun i zs => StrsAre zs ((gs.take i).map fun x => one (48 + x))) .nil ?tu2 ?fi2
    case tu2 =>
      rintro i v I oI C oC D m₂ zs h tk E' hi hv hinv2 hC2 hx F N off
      obtain ⟨x', tt, rfl, hx9⟩ := IntsAre.at hI i v (by simpa using hv)
      rw [List.getElem?_map] at hx9
      obtain ⟨x, hx8, rfl⟩ := Option.map_eq_some_iff.mp hx9
      have hx10 := hg9 x (List.mem_of_getElem? hx8)
      k_steps
      refine LCg.CompEnd.intro (by k_asm) (by k_asm) _ (fun _ hp => hp) (by with_reducible assumption) (.inl ⟨_, hG.2, rfl, _, rfl⟩) ⟨rfl, ?_⟩
      rw [List.take_add_one, hx8, List.map_append]
      exact strs_append hinv2 (.cons _ _ .nil)
    case fi2 =>
      intro zs hinv2
      rw [List.take_of_length_le (by rw [List.size_toArray, hI.length, List.length_map]; exact Nat.le_refl _), signs_map] at hinv2
      have hgsl : (signs gs).length = gs.length := by unfold signs; rw [List.length_map]
      k_steps
      refine' join_g ?kN ?km hinv2 ?k1 ?kx ?kn ?_
      case kN => k_asm
      case km => k_mem
      case k1 =>
        intro a ha
        obtain ⟨c, _, rfl⟩ := List.mem_map.mp ha
        exact show (1 : Nat) ≤ 8 by decide
      case kx => decide
      case kn => rw [List.length_map]; omega
      intro tw2 tkw2
      rw [join_str]
      k_steps
      refine' Tell.use (rest := []) (elm_t (PG := fun _ => True) (W := wantOf (signs cs)) (cs := signs cs) (gs := signs gs) ?esp (want_found _) ?eW ?eg ?ec) ?cB1 ?cH1 ?cF1 ?cN1 ?cX1 ?cT1 ?cA1 ?cf1 ?ck1 ?cs1 ?cr1 ?ca1 ?cP1 ?cd1 ?cu1 ?cret1
      case cB1 => exact B
      case cH1 => first | exact hH | assumption
      case cF1 => assumption
      case cN1 => assumption
      case cX1 => exact X
      case cT1 => first | exact T | assumption
      case cA1 => exact Around.frames_deeper B.stack
      case cf1 => exact rfl
      case ck1 => exact rfl
      case cs1 => walk_at "mine sub"
      case cr1 => walk_at "mine sub"
      case ca1 => walk_at "mine apart"
      case cP1 => exact fun _ _ _ => trivial
      case cd1 => walk_at "mine room"
      case cu1 => walk_at "mine room"
      case esp => exact want_split _ (signs_sign _)
      case eW => rw [want_length]; omega
      case eg => omega
      case ec => omega
      rintro _ _ h' tk' ⟨rfl, rfl⟩ F' N' -
      simp only [List.nil_append] at N'
      k_steps
      exact hret _ _ _ _ ⟨by rw [subL_signs], rfl⟩ (Own.of (by assumption) (by assumption))
end
-- R11
section
local macro_rules | `(tactic| walk_at "mine stop") => `(tactic| with_reducible show wpAny _ _ (exec (Stmt.For _ _ _ _ _) _) _ _ _)
local macro_rules | `(tactic| walk_at "call type:range") => `(tactic| (k_here; k_dflt (refine' range2_r (by k_asm) (by k_asm) ?_; k_whole); intro r' h' tk' t1' u1' v1' hR' F' N'))
local macro_rules | `(tactic| walk_at "mine stop") => `(tactic| with_reducible show wpAny _ _ (PySem.call (Value.type "range") [Value.int _ _, Value.int _ _, Value.int _ _]) _ _ _)
theorem rests_t {w : World} {p : Program} {loose : List Str} {mean : ExcName → Option Value} {mg mb : Str → Option Value} {dl : Addr} {dv : List Value} {de : Nat} {gs : List Nat} {T : Tabs}
    (hI : IntsAre dv (gs.map fun (x : Nat) => (x : Int))) (hg9 : ∀ x ∈ gs, x < 10) (hgl : gs.length ≤ 8) (hg2 : 2 ≤ gs.length) (hT : T.Ok) (hoff : LCg.Off1 dl T.led) :
    Tell PySem.Challenge.rw_pg0218_01.row.prog w (Mine.hd.heap_39 w.params) p loose mean mg mb (fun g => CodeHd g 34 30 ∧ CodeHd g 41 37) 110 360 (.ref 106) [.ref dl] ((dl, listOf dv.toArray de) :: T.led)
      (fun v news => ∃ (b : Bool) (T' : Tabs), v = .bool b ∧ (b = true ↔ RestsOk gs) ∧ T'.Ok ∧ LCg.Off1 dl T'.led ∧ news = (dl, listOf dv.toArray de) :: T'.led) := by
  k_fill
  refine Tell.enterC (binds := [("deck", .ref dl)]) (by k_is) (by k_is) (fun s => BindsTo.of_eq rfl) rfl (by decide +kernel) rfl rfl rfl ?_
  intro A base g outer s L cells Q B hH X T9 hG F N Y hlt hd hu hret
  k_cells Y
  have hltT : ∀ q ∈ T.led, q.1 < L := fun q hq => hlt q (.tail _ hq)
  dsimp only [Tabs.led] at N hlt hoff hltT
  k_lt hlt
  have hdL : Hid (@Ne Nat dl (L + 1)) := Nat.ne_of_lt (Nat.lt_succ_of_lt hlt.1)
  have n1 : Hid (@Ne Nat 30 dl) := hoff.1
  have n2 : Hid (@Ne Nat 37 dl) := hoff.2.2.1
  have n3 : Hid (@Ne Nat 30 (L + 1)) := Nat.ne_of_lt (Nat.lt_succ_of_lt hlt.2.1)
  have n4 : Hid (@Ne Nat 37 (L + 1)) := Nat.ne_of_lt (Nat.lt_succ_of_lt hlt.2.2.2.1)
  have m1 : Hid (@Ne Nat dl T.c1) := Ne.symm hoff.2.1
  have m2 : Hid (@Ne Nat dl T.c2) := Ne.symm hoff.2.2.2.1
  have m3 : Hid (@Ne Nat (L + 1) T.c1) := Nat.ne_of_gt (Nat.lt_succ_of_lt hlt.2.2.1)
  have m4 : Hid (@Ne Nat (L + 1) T.c2) := Nat.ne_of_gt (Nat.lt_succ_of_lt hlt.2.2.2.2)
  clear hoff hlt hltT
  have hdl : dv.length = gs.length := by rw [hI.length, List.length_map]
  k_steps
  rename Fr _ _ _ _ => F1
  rename News _ _ _ _ => N1
  simp only [List.cons_append, List.nil_append] at N1
  refine For_turns F1 ?_ (hE := PassesOwn.never)
  k_steps
  rename Fr _ _ _ _ => F2
  rename News _ _ _ _ => N2
  rename IsRange _ _ _ _ _ _ _ _ => hR
  rename Obj => oM
  rename oM.data = _ => dM
  have hsp := span_up gs.length (by omega) hg2
  rw [hdl] at hR
  refine turnsR_by (n := gs.length - 1) (σ := Tabs × Obj) (fun _ => [("deck", .ref dl)]) (fun c => (L + 1, c.2) :: (dl, listOf dv.toArray de) :: (30, tabObj c.1.p1) :: (c.1.c1, c.1.o1) :: (37, tabObj c.1.p2) :: (c.1.c2, c.1.o2) :: [])
    (fun i c => c.1.Ok ∧ LCg.Off1 c.1.c1 [(L + 1, c.2), (dl, listOf dv.toArray de)] ∧ LCg.Off1 c.1.c2 [(L + 1, c.2), (dl, listOf dv.toArray de)] ∧ (∃ x, c.2.data = .cell x) ∧ ∀ m, 2 ≤ m → m < i + 2 → ∀ k, k < gs.length / m → RestsAt gs m k)
    (T, oM) (fun _ _ => rfl) hH hR hsp.1 hsp.2 F2 N2 ?sub ?vars ?inv ?turn ?done
  case sub => walk_at "mine sub"
  case vars => walk_at "mine vars"
  case inv => exact ⟨hT, ⟨m3, m1, trivial⟩, ⟨m4, m2, trivial⟩, ⟨_, dM⟩, fun m h1 h2 => absurd h1 (by omega)⟩
  case turn =>
    clear F1 N1 F2 N2 hR hT dM
    rintro I i ⟨T1, oM1⟩ v it u h tk - hi ⟨tv, rfl⟩ ⟨i1, i2, i3, ⟨x0, i4⟩, i5⟩ hne F N
    dsimp only at i1 i2 i3 i4 i5 hne F N
    replace hne := off1_of hne
    replace F : Fr g L h _ := F
    replace N : News g L h _ := N
    rw [show (2 : Int) + (i : Int) * 1 = ((i + 2 : Nat) : Int) by omega]
    clear m1 m2 m3 m4 T oM
    generalize hm : i + 2 = m at *
    have hm2 : 2 ≤ m := by omega
    have hmn : m ≤ gs.length := by omega
    k_steps
    rename Fr _ _ _ _ => F3
    rename News _ _ _ _ => N3
    rename Obj => oN
    rename oN.data = _ => dN
    have e1 : LCg.Off1 T1.c1 [(I, it), (L + 1, oN), (dl, listOf dv.toArray de)] := ⟨Ne.symm (hne.2.2.2.1), i2.1, i2.2.1, trivial⟩
    have e2 : LCg.Off1 T1.c2 [(I, it), (L + 1, oN), (dl, listOf dv.toArray de)] := ⟨Ne.symm (hne.2.2.2.2.2.1), i3.1, i3.2.1, trivial⟩
    have b1 : Hid (@Ne Nat (L + 1) I) := hne.1
    have b2 : Hid (@Ne Nat dl I) := hne.2.1
    have b3 : Hid (@Ne Nat 30 I) := hne.2.2.1
    have b4 : Hid (@Ne Nat 37 I) := hne.2.2.2.2.1
    clear hne i2 i3 i4
    refine For_turns F3 ?_ (hE := PassesOwn.never)
    k_steps
    obtain ⟨s1, s2, s3⟩ := span_by gs.length (by omega) m (by omega) hm2 hmn
    rw [hdl]
    refine range3_r (by k_asm) (by k_asm) (by omega) s3 ?_
    intro r3 h3 tk3 t3 u3 v3 hR3 F4 N4
    k_steps
    refine turnsR_by (n := gs.length / m) (σ := Tabs) (fun _ => [("deck", .ref dl)]) (fun c => (I, it) :: (L + 1, oN) :: (dl, listOf dv.toArray de) :: (30, tabObj c.p1) :: (c.c1, c.o1) :: (37, tabObj c.p2) :: (c.c2, c.o2) :: [])
      (fun j c => c.Ok ∧ LCg.Off1 c.c1 [(I, it), (L + 1, oN), (dl, listOf dv.toArray de)] ∧ LCg.Off1 c.c2 [(I, it), (L + 1, oN), (dl, listOf dv.toArray de)] ∧ ∀ k, k < j → RestsAt gs m k)
      T1 (fun _ _ => rfl) hH hR3 s1 s2 F4 N4 ?sub2 ?vars2 ?inv2 ?turn2 ?done2
    case sub2 => walk_at "mine sub"
    case vars2 => walk_at "mine vars"
    case inv2 => exact ⟨i1, e1, e2, fun k hk => absurd hk (Nat.not_lt_zero _)⟩
    case turn2 =>
      clear F3 N3 F4 N4 hR3 e1 e2 i1 s1 s2 s3 hsp
      rintro J j T2 v jt u2 h tk - hj ⟨tw, rfl⟩ ⟨j1, j2, j3, j4⟩ hne F N
      try dsimp only at j1 j2 j3 j4 hne F N
      replace hne := off1_of hne
      replace F : Fr g L h _ := F
      replace N : News g L h _ := N
      rw [show (0 : Int) + (j : Int) * (m : Int) = ((j * m : Nat) : Int) by rw [Int.zero_add]; exact (Int.natCast_mul j m).symm]
      have hjm : j * m + m ≤ gs.length := by
        have h1 := Nat.mul_le_mul_right m hj
        have h2 := Nat.div_mul_le_self gs.length m
        rw [Nat.succ_mul] at h1
        omega
      clear T1
      generalize hp : j * m = pl at *
      k_steps
      refine LCg.Assign_ListComp_U (F₀ := by k_asm) (by rfl) (by with_unfolding_all rfl) (by with_unfolding_all rfl) (by decide) (by rfl) (by decide) (by rfl) (by rfl) (by rfl) ?_
      k_steps
      refine mid_g (j := pl) (k := pl + m) (by k_asm) (by k_asm) (by k_mem) (by omega) rfl (by push_cast; rfl) (by omega) (by omega) ?_
      intro sl h4 F5 N5 l5
      k_lt l5
      k_steps
      rw [show pl + m - pl = m by omega] at N5
      have cI : IntsAre ((dv.drop pl).take m) (((gs.drop pl).take m).map fun (x : Nat) => (x : Int)) := by
        rw [List.map_take, List.map_drop]; exact (hI.drop pl).take m
      have hcl : ((gs.drop pl).take m).length = m := by rw [List.length_take, List.length_drop]; omega
      have hc9 : ∀ x ∈ (gs.drop pl).take m, x < 10 := fun x hx => hg9 x (List.mem_of_mem_drop (List.mem_of_mem_take hx))
      have hcvl : ((dv.drop pl).take m).length = m := by rw [cI.length, List.length_map, hcl]
      generalize hcv : (dv.drop pl).take m = cv at *
      have q1 : Hid (@Ne Nat sl 30) := Nat.ne_of_gt l5.2.2.2.2.1
      have q2 : Hid (@Ne Nat sl 37) := Nat.ne_of_gt l5.2.2.2.2.2.2.1
      have q3 : Hid (@Ne Nat J 30) := Ne.symm hne.2.2.2.1
      have q4 : Hid (@Ne Nat J 37) := Ne.symm hne.2.2.2.2.2.1
      have q5 : Hid (@Ne Nat I J) := hne.1
      have q6 : Hid (@Ne Nat (L + 1) J) := hne.2.1
      have q7 : Hid (@Ne Nat dl J) := hne.2.2.1
      refine LCg.CompSrc.ledger hH F5 N5 (.head _) (by rw [sizeLine_eq, List.size_toArray]; omega) ?_
      intro g'
      refine comp_restN (fun i' ys nw => ∃ T3 : Tabs, nw = (sl, listOf cv.toArray 0) :: (J, jt) :: (I, it) :: (L + 1, oN) :: (dl, listOf dv.toArray de) :: (30, tabObj T3.p1) :: (T3.c1, T3.o1) :: (37, tabObj T3.p2) :: (T3.c2, T3.o2) :: [] ∧ T3.Ok ∧ LCg.Off1 T3.c1 [(sl, listOf cv.toArray 0), (J, jt), (I, it), (L + 1, oN), (dl, listOf dv.toArray de)] ∧ LCg.Off1 T3.c2 [(sl, listOf cv.toArray 0), (J, jt), (I, it), (L + 1, oN), (dl, listOf dv.toArray de)] ∧ IntsAre ys ((((gs.drop pl).take m).take i').map fun x => ((x % m : Nat) : Int)))
        ⟨T2, rfl, j1, ⟨Nat.ne_of_gt l5.2.2.2.2.2.1, Ne.symm hne.2.2.2.2.1, j2⟩, ⟨Nat.ne_of_gt l5.2.2.2.2.2.2.2, Ne.symm hne.2.2.2.2.2.2.1, j3⟩, .nil⟩ ?tu ?fi
      case tu =>
        clear F5 N5 l5 j1 j2 j3 hne
        rintro i' v I2 oI C oC D m₂ ys _ h tk E' hi' hv ⟨T3, rfl, k1, k2, k3, k4⟩ hC2 hx F N off
        obtain ⟨x', tt, rfl, hx9⟩ := IntsAre.at cI i' v (by simpa using hv)
        rw [List.getElem?_map] at hx9
        obtain ⟨x, hx8, rfl⟩ := Option.map_eq_some_iff.mp hx9
        have hx10 := hc9 x (List.mem_of_getElem? hx8)
        have f1 := off3_i off
        have f2 := off3_c off
        have f3 := LCg.Off3.one off
        k_steps
        refine' Tell.use (rest := [(I2, oI), (C, oC), (D, LCg.lst ys), (sl, listOf cv.toArray 0), (J, jt), (I, it), (L + 1, oN), (dl, listOf dv.toArray de)]) (intdiv_t (a := x) (b := m) (T := T3) (by omega) (by omega) (by omega) k1) ?cB1 ?cH1 ?cF1 ?cN1 ?cX1 ?cT1 ?cA1 ?cf1 ?ck1 ?cs1 ?cr1 ?ca1 ?cP1 ?cd1 ?cu1 ?cret1
        case cB1 => exact B
        case cH1 => first | exact hH | assumption
        case cF1 => assumption
        case cN1 => assumption
        case cX1 => exact X
        case cT1 => first | exact T | assumption
        case cA1 => exact Around.frames_deeper B.stack
        case cf1 => exact rfl
        case ck1 => exact rfl
        case cs1 => walk_at "mine sub"
        case cr1 => walk_at "mine sub"
        case ca1 => walk_at "mine apart"
        case cP1 => exact fun g' st _ => ⟨CodeHd.keeps hG.1 (fun b o e => st b o e), CodeHd.keeps hG.2 (fun b o e => st b o e)⟩
        case cd1 => walk_at "mine room"
        case cu1 => walk_at "mine room"
        rintro _ _ h' tk' ⟨D9, x1, x2, T9, rfl, hT9, -, rfl⟩ F' N' hap
        simp only [Tabs.led, List.cons_append, List.nil_append] at N'
        have a1 : LCg.Off1 T9.c1 [(I2, oI), (C, oC), (D, LCg.lst ys), (sl, listOf cv.toArray 0), (J, jt), (I, it), (L + 1, oN), (dl, listOf dv.toArray de)] := off1_of fun r hr => (hap (T9.c1, T9.o1) (.tail _ (.tail _ (.head _))) r hr).symm
        have a2 : LCg.Off1 T9.c2 [(I2, oI), (C, oC), (D, LCg.lst ys), (sl, listOf cv.toArray 0), (J, jt), (I, it), (L + 1, oN), (dl, listOf dv.toArray de)] := off1_of fun r hr => (hap (T9.c2, T9.o2) (.tail _ (.tail _ (.tail _ (.tail _ (.head _))))) r hr).symm
        clear hap
        k_steps
        rename Fr _ _ _ _ => F8
        rename News _ _ _ _ => N8
        refine LCg.CompEnd.intro F8 N8 [(sl, listOf cv.toArray 0), (J, jt), (I, it), (L + 1, oN), (dl, listOf dv.toArray de), (30, tabObj T9.p1), (T9.c1, T9.o1), (37, tabObj T9.p2), (T9.c2, T9.o2)] (by walk_at "mine sub") ?off (Or.inr ⟨_, .head _, rfl, _, rfl⟩) ⟨T9, rfl, hT9, a1.2.2.2, a2.2.2.2, ?_⟩
        case off => exact off3_mk ⟨f1.1, f1.2.1, f1.2.2.1, f1.2.2.2.1, f1.2.2.2.2.1, f1.2.2.2.2.2.1, Ne.symm a1.1, f1.2.2.2.2.2.2.2.1, Ne.symm a2.1, trivial⟩ ⟨f2.1, f2.2.1, f2.2.2.1, f2.2.2.2.1, f2.2.2.2.2.1, f2.2.2.2.2.2.1, Ne.symm a1.2.1, f2.2.2.2.2.2.2.2.1, Ne.symm a2.2.1, trivial⟩ ⟨f3.1, f3.2.1, f3.2.2.1, f3.2.2.2.1, f3.2.2.2.2.1, f3.2.2.2.2.2.1, Ne.symm a1.2.2.1, f3.2.2.2.2.2.2.2.1, Ne.symm a2.2.2.1, trivial⟩
        rw [List.take_add_one, hx8, List.map_append]
        exact ints_append k4 (.cons _ _ .nil)
      case fi =>
        rintro ys _ ⟨T3, rfl, k1, k2, k3, k4⟩
        rw [List.take_of_length_le (by rw [List.size_toArray, hcvl, hcl]; exact Nat.le_refl _)] at k4
        have ky : ys.length = m := by rw [k4.length, List.length_map, hcl]
        k_steps
        rename News _ _ _ _ => N8
        rename Fr _ _ _ _ => F8
        rename IsRange _ _ _ _ _ _ _ _ => hR8
        refine list_range_g hH F8 N8 hR8 (span_0 m (by omega)).1 (span_0 m (by omega)).2 (by omega) ?_
        intro D9 vs9 c9 h9 tk9 F9 N9 l9 I9
        k_lt l9
        k_steps
        · rename List.Perm _ _ => hp1
          rename List.Pairwise _ _ => ho1
          rename _ = List.map _ (List.range m) => heq
          have hr : RestsAt gs m j := by unfold RestsAt; rw [hp]; exact (rest_eq hp1 ho1).mp heq
          refine FPost.next T3 (by k_asm) (by k_asm) (by walk_at "mine sub") (by walk_at "mine sub") (List.forall_mem_cons.mpr ⟨q5, List.forall_mem_cons.mpr ⟨q6, List.forall_mem_cons.mpr ⟨q7, List.forall_mem_cons.mpr ⟨Ne.symm q3, List.forall_mem_cons.mpr ⟨Ne.symm k2.2.1, List.forall_mem_cons.mpr ⟨Ne.symm q4, List.forall_mem_cons.mpr ⟨Ne.symm k3.2.1, List.forall_mem_nil _⟩⟩⟩⟩⟩⟩⟩) (by walk_at "mine vars")
            ⟨k1, k2.2.2, k3.2.2, fun k hk => ?_⟩
          rcases Nat.lt_or_ge k j with h3 | h3
          · exact j4 k h3
          · obtain rfl : k = j := by omega
            exact hr
        · rename List.Perm _ _ => hp1
          rename List.Pairwise _ _ => ho1
          rename ¬ (_ = List.map _ (List.range m)) => hne1
          have hr : ¬ RestsAt gs m j := by unfold RestsAt; rw [hp]; exact fun e => hne1 ((rest_eq hp1 ho1).mpr e)
          k_steps
          refine hret _ _ _ _ ⟨false, T3, rfl, ⟨fun h => Bool.noConfusion h, fun h => absurd (h m hm2 hmn j hj) hr⟩, k1, ⟨n1, Ne.symm k2.2.2.2.2.1, n2, Ne.symm k3.2.2.2.2.1, trivial⟩, rfl⟩ (Own.of (by assumption) (News.sub (by assumption) ?_))
          exact fun q hq => by
            revert q; exact (show ∀ q ∈ (dl, listOf dv.toArray de) :: (30, tabObj T3.p1) :: (T3.c1, T3.o1) :: (37, tabObj T3.p2) :: (T3.c2, T3.o2) :: [], q ∈ _ by walk_at "mine sub")
    case done2 =>
      clear F3 N3 F4 N4 hR3 e1 e2 i1 s1 s2 s3 hsp
      rintro T2 u2 h tk ⟨j1, j2, j3, j4⟩ F N
      try dsimp only at j1 j2 j3 j4 F N
      replace F : Fr g L h _ := F
      replace N : News g L h _ := N
      k_steps
      refine FPost.next (T2, oN) (by k_asm) (by k_asm) (by walk_at "mine sub") (by walk_at "mine sub") (List.forall_mem_cons.mpr ⟨b1, List.forall_mem_cons.mpr ⟨b2, List.forall_mem_cons.mpr ⟨b3, List.forall_mem_cons.mpr ⟨Ne.symm j2.1, List.forall_mem_cons.mpr ⟨b4, List.forall_mem_cons.mpr ⟨Ne.symm j3.1, List.forall_mem_nil _⟩⟩⟩⟩⟩⟩) (by walk_at "mine vars")
        ⟨j1, j2.2, j3.2, ⟨_, dN⟩, fun m' h1 h2 k hk => ?_⟩
      rcases Nat.lt_or_ge m' m with h3 | h3
      · exact i5 m' h1 h3 k hk
      · obtain rfl : m' = m := by omega
        exact j4 k hk
  case done =>
    clear F1 N1 F2 N2 hR hT dM
    rintro ⟨T1, oM1⟩ u h tk ⟨i1, i2, i3, i4, i5⟩ F N
    dsimp only at i1 i2 i3 i4 i5 F N
    replace F : Fr g L h _ := F
    replace N : News g L h _ := N
    k_steps
    refine hret _ _ _ _ ⟨true, T1, rfl, ⟨fun _ => fun m h1 h2 k hk => i5 m h1 (by omega) k hk, fun _ => rfl⟩, i1, ⟨n1, Ne.symm i2.2.1, n2, Ne.symm i3.2.1, trivial⟩, rfl⟩ (Own.of (by assumption) (News.sub (by assumption) ?_))
    exact fun q hq => .tail _ hq
-- R11
local macro_rules | `(tactic| walk_at "mine stop") => `(tactic| with_reducible show wpAny _ _ (PySem.call (Value.builtin "max") _ _) _ _ _)
local macro_rules | `(tactic| walk_at "mine stop") => `(tactic| with_reducible show wpAny _ _ (binaryOp .Mult (Value.ref _) (Value.int _ _)) _ _ _)
theorem back_t {w : World} {p : Program} {loose : List Str} {mean : ExcName → Option Value} {mg mb : Str → Option Value} {dl : Addr} {dv : List Value} {de : Nat} {gs : List Nat} {T : Tabs}
    (hI : IntsAre dv (gs.map fun (x : Nat) => (x : Int))) (hgl : gs.length ≤ 8) (hg2 : 2 ≤ gs.length) (hT : T.Ok) (hoff : LCg.Off1 dl T.led) :
    Tell PySem.Challenge.rw_pg0218_01.row.prog w (Mine.hd.heap_39 w.params) p loose mean mg mb (fun g => CodeHd g 34 30 ∧ CodeHd g 41 37) 110 360 (.ref 111) [.ref dl] ((dl, listOf dv.toArray de) :: T.led)
      (fun v news => ∃ (D : Addr) (ds : List Value) (e : Nat) (T' : Tabs), v = .ref D ∧ IntsAre ds (backOf gs) ∧ T'.Ok ∧ LCg.Off1 dl T'.led ∧ LCg.Off1 D ((dl, listOf dv.toArray de) :: T'.led) ∧ news = (D, listOf ds.toArray e) :: (dl, listOf dv.toArray de) :: T'.led) := by
  k_fill
  refine Tell.enterC (binds := [("deck", .ref dl)]) (by k_is) (by k_is) (fun s => BindsTo.of_eq rfl) rfl (by decide +kernel) rfl rfl rfl ?_
  intro A base g outer s L cells Q B hH X T9 hG F N Y hlt hd hu hret
  k_cells Y
  have hltT : ∀ q ∈ T.led, q.1 < L := fun q hq => hlt q (.tail _ hq)
  dsimp only [Tabs.led] at N hlt hoff hltT
  k_lt hlt
  have hdl : dv.length = gs.length := by rw [hI.length, List.length_map]
  have hdL : Hid (@Ne Nat dl (L + 1)) := Nat.ne_of_lt (Nat.lt_succ_of_lt hlt.1)
  have n1 : Hid (@Ne Nat 30 dl) := hoff.1
  have n2 : Hid (@Ne Nat 37 dl) := hoff.2.2.1
  have n3 : Hid (@Ne Nat 30 (L + 1)) := Nat.ne_of_lt (Nat.lt_succ_of_lt hlt.2.1)
  have n4 : Hid (@Ne Nat 37 (L + 1)) := Nat.ne_of_lt (Nat.lt_succ_of_lt hlt.2.2.2.1)
  have m1 : Hid (@Ne Nat dl T.c1) := Ne.symm hoff.2.1
  have m2 : Hid (@Ne Nat dl T.c2) := Ne.symm hoff.2.2.2.1
  have m3 : Hid (@Ne Nat (L + 1) T.c1) := Nat.ne_of_gt (Nat.lt_succ_of_lt hlt.2.2.1)
  have m4 : Hid (@Ne Nat (L + 1) T.c2) := Nat.ne_of_gt (Nat.lt_succ_of_lt hlt.2.2.2.2)
  clear hoff hlt hltT
  k_steps
  rename Fr _ _ _ _ => F1
  rename News _ _ _ _ => N1
  simp only [List.cons_append, List.nil_append] at N1
  rename IsRange _ _ _ _ _ _ _ _ => hR
  rename Obj => oD
  rename oD.data = _ => dD
  have hsp := span_1 gs.length (by omega) (by omega)
  rw [hdl] at hR
  refine LCg.CompSrc.range hH F1 N1 hR hsp.1 hsp.2 (by rw [sizeLine_eq]; exact Nat.le_trans (Nat.sub_le _ _) (Nat.le_trans hgl (by decide))) ?_
  intro g'
  refine comp_rest (fun i ys => IntsAre ys ((bitsIn gs).take i)) .nil ?tu ?fi
  case tu =>
    rintro i v I oI C oC D m₂ ys h tk E' hi ⟨t0, rfl⟩ hinv hC2 hx F N off
    rw [show (1 : Int) + (i : Int) = ((i + 1 : Nat) : Int) by omega] at hx
    have hi1 : i + 1 < gs.length := Nat.add_lt_of_lt_sub hi
    k_steps
    refine upto_g (k := i + 1) (by k_asm) (by k_asm) (by k_mem) (by omega) ?_
    intro sl h4 F5 N5 l5
    k_lt l5
    have sI : IntsAre (dv.take (i + 1)) ((gs.map fun (x : Nat) => (x : Int)).take (i + 1)) := hI.take _
    have sp : ((gs.map fun (x : Nat) => (x : Int)).take (i + 1)).length = i + 1 := by rw [List.length_take, List.length_map]; omega
    have sv : (dv.take (i + 1)).length = i + 1 := by rw [List.length_take]; omega
    have hls : h4.IsList sl (dv.take (i + 1)).toArray := PySem.IsL.isList (n := 0) (N5 (sl, listOf (dv.take (i + 1)).toArray 0) (.head _)).1
    k_steps
    refine kso_max (by exact F5) (by exact N5) (by exact hls) (by exact sI) (by omega) (by exact hH) ?_
    intro h6 M tM tk6 F6 N6 hM1 hM2
    rw [bit_of hM1 hM2]
    clear hM1 hM2
    k_steps
    refine LCg.CompEnd.intro (by k_asm) (by k_asm) _ ?sub off trivial ⟨rfl, ?_⟩
    case sub => walk_at "mine sub"
    rw [bit_next hi1]
    exact ints_append hinv (.cons _ _ .nil)
  case fi =>
    clear hR F1 N1
    intro ys hinv
    rw [List.take_of_length_le (Nat.le_of_eq (bits_length gs))] at hinv
    have hbl : (bitsIn gs).length = gs.length - 1 := bits_length gs
    have hyl : ys.length = gs.length - 1 := by rw [hinv.length, hbl]
    have hb7 : (bitsIn gs).length ≤ 7 := by rw [hbl]; exact Nat.sub_le_of_le_add hgl
    have hy7 : ys.length ≤ 7 := by rw [hyl]; exact Nat.sub_le_of_le_add hgl
    have hbf := bits_figs gs
    generalize hbs : bitsIn gs = bs at *
    k_steps
    rename_i bl _ _ _ _ ob
    have hn1 := hid hT.n1; have hn2 := hid hT.n2; have hn3 := hid hT.n3; have hn4 := hid hT.n4; have hn5 := hid hT.n5
    refine' Tell.use (rest := [(bl, LCg.lst ys), (30, tabObj T.p1), (T.c1, T.o1), (L + 1, oD), (dl, W.listOf dv.toArray de)]) (d2i_t (dl := bl) (n := 1) (vs := ys) (ns := bs) (e := ys.length) (by decide) hinv hbf (Nat.le_trans hb7 (by decide)) (by rw [Nat.mul_one]; exact Nat.le_trans hb7 (by decide)) hT.t2 hT.n5) ?cB1 ?cH1 ?cF1 ?cN1 ?cX1 ?cT1 ?cA1 ?cf1 ?ck1 ?cs1 ?cr1 ?ca1 ?cP1 ?cd1 ?cu1 ?cret1
    case cB1 => exact B
    case cH1 => first | exact hH | assumption
    case cF1 => assumption
    case cN1 => assumption
    case cX1 => exact X
    case cT1 => first | exact T | assumption
    case cA1 => exact Around.frames_deeper B.stack
    case cf1 => exact rfl
    case ck1 => exact rfl
    case cs1 => walk_at "mine sub"
    case cr1 => walk_at "mine sub"
    case ca1 => walk_at "mine apart"
    case cP1 => exact fun g' st hr => ⟨CodeHd.keeps hG.2 (fun b o e => st b o e), hr (bl, _) (.head _)⟩
    case cd1 => walk_at "mine room"
    case cu1 => walk_at "mine room"
    rintro _ _ h' tk' ⟨tv, p9, c9, o9, rfl, ht9, hc9, rfl⟩ F' N' hap
    simp only [List.cons_append, List.nil_append] at N'
    have ac3 : LCg.Off1 c9 [(bl, LCg.lst ys), (30, tabObj T.p1), (T.c1, T.o1), (L + 1, oD), (dl, W.listOf dv.toArray de)] := off1_of fun r hr => (hap (c9, o9) (.tail _ (.head _)) r hr).symm
    clear hap
    have hv0 := valI_pos hbf
    have hv1 := valI_lt hbf
    have hva : valI 1 bs = (((valI 1 bs).toNat : Nat) : Int) := (Int.toNat_of_nonneg hv0).symm
    have ha : (valI 1 bs).toNat < 2 ^ 60 := by
      have h2 : (2 : Int) ^ (bs.length * 1) ≤ 2 ^ 7 := by
        have := Nat.pow_le_pow_right (n := 2) (by decide) (show bs.length * 1 ≤ 7 by rw [Nat.mul_one]; exact hb7)
        exact_mod_cast this
      omega
    have htb : toldBits bs = digs 1 (valI 1 bs).toNat (figs (valI 1 bs).toNat 1) ++ List.replicate (bs.length - figs (valI 1 bs).toNat 1) 0 := rfl
    have hfl : figs (valI 1 bs).toNat 1 ≤ bs.length := figs_le (by decide) (by
      have h3 : (2 : Int) ^ (bs.length * 1) = ((2 ^ bs.length : Nat) : Int) := by rw [Nat.mul_one]; push_cast; rfl
      rw [h3] at hv1
      omega)
    rw [hva]
    generalize (valI 1 bs).toNat = a at *
    clear hv0 hv1 hva
    k_steps
    refine' Tell.use (rest := [(37, tabObj p9), (c9, o9), (bl, LCg.lst ys), (L + 1, oD), (dl, listOf dv.toArray de)]) (i2d_t (a := a) (n := 1) (by decide) (by decide) ha hT.t1 hT.n1) ?cB2 ?cH2 ?cF2 ?cN2 ?cX2 ?cT2 ?cA2 ?cf2 ?ck2 ?cs2 ?cr2 ?ca2 ?cP2 ?cd2 ?cu2 ?cret2
    case cB2 => exact B
    case cH2 => first | exact hH | assumption
    case cF2 => assumption
    case cN2 => assumption
    case cX2 => exact X
    case cT2 => first | exact T | assumption
    case cA2 => exact Around.frames_deeper B.stack
    case cf2 => exact rfl
    case ck2 => exact rfl
    case cs2 => walk_at "mine sub"
    case cr2 => walk_at "mine sub"
    case ca2 => walk_at "mine apart"
    case cP2 => exact fun g' st _ => CodeHd.keeps hG.1 (fun b o e => st b o e)
    case cd2 => walk_at "mine room"
    case cu2 => walk_at "mine room"
    rintro _ _ h' tk' ⟨tl, ds, e, q1, d1, q, rfl, hI2, htab, ht30, htd, hd30, rfl⟩ F' N' hap
    simp only [List.cons_append, List.nil_append] at N'
    have at1 : LCg.Off1 tl [(37, tabObj p9), (c9, o9), (bl, LCg.lst ys), (L + 1, oD), (dl, listOf dv.toArray de)] := off1_of fun r hr => (hap (tl, _) (.head _) r hr).symm
    have ad1 : LCg.Off1 d1 [(37, tabObj p9), (c9, o9), (bl, LCg.lst ys), (L + 1, oD), (dl, listOf dv.toArray de)] := off1_of fun r hr => (hap (d1, _) (.tail _ (.tail _ (.head _))) r hr).symm
    clear hap
    have hdl2 : ds.length = figs a 1 := by rw [hI2.length, digs_length]
    have hd7 : ds.length ≤ 7 := by rw [hdl2]; exact Nat.le_trans hfl hb7
    k_steps
    rw [show ((ys.length : Nat) : Int) - ((ds.length : Nat) : Int) = ((bs.length - figs a 1 : Nat) : Int) by omega]
    refine rep_g (k := bs.length - figs a 1) (by k_asm) (by k_asm) (.head _) (by omega) ?_
    intro zl h9 F9 N9 l9
    k_lt l9
    have zI : ∀ (k : Nat) (t : Tok), IntsAre (List.replicate k (Value.int 0 t)) (List.replicate k 0) := fun k t => by
      induction k with
      | zero => exact .nil
      | succ k ih => rw [List.replicate_succ, List.replicate_succ]; exact .cons _ _ ih
    k_steps
    rename Fr _ _ _ _ => F10
    rename News _ _ _ _ => N10
    obtain ⟨tv, N11, tI⟩ : ∃ tv, News g L _ ((_, listOf (List.toArray tv) 0) :: _) ∧ IntsAre tv (toldBits bs) := ⟨_, N10, by rw [htb]; exact ints_append hI2 (zI _ _)⟩
    clear N10
    have tL : (toldBits bs).length ≤ bs.length := by rw [htb, List.length_append, digs_length, List.length_replicate]; omega
    refine count_list_ints (ns := toldBits bs) (PySem.IsL.isList (n := 0) (N11 _ (.head _)).1) tI ?_
    k_steps
    rename_i DD _ lD _ _ _ tlo _ _ thi _ ra _ lr _ _ _
    rename Fr _ _ _ _ => F13
    rename News _ _ _ _ => N13
    have or : LCg.Off1 ra [(DD, listOf tv.toArray 0), (dl, listOf dv.toArray de), (30, tabObj q1), (d1, q), (37, tabObj p9), (c9, o9)] :=
      ⟨Nat.ne_of_lt lr.1, Nat.ne_of_lt lr.2.2.2.2.2.2.2.2.2.2, Nat.ne_of_lt lr.2.2.2.2.1, Nat.ne_of_lt lr.2.2.2.2.2.1, Nat.ne_of_lt lr.2.2.2.2.2.2.1, Nat.ne_of_lt lr.2.2.2.2.2.2.2.1, trivial⟩
    have hT9 : Tabs.Ok ⟨q1, d1, q, p9, c9, o9⟩ := ⟨htab, ht9, hd30, Ne.symm ad1.1, Ne.symm ad1.2.1, Ne.symm ac3.2.1, hc9⟩
    have e1 := Ne.symm ad1.2.2.2.2.1
    have e2 := Ne.symm ac3.2.2.2.2.1
    clear lr lD at1 ad1 ac3 ob
    have htl : tv.length = (toldBits bs).length := tI.length
    refine For_turns F13 ?_ (hE := PassesOwn.never)
    k_steps
    rename Fr _ _ _ _ => F14
    rename News _ _ _ _ => N14
    refine turnsL_by (σ := BackSt) (vs := tv) (e := 0) (fun c => [("low", .int c.lo c.tl), ("high", .int c.hi c.th), ("row", .ref ra)]) (fun c => (ra, listOf c.rv.toArray c.re) :: (dl, listOf dv.toArray de) :: (30, tabObj q1) :: (d1, q) :: (37, tabObj p9) :: (c9, o9) :: [])
      (BackInv (toldBits bs) (backOf gs)) ⟨1 + ((toldBits bs).count 0 : Nat), 1 + ((toldBits bs).count 0 : Nat), tlo, thi, [.int (1 + ((toldBits bs).count 0 : Nat)) tlo], 0⟩ (fun _ _ => rfl) hH F14 N14 (by k_mem) ?sub ?vars ?inv ?turn ?done
    case sub => walk_at "mine sub"
    case vars => walk_at "mine vars"
    case inv => exact ⟨_, .cons _ _ .nil, rfl, by rw [List.drop_zero, backOf, hbs]⟩
    case turn =>
      clear F14 N14
      rintro I i c v it u h tk - hv hinv2 hne F N
      try dsimp only at hne F N
      replace hne := off1_of hne
      replace F : Fr g L h _ := F
      replace N : News g L h _ := N
      obtain ⟨x, tx, rfl, hx9⟩ := IntsAre.at tI i v hv
      have hrl : c.rv.length ≤ 9 := by
        obtain ⟨_, _, h2, _⟩ := hinv2
        have := (List.getElem?_eq_some_iff.mp hx9).1
        omega
      have hoffs : ∀ (o : Obj), ∀ p ∈ (ra, o) :: (dl, listOf dv.toArray de) :: (30, tabObj q1) :: (d1, q) :: (37, tabObj p9) :: (c9, o9) :: [], p.1 ≠ I := fun o => List.forall_mem_cons.mpr ⟨hne.2.1, fun p hp => off1_l hne.2.2 hp⟩
      k_steps
      · rename x = 1 => h1
        exact FPost.next ⟨c.lo, c.hi + 1, c.tl, _, c.rv ++ [.int (c.hi + 1) _], c.re + 1⟩ (by k_asm) (by k_asm) (by walk_at "mine sub") (by walk_at "mine sub") (hoffs _) (by walk_at "mine vars") (hinv2.one hx9 h1)
      · rename x ≠ 1 => h1
        exact FPost.next ⟨c.lo - 1, c.hi, _, c.th, c.rv ++ [.int (c.lo - 1) _], c.re + 1⟩ (by k_asm) (by k_asm) (by walk_at "mine sub") (by walk_at "mine sub") (hoffs _) (by walk_at "mine vars") (hinv2.not hx9 h1)
    case done =>
      clear F14 N14
      rintro c u h tk hinv2 F N
      try dsimp only at F N
      replace F : Fr g L h _ := F
      replace N : News g L h _ := N
      rw [htl] at hinv2
      k_steps
      refine hret _ _ _ _ ⟨ra, c.rv, c.re, ⟨q1, d1, q, p9, c9, o9⟩, rfl, hinv2.fin, hT9, ⟨n1, e1, n2, e2, trivial⟩, or.2, rfl⟩ (Own.of (by assumption) (News.sub (by assumption) ?_))
      exact fun q hq => hq
end
-- R12
section
local macro_rules | `(tactic| walk_at "mine stop") => `(tactic| with_reducible show wpAny _ _ (exec (Stmt.For _ _ _ _ _) _) _ _ _)
local macro_rules | `(tactic| walk_at "mine stop") => `(tactic| with_reducible show wpAny _ _ (PySem.call (Value.type "range") _ _) _ _ _)
theorem three_t {w : World} {p : Program} {loose : List Str} {mean : ExcName → Option Value} {mg mb : Str → Option Value} {dl : Addr} {dv : List Value} {de : Nat} {gs : List Nat} {T : Tabs}
    (hI : IntsAre dv (gs.map fun (x : Nat) => (x : Int))) (hg9 : ∀ x ∈ gs, x < 10) (hgl : gs.length ≤ 8) (hg2 : 2 ≤ gs.length) (hT : T.Ok) (hoff : LCg.Off1 dl T.led) :
    Tell PySem.Challenge.rw_pg0218_01.row.prog w (Mine.hd.heap_39 w.params) p loose mean mg mb (fun g => CodeHd g 34 30 ∧ CodeHd g 41 37) 130 460 (.ref 118) [.ref dl] ((dl, listOf dv.toArray de) :: T.led)
      (fun v news => ∃ (X C : Addr) (cv : List Value) (ce : Nat) (b : Bool) (T' : Tabs), v = .ref X ∧ IntsAre cv ((cutsOf gs).map fun (x : Nat) => (x : Int)) ∧ (b = true ↔ RestsOk gs) ∧ T'.Ok ∧
        news = (X, listOf #[.ref C, .bool b, .bool (decide (backOf gs = gs.map fun (x : Nat) => (x : Int)))] 0) :: (C, listOf cv.toArray ce) :: (dl, listOf dv.toArray de) :: T'.led) := by
  k_fill
  refine Tell.enter (binds := [("deck", .ref dl)]) (by k_is) (by k_is) (fun s => BindsTo.of_eq rfl) (locs rfl) rfl rfl rfl (by decide) ?_
  intro A base g outer s L Q B hH X T9 hG F N hlt hd hu hret
  dsimp only [Tabs.led] at N hlt hoff
  have hdl : dv.length = gs.length := by rw [hI.length, List.length_map]
  k_steps
  refine For_turns (by k_asm) ?_ (hE := PassesOwn.never)
  k_steps
  rename_i szt _ C _ lC _ _ _
  rw [hdl] at *
  rename Fr _ _ _ _ => F1
  rename News _ _ _ _ => N1
  have oC : LCg.Off1 C [(dl, listOf dv.toArray de), (30, tabObj T.p1), (T.c1, T.o1), (37, tabObj T.p2), (T.c2, T.o2)] := ⟨Nat.ne_of_lt lC.1, Nat.ne_of_lt lC.2.1, Nat.ne_of_lt lC.2.2.1, Nat.ne_of_lt lC.2.2.2.1, Nat.ne_of_lt lC.2.2.2.2, trivial⟩
  clear lC
  refine range1_r (by k_asm) (by k_asm) ?_
  intro r0 h0 tk0 t1 u1 v1 hR F2 N2
  k_steps
  have hsp := span_0 (gs.length + 1) (by omega)
  rw [show ((gs.length + 1 : Nat) : Int) = (gs.length : Int) + 1 by omega] at hsp
  refine turnsR_by (n := gs.length + 1) (σ := List Value × Nat) (fun _ => [("deck", .ref dl), ("size", .int (gs.length : Nat) szt), ("cuts", .ref C)]) (fun c => (C, listOf c.1.toArray c.2) :: (dl, listOf dv.toArray de) :: (30, tabObj T.p1) :: (T.c1, T.o1) :: (37, tabObj T.p2) :: (T.c2, T.o2) :: [])
    (fun i c => CutsAt gs i c.1) ([], 0) (fun _ _ => rfl) hH hR hsp.1 (by rw [hsp.2]; push_cast; rfl) F2 N2 ?sub ?vars ?inv ?turn ?done
  case sub => walk_at "mine sub"
  case vars => walk_at "mine vars"
  case inv => exact .nil
  case turn =>
    clear F1 N1 F2 N2 hR hsp
    rintro I i ⟨cv, ce⟩ v it u h tk - hi ⟨tv, rfl⟩ hinv hne F N
    try dsimp only at hinv hne F N
    replace hne := off1_of hne
    replace F : Fr g L h _ := F
    replace N : News g L h _ := N
    have hcl := hinv.len
    rw [show (0 : Int) + (i : Int) * 1 = ((i : Nat) : Int) by omega]
    have hoffs : ∀ (o : Obj), ∀ p ∈ (C, o) :: (dl, listOf dv.toArray de) :: (30, tabObj T.p1) :: (T.c1, T.o1) :: (37, tabObj T.p2) :: (T.c2, T.o2) :: [], p.1 ≠ I := fun o => List.forall_mem_cons.mpr ⟨hne.1, fun p hp => off1_l hne.2 hp⟩
    obtain ⟨d1, d2, d3⟩ := span_down i (by omega)
    obtain ⟨e1, e2⟩ := span_cut gs.length (by omega) i (by omega) (by omega)
    k_steps
    refine range3_g (by k_asm) (by k_asm) (by decide) d3 ?_
    intro r1 h1 tk1 F3 N3 l3
    k_lt l3
    k_steps
    refine' Tell.use (rest := [(r1, rangeObj (i : Nat) 0 (-1) _ _ _), (I, it), (C, listOf cv.toArray ce), (dl, listOf dv.toArray de), (30, tabObj T.p1), (T.c1, T.o1), (37, tabObj T.p2), (T.c2, T.o2)]) (found_t (cs := downN i) (gs := gs) d1 (by rw [downN_length]; exact d2) (fun _ _ h => downN_get h) (downN_lt (by omega)) (by rw [downN_length]; omega) hI hg9 (by omega)) ?cB1 ?cH1 ?cF1 ?cN1 ?cX1 ?cT1 ?cA1 ?cf1 ?ck1 ?cs1 ?cr1 ?ca1 ?cP1 ?cd1 ?cu1 ?cret1
    case cB1 => exact B
    case cH1 => first | exact hH | assumption
    case cF1 => assumption
    case cN1 => assumption
    case cX1 => exact X
    case cT1 => first | exact T | assumption
    case cA1 => exact Around.frames_deeper B.stack
    case cf1 => exact rfl
    case ck1 => exact rfl
    case cs1 => walk_at "mine sub"
    case cr1 => walk_at "mine sub"
    case ca1 => walk_at "mine apart"
    case cP1 => exact fun g' st hr => ⟨hr _ (.head _), hr _ (.tail _ (.tail _ (.tail _ (.head _))))⟩
    case cd1 => walk_at "mine room"
    case cu1 => walk_at "mine room"
    rintro _ _ h' tk' ⟨rfl, rfl⟩ F' N' hap
    clear hap
    simp only [List.nil_append] at N'
    k_steps
    · rename _ = true => y1
      refine range2_g (by k_asm) (by k_asm) ?_
      intro r2 h2 tk2 v2 F4 N4 l4
      k_lt l4
      k_steps
      refine' Tell.use (rest := [(r2, rangeObj ((i : Nat) + 1) ((gs.length : Nat) + 1) 1 _ _ _), (I, it), (C, listOf cv.toArray ce), (dl, listOf dv.toArray de), (30, tabObj T.p1), (T.c1, T.o1), (37, tabObj T.p2), (T.c2, T.o2)]) (found_t (cs := upN (i + 1) (gs.length - i)) (gs := gs) e1 (by rw [upN_length]; exact e2) (fun _ _ h => upN_get' h) (upN_lt (by omega)) (by rw [upN_length]; omega) hI hg9 (by omega)) ?cB2 ?cH2 ?cF2 ?cN2 ?cX2 ?cT2 ?cA2 ?cf2 ?ck2 ?cs2 ?cr2 ?ca2 ?cP2 ?cd2 ?cu2 ?cret2
      case cB2 => exact B
      case cH2 => first | exact hH | assumption
      case cF2 => assumption
      case cN2 => assumption
      case cX2 => exact X
      case cT2 => first | exact T | assumption
      case cA2 => exact Around.frames_deeper B.stack
      case cf2 => exact rfl
      case ck2 => exact rfl
      case cs2 => walk_at "mine sub"
      case cr2 => walk_at "mine sub"
      case ca2 => walk_at "mine apart"
      case cP2 => exact fun g' st hr => ⟨hr _ (.head _), hr _ (.tail _ (.tail _ (.tail _ (.head _))))⟩
      case cd2 => walk_at "mine room"
      case cu2 => walk_at "mine room"
      rintro _ _ h' tk' ⟨rfl, rfl⟩ F' N' hap
      clear hap
      simp only [List.nil_append] at N'
      k_steps
      · rename subL (upN _ _) _ = true => y2
        refine FPost.next (cv ++ [.int (i : Nat) _], ce + 1) (by k_asm) (by k_asm) (by walk_at "mine sub") (by walk_at "mine sub") (hoffs _) (by walk_at "mine vars") (hinv.yes (by rw [cutOk, y1, y2]; rfl))
      · rename _ = false => y2
        refine FPost.next (cv, ce) (by k_asm) (by k_asm) (by walk_at "mine sub") (by walk_at "mine sub") (hoffs _) (by walk_at "mine vars") (hinv.no (by rw [cutOk, y1, y2]; rfl))
    · rename _ = false => y1
      refine FPost.next (cv, ce) (by k_asm) (by k_asm) (by walk_at "mine sub") (by walk_at "mine sub") (hoffs _) (by walk_at "mine vars") (hinv.no (by rw [cutOk, y1]; rfl))
  case done =>
    clear F1 N1 F2 N2 hR hsp
    rintro ⟨cv, ce⟩ u h tk hinv F N
    try dsimp only at hinv F N
    replace F : Fr g L h _ := F
    replace N : News g L h _ := N
    k_steps
    refine' Tell.use (rest := [(C, listOf cv.toArray ce)]) (rests_t (gs := gs) hI hg9 hgl hg2 hT hoff) ?cB3 ?cH3 ?cF3 ?cN3 ?cX3 ?cT3 ?cA3 ?cf3 ?ck3 ?cs3 ?cr3 ?ca3 ?cP3 ?cd3 ?cu3 ?cret3
    case cB3 => exact B
    case cH3 => first | exact hH | assumption
    case cF3 => assumption
    case cN3 => assumption
    case cX3 => exact X
    case cT3 => first | exact T | assumption
    case cA3 => exact Around.frames_deeper B.stack
    case cf3 => exact rfl
    case ck3 => exact rfl
    case cs3 => walk_at "mine sub"
    case cr3 => walk_at "mine sub"
    case ca3 => walk_at "mine apart"
    case cP3 => exact fun g' st _ => ⟨CodeHd.keeps hG.1 (fun b o e => st b o e), CodeHd.keeps hG.2 (fun b o e => st b o e)⟩
    case cd3 => walk_at "mine room"
    case cu3 => walk_at "mine room"
    rintro _ _ h' tk' ⟨b, T2, rfl, hb, hT2, ho2, rfl⟩ F' N' hap
    simp only [Tabs.led, List.cons_append, List.nil_append] at N'
    have a1 : LCg.Off1 C [(dl, listOf dv.toArray de), (30, tabObj T2.p1), (T2.c1, T2.o1), (37, tabObj T2.p2), (T2.c2, T2.o2)] := off1_of fun q hq => hap q hq (C, _) (.head _)
    clear hap
    k_steps
    refine' Tell.use (rest := [(C, listOf cv.toArray ce)]) (back_t (gs := gs) hI hgl hg2 hT2 ho2) ?cB4 ?cH4 ?cF4 ?cN4 ?cX4 ?cT4 ?cA4 ?cf4 ?ck4 ?cs4 ?cr4 ?ca4 ?cP4 ?cd4 ?cu4 ?cret4
    case cB4 => exact B
    case cH4 => first | exact hH | assumption
    case cF4 => assumption
    case cN4 => assumption
    case cX4 => exact X
    case cT4 => first | exact T | assumption
    case cA4 => exact Around.frames_deeper B.stack
    case cf4 => exact rfl
    case ck4 => exact rfl
    case cs4 => walk_at "mine sub"
    case cr4 => walk_at "mine sub"
    case ca4 => walk_at "mine apart"
    case cP4 => exact fun g' st _ => ⟨CodeHd.keeps hG.1 (fun b o e => st b o e), CodeHd.keeps hG.2 (fun b o e => st b o e)⟩
    case cd4 => walk_at "mine room"
    case cu4 => walk_at "mine room"
    rintro _ _ h' tk' ⟨D, ds, e, T3, rfl, hI3, hT3, ho3, hD3, rfl⟩ F' N' hap
    simp only [Tabs.led, List.cons_append, List.nil_append] at N'
    k_steps
    refine hret _ _ _ _ ⟨_, C, cv, ce, b, T3, rfl, hinv, hb, hT3, rfl⟩ (Own.of (by assumption) (News.sub (by assumption) ?_))
    show ∀ q ∈ (_, _) :: (C, _) :: (dl, _) :: (30, _) :: (T3.c1, _) :: (37, _) :: (T3.c2, _) :: [], q ∈ _
    walk_at "mine sub"
end
-- R13
section
local macro_rules | `(tactic| walk_at "mine stop") => `(tactic| with_reducible first | show wpAny _ _ (exec (Stmt.For _ _ _ _ _) _) _ _ _ | show wpAny _ _ (PySem.call (Value.type "range") _ _) _ _ _ | show wpAny _ _ (PySem.call (Value.type "list") _ _) _ _ _ | show wpAny _ _ (subscriptTail (PySem.Expr.Name _ _) _ (Value.ref _) (Value.int _ _)) _ _ _)
theorem dropped_t {w : World} {p : Program} {loose : List Str} {mean : ExcName → Option Value} {mg mb : Str → Option Value} {wl : Addr} {wv : List Value} {we cut : Nat} {tc : Tok} {ws : List Int}
    (hI : IntsAre wv ws) (hwl : ws.length ≤ 8) (hcut : cut ≤ ws.length) :
    Tell PySem.Challenge.rw_pg0218_01.row.prog w (Mine.hd.heap_39 w.params) p loose mean mg mb (fun _ => True) 30 120 (.ref 96) [.ref wl, .int cut tc] [(wl, listOf wv.toArray we)]
      (fun v news => ∃ (D : Addr) (ds : List Value) (e : Nat), v = .ref D ∧ IntsAre ds (deckOf ws cut) ∧ news = [(D, listOf ds.toArray e), (wl, listOf wv.toArray we)]) := by
  k_fill
  refine Tell.enterC (binds := [("waits", .ref wl), ("cut", .int cut tc)]) (by k_is) (by k_is) (fun s => BindsTo.of_eq rfl) rfl (by decide +kernel) rfl rfl rfl ?_
  intro A base g outer s L cells Q B hH X T9 hG F N Y hlt hd hu hret
  k_cells Y
  have hwvl : wv.length = ws.length := hI.length
  have hwL : Hid (@Ne Nat wl (L + 1)) := Nat.ne_of_lt (Nat.lt_succ_of_lt (hlt _ (.head _)))
  replace N : News g L _ ((L + 1, _) :: (wl, listOf wv.toArray we) :: []) := N
  k_steps
  rename Obj => oM
  rename oM.data = _ => dM
  rename Fr _ _ _ _ => F1
  rename News _ _ _ _ => N1
  rename_i hl _ lh _
  have oh : LCg.Off1 hl [(L + 1, oM), (wl, listOf wv.toArray we)] := ⟨Nat.ne_of_lt lh.1, Nat.ne_of_lt lh.2, trivial⟩
  clear lh
  refine For_turns F1 ?_ (hE := PassesOwn.never)
  k_steps
  obtain ⟨s1, s2, s3⟩ := span_down cut (by omega)
  refine range3_r (by k_asm) (by k_asm) (by decide) s3 ?_
  intro r1 h1 tk1 t1 u1 v1 hR1 F2 N2
  k_steps
  refine list_range_g hH F2 N2 hR1 s1 s2 (by omega) ?_
  intro d1 dv1 e1 h2 tk2 F3 N3 l3 I1
  rw [down_list] at I1
  k_lt l3
  have od1 : LCg.Off1 d1 [(hl, listOf #[] 0), (L + 1, oM), (wl, listOf wv.toArray we)] := ⟨Nat.ne_of_lt l3.1, Nat.ne_of_lt l3.2.1, Nat.ne_of_lt l3.2.2, trivial⟩
  clear l3 hR1 N2 F2
  k_steps
  rw [hwvl]
  refine range2_r (by k_asm) (by k_asm) ?_
  intro r2 h3 tk3 t2 u2 v2 hR2 F4 N4
  k_steps
  obtain ⟨q1, q2⟩ := span_cut ws.length (by omega) cut (by omega) hcut
  refine list_range_g hH F4 N4 hR2 q1 q2 (by omega) ?_
  intro d2 dv2 e2 h4 tk4 F5 N5 l5 I2
  rw [show (cut : Int) + 1 = ((cut + 1 : Nat) : Int) by omega, up_list] at I2
  k_lt l5
  have od2 : LCg.Off1 d2 [(d1, listOf dv1.toArray e1), (hl, listOf #[] 0), (L + 1, oM), (wl, listOf wv.toArray we)] := ⟨Nat.ne_of_lt l5.1, Nat.ne_of_lt l5.2.1, Nat.ne_of_lt l5.2.2.1, Nat.ne_of_lt l5.2.2.2, trivial⟩
  clear l5 hR2 N4 F4 N3 F3
  k_steps
  rename Fr _ _ _ _ => F6
  rename News _ _ _ _ => N6
  have lll : ∀ p ∈ [(d2, listOf dv2.toArray e2), (d1, listOf dv1.toArray e1), (hl, listOf #[] 0), (L + 1, oM), (wl, listOf wv.toArray we)], @LT.lt Nat _ p.1 h4.objs.size := fun p hp => Heap.lt_size (N5 p hp).1
  dsimp only at N6 ⊢
  clear N5 F5
  generalize h4.objs.size = ll at *
  k_lt lll
  replace N6 : News g L _ [(ll, listOf #[.ref d1, .ref d2] 0), (d2, listOf dv2.toArray e2), (d1, listOf dv1.toArray e1), (hl, listOf #[] 0), (L + 1, oM), (wl, listOf wv.toArray we)] := N6
  clear N1
  refine turnsL_by (l := ll) (vs := [.ref d1, .ref d2]) (e := 0) (σ := DropSt) (fun _ => [("waits", .ref wl)]) (fun c => (hl, listOf c.pv.toArray c.e) :: (L + 1, oM) :: (wl, listOf wv.toArray we) :: (d1, listOf dv1.toArray e1) :: (d2, listOf dv2.toArray e2) :: c.ts)
    (fun k c => PairsIn c.ts c.pv (hpsAt ws cut k) ∧ ∀ t ∈ c.ts, hl ≠ t.1) ⟨[], 0, [], 0, 0⟩ (fun _ _ => rfl) hH F6 N6 (.head _) ?sub ?vars ?inv ?turn ?done
  case sub => walk_at "mine sub"
  case vars => walk_at "mine vars"
  case inv => exact ⟨.nil, List.forall_mem_nil _⟩
  case turn =>
    clear F6 N6
    rintro I k c v it u h tk - hv ⟨i1, i2⟩ hne F N
    try dsimp only at i1 i2 hne F N
    replace F : Fr g L h _ := F
    replace N : News g L h _ := N
    obtain ⟨ha, hav, hae, cards, rfl, hmem, hIa, hnext, hha, hcl, hcb⟩ : ∃ ha hav hae cards, v = .ref ha ∧ (ha, listOf (List.toArray hav) hae) ∈ [(d1, listOf dv1.toArray e1), (d2, listOf dv2.toArray e2)] ∧ IntsAre hav (cards.map fun (x : Nat) => (x : Int)) ∧ hpsAt ws cut (k + 1) = dropGo ws cards 0 (hpsAt ws cut k) ∧ Hid (@Ne Nat hl ha) ∧ cards.length ≤ 8 ∧ ∀ x ∈ cards, 1 ≤ x ∧ x ≤ ws.length := by
      rcases k with _ | _ | k
      · obtain rfl := Option.some.inj hv
        exact ⟨d1, dv1, e1, downN cut, rfl, .head _, I1, rfl, od1.1, by rw [downN_length]; omega, fun x hx => ⟨downN_pos x hx, Nat.le_of_lt_succ (downN_lt (by omega) x hx)⟩⟩
      · obtain rfl := Option.some.inj hv
        exact ⟨d2, dv2, e2, upN (cut + 1) (ws.length - cut), rfl, .tail _ (.head _), I2, rfl, od2.2.1, by rw [upN_length]; omega, fun x hx => ⟨upN_pos (by omega) x hx, Nat.le_of_lt_succ (upN_lt (by omega) x hx)⟩⟩
      · cases hv
    have hL1 : (ha, listOf hav.toArray hae) ∈ (hl, listOf c.pv.toArray c.e) :: (L + 1, oM) :: (wl, listOf wv.toArray we) :: (d1, listOf dv1.toArray e1) :: (d2, listOf dv2.toArray e2) :: c.ts := by
      rcases List.mem_cons.mp hmem with e | e
      · exact .tail _ (.tail _ (.tail _ (e ▸ .head _)))
      · exact .tail _ (.tail _ (.tail _ (.tail _ (List.mem_singleton.mp e ▸ .head _))))
    have haI : Hid (@Ne Nat ha I) := hne (ha, _) (.tail _ hL1)
    clear hmem hv I1 I2
    replace N : News g L h ((ha, listOf hav.toArray hae) :: (I, it) :: (ll, listOf #[.ref d1, .ref d2] 0) :: (hl, listOf c.pv.toArray c.e) :: (L + 1, oM) :: (wl, listOf wv.toArray we) :: (d1, listOf dv1.toArray e1) :: (d2, listOf dv2.toArray e2) :: c.ts) :=
      News.sub N (List.forall_mem_cons.mpr ⟨.tail _ (.tail _ hL1), fun q hq => hq⟩)
    clear hL1
    k_steps
    rename Fr _ _ _ _ => F7
    rename News _ _ _ _ => N7
    rename_i th0 _
    refine For_turns F7 ?_ (hE := PassesOwn.never)
    k_steps
    have hneI : ∀ (o : Obj), ∀ p ∈ (hl, o) :: (L + 1, oM) :: (wl, listOf wv.toArray we) :: (d1, listOf dv1.toArray e1) :: (d2, listOf dv2.toArray e2) :: c.ts, p.1 ≠ I := fun o => List.forall_mem_cons.mpr ⟨(show hl ≠ I from hne (hl, listOf c.pv.toArray c.e) (.tail _ (.head _))), fun p hp => hne p (.tail _ (.tail _ hp))⟩
    have hllI := hne (ll, _) (.head _)
    refine turnsL_by (l := ha) (vs := hav) (e := hae) (σ := DropSt) (fun c' => [("waits", .ref wl), ("hour", .int c'.hour c'.th)])
      (fun c' => (I, it) :: (ll, listOf #[.ref d1, .ref d2] 0) :: (hl, listOf c'.pv.toArray c'.e) :: (L + 1, oM) :: (wl, listOf wv.toArray we) :: (d1, listOf dv1.toArray e1) :: (d2, listOf dv2.toArray e2) :: c'.ts)
      (fun j c' => DropInv ws hl cards (hpsAt ws cut (k + 1)) j c' ∧ ∀ t ∈ c'.ts, t.1 ≠ I) ⟨c.pv, c.e, c.ts, 0, th0⟩ (fun _ _ => rfl) hH (by k_asm) (by k_asm) (.head _) ?sub2 ?vars2 ?inv2 ?turn2 ?done2
    case sub2 => walk_at "mine sub"
    case vars2 => walk_at "mine vars"
    case inv2 => exact ⟨⟨_, i1, Nat.le_trans (hpsAt_length ws cut hcut k) (by omega), hnext.symm, i2⟩, fun t ht => hneI (listOf #[] 0) t (.tail _ (.tail _ (.tail _ (.tail _ (.tail _ ht)))))⟩
    case turn2 =>
      clear i1 i2
      rintro J j c2 v jt u2 h tk - hv ⟨inv, hts⟩ hne2 F N
      try dsimp only at inv hne2 F N
      replace F : Fr g L h _ := F
      replace N : News g L h _ := N
      obtain ⟨x', tx, rfl, hx9⟩ := IntsAre.at hIa j v hv
      rw [List.getElem?_map] at hx9
      obtain ⟨x, hx, rfl⟩ := Option.map_eq_some_iff.mp hx9
      obtain ⟨hx1, hx2⟩ := hcb x (List.mem_of_getElem? hx)
      clear hx9 hv
      k_steps
      refine item_list_ints (PySem.IsL.isList (n := we) ((by assumption : News _ _ _ _).get (by k_mem))) hI (by omega) (by omega) (by omega) ?_
      intro tw
      rw [show ((x : Int) - 1).toNat = x - 1 by omega]
      k_steps
      rename Fr _ _ _ _ => F8
      rename News _ _ _ _ => N8
      rename_i tx _ _ th1 _ tup hq l8
      replace N8 : News g L hq ((tup, pairO (c2.hour + ws.getD (x - 1) 0) (x : Int) th1 tx) :: (J, jt) :: (ha, listOf hav.toArray hae) :: (I, it) :: (ll, listOf #[.ref d1, .ref d2] 0) :: (hl, listOf c2.pv.toArray c2.e) :: (L + 1, oM) :: (wl, listOf wv.toArray we) :: (d1, listOf dv1.toArray e1) :: (d2, listOf dv2.toArray e2) :: c2.ts) := N8
      generalize hhr : c2.hour + ws.getD (x - 1) 0 = hr1 at *
      have Hts : ∀ p ∈ (tup, pairO hr1 (x : Int) th1 tx) :: c2.ts, hq.get? p.1 = some p.2 := List.forall_mem_cons.mpr ⟨(N8 _ (.head _)).1, fun p hp => (N8 p (.tail _ (.tail _ (.tail _ (.tail _ (.tail _ (.tail _ (.tail _ (.tail _ (.tail _ (.tail _ hp))))))))))).1⟩
      have hpl : c2.pv.length ≤ 100000 := by
        obtain ⟨ps, a1, a2, _⟩ := inv
        have := a1.length
        have := (List.getElem?_eq_some_iff.mp hx).1
        omega
      have hap0 : ∀ q ∈ c2.ts, ∀ r ∈ [(hl, listOf c2.pv.toArray c2.e)], q.1 ≠ r.1 := fun q hq r hr => by
        obtain ⟨_, _, _, _, a4⟩ := inv
        rw [List.mem_singleton.mp hr]; exact (a4 q hq).symm
      have hall : ∀ v ∈ c2.pv, TupIn ((tup, pairO hr1 (x : Int) th1 tx) :: c2.ts) v := fun v hv => by
        obtain ⟨ps, a1, _⟩ := inv
        exact (a1.mono fun p hp => .tail _ hp).all v hv
      have b1 : Hid (@Ne Nat hl J) := hne2 (hl, _) (.tail _ (.tail _ (.tail _ (.head _))))
      have b2 : Hid (@Ne Nat hl I) := hneI (listOf c2.pv.toArray c2.e) _ (.head _)
      refine' Tell.use (rest := (tup, pairO hr1 (x : Int) th1 tx) :: (J, jt) :: (ha, listOf hav.toArray hae) :: (I, it) :: (ll, listOf #[.ref d1, .ref d2] 0) :: (L + 1, oM) :: (wl, listOf wv.toArray we) :: (d1, listOf dv1.toArray e1) :: (d2, listOf dv2.toArray e2) :: c2.ts) (heappush_t (lt := ltH hq) (P := TupIn ((tup, pairO hr1 (x : Int) th1 tx) :: c2.ts)) (vs := c2.pv) (n := c2.e) (v := .ref tup) hall ⟨_, _, _, _, _, rfl, .head _⟩ hpl) ?cB1 ?cH1 ?cF1 ?cN1 ?cX1 ?cT1 ?cA1 ?cf1 ?ck1 ?cs1 ?cr1 ?ca1 ?cP1 ?cd1 ?cu1 ?cret1
      case cB1 => exact B
      case cH1 => first | exact hH | assumption
      case cF1 => assumption
      case cN1 => assumption
      case cX1 => exact X
      case cT1 => first | exact T | assumption
      case cA1 => exact Around.frames_deeper B.stack
      case cf1 => exact rfl
      case ck1 => exact rfl
      case cs1 => walk_at "mine sub"
      case cr1 => walk_at "mine sub"
      case ca1 => walk_at "mine apart"
      case cP1 => exact fun g' st hr => cmp_pair Hts (List.forall_mem_cons.mpr ⟨hr _ (.head _), fun p hp => hr p (.tail _ (.tail _ (.tail _ (.tail _ (.tail _ (.tail _ (.tail _ (.tail _ (.tail _ hp)))))))))⟩)
      case cd1 => walk_at "mine room"
      case cu1 => walk_at "mine room"
      rintro _ _ h' tk' ⟨rfl, rfl⟩ F' N' hap
      clear hap
      simp only [List.cons_append, List.nil_append] at N'
      k_steps
      exact FPost.next ⟨hpush (ltH hq) (.ref tup) c2.pv, c2.e + 1, (tup, pairO hr1 (x : Int) th1 tx) :: c2.ts, hr1, th1⟩ (by k_asm) (by k_asm) (by walk_at "mine sub") (by walk_at "mine sub")
        (List.forall_mem_cons.mpr ⟨hne2 _ (.tail _ (.head _)), List.forall_mem_cons.mpr ⟨hne2 _ (.tail _ (.tail _ (.head _))), List.forall_mem_cons.mpr ⟨b1, List.forall_mem_cons.mpr ⟨hne2 _ (.tail _ (.tail _ (.tail _ (.tail _ (.head _))))), List.forall_mem_cons.mpr ⟨hne2 _ (.tail _ (.tail _ (.tail _ (.tail _ (.tail _ (.head _)))))), List.forall_mem_cons.mpr ⟨hne2 _ (.tail _ (.tail _ (.tail _ (.tail _ (.tail _ (.tail _ (.head _))))))), List.forall_mem_cons.mpr ⟨hne2 _ (.tail _ (.tail _ (.tail _ (.tail _ (.tail _ (.tail _ (.tail _ (.head _)))))))), List.forall_mem_cons.mpr ⟨Nat.ne_of_gt l8.1, fun p hp => hne2 p (.tail _ (.tail _ (.tail _ (.tail _ (.tail _ (.tail _ (.tail _ (.tail _ hp))))))))⟩⟩⟩⟩⟩⟩⟩⟩)
        (by walk_at "mine vars") ⟨inv.step hx hhr.symm Hts (Nat.ne_of_lt l8.2.2.2.2.1), List.forall_mem_cons.mpr ⟨Nat.ne_of_gt l8.2.2.1, hts⟩⟩
    case done2 =>
      clear i1 i2
      rintro c2 u2 h tk ⟨inv, hts⟩ F N
      try dsimp only at inv F N
      replace F : Fr g L h _ := F
      replace N : News g L h _ := N
      rw [show hav.length = cards.length by rw [hIa.length, List.length_map]] at inv
      k_steps
      exact FPost.next c2 (by k_asm) (by k_asm) (by walk_at "mine sub") (by walk_at "mine sub") (List.forall_mem_cons.mpr ⟨hneI (listOf c2.pv.toArray c2.e) _ (.head _), List.forall_mem_cons.mpr ⟨hneI (listOf c2.pv.toArray c2.e) _ (.tail _ (.head _)), List.forall_mem_cons.mpr ⟨hneI (listOf c2.pv.toArray c2.e) _ (.tail _ (.tail _ (.head _))), List.forall_mem_cons.mpr ⟨hneI (listOf c2.pv.toArray c2.e) _ (.tail _ (.tail _ (.tail _ (.head _)))), List.forall_mem_cons.mpr ⟨hneI (listOf c2.pv.toArray c2.e) _ (.tail _ (.tail _ (.tail _ (.tail _ (.head _))))), hts⟩⟩⟩⟩⟩) (by walk_at "mine vars") inv.fin
  case done =>
    clear F6 N6
    rintro c u h tk ⟨i1, i2⟩ F N
    try dsimp only at i1 i2 F N
    replace F : Fr g L h _ := F
    replace N : News g L h _ := N
    replace i1 : PairsIn c.ts c.pv (heapOf ws cut) := i1
    replace N : News g L h ((wl, listOf wv.toArray we) :: (hl, listOf c.pv.toArray c.e) :: (L + 1, oM) :: c.ts) := News.sub N (by walk_at "mine sub")
    k_steps
    rename Fr _ _ _ _ => F7
    rename News _ _ _ _ => N7
    refine LCg.CompSrc.ledger hH F7 N7 (.head _) (by rw [sizeLine_eq, List.size_toArray, hwvl]; omega) ?_
    intro g'
    have hwl' : Hid (@Ne Nat hl wl) := oh.2.1.symm
    have hwL' : Hid (@Ne Nat hl (L + 1)) := oh.1.symm
    have hpl := heapOf_length ws cut hcut
    refine comp_restN (fun i ys nw => ∃ pv e ps, nw = (wl, listOf wv.toArray we) :: (hl, listOf (List.toArray pv) e) :: (L + 1, oM) :: c.ts ∧ PairsIn c.ts pv ps ∧ ps.length + i = ws.length ∧ IntsAre ys ((deckOf ws cut).take i) ∧ (popAll ws.length (heapOf ws cut)).drop i = popAll ps.length ps)
      ⟨c.pv, c.e, heapOf ws cut, rfl, i1, hpl, .nil, by rw [List.drop_zero, hpl]⟩ ?tu ?fi
    case tu =>
      clear N7 F7 i1
      rintro i v I oI C oC D m₂ ys _ h tk E' hi hv ⟨pv, e, ps, rfl, k1, k2, k3, k4⟩ hC2 hx F N off
      have f1 := off3_i off
      have f2 := off3_c off
      have f3 := LCg.Off3.one off
      obtain ⟨pv, y, rfl⟩ : ∃ q y, pv = q ++ [y] := by
        have hne : pv ≠ [] := fun e => by have h1 := k1.length; rw [e, List.length_nil] at h1; rw [List.size_toArray, hwvl] at hi; omega
        exact ⟨_, _, (List.dropLast_concat_getLast hne).symm⟩
      obtain ⟨qs, q, rfl, k5, k6⟩ := k1.split
      obtain ⟨p1, p2⟩ := pop_step k4
      have hq2 := k5.length
      have hlen : (hpop ltP qs q).2.length = qs.length := hpop_len
      have hvlen : (hpop (ltH h) pv y).2.length = pv.length := hpop_len
      rw [List.length_append, List.length_singleton] at k2
      k_steps
      rename Fr _ _ _ _ => F8
      rename News _ _ _ _ => N8
      have Hts : ∀ p ∈ c.ts, h.get? p.1 = some p.2 := fun p hp => (N8 p (.tail _ (.tail _ (.tail _ (.tail _ (.tail _ (.tail _ hp))))))).1
      obtain ⟨⟨ta, tt, tu, m1, m2⟩, m3⟩ := pop_pairs Hts k5 k6
      have hap0 : ∀ q ∈ c.ts, ∀ r ∈ [(hl, listOf (pv ++ [y]).toArray e)], q.1 ≠ r.1 := fun q hq r hr => by
        rw [List.mem_singleton.mp hr]; exact (i2 q hq).symm
      refine' Tell.use (rest := (I, oI) :: (C, oC) :: (D, LCg.lst ys) :: (wl, listOf wv.toArray we) :: (L + 1, oM) :: c.ts) (heappop_t (lt := ltH h) (P := TupIn c.ts) (vs := pv) (n := e) (y := y) k5.all (k6.all _ (.head _)) (by omega)) ?cB2 ?cH2 ?cF2 ?cN2 ?cX2 ?cT2 ?cA2 ?cf2 ?ck2 ?cs2 ?cr2 ?ca2 ?cP2 ?cd2 ?cu2 ?cret2
      case cB2 => exact B
      case cH2 => first | exact hH | assumption
      case cF2 => assumption
      case cN2 => assumption
      case cX2 => exact X
      case cT2 => first | exact T | assumption
      case cA2 => exact Around.frames_deeper B.stack
      case cf2 => exact rfl
      case ck2 => exact rfl
      case cs2 => walk_at "mine sub"
      case cr2 => walk_at "mine sub"
      case ca2 => walk_at "mine apart"
      case cP2 => exact fun g' st hr => cmp_pair Hts (fun p hp => hr p (.tail _ (.tail _ (.tail _ (.tail _ (.tail _ hp))))))
      case cd2 => walk_at "mine room"
      case cu2 => walk_at "mine room"
      rintro _ _ h' tk' ⟨rfl, rfl⟩ F' N' hap
      clear hap
      simp only [List.cons_append, List.nil_append] at N'
      rw [m1]
      replace N' : News g L h' ((ta, pairO (hpop ltP qs q).1.1 (hpop ltP qs q).1.2 tt tu) :: (I, oI) :: (C, oC) :: (D, LCg.lst ys) :: (wl, listOf wv.toArray we) :: (hl, listOf (hpop (ltH h) pv y).2.toArray (e + 1)) :: (L + 1, oM) :: c.ts) := News.sub N' (List.forall_mem_cons.mpr ⟨.tail _ (.tail _ (.tail _ (.tail _ (.tail _ (.tail _ m2))))), by walk_at "mine sub"⟩)
      k_steps
      refine LCg.CompEnd.intro (by k_asm) (by k_asm) ((wl, listOf wv.toArray we) :: (hl, listOf (hpop (ltH h) pv y).2.toArray (e + 1)) :: (L + 1, oM) :: c.ts) (by walk_at "mine sub") (off3_mk ⟨f1.1, f1.2.1, f1.2.2⟩ ⟨f2.1, f2.2.1, f2.2.2⟩ ⟨f3.1, f3.2.1, f3.2.2⟩) (Or.inr ⟨_, .head _, rfl, _, rfl⟩) ⟨_, e + 1, _, rfl, m3, by omega, ?_, p2⟩
      rw [deckOf, p1]
      exact ints_append k3 (.cons _ _ .nil)
    case fi =>
      rintro ys _ ⟨pv, e, ps, rfl, k1, k2, k3, k4⟩
      rw [List.take_of_length_le (by rw [deckOf_length, List.size_toArray, hwvl]; exact Nat.le_refl _)] at k3
      k_steps
      refine hret _ _ _ _ ⟨_, ys, ys.length, rfl, k3, rfl⟩ (Own.of (by assumption) (News.sub (by assumption) ?_))
      show ∀ q ∈ (_, _) :: (wl, _) :: [], q ∈ _
      walk_at "mine sub"
end
-- R14
section
theorem off1_all {D : Addr} {l : List (Addr × Obj)} (h : LCg.Off1 D l) : ∀ p ∈ l, p.1 ≠ D := fun p hp => off1_l (a := p.1) (o := p.2) h hp
noncomputable def DoneAt (g : Heap) (L : Addr) (s : Shared) (fl : Flow) (s' : Shared) : Prop := ∃ h' tk m', fl = .ret (.bool true) ∧ Fr g L h' m' ∧ GrownAt 30 h' ∧ GrownAt 37 h' ∧ s' = { s with heap := h', toks := tk }
local macro_rules | `(tactic| walk_at "mine stop") => `(tactic| with_reducible first | show DoneAt _ _ _ _ _ | show wpAny _ _ (eval (PySem.Expr.Dict _ _ _) _) _ _ _ | show KdnMade _ _ _ _ _ _ _ | show wpAny _ _ (PySem.call (Value.builtin "dict.get") _ _) _ _ _ | show wpAny _ _ (subscriptTail (PySem.Expr.Name _ _) _ (Value.ref _) (Value.int _ _)) _ _ _ | show wpAny _ _ (compareOp CmpOp.NotEq (Value.ref _) (Value.ref _)) _ _ _ | show wpAny _ _ (compareOp CmpOp.In (Value.ref _) (Value.ref _)) _ _ _)
theorem DoneAt.of {g : Heap} {L : Addr} {s : Shared} {h' : Heap} {tk : Nat} {m' : Str → Option Value} (F : Fr g L h' m') (a : GrownAt 30 h') (b : GrownAt 37 h') : DoneAt g L s (.ret (.bool true)) { s with heap := h', toks := tk } := ⟨h', tk, m', rfl, F, a, b, rfl⟩
theorem done_by {M : Model} {A : Around} {t : Sem Flow} {Q : Flow → Shared → Prop} {E : Value → Shared → Prop} {s : Shared} {g : Heap} {L : Addr} {m : Str → Option Value} (_ : Fr g L s.heap m)
    (h : wpAny M A t (DoneAt g L s) (fun _ _ => False) s)
    (k : ∀ h' tk m', Fr g L h' m' → GrownAt 30 h' → GrownAt 37 h' → Q (.ret (.bool true)) { s with heap := h', toks := tk }) : wpAny M A t Q E s :=
  wpAny_mono h (fun fl s' x => by obtain ⟨h', tk, m', rfl, F', a, b, rfl⟩ := x; exact k h' tk m' F' a b) fun _ _ e => e.elim
theorem law_holds : PySem.Challenge.rw_pg0218_01.Holds := by
  refine Mine.hd ?_
  w_strict (k_go0)
  refine done_by (by assumption) ?walk ?post
  case post =>
    intro h' tk m' F9 g1 g2
    dsimp only
    refine ⟨?_, ⟨g2, g1, trivial⟩⟩
    k_end; wrow_close
  case walk =>
    rename Fr _ _ _ _ => F
    rename News _ _ _ _ => N
    rename IntsAre _ _ => hI
    rename Below _ _ _ _ => B
    rename Top _ _ _ _ _ _ => T
    rename Frag.In _ _ => X
    rename CodeHd _ (41, 37).fst _ => G2
    rename CodeHd _ (34, 30).fst _ => G1
    rename _ ∧ _ => lt0
    rename Heap.IsList (ghostOf _ _) _ _ => hSL
    rename ¬ _ => hcond
    rename Obj.data _ = Data.cell _ => dE2; revert dE2
    rename Obj.data _ = Data.cell _ => dE; intro dE2
    revert hI hcond dE dE2 X T B F hSL G1 G2 N lt0
    rename CellsAre .. => z; clear z
    rename Dflts .. => z; clear z
    rename True => z; clear z
    rename ReadsAllW .. => z; clear z
    rename Reads .. => z; clear z
    rename Well .. => z; clear z
    rename ReadsAll .. => z; clear z
    rename Heap.IsList _ _ _ => z; clear z
    rename WData.layableAll _ = true => z; clear z
    rename WShape.hasAll _ _ _ = true => z; clear z
    rename PyData.layable0 _ = true => z; clear z
    rename PyData.layableAll0 _ = true => z; clear z
    rename Shape.has _ _ = true => z; clear z
    rename TabsAt .. => z; clear z
    rename TopW .. => z; clear z
    rename TopE .. => z; clear z
    rename Tables .. => z; clear z
    rename Top _ _ _ _ _ _ => z; clear z
    rename LooseAre .. => z; clear z
    rename Flt.MathXP .. => z; clear z
    rename ∀ _, _ => z; clear z
    rename _ = #[] => z; clear z
    rename Heap.CodeRec _ _ _ => z; clear z
    rename Heap.get? _ _ = _ => z; clear z
    rename Ground .. => z; clear z
    intro hI hcond dE X T B F hSL G1 G2 N lt0 dE2
    rename_i w s0 s1 mg mb Y a5 a6 a7 a8 a9 ns a10 a11 sl vs a12 h1 a13 oE oF
    clear Y
    dsimp only at G1 G2
    generalize ghostOf _ _ = g at *
    generalize hL : s1.heap.objs.size = L at *
    clear hL
    replace dE : oE.data = Data.cell none := dE
    replace dE2 : oF.data = Data.cell none := dE2
    replace F : Fr g L h1 (fun y => if y = Str.ofString "script" then some (.ref sl) else none) := F
    have hlen : vs.length = ns.length := hI.length
    k_steps
    rename IntsAre _ (ns ++ _) => hI2
    rename Fr _ _ _ _ => F1
    rename News _ _ _ _ => N1
    rename_i wsA _ _
    generalize hz : (if (if (ns.length : Int) < 8 then (ns.length : Int) else 8) > 5 then (if (ns.length : Int) < 8 then (ns.length : Int) else 8) else 5) = z at *
    obtain ⟨k, rfl, hk5, hk8, hkn⟩ := size_of hz
    clear hz
    have hl2 := hI2.length
    rw [List.length_append, show [(7 : Int), 14, 5, 0, 1].length = 5 from rfl] at hl2
    have hns : ns.length ≤ 63 := by omega
    have hwA : wsA.length ≤ 68 := by omega
    refine upto_g (by k_asm) (by k_asm) (by k_mem) (by omega) ?_ (by with_unfolding_all rfl)
    intro D9 h9 F9 N9 l9
    k_lt l9
    k_steps
    have hH : callerA.handled = none := rfl
    have hd : callerA.depth + 200 < recursionLimit := by decide
    have hu : callerA.units + 1000 < cLine := by decide
    have hI3 := hI2.take k
    have hk : ((ns ++ [7, 14, 5, 0, 1]).take k).length = k := by
      rw [List.length_take, List.length_append, show [(7 : Int), 14, 5, 0, 1].length = 5 from rfl, Nat.min_eq_left hkn]
    have hkw := hI3.length
    rw [hk] at hkw
    have hkw8 := Nat.le_trans (Nat.le_of_eq hkw) hk8
    generalize List.take k (ns ++ [7, 14, 5, 0, 1]) = ns3 at *
    generalize hw3 : List.take k _ = ws3 at *
    refine LCg.CompSrc.ledger hH (by k_asm) (by k_asm) (by k_mem) (by rw [sizeLine_eq, List.size_toArray]; omega) ?_
    intro g'
    refine comp_rest (fun i ys => IntsAre ys ((ns3.take i).map (fun x => x.fmod 60))) .nil ?tu ?fi
    case tu =>
      intro i v I oI C oC D m₂ ys h tk E' hi hv hinv hC2 hx F N off
      obtain ⟨x, tt, rfl, hn⟩ := IntsAre.at hI3 i v (by simpa using hv)
      k_steps
      rw [List.take_add_one, hn, List.map_append]
      exact ints_append hinv (.cons _ _ .nil)
    case fi =>
      intro fv hfv
      rw [List.take_of_length_le (by rw [List.size_toArray, hkw, hk]; exact Nat.le_refl _)] at hfv
      obtain ⟨fs, hfs⟩ : ∃ fs, fs = ns3.map (fun x => x.fmod 60) := ⟨_, rfl⟩
      rw [← hfs] at hfv
      have hfl : fs.length = k := by rw [hfs, List.length_map, hk]
      have hfb : ∀ x ∈ fs, 0 ≤ x ∧ x < 60 := by
        intro x hx
        rw [hfs] at hx
        obtain ⟨y, _, rfl⟩ := List.mem_map.mp hx
        rw [Int.fmod_eq_emod_of_nonneg _ (by decide)]
        omega
      clear hfs
      have hfvl := hfv.length
      have hfv8 : fv.length ≤ 8 := by rw [hfvl, hfl]; exact hk8
      k_steps
      rename Fr _ _ _ _ => F2
      rename News _ _ _ _ => N2
      rename LCg.Off1 _ _ => o2
      rename_i lA _ _ _ lB uB _ _ lC fl _ _
      refine LCg.CompSrc.ledger hH (by k_asm) (by k_asm) (by k_mem) (by rw [sizeLine_eq, List.size_toArray]; omega) ?_
      intro g'
      refine comp_rest (fun i ys => IntsAre ys ((fs.take i).map (fun x => 1 + x.fmod 4))) .nil ?tu ?fi
      case tu =>
        intro i v I oI C oC D m₂ ys h tk E' hi hv hinv hC2 hx F N off
        obtain ⟨x, tt, rfl, hn⟩ := IntsAre.at hfv i v (by simpa using hv)
        k_steps
        rw [List.take_add_one, hn, List.map_append]
        exact ints_append hinv (.cons _ _ .nil)
      case fi =>
        intro wv hwv
        rw [List.take_of_length_le (by rw [List.size_toArray, hfvl]; exact Nat.le_refl _)] at hwv
        obtain ⟨ws, hws⟩ : ∃ ws, ws = fs.map (fun x => 1 + x.fmod 4) := ⟨_, rfl⟩
        rw [← hws] at hwv
        have hwl : ws.length = k := by rw [hws, List.length_map, hfl]
        have hw1 : ∀ x ∈ ws, 1 ≤ x := by
          intro x hx
          rw [hws] at hx
          obtain ⟨y, _, rfl⟩ := List.mem_map.mp hx
          rw [Int.fmod_eq_emod_of_nonneg _ (by decide)]
          omega
        clear hws
        have hwvl := hwv.length
        have hwv8 : wv.length ≤ 8 := by rw [hwvl, hwl]; exact hk8
        k_steps
        rename_i wl _ _ _ _ ow _ _ _ _ _
        obtain ⟨cut, hcut, hck⟩ : ∃ cut : Nat, fs.sum.fmod ((k : Int) + 1) = (cut : Int) ∧ cut ≤ k := by
          have h1 := Int.emod_nonneg fs.sum (show ((k : Int) + 1) ≠ 0 by omega)
          have h2 := Int.emod_lt_of_pos fs.sum (show 0 < ((k : Int) + 1) by omega)
          rw [Int.fmod_eq_emod_of_nonneg _ (by omega)]
          exact ⟨(fs.sum % ((k : Int) + 1)).toNat, by omega, by omega⟩
        rw [hcut]
        rename News _ _ _ _ => N3
        rename Fr _ _ _ _ => F3
        refine' Tell.use (rest := [(fl, LCg.lst fv), (L + 1 + 1, oE), (L + 1, oF), (37, tabObj #[]), (30, tabObj #[])]) (dropped_t (cut := cut) hwv (by omega) (by omega)) ?cB1 ?cH1 ?cF1 ?cN1 ?cX1 ?cT1 ?cA1 ?cf1 ?ck1 ?cs1 ?cr1 ?ca1 ?cP1 ?cd1 ?cu1 ?cret1
        case cB1 => exact B
        case cH1 => first | exact hH | assumption
        case cF1 => assumption
        case cN1 => assumption
        case cX1 => exact X
        case cT1 => first | exact T | assumption
        case cA1 => exact Around.frames_deeper B.stack
        case cf1 => exact rfl
        case ck1 => exact rfl
        case cs1 => walk_at "mine sub"
        case cr1 => walk_at "mine sub"
        case ca1 => walk_at "mine apart"
        case cP1 => exact fun _ _ _ => trivial
        case cd1 => walk_at "mine room"
        case cu1 => walk_at "mine room"
        rintro _ _ h' tk' ⟨dk, ds, e1, rfl, hds, rfl⟩ F' N' hap
        have od : LCg.Off1 dk [(fl, LCg.lst fv), (L + 1 + 1, oE), (L + 1, oF), (37, tabObj #[]), (30, tabObj #[])] := off1_of fun r hr => (hap (dk, _) (.head _) r hr).symm
        clear hap
        simp only [List.cons_append, List.nil_append] at N'
        k_steps
        rename Obj => oD
        rename oD.data = _ => dD
        refine item_list_ints (PySem.IsL.isList (n := fv.length) ((by assumption : News _ _ _ _).get (by k_mem))) hfv (by decide) (by omega) (by decide) ?_
        intro tw1
        k_steps
        refine item_list_ints (PySem.IsL.isList (n := fv.length) ((by assumption : News _ _ _ _).get (by k_mem))) hfv (by decide) (by omega) (by decide) ?_
        intro tw2
        k_steps
        rename Fr _ _ _ _ => F4
        rename News _ _ _ _ => N4
        have hmod : ∀ y : Int, ∃ x : Nat, y.fmod (k : Int) = (x : Int) ∧ x < k := fun y => by
          have h1 := Int.emod_nonneg y (show (k : Int) ≠ 0 by omega)
          have h2 := Int.emod_lt_of_pos y (show 0 < (k : Int) by omega)
          rw [Int.fmod_eq_emod_of_nonneg _ (by omega)]
          exact ⟨(y % (k : Int)).toNat, by omega, by omega⟩
        obtain ⟨one, ho1, ho2⟩ := hmod ((fs.getD (Int.toNat 0) 0).fdiv 4)
        obtain ⟨two, hw1, hw2⟩ := hmod ((fs.getD (Int.toNat 1) 0).fdiv 4)
        rw [ho1, hw1] at F4
        clear hmod ho1 hw1
        refine kdn_eval (knd := PySem.intKind _ _) F4 N4 (Top.nolimit (by k_asm)) rfl rfl (List.cons_ne_nil _ _) (Nat.le_of_ble_eq_true rfl) ?_
        intro gd h5 oG F5 N5 l5 lo5 hd5
        k_lt l5
        have y1 : Hid (@Ne Nat dk gd) := Nat.ne_of_lt l5.1
        have y2 : Hid (@Ne Nat wl gd) := Nat.ne_of_lt l5.2.1
        have y3 : Hid (@Ne Nat fl gd) := Nat.ne_of_lt l5.2.2.1
        have y4 : Hid (@Ne Nat (L + 1 + 1) gd) := Nat.ne_of_lt l5.2.2.2.1
        have y5 : Hid (@Ne Nat (L + 1) gd) := Nat.ne_of_lt l5.2.2.2.2.1
        have y6 : Hid (@Ne Nat 37 gd) := Nat.ne_of_lt l5.2.2.2.2.2.1
        have y7 : Hid (@Ne Nat 30 gd) := Nat.ne_of_lt l5.2.2.2.2.2.2
        k_steps
        refine kdn_two F5 N5 (by k_updF) hd5 ?_
        intro h6 oG2 F6 N6 hd6
        try dsimp only at N6
        clear hd5 F5 N5 F4 N4
        k_steps
        rename IsRange _ _ _ _ _ _ _ _ => hR
        rename Fr _ _ _ _ => F7
        rename News _ _ _ _ => N7
        rename Obj => oE2
        rename oE2.data = _ => dE3
        obtain ⟨d, hd1, hrf⟩ := deck_riff hw1 (show cut ≤ ws.length by omega)
        rw [hd1] at hds
        rw [hwl] at hrf
        have hdl := deckOf_length ws cut
        rw [hd1, List.length_map, hwl] at hdl
        obtain ⟨hfull, hswap⟩ := final hrf hck hk5 hk8 ho2 hw2
        have h9 : ∀ x ∈ d, x < 10 := fun x hx => by
          rcases List.mem_append.mp (hrf.perm.mem_iff.mp hx) with h | h
          · exact downN_lt (by omega) x h
          · exact upN_lt (by omega) x h
        refine LCg.CompSrc.range hH F7 N7 hR (span_0 k (by omega)).1 (span_0 k (by omega)).2 (by rw [sizeLine_eq]; omega) ?_
        intro g'
        refine comp_rest (fun i ys => IntsAre ys (((swapped d one two).take i).map fun (x : Nat) => (x : Int))) .nil ?tu ?fi
        case tu =>
          clear N7 F7 hR
          rintro i v I oI C oC D m₂ ys h tk E' hi ⟨t0, rfl⟩ hinv hC2 hx F N off
          rw [show (0 : Int) + (i : Int) = ((i : Nat) : Int) by omega] at hx
          have hgi : goN one two i < k := by unfold goN; split; exact ho2; split; exact hw2; exact hi
          k_steps
          refine goes_call (by k_asm) (by k_mem) hd6 lo5 ?_
          intro tg kg
          rw [goTo_nat]
          k_steps
          refine item_list_ints (PySem.IsL.isList (n := e1) ((by assumption : News _ _ _ _).get (by k_mem))) hds (Int.natCast_nonneg _) (by rw [List.length_map]; omega) (by omega) ?_
          intro tz
          rw [getD_nat (show goN one two i < d.length by omega)]
          k_steps
          refine LCg.CompEnd.intro (by k_asm) (by k_asm) _ ?sub off trivial ⟨rfl, ?_⟩
          case sub => walk_at "mine sub"
          rw [swapped_next (by omega), List.map_append]
          exact ints_append hinv (.cons _ _ .nil)
        case fi =>
          clear N7 F7 hR
          intro ov hov
          rw [List.take_of_length_le (by rw [swapped_length, hdl]; exact Nat.le_refl _)] at hov
          k_steps
          rename Fr _ _ _ _ => F8
          rename News _ _ _ _ => N8
          rename_i ol _ _ oo
          have h1 : ∀ x ∈ d, 1 ≤ x := fun x hx => by
            rcases List.mem_append.mp (hrf.perm.mem_iff.mp hx) with h | h
            · exact downN_pos x h
            · exact upN_pos (by omega) x h
          have T0ok : Tabs.Ok ⟨#[], gd, oG2, #[], fl, LCg.lst fv⟩ := ⟨.inl rfl, .inl rfl, Nat.ne_of_gt l5.2.2.2.2.2.2, Nat.ne_of_gt l5.2.2.2.2.2.1, Nat.ne_of_gt l5.2.2.1, off1_r o2 (by walk_at "mine mem"), off1_r o2 (by walk_at "mine mem")⟩
          have hoff : LCg.Off1 dk (Tabs.led ⟨#[], gd, oG2, #[], fl, LCg.lst fv⟩) := ⟨off1_l od (by walk_at "mine mem"), Nat.ne_of_gt l5.1, off1_l od (by walk_at "mine mem"), off1_l od (by walk_at "mine mem"), trivial⟩
          have x1 : Hid (@Ne Nat (L + 1 + 1) dk) := off1_l od (by walk_at "mine mem")
          have x2 : Hid (@Ne Nat (L + 1) dk) := off1_l od (by walk_at "mine mem")
          have x3 : Hid (@Ne Nat (L + 1 + 1) fl) := off1_l o2 (by walk_at "mine mem")
          have x4 : Hid (@Ne Nat (L + 1) fl) := off1_l o2 (by walk_at "mine mem")
          have x5 : Hid (@Ne Nat (L + 1 + 1) gd) := Nat.ne_of_lt l5.2.2.2.1
          have x6 : Hid (@Ne Nat (L + 1) gd) := Nat.ne_of_lt l5.2.2.2.2.1
          refine' Tell.use (rest := [(ol, LCg.lst ov), (L + 1 + 1, oE2), (L + 1, oD)]) (three_t (gs := d) (dv := ds) (de := e1) (T := ⟨#[], gd, oG2, #[], fl, LCg.lst fv⟩) hds h9 (by omega) (by omega) T0ok hoff) ?cB2 ?cH2 ?cF2 ?cN2 ?cX2 ?cT2 ?cA2 ?cf2 ?ck2 ?cs2 ?cr2 ?ca2 ?cP2 ?cd2 ?cu2 ?cret2
          case cB2 => exact B
          case cH2 => first | exact hH | assumption
          case cF2 => assumption
          case cN2 => assumption
          case cX2 => exact X
          case cT2 => first | exact T | assumption
          case cA2 => exact Around.frames_deeper B.stack
          case cf2 => exact rfl
          case ck2 => exact rfl
          case cs2 => walk_at "mine sub"
          case cr2 => walk_at "mine sub"
          case ca2 => walk_at "mine apart"
          case cP2 => exact fun g' st _ => ⟨CodeHd.keeps G2 (fun b o e => st b o e), CodeHd.keeps G1 (fun b o e => st b o e)⟩
          case cd2 => walk_at "mine room"
          case cu2 => walk_at "mine room"
          rintro _ _ h' tk' ⟨X1, C1, cv, ce, b1, T1, rfl, hcv, hb1, hT1, rfl⟩ F' N' hap
          have oT1 : LCg.Off1 ol T1.led := off1_of fun q hq => hap q (.tail _ (.tail _ (.tail _ hq))) (ol, _) (.head _)
          clear hap
          simp only [Tabs.led, List.cons_append, List.nil_append] at N'
          obtain ⟨hf1, hf2, hf3⟩ := hfull
          obtain rfl : b1 = true := hb1.mpr hf2
          rw [show decide (backOf d = d.map fun (x : Nat) => (x : Int)) = true from decide_eq_true hf3] at N'
          rw [hf1] at hcv
          replace hcv : IntsAre cv [((d.getD 0 0 - 1 : Nat) : Int), ((d.getD 0 0 : Nat) : Int)] := hcv
          k_steps
          refine item_list_ints (PySem.IsL.isList (n := e1) ((by assumption : News _ _ _ _).get (by k_mem))) hds (by decide) (by rw [List.length_map]; omega) (by decide) ?_
          intro ta
          rw [show (0 : Int).toNat = ((0 : Nat) : Int).toNat from rfl, getD_nat (show 0 < d.length by omega)]
          k_steps
          refine item_list_ints (PySem.IsL.isList (n := e1) ((by assumption : News _ _ _ _).get (by k_mem))) hds (by decide) (by rw [List.length_map]; omega) (by decide) ?_
          intro tb
          rw [show (0 : Int).toNat = ((0 : Nat) : Int).toNat from rfl, getD_nat (show 0 < d.length by omega), pred_int (h1 _ (first_in (by omega)))]
          k_steps
          rename News _ _ _ _ => N9
          refine three_ne N9 (by walk_at "mine mem") (by walk_at "mine mem") hcv (by walk_at "mine mem") (by walk_at "mine mem") (.cons _ _ (.cons _ _ .nil)) (by walk_at "mine room") ?_
          clear hcv
          replace N9 : News g L _ [(ol, LCg.lst ov), (30, tabObj T1.p1), (T1.c1, T1.o1), (37, tabObj T1.p2), (T1.c2, T1.o2)] := News.sub N9 (by walk_at "mine sub")
          k_steps
          have hsl : (swapped d one two).length = k := by rw [swapped_length, hdl]
          have hs9 := swapped_all (P := fun x => x < 10) (show one < d.length by omega) (show two < d.length by omega) h9
          have hs1 := swapped_all (P := fun x => 1 ≤ x) (show one < d.length by omega) (show two < d.length by omega) h1
          generalize swapped d one two = o at *
          refine' Tell.use (rest := []) (three_t (gs := o) (dv := ov) (de := ov.length) (T := T1) hov hs9 (by omega) (by omega) hT1 oT1) ?cB3 ?cH3 ?cF3 ?cN3 ?cX3 ?cT3 ?cA3 ?cf3 ?ck3 ?cs3 ?cr3 ?ca3 ?cP3 ?cd3 ?cu3 ?cret3
          case cB3 => exact B
          case cH3 => first | exact hH | assumption
          case cF3 => assumption
          case cN3 => assumption
          case cX3 => exact X
          case cT3 => first | exact T | assumption
          case cA3 => exact Around.frames_deeper B.stack
          case cf3 => exact rfl
          case ck3 => exact rfl
          case cs3 => walk_at "mine sub"
          case cr3 => walk_at "mine sub"
          case ca3 => walk_at "mine apart"
          case cP3 => exact fun g' st _ => ⟨CodeHd.keeps G2 (fun b o e => st b o e), CodeHd.keeps G1 (fun b o e => st b o e)⟩
          case cd3 => walk_at "mine room"
          case cu3 => walk_at "mine room"
          rintro _ _ h' tk' ⟨X2, C2, cv2, ce2, b2, T2, rfl, hcv2, hb2, hT2, rfl⟩ F' N' -
          simp only [Tabs.led, List.cons_append, List.nil_append] at N'
          k_steps
          refine item_list_ints (PySem.IsL.isList (n := ov.length) ((by assumption : News _ _ _ _).get (by k_mem))) hov (by decide) (by rw [List.length_map]; omega) (by decide) ?_
          intro ta2
          rw [show (0 : Int).toNat = ((0 : Nat) : Int).toNat from rfl, getD_nat (show 0 < o.length by omega)]
          k_steps
          refine item_list_ints (PySem.IsL.isList (n := ov.length) ((by assumption : News _ _ _ _).get (by k_mem))) hov (by decide) (by rw [List.length_map]; omega) (by decide) ?_
          intro tb2
          rw [show (0 : Int).toNat = ((0 : Nat) : Int).toNat from rfl, getD_nat (show 0 < o.length by omega), pred_int (hs1 _ (first_in (by omega)))]
          k_steps
          rename News _ _ _ _ => N10
          rename Fr _ _ _ _ => F10
          refine three_in N10 (by walk_at "mine mem") (by walk_at "mine mem") hcv2 (x := ((o.getD 0 0 - 1 : Nat) : Int)) (y := ((o.getD 0 0 : Nat) : Int)) (by walk_at "mine mem") (by walk_at "mine mem") (.cons _ _ (.cons _ _ .nil)) (zv := []) (by walk_at "mine mem") (by walk_at "mine mem") .nil (.head _) (by walk_at "mine room") ?_ ?_
          · rcases hswap with ⟨e1, e2, e3⟩ | ⟨e1, e2, e3⟩
            · exact .inl ⟨by rw [e1]; rfl, hb2.mpr e2, decide_eq_true e3⟩
            · refine .inr ⟨by rw [e1]; rfl, ?_, decide_eq_false e3⟩
              cases b2 with
              | false => rfl
              | true => exact absurd (hb2.mp rfl) e2
          · exact DoneAt.of F10 (GrownAt.of N10 (by walk_at "mine mem")) (GrownAt.of N10 (by walk_at "mine mem"))
end
end Mine
set_option maxRecDepth 100000 in
set_option maxHeartbeats 8000000 in
theorem PySem.Challenge.cw_pg0218_01_holds : PySem.Challenge.rw_pg0218_01.Holds := by
  exact Mine.law_holds
