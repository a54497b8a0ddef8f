import PyProof.Rows.All
import Wide.All
import OpenK.AllK
import Wide.FinOn
import PySem.Challenge.RW_mq0155_01
set_option maxRecDepth 100000
set_option Elab.async false
namespace Mine
open PySem PySem.W PySem.Calls PyProof.Rows

-- part Top
section
set_option maxHeartbeats 8000000 in
open_top hd for PySem.Challenge.rw_mq0155_01

end

-- part Base
section
/-- What a call upon the objects of `sub` leaves: all else of the heap stays; `sub'` stands. -/
def LeaveF (s : Shared) (sub : List (Addr × Obj)) (g : Heap) (R : Result → Shared → Prop) (v : Value) (s' : Shared) : Prop :=
  ∃ L' m' sub', Fr g L' s'.heap m' ∧ News g L' s'.heap sub' ∧
    ((∀ b o, (∀ p ∈ sub, b ≠ p.1) → s.heap.get? b = some o → s'.heap.get? b = some o) →
      (∀ p ∈ sub', s'.heap.get? p.1 = some p.2 ∧ ((∃ q ∈ sub, q.1 = p.1) ∨ s.heap.get? p.1 = none)) → R (.ok (.ret v)) s')

theorem leaveF_ {s : Shared} {sub sub' : List (Addr × Obj)} {g : Heap} {L' : Addr} {m' : Str → Option Value} {R : Result → Shared → Prop} {v : Value} {s' : Shared}
    (F' : Fr g L' s'.heap m') (N' : News g L' s'.heap sub')
    (k : (∀ b o, (∀ p ∈ sub, b ≠ p.1) → s.heap.get? b = some o → s'.heap.get? b = some o) →
      (∀ p ∈ sub', s'.heap.get? p.1 = some p.2 ∧ ((∃ q ∈ sub, q.1 = p.1) ∨ s.heap.get? p.1 = none)) → R (.ok (.ret v)) s') : LeaveF s sub g R v s' := ⟨L', m', sub', F', N', k⟩

theorem leaveF1 {s : Shared} {l : Addr} {o o' : Obj} {g : Heap} {L' : Addr} {m' : Str → Option Value} {R : Result → Shared → Prop} {v : Value} {s' : Shared}
    (F' : Fr g L' s'.heap m') (N' : News g L' s'.heap [(l, o')])
    (k : (∀ b ob, b ≠ l → s.heap.get? b = some ob → s'.heap.get? b = some ob) → s'.heap.get? l = some o' → R (.ok (.ret v)) s') : LeaveF s [(l, o)] g R v s' :=
  leaveF_ F' N' fun kp st => k (fun b ob nb e => kp b ob (fun q hq => by cases hq with | head => exact nb | tail _ h => cases h) e) (st _ (.head _)).1

section
variable {prog : Program} {w : World} {A₀ A : Around} {s : Shared} {base h₀ : Heap} {outer : List Env} {L : Addr} {m mg mb : Str → Option Value} {env : Env} {sub : List (Addr × Obj)} {K : Frag}
  {p : Program} {loose : List Str} {mean : ExcName → Option Value}

/-- A call of a def of the text upon the objects of `sub` alone. -/
theorem call_foot {R : Result → Shared → Prop} {name qual : Str} {params : Arguments} {body : List Stmt} {scope : Scope} {dV kV doc pm cdv ct oc : Value} {an od : Option Addr} {osl : Array (Option Value)} {f : Addr} {args : Args} {binds : List (Str × Value)}
    (B : Below A₀ base outer h₀) (F : Fr h₀ L s.heap m) (X₀ : K.In h₀) (N : News h₀ L s.heap sub) (T : Top p loose mean mg mb h₀) (hA : A.frames = some (env :: outer)) (hf : env.frame = some L) (hke : env.scope.kind = .function)
    (ho : K.lookup f = some ⟨oc, od, .func (fnOf name qual params body scope dV kV doc pm an cdv ct), osl⟩) (hcd : codeIn K cdv qual = true) (hroom : A.depth < recursionLimit)
    (hbind : BindsTo s (fnOf name qual params body scope dV kV doc pm an cdv ct) args binds) (hloc : ∀ y ∈ binds, scope.names.lookup y.1 = some .local)
    (h : ∀ g L' h₁, Fr g L' h₁ (fun y => binds.reverse.lookup y) → News g L' h₁ sub → Below A base (env :: outer) g → K.In g → Top p loose mean mg mb g → (∀ q ∈ sub, q.1 < L') →
      (∀ b o, (∀ q ∈ sub, b ≠ q.1) → s.heap.get? b = some o → g.get? b = some o) →
      wpAny (model prog w) (A.deeper (envOf qual scope L' f cdv)) (execs body (envOf qual scope L' f cdv))
        (fun fl s' => LeaveF s sub g R (match fl with | .ret v => v | _ => .none) s')
        (fun e s' => wpAny (model prog w) (A.deeper (envOf qual scope L' f cdv)) (leaving (envOf qual scope L' f cdv) e) (fun _ s'' => R (.error e) s'') (fun e' s'' => R (.error e') s'') s')
        { s with heap := h₁, toks := s.toks + binds.length })
    (hco : scope.isCoroutine = false) (hgen : scope.isGenerator = false) (hk : scope.kind = .function)
    (hcell : ∀ x ∈ scope.names, x.2 ≠ .cell) : codeAny (model prog w) A (.call (.ref f) args) R s := by
  have X := X₀.keeps F.keep
  obtain ⟨FG, BG, st, _⟩ := groundX (R := R) B F N hA hf hke
  have keepG : ∀ b o, (∀ q ∈ sub, b ≠ q.1) → s.heap.get? b = some o → (hideAll s.heap (sub.map (·.1))).get? b = some o := fun b o nb e =>
    hideAll_get _ e fun q => by
      obtain ⟨y, hy, rfl⟩ := List.mem_map.mp q
      exact nb y hy rfl
  refine codeAny_call_def (fd := fnOf name qual params body scope dV kV doc pm an cdv ct) (body := body) (binds := binds) hroom (X _ _ ho) rfl (T.nolimit.keeps F.keep) (codeRec_of X hcd) rfl hbind hcell hloc (fun h₁ hns hk₁ => ?_) hco hgen hk
  refine wpAny_mono (h _ s.heap.objs.size h₁ ⟨hns, fun b o e => hk₁ b o (of_hideAll _ e), Nat.le_of_eq (hideAll_size _ _)⟩
    (fun p hp => ⟨hk₁ _ _ (N p hp).1, Nat.ne_of_lt (Heap.lt_size (N p hp).1), hideAll_none _ (List.mem_map_of_mem hp)⟩) BG (X₀.keeps st) (T.keeps st) (fun p hp => Heap.lt_size (N p hp).1) keepG) (fun fl s' hl => ?_) fun _ _ y => y
  obtain ⟨L', m', sub', F', N', k⟩ := hl
  refine k (fun b o nb e => F'.keep b o (keepG b o nb e)) fun q hq => ⟨(N' q hq).1, ?_⟩
  by_cases hs : ∃ y ∈ sub, y.1 = q.1
  · exact .inl hs
  · refine .inr ?_
    cases e : s.heap.get? q.1 with
    | none => rfl
    | some o =>
      have := keepG q.1 o (fun y hy z => hs ⟨y, hy, z.symm⟩) e
      rw [(N' q hq).2.2] at this; cases this

/-- the frame stays behind a call that keeps all but `sub` -/
theorem fr_behind {h' : Heap} (F : Fr h₀ L s.heap m) (N : News h₀ L s.heap sub) (k : ∀ b o, (∀ p ∈ sub, b ≠ p.1) → s.heap.get? b = some o → h'.get? b = some o) : Fr h₀ L h' m := by
  obtain ⟨⟨oL, es, ep, hL, r⟩, kp, ab⟩ := F
  refine ⟨⟨oL, es, ep, k L oL (fun p hp e => (N p hp).2.1 e.symm) hL, r⟩, fun b o e => k b o (fun p hp z => ?_) (kp b o e), ab⟩
  have := (N p hp).2.2
  rw [← z, e] at this; cases this

/-- an object of the ledger outside `sub` stays -/
theorem news_behind {h' : Heap} {news : List (Addr × Obj)} (N : News h₀ L s.heap news) (k : ∀ b o, (∀ p ∈ sub, b ≠ p.1) → s.heap.get? b = some o → h'.get? b = some o)
    (hne : ∀ q ∈ news, ∀ p ∈ sub, q.1 ≠ p.1) : News h₀ L h' news := fun q hq => ⟨k _ _ (hne q hq) (N q hq).1, (N q hq).2⟩

theorem news_one {h : Heap} {l : Addr} {o : Obj} {news : List (Addr × Obj)} (N : News h₀ L h news) (hm : (l, o) ∈ news) : News h₀ L h [(l, o)] := fun p hp => by
  cases hp with
  | head => exact N _ hm
  | tail _ h => cases h

/-- behind a call that keeps all but l: the frame and the ledger -/
theorem behindU {h h' : Heap} {l : Addr} {o o' : Obj} {news news' : List (Addr × Obj)} (F : Fr h₀ L h m) (N : News h₀ L h news) (U : Upd l o o' news news')
    (kp : ∀ b ob, b ≠ l → h.get? b = some ob → h'.get? b = some ob) (hl : h'.get? l = some o') : Fr h₀ L h' m ∧ News h₀ L h' news' := by
  obtain ⟨pre, post, rfl, rfl, a, b⟩ := U.split
  have z := N (l, o) (List.mem_append.mpr (.inr (.head _)))
  obtain ⟨⟨oL, es, ep, hL, r⟩, kk, ab⟩ := F
  refine ⟨⟨⟨oL, es, ep, kp L oL (Ne.symm z.2.1) hL, r⟩, fun b o e => kp b o (fun q => ?_) (kk b o e), ab⟩, fun p hp => ?_⟩
  · have := z.2.2; rw [← q, e] at this; cases this
  · rcases List.mem_append.mp hp with q | q
    · exact ⟨kp _ _ (a p q) (N p (List.mem_append_left _ q)).1, (N p (List.mem_append_left _ q)).2⟩
    · rcases List.mem_cons.mp q with rfl | q
      · exact ⟨hl, z.2⟩
      · exact ⟨kp _ _ (b p q) (N p (List.mem_append_right _ (.tail _ q))).1, (N p (List.mem_append_right _ (.tail _ q))).2⟩
end

end

-- part Pure0
section
/-- values and their keys, place by place -/
inductive All2 (R : Value → Int → Prop) : List Value → List Int → Prop
  | nil : All2 R [] []
  | cons {v : Value} {k : Int} {vs : List Value} {ks : List Int} : R v k → All2 R vs ks → All2 R (v :: vs) (k :: ks)

namespace All2
variable {R : Value → Int → Prop}
theorem length : ∀ {vs : List Value} {ks : List Int}, All2 R vs ks → vs.length = ks.length
  | _, _, .nil => rfl
  | _, _, .cons _ h => by simp [length h]
theorem get : ∀ {vs : List Value} {ks : List Int}, All2 R vs ks → ∀ i, i < ks.length → ∃ v, vs[i]? = some v ∧ R v (ks.getD i 0)
  | _, _, .nil, i, h => absurd h (Nat.not_lt_zero _)
  | _, _, .cons r _, 0, _ => ⟨_, rfl, r⟩
  | _, _, .cons _ t, i + 1, h => by
    obtain ⟨v, h1, h2⟩ := get t i (Nat.lt_of_succ_lt_succ h)
    exact ⟨v, by simpa using h1, by simpa using h2⟩
theorem set : ∀ {vs : List Value} {ks : List Int}, All2 R vs ks → ∀ {v k}, R v k → ∀ i, All2 R (vs.set i v) (ks.set i k)
  | _, _, .nil, _, _, _, _ => .nil
  | _, _, .cons _ t, _, _, r, 0 => .cons r t
  | _, _, .cons q t, _, _, r, i + 1 => .cons q (set t r i)
theorem append : ∀ {vs : List Value} {ks : List Int}, All2 R vs ks → ∀ {vs' ks'}, All2 R vs' ks' → All2 R (vs ++ vs') (ks ++ ks')
  | _, _, .nil, _, _, h => h
  | _, _, .cons q t, _, _, h => .cons q (append t h)
theorem reverse {vs : List Value} {ks : List Int} (h : All2 R vs ks) : All2 R vs.reverse ks.reverse := by
  induction h with
  | nil => exact .nil
  | cons r _ ih => simp only [List.reverse_cons]; exact ih.append (.cons r .nil)
theorem dropLast {vs : List Value} {ks : List Int} (h : All2 R vs ks) : All2 R vs.dropLast ks.dropLast := by
  induction h with
  | nil => exact .nil
  | cons r t ih =>
    cases t with
    | nil => exact .nil
    | cons r' t' => exact .cons r ih
end All2

/-- _siftdown's loop: x sinks towards st from the hole p -/
noncomputable def sdLoop (ks : List Int) (x : Int) (st p : Nat) : List Int :=
  if st < p then
    if x < ks.getD ((p - 1) / 2) 0 then sdLoop (ks.set p (ks.getD ((p - 1) / 2) 0)) x st ((p - 1) / 2) else ks.set p x
  else ks.set p x
termination_by p
decreasing_by omega
noncomputable def sd (ks : List Int) (st p : Nat) : List Int := sdLoop ks (ks.getD p 0) st p

/-- _siftup's loop: the hole p goes down to a leaf, the smaller child up -/
noncomputable def suChild (ks : List Int) (p : Nat) : Nat := if 2 * p + 1 + 1 < ks.length ∧ ¬ ks.getD (2 * p + 1) 0 < ks.getD (2 * p + 1 + 1) 0 then 2 * p + 1 + 1 else 2 * p + 1
theorem suChild_gt (ks : List Int) (p : Nat) : p < suChild ks p := by unfold suChild; split <;> omega
theorem suChild_lt {ks : List Int} {p : Nat} (h : 2 * p + 1 < ks.length) : suChild ks p < ks.length := by unfold suChild; split <;> omega
noncomputable def suLoop (ks : List Int) (p : Nat) : List Int × Nat :=
  if h : 2 * p + 1 < ks.length then suLoop (ks.set p (ks.getD (suChild ks p) 0)) (suChild ks p) else (ks, p)
termination_by ks.length - p
decreasing_by
  rw [List.length_set]
  have := suChild_gt ks p
  omega
noncomputable def su (ks : List Int) (p : Nat) : List Int := sd ((suLoop ks p).1.set (suLoop ks p).2 (ks.getD p 0)) p (suLoop ks p).2

/-- the rule for `<` between items -/
def LtRule (w : World) (R : Value → Int → Prop) : Prop :=
  ∀ (A : Around) (s : Shared) (a b : Value) (j k : Int) (Q : Value → Shared → Prop) (E : Value → Shared → Prop), R a j → R b k → Q (.bool (decide (j < k))) s →
    wpAny (model PySem.Challenge.rw_mq0155_01.row.prog w) A (compareOp .Lt a b) Q E s

theorem lt_use {w : World} {R : Value → Int → Prop} {A : Around} {s : Shared} {a b : Value} {j k : Int} {Q : Value → Shared → Prop} {E : Value → Shared → Prop} (h : LtRule w R) (h1 : R a j) (h2 : R b k) (hq : Q (.bool (decide (j < k))) s) :
    wpAny (model PySem.Challenge.rw_mq0155_01.row.prog w) A (compareOp .Lt a b) Q E s := h A s a b j k Q E h1 h2 hq

/-- a goal that the walk leaves as it stands -/
def Hold (P : Prop) : Prop := P
theorem Hold.out {P : Prop} (h : Hold P) : P := h
theorem Hold.mk {P : Prop} (h : P) : Hold P := h

section
variable {prog : Program} {w : World} {A : Around} {E : Value → Shared → Prop} {s : Shared} {h₀ : Heap} {L l : Addr} {m : Str → Option Value} {news news' : List (Addr × Obj)} {vs : List Value} {ks : List Int} {n i : Nat} {k x : Int} {t u : Tok}
  {R : Value → Int → Prop}
theorem lst_sub {value slice : PySem.Expr} {Q : Value → Shared → Prop} (N : News h₀ L s.heap news) (hm : (l, listOf vs.toArray n) ∈ news) (hi : All2 R vs ks) (e : (i : Int) = k) (h1 : i < ks.length) (hfit : ks.length < 2 ^ 62)
    (h : ∀ v, R v (ks.getD i 0) → Q v s)
    (hs : subscripted slice false (.ref l) (.int k u) = operate [.ref l, .int k u] (getItem (.ref l) (.int k u)) := by with_unfolding_all rfl) :
    wpAny (model prog w) A (subscriptTail value slice (.ref l) (.int k u)) Q E s := by
  subst e
  have hl : s.heap.IsList l vs.toArray := PySem.IsL.isList (n := n) (N _ hm).1
  obtain ⟨v, h2, h3⟩ := hi.get i h1
  exact tail_any hl.typeIs slot_list_getitem.lookup (wpAny_getItem_list hl (by omega) (by omega) (by simpa using h2) (h v h3)) hs
theorem lst_set {Q : Unit → Shared → Prop} {v : Value} (F : Fr h₀ L s.heap m) (N : News h₀ L s.heap news) (e : (i : Int) = k) (U : Upd l (listOf vs.toArray n) (listOf (vs.set i v).toArray n) news news') (hi : All2 R vs ks) (hv : R v x) (h1 : i < ks.length) (hfit : ks.length < 2 ^ 62)
    (h : ∀ h', Fr h₀ L h' m → News h₀ L h' news' → All2 R (vs.set i v) (ks.set i x) → Q () { s with heap := h' }) :
    wpAny (model prog w) A (setItem (.ref l) (.int k t) v) Q E s := by
  subst e
  obtain ⟨pre, post, rfl, rfl, a, b⟩ := U.split
  have z := N (l, listOf vs.toArray n) (List.mem_append.mpr (.inr (.head _)))
  have hl : vs.length = ks.length := hi.length
  have hs : vs.toArray.size = ks.length := by rw [List.size_toArray]; exact hl
  refine ki_setAt z.1 (by omega) (by omega) (by omega) (h _ (F.change (Heap.SameBut.update ..) z.2.1 z.2.2) (ki_turn _ N a b ?_ ?_) (hi.set hv _))
  · show vs.toArray.setIfInBounds (i : Int).toNat v = (vs.set i v).toArray
    apply Array.toList_inj.mp
    simp
  · simp
theorem rshift1 {p : Nat} (hp : 1 ≤ p) {Q : Value → Shared → Prop} (h : ∀ t' tk', Q (.int (((p - 1) / 2 : Nat) : Int) t') { s with toks := tk' }) :
    wpAny (model prog w) A (binaryOp .RShift (.int ((p : Int) - 1) t) (.int 1 u)) Q E s := by
  refine rshift_int (by omega) ?_
  have e : ((p : Int) - 1).fdiv (2 ^ (1 : Int).toNat) = (((p - 1) / 2 : Nat) : Int) := by
    show ((p : Int) - 1).fdiv 2 = _
    rw [Int.fdiv_eq_ediv_of_nonneg _ (by omega)]
    omega
  rw [e]; exact h _ _
theorem add1_nat {p : Nat} {Q : Value → Shared → Prop} (h : ∀ t' tk', Q (.int ((p + 1 : Nat) : Int) t') { s with toks := tk' }) :
    wpAny (model prog w) A (binaryOp .Add (.int (p : Int) t) (.int 1 u)) Q E s := add_int (h _ _)
theorem mul2_nat {p : Nat} {Q : Value → Shared → Prop} (h : ∀ t' tk', Q (.int ((2 * p : Nat) : Int) t') { s with toks := tk' }) :
    wpAny (model prog w) A (binaryOp .Mult (.int 2 t) (.int (p : Int) u)) Q E s := mul_int (by
      have e : (2 : Int) * (p : Int) = ((2 * p : Nat) : Int) := by omega
      rw [e]; exact h _ _)
theorem lst_len {Q : Value → Shared → Prop} (N : News h₀ L s.heap news) (hm : (l, listOf vs.toArray n) ∈ news) (hi : All2 R vs ks) (hfit : ks.length < 2 ^ 62)
    (h : ∀ t' tk', Q (.int (ks.length : Int) t') { s with toks := tk' }) :
    wpAny (model prog w) A (call (.builtin "len") [.ref l]) Q E s := by
  have hl : s.heap.IsList l vs.toArray := PySem.IsL.isList (n := n) (N _ hm).1
  refine len_list hl ?_ ?_
  · rw [List.size_toArray, hi.length]; omega
  · rw [List.size_toArray, hi.length]; exact h _ _
end

end

-- part Rules
section
section
variable {prog : Program} {w : World} {A : Around} {E : Value → Shared → Prop} {s : Shared} {h₀ : Heap} {L l : Addr} {m : Str → Option Value} {news news' : List (Addr × Obj)} {vs : List Value} {ks : List Int} {n i : Nat} {k x : Int} {t u : Tok}
  {R : Value → Int → Prop}
theorem All2.last {vs : List Value} {ks : List Int} (h : All2 R vs ks) : 0 < ks.length → ∃ y, kl_last vs = some (vs.dropLast, y) ∧ R y (ks.getLastD 0) := by
  induction h with
  | nil => intro h; exact absurd h (Nat.lt_irrefl 0)
  | cons r t ih =>
    intro _
    cases t with
    | nil => exact ⟨_, rfl, r⟩
    | @cons v' k' vs' ks' r' t' =>
      obtain ⟨y, h1, h2⟩ := ih (Nat.succ_pos _)
      refine ⟨y, ?_, h2⟩
      show (match kl_last (v' :: vs') with | some (p, y) => some (_ :: p, y) | none => _) = _
      rw [h1]; rfl
theorem lst_append {v : Value} {Q : Value → Shared → Prop} (F : Fr h₀ L s.heap m) (N : News h₀ L s.heap news) (U : Upd l (listOf vs.toArray n) (listOf (vs ++ [v]).toArray (n + 1)) news news') (hi : All2 R vs ks) (hv : R v x) (hz : ks.length < 2000)
    (h : ∀ h', Fr h₀ L h' m → News h₀ L h' news' → All2 R (vs ++ [v]) (ks ++ [x]) → (ks ++ [x]).length = ks.length + 1 → Q .none { s with heap := h' }) : wpAny (model prog w) A (call (.builtin "list.append") [.ref l, v]) Q E s := by
  refine append_K (its := vs.toArray) (n := n) F N (by simpa using U) (fun h' F' N' => h h' F' N' (hi.append (.cons hv .nil)) (by simp)) ?_
  rw [List.size_toArray, hi.length, PySem.sizeLine_eq]; omega
theorem lst_pop {Q : Value → Shared → Prop} (F : Fr h₀ L s.heap m) (N : News h₀ L s.heap news) (U : Upd l (listOf vs.toArray n) (listOf vs.dropLast.toArray (n + 1)) news news') (hi : All2 R vs ks) (hne : 0 < ks.length) (hz : ks.length < 2000)
    (h : ∀ h' v, Fr h₀ L h' m → News h₀ L h' news' → All2 R vs.dropLast ks.dropLast → R v (ks.getLastD 0) → ks.dropLast.length = ks.length - 1 → Q v { s with heap := h' }) : wpAny (model prog w) A (call (.builtin "list.pop") [.ref l]) Q E s := by
  obtain ⟨y, h1, h2⟩ := hi.last hne
  exact kl_pop (its := vs.toArray) F N (p := vs.dropLast) (y := y) (by simpa using h1) U (by simp only [PySem.sizeLine_eq, hi.length]; omega) fun h' F' N' => h h' y F' N' hi.dropLast h2 (by simp)
theorem lst_truthy {Q : Bool → Shared → Prop} (N : News h₀ L s.heap news) (hm : (l, listOf vs.toArray n) ∈ news) (hi : All2 R vs ks) (hfit : ks.length < 2000)
    (h : ∀ tk', Q (decide (0 < ks.length)) { s with toks := tk' }) : wpAny (model prog w) A (truthy (.ref l)) Q E s := by
  have hl : s.heap.IsList l vs.toArray := PySem.IsL.isList (n := n) (N _ hm).1
  refine wpAny_truthy_list hl ?_ ?_
  · rw [List.size_toArray, hi.length]; omega
  · have e : (!vs.toArray.isEmpty) = decide (0 < ks.length) := by
      rw [← hi.length]
      cases vs <;> simp
    rw [e]; exact h _
theorem sub1_nat {p : Nat} (hp : 1 ≤ p) {Q : Value → Shared → Prop} (h : ∀ t' tk', Q (.int ((p - 1 : Nat) : Int) t') { s with toks := tk' }) :
    wpAny (model prog w) A (binaryOp .Sub (.int (p : Int) t) (.int 1 u)) Q E s := by
  refine sub_int ?_
  have e : (p : Int) - 1 = ((p - 1 : Nat) : Int) := by omega
  rw [e]; exact h _ _
end

noncomputable def hpush (ks : List Int) (x : Int) : List Int := sd (ks ++ [x]) 0 ks.length
noncomputable def hpop (ks : List Int) : Int × List Int :=
  if 0 < ks.dropLast.length then (ks.dropLast.getD 0 0, su (ks.dropLast.set 0 (ks.getLastD 0)) 0) else (ks.getLastD 0, ks.dropLast)
noncomputable def hreplace (ks : List Int) (x : Int) : Int × List Int := (ks.getD 0 0, su (ks.set 0 x) 0)
noncomputable def hpushpop (ks : List Int) (x : Int) : Int × List Int :=
  if 0 < ks.length ∧ ks.getD 0 0 < x then (ks.getD 0 0, su (ks.set 0 x) 0) else (x, ks)
/-- heapify's loop: the places i - 1, .., 0 in turn -/
noncomputable def hifyN (ks : List Int) : Nat → List Int
  | 0 => ks
  | i + 1 => hifyN (su ks i) i
noncomputable def hify (ks : List Int) : List Int := hifyN ks (ks.length / 2)

end

-- part Rules2
section
section
variable {prog : Program} {w : World} {A : Around} {E : Value → Shared → Prop} {s : Shared} {h₀ : Heap} {L l : Addr} {m : Str → Option Value} {news news' : List (Addr × Obj)} {vs : List Value} {ks : List Int} {n i : Nat} {k x : Int} {t u : Tok}
  {R : Value → Int → Prop}
theorem lst_reverse {Q : Value → Shared → Prop} (F : Fr h₀ L s.heap m) (N : News h₀ L s.heap news) (U : Upd l (listOf vs.toArray n) (listOf vs.reverse.toArray n) news news') (hi : All2 R vs ks) (hz : ks.length < 2000)
    (h : ∀ h', Fr h₀ L h' m → News h₀ L h' news' → All2 R vs.reverse ks.reverse → ks.reverse.length = ks.length → Q .none { s with heap := h' }) : wpAny (model prog w) A (call (.builtin "list.reverse") [.ref l]) Q E s := by
  obtain ⟨pre, post, rfl, rfl, a, b⟩ := U.split
  have z := N (l, listOf vs.toArray n) (List.mem_append.mpr (.inr (.head _)))
  have hsz : vs.toArray.size ≤ sizeLine := by rw [List.size_toArray, hi.length, PySem.sizeLine_eq]; omega
  refine call_meets PySem.F.slot_list_reverse ⟨_, z.1, rfl⟩ PySem.F.entry_list_reverse (PySem.F.args_list_reverse_1 _) (AutoListH.list_reverse_list_0 l vs.toArray n hsz) ⟨z.1, ?_⟩
  exact h _ (F.change (Heap.SameBut.update ..) z.2.1 z.2.2) (ki_turn _ N a b (by simp) (by simp)) hi.reverse (by simp)
end

/-- what a call of _law_call answers -/
inductive Ans
  | nothing
  | refused
  | key (k : Int)
def AnsIs (R : Value → Int → Prop) (v : Value) : Ans → Prop
  | .nothing => v = .none
  | .refused => ∃ t, v = .str (Str.ofString "refused") t
  | .key k => R v k
noncomputable def stepA (c : Nat) (ks : List Int) (x : Int) : Ans :=
  if c = 2 then (if 0 < ks.length then .key (hpop ks).1 else .refused)
  else if c = 3 then (if 0 < ks.length then .key (hreplace ks x).1 else .refused)
  else if c = 4 then .key (hpushpop ks x).1 else .nothing
noncomputable def stepL (c : Nat) (ks : List Int) (x : Int) : List Int :=
  if c = 2 then (if 0 < ks.length then (hpop ks).2 else ks)
  else if c = 3 then (if 0 < ks.length then (hreplace ks x).2 else ks)
  else if c = 4 then (hpushpop ks x).2
  else if c = 5 then hify ks.reverse
  else hpush ks x

theorem pop_empty {prog : Program} {w : World} {A : Around} {E : Value → Shared → Prop} {s : Shared} {h₀ : Heap} {L l : Addr} {n : Nat} {news : List (Addr × Obj)} {Q : Value → Shared → Prop} (hA : A.handled = none) (N : News h₀ L s.heap news) (hm : (l, listOf ([] : List Value).toArray n) ∈ news)
    (hE : ∀ h' tk e, Heap.NewExc s.heap h' e "IndexError" → E (.ref e) { s with heap := h', toks := tk }) : wpAny (model prog w) A (call (.builtin "list.pop") [.ref l]) Q E s := by
  have ho := (N _ hm).1
  exact call_meets PySem.F.slot_list_pop ⟨_, ho, rfl⟩ PySem.F.entry_list_pop (PySem.F.args_list_pop_1 _) (AutoListH.list_pop_list_0 l _ n rfl) ⟨ho, hA, fun h' tk e x => hE h' tk e x⟩

end
-- lines of the walk, local
local macro_rules | `(tactic| k_room) => `(tactic| ((try simp only [depth_under_make, depth_under_kw, depth_in1, depth_deeper, depth_caller]); omega))
local macro_rules | `(tactic| walk_at $s:str) => `(tactic| k_dflt (k_extra $s))

-- part Sd
section
theorem sdLoop_up {ks : List Int} {x : Int} {st p : Nat} (h : st < p) (hx : x < ks.getD ((p - 1) / 2) 0) : sdLoop ks x st p = sdLoop (ks.set p (ks.getD ((p - 1) / 2) 0)) x st ((p - 1) / 2) := by
  rw [sdLoop, if_pos h, if_pos hx]
theorem sdLoop_stop {ks : List Int} {x : Int} {st p : Nat} (h : ¬ x < ks.getD ((p - 1) / 2) 0) : sdLoop ks x st p = ks.set p x := by
  rw [sdLoop, if_neg h]; split <;> rfl
theorem sdLoop_end {ks : List Int} {x : Int} {st p : Nat} (h : ¬ st < p) : sdLoop ks x st p = ks.set p x := by
  rw [sdLoop, if_neg h]

set_option maxHeartbeats 4000000 in
theorem sd_call : ∀ {w : World} {A₀ A : Around} {s : Shared} {base h₀ : Heap} {outer : List Env} {L : Addr} {m mg mb : Str → Option Value} {env : Env} {mean : ExcName → Option Value}
    {R : Value → Int → Prop} {l : Addr} {vs : List Value} {ks : List Int} {n st p : Nat} {t u : Tok} {Q E : Value → Shared → Prop},
    Below A₀ base outer h₀ → Fr h₀ L s.heap m → (hd.heap_39 w.params).In h₀ → News h₀ L s.heap [(l, listOf vs.toArray n)] →
    Top hd.view_39 (looseW hd.view_39 [Str.ofString "b2a_base64", Str.ofString "b64encode"]) mean mg mb h₀ →
    A.frames = some (env :: outer) → env.frame = some L → env.scope.kind = .function → A.depth + 2 < recursionLimit → A.handled = none →
    LtRule w R → All2 R vs ks → p < ks.length → ks.length < 2 ^ 62 →
    (∀ h' tk' vs', (∀ b o, b ≠ l → s.heap.get? b = some o → h'.get? b = some o) → h'.get? l = some (listOf vs'.toArray n) → All2 R vs' (sd ks st p) → Q .none { s with heap := h', toks := tk' }) →
    wpAny (model PySem.Challenge.rw_mq0155_01.row.prog w) A (call (.ref 63) [.ref l, .int st t, .int p u]) Q E s := by
  w_top off
  k_fill
  intro w A₀ A s base h₀ outer L m mg mb env mean R l vs ks n st p t u Q E B F X N T hA hf hke hroom hnh hR hi hp hfit hq
  refine wpAny_call ?_
  k_dflt (refine' call_foot (sub := [(l, listOf vs.toArray n)]) (binds := [(Str.ofString "heap", .ref l), (Str.ofString "startpos", .int st t), (Str.ofString "pos", .int p u)]) B F X N T hA hf hke ?k6 ?k7 ?k8 ?k9 ?kB ?_ ?c2 ?c3 ?c4 ?c5; (case k6 => k_is); (case k7 => k_is); (case k8 => omega); (case k9 => exact BindsTo.of_eq rfl); (case c5 => decide); (case kB => exact locs rfl); (case c2 => exact rfl); (case c3 => exact rfl); (case c4 => exact rfl); k_whole)
  intro g L' h₁ F' N' B' X' T' hlt hkeep
  clear F N B X T
  try dsimp only
  try k_fold
  k_with_none
  k_with "subscriptTail" => (k_here; (with_reducible show wpAny _ _ (subscriptTail _ _ (Value.ref _) (Value.int _ _)) _ _ _); k_dflt (refine' lst_sub ?k1 ?k2 ?k3 ?k4 ?k5 ?k6 ?_ ?k7; (case k1 => k_asm); (case k2 => k_mem); (case k3 => with_reducible assumption); (case k4 => exact rfl); (case k5 => omega); (case k6 => omega); (case k7 => with_unfolding_all rfl); k_whole); intro _ _)
  k_with "setItem ref int" => (k_here; k_dflt (refine' lst_set ?k1 ?k2 ?ke ?k3 ?k4 ?kv ?k6 ?k7 ?_; (case ke => exact rfl); (case k1 => k_asm); (case k2 => k_asm); (case k3 => k_upd); (case k4 => with_reducible assumption); (case kv => with_reducible assumption); (case k6 => omega); (case k7 => omega); k_whole); intro _ _ _ _; (try k_sweep))
  k_with "compareOp Lt" => (k_here; k_dflt (refine' lt_use (by with_reducible assumption) ?k1 ?k2 ?_; (case k1 => with_reducible assumption); (case k2 => with_reducible assumption); k_whole))
  k_with "binaryOp Add int int" => (k_here; (with_reducible refine add1_nat ?_); intro _ _)
  k_with "binaryOp Mult int int" => (k_here; (with_reducible refine mul2_nat ?_); intro _ _)
  k_with "call builtin:len" => (k_here; (with_reducible show wpAny _ _ (call (Value.builtin "len") [Value.ref _]) _ _ _); k_dflt (refine' lst_len ?k1 ?k2 ?k3 ?k4 ?_; (case k1 => k_asm); (case k2 => k_mem); (case k3 => with_reducible assumption); (case k4 => omega); k_whole); intro _ _)
  k_with "call builtin:list.append" => (k_here; (with_reducible show wpAny _ _ (call (Value.builtin _) [Value.ref _, _]) _ _ _); k_dflt (refine' lst_append ?k1 ?k2 ?k3 ?k4 ?k5 ?k6 ?_; (case k1 => k_asm); (case k2 => k_asm); (case k3 => k_upd); (case k4 => with_reducible assumption); (case k5 => with_reducible assumption); (case k6 => omega); k_whole); intro _ _ _ _ _; (try k_sweep))
  k_with "call builtin:list.pop" => (k_here; (with_reducible show wpAny _ _ (call (Value.builtin _) [Value.ref _]) _ _ _); k_dflt (refine' lst_pop ?k1 ?k2 ?k3 ?k4 ?k5 ?k6 ?_; (case k1 => k_asm); (case k2 => k_asm); (case k3 => k_upd); (case k4 => with_reducible assumption); (case k5 => omega); (case k6 => omega); k_whole); intro _ _ _ _ _ _ _; (try k_sweep))
  k_with "truthy ref" => (k_here; k_dflt (refine' lst_truthy ?k1 ?k2 ?k3 ?k4 ?_; (case k1 => k_asm); (case k2 => k_mem); (case k3 => with_reducible assumption); (case k4 => omega); k_whole); intro _)
  k_with "call builtin:list.reverse" => (k_here; (with_reducible show wpAny _ _ (call (Value.builtin _) [Value.ref _]) _ _ _); k_dflt (refine' lst_reverse ?k1 ?k2 ?k3 ?k4 ?k5 ?_; (case k1 => k_asm); (case k2 => k_asm); (case k3 => k_upd); (case k4 => with_reducible assumption); (case k5 => omega); k_whole); intro _ _ _ _ _; (try k_sweep))
  k_with "call type:type" => ((with_reducible show wpAny _ _ (call _ [Value.bytes _ _]) _ _ _); refine call_type_of (Tx := "bytes") rfl (by decide +kernel) ?_)
  k_with "exec While Compare cons nil" => refine Hold.out ?_
  k_with "binaryOp RShift int int" => (refine rshift1 (by omega) ?_; intro _ _)
  k_steps
  rename_i v' hv' h' F'' N''
  refine Hold.mk ?_
  refine ksw_while (σ := List Value × List Int × Nat × Tok) (fun c => [(l, listOf c.1.toArray n)]) (fun c => [(Str.ofString "pos", .int (c.2.2.1 : Int) c.2.2.2)]) (fun c => All2 R c.1 c.2.1) [Str.ofString "parentpos", Str.ofString "parent"]
    (fun c => c.2.1.length = ks.length ∧ c.2.2.1 < ks.length ∧ sdLoop c.2.1 (ks.getD p 0) st c.2.2.1 = sd ks st p) (fun c => c.2.2.1) (vs, ks, p, u) F'' N'' hi (by intro q hq; cases hq with | head => rfl | tail _ h => cases h) ⟨rfl, hp, rfl⟩ ?_
  clear F'' N'' hi hp
  rintro ⟨vs', ks', p', tk⟩ u h tk hi ⟨hlen, hp, hsd⟩ F N
  dsimp only [kstB] at F N hi hlen hp hsd ⊢
  have hps : ∀ {i : Nat} {x : Int}, (ks'.set i x).length = ks.length := fun {_ _} => by rw [List.length_set, hlen]
  k_steps
  · rename Fr _ _ _ _ => F9
    rename News _ _ _ _ => N9
    rename All2 _ _ _ => hi9
    refine ksw_end (_, _, (p' - 1) / 2, _) F9 N9 (fun _ h => h) hi9 (by intro q hq; cases hq with | head => rfl | tail _ h => cases h) (by ksw_same) ⟨hps, by dsimp only; omega, ?_⟩ (by dsimp only; omega)
    rw [← hsd]
    exact (sdLoop_up (by omega) (by omega)).symm
  · rename Fr _ _ _ _ => F9
    rename News _ _ _ _ => N9
    rename All2 _ _ _ => hi9
    rw [← sdLoop_stop (st := st) (by omega), hsd] at hi9
    exact leaveF1 F9 N9 fun kp hl => hq _ _ _ kp hl hi9
  · rename Fr _ _ _ _ => F9
    rename News _ _ _ _ => N9
    rename All2 _ _ _ => hi9
    rw [← sdLoop_end (st := st) (by omega), hsd] at hi9
    exact leaveF1 F9 N9 fun kp hl => hq _ _ _ kp hl hi9

end

-- part Su
section
theorem suLoop_down {ks : List Int} {p : Nat} (h : 2 * p + 1 < ks.length) : suLoop ks p = suLoop (ks.set p (ks.getD (suChild ks p) 0)) (suChild ks p) := by
  rw [suLoop, dif_pos h]
theorem suLoop_end {ks : List Int} {p : Nat} (h : ¬ 2 * p + 1 < ks.length) : suLoop ks p = (ks, p) := by
  rw [suLoop, dif_neg h]

set_option maxHeartbeats 4000000 in
theorem su_call : ∀ {w : World} {A₀ A : Around} {s : Shared} {base h₀ : Heap} {outer : List Env} {L : Addr} {m mg mb : Str → Option Value} {env : Env} {mean : ExcName → Option Value}
    {R : Value → Int → Prop} {l : Addr} {vs : List Value} {ks : List Int} {n p : Nat} {u : Tok} {Q E : Value → Shared → Prop},
    Below A₀ base outer h₀ → Fr h₀ L s.heap m → (hd.heap_39 w.params).In h₀ → News h₀ L s.heap [(l, listOf vs.toArray n)] →
    Top hd.view_39 (looseW hd.view_39 [Str.ofString "b2a_base64", Str.ofString "b64encode"]) mean mg mb h₀ →
    A.frames = some (env :: outer) → env.frame = some L → env.scope.kind = .function → A.depth + 3 < recursionLimit → A.handled = none →
    LtRule w R → All2 R vs ks → p < ks.length → ks.length < 2 ^ 62 →
    (∀ h' tk' vs', (∀ b o, b ≠ l → s.heap.get? b = some o → h'.get? b = some o) → h'.get? l = some (listOf vs'.toArray n) → All2 R vs' (su ks p) → Q .none { s with heap := h', toks := tk' }) →
    wpAny (model PySem.Challenge.rw_mq0155_01.row.prog w) A (call (.ref 70) [.ref l, .int p u]) Q E s := by
  w_top off
  k_fill
  intro w A₀ A s base h₀ outer L m mg mb env mean R l vs ks n p u Q E B F X N T hA hf hke hroom hnh hR hi hp hfit hq
  refine wpAny_call ?_
  k_dflt (refine' call_foot (sub := [(l, listOf vs.toArray n)]) (binds := [(Str.ofString "heap", .ref l), (Str.ofString "pos", .int p u)]) B F X N T hA hf hke ?k6 ?k7 ?k8 ?k9 ?kB ?_ ?c2 ?c3 ?c4 ?c5; (case k6 => k_is); (case k7 => k_is); (case k8 => omega); (case k9 => exact BindsTo.of_eq rfl); (case c5 => decide); (case kB => exact locs rfl); (case c2 => exact rfl); (case c3 => exact rfl); (case c4 => exact rfl); k_whole)
  intro g L' h₁ F' N' B' X' T' hlt hkeep
  clear F N B X T
  try dsimp only
  try k_fold
  k_with_none
  k_with "subscriptTail" => (k_here; (with_reducible show wpAny _ _ (subscriptTail _ _ (Value.ref _) (Value.int _ _)) _ _ _); k_dflt (refine' lst_sub ?k1 ?k2 ?k3 ?k4 ?k5 ?k6 ?_ ?k7; (case k1 => k_asm); (case k2 => k_mem); (case k3 => with_reducible assumption); (case k4 => exact rfl); (case k5 => omega); (case k6 => omega); (case k7 => with_unfolding_all rfl); k_whole); intro _ _)
  k_with "setItem ref int" => (k_here; k_dflt (refine' lst_set ?k1 ?k2 ?ke ?k3 ?k4 ?kv ?k6 ?k7 ?_; (case ke => exact rfl); (case k1 => k_asm); (case k2 => k_asm); (case k3 => k_upd); (case k4 => with_reducible assumption); (case kv => with_reducible assumption); (case k6 => omega); (case k7 => omega); k_whole); intro _ _ _ _; (try k_sweep))
  k_with "compareOp Lt" => (k_here; k_dflt (refine' lt_use (by with_reducible assumption) ?k1 ?k2 ?_; (case k1 => with_reducible assumption); (case k2 => with_reducible assumption); k_whole))
  k_with "binaryOp Add int int" => (k_here; (with_reducible refine add1_nat ?_); intro _ _)
  k_with "binaryOp Mult int int" => (k_here; (with_reducible refine mul2_nat ?_); intro _ _)
  k_with "call builtin:len" => (k_here; (with_reducible show wpAny _ _ (call (Value.builtin "len") [Value.ref _]) _ _ _); k_dflt (refine' lst_len ?k1 ?k2 ?k3 ?k4 ?_; (case k1 => k_asm); (case k2 => k_mem); (case k3 => with_reducible assumption); (case k4 => omega); k_whole); intro _ _)
  k_with "call builtin:list.append" => (k_here; (with_reducible show wpAny _ _ (call (Value.builtin _) [Value.ref _, _]) _ _ _); k_dflt (refine' lst_append ?k1 ?k2 ?k3 ?k4 ?k5 ?k6 ?_; (case k1 => k_asm); (case k2 => k_asm); (case k3 => k_upd); (case k4 => with_reducible assumption); (case k5 => with_reducible assumption); (case k6 => omega); k_whole); intro _ _ _ _ _; (try k_sweep))
  k_with "call builtin:list.pop" => (k_here; (with_reducible show wpAny _ _ (call (Value.builtin _) [Value.ref _]) _ _ _); k_dflt (refine' lst_pop ?k1 ?k2 ?k3 ?k4 ?k5 ?k6 ?_; (case k1 => k_asm); (case k2 => k_asm); (case k3 => k_upd); (case k4 => with_reducible assumption); (case k5 => omega); (case k6 => omega); k_whole); intro _ _ _ _ _ _ _; (try k_sweep))
  k_with "truthy ref" => (k_here; k_dflt (refine' lst_truthy ?k1 ?k2 ?k3 ?k4 ?_; (case k1 => k_asm); (case k2 => k_mem); (case k3 => with_reducible assumption); (case k4 => omega); k_whole); intro _)
  k_with "call builtin:list.reverse" => (k_here; (with_reducible show wpAny _ _ (call (Value.builtin _) [Value.ref _]) _ _ _); k_dflt (refine' lst_reverse ?k1 ?k2 ?k3 ?k4 ?k5 ?_; (case k1 => k_asm); (case k2 => k_asm); (case k3 => k_upd); (case k4 => with_reducible assumption); (case k5 => omega); k_whole); intro _ _ _ _ _; (try k_sweep))
  k_with "call type:type" => ((with_reducible show wpAny _ _ (call _ [Value.bytes _ _]) _ _ _); refine call_type_of (Tx := "bytes") rfl (by decide +kernel) ?_)
  k_with "exec While Compare cons nil" => refine Hold.out ?_
  k_with "call ref" => refine Hold.out ?_
  k_steps
  rename_i te _ _ _ _ v' hv' _ _ _ tc _ h' F'' N''
  refine Hold.mk ?_
  refine ksw_while (σ := List Value × List Int × Nat × Tok × Tok) (fun c => [(l, listOf c.1.toArray n)]) (fun c => [(Str.ofString "pos", .int (c.2.2.1 : Int) c.2.2.2.1), (Str.ofString "childpos", .int ((2 * c.2.2.1 + 1 : Nat) : Int) c.2.2.2.2)]) (fun c => All2 R c.1 c.2.1) [Str.ofString "rightpos"]
    (fun c => c.2.1.length = ks.length ∧ c.2.2.1 < ks.length ∧ suLoop c.2.1 c.2.2.1 = suLoop ks p) (fun c => ks.length - c.2.2.1) (vs, ks, p, u, tc) F'' N'' hi (by intro q hq; cases hq with | head => rfl | tail _ h => cases h with | head => rfl | tail _ h => cases h) ⟨rfl, hp, rfl⟩ ?_
  clear F'' N'' hi hp
  rintro ⟨vs', ks', p', tp, tc⟩ u h tk hi ⟨hlen, hp, hsu⟩ F N
  dsimp only [kstB] at F N hi hlen hp hsu ⊢
  have hps : ∀ {i : Nat} {x : Int}, (ks'.set i x).length = ks.length := fun {_ _} => by rw [List.length_set, hlen]
  k_steps
  · rename Fr _ _ _ _ => F9
    rename News _ _ _ _ => N9
    rename All2 _ _ _ => hi9
    have e : suChild ks' p' = 2 * p' + 1 := by unfold suChild; rw [if_neg (by omega)]
    refine ksw_end (_, _, 2 * p' + 1, _, _) F9 N9 (fun _ h => h) hi9 (by intro q hq; cases hq with | head => rfl | tail _ h => cases h with | head => rfl | tail _ h => cases h) (by ksw_same) ⟨hps, by dsimp only; omega, ?_⟩ (by dsimp only; omega)
    have e2 := suLoop_down (ks := ks') (p := p') (by omega)
    rw [e] at e2
    exact e2.symm.trans hsu
  · rename Fr _ _ _ _ => F9
    rename News _ _ _ _ => N9
    rename All2 _ _ _ => hi9
    have e : suChild ks' p' = 2 * p' + 1 + 1 := by unfold suChild; rw [if_pos (by omega)]
    refine ksw_end (_, _, 2 * p' + 1 + 1, _, _) F9 N9 (fun _ h => h) hi9 (by intro q hq; cases hq with | head => rfl | tail _ h => cases h with | head => rfl | tail _ h => cases h) (by ksw_same) ⟨hps, by dsimp only; omega, ?_⟩ (by dsimp only; omega)
    have e2 := suLoop_down (ks := ks') (p := p') (by omega)
    rw [e] at e2
    exact e2.symm.trans hsu
  · rename Fr _ _ _ _ => F9
    rename News _ _ _ _ => N9
    rename All2 _ _ _ => hi9
    have e : suChild ks' p' = 2 * p' + 1 := by unfold suChild; rw [if_neg (by omega)]
    refine ksw_end (_, _, 2 * p' + 1, _, _) F9 N9 (fun _ h => h) hi9 (by intro q hq; cases hq with | head => rfl | tail _ h => cases h with | head => rfl | tail _ h => cases h) (by ksw_same) ⟨hps, by dsimp only; omega, ?_⟩ (by dsimp only; omega)
    have e2 := suLoop_down (ks := ks') (p := p') (by omega)
    rw [e] at e2
    exact e2.symm.trans hsu
  · rename Fr _ _ _ _ => F9
    rename News _ _ _ _ => N9
    rename All2 _ _ _ => hi9
    refine Hold.mk ?_
    refine sd_call B' F9 X' N9 T' (Around.frames_deeper B'.stack) rfl rfl (by rw [depth_deeper]; omega) hnh hR hi9 (by rw [hps]; omega) (by rw [hps]; omega) ?_
    intro h9 tk9 vs9 kp hl hi8
    have hu : sd (ks'.set p' (ks.getD p 0)) p p' = su ks p := by
      have e := suLoop_end (ks := ks') (p := p') (by omega)
      unfold su
      rw [← hsu, e]
    rw [hu] at hi8
    obtain ⟨F8, N8⟩ := behindU F9 N9 (.head (fun _ h => nomatch h)) kp hl
    clear F9 N9
    k_steps
    exact leaveF1 F8 N8 fun kp hl => hq _ _ _ kp hl hi8

end

-- part Hp
section
set_option maxHeartbeats 4000000 in
theorem push_call : ∀ {w : World} {A₀ A : Around} {s : Shared} {base h₀ : Heap} {outer : List Env} {L : Addr} {m mg mb : Str → Option Value} {env : Env} {mean : ExcName → Option Value}
    {R : Value → Int → Prop} {l : Addr} {vs : List Value} {ks : List Int} {n : Nat} {x : Int} {v : Value} {Q E : Value → Shared → Prop},
    Below A₀ base outer h₀ → Fr h₀ L s.heap m → (hd.heap_39 w.params).In h₀ → News h₀ L s.heap [(l, listOf vs.toArray n)] →
    Top hd.view_39 (looseW hd.view_39 [Str.ofString "b2a_base64", Str.ofString "b64encode"]) mean mg mb h₀ →
    A.frames = some (env :: outer) → env.frame = some L → env.scope.kind = .function → A.depth + 4 < recursionLimit → A.handled = none →
    LtRule w R → All2 R vs ks → ks.length < 1000 → R v x →
    (∀ h' tk' vs' n', (∀ b o, b ≠ l → s.heap.get? b = some o → h'.get? b = some o) → h'.get? l = some (listOf vs'.toArray n') → All2 R vs' (hpush ks x) → Q .none { s with heap := h', toks := tk' }) →
    wpAny (model PySem.Challenge.rw_mq0155_01.row.prog w) A (call (.ref 28) [.ref l, v]) Q E s := by
  w_top off
  k_fill
  intro w A₀ A s base h₀ outer L m mg mb env mean R l vs ks n x v Q E B F X N T hA hf hke hroom hnh hR hi hfit hv hq
  obtain ⟨hh, dp, fr, gd, un⟩ := A
  dsimp only at hnh hA hroom
  subst hnh hA
  refine wpAny_call ?_
  k_dflt (refine' call_foot (sub := [(l, listOf vs.toArray n)]) (binds := [(Str.ofString "heap", .ref l), (Str.ofString "item", v)]) B F X N T rfl hf hke ?k6 ?k7 ?k8 ?k9 ?kB ?_ ?c2 ?c3 ?c4 ?c5; (case k6 => k_is); (case k7 => k_is); (case k8 => (dsimp only; omega)); (case k9 => exact BindsTo.of_eq rfl); (case c5 => decide); (case kB => exact locs rfl); (case c2 => exact rfl); (case c3 => exact rfl); (case c4 => exact rfl); k_whole)
  intro g L' h₁ F' N' B' X' T' hlt hkeep
  clear F N B X T
  try dsimp only
  try k_fold
  k_with_none
  k_with "subscriptTail" => (k_here; (with_reducible show wpAny _ _ (subscriptTail _ _ (Value.ref _) (Value.int _ _)) _ _ _); k_dflt (refine' lst_sub ?k1 ?k2 ?k3 ?k4 ?k5 ?k6 ?_ ?k7; (case k1 => k_asm); (case k2 => k_mem); (case k3 => with_reducible assumption); (case k4 => exact rfl); (case k5 => omega); (case k6 => omega); (case k7 => with_unfolding_all rfl); k_whole); intro _ _)
  k_with "setItem ref int" => (k_here; k_dflt (refine' lst_set ?k1 ?k2 ?ke ?k3 ?k4 ?kv ?k6 ?k7 ?_; (case ke => exact rfl); (case k1 => k_asm); (case k2 => k_asm); (case k3 => k_upd); (case k4 => with_reducible assumption); (case kv => with_reducible assumption); (case k6 => omega); (case k7 => omega); k_whole); intro _ _ _ _; (try k_sweep))
  k_with "compareOp Lt" => (k_here; k_dflt (refine' lt_use (by with_reducible assumption) ?k1 ?k2 ?_; (case k1 => with_reducible assumption); (case k2 => with_reducible assumption); k_whole))
  k_with "binaryOp Add int int" => (k_here; (with_reducible refine add1_nat ?_); intro _ _)
  k_with "binaryOp Mult int int" => (k_here; (with_reducible refine mul2_nat ?_); intro _ _)
  k_with "call builtin:len" => (k_here; (with_reducible show wpAny _ _ (call (Value.builtin "len") [Value.ref _]) _ _ _); k_dflt (refine' lst_len ?k1 ?k2 ?k3 ?k4 ?_; (case k1 => k_asm); (case k2 => k_mem); (case k3 => with_reducible assumption); (case k4 => omega); k_whole); intro _ _)
  k_with "call builtin:list.append" => (k_here; (with_reducible show wpAny _ _ (call (Value.builtin _) [Value.ref _, _]) _ _ _); k_dflt (refine' lst_append ?k1 ?k2 ?k3 ?k4 ?k5 ?k6 ?_; (case k1 => k_asm); (case k2 => k_asm); (case k3 => k_upd); (case k4 => with_reducible assumption); (case k5 => with_reducible assumption); (case k6 => omega); k_whole); intro _ _ _ _ _; (try k_sweep))
  k_with "call builtin:list.pop" => (k_here; (with_reducible show wpAny _ _ (call (Value.builtin _) [Value.ref _]) _ _ _); k_dflt (refine' lst_pop ?k1 ?k2 ?k3 ?k4 ?k5 ?k6 ?_; (case k1 => k_asm); (case k2 => k_asm); (case k3 => k_upd); (case k4 => with_reducible assumption); (case k5 => omega); (case k6 => omega); k_whole); intro _ _ _ _ _ _ _; (try k_sweep))
  k_with "truthy ref" => (k_here; k_dflt (refine' lst_truthy ?k1 ?k2 ?k3 ?k4 ?_; (case k1 => k_asm); (case k2 => k_mem); (case k3 => with_reducible assumption); (case k4 => omega); k_whole); intro _)
  k_with "call builtin:list.reverse" => (k_here; (with_reducible show wpAny _ _ (call (Value.builtin _) [Value.ref _]) _ _ _); k_dflt (refine' lst_reverse ?k1 ?k2 ?k3 ?k4 ?k5 ?_; (case k1 => k_asm); (case k2 => k_asm); (case k3 => k_upd); (case k4 => with_reducible assumption); (case k5 => omega); k_whole); intro _ _ _ _ _; (try k_sweep))
  k_with "call type:type" => ((with_reducible show wpAny _ _ (call _ [Value.bytes _ _]) _ _ _); refine call_type_of (Tx := "bytes") rfl (by decide +kernel) ?_)
  k_with "binaryOp Sub int int" => (refine sub1_nat (by omega) ?_; intro _ _)
  k_with "call ref" => (
    rename Fr _ _ _ _ => F9
    rename News _ _ _ _ => N9
    rename All2 _ _ _ => hi9
    refine sd_call (st := 0) B' F9 X' N9 T' (Around.frames_deeper B'.stack) rfl rfl (by rw [depth_deeper]; dsimp only; omega) rfl hR hi9 (by omega) (by omega) ?_
    intro h9 tk9 vs9 kp hl hi8
    obtain ⟨F8, N8⟩ := behindU F9 N9 (.head (fun _ h => nomatch h)) kp hl
    clear F9 N9)
  k_steps
  rename Fr _ _ _ _ => F9
  rename News _ _ _ _ => N9
  rename All2 _ _ _ => hi9
  have e : sd (ks ++ [x]) 0 ((ks ++ [x]).length - 1) = hpush ks x := by unfold hpush; congr 1; simp
  rw [e] at hi9
  exact leaveF1 F9 N9 fun kp hl => hq _ _ _ _ kp hl hi9

set_option maxHeartbeats 4000000 in
theorem pop_call : ∀ {w : World} {A₀ A : Around} {s : Shared} {base h₀ : Heap} {outer : List Env} {L : Addr} {m mg mb : Str → Option Value} {env : Env} {mean : ExcName → Option Value}
    {R : Value → Int → Prop} {l : Addr} {vs : List Value} {ks : List Int} {n : Nat} {Q E : Value → Shared → Prop},
    Below A₀ base outer h₀ → Fr h₀ L s.heap m → (hd.heap_39 w.params).In h₀ → News h₀ L s.heap [(l, listOf vs.toArray n)] →
    Top hd.view_39 (looseW hd.view_39 [Str.ofString "b2a_base64", Str.ofString "b64encode"]) mean mg mb h₀ →
    A.frames = some (env :: outer) → env.frame = some L → env.scope.kind = .function → A.depth + 5 < recursionLimit → A.handled = none →
    LtRule w R → All2 R vs ks → ks.length < 1000 → 0 < ks.length →
    (∀ h' tk' vs' n', (∀ b o, b ≠ l → s.heap.get? b = some o → h'.get? b = some o) → h'.get? l = some (listOf vs'.toArray n') → All2 R vs' (hpop ks).2 → ∀ v, R v (hpop ks).1 → Q v { s with heap := h', toks := tk' }) →
    wpAny (model PySem.Challenge.rw_mq0155_01.row.prog w) A (call (.ref 35) [.ref l]) Q E s := by
  w_top off
  k_fill
  intro w A₀ A s base h₀ outer L m mg mb env mean R l vs ks n Q E B F X N T hA hf hke hroom hnh hR hi hfit hne hq
  obtain ⟨hh, dp, fr, gd, un⟩ := A
  dsimp only at hnh hA hroom
  subst hnh hA
  refine wpAny_call ?_
  k_dflt (refine' call_foot (sub := [(l, listOf vs.toArray n)]) (binds := [(Str.ofString "heap", .ref l)]) B F X N T rfl hf hke ?k6 ?k7 ?k8 ?k9 ?kB ?_ ?c2 ?c3 ?c4 ?c5; (case k6 => k_is); (case k7 => k_is); (case k8 => (dsimp only; omega)); (case k9 => exact BindsTo.of_eq rfl); (case c5 => decide); (case kB => exact locs rfl); (case c2 => exact rfl); (case c3 => exact rfl); (case c4 => exact rfl); k_whole)
  intro g L' h₁ F' N' B' X' T' hlt hkeep
  clear F N B X T
  try dsimp only
  try k_fold
  k_with_none
  k_with "subscriptTail" => (k_here; (with_reducible show wpAny _ _ (subscriptTail _ _ (Value.ref _) (Value.int _ _)) _ _ _); k_dflt (refine' lst_sub ?k1 ?k2 ?k3 ?k4 ?k5 ?k6 ?_ ?k7; (case k1 => k_asm); (case k2 => k_mem); (case k3 => with_reducible assumption); (case k4 => exact rfl); (case k5 => omega); (case k6 => omega); (case k7 => with_unfolding_all rfl); k_whole); intro _ _)
  k_with "setItem ref int" => (k_here; k_dflt (refine' lst_set ?k1 ?k2 ?ke ?k3 ?k4 ?kv ?k6 ?k7 ?_; (case ke => exact rfl); (case k1 => k_asm); (case k2 => k_asm); (case k3 => k_upd); (case k4 => with_reducible assumption); (case kv => with_reducible assumption); (case k6 => omega); (case k7 => omega); k_whole); intro _ _ _ _; (try k_sweep))
  k_with "compareOp Lt" => (k_here; k_dflt (refine' lt_use (by with_reducible assumption) ?k1 ?k2 ?_; (case k1 => with_reducible assumption); (case k2 => with_reducible assumption); k_whole))
  k_with "binaryOp Add int int" => (k_here; (with_reducible refine add1_nat ?_); intro _ _)
  k_with "binaryOp Mult int int" => (k_here; (with_reducible refine mul2_nat ?_); intro _ _)
  k_with "call builtin:len" => (k_here; (with_reducible show wpAny _ _ (call (Value.builtin "len") [Value.ref _]) _ _ _); k_dflt (refine' lst_len ?k1 ?k2 ?k3 ?k4 ?_; (case k1 => k_asm); (case k2 => k_mem); (case k3 => with_reducible assumption); (case k4 => omega); k_whole); intro _ _)
  k_with "call builtin:list.append" => (k_here; (with_reducible show wpAny _ _ (call (Value.builtin _) [Value.ref _, _]) _ _ _); k_dflt (refine' lst_append ?k1 ?k2 ?k3 ?k4 ?k5 ?k6 ?_; (case k1 => k_asm); (case k2 => k_asm); (case k3 => k_upd); (case k4 => with_reducible assumption); (case k5 => with_reducible assumption); (case k6 => omega); k_whole); intro _ _ _ _ _; (try k_sweep))
  k_with "call builtin:list.pop" => (k_here; (with_reducible show wpAny _ _ (call (Value.builtin _) [Value.ref _]) _ _ _); k_dflt (refine' lst_pop ?k1 ?k2 ?k3 ?k4 ?k5 ?k6 ?_; (case k1 => k_asm); (case k2 => k_asm); (case k3 => k_upd); (case k4 => with_reducible assumption); (case k5 => omega); (case k6 => omega); k_whole); intro _ _ _ _ _ _ _; (try k_sweep))
  k_with "truthy ref" => (k_here; k_dflt (refine' lst_truthy ?k1 ?k2 ?k3 ?k4 ?_; (case k1 => k_asm); (case k2 => k_mem); (case k3 => with_reducible assumption); (case k4 => omega); k_whole); intro _)
  k_with "call builtin:list.reverse" => (k_here; (with_reducible show wpAny _ _ (call (Value.builtin _) [Value.ref _]) _ _ _); k_dflt (refine' lst_reverse ?k1 ?k2 ?k3 ?k4 ?k5 ?_; (case k1 => k_asm); (case k2 => k_asm); (case k3 => k_upd); (case k4 => with_reducible assumption); (case k5 => omega); k_whole); intro _ _ _ _ _; (try k_sweep))
  k_with "call type:type" => ((with_reducible show wpAny _ _ (call _ [Value.bytes _ _]) _ _ _); refine call_type_of (Tx := "bytes") rfl (by decide +kernel) ?_)
  k_with "call ref" => (
    rename Fr _ _ _ _ => F9
    rename News _ _ _ _ => N9
    rename All2 _ _ _ => hi9
    refine su_call (p := 0) B' F9 X' N9 T' (Around.frames_deeper B'.stack) rfl rfl (by rw [depth_deeper]; dsimp only; omega) rfl hR hi9 (by (try simp only [List.length_set]); omega) (by (try simp only [List.length_set]); omega) ?_
    intro h9 tk9 vs9 kp hl hi8
    obtain ⟨F8, N8⟩ := behindU F9 N9 (.head (fun _ h => nomatch h)) kp hl
    clear F9 N9)
  k_steps
  all_goals (try dsimp only)
  k_steps
  · rename_i hv' _ _ _ _ _ _ _ _ _ _
    have e : hpop ks = (ks.dropLast.getD 0 0, su (ks.dropLast.set 0 (ks.getLastD 0)) 0) := by unfold hpop; rw [if_pos (by omega)]
    rw [e] at hq
    exact leaveF1 F8 N8 fun kp hl => hq _ _ _ _ kp hl hi8 _ (by assumption)
  · rename Fr _ _ _ _ => F9
    rename News _ _ _ _ => N9
    rename All2 _ _ _ => hi9
    have e : hpop ks = (ks.getLastD 0, ks.dropLast) := by unfold hpop; rw [if_neg (by omega)]
    rw [e] at hq
    exact leaveF1 F9 N9 fun kp hl => hq _ _ _ _ kp hl hi9 _ (by assumption)

set_option maxHeartbeats 4000000 in
theorem replace_call : ∀ {w : World} {A₀ A : Around} {s : Shared} {base h₀ : Heap} {outer : List Env} {L : Addr} {m mg mb : Str → Option Value} {env : Env} {mean : ExcName → Option Value}
    {R : Value → Int → Prop} {l : Addr} {vs : List Value} {ks : List Int} {n : Nat} {x : Int} {v : Value} {Q E : Value → Shared → Prop},
    Below A₀ base outer h₀ → Fr h₀ L s.heap m → (hd.heap_39 w.params).In h₀ → News h₀ L s.heap [(l, listOf vs.toArray n)] →
    Top hd.view_39 (looseW hd.view_39 [Str.ofString "b2a_base64", Str.ofString "b64encode"]) mean mg mb h₀ →
    A.frames = some (env :: outer) → env.frame = some L → env.scope.kind = .function → A.depth + 5 < recursionLimit → A.handled = none →
    LtRule w R → All2 R vs ks → ks.length < 1000 → R v x → 0 < ks.length →
    (∀ h' tk' vs' n', (∀ b o, b ≠ l → s.heap.get? b = some o → h'.get? b = some o) → h'.get? l = some (listOf vs'.toArray n') → All2 R vs' (hreplace ks x).2 → ∀ v, R v (hreplace ks x).1 → Q v { s with heap := h', toks := tk' }) →
    wpAny (model PySem.Challenge.rw_mq0155_01.row.prog w) A (call (.ref 42) [.ref l, v]) Q E s := by
  w_top off
  k_fill
  intro w A₀ A s base h₀ outer L m mg mb env mean R l vs ks n x v Q E B F X N T hA hf hke hroom hnh hR hi hfit hv hne hq
  obtain ⟨hh, dp, fr, gd, un⟩ := A
  dsimp only at hnh hA hroom
  subst hnh hA
  refine wpAny_call ?_
  k_dflt (refine' call_foot (sub := [(l, listOf vs.toArray n)]) (binds := [(Str.ofString "heap", .ref l), (Str.ofString "item", v)]) B F X N T rfl hf hke ?k6 ?k7 ?k8 ?k9 ?kB ?_ ?c2 ?c3 ?c4 ?c5; (case k6 => k_is); (case k7 => k_is); (case k8 => (dsimp only; omega)); (case k9 => exact BindsTo.of_eq rfl); (case c5 => decide); (case kB => exact locs rfl); (case c2 => exact rfl); (case c3 => exact rfl); (case c4 => exact rfl); k_whole)
  intro g L' h₁ F' N' B' X' T' hlt hkeep
  clear F N B X T
  try dsimp only
  try k_fold
  k_with_none
  k_with "subscriptTail" => (k_here; (with_reducible show wpAny _ _ (subscriptTail _ _ (Value.ref _) (Value.int _ _)) _ _ _); k_dflt (refine' lst_sub ?k1 ?k2 ?k3 ?k4 ?k5 ?k6 ?_ ?k7; (case k1 => k_asm); (case k2 => k_mem); (case k3 => with_reducible assumption); (case k4 => exact rfl); (case k5 => omega); (case k6 => omega); (case k7 => with_unfolding_all rfl); k_whole); intro _ _)
  k_with "setItem ref int" => (k_here; k_dflt (refine' lst_set ?k1 ?k2 ?ke ?k3 ?k4 ?kv ?k6 ?k7 ?_; (case ke => exact rfl); (case k1 => k_asm); (case k2 => k_asm); (case k3 => k_upd); (case k4 => with_reducible assumption); (case kv => with_reducible assumption); (case k6 => omega); (case k7 => omega); k_whole); intro _ _ _ _; (try k_sweep))
  k_with "compareOp Lt" => (k_here; k_dflt (refine' lt_use (by with_reducible assumption) ?k1 ?k2 ?_; (case k1 => with_reducible assumption); (case k2 => with_reducible assumption); k_whole))
  k_with "binaryOp Add int int" => (k_here; (with_reducible refine add1_nat ?_); intro _ _)
  k_with "binaryOp Mult int int" => (k_here; (with_reducible refine mul2_nat ?_); intro _ _)
  k_with "call builtin:len" => (k_here; (with_reducible show wpAny _ _ (call (Value.builtin "len") [Value.ref _]) _ _ _); k_dflt (refine' lst_len ?k1 ?k2 ?k3 ?k4 ?_; (case k1 => k_asm); (case k2 => k_mem); (case k3 => with_reducible assumption); (case k4 => omega); k_whole); intro _ _)
  k_with "call builtin:list.append" => (k_here; (with_reducible show wpAny _ _ (call (Value.builtin _) [Value.ref _, _]) _ _ _); k_dflt (refine' lst_append ?k1 ?k2 ?k3 ?k4 ?k5 ?k6 ?_; (case k1 => k_asm); (case k2 => k_asm); (case k3 => k_upd); (case k4 => with_reducible assumption); (case k5 => with_reducible assumption); (case k6 => omega); k_whole); intro _ _ _ _ _; (try k_sweep))
  k_with "call builtin:list.pop" => (k_here; (with_reducible show wpAny _ _ (call (Value.builtin _) [Value.ref _]) _ _ _); k_dflt (refine' lst_pop ?k1 ?k2 ?k3 ?k4 ?k5 ?k6 ?_; (case k1 => k_asm); (case k2 => k_asm); (case k3 => k_upd); (case k4 => with_reducible assumption); (case k5 => omega); (case k6 => omega); k_whole); intro _ _ _ _ _ _ _; (try k_sweep))
  k_with "truthy ref" => (k_here; k_dflt (refine' lst_truthy ?k1 ?k2 ?k3 ?k4 ?_; (case k1 => k_asm); (case k2 => k_mem); (case k3 => with_reducible assumption); (case k4 => omega); k_whole); intro _)
  k_with "call builtin:list.reverse" => (k_here; (with_reducible show wpAny _ _ (call (Value.builtin _) [Value.ref _]) _ _ _); k_dflt (refine' lst_reverse ?k1 ?k2 ?k3 ?k4 ?k5 ?_; (case k1 => k_asm); (case k2 => k_asm); (case k3 => k_upd); (case k4 => with_reducible assumption); (case k5 => omega); k_whole); intro _ _ _ _ _; (try k_sweep))
  k_with "call type:type" => ((with_reducible show wpAny _ _ (call _ [Value.bytes _ _]) _ _ _); refine call_type_of (Tx := "bytes") rfl (by decide +kernel) ?_)
  k_with "call ref" => (
    rename Fr _ _ _ _ => F9
    rename News _ _ _ _ => N9
    rename All2 _ _ _ => hi9
    refine su_call (p := 0) B' F9 X' N9 T' (Around.frames_deeper B'.stack) rfl rfl (by rw [depth_deeper]; dsimp only; omega) rfl hR hi9 (by (try simp only [List.length_set]); omega) (by (try simp only [List.length_set]); omega) ?_
    intro h9 tk9 vs9 kp hl hi8
    obtain ⟨F8, N8⟩ := behindU F9 N9 (.head (fun _ h => nomatch h)) kp hl
    clear F9 N9)
  k_steps
  all_goals (try dsimp only)
  k_steps
  exact leaveF1 F8 N8 fun kp hl => hq _ _ _ _ kp hl hi8 _ (by assumption)

set_option maxHeartbeats 4000000 in
theorem pushpop_call : ∀ {w : World} {A₀ A : Around} {s : Shared} {base h₀ : Heap} {outer : List Env} {L : Addr} {m mg mb : Str → Option Value} {env : Env} {mean : ExcName → Option Value}
    {R : Value → Int → Prop} {l : Addr} {vs : List Value} {ks : List Int} {n : Nat} {x : Int} {v : Value} {Q E : Value → Shared → Prop},
    Below A₀ base outer h₀ → Fr h₀ L s.heap m → (hd.heap_39 w.params).In h₀ → News h₀ L s.heap [(l, listOf vs.toArray n)] →
    Top hd.view_39 (looseW hd.view_39 [Str.ofString "b2a_base64", Str.ofString "b64encode"]) mean mg mb h₀ →
    A.frames = some (env :: outer) → env.frame = some L → env.scope.kind = .function → A.depth + 5 < recursionLimit → A.handled = none →
    LtRule w R → All2 R vs ks → ks.length < 1000 → R v x →
    (∀ h' tk' vs' n', (∀ b o, b ≠ l → s.heap.get? b = some o → h'.get? b = some o) → h'.get? l = some (listOf vs'.toArray n') → All2 R vs' (hpushpop ks x).2 → ∀ v, R v (hpushpop ks x).1 → Q v { s with heap := h', toks := tk' }) →
    wpAny (model PySem.Challenge.rw_mq0155_01.row.prog w) A (call (.ref 49) [.ref l, v]) Q E s := by
  w_top off
  k_fill
  intro w A₀ A s base h₀ outer L m mg mb env mean R l vs ks n x v Q E B F X N T hA hf hke hroom hnh hR hi hfit hv hq
  obtain ⟨hh, dp, fr, gd, un⟩ := A
  dsimp only at hnh hA hroom
  subst hnh hA
  refine wpAny_call ?_
  k_dflt (refine' call_foot (sub := [(l, listOf vs.toArray n)]) (binds := [(Str.ofString "heap", .ref l), (Str.ofString "item", v)]) B F X N T rfl hf hke ?k6 ?k7 ?k8 ?k9 ?kB ?_ ?c2 ?c3 ?c4 ?c5; (case k6 => k_is); (case k7 => k_is); (case k8 => (dsimp only; omega)); (case k9 => exact BindsTo.of_eq rfl); (case c5 => decide); (case kB => exact locs rfl); (case c2 => exact rfl); (case c3 => exact rfl); (case c4 => exact rfl); k_whole)
  intro g L' h₁ F' N' B' X' T' hlt hkeep
  clear F N B X T
  try dsimp only
  try k_fold
  k_with_none
  k_with "subscriptTail" => (k_here; (with_reducible show wpAny _ _ (subscriptTail _ _ (Value.ref _) (Value.int _ _)) _ _ _); k_dflt (refine' lst_sub ?k1 ?k2 ?k3 ?k4 ?k5 ?k6 ?_ ?k7; (case k1 => k_asm); (case k2 => k_mem); (case k3 => with_reducible assumption); (case k4 => exact rfl); (case k5 => omega); (case k6 => omega); (case k7 => with_unfolding_all rfl); k_whole); intro _ _)
  k_with "setItem ref int" => (k_here; k_dflt (refine' lst_set ?k1 ?k2 ?ke ?k3 ?k4 ?kv ?k6 ?k7 ?_; (case ke => exact rfl); (case k1 => k_asm); (case k2 => k_asm); (case k3 => k_upd); (case k4 => with_reducible assumption); (case kv => with_reducible assumption); (case k6 => omega); (case k7 => omega); k_whole); intro _ _ _ _; (try k_sweep))
  k_with "compareOp Lt" => (k_here; k_dflt (refine' lt_use (by with_reducible assumption) ?k1 ?k2 ?_; (case k1 => with_reducible assumption); (case k2 => with_reducible assumption); k_whole))
  k_with "binaryOp Add int int" => (k_here; (with_reducible refine add1_nat ?_); intro _ _)
  k_with "binaryOp Mult int int" => (k_here; (with_reducible refine mul2_nat ?_); intro _ _)
  k_with "call builtin:len" => (k_here; (with_reducible show wpAny _ _ (call (Value.builtin "len") [Value.ref _]) _ _ _); k_dflt (refine' lst_len ?k1 ?k2 ?k3 ?k4 ?_; (case k1 => k_asm); (case k2 => k_mem); (case k3 => with_reducible assumption); (case k4 => omega); k_whole); intro _ _)
  k_with "call builtin:list.append" => (k_here; (with_reducible show wpAny _ _ (call (Value.builtin _) [Value.ref _, _]) _ _ _); k_dflt (refine' lst_append ?k1 ?k2 ?k3 ?k4 ?k5 ?k6 ?_; (case k1 => k_asm); (case k2 => k_asm); (case k3 => k_upd); (case k4 => with_reducible assumption); (case k5 => with_reducible assumption); (case k6 => omega); k_whole); intro _ _ _ _ _; (try k_sweep))
  k_with "call builtin:list.pop" => (k_here; (with_reducible show wpAny _ _ (call (Value.builtin _) [Value.ref _]) _ _ _); k_dflt (refine' lst_pop ?k1 ?k2 ?k3 ?k4 ?k5 ?k6 ?_; (case k1 => k_asm); (case k2 => k_asm); (case k3 => k_upd); (case k4 => with_reducible assumption); (case k5 => omega); (case k6 => omega); k_whole); intro _ _ _ _ _ _ _; (try k_sweep))
  k_with "truthy ref" => (k_here; k_dflt (refine' lst_truthy ?k1 ?k2 ?k3 ?k4 ?_; (case k1 => k_asm); (case k2 => k_mem); (case k3 => with_reducible assumption); (case k4 => omega); k_whole); intro _)
  k_with "call builtin:list.reverse" => (k_here; (with_reducible show wpAny _ _ (call (Value.builtin _) [Value.ref _]) _ _ _); k_dflt (refine' lst_reverse ?k1 ?k2 ?k3 ?k4 ?k5 ?_; (case k1 => k_asm); (case k2 => k_asm); (case k3 => k_upd); (case k4 => with_reducible assumption); (case k5 => omega); k_whole); intro _ _ _ _ _; (try k_sweep))
  k_with "call type:type" => ((with_reducible show wpAny _ _ (call _ [Value.bytes _ _]) _ _ _); refine call_type_of (Tx := "bytes") rfl (by decide +kernel) ?_)
  k_with "call ref" => (
    rename Fr _ _ _ _ => F9
    rename News _ _ _ _ => N9
    rename All2 _ _ _ => hi9
    refine su_call (p := 0) B' F9 X' (news_one N9 (by k_mem)) T' (Around.frames_deeper B'.stack) rfl rfl (by rw [depth_deeper]; dsimp only; omega) rfl hR hi9 (by (try simp only [List.length_set]); omega) (by (try simp only [List.length_set]); omega) ?_
    intro h9 tk9 vs9 kp hl hi8
    obtain ⟨F8, N8⟩ := behindU F9 N9 (by k_upd) kp hl
    clear F9 N9)
  k_steps
  all_goals (try dsimp only)
  k_steps
  · have e : hpushpop ks x = (ks.getD 0 0, su (ks.set 0 x) 0) := by unfold hpushpop; rw [if_pos ⟨by omega, by assumption⟩]
    rw [e] at hq
    exact leaveF1 F8 (news_one N8 (by k_mem)) fun kp hl => hq _ _ _ _ kp hl hi8 _ (by assumption)
  all_goals (
    rename Fr _ _ _ _ => F9
    rename News _ _ _ _ => N9
    have e : hpushpop ks x = (x, ks) := by unfold hpushpop; rw [if_neg (by first | omega | exact fun h => absurd h.2 (by assumption))]
    rw [e] at hq
    exact leaveF1 F9 N9 fun kp hl => hq _ _ _ _ kp hl hi _ hv)


end

-- part Rev
section
theorem sub_ri_reversed : isSubtype (.type "range_iterator") (.type "reversed") = pure false := by rw [isSubtype_type]; kernel_rfl

section
variable {prog : Program} {w : World} {A : Around} {E : Value → Shared → Prop} {s : Shared}
abbrev rriObj (x left step : Int) : Obj := { cls := .type "range_iterator", data := .fields #[rawInt x, rawInt left, rawInt step] }

theorem rangeFields_ {r : Addr} {a b c : Int} {t u v : Tok} {Q : Int × Int × Int → Shared → Prop} (hr : IsRange s.heap r a b c t u v) (h : Q (a, b, c) s) : wpAny (model prog w) A (Builtin.Range.rangeFields (.ref r)) Q E s := by
  unfold Builtin.Range.rangeFields
  refine wpAny_bind (wpAny_field hr rfl (x := .int a t) rfl ?_)
  refine wpAny_bind (wpAny_of_eq (a := some a) rfl ?_)
  refine wpAny_bind (wpAny_field hr rfl (x := .int b u) rfl ?_)
  refine wpAny_bind (wpAny_of_eq (a := some b) rfl ?_)
  refine wpAny_bind (wpAny_field hr rfl (x := .int c v) rfl ?_)
  refine wpAny_bind (wpAny_of_eq (a := some c) rfl ?_)
  exact wpAny_pure h
theorem call_range_reversed {r : Addr} {N : Nat} {t u v : Tok} {Q : Value → Shared → Prop} (hr : IsRange s.heap r 0 (N : Int) 1 t u v) (hN : N < 2 ^ 60)
    (h : Q (.ref s.heap.objs.size) { s with heap := s.heap.push (rriObj ((N : Int) - 1) N (-1)) }) : wpAny (model prog w) A (call (.builtin "range.__reversed__") [.ref r]) Q E s := by
  have hT : s.TypeIs (.ref r) "range" := ⟨_, hr, rfl⟩
  refine wpAny_call_entry F.slot_range_reversed hT F.entry_range_reversed ?_ (F.args_range_reversed_1 _)
  unfold Builtin.«range.__reversed__»
  refine wpAny_bind (wpAny_of_eq (a := Value.ref r) rfl ?_)
  refine wpAny_bind (rangeFields_ hr ?_)
  have hn : Builtin.Range.rangeSize 0 (N : Int) 1 = N := by
    unfold Builtin.Range.rangeSize
    rw [if_pos (by decide)]
    split <;> omega
  have hs : (Builtin.Range.rangeFitsLong 0 && Builtin.Range.rangeFitsLong (N : Int) && Builtin.Range.rangeFitsLong 1 && Builtin.Range.rangeFitsLong (-1) && Builtin.Range.rangeFitsLong (0 - 1) && Builtin.Range.rangeFitsLong (N : Int)) = true := by
    unfold Builtin.Range.rangeFitsLong
    simp only [Bool.and_eq_true, decide_eq_true_eq]
    omega
  dsimp only
  rw [hn, hs]
  have e : (0 : Int) + ((N : Int) - 1) * 1 = (N : Int) - 1 := by omega
  rw [e]
  simp only [Bool.not_true, Bool.false_eq_true, if_false, if_true]
  exact wpAny_bind (wpAny_newObj_type (wpAny_pure ⟨_, rfl, h⟩))

theorem code_reversed_range {r : Addr} {N : Nat} {t u v : Tok} {Q₁ : Value → Shared → Prop} (hr : IsRange s.heap r 0 (N : Int) 1 t u v) (hN : N < 2 ^ 60)
    (h : Q₁ (.ref s.heap.objs.size) { s with heap := s.heap.push (rriObj ((N : Int) - 1) N (-1)) }) :
    codeAny (model prog w) A (.call (.builtin "reversed.__new__") ⟨[.type "reversed", .ref r], []⟩) (wants Q₁ E) s := by
  have hT : s.TypeIs (.ref r) "range" := ⟨_, hr, rfl⟩
  refine codeAny_of_tree ?_
  show wpAny _ A.in1 (do checkBuiltinCall "reversed.__new__" ⟨[.type "reversed", .ref r], []⟩; again (.builtin "reversed.__new__" ⟨[.type "reversed", .ref r], []⟩)) _ _ s
  refine wpAny_bind (wpAny_of_eq (F.newCall_reversed_1 _) (wpAny_pure ⟨plainId_quiet F.plain_reversed_new _, codeAny_builtin F.entry_reversed_new ?_⟩))
  rw [Around.under_plainId F.plain_reversed_new _]
  unfold Builtin.«reversed.__new__»
  refine wpAny_bind (wpAny_of_eq (newClass_reversed _) ?_)
  try dsimp only
  refine wpAny_bind (wpAny_of_eq (a := ()) (by first | rfl | kernel_rfl) ?_)
  refine wpAny_bind (wpAny_of_eq (a := ()) (by first | rfl | kernel_rfl) ?_)
  try dsimp only
  refine wpAny_bind (wpAny_specialOf hT F.slot_range_reversed.lookup ?_)
  try dsimp only
  refine wpAny_bind (wpAny_of_eq (F.slot_range_reversed.bind _) ?_)
  try dsimp only
  first
  | rw [if_neg (show ¬ ((Value.builtin "range.__reversed__" == Value.none) = true) from Bool.false_ne_true)]
  | (show wpAny _ _ (if (Value.builtin "range.__reversed__" == Value.none) = true then _ else _) _ _ _; rw [if_neg (show ¬ ((Value.builtin "range.__reversed__" == Value.none) = true) from Bool.false_ne_true)])
  refine wpAny_bind (wpAny_rule ?_)
  refine wpAny_bind (m := runValue (.call (.builtin "range.__reversed__") ⟨[.ref r], []⟩)) (show wpAny _ _ (call (.builtin "range.__reversed__") [.ref r]) _ _ _ from call_range_reversed hr hN ?_)
  first
  | exact wpAny_pure h
  | exact wpAny_bind (wpAny_pure (wpAny_pure h))

theorem call_reversed_range {r : Addr} {N : Nat} {t u v : Tok} {Q : Value → Shared → Prop} (hr : IsRange s.heap r 0 (N : Int) 1 t u v) (hN : N < 2 ^ 60)
    (h : Q (.ref s.heap.objs.size) { s with heap := s.heap.push (rriObj ((N : Int) - 1) N (-1)) }) : wpAny (model prog w) A (call (.type "reversed") [.ref r]) Q E s := by
  refine callType_other (U := "range_iterator") (Q₁ := fun obj s₁ => obj = .ref s.heap.objs.size ∧ s₁ = { s with heap := s.heap.push (rriObj ((N : Int) - 1) N (-1)) }) (by decide +kernel) F.create_reversed ⟨_, _, F.mro_reversed⟩ F.made_reversed sub_ri_reversed (F.typeCall_reversed_1 _) (code_reversed_range hr hN ⟨rfl, rfl⟩) ?_
  rintro obj s₁ ⟨rfl, rfl⟩
  exact ⟨⟨_, Heap.get?_push_size _ rfl, rfl⟩, h⟩
end

section
variable {prog : Program} {w : World} {A : Around} {E : Value → Shared → Prop} {s : Shared} {env : Env} {h₀ : Heap} {m₀ : Str → Option Value} {x : Str} {body : List Stmt} {Q : Flow → Shared → Prop}
/-- a turn's end -/
def DownPost (s : Shared) (h₀ : Heap) (L l I : Addr) (io : Obj) (x : Str) (m₀ : Str → Option Value) (J : Obj → Prop) (f : Flow) (s₂ : Shared) : Prop :=
  f ≠ .brk ∧ (∀ v, f ≠ .ret v) ∧ ∃ h' tk' m' o', s₂ = { s with heap := h', toks := tk' } ∧ Fr h₀ L h' m' ∧ (∀ z, z ≠ x → m' z = m₀ z) ∧ News h₀ L h' [(l, o'), (I, io)] ∧ J o'
theorem down_end {s : Shared} {h₀ h' : Heap} {L l I : Addr} {io o' : Obj} {x : Str} {v : Option Value} {m₀ : Str → Option Value} {J : Obj → Prop} {tk' : Nat} (F : Fr h₀ L h' (fun y => if y = x then v else m₀ y)) (N : News h₀ L h' [(l, o'), (I, io)]) (hj : J o') :
    DownPost s h₀ L l I io x m₀ J .next { s with heap := h', toks := tk' } :=
  ⟨(fun e => by cases e), (fun _ e => by cases e), h', tk', _, o', rfl, F, (fun z hz => if_neg hz), N, hj⟩
/-- a for over a walker I (footprint I alone) whose turn keeps the ledger's addresses apart from I: an invariant J over the turn's number -/
theorem iter_down {N : Nat} {I L : Addr} {l : Addr} {o : Obj} (hL : env.locals = L) (hh : A.handled = none) (hI : IsRangeIter s.heap I ((N : Int) - 1) N (-1)) (hI₀ : h₀.get? I = none) (hIL : L ≠ I) (hIl : l ≠ I)
    (F : Fr h₀ L s.heap m₀) (Nw : News h₀ L s.heap [(l, o)]) (J : Nat → Obj → Prop) (h0 : J 0 o)
    (turn : ∀ (i : Nat) (t : Tok) (o₁ : Obj) (h : Heap) (tk : Nat) (io : Obj), i < N → J i o₁ → Fr h₀ L h (fun y => if y = x then some (.int ((N - 1 - i : Nat) : Int) t) else m₀ y) → News h₀ L h [(l, o₁), (I, io)] →
      wpAny (model prog w) A (execs body env) (DownPost s h₀ L l I io x m₀ (J (i + 1))) E { s with heap := h, toks := tk })
    (done : ∀ (u : Str → Option Value) (o' : Obj) (h : Heap) (tk : Nat), J N o' → Fr h₀ L h (fun y => if y = x then u y else m₀ y) → News h₀ L h [(l, o')] → Q .next { s with heap := h, toks := tk }) :
    wpAny (model prog w) A (pyIter (.ref I)) (fun it s₂ => LoopAtV prog w A h₀ env x body Q E it s₂) E s := by
  subst hL
  refine wpAny_pyIter_rangeiter hI ?_
  have W := Walks.range (prog := prog) (w := w) hh I ((N : Int) - 1) (-1) N
  let J' : Nat → (Str → Option Value) → List (Addr × Obj) → Prop := fun i m₁ nx => (∀ z, z ≠ x → m₁ z = m₀ z) ∧ ∃ o', nx = [(l, o')] ∧ J i o'
  refine ⟨I, [I], [I], N, _, _, m₀, [(l, o)], J', rfl, W, ?_, ?_, ?_, ?_, F, Nw, ⟨fun _ _ => rfl, o, rfl, h0⟩, ?_, ?_⟩
  · intro hm; exact hIL (List.mem_singleton.mp hm)
  · intro b hb; rw [List.mem_singleton.mp hb]; exact hI₀
  · intro p hp hq
    rw [List.mem_singleton.mp hp] at hq
    exact hIl (List.mem_singleton.mp hq)
  · show IsRangeIter _ _ _ _ _
    simpa using hI
  · rintro i v m₁ news₁ s₁ own ⟨hh', tk', rfl⟩ hin ⟨t, rfl⟩ ⟨hm, o', rfl, hJ⟩ hoff hown hownAt hall hst F₁ N₁
    obtain ⟨io, hst'⟩ : ∃ io, hh'.get? I = some io := ⟨_, hst⟩
    have hio := hall I (List.mem_singleton.mpr rfl) hI₀ _ hst'
    have N₂ : News h₀ env.locals hh' [(l, o'), (I, io)] := fun p hp => by
      rcases List.mem_cons.mp hp with rfl | hp
      · exact N₁ _ (List.mem_append_right _ (.head _))
      · rw [List.mem_singleton.mp hp]; exact N₁ _ (List.mem_append_left _ hio)
    have e : ((N : Int) - 1 + (i : Int) * (-1)) = ((N - 1 - i : Nat) : Int) := by omega
    have em : (fun y => if y = x then some (Value.int ((N : Int) - 1 + (i : Int) * (-1)) t) else m₁ y) = fun y => if y = x then some (Value.int ((N - 1 - i : Nat) : Int) t) else m₀ y := by
      funext y
      rw [e]
      by_cases h1 : y = x
      · rw [if_pos h1, if_pos h1]
      · rw [if_neg h1, if_neg h1]; exact hm y h1
    rw [em] at F₁
    refine wpAny_mono (turn i t o' hh' tk' io hin hJ F₁ N₂) (fun f s₂ p => ?_) fun _ _ e => e
    have fin : (∃ h' tk' m' o', s₂ = { s with heap := h', toks := tk' } ∧ Fr h₀ env.locals h' m' ∧ (∀ z, z ≠ x → m' z = m₀ z) ∧ News h₀ env.locals h' [(l, o'), (I, io)] ∧ J (i + 1) o') →
        LoopStepU h₀ env.locals [I] own (J' (i + 1)) { s with heap := hh', toks := tk' } .next s₂ := by
      rintro ⟨h', tk₂, m', o₂, rfl, F', hm', N', hJ'⟩
      refine ⟨rfl, h', tk₂, m', [(l, o₂)], rfl, F', fun p hp => ?_, fun p hp hq => ?_, hm', o₂, rfl, hJ'⟩
      · rcases List.mem_append.mp hp with hp | hp
        · have h1 := List.mem_singleton.mp (hown p hp)
          have h2 : p = (I, io) := Prod.ext h1 (Option.some.inj ((hownAt p hp).symm.trans (h1 ▸ hst')))
          rw [h2]; exact N' _ (.tail _ (.head _))
        · rw [List.mem_singleton.mp hp]; exact N' _ (.head _)
      · rw [List.mem_singleton.mp hp] at hq; exact hIl (List.mem_singleton.mp hq)
    obtain ⟨p1, p2, p3⟩ := p
    cases f with
    | ret v => exact absurd rfl (p2 v)
    | brk => exact absurd rfl p1
    | next => exact .next (fin p3)
    | cont => exact .cont (fin p3)
  · rintro h' tk m' news' F' N' _ ⟨hm, o', rfl, hJ⟩
    have em : m' = fun y => if y = x then m' y else m₀ y := by
      funext y
      by_cases h1 : y = x
      · rw [if_pos h1]
      · rw [if_neg h1]; exact hm y h1
    exact done m' o' h' tk hJ (em ▸ F') N'
end

end

-- part Len
section
theorem sdLoop_length (ks : List Int) (x : Int) (st p : Nat) : (sdLoop ks x st p).length = ks.length := by
  fun_induction sdLoop ks x st p with
  | case1 ks p h1 h2 ih => rw [ih, List.length_set]
  | case2 => rw [List.length_set]
  | case3 => rw [List.length_set]
theorem sd_length (ks : List Int) (st p : Nat) : (sd ks st p).length = ks.length := sdLoop_length _ _ _ _
theorem suLoop_length (ks : List Int) (p : Nat) : (suLoop ks p).1.length = ks.length := by
  fun_induction suLoop ks p with
  | case1 ks p h1 ih => rw [ih, List.length_set]
  | case2 => rfl
theorem su_length (ks : List Int) (p : Nat) : (su ks p).length = ks.length := by
  unfold su; rw [sd_length, List.length_set, suLoop_length]
theorem hifyN_length (ks : List Int) (i : Nat) : (hifyN ks i).length = ks.length := by
  induction i generalizing ks with
  | zero => rfl
  | succ i ih => unfold hifyN; rw [ih, su_length]

end

-- part Hify
section
set_option maxHeartbeats 4000000 in
theorem hify_call : ∀ {w : World} {A₀ A : Around} {s : Shared} {base h₀ : Heap} {outer : List Env} {L : Addr} {m mg mb : Str → Option Value} {env : Env} {mean : ExcName → Option Value}
    {R : Value → Int → Prop} {l : Addr} {vs : List Value} {ks : List Int} {n : Nat} {Q E : Value → Shared → Prop},
    Below A₀ base outer h₀ → Fr h₀ L s.heap m → (hd.heap_39 w.params).In h₀ → News h₀ L s.heap [(l, listOf vs.toArray n)] →
    Top hd.view_39 (looseW hd.view_39 [Str.ofString "b2a_base64", Str.ofString "b64encode"]) mean mg mb h₀ →
    A.frames = some (env :: outer) → env.frame = some L → env.scope.kind = .function → A.depth + 5 < recursionLimit → A.handled = none →
    LtRule w R → All2 R vs ks → ks.length < 1000 →
    (∀ h' tk' vs' n', (∀ b o, b ≠ l → s.heap.get? b = some o → h'.get? b = some o) → h'.get? l = some (listOf vs'.toArray n') → All2 R vs' (hify ks) → Q .none { s with heap := h', toks := tk' }) →
    wpAny (model PySem.Challenge.rw_mq0155_01.row.prog w) A (call (.ref 56) [.ref l]) Q E s := by
  w_top off
  k_fill
  intro w A₀ A s base h₀ outer L m mg mb env mean R l vs ks n Q E B F X N T hA hf hke hroom hnh hR hi hfit hq
  obtain ⟨hh, dp, fr, gd, un⟩ := A
  dsimp only at hnh hA hroom
  subst hnh hA
  refine wpAny_call ?_
  k_dflt (refine' call_foot (sub := [(l, listOf vs.toArray n)]) (binds := [(Str.ofString "x", .ref l)]) B F X N T rfl hf hke ?k6 ?k7 ?k8 ?k9 ?kB ?_ ?c2 ?c3 ?c4 ?c5; (case k6 => k_is); (case k7 => k_is); (case k8 => (dsimp only; omega)); (case k9 => exact BindsTo.of_eq rfl); (case c5 => decide); (case kB => exact locs rfl); (case c2 => exact rfl); (case c3 => exact rfl); (case c4 => exact rfl); k_whole)
  intro g L' h₁ F' N' B' X' T' hlt hkeep
  clear F N B X T
  try dsimp only
  try k_fold
  k_with_none
  k_with "subscriptTail" => (k_here; (with_reducible show wpAny _ _ (subscriptTail _ _ (Value.ref _) (Value.int _ _)) _ _ _); k_dflt (refine' lst_sub ?k1 ?k2 ?k3 ?k4 ?k5 ?k6 ?_ ?k7; (case k1 => k_asm); (case k2 => k_mem); (case k3 => with_reducible assumption); (case k4 => exact rfl); (case k5 => omega); (case k6 => omega); (case k7 => with_unfolding_all rfl); k_whole); intro _ _)
  k_with "setItem ref int" => (k_here; k_dflt (refine' lst_set ?k1 ?k2 ?ke ?k3 ?k4 ?kv ?k6 ?k7 ?_; (case ke => exact rfl); (case k1 => k_asm); (case k2 => k_asm); (case k3 => k_upd); (case k4 => with_reducible assumption); (case kv => with_reducible assumption); (case k6 => omega); (case k7 => omega); k_whole); intro _ _ _ _; (try k_sweep))
  k_with "compareOp Lt" => (k_here; k_dflt (refine' lt_use (by with_reducible assumption) ?k1 ?k2 ?_; (case k1 => with_reducible assumption); (case k2 => with_reducible assumption); k_whole))
  k_with "binaryOp Add int int" => (k_here; (with_reducible refine add1_nat ?_); intro _ _)
  k_with "binaryOp Mult int int" => (k_here; (with_reducible refine mul2_nat ?_); intro _ _)
  k_with "call builtin:len" => (k_here; (with_reducible show wpAny _ _ (call (Value.builtin "len") [Value.ref _]) _ _ _); k_dflt (refine' lst_len ?k1 ?k2 ?k3 ?k4 ?_; (case k1 => k_asm); (case k2 => k_mem); (case k3 => with_reducible assumption); (case k4 => omega); k_whole); intro _ _)
  k_with "call builtin:list.append" => (k_here; (with_reducible show wpAny _ _ (call (Value.builtin _) [Value.ref _, _]) _ _ _); k_dflt (refine' lst_append ?k1 ?k2 ?k3 ?k4 ?k5 ?k6 ?_; (case k1 => k_asm); (case k2 => k_asm); (case k3 => k_upd); (case k4 => with_reducible assumption); (case k5 => with_reducible assumption); (case k6 => omega); k_whole); intro _ _ _ _ _; (try k_sweep))
  k_with "call builtin:list.pop" => (k_here; (with_reducible show wpAny _ _ (call (Value.builtin _) [Value.ref _]) _ _ _); k_dflt (refine' lst_pop ?k1 ?k2 ?k3 ?k4 ?k5 ?k6 ?_; (case k1 => k_asm); (case k2 => k_asm); (case k3 => k_upd); (case k4 => with_reducible assumption); (case k5 => omega); (case k6 => omega); k_whole); intro _ _ _ _ _ _ _; (try k_sweep))
  k_with "truthy ref" => (k_here; k_dflt (refine' lst_truthy ?k1 ?k2 ?k3 ?k4 ?_; (case k1 => k_asm); (case k2 => k_mem); (case k3 => with_reducible assumption); (case k4 => omega); k_whole); intro _)
  k_with "call builtin:list.reverse" => (k_here; (with_reducible show wpAny _ _ (call (Value.builtin _) [Value.ref _]) _ _ _); k_dflt (refine' lst_reverse ?k1 ?k2 ?k3 ?k4 ?k5 ?_; (case k1 => k_asm); (case k2 => k_asm); (case k3 => k_upd); (case k4 => with_reducible assumption); (case k5 => omega); k_whole); intro _ _ _ _ _; (try k_sweep))
  k_with "call type:type" => ((with_reducible show wpAny _ _ (call _ [Value.bytes _ _]) _ _ _); refine call_type_of (Tx := "bytes") rfl (by decide +kernel) ?_)
  k_with "call type:reversed" => refine Hold.out ?_
  k_steps
  rename_i kpr
  rename IsRange _ _ _ _ _ _ _ _ => hrg
  rename Fr _ _ _ _ => F9
  rename News _ _ _ _ => N9
  have hdiv : (ks.length : Int).fdiv 2 = ((ks.length / 2 : Nat) : Int) := by rw [Int.fdiv_eq_ediv_of_nonneg _ (by omega)]; omega
  rw [hdiv] at hrg
  refine Hold.mk ?_
  refine call_reversed_range hrg (by omega) ?_
  dsimp only
  have fI := next_is_new F9
  have hls := ltN (Heap.lt_size (N9 (l, listOf vs.toArray n) (.head _)).1)
  dsimp only at hls
  have hLs := F9.ns.lt
  have N10 := (N9.push F9 (rriObj ((ks.length / 2 : Nat) - 1) (ks.length / 2 : Nat) (-1)))
  refine iter_down (N := ks.length / 2) (l := l) (o := listOf vs.toArray n) rfl rfl (Heap.get?_push_size _ rfl) fI (Nat.ne_of_lt hLs) (Nat.ne_of_lt hls) (F9.push _) (news_one N10 (.tail _ (.head _)))
    (fun i o => ∃ vs' ks', o = listOf vs'.toArray n ∧ All2 R vs' ks' ∧ ks'.length = ks.length ∧ hifyN ks' (ks.length / 2 - i) = hify ks) ⟨vs, ks, rfl, hi, rfl, rfl⟩ ?_ ?_
  · clear F9 N9 N10 hi hLs fI
    rintro i t o₁ h tk io hin ⟨vs', ks', rfl, hi, hlen, hh⟩ F N
    k_with "call ref" => refine Hold.out ?_
    k_steps
    refine Hold.mk ?_
    rename Fr _ _ _ _ => F9
    rename News _ _ _ _ => N9
    refine su_call (p := ks.length / 2 - 1 - i) B' F9 X' (news_one N9 (by k_mem)) T' (Around.frames_deeper B'.stack) rfl rfl (by rw [depth_deeper]; dsimp only; omega) rfl hR hi (by omega) (by omega) ?_
    intro h9 tk9 vs9 kp hl hi8
    obtain ⟨F8, N8⟩ := behindU F9 N9 (by k_upd) kp hl
    clear F9 N9
    k_steps
    refine down_end F8 N8 ⟨_, _, rfl, hi8, by rw [su_length, hlen], ?_⟩
    rw [← hh, show ks.length / 2 - i = (ks.length / 2 - 1 - i) + 1 by omega, show ks.length / 2 - (i + 1) = ks.length / 2 - 1 - i by omega]
    rfl
  · clear F9 N9 N10 hi hls hLs fI
    rintro u o' h tk ⟨vs', ks', rfl, hi, hlen, hh⟩ F N
    rw [Nat.sub_self] at hh
    rw [show ks' = hify ks from hh] at hi
    dsimp only
    k_steps
    exact leaveF1 F N fun kp hl => hq _ _ _ _ kp hl hi

end

-- part Lref
section
/-- a call of a def of the text in which a raise may be caught, from a frame that stands alone (cells or none) -/
theorem code_env {prog : Program} {w : World} {A₀ A : Around} {s : Shared} {base h₀ : Heap} {L : Addr} {m mg mb : Str → Option Value} {env : Env} {news : List (Addr × Obj)} {K : Frag} {p : Program} {loose : List Str} {mean : ExcName → Option Value}
    {R : Result → Shared → Prop} {name qual : Str} {params : Arguments} {body : List Stmt} {scope : Scope} {dV kV doc pm cdv ct oc : Value} {an od : Option Addr} {osl : Array (Option Value)} {f : Addr} {args : Args} {binds : List (Str × Value)}
    (B : Below A₀ base [] h₀) (F : Fr h₀ L s.heap m) (X₀ : K.In h₀) (N : News h₀ L s.heap news) (T : Top p loose mean mg mb h₀) (hA : A.frames = some [env]) (hf : env.frame = some L) (hke : env.scope.kind = .function)
    (ho : K.lookup f = some ⟨oc, od, .func (fnOf name qual params body scope dV kV doc pm an cdv ct), osl⟩) (hcd : codeIn K cdv qual = true) (hroom : A.depth < recursionLimit)
    (hbind : BindsTo s (fnOf name qual params body scope dV kV doc pm an cdv ct) args binds) (hloc : ∀ y ∈ binds, scope.names.lookup y.1 = some .local)
    (h : ∀ g L' h₁, Fr h₀ L g m → Fr g L' h₁ (fun y => binds.reverse.lookup y) → News g L' h₁ news → Below A base [env] g → K.In g → Top p loose mean mg mb g → KtsDicts ([env].filterMap (·.frame)) g →
      wpAny (model prog w) (A.deeper (envOf qual scope L' f cdv)) (execs body (envOf qual scope L' f cdv))
        (fun fl s' => LeaveS0 ([env].filterMap (·.frame)) h₀ L m g R (match fl with | .ret v => v | _ => .none) s')
        (fun e s' => wpAny (model prog w) (A.deeper (envOf qual scope L' f cdv)) (leaving (envOf qual scope L' f cdv) e) (fun _ s'' => R (.error e) s'') (fun e' s'' => R (.error e') s'') s')
        { s with heap := h₁, toks := s.toks + binds.length })
    (hco : scope.isCoroutine = false) (hgen : scope.isGenerator = false) (hk : scope.kind = .function)
    (hcell : ∀ x ∈ scope.names, x.2 ≠ .cell) : codeAny (model prog w) A (.call (.ref f) args) R s := by
  have X := X₀.keeps F.keep
  have one : ∀ b, b ∈ [env].filterMap (·.frame) → b = L := fun b hb => by
    obtain ⟨e, he, hb'⟩ := List.mem_filterMap.mp hb
    rw [List.mem_singleton.mp he, hf] at hb'
    exact (Option.some.inj hb').symm
  refine codeAny_call_def (fd := fnOf name qual params body scope dV kV doc pm an cdv ct) (body := body) (binds := binds) hroom (X _ _ ho) rfl (T.nolimit.keeps F.keep) (codeRec_of X hcd) rfl hbind hcell hloc (fun h₁ hns hk₁ => ?_) hco hgen hk
  obtain ⟨FG, BG, st, _⟩ := groundX (R := R) B F N hA hf hke
  obtain ⟨oL, es, ep, hLg, hLd, hLr⟩ := FG.ns
  refine wpAny_mono (h _ s.heap.objs.size h₁ FG ⟨hns, fun b o e => hk₁ b o (of_hideAll _ e), Nat.le_of_eq (hideAll_size _ _)⟩
    (fun p hp => ⟨hk₁ _ _ (N p hp).1, Nat.ne_of_lt (Heap.lt_size (N p hp).1), hideAll_none _ (List.mem_map_of_mem hp)⟩) BG (X₀.keeps st) (T.keeps st) (fun b hb => ⟨oL, es, ep, (one b hb) ▸ hLg, hLd⟩)) (fun fl s' hl => ?_) fun _ _ y => y
  obtain ⟨g', L', m', news', T', F', N', k⟩ := hl
  have nL₀ : h₀.get? L = none := kts_self F
  obtain ⟨sl, hs⟩ := T'.up hLg
  refine k ⟨⟨_, es, ep, F'.keep _ _ hs, hLd, hLr⟩, fun b o e => F'.keep b o (T'.other b o (st b o e) (fun q => by
    rw [one b q, nL₀] at e
    cases e)), F.above⟩ fun p hp => ⟨(N' p hp).1, fun q => ?_, ?_⟩
  · have := (N' p hp).2.2; rw [q, hs] at this; cases this
  · cases q : h₀.get? p.1 with
    | none => rfl
    | some o =>
      obtain ⟨sl', hs'⟩ := T'.up (st _ _ q)
      have := (N' p hp).2.2
      rw [hs'] at this
      cases this

set_option maxHeartbeats 8000000 in
theorem lref : ∀ {w : World} {A₀ A : Around} {s : Shared} {h₀ : Heap} {L : Addr} {m mg mb : Str → Option Value} {env : Env} {mean : ExcName → Option Value}
    {l : Addr} {n c : Nat} {t : Tok} {v : Value} {rest : List (Addr × Obj)} {Q E : Value → Shared → Prop},
    Below A₀ h₀ [] h₀ → Fr h₀ L s.heap m → (hd.heap_39 w.params).In h₀ → News h₀ L s.heap ((l, listOf ([] : List Value).toArray n) :: rest) →
    Top hd.view_39 (looseW hd.view_39 [Str.ofString "b2a_base64", Str.ofString "b64encode"]) mean mg mb h₀ →
    A.frames = some [env] → env.frame = some L → env.scope.kind = .function → A.depth + 6 < recursionLimit → A.handled = none → (c = 2 ∨ c = 3) →
    (∀ h' tk' t', Fr h₀ L h' m → News h₀ L h' ((l, listOf ([] : List Value).toArray n) :: rest) → Q (.str (Str.ofString "refused") t') { s with heap := h', toks := tk' }) →
    wpAny (model PySem.Challenge.rw_mq0155_01.row.prog w) A (call (.ref 129) [.int c t, .ref l, v]) Q E s := by
  w_top off
  k_fill
  intro w A₀ A s h₀ L m mg mb env mean l n c t v rest Q E B F X N T hA hf hck hroom hnh hc hq
  obtain ⟨hh, dp, fr, gd, un⟩ := A
  dsimp only at hnh hA hroom
  subst hnh hA
  refine wpAny_call ?_
  k_dflt (refine' code_env (binds := [(Str.ofString "call", .int c t), (Str.ofString "heap", .ref l), (Str.ofString "item", v)]) B F X N T rfl hf hck ?k6 ?k7 ?k8 ?k9 ?kB ?_ ?c2 ?c3 ?c4 ?c5; (case k6 => k_is); (case k7 => k_is); (case k8 => (dsimp only; omega)); (case k9 => exact BindsTo.of_eq rfl); (case kB => exact locs rfl); (case c2 => exact rfl); (case c3 => exact rfl); (case c4 => exact rfl); (case c5 => decide); k_whole)
  intro g L' h₁ FG' F' N' B' X' T' D'
  try dsimp only
  try k_fold
  k_with_none
  k_with "subscriptTail" => (k_here; (with_reducible show wpAny _ _ (subscriptTail _ _ (Value.ref _) (Value.int _ _)) _ _ _); k_dflt (refine' lst_sub ?k1 ?k2 ?k3 ?k4 ?k5 ?k6 ?_ ?k7; (case k1 => k_asm); (case k2 => k_mem); (case k3 => with_reducible assumption); (case k4 => exact rfl); (case k5 => omega); (case k6 => omega); (case k7 => with_unfolding_all rfl); k_whole); intro _ _)
  k_with "setItem ref int" => (k_here; k_dflt (refine' lst_set ?k1 ?k2 ?ke ?k3 ?k4 ?kv ?k6 ?k7 ?_; (case ke => exact rfl); (case k1 => k_asm); (case k2 => k_asm); (case k3 => k_upd); (case k4 => with_reducible assumption); (case kv => with_reducible assumption); (case k6 => omega); (case k7 => omega); k_whole); intro _ _ _ _; (try k_sweep))
  k_with "compareOp Lt" => (k_here; k_dflt (refine' lt_use (by with_reducible assumption) ?k1 ?k2 ?_; (case k1 => with_reducible assumption); (case k2 => with_reducible assumption); k_whole))
  k_with "binaryOp Add int int" => (k_here; (with_reducible refine add1_nat ?_); intro _ _)
  k_with "binaryOp Mult int int" => (k_here; (with_reducible refine mul2_nat ?_); intro _ _)
  k_with "call builtin:len" => (k_here; (with_reducible show wpAny _ _ (call (Value.builtin "len") [Value.ref _]) _ _ _); k_dflt (refine' lst_len ?k1 ?k2 ?k3 ?k4 ?_; (case k1 => k_asm); (case k2 => k_mem); (case k3 => with_reducible assumption); (case k4 => omega); k_whole); intro _ _)
  k_with "call builtin:list.append" => (k_here; (with_reducible show wpAny _ _ (call (Value.builtin _) [Value.ref _, _]) _ _ _); k_dflt (refine' lst_append ?k1 ?k2 ?k3 ?k4 ?k5 ?k6 ?_; (case k1 => k_asm); (case k2 => k_asm); (case k3 => k_upd); (case k4 => with_reducible assumption); (case k5 => with_reducible assumption); (case k6 => omega); k_whole); intro _ _ _ _ _; (try k_sweep))
  k_with "call builtin:list.pop" => (k_here; (with_reducible show wpAny _ _ (call (Value.builtin _) [Value.ref _]) _ _ _); k_dflt (refine' lst_pop ?k1 ?k2 ?k3 ?k4 ?k5 ?k6 ?_; (case k1 => k_asm); (case k2 => k_asm); (case k3 => k_upd); (case k4 => with_reducible assumption); (case k5 => omega); (case k6 => omega); k_whole); intro _ _ _ _ _ _ _; (try k_sweep))
  k_with "truthy ref" => (k_here; k_dflt (refine' lst_truthy ?k1 ?k2 ?k3 ?k4 ?_; (case k1 => k_asm); (case k2 => k_mem); (case k3 => with_reducible assumption); (case k4 => omega); k_whole); intro _)
  k_with "call builtin:list.reverse" => (k_here; (with_reducible show wpAny _ _ (call (Value.builtin _) [Value.ref _]) _ _ _); k_dflt (refine' lst_reverse ?k1 ?k2 ?k3 ?k4 ?k5 ?_; (case k1 => k_asm); (case k2 => k_asm); (case k3 => k_upd); (case k4 => with_reducible assumption); (case k5 => omega); k_whole); intro _ _ _ _ _; (try k_sweep))
  k_with "call type:type" => ((with_reducible show wpAny _ _ (call _ [Value.bytes _ _]) _ _ _); refine call_type_of (Tx := "bytes") rfl (by decide +kernel) ?_)
  k_with "call builtin:list.pop" => (
    refine pop_empty rfl (by k_asm) (by k_mem) ?_
    intro h' tk' e' x')
  rcases hc with rfl | rfl
  · k_steps
    rename Fr _ _ _ _ => F9
    rename News _ _ _ _ => N9
    exact hq _ _ _ F9 N9
  · k_steps
    rename Fr _ _ _ _ => F9
    rename News _ _ _ _ => N9
    exact hq _ _ _ F9 N9

end

-- part Lc
section
set_option maxHeartbeats 8000000 in
theorem lcall : ∀ {w : World} {A₀ A : Around} {s : Shared} {base h₀ : Heap} {outer : List Env} {L : Addr} {m mg mb : Str → Option Value} {env : Env} {mean : ExcName → Option Value}
    {R : Value → Int → Prop} {l : Addr} {vs : List Value} {ks : List Int} {n : Nat} {c : Nat} {t : Tok} {x : Int} {v : Value} {Q E : Value → Shared → Prop},
    Below A₀ base outer h₀ → Fr h₀ L s.heap m → (hd.heap_39 w.params).In h₀ → News h₀ L s.heap [(l, listOf vs.toArray n)] →
    Top hd.view_39 (looseW hd.view_39 [Str.ofString "b2a_base64", Str.ofString "b64encode"]) mean mg mb h₀ →
    A.frames = some (env :: outer) → env.frame = some L → env.scope.kind = .function → A.depth + 6 < recursionLimit → A.handled = none →
    LtRule w R → All2 R vs ks → ks.length < 1000 → R v x → c ≤ 5 → (c = 2 ∨ c = 3 → 0 < ks.length) →
    (∀ h' tk' vs' n' v', (∀ b o, b ≠ l → s.heap.get? b = some o → h'.get? b = some o) → h'.get? l = some (listOf vs'.toArray n') → All2 R vs' (stepL c ks x) → AnsIs R v' (stepA c ks x) → Q v' { s with heap := h', toks := tk' }) →
    wpAny (model PySem.Challenge.rw_mq0155_01.row.prog w) A (call (.ref 129) [.int c t, .ref l, v]) Q E s := by
  w_top off
  k_fill
  intro w A₀ A s base h₀ outer L m mg mb env mean R l vs ks n c t x v Q E B F X N T hA hf hke hroom hnh hR hi hfit hv hc hne0 hq
  obtain ⟨hh, dp, fr, gd, un⟩ := A
  dsimp only at hnh hA hroom
  subst hnh hA
  refine wpAny_call ?_
  k_dflt (refine' call_foot (sub := [(l, listOf vs.toArray n)]) (binds := [(Str.ofString "call", .int c t), (Str.ofString "heap", .ref l), (Str.ofString "item", v)]) B F X N T rfl hf hke ?k6 ?k7 ?k8 ?k9 ?kB ?_ ?c2 ?c3 ?c4 ?c5; (case k6 => k_is); (case k7 => k_is); (case k8 => (dsimp only; omega)); (case k9 => exact BindsTo.of_eq rfl); (case c5 => decide); (case kB => exact locs rfl); (case c2 => exact rfl); (case c3 => exact rfl); (case c4 => exact rfl); k_whole)
  intro g L' h₁ F' N' B' X' T' hlt hkeep
  clear F N B X T
  try dsimp only
  try k_fold
  k_with_none
  k_with "subscriptTail" => (k_here; (with_reducible show wpAny _ _ (subscriptTail _ _ (Value.ref _) (Value.int _ _)) _ _ _); k_dflt (refine' lst_sub ?k1 ?k2 ?k3 ?k4 ?k5 ?k6 ?_ ?k7; (case k1 => k_asm); (case k2 => k_mem); (case k3 => with_reducible assumption); (case k4 => exact rfl); (case k5 => omega); (case k6 => omega); (case k7 => with_unfolding_all rfl); k_whole); intro _ _)
  k_with "setItem ref int" => (k_here; k_dflt (refine' lst_set ?k1 ?k2 ?ke ?k3 ?k4 ?kv ?k6 ?k7 ?_; (case ke => exact rfl); (case k1 => k_asm); (case k2 => k_asm); (case k3 => k_upd); (case k4 => with_reducible assumption); (case kv => with_reducible assumption); (case k6 => omega); (case k7 => omega); k_whole); intro _ _ _ _; (try k_sweep))
  k_with "compareOp Lt" => (k_here; k_dflt (refine' lt_use (by with_reducible assumption) ?k1 ?k2 ?_; (case k1 => with_reducible assumption); (case k2 => with_reducible assumption); k_whole))
  k_with "binaryOp Add int int" => (k_here; (with_reducible refine add1_nat ?_); intro _ _)
  k_with "binaryOp Mult int int" => (k_here; (with_reducible refine mul2_nat ?_); intro _ _)
  k_with "call builtin:len" => (k_here; (with_reducible show wpAny _ _ (call (Value.builtin "len") [Value.ref _]) _ _ _); k_dflt (refine' lst_len ?k1 ?k2 ?k3 ?k4 ?_; (case k1 => k_asm); (case k2 => k_mem); (case k3 => with_reducible assumption); (case k4 => omega); k_whole); intro _ _)
  k_with "call builtin:list.append" => (k_here; (with_reducible show wpAny _ _ (call (Value.builtin _) [Value.ref _, _]) _ _ _); k_dflt (refine' lst_append ?k1 ?k2 ?k3 ?k4 ?k5 ?k6 ?_; (case k1 => k_asm); (case k2 => k_asm); (case k3 => k_upd); (case k4 => with_reducible assumption); (case k5 => with_reducible assumption); (case k6 => omega); k_whole); intro _ _ _ _ _; (try k_sweep))
  k_with "call builtin:list.pop" => (k_here; (with_reducible show wpAny _ _ (call (Value.builtin _) [Value.ref _]) _ _ _); k_dflt (refine' lst_pop ?k1 ?k2 ?k3 ?k4 ?k5 ?k6 ?_; (case k1 => k_asm); (case k2 => k_asm); (case k3 => k_upd); (case k4 => with_reducible assumption); (case k5 => omega); (case k6 => omega); k_whole); intro _ _ _ _ _ _ _; (try k_sweep))
  k_with "truthy ref" => (k_here; k_dflt (refine' lst_truthy ?k1 ?k2 ?k3 ?k4 ?_; (case k1 => k_asm); (case k2 => k_mem); (case k3 => with_reducible assumption); (case k4 => omega); k_whole); intro _)
  k_with "call builtin:list.reverse" => (k_here; (with_reducible show wpAny _ _ (call (Value.builtin _) [Value.ref _]) _ _ _); k_dflt (refine' lst_reverse ?k1 ?k2 ?k3 ?k4 ?k5 ?_; (case k1 => k_asm); (case k2 => k_asm); (case k3 => k_upd); (case k4 => with_reducible assumption); (case k5 => omega); k_whole); intro _ _ _ _ _; (try k_sweep))
  k_with "call type:type" => ((with_reducible show wpAny _ _ (call _ [Value.bytes _ _]) _ _ _); refine call_type_of (Tx := "bytes") rfl (by decide +kernel) ?_)
  have hcs : c = 0 ∨ c = 1 ∨ c = 2 ∨ c = 3 ∨ c = 4 ∨ c = 5 := by omega
  rcases hcs with rfl | rfl | rfl | rfl | rfl | rfl
  · k_with_none
    k_with "subscriptTail" => (k_here; (with_reducible show wpAny _ _ (subscriptTail _ _ (Value.ref _) (Value.int _ _)) _ _ _); k_dflt (refine' lst_sub ?k1 ?k2 ?k3 ?k4 ?k5 ?k6 ?_ ?k7; (case k1 => k_asm); (case k2 => k_mem); (case k3 => with_reducible assumption); (case k4 => exact rfl); (case k5 => omega); (case k6 => omega); (case k7 => with_unfolding_all rfl); k_whole); intro _ _)
    k_with "setItem ref int" => (k_here; k_dflt (refine' lst_set ?k1 ?k2 ?ke ?k3 ?k4 ?kv ?k6 ?k7 ?_; (case ke => exact rfl); (case k1 => k_asm); (case k2 => k_asm); (case k3 => k_upd); (case k4 => with_reducible assumption); (case kv => with_reducible assumption); (case k6 => omega); (case k7 => omega); k_whole); intro _ _ _ _; (try k_sweep))
    k_with "compareOp Lt" => (k_here; k_dflt (refine' lt_use (by with_reducible assumption) ?k1 ?k2 ?_; (case k1 => with_reducible assumption); (case k2 => with_reducible assumption); k_whole))
    k_with "binaryOp Add int int" => (k_here; (with_reducible refine add1_nat ?_); intro _ _)
    k_with "binaryOp Mult int int" => (k_here; (with_reducible refine mul2_nat ?_); intro _ _)
    k_with "call builtin:len" => (k_here; (with_reducible show wpAny _ _ (call (Value.builtin "len") [Value.ref _]) _ _ _); k_dflt (refine' lst_len ?k1 ?k2 ?k3 ?k4 ?_; (case k1 => k_asm); (case k2 => k_mem); (case k3 => with_reducible assumption); (case k4 => omega); k_whole); intro _ _)
    k_with "call builtin:list.append" => (k_here; (with_reducible show wpAny _ _ (call (Value.builtin _) [Value.ref _, _]) _ _ _); k_dflt (refine' lst_append ?k1 ?k2 ?k3 ?k4 ?k5 ?k6 ?_; (case k1 => k_asm); (case k2 => k_asm); (case k3 => k_upd); (case k4 => with_reducible assumption); (case k5 => with_reducible assumption); (case k6 => omega); k_whole); intro _ _ _ _ _; (try k_sweep))
    k_with "call builtin:list.pop" => (k_here; (with_reducible show wpAny _ _ (call (Value.builtin _) [Value.ref _]) _ _ _); k_dflt (refine' lst_pop ?k1 ?k2 ?k3 ?k4 ?k5 ?k6 ?_; (case k1 => k_asm); (case k2 => k_asm); (case k3 => k_upd); (case k4 => with_reducible assumption); (case k5 => omega); (case k6 => omega); k_whole); intro _ _ _ _ _ _ _; (try k_sweep))
    k_with "truthy ref" => (k_here; k_dflt (refine' lst_truthy ?k1 ?k2 ?k3 ?k4 ?_; (case k1 => k_asm); (case k2 => k_mem); (case k3 => with_reducible assumption); (case k4 => omega); k_whole); intro _)
    k_with "call builtin:list.reverse" => (k_here; (with_reducible show wpAny _ _ (call (Value.builtin _) [Value.ref _]) _ _ _); k_dflt (refine' lst_reverse ?k1 ?k2 ?k3 ?k4 ?k5 ?_; (case k1 => k_asm); (case k2 => k_asm); (case k3 => k_upd); (case k4 => with_reducible assumption); (case k5 => omega); k_whole); intro _ _ _ _ _; (try k_sweep))
    k_with "call type:type" => ((with_reducible show wpAny _ _ (call _ [Value.bytes _ _]) _ _ _); refine call_type_of (Tx := "bytes") rfl (by decide +kernel) ?_)
    k_with "call ref" => (
      rename Fr _ _ _ _ => F9
      rename News _ _ _ _ => N9
      rename All2 _ _ _ => hi9
      refine push_call B' F9 X' N9 T' (Around.frames_deeper B'.stack) rfl rfl (by rw [depth_deeper]; dsimp only; omega) rfl hR hi9 (by omega) hv ?_
      intro h9 tk9 vs9 n9 kp hl hi8
      obtain ⟨F8, N8⟩ := behindU F9 N9 (.head (fun _ h => nomatch h)) kp hl
      clear F9 N9)
    k_steps
    all_goals (try dsimp only)
    k_steps
    exact leaveF1 F8 N8 fun kp hl => hq _ _ _ _ _ kp hl hi8 rfl
  · k_with_none
    k_with "subscriptTail" => (k_here; (with_reducible show wpAny _ _ (subscriptTail _ _ (Value.ref _) (Value.int _ _)) _ _ _); k_dflt (refine' lst_sub ?k1 ?k2 ?k3 ?k4 ?k5 ?k6 ?_ ?k7; (case k1 => k_asm); (case k2 => k_mem); (case k3 => with_reducible assumption); (case k4 => exact rfl); (case k5 => omega); (case k6 => omega); (case k7 => with_unfolding_all rfl); k_whole); intro _ _)
    k_with "setItem ref int" => (k_here; k_dflt (refine' lst_set ?k1 ?k2 ?ke ?k3 ?k4 ?kv ?k6 ?k7 ?_; (case ke => exact rfl); (case k1 => k_asm); (case k2 => k_asm); (case k3 => k_upd); (case k4 => with_reducible assumption); (case kv => with_reducible assumption); (case k6 => omega); (case k7 => omega); k_whole); intro _ _ _ _; (try k_sweep))
    k_with "compareOp Lt" => (k_here; k_dflt (refine' lt_use (by with_reducible assumption) ?k1 ?k2 ?_; (case k1 => with_reducible assumption); (case k2 => with_reducible assumption); k_whole))
    k_with "binaryOp Add int int" => (k_here; (with_reducible refine add1_nat ?_); intro _ _)
    k_with "binaryOp Mult int int" => (k_here; (with_reducible refine mul2_nat ?_); intro _ _)
    k_with "call builtin:len" => (k_here; (with_reducible show wpAny _ _ (call (Value.builtin "len") [Value.ref _]) _ _ _); k_dflt (refine' lst_len ?k1 ?k2 ?k3 ?k4 ?_; (case k1 => k_asm); (case k2 => k_mem); (case k3 => with_reducible assumption); (case k4 => omega); k_whole); intro _ _)
    k_with "call builtin:list.append" => (k_here; (with_reducible show wpAny _ _ (call (Value.builtin _) [Value.ref _, _]) _ _ _); k_dflt (refine' lst_append ?k1 ?k2 ?k3 ?k4 ?k5 ?k6 ?_; (case k1 => k_asm); (case k2 => k_asm); (case k3 => k_upd); (case k4 => with_reducible assumption); (case k5 => with_reducible assumption); (case k6 => omega); k_whole); intro _ _ _ _ _; (try k_sweep))
    k_with "call builtin:list.pop" => (k_here; (with_reducible show wpAny _ _ (call (Value.builtin _) [Value.ref _]) _ _ _); k_dflt (refine' lst_pop ?k1 ?k2 ?k3 ?k4 ?k5 ?k6 ?_; (case k1 => k_asm); (case k2 => k_asm); (case k3 => k_upd); (case k4 => with_reducible assumption); (case k5 => omega); (case k6 => omega); k_whole); intro _ _ _ _ _ _ _; (try k_sweep))
    k_with "truthy ref" => (k_here; k_dflt (refine' lst_truthy ?k1 ?k2 ?k3 ?k4 ?_; (case k1 => k_asm); (case k2 => k_mem); (case k3 => with_reducible assumption); (case k4 => omega); k_whole); intro _)
    k_with "call builtin:list.reverse" => (k_here; (with_reducible show wpAny _ _ (call (Value.builtin _) [Value.ref _]) _ _ _); k_dflt (refine' lst_reverse ?k1 ?k2 ?k3 ?k4 ?k5 ?_; (case k1 => k_asm); (case k2 => k_asm); (case k3 => k_upd); (case k4 => with_reducible assumption); (case k5 => omega); k_whole); intro _ _ _ _ _; (try k_sweep))
    k_with "call type:type" => ((with_reducible show wpAny _ _ (call _ [Value.bytes _ _]) _ _ _); refine call_type_of (Tx := "bytes") rfl (by decide +kernel) ?_)
    k_with "call ref" => (
      rename Fr _ _ _ _ => F9
      rename News _ _ _ _ => N9
      rename All2 _ _ _ => hi9
      refine push_call B' F9 X' N9 T' (Around.frames_deeper B'.stack) rfl rfl (by rw [depth_deeper]; dsimp only; omega) rfl hR hi9 (by omega) hv ?_
      intro h9 tk9 vs9 n9 kp hl hi8
      obtain ⟨F8, N8⟩ := behindU F9 N9 (.head (fun _ h => nomatch h)) kp hl
      clear F9 N9)
    k_steps
    all_goals (try dsimp only)
    k_steps
    exact leaveF1 F8 N8 fun kp hl => hq _ _ _ _ _ kp hl hi8 rfl
  · k_with_none
    k_with "subscriptTail" => (k_here; (with_reducible show wpAny _ _ (subscriptTail _ _ (Value.ref _) (Value.int _ _)) _ _ _); k_dflt (refine' lst_sub ?k1 ?k2 ?k3 ?k4 ?k5 ?k6 ?_ ?k7; (case k1 => k_asm); (case k2 => k_mem); (case k3 => with_reducible assumption); (case k4 => exact rfl); (case k5 => omega); (case k6 => omega); (case k7 => with_unfolding_all rfl); k_whole); intro _ _)
    k_with "setItem ref int" => (k_here; k_dflt (refine' lst_set ?k1 ?k2 ?ke ?k3 ?k4 ?kv ?k6 ?k7 ?_; (case ke => exact rfl); (case k1 => k_asm); (case k2 => k_asm); (case k3 => k_upd); (case k4 => with_reducible assumption); (case kv => with_reducible assumption); (case k6 => omega); (case k7 => omega); k_whole); intro _ _ _ _; (try k_sweep))
    k_with "compareOp Lt" => (k_here; k_dflt (refine' lt_use (by with_reducible assumption) ?k1 ?k2 ?_; (case k1 => with_reducible assumption); (case k2 => with_reducible assumption); k_whole))
    k_with "binaryOp Add int int" => (k_here; (with_reducible refine add1_nat ?_); intro _ _)
    k_with "binaryOp Mult int int" => (k_here; (with_reducible refine mul2_nat ?_); intro _ _)
    k_with "call builtin:len" => (k_here; (with_reducible show wpAny _ _ (call (Value.builtin "len") [Value.ref _]) _ _ _); k_dflt (refine' lst_len ?k1 ?k2 ?k3 ?k4 ?_; (case k1 => k_asm); (case k2 => k_mem); (case k3 => with_reducible assumption); (case k4 => omega); k_whole); intro _ _)
    k_with "call builtin:list.append" => (k_here; (with_reducible show wpAny _ _ (call (Value.builtin _) [Value.ref _, _]) _ _ _); k_dflt (refine' lst_append ?k1 ?k2 ?k3 ?k4 ?k5 ?k6 ?_; (case k1 => k_asm); (case k2 => k_asm); (case k3 => k_upd); (case k4 => with_reducible assumption); (case k5 => with_reducible assumption); (case k6 => omega); k_whole); intro _ _ _ _ _; (try k_sweep))
    k_with "call builtin:list.pop" => (k_here; (with_reducible show wpAny _ _ (call (Value.builtin _) [Value.ref _]) _ _ _); k_dflt (refine' lst_pop ?k1 ?k2 ?k3 ?k4 ?k5 ?k6 ?_; (case k1 => k_asm); (case k2 => k_asm); (case k3 => k_upd); (case k4 => with_reducible assumption); (case k5 => omega); (case k6 => omega); k_whole); intro _ _ _ _ _ _ _; (try k_sweep))
    k_with "truthy ref" => (k_here; k_dflt (refine' lst_truthy ?k1 ?k2 ?k3 ?k4 ?_; (case k1 => k_asm); (case k2 => k_mem); (case k3 => with_reducible assumption); (case k4 => omega); k_whole); intro _)
    k_with "call builtin:list.reverse" => (k_here; (with_reducible show wpAny _ _ (call (Value.builtin _) [Value.ref _]) _ _ _); k_dflt (refine' lst_reverse ?k1 ?k2 ?k3 ?k4 ?k5 ?_; (case k1 => k_asm); (case k2 => k_asm); (case k3 => k_upd); (case k4 => with_reducible assumption); (case k5 => omega); k_whole); intro _ _ _ _ _; (try k_sweep))
    k_with "call type:type" => ((with_reducible show wpAny _ _ (call _ [Value.bytes _ _]) _ _ _); refine call_type_of (Tx := "bytes") rfl (by decide +kernel) ?_)
    by_cases hne : 0 < ks.length
    · skip
      k_with "call ref" => (
        rename Fr _ _ _ _ => F9
        rename News _ _ _ _ => N9
        rename All2 _ _ _ => hi9
        refine pop_call B' F9 X' N9 T' (Around.frames_deeper B'.stack) rfl rfl (by rw [depth_deeper]; dsimp only; omega) rfl hR hi9 (by omega) hne ?_
        intro h9 tk9 vs9 n9 kp hl hi8 v8 hv8
        obtain ⟨F8, N8⟩ := behindU F9 N9 (.head (fun _ h => nomatch h)) kp hl
        clear F9 N9)
      k_steps
      all_goals (try dsimp only)
      k_steps
      refine leaveF1 F8 N8 fun kp hl => hq _ _ _ _ _ kp hl ?_ ?_
      · show All2 R _ (if 0 < ks.length then (hpop ks).2 else ks)
        rw [if_pos hne]; exact hi8
      · show AnsIs R _ (if 0 < ks.length then .key (hpop ks).1 else .refused)
        rw [if_pos hne]; exact hv8
    · skip
      exact absurd (hne0 (by decide)) hne
  · k_with_none
    k_with "subscriptTail" => (k_here; (with_reducible show wpAny _ _ (subscriptTail _ _ (Value.ref _) (Value.int _ _)) _ _ _); k_dflt (refine' lst_sub ?k1 ?k2 ?k3 ?k4 ?k5 ?k6 ?_ ?k7; (case k1 => k_asm); (case k2 => k_mem); (case k3 => with_reducible assumption); (case k4 => exact rfl); (case k5 => omega); (case k6 => omega); (case k7 => with_unfolding_all rfl); k_whole); intro _ _)
    k_with "setItem ref int" => (k_here; k_dflt (refine' lst_set ?k1 ?k2 ?ke ?k3 ?k4 ?kv ?k6 ?k7 ?_; (case ke => exact rfl); (case k1 => k_asm); (case k2 => k_asm); (case k3 => k_upd); (case k4 => with_reducible assumption); (case kv => with_reducible assumption); (case k6 => omega); (case k7 => omega); k_whole); intro _ _ _ _; (try k_sweep))
    k_with "compareOp Lt" => (k_here; k_dflt (refine' lt_use (by with_reducible assumption) ?k1 ?k2 ?_; (case k1 => with_reducible assumption); (case k2 => with_reducible assumption); k_whole))
    k_with "binaryOp Add int int" => (k_here; (with_reducible refine add1_nat ?_); intro _ _)
    k_with "binaryOp Mult int int" => (k_here; (with_reducible refine mul2_nat ?_); intro _ _)
    k_with "call builtin:len" => (k_here; (with_reducible show wpAny _ _ (call (Value.builtin "len") [Value.ref _]) _ _ _); k_dflt (refine' lst_len ?k1 ?k2 ?k3 ?k4 ?_; (case k1 => k_asm); (case k2 => k_mem); (case k3 => with_reducible assumption); (case k4 => omega); k_whole); intro _ _)
    k_with "call builtin:list.append" => (k_here; (with_reducible show wpAny _ _ (call (Value.builtin _) [Value.ref _, _]) _ _ _); k_dflt (refine' lst_append ?k1 ?k2 ?k3 ?k4 ?k5 ?k6 ?_; (case k1 => k_asm); (case k2 => k_asm); (case k3 => k_upd); (case k4 => with_reducible assumption); (case k5 => with_reducible assumption); (case k6 => omega); k_whole); intro _ _ _ _ _; (try k_sweep))
    k_with "call builtin:list.pop" => (k_here; (with_reducible show wpAny _ _ (call (Value.builtin _) [Value.ref _]) _ _ _); k_dflt (refine' lst_pop ?k1 ?k2 ?k3 ?k4 ?k5 ?k6 ?_; (case k1 => k_asm); (case k2 => k_asm); (case k3 => k_upd); (case k4 => with_reducible assumption); (case k5 => omega); (case k6 => omega); k_whole); intro _ _ _ _ _ _ _; (try k_sweep))
    k_with "truthy ref" => (k_here; k_dflt (refine' lst_truthy ?k1 ?k2 ?k3 ?k4 ?_; (case k1 => k_asm); (case k2 => k_mem); (case k3 => with_reducible assumption); (case k4 => omega); k_whole); intro _)
    k_with "call builtin:list.reverse" => (k_here; (with_reducible show wpAny _ _ (call (Value.builtin _) [Value.ref _]) _ _ _); k_dflt (refine' lst_reverse ?k1 ?k2 ?k3 ?k4 ?k5 ?_; (case k1 => k_asm); (case k2 => k_asm); (case k3 => k_upd); (case k4 => with_reducible assumption); (case k5 => omega); k_whole); intro _ _ _ _ _; (try k_sweep))
    k_with "call type:type" => ((with_reducible show wpAny _ _ (call _ [Value.bytes _ _]) _ _ _); refine call_type_of (Tx := "bytes") rfl (by decide +kernel) ?_)
    by_cases hne : 0 < ks.length
    · skip
      k_with "call ref" => (
        rename Fr _ _ _ _ => F9
        rename News _ _ _ _ => N9
        rename All2 _ _ _ => hi9
        refine replace_call B' F9 X' N9 T' (Around.frames_deeper B'.stack) rfl rfl (by rw [depth_deeper]; dsimp only; omega) rfl hR hi9 (by omega) hv hne ?_
        intro h9 tk9 vs9 n9 kp hl hi8 v8 hv8
        obtain ⟨F8, N8⟩ := behindU F9 N9 (.head (fun _ h => nomatch h)) kp hl
        clear F9 N9)
      k_steps
      all_goals (try dsimp only)
      k_steps
      refine leaveF1 F8 N8 fun kp hl => hq _ _ _ _ _ kp hl ?_ ?_
      · show All2 R _ (if 0 < ks.length then (hreplace ks x).2 else ks)
        rw [if_pos hne]; exact hi8
      · show AnsIs R _ (if 0 < ks.length then .key (hreplace ks x).1 else .refused)
        rw [if_pos hne]; exact hv8
    · skip
      exact absurd (hne0 (by decide)) hne
  · k_with_none
    k_with "subscriptTail" => (k_here; (with_reducible show wpAny _ _ (subscriptTail _ _ (Value.ref _) (Value.int _ _)) _ _ _); k_dflt (refine' lst_sub ?k1 ?k2 ?k3 ?k4 ?k5 ?k6 ?_ ?k7; (case k1 => k_asm); (case k2 => k_mem); (case k3 => with_reducible assumption); (case k4 => exact rfl); (case k5 => omega); (case k6 => omega); (case k7 => with_unfolding_all rfl); k_whole); intro _ _)
    k_with "setItem ref int" => (k_here; k_dflt (refine' lst_set ?k1 ?k2 ?ke ?k3 ?k4 ?kv ?k6 ?k7 ?_; (case ke => exact rfl); (case k1 => k_asm); (case k2 => k_asm); (case k3 => k_upd); (case k4 => with_reducible assumption); (case kv => with_reducible assumption); (case k6 => omega); (case k7 => omega); k_whole); intro _ _ _ _; (try k_sweep))
    k_with "compareOp Lt" => (k_here; k_dflt (refine' lt_use (by with_reducible assumption) ?k1 ?k2 ?_; (case k1 => with_reducible assumption); (case k2 => with_reducible assumption); k_whole))
    k_with "binaryOp Add int int" => (k_here; (with_reducible refine add1_nat ?_); intro _ _)
    k_with "binaryOp Mult int int" => (k_here; (with_reducible refine mul2_nat ?_); intro _ _)
    k_with "call builtin:len" => (k_here; (with_reducible show wpAny _ _ (call (Value.builtin "len") [Value.ref _]) _ _ _); k_dflt (refine' lst_len ?k1 ?k2 ?k3 ?k4 ?_; (case k1 => k_asm); (case k2 => k_mem); (case k3 => with_reducible assumption); (case k4 => omega); k_whole); intro _ _)
    k_with "call builtin:list.append" => (k_here; (with_reducible show wpAny _ _ (call (Value.builtin _) [Value.ref _, _]) _ _ _); k_dflt (refine' lst_append ?k1 ?k2 ?k3 ?k4 ?k5 ?k6 ?_; (case k1 => k_asm); (case k2 => k_asm); (case k3 => k_upd); (case k4 => with_reducible assumption); (case k5 => with_reducible assumption); (case k6 => omega); k_whole); intro _ _ _ _ _; (try k_sweep))
    k_with "call builtin:list.pop" => (k_here; (with_reducible show wpAny _ _ (call (Value.builtin _) [Value.ref _]) _ _ _); k_dflt (refine' lst_pop ?k1 ?k2 ?k3 ?k4 ?k5 ?k6 ?_; (case k1 => k_asm); (case k2 => k_asm); (case k3 => k_upd); (case k4 => with_reducible assumption); (case k5 => omega); (case k6 => omega); k_whole); intro _ _ _ _ _ _ _; (try k_sweep))
    k_with "truthy ref" => (k_here; k_dflt (refine' lst_truthy ?k1 ?k2 ?k3 ?k4 ?_; (case k1 => k_asm); (case k2 => k_mem); (case k3 => with_reducible assumption); (case k4 => omega); k_whole); intro _)
    k_with "call builtin:list.reverse" => (k_here; (with_reducible show wpAny _ _ (call (Value.builtin _) [Value.ref _]) _ _ _); k_dflt (refine' lst_reverse ?k1 ?k2 ?k3 ?k4 ?k5 ?_; (case k1 => k_asm); (case k2 => k_asm); (case k3 => k_upd); (case k4 => with_reducible assumption); (case k5 => omega); k_whole); intro _ _ _ _ _; (try k_sweep))
    k_with "call type:type" => ((with_reducible show wpAny _ _ (call _ [Value.bytes _ _]) _ _ _); refine call_type_of (Tx := "bytes") rfl (by decide +kernel) ?_)
    k_with "call ref" => (
      rename Fr _ _ _ _ => F9
      rename News _ _ _ _ => N9
      rename All2 _ _ _ => hi9
      refine pushpop_call B' F9 X' N9 T' (Around.frames_deeper B'.stack) rfl rfl (by rw [depth_deeper]; dsimp only; omega) rfl hR hi9 (by omega) hv ?_
      intro h9 tk9 vs9 n9 kp hl hi8 v8 hv8
      obtain ⟨F8, N8⟩ := behindU F9 N9 (.head (fun _ h => nomatch h)) kp hl
      clear F9 N9)
    k_steps
    all_goals (try dsimp only)
    k_steps
    exact leaveF1 F8 N8 fun kp hl => hq _ _ _ _ _ kp hl hi8 hv8
  · k_with_none
    k_with "subscriptTail" => (k_here; (with_reducible show wpAny _ _ (subscriptTail _ _ (Value.ref _) (Value.int _ _)) _ _ _); k_dflt (refine' lst_sub ?k1 ?k2 ?k3 ?k4 ?k5 ?k6 ?_ ?k7; (case k1 => k_asm); (case k2 => k_mem); (case k3 => with_reducible assumption); (case k4 => exact rfl); (case k5 => omega); (case k6 => omega); (case k7 => with_unfolding_all rfl); k_whole); intro _ _)
    k_with "setItem ref int" => (k_here; k_dflt (refine' lst_set ?k1 ?k2 ?ke ?k3 ?k4 ?kv ?k6 ?k7 ?_; (case ke => exact rfl); (case k1 => k_asm); (case k2 => k_asm); (case k3 => k_upd); (case k4 => with_reducible assumption); (case kv => with_reducible assumption); (case k6 => omega); (case k7 => omega); k_whole); intro _ _ _ _; (try k_sweep))
    k_with "compareOp Lt" => (k_here; k_dflt (refine' lt_use (by with_reducible assumption) ?k1 ?k2 ?_; (case k1 => with_reducible assumption); (case k2 => with_reducible assumption); k_whole))
    k_with "binaryOp Add int int" => (k_here; (with_reducible refine add1_nat ?_); intro _ _)
    k_with "binaryOp Mult int int" => (k_here; (with_reducible refine mul2_nat ?_); intro _ _)
    k_with "call builtin:len" => (k_here; (with_reducible show wpAny _ _ (call (Value.builtin "len") [Value.ref _]) _ _ _); k_dflt (refine' lst_len ?k1 ?k2 ?k3 ?k4 ?_; (case k1 => k_asm); (case k2 => k_mem); (case k3 => with_reducible assumption); (case k4 => omega); k_whole); intro _ _)
    k_with "call builtin:list.append" => (k_here; (with_reducible show wpAny _ _ (call (Value.builtin _) [Value.ref _, _]) _ _ _); k_dflt (refine' lst_append ?k1 ?k2 ?k3 ?k4 ?k5 ?k6 ?_; (case k1 => k_asm); (case k2 => k_asm); (case k3 => k_upd); (case k4 => with_reducible assumption); (case k5 => with_reducible assumption); (case k6 => omega); k_whole); intro _ _ _ _ _; (try k_sweep))
    k_with "call builtin:list.pop" => (k_here; (with_reducible show wpAny _ _ (call (Value.builtin _) [Value.ref _]) _ _ _); k_dflt (refine' lst_pop ?k1 ?k2 ?k3 ?k4 ?k5 ?k6 ?_; (case k1 => k_asm); (case k2 => k_asm); (case k3 => k_upd); (case k4 => with_reducible assumption); (case k5 => omega); (case k6 => omega); k_whole); intro _ _ _ _ _ _ _; (try k_sweep))
    k_with "truthy ref" => (k_here; k_dflt (refine' lst_truthy ?k1 ?k2 ?k3 ?k4 ?_; (case k1 => k_asm); (case k2 => k_mem); (case k3 => with_reducible assumption); (case k4 => omega); k_whole); intro _)
    k_with "call builtin:list.reverse" => (k_here; (with_reducible show wpAny _ _ (call (Value.builtin _) [Value.ref _]) _ _ _); k_dflt (refine' lst_reverse ?k1 ?k2 ?k3 ?k4 ?k5 ?_; (case k1 => k_asm); (case k2 => k_asm); (case k3 => k_upd); (case k4 => with_reducible assumption); (case k5 => omega); k_whole); intro _ _ _ _ _; (try k_sweep))
    k_with "call type:type" => ((with_reducible show wpAny _ _ (call _ [Value.bytes _ _]) _ _ _); refine call_type_of (Tx := "bytes") rfl (by decide +kernel) ?_)
    k_with "call ref" => (
      rename Fr _ _ _ _ => F9
      rename News _ _ _ _ => N9
      rename All2 _ _ _ => hi9
      refine hify_call B' F9 X' N9 T' (Around.frames_deeper B'.stack) rfl rfl (by rw [depth_deeper]; dsimp only; omega) rfl hR hi9 (by omega)  ?_
      intro h9 tk9 vs9 n9 kp hl hi8
      obtain ⟨F8, N8⟩ := behindU F9 N9 (.head (fun _ h => nomatch h)) kp hl
      clear F9 N9)
    k_steps
    all_goals (try dsimp only)
    k_steps
    exact leaveF1 F8 N8 fun kp hl => hq _ _ _ _ _ kp hl hi8 rfl

end

-- part Rules3
section
/-- an int and its number -/
def RInt (v : Value) (k : Int) : Prop := ∃ t, v = .int k t
theorem ltInt (w : World) : LtRule w RInt := by
  rintro A s a b j k Q E ⟨t, rfl⟩ ⟨u, rfl⟩ h
  exact PyProof.Rows.lt_int h
theorem all2_ints : ∀ {vs : List Value} {ks : List Int}, All2 RInt vs ks → IntsAre vs ks
  | _, _, .nil => .nil
  | _, _, .cons ⟨t, e⟩ h => by subst e; exact .cons _ t (all2_ints h)
theorem ints_all2 : ∀ {vs : List Value} {ks : List Int}, IntsAre vs ks → All2 RInt vs ks
  | _, _, .nil => .nil
  | _, _, .cons _ t h => .cons ⟨t, rfl⟩ (ints_all2 h)

/-- where M first stands -/
theorem erase_at {M : Int} : ∀ {ns : List Int}, M ∈ ns → ∃ j, j < ns.length ∧ ns[j]? = some M ∧ (∀ i, i < j → ns[i]? ≠ some M) ∧ ns.erase M = ns.eraseIdx j
  | a :: r, h => by
    by_cases e : a = M
    · subst e
      exact ⟨0, by simp, by simp, fun i hi => absurd hi (Nat.not_lt_zero _), by simp⟩
    · have hm : M ∈ r := by
        rcases List.mem_cons.mp h with q | q
        · exact absurd q.symm e
        · exact q
      obtain ⟨j, h1, h2, h3, h4⟩ := erase_at hm
      refine ⟨j + 1, by simpa using h1, by simpa using h2, fun i hi => ?_, ?_⟩
      · cases i with
        | zero => simpa using e
        | succ i => simpa using h3 i (by omega)
      · have : (a :: r).erase M = a :: r.erase M := by rw [List.erase_cons_tail (by simpa using e)]
        rw [this, h4]; rfl
theorem All2.eraseIdx {R : Value → Int → Prop} : ∀ {vs : List Value} {ks : List Int}, All2 R vs ks → ∀ i, All2 R (vs.eraseIdx i) (ks.eraseIdx i)
  | _, _, .nil, _ => .nil
  | _, _, .cons _ t, 0 => t
  | _, _, .cons q t, i + 1 => .cons q (All2.eraseIdx t i)

section
variable {prog : Program} {w : World} {A : Around} {E : Value → Shared → Prop} {s : Shared} {h₀ : Heap} {L l : Addr} {m : Str → Option Value} {news news' : List (Addr × Obj)} {vs : List Value} {ks : List Int} {n i : Nat} {k x : Int} {t u : Tok}
theorem int_min {Q : Value → Shared → Prop} (hh : A.handled = none) (F : Fr h₀ L s.heap m) (N : News h₀ L s.heap news) (hm : (l, listOf vs.toArray n) ∈ news) (hi : All2 RInt vs ks) (hne : 0 < ks.length)
    (h : ∀ h' M (t : Tok) tk, Fr h₀ L h' m → News h₀ L h' news → M ∈ ks → (∀ a, a ∈ ks → M ≤ a) → Q (.int M t) { s with heap := h', toks := tk }) :
    wpAny (model prog w) A (call (.builtin "min") [.ref l]) Q E s :=
  min_list_N hh F N (PySem.IsL.isList (n := n) (N _ hm).1) (all2_ints hi) hne h
theorem int_remove {M : Int} {Q : Value → Shared → Prop} (F : Fr h₀ L s.heap m) (N : News h₀ L s.heap news) (hm : (l, listOf vs.toArray n) ∈ news) (hi : All2 RInt vs ks) (hM : M ∈ ks) (hz : ks.length < 2000)
    (h : ∀ h' vs', (∀ b o, b ≠ l → s.heap.get? b = some o → h'.get? b = some o) → h'.get? l = some (listOf vs'.toArray (n + 1)) → All2 RInt vs' (ks.erase M) → (ks.erase M).length = ks.length - 1 → Q .none { s with heap := h' }) :
    wpAny (model prog w) A (call (.builtin "list.remove") [.ref l, .int M t]) Q E s := by
  have ho := (N _ hm).1
  obtain ⟨j, h1, h2, h3, h4⟩ := erase_at hM
  have hlen := hi.length
  have at_ : ∀ i (hi' : i < vs.toArray.size), ∃ t, vs.toArray[i] = .int (ks.getD i 0) t := fun i hi' => by
    obtain ⟨v, e1, t, e2⟩ := hi.get i (by simp at hi'; omega)
    refine ⟨t, ?_⟩
    have hi2 : i < vs.length := by simpa using hi'
    rw [List.getElem?_eq_getElem hi2] at e1
    rw [List.getElem_toArray, Option.some.inj e1, e2]
  have hj : j < vs.toArray.size := by simp; omega
  have gd : ∀ i, i < ks.length → ks[i]? = some (ks.getD i 0) := fun i hi' => by simp [hi']
  refine call_meets PySem.F.slot_list_remove ⟨_, ho, rfl⟩ PySem.F.entry_list_remove (PySem.F.args_list_remove_2 _ _) (PySem.MeetsSeq.list_remove l vs.toArray n (.int M t) (fun y => match y with | .int a _ => a == M | _ => false) ?_ j hj ?_ ?_ ?_) ⟨ho, ?_⟩
  · intro y hy
    obtain ⟨i, hi', rfl⟩ := Array.getElem_of_mem hy
    obtain ⟨t', e⟩ := at_ i hi'
    rw [e]
    exact PySem.MeetsSeq.EqGives.int _ _ _ _
  · obtain ⟨t', e⟩ := at_ j hj
    rw [e]
    have := gd j h1
    rw [h2] at this
    exact beq_iff_eq.mpr (Option.some.inj this).symm
  · intro i hi' hlt
    obtain ⟨t', e⟩ := at_ i hi'
    rw [e]
    have := gd i (by omega)
    have h5 := h3 i hlt
    rw [this] at h5
    simpa using h5
  · rw [List.size_toArray, hlen, PySem.sizeLine_eq]; omega
  · refine h _ (vs.eraseIdx j) (fun b o hb e => (Heap.get?_update_ne _ _ _ _ hb).trans e) ?_ (h4 ▸ hi.eraseIdx j) ?_
    · have q := PySem.IsL.update ho (fun xs => xs.eraseIdxIfInBounds j)
      have e1 : vs.toArray.eraseIdxIfInBounds j = (vs.eraseIdx j).toArray := by simp
      have e2 : (if ((vs.eraseIdx j).toArray.size == vs.toArray.size) = true then n else n + 1) = n + 1 := by
        rw [if_neg]
        simp only [List.size_toArray, List.length_eraseIdx, beq_iff_eq]
        simp at hj
        rw [if_pos hj]; omega
      rw [e1, e2] at q
      exact q
    · rw [List.length_erase_of_mem hM]
end
theorem eq_nil {prog : Program} {w : World} {A : Around} {E : Value → Shared → Prop} {s : Shared} {h₀ : Heap} {L l e : Addr} {news : List (Addr × Obj)} {vs : List Value} {ks : List Int} {n k : Nat} {Q : Value → Shared → Prop} (N : News h₀ L s.heap news)
    (hm : (l, listOf vs.toArray n) ∈ news) (hi : All2 RInt vs ks) (he : (e, listOf ([] : List Value).toArray k) ∈ news) (hu : A.units + 64 < cLine)
    (h : Q (.bool (decide (ks.length = 0))) s) : wpAny (model prog w) A (compareOp .Eq (.ref l) (.ref e)) Q E s := by
  refine eq_intsK (N.isList hm) (all2_ints hi) (N.isList he) .nil hu ?_
  have e : decide (ks = []) = decide (ks.length = 0) := by cases ks <;> simp
  rw [e]; exact h
section
variable {prog : Program} {w : World} {A : Around} {E : Value → Shared → Prop} {s : Shared} {t u : Tok}
theorem pow256_pos (k : Nat) : (0 : Int) < 256 ^ k := Int.pow_pos (by decide)
/-- a bounded number over a power of 256 -/
theorem fdiv256 {a k : Int} (hk : k ≤ 6) {Q : Value → Shared → Prop} (h : ∀ t' tk', Q (.int (a.fdiv (256 ^ k.toNat)) t') { s with toks := tk' }) :
    wpAny (model prog w) A (binaryOp .FloorDiv (.int a t) (.int (256 ^ k.toNat) u)) Q E s :=
  floordiv_int (by have := pow256_pos k.toNat; omega) (h _ _) (Or.inl (PyProof.noPylong_of_log2 (by
    have hk' : k.toNat = 0 ∨ k.toNat = 1 ∨ k.toNat = 2 ∨ k.toNat = 3 ∨ k.toNat = 4 ∨ k.toNat = 5 ∨ k.toNat = 6 := by omega
    rcases hk' with e | e | e | e | e | e | e <;> rw [e] <;> decide +kernel)))
theorem pow64_pos (k : Nat) : (0 : Int) < 64 ^ k := Int.pow_pos (by decide)
theorem fdiv64 {a k : Int} (hk : k ≤ 7) {Q : Value → Shared → Prop} (h : ∀ t' tk', Q (.int (a.fdiv (64 ^ k.toNat)) t') { s with toks := tk' }) :
    wpAny (model prog w) A (binaryOp .FloorDiv (.int a t) (.int (64 ^ k.toNat) u)) Q E s :=
  floordiv_int (by have := pow64_pos k.toNat; omega) (h _ _) (Or.inl (PyProof.noPylong_of_log2 (by
    have hk' : k.toNat = 0 ∨ k.toNat = 1 ∨ k.toNat = 2 ∨ k.toNat = 3 ∨ k.toNat = 4 ∨ k.toNat = 5 ∨ k.toNat = 6 ∨ k.toNat = 7 := by omega
    rcases hk' with e | e | e | e | e | e | e | e <;> rw [e] <;> decide +kernel)))
end

end

-- part Due
section
/-- what _law_due answers, and the plain list behind it -/
inductive DueIs (ps : List Int) (x : Int) : Nat → Ans → List Int → Prop
  | turn : DueIs ps x 5 .nothing ps
  | none2 (h : ps = []) : DueIs ps x 2 .refused ps
  | none3 (h : ps = []) : DueIs ps x 3 .refused ps
  | push0 : DueIs ps x 0 .nothing (ps ++ [x])
  | push1 : DueIs ps x 1 .nothing (ps ++ [x])
  | pop {M : Int} (h : M ∈ ps) (hle : ∀ a ∈ ps, M ≤ a) : DueIs ps x 2 (.key M) (ps.erase M)
  | rep {M : Int} (h : M ∈ ps) (hle : ∀ a ∈ ps, M ≤ a) : DueIs ps x 3 (.key M) (ps.erase M ++ [x])
  | pushpop {M : Int} (h : M ∈ ps ++ [x]) (hle : ∀ a ∈ ps ++ [x], M ≤ a) : DueIs ps x 4 (.key M) ((ps ++ [x]).erase M)

set_option maxHeartbeats 8000000 in
theorem due_call : ∀ {w : World} {A₀ A : Around} {s : Shared} {base h₀ : Heap} {outer : List Env} {L : Addr} {m mg mb : Str → Option Value} {env : Env} {mean : ExcName → Option Value}
    {l : Addr} {vs : List Value} {ks : List Int} {n : Nat} {c : Nat} {t u : Tok} {x : Int} {Q E : Value → Shared → Prop},
    Below A₀ base outer h₀ → Fr h₀ L s.heap m → (hd.heap_39 w.params).In h₀ → News h₀ L s.heap [(l, listOf vs.toArray n)] →
    Top hd.view_39 (looseW hd.view_39 [Str.ofString "b2a_base64", Str.ofString "b64encode"]) mean mg mb h₀ →
    A.frames = some (env :: outer) → env.frame = some L → env.scope.kind = .function → A.depth + 3 < recursionLimit → A.handled = none →
    All2 RInt vs ks → ks.length < 1000 → c ≤ 5 → A.units + 100 < cLine →
    (∀ h' tk' vs' n' v' ps' a, (∀ b o, b ≠ l → s.heap.get? b = some o → h'.get? b = some o) → h'.get? l = some (listOf vs'.toArray n') → All2 RInt vs' ps' → DueIs ks x c a ps' → AnsIs RInt v' a → Q v' { s with heap := h', toks := tk' }) →
    wpAny (model PySem.Challenge.rw_mq0155_01.row.prog w) A (call (.ref 136) [.int c t, .ref l, .int x u]) Q E s := by
  w_top off
  k_fill
  intro w A₀ A s base h₀ outer L m mg mb env mean l vs ks n c t u x Q E B F X N T hA hf hke hroom hnh hi hfit hc hun hq
  obtain ⟨hh, dp, fr, gd, un⟩ := A
  dsimp only at hnh hA hroom hun
  subst hnh hA
  refine wpAny_call ?_
  k_dflt (refine' call_foot (sub := [(l, listOf vs.toArray n)]) (binds := [(Str.ofString "call", .int c t), (Str.ofString "plain", .ref l), (Str.ofString "told", .int x u)]) B F X N T rfl hf hke ?k6 ?k7 ?k8 ?k9 ?kB ?_ ?c2 ?c3 ?c4 ?c5; (case k6 => k_is); (case k7 => k_is); (case k8 => (dsimp only; omega)); (case k9 => exact BindsTo.of_eq rfl); (case c5 => decide); (case kB => exact locs rfl); (case c2 => exact rfl); (case c3 => exact rfl); (case c4 => exact rfl); k_whole)
  intro g L' h₁ F' N' B' X' T' hlt hkeep
  clear F N B X T
  try dsimp only
  try k_fold
  k_with_none
  k_with "subscriptTail" => (k_here; (with_reducible show wpAny _ _ (subscriptTail _ _ (Value.ref _) (Value.int _ _)) _ _ _); k_dflt (refine' lst_sub ?k1 ?k2 ?k3 ?k4 ?k5 ?k6 ?_ ?k7; (case k1 => k_asm); (case k2 => k_mem); (case k3 => with_reducible assumption); (case k4 => exact rfl); (case k5 => omega); (case k6 => omega); (case k7 => with_unfolding_all rfl); k_whole); intro _ _)
  k_with "setItem ref int" => (k_here; k_dflt (refine' lst_set ?k1 ?k2 ?ke ?k3 ?k4 ?kv ?k6 ?k7 ?_; (case ke => exact rfl); (case k1 => k_asm); (case k2 => k_asm); (case k3 => k_upd); (case k4 => with_reducible assumption); (case kv => with_reducible assumption); (case k6 => omega); (case k7 => omega); k_whole); intro _ _ _ _; (try k_sweep))
  k_with "compareOp Lt" => (k_here; k_dflt (refine' lt_use (by with_reducible assumption) ?k1 ?k2 ?_; (case k1 => with_reducible assumption); (case k2 => with_reducible assumption); k_whole))
  k_with "binaryOp Add int int" => (k_here; (with_reducible refine add1_nat ?_); intro _ _)
  k_with "binaryOp Mult int int" => (k_here; (with_reducible refine mul2_nat ?_); intro _ _)
  k_with "call builtin:len" => (k_here; (with_reducible show wpAny _ _ (call (Value.builtin "len") [Value.ref _]) _ _ _); k_dflt (refine' lst_len ?k1 ?k2 ?k3 ?k4 ?_; (case k1 => k_asm); (case k2 => k_mem); (case k3 => with_reducible assumption); (case k4 => omega); k_whole); intro _ _)
  k_with "call builtin:list.append" => (k_here; (with_reducible show wpAny _ _ (call (Value.builtin _) [Value.ref _, _]) _ _ _); k_dflt (refine' lst_append ?k1 ?k2 ?k3 ?k4 ?k5 ?k6 ?_; (case k1 => k_asm); (case k2 => k_asm); (case k3 => k_upd); (case k4 => with_reducible assumption); (case k5 => with_reducible assumption); (case k6 => omega); k_whole); intro _ _ _ _ _; (try k_sweep))
  k_with "call builtin:list.pop" => (k_here; (with_reducible show wpAny _ _ (call (Value.builtin _) [Value.ref _]) _ _ _); k_dflt (refine' lst_pop ?k1 ?k2 ?k3 ?k4 ?k5 ?k6 ?_; (case k1 => k_asm); (case k2 => k_asm); (case k3 => k_upd); (case k4 => with_reducible assumption); (case k5 => omega); (case k6 => omega); k_whole); intro _ _ _ _ _ _ _; (try k_sweep))
  k_with "truthy ref" => (k_here; k_dflt (refine' lst_truthy ?k1 ?k2 ?k3 ?k4 ?_; (case k1 => k_asm); (case k2 => k_mem); (case k3 => with_reducible assumption); (case k4 => omega); k_whole); intro _)
  k_with "call builtin:list.reverse" => (k_here; (with_reducible show wpAny _ _ (call (Value.builtin _) [Value.ref _]) _ _ _); k_dflt (refine' lst_reverse ?k1 ?k2 ?k3 ?k4 ?k5 ?_; (case k1 => k_asm); (case k2 => k_asm); (case k3 => k_upd); (case k4 => with_reducible assumption); (case k5 => omega); k_whole); intro _ _ _ _ _; (try k_sweep))
  k_with "call type:type" => ((with_reducible show wpAny _ _ (call _ [Value.bytes _ _]) _ _ _); refine call_type_of (Tx := "bytes") rfl (by decide +kernel) ?_)
  have hv : RInt (.int x u) x := ⟨u, rfl⟩
  have hI := all2_ints hi
  k_with "call builtin:min" => (
    rename All2 _ _ _ => hi9
    refine int_min rfl (by k_asm) (by k_asm) (by k_mem) hi9 (by first | omega | exact List.length_pos_iff.mpr (by assumption)) ?_
    intro h' M' t' tk' F' N' hM' hle')
  k_with "compareOp Eq ref ref" => (
    refine eq_nil (by k_asm) (by k_mem) hi (by k_mem) (by rw [units_deeper]; dsimp only; omega) ?_)
  k_with "call builtin:list.remove" => (
    rename Fr _ _ _ _ => F9
    rename News _ _ _ _ => N9
    rename All2 _ _ _ => hi9
    refine int_remove F9 N9 (by k_mem) hi9 (by assumption) (by omega) ?_
    intro h9 vs9 kp hl hi8 hl8
    obtain ⟨F8, N8⟩ := behindU F9 N9 (by k_upd) kp hl
    clear F9 N9)
  have hcs : c = 0 ∨ c = 1 ∨ c = 2 ∨ c = 3 ∨ c = 4 ∨ c = 5 := by omega
  rcases hcs with rfl | rfl | rfl | rfl | rfl | rfl
  all_goals k_steps
  all_goals (try dsimp only)
  all_goals k_steps
  · rename Fr _ _ _ _ => F9
    rename News _ _ _ _ => N9
    rename All2 _ _ _ => hi9
    exact leaveF1 F9 (news_one N9 (by k_mem)) fun kp hl => hq _ _ _ _ _ _ _ kp hl hi9 .push0 rfl
  · rename Fr _ _ _ _ => F9
    rename News _ _ _ _ => N9
    rename All2 _ _ _ => hi9
    exact leaveF1 F9 (news_one N9 (by k_mem)) fun kp hl => hq _ _ _ _ _ _ _ kp hl hi9 .push1 rfl
  · rename Fr _ _ _ _ => F9
    rename News _ _ _ _ => N9
    rename All2 _ _ _ => hi9
    exact leaveF1 F9 (news_one N9 (by k_mem)) fun kp hl => hq _ _ _ _ _ _ _ kp hl hi9 (.none2 (List.eq_nil_of_length_eq_zero (by omega))) ⟨_, rfl⟩
  · rename Fr _ _ _ _ => F9
    rename News _ _ _ _ => N9
    rename All2 _ _ _ => hi9
    exact leaveF1 F9 (news_one N9 (by k_mem)) fun kp hl => hq _ _ _ _ _ _ _ kp hl hi9 (.pop (by assumption) (by assumption)) ⟨_, rfl⟩
  · rename Fr _ _ _ _ => F9
    rename News _ _ _ _ => N9
    rename All2 _ _ _ => hi9
    exact leaveF1 F9 (news_one N9 (by k_mem)) fun kp hl => hq _ _ _ _ _ _ _ kp hl hi9 (.none3 (List.eq_nil_of_length_eq_zero (by omega))) ⟨_, rfl⟩
  · rename Fr _ _ _ _ => F9
    rename News _ _ _ _ => N9
    rename All2 _ _ _ => hi9
    exact leaveF1 F9 (news_one N9 (by k_mem)) fun kp hl => hq _ _ _ _ _ _ _ kp hl hi9 (.rep (by assumption) (by assumption)) ⟨_, rfl⟩
  · rename Fr _ _ _ _ => F9
    rename News _ _ _ _ => N9
    rename All2 _ _ _ => hi9
    exact leaveF1 F9 (news_one N9 (by k_mem)) fun kp hl => hq _ _ _ _ _ _ _ kp hl hi9 (.pushpop (by assumption) (by assumption)) ⟨_, rfl⟩
  · rename Fr _ _ _ _ => F9
    rename News _ _ _ _ => N9
    rename All2 _ _ _ => hi9
    exact leaveF1 F9 (news_one N9 (by k_mem)) fun kp hl => hq _ _ _ _ _ _ _ kp hl hi9 .turn rfl

end

-- part FootC
section
section
variable {prog : Program} {w : World} {A₀ A : Around} {s : Shared} {base h₀ : Heap} {outer : List Env} {L : Addr} {m mg mb : Str → Option Value} {env : Env} {sub : List (Addr × Obj)} {K : Frag}
  {p : Program} {loose : List Str} {mean : ExcName → Option Value}

/-- A call of a def of the text whose names are captured, upon the objects of `sub` alone. -/
theorem call_footC {R : Result → Shared → Prop} {name qual : Str} {params : Arguments} {body : List Stmt} {scope : Scope} {dV kV doc pm cdv ct oc : Value} {an od : Option Addr} {osl : Array (Option Value)} {f : Addr} {args : Args} {binds : List (Str × Value)}
    (B : Below A₀ base outer h₀) (F : Fr h₀ L s.heap m) (X₀ : K.In h₀) (N : News h₀ L s.heap sub) (T : Top p loose mean mg mb h₀) (hA : A.frames = some (env :: outer)) (hf : env.frame = some L) (hke : env.scope.kind = .function)
    (ho : K.lookup f = some ⟨oc, od, .func (fnOf name qual params body scope dV kV doc pm an cdv ct), osl⟩) (hcd : codeIn K cdv qual = true) (hroom : A.depth < recursionLimit)
    (hbind : BindsTo s (fnOf name qual params body scope dV kV doc pm an cdv ct) args binds) (hkind : (binds.all fun y => scope.names.lookup y.1 == some .local || scope.names.lookup y.1 == some .cell) = true)
    (hnd : ((cellsFrom 0 scope.names []).map (·.1)).Nodup)
    (h : ∀ g L' h₁ tk cells, Fr g L' h₁ (bindL (envOfC qual scope L' f cdv).kindOf binds fun _ => none) → News g L' h₁ (cells ++ sub) →
      CellsAre (bindC (envOfC qual scope L' f cdv).kindOf binds fun _ => none) (cellsFrom (L' + 1) scope.names []) cells → Below A base (env :: outer) g → K.In g → Top p loose mean mg mb g → (∀ q ∈ sub, q.1 < L') →
      (∀ b o, (∀ q ∈ sub, b ≠ q.1) → s.heap.get? b = some o → g.get? b = some o) →
      wpAny (model prog w) (A.deeper (envOfC qual scope L' f cdv)) (execs body (envOfC qual scope L' f cdv))
        (fun fl s' => LeaveF s sub g R (match fl with | .ret v => v | _ => .none) s')
        (fun e s' => wpAny (model prog w) (A.deeper (envOfC qual scope L' f cdv)) (leaving (envOfC qual scope L' f cdv) e) (fun _ s'' => R (.error e) s'') (fun e' s'' => R (.error e') s'') s')
        { s with heap := h₁, toks := tk })
    (hco : scope.isCoroutine = false) (hgen : scope.isGenerator = false) (hk : scope.kind = .function) : codeAny (model prog w) A (.call (.ref f) args) R s := by
  have X := X₀.keeps F.keep
  obtain ⟨FG, BG, st, _⟩ := groundX (R := R) B F N hA hf hke
  have keepG : ∀ b o, (∀ q ∈ sub, b ≠ q.1) → s.heap.get? b = some o → (hideAll s.heap (sub.map (·.1))).get? b = some o := fun b o nb e =>
    hideAll_get _ e fun q => by
      obtain ⟨y, hy, rfl⟩ := List.mem_map.mp q
      exact nb y hy rfl
  refine codeAny_call_function hroom (X _ _ ho) rfl hco hgen rfl (codeRec_of X hcd) (hbind _ _ _ _ ?_)
  refine wpAny_newFunctionEnv_cells hk (kindsX hkind _) fun env' he s' x => ?_
  subst he
  refine ⟨(T.nolimit.keeps F.keep).keeps x.toInCall.keep, codeAny_func ?_⟩
  obtain ⟨h₁, tk, rfl, _⟩ := x.done
  have hk₁ := x.toInCall.keep
  obtain ⟨cells, NC, Y⟩ := Cl.news (h₀ := s.heap) (Nat.le_refl _) fun n c hm => ⟨x.cell n c (lookup_of_mem_nodup (cellsFrom_names scope.names 0 (s.heap.objs.size + 1) [] [] rfl ▸ hnd) hm), x.above n c hm⟩
  refine wpAny_mono (h _ s.heap.objs.size h₁ tk cells ⟨x.toInCall.ns, fun b o e => hk₁ b o (of_hideAll _ e), Nat.le_of_eq (hideAll_size _ _)⟩ (fun p hp => ?_) Y BG (X₀.keeps st) (T.keeps st) (fun p hp => Heap.lt_size (N p hp).1) keepG) (fun fl s' hl => ?_) fun _ _ y => y
  · rcases List.mem_append.mp hp with hp | hp
    · refine ⟨(NC p hp).1, (NC p hp).2.1, ?_⟩
      cases q : (hideAll s.heap (sub.map (·.1))).get? p.1 with
      | none => rfl
      | some o => have := of_hideAll _ q; rw [(NC p hp).2.2] at this; cases this
    · exact ⟨hk₁ _ _ (N p hp).1, Nat.ne_of_lt (Heap.lt_size (N p hp).1), hideAll_none _ (List.mem_map_of_mem hp)⟩
  obtain ⟨L', m', sub', F', N', k⟩ := hl
  refine k (fun b o nb e => F'.keep b o (keepG b o nb e)) fun q hq => ⟨(N' q hq).1, ?_⟩
  by_cases hs : ∃ y ∈ sub, y.1 = q.1
  · exact .inl hs
  · refine .inr ?_
    cases e : s.heap.get? q.1 with
    | none => rfl
    | some o =>
      have := keepG q.1 o (fun y hy z => hs ⟨y, hy, z.symm⟩) e
      rw [(N' q hq).2.2] at this; cases this

/-- a call that makes l anew and changes nothing -/
theorem leaveF_new {l : Addr} {o : Obj} {g : Heap} {L' : Addr} {m' : Str → Option Value} {R : Result → Shared → Prop} {v : Value} {s' : Shared} {news : List (Addr × Obj)}
    (F' : Fr g L' s'.heap m') (N' : News g L' s'.heap news) (hm : (l, o) ∈ news)
    (k : (∀ b ob, s.heap.get? b = some ob → s'.heap.get? b = some ob) → s.heap.get? l = none → s'.heap.get? l = some o → R (.ok (.ret v)) s') : LeaveF s [] g R v s' :=
  leaveF_ F' N' fun kp st => k (fun b ob e => kp b ob (fun _ h => nomatch h) e) ((st _ hm).2.elim (fun ⟨_, h, _⟩ => nomatch h) id) (st _ hm).1
/-- a call that changes nothing -/
theorem leaveF_same {g : Heap} {L' : Addr} {m' : Str → Option Value} {R : Result → Shared → Prop} {v : Value} {s' : Shared}
    (F' : Fr g L' s'.heap m') (k : (∀ b ob, s.heap.get? b = some ob → s'.heap.get? b = some ob) → R (.ok (.ret v)) s') : LeaveF s [] g R v s' :=
  leaveF_ F' News.nil fun kp _ => k (fun b ob e => kp b ob (fun _ h => nomatch h) e)
end

end

-- part Oct
section
/-- octets: six at most, each below 256 -/
def OctsOk (os : List Int) : Prop := os.length ≤ 6 ∧ ∀ o ∈ os, 0 ≤ o ∧ o < 256

set_option maxHeartbeats 4000000 in
theorem oct_call : ∀ {w : World} {A₀ A : Around} {s : Shared} {base h₀ : Heap} {outer : List Env} {L : Addr} {m mg mb : Str → Option Value} {env : Env} {mean : ExcName → Option Value}
    {N : Nat} {t : Tok} {Q E : Value → Shared → Prop},
    Below A₀ base outer h₀ → Fr h₀ L s.heap m → (hd.heap_39 w.params).In h₀ →
    Top hd.view_39 (looseW hd.view_39 [Str.ofString "b2a_base64", Str.ofString "b64encode"]) mean mg mb h₀ →
    A.frames = some (env :: outer) → env.frame = some L → env.scope.kind = .function → A.depth + 3 < recursionLimit → A.handled = none → A.units + 100 < cLine → N < 7 * 256 ^ 6 →
    (∀ (h' : Heap) (tk' : Nat) (l : Addr) (vs' : List Value) (n' : Nat), (∀ b o, s.heap.get? b = some o → h'.get? b = some o) → s.heap.get? l = none → h'.get? l = some (listOf vs'.toArray n') → (∃ os, IntsAre vs' os ∧ OctsOk os) → Q (.ref l) { s with heap := h', toks := tk' }) →
    wpAny (model PySem.Challenge.rw_mq0155_01.row.prog w) A (call (.ref 110) [.int N t]) Q E s := by
  w_top off
  k_fill
  intro w A₀ A s base h₀ outer L m mg mb env mean N t Q E B F X T hA hf hke hroom hnh hun hN hq
  obtain ⟨hh, dp, fr, gd, un⟩ := A
  dsimp only at hnh hA hroom hun
  subst hnh hA
  refine wpAny_call ?_
  k_dflt (refine' call_footC (sub := []) (binds := [(Str.ofString "number", .int N t)]) B F X News.nil T rfl hf hke ?k6 ?k7 ?k8 ?k9 ?kB ?kD ?_ ?c2 ?c3 ?c4; (case k6 => k_is); (case k7 => k_is); (case k8 => (dsimp only; omega)); (case k9 => exact BindsTo.of_eq rfl); (case kB => exact rfl); (case kD => decide +kernel); (case c2 => exact rfl); (case c3 => exact rfl); (case c4 => exact rfl); k_whole)
  intro g L' h₁ tk₁ cells F' N' Y' B' X' T' hlt hkeep
  k_cells Y'
  (try simp only [List.cons_append, List.nil_append] at N')
  clear F B X T
  try dsimp only
  try k_fold
  k_with_none
  k_with "subscriptTail" => (k_here; (with_reducible show wpAny _ _ (subscriptTail _ _ (Value.ref _) (Value.int _ _)) _ _ _); k_dflt (refine' lst_sub ?k1 ?k2 ?k3 ?k4 ?k5 ?k6 ?_ ?k7; (case k1 => k_asm); (case k2 => k_mem); (case k3 => with_reducible assumption); (case k4 => exact rfl); (case k5 => omega); (case k6 => omega); (case k7 => with_unfolding_all rfl); k_whole); intro _ _)
  k_with "setItem ref int" => (k_here; k_dflt (refine' lst_set ?k1 ?k2 ?ke ?k3 ?k4 ?kv ?k6 ?k7 ?_; (case ke => exact rfl); (case k1 => k_asm); (case k2 => k_asm); (case k3 => k_upd); (case k4 => with_reducible assumption); (case kv => with_reducible assumption); (case k6 => omega); (case k7 => omega); k_whole); intro _ _ _ _; (try k_sweep))
  k_with "compareOp Lt" => (k_here; k_dflt (refine' lt_use (by with_reducible assumption) ?k1 ?k2 ?_; (case k1 => with_reducible assumption); (case k2 => with_reducible assumption); k_whole))
  k_with "binaryOp Add int int" => (k_here; (with_reducible refine add1_nat ?_); intro _ _)
  k_with "binaryOp Mult int int" => (k_here; (with_reducible refine mul2_nat ?_); intro _ _)
  k_with "call builtin:len" => (k_here; (with_reducible show wpAny _ _ (call (Value.builtin "len") [Value.ref _]) _ _ _); k_dflt (refine' lst_len ?k1 ?k2 ?k3 ?k4 ?_; (case k1 => k_asm); (case k2 => k_mem); (case k3 => with_reducible assumption); (case k4 => omega); k_whole); intro _ _)
  k_with "call builtin:list.append" => (k_here; (with_reducible show wpAny _ _ (call (Value.builtin _) [Value.ref _, _]) _ _ _); k_dflt (refine' lst_append ?k1 ?k2 ?k3 ?k4 ?k5 ?k6 ?_; (case k1 => k_asm); (case k2 => k_asm); (case k3 => k_upd); (case k4 => with_reducible assumption); (case k5 => with_reducible assumption); (case k6 => omega); k_whole); intro _ _ _ _ _; (try k_sweep))
  k_with "call builtin:list.pop" => (k_here; (with_reducible show wpAny _ _ (call (Value.builtin _) [Value.ref _]) _ _ _); k_dflt (refine' lst_pop ?k1 ?k2 ?k3 ?k4 ?k5 ?k6 ?_; (case k1 => k_asm); (case k2 => k_asm); (case k3 => k_upd); (case k4 => with_reducible assumption); (case k5 => omega); (case k6 => omega); k_whole); intro _ _ _ _ _ _ _; (try k_sweep))
  k_with "truthy ref" => (k_here; k_dflt (refine' lst_truthy ?k1 ?k2 ?k3 ?k4 ?_; (case k1 => k_asm); (case k2 => k_mem); (case k3 => with_reducible assumption); (case k4 => omega); k_whole); intro _)
  k_with "call builtin:list.reverse" => (k_here; (with_reducible show wpAny _ _ (call (Value.builtin _) [Value.ref _]) _ _ _); k_dflt (refine' lst_reverse ?k1 ?k2 ?k3 ?k4 ?k5 ?_; (case k1 => k_asm); (case k2 => k_asm); (case k3 => k_upd); (case k4 => with_reducible assumption); (case k5 => omega); k_whole); intro _ _ _ _ _; (try k_sweep))
  k_with "call type:type" => ((with_reducible show wpAny _ _ (call _ [Value.bytes _ _]) _ _ _); refine call_type_of (Tx := "bytes") rfl (by decide +kernel) ?_)
  have hN7 : (N : Int).fdiv 7 = ((N / 7 : Nat) : Int) := by rw [Int.fdiv_eq_ediv_of_nonneg _ (by omega)]; omega
  k_with "binaryOp FloorDiv int int" => ((with_reducible refine fdiv256 ?hk ?_); (case hk => omega); intro _ _)
  k_steps
  rename Fr _ _ _ _ => F9
  rename News _ _ _ _ => N9
  rename IntsAre _ _ => hI9
  refine leaveF_new F9 N9 (.head _) fun kp hn hl => hq _ _ _ _ _ kp hn hl ⟨_, hI9, ?_, ?_⟩
  · have hm : (N : Int).fmod 7 = ((N % 7 : Nat) : Int) := by rw [Int.fmod_eq_emod_of_nonneg _ (by omega)]; omega
    rw [List.length_map, hm]
    simp only [rangeKs, List.length_map, List.length_range]
    omega
  · intro o ho
    obtain ⟨k, _, rfl⟩ := List.mem_map.mp ho
    exact ⟨Int.fmod_nonneg_of_pos _ (by decide), Int.fmod_lt_of_pos _ (by decide)⟩

end

-- part Told
section
/-- a place's figure, as _law_told reckons it -/
noncomputable def figOf (size bits place : Int) : Int :=
  if 4 * size ≤ 3 * place then (if place < (size + 2).fdiv 3 * 4 then 13 else 0)
  else if (bits.fdiv (64 ^ (7 - place).toNat)).fmod 64 < 52 then (bits.fdiv (64 ^ (7 - place).toNat)).fmod 64 + 14
  else if (bits.fdiv (64 ^ (7 - place).toNat)).fmod 64 < 62 then (bits.fdiv (64 ^ (7 - place).toNat)).fmod 64 - 49 else (bits.fdiv (64 ^ (7 - place).toNat)).fmod 64 - 61
noncomputable def padOf (os : List Int) : List Int := os ++ (List.replicate (6 - (os.length : Int)).toNat [0]).flatten
noncomputable def bitsOf (os : List Int) : Int := os.foldl (fun b o => b * 256 + o) 0
noncomputable def toldOf (os : List Int) : Int := ([0, 1, 2, 3, 4, 5, 6, 7] : List Int).foldl (fun a p => a * 66 + figOf os.length (bitsOf (padOf os)) p) 0

set_option maxHeartbeats 8000000 in
theorem told_call : ∀ {w : World} {A₀ A : Around} {s : Shared} {base h₀ : Heap} {outer : List Env} {L : Addr} {m mg mb : Str → Option Value} {env : Env} {mean : ExcName → Option Value}
    {l : Addr} {vs : List Value} {os : List Int} {n : Nat} {Q E : Value → Shared → Prop},
    Below A₀ base outer h₀ → Fr h₀ L s.heap m → (hd.heap_39 w.params).In h₀ → News h₀ L s.heap [(l, listOf vs.toArray n)] →
    Top hd.view_39 (looseW hd.view_39 [Str.ofString "b2a_base64", Str.ofString "b64encode"]) mean mg mb h₀ →
    A.frames = some (env :: outer) → env.frame = some L → env.scope.kind = .function → A.depth + 3 < recursionLimit → A.handled = none → A.units + 100 < cLine → IntsAre vs os → OctsOk os →
    (∀ h' tk' t', (∀ b o, b ≠ l → s.heap.get? b = some o → h'.get? b = some o) → h'.get? l = some (listOf vs.toArray n) → Q (.int (toldOf os) t') { s with heap := h', toks := tk' }) →
    wpAny (model PySem.Challenge.rw_mq0155_01.row.prog w) A (call (.ref 117) [.ref l]) Q E s := by
  w_top off
  k_fill
  intro w A₀ A s base h₀ outer L m mg mb env mean l vs os n Q E B F X N T hA hf hke hroom hnh hun hI hok hq
  obtain ⟨hh, dp, fr, gd, un⟩ := A
  dsimp only at hnh hA hroom hun
  subst hnh hA
  refine wpAny_call ?_
  k_dflt (refine' call_foot (sub := [(l, listOf vs.toArray n)]) (binds := [(Str.ofString "octets", .ref l)]) B F X N T rfl hf hke ?k6 ?k7 ?k8 ?k9 ?kB ?_ ?c2 ?c3 ?c4 ?c5; (case k6 => k_is); (case k7 => k_is); (case k8 => (dsimp only; omega)); (case k9 => exact BindsTo.of_eq rfl); (case c5 => decide); (case kB => exact locs rfl); (case c2 => exact rfl); (case c3 => exact rfl); (case c4 => exact rfl); k_whole)
  intro g L' h₁ F' N' B' X' T' hlt hkeep
  clear F N B X T
  try dsimp only
  try k_fold
  k_with_none
  k_with "subscriptTail" => (k_here; (with_reducible show wpAny _ _ (subscriptTail _ _ (Value.ref _) (Value.int _ _)) _ _ _); k_dflt (refine' lst_sub ?k1 ?k2 ?k3 ?k4 ?k5 ?k6 ?_ ?k7; (case k1 => k_asm); (case k2 => k_mem); (case k3 => with_reducible assumption); (case k4 => exact rfl); (case k5 => omega); (case k6 => omega); (case k7 => with_unfolding_all rfl); k_whole); intro _ _)
  k_with "setItem ref int" => (k_here; k_dflt (refine' lst_set ?k1 ?k2 ?ke ?k3 ?k4 ?kv ?k6 ?k7 ?_; (case ke => exact rfl); (case k1 => k_asm); (case k2 => k_asm); (case k3 => k_upd); (case k4 => with_reducible assumption); (case kv => with_reducible assumption); (case k6 => omega); (case k7 => omega); k_whole); intro _ _ _ _; (try k_sweep))
  k_with "compareOp Lt" => (k_here; k_dflt (refine' lt_use (by with_reducible assumption) ?k1 ?k2 ?_; (case k1 => with_reducible assumption); (case k2 => with_reducible assumption); k_whole))
  k_with "binaryOp Add int int" => (k_here; (with_reducible refine add1_nat ?_); intro _ _)
  k_with "binaryOp Mult int int" => (k_here; (with_reducible refine mul2_nat ?_); intro _ _)
  k_with "call builtin:len" => (k_here; (with_reducible show wpAny _ _ (call (Value.builtin "len") [Value.ref _]) _ _ _); k_dflt (refine' lst_len ?k1 ?k2 ?k3 ?k4 ?_; (case k1 => k_asm); (case k2 => k_mem); (case k3 => with_reducible assumption); (case k4 => omega); k_whole); intro _ _)
  k_with "call builtin:list.append" => (k_here; (with_reducible show wpAny _ _ (call (Value.builtin _) [Value.ref _, _]) _ _ _); k_dflt (refine' lst_append ?k1 ?k2 ?k3 ?k4 ?k5 ?k6 ?_; (case k1 => k_asm); (case k2 => k_asm); (case k3 => k_upd); (case k4 => with_reducible assumption); (case k5 => with_reducible assumption); (case k6 => omega); k_whole); intro _ _ _ _ _; (try k_sweep))
  k_with "call builtin:list.pop" => (k_here; (with_reducible show wpAny _ _ (call (Value.builtin _) [Value.ref _]) _ _ _); k_dflt (refine' lst_pop ?k1 ?k2 ?k3 ?k4 ?k5 ?k6 ?_; (case k1 => k_asm); (case k2 => k_asm); (case k3 => k_upd); (case k4 => with_reducible assumption); (case k5 => omega); (case k6 => omega); k_whole); intro _ _ _ _ _ _ _; (try k_sweep))
  k_with "truthy ref" => (k_here; k_dflt (refine' lst_truthy ?k1 ?k2 ?k3 ?k4 ?_; (case k1 => k_asm); (case k2 => k_mem); (case k3 => with_reducible assumption); (case k4 => omega); k_whole); intro _)
  k_with "call builtin:list.reverse" => (k_here; (with_reducible show wpAny _ _ (call (Value.builtin _) [Value.ref _]) _ _ _); k_dflt (refine' lst_reverse ?k1 ?k2 ?k3 ?k4 ?k5 ?_; (case k1 => k_asm); (case k2 => k_asm); (case k3 => k_upd); (case k4 => with_reducible assumption); (case k5 => omega); k_whole); intro _ _ _ _ _; (try k_sweep))
  k_with "call type:type" => ((with_reducible show wpAny _ _ (call _ [Value.bytes _ _]) _ _ _); refine call_type_of (Tx := "bytes") rfl (by decide +kernel) ?_)
  have hok1 := hok.1
  have hi := ints_all2 hI
  k_with "exec For Name BinOp cons nil" => ((rename Fr _ _ _ _ => lF'); (with_unfolding_all refine' For_invVF lF' ?k1 ?k2 ?_; (case k1 => exact rfl); (case k2 => exact rfl); k_whole))
  k_with "exec For Name Call cons nil" => ((rename Fr _ _ _ _ => lF'); (with_unfolding_all refine' For_invVF lF' ?k1 ?k2 ?_; (case k1 => exact rfl); (case k2 => exact rfl); k_whole))
  k_with "pyIter ref" => refine Hold.out ?_
  k_steps
  rename_i D ws h9 F9 N9 hI9 hl9
  refine Hold.mk ?_
  refine kst_listL (σ := Int × Tok) (l := D) (vs := ws) (nn := 0) (fun _ => [(D, listOf ws.toArray 0), (l, listOf vs.toArray n)]) (fun c => [(Str.ofString "bits", .int c.1 c.2)]) (fun _ => True) [] (fun pre c => c.1 = bitsOf pre) (0, _) rfl (fun _ => .head _) hI9 F9 (fun q hq => N9 q (by cases hq with | head => exact .head _ | tail _ h => cases h with | head => exact .tail _ (.tail _ (.tail _ (.tail _ (.head _)))) | tail _ h => cases h)) trivial (by intro q hq; cases hq with | head => rfl | tail _ h => cases h) rfl ?_ ?_
  · clear F9 N9
    rintro ⟨bits, tb⟩ pre post nn t u h tk own hns hmem hoff _ hP F N
    dsimp only [kstB] at F N hP hoff
    simp only [List.cons_append, List.nil_append] at N
    k_with "InvEndN" => refine Hold.out ?_
    k_steps
    rename Fr _ _ _ _ => F9
    rename News _ _ _ _ => N9
    refine Hold.mk ?_
    refine kst_end (_, _) F9 N9 (by first | kst_in | kst_inAny) (by first | (intro p hp; kst_mem) | kst_anyIn) (by rfl) trivial (by kst_all) (by kst_same) ?_
    dsimp only
    rw [hP]
    simp [bitsOf]
  · clear F9 N9
    rintro ⟨bits, tb⟩ u h tk _ hP F N
    dsimp only [kstB] at F N hP
    dsimp only
    k_steps
    rename IsRange _ _ _ _ _ _ _ _ => hrg
    rename Fr _ _ _ _ => F9
    rename News _ _ _ _ => N9
    refine Hold.mk ?_
    refine kst_range (σ := Int × Tok) (n := 8) (fun _ => [(l, listOf vs.toArray n)]) (fun c => [(Str.ofString "told", .int c.1 c.2)]) (fun _ => True) [Str.ofString "value", Str.ofString "figure"] (fun pre c => c.1 = pre.foldl (fun a p => a * 66 + figOf os.length bits p) 0) (0, _) rfl hrg (by decide) (by decide) F9 (news_one N9 (.tail _ (.head _))) trivial (by intro q hq; cases hq with | head => rfl | tail _ h => cases h) rfl ?_ ?_
    · clear F9 N9 hrg
      rintro ⟨told, tt⟩ pre k t u h tk own hk hlen hoff _ hP2 F N
      dsimp only [kstB] at F N hP2 hoff
      simp only [List.cons_append, List.nil_append] at N
      k_with "binaryOp FloorDiv int int" => ((with_reducible refine fdiv64 ?hk ?_); (case hk => omega); intro _ _)
      k_steps
      all_goals (
        rename Fr _ _ _ _ => F9
        rename News _ _ _ _ => N9
        refine Hold.mk ?_
        refine kst_end (_, _) F9 N9 (by first | kst_in | kst_inAny) (by first | (intro p hp; kst_mem) | kst_anyIn) (by rfl) trivial (by kst_all) (by kst_same) ?_
        clear F9 N9
        dsimp only
        rw [hP2, List.foldl_append]
        simp only [List.foldl_cons, List.foldl_nil]
        congr 1
        unfold figOf
        first
          | (rw [if_pos (by omega), if_pos (by omega)])
          | (rw [if_pos (by omega), if_neg (by omega)])
          | (rw [if_neg (by omega), if_pos (by omega)])
          | (rw [if_neg (by omega), if_neg (by omega), if_pos (by omega)])
          | (rw [if_neg (by omega), if_neg (by omega), if_neg (by omega)]))
    · clear F9 N9 hrg
      rintro ⟨told, tt⟩ u h tk _ hP2 F N
      dsimp only [kstB] at F N hP2
      dsimp only
      k_steps
      all_goals (try dsimp only)
      k_steps
      rename Fr _ _ _ _ => F9
      rename News _ _ _ _ => N9
      have e : told = toldOf os := by rw [hP2, hP]; rfl
      rw [e]
      exact leaveF1 F9 N9 fun kp hl => hq _ _ _ kp hl

end

-- part Tab
section
/-- the signs of a text, rising -/
noncomputable def signsL : List UInt8 := [43, 47, 48, 49, 50, 51, 52, 53, 54, 55, 56, 57, 61, 65, 66, 67, 68, 69, 70, 71, 72, 73, 74, 75, 76, 77, 78, 79, 80, 81, 82, 83, 84, 85, 86, 87, 88, 89, 90, 97, 98, 99, 100, 101, 102, 103, 104, 105, 106, 107, 108, 109, 110, 111, 112, 113, 114, 115, 116, 117, 118, 119, 120, 121, 122]
noncomputable def signAt (i : Nat) : Int := ((signsL.getD i 0).toNat : Int)
theorem signAt_inj {i j : Nat} (hi : i < 65) (hj : j < 65) (h : signAt i = signAt j) : i = j := by
  have key : ∀ i : Fin 65, ∀ j : Fin 65, signAt i = signAt j → i = j := by decide +kernel
  have := key ⟨i, hi⟩ ⟨j, hj⟩ h
  exact congrArg Fin.val this
/-- the table's pairs -/
def TabOk (kvs : List (Int × Value)) : Prop :=
  (∀ i, i < 65 → ∃ t, valueAt kvs (signAt i) = some (.int ((i : Int) + 1) t)) ∧ ∀ c, (∀ i, i < 65 → c ≠ signAt i) → valueAt kvs c = none

theorem valueAt_put {k c : Int} {y : Value} {kvs : List (Int × Value)} (hk : valueAt kvs k = none) : valueAt (stored kvs k y) c = if c = k then some y else valueAt kvs c := by
  rw [stored_absent hk]
  unfold valueAt at hk ⊢
  rw [List.find?_append]
  by_cases h : c = k
  · subst h
    rw [if_pos rfl]
    rw [Option.map_eq_none_iff] at hk
    rw [hk]
    simp
  · have h' : ¬ k = c := fun e => h e.symm
    rw [if_neg h]
    cases kvs.find? (fun kv => decide (kv.1 = c)) with
    | none => simp [h']
    | some z => simp

theorem stored_tab {l : List Value} {kvs : List (Int × Value)} (h : StoredAll (fun v k => ∃ i : Nat, ∃ t, v = .int (i : Int) t ∧ k = signAt i) (fun v y => ∃ i : Nat, ∃ t t', v = .int (i : Int) t ∧ y = .int ((i : Int) + 1) t') l kvs) :
    l.length ≤ 65 → (∀ (j : Nat) (v : Value), l[j]? = some v → ∃ t, v = Value.int (j : Int) t) →
      (∀ i, i < l.length → ∃ t, valueAt kvs (signAt i) = some (.int ((i : Int) + 1) t)) ∧ ∀ c, (∀ i, i < l.length → c ≠ signAt i) → valueAt kvs c = none := by
  induction h with
  | nil => intro _ _; exact ⟨fun i hi => absurd hi (Nat.not_lt_zero _), fun _ _ => rfl⟩
  | @snoc l kvs v k y _ hk hy ih =>
    intro hlen hl
    rw [List.length_append, List.length_singleton] at hlen
    obtain ⟨ih1, ih2⟩ := ih (by omega) fun j u hj => hl j u (by rw [List.getElem?_append_left (by obtain ⟨h, _⟩ := List.getElem?_eq_some_iff.mp hj; exact h)]; exact hj)
    obtain ⟨t₀, e₀⟩ := hl l.length v (by simp)
    obtain ⟨i, t, e1, rfl⟩ := hk
    obtain ⟨i', t', t2, e2, rfl⟩ := hy
    have hi : i = l.length := by rw [e₀] at e1; have := (Value.int.inj e1).1; omega
    have hi' : i' = l.length := by rw [e₀] at e2; have := (Value.int.inj e2).1; omega
    subst hi'
    subst hi
    have hno := ih2 (signAt l.length) fun j hj q => by have := signAt_inj (by omega) (by omega) q; omega
    refine ⟨fun j hj => ?_, fun c hc => ?_⟩
    · rw [List.length_append, List.length_singleton] at hj
      rw [valueAt_put hno]
      by_cases e : j = l.length
      · rw [e, if_pos rfl]; exact ⟨_, rfl⟩
      · rw [if_neg fun q => e (signAt_inj (by omega) (by omega) q)]
        exact ih1 j (by omega)
    · rw [valueAt_put hno, if_neg (hc l.length (by simp))]
      exact ih2 c fun j hj => hc j (by simp; omega)

theorem tab_end {g h h9 : Heap} {L D : Addr} {m : Str → Option Value} {io : Obj} (F : Fr g L h m) (hD : (h.push io).get? D = none) (hkp : ∀ b o, b ∉ [h.objs.size] → (h.push io).get? b = some o → h9.get? b = some o) (hs : ∃ mm, g.Ns sysModules mm) :
    Fr g L h9 m ∧ g.get? D = none ∧ D ≠ L ∧ (D == sysModules) = false := by
  have k : ∀ b o, h.get? b = some o → h9.get? b = some o := fun b o e => hkp b o (fun q => by have := Heap.lt_size e; rw [List.mem_singleton.mp q] at this; exact Nat.lt_irrefl _ this) (Heap.get?_push_of_some _ e)
  have no : ∀ o, h.get? D ≠ some o := fun o e => by rw [Heap.get?_push_of_some _ e] at hD; cases hD
  obtain ⟨⟨oL, es, ep, hL, r⟩, kp, ab⟩ := F
  refine ⟨⟨⟨oL, es, ep, k _ _ hL, r⟩, fun b o e => k b o (kp b o e), ab⟩, ?_, ?_, ?_⟩
  · cases e : g.get? D with
    | none => rfl
    | some o => exact absurd (kp _ _ e) (no o)
  · intro e; subst e; exact no _ hL
  · obtain ⟨mm, o, _, _, ho, _⟩ := hs
    refine beq_eq_false_iff_ne.mpr fun e => ?_
    subst e
    exact no _ (kp _ _ ho)

theorem sub_bytes {prog : Program} {w : World} {A : Around} {E : Value → Shared → Prop} {s : Shared} {value slice : PySem.Expr} {l : List UInt8} {i : Nat} {t u : Tok} {Q : Value → Shared → Prop} (hl : l.length < 1000) (hi : i < l.length)
    (h : ∀ t' tk', Q (.int ((l.getD i 0).toNat : Int) t') { s with toks := tk' })
    (hs : subscripted slice false (.bytes l.toArray t) (.int (i : Int) u) = operate [.bytes l.toArray t, .int (i : Int) u] (getItem (.bytes l.toArray t) (.int (i : Int) u)) := by with_unfolding_all rfl) :
    wpAny (model prog w) A (subscriptTail value slice (.bytes l.toArray t) (.int (i : Int) u)) Q E s :=
  tail_any (typeIs_bytes s _ t) FB.slot_bytes_getitem.lookup (getItem_bytes (by omega) (by omega) (by omega) (h _ _)) hs

set_option maxHeartbeats 4000000 in
theorem tab_call : ∀ {w : World} {A₀ A : Around} {s : Shared} {base h₀ : Heap} {outer : List Env} {L : Addr} {m mg mb : Str → Option Value} {env : Env} {mean : ExcName → Option Value}
    {Q E : Value → Shared → Prop},
    Below A₀ base outer h₀ → Fr h₀ L s.heap m → (hd.heap_39 w.params).In h₀ →
    Top hd.view_39 (looseW hd.view_39 [Str.ofString "b2a_base64", Str.ofString "b64encode"]) mean mg mb h₀ →
    A.frames = some (env :: outer) → env.frame = some L → env.scope.kind = .function → A.depth + 3 < recursionLimit → A.handled = none → A.units + 100 < cLine →
    (∀ (h' : Heap) (tk' : Nat) (l : Addr) (o : Obj) (kvs : List (Int × Value)), (∀ b o, s.heap.get? b = some o → h'.get? b = some o) → s.heap.get? l = none → h'.get? l = some o → (l == sysModules) = false →
      o.IsDictOf (intKind PySem.Challenge.rw_mq0155_01.row.prog w) kvs → TabOk kvs → Q (.ref l) { s with heap := h', toks := tk' }) →
    wpAny (model PySem.Challenge.rw_mq0155_01.row.prog w) A (call (.ref 105) []) Q E s := by
  w_top off
  k_fill
  intro w A₀ A s base h₀ outer L m mg mb env mean Q E B F X T hA hf hke hroom hnh hun hq
  obtain ⟨hh, dp, fr, gd, un⟩ := A
  dsimp only at hnh hA hroom hun
  subst hnh hA
  refine wpAny_call ?_
  k_dflt (refine' call_footC (sub := []) (binds := []) B F X News.nil T rfl hf hke ?k6 ?k7 ?k8 ?k9 ?kB ?kD ?_ ?c2 ?c3 ?c4; (case k6 => k_is); (case k7 => k_is); (case k8 => (dsimp only; omega)); (case k9 => exact BindsTo.of_eq rfl); (case kB => exact rfl); (case kD => decide +kernel); (case c2 => exact rfl); (case c3 => exact rfl); (case c4 => exact rfl); k_whole)
  intro g L' h₁ tk₁ cells F' N' Y' B' X' T' hlt hkeep
  k_cells Y'
  (try simp only [List.cons_append, List.nil_append] at N')
  clear F B X T
  try dsimp only
  try k_fold
  k_with_none
  k_with "subscriptTail" => (k_here; (with_reducible show wpAny _ _ (subscriptTail _ _ (Value.ref _) (Value.int _ _)) _ _ _); k_dflt (refine' lst_sub ?k1 ?k2 ?k3 ?k4 ?k5 ?k6 ?_ ?k7; (case k1 => k_asm); (case k2 => k_mem); (case k3 => with_reducible assumption); (case k4 => exact rfl); (case k5 => omega); (case k6 => omega); (case k7 => with_unfolding_all rfl); k_whole); intro _ _)
  k_with "setItem ref int" => (k_here; k_dflt (refine' lst_set ?k1 ?k2 ?ke ?k3 ?k4 ?kv ?k6 ?k7 ?_; (case ke => exact rfl); (case k1 => k_asm); (case k2 => k_asm); (case k3 => k_upd); (case k4 => with_reducible assumption); (case kv => with_reducible assumption); (case k6 => omega); (case k7 => omega); k_whole); intro _ _ _ _; (try k_sweep))
  k_with "compareOp Lt" => (k_here; k_dflt (refine' lt_use (by with_reducible assumption) ?k1 ?k2 ?_; (case k1 => with_reducible assumption); (case k2 => with_reducible assumption); k_whole))
  k_with "binaryOp Add int int" => (k_here; (with_reducible refine add1_nat ?_); intro _ _)
  k_with "binaryOp Mult int int" => (k_here; (with_reducible refine mul2_nat ?_); intro _ _)
  k_with "call builtin:len" => (k_here; (with_reducible show wpAny _ _ (call (Value.builtin "len") [Value.ref _]) _ _ _); k_dflt (refine' lst_len ?k1 ?k2 ?k3 ?k4 ?_; (case k1 => k_asm); (case k2 => k_mem); (case k3 => with_reducible assumption); (case k4 => omega); k_whole); intro _ _)
  k_with "call builtin:list.append" => (k_here; (with_reducible show wpAny _ _ (call (Value.builtin _) [Value.ref _, _]) _ _ _); k_dflt (refine' lst_append ?k1 ?k2 ?k3 ?k4 ?k5 ?k6 ?_; (case k1 => k_asm); (case k2 => k_asm); (case k3 => k_upd); (case k4 => with_reducible assumption); (case k5 => with_reducible assumption); (case k6 => omega); k_whole); intro _ _ _ _ _; (try k_sweep))
  k_with "call builtin:list.pop" => (k_here; (with_reducible show wpAny _ _ (call (Value.builtin _) [Value.ref _]) _ _ _); k_dflt (refine' lst_pop ?k1 ?k2 ?k3 ?k4 ?k5 ?k6 ?_; (case k1 => k_asm); (case k2 => k_asm); (case k3 => k_upd); (case k4 => with_reducible assumption); (case k5 => omega); (case k6 => omega); k_whole); intro _ _ _ _ _ _ _; (try k_sweep))
  k_with "truthy ref" => (k_here; k_dflt (refine' lst_truthy ?k1 ?k2 ?k3 ?k4 ?_; (case k1 => k_asm); (case k2 => k_mem); (case k3 => with_reducible assumption); (case k4 => omega); k_whole); intro _)
  k_with "call builtin:list.reverse" => (k_here; (with_reducible show wpAny _ _ (call (Value.builtin _) [Value.ref _]) _ _ _); k_dflt (refine' lst_reverse ?k1 ?k2 ?k3 ?k4 ?k5 ?_; (case k1 => k_asm); (case k2 => k_asm); (case k3 => k_upd); (case k4 => with_reducible assumption); (case k5 => omega); k_whole); intro _ _ _ _ _; (try k_sweep))
  k_with "call type:type" => ((with_reducible show wpAny _ _ (call _ [Value.bytes _ _]) _ _ _); refine call_type_of (Tx := "bytes") rfl (by decide +kernel) ?_)
  k_with "eval DictComp" => refine Hold.out ?_
  k_steps
  refine Hold.mk ?_
  rename_i d9
  rename Fr _ _ _ _ => F9
  rename News _ _ _ _ => N9
  with_unfolding_all refine wpAny_DictComp_free (intKind PySem.Challenge.rw_mq0155_01.row.prog w) (fun _ => true) (fun v k => ∃ i : Nat, ∃ t, v = .int (i : Int) t ∧ k = signAt i) (fun v y => ∃ i : Nat, ∃ t t', v = .int (i : Int) t ∧ y = .int ((i : Int) + 1) t') (cl := [(Str.ofString "signs", L' + 1)]) (by rfl) (by decide) (by rfl) (by decide) (by rfl) ?_ (by intro _; rfl)
  k_with "pyIter ref" => refine Hold.out ?_
  k_steps
  rename IsRange _ _ _ _ _ _ _ _ => hrg
  rename Fr _ _ _ _ => F9
  rename News _ _ _ _ => N9
  refine Hold.mk ?_
  refine wpAny_pyIter_range hrg (by decide) ?_
  dsimp only
  have fI := next_is_new F9
  have hbig : (2 : Nat) < _ := Nat.lt_of_lt_of_le (by obtain ⟨mc, ⟨_, _, _, h, _⟩, _⟩ := T'.nolimit; exact Heap.lt_size h) (Nat.le_trans F9.above (Nat.le_of_lt F9.ns.lt))
  refine ⟨_, [_], [_], 65, _, _, rfl, (Walks.range rfl _ 0 1 65).bound, by rw [PySem.sizeLine_eq]; omega, ?_, ?_, ?_, ?_⟩
  · show IsRangeIter _ _ _ _ _
    rw [show Builtin.Range.rangeSize 0 65 1 = 65 from by decide]
    exact Heap.get?_push_size _ rfl
  · intro b hb
    rw [List.mem_singleton.mp hb, Heap.size_push]
    exact Nat.lt_succ_self _
  · have hcell := N9 _ (.head _)
    refine ⟨fun C i v s₃ m₃ E' hP hn hm hk => wpAny_pure ⟨rfl, s₃.heap, s₃.toks, rfl, fun _ _ e => e⟩, fun C i v s₃ m₃ E' hP _ hn hm hk => ?_, fun C i v s₃ m₃ E' hP _ hn hm hk => ?_⟩
    · obtain ⟨hi, t, rfl⟩ := hP
      have e0 : (0 : Int) + (i : Int) * 1 = (i : Int) := by omega
      rw [e0] at hm ⊢
      refine Subscript_ (ldCellK (c := L' + 1) rfl ⟨_, hk _ _ (fun q => ?_) (Heap.get?_push_of_some _ hcell.1), d9⟩ (ldVarK hn hm ?_))
      · have := Heap.lt_size hcell.1
        rw [List.mem_singleton.mp q] at this
        exact Nat.lt_irrefl _ this
      · exact sub_bytes (l := signsL) (by decide) (by simpa [signsL] using hi) fun t' tk' => ⟨⟨signAt i, by simp [signAt, intKind, Value.isInt], i, _, rfl, rfl⟩, s₃.heap, tk', rfl, fun _ _ e => e⟩
    · obtain ⟨hi, t, rfl⟩ := hP
      have e0 : (0 : Int) + (i : Int) * 1 = (i : Int) := by omega
      rw [e0] at hm ⊢
      walk1
      refine ldVarK hn hm ?_
      walk1
      refine PyProof.Rows.add_int ?_
      exact ⟨⟨i, _, _, rfl, rfl⟩, _, _, rfl, fun _ _ e => e⟩
  · intro D h9 tk9 kvs vs hD hdict hlen hPs hst hkp
    obtain ⟨F8, hgD, hDL, hDs⟩ := tab_end F9 hD hkp (let ⟨mm, a, _⟩ := (T'.seer (by decide +kernel)).mods; ⟨mm, a⟩)
    obtain ⟨o, ho, hio⟩ := Heap.dictOf_iff.mp hdict
    have N8 : News g L' h9 [(D, o)] := fun q hq => by rw [List.mem_singleton.mp hq]; exact ⟨ho, hDL, hgD⟩
    have hf : List.filter (fun _ => true) vs = vs := List.filter_eq_self.mpr fun _ _ => rfl
    rw [hf] at hst
    have ht := stored_tab hst (by omega) fun j v hj => by
      obtain ⟨_, t, e⟩ := hPs j v hj
      refine ⟨t, ?_⟩
      rw [e]
      congr 1
      omega
    rw [hlen] at ht
    exact leaveF_new F8 N8 (.head _) fun kp hn hl => hq _ _ _ _ _ kp hn hl hDs hio ht

end

-- part Read
section
/-- a sign's figure by the table -/
noncomputable def figC (c : Int) : Int := match (List.range 65).find? (fun i => signAt i == c) with | some i => (i : Int) + 1 | none => 0
noncomputable def numC (cs : List Int) : Int := cs.foldl (fun a c => a * 66 + figC c) 0 * 66 ^ (8 - (cs.length : Int)).toNat
def TextOk (cs : List Int) : Prop := cs.length ≤ 8 ∧ ∀ c ∈ cs, ∃ i, i < 65 ∧ c = signAt i
theorem figC_at : ∀ {i : Nat}, i < 65 → figC (signAt i) = (i : Int) + 1 := by
  have key : ∀ i : Fin 65, figC (signAt i) = (i.val : Int) + 1 := by decide +kernel
  exact fun {i} hi => key ⟨i, hi⟩

section
variable {prog : Program} {w : World} {A : Around} {E : Value → Shared → Prop} {s : Shared} {h₀ : Heap} {L d : Addr} {m : Str → Option Value} {news : List (Addr × Obj)} {o : Obj} {kvs : List (Int × Value)} {t u : Tok}
theorem tab_dict (N : News h₀ L s.heap news) (hm : (d, o) ∈ news) (hio : o.IsDictOf (intKind prog w) kvs) : s.heap.DictOf (intKind prog w) d kvs := Heap.dictOf_iff.mpr ⟨o, (N _ hm).1, hio⟩
theorem tab_sub {value slice : PySem.Expr} {c : Int} {i : Nat} {Q : Value → Shared → Prop} (N : News h₀ L s.heap news) (hm : (d, o) ∈ news) (hio : o.IsDictOf (intKind prog w) kvs) (ht : TabOk kvs) (hi : i < 65) (hc : c = signAt i)
    (h : ∀ t' tk', Q (.int (figC c) t') { s with toks := tk' })
    (hs : subscripted slice false (.ref d) (.int c u) = operate [.ref d, .int c u] (getItem (.ref d) (.int c u)) := by with_unfolding_all rfl) :
    wpAny (model prog w) A (subscriptTail value slice (.ref d) (.int c u)) Q E s := by
  subst hc
  have hd := tab_dict N hm hio
  obtain ⟨t', ht'⟩ := ht.1 i hi
  refine tail_any hd.typeIs slot_dict_getitem.lookup (wpAny_getItem_of (knd := intKind prog w) (k := signAt i) (by simp [intKind, Value.isInt]) hd.mapOf ht' ?_) hs
  rw [← figC_at hi]
  exact h _ _
theorem tab_notin {c : Int} {i : Nat} {Q : Value → Shared → Prop} (hd : s.heap.DictOf (intKind prog w) d kvs) (hds : (d == sysModules) = false) (ht : TabOk kvs) (hi : i < 65) (hc : c = signAt i)
    (h : Q (.bool false) { s with toks := s.toks + 1 }) : wpAny (model prog w) A (compareOp .NotIn (.int c u) (.ref d)) Q E s := by
  subst hc
  obtain ⟨t', ht'⟩ := ht.1 i hi
  refine wpAny_notIn_of (knd := intKind prog w) (k := signAt i) (by simp [intKind, Value.isInt]) hds hd.mapOf ?_
  rw [ht']
  exact h
theorem pow66_bits {k : Nat} (hk : k ≤ 8) : Builtin.Int.intBits ((66 : Int) ^ k) ≤ 64 := by
  have h : k = 0 ∨ k = 1 ∨ k = 2 ∨ k = 3 ∨ k = 4 ∨ k = 5 ∨ k = 6 ∨ k = 7 ∨ k = 8 := by omega
  rcases h with e | e | e | e | e | e | e | e | e <;> rw [e] <;> decide +kernel
theorem mul66 {a k : Int} (hk : k ≤ 8) {Q : Value → Shared → Prop} (h : ∀ t' tk', Q (.int (a * 66 ^ k.toNat) t') { s with toks := tk' }) :
    wpAny (model prog w) A (binaryOp .Mult (.int a t) (.int (66 ^ k.toNat) u)) Q E s :=
  mul_int (h _ _) (IntMulOk.of_right (pow66_bits (by omega)))
end

set_option maxHeartbeats 8000000 in
theorem read_call : ∀ {w : World} {A₀ A : Around} {s : Shared} {base h₀ : Heap} {outer : List Env} {L : Addr} {m mg mb : Str → Option Value} {env : Env} {mean : ExcName → Option Value}
    {d : Addr} {o : Obj} {kvs : List (Int × Value)} {b : Array UInt8} {t : Tok} {Q E : Value → Shared → Prop},
    Below A₀ base outer h₀ → Fr h₀ L s.heap m → (hd.heap_39 w.params).In h₀ → News h₀ L s.heap [(d, o)] →
    Top hd.view_39 (looseW hd.view_39 [Str.ofString "b2a_base64", Str.ofString "b64encode"]) mean mg mb h₀ →
    A.frames = some (env :: outer) → env.frame = some L → env.scope.kind = .function → A.depth + 3 < recursionLimit → A.handled = none → A.units + 100 < cLine →
    (d == sysModules) = false → o.IsDictOf (intKind PySem.Challenge.rw_mq0155_01.row.prog w) kvs → TabOk kvs → TextOk (KBw.bInts b) →
    (∀ h' tk' t', (∀ a ob, a ≠ d → s.heap.get? a = some ob → h'.get? a = some ob) → h'.get? d = some o → Q (.int (numC (KBw.bInts b)) t') { s with heap := h', toks := tk' }) →
    wpAny (model PySem.Challenge.rw_mq0155_01.row.prog w) A (call (.ref 122) [.bytes b t, .ref d]) Q E s := by
  w_top off
  k_fill
  intro w A₀ A s base h₀ outer L m mg mb env mean d o kvs b t Q E B F X N T hA hf hke hroom hnh hun hds hio htab htx hq
  obtain ⟨hh, dp, fr, gd, un⟩ := A
  dsimp only at hnh hA hroom hun
  subst hnh hA
  have hb8 : b.size ≤ 8 := by rw [← KBw.ints_length]; exact htx.1
  refine wpAny_call ?_
  k_dflt (refine' call_footC (sub := [(d, o)]) (binds := [(Str.ofString "text", .bytes b t), (Str.ofString "table", .ref d)]) B F X N T rfl hf hke ?k6 ?k7 ?k8 ?k9 ?kB ?kD ?_ ?c2 ?c3 ?c4; (case k6 => k_is); (case k7 => k_is); (case k8 => (dsimp only; omega)); (case k9 => exact BindsTo.of_eq rfl); (case kB => exact rfl); (case kD => decide +kernel); (case c2 => exact rfl); (case c3 => exact rfl); (case c4 => exact rfl); k_whole)
  intro g L' h₁ tk₁ cells F' N' Y' B' X' T' hlt hkeep
  k_cells Y'
  (try simp only [List.cons_append, List.nil_append] at N')
  clear F B X T
  try dsimp only
  try k_fold
  k_with_none
  k_with "subscriptTail" => (k_here; (with_reducible show wpAny _ _ (subscriptTail _ _ (Value.ref _) (Value.int _ _)) _ _ _); k_dflt (refine' lst_sub ?k1 ?k2 ?k3 ?k4 ?k5 ?k6 ?_ ?k7; (case k1 => k_asm); (case k2 => k_mem); (case k3 => with_reducible assumption); (case k4 => exact rfl); (case k5 => omega); (case k6 => omega); (case k7 => with_unfolding_all rfl); k_whole); intro _ _)
  k_with "setItem ref int" => (k_here; k_dflt (refine' lst_set ?k1 ?k2 ?ke ?k3 ?k4 ?kv ?k6 ?k7 ?_; (case ke => exact rfl); (case k1 => k_asm); (case k2 => k_asm); (case k3 => k_upd); (case k4 => with_reducible assumption); (case kv => with_reducible assumption); (case k6 => omega); (case k7 => omega); k_whole); intro _ _ _ _; (try k_sweep))
  k_with "compareOp Lt" => (k_here; k_dflt (refine' lt_use (by with_reducible assumption) ?k1 ?k2 ?_; (case k1 => with_reducible assumption); (case k2 => with_reducible assumption); k_whole))
  k_with "binaryOp Add int int" => (k_here; (with_reducible refine add1_nat ?_); intro _ _)
  k_with "binaryOp Mult int int" => (k_here; (with_reducible refine mul2_nat ?_); intro _ _)
  k_with "call builtin:len" => (k_here; (with_reducible show wpAny _ _ (call (Value.builtin "len") [Value.ref _]) _ _ _); k_dflt (refine' lst_len ?k1 ?k2 ?k3 ?k4 ?_; (case k1 => k_asm); (case k2 => k_mem); (case k3 => with_reducible assumption); (case k4 => omega); k_whole); intro _ _)
  k_with "call builtin:list.append" => (k_here; (with_reducible show wpAny _ _ (call (Value.builtin _) [Value.ref _, _]) _ _ _); k_dflt (refine' lst_append ?k1 ?k2 ?k3 ?k4 ?k5 ?k6 ?_; (case k1 => k_asm); (case k2 => k_asm); (case k3 => k_upd); (case k4 => with_reducible assumption); (case k5 => with_reducible assumption); (case k6 => omega); k_whole); intro _ _ _ _ _; (try k_sweep))
  k_with "call builtin:list.pop" => (k_here; (with_reducible show wpAny _ _ (call (Value.builtin _) [Value.ref _]) _ _ _); k_dflt (refine' lst_pop ?k1 ?k2 ?k3 ?k4 ?k5 ?k6 ?_; (case k1 => k_asm); (case k2 => k_asm); (case k3 => k_upd); (case k4 => with_reducible assumption); (case k5 => omega); (case k6 => omega); k_whole); intro _ _ _ _ _ _ _; (try k_sweep))
  k_with "truthy ref" => (k_here; k_dflt (refine' lst_truthy ?k1 ?k2 ?k3 ?k4 ?_; (case k1 => k_asm); (case k2 => k_mem); (case k3 => with_reducible assumption); (case k4 => omega); k_whole); intro _)
  k_with "call builtin:list.reverse" => (k_here; (with_reducible show wpAny _ _ (call (Value.builtin _) [Value.ref _]) _ _ _); k_dflt (refine' lst_reverse ?k1 ?k2 ?k3 ?k4 ?k5 ?_; (case k1 => k_asm); (case k2 => k_asm); (case k3 => k_upd); (case k4 => with_reducible assumption); (case k5 => omega); k_whole); intro _ _ _ _ _; (try k_sweep))
  k_with "call type:type" => ((with_reducible show wpAny _ _ (call _ [Value.bytes _ _]) _ _ _); refine call_type_of (Tx := "bytes") rfl (by decide +kernel) ?_)
  k_with "eval ListComp" => refine Hold.out ?_
  k_steps
  rename_i cobj dcell
  refine Hold.mk ?_
  have hcell := N' _ (.head _)
  have hdat : cobj.data = .cell (some (.ref d)) := dcell
  with_unfolding_all refine wpAny_ListComp_free (fun _ => false) (fun _ _ => True) (cl := [(Str.ofString "table", L' + 1)]) (by rfl) (by decide) (by rfl) (by decide) (by rfl) ?_ (by intro _; rfl)
  k_with "pyIter bytes" => refine Hold.out ?_
  k_steps
  refine Hold.mk ?_
  refine KBw.pyIter_bytes ?_
  dsimp only
  refine ⟨_, [_], [_], b.size, _, _, rfl, KBw.walks rfl _ b t, by rw [PySem.sizeLine_eq]; omega, ?_, ?_, ?_, ?_⟩
  · exact ⟨_, Heap.get?_push_size _ rfl, rfl, rfl⟩
  · intro a ha
    rw [List.mem_singleton.mp ha, Heap.size_push]
    exact Nat.lt_succ_self _
  · refine ⟨fun C i v s₃ m₃ E' hC hP hn hm hk htk => ?_, fun C i v s₃ m₃ E' hC hP hp => absurd hp (by decide)⟩
    obtain ⟨c, u, hc, rfl⟩ := hP
    have up : ∀ a ob, h₁.get? a = some ob → s₃.heap.get? a = some ob := fun a ob e => hk a ob (fun q => by have := Heap.lt_size e; rw [List.mem_singleton.mp q] at this; exact Nat.lt_irrefl _ this) (Heap.get?_push_of_some _ e)
    obtain ⟨j, hj, hcj⟩ := htx.2 (c.toNat : Int) (by
      unfold KBw.bInts
      exact List.mem_map.mpr ⟨c, by rw [Array.mem_toList_iff]; exact Array.mem_of_getElem? hc, rfl⟩)
    refine wpAny_tests_one (wpAny_isTrue_Compare1 (ldVarK hn hm (ldCellK (c := L' + 1) (v := .ref d) rfl ⟨cobj, up _ _ hcell.1, hdat⟩ ?_)))
    refine tab_notin (Heap.dictOf_iff.mpr ⟨o, up _ _ (N' _ (.tail _ (.head _))).1, hio⟩) hds htab hj hcj ?_
    exact wpAny_truthy_bool ⟨rfl, _, _, rfl, fun _ _ e => e⟩
  · intro D h9 tk9 ys vs hD hl hpl hlen hPs hpair hkp
    have hnil : ys = #[] := by
      rw [List.filter_eq_nil_iff.mpr (by intro _ _ h; cases h)] at hpair
      cases ys with
      | mk l => cases hpair; rfl
    subst hnil
    obtain ⟨F8, hgD, hDL, hDs⟩ := tab_end F' hD hkp (let ⟨mm, a, _⟩ := (T'.seer (by decide +kernel)).mods; ⟨mm, a⟩)
    obtain ⟨nD, hDo⟩ := hpl
    have up : ∀ a ob, h₁.get? a = some ob → h9.get? a = some ob := fun a ob e => hkp a ob (fun q => by have := Heap.lt_size e; rw [List.mem_singleton.mp q] at this; exact Nat.lt_irrefl _ this) (Heap.get?_push_of_some _ e)
    have N8 : News g L' h9 [(D, listOf ([] : List Value).toArray nD), (L' + 1, cobj), (d, o)] := fun q hq => by
      rcases List.mem_cons.mp hq with rfl | hq
      · exact ⟨hDo, hDL, hgD⟩
      · exact ⟨up _ _ (N' q hq).1, (N' q hq).2⟩
    clear F' N' hkp hD
    k_with "compareOp NotEq ref ref" => (
      refine ne_intsK (News.isList (by k_asm) (List.Mem.tail _ (List.Mem.head _))) .nil (News.isList (by k_asm) (List.Mem.head _)) .nil (by rw [units_deeper]; dsimp only; omega) ?_)
    k_with "exec For Name Name cons nil" => ((rename Fr _ _ _ _ => lF'); (with_unfolding_all refine' For_invVF lF' ?k1 ?k2 ?_; (case k1 => exact rfl); (case k2 => exact rfl); k_whole))
    k_steps
    rename Fr _ _ _ _ => F9
    rename News _ _ _ _ => N9
    refine Hold.mk ?_
    refine KStb.kst_bytes (σ := Int × Tok) (ks := KBw.bInts b) (len := b.size) (fun _ => [(L' + 1, cobj), (d, o)]) (fun c => [(Str.ofString "told", .int c.1 c.2)]) (fun _ => True) [] (fun pre c => c.1 = pre.foldl (fun a c => a * 66 + figC c) 0) (0, _) rfl (KBw.ints_length b) rfl F9 (fun q hq => N9 q (.tail _ (.tail _ hq))) trivial (by intro q hq; cases hq with | head => rfl | tail _ h => cases h) rfl ?_ ?_
    · clear F9 N9
      rintro ⟨told, tt⟩ pre post n tn u h tk own hks hlen hn0 hn1 hoff _ hP F N
      dsimp only [kstB] at F N hP hoff
      simp only [List.cons_append, List.nil_append] at N
      obtain ⟨j, hj, hnj⟩ := htx.2 n (by rw [hks]; simp)
      k_with "subscriptTail Name Name ref int" => (
        refine tab_sub (by k_asm) (List.Mem.tail _ (List.Mem.head _)) hio htab hj hnj ?_
        intro _ _)
      k_with "InvEndN" => refine Hold.out ?_
      k_steps
      rename Fr _ _ _ _ => F9
      rename News _ _ _ _ => N9
      refine Hold.mk ?_
      refine kst_end (_, _) F9 N9 (by first | kst_in | kst_inAny) (by first | (intro p hp; kst_mem) | kst_anyIn) (by rfl) trivial (by kst_all) (by kst_same) ?_
      clear F9 N9
      dsimp only
      rw [hP, List.foldl_append]
      rfl
    · clear F9 N9
      rintro ⟨told, tt⟩ u h tk hlen2 _ hP F N
      dsimp only [kstB] at F N hP
      dsimp only
      k_with "binaryOp Mult int int" => ((with_reducible refine mul66 ?hk ?_); (case hk => omega); intro _ _)
      k_steps
      all_goals (try dsimp only)
      k_steps
      have e : told * 66 ^ (8 - (b.size : Int)).toNat = numC (KBw.bInts b) := by
        unfold numC
        rw [hP, KBw.ints_length]
      rw [e]
      exact leaveF1 F (news_one N (.tail _ (.head _))) fun kp hl => hq _ _ _ kp hl

end

-- part HeapLaw
section
theorem getD_set {ks : List Int} {i j : Nat} {x : Int} (hi : i < ks.length) : (ks.set i x).getD j 0 = if j = i then x else ks.getD j 0 := by
  by_cases h : j = i
  · subst h
    rw [if_pos rfl]
    simp [hi]
  · rw [if_neg h]
    simp only [List.getD_eq_getElem?_getD]
    rw [List.getElem?_set_ne (fun e => h e.symm)]
theorem getD_get {ks : List Int} {i : Nat} (hi : i < ks.length) : ks.getD i 0 = ks[i] := by simp [hi]

theorem getD_left {l r : List Int} {k : Nat} (hk : k < l.length) : (l ++ r).getD k 0 = l.getD k 0 := by
  simp only [List.getD_eq_getElem?_getD, List.getElem?_append_left hk]

/-- the hole goes from p to c -/
theorem hole_move {ks : List Int} {p c : Nat} (x : Int) (hp : p < ks.length) (hc : c < ks.length) (hne : p ≠ c) : ((ks.set p (ks.getD c 0)).set c x).Perm (ks.set p x) := by
  rw [List.perm_iff_count]
  intro b
  have hc' : c < (ks.set p (ks.getD c 0)).length := by rw [List.length_set]; exact hc
  rw [List.count_set hc', List.count_set hp, List.count_set hp]
  have e : (ks.set p (ks.getD c 0))[c] = ks.getD c 0 := by rw [List.getElem_set_ne hne]; exact (getD_get hc).symm
  rw [e]
  omega
theorem sdLoop_perm (ks : List Int) (x : Int) (st p : Nat) : p < ks.length → (sdLoop ks x st p).Perm (ks.set p x) := by
  fun_induction sdLoop ks x st p with
  | case1 ks p h1 h2 ih =>
    intro hp
    exact (ih (by rw [List.length_set]; omega)).trans (hole_move x hp (by omega) (by omega))
  | case2 => intro _; exact .refl _
  | case3 => intro _; exact .refl _
theorem suLoop_lt (ks : List Int) (p : Nat) : p < ks.length → (suLoop ks p).2 < ks.length := by
  fun_induction suLoop ks p with
  | case1 ks p h1 ih =>
    intro hp
    have := ih (by rw [List.length_set]; exact suChild_lt h1)
    rwa [List.length_set] at this
  | case2 => exact id
theorem suLoop_perm (x : Int) (ks : List Int) (p : Nat) : p < ks.length → ((suLoop ks p).1.set (suLoop ks p).2 x).Perm (ks.set p x) := by
  fun_induction suLoop ks p with
  | case1 ks p h1 ih =>
    intro hp
    exact (ih (by rw [List.length_set]; exact suChild_lt h1)).trans (hole_move x hp (suChild_lt h1) (Nat.ne_of_lt (suChild_gt ks p)))
  | case2 => intro _; exact .refl _
theorem set_self {ks : List Int} {p : Nat} (hp : p < ks.length) : ks.set p (ks.getD p 0) = ks := by
  rw [getD_get hp]; exact List.set_getElem_self hp
theorem sd_perm {ks : List Int} {st p : Nat} (hp : p < ks.length) : (sd ks st p).Perm ks := by
  have := sdLoop_perm ks (ks.getD p 0) st p hp
  rwa [set_self hp] at this
theorem su_perm {ks : List Int} {p : Nat} (hp : p < ks.length) : (su ks p).Perm ks := by
  unfold su
  refine (sd_perm (by rw [List.length_set, suLoop_length]; exact suLoop_lt ks p hp)).trans ?_
  have := suLoop_perm (ks.getD p 0) ks p hp
  rwa [set_self hp] at this

/-- in the part whose tops are st and behind it no item is less than the one over it, but perhaps about the hole -/
def EdgesOff (st hole : Nat) (ks : List Int) : Prop := ∀ k, 1 ≤ k → k < ks.length → st ≤ (k - 1) / 2 → k ≠ hole → (k - 1) / 2 ≠ hole → ks.getD ((k - 1) / 2) 0 ≤ ks.getD k 0
def HeapFrom (st : Nat) (ks : List Int) : Prop := ∀ k, 1 ≤ k → k < ks.length → st ≤ (k - 1) / 2 → ks.getD ((k - 1) / 2) 0 ≤ ks.getD k 0
def HeapOk (ks : List Int) : Prop := ∀ k, 1 ≤ k → k < ks.length → ks.getD ((k - 1) / 2) 0 ≤ ks.getD k 0
inductive Desc (st : Nat) : Nat → Prop
  | refl : Desc st st
  | step {c : Nat} : 1 ≤ c → Desc st ((c - 1) / 2) → Desc st c
theorem Desc.le {st p : Nat} (h : Desc st p) : st ≤ p := by
  induction h with
  | refl => exact Nat.le_refl _
  | step h1 _ ih => omega
theorem Desc.up {st p : Nat} (h : Desc st p) (hlt : st < p) : Desc st ((p - 1) / 2) := by
  cases h with
  | refl => omega
  | step _ h => exact h
theorem desc0 : ∀ p, Desc 0 p := by
  intro p
  induction p using Nat.strongRecOn with
  | ind p ih =>
    by_cases h : p = 0
    · subst h; exact .refl
    · exact .step (by omega) (ih _ (by omega))

theorem sdLoop_heap (ks : List Int) (x : Int) (st p : Nat) : p < ks.length → Desc st p → EdgesOff st p ks →
    (∀ c, 1 ≤ c → c < ks.length → (c - 1) / 2 = p → x ≤ ks.getD c 0) → (st < p → ∀ c, 1 ≤ c → c < ks.length → (c - 1) / 2 = p → ks.getD ((p - 1) / 2) 0 ≤ ks.getD c 0) → HeapFrom st (sdLoop ks x st p) := by
  fun_induction sdLoop ks x st p with
  | case1 ks p h1 h2 ih =>
    intro hp hd ha hb hc
    have hpp : (p - 1) / 2 < p := by omega
    have hl := hd.up h1
    have hle := hl.le
    refine ih (by rw [List.length_set]; omega) hl ?_ ?_ ?_
    · intro k k1 k2 k3 k4 k5
      rw [List.length_set] at k2
      rw [getD_set hp, getD_set hp]
      by_cases e : k = p
      · exact absurd (by rw [e]) k5
      · rw [if_neg e]
        by_cases e2 : (k - 1) / 2 = p
        · rw [if_pos e2]; exact hc h1 k k1 k2 e2
        · rw [if_neg e2]; exact ha k k1 k2 k3 e e2
    · intro c c1 c2 c3
      rw [List.length_set] at c2
      rw [getD_set hp]
      by_cases e : c = p
      · rw [if_pos e]; omega
      · rw [if_neg e]
        have := ha c c1 c2 (by omega) e (by omega)
        rw [c3] at this
        omega
    · intro hlt c c1 c2 c3
      rw [List.length_set] at c2
      rw [getD_set hp, getD_set hp]
      have h3 := ha ((p - 1) / 2) (by omega) (by omega) (hl.up hlt).le (by omega) (by omega)
      rw [if_neg (show ¬ ((p - 1) / 2 - 1) / 2 = p by omega)]
      by_cases e : c = p
      · rw [if_pos e]; exact h3
      · rw [if_neg e]
        have := ha c c1 c2 (by omega) e (by omega)
        rw [c3] at this
        omega
  | case2 ks p h1 h2 =>
    intro hp hd ha hb _ k k1 k2 k3
    rw [List.length_set] at k2
    rw [getD_set hp, getD_set hp]
    by_cases e : k = p
    · subst e
      rw [if_neg (show ¬ (k - 1) / 2 = k by omega), if_pos rfl]
      omega
    · rw [if_neg e]
      by_cases e2 : (k - 1) / 2 = p
      · rw [if_pos e2]; exact hb k k1 k2 e2
      · rw [if_neg e2]; exact ha k k1 k2 k3 e e2
  | case3 ks p h1 =>
    intro hp hd ha hb _ k k1 k2 k3
    rw [List.length_set] at k2
    rw [getD_set hp, getD_set hp]
    by_cases e : k = p
    · exfalso; omega
    · rw [if_neg e]
      by_cases e2 : (k - 1) / 2 = p
      · rw [if_pos e2]; exact hb k k1 k2 e2
      · rw [if_neg e2]; exact ha k k1 k2 k3 e e2

theorem suChild_par (ks : List Int) (p : Nat) : (suChild ks p - 1) / 2 = p := by unfold suChild; split <;> omega
theorem suChild_min {ks : List Int} {p c : Nat} (hc1 : 1 ≤ c) (hc : c < ks.length) (hp : (c - 1) / 2 = p) : ks.getD (suChild ks p) 0 ≤ ks.getD c 0 := by
  have hcc : c = 2 * p + 1 ∨ c = 2 * p + 1 + 1 := by omega
  unfold suChild
  split
  · rename_i h
    rcases hcc with e | e <;> rw [e] <;> omega
  · rename_i h
    rcases hcc with e | e
    · rw [e]; exact Int.le_refl _
    · rw [e]
      rw [e] at hc
      have : ks.getD (2 * p + 1) 0 < ks.getD (2 * p + 1 + 1) 0 := Decidable.byContradiction fun q => h ⟨hc, q⟩
      omega

theorem suLoop_edges (st : Nat) (ks : List Int) (p : Nat) : p < ks.length → Desc st p → EdgesOff st p ks → (st < p → ∀ c, 1 ≤ c → c < ks.length → (c - 1) / 2 = p → ks.getD ((p - 1) / 2) 0 ≤ ks.getD c 0) →
    Desc st (suLoop ks p).2 ∧ EdgesOff st (suLoop ks p).2 (suLoop ks p).1 ∧ ¬ 2 * (suLoop ks p).2 + 1 < ks.length := by
  fun_induction suLoop ks p with
  | case1 ks p h1 ih =>
    intro hp hd ha hb
    have hgt := suChild_gt ks p
    have hlt := suChild_lt h1
    have hpar := suChild_par ks p
    have := ih (by rw [List.length_set]; exact hlt) (.step (by omega) (by rw [hpar]; exact hd)) ?_ ?_
    · rwa [List.length_set] at this
    · intro k k1 k2 k3 k4 k5
      rw [List.length_set] at k2
      rw [getD_set hp, getD_set hp]
      by_cases e : k = p
      · subst e
        rw [if_neg (show ¬ (k - 1) / 2 = k by omega), if_pos rfl]
        exact hb (by omega) _ (by omega) hlt hpar
      · rw [if_neg e]
        by_cases e2 : (k - 1) / 2 = p
        · rw [if_pos e2]; exact suChild_min k1 k2 e2
        · rw [if_neg e2]; exact ha k k1 k2 k3 e e2
    · intro _ c c1 c2 c3
      rw [List.length_set] at c2
      rw [getD_set hp, getD_set hp, hpar, if_pos rfl, if_neg (by omega)]
      have := ha c c1 c2 (by have := hd.le; omega) (by omega) (by omega)
      rwa [c3] at this
  | case2 ks p h1 => intro hp hd ha _; exact ⟨hd, ha, h1⟩

theorem su_heap {ks : List Int} {p : Nat} (hp : p < ks.length) (h : HeapFrom (p + 1) ks) : HeapFrom p (su ks p) := by
  obtain ⟨hd, he, hleaf⟩ := suLoop_edges p ks p hp .refl (fun k k1 k2 k3 _ k5 => h k k1 k2 (by omega)) (fun q => absurd q (Nat.lt_irrefl _))
  have hq := suLoop_lt ks p hp
  have hlen := suLoop_length ks p
  unfold su sd
  have hx : ((suLoop ks p).1.set (suLoop ks p).2 (ks.getD p 0)).getD (suLoop ks p).2 0 = ks.getD p 0 := by rw [getD_set (by omega), if_pos rfl]
  rw [hx]
  have hno : ∀ c, 1 ≤ c → c < ((suLoop ks p).1.set (suLoop ks p).2 (ks.getD p 0)).length → (c - 1) / 2 = (suLoop ks p).2 → False := fun c c1 c2 c3 => by
    rw [List.length_set, hlen] at c2
    omega
  refine sdLoop_heap _ _ _ _ (by rw [List.length_set]; omega) hd ?_ (fun c c1 c2 c3 => (hno c c1 c2 c3).elim) (fun _ c c1 c2 c3 => (hno c c1 c2 c3).elim)
  intro k k1 k2 k3 k4 k5
  rw [List.length_set] at k2
  rw [getD_set (by omega), getD_set (by omega), if_neg k4, if_neg k5]
  exact he k k1 k2 k3 k4 k5

theorem heap0 {ks : List Int} : HeapFrom 0 ks ↔ HeapOk ks := ⟨fun h k k1 k2 => h k k1 k2 (Nat.zero_le _), fun h k k1 k2 _ => h k k1 k2⟩
theorem root_least {ks : List Int} (h : HeapOk ks) : ∀ k, k < ks.length → ks.getD 0 0 ≤ ks.getD k 0 := by
  intro k
  induction k using Nat.strongRecOn with
  | ind k ih =>
    intro hk
    by_cases e : k = 0
    · subst e; exact Int.le_refl _
    · have h1 := ih ((k - 1) / 2) (by omega) (by omega)
      have h2 := h k (by omega) hk
      omega
theorem hifyN_heap : ∀ (i : Nat) (ks : List Int), i ≤ ks.length → HeapFrom i ks → HeapOk (hifyN ks i) ∧ (hifyN ks i).Perm ks
  | 0, ks, _, h => ⟨heap0.mp h, .refl _⟩
  | i + 1, ks, hi, h => by
    obtain ⟨a, b⟩ := hifyN_heap i (su ks i) (by rw [su_length]; omega) (su_heap (by omega) h)
    exact ⟨a, b.trans (su_perm (by omega))⟩
theorem hify_ok (ks : List Int) : HeapOk (hify ks) ∧ (hify ks).Perm ks :=
  hifyN_heap _ _ (by omega) (fun k k1 k2 k3 => by omega)

/-- what a call of heapq's makes of a heap: a heap again; the items, what came and what went -/
theorem hpush_ok {ks : List Int} (x : Int) (h : HeapOk ks) : HeapOk (hpush ks x) ∧ (hpush ks x).Perm (ks ++ [x]) := by
  have hl : (ks ++ [x]).length = ks.length + 1 := by simp
  have hx : (ks ++ [x]).getD ks.length 0 = x := by simp
  have hlt : ∀ k, k < ks.length → (ks ++ [x]).getD k 0 = ks.getD k 0 := fun k hk => getD_left hk
  refine ⟨heap0.mp ?_, sd_perm (by omega)⟩
  unfold hpush sd
  rw [hx]
  refine sdLoop_heap _ _ _ _ (by omega) (desc0 _) (fun k k1 k2 _ k4 _ => ?_) (fun c c1 c2 c3 => by omega) (fun _ c c1 c2 c3 => by omega)
  rw [hlt _ (by omega), hlt _ (by omega)]
  exact h k k1 (by omega)
theorem heap_set0 {ks : List Int} (h : HeapOk ks) (x : Int) (hl : 0 < ks.length) : HeapFrom 1 (ks.set 0 x) := fun k k1 k2 k3 => by
  rw [List.length_set] at k2
  rw [getD_set hl, getD_set hl, if_neg (by omega), if_neg (by omega)]
  exact h k k1 k2
theorem set0_perm {ks : List Int} (x : Int) (hl : 0 < ks.length) : (ks.getD 0 0 :: ks.set 0 x).Perm (x :: ks) := by
  cases ks with
  | nil => exact absurd hl (Nat.lt_irrefl _)
  | cons a r => exact .swap _ _ _
theorem hreplace_ok {ks : List Int} (x : Int) (h : HeapOk ks) (hl : 0 < ks.length) : HeapOk (hreplace ks x).2 ∧ ((hreplace ks x).1 :: (hreplace ks x).2).Perm (x :: ks) :=
  ⟨heap0.mp (su_heap (by rw [List.length_set]; exact hl) (heap_set0 h x hl)), ((su_perm (by rw [List.length_set]; exact hl)).cons _).trans (set0_perm x hl)⟩
theorem dropLast_last {ks : List Int} (hl : 0 < ks.length) : ks.dropLast ++ [ks.getLastD 0] = ks := by
  have hne : ks ≠ [] := List.length_pos_iff.mp hl
  have e : ks.getLastD 0 = ks.getLast hne := by rw [List.getLastD_eq_getLast?, List.getLast?_eq_some_getLast hne]; rfl
  rw [e]; exact List.dropLast_concat_getLast hne
theorem hpop_ok {ks : List Int} (h : HeapOk ks) (hl : 0 < ks.length) : HeapOk (hpop ks).2 ∧ ((hpop ks).1 :: (hpop ks).2).Perm ks := by
  have hd := dropLast_last hl
  have hlen : ks.dropLast.length = ks.length - 1 := by simp
  have hdh : HeapOk ks.dropLast := fun k k1 k2 => by
    have e : ∀ j, j < ks.dropLast.length → ks.dropLast.getD j 0 = ks.getD j 0 := fun j hj => by
      conv => rhs; rw [← hd]
      exact (getD_left hj).symm
    rw [e _ (by omega), e _ k2]
    exact h k k1 (by omega)
  unfold hpop
  split
  · rename_i h0
    refine ⟨heap0.mp (su_heap (by rw [List.length_set]; exact h0) (heap_set0 hdh _ h0)), ?_⟩
    refine ((su_perm (by rw [List.length_set]; exact h0)).cons _).trans ((set0_perm _ h0).trans ?_)
    conv => rhs; rw [← hd]
    exact (List.perm_append_singleton _ _).symm
  · refine ⟨hdh, ?_⟩
    conv => rhs; rw [← hd]
    exact (List.perm_append_singleton _ _).symm
theorem hpushpop_ok {ks : List Int} (x : Int) (h : HeapOk ks) : HeapOk (hpushpop ks x).2 ∧ ((hpushpop ks x).1 :: (hpushpop ks x).2).Perm (x :: ks) := by
  unfold hpushpop
  split
  · rename_i h0
    exact ⟨heap0.mp (su_heap (by rw [List.length_set]; exact h0.1) (heap_set0 h x h0.1)), ((su_perm (by rw [List.length_set]; exact h0.1)).cons _).trans (set0_perm x h0.1)⟩
  · exact ⟨h, .refl _⟩

theorem heap_least {ks : List Int} (h : HeapOk ks) : ∀ a ∈ ks, ks.getD 0 0 ≤ a := fun a ha => by
  obtain ⟨i, hi, rfl⟩ := List.getElem_of_mem ha
  have := root_least h i hi
  rwa [getD_get hi] at this
theorem least_mem {ks : List Int} (hl : 0 < ks.length) : ks.getD 0 0 ∈ ks := by rw [getD_get hl]; exact List.getElem_mem hl
/-- the least of a row is one number -/
theorem least_one {l : List Int} {a b : Int} (ha : a ∈ l) (hb : b ∈ l) (ha' : ∀ x ∈ l, a ≤ x) (hb' : ∀ x ∈ l, b ≤ x) : a = b := by
  have := ha' b hb
  have := hb' a ha
  omega

/-- the answer of the heap's call is what is due, and the heap holds what is due -/
theorem step_due {c : Nat} {ks ps : List Int} {x : Int} {a : Ans} {ps' : List Int} (hh : HeapOk ks) (hp : ks.Perm ps) (hd : DueIs ps x c a ps') :
    stepA c ks x = a ∧ HeapOk (stepL c ks x) ∧ (stepL c ks x).Perm ps' := by
  have hlen := hp.length_eq
  cases hd with
  | turn =>
    obtain ⟨h1, h2⟩ := hify_ok ks.reverse
    exact ⟨rfl, h1, h2.trans ((List.reverse_perm ks).trans hp)⟩
  | none2 h =>
    subst h
    have e : ks = [] := List.eq_nil_of_length_eq_zero hlen
    subst e
    exact ⟨rfl, hh, hp⟩
  | none3 h =>
    subst h
    have e : ks = [] := List.eq_nil_of_length_eq_zero hlen
    subst e
    exact ⟨rfl, hh, hp⟩
  | push0 =>
    obtain ⟨h1, h2⟩ := hpush_ok x hh
    exact ⟨rfl, h1, h2.trans (hp.append_right _)⟩
  | push1 =>
    obtain ⟨h1, h2⟩ := hpush_ok x hh
    exact ⟨rfl, h1, h2.trans (hp.append_right _)⟩
  | @pop M h hle =>
    have hl : 0 < ks.length := by rw [hlen]; exact List.length_pos_of_mem h
    obtain ⟨h1, h2⟩ := hpop_ok hh hl
    have hroot : (hpop ks).1 = ks.getD 0 0 := by
      unfold hpop
      have hd := dropLast_last hl
      split
      · rename_i h0
        conv => rhs; rw [← hd]
        exact (getD_left h0).symm
      · rename_i h0
        conv => rhs; rw [← hd]
        have : ks.dropLast = [] := List.eq_nil_of_length_eq_zero (by omega)
        rw [this]; rfl
    have hM : (hpop ks).1 = M := by
      rw [hroot]
      exact least_one (hp.mem_iff.mp (least_mem hl)) h (fun y hy => heap_least hh y (hp.mem_iff.mpr hy)) hle
    refine ⟨?_, ?_, ?_⟩
    · show (if 0 < ks.length then Ans.key (hpop ks).1 else .refused) = _
      rw [if_pos hl, hM]
    · show HeapOk (if 0 < ks.length then (hpop ks).2 else ks)
      rw [if_pos hl]; exact h1
    · show (if 0 < ks.length then (hpop ks).2 else ks).Perm _
      rw [if_pos hl]
      have := (h2.trans hp).erase M
      rw [hM, List.erase_cons_head] at this
      exact this
  | @rep M h hle =>
    have hl : 0 < ks.length := by rw [hlen]; exact List.length_pos_of_mem h
    obtain ⟨h1, h2⟩ := hreplace_ok x hh hl
    have hM : (hreplace ks x).1 = M := least_one (hp.mem_iff.mp (least_mem hl)) h (fun y hy => heap_least hh y (hp.mem_iff.mpr hy)) hle
    refine ⟨?_, ?_, ?_⟩
    · show (if 0 < ks.length then Ans.key (hreplace ks x).1 else .refused) = _
      rw [if_pos hl, hM]
    · show HeapOk (if 0 < ks.length then (hreplace ks x).2 else ks)
      rw [if_pos hl]; exact h1
    · show (if 0 < ks.length then (hreplace ks x).2 else ks).Perm _
      rw [if_pos hl]
      have h3 : (M :: (hreplace ks x).2).Perm (M :: (ps.erase M ++ [x])) := by
        rw [← hM]
        refine h2.trans ?_
        rw [hM]
        refine (hp.cons x).trans ?_
        refine ((List.perm_cons_erase h).cons x).trans ?_
        refine (List.Perm.swap M x _).trans (List.Perm.cons M ?_)
        exact (List.perm_append_singleton _ _).symm
      exact h3.cons_inv
  | @pushpop M h hle =>
    obtain ⟨h1, h2⟩ := hpushpop_ok x hh
    have hx : (x :: ks).Perm (ps ++ [x]) := (hp.cons x).trans (List.perm_append_singleton _ _).symm
    have hin : ∀ y ∈ ps ++ [x], (hpushpop ks x).1 ≤ y := by
      intro y hy
      have hy' := hx.mem_iff.mpr hy
      unfold hpushpop
      split
      · rename_i h0
        rcases List.mem_cons.mp hy' with e | e
        · rw [e]; dsimp only; omega
        · exact heap_least hh y e
      · rename_i h0
        rcases List.mem_cons.mp hy' with e | e
        · rw [e]; exact Int.le_refl _
        · have h3 := heap_least hh y e
          have h4 : 0 < ks.length := List.length_pos_of_mem e
          have h5 : ¬ ks.getD 0 0 < x := fun q => h0 ⟨h4, q⟩
          dsimp only
          omega
    have hmem : (hpushpop ks x).1 ∈ ps ++ [x] := hx.mem_iff.mp (h2.mem_iff.mp (.head _))
    have hM : (hpushpop ks x).1 = M := least_one hmem h hin hle
    refine ⟨?_, h1, ?_⟩
    · show Ans.key (hpushpop ks x).1 = _
      rw [hM]
    · show (hpushpop ks x).2.Perm _
      have := (h2.trans hx).erase M
      rw [hM, List.erase_cons_head] at this
      exact this

end

-- part B2aRules
section
theorem and256 (n c : Nat) (hc : c < 256) : (2 ^ 8 * n) &&& c = 0 := by
  apply Nat.eq_of_testBit_eq
  intro i
  rw [Nat.testBit_and, Nat.zero_testBit, Nat.testBit_two_pow_mul]
  by_cases h : 8 ≤ i
  · have : c.testBit i = false := Nat.testBit_lt_two_pow (Nat.lt_of_lt_of_le (show c < 2 ^ 8 from hc) (Nat.pow_le_pow_right (n := 2) (by decide) h))
    rw [this, Bool.and_false]
  · simp [h]
theorem bor256 {x b : Int} (hx : 0 ≤ x) (hb0 : 0 ≤ b) (hb : b < 256) : Builtin.bitOr (x * 256) b = x * 256 + b := by
  obtain ⟨n, rfl⟩ := Int.eq_ofNat_of_zero_le hx
  obtain ⟨c, rfl⟩ := Int.eq_ofNat_of_zero_le hb0
  have e : ((n : Int) * 256) = ((2 ^ 8 * n : Nat) : Int) := by omega
  rw [e, bitOr_and]
  have h : Builtin.bitAnd ((2 ^ 8 * n : Nat) : Int) (c : Int) = ((2 ^ 8 * n &&& c : Nat) : Int) := by
    unfold Builtin.bitAnd
    rw [decide_eq_true (by omega), decide_eq_true (by omega)]
    simp only [Int.toNat_natCast]
  rw [h, and256 n c (by omega)]
  omega

section
variable {prog : Program} {w : World} {A : Around} {E : Value → Shared → Prop} {s : Shared} {t u : Tok} {Q : Value → Shared → Prop}
theorem shl8 {x : Int} (hx : 0 ≤ x) (hx2 : x < 65536) (h : ∀ t' tk', Q (.int (x * 256) t') { s with toks := tk' }) : wpAny (model prog w) A (binaryOp .LShift (.int x t) (.int 8 u)) Q E s :=
  lshift_int_small (by omega) (by omega) (by omega) (h _ _)
theorem or8 {x b : Int} (hx : 0 ≤ x) (hb0 : 0 ≤ b) (hb : b < 256) (h : ∀ t' tk', Q (.int (x * 256 + b) t') { s with toks := tk' }) : wpAny (model prog w) A (binaryOp .BitOr (.int (x * 256) t) (.int b u)) Q E s :=
  or_int (by rw [bor256 hx hb0 hb]; exact h _ _)
theorem and16 {x : Int} (h : ∀ t' tk', Q (.int (x % 65536) t') { s with toks := tk' }) : wpAny (model prog w) A (binaryOp .BitAnd (.int x t) (.int 65535 u)) Q E s :=
  and_int (by have e := kbt_mask x 16; rw [show (65535 : Int) = 2 ^ 16 - 1 by decide, e]; exact h _ _)
theorem and6 {x : Int} (h : ∀ t' tk', Q (.int (x % 64) t') { s with toks := tk' }) : wpAny (model prog w) A (binaryOp .BitAnd (.int x t) (.int 63 u)) Q E s :=
  and_int (by have e := kbt_mask x 6; rw [show (63 : Int) = 2 ^ 6 - 1 by decide, e]; exact h _ _)
theorem and4 {x : Int} (h : ∀ t' tk', Q (.int (x % 16) t') { s with toks := tk' }) : wpAny (model prog w) A (binaryOp .BitAnd (.int x t) (.int 15 u)) Q E s :=
  and_int (by have e := kbt_mask x 4; rw [show (15 : Int) = 2 ^ 4 - 1 by decide, e]; exact h _ _)
theorem and2 {x : Int} (h : ∀ t' tk', Q (.int (x % 4) t') { s with toks := tk' }) : wpAny (model prog w) A (binaryOp .BitAnd (.int x t) (.int 3 u)) Q E s :=
  and_int (by have e := kbt_mask x 2; rw [show (3 : Int) = 2 ^ 2 - 1 by decide, e]; exact h _ _)
theorem shlK {x k : Int} {n : Nat} (hn : (n : Int) = k) (hk : n ≤ 100) (hx : 0 ≤ x) (hx2 : x < 65536) (h : ∀ t' tk', Q (.int (x * 2 ^ n) t') { s with toks := tk' }) : wpAny (model prog w) A (binaryOp .LShift (.int x t) (.int k u)) Q E s := by
  subst hn
  exact lshift_int_small (by omega) (by omega) (by omega) (h _ _)
end

/-- the letters of base 64 -/
noncomputable def b64L : List UInt8 := [65, 66, 67, 68, 69, 70, 71, 72, 73, 74, 75, 76, 77, 78, 79, 80, 81, 82, 83, 84, 85, 86, 87, 88, 89, 90, 97, 98, 99, 100, 101, 102, 103, 104, 105, 106, 107, 108, 109, 110, 111, 112, 113, 114, 115, 116, 117, 118, 119, 120, 121, 122, 48, 49, 50, 51, 52, 53, 54, 55, 56, 57, 43, 47]
noncomputable def codeAt (v : Int) : Int := ((b64L.getD v.toNat 0).toNat : Int)
/-- the state of b2a_base64's loop: what is left, how many bits of it, what is out -/
structure EncS where
  lc : Int
  lb : Int
  out : List Int
noncomputable def encTurn (c : EncS) (b : Int) : EncS :=
  if c.lb = 0 then ⟨(c.lc * 256 + b) % 65536, 2, c.out ++ [codeAt ((c.lc * 256 + b) % 65536 / 4 % 64)]⟩
  else if c.lb = 2 then ⟨(c.lc * 256 + b) % 65536, 4, c.out ++ [codeAt ((c.lc * 256 + b) % 65536 / 16 % 64)]⟩
  else ⟨(c.lc * 256 + b) % 65536, 0, c.out ++ [codeAt ((c.lc * 256 + b) % 65536 / 64 % 64)] ++ [codeAt ((c.lc * 256 + b) % 65536 / 1 % 64)]⟩
theorem encTurn0 {lc b : Int} {out : List Int} : encTurn ⟨lc, 0, out⟩ b = ⟨(lc * 256 + b) % 65536, 0 + 8 - 6, out ++ [((b64L.getD ((lc * 256 + b) % 65536 / 2 ^ ((0 : Int) + 8 - 6).toNat % 64).toNat 0).toNat : Int)]⟩ := by
  rw [show (2 : Int) ^ ((0 : Int) + 8 - 6).toNat = 4 from by decide]
  unfold encTurn
  rw [if_pos rfl]; rfl
theorem encTurn2 {lc b : Int} {out : List Int} : encTurn ⟨lc, 2, out⟩ b = ⟨(lc * 256 + b) % 65536, 2 + 8 - 6, out ++ [((b64L.getD ((lc * 256 + b) % 65536 / 2 ^ ((2 : Int) + 8 - 6).toNat % 64).toNat 0).toNat : Int)]⟩ := by
  rw [show (2 : Int) ^ ((2 : Int) + 8 - 6).toNat = 16 from by decide]
  unfold encTurn
  rw [if_neg (show ¬ (2 : Int) = 0 by decide), if_pos rfl]; rfl
theorem encTurn4 {lc b : Int} {out : List Int} : encTurn ⟨lc, 4, out⟩ b = ⟨(lc * 256 + b) % 65536, 4 + 8 - 6 - 6, out ++ [((b64L.getD ((lc * 256 + b) % 65536 / 2 ^ ((4 : Int) + 8 - 6).toNat % 64).toNat 0).toNat : Int)] ++ [((b64L.getD ((lc * 256 + b) % 65536 / 2 ^ ((4 : Int) + 8 - 6 - 6).toNat % 64).toNat 0).toNat : Int)]⟩ := by
  rw [show (2 : Int) ^ ((4 : Int) + 8 - 6).toNat = 64 from by decide, show (2 : Int) ^ ((4 : Int) + 8 - 6 - 6).toNat = 1 from by decide]
  unfold encTurn
  rw [if_neg (show ¬ (4 : Int) = 0 by decide), if_neg (show ¬ (4 : Int) = 2 by decide)]; rfl
noncomputable def encAll (bs : List Int) : EncS := bs.foldl encTurn ⟨0, 0, []⟩
noncomputable def encEnd (c : EncS) : List Int :=
  if c.lb = 2 then c.out ++ [codeAt (c.lc % 4 * 16)] ++ [61] ++ [61]
  else if c.lb = 4 then c.out ++ [codeAt (c.lc % 16 * 4)] ++ [61]
  else c.out
noncomputable def encOf (bs : List Int) : List Int := encEnd (encAll bs)
def EncOk (c : EncS) : Prop := 0 ≤ c.lc ∧ c.lc < 65536 ∧ (c.lb = 0 ∨ c.lb = 2 ∨ c.lb = 4)
theorem encTurn_ok {c : EncS} {b : Int} : EncOk (encTurn c b) := by
  unfold encTurn EncOk
  split
  · exact ⟨by dsimp only; omega, by dsimp only; omega, .inr (.inl rfl)⟩
  · split
    · exact ⟨by dsimp only; omega, by dsimp only; omega, .inr (.inr rfl)⟩
    · exact ⟨by dsimp only; omega, by dsimp only; omega, .inl rfl⟩
section
variable {prog : Program} {w : World} {A : Around} {E : Value → Shared → Prop} {s : Shared} {t u : Tok} {Q : Value → Shared → Prop}
theorem shrC {x k : Int} (hk : 0 ≤ k) (h : ∀ t' tk', Q (.int (x / 2 ^ k.toNat) t') { s with toks := tk' }) : wpAny (model prog w) A (binaryOp .RShift (.int x t) (.int k u)) Q E s :=
  rshift_int hk (by rw [Int.fdiv_eq_ediv_of_nonneg _ (Int.le_of_lt (Int.pow_pos (by decide)))]; exact h _ _)
end
theorem encEnd0 {lc : Int} {out : List Int} : encEnd ⟨lc, 0, out⟩ = out := by
  unfold encEnd
  rw [if_neg (show ¬ (0 : Int) = 2 by decide), if_neg (show ¬ (0 : Int) = 4 by decide)]
theorem encEnd2 {lc : Int} {out : List Int} : encEnd ⟨lc, 2, out⟩ = out ++ [((b64L.getD (lc % 4 * 2 ^ 4).toNat 0).toNat : Int)] ++ [61] ++ [61] := by
  rw [show (2 : Int) ^ 4 = 16 from by decide]
  unfold encEnd
  rw [if_pos rfl]; rfl
theorem encEnd4 {lc : Int} {out : List Int} : encEnd ⟨lc, 4, out⟩ = out ++ [((b64L.getD (lc % 16 * 2 ^ 2).toNat 0).toNat : Int)] ++ [61] := by
  rw [show (2 : Int) ^ 2 = 4 from by decide]
  unfold encEnd
  rw [if_neg (show ¬ (4 : Int) = 2 by decide), if_pos rfl]; rfl
theorem codeAt_in (v : Int) : 0 ≤ codeAt v ∧ codeAt v < 256 := by
  unfold codeAt
  have := (b64L.getD v.toNat 0).toNat_lt
  omega
theorem encTurn_in {c : EncS} {b : Int} (h : ∀ x ∈ c.out, 0 ≤ x ∧ x < 256) : ∀ x ∈ (encTurn c b).out, 0 ≤ x ∧ x < 256 := by
  unfold encTurn
  split
  · intro x hx
    rcases List.mem_append.mp hx with q | q
    · exact h x q
    · rw [List.mem_singleton.mp q]; exact codeAt_in _
  · split
    · intro x hx
      rcases List.mem_append.mp hx with q | q
      · exact h x q
      · rw [List.mem_singleton.mp q]; exact codeAt_in _
    · intro x hx
      rcases List.mem_append.mp hx with q | q
      · rcases List.mem_append.mp q with q | q
        · exact h x q
        · rw [List.mem_singleton.mp q]; exact codeAt_in _
      · rw [List.mem_singleton.mp q]; exact codeAt_in _
theorem foldl_in : ∀ (bs : List Int) (c : EncS), (∀ x ∈ c.out, 0 ≤ x ∧ x < 256) → ∀ x ∈ (bs.foldl encTurn c).out, 0 ≤ x ∧ x < 256
  | [], _, h => h
  | _ :: r, _, h => foldl_in r _ (encTurn_in h)
theorem encOf_in (bs : List Int) : ∀ x ∈ encOf bs, 0 ≤ x ∧ x < 256 := by
  have h : ∀ x ∈ (encAll bs).out, 0 ≤ x ∧ x < 256 := foldl_in bs _ (fun x hx => by cases hx)
  unfold encOf encEnd
  intro x hx
  split at hx
  · rcases List.mem_append.mp hx with q | q
    · rcases List.mem_append.mp q with q | q
      · rcases List.mem_append.mp q with q | q
        · exact h x q
        · rw [List.mem_singleton.mp q]; exact codeAt_in _
      · rw [List.mem_singleton.mp q]; decide
    · rw [List.mem_singleton.mp q]; decide
  · split at hx
    · rcases List.mem_append.mp hx with q | q
      · rcases List.mem_append.mp q with q | q
        · exact h x q
        · rw [List.mem_singleton.mp q]; exact codeAt_in _
      · rw [List.mem_singleton.mp q]; decide
    · exact h x hx

end

-- part B2a
section
set_option maxHeartbeats 8000000 in
theorem b2a_call : ∀ {w : World} {A₀ A : Around} {s : Shared} {base h₀ : Heap} {outer : List Env} {L : Addr} {m mg mb : Str → Option Value} {env : Env} {mean : ExcName → Option Value}
    {b : Array UInt8} {t : Tok} {Q E : Value → Shared → Prop},
    Below A₀ base outer h₀ → Fr h₀ L s.heap m → (hd.heap_39 w.params).In h₀ →
    Top hd.view_39 (looseW hd.view_39 [Str.ofString "b2a_base64", Str.ofString "b64encode"]) mean mg mb h₀ →
    A.frames = some (env :: outer) → env.frame = some L → env.scope.kind = .function → A.depth + 4 < recursionLimit → A.handled = none → A.units + 100 < cLine →
    b.size ≤ 6 →
    (∀ h' tk' t' r, (∀ a ob, s.heap.get? a = some ob → h'.get? a = some ob) → KBw.bInts r = encOf (KBw.bInts b) → Q (.bytes r t') { s with heap := h', toks := tk' }) →
    wpAny (model PySem.Challenge.rw_mq0155_01.row.prog w) A (call (.ref 92) [.bytes b t] [(Str.ofString "newline", .bool false)]) Q E s := by
  w_top off
  k_fill
  intro w A₀ A s base h₀ outer L m mg mb env mean b t Q E B F X T hA hf hke hroom hnh hun hb6 hq
  obtain ⟨hh, dp, fr, gd, un⟩ := A
  dsimp only at hnh hA hroom hun
  subst hnh hA
  refine wpAny_call ?_
  k_dflt (refine' call_foot (sub := []) (binds := [(Str.ofString "data", .bytes b t), (Str.ofString "newline", .bool false)]) B F X News.nil T rfl hf hke ?k6 ?k7 ?k8 ?k9 ?kB ?_ ?c2 ?c3 ?c4 ?c5; (case k6 => k_is); (case k7 => k_is); (case k8 => (dsimp only; omega)); (case k9 => exact BindsTo.of_eq rfl); (case c5 => decide); (case kB => exact locs rfl); (case c2 => exact rfl); (case c3 => exact rfl); (case c4 => exact rfl); k_whole)
  intro g L' h₁ F' N' B' X' T' hlt hkeep
  clear F B X T
  try dsimp only
  try k_fold
  k_with_none
  k_with "subscriptTail" => (k_here; (with_reducible show wpAny _ _ (subscriptTail _ _ (Value.ref _) (Value.int _ _)) _ _ _); k_dflt (refine' lst_sub ?k1 ?k2 ?k3 ?k4 ?k5 ?k6 ?_ ?k7; (case k1 => k_asm); (case k2 => k_mem); (case k3 => with_reducible assumption); (case k4 => exact rfl); (case k5 => omega); (case k6 => omega); (case k7 => with_unfolding_all rfl); k_whole); intro _ _)
  k_with "setItem ref int" => (k_here; k_dflt (refine' lst_set ?k1 ?k2 ?ke ?k3 ?k4 ?kv ?k6 ?k7 ?_; (case ke => exact rfl); (case k1 => k_asm); (case k2 => k_asm); (case k3 => k_upd); (case k4 => with_reducible assumption); (case kv => with_reducible assumption); (case k6 => omega); (case k7 => omega); k_whole); intro _ _ _ _; (try k_sweep))
  k_with "compareOp Lt" => (k_here; k_dflt (refine' lt_use (by with_reducible assumption) ?k1 ?k2 ?_; (case k1 => with_reducible assumption); (case k2 => with_reducible assumption); k_whole))
  k_with "binaryOp Add int int" => (k_here; (with_reducible refine add1_nat ?_); intro _ _)
  k_with "binaryOp Mult int int" => (k_here; (with_reducible refine mul2_nat ?_); intro _ _)
  k_with "call builtin:len" => (k_here; (with_reducible show wpAny _ _ (call (Value.builtin "len") [Value.ref _]) _ _ _); k_dflt (refine' lst_len ?k1 ?k2 ?k3 ?k4 ?_; (case k1 => k_asm); (case k2 => k_mem); (case k3 => with_reducible assumption); (case k4 => omega); k_whole); intro _ _)
  k_with "call builtin:list.append" => (k_here; (with_reducible show wpAny _ _ (call (Value.builtin _) [Value.ref _, _]) _ _ _); k_dflt (refine' lst_append ?k1 ?k2 ?k3 ?k4 ?k5 ?k6 ?_; (case k1 => k_asm); (case k2 => k_asm); (case k3 => k_upd); (case k4 => with_reducible assumption); (case k5 => with_reducible assumption); (case k6 => omega); k_whole); intro _ _ _ _ _; (try k_sweep))
  k_with "call builtin:list.pop" => (k_here; (with_reducible show wpAny _ _ (call (Value.builtin _) [Value.ref _]) _ _ _); k_dflt (refine' lst_pop ?k1 ?k2 ?k3 ?k4 ?k5 ?k6 ?_; (case k1 => k_asm); (case k2 => k_asm); (case k3 => k_upd); (case k4 => with_reducible assumption); (case k5 => omega); (case k6 => omega); k_whole); intro _ _ _ _ _ _ _; (try k_sweep))
  k_with "truthy ref" => (k_here; k_dflt (refine' lst_truthy ?k1 ?k2 ?k3 ?k4 ?_; (case k1 => k_asm); (case k2 => k_mem); (case k3 => with_reducible assumption); (case k4 => omega); k_whole); intro _)
  k_with "call builtin:list.reverse" => (k_here; (with_reducible show wpAny _ _ (call (Value.builtin _) [Value.ref _]) _ _ _); k_dflt (refine' lst_reverse ?k1 ?k2 ?k3 ?k4 ?k5 ?_; (case k1 => k_asm); (case k2 => k_asm); (case k3 => k_upd); (case k4 => with_reducible assumption); (case k5 => omega); k_whole); intro _ _ _ _ _; (try k_sweep))
  k_with "call type:type" => ((with_reducible show wpAny _ _ (call _ [Value.bytes _ _]) _ _ _); refine call_type_of (Tx := "bytes") rfl (by decide +kernel) ?_)
  k_with "exec For Name Name cons nil" => ((rename Fr _ _ _ _ => lF'); (with_unfolding_all refine' For_invVF lF' ?k1 ?k2 ?_; (case k1 => exact rfl); (case k2 => exact rfl); k_whole))
  k_with "pyIter bytes" => refine Hold.out ?_
  k_steps
  rename Fr _ _ _ _ => F9
  rename News _ _ _ _ => N9
  rename_i lo _ _ _ _ _
  refine Hold.mk ?_
  refine KStb.kst_bytes (σ := EncS × List Value × Nat × Tok × Tok) (ks := KBw.bInts b) (len := b.size) (fun c => [(lo, listOf c.2.1.toArray c.2.2.1)]) (fun c => [(Str.ofString "leftchar", .int c.1.lc c.2.2.2.1), (Str.ofString "leftbits", .int c.1.lb c.2.2.2.2)]) (fun c => All2 RInt c.2.1 c.1.out) [] (fun pre c => c.1 = encAll pre ∧ EncOk c.1 ∧ c.1.out.length ≤ 2 * pre.length) (⟨0, 0, []⟩, [], 0, _, _) rfl (KBw.ints_length b) rfl F9 N9 .nil (by intro q hq; cases hq with | head => rfl | tail _ h => cases h with | head => rfl | tail _ h => cases h) ⟨rfl, ⟨by dsimp only; omega, by dsimp only; omega, .inl rfl⟩, Nat.zero_le _⟩ ?_ ?_
  · clear F9 N9
    rintro ⟨⟨lc, lb, out⟩, vs, n, t1, t2⟩ pre post nb tn u h tk own hks hlen hn0 hn1 hoff hi ⟨hP, hE, hol⟩ F N
    dsimp only [kstB] at F N hP hoff hE hi hol
    simp only [List.cons_append, List.nil_append] at N
    obtain ⟨hE0, hE1, hE2⟩ := hE
    dsimp only at hE0 hE1 hE2
    k_with "InvEndN" => refine Hold.out ?_
    k_with "binaryOp LShift int int" => ((with_reducible refine shl8 ?h1 ?h2 ?_); (case h1 => omega); (case h2 => omega); intro _ _)
    k_with "binaryOp BitOr int int" => ((with_reducible refine or8 ?h1 ?h2 ?h3 ?_); (case h1 => omega); (case h2 => omega); (case h3 => omega); intro _ _)
    k_with "binaryOp BitAnd int int" => first | ((with_reducible refine and16 ?_); intro _ _) | ((with_reducible refine and6 ?_); intro _ _)
    k_with "binaryOp RShift int int" => ((with_reducible refine shrC ?h1 ?_); (case h1 => omega); intro _ _)
    k_with "call builtin:list.append" => (
      refine lst_append (R := RInt) (by k_asm) (by k_asm) (by k_upd) (by with_reducible assumption) ⟨_, rfl⟩ (by omega) ?_
      intro h' F' N' hi' hl'
      (try k_sweep))
    have hpl : pre.length < 7 := by omega
    rcases hE2 with rfl | rfl | rfl
    · k_steps
      rename Fr _ _ _ _ => F9
      rename News _ _ _ _ => N9
      rename All2 _ _ _ => hi9
      refine Hold.mk ?_
      have hT : encAll (pre ++ [nb]) = encTurn ⟨lc, 0, out⟩ nb := by
        unfold encAll at hP ⊢
        rw [List.foldl_append, ← hP]
        rfl
      have hT2 := hT.trans encTurn0
      refine kst_end (⟨_, _, _⟩, _, _, _, _) F9 N9 (by first | kst_in | kst_inAny) (by first | (intro p hp; kst_mem) | kst_anyIn) (by rfl) hi9 (by kst_all) (by kst_same) ⟨hT2.symm, ?_, ?_⟩
      · clear F9 N9 hi9
        exact ⟨by dsimp only; omega, by dsimp only; omega, .inr (.inl rfl)⟩
      · clear F9 N9 hi9
        dsimp only
        simp only [List.length_append, List.length_cons, List.length_nil]
        omega
    · k_steps
      rename Fr _ _ _ _ => F9
      rename News _ _ _ _ => N9
      rename All2 _ _ _ => hi9
      refine Hold.mk ?_
      have hT : encAll (pre ++ [nb]) = encTurn ⟨lc, 2, out⟩ nb := by
        unfold encAll at hP ⊢
        rw [List.foldl_append, ← hP]
        rfl
      have hT2 := hT.trans encTurn2
      refine kst_end (⟨_, _, _⟩, _, _, _, _) F9 N9 (by first | kst_in | kst_inAny) (by first | (intro p hp; kst_mem) | kst_anyIn) (by rfl) hi9 (by kst_all) (by kst_same) ⟨hT2.symm, ?_, ?_⟩
      · clear F9 N9 hi9
        exact ⟨by dsimp only; omega, by dsimp only; omega, .inr (.inr rfl)⟩
      · clear F9 N9 hi9
        dsimp only
        simp only [List.length_append, List.length_cons, List.length_nil]
        omega
    · k_steps
      rename Fr _ _ _ _ => F9
      rename News _ _ _ _ => N9
      rename All2 _ _ _ => hi9
      refine Hold.mk ?_
      have hT : encAll (pre ++ [nb]) = encTurn ⟨lc, 4, out⟩ nb := by
        unfold encAll at hP ⊢
        rw [List.foldl_append, ← hP]
        rfl
      have hT2 := hT.trans encTurn4
      refine kst_end (⟨_, _, _⟩, _, _, _, _) F9 N9 (by first | kst_in | kst_inAny) (by first | (intro p hp; kst_mem) | kst_anyIn) (by rfl) hi9 (by kst_all) (by kst_same) ⟨hT2.symm, ?_, ?_⟩
      · clear F9 N9 hi9
        exact ⟨by dsimp only; omega, by dsimp only; omega, .inl rfl⟩
      · clear F9 N9 hi9
        dsimp only
        simp only [List.length_append, List.length_cons, List.length_nil]
        omega
  · clear F9 N9
    rintro ⟨⟨lc, lb, out⟩, vs, n, t1, t2⟩ u h tk hlen2 hi ⟨hP, hE, hol⟩ F N
    dsimp only [kstB] at F N hP hE hi hol
    obtain ⟨hE0, hE1, hE2⟩ := hE
    dsimp only at hE0 hE1 hE2
    rw [KBw.ints_length] at hol
    dsimp only
    k_with "binaryOp LShift int int" => first | ((with_reducible refine shlK (n := 4) ?h0 ?h3 ?h1 ?h2 ?_); (case h0 => rfl); (case h3 => decide); (case h1 => omega); (case h2 => omega); intro _ _) | ((with_reducible refine shlK (n := 2) ?h0 ?h3 ?h1 ?h2 ?_); (case h0 => rfl); (case h3 => decide); (case h1 => omega); (case h2 => omega); intro _ _)
    k_with "binaryOp BitAnd int int" => first | ((with_reducible refine and4 ?_); intro _ _) | ((with_reducible refine and2 ?_); intro _ _)
    rcases hE2 with rfl | rfl | rfl
    · have hns := encEnd0 (lc := lc) (out := out)
      rw [hP] at hns
      have hin := encOf_in (KBw.bInts b)
      unfold encOf at hin
      k_with "call type:bytes" => (
        rename Fr _ _ _ _ => F9
        rename News _ _ _ _ => N9
        rename All2 _ _ _ => hi9
        refine KBa.make_K F9 N9 rfl (News.isList N9 (List.Mem.head _)) (all2_ints hi9) (by intro x hx; exact hin x (by rw [hns]; exact hx)) (by (try simp only [List.length_append, List.length_cons, List.length_nil]); omega) ?_
        intro h' t' k' F7 N7 hI7)
      k_steps
      all_goals (try dsimp only)
      k_steps
      refine leaveF_same F7 fun kp => hq _ _ _ _ kp ?_
      rw [KBa.ints_make (by assumption)]
      unfold encOf
      rw [hns]
      try rfl
    · have hns := encEnd2 (lc := lc) (out := out)
      rw [hP] at hns
      have hin := encOf_in (KBw.bInts b)
      unfold encOf at hin
      k_with "call type:bytes" => (
        rename Fr _ _ _ _ => F9
        rename News _ _ _ _ => N9
        rename All2 _ _ _ => hi9
        refine KBa.make_K F9 N9 rfl (News.isList N9 (List.Mem.head _)) (all2_ints hi9) (by intro x hx; exact hin x (by rw [hns]; exact hx)) (by (try simp only [List.length_append, List.length_cons, List.length_nil]); omega) ?_
        intro h' t' k' F7 N7 hI7)
      k_steps
      all_goals (try dsimp only)
      k_steps
      refine leaveF_same F7 fun kp => hq _ _ _ _ kp ?_
      rw [KBa.ints_make (by assumption)]
      unfold encOf
      rw [hns]
      try rfl
    · have hns := encEnd4 (lc := lc) (out := out)
      rw [hP] at hns
      have hin := encOf_in (KBw.bInts b)
      unfold encOf at hin
      k_with "call type:bytes" => (
        rename Fr _ _ _ _ => F9
        rename News _ _ _ _ => N9
        rename All2 _ _ _ => hi9
        refine KBa.make_K F9 N9 rfl (News.isList N9 (List.Mem.head _)) (all2_ints hi9) (by intro x hx; exact hin x (by rw [hns]; exact hx)) (by (try simp only [List.length_append, List.length_cons, List.length_nil]); omega) ?_
        intro h' t' k' F7 N7 hI7)
      k_steps
      all_goals (try dsimp only)
      k_steps
      refine leaveF_same F7 fun kp => hq _ _ _ _ kp ?_
      rw [KBa.ints_make (by assumption)]
      unfold encOf
      rw [hns]
      try rfl

end

-- part Enc
section
set_option maxHeartbeats 4000000 in
theorem enc_call : ∀ {w : World} {A₀ A : Around} {s : Shared} {base h₀ : Heap} {outer : List Env} {L : Addr} {m mg mb : Str → Option Value} {env : Env} {mean : ExcName → Option Value}
    {b : Array UInt8} {t : Tok} {Q E : Value → Shared → Prop},
    Below A₀ base outer h₀ → Fr h₀ L s.heap m → (hd.heap_39 w.params).In h₀ →
    Top hd.view_39 (looseW hd.view_39 [Str.ofString "b2a_base64", Str.ofString "b64encode"]) mean mg mb h₀ →
    A.frames = some (env :: outer) → env.frame = some L → env.scope.kind = .function → A.depth + 6 < recursionLimit → A.handled = none → A.units + 200 < cLine →
    b.size ≤ 6 →
    (∀ h' tk' t' r, (∀ a ob, s.heap.get? a = some ob → h'.get? a = some ob) → KBw.bInts r = encOf (KBw.bInts b) → Q (.bytes r t') { s with heap := h', toks := tk' }) →
    wpAny (model PySem.Challenge.rw_mq0155_01.row.prog w) A (call (.ref 100) [.bytes b t]) Q E s := by
  w_top off
  k_fill
  intro w A₀ A s base h₀ outer L m mg mb env mean b t Q E B F X T hA hf hke hroom hnh hun hb6 hq
  obtain ⟨hh, dp, fr, gd, un⟩ := A
  dsimp only at hnh hA hroom hun
  subst hnh hA
  refine wpAny_call ?_
  k_dflt (refine' call_foot (sub := []) (binds := [(Str.ofString "s", .bytes b t), (Str.ofString "altchars", .none)]) B F X News.nil T rfl hf hke ?k6 ?k7 ?k8 ?k9 ?kB ?_ ?c2 ?c3 ?c4 ?c5; (case k6 => k_is); (case k7 => k_is); (case k8 => (dsimp only; omega)); (case k9 => exact binds_K (X.keeps F.keep) rfl (by k_is) rfl rfl rfl); (case c5 => decide); (case kB => exact locs rfl); (case c2 => exact rfl); (case c3 => exact rfl); (case c4 => exact rfl); k_whole)
  intro g L' h₁ F' N' B' X' T' hlt hkeep
  clear F B X T
  try dsimp only
  try k_fold
  k_with_none
  k_with "subscriptTail" => (k_here; (with_reducible show wpAny _ _ (subscriptTail _ _ (Value.ref _) (Value.int _ _)) _ _ _); k_dflt (refine' lst_sub ?k1 ?k2 ?k3 ?k4 ?k5 ?k6 ?_ ?k7; (case k1 => k_asm); (case k2 => k_mem); (case k3 => with_reducible assumption); (case k4 => exact rfl); (case k5 => omega); (case k6 => omega); (case k7 => with_unfolding_all rfl); k_whole); intro _ _)
  k_with "setItem ref int" => (k_here; k_dflt (refine' lst_set ?k1 ?k2 ?ke ?k3 ?k4 ?kv ?k6 ?k7 ?_; (case ke => exact rfl); (case k1 => k_asm); (case k2 => k_asm); (case k3 => k_upd); (case k4 => with_reducible assumption); (case kv => with_reducible assumption); (case k6 => omega); (case k7 => omega); k_whole); intro _ _ _ _; (try k_sweep))
  k_with "compareOp Lt" => (k_here; k_dflt (refine' lt_use (by with_reducible assumption) ?k1 ?k2 ?_; (case k1 => with_reducible assumption); (case k2 => with_reducible assumption); k_whole))
  k_with "binaryOp Add int int" => (k_here; (with_reducible refine add1_nat ?_); intro _ _)
  k_with "binaryOp Mult int int" => (k_here; (with_reducible refine mul2_nat ?_); intro _ _)
  k_with "call builtin:len" => (k_here; (with_reducible show wpAny _ _ (call (Value.builtin "len") [Value.ref _]) _ _ _); k_dflt (refine' lst_len ?k1 ?k2 ?k3 ?k4 ?_; (case k1 => k_asm); (case k2 => k_mem); (case k3 => with_reducible assumption); (case k4 => omega); k_whole); intro _ _)
  k_with "call builtin:list.append" => (k_here; (with_reducible show wpAny _ _ (call (Value.builtin _) [Value.ref _, _]) _ _ _); k_dflt (refine' lst_append ?k1 ?k2 ?k3 ?k4 ?k5 ?k6 ?_; (case k1 => k_asm); (case k2 => k_asm); (case k3 => k_upd); (case k4 => with_reducible assumption); (case k5 => with_reducible assumption); (case k6 => omega); k_whole); intro _ _ _ _ _; (try k_sweep))
  k_with "call builtin:list.pop" => (k_here; (with_reducible show wpAny _ _ (call (Value.builtin _) [Value.ref _]) _ _ _); k_dflt (refine' lst_pop ?k1 ?k2 ?k3 ?k4 ?k5 ?k6 ?_; (case k1 => k_asm); (case k2 => k_asm); (case k3 => k_upd); (case k4 => with_reducible assumption); (case k5 => omega); (case k6 => omega); k_whole); intro _ _ _ _ _ _ _; (try k_sweep))
  k_with "truthy ref" => (k_here; k_dflt (refine' lst_truthy ?k1 ?k2 ?k3 ?k4 ?_; (case k1 => k_asm); (case k2 => k_mem); (case k3 => with_reducible assumption); (case k4 => omega); k_whole); intro _)
  k_with "call builtin:list.reverse" => (k_here; (with_reducible show wpAny _ _ (call (Value.builtin _) [Value.ref _]) _ _ _); k_dflt (refine' lst_reverse ?k1 ?k2 ?k3 ?k4 ?k5 ?_; (case k1 => k_asm); (case k2 => k_asm); (case k3 => k_upd); (case k4 => with_reducible assumption); (case k5 => omega); k_whole); intro _ _ _ _ _; (try k_sweep))
  k_with "call type:type" => ((with_reducible show wpAny _ _ (call _ [Value.bytes _ _]) _ _ _); refine call_type_of (Tx := "bytes") rfl (by decide +kernel) ?_)
  k_with "call ref" => (
    rename Fr _ _ _ _ => F9
    rename News _ _ _ _ => N9
    refine b2a_call B' F9 X' T' (Around.frames_deeper B'.stack) rfl rfl (by rw [depth_deeper]; dsimp only; omega) rfl (by rw [units_deeper]; dsimp only; omega) hb6 ?_
    intro h9 tk9 t9 r9 kp hr9
    have F8 := fr_behind F9 N9 (fun a o _ e => kp a o e)
    have N8 : News g L' h9 [] := News.nil
    clear F9 N9)
  k_steps
  all_goals (try dsimp only)
  k_steps
  rename Fr _ _ _ _ => F9
  exact leaveF_same F9 fun kp => hq _ _ _ _ kp hr9

end

-- part Txt
section
/-- a six-bit value's figure -/
noncomputable def figV (v : Int) : Int := if v < 52 then v + 14 else if v < 62 then v - 49 else v - 61
theorem code_sign {v : Int} (h0 : 0 ≤ v) (h1 : v < 64) : figC (codeAt v) = figV v ∧ ∃ i, i < 65 ∧ codeAt v = signAt i := by
  have key : ∀ v : Fin 64, figC (codeAt (v.val : Int)) = figV (v.val : Int) ∧ ∃ i : Fin 65, codeAt (v.val : Int) = signAt i.val := by decide +kernel
  obtain ⟨n, rfl⟩ := Int.eq_ofNat_of_zero_le h0
  obtain ⟨a, i, b⟩ := key ⟨n, by omega⟩
  exact ⟨a, i.val, i.isLt, b⟩
theorem fig61 : figC 61 = 13 := by decide +kernel
theorem sign61 : ∃ i, i < 65 ∧ (61 : Int) = signAt i := ⟨12, by decide, by decide +kernel⟩
/-- an octet -/
def Oc (a : Int) : Prop := 0 ≤ a ∧ a < 256
theorem oc0 : Oc 0 := ⟨Int.le_refl 0, by decide⟩
noncomputable def w0 (a : Int) : Int := a / 4
noncomputable def w1 (a b : Int) : Int := a % 4 * 16 + b / 16
noncomputable def w2 (b c : Int) : Int := b % 16 * 4 + c / 64
noncomputable def w3 (c : Int) : Int := c % 64
theorem cs0 {a : Int} (ha : Oc a) : figC (codeAt (w0 a)) = figV (w0 a) ∧ ∃ i, i < 65 ∧ codeAt (w0 a) = signAt i := by
  obtain ⟨h1, h2⟩ := ha
  exact code_sign (by unfold w0; omega) (by unfold w0; omega)
theorem cs1 {a b : Int} (hb : Oc b) : figC (codeAt (w1 a b)) = figV (w1 a b) ∧ ∃ i, i < 65 ∧ codeAt (w1 a b) = signAt i := by
  obtain ⟨h1, h2⟩ := hb
  exact code_sign (by unfold w1; omega) (by unfold w1; omega)
theorem cs2 {a b : Int} (hb : Oc b) : figC (codeAt (w2 a b)) = figV (w2 a b) ∧ ∃ i, i < 65 ∧ codeAt (w2 a b) = signAt i := by
  obtain ⟨h1, h2⟩ := hb
  exact code_sign (by unfold w2; omega) (by unfold w2; omega)
theorem cs3 {a : Int} : figC (codeAt (w3 a)) = figV (w3 a) ∧ ∃ i, i < 65 ∧ codeAt (w3 a) = signAt i :=
  code_sign (by unfold w3; omega) (by unfold w3; omega)
-- the encoder's turns
theorem low {x p b : Int} (hp : Oc p) (hb : Oc b) : ((x * 256 + p) * 256 + b) % 65536 = p * 256 + b := by
  obtain ⟨h1, h2⟩ := hp
  obtain ⟨h3, h4⟩ := hb
  omega
theorem et0 {x p b : Int} {out : List Int} (hp : Oc p) (hb : Oc b) : encTurn ⟨x * 256 + p, 0, out⟩ b = ⟨p * 256 + b, 2, out ++ [codeAt (w0 b)]⟩ := by
  unfold encTurn
  rw [if_pos rfl]
  have h2 : (p * 256 + b) / 4 % 64 = w0 b := by
    obtain ⟨h3, h4⟩ := hb
    unfold w0
    omega
  dsimp only
  rw [low hp hb, h2]
theorem et2 {x p b : Int} {out : List Int} (hp : Oc p) (hb : Oc b) : encTurn ⟨x * 256 + p, 2, out⟩ b = ⟨p * 256 + b, 4, out ++ [codeAt (w1 p b)]⟩ := by
  unfold encTurn
  rw [if_neg (show ¬ (2 : Int) = 0 by decide), if_pos rfl]
  have h2 : (p * 256 + b) / 16 % 64 = w1 p b := by
    obtain ⟨h3, h4⟩ := hb
    unfold w1
    omega
  dsimp only
  rw [low hp hb, h2]
theorem et4 {x p b : Int} {out : List Int} (hp : Oc p) (hb : Oc b) : encTurn ⟨x * 256 + p, 4, out⟩ b = ⟨p * 256 + b, 0, out ++ [codeAt (w2 p b)] ++ [codeAt (w3 b)]⟩ := by
  unfold encTurn
  rw [if_neg (show ¬ (4 : Int) = 0 by decide), if_neg (show ¬ (4 : Int) = 2 by decide)]
  have h2 : (p * 256 + b) / 64 % 64 = w2 p b := by
    obtain ⟨h3, h4⟩ := hb
    unfold w2
    omega
  have h5 : (p * 256 + b) / 1 % 64 = w3 b := by
    unfold w3
    omega
  dsimp only
  rw [low hp hb, h2, h5]
theorem ee2 {x p : Int} {out : List Int} : encEnd ⟨x * 256 + p, 2, out⟩ = out ++ [codeAt (w1 p 0)] ++ [61] ++ [61] := by
  unfold encEnd
  rw [if_pos rfl]
  have h1 : (x * 256 + p) % 4 * 16 = w1 p 0 := by
    unfold w1
    omega
  dsimp only
  rw [h1]
theorem ee4 {x p : Int} {out : List Int} : encEnd ⟨x * 256 + p, 4, out⟩ = out ++ [codeAt (w2 p 0)] ++ [61] := by
  unfold encEnd
  rw [if_neg (show ¬ (4 : Int) = 2 by decide), if_pos rfl]
  have h1 : (x * 256 + p) % 16 * 4 = w2 p 0 := by
    unfold w2
    omega
  dsimp only
  rw [h1]
-- the number's figures
noncomputable def hextet (x a b c : Int) : Int := ((x * 256 + a) * 256 + b) * 256 + c
theorem hx0 {x a b c : Int} (ha : Oc a) (hb : Oc b) (hc : Oc c) : hextet x a b c / 262144 % 64 = w0 a := by
  obtain ⟨h1, h2⟩ := ha
  obtain ⟨h3, h4⟩ := hb
  obtain ⟨h5, h6⟩ := hc
  unfold hextet w0
  omega
theorem hx1 {x a b c : Int} (hb : Oc b) (hc : Oc c) : hextet x a b c / 4096 % 64 = w1 a b := by
  obtain ⟨h3, h4⟩ := hb
  obtain ⟨h5, h6⟩ := hc
  unfold hextet w1
  omega
theorem hx2 {x a b c : Int} (hc : Oc c) : hextet x a b c / 64 % 64 = w2 b c := by
  obtain ⟨h5, h6⟩ := hc
  unfold hextet w2
  omega
theorem hx3 {x a b c : Int} : hextet x a b c / 1 % 64 = w3 c := by
  unfold hextet w3
  omega
theorem hxh {x a b c : Int} (ha : Oc a) (hb : Oc b) (hc : Oc c) : hextet x a b c / 16777216 = x := by
  obtain ⟨h1, h2⟩ := ha
  obtain ⟨h3, h4⟩ := hb
  obtain ⟨h5, h6⟩ := hc
  unfold hextet
  omega
/-- the figure at a place, its value told -/
noncomputable def figP (size place v : Int) : Int := if 4 * size ≤ 3 * place then (if place < (size + 2).fdiv 3 * 4 then 13 else 0) else figV v
theorem figOf_p {size bits place v m : Int} (hm : (64 : Int) ^ (7 - place).toNat = m) (hm0 : 0 ≤ m) (hv : bits / m % 64 = v) : figOf size bits place = figP size place v := by
  have e : (bits.fdiv (64 ^ (7 - place).toNat)).fmod 64 = v := by
    rw [hm, Int.fdiv_eq_ediv_of_nonneg _ hm0, Int.fmod_eq_emod_of_nonneg _ (by decide), hv]
  unfold figOf figP figV
  rw [e]
theorem up24 {x y m : Int} (h : x / 16777216 = y) : x / (16777216 * m) = y / m := by
  rw [← Int.ediv_ediv_of_nonneg (by decide), h]
theorem told8 {os gs : List Int} {n a b c d e f : Int} (ha : Oc a) (hb : Oc b) (hc : Oc c) (hd : Oc d) (he : Oc e) (hf : Oc f) (hp : padOf os = [a, b, c, d, e, f]) (hn : (os.length : Int) = n)
    (hg : [figP n 0 (w0 a), figP n 1 (w1 a b), figP n 2 (w2 b c), figP n 3 (w3 c), figP n 4 (w0 d), figP n 5 (w1 d e), figP n 6 (w2 e f), figP n 7 (w3 f)] = gs) : toldOf os = gs.foldl (fun a p => a * 66 + p) 0 := by
  have hB : bitsOf (padOf os) = hextet (hextet 0 a b c) d e f := by rw [hp]; rfl
  subst hg
  unfold toldOf
  rw [hB, hn]
  simp only [List.foldl_cons, List.foldl_nil]
  rw [figOf_p (place := 0) (v := w0 a) (m := 16777216 * 262144) rfl (by decide) (by rw [up24 (hxh hd he hf)]; exact hx0 ha hb hc),
    figOf_p (place := 1) (v := w1 a b) (m := 16777216 * 4096) rfl (by decide) (by rw [up24 (hxh hd he hf)]; exact hx1 hb hc),
    figOf_p (place := 2) (v := w2 b c) (m := 16777216 * 64) rfl (by decide) (by rw [up24 (hxh hd he hf)]; exact hx2 hc),
    figOf_p (place := 3) (v := w3 c) (m := 16777216 * 1) rfl (by decide) (by rw [up24 (hxh hd he hf)]; exact hx3),
    figOf_p (place := 4) (m := 262144) rfl (by decide) (hx0 hd he hf),
    figOf_p (place := 5) (m := 4096) rfl (by decide) (hx1 he hf),
    figOf_p (place := 6) (m := 64) rfl (by decide) (hx2 hf),
    figOf_p (place := 7) (m := 1) rfl (by decide) hx3]
theorem fpV {size place v : Int} (h : ¬ 4 * size ≤ 3 * place) : figP size place v = figV v := if_neg h
theorem fpP {size place v : Int} (h : 4 * size ≤ 3 * place) (h2 : place < (size + 2).fdiv 3 * 4) : figP size place v = 13 := by
  unfold figP
  rw [if_pos h, if_pos h2]
theorem fpZ {size place v : Int} (h : 4 * size ≤ 3 * place) (h2 : ¬ place < (size + 2).fdiv 3 * 4) : figP size place v = 0 := by
  unfold figP
  rw [if_pos h, if_neg h2]
theorem consE {x y : Int} {l m : List Int} (h : x = y) (t : l = m) : x :: l = y :: m := by rw [h, t]
theorem okNil : TextOk [] := ⟨Nat.zero_le _, fun _ h => nomatch h⟩
theorem okCons {x : Int} {l : List Int} (hx : ∃ i, i < 65 ∧ x = signAt i) (hl : ∀ c ∈ l, ∃ i, i < 65 ∧ c = signAt i) : ∀ c ∈ x :: l, ∃ i, i < 65 ∧ c = signAt i := fun c hc => by
  rcases List.mem_cons.mp hc with rfl | h
  · exact hx
  · exact hl c h
theorem mapC {x g : Int} {l gs : List Int} (h : figC x = g) (ht : l.map figC = gs) : (x :: l).map figC = g :: gs := by
  rw [List.map_cons, h, ht]
theorem zeros {k : Nat} : ∀ {X : Int}, (List.replicate k (0 : Int)).foldl (fun a p => a * 66 + p) X = X * 66 ^ k := by
  induction k with
  | zero => intro X; exact (Int.mul_one X).symm
  | succ k ih =>
    intro X
    rw [List.replicate_succ, List.foldl_cons, ih, Int.add_zero, Int.pow_succ, Int.mul_comm (66 ^ k) 66, Int.mul_assoc]
theorem num_all {cs gs full os : List Int} {k : Nat} (h : cs.map figC = gs) (hk : (8 - (cs.length : Int)).toNat = k) (hf : full = gs ++ List.replicate k 0) (ht : toldOf os = full.foldl (fun a p => a * 66 + p) 0) : numC cs = toldOf os := by
  subst h
  subst hf
  rw [ht, List.foldl_append, zeros]
  unfold numC
  rw [List.foldl_map, hk]
theorem enc0  : encOf ([] : List Int) = [] := by
  rfl
theorem num0  : TextOk (encOf ([] : List Int)) ∧ numC (encOf ([] : List Int)) = toldOf [] := by
  rw [enc0 ]
  refine ⟨⟨Nat.le_of_ble_eq_true rfl, fun _ h => nomatch h⟩, ?_⟩
  exact num_all (full := [0, 0, 0, 0, 0, 0, 0, 0]) (k := 8) rfl rfl rfl (told8 oc0 oc0 oc0 oc0 oc0 oc0 (show padOf [] = [0, 0, 0, 0, 0, 0] from rfl) (n := 0) rfl (consE (fpZ (by decide) (by decide)) (consE (fpZ (by decide) (by decide)) (consE (fpZ (by decide) (by decide)) (consE (fpZ (by decide) (by decide)) (consE (fpZ (by decide) (by decide)) (consE (fpZ (by decide) (by decide)) (consE (fpZ (by decide) (by decide)) (consE (fpZ (by decide) (by decide)) rfl)))))))))
theorem enc1 {a : Int} (ha : Oc a) : encOf ([a] : List Int) = [codeAt (w0 a), codeAt (w1 a 0), 61, 61] := by
  show encEnd (encTurn ⟨0 * 256 + 0, 0, []⟩ a) = _
  rw [et0 oc0 ha, ee2]
  rfl
theorem num1 {a : Int} (ha : Oc a) : TextOk (encOf ([a] : List Int)) ∧ numC (encOf ([a] : List Int)) = toldOf [a] := by
  rw [enc1 ha]
  refine ⟨⟨Nat.le_of_ble_eq_true rfl, okCons (cs0 ha).2 (okCons (cs1 oc0).2 (okCons sign61 (okCons sign61 (fun _ h => nomatch h))))⟩, ?_⟩
  exact num_all (full := [figV (w0 a), figV (w1 a 0), 13, 13, 0, 0, 0, 0]) (k := 4) (mapC (cs0 ha).1 (mapC (cs1 oc0).1 (mapC fig61 (mapC fig61 rfl)))) rfl rfl (told8 ha oc0 oc0 oc0 oc0 oc0 (show padOf [a] = [a, 0, 0, 0, 0, 0] from rfl) (n := 1) rfl (consE (fpV (by decide)) (consE (fpV (by decide)) (consE (fpP (by decide) (by decide)) (consE (fpP (by decide) (by decide)) (consE (fpZ (by decide) (by decide)) (consE (fpZ (by decide) (by decide)) (consE (fpZ (by decide) (by decide)) (consE (fpZ (by decide) (by decide)) rfl)))))))))
theorem enc2 {a b : Int} (ha : Oc a) (hb : Oc b) : encOf ([a, b] : List Int) = [codeAt (w0 a), codeAt (w1 a b), codeAt (w2 b 0), 61] := by
  show encEnd (encTurn (encTurn ⟨0 * 256 + 0, 0, []⟩ a) b) = _
  rw [et0 oc0 ha, et2 ha hb, ee4]
  rfl
theorem num2 {a b : Int} (ha : Oc a) (hb : Oc b) : TextOk (encOf ([a, b] : List Int)) ∧ numC (encOf ([a, b] : List Int)) = toldOf [a, b] := by
  rw [enc2 ha hb]
  refine ⟨⟨Nat.le_of_ble_eq_true rfl, okCons (cs0 ha).2 (okCons (cs1 hb).2 (okCons (cs2 oc0).2 (okCons sign61 (fun _ h => nomatch h))))⟩, ?_⟩
  exact num_all (full := [figV (w0 a), figV (w1 a b), figV (w2 b 0), 13, 0, 0, 0, 0]) (k := 4) (mapC (cs0 ha).1 (mapC (cs1 hb).1 (mapC (cs2 oc0).1 (mapC fig61 rfl)))) rfl rfl (told8 ha hb oc0 oc0 oc0 oc0 (show padOf [a, b] = [a, b, 0, 0, 0, 0] from rfl) (n := 2) rfl (consE (fpV (by decide)) (consE (fpV (by decide)) (consE (fpV (by decide)) (consE (fpP (by decide) (by decide)) (consE (fpZ (by decide) (by decide)) (consE (fpZ (by decide) (by decide)) (consE (fpZ (by decide) (by decide)) (consE (fpZ (by decide) (by decide)) rfl)))))))))
theorem enc3 {a b c : Int} (ha : Oc a) (hb : Oc b) (hc : Oc c) : encOf ([a, b, c] : List Int) = [codeAt (w0 a), codeAt (w1 a b), codeAt (w2 b c), codeAt (w3 c)] := by
  show encEnd (encTurn (encTurn (encTurn ⟨0 * 256 + 0, 0, []⟩ a) b) c) = _
  rw [et0 oc0 ha, et2 ha hb, et4 hb hc, encEnd0]
  rfl
theorem num3 {a b c : Int} (ha : Oc a) (hb : Oc b) (hc : Oc c) : TextOk (encOf ([a, b, c] : List Int)) ∧ numC (encOf ([a, b, c] : List Int)) = toldOf [a, b, c] := by
  rw [enc3 ha hb hc]
  refine ⟨⟨Nat.le_of_ble_eq_true rfl, okCons (cs0 ha).2 (okCons (cs1 hb).2 (okCons (cs2 hc).2 (okCons (cs3).2 (fun _ h => nomatch h))))⟩, ?_⟩
  exact num_all (full := [figV (w0 a), figV (w1 a b), figV (w2 b c), figV (w3 c), 0, 0, 0, 0]) (k := 4) (mapC (cs0 ha).1 (mapC (cs1 hb).1 (mapC (cs2 hc).1 (mapC (cs3).1 rfl)))) rfl rfl (told8 ha hb hc oc0 oc0 oc0 (show padOf [a, b, c] = [a, b, c, 0, 0, 0] from rfl) (n := 3) rfl (consE (fpV (by decide)) (consE (fpV (by decide)) (consE (fpV (by decide)) (consE (fpV (by decide)) (consE (fpZ (by decide) (by decide)) (consE (fpZ (by decide) (by decide)) (consE (fpZ (by decide) (by decide)) (consE (fpZ (by decide) (by decide)) rfl)))))))))
theorem enc4 {a b c d : Int} (ha : Oc a) (hb : Oc b) (hc : Oc c) (hd : Oc d) : encOf ([a, b, c, d] : List Int) = [codeAt (w0 a), codeAt (w1 a b), codeAt (w2 b c), codeAt (w3 c), codeAt (w0 d), codeAt (w1 d 0), 61, 61] := by
  show encEnd (encTurn (encTurn (encTurn (encTurn ⟨0 * 256 + 0, 0, []⟩ a) b) c) d) = _
  rw [et0 oc0 ha, et2 ha hb, et4 hb hc, et0 hc hd, ee2]
  rfl
theorem num4 {a b c d : Int} (ha : Oc a) (hb : Oc b) (hc : Oc c) (hd : Oc d) : TextOk (encOf ([a, b, c, d] : List Int)) ∧ numC (encOf ([a, b, c, d] : List Int)) = toldOf [a, b, c, d] := by
  rw [enc4 ha hb hc hd]
  refine ⟨⟨Nat.le_of_ble_eq_true rfl, okCons (cs0 ha).2 (okCons (cs1 hb).2 (okCons (cs2 hc).2 (okCons (cs3).2 (okCons (cs0 hd).2 (okCons (cs1 oc0).2 (okCons sign61 (okCons sign61 (fun _ h => nomatch h))))))))⟩, ?_⟩
  exact num_all (full := [figV (w0 a), figV (w1 a b), figV (w2 b c), figV (w3 c), figV (w0 d), figV (w1 d 0), 13, 13]) (k := 0) (mapC (cs0 ha).1 (mapC (cs1 hb).1 (mapC (cs2 hc).1 (mapC (cs3).1 (mapC (cs0 hd).1 (mapC (cs1 oc0).1 (mapC fig61 (mapC fig61 rfl)))))))) rfl rfl (told8 ha hb hc hd oc0 oc0 (show padOf [a, b, c, d] = [a, b, c, d, 0, 0] from rfl) (n := 4) rfl (consE (fpV (by decide)) (consE (fpV (by decide)) (consE (fpV (by decide)) (consE (fpV (by decide)) (consE (fpV (by decide)) (consE (fpV (by decide)) (consE (fpP (by decide) (by decide)) (consE (fpP (by decide) (by decide)) rfl)))))))))
theorem enc5 {a b c d e : Int} (ha : Oc a) (hb : Oc b) (hc : Oc c) (hd : Oc d) (he : Oc e) : encOf ([a, b, c, d, e] : List Int) = [codeAt (w0 a), codeAt (w1 a b), codeAt (w2 b c), codeAt (w3 c), codeAt (w0 d), codeAt (w1 d e), codeAt (w2 e 0), 61] := by
  show encEnd (encTurn (encTurn (encTurn (encTurn (encTurn ⟨0 * 256 + 0, 0, []⟩ a) b) c) d) e) = _
  rw [et0 oc0 ha, et2 ha hb, et4 hb hc, et0 hc hd, et2 hd he, ee4]
  rfl
theorem num5 {a b c d e : Int} (ha : Oc a) (hb : Oc b) (hc : Oc c) (hd : Oc d) (he : Oc e) : TextOk (encOf ([a, b, c, d, e] : List Int)) ∧ numC (encOf ([a, b, c, d, e] : List Int)) = toldOf [a, b, c, d, e] := by
  rw [enc5 ha hb hc hd he]
  refine ⟨⟨Nat.le_of_ble_eq_true rfl, okCons (cs0 ha).2 (okCons (cs1 hb).2 (okCons (cs2 hc).2 (okCons (cs3).2 (okCons (cs0 hd).2 (okCons (cs1 he).2 (okCons (cs2 oc0).2 (okCons sign61 (fun _ h => nomatch h))))))))⟩, ?_⟩
  exact num_all (full := [figV (w0 a), figV (w1 a b), figV (w2 b c), figV (w3 c), figV (w0 d), figV (w1 d e), figV (w2 e 0), 13]) (k := 0) (mapC (cs0 ha).1 (mapC (cs1 hb).1 (mapC (cs2 hc).1 (mapC (cs3).1 (mapC (cs0 hd).1 (mapC (cs1 he).1 (mapC (cs2 oc0).1 (mapC fig61 rfl)))))))) rfl rfl (told8 ha hb hc hd he oc0 (show padOf [a, b, c, d, e] = [a, b, c, d, e, 0] from rfl) (n := 5) rfl (consE (fpV (by decide)) (consE (fpV (by decide)) (consE (fpV (by decide)) (consE (fpV (by decide)) (consE (fpV (by decide)) (consE (fpV (by decide)) (consE (fpV (by decide)) (consE (fpP (by decide) (by decide)) rfl)))))))))
theorem enc6 {a b c d e f : Int} (ha : Oc a) (hb : Oc b) (hc : Oc c) (hd : Oc d) (he : Oc e) (hf : Oc f) : encOf ([a, b, c, d, e, f] : List Int) = [codeAt (w0 a), codeAt (w1 a b), codeAt (w2 b c), codeAt (w3 c), codeAt (w0 d), codeAt (w1 d e), codeAt (w2 e f), codeAt (w3 f)] := by
  show encEnd (encTurn (encTurn (encTurn (encTurn (encTurn (encTurn ⟨0 * 256 + 0, 0, []⟩ a) b) c) d) e) f) = _
  rw [et0 oc0 ha, et2 ha hb, et4 hb hc, et0 hc hd, et2 hd he, et4 he hf, encEnd0]
  rfl
theorem num6 {a b c d e f : Int} (ha : Oc a) (hb : Oc b) (hc : Oc c) (hd : Oc d) (he : Oc e) (hf : Oc f) : TextOk (encOf ([a, b, c, d, e, f] : List Int)) ∧ numC (encOf ([a, b, c, d, e, f] : List Int)) = toldOf [a, b, c, d, e, f] := by
  rw [enc6 ha hb hc hd he hf]
  refine ⟨⟨Nat.le_of_ble_eq_true rfl, okCons (cs0 ha).2 (okCons (cs1 hb).2 (okCons (cs2 hc).2 (okCons (cs3).2 (okCons (cs0 hd).2 (okCons (cs1 he).2 (okCons (cs2 hf).2 (okCons (cs3).2 (fun _ h => nomatch h))))))))⟩, ?_⟩
  exact num_all (full := [figV (w0 a), figV (w1 a b), figV (w2 b c), figV (w3 c), figV (w0 d), figV (w1 d e), figV (w2 e f), figV (w3 f)]) (k := 0) (mapC (cs0 ha).1 (mapC (cs1 hb).1 (mapC (cs2 hc).1 (mapC (cs3).1 (mapC (cs0 hd).1 (mapC (cs1 he).1 (mapC (cs2 hf).1 (mapC (cs3).1 rfl)))))))) rfl rfl (told8 ha hb hc hd he hf (show padOf [a, b, c, d, e, f] = [a, b, c, d, e, f] from rfl) (n := 6) rfl (consE (fpV (by decide)) (consE (fpV (by decide)) (consE (fpV (by decide)) (consE (fpV (by decide)) (consE (fpV (by decide)) (consE (fpV (by decide)) (consE (fpV (by decide)) (consE (fpV (by decide)) rfl)))))))))
theorem text_told {os : List Int} (h : OctsOk os) : TextOk (encOf os) ∧ numC (encOf os) = toldOf os := by
  obtain ⟨hl, hin⟩ := h
  match os, hl, hin with
  | [], _, hin => exact num0 
  | [a], _, hin => exact num1 (hin _ (.head _))
  | [a, b], _, hin => exact num2 (hin _ (.head _)) (hin _ (.tail _ (.head _)))
  | [a, b, c], _, hin => exact num3 (hin _ (.head _)) (hin _ (.tail _ (.head _))) (hin _ (.tail _ (.tail _ (.head _))))
  | [a, b, c, d], _, hin => exact num4 (hin _ (.head _)) (hin _ (.tail _ (.head _))) (hin _ (.tail _ (.tail _ (.head _)))) (hin _ (.tail _ (.tail _ (.tail _ (.head _)))))
  | [a, b, c, d, e], _, hin => exact num5 (hin _ (.head _)) (hin _ (.tail _ (.head _))) (hin _ (.tail _ (.tail _ (.head _)))) (hin _ (.tail _ (.tail _ (.tail _ (.head _))))) (hin _ (.tail _ (.tail _ (.tail _ (.tail _ (.head _))))))
  | [a, b, c, d, e, f], _, hin => exact num6 (hin _ (.head _)) (hin _ (.tail _ (.head _))) (hin _ (.tail _ (.tail _ (.head _)))) (hin _ (.tail _ (.tail _ (.tail _ (.head _))))) (hin _ (.tail _ (.tail _ (.tail _ (.tail _ (.head _)))))) (hin _ (.tail _ (.tail _ (.tail _ (.tail _ (.tail _ (.head _)))))))
  | _ :: _ :: _ :: _ :: _ :: _ :: _ :: _, hl, _ => exact absurd hl (by simp only [List.length_cons]; omega)

end

-- part Ord
section
theorem slot_bytes_lt : Slot "bytes" (cmpInfo .Lt).2.1 "bytes.__lt__" :=
  .of (owner := "bytes") (n := "__lt__") (by rw [typeLookup_type, builtinLookup_eq_fast]; kernel_rfl) (by decide +kernel) (by decide +kernel) (by decide +kernel)
    (by first | exact .inl (by decide +kernel) | exact .inr (by decide +kernel)) (by rw [isSubtype_type]; kernel_rfl)
theorem entry_bytes_lt : entryFor table "bytes.__lt__" = some Builtin.«bytes.__lt__» := entryFor_of_tree (by kernel_rfl)
theorem args_bytes_lt_2 (a b : Value) : argsOk "bytes.__lt__" ⟨[a, b], []⟩ := by
  unfold argsOk; rw [signature?_of (id := "bytes.__lt__") (n := ['_', '_', 't', 'l', '_', '_']) (o := ['s', 'e', 't', 'y', 'b']) (by kernel_rfl) FB.owner_bytes]; kernel_rfl
theorem gives_bytes_lt (b c : Array UInt8) (t u : Tok) : Gives (Builtin.«bytes.__lt__» ⟨[.bytes b t, .bytes c u], []⟩) (.val (.bool (Builtin.Bytes.order b.toList c.toList == .lt))) := by
  refine .of_wp fun M A E s Q hq => ?_
  show wpAny M A (isInstance (.bytes c u) (.type "bytes") >>= fun r => _) _ E s
  refine wpAny_bind (wpAny_isInstance (typeIs_bytes s c u) PySem.F.sub_bytes_bytes ?_)
  exact wpAny_pure ⟨_, rfl, hq⟩
theorem lt_bytes {prog : Program} {w : World} {A : Around} {E : Value → Shared → Prop} {s : Shared} {b c : Array UInt8} {t u : Tok} {Q : Value → Shared → Prop} (h : Q (.bool (Builtin.Bytes.order b.toList c.toList == .lt)) s) :
    wpAny (model prog w) A (compareOp .Lt (.bytes b t) (.bytes c u)) Q E s :=
  compareOp_gives (op := .Lt) (typeIs_bytes s b t) (typeIs_bytes s c u) slot_bytes_lt entry_bytes_lt (args_bytes_lt_2 _ _) (gives_bytes_lt b c t u) (fun e => nomatch e) h

/-- a row of signs as k figures to the base 66 -/
noncomputable def valK : Nat → List Int → Int
  | _, [] => 0
  | 0, _ :: _ => 0
  | k + 1, c :: r => figC c * 66 ^ k + valK k r
def Signs (cs : List Int) : Prop := ∀ c ∈ cs, ∃ i, i < 65 ∧ c = signAt i
theorem pow66 (k : Nat) : (66 : Int) ^ (k + 1) = 66 ^ k * 66 := Int.pow_succ _ _
theorem pow66_pos (k : Nat) : (0 : Int) < 66 ^ k := Int.pow_pos (by decide)
theorem fig_bound {c : Int} (h : ∃ i, i < 65 ∧ c = signAt i) : 1 ≤ figC c ∧ figC c ≤ 65 := by
  obtain ⟨i, hi, rfl⟩ := h
  rw [figC_at hi]; omega
theorem valK_bound : ∀ (k : Nat) (cs : List Int), cs.length ≤ k → Signs cs → 0 ≤ valK k cs ∧ valK k cs < 66 ^ k
  | k, [], _, _ => by
    have := pow66_pos k
    cases k <;> exact ⟨Int.le_refl _, this⟩
  | 0, _ :: _, h, _ => by simp at h
  | k + 1, c :: r, h, hs => by
    have ih := valK_bound k r (by simpa using h) fun x hx => hs x (.tail _ hx)
    have hf := fig_bound (hs c (.head _))
    have hp := pow66_pos k
    have h1 : (66 : Int) ^ k ≤ figC c * 66 ^ k := by
      have := Int.mul_le_mul_of_nonneg_right hf.1 (Int.le_of_lt hp)
      rwa [Int.one_mul] at this
    have h2 : figC c * 66 ^ k ≤ 65 * 66 ^ k := Int.mul_le_mul_of_nonneg_right hf.2 (Int.le_of_lt hp)
    show 0 ≤ figC c * 66 ^ k + valK k r ∧ figC c * 66 ^ k + valK k r < 66 ^ (k + 1)
    rw [pow66]
    omega
theorem fold_val : ∀ (cs : List Int) (k : Nat) (acc : Int), cs.length ≤ k → cs.foldl (fun a c => a * 66 + figC c) acc * 66 ^ (k - cs.length) = acc * 66 ^ k + valK k cs
  | [], k, acc, _ => by cases k <;> simp [valK]
  | c :: r, 0, _, h => by simp at h
  | c :: r, k + 1, acc, h => by
    have ih := fold_val r k (acc * 66 + figC c) (by simpa using h)
    have e : k + 1 - (c :: r).length = k - r.length := by simp
    rw [List.foldl_cons, e, ih]
    show (acc * 66 + figC c) * 66 ^ k + valK k r = acc * 66 ^ (k + 1) + (figC c * 66 ^ k + valK k r)
    rw [pow66, Int.add_mul, Int.mul_assoc, Int.mul_comm 66 (66 ^ k)]
    omega
theorem numC_val {cs : List Int} (h : cs.length ≤ 8) : numC cs = valK 8 cs := by
  have := fold_val cs 8 0 h
  unfold numC
  rw [show (8 - (cs.length : Int)).toNat = 8 - cs.length by omega, this]
  omega
theorem sign_mono {i j : Nat} (hi : i < 65) (hj : j < 65) : signAt i < signAt j ↔ i < j := by
  have key : ∀ i : Fin 65, ∀ j : Fin 65, (signAt i.val < signAt j.val ↔ i.val < j.val) := by decide +kernel
  exact key ⟨i, hi⟩ ⟨j, hj⟩
theorem fig_lt {c d : Int} (hc : ∃ i, i < 65 ∧ c = signAt i) (hd : ∃ i, i < 65 ∧ d = signAt i) (h : c < d) : figC c + 1 ≤ figC d := by
  obtain ⟨i, hi, rfl⟩ := hc
  obtain ⟨j, hj, rfl⟩ := hd
  rw [figC_at hi, figC_at hj]
  have := (sign_mono hi hj).mp h
  omega
def Told3 (o : Ordering) (x y : Int) : Prop := match o with | .lt => x < y | .eq => x = y | .gt => y < x
theorem order_val : ∀ (k : Nat) (a b : List UInt8), a.length ≤ k → b.length ≤ k → Signs (a.map fun c => (c.toNat : Int)) → Signs (b.map fun c => (c.toNat : Int)) →
    Told3 (Builtin.Bytes.order a b) (valK k (a.map fun c => (c.toNat : Int))) (valK k (b.map fun c => (c.toNat : Int)))
  | k, [], [], _, _, _, _ => by cases k <;> exact rfl
  | 0, _ :: _, _, h, _, _, _ => by simp at h
  | 0, [], _ :: _, _, h, _, _ => by simp at h
  | k + 1, [], y :: b, _, hb, _, sb => by
    have hv := valK_bound k (b.map fun c => (c.toNat : Int)) (by simpa using hb) fun x hx => sb x (.tail _ hx)
    have s0 : ∃ i, i < 65 ∧ (y.toNat : Int) = signAt i := sb _ (.head _)
    have hf := fig_bound s0
    have hp := pow66_pos k
    have h1 := Int.mul_le_mul_of_nonneg_right hf.1 (Int.le_of_lt hp)
    show (0 : Int) < figC (y.toNat : Int) * 66 ^ k + valK k (b.map fun c => (c.toNat : Int))
    omega
  | k + 1, x :: a, [], ha, _, sa, _ => by
    have hv := valK_bound k (a.map fun c => (c.toNat : Int)) (by simpa using ha) fun x hx => sa x (.tail _ hx)
    have s0 : ∃ i, i < 65 ∧ (x.toNat : Int) = signAt i := sa _ (.head _)
    have hf := fig_bound s0
    have hp := pow66_pos k
    have h1 := Int.mul_le_mul_of_nonneg_right hf.1 (Int.le_of_lt hp)
    show (0 : Int) < figC (x.toNat : Int) * 66 ^ k + valK k (a.map fun c => (c.toNat : Int))
    omega
  | k + 1, x :: a, y :: b, ha, hb, sa, sb => by
    have va := valK_bound k (a.map fun c => (c.toNat : Int)) (by simpa using ha) fun x hx => sa x (.tail _ hx)
    have vb := valK_bound k (b.map fun c => (c.toNat : Int)) (by simpa using hb) fun x hx => sb x (.tail _ hx)
    have hp := pow66_pos k
    have sx : ∃ i, i < 65 ∧ (x.toNat : Int) = signAt i := sa _ (.head _)
    have sy : ∃ i, i < 65 ∧ (y.toNat : Int) = signAt i := sb _ (.head _)
    have ih := order_val k a b (by simpa using ha) (by simpa using hb) (fun x hx => sa x (.tail _ hx)) (fun x hx => sb x (.tail _ hx))
    unfold Builtin.Bytes.order
    show Told3 _ (figC (x.toNat : Int) * 66 ^ k + valK k (a.map fun c => (c.toNat : Int))) (figC (y.toNat : Int) * 66 ^ k + valK k (b.map fun c => (c.toNat : Int)))
    by_cases h1 : x < y
    · rw [if_pos h1]
      have h2 := fig_lt sx sy (by have := UInt8.lt_iff_toNat_lt.mp h1; omega)
      have h3 := Int.mul_le_mul_of_nonneg_right h2 (Int.le_of_lt hp)
      rw [Int.add_mul] at h3
      show _ < _
      omega
    · rw [if_neg h1]
      by_cases h2 : x > y
      · rw [if_pos h2]
        have h2 := fig_lt sy sx (by have := UInt8.lt_iff_toNat_lt.mp h2; omega)
        have h3 := Int.mul_le_mul_of_nonneg_right h2 (Int.le_of_lt hp)
        rw [Int.add_mul] at h3
        show _ < _
        omega
      · rw [if_neg h2]
        have e : x = y := UInt8.le_antisymm (UInt8.not_lt.mp h2) (UInt8.not_lt.mp h1)
        subst e
        unfold Told3 at ih ⊢
        split <;> simp_all <;> omega

/-- a text and its number -/
def RTxt (v : Value) (k : Int) : Prop := ∃ b t, v = .bytes b t ∧ TextOk (KBw.bInts b) ∧ numC (KBw.bInts b) = k
theorem order_num {a b : Array UInt8} (ha : TextOk (KBw.bInts a)) (hb : TextOk (KBw.bInts b)) : (Builtin.Bytes.order a.toList b.toList == .lt) = decide (numC (KBw.bInts a) < numC (KBw.bInts b)) := by
  rw [numC_val ha.1, numC_val hb.1]
  have la : a.toList.length ≤ 8 := by have := ha.1; simpa [KBw.bInts] using this
  have lb : b.toList.length ≤ 8 := by have := hb.1; simpa [KBw.bInts] using this
  have h := order_val 8 a.toList b.toList la lb ha.2 hb.2
  unfold KBw.bInts
  cases e : Builtin.Bytes.order a.toList b.toList <;> rw [e] at h <;> unfold Told3 at h <;> dsimp only at h
  · rw [decide_eq_true h]; rfl
  · rw [decide_eq_false (by omega)]; rfl
  · rw [decide_eq_false (by omega)]; rfl
theorem ltTxt (w : World) : LtRule w RTxt := by
  rintro A s a b j k Q E ⟨x, t, rfl, hx, rfl⟩ ⟨y, u, rfl, hy, rfl⟩ h
  refine lt_bytes ?_
  rw [order_num hx hy]
  exact h

end

-- part Led
section
theorem led_add {h₀ h h' : Heap} {L l : Addr} {o : Obj} {m : Str → Option Value} {news : List (Addr × Obj)} (F : Fr h₀ L h m) (N : News h₀ L h news) (kp : ∀ b ob, h.get? b = some ob → h'.get? b = some ob)
    (hn : h.get? l = none) (hl : h'.get? l = some o) : Fr h₀ L h' m ∧ News h₀ L h' ((l, o) :: news) ∧ ∀ q ∈ news, l ≠ q.1 := by
  obtain ⟨⟨oL, es, ep, hL, r⟩, kk, ab⟩ := F
  refine ⟨⟨⟨oL, es, ep, kp _ _ hL, r⟩, fun b ob e => kp _ _ (kk b ob e), ab⟩, fun q hq => ?_, fun q hq e => ?_⟩
  · rcases List.mem_cons.mp hq with rfl | hq
    · refine ⟨hl, ?_, ?_⟩
      · intro e; dsimp only at e; subst e; rw [hL] at hn; cases hn
      · cases e : h₀.get? l with
        | none => rfl
        | some ob => rw [kk _ _ e] at hn; cases hn
    · exact ⟨kp _ _ (N q hq).1, (N q hq).2⟩
  · rw [e, (N q hq).1] at hn; cases hn
theorem led_keep {h₀ h h' : Heap} {L : Addr} {m : Str → Option Value} {news : List (Addr × Obj)} (F : Fr h₀ L h m) (N : News h₀ L h news) (kp : ∀ b ob, h.get? b = some ob → h'.get? b = some ob) :
    Fr h₀ L h' m ∧ News h₀ L h' news := by
  obtain ⟨⟨oL, es, ep, hL, r⟩, kk, ab⟩ := F
  exact ⟨⟨⟨oL, es, ep, kp _ _ hL, r⟩, fun b ob e => kp _ _ (kk b ob e), ab⟩, fun q hq => ⟨kp _ _ (N q hq).1, (N q hq).2⟩⟩

end

-- part Lany
section
/-- _law_call, refused or not, from law's own frame -/
theorem lany {w : World} {A₀ A : Around} {s : Shared} {h₀ : Heap} {L : Addr} {m mg mb : Str → Option Value} {env : Env} {mean : ExcName → Option Value}
    {R : Value → Int → Prop} {l : Addr} {vs : List Value} {ks : List Int} {n c : Nat} {t : Tok} {x : Int} {v : Value} {rest : List (Addr × Obj)} {Q E : Value → Shared → Prop}
    (B : Below A₀ h₀ [] h₀) (F : Fr h₀ L s.heap m) (X : (hd.heap_39 w.params).In h₀) (N : News h₀ L s.heap ((l, listOf vs.toArray n) :: rest)) (hne : ∀ q ∈ rest, q.1 ≠ l)
    (T : Top hd.view_39 (looseW hd.view_39 [Str.ofString "b2a_base64", Str.ofString "b64encode"]) mean mg mb h₀)
    (hA : A.frames = some [env]) (hf : env.frame = some L) (hke : env.scope.kind = .function) (hroom : A.depth + 6 < recursionLimit) (hnh : A.handled = none)
    (hR : LtRule w R) (hi : All2 R vs ks) (hfit : ks.length < 1000) (hv : R v x) (hc : c ≤ 5)
    (hq : ∀ h' tk' vs' n' v', Fr h₀ L h' m → News h₀ L h' ((l, listOf vs'.toArray n') :: rest) → All2 R vs' (stepL c ks x) → AnsIs R v' (stepA c ks x) → Q v' { s with heap := h', toks := tk' }) :
    wpAny (model PySem.Challenge.rw_mq0155_01.row.prog w) A (call (.ref 129) [.int c t, .ref l, v]) Q E s := by
  by_cases h : (c = 2 ∨ c = 3) ∧ ks.length = 0
  · obtain ⟨hc', h0⟩ := h
    have hk : ks = [] := List.eq_nil_of_length_eq_zero h0
    subst hk
    have hvs : vs = [] := List.eq_nil_of_length_eq_zero hi.length
    subst hvs
    refine lref B F X N T hA hf hke hroom hnh hc' fun h' tk' t' F' N' => hq _ _ _ _ _ F' N' ?_ ?_
    · rcases hc' with rfl | rfl <;> exact .nil
    · rcases hc' with rfl | rfl <;> exact ⟨_, rfl⟩
  · refine lcall B F X (news_one N (.head _)) T hA hf hke hroom hnh hR hi hfit hv hc (fun hc' => Nat.pos_of_ne_zero fun e => h ⟨hc', e⟩) fun h' tk' vs' n' v' kp hl hi' hv' => ?_
    obtain ⟨F', N'⟩ := behindU F N (.head hne) kp hl
    exact hq _ _ _ _ _ F' N' hi' hv'

end

-- part LawRules
section
section
variable {prog : Program} {w : World} {A : Around} {E : Value → Shared → Prop} {s : Shared} {t u : Tok}
/-- a number drawn: its rest by 42 * 256 ** 6 -/
theorem mod_drawn {a : Int} {Q : Value → Shared → Prop} (h : ∀ (d : Nat) t' tk', d < 6 * (7 * 256 ^ 6) → Q (.int (d : Int) t') { s with toks := tk' }) :
    wpAny (model prog w) A (binaryOp .Mod (.int a t) (.int (42 * 256 ^ Int.toNat 6) u)) Q E s := by
  refine PyProof.Rows.mod_int (by decide) ?_
  have h0 := Int.fmod_nonneg_of_pos a (b := 42 * 256 ^ Int.toNat 6) (by decide)
  have h1 := Int.fmod_lt_of_pos a (b := 42 * 256 ^ Int.toNat 6) (by decide)
  have e : ((a.fmod (42 * 256 ^ Int.toNat 6)).toNat : Int) = a.fmod (42 * 256 ^ Int.toNat 6) := Int.toNat_of_nonneg h0
  rw [← e] at h1 ⊢
  refine h _ _ _ ?_
  have e2 : (42 * 256 ^ Int.toNat 6 : Int) = ((6 * (7 * 256 ^ 6) : Nat) : Int) := by decide
  rw [e2] at h1
  exact Int.ofNat_lt.mp h1
theorem mod_six {d : Nat} {Q : Value → Shared → Prop} (h : ∀ t' tk', Q (.int ((d % 6 : Nat) : Int) t') { s with toks := tk' }) :
    wpAny (model prog w) A (binaryOp .Mod (.int (d : Int) t) (.int 6 u)) Q E s := by
  refine PyProof.Rows.mod_int (by decide) ?_
  have e : (d : Int).fmod 6 = ((d % 6 : Nat) : Int) := by rw [Int.fmod_eq_emod_of_nonneg _ (by omega)]; omega
  rw [e]
  exact h _ _
theorem div_six {d : Nat} {Q : Value → Shared → Prop} (h : ∀ t' tk', Q (.int ((d / 6 : Nat) : Int) t') { s with toks := tk' }) :
    wpAny (model prog w) A (binaryOp .FloorDiv (.int (d : Int) t) (.int 6 u)) Q E s := by
  refine floordiv_int (by decide) ?_ (Or.inl (PyProof.noPylong_of_log2 (by decide +kernel)))
  have e : (d : Int).fdiv 6 = ((d / 6 : Nat) : Int) := by rw [Int.fdiv_eq_ediv_of_nonneg _ (by omega)]; omega
  rw [e]
  exact h _ _
end
theorem keep_one {h h' : Heap} {l : Addr} {o : Obj} (kp : ∀ b ob, b ≠ l → h.get? b = some ob → h'.get? b = some ob) (h0 : h.get? l = some o) (hl : h'.get? l = some o) : ∀ b ob, h.get? b = some ob → h'.get? b = some ob := fun b ob e => by
  by_cases q : b = l
  · subst q; rw [h0] at e; rw [hl]; exact e
  · exact kp b ob q e
theorem due_len {ps : List Int} {x : Int} {c : Nat} {a : Ans} {ps' : List Int} (h : DueIs ps x c a ps') : ps'.length ≤ ps.length + 1 := by
  cases h with
  | turn => omega
  | none2 _ => omega
  | none3 _ => omega
  | push0 => simp
  | push1 => simp
  | @pop M h _ => rw [List.length_erase_of_mem h]; omega
  | @rep M h _ => rw [List.length_append, List.length_erase_of_mem h, List.length_singleton]; omega
  | @pushpop M h _ => rw [List.length_erase_of_mem h, List.length_append, List.length_singleton]; omega
/-- octets as bytes, written out as a text, told -/
theorem text_ok {os : List Int} {r b : Array UInt8} (hok : OctsOk os) (hb : KBw.bInts b = os) (h : KBw.bInts r = encOf (KBw.bInts b)) : TextOk (KBw.bInts r) ∧ numC (KBw.bInts r) = toldOf os := by
  rw [h, hb]; exact text_told hok
theorem half_nat {prog : Program} {w : World} {A : Around} {E : Value → Shared → Prop} {s : Shared} {t u : Tok} {p : Nat} {Q : Value → Shared → Prop} (h : ∀ t' tk', Q (.int ((p / 2 : Nat) : Int) t') { s with toks := tk' }) :
    wpAny (model prog w) A (binaryOp .FloorDiv (.int (p : Int) t) (.int 2 u)) Q E s := by
  refine floordiv_int (by decide) ?_ (Or.inl (PyProof.noPylong_of_log2 (by decide +kernel)))
  have e : (p : Int).fdiv 2 = ((p / 2 : Nat) : Int) := by rw [Int.fdiv_eq_ediv_of_nonneg _ (by omega)]; omega
  rw [e]
  exact h _ _

end

-- part LawPair
section
theorem RTxt.one {v : Value} {j k : Int} (h1 : RTxt v j) (h2 : RTxt v k) : j = k := by
  obtain ⟨b, t, rfl, _, rfl⟩ := h1
  obtain ⟨b', t', e, _, rfl⟩ := h2
  cases e
  rfl
theorem paired_nums : ∀ {vs : List Value} {ks : List Int} {ys : List Value}, All2 RTxt vs ks → Paired (fun v y => ∃ k, RTxt v k ∧ RInt y k) vs ys → All2 RInt ys ks
  | _, _, _, .nil, .nil => .nil
  | _, _, _, .cons r t, .cons ⟨k, r', q⟩ p => by
    have e := RTxt.one r r'
    subst e
    exact .cons q (paired_nums t p)
theorem same_items {vs us : List Value} (hlen : us.length = vs.length) (h : ∀ (j : Nat) (v : Value), us[j]? = some v → vs[j]? = some v) : us = vs := by
  apply List.ext_getElem? 
  intro j
  by_cases hj : j < us.length
  · rw [List.getElem?_eq_getElem hj]
    exact (h j _ (List.getElem?_eq_getElem hj)).symm
  · rw [List.getElem?_eq_none (by omega), List.getElem?_eq_none (by omega)]
theorem sorted_one {a b : List Int} (h : a.Perm b) (ha : a.Pairwise (· ≤ ·)) (hb : b.Pairwise (· ≤ ·)) : a = b :=
  List.Perm.eq_of_pairwise (fun _ _ _ _ h1 h2 => Int.le_antisymm h1 h2) ha hb h

end

-- part Law
section
/-- what law's loop turns -/
structure LS where
  vh : List Value
  vm : List Value
  vp : List Value
  nh : Nat
  nm : Nat
  np : Nat
  ks : List Int
  ps : List Int
set_option maxHeartbeats 8000000 in
theorem law_holds : PySem.Challenge.rw_mq0155_01.Holds := hd (by
  w_top off
  w_strict (k_go0; (all_goals try k_fold))
  rename Below _ _ _ _ => B0
  rename Frag.In _ _ => X0
  rename Top _ _ _ _ _ _ => T0
  rename World => w
  rename Shared => s1
  k_with_none
  k_with "subscriptTail" => (k_here; (with_reducible show wpAny _ _ (subscriptTail _ _ (Value.ref _) (Value.int _ _)) _ _ _); k_dflt (refine' lst_sub ?k1 ?k2 ?k3 ?k4 ?k5 ?k6 ?_ ?k7; (case k1 => k_asm); (case k2 => k_mem); (case k3 => with_reducible assumption); (case k4 => exact rfl); (case k5 => omega); (case k6 => omega); (case k7 => with_unfolding_all rfl); k_whole); intro _ _)
  k_with "setItem ref int" => (k_here; k_dflt (refine' lst_set ?k1 ?k2 ?ke ?k3 ?k4 ?kv ?k6 ?k7 ?_; (case ke => exact rfl); (case k1 => k_asm); (case k2 => k_asm); (case k3 => k_upd); (case k4 => with_reducible assumption); (case kv => with_reducible assumption); (case k6 => omega); (case k7 => omega); k_whole); intro _ _ _ _; (try k_sweep))
  k_with "compareOp Lt" => (k_here; k_dflt (refine' lt_use (by with_reducible assumption) ?k1 ?k2 ?_; (case k1 => with_reducible assumption); (case k2 => with_reducible assumption); k_whole))
  k_with "binaryOp Add int int" => (k_here; (with_reducible refine add1_nat ?_); intro _ _)
  k_with "binaryOp Mult int int" => (k_here; (with_reducible refine mul2_nat ?_); intro _ _)
  k_with "call builtin:len" => (k_here; (with_reducible show wpAny _ _ (call (Value.builtin "len") [Value.ref _]) _ _ _); k_dflt (refine' lst_len ?k1 ?k2 ?k3 ?k4 ?_; (case k1 => k_asm); (case k2 => k_mem); (case k3 => with_reducible assumption); (case k4 => omega); k_whole); intro _ _)
  k_with "call builtin:list.append" => (k_here; (with_reducible show wpAny _ _ (call (Value.builtin _) [Value.ref _, _]) _ _ _); k_dflt (refine' lst_append ?k1 ?k2 ?k3 ?k4 ?k5 ?k6 ?_; (case k1 => k_asm); (case k2 => k_asm); (case k3 => k_upd); (case k4 => with_reducible assumption); (case k5 => with_reducible assumption); (case k6 => omega); k_whole); intro _ _ _ _ _; (try k_sweep))
  k_with "call builtin:list.pop" => (k_here; (with_reducible show wpAny _ _ (call (Value.builtin _) [Value.ref _]) _ _ _); k_dflt (refine' lst_pop ?k1 ?k2 ?k3 ?k4 ?k5 ?k6 ?_; (case k1 => k_asm); (case k2 => k_asm); (case k3 => k_upd); (case k4 => with_reducible assumption); (case k5 => omega); (case k6 => omega); k_whole); intro _ _ _ _ _ _ _; (try k_sweep))
  k_with "truthy ref" => (k_here; k_dflt (refine' lst_truthy ?k1 ?k2 ?k3 ?k4 ?_; (case k1 => k_asm); (case k2 => k_mem); (case k3 => with_reducible assumption); (case k4 => omega); k_whole); intro _)
  k_with "call builtin:list.reverse" => (k_here; (with_reducible show wpAny _ _ (call (Value.builtin _) [Value.ref _]) _ _ _); k_dflt (refine' lst_reverse ?k1 ?k2 ?k3 ?k4 ?k5 ?_; (case k1 => k_asm); (case k2 => k_asm); (case k3 => k_upd); (case k4 => with_reducible assumption); (case k5 => omega); k_whole); intro _ _ _ _ _; (try k_sweep))
  k_with "call type:type" => ((with_reducible show wpAny _ _ (call _ [Value.bytes _ _]) _ _ _); refine call_type_of (Tx := "bytes") rfl (by decide +kernel) ?_)
  k_with "call ref" => refine Hold.out ?_
  k_steps
  refine Hold.mk ?_
  rename Fr _ _ _ _ => F9
  rename News _ _ _ _ => N9
  refine tab_call B0 F9 X0 T0 (Around.frames_deeper B0.stack) rfl rfl (by rw [depth_deeper, depth_caller]; decide) rfl (by rw [units_deeper, units_caller]; decide) ?_
  intro h1 tk1 dt ot kvs kp hn hl hds hio htab
  obtain ⟨F1, N1, hne⟩ := led_add F9 N9 kp hn hl
  have hne1 := neN (hne _ (.head _))
  have hne2 := neN (hne _ (.tail _ (.head _)))
  dsimp only at hne1 hne2
  clear F9 N9 kp hn hne hl
  k_with_none
  k_with "subscriptTail" => (k_here; (with_reducible show wpAny _ _ (subscriptTail _ _ (Value.ref _) (Value.int _ _)) _ _ _); k_dflt (refine' lst_sub ?k1 ?k2 ?k3 ?k4 ?k5 ?k6 ?_ ?k7; (case k1 => k_asm); (case k2 => k_mem); (case k3 => with_reducible assumption); (case k4 => exact rfl); (case k5 => omega); (case k6 => omega); (case k7 => with_unfolding_all rfl); k_whole); intro _ _)
  k_with "setItem ref int" => (k_here; k_dflt (refine' lst_set ?k1 ?k2 ?ke ?k3 ?k4 ?kv ?k6 ?k7 ?_; (case ke => exact rfl); (case k1 => k_asm); (case k2 => k_asm); (case k3 => k_upd); (case k4 => with_reducible assumption); (case kv => with_reducible assumption); (case k6 => omega); (case k7 => omega); k_whole); intro _ _ _ _; (try k_sweep))
  k_with "compareOp Lt" => (k_here; k_dflt (refine' lt_use (by with_reducible assumption) ?k1 ?k2 ?_; (case k1 => with_reducible assumption); (case k2 => with_reducible assumption); k_whole))
  k_with "binaryOp Add int int" => (k_here; (with_reducible refine add1_nat ?_); intro _ _)
  k_with "binaryOp Mult int int" => (k_here; (with_reducible refine mul2_nat ?_); intro _ _)
  k_with "call builtin:len" => (k_here; (with_reducible show wpAny _ _ (call (Value.builtin "len") [Value.ref _]) _ _ _); k_dflt (refine' lst_len ?k1 ?k2 ?k3 ?k4 ?_; (case k1 => k_asm); (case k2 => k_mem); (case k3 => with_reducible assumption); (case k4 => omega); k_whole); intro _ _)
  k_with "call builtin:list.append" => (k_here; (with_reducible show wpAny _ _ (call (Value.builtin _) [Value.ref _, _]) _ _ _); k_dflt (refine' lst_append ?k1 ?k2 ?k3 ?k4 ?k5 ?k6 ?_; (case k1 => k_asm); (case k2 => k_asm); (case k3 => k_upd); (case k4 => with_reducible assumption); (case k5 => with_reducible assumption); (case k6 => omega); k_whole); intro _ _ _ _ _; (try k_sweep))
  k_with "call builtin:list.pop" => (k_here; (with_reducible show wpAny _ _ (call (Value.builtin _) [Value.ref _]) _ _ _); k_dflt (refine' lst_pop ?k1 ?k2 ?k3 ?k4 ?k5 ?k6 ?_; (case k1 => k_asm); (case k2 => k_asm); (case k3 => k_upd); (case k4 => with_reducible assumption); (case k5 => omega); (case k6 => omega); k_whole); intro _ _ _ _ _ _ _; (try k_sweep))
  k_with "truthy ref" => (k_here; k_dflt (refine' lst_truthy ?k1 ?k2 ?k3 ?k4 ?_; (case k1 => k_asm); (case k2 => k_mem); (case k3 => with_reducible assumption); (case k4 => omega); k_whole); intro _)
  k_with "call builtin:list.reverse" => (k_here; (with_reducible show wpAny _ _ (call (Value.builtin _) [Value.ref _]) _ _ _); k_dflt (refine' lst_reverse ?k1 ?k2 ?k3 ?k4 ?k5 ?_; (case k1 => k_asm); (case k2 => k_asm); (case k3 => k_upd); (case k4 => with_reducible assumption); (case k5 => omega); k_whole); intro _ _ _ _ _; (try k_sweep))
  k_with "call type:type" => ((with_reducible show wpAny _ _ (call _ [Value.bytes _ _]) _ _ _); refine call_type_of (Tx := "bytes") rfl (by decide +kernel) ?_)
  k_with "pyIter ref" => refine Hold.out ?_
  k_with "exec For Name BinOp cons nil" => ((rename Fr _ _ _ _ => lF'); (with_unfolding_all refine' For_invVF lF' ?k1 ?k2 ?_; (case k1 => exact rfl); (case k2 => exact rfl); k_whole))
  k_steps
  rename_i _ oT dT lH _ lH1 lM _ lM1 lP _ lP1 DT _ DT1 _ _ _ oM dM _ lC _ lC1 D1 ws1 _ hI1 hC hL D11 D ws _ F9 N9 hI l1
  refine Hold.mk ?_
  refine kst_listL (σ := LS) (l := D) (vs := ws) (nn := 0)
    (fun c => [(D, listOf ws.toArray 0), (lH, listOf c.vh.toArray c.nh), (lM, listOf c.vm.toArray c.nm), (lP, listOf c.vp.toArray c.np), (dt, ot), (s1.heap.objs.size + 1 + 1, oM), (s1.heap.objs.size + 1, oT)])
    (fun _ => []) (fun c => All2 RTxt c.vh c.ks ∧ All2 RInt c.vm c.ks ∧ All2 RInt c.vp c.ps)
    [Str.ofString "drawn", Str.ofString "octets", Str.ofString "text", Str.ofString "told", Str.ofString "call", Str.ofString "answer", Str.ofString "other", Str.ofString "given", Str.ofString "due"]
    (fun pre c => HeapOk c.ks ∧ c.ks.Perm c.ps ∧ c.ks.length ≤ pre.length) ⟨[], [], [], 0, 0, 0, [], []⟩ rfl (fun _ => .head _) hI F9
    (fun q hq => N9 q (by
      simp only [List.mem_cons, List.not_mem_nil, or_false] at hq ⊢
      rcases hq with e | e | e | e | e | e | e <;> subst e <;> simp)) ⟨.nil, .nil, .nil⟩ (fun _ h => nomatch h) ⟨fun k _ hk => absurd hk (Nat.not_lt_zero _), .nil, Nat.zero_le _⟩ ?_ ?_
  · clear F9 N9
    rintro ⟨vh, vm, vp, nh, nm, np, ks, ps⟩ pre post number tn u h tk own hns hmem hoff ⟨hih, him, hip⟩ ⟨hheap, hperm, hlen⟩ F N
    dsimp only [kstB] at F N hoff hih him hip hheap hperm hlen
    simp only [List.cons_append, List.nil_append] at N
    have hpre : pre.length < 23 := by
      have := congrArg List.length hns
      simp only [List.length_append, List.length_cons, List.length_nil] at this
      omega
    have hpl := hperm.length_eq
    k_with "call ref" => refine Hold.out ?_
    k_with "InvEndN" => refine Hold.out ?_
    k_with "binaryOp Mod int int" => first | ((with_reducible refine mod_drawn ?_); intro d9 _ _ hd9) | ((with_reducible refine mod_six ?_); intro _ _)
    k_with "binaryOp FloorDiv int int" => ((with_reducible refine div_six ?_); intro _ _)
    k_steps
    refine Hold.mk ?_
    rename Fr _ _ _ _ => F9
    rename News _ _ _ _ => N9
    refine oct_call B0 F9 X0 T0 (Around.frames_deeper B0.stack) rfl rfl (by rw [depth_deeper, depth_caller]; decide) rfl (by rw [units_deeper, units_caller]; decide) (by omega) ?_
    rintro h2 tk2 lo vo no kp hn hl ⟨os, hIo, hok⟩
    obtain ⟨F1, N1, hne⟩ := led_add F9 N9 kp hn hl
    have hneH := neN (hne _ (.tail _ (.head _)))
    have hneM := neN (hne _ (.tail _ (.tail _ (.head _))))
    have hneP := neN (hne _ (.tail _ (.tail _ (.tail _ (.head _)))))
    dsimp only at hneH hneM hneP
    clear F9 N9 kp hn hne hl
    k_with "call type:bytes" => (
      rename Fr _ _ _ _ => F9
      rename News _ _ _ _ => N9
      refine KBa.make_K F9 N9 rfl (News.isList N9 (by k_mem)) hIo hok.2 (by have := hok.1; omega) ?_
      intro h' t' k' F7 N7 hI7)
    k_steps
    refine Hold.mk ?_
    clear F9 N9
    refine enc_call B0 F7 X0 T0 (Around.frames_deeper B0.stack) rfl rfl (by rw [depth_deeper, depth_caller]; decide) rfl (by rw [units_deeper, units_caller]; decide) (by rw [← KBw.ints_length, KBa.ints_make hI7]; exact hok.1) ?_
    intro h3 tk3 t3 r kp hr
    obtain ⟨htx, hnum⟩ := text_ok hok (KBa.ints_make hI7) hr
    obtain ⟨F1, N1⟩ := led_keep F7 N7 kp
    clear F7 N7 kp hr hI7
    k_steps
    refine Hold.mk ?_
    rename Fr _ _ _ _ => F9
    rename News _ _ _ _ => N9
    refine told_call B0 F9 X0 (news_one N9 (.head _)) T0 (Around.frames_deeper B0.stack) rfl rfl (by rw [depth_deeper, depth_caller]; decide) rfl (by rw [units_deeper, units_caller]; decide) hIo hok ?_
    intro h4 tk4 t4 kp hl
    obtain ⟨F1, N1⟩ := led_keep F9 N9 (keep_one kp (N9 _ (.head _)).1 hl)
    clear F9 N9 kp hl
    k_steps
    refine Hold.mk ?_
    rename Fr _ _ _ _ => F9
    rename News _ _ _ _ => N9
    refine read_call B0 F9 X0 (news_one N9 (by k_mem)) T0 (Around.frames_deeper B0.stack) rfl rfl (by rw [depth_deeper, depth_caller]; decide) rfl (by rw [units_deeper, units_caller]; decide) hds hio htab htx ?_
    intro h5 tk5 t5 kp hl
    rw [hnum]
    obtain ⟨F1, N1⟩ := led_keep F9 N9 (keep_one kp (N9 (dt, ot) (by k_mem)).1 hl)
    clear F9 N9 kp hl
    k_steps
    refine Hold.mk ?_
    rename Fr _ _ _ _ => F9
    rename News _ _ _ _ => N9
    have N8 : News s1.heap s1.heap.objs.size _ ((lH, listOf vh.toArray nh) :: (D, listOf ws.toArray 0) :: (lM, listOf vm.toArray nm) :: (lP, listOf vp.toArray np) :: (dt, ot) :: (s1.heap.objs.size + 1 + 1, oM) :: (s1.heap.objs.size + 1, oT) :: own) := fun q hq => N9 q (by
      simp only [List.mem_cons] at hq ⊢
      rcases hq with e | e | e | e | e | e | e | e <;> simp [e])
    clear N9
    refine lany B0 F9 X0 N8 (by
      (repeat' (refine List.forall_mem_cons.mpr ⟨?_, ?_⟩))
      all_goals first | (dsimp only; refine neN ?_; omega) | exact hoff.ne (by simp)) T0 (Around.frames_deeper B0.stack) rfl rfl (by rw [depth_deeper, depth_caller]; decide) rfl (ltTxt w) hih (by omega) ⟨r, t3, rfl, htx, hnum⟩ (by omega) ?_
    intro h6 tk6 vh' nh' v1 F7 N7 hih' hv1
    clear F9 N8
    k_steps
    refine Hold.mk ?_
    rename Fr _ _ _ _ => F9
    rename News _ _ _ _ => N9
    have N8 : News s1.heap s1.heap.objs.size _ ((lM, listOf vm.toArray nm) :: (lH, listOf vh'.toArray nh') :: (D, listOf ws.toArray 0) :: (lP, listOf vp.toArray np) :: (dt, ot) :: (s1.heap.objs.size + 1 + 1, oM) :: (s1.heap.objs.size + 1, oT) :: own) := fun q hq => N9 q (by
      simp only [List.mem_cons] at hq ⊢
      rcases hq with e | e | e | e | e | e | e | e <;> simp [e])
    clear N9
    refine lany B0 F9 X0 N8 (by
      (repeat' (refine List.forall_mem_cons.mpr ⟨?_, ?_⟩))
      all_goals first | (dsimp only; refine neN ?_; omega) | exact hoff.ne (by simp)) T0 (Around.frames_deeper B0.stack) rfl rfl (by rw [depth_deeper, depth_caller]; decide) rfl (ltInt w) him (by omega) ⟨_, rfl⟩ (by omega) ?_
    intro h7 tk7 vm' nm' v2 F7 N7 him' hv2
    clear F9 N8
    cases hans : stepA (d9 % 6) ks (toldOf os) with
    | nothing =>
      rw [hans] at hv1 hv2
      cases hv1
      cases hv2
      k_steps
      refine Hold.mk ?_
      rename Fr _ _ _ _ => F9
      rename News _ _ _ _ => N9
      refine due_call B0 F9 X0 (news_one N9 (by k_mem)) T0 (Around.frames_deeper B0.stack) rfl rfl (by rw [depth_deeper, depth_caller]; decide) rfl hip (by omega) (by omega) (by rw [units_deeper, units_caller]; decide) ?_
      intro h8 tk8 vp' np' v3 ps' a kp hl hip' hdue hv3
      obtain ⟨ha, hheap', hperm'⟩ := step_due hheap hperm hdue
      have hlen' := due_len hdue
      rw [hans] at ha
      subst ha
      cases hv3
      obtain ⟨F8, N8⟩ := behindU F9 N9 (by k_upd) kp hl
      clear F9 N9
      k_steps
      refine Hold.mk ?_
      rename Fr _ _ _ _ => F9
      rename News _ _ _ _ => N9
      refine kst_end (⟨vh', vm', vp', nh', nm', np', stepL (d9 % 6) ks (toldOf os), ps'⟩ : LS) F9 N9 (by first | kst_in | kst_inAny) (by first | (intro p hp; kst_mem) | kst_anyIn) (by rfl) ⟨hih', him', hip'⟩ (fun _ h => nomatch h) (by kst_same) ⟨hheap', hperm', ?_⟩
      have := hperm'.length_eq
      dsimp only
      rw [List.length_append, List.length_singleton]
      omega
    | refused =>
      rw [hans] at hv1 hv2
      obtain ⟨t1, rfl⟩ := hv1
      obtain ⟨t2, rfl⟩ := hv2
      k_steps
      refine Hold.mk ?_
      rename Fr _ _ _ _ => F9
      rename News _ _ _ _ => N9
      refine due_call B0 F9 X0 (news_one N9 (by k_mem)) T0 (Around.frames_deeper B0.stack) rfl rfl (by rw [depth_deeper, depth_caller]; decide) rfl hip (by omega) (by omega) (by rw [units_deeper, units_caller]; decide) ?_
      intro h8 tk8 vp' np' v3 ps' a kp hl hip' hdue hv3
      obtain ⟨ha, hheap', hperm'⟩ := step_due hheap hperm hdue
      have hlen' := due_len hdue
      rw [hans] at ha
      subst ha
      obtain ⟨t9, rfl⟩ := hv3
      obtain ⟨F8, N8⟩ := behindU F9 N9 (by k_upd) kp hl
      clear F9 N9
      k_steps
      refine Hold.mk ?_
      rename Fr _ _ _ _ => F9
      rename News _ _ _ _ => N9
      refine kst_end (⟨vh', vm', vp', nh', nm', np', stepL (d9 % 6) ks (toldOf os), ps'⟩ : LS) F9 N9 (by first | kst_in | kst_inAny) (by first | (intro p hp; kst_mem) | kst_anyIn) (by rfl) ⟨hih', him', hip'⟩ (fun _ h => nomatch h) (by kst_same) ⟨hheap', hperm', ?_⟩
      have := hperm'.length_eq
      dsimp only
      rw [List.length_append, List.length_singleton]
      omega
    | key M =>
      rw [hans] at hv1 hv2
      obtain ⟨b1, t1, rfl, htx1, hnum1⟩ := hv1
      obtain ⟨t2, rfl⟩ := hv2
      k_steps
      refine Hold.mk ?_
      rename Fr _ _ _ _ => F9
      rename News _ _ _ _ => N9
      refine read_call B0 F9 X0 (news_one N9 (by k_mem)) T0 (Around.frames_deeper B0.stack) rfl rfl (by rw [depth_deeper, depth_caller]; decide) rfl (by rw [units_deeper, units_caller]; decide) hds hio htab htx1 ?_
      intro h9 tk9 t9 kp hl
      rw [hnum1]
      obtain ⟨F1, N1⟩ := led_keep F9 N9 (keep_one kp (N9 (dt, ot) (by k_mem)).1 hl)
      clear F9 N9 kp hl
      k_steps
      refine Hold.mk ?_
      rename Fr _ _ _ _ => F9
      rename News _ _ _ _ => N9
      refine due_call B0 F9 X0 (news_one N9 (by k_mem)) T0 (Around.frames_deeper B0.stack) rfl rfl (by rw [depth_deeper, depth_caller]; decide) rfl hip (by omega) (by omega) (by rw [units_deeper, units_caller]; decide) ?_
      intro h8 tk8 vp' np' v3 ps' a kp hl hip' hdue hv3
      obtain ⟨ha, hheap', hperm'⟩ := step_due hheap hperm hdue
      have hlen' := due_len hdue
      rw [hans] at ha
      subst ha
      obtain ⟨t9, rfl⟩ := hv3
      obtain ⟨F8, N8⟩ := behindU F9 N9 (by k_upd) kp hl
      clear F9 N9
      k_steps
      refine Hold.mk ?_
      rename Fr _ _ _ _ => F9
      rename News _ _ _ _ => N9
      refine kst_end (⟨vh', vm', vp', nh', nm', np', stepL (d9 % 6) ks (toldOf os), ps'⟩ : LS) F9 N9 (by first | kst_in | kst_inAny) (by first | (intro p hp; kst_mem) | kst_anyIn) (by rfl) ⟨hih', him', hip'⟩ (fun _ h => nomatch h) (by kst_same) ⟨hheap', hperm', ?_⟩
      have := hperm'.length_eq
      dsimp only
      rw [List.length_append, List.length_singleton]
      omega
  · clear F9 N9
    rintro ⟨vh, vm, vp, nh, nm, np, ks, ps⟩ u h tk ⟨hih, him, hip⟩ ⟨hheap, hperm, hlen⟩ F N
    dsimp only [kstB] at F N hih him hip hheap hperm hlen
    have hks : ks.length ≤ 23 := by
      simp only [List.length_append, List.length_cons, List.length_nil] at hlen
      omega
    have hpl := hperm.length_eq
    dsimp only
    k_with_none
    k_with "subscriptTail" => (k_here; (with_reducible show wpAny _ _ (subscriptTail _ _ (Value.ref _) (Value.int _ _)) _ _ _); k_dflt (refine' lst_sub ?k1 ?k2 ?k3 ?k4 ?k5 ?k6 ?_ ?k7; (case k1 => k_asm); (case k2 => k_mem); (case k3 => with_reducible assumption); (case k4 => exact rfl); (case k5 => omega); (case k6 => omega); (case k7 => with_unfolding_all rfl); k_whole); intro _ _)
    k_with "setItem ref int" => (k_here; k_dflt (refine' lst_set ?k1 ?k2 ?ke ?k3 ?k4 ?kv ?k6 ?k7 ?_; (case ke => exact rfl); (case k1 => k_asm); (case k2 => k_asm); (case k3 => k_upd); (case k4 => with_reducible assumption); (case kv => with_reducible assumption); (case k6 => omega); (case k7 => omega); k_whole); intro _ _ _ _; (try k_sweep))
    k_with "compareOp Lt" => (k_here; k_dflt (refine' lt_use (by with_reducible assumption) ?k1 ?k2 ?_; (case k1 => with_reducible assumption); (case k2 => with_reducible assumption); k_whole))
    k_with "binaryOp Add int int" => (k_here; (with_reducible refine add1_nat ?_); intro _ _)
    k_with "binaryOp Mult int int" => (k_here; (with_reducible refine mul2_nat ?_); intro _ _)
    k_with "call builtin:len" => (k_here; (with_reducible show wpAny _ _ (call (Value.builtin "len") [Value.ref _]) _ _ _); k_dflt (refine' lst_len ?k1 ?k2 ?k3 ?k4 ?_; (case k1 => k_asm); (case k2 => k_mem); (case k3 => with_reducible assumption); (case k4 => omega); k_whole); intro _ _)
    k_with "call builtin:list.append" => (k_here; (with_reducible show wpAny _ _ (call (Value.builtin _) [Value.ref _, _]) _ _ _); k_dflt (refine' lst_append ?k1 ?k2 ?k3 ?k4 ?k5 ?k6 ?_; (case k1 => k_asm); (case k2 => k_asm); (case k3 => k_upd); (case k4 => with_reducible assumption); (case k5 => with_reducible assumption); (case k6 => omega); k_whole); intro _ _ _ _ _; (try k_sweep))
    k_with "call builtin:list.pop" => (k_here; (with_reducible show wpAny _ _ (call (Value.builtin _) [Value.ref _]) _ _ _); k_dflt (refine' lst_pop ?k1 ?k2 ?k3 ?k4 ?k5 ?k6 ?_; (case k1 => k_asm); (case k2 => k_asm); (case k3 => k_upd); (case k4 => with_reducible assumption); (case k5 => omega); (case k6 => omega); k_whole); intro _ _ _ _ _ _ _; (try k_sweep))
    k_with "truthy ref" => (k_here; k_dflt (refine' lst_truthy ?k1 ?k2 ?k3 ?k4 ?_; (case k1 => k_asm); (case k2 => k_mem); (case k3 => with_reducible assumption); (case k4 => omega); k_whole); intro _)
    k_with "call builtin:list.reverse" => (k_here; (with_reducible show wpAny _ _ (call (Value.builtin _) [Value.ref _]) _ _ _); k_dflt (refine' lst_reverse ?k1 ?k2 ?k3 ?k4 ?k5 ?_; (case k1 => k_asm); (case k2 => k_asm); (case k3 => k_upd); (case k4 => with_reducible assumption); (case k5 => omega); k_whole); intro _ _ _ _ _; (try k_sweep))
    k_with "call type:type" => ((with_reducible show wpAny _ _ (call _ [Value.bytes _ _]) _ _ _); refine call_type_of (Tx := "bytes") rfl (by decide +kernel) ?_)
    k_with "eval ListComp" => refine Hold.out ?_
    k_steps
    refine Hold.mk ?_
    with_unfolding_all refine wpAny_ListComp_free (fun _ => false) (fun _ _ => True) (cl := [(Str.ofString "mirror", s1.heap.objs.size + 1 + 1)]) (by rfl) (by decide) (by rfl) (by decide) (by rfl) ?_ (by intro _; rfl)
    k_with "pyIter ref" => refine Hold.out ?_
    k_steps
    refine Hold.mk ?_
    rename IsRange _ _ _ _ _ _ _ _ => hrg
    rename Fr _ _ _ _ => F9
    rename News _ _ _ _ => N9
    refine wpAny_pyIter_range hrg (small_one (by omega) (by omega) (by omega) (by omega)) ?_
    dsimp only
    refine ⟨_, [_], [_], ks.length - 1, _, _, rfl, (Walks.range rfl _ 1 1 (ks.length - 1)).bound, by rw [PySem.sizeLine_eq]; omega, ?_, ?_, ?_, ?_⟩
    · show IsRangeIter _ _ _ _ _
      rw [show Builtin.Range.rangeSize 1 (ks.length : Int) 1 = ((ks.length - 1 : Nat) : Int) from by rw [rangeSize_one]; split <;> omega]
      simpa using Heap.get?_push_size _ rfl
    · intro b hb
      rw [List.mem_singleton.mp hb, Heap.size_push]
      exact Nat.lt_succ_self _
    · refine ⟨fun C i v s₃ m₃ E' hC hP hn hm hk htk => ?_, fun C i v s₃ m₃ E' hC hP hp => absurd hp (by decide)⟩
      obtain ⟨hi, t, rfl⟩ := hP
      have e0 : (1 : Int) + (i : Int) * 1 = ((i + 1 : Nat) : Int) := by omega
      rw [e0] at hm
      have NA : News s1.heap s1.heap.objs.size s₃.heap _ := fun q hq => ⟨hk q.1 q.2 (fun z => by have := Heap.lt_size (N9 q hq).1; rw [List.mem_singleton.mp z] at this; exact Nat.lt_irrefl _ this) (Heap.get?_push_of_some _ (N9 q hq).1), (N9 q hq).2⟩
      have hcM := (NA (s1.heap.objs.size + 1 + 1, oM) (by k_mem)).1
      have cM : ∀ s' : Shared, s'.heap = s₃.heap → s'.heap.IsCell (s1.heap.objs.size + 1 + 1) (some (.ref lM)) := fun s' e => ⟨oM, by rw [e]; exact hcM, dM⟩
      refine wpAny_tests_one (wpAny_isTrue_Compare1 (Subscript_ (ldCellK (c := s1.heap.objs.size + 1 + 1) (v := .ref lM) rfl (cM _ rfl) (ldVarK hn hm ?_))))
      refine lst_sub (i := i + 1) NA (by k_mem) him rfl (by omega) (by omega) fun v1 hv1 => ?_
      refine Subscript_ (ldCellK (c := s1.heap.objs.size + 1 + 1) (v := .ref lM) rfl (cM _ rfl) ?_)
      walk1
      walk1
      refine ldVarK hn hm ?_
      walk1
      refine sub1_nat (by omega) fun t1 tk1 => ?_
      walk1
      refine half_nat fun t2 tk2 => ?_
      refine lst_sub (i := (i + 1 - 1) / 2) NA (by k_mem) him rfl (by omega) (by omega) fun v2 hv2 => ?_
      refine lt_use (ltInt w) hv1 hv2 ?_
      have hnl : ¬ ks.getD (i + 1) 0 < ks.getD ((i + 1 - 1) / 2) 0 := Int.not_lt.mpr (hheap (i + 1) (by omega) (by omega))
      rw [decide_eq_false hnl]
      exact wpAny_truthy_bool ⟨rfl, _, _, rfl, fun _ _ e => e⟩
    · intro D2 h9 tk9 ys vs hD hl2 hpl2 hlen2 hPs hpair hkp
      have hnil : ys = #[] := by
        rw [List.filter_eq_nil_iff.mpr (by intro _ _ h; cases h)] at hpair
        cases ys with
        | mk l => cases hpair; rfl
      subst hnil
      obtain ⟨F8, hgD, hDL, hDs⟩ := tab_end F9 hD hkp (let ⟨mm, a, _⟩ := (T0.seer (by decide +kernel)).mods; ⟨mm, a⟩)
      obtain ⟨nD, hDo⟩ := hpl2
      have up : ∀ a ob, _ → h9.get? a = some ob := fun a ob e => hkp a ob (fun q => by have := Heap.lt_size e; rw [List.mem_singleton.mp q] at this; exact Nat.lt_irrefl _ this) (Heap.get?_push_of_some _ e)
      have N8 : News s1.heap s1.heap.objs.size h9 [(D2, listOf ([] : List Value).toArray nD), (lH, listOf vh.toArray nh), (lM, listOf vm.toArray nm), (lP, listOf vp.toArray np), (dt, ot), (s1.heap.objs.size + 1 + 1, oM), (s1.heap.objs.size + 1, oT)] := fun q hq => by
        rcases List.mem_cons.mp hq with rfl | hq
        · exact ⟨hDo, hDL, hgD⟩
        · have hq' := N9 q (by
            simp only [List.mem_cons, List.not_mem_nil, or_false] at hq ⊢
            rcases hq with e | e | e | e | e | e <;> simp [e])
          exact ⟨up _ _ hq'.1, hq'.2⟩
      clear F9 N9 hkp hD up
      k_with "compareOp NotEq ref ref" => (
        refine ne_intsK (News.isList (by k_asm) (List.Mem.tail _ (List.Mem.head _))) .nil (News.isList (by k_asm) (List.Mem.head _)) .nil (by rw [units_deeper, units_caller]; decide) ?_)
      k_steps
      refine Hold.mk ?_
      with_unfolding_all refine wpAny_ListComp_free (fun _ => true) (fun v y => ∃ k, RTxt v k ∧ RInt y k) (cl := [(Str.ofString "table", s1.heap.objs.size + 1)]) (by rfl) (by decide) (by rfl) (by decide) (by rfl) ?_ (by intro _; rfl)
      k_steps
      refine Hold.mk ?_
      rename Fr _ _ _ _ => F9
      rename News _ _ _ _ => N9
      have hlH := (N9 (lH, listOf vh.toArray nh) (by k_mem)).1
      refine wpAny_pyIter_list (PySem.IsL.isList (n := nh) hlH) ?_
      dsimp only
      have hls := Heap.lt_size hlH
      dsimp only at hls
      refine ⟨_, [_, lH], [_], vh.toArray.size, _, _, rfl, Walks.list rfl _ lH (Nat.ne_of_lt hls) vh.toArray, by rw [PySem.sizeLine_eq, List.size_toArray, hih.length]; omega, ?_, ?_, ?_, ?_⟩
      · exact ⟨⟨_, Heap.get?_push_size _ rfl, rfl, rfl⟩, PySem.IsL.isList (n := nh) (Heap.get?_push_of_some _ hlH)⟩
      · intro b hb
        rw [Heap.size_push]
        simp only [List.mem_cons, List.not_mem_nil, or_false] at hb
        rcases hb with e | e <;> rw [e]
        · exact Nat.lt_succ_self _
        · exact Nat.lt_succ_of_lt hls
      · refine ⟨fun C i v s₃ m₃ E' hC hP hn hm hk htk => wpAny_pure ⟨rfl, s₃.heap, s₃.toks, rfl, fun _ _ e => e⟩, fun C i v s₃ m₃ E' hC hP hp hn hm hk htk => ?_⟩
        have up : ∀ a ob, _ → s₃.heap.get? a = some ob := fun a ob e => hk a ob (fun z => by have := Heap.lt_size e; rw [List.mem_singleton.mp z] at this; exact Nat.lt_irrefl _ this) (Heap.get?_push_of_some _ e)
        obtain ⟨FA, NA⟩ := led_keep F9 N9 up
        clear F9 N9
        have hP' : vh[i]? = some v := by simpa using hP
        have hi' : i < vh.length := (List.getElem?_eq_some_iff.mp hP').1
        obtain ⟨v', e1, hv'⟩ := hih.get i (by rw [← hih.length]; exact hi')
        rw [hP'] at e1
        cases e1
        have hv'' := hv'
        obtain ⟨b, t, rfl, htx, hnum⟩ := hv'
        have cT : s₃.heap.IsCell (s1.heap.objs.size + 1) (some (.ref dt)) := ⟨oT, (NA (s1.heap.objs.size + 1, oT) (by k_mem)).1, dT⟩
        k_with "call ref" => refine Hold.out ?_
        k_steps
        refine Hold.mk ?_
        refine read_call B0 FA X0 (news_one NA (by k_mem)) T0 (Around.frames_deeper B0.stack) rfl rfl (by rw [depth_deeper, depth_caller]; decide) rfl (by rw [units_deeper, units_caller]; decide) hds hio htab htx ?_
        intro h5 tk5 t5 kp hl
        exact ⟨⟨_, hv'', t5, by rw [hnum]⟩, h5, tk5, rfl, keep_one kp (NA (dt, ot) (by k_mem)).1 hl⟩
      · intro D3 h10 tk10 ys vs' hD3 hl3 hpl3 hlen3 hPs3 hpair3 hkp3
        have hvs : vs' = vh := same_items (by rw [hlen3, List.size_toArray]) fun j v hj => by simpa using hPs3 j v hj
        subst hvs
        rw [List.filter_eq_self.mpr (fun _ _ => rfl)] at hpair3
        have hys := paired_nums hih hpair3
        obtain ⟨F8, hgD3, hDL3, hDs3⟩ := tab_end F9 hD3 hkp3 (let ⟨mm, a, _⟩ := (T0.seer (by decide +kernel)).mods; ⟨mm, a⟩)
        obtain ⟨nD3, hDo3⟩ := hpl3
        have up : ∀ a ob, _ → h10.get? a = some ob := fun a ob e => hkp3 a ob (fun q => by have := Heap.lt_size e; rw [List.mem_singleton.mp q] at this; exact Nat.lt_irrefl _ this) (Heap.get?_push_of_some _ e)
        have N8 : News s1.heap s1.heap.objs.size h10 [(D3, listOf ys.toList.toArray nD3), (lM, listOf vm.toArray nm), (lP, listOf vp.toArray np), (s1.heap.objs.size + 1 + 1, oM), (s1.heap.objs.size + 1, oT)] := fun q hq => by
          rcases List.mem_cons.mp hq with rfl | hq
          · exact ⟨hDo3, hDL3, hgD3⟩
          · have hq' := N9 q (by
              simp only [List.mem_cons, List.not_mem_nil, or_false] at hq ⊢
              rcases hq with e | e | e | e <;> simp [e])
            exact ⟨up _ _ hq'.1, hq'.2⟩
        clear F9 N9 hkp3 hD3 up
        k_with "compareOp Eq ref ref" => (
          refine eq_intsK (News.isList (by k_asm) (List.Mem.head _)) (all2_ints hys) (News.isList (by k_asm) (List.Mem.tail _ (List.Mem.head _))) (all2_ints him) (by rw [units_deeper, units_caller]; decide) ?_)
        have hIm := all2_ints him
        have hIp := all2_ints hip
        k_steps
        rename_i n1 _ _ _ _ p1 o1 _ _ _ _ _ n2 _ _ _ _ _ _ p2 o2 _ _ _
        have en : n1 = n2 := sorted_one ((p1.trans hperm).trans p2.symm) o1 o2
        rw [decide_eq_true en]
        k_steps)

end

end Mine
theorem PySem.Challenge.cw_mq0155_01_holds : PySem.Challenge.rw_mq0155_01.Holds :=
  Mine.law_holds
