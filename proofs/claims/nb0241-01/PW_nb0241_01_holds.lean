import PyProof.Rows.All
import Wide.All
import OpenK.AllK
import Wide.FinOn
import PySem.Challenge.RW_nb0241_01
open PySem PySem.W PyProof.Rows
set_option Elab.async false
namespace Mine
set_option maxRecDepth 100000 in
set_option maxHeartbeats 8000000 in
open_top hd for PySem.Challenge.rw_nb0241_01
theorem topOff : True := by (w_top off); exact True.intro
end Mine
section
namespace Mine
def Halt (P : Prop) : Prop := P
theorem halt {P : Prop} (h : Halt P) : P := h
theorem unhalt {P : Prop} (h : P) : Halt P := h
section
variable {prog : Program} {w : World} {A : Around} {E : Value → Shared → Prop} {Q : Flow → Shared → Prop} {s : Shared} {env : Env} {h₀ : Heap} {L : Addr}
def WEnd {σ : Type} (h₀ : Heap) (L : Addr) (s : Shared) (Led : σ → List (Addr × Obj)) (ps : σ → List (Str × Value)) (P : σ → Prop) (μ : σ → Nat) (c : σ) (s₂ : Shared) : Prop :=
  ∃ (c' : σ) (h' : Heap) (tk : Nat) (m' : Str → Option Value) (news' : List (Addr × Obj)), s₂ = { s with heap := h', toks := tk } ∧ Fr h₀ L h' m' ∧ News h₀ L h' news' ∧ (∀ p ∈ Led c', p ∈ news') ∧ (∀ p ∈ ps c', m' p.1 = some p.2) ∧ P c' ∧ μ c' < μ c
def WPost {σ : Type} (h₀ : Heap) (L : Addr) (s : Shared) (Led : σ → List (Addr × Obj)) (ps : σ → List (Str × Value)) (P : σ → Prop) (μ : σ → Nat) (Q : Flow → Shared → Prop) (c : σ) (f : Flow) (s₂ : Shared) : Prop :=
  match f with
  | .ret v => Q (.ret v) s₂
  | .brk => Q .next s₂
  | _ => WEnd h₀ L s Led ps P μ c s₂
theorem WEnd.intro {σ : Type} {h₀ : Heap} {L : Addr} {s : Shared} {Led : σ → List (Addr × Obj)} {ps : σ → List (Str × Value)} {P : σ → Prop} {μ : σ → Nat} {c : σ} {h' : Heap} {tk : Nat} {m' : Str → Option Value} {news' : List (Addr × Obj)} (c' : σ)
    (F : Fr h₀ L h' m') (N : News h₀ L h' news') (hn : ∀ p ∈ Led c', p ∈ news') (hk : ∀ p ∈ ps c', m' p.1 = some p.2) (hp : P c') (hm : μ c' < μ c) :
    WEnd h₀ L s Led ps P μ c { s with heap := h', toks := tk } := ⟨c', h', tk, m', news', rfl, F, N, hn, hk, hp, hm⟩
theorem fr_kst {h : Heap} {ps : List (Str × Value)} {m₁ : Str → Option Value} (h1 : ∀ p ∈ ps, m₁ p.1 = some p.2) (F : Fr h₀ L h m₁) : Fr h₀ L h (kstB m₁ ps) := by
  have em : kstB m₁ ps = m₁ := by
    funext y
    exact kstB_eq h1 fun _ => rfl
  rw [em]
  exact F
theorem while_st {σ : Type} {test : Expr} {body : List Stmt} {pos : Pos} {m₀ : Str → Option Value} {news : List (Addr × Obj)} (Led : σ → List (Addr × Obj)) (ps : σ → List (Str × Value)) (P : σ → Prop) (μ : σ → Nat) (c₀ : σ)
    (F : Fr h₀ L s.heap m₀) (N : News h₀ L s.heap news) (hn : ∀ p ∈ Led c₀, p ∈ news) (hk : ∀ p ∈ ps c₀, m₀ p.1 = some p.2) (hp : P c₀)
    (turn : ∀ (c : σ) (u : Str → Option Value) h tk, P c → Fr h₀ L h (kstB u (ps c)) → News h₀ L h (Led c) →
      wpAny (model prog w) A (isTrue test env (eval test env)) (fun b s₂ =>
        if b = true then wpAny (model prog w) A (execs body env) (WPost h₀ L s Led ps P μ Q c) E s₂ else Q .next s₂) E { s with heap := h, toks := tk })
    (hE : PassesOwn (model prog w) A env E := by passes_own) :
    wpAny (model prog w) A (exec (.While test body [] pos) env) Q E s := by
  refine While_inv2 (fun n m nx => ∃ c : σ, nx = Led c ∧ μ c = n ∧ (∀ p ∈ ps c, m p.1 = some p.2) ∧ P c) F (fun p hp => N p (hn p hp)) ⟨c₀, rfl, rfl, hk, hp⟩ ?_ hE
  rintro n m₁ nx h tk F₁ N₁ ⟨c, hnx, hsz, h1, hp'⟩
  rw [hnx] at N₁
  rw [← hsz]
  refine wpAny_mono (turn c m₁ h tk hp' (fr_kst h1 F₁) N₁) (fun b s₂ p => ?_) fun _ _ x => x
  cases b with
  | false => simpa using p
  | true =>
    simp only [if_true] at p ⊢
    refine wpAny_mono p (fun f s₃ q => ?_) fun _ _ x => x
    cases f with
    | ret v => exact q
    | brk => exact q
    | next =>
      obtain ⟨c', h', tk', m', news', rfl, F', N', hn, hk9, hp9, hm9⟩ := q
      exact ⟨h', tk', m', Led c', μ c', rfl, F', fun p hp => N' p (hn p hp), hm9, c', rfl, rfl, hk9, hp9⟩
    | cont =>
      obtain ⟨c', h', tk', m', news', rfl, F', N', hn, hk9, hp9, hm9⟩ := q
      exact ⟨h', tk', m', Led c', μ c', rfl, F', fun p hp => N' p (hn p hp), hm9, c', rfl, rfl, hk9, hp9⟩
end
/-! plain heaps -/
abbrev Key := Int × Int × Int
def ltK (a b : Key) : Bool := decide (a.1 < b.1 ∨ (a.1 = b.1 ∧ (a.2.1 < b.2.1 ∨ (a.2.1 = b.2.1 ∧ a.2.2 < b.2.2))))
def sdown {α : Type} (lt : α → α → Bool) (x : α) (start : Nat) (l : List α) (pos : Nat) : List α :=
  if _h : start < pos then
    match l[(pos - 1) / 2]? with
    | some q => if lt x q = true then sdown lt x start (l.set pos q) ((pos - 1) / 2) else l.set pos x
    | none => l.set pos x
  else l.set pos x
termination_by pos
decreasing_by omega
def supGo {α : Type} (lt : α → α → Bool) (l : List α) (pos : Nat) : List α × Nat :=
  match _h1 : l[2 * pos + 1]? with
  | none => (l, pos)
  | some c1 =>
    match _h2 : l[2 * pos + 2]? with
    | some c2 => if lt c1 c2 = true then supGo lt (l.set pos c1) (2 * pos + 1) else supGo lt (l.set pos c2) (2 * pos + 2)
    | none => supGo lt (l.set pos c1) (2 * pos + 1)
termination_by l.length - pos
decreasing_by
  all_goals
    have e1 := (List.getElem?_eq_some_iff.mp _h1).1
    try have e2 := (List.getElem?_eq_some_iff.mp _h2).1
    simp only [List.length_set]
    omega
def sup {α : Type} (lt : α → α → Bool) (l : List α) (pos : Nat) : List α :=
  match l[pos]? with
  | none => l
  | some x => sdown lt x pos ((supGo lt l pos).1.set (supGo lt l pos).2 x) (supGo lt l pos).2
/-- a tuple of three ints that the ledger bears -/
def TupIn (news : List (Addr × Obj)) (v : Value) (k : Key) : Prop :=
  ∃ (a : Addr) (t1 t2 t3 : Tok) (n : Nat), v = .ref a ∧ (a, ({ cls := .type "tuple", data := .seq #[.int k.1 t1, .int k.2.1 t2, .int k.2.2 t3] n } : Obj)) ∈ news
abbrev Item := Value × Key
def ltI (a b : Item) : Bool := ltK a.2 b.2
end Mine
end
section
namespace Mine
section
variable {prog : Program} {w : World} {A : Around} {E : Value → Shared → Prop} {s : Shared} {h₀ : Heap} {L : Addr} {news : List (Addr × Obj)}
theorem TupIn.mono {l l' : List (Addr × Obj)} {v : Value} {k : Key} (h : TupIn l v k) (hs : ∀ p ∈ l, p ∈ l') : TupIn l' v k := by
  obtain ⟨a, t1, t2, t3, n, e, hm⟩ := h
  exact ⟨a, t1, t2, t3, n, e, hs _ hm⟩
theorem tup_lt_tree {a b : Addr} {oa ob : Obj} {x y : Key} {t1 t2 t3 u1 u2 u3 : Tok} {n k : Nat} {P : PySem.Fin → Shared → Prop}
    (hoa : s.heap.get? a = some oa) (hda : oa.data = .seq #[.int x.1 t1, .int x.2.1 t2, .int x.2.2 t3] n)
    (hob : s.heap.get? b = some ob) (hcb : ob.cls = .type "tuple") (hdb : ob.data = .seq #[.int y.1 u1, .int y.2.1 u2, .int y.2.2 u3] k)
    (h : P (.done (.ret (.bool (ltK x y)))) s) : wpAny (model prog w) A (Builtin.«tuple.__lt__» ⟨[.ref a, .ref b], []⟩) P E s := by
  have hTb : s.TypeIs (.ref b) "tuple" := ⟨_, hob, hcb⟩
  show wpAny _ _ (isInstance (.ref b) (.type "tuple") >>= _) _ _ s
  refine wpAny_bind (wpAny_isInstance hTb isSubtype_tuple_tuple ?_)
  simp only [Bool.not_true, Bool.false_eq_true, if_false]
  refine wpAny_bind (wpAny_tupleItemsOf hoa hda ?_)
  refine wpAny_bind (wpAny_tupleItemsOf hob hdb ?_)
  refine wpAny_bind ?_
  obtain ⟨x1, x2, x3⟩ := x
  obtain ⟨y1, y2, y3⟩ := y
  simp only [List.zip_cons_cons, List.zip_nil_right, List.forIn_cons, List.forIn_nil]
  refine wpAny_bind (wpAny_bind (wpAny_eqBool_int ?_))
  by_cases h1 : x1 = y1
  · subst h1
    simp only [beq_self_eq_true, Bool.not_true, Bool.false_eq_true, if_false]
    refine wpAny_pure (wpAny_bind (wpAny_bind (wpAny_eqBool_int ?_)))
    by_cases h2 : x2 = y2
    · subst h2
      simp only [beq_self_eq_true, Bool.not_true, Bool.false_eq_true, if_false]
      refine wpAny_pure (wpAny_bind (wpAny_bind (wpAny_eqBool_int ?_)))
      by_cases h3 : x3 = y3
      · subst h3
        simp only [beq_self_eq_true, Bool.not_true, Bool.false_eq_true, if_false]
        refine wpAny_pure (wpAny_pure (wpAny_pure ?_))
        have : ltK (x1, x2, x3) (x1, x2, x3) = false := by simp [ltK]
        rw [this] at h
        exact h
      · have e : (x3 == y3) = false := by simpa using h3
        rw [e]
        simp only [Bool.not_false, if_true]
        refine wpAny_bind (wpAny_bind (wpAny_rule (wpAny_pure (wpAny_bind (wpAny_mono (show wpAny (model prog w) A (richCompare .Lt (.int x3 t3) (.int y3 u3)) (fun v s' => v = .bool (decide (x3 < y3)) ∧ s' = s) E s from wpAny_lt_int ⟨rfl, rfl⟩) (fun v s' hv => ?_) fun _ _ z => z)))))
        obtain ⟨rfl, rfl⟩ := hv
        have : ltK (x1, x2, x3) (x1, x2, y3) = decide (x3 < y3) := by simp [ltK]
        rw [this] at h
        exact wpAny_pure (wpAny_pure (wpAny_pure h))
    · have e : (x2 == y2) = false := by simpa using h2
      rw [e]
      simp only [Bool.not_false, if_true]
      refine wpAny_bind (wpAny_bind (wpAny_rule (wpAny_pure (wpAny_bind (wpAny_mono (show wpAny (model prog w) A (richCompare .Lt (.int x2 t2) (.int y2 u2)) (fun v s' => v = .bool (decide (x2 < y2)) ∧ s' = s) E s from wpAny_lt_int ⟨rfl, rfl⟩) (fun v s' hv => ?_) fun _ _ z => z)))))
      obtain ⟨rfl, rfl⟩ := hv
      have : ltK (x1, x2, x3) (x1, y2, y3) = decide (x2 < y2) := by simp [ltK, h2]
      rw [this] at h
      exact wpAny_pure (wpAny_pure (wpAny_pure h))
  · have e : (x1 == y1) = false := by simpa using h1
    rw [e]
    simp only [Bool.not_false, if_true]
    refine wpAny_bind (wpAny_bind (wpAny_rule (wpAny_pure (wpAny_bind (wpAny_mono (show wpAny (model prog w) A (richCompare .Lt (.int x1 t1) (.int y1 u1)) (fun v s' => v = .bool (decide (x1 < y1)) ∧ s' = s) E s from wpAny_lt_int ⟨rfl, rfl⟩) (fun v s' hv => ?_) fun _ _ z => z)))))
    obtain ⟨rfl, rfl⟩ := hv
    have : ltK (x1, x2, x3) (y1, y2, y3) = decide (x1 < y1) := by simp [ltK, h1]
    rw [this] at h
    exact wpAny_pure (wpAny_pure (wpAny_pure h))
theorem tup_lt {x y : Item} {Q : Value → Shared → Prop} (hu : A.units < cLine) (N : News h₀ L s.heap news) (hx : TupIn news x.1 x.2) (hy : TupIn news y.1 y.2) (h : Q (.bool (ltI x y)) s) :
    wpAny (model prog w) A (compareOp .Lt x.1 y.1) Q E s := by
  obtain ⟨xv, xk⟩ := x
  obtain ⟨yv, yk⟩ := y
  obtain ⟨a, t1, t2, t3, n, rfl, ha⟩ := hx
  obtain ⟨b, u1, u2, u3, k, rfl, hb⟩ := hy
  refine cmp_ofLt ?_
  have Ta : s.TypeIs (.ref a) "tuple" := ⟨_, (N _ ha).1, rfl⟩
  have Tb : s.TypeIs (.ref b) "tuple" := ⟨_, (N _ hb).1, rfl⟩
  exact wpAny_richCompare_same_room (op := .Lt) Ta Tb F.slot_tuple_lt
    (wpAny_call_entry F.slot_tuple_lt Ta F.entry_tuple_lt (tup_lt_tree (N _ ha).1 rfl (N _ hb).1 rfl rfl ⟨_, rfl, (fun e => nomatch e), h⟩) (F.args_tuple_lt_2 _ _)) hu
theorem item_get {value slice : PySem.Expr} {H : Addr} {l : List Item} {n : Nat} {i : Int} {k : Nat} {u : Tok} {x : Item} {Q : Value → Shared → Prop} (N : News h₀ L s.heap news) (hm : (H, W.listOf (l.map (·.1)).toArray n) ∈ news)
    (hi : i = (k : Int)) (hx : l[k]? = some x) (hsz : l.length ≤ 1000) (h : Q x.1 s)
    (hs : subscripted slice false (.ref H) (.int i u) = operate [.ref H, .int i u] (getItem (.ref H) (.int i u)) := by with_unfolding_all rfl) (hg : ∀ r, letTemporaryGo value (.ref H) r = pure () := by intro _; with_unfolding_all rfl) :
    wpAny (model prog w) A (subscriptTail value slice (.ref H) (.int i u)) Q E s := by
  have hk : k < l.length := (List.getElem?_eq_some_iff.mp hx).1
  refine kim_list N hm rfl rfl (by omega) (by omega) ?_ h hs hg
  subst hi
  simp [hx]
theorem list_len {H : Addr} {vs : List Value} {n k : Nat} {Q : Value → Shared → Prop} (N : News h₀ L s.heap news) (hm : (H, W.listOf vs.toArray n) ∈ news) (hk : vs.length = k) (hsz : k ≤ 1000)
    (h : Q (.int (k : Int) (s.toks + 1)) { s with toks := s.toks + 1 + 1 }) : wpAny (model prog w) A (call (.builtin "len") [.ref H]) Q E s := by
  subst hk
  refine len_list ⟨_, (N _ hm).1, rfl, n, rfl⟩ (by simp; omega) ?_
  simpa using h
theorem list_pop {H : Addr} {vs : List Value} {v : Value} {n : Nat} {rest : List (Addr × Obj)} {m : Str → Option Value} {Q : Value → Shared → Prop} (F : Fr h₀ L s.heap m) (N : News h₀ L s.heap ((H, W.listOf (vs ++ [v]).toArray n) :: rest))
    (hoff : ∀ p ∈ rest, p.1 ≠ H) (hsz : vs.length ≤ 1000) (h : ∀ h', Fr h₀ L h' m → News h₀ L h' ((H, W.listOf vs.toArray (n + 1)) :: rest) → Q v { s with heap := h' }) :
    wpAny (model prog w) A (call (.builtin "list.pop") [.ref H]) Q E s :=
  kl_pop F N (p := vs) (y := v) (kpa_last v vs) (.head hoff) (by rw [sizeLine_eq]; simp; omega) h
theorem list_append {H : Addr} {vs : List Value} {v : Value} {n : Nat} {rest : List (Addr × Obj)} {m : Str → Option Value} {Q : Value → Shared → Prop} (F : Fr h₀ L s.heap m) (N : News h₀ L s.heap ((H, W.listOf vs.toArray n) :: rest))
    (hoff : ∀ p ∈ rest, p.1 ≠ H) (hsz : vs.length ≤ 1000) (h : ∀ n' h', Fr h₀ L h' m → News h₀ L h' ((H, W.listOf (vs ++ [v]).toArray n') :: rest) → Q .none { s with heap := h' }) :
    wpAny (model prog w) A (call (.builtin "list.append") [.ref H, v]) Q E s := by
  refine append_K F N (.head hoff) (fun h' F' N' => h (n + 1) h' F' ?_) (by rw [sizeLine_eq]; simp; omega)
  rw [List.push_toArray] at N'
  exact N'
theorem list_truth {H : Addr} {vs : List Value} {n : Nat} {b : Bool} {Q : Bool → Shared → Prop} (N : News h₀ L s.heap news) (hm : (H, W.listOf vs.toArray n) ∈ news) (hsz : vs.length ≤ 1000) (hb : b = !vs.isEmpty)
    (h : Q b { s with toks := s.toks + 1 + 1 }) : wpAny (model prog w) A (truthy (.ref H)) Q E s := by
  refine wpAny_truthy_list ⟨_, (N _ hm).1, rfl, n, rfl⟩ (by simp; omega) ?_
  subst hb
  simpa using h
theorem item_set {H : Addr} {l : List Item} {n : Nat} {i : Int} {k : Nat} {t : Tok} {v : Value} {x : Item} {rest : List (Addr × Obj)} {m : Str → Option Value} {Q : Unit → Shared → Prop} (F : Fr h₀ L s.heap m) (N : News h₀ L s.heap ((H, W.listOf (l.map (·.1)).toArray n) :: rest))
    (hoff : ∀ p ∈ rest, p.1 ≠ H) (hi : i = (k : Int)) (hk : k < l.length) (hsz : l.length ≤ 1000) (hv : v = x.1)
    (h : ∀ h' , Fr h₀ L h' m → News h₀ L h' ((H, W.listOf ((l.set k x).map (·.1)).toArray n) :: rest) → Q () { s with heap := h' }) :
    wpAny (model prog w) A (setItem (.ref H) (.int i t) v) Q E s := by
  subst hv
  have z := N _ (.head _)
  refine ki_setAt z.1 (by omega) (by omega) (by simp; omega) (h _ (F.change (Heap.SameBut.update ..) z.2.1 z.2.2) ?_)
  refine ki_turn (pre := []) _ N (by simp) hoff ?_ ?_
  · subst hi
    apply Array.toList_inj.mp
    simp [List.map_set]
  · simp
end
end Mine
end
section
set_option maxRecDepth 100000
namespace Mine
section
variable {prog : Program} {w : World} {A : Around} {E : Value → Shared → Prop} {Q : Flow → Shared → Prop} {s : Shared} {env : Env} {h₀ : Heap} {x : Str} {body : List Stmt}
def FEnd {σ : Type} (h₀ : Heap) (L : Addr) (s : Shared) (Led : σ → List (Addr × Obj)) (ps : σ → List (Str × Value)) (P : σ → Prop) (own : List (Addr × Obj)) (s₂ : Shared) : Prop :=
  ∃ (c' : σ) (h' : Heap) (tk : Nat) (m' : Str → Option Value) (news' : List (Addr × Obj)), s₂ = { s with heap := h', toks := tk } ∧ Fr h₀ L h' m' ∧ News h₀ L h' news' ∧ (∀ p ∈ Led c', p ∈ news') ∧ (∀ p ∈ own, p ∈ news') ∧ (∀ p ∈ own, ∀ q ∈ Led c', p.1 ≠ q.1) ∧ (∀ p ∈ ps c', m' p.1 = some p.2) ∧ P c'
def FPost {σ : Type} (h₀ : Heap) (L : Addr) (s : Shared) (Led : σ → List (Addr × Obj)) (ps : σ → List (Str × Value)) (P : σ → Prop) (own : List (Addr × Obj)) (Q : Flow → Shared → Prop) (f : Flow) (s₂ : Shared) : Prop :=
  match f with
  | .ret v => Q (.ret v) s₂
  | .brk => Q .next s₂
  | _ => FEnd h₀ L s Led ps P own s₂
theorem FEnd.intro {σ : Type} {h₀ : Heap} {L : Addr} {s : Shared} {Led : σ → List (Addr × Obj)} {ps : σ → List (Str × Value)} {P : σ → Prop} {own : List (Addr × Obj)} {h' : Heap} {tk : Nat} {m' : Str → Option Value} {news' : List (Addr × Obj)} (c' : σ)
    (F : Fr h₀ L h' m') (N : News h₀ L h' news') (hn : ∀ p ∈ Led c', p ∈ news') (ho : ∀ p ∈ own, p ∈ news') (hf : ∀ p ∈ own, ∀ q ∈ Led c', p.1 ≠ q.1) (hk : ∀ p ∈ ps c', m' p.1 = some p.2) (hp : P c') :
    FEnd h₀ L s Led ps P own { s with heap := h', toks := tk } := ⟨c', h', tk, m', news', rfl, F, N, hn, ho, hf, hk, hp⟩
theorem fr_kst2 {h : Heap} {L : Addr} {ps : List (Str × Value)} {m₁ : Str → Option Value} {v : Value} (h1 : ∀ p ∈ ps, m₁ p.1 = some p.2) (F : Fr h₀ L h (fun y => if y = x then some v else m₁ y)) : Fr h₀ L h (fun y => if y = x then some v else kstB m₁ ps y) := by
  have em : kstB m₁ ps = m₁ := by
    funext y
    exact kstB_eq h1 fun _ => rfl
  rw [em]
  exact F
theorem for_iter {σ : Type} {I : Addr} {a c : Int} {n : Nat} {m₀ : Str → Option Value} {news : List (Addr × Obj)} (Led : σ → List (Addr × Obj)) (ps : σ → List (Str × Value)) (P : Nat → σ → Prop) (c₀ : σ)
    (hh : A.handled = none) (hI : IsRangeIter s.heap I a (n : Int) c) (hI0 : h₀.get? I = none) (hIL : env.locals ≠ I) (hIn : ∀ p ∈ Led c₀, p.1 ≠ I)
    (F : Fr h₀ env.locals s.heap m₀) (N : News h₀ env.locals s.heap news) (hn : ∀ p ∈ Led c₀, p ∈ news) (hk : ∀ p ∈ ps c₀, m₀ p.1 = some p.2) (hp : P 0 c₀)
    (turn : ∀ (i : Nat) (t : Tok) (d : σ) (u : Str → Option Value) h tk own, i < n → P i d → (∀ p ∈ own, ∀ q ∈ Led d, p.1 ≠ q.1) → Fr h₀ env.locals h (fun y => if y = x then some (.int (a + (i : Int) * c) t) else kstB u (ps d) y) → News h₀ env.locals h (Led d ++ own) →
      wpAny (model prog w) A (execs body env) (FPost h₀ env.locals { s with heap := h, toks := tk } Led ps (P (i + 1)) own Q) E { s with heap := h, toks := tk })
    (done : ∀ (d : σ) (u : Str → Option Value) h tk, P n d → Fr h₀ env.locals h (kstB u (ps d)) → News h₀ env.locals h (Led d) → Q .next { s with heap := h, toks := tk }) :
    LoopAtV prog w A h₀ env x body Q E (.ref I) s := by
  refine kdr_loop (fun i m nx => ∃ d : σ, nx = Led d ∧ (∀ p ∈ ps d, m p.1 = some p.2) ∧ P i d) (Walks.range hh I a c n) (fun _ h => h) (fun _ h => h) ?_ ?_ ?_ ?_ (by simpa using hI) F (fun p hp => N p (hn p hp)) ⟨c₀, rfl, hk, hp⟩ ?_ ?_
  · intro i h hi b hb
    rw [List.mem_singleton.mp hb]
    exact ⟨_, hi⟩
  · intro hm
    exact hIL (List.mem_singleton.mp hm)
  · intro b hb
    rw [List.mem_singleton.mp hb]
    exact hI0
  · intro p hp hm
    exact hIn p hp (List.mem_singleton.mp hm)
  · rintro i v m₁ nx h tk own hi ⟨t, rfl⟩ hoff ⟨d, rfl, h1, hp'⟩ F₁ N₁
    refine wpAny_mono (turn i t d m₁ h tk own hi hp' (fun p hp q hq => hoff p hp q.1 (List.mem_map_of_mem hq)) (fr_kst2 h1 F₁) N₁) (fun f s₂ q => ?_) fun _ _ x => x
    have fin : FEnd h₀ env.locals { s with heap := h, toks := tk } Led ps (P (i + 1)) own s₂ → InvEndG h₀ env.locals (fun m nx => ∃ d : σ, nx = Led d ∧ (∀ p ∈ ps d, m p.1 = some p.2) ∧ P (i + 1) d) own { s with heap := h, toks := tk } s₂ := by
      rintro ⟨c', h', tk', m', news', rfl, F', N', hn', ho', hf', hk', hp'⟩
      refine InvEndG.intro F' N' ⟨c', rfl, hk', hp'⟩ ?_ hn' ho'
      intro p hp b hb
      obtain ⟨q, hq, rfl⟩ := List.mem_map.mp hb
      exact hf' p hp q hq
    cases f with
    | ret v => exact q
    | brk => exact q
    | next => exact fin q
    | cont => exact fin q
  · rintro m₁ nx h tk ⟨d, rfl, h1, hp'⟩ F₁ N₁
    exact done d m₁ h tk hp' (fr_kst h1 F₁) N₁
theorem for_range {σ : Type} {r : Addr} {a b c : Int} {n : Nat} {t₀ u₀ v₀ : Tok} {m₀ : Str → Option Value} {news : List (Addr × Obj)} (Led : σ → List (Addr × Obj)) (ps : σ → List (Str × Value)) (P : Nat → σ → Prop) (c₀ : σ)
    (hh : A.handled = none) (hr : IsRange s.heap r a b c t₀ u₀ v₀) (hsmall : Builtin.Range.small a b c = true) (hsz : Builtin.Range.rangeSize a b c = (n : Int))
    (F : Fr h₀ env.locals s.heap m₀) (N : News h₀ env.locals s.heap news) (hn : ∀ p ∈ Led c₀, p ∈ news) (hk : ∀ p ∈ ps c₀, m₀ p.1 = some p.2) (hp : P 0 c₀)
    (turn : ∀ (i : Nat) (t : Tok) (d : σ) (u : Str → Option Value) h tk own, i < n → P i d → (∀ p ∈ own, ∀ q ∈ Led d, p.1 ≠ q.1) → Fr h₀ env.locals h (fun y => if y = x then some (.int (a + (i : Int) * c) t) else kstB u (ps d) y) → News h₀ env.locals h (Led d ++ own) →
      wpAny (model prog w) A (execs body env) (FPost h₀ env.locals { s with heap := h, toks := tk } Led ps (P (i + 1)) own Q) E { s with heap := h, toks := tk })
    (done : ∀ (d : σ) (u : Str → Option Value) h tk, P n d → Fr h₀ env.locals h (kstB u (ps d)) → News h₀ env.locals h (Led d) → Q .next { s with heap := h, toks := tk }) :
    wpAny (model prog w) A (pyIter (.ref r)) (fun it s₂ => LoopAtV prog w A h₀ env x body Q E it s₂) E s := by
  refine wpAny_pyIter_range hr hsmall ?_
  refine for_iter (news := news) (n := n) (a := a) (c := c) Led ps P c₀ hh ?_ (next_is_new F) (Nat.ne_of_lt F.ns.lt) (fun p hp => Nat.ne_of_lt (Heap.lt_size (N p (hn p hp)).1)) (F.push _) (fun p hp => ⟨Heap.get?_push_of_some _ (N p hp).1, (N p hp).2⟩) hn hk hp ?_ ?_
  · rw [← hsz]
    exact Heap.get?_push_size _ rfl
  · intro i t d u h tk own hi hp ho F' N'
    exact turn i t d u h tk own hi hp ho F' N'
  · exact done
theorem for_list {σ : Type} {l : Addr} {vs : List Value} {nn : Nat} {m₀ : Str → Option Value} {news : List (Addr × Obj)} (Led : σ → List (Addr × Obj)) (ps : σ → List (Str × Value)) (P : Nat → σ → Prop) (c₀ : σ)
    (hh : A.handled = none) (hl : ∀ d, (l, W.listOf vs.toArray nn) ∈ Led d)
    (F : Fr h₀ env.locals s.heap m₀) (N : News h₀ env.locals s.heap news) (hn : ∀ p ∈ Led c₀, p ∈ news) (hk : ∀ p ∈ ps c₀, m₀ p.1 = some p.2) (hp : P 0 c₀)
    (turn : ∀ (i : Nat) (v : Value) (d : σ) (u : Str → Option Value) h tk own, vs[i]? = some v → P i d → (∀ p ∈ own, ∀ q ∈ Led d, p.1 ≠ q.1) → Fr h₀ env.locals h (fun y => if y = x then some v else kstB u (ps d) y) → News h₀ env.locals h (Led d ++ own) →
      wpAny (model prog w) A (execs body env) (FPost h₀ env.locals { s with heap := h, toks := tk } Led ps (P (i + 1)) own Q) E { s with heap := h, toks := tk })
    (done : ∀ (d : σ) (u : Str → Option Value) h tk, P vs.length d → Fr h₀ env.locals h (kstB u (ps d)) → News h₀ env.locals h (Led d) → Q .next { s with heap := h, toks := tk }) :
    wpAny (model prog w) A (pyIter (.ref l)) (fun it s₂ => LoopAtV prog w A h₀ env x body Q E it s₂) E s := by
  refine kdl_iter (news := Led c₀) (fun i m nx => ∃ d : σ, nx = Led d ∧ (∀ p ∈ ps d, m p.1 = some p.2) ∧ P i d) hh (hl c₀) F (fun p hp => N p (hn p hp)) ⟨c₀, rfl, hk, hp⟩ ?_ ?_
  · rintro i v m₁ nx h tk own hi hoff _ ⟨d, rfl, h1, hp'⟩ F₁ N₁
    refine wpAny_mono (turn i v d m₁ h tk own hi hp' (fun p hp q hq => hoff p hp q.1 (List.mem_map_of_mem hq)) (fr_kst2 h1 F₁) N₁) (fun f s₂ q => ?_) fun _ _ x => x
    have fin : FEnd h₀ env.locals { s with heap := h, toks := tk } Led ps (P (i + 1)) own s₂ → InvEndG h₀ env.locals (fun m' nx => (l, W.listOf vs.toArray nn) ∈ nx ∧ ∃ d : σ, nx = Led d ∧ (∀ p ∈ ps d, m' p.1 = some p.2) ∧ P (i + 1) d) own { s with heap := h, toks := tk } s₂ := by
      rintro ⟨c', h', tk', m', news', rfl, F', N', hn', ho', hf', hk', hp'⟩
      refine InvEndG.intro F' N' ⟨hl c', c', rfl, hk', hp'⟩ ?_ hn' ho'
      intro p hp b hb
      obtain ⟨q, hq, rfl⟩ := List.mem_map.mp hb
      exact hf' p hp q hq
    cases f with
    | ret v => exact q
    | brk => exact q
    | next => exact fin q
    | cont => exact fin q
  · rintro m₁ nx h tk ⟨d, rfl, h1, hp'⟩ F₁ N₁
    exact done d m₁ h tk hp' (fr_kst h1 F₁) N₁
end
theorem rng_small {k : Nat} (hk : k ≤ 1000) : Builtin.Range.small 0 (k : Int) 1 = true := small_one (by omega) (by omega) (by omega) (by omega)
theorem rng_size (k : Nat) : Builtin.Range.rangeSize 0 (k : Int) 1 = k := by
  unfold Builtin.Range.rangeSize
  rw [if_pos (by decide)]
  split <;> omega
/-! reversed(range(k)) -/
section
variable {prog : Program} {w : World} {A : Around} {E : Value → Shared → Prop} {s : Shared}
theorem sub_ri_reversed : isSubtype (.type "range_iterator") (.type "reversed") = pure false := by rw [isSubtype_type]; kernel_rfl
def riObj (a n c : Int) : Obj := { cls := .type "range_iterator", data := .fields #[rawInt a, rawInt n, rawInt c] }
theorem rangeFields_at {M : Model} {r : Addr} {a b c : Int} {t u v : Tok} {Q : Int × Int × Int → Shared → Prop} (hr : IsRange s.heap r a b c t u v) (h : Q (a, b, c) s) : wpAny M A (Builtin.Range.rangeFields (.ref r)) Q E s := by
  unfold Builtin.Range.rangeFields
  refine wpAny_bind (wpAny_field hr rfl (x := .int a t) rfl ?_)
  refine wpAny_bind (wpAny_of_eq (a := some a) rfl ?_)
  refine wpAny_bind (wpAny_field hr rfl (x := .int b u) rfl ?_)
  refine wpAny_bind (wpAny_of_eq (a := some b) rfl ?_)
  refine wpAny_bind (wpAny_field hr rfl (x := .int c v) rfl ?_)
  refine wpAny_bind (wpAny_of_eq (a := some c) rfl ?_)
  exact wpAny_pure h
theorem call_range_reversed {r : Addr} {k : Nat} {t u v : Tok} {Q : Value → Shared → Prop} (hr : IsRange s.heap r 0 (k : Int) 1 t u v) (hk : k ≤ 1000)
    (h : Q (.ref s.heap.objs.size) { s with heap := s.heap.push (riObj ((k : Int) - 1) k (-1)) }) : wpAny (model prog w) A (call (.builtin "range.__reversed__") [.ref r]) Q E s := by
  have hT : s.TypeIs (.ref r) "range" := ⟨_, hr, rfl⟩
  refine wpAny_call_entry F.slot_range_reversed hT F.entry_range_reversed ?_ (F.args_range_reversed_1 _)
  unfold Builtin.«range.__reversed__»
  refine wpAny_bind (wpAny_of_eq (a := Value.ref r) rfl ?_)
  refine wpAny_bind (rangeFields_at hr ?_)
  have e1 : Builtin.Range.rangeSize 0 (k : Int) 1 = k := by
    unfold Builtin.Range.rangeSize
    rw [if_pos (by decide)]
    split <;> omega
  dsimp only
  rw [e1]
  have fl : ∀ i : Int, -2000 ≤ i → i ≤ 2000 → Builtin.Range.rangeFitsLong i = true := by
    intro i h1 h2
    unfold Builtin.Range.rangeFitsLong
    simp
    omega
  rw [fl 0 (by decide) (by decide), fl k (by omega) (by omega), fl 1 (by decide) (by decide), fl (-1) (by decide) (by decide), fl (0 - 1) (by decide) (by decide)]
  simp only [Bool.and_self, Bool.not_true, Bool.false_eq_true, if_false, if_true]
  refine wpAny_bind (wpAny_newObj_type ?_)
  refine wpAny_pure ⟨_, rfl, ?_⟩
  rw [show (0 + ((k : Int) - 1) * 1) = (k : Int) - 1 by omega]
  exact h
theorem code_reversed_rng {r : Addr} {k : Nat} {t u v : Tok} {Q₁ : Value → Shared → Prop} (hr : IsRange s.heap r 0 (k : Int) 1 t u v) (hk : k ≤ 1000)
    (h : Q₁ (.ref s.heap.objs.size) { s with heap := s.heap.push (riObj ((k : Int) - 1) k (-1)) }) :
    codeAny (model prog w) A (.call (.builtin "reversed.__new__") ⟨[.type "reversed", .ref r], []⟩) (wants Q₁ E) s := by
  have hT : s.TypeIs (.ref r) "range" := ⟨_, hr, rfl⟩
  refine codeAny_of_tree ?_
  show wpAny _ A.in1 (do checkBuiltinCall "reversed.__new__" ⟨[.type "reversed", .ref r], []⟩; again (.builtin "reversed.__new__" ⟨[.type "reversed", .ref r], []⟩)) _ _ s
  refine wpAny_bind (wpAny_of_eq (F.newCall_reversed_1 _) (wpAny_pure ⟨plainId_quiet F.plain_reversed_new _, codeAny_builtin F.entry_reversed_new ?_⟩))
  rw [Around.under_plainId F.plain_reversed_new _]
  unfold Builtin.«reversed.__new__»
  refine wpAny_bind (wpAny_of_eq (newClass_reversed _) ?_)
  dsimp only
  refine wpAny_bind (wpAny_of_eq (a := ()) (by first | rfl | kernel_rfl) ?_)
  refine wpAny_bind (wpAny_of_eq (a := ()) (by first | rfl | kernel_rfl) ?_)
  try dsimp only
  refine wpAny_bind (wpAny_specialOf hT F.slot_range_reversed.lookup ?_)
  try dsimp only
  refine wpAny_bind (wpAny_of_eq (F.slot_range_reversed.bind _) ?_)
  try dsimp only
  first
  | rw [if_neg (show ¬ ((Value.builtin "range.__reversed__" == Value.none) = true) from Bool.false_ne_true)]
  | (show wpAny _ _ (if (Value.builtin "range.__reversed__" == Value.none) = true then _ else _) _ _ _; rw [if_neg (show ¬ ((Value.builtin "range.__reversed__" == Value.none) = true) from Bool.false_ne_true)])
  refine wpAny_bind (wpAny_rule ?_)
  refine wpAny_bind (m := runValue (.call (.builtin "range.__reversed__") ⟨[.ref r], []⟩)) (show wpAny _ _ (call (.builtin "range.__reversed__") [.ref r]) _ _ _ from call_range_reversed hr hk ?_)
  first
  | exact wpAny_pure h
  | exact wpAny_bind (wpAny_pure (wpAny_pure h))
theorem call_reversed_rng {r : Addr} {k : Nat} {b : Int} {t u v : Tok} {Q : Value → Shared → Prop} (hr : IsRange s.heap r 0 b 1 t u v) (hb : b = (k : Int)) (hk : k ≤ 1000)
    (h : Q (.ref s.heap.objs.size) { s with heap := s.heap.push (riObj ((k : Int) - 1) k (-1)) }) : wpAny (model prog w) A (call (.type "reversed") [.ref r]) Q E s := by
  subst hb
  refine callType_other (U := "range_iterator") (Q₁ := fun obj s₁ => obj = .ref s.heap.objs.size ∧ s₁ = { s with heap := s.heap.push (riObj ((k : Int) - 1) k (-1)) }) (by decide +kernel) F.create_reversed ⟨_, _, F.mro_reversed⟩ F.made_reversed sub_ri_reversed (F.typeCall_reversed_1 _) (code_reversed_rng hr hk ⟨rfl, rfl⟩) ?_
  rintro obj s₁ ⟨rfl, rfl⟩
  exact ⟨⟨_, Heap.get?_push_size _ rfl, rfl⟩, h⟩
end
end Mine
end
section
namespace Mine
section
variable {α : Type}
open Classical in
theorem set_set_perm (l : List α) (i j : Nat) (hi : i < l.length) (hj : j < l.length) (hne : i ≠ j) (x c : α) (hc : l[j]? = some c) : ((l.set i c).set j x).Perm (l.set i x) := by
  have hc' : l[j] = c := by rw [List.getElem?_eq_getElem hj] at hc; exact Option.some.inj hc
  rw [List.perm_iff_count]
  intro b
  have h1 : (l.set i c).length = l.length := by simp
  rw [List.count_set (by rw [h1]; exact hj), List.count_set hi, List.count_set hi]
  have e1 : (l.set i c)[j]'(by rw [h1]; exact hj) = c := by
    rw [List.getElem_set_ne hne]; exact hc'
  rw [e1]
  have hle : (if l[i] == b then 1 else 0) ≤ l.count b := by
    split
    · rename_i e
      have : l[i] = b := by simpa using e
      rw [← this]
      exact List.count_pos_iff.mpr (List.getElem_mem hi)
    · omega
  omega
structure LtOk (lt : α → α → Bool) : Prop where
  asymm : ∀ a b, lt a b = true → lt b a = false
  trans : ∀ a b c, lt b a = false → lt c b = false → lt c a = false
variable {lt : α → α → Bool}
theorem sdown_length (x : α) (st : Nat) : ∀ (pos : Nat) (l : List α), (sdown lt x st l pos).length = l.length := by
  intro pos
  induction pos using Nat.strongRecOn with
  | ind pos ih =>
    intro l
    rw [sdown]
    split
    · split
      · split
        · rw [ih _ (by omega)]; simp
        · simp
      · simp
    · simp
theorem sdown_perm (x : α) (st : Nat) : ∀ (pos : Nat) (l : List α), pos < l.length → (sdown lt x st l pos).Perm (l.set pos x) := by
  intro pos
  induction pos using Nat.strongRecOn with
  | ind pos ih =>
    intro l hp
    rw [sdown]
    split
    · split
      · rename_i q hq
        split
        · exact (ih _ (by omega) (l.set pos q) (by simp; omega)).trans (set_set_perm l pos ((pos - 1) / 2) hp (by omega) (by omega) x q hq)
        · exact .refl _
      · exact .refl _
    · exact .refl _
theorem supGo_spec (x : α) : ∀ (n : Nat) (l : List α) (pos : Nat), l.length - pos = n → pos < l.length →
    (supGo lt l pos).1.length = l.length ∧ (supGo lt l pos).2 < l.length ∧ ((supGo lt l pos).1.set (supGo lt l pos).2 x).Perm (l.set pos x) := by
  intro n
  induction n using Nat.strongRecOn with
  | ind n ih =>
    intro l pos hn hp
    rw [supGo]
    have step : ∀ c k, l[k]? = some c → pos < k → (supGo lt (l.set pos c) k).1.length = l.length ∧ (supGo lt (l.set pos c) k).2 < l.length ∧ ((supGo lt (l.set pos c) k).1.set (supGo lt (l.set pos c) k).2 x).Perm (l.set pos x) := by
      intro c k hc hk
      have hkl := (List.getElem?_eq_some_iff.mp hc).1
      obtain ⟨h1, h2, h3⟩ := ih (l.length - k) (by omega) (l.set pos c) k (by simp) (by simpa using hkl)
      rw [List.length_set] at h1 h2
      exact ⟨h1, h2, h3.trans (set_set_perm l pos k hp hkl (by omega) x c hc)⟩
    split
    · exact ⟨rfl, hp, .refl _⟩
    · rename_i c1 h1
      split
      · rename_i c2 h2
        split
        · exact step _ _ h1 (by omega)
        · exact step _ _ h2 (by omega)
      · exact step _ _ h1 (by omega)
theorem sup_perm (l : List α) (pos : Nat) : (sup lt l pos).Perm l := by
  unfold sup
  split
  · exact .refl _
  · rename_i x hx
    obtain ⟨hp, hx'⟩ := List.getElem?_eq_some_iff.mp hx
    obtain ⟨h1, h2, h3⟩ := supGo_spec (lt := lt) x _ l pos rfl hp
    refine ((sdown_perm x pos _ _ (by simp; omega)).trans ?_)
    rw [List.set_set]
    refine h3.trans ?_
    rw [← hx', List.set_getElem_self]
theorem sup_length (l : List α) (pos : Nat) : (sup lt l pos).length = l.length := (sup_perm l pos).length_eq
theorem sup_mem (l : List α) (pos : Nat) (y : α) : y ∈ sup lt l pos ↔ y ∈ l := (sup_perm l pos).mem_iff
/-- all nodes whose parent lies at s or behind it are in order -/
def HeapFrom (lt : α → α → Bool) (s : Nat) (l : List α) : Prop :=
  ∀ j a b, 1 ≤ j → s ≤ (j - 1) / 2 → l[(j - 1) / 2]? = some a → l[j]? = some b → lt b a = false
inductive Desc (s : Nat) : Nat → Prop
  | refl : Desc s s
  | step {p : Nat} : 1 ≤ p → Desc s ((p - 1) / 2) → Desc s p
theorem Desc.le {s p : Nat} (h : Desc s p) : s ≤ p := by
  induction h with
  | refl => exact Nat.le_refl _
  | step h1 _ ih => omega
structure Hole (lt : α → α → Bool) (s : Nat) (l : List α) (pos : Nat) : Prop where
  other : ∀ j a b, 1 ≤ j → s ≤ (j - 1) / 2 → j ≠ pos → (j - 1) / 2 ≠ pos → l[(j - 1) / 2]? = some a → l[j]? = some b → lt b a = false
  over : 1 ≤ pos → s ≤ (pos - 1) / 2 → ∀ c a b, 1 ≤ c → (c - 1) / 2 = pos → l[(pos - 1) / 2]? = some a → l[c]? = some b → lt b a = false
  under : Desc s pos
theorem sdown_heap (ok : LtOk lt) (x : α) (s : Nat) : ∀ (pos : Nat) (l : List α), pos < l.length → Hole lt s l pos →
    (∀ c b, 1 ≤ c → (c - 1) / 2 = pos → l[c]? = some b → lt b x = false) → HeapFrom lt s (sdown lt x s l pos) := by
  intro pos
  induction pos using Nat.strongRecOn with
  | ind pos ih =>
    intro l hp H hc
    have fin : (∀ a, 1 ≤ pos → s ≤ (pos - 1) / 2 → l[(pos - 1) / 2]? = some a → lt x a = false) → HeapFrom lt s (l.set pos x) := by
      intro hpar j a b h1 h2 ha hb
      by_cases hj : j = pos
      · subst hj
        rw [List.getElem?_set_ne (by omega)] at ha
        rw [List.getElem?_set_self hp] at hb
        cases hb
        exact hpar a h1 h2 ha
      · rw [List.getElem?_set_ne (Ne.symm hj)] at hb
        by_cases hq : (j - 1) / 2 = pos
        · rw [hq, List.getElem?_set_self hp] at ha
          cases ha
          exact hc j b h1 hq hb
        · rw [List.getElem?_set_ne (Ne.symm hq)] at ha
          exact H.other j a b h1 h2 hj hq ha hb
    rw [sdown]
    split
    · rename_i hs
      have hd : 1 ≤ pos ∧ Desc s ((pos - 1) / 2) := by
        cases H.under with
        | refl => omega
        | step h1 h2 => exact ⟨h1, h2⟩
      have hu : 1 ≤ pos ∧ s ≤ (pos - 1) / 2 := ⟨hd.1, hd.2.le⟩
      split
      · rename_i q hq
        split
        · rename_i hlt
          refine ih _ (by omega) (l.set pos q) (by simp; omega) ⟨?_, ?_, ?_⟩ ?_
          · intro j a b h1 h2 h3 h4 ha hb
            have hjp : j ≠ pos := by intro e; subst e; exact h4 rfl
            rw [List.getElem?_set_ne (Ne.symm hjp)] at hb
            by_cases hjq : (j - 1) / 2 = pos
            · rw [hjq, List.getElem?_set_self hp] at ha
              cases ha
              exact H.over hu.1 hu.2 j _ b h1 hjq hq hb
            · rw [List.getElem?_set_ne (Ne.symm hjq)] at ha
              exact H.other j a b h1 h2 hjp hjq ha hb
          · intro h1 h2 c a b h3 h4 ha hb
            rw [List.getElem?_set_ne (by omega)] at ha
            have hup : lt q a = false := H.other ((pos - 1) / 2) a q h1 h2 (by omega) (by omega) ha hq
            by_cases hcp : c = pos
            · subst hcp
              rw [List.getElem?_set_self hp] at hb
              cases hb
              exact hup
            · rw [List.getElem?_set_ne (Ne.symm hcp)] at hb
              have := H.other c q b h3 (by omega) hcp (by omega) (by rw [h4]; exact hq) hb
              exact ok.trans _ _ _ hup this
          · exact hd.2
          · intro c b h3 h4 hb
            by_cases hcp : c = pos
            · subst hcp
              rw [List.getElem?_set_self hp] at hb
              cases hb
              exact ok.asymm _ _ hlt
            · rw [List.getElem?_set_ne (Ne.symm hcp)] at hb
              have := H.other c q b h3 (by omega) hcp (by omega) (by rw [h4]; exact hq) hb
              exact ok.trans _ _ _ (ok.asymm _ _ hlt) this
        · rename_i hlt
          refine fin fun a _ _ ha => ?_
          rw [hq] at ha; cases ha
          simpa using hlt
      · rename_i hq
        exact absurd hq (by rw [List.getElem?_eq_getElem (by omega)]; simp)
    · refine fin fun a h1 h2 _ => ?_
      omega
theorem supGo_hole (s : Nat) : ∀ (n : Nat) (l : List α) (pos : Nat), l.length - pos = n → pos < l.length → Hole lt s l pos →
    (ok : LtOk lt) → Hole lt s (supGo lt l pos).1 (supGo lt l pos).2 ∧ (supGo lt l pos).1.length ≤ 2 * (supGo lt l pos).2 + 1 := by
  intro n
  induction n using Nat.strongRecOn with
  | ind n ih =>
    intro l pos hn hp H ok
    rw [supGo]
    have step : ∀ c k, l[k]? = some c → (k = 2 * pos + 1 ∨ k = 2 * pos + 2) → (∀ j b, (j = 2 * pos + 1 ∨ j = 2 * pos + 2) → j ≠ k → l[j]? = some b → lt b c = false) →
        Hole lt s (supGo lt (l.set pos c) k).1 (supGo lt (l.set pos c) k).2 ∧ (supGo lt (l.set pos c) k).1.length ≤ 2 * (supGo lt (l.set pos c) k).2 + 1 := by
      intro c k hc hk hsib
      have hkl := (List.getElem?_eq_some_iff.mp hc).1
      have hsp := H.under.le
      refine ih (l.length - k) (by omega) (l.set pos c) k (by simp) (by simpa using hkl) ⟨?_, ?_, ?_⟩ ok
      · intro j a b h1 h2 h3 h4 ha hb
        by_cases hjp : j = pos
        · subst hjp
          rw [List.getElem?_set_self hp] at hb
          rw [List.getElem?_set_ne (by omega)] at ha
          cases hb
          exact H.over h1 h2 k a _ (by omega) (by omega) ha hc
        · rw [List.getElem?_set_ne (Ne.symm hjp)] at hb
          by_cases hjq : (j - 1) / 2 = pos
          · rw [hjq, List.getElem?_set_self hp] at ha
            cases ha
            exact hsib j b (by omega) h3 hb
          · rw [List.getElem?_set_ne (Ne.symm hjq)] at ha
            exact H.other j a b h1 h2 hjp hjq ha hb
      · intro h1 h2 c' a b h3 h4 ha hb
        rw [show (k - 1) / 2 = pos by omega, List.getElem?_set_self hp] at ha
        cases ha
        rw [List.getElem?_set_ne (by omega)] at hb
        exact H.other c' _ b h3 (by omega) (by omega) (by omega) (by rw [h4]; exact hc) hb
      · exact .step (by omega) (by rw [show (k - 1) / 2 = pos by omega]; exact H.under)
    split
    · rename_i h1
      exact ⟨H, List.getElem?_eq_none_iff.mp h1⟩
    · rename_i c1 h1
      split
      · rename_i c2 h2
        split
        · rename_i hlt
          refine step _ _ h1 (.inl rfl) fun j b hj hne hb => ?_
          have : j = 2 * pos + 2 := by omega
          subst this
          rw [h2] at hb; cases hb
          exact ok.asymm _ _ hlt
        · rename_i hlt
          refine step _ _ h2 (.inr rfl) fun j b hj hne hb => ?_
          have : j = 2 * pos + 1 := by omega
          subst this
          rw [h1] at hb; cases hb
          simpa using hlt
      · rename_i h2
        refine step _ _ h1 (.inl rfl) fun j b hj hne hb => ?_
        have : j = 2 * pos + 2 := by omega
        subst this
        rw [h2] at hb; cases hb
theorem sup_heap (ok : LtOk lt) (l : List α) (s : Nat) (hs : s < l.length) (H : HeapFrom lt (s + 1) l) : HeapFrom lt s (sup lt l s) := by
  unfold sup
  rw [List.getElem?_eq_getElem hs]
  dsimp only
  have hole : Hole lt s l s := ⟨fun j a b h1 h2 _ h4 => H j a b h1 (by omega), fun h1 h2 => by omega, .refl⟩
  obtain ⟨h1, h2, _⟩ := supGo_spec (lt := lt) l[s] _ l s rfl hs
  obtain ⟨h3, h4⟩ := supGo_hole (lt := lt) s _ l s rfl hs hole ok
  generalize supGo lt l s = r at h1 h2 h3 h4 ⊢
  refine sdown_heap ok _ s r.2 (r.1.set r.2 l[s]) (by simp; omega) ⟨?_, ?_, h3.under⟩ ?_
  · intro j a b g1 g2 g3 g4 ha hb
    rw [List.getElem?_set_ne (Ne.symm g4)] at ha
    rw [List.getElem?_set_ne (Ne.symm g3)] at hb
    exact h3.other j a b g1 g2 g3 g4 ha hb
  · intro g1 g2 c a b g3 g4 ha hb
    rw [List.getElem?_eq_none (by simp; omega)] at hb
    cases hb
  · intro c b g3 g4 hb
    rw [List.getElem?_eq_none (by simp; omega)] at hb
    cases hb
/-- the least stands first -/
theorem heap_first (ok : LtOk lt) (tot : ∀ a, lt a a = false) (l : List α) (H : HeapFrom lt 0 l) (a : α) (ha : l[0]? = some a) : ∀ (j : Nat) (b : α), l[j]? = some b → lt b a = false := by
  intro j
  induction j using Nat.strongRecOn with
  | ind j ih =>
    intro b hb
    by_cases h0 : j = 0
    · subst h0
      rw [ha] at hb; cases hb
      exact tot a
    · have hj := (List.getElem?_eq_some_iff.mp hb).1
      obtain ⟨q, hq⟩ : ∃ q, l[(j - 1) / 2]? = some q := ⟨_, List.getElem?_eq_getElem (by omega)⟩
      exact ok.trans _ _ _ (ih _ (by omega) q hq) (H j q b (by omega) (by omega) hq hb)
/-- heapify -/
theorem heapify_heap (ok : LtOk lt) (l : List α) : ∀ (k : Nat), k ≤ l.length → HeapFrom lt k l → HeapFrom lt 0 ((List.range k).reverse.foldl (sup lt) l) := by
  intro k
  induction k generalizing l with
  | zero => intro _ H; simpa using H
  | succ k ih =>
    intro hk H
    rw [List.range_succ, List.reverse_append]
    simp only [List.reverse_cons, List.reverse_nil, List.nil_append, List.cons_append, List.foldl_cons]
    exact ih _ (by rw [sup_length]; omega) (sup_heap ok l k (by omega) H)
theorem heapify_ok (ok : LtOk lt) (l : List α) : HeapFrom lt 0 ((List.range (l.length / 2)).reverse.foldl (sup lt) l) :=
  heapify_heap ok l _ (by omega) (fun j a b h1 h2 _ hb => by
    have := (List.getElem?_eq_some_iff.mp hb).1
    omega)
theorem heapify_perm (l : List α) (ks : List Nat) : (ks.foldl (sup lt) l).Perm l := by
  induction ks generalizing l with
  | nil => exact .refl _
  | cons k ks ih => exact (ih _).trans (sup_perm l k)
end
theorem ltK_ok : LtOk ltK := ⟨fun a b h => by simp only [ltK, decide_eq_true_eq, decide_eq_false_iff_not] at *; omega, fun a b c h1 h2 => by simp only [ltK, decide_eq_false_iff_not] at *; omega⟩
theorem ltI_ok : LtOk ltI := ⟨fun a b => ltK_ok.asymm a.2 b.2, fun a b c => ltK_ok.trans a.2 b.2 c.2⟩
theorem ltI_irrefl (a : Item) : ltI a a = false := by simp only [ltI, ltK, decide_eq_false_iff_not]; omega
end Mine
end
section
namespace Mine
section
variable {prog : Program} {w : World} {p : Program} {loose : List Str} {mean : ExcName → Option Value} {mg mb : Str → Option Value}
    {dp un : Nat} {gd : Option (List Code)} {cn : Str} {cs : Scope} {a : Addr} {ccd : Value} {cl : List (Str × Addr)} {outer : List Env} {A₀ : Around} {base h₀ : Heap} {L : Addr} {m : Str → Option Value} {rest : List (Addr × Obj)} {s : Shared}
    {Q E : Value → Shared → Prop}
local macro_rules | `(tactic| walk_at "exec While Compare cons nil") => `(tactic| refine halt ?_)
local macro_rules | `(tactic| walk_at "WPost") => `(tactic| dsimp only [WPost])
local macro_rules | `(tactic| walk_at "pyIter ref") => `(tactic| refine halt ?_)
set_option maxRecDepth 100000 in
set_option maxHeartbeats 8000000 in
theorem siftdown_call {H : Addr} {l : List Item} {n : Nat} {st pos : Nat} {x : Item} {t1 t2 : Tok}
    (B : Below A₀ base outer h₀) (F : Fr h₀ L s.heap m) (X : (hd.heap_39 w.params).In h₀) (N : News h₀ L s.heap ((H, W.listOf (l.map (·.1)).toArray n) :: rest)) (T : Top p loose mean mg mb h₀) (hk : cs.kind = .function)
    (hdp : dp + 3 < recursionLimit) (hun : un + 30 < cLine)
    (hoff : ∀ p ∈ rest, p.1 ≠ H) (hl : ∀ y ∈ l, TupIn rest y.1 y.2) (hsz : l.length ≤ 1000) (hx : l[pos]? = some x)
    (hret : ∀ n' h' tk', Fr h₀ L h' m → News h₀ L h' ((H, W.listOf ((sdown ltI x st l pos).map (·.1)).toArray n') :: rest) → Q .none { s with heap := h', toks := tk' }) :
    wpAny (model prog w) (ktrTop dp un gd cn cs L a ccd cl outer) (call (.ref 214) [.ref H, .int (st : Int) t1, .int (pos : Int) t2]) Q E s := by
  refine wpAny_call ?_
  k_dflt ktr_enter
  k_steps
  have hxm : x ∈ l := List.mem_of_getElem? hx
  refine item_get (by k_asm) (.head _) rfl hx hsz ?_
  k_steps
  refine unhalt ?_
  refine while_st (σ := List Item × Nat × Tok) (fun c => (H, W.listOf (c.1.map (·.1)).toArray n) :: rest) (fun c => [(Str.ofString "heap", .ref H), (Str.ofString "startpos", .int (st : Int) t1), (Str.ofString "pos", .int (c.2.1 : Int) c.2.2), (Str.ofString "newitem", x.1)])
    (fun c => sdown ltI x st c.1 c.2.1 = sdown ltI x st l pos ∧ c.1.length = l.length ∧ c.2.1 < l.length ∧ ∀ y ∈ c.1, TupIn rest y.1 y.2) (fun c => c.2.1) (l, pos, t2) (by k_asm) (by k_asm) (fun _ h => h) ?_ ?_ ?_
  · repeat' (first | exact List.forall_mem_nil _ | refine List.forall_mem_cons.mpr ⟨?_, ?_⟩)
    all_goals rfl
  · exact ⟨rfl, rfl, (List.getElem?_eq_some_iff.mp hx).1, hl⟩
  rintro ⟨l1, p1, tp⟩ u h tk ⟨hR, hL1, hp1, hl1⟩ F1 N1
  dsimp only [kstB] at hR hL1 hp1 hl1 F1 N1 ⊢
  k_steps
  · have hlt : st < p1 := by omega
    obtain ⟨q, hq⟩ : ∃ q, l1[(p1 - 1) / 2]? = some q := ⟨_, List.getElem?_eq_getElem (by omega)⟩
    have hqm : q ∈ l1 := List.mem_of_getElem? hq
    have hun1 : sdown ltI x st l1 p1 = if ltI x q = true then sdown ltI x st (l1.set p1 q) ((p1 - 1) / 2) else l1.set p1 x := by
      rw [sdown, dif_pos hlt, hq]
    have hpar : ((p1 : Int) - 1).fdiv (2 ^ Int.toNat 1) = (((p1 - 1) / 2 : Nat) : Int) := by rw [Int.fdiv_eq_ediv_of_nonneg _ (by decide)]; simp; omega
    refine item_get (k := (p1 - 1) / 2) (by k_asm) (.head _) hpar hq (by omega) ?_
    k_steps
    refine tup_lt (by ktr_units) (fun p hp => (by rename News _ _ _ _ => N9; exact N9 p (.tail _ hp))) (hl x hxm) (hl1 q hqm) ?_
    k_steps
    · rw [if_pos (by assumption)] at hun1
      refine item_set (x := q) (by k_asm) (by k_asm) hoff rfl (by omega) (by omega) rfl ?_
      intro h2 F2 N2
      k_steps
      rename Fr _ _ _ _ => F9
      rename News _ _ _ _ => N9
      rw [hpar] at F9
      refine WEnd.intro (l1.set p1 q, (p1 - 1) / 2, ?tk9) F9 N9 (fun _ h => h) ?_ ?_ ?_
      rotate_left
      · repeat' (first | exact List.forall_mem_nil _ | refine List.forall_mem_cons.mpr ⟨?_, ?_⟩)
        all_goals rfl
      · refine ⟨by rw [← hR, hun1], by simp [hL1], by dsimp only; omega, ?_⟩
        intro y hy
        rcases List.mem_or_eq_of_mem_set hy with hy | rfl
        · exact hl1 y hy
        · exact hl1 _ hqm
      · dsimp only; omega
    · rw [if_neg (by simp [*])] at hun1
      dsimp only [WPost]
      k_steps
      refine item_set (x := x) (by k_asm) (by k_asm) hoff rfl (by omega) (by omega) rfl ?_
      intro h2 F2 N2
      k_steps
      exact hret _ _ _ (by k_asm) (by rw [← hR, hun1]; k_asm)
  · refine item_set (x := x) (by k_asm) (by k_asm) hoff rfl (by omega) (by omega) rfl ?_
    intro h2 F2 N2
    have hun1 : sdown ltI x st l1 p1 = l1.set p1 x := by rw [sdown, dif_neg (by omega)]
    k_steps
    exact hret _ _ _ (by k_asm) (by rw [← hR, hun1]; k_asm)
end
end Mine
end
section
local macro_rules | `(tactic| walk_at "no key 0") => `(tactic| skip)
namespace Mine
section
variable {prog : Program} {w : World} {p : Program} {loose : List Str} {mean : ExcName → Option Value} {mg mb : Str → Option Value}
    {dp un : Nat} {gd : Option (List Code)} {cn : Str} {cs : Scope} {a : Addr} {ccd : Value} {cl : List (Str × Addr)} {outer : List Env} {A₀ : Around} {base h₀ : Heap} {L : Addr} {m : Str → Option Value} {rest : List (Addr × Obj)} {s : Shared}
    {Q E : Value → Shared → Prop}
local macro_rules | `(tactic| walk_at "exec While Compare cons nil") => `(tactic| refine halt ?_)
local macro_rules | `(tactic| walk_at "WPost") => `(tactic| dsimp only [WPost])
local macro_rules | `(tactic| walk_at "pyIter ref") => `(tactic| refine halt ?_)
set_option maxRecDepth 100000 in
set_option maxHeartbeats 8000000 in
theorem siftup_call {H : Addr} {l : List Item} {n : Nat} {pos : Nat} {t1 : Tok}
    (B : Below A₀ base outer h₀) (F : Fr h₀ L s.heap m) (X : (hd.heap_39 w.params).In h₀) (N : News h₀ L s.heap ((H, W.listOf (l.map (·.1)).toArray n) :: rest)) (T : Top p loose mean mg mb h₀) (hk : cs.kind = .function)
    (hdp : dp + 5 < recursionLimit) (hun : un + 50 < cLine)
    (hoff : ∀ p ∈ rest, p.1 ≠ H) (hl : ∀ y ∈ l, TupIn rest y.1 y.2) (hsz : l.length ≤ 1000) (hpos : pos < l.length)
    (hret : ∀ n' h' tk', Fr h₀ L h' m → News h₀ L h' ((H, W.listOf ((sup ltI l pos).map (·.1)).toArray n') :: rest) → Q .none { s with heap := h', toks := tk' }) :
    wpAny (model prog w) (ktrTop dp un gd cn cs L a ccd cl outer) (call (.ref 221) [.ref H, .int (pos : Int) t1]) Q E s := by
  obtain ⟨x, hx⟩ : ∃ x, l[pos]? = some x := ⟨_, List.getElem?_eq_getElem hpos⟩
  have hxm : x ∈ l := List.mem_of_getElem? hx
  refine wpAny_call ?_
  k_dflt ktr_enter
  k_steps
  refine list_len (k := l.length) (by k_asm) (.head _) (by simp) hsz ?_
  k_steps
  refine item_get (by k_asm) (.head _) rfl hx hsz ?_
  k_steps
  refine unhalt ?_
  refine while_st (σ := List Item × Nat × Tok × Tok × Tok) (fun c => (H, W.listOf (c.1.map (·.1)).toArray n) :: rest) (fun c => [(Str.ofString "heap", .ref H), (Str.ofString "endpos", .int (l.length : Int) c.2.2.2.2), (Str.ofString "startpos", .int (pos : Int) t1), (Str.ofString "newitem", x.1), (Str.ofString "pos", .int (c.2.1 : Int) c.2.2.1), (Str.ofString "childpos", .int (2 * (c.2.1 : Int) + 1) c.2.2.2.1)])
    (fun c => supGo ltI c.1 c.2.1 = supGo ltI l pos ∧ c.1.length = l.length ∧ c.2.1 < l.length ∧ ∀ y ∈ c.1, TupIn rest y.1 y.2) (fun c => l.length - c.2.1) (l, pos, t1, ?tc, ?te) (by k_asm) (by k_asm) (fun _ h => h) ?_ ?_ ?_
  rotate_left 2
  · repeat' (first | exact List.forall_mem_nil _ | refine List.forall_mem_cons.mpr ⟨?_, ?_⟩)
    all_goals rfl
  · exact ⟨rfl, rfl, hpos, hl⟩
  rintro ⟨l1, p1, tp, tc, te⟩ u h tk ⟨hR, hL1, hp1, hl1⟩ F1 N1
  dsimp only [kstB] at hR hL1 hp1 hl1 F1 N1 ⊢
  k_steps
  · -- a right child is there
    have hr : 2 * p1 + 2 < l1.length := by omega
    obtain ⟨c1, hc1⟩ : ∃ q, l1[2 * p1 + 1]? = some q := ⟨_, List.getElem?_eq_getElem (by omega)⟩
    obtain ⟨c2, hc2⟩ : ∃ q, l1[2 * p1 + 2]? = some q := ⟨_, List.getElem?_eq_getElem hr⟩
    have hm1 := List.mem_of_getElem? hc1
    have hm2 := List.mem_of_getElem? hc2
    have hun1 : supGo ltI l1 p1 = if ltI c1 c2 = true then supGo ltI (l1.set p1 c1) (2 * p1 + 1) else supGo ltI (l1.set p1 c2) (2 * p1 + 2) := by
      rw [supGo]; split
      · rename_i e; rw [hc1] at e; cases e
      · rename_i e; rw [hc1] at e; cases e
        split
        · rename_i e; rw [hc2] at e; cases e; rfl
        · rename_i e; rw [hc2] at e; cases e
    refine item_get (k := 2 * p1 + 1) (by k_asm) (.head _) (by omega) hc1 (by omega) ?_
    k_steps
    refine item_get (k := 2 * p1 + 2) (by k_asm) (.head _) (by omega) hc2 (by omega) ?_
    k_steps
    refine tup_lt (by ktr_units) (fun p hp => (by rename News _ _ _ _ => N9; exact N9 p (.tail _ hp))) (hl1 c1 hm1) (hl1 c2 hm2) ?_
    k_steps
    · rw [if_pos (by assumption)] at hun1
      refine item_get (k := 2 * p1 + 1) (by k_asm) (.head _) (by omega) hc1 (by omega) ?_
      k_steps
      refine item_set (x := c1) (by k_asm) (by k_asm) hoff rfl (by omega) (by omega) rfl ?_
      intro h2 F2 N2
      k_steps
      rename Fr _ _ _ _ => F9
      rename News _ _ _ _ => N9
      rw [show (2 * (p1 : Int) + 1) = ((2 * p1 + 1 : Nat) : Int) from by omega] at F9
      refine WEnd.intro (l1.set p1 c1, 2 * p1 + 1, ?tp9a, ?tc9a, ?te9a) F9 N9 (fun _ h => h) ?_ ?_ ?_
      rotate_left 3
      · repeat' (first | exact List.forall_mem_nil _ | refine List.forall_mem_cons.mpr ⟨?_, ?_⟩)
        all_goals rfl
      · refine ⟨by rw [← hR, hun1], by simp [hL1], by dsimp only; omega, ?_⟩
        intro y hy
        rcases List.mem_or_eq_of_mem_set hy with hy | rfl
        · exact hl1 y hy
        · exact hl1 _ hm1
      · dsimp only; omega
    · rw [if_neg (by simp [*])] at hun1
      refine item_get (k := 2 * p1 + 2) (by k_asm) (.head _) (by omega) hc2 (by omega) ?_
      k_steps
      refine item_set (x := c2) (by k_asm) (by k_asm) hoff rfl (by omega) (by omega) rfl ?_
      intro h2 F2 N2
      k_steps
      rename Fr _ _ _ _ => F9
      rename News _ _ _ _ => N9
      rw [show (2 * (p1 : Int) + 1 + 1) = ((2 * p1 + 2 : Nat) : Int) from by omega] at F9
      refine WEnd.intro (l1.set p1 c2, 2 * p1 + 2, ?tp9b, ?tc9b, ?te9b) F9 N9 (fun _ h => h) ?_ ?_ ?_
      rotate_left 3
      · repeat' (first | exact List.forall_mem_nil _ | refine List.forall_mem_cons.mpr ⟨?_, ?_⟩)
        all_goals rfl
      · refine ⟨by rw [← hR, hun1], by simp [hL1], by dsimp only; omega, ?_⟩
        intro y hy
        rcases List.mem_or_eq_of_mem_set hy with hy | rfl
        · exact hl1 y hy
        · exact hl1 _ hm2
      · dsimp only; omega
  · -- a left child alone
    have hr : l1.length ≤ 2 * p1 + 2 := by omega
    obtain ⟨c1, hc1⟩ : ∃ q, l1[2 * p1 + 1]? = some q := ⟨_, List.getElem?_eq_getElem (by omega)⟩
    have hc2 : l1[2 * p1 + 2]? = none := List.getElem?_eq_none hr
    have hm1 := List.mem_of_getElem? hc1
    have hun1 : supGo ltI l1 p1 = supGo ltI (l1.set p1 c1) (2 * p1 + 1) := by
      rw [supGo]; split
      · rename_i e; rw [hc1] at e; cases e
      · rename_i e; rw [hc1] at e; cases e
        split
        · rename_i e; rw [hc2] at e; cases e
        · rfl
    refine item_get (k := 2 * p1 + 1) (by k_asm) (.head _) (by omega) hc1 (by omega) ?_
    k_steps
    refine item_set (x := c1) (by k_asm) (by k_asm) hoff rfl (by omega) (by omega) rfl ?_
    intro h2 F2 N2
    k_steps
    rename Fr _ _ _ _ => F9
    rename News _ _ _ _ => N9
    rw [show (2 * (p1 : Int) + 1) = ((2 * p1 + 1 : Nat) : Int) from by omega] at F9
    refine WEnd.intro (l1.set p1 c1, 2 * p1 + 1, ?tp9c, ?tc9c, ?te9c) F9 N9 (fun _ h => h) ?_ ?_ ?_
    rotate_left 3
    · repeat' (first | exact List.forall_mem_nil _ | refine List.forall_mem_cons.mpr ⟨?_, ?_⟩)
      all_goals rfl
    · refine ⟨by rw [← hR, hun1], by simp [hL1], by dsimp only; omega, ?_⟩
      intro y hy
      rcases List.mem_or_eq_of_mem_set hy with hy | rfl
      · exact hl1 y hy
      · exact hl1 _ hm1
    · dsimp only; omega
  · have hun1 : supGo ltI l1 p1 = (l1, p1) := by
      rw [supGo]; split
      · rfl
      · rename_i e; rw [List.getElem?_eq_none (by omega)] at e; cases e
    refine item_set (x := x) (by k_asm) (by k_asm) hoff rfl (by omega) (by omega) rfl ?_
    intro h2 F2 N2
    k_steps
    have hsup : sup ltI l pos = sdown ltI x pos (l1.set p1 x) p1 := by
      unfold sup; rw [hx]; dsimp only; rw [← hR, hun1]
    refine siftdown_call (l := l1.set p1 x) (st := pos) (pos := p1) (x := x) (by k_asm) (by k_asm) (by k_asm) N2 (by k_asm) rfl (by ktr_room) (by ktr_units) hoff ?_ (by rw [List.length_set]; omega) (by rw [List.getElem?_set_self (by omega)]) ?_
    · intro y hy
      rcases List.mem_or_eq_of_mem_set hy with hy | rfl
      · exact hl1 y hy
      · exact hl _ hxm
    intro n9 h9 tk9 F9 N9
    k_steps
    exact hret _ _ _ (by k_asm) (by rw [hsup]; k_asm)
end
end Mine
end
section
namespace Mine
section
variable {prog : Program} {w : World} {p : Program} {loose : List Str} {mean : ExcName → Option Value} {mg mb : Str → Option Value}
    {dp un : Nat} {gd : Option (List Code)} {cn : Str} {cs : Scope} {a : Addr} {ccd : Value} {cl : List (Str × Addr)} {outer : List Env} {A₀ : Around} {base h₀ : Heap} {L : Addr} {m : Str → Option Value} {rest : List (Addr × Obj)} {s : Shared}
    {Q E : Value → Shared → Prop}
local macro_rules | `(tactic| walk_at "FPost") => `(tactic| dsimp only [FPost])
local macro_rules | `(tactic| walk_at "pyIter ref") => `(tactic| refine halt ?_)
local macro_rules | `(tactic| walk_at "exec For Name Call cons nil") => `(tactic| (k_here; (rename Fr _ _ _ _ => lF'); (with_unfolding_all refine' For_invVF lF' ?k1 ?k2 ?_; (case k1 => exact rfl); (case k2 => exact rfl); k_whole)))
set_option maxRecDepth 100000 in
set_option maxHeartbeats 8000000 in
theorem heapify_call {H : Addr} {l : List Item} {n : Nat}
    (B : Below A₀ base outer h₀) (F : Fr h₀ L s.heap m) (X : (hd.heap_39 w.params).In h₀) (N : News h₀ L s.heap ((H, W.listOf (l.map (·.1)).toArray n) :: rest)) (T : Top p loose mean mg mb h₀) (hk : cs.kind = .function)
    (hdp : dp + 7 < recursionLimit) (hun : un + 70 < cLine)
    (hoff : ∀ p ∈ rest, p.1 ≠ H) (hl : ∀ y ∈ l, TupIn rest y.1 y.2) (hsz : l.length ≤ 1000)
    (hret : ∀ n' h' tk', Fr h₀ L h' m → News h₀ L h' ((H, W.listOf (((List.range (l.length / 2)).reverse.foldl (sup ltI) l).map (·.1)).toArray n') :: rest) → Q .none { s with heap := h', toks := tk' }) :
    wpAny (model prog w) (ktrTop dp un gd cn cs L a ccd cl outer) (call (.ref 207) [.ref H]) Q E s := by
  refine wpAny_call ?_
  k_dflt ktr_enter
  k_steps
  refine list_len (k := l.length) (by k_asm) (.head _) (by simp) hsz ?_
  k_steps
  rename IsRange _ _ _ _ _ _ _ _ => hR9
  rename Fr _ _ _ _ => F9
  rename News _ _ _ _ => N9
  refine call_reversed_rng (k := l.length / 2) hR9 (by rw [Int.fdiv_eq_ediv_of_nonneg _ (by decide)]; omega) (by omega) ?_
  refine wpAny_pyIter_rangeiter (x := ((l.length / 2 : Nat) : Int) - 1) (left := ((l.length / 2 : Nat) : Int)) (step := -1) (Heap.get?_push_size _ rfl) ?_
  refine for_iter (σ := List Item × Nat) (n := l.length / 2) (fun c => (H, W.listOf (c.1.map (·.1)).toArray c.2) :: rest) (fun c => [(Str.ofString "x", .ref H)])
    (fun i c => c.1.length = l.length ∧ (∀ y ∈ c.1, TupIn rest y.1 y.2) ∧ c.1 = ((List.range (l.length / 2)).reverse.take i).foldl (sup ltI) l) (l, n) rfl (Heap.get?_push_size _ rfl) (next_is_new F9) (Nat.ne_of_lt F9.ns.lt) (fun p hp => Nat.ne_of_lt (Heap.lt_size (N9 p hp).1)) (F9.push _) (fun p hp => ⟨Heap.get?_push_of_some _ (N9 p hp).1, (N9 p hp).2⟩) (fun _ h => h) ?_ ?_ ?_ ?_
  · repeat' (first | exact List.forall_mem_nil _ | refine List.forall_mem_cons.mpr ⟨?_, ?_⟩)
    all_goals rfl
  · exact ⟨rfl, hl, by simp⟩
  · rintro i t ⟨l1, n1⟩ u h tk own hi ⟨hL1, hl1, hE1⟩ hown F1 N1
    dsimp only [kstB] at hL1 hl1 hE1 F1 N1 hown ⊢
    k_steps
    rw [show ((l.length / 2 : Nat) : Int) - 1 + (i : Int) * -1 = ((l.length / 2 - 1 - i : Nat) : Int) from by omega]
    refine siftup_call (H := H) (l := l1) (n := n1) (rest := rest ++ own) (by k_asm) F1 (by k_asm) N1 (by k_asm) rfl (by ktr_room) (by ktr_units) ?_ ?_ (by omega) (by omega) ?_
    · intro q hq
      rcases List.mem_append.mp hq with hq | hq
      · exact hoff q hq
      · exact hown q hq _ (.head _)
    · exact fun y hy => (hl1 y hy).mono fun q hq => List.mem_append_left _ hq
    intro n9 h9 tk9 F9 N9
    k_steps
    refine FEnd.intro (sup ltI l1 (l.length / 2 - 1 - i), n9) F9 N9 (fun q hq => ?_) (fun q hq => .tail _ (List.mem_append_right _ hq)) (fun q hq r hr => ?_) ?_ ⟨?_, ?_, ?_⟩
    · exact List.mem_append_left own hq
    · rcases List.mem_cons.mp hr with rfl | hr
      · show q.1 ≠ H
        exact hown q hq _ (.head _)
      · exact hown q hq _ (.tail _ hr)
    · repeat' (first | exact List.forall_mem_nil _ | refine List.forall_mem_cons.mpr ⟨?_, ?_⟩)
      all_goals rfl
    · dsimp only; rw [sup_length, hL1]
    · intro y hy
      exact hl1 y ((sup_mem _ _ _).mp hy)
    · dsimp only
      rw [List.take_add_one, List.getElem?_reverse (by simp; omega), List.foldl_append, ← hE1]
      simp only [List.length_range]
      rw [List.getElem?_range (by omega)]
      rfl
  · rintro ⟨l1, n1⟩ u h tk ⟨hL1, hl1, hE1⟩ F1 N1
    dsimp only [kstB] at hL1 hl1 hE1 F1 N1 ⊢
    k_steps
    rw [List.take_of_length_le (by simp)] at hE1
    exact hret _ _ _ (by k_asm) (by rw [← hE1]; k_asm)
end
end Mine
end
section
namespace Mine
section
variable {prog : Program} {w : World} {p : Program} {loose : List Str} {mean : ExcName → Option Value} {mg mb : Str → Option Value}
    {dp un : Nat} {gd : Option (List Code)} {cn : Str} {cs : Scope} {a : Addr} {ccd : Value} {cl : List (Str × Addr)} {outer : List Env} {A₀ : Around} {base h₀ : Heap} {L : Addr} {m : Str → Option Value} {rest : List (Addr × Obj)} {s : Shared}
    {Q E : Value → Shared → Prop}
set_option maxRecDepth 100000 in
set_option maxHeartbeats 8000000 in
theorem heapreplace_call {H : Addr} {l : List Item} {n : Nat} {x y : Item}
    (B : Below A₀ base outer h₀) (F : Fr h₀ L s.heap m) (X : (hd.heap_39 w.params).In h₀) (N : News h₀ L s.heap ((H, W.listOf (l.map (·.1)).toArray n) :: rest)) (T : Top p loose mean mg mb h₀) (hk : cs.kind = .function)
    (hdp : dp + 7 < recursionLimit) (hun : un + 70 < cLine)
    (hoff : ∀ p ∈ rest, p.1 ≠ H) (hl : ∀ y ∈ l, TupIn rest y.1 y.2) (hy : TupIn rest y.1 y.2) (hsz : l.length ≤ 1000) (hx : l[0]? = some x)
    (hret : ∀ n' h' tk', Fr h₀ L h' m → News h₀ L h' ((H, W.listOf ((sup ltI (l.set 0 y) 0).map (·.1)).toArray n') :: rest) → Q x.1 { s with heap := h', toks := tk' }) :
    wpAny (model prog w) (ktrTop dp un gd cn cs L a ccd cl outer) (call (.ref 200) [.ref H, y.1]) Q E s := by
  have hpos := (List.getElem?_eq_some_iff.mp hx).1
  refine wpAny_call ?_
  k_dflt ktr_enter
  k_steps
  refine item_get (k := 0) (by k_asm) (.head _) rfl hx hsz ?_
  k_steps
  refine item_set (k := 0) (x := y) (by k_asm) (by k_asm) hoff rfl (by omega) (by omega) rfl ?_
  intro h2 F2 N2
  k_steps
  refine siftup_call (l := l.set 0 y) (pos := 0) (by k_asm) F2 (by k_asm) N2 (by k_asm) rfl (by ktr_room) (by ktr_units) hoff ?_ (by simpa using hsz) (by simpa using hpos) ?_
  · intro z hz
    rcases List.mem_or_eq_of_mem_set hz with hz | rfl
    · exact hl z hz
    · exact hy
  intro n9 h9 tk9 F9 N9
  k_steps
  exact hret _ _ _ (by k_asm) (by k_asm)
def popRest (l : List Item) (z : Item) : List Item := if l = [] then [] else sup ltI (l.set 0 z) 0
def popTop (l : List Item) (z : Item) : Item := l.headD z
set_option maxRecDepth 100000 in
set_option maxHeartbeats 8000000 in
theorem heappop_call {H : Addr} {l : List Item} {n : Nat} {z : Item}
    (B : Below A₀ base outer h₀) (F : Fr h₀ L s.heap m) (X : (hd.heap_39 w.params).In h₀) (N : News h₀ L s.heap ((H, W.listOf ((l ++ [z]).map (·.1)).toArray n) :: rest)) (T : Top p loose mean mg mb h₀) (hk : cs.kind = .function)
    (hdp : dp + 7 < recursionLimit) (hun : un + 70 < cLine)
    (hoff : ∀ p ∈ rest, p.1 ≠ H) (hl : ∀ y ∈ l ++ [z], TupIn rest y.1 y.2) (hsz : l.length ≤ 999)
    (hret : ∀ n' h' tk', Fr h₀ L h' m → News h₀ L h' ((H, W.listOf ((popRest l z).map (·.1)).toArray n') :: rest) → Q (popTop l z).1 { s with heap := h', toks := tk' }) :
    wpAny (model prog w) (ktrTop dp un gd cn cs L a ccd cl outer) (call (.ref 193) [.ref H]) Q E s := by
  rw [List.map_append] at N
  refine wpAny_call ?_
  k_dflt ktr_enter
  k_steps
  refine list_pop (vs := l.map (·.1)) (v := z.1) (by k_asm) (by k_asm) hoff (by simp; omega) ?_
  intro h1 F1 N1
  cases l with
  | nil =>
    k_steps
    exact hret _ _ _ (by k_asm) (by k_asm)
  | cons x l =>
    k_steps
    · exact absurd (by assumption : (List.map (fun x : Item => x.1) (x :: l)).isEmpty = true) (by simp)
    refine item_set (l := x :: l) (k := 0) (x := z) (by k_asm) (by k_asm) hoff rfl (by simp) (by omega) rfl ?_
    intro h2 F2 N2
    k_steps
    refine siftup_call (l := (x :: l).set 0 z) (pos := 0) (by k_asm) F2 (by k_asm) N2 (by k_asm) rfl (by ktr_room) (by ktr_units) hoff ?_ (by rw [List.length_set]; omega) (by simp) ?_
    · intro y hy
      rcases List.mem_or_eq_of_mem_set hy with hy | rfl
      · exact hl y (List.mem_append_left _ hy)
      · exact hl y (List.mem_append_right _ (.head _))
    intro n9 h9 tk9 F9 N9
    k_steps
    exact hret _ _ _ (by k_asm) (by k_asm)
end
end Mine
end
section
namespace Mine
section
variable {prog : Program} {w : World} {A : Around} {h₀ : Heap} {L : Addr} {m : Str → Option Value} {env : Env} {ct elt : Expr} {x : Str} {scope : Scope} {cl : List (Str × Addr)} {s : Shared} {S : List (Addr × Obj) → Prop} {P : Nat → Value → Prop} {Fin : List Value → List (Addr × Obj) → Prop} {news : List (Addr × Obj)}
theorem comp_T {n : Nat} (R : Nat → List Value → List (Addr × Obj) → Prop) (h0 : R 0 [] news)
    (turn : ∀ i v I oI C oC D m₂ ys nw h tk (E' : Value → Shared → Prop), i < n → P i v → R i ys nw → LCg.NsObj oC m₂ → m₂ x = some v → Fr h₀ L h m → News h₀ L h ((I, oI) :: (C, oC) :: (D, LCg.lst ys) :: nw) → LCg.Off3 I C D nw → ((@Ne Nat I C) ∧ (@Ne Nat I D) ∧ (@Ne Nat C D)) →
      wpAny (model prog w) A (isTrue ct (compEnvC scope cl C env) (eval ct (compEnvC scope cl C env))) (fun b s' => if b = true then wpAny (model prog w) A (eval elt (compEnvC scope cl C env)) (LCg.CompEnd h₀ L m { s with heap := h, toks := tk } I oI C oC D (LCg.lst ys) S (fun y nw' => R (i + 1) (ys ++ [y]) nw')) E' s'
        else LCg.CompEnd h₀ L m { s with heap := h, toks := tk } I oI C oC D (LCg.lst ys) S (fun _ nw' => R (i + 1) ys nw') Value.none s') E' { s with heap := h, toks := tk })
    (fin : ∀ ys nw, R n ys nw → Fin ys nw) : LCt.CompRestT prog w A h₀ L m env ct elt x scope cl s S P Fin n 0 [] news := by
  have key : ∀ (j i : Nat) (ys : List Value) (nw : List (Addr × Obj)), i + j = n → R i ys nw → LCt.CompRestT prog w A h₀ L m env ct elt x scope cl s S P Fin j i ys nw := by
    intro j
    induction j with
    | zero =>
      intro i ys nw hi hy
      have e : i = n := by omega
      subst e
      exact LCt.CompRestT.zero (fin ys nw hy)
    | succ j ih =>
      intro i ys nw hi hy
      refine LCt.CompRestT.succ ?_
      intro v I oI C oC D m₂ h tk E' hv hC hx F N off ne
      refine wpAny_mono (turn i v I oI C oC D m₂ ys nw h tk E' (by omega) hv hy hC hx F N off ne) (fun b s₂ hq => ?_) fun _ _ e => e
      cases b with
      | true =>
        simp only [if_true] at hq ⊢
        refine wpAny_mono hq (fun y s₃ hr => ?_) fun _ _ e => e
        obtain ⟨h', tk', nw', e, F', N', off', hS, hR⟩ := hr
        exact ⟨h', tk', nw', e, F', N', off', hS, ih (i + 1) _ _ (by omega) hR⟩
      | false =>
        simp only [Bool.false_eq_true, if_false] at hq ⊢
        obtain ⟨h', tk', nw', e, F', N', off', hS, hR⟩ := hq
        exact ⟨h', tk', nw', e, F', N', off', hS, ih (i + 1) _ _ (by omega) hR⟩
  exact key n 0 [] news (by omega) h0
theorem comp_N {n : Nat} (R : Nat → List Value → List (Addr × Obj) → Prop) (h0 : R 0 [] news)
    (turn : ∀ i v I oI C oC D m₂ ys nw h tk (E' : Value → Shared → Prop), i < n → P i v → R i ys nw → LCg.NsObj oC m₂ → m₂ x = some v → Fr h₀ L h m → News h₀ L h ((I, oI) :: (C, oC) :: (D, LCg.lst ys) :: nw) → LCg.Off3 I C D nw → ((@Ne Nat I C) ∧ (@Ne Nat I D) ∧ (@Ne Nat C D)) →
      wpAny (model prog w) A (eval elt (compEnvC scope cl C env)) (LCg.CompEnd h₀ L m { s with heap := h, toks := tk } I oI C oC D (LCg.lst ys) S (fun y nw' => R (i + 1) (ys ++ [y]) nw')) E' { s with heap := h, toks := tk })
    (fin : ∀ ys nw, R n ys nw → Fin ys nw) : LCg.CompRest prog w A h₀ L m env elt x scope cl s S P Fin n 0 [] news := by
  have key : ∀ (j i : Nat) (ys : List Value) (nw : List (Addr × Obj)), i + j = n → R i ys nw → LCg.CompRest prog w A h₀ L m env elt x scope cl s S P Fin j i ys nw := by
    intro j
    induction j with
    | zero =>
      intro i ys nw hi hy
      have e : i = n := by omega
      subst e
      exact LCg.CompRest.zero (fin ys nw hy)
    | succ j ih =>
      intro i ys nw hi hy
      refine LCg.CompRest.succ ?_
      intro v I oI C oC D m₂ h tk E' hv hC hx F N off ne
      refine wpAny_mono (turn i v I oI C oC D m₂ ys nw h tk E' (by omega) hv hy hC hx F N off ne) (fun y s₃ hr => ?_) fun _ _ e => e
      obtain ⟨h', tk', nw', e, F', N', off', hS, hR⟩ := hr
      exact ⟨h', tk', nw', e, F', N', off', hS, ih (i + 1) _ _ (by omega) hR⟩
  exact key n 0 [] news (by omega) h0
end
/-- a header: a pair of one-sign texts -/
def PairIn (news : List (Addr × Obj)) (v : Value) (c d : Nat) : Prop :=
  ∃ (a : Addr) (t1 t2 : Tok) (n : Nat), v = .ref a ∧ (a, ({ cls := .type "tuple", data := .seq #[.str ⟨#[c]⟩ t1, .str ⟨#[d]⟩ t2] n } : Obj)) ∈ news
theorem PairIn.mono {l l' : List (Addr × Obj)} {v : Value} {c d : Nat} (h : PairIn l v c d) (hs : ∀ p ∈ l, p ∈ l') : PairIn l' v c d := by
  obtain ⟨a, t1, t2, n, e, hm⟩ := h
  exact ⟨a, t1, t2, n, e, hs _ hm⟩
def lo (c : Nat) : Nat := if 65 ≤ c ∧ c ≤ 90 then c + 32 else c
end Mine
end
section
set_option maxRecDepth 100000
namespace Mine
theorem pat_plain : PlainAttrs "re.Pattern" :=
  ⟨⟨"object.__getattribute__", by rw [typeLookup_type, builtinLookup_eq_fast]; kernel_rfl, by decide +kernel⟩, by rw [typeLookup_type, builtinLookup_eq_fast]; kernel_rfl⟩
theorem pat_slot : Slot "re.Pattern" "search" "re.Pattern.search" :=
  .of (owner := "re.Pattern") (n := "search") (by rw [typeLookup_type, builtinLookup_eq_fast]; kernel_rfl) (by decide +kernel) (by decide +kernel) (by decide +kernel)
    (by first | exact .inl (by decide +kernel) | exact .inr (by decide +kernel)) (by rw [isSubtype_type]; kernel_rfl)
theorem pat_type : typeOf (.builtin "re.Pattern.search") = pure (.type "method_descriptor") := by show builtinType _ = _; rw [builtinType_eq_fast]; kernel_rfl
theorem pat_entry : entryFor table "re.Pattern.search" = some Builtin.«re.Pattern.search» := entryFor_of_tree (by kernel_rfl)
theorem pat_args (a b : Value) : argsOk "re.Pattern.search" ⟨[a, b], []⟩ := by unfold argsOk; kernel_rfl
def driven : Nat → Sre.M → Option Sre.M
  | 0, _ => none
  | k + 1, m => let m := m.runFor Builtin.Re.reTurnSteps; if m.outcome.isSome then some m else driven k m
section
variable {M : Model} {A : Around} {E : Value → Shared → Prop} {s : Shared}
theorem drive_wp {Q : Sre.M → Shared → Prop} {m' : Sre.M} : ∀ (k N : Nat) (m : Sre.M), driven k m = some m' → k ≤ N → Q m' s → wpAny M A (Builtin.Re.reDrive N m) Q E s
  | 0, _, _, h, _, _ => by cases h
  | k + 1, 0, _, _, hk, _ => absurd hk (by omega)
  | k + 1, N + 1, m, h, hk, hq => by
    unfold driven at h
    show wpAny M A (if (m.runFor Builtin.Re.reTurnSteps).outcome.isSome = true then pure (m.runFor Builtin.Re.reTurnSteps) else do rule "sre.turn"; Builtin.Re.reDrive N (m.runFor Builtin.Re.reTurnSteps)) Q E s
    dsimp only at h
    split at h
    · rename_i ho
      rw [if_pos ho]
      cases h
      exact wpAny_pure hq
    · rename_i ho
      rw [if_neg ho]
      exact wpAny_bind (wpAny_rule (drive_wp k N _ h (by omega) hq))
def failed? (m : Sre.M) : Bool := match m.outcome with
  | some .failed => true
  | _ => false
def noHit (code : Array Nat) (text : Array Nat) : Bool := match driven 60 (Sre.forSearch code text 0 0 text.size false) with
  | some m => failed? m
  | none => false
theorem run_none {Q : Option Sre.M → Shared → Prop} {m : Sre.M} (h : (match driven 60 m with | some m => failed? m | none => false) = true) (hq : Q none s) : wpAny M A (Builtin.Re.reRunToEnd m) Q E s := by
  unfold Builtin.Re.reRunToEnd
  cases hd : driven 60 m with
  | none => rw [hd] at h; cases h
  | some m' =>
    rw [hd] at h
    dsimp only at h
    refine wpAny_bind (drive_wp 60 (2 ^ 64) m hd (by decide) ?_)
    refine wpAny_bind (wpAny_forIn_list _ (fun _ _ s' => s' = s) _ ?_ ?_ _ _ rfl)
    · rintro x rest b s' rfl
      split
      · exact wpAny_bind (wpAny_rule (wpAny_pure rfl))
      · exact wpAny_pure rfl
    · rintro b s' rfl
      unfold failed? at h
      split at h
      · rename_i e
        rw [e]
        exact wpAny_pure hq
      · cases h
end
section
variable {prog : Program} {w : World} {A : Around} {E : Value → Shared → Prop} {s : Shared}
theorem search_none {P T : Addr} {pat fl : Value} {codes : Array Value} {n : Nat} {x : Str} {t : Tok} {Q : Value → Shared → Prop}
    (hP : s.heap.get? P = some { cls := .type "re.Pattern", data := .fields #[pat, fl, .int 0 0, .none, .none, .ref T, .int 0 0] }) (hT : s.heap.get? T = some { cls := .type "tuple", data := .seq codes n })
    (hsz : x.cps.size ≤ 1000) (hno : noHit ((codes.map Builtin.Re.reRawOf).map (·.toNat)) x.cps = true) (h : Q .none s) :
    wpAny (model prog w) A (call (.builtin "re.Pattern.search") [.ref P, .str x t]) Q E s := by
  have hTy : s.TypeIs (.ref P) "re.Pattern" := ⟨_, hP, rfl⟩
  refine wpAny_call_entry pat_slot hTy pat_entry ?_ (pat_args _ _)
  unfold Builtin.«re.Pattern.search»
  refine wpAny_bind ?_
  unfold Builtin.Re.reTarget
  dsimp only
  refine wpAny_bind (wpAny_of_eq (a := [some (.str x t), none, none]) (by rfl) ?_)
  dsimp only
  refine wpAny_bind (wpAny_pure ?_)
  refine wpAny_bind (wpAny_pure ?_)
  refine wpAny_bind (wpAny_fieldsOf hP rfl ?_)
  refine wpAny_bind (wpAny_of_eq (a := (x.cps, 0)) (by rfl) ?_)
  rw [if_neg (by simp), if_neg (by simp [Builtin.Re.reRawNat])]
  refine wpAny_bind (wpAny_of_eq (a := ()) (by rfl) ?_)
  refine wpAny_bind ?_
  unfold Builtin.Re.reRawItems
  refine wpAny_bind (wpAny_seqItems (a := T) hT rfl (wpAny_pure ?_))
  refine wpAny_pure ?_
  unfold Builtin.Re.reAnswer
  have e1 : min (Int.toNat 0) x.cps.size = 0 := by simp
  have e2 : min ((2 ^ 63 - 1 : Int).toNat) x.cps.size = x.cps.size := by
    have : (2 ^ 63 - 1 : Int).toNat = 9223372036854775807 := by decide
    omega
  refine wpAny_bind (run_none ?_ (wpAny_pure ⟨_, rfl, h⟩))
  dsimp only
  rw [e1, e2]
  exact hno
def okc (c : Nat) : Bool := (97 ≤ c && c ≤ 108) || (65 ≤ c && c ≤ 76) || (48 ≤ c && c ≤ 57)
def code47 : Array Value := #[Value.int 14 0, Value.int 10 0, Value.int 4 0, Value.int 1 0, Value.int 1 0, Value.int 22 0, Value.int 0 0, Value.int 31 0, Value.int 16 0, Value.int 127 0, Value.int 0 0, Value.int 13 0, Value.int 7 0, Value.int 22 0, Value.int 0 0, Value.int 31 0, Value.int 16 0, Value.int 127 0, Value.int 0 0, Value.int 1 0]
def code52 : Array Value := #[Value.int 14 0, Value.int 14 0, Value.int 4 0, Value.int 1 0, Value.int 1 0, Value.int 9 0, Value.int 4294966783 0, Value.int 0 0, Value.int 0 0, Value.int 2147483648 0, Value.int 0 0, Value.int 0 0, Value.int 0 0, Value.int 0 0, Value.int 0 0, Value.int 13 0, Value.int 11 0, Value.int 9 0, Value.int 4294966783 0, Value.int 0 0, Value.int 0 0, Value.int 2147483648 0, Value.int 0 0, Value.int 0 0, Value.int 0 0, Value.int 0 0, Value.int 0 0, Value.int 1 0]
theorem ok_47 : ((List.range 128).all fun c => !okc c || noHit ((code47.map Builtin.Re.reRawOf).map (·.toNat)) #[c]) = true := by decide +kernel
theorem ok_52 : ((List.range 128).all fun c => !okc c || noHit ((code52.map Builtin.Re.reRawOf).map (·.toNat)) #[c]) = true := by decide +kernel
theorem okc_lt {c : Nat} (h : okc c = true) : c < 128 := by
  simp only [okc, Bool.or_eq_true, Bool.and_eq_true, decide_eq_true_eq] at h
  omega
theorem no_47 {c : Nat} (h : okc c = true) : noHit ((code47.map Builtin.Re.reRawOf).map (·.toNat)) #[c] = true := by
  have := List.all_eq_true.mp ok_47 c (List.mem_range.mpr (okc_lt h))
  simpa [h] using this
theorem no_52 {c : Nat} (h : okc c = true) : noHit ((code52.map Builtin.Re.reRawOf).map (·.toNat)) #[c] = true := by
  have := List.all_eq_true.mp ok_52 c (List.mem_range.mpr (okc_lt h))
  simpa [h] using this
theorem pat_method {P : Addr} {fs : Array Value} {pl : Sem Bool} {Q : Value × List Value → Shared → Prop} (hP : s.heap.get? P = some { cls := .type "re.Pattern", data := .fields fs })
    (h : Q (.builtin "re.Pattern.search", [.ref P]) s) : wpAny (model prog w) A (getMethod (.ref P) (Str.ofString "search") pl) Q E s :=
  getMethod_builtin ⟨_, hP, rfl⟩ pat_plain pat_slot pat_type (fun a e => by cases e; exact ⟨_, hP, rfl⟩) h
end
end Mine
end
section
namespace Mine
section
variable {prog : Program} {w : World} {p : Program} {loose : List Str} {mean : ExcName → Option Value} {mg mb : Str → Option Value}
    {dp un : Nat} {gd : Option (List Code)} {cn : Str} {cs : Scope} {a : Addr} {ccd : Value} {cl : List (Str × Addr)} {outer : List Env} {A₀ : Around} {base h₀ : Heap} {L : Addr} {m : Str → Option Value} {news : List (Addr × Obj)} {s : Shared}
    {Q E : Value → Shared → Prop}
local macro_rules | `(tactic| walk_at "getMethod ref") => `(tactic| ((with_reducible show wpAny _ _ (getMethod (Value.ref _) (Str.ofString "search") _) _ _ _); (rename Fr _ _ _ _ => F9); (rename Frag.In _ _ => X9); k_dflt (refine' pat_method (X9.keeps F9.keep _ _ ?kl) ?_; (case kl => k_is); k_whole)))
set_option maxRecDepth 100000 in
set_option maxHeartbeats 8000000 in
theorem conv_call {x : Addr} {b : Bool} {c : Nat} {t : Tok}
    (B : Below A₀ base outer h₀) (F : Fr h₀ L s.heap m) (X : (hd.heap_39 w.params).In h₀) (N : News h₀ L s.heap news) (T : Top p loose mean mg mb h₀) (hk : cs.kind = .function)
    (hdp : dp + 7 < recursionLimit) (hun : un + 70 < cLine)
    (hc : okc c = true) (hret : ∀ h' tk', Fr h₀ L h' m → News h₀ L h' news → Q (.str ⟨#[c]⟩ t) { s with heap := h', toks := tk' }) :
    wpAny (model prog w) (ktrTop dp un gd cn cs L a ccd cl outer) (call (.ref 83) [.ref x, .str ⟨#[c]⟩ t] [(Str.ofString "name", .bool b)]) Q E s := by
  refine wpAny_call ?_
  k_dflt ktr_enter
  k_steps
  · (rename Fr _ _ _ _ => F9); (rename Frag.In _ _ => X9)
    refine search_none (codes := code47) (X9.keeps F9.keep 48 _ (by k_is)) (X9.keeps F9.keep 47 _ (by k_is)) (by simp) (no_47 hc) ?_
    k_steps
    exact hret _ _ (by k_asm) (by k_asm)
  · (rename Fr _ _ _ _ => F9); (rename Frag.In _ _ => X9)
    refine search_none (codes := code52) (X9.keeps F9.keep 53 _ (by k_is)) (X9.keeps F9.keep 52 _ (by k_is)) (by simp) (no_52 hc) ?_
    k_steps
    exact hret _ _ (by k_asm) (by k_asm)
end
end Mine
end
section
local macro_rules | `(tactic| walk_at "no key 0") => `(tactic| skip)
namespace Mine
theorem lo_all : ((List.range 128).all fun c => !okc c || (Txt.lower ⟨#[c]⟩ == (⟨#[lo c]⟩ : Str) && okc (lo c))) = true := by decide +kernel
theorem lower_ok {c : Nat} (h : okc c = true) : Txt.lower ⟨#[c]⟩ = ⟨#[lo c]⟩ ∧ okc (lo c) = true := by
  have := List.all_eq_true.mp lo_all c (List.mem_range.mpr (okc_lt h))
  simpa [h] using this
theorem off1_mem {D : Addr} : ∀ {l : List (Addr × Obj)}, LCg.Off1 D l → ∀ p ∈ l, p.1 ≠ D
  | [], _, _, h => nomatch h
  | _ :: _, x, p, h => by
    rcases List.mem_cons.mp h with rfl | h
    · exact x.1
    · exact off1_mem x.2 p h
section
variable {prog : Program} {w : World} {p : Program} {loose : List Str} {mean : ExcName → Option Value} {mg mb : Str → Option Value}
    {dp un : Nat} {gd : Option (List Code)} {cn : Str} {cs : Scope} {a : Addr} {ccd : Value} {cl : List (Str × Addr)} {outer : List Env} {A₀ : Around} {base h₀ : Heap} {L : Addr} {m : Str → Option Value} {news : List (Addr × Obj)} {s : Shared}
    {Q E : Value → Shared → Prop}
local macro_rules | `(tactic| walk_at "CompSrcT") => `(tactic| refine halt ?_)
local macro_rules | `(tactic| k_mem) => `(tactic| first | assumption | exact List.Mem.head _ | (refine' List.mem_cons_of_mem _ ?_; k_mem))
local macro_rules | `(tactic| k_all) => `(tactic| (intro p9 hp9; (rename (∀ p : Addr × Obj, p ∈ _ → p.1 < _) => l9); (have e9 := ltN (l9 p9 hp9)); refine neN ?_; (try dsimp only at e9 ⊢); omega))
local macro_rules | `(tactic| ktn_open) => `(tactic| (refine' code_defC ?k1 ?k2 ?k3 ?k4 ?k5 ?kA ?kF ?kK ?k6 ?k7 ?k8 ?k9 ?kB ?kD ?_ ?c2 ?c3 ?c4; (case kA => exact rfl); (case kF => exact rfl); (case kK => assumption); (case k1 => k_asm); (case k2 => k_asm); (case k3 => k_asm); (case k4 => k_asm); (case k5 => k_asm); (case k6 => k_is); (case k7 => k_is); (case k8 => ktr_room); (case k9 => exact BindsTo.of_eq rfl); (case kB => exact rfl); (case kD => decide +kernel); (case c2 => exact rfl); (case c3 => exact rfl); (case c4 => exact rfl); k_whole; intro g' L' h' tk' cells' FG' F' N' Y' B' X' T' l1; (try k_lt l1); k_cells Y'; (try simp only [List.cons_append, List.nil_append] at N'); (try dsimp only); (try k_fold)))
set_option maxRecDepth 100000 in
set_option maxHeartbeats 8000000 in
theorem getall_call {x dx H : Addr} {hs : Int} {tk0 : Tok} {nd n : Nat} {hv : List (Value × Nat × Nat)} {c : Nat} {t : Tok}
    (B : Below A₀ base outer h₀) (F : Fr h₀ L s.heap m) (X : (hd.heap_39 w.params).In h₀) (N : News h₀ L s.heap news) (T : Top p loose mean mg mb h₀) (hk : cs.kind = .function)
    (hdp : dp + 12 < recursionLimit) (hun : un + 120 < cLine)
    (hx : (x, instObj 182 dx) ∈ news) (hdx : (dx, dictOf [DictEntry.mk hs (.str (Str.ofString "_headers") tk0) (.ref H)] nd) ∈ news) (hH : (H, W.listOf (hv.map (·.1)).toArray n) ∈ news)
    (hc : okc c = true) (hp : ∀ y ∈ hv, PairIn news y.1 y.2.1 y.2.2 ∧ okc y.2.1 = true) (hsz : hv.length ≤ 1000)
    (hret : ∀ D rs n' h' tk', Fr h₀ L h' m → News h₀ L h' ((D, W.listOf rs.toArray n') :: news) → (∀ p ∈ news, p.1 ≠ D) → StrsAre rs ((hv.filter fun y => lo y.2.1 == lo c).map fun y => (⟨#[y.2.2]⟩ : Str)) → Q (.ref D) { s with heap := h', toks := tk' }) :
    wpAny (model prog w) (ktrTop dp un gd cn cs L a ccd cl outer) (call (.ref 121) [.ref x, .str ⟨#[c]⟩ t]) Q E s := by
  have hlen : (⟨#[c]⟩ : Str).length = 1 := rfl
  refine wpAny_call ?_
  k_dflt ktn_open
  k_steps
  rw [(lower_ok hc).1]
  refine conv_call (b := true) (c := lo c) (by k_asm) (by k_asm) (by k_asm) (by k_asm) (by k_asm) rfl (by ktr_room) (by ktr_units) (lower_ok hc).2 ?_
  intro h1 tk1 F1 N1
  k_steps
  refine unhalt ?_
  rename Fr _ _ _ _ => F9
  rename News _ _ _ _ => N9
  refine LCt.CompSrcT.ledger rfl F9 N9 (List.mem_cons_of_mem _ hH) (by rw [sizeLine_eq]; simp; omega) ?_
  intro g9
  refine comp_T (fun i ys nw => nw = _ ∧ ys.length ≤ i ∧ StrsAre ys (((hv.take i).filter fun y => lo y.2.1 == lo c).map fun y => (⟨#[y.2.2]⟩ : Str))) ⟨rfl, Nat.le_refl _, .nil⟩ ?_ ?_
  · rintro i v I oI C oC D m₂ ys nw h tk E' hi hPv ⟨rfl, hyl, hys⟩ hC hx2 F2 N2 off ne
    obtain ⟨y, hy, rfl⟩ : ∃ y, hv[i]? = some y ∧ v = y.1 := by
      simp only [List.getElem?_toArray, List.getElem?_map] at hPv
      cases e : hv[i]? with
      | none => rw [e] at hPv; cases hPv
      | some y => rw [e] at hPv; cases hPv; exact ⟨y, rfl, rfl⟩
    obtain ⟨⟨pa, t1, t2, np, hv1, hpm⟩, hoky⟩ := hp y (List.mem_of_getElem? hy)
    rw [hv1] at hx2
    have hl2 : (⟨#[y.2.1]⟩ : Str).length = 1 := rfl
    have hst : (hv.take (i + 1)).filter (fun y => lo y.2.1 == lo c) = (hv.take i).filter (fun y => lo y.2.1 == lo c) ++ (if (lo y.2.1 == lo c) = true then [y] else []) := by
      rw [List.take_add_one, hy, List.filter_append]
      cases e : (lo y.2.1 == lo c) <;> simp [e]
    have hlow : (Txt.lower ⟨#[y.2.1]⟩ == (⟨#[lo c]⟩ : Str)) = (lo y.2.1 == lo c) := by
      rw [(lower_ok hoky).1]
      by_cases e : lo y.2.1 = lo c
      · rw [e]; simp
      · rw [beq_eq_false_iff_ne.mpr e, beq_eq_false_iff_ne]
        intro z
        injection z with z
        have := congrArg Array.toList z
        simp at this
        exact e this
    k_steps
    · refine LCg.CompEnd.intro F2 N2 _ (fun _ h => h) off ?_ ⟨rfl, ?_, ?_⟩
      · exact .inr ⟨_, List.mem_cons_of_mem _ hH, rfl, _, rfl⟩
      · simp; omega
      · rw [hst, if_pos (by rw [← hlow]; assumption), List.map_append]
        exact kct_snoc hys
    · refine LCg.CompEnd.intro F2 N2 _ (fun _ h => h) off ?_ ⟨rfl, ?_, ?_⟩
      · exact .inr ⟨_, List.mem_cons_of_mem _ hH, rfl, _, rfl⟩
      · omega
      · rw [hst, if_neg (by rw [← hlow]; exact Bool.eq_false_iff.mp (by assumption)), List.append_nil]
        exact hys
  · rintro ys nw ⟨rfl, hyl, hys⟩
    k_steps
    rw [List.take_of_length_le (by simp)] at hys
    rename (_ ≠ _) ∧ LCg.Off1 _ _ => o9
    rename News h₀ L _ _ => N8
    refine hret _ ys ys.length _ _ (by k_asm) (fun q hq => N8 q ?_) (fun q hq => off1_mem o9.2 q hq) hys
    rcases List.mem_cons.mp hq with rfl | hq
    · exact .head _
    · exact .tail _ (.tail _ hq)
end
end Mine
end
section
namespace Mine
theorem allLt_ne {d : Addr} {l : List (Addr × Obj)} (h : AllLt d l) : ∀ p ∈ l, p.1 ≠ d := fun p hp => Nat.ne_of_lt (ktn_ltOf h p hp)
theorem join_one (d : Nat) : Txt.join (Str.ofString "; ") [(⟨#[d]⟩ : Str)] = ⟨#[d]⟩ := by
  simp only [Txt.join, Builtin.Str.glued]
  rfl
theorem map_snoc (hv : List (Value × Nat × Nat)) (v : Value) (c d : Nat) : hv.map (·.1) ++ [v] = (hv ++ [(v, c, d)]).map (·.1) := by rw [List.map_append]; rfl
theorem addhdr_mem {α : Type} {a b c d e : α} {rest : List α} : ∀ q ∈ e :: a :: rest, q ∈ a :: b :: c :: d :: e :: rest := by
  intro q hq
  simp only [List.mem_cons] at hq ⊢
  rcases hq with h | h | h
  · simp [h]
  · simp [h]
  · simp [h]
section
variable {prog : Program} {w : World} {p : Program} {loose : List Str} {mean : ExcName → Option Value} {mg mb : Str → Option Value}
    {dp un : Nat} {gd : Option (List Code)} {cn : Str} {cs : Scope} {a : Addr} {ccd : Value} {cl : List (Str × Addr)} {outer : List Env} {A₀ : Around} {base h₀ : Heap} {L : Addr} {m : Str → Option Value} {rest : List (Addr × Obj)} {s : Shared}
    {Q E : Value → Shared → Prop}
local macro_rules | `(tactic| k_mem) => `(tactic| first | assumption | exact List.Mem.head _ | (refine' List.mem_cons_of_mem _ ?_; k_mem))
local macro_rules | `(tactic| k_all) => `(tactic| first | exact List.forall_mem_nil _ | (refine' List.forall_mem_cons.mpr ⟨?a, ?b⟩; (case a => k_ne); (case b => k_all)) | exact allLt_ne (by assumption) | exact allLt_ne (And.right (by assumption)) | exact allLt_ne (And.right (And.right (by assumption))) | exact allLt_ne (And.right (And.right (And.right (by assumption)))) | exact allLt_ne (And.right (And.right (And.right (And.right (by assumption))))) | assumption)
local macro_rules | `(tactic| ktn_open) => `(tactic| (refine' kp_more ?k1 ?k2 ?k3 ?k4 ?k5 ?kA ?kF ?kK ?k6 ?k7 ?k8 ?kX ?kM ?kN ?kD ?kR ?kP ?kT ?kB ?_ ?c2 ?c3 ?c4 ?c5; (case kA => exact rfl); (case kF => exact rfl); (case kK => assumption); (case k1 => k_asm); (case k2 => k_asm); (case k3 => k_asm); (case k4 => k_asm); (case k5 => k_asm); (case k6 => k_is); (case k7 => k_is); (case k8 => ktr_room); (case kX => kp_lit); (case kM => exact rfl); (case kN => exact rfl); (case kD => kp_flats); (case kR => exact rfl); (case kP => exact rfl); (case kT => exact fun _ => rfl); (case kB => exact fun _ => locs rfl); (case c5 => decide); (case c2 => exact rfl); (case c3 => exact rfl); (case c4 => exact rfl); k_whole; intro D' o' g' L' h' tk' l1 lo' hs' fs' FG' F' N' B' X' T'; (try k_lt l1); (try dsimp only); (try k_fold)))
set_option maxRecDepth 100000 in
set_option maxHeartbeats 8000000 in
theorem addhdr_call {x dx H : Addr} {hs : Int} {tk0 : Tok} {nd n : Nat} {hv : List (Value × Nat × Nat)} {c d : Nat} {t u : Tok}
    (B : Below A₀ base outer h₀) (F : Fr h₀ L s.heap m) (X : (hd.heap_39 w.params).In h₀) (N : News h₀ L s.heap ((H, W.listOf (hv.map (·.1)).toArray n) :: rest)) (T : Top p loose mean mg mb h₀) (hk : cs.kind = .function)
    (hdp : dp + 12 < recursionLimit) (hun : un + 120 < cLine) (hoff : ∀ p ∈ rest, p.1 ≠ H)
    (hx : (x, instObj 182 dx) ∈ rest) (hdx : (dx, dictOf [DictEntry.mk hs (.str (Str.ofString "_headers") tk0) (.ref H)] nd) ∈ rest)
    (hc : okc c = true) (hd : okc d = true) (hsz : hv.length ≤ 1000)
    (hret : ∀ v tp o n' h' tk', Fr h₀ L h' m → News h₀ L h' ((H, W.listOf ((hv ++ [(v, c, d)]).map (·.1)).toArray n') :: (tp, o) :: rest) → PairIn [(tp, o)] v c d → H ≠ tp → (∀ p ∈ rest, p.1 ≠ tp) → Q .none { s with heap := h', toks := tk' }) :
    wpAny (model prog w) (ktrTop dp un gd cn cs L a ccd cl outer) (call (.ref 179) [.ref x, .str ⟨#[c]⟩ t, .str ⟨#[d]⟩ u]) Q E s := by
  have hlen : (⟨#[c]⟩ : Str).length = 1 := rfl
  have hlen2 : (⟨#[d]⟩ : Str).length = 1 := rfl
  refine wpAny_call ?_
  k_dflt ktn_open
  k_steps
  refine conv_call (b := false) (c := d) (by k_asm) (by k_asm) (by k_asm) (by k_asm) (by k_asm) rfl (by ktr_room) (by ktr_units) hd ?_
  intro h1 tk1 F1 N1
  k_steps
  refine conv_call (b := true) (c := c) (by k_asm) (by k_asm) (by k_asm) (by k_asm) (by k_asm) rfl (by ktr_room) (by ktr_units) hc ?_
  intro h2 tk2 F2 N2
  k_steps
  rename Fr _ _ _ _ => F8
  rename News _ _ _ _ => N8
  rename (_ < _ ∧ _ < _ ∧ _ < _ ∧ _ < _ ∧ AllLt _ _) => l8
  have e8 : Txt.join (Str.ofString "; ") [(⟨#[d]⟩ : Str)] = ⟨#[d]⟩ := join_one d
  rw [e8] at N8
  refine list_append (H := H) (vs := hv.map (·.1)) F8 (fun q hq => N8 q (addhdr_mem q hq)) ?_ (by simpa using hsz) ?_
  · intro q hq
    rcases List.mem_cons.mp hq with rfl | hq
    · exact Nat.ne_of_gt l8.2.2.2.1
    · exact hoff q hq
  intro n9 h9 F9 N9
  k_steps
  rename News _ _ _ _ => N7
  rw [map_snoc hv _ c d] at N7
  exact hret _ _ _ n9 _ _ (by k_asm) N7 ⟨_, _, _, _, rfl, .head _⟩ (Nat.ne_of_lt l8.2.2.2.1) (allLt_ne l8.2.2.2.2)
end
end Mine
end
section
local macro_rules | `(tactic| walk_at "no key 0") => `(tactic| skip)
namespace Mine
/-- the sign of a pile's name -/
def spc (k j : Nat) : Nat := if j % 2 = 1 then 65 + k else 97 + k
theorem item_all : ((List.range 12).all fun k => Txt.item (Str.ofString "abcdefghijkl") (k : Int) == (⟨#[97 + k]⟩ : Str) && Txt.upper ⟨#[97 + k]⟩ == (⟨#[65 + k]⟩ : Str)) = true := by decide +kernel
theorem item_is {k : Nat} (h : k < 12) : Txt.item (Str.ofString "abcdefghijkl") (k : Int) = ⟨#[97 + k]⟩ ∧ Txt.upper ⟨#[97 + k]⟩ = ⟨#[65 + k]⟩ := by
  have := List.all_eq_true.mp item_all k (List.mem_range.mpr h)
  simpa using this
theorem okc_spc {k j : Nat} (h : k < 12) : okc (spc k j) = true := by
  unfold spc okc
  split <;> simp <;> omega
theorem lo_spc {k j : Nat} (h : k < 12) : lo (spc k j) = 97 + k := by
  unfold spc lo
  split <;> split <;> omega
section
variable {prog : Program} {w : World} {p : Program} {loose : List Str} {mean : ExcName → Option Value} {mg mb : Str → Option Value}
    {dp un : Nat} {gd : Option (List Code)} {cn : Str} {cs : Scope} {a : Addr} {ccd : Value} {cl : List (Str × Addr)} {outer : List Env} {A₀ : Around} {base h₀ : Heap} {L : Addr} {m : Str → Option Value} {news : List (Addr × Obj)} {s : Shared}
    {Q E : Value → Shared → Prop}
set_option maxRecDepth 100000 in
set_option maxHeartbeats 8000000 in
theorem spelled_call {i j : Int} {k q : Nat} {ti tj : Tok}
    (B : Below A₀ base outer h₀) (F : Fr h₀ L s.heap m) (X : (hd.heap_39 w.params).In h₀) (N : News h₀ L s.heap news) (T : Top p loose mean mg mb h₀) (hk : cs.kind = .function)
    (hdp : dp + 3 < recursionLimit) (hun : un + 30 < cLine) (hi : i = (k : Int)) (hj : j = (q : Int)) (hk12 : k < 12)
    (hret : ∀ t h' tk', Fr h₀ L h' m → News h₀ L h' news → Q (.str ⟨#[spc k q]⟩ t) { s with heap := h', toks := tk' }) :
    wpAny (model prog w) (ktrTop dp un gd cn cs L a ccd cl outer) (call (.ref 235) [.int i ti, .int j tj]) Q E s := by
  have hi0 : 0 ≤ i := by omega
  have hi1 : i < 12 := by omega
  refine wpAny_call ?_
  k_dflt ktr_enter
  k_steps
  · have e : spc k q = 65 + k := by
      unfold spc
      rw [if_pos]
      rename (j.fmod 2 = 1) => hf
      rw [Int.fmod_eq_emod_of_nonneg _ (by decide)] at hf
      omega
    have := hret
    rw [e, ← (item_is hk12).2, ← (item_is hk12).1, ← hi] at this
    exact this _ _ _ (by k_asm) (by k_asm)
  · have e : spc k q = 97 + k := by
      unfold spc
      rw [if_neg]
      rename (¬ j.fmod 2 = 1) => hf
      rw [Int.fmod_eq_emod_of_nonneg _ (by decide)] at hf
      omega
    have := hret
    rw [e, ← (item_is hk12).1, ← hi] at this
    exact this _ _ _ (by k_asm) (by k_asm)
end
end Mine
end
section
namespace Mine
/-- the places in pile k, in order -/
def idxs (ps : List Nat) (k : Nat) : List Nat := (ps.zipIdx.filter fun p => p.1 == k).map (·.2)
def codesOf (ps : List Nat) : List (Nat × Nat) := ps.zipIdx.map fun p => (spc p.1 p.2, 48 + p.2)
theorem zip_snoc (ps : List Nat) (k : Nat) : (ps ++ [k]).zipIdx = ps.zipIdx ++ [(k, ps.length)] := by
  rw [List.zipIdx_append]; simp
theorem idxs_snoc (ps : List Nat) (k k' : Nat) : idxs (ps ++ [k]) k' = idxs ps k' ++ (if k = k' then [ps.length] else []) := by
  unfold idxs
  rw [zip_snoc, List.filter_append, List.map_append]
  by_cases e : k = k' <;> simp [e]
theorem codes_snoc (ps : List Nat) (k : Nat) : codesOf (ps ++ [k]) = codesOf ps ++ [(spc k ps.length, 48 + ps.length)] := by
  unfold codesOf
  rw [zip_snoc, List.map_append]; simp
theorem idxs_mem {ps : List Nat} {k j : Nat} : j ∈ idxs ps k ↔ ps[j]? = some k := by
  unfold idxs
  simp only [List.mem_map, List.mem_filter, beq_iff_eq]
  constructor
  · rintro ⟨⟨a, b⟩, ⟨h1, h2⟩, h3⟩
    simp only at h2 h3
    subst h2 h3
    exact List.mem_zipIdx_iff_getElem?.mp h1
  · intro h
    exact ⟨(k, j), ⟨List.mem_zipIdx_iff_getElem?.mpr h, rfl⟩, rfl⟩
theorem row_of {hv : List (Value × Nat × Nat)} {ps : List Nat} {c k : Nat} (hc : hv.map (·.2) = codesOf ps) (h12 : ∀ q ∈ ps, q < 12) (hk : lo c = 97 + k) :
    ((hv.filter fun y => lo y.2.1 == lo c).map fun y => (⟨#[y.2.2]⟩ : Str)) = (idxs ps k).map fun j => (⟨#[48 + j]⟩ : Str) := by
  have h1 : ((hv.filter fun y => lo y.2.1 == lo c).map fun y => (⟨#[y.2.2]⟩ : Str)) = ((hv.map (·.2)).filter fun q => lo q.1 == lo c).map fun q => (⟨#[q.2]⟩ : Str) := by
    rw [List.filter_map, List.map_map]
    rfl
  rw [h1, hc]
  unfold codesOf idxs
  rw [List.filter_map, List.map_map, List.map_map]
  have h2 : (ps.zipIdx.filter ((fun q : Nat × Nat => lo q.1 == lo c) ∘ fun p => (spc p.1 p.2, 48 + p.2))) = ps.zipIdx.filter fun p => p.1 == k := by
    apply List.filter_congr
    intro p hp
    have : p.1 ∈ ps := List.mem_of_getElem? (List.mem_zipIdx_iff_getElem?.mp hp)
    show (lo (spc p.1 p.2) == lo c) = (p.1 == k)
    rw [lo_spc (h12 _ this), hk]
    by_cases e : p.1 = k
    · simp [e]
    · rw [beq_eq_false_iff_ne.mpr e, beq_eq_false_iff_ne]; omega
  rw [h2]
  rfl
/-- the piles, as the table is laid -/
inductive Laid (cards : List Int) : List Nat → Prop
  | nil : Laid cards []
  | snoc {ps : List Nat} {k : Nat} : Laid cards ps → (∀ k' < k, ∃ j, (idxs ps k').getLast? = some j ∧ cards.getD j 0 < cards.getD ps.length 0) →
      (∀ j, (idxs ps k).getLast? = some j → ¬ cards.getD j 0 < cards.getD ps.length 0) → Laid cards (ps ++ [k])
theorem Laid.le {cards : List Int} {ps : List Nat} (h : Laid cards ps) : ∀ j k : Nat, ps[j]? = some k → k ≤ j := by
  induction h with
  | nil => intro j k h; simp at h
  | @snoc ps k hl h1 h2 ih =>
    intro j k' hj
    by_cases e : j < ps.length
    · rw [List.getElem?_append_left e] at hj
      exact ih j k' hj
    · rw [List.getElem?_append_right (by omega)] at hj
      have : j = ps.length := by
        have := (List.getElem?_eq_some_iff.mp hj).1
        simp at this; omega
      subst this
      simp at hj
      subst hj
      -- every earlier pile is held by some place
      cases k with
      | zero => omega
      | succ k =>
        obtain ⟨j, hj, _⟩ := h1 k (by omega)
        have hm := idxs_mem.mp (List.mem_of_getLast? hj)
        have := ih j k hm
        have := (List.getElem?_eq_some_iff.mp hm).1
        omega
theorem Laid.bound {cards : List Int} {ps : List Nat} (h : Laid cards ps) {k : Nat} (hk : ∀ k' < k, ∃ j, (idxs ps k').getLast? = some j ∧ cards.getD j 0 < cards.getD ps.length 0) : k ≤ ps.length := by
  cases k with
  | zero => omega
  | succ k =>
    obtain ⟨j, hj, _⟩ := hk k (by omega)
    have hm := idxs_mem.mp (List.mem_of_getLast? hj)
    have := h.le j k hm
    have := (List.getElem?_eq_some_iff.mp hm).1
    omega
theorem Laid.lt {cards : List Int} {ps : List Nat} (h : Laid cards ps) : ∀ q ∈ ps, q < ps.length := by
  intro q hq
  obtain ⟨j, hj⟩ := List.mem_iff_getElem?.mp hq
  have := h.le j q hj
  have := (List.getElem?_eq_some_iff.mp hj).1
  omega
theorem int_all : ((List.range 10).all fun j => PySem.intText? ⟨#[48 + j]⟩ == some ((j : Nat) : Int) && PySem.Str.ofString (toString ((j : Nat) : Int)) == ⟨#[48 + j]⟩) = true := by decide +kernel
theorem int_is {j : Nat} (h : j < 10) : PySem.intText? ⟨#[48 + j]⟩ = some ((j : Nat) : Int) ∧ PySem.Str.ofString (toString ((j : Nat) : Int)) = ⟨#[48 + j]⟩ := by
  have := List.all_eq_true.mp int_all j (List.mem_range.mpr h)
  simpa using this
theorem okc_dig {j : Nat} (h : j < 10) : okc (48 + j) = true := by
  unfold okc
  simp; omega
end Mine
end
section
open PySem PySem.W PyProof.Rows PySem.SeqAt
namespace Mine
section
variable {prog : Program} {w : World} {A : Around} {E : Value → Shared → Prop} {s : Shared} {h₀ : Heap} {L : Addr} {news : List (Addr × Obj)} {Q : Value → Shared → Prop}
theorem list_ne_nil {a b : Addr} {vs : List Value} {na nb : Nat} (N : News h₀ L s.heap news) (ha : (a, W.listOf vs.toArray na) ∈ news) (hb : (b, W.listOf #[] nb) ∈ news) (hu : A.units < cLine) (h : Q (.bool (!vs.isEmpty)) s) :
    wpAny (model prog w) A (compareOp .NotEq (.ref a) (.ref b)) Q E s := by
  refine cmp_ofNotEq ?_
  have la : s.heap.IsList a vs.toArray := ⟨_, (N _ ha).1, rfl, na, rfl⟩
  have lb : s.heap.IsList b #[] := ⟨_, (N _ hb).1, rfl, nb, rfl⟩
  cases vs with
  | nil => exact RcNeAt.lists (e := fun _ => true) la lb rfl hu (fun j h1 _ => absurd h1 (Nat.not_lt_zero _)) prog w E Q h
  | cons v vs => exact RcNeAt.lists_lengths la lb (by simp) hu prog w E Q h
theorem list_eq_nil {a b : Addr} {vs : List Value} {na nb : Nat} (N : News h₀ L s.heap news) (ha : (a, W.listOf vs.toArray na) ∈ news) (hb : (b, W.listOf #[] nb) ∈ news) (hu : A.units < cLine) (h : Q (.bool vs.isEmpty) s) :
    wpAny (model prog w) A (compareOp .Eq (.ref a) (.ref b)) Q E s := by
  refine cmp_ofEq ?_
  have la : s.heap.IsList a vs.toArray := ⟨_, (N _ ha).1, rfl, na, rfl⟩
  have lb : s.heap.IsList b #[] := ⟨_, (N _ hb).1, rfl, nb, rfl⟩
  cases vs with
  | nil => exact RcAt.lists (e := fun _ => true) la lb rfl hu (fun j h1 _ => absurd h1 (Nat.not_lt_zero _)) prog w E Q h
  | cons v vs => exact RcAt.lists_lengths la lb (by simp) hu prog w E Q h
theorem ints_sub {value slice : PySem.Expr} {a : Addr} {vs : List Value} {ns : List Int} {n j : Nat} {i : Int} {u : Tok} (N : News h₀ L s.heap news) (hm : (a, W.listOf vs.toArray n) ∈ news) (hv : IntsAre vs ns) (hi : i = (j : Int)) (hj : j < ns.length) (hsz : ns.length ≤ 1000)
    (h : ∀ t, Q (.int (ns.getD j 0) t) s)
    (hs : subscripted slice false (.ref a) (.int i u) = operate [.ref a, .int i u] (getItem (.ref a) (.int i u)) := by with_unfolding_all rfl) :
    wpAny (model prog w) A (subscriptTail value slice (.ref a) (.int i u)) Q E s := by
  refine ksa_sub N hm hv (by omega) (by omega) (by omega) ?_ hs
  subst hi
  simpa using h
theorem row_last {value slice : PySem.Expr} {a : Addr} {vs : List Value} {v : Value} {n : Nat} {u : Tok} (N : News h₀ L s.heap news) (hm : (a, W.listOf vs.toArray n) ∈ news) (hv : vs.getLast? = some v) (hsz : vs.length ≤ 1000) (h : Q v s)
    (hs : subscripted slice false (.ref a) (.int (-1) u) = operate [.ref a, .int (-1) u] (getItem (.ref a) (.int (-1) u)) := by with_unfolding_all rfl) (hg : ∀ r, letTemporaryGo value (.ref a) r = pure () := by intro _; with_unfolding_all rfl) :
    wpAny (model prog w) A (subscriptTail value slice (.ref a) (.int (-1) u)) Q E s := by
  have hne : 0 < vs.length := by
    cases vs with
    | nil => cases hv
    | cons _ _ => simp
  refine kim_back N hm rfl rfl (by decide) (by omega) (by decide) ?_ h hs hg
  rw [← hv, List.getLast?_eq_getElem?]
  congr 1
  omega
end
section
variable {prog : Program} {w : World} {A : Around} {E : Value → Shared → Prop} {Q : Flow → Shared → Prop} {s : Shared} {env : Env} {h₀ : Heap} {L : Addr}
/-- the loop is left -/
def WExit {σ : Type} (h₀ : Heap) (L : Addr) (s : Shared) (Led : σ → List (Addr × Obj)) (ps : σ → List (Str × Value)) (Ex : σ → Prop) (s₂ : Shared) : Prop :=
  ∃ (c' : σ) (h' : Heap) (tk : Nat) (m' : Str → Option Value) (news' : List (Addr × Obj)), s₂ = { s with heap := h', toks := tk } ∧ Fr h₀ L h' m' ∧ News h₀ L h' news' ∧ (∀ p ∈ Led c', p ∈ news') ∧ (∀ p ∈ ps c', m' p.1 = some p.2) ∧ Ex c'
theorem WExit.intro {σ : Type} {h₀ : Heap} {L : Addr} {s : Shared} {Led : σ → List (Addr × Obj)} {ps : σ → List (Str × Value)} {Ex : σ → Prop} {h' : Heap} {tk : Nat} {m' : Str → Option Value} {news' : List (Addr × Obj)} (c' : σ)
    (F : Fr h₀ L h' m') (N : News h₀ L h' news') (hn : ∀ p ∈ Led c', p ∈ news') (hk : ∀ p ∈ ps c', m' p.1 = some p.2) (hp : Ex c') :
    WExit h₀ L s Led ps Ex { s with heap := h', toks := tk } := ⟨c', h', tk, m', news', rfl, F, N, hn, hk, hp⟩
def WQ {σ : Type} (h₀ : Heap) (L : Addr) (s : Shared) (Led : σ → List (Addr × Obj)) (ps : σ → List (Str × Value)) (Ex : σ → Prop) (Q : Flow → Shared → Prop) (f : Flow) (s₂ : Shared) : Prop :=
  match f with
  | .next => WExit h₀ L s Led ps Ex s₂
  | .ret v => Q (.ret v) s₂
  | _ => False
theorem while_ex {σ : Type} {test : Expr} {body : List Stmt} {pos : Pos} {m₀ : Str → Option Value} {news : List (Addr × Obj)} (Led : σ → List (Addr × Obj)) (ps : σ → List (Str × Value)) (P : σ → Prop) (Ex : σ → Prop) (μ : σ → Nat) (c₀ : σ)
    (F : Fr h₀ L s.heap m₀) (N : News h₀ L s.heap news) (hn : ∀ p ∈ Led c₀, p ∈ news) (hk : ∀ p ∈ ps c₀, m₀ p.1 = some p.2) (hp : P c₀)
    (turn : ∀ (c : σ) (u : Str → Option Value) h tk, P c → Fr h₀ L h (kstB u (ps c)) → News h₀ L h (Led c) →
      wpAny (model prog w) A (isTrue test env (eval test env)) (fun b s₂ =>
        if b = true then wpAny (model prog w) A (execs body env) (WPost h₀ L s Led ps P μ (WQ h₀ L s Led ps Ex Q) c) E s₂ else WExit h₀ L s Led ps Ex s₂) E { s with heap := h, toks := tk })
    (done : ∀ (c : σ) (u : Str → Option Value) h tk, Ex c → Fr h₀ L h (kstB u (ps c)) → News h₀ L h (Led c) → Q .next { s with heap := h, toks := tk })
    (hE : PassesOwn (model prog w) A env E := by passes_own) :
    wpAny (model prog w) A (exec (.While test body [] pos) env) Q E s := by
  refine wpAny_mono (while_st (Q := WQ h₀ L s Led ps Ex Q) Led ps P μ c₀ F N hn hk hp turn hE) (fun f s₂ h => ?_) fun _ _ z => z
  cases f with
  | next =>
    obtain ⟨c', h', tk, m', news', rfl, F', N', hn', hk', he⟩ := h
    exact done c' m' h' tk he (fr_kst hk' F') fun p hp => N' p (hn' p hp)
  | ret v => exact h
  | brk => exact h.elim
  | cont => exact h.elim
end
theorem strs_last {vs : List Value} {ss : List PySem.Str} (h : StrsAre vs ss) : ∀ {x : PySem.Str}, ss.getLast? = some x → ∃ t, vs.getLast? = some (.str x t) := by
  induction h with
  | nil => intro x hx; cases hx
  | @cons y t vs ss r ih =>
    intro x hx
    cases r with
    | nil => simp at hx; subst hx; exact ⟨t, rfl⟩
    | cons z u r' =>
      rw [List.getLast?_cons_cons] at hx ⊢
      exact ih hx
theorem strs_nil {vs : List Value} {ss : List PySem.Str} (h : StrsAre vs ss) : vs.isEmpty = ss.isEmpty := by
  cases h <;> rfl
theorem strs_len {vs : List Value} {ss : List PySem.Str} (h : StrsAre vs ss) : vs.length = ss.length := by
  induction h with
  | nil => rfl
  | cons _ _ _ ih => simp [ih]
end Mine
end
section
namespace Mine
section
variable {prog : Program} {w : World} {p : Program} {loose : List Str} {mean : ExcName → Option Value} {mg mb : Str → Option Value}
    {dp un : Nat} {gd : Option (List Code)} {cn : Str} {cs : Scope} {a : Addr} {ccd : Value} {cl : List (Str × Addr)} {outer : List Env} {A₀ : Around} {base h₀ : Heap} {L : Addr} {m : Str → Option Value} {rest : List (Addr × Obj)} {s : Shared}
    {Q E : Value → Shared → Prop}
local macro_rules | `(tactic| walk_at "pyIter ref") => `(tactic| refine halt ?_)
local macro_rules | `(tactic| walk_at "exec While BoolOp cons nil") => `(tactic| refine halt ?_)
local macro_rules | `(tactic| walk_at "FPost") => `(tactic| dsimp only [FPost])
local macro_rules | `(tactic| walk_at "WPost") => `(tactic| dsimp only [WPost])
local macro_rules | `(tactic| walk_at "exec For Name Call cons nil") => `(tactic| (k_here; (rename Fr _ _ _ _ => lF'); (with_unfolding_all refine' For_invVF lF' ?k1 ?k2 ?_; (case k1 => exact rfl); (case k2 => exact rfl); k_whole)))
local macro_rules | `(tactic| k_mem) => `(tactic| first | assumption | exact List.Mem.head _ | (refine' List.mem_cons_of_mem _ ?_; k_mem))
set_option maxRecDepth 100000 in
set_option maxHeartbeats 8000000 in
theorem laid_call {x dx H CL : Addr} {hs : Int} {tk0 : Tok} {nd n nc : Nat} {cv : List Value} {cards : List Int}
    (B : Below A₀ base outer h₀) (F : Fr h₀ L s.heap m) (X : (hd.heap_39 w.params).In h₀) (N : News h₀ L s.heap ((H, W.listOf ([] : List Value).toArray n) :: rest)) (T : Top p loose mean mg mb h₀) (hk : cs.kind = .function)
    (hdp : dp + 20 < recursionLimit) (hun : un + 200 < cLine) (hoff : ∀ p ∈ rest, p.1 ≠ H)
    (hx : (x, instObj 182 dx) ∈ rest) (hdx : (dx, dictOf [DictEntry.mk hs (.str (Str.ofString "_headers") tk0) (.ref H)] nd) ∈ rest)
    (hCL : (CL, W.listOf cv.toArray nc) ∈ rest) (hcv : IntsAre cv cards) (hsz : cards.length ≤ 10)
    (hret : ∀ (ps : List Nat) (hv : List (Value × Nat × Nat)) (tl : List (Addr × Obj)) n' h' tk', Laid cards ps → ps.length = cards.length → hv.map (·.2) = codesOf ps → (∀ y ∈ hv, PairIn tl y.1 y.2.1 y.2.2) → (∀ p ∈ tl ++ rest, p.1 ≠ H) → Fr h₀ L h' m → News h₀ L h' ((H, W.listOf (hv.map (·.1)).toArray n') :: (tl ++ rest)) → Q .none { s with heap := h', toks := tk' }) :
    wpAny (model prog w) (ktrTop dp un gd cn cs L a ccd cl outer) (call (.ref 242) [.ref x, .ref CL]) Q E s := by
  have hlen := hcv.length
  refine wpAny_call ?_
  k_dflt ktr_enter
  k_steps
  refine list_len (k := cards.length) (by k_asm) (List.mem_cons_of_mem _ hCL) hlen (by omega) ?_
  k_steps
  rename IsRange _ _ _ _ _ _ _ _ => hR9
  rename Fr _ _ _ _ => F9
  rename News _ _ _ _ => N9
  refine unhalt ?_
  refine for_range (σ := List Nat × List (Value × Nat × Nat) × List (Addr × Obj) × Nat) (n := cards.length) (fun c => (H, W.listOf (c.2.1.map (·.1)).toArray c.2.2.2) :: (c.2.2.1 ++ rest)) (fun c => [(Str.ofString "table", .ref x), (Str.ofString "cards", .ref CL)])
    (fun i c => Laid cards c.1 ∧ c.1.length = i ∧ c.2.1.map (·.2) = codesOf c.1 ∧ (∀ y ∈ c.2.1, PairIn c.2.2.1 y.1 y.2.1 y.2.2) ∧ (∀ p ∈ c.2.2.1 ++ rest, p.1 ≠ H)) ([], [], [], n) rfl hR9 (rng_small (by omega)) (rng_size _) F9 N9 (fun _ h => h) ?_ ?_ ?_ ?_
  · repeat' (first | exact List.forall_mem_nil _ | refine List.forall_mem_cons.mpr ⟨?_, ?_⟩)
    all_goals rfl
  · exact ⟨.nil, rfl, rfl, fun _ h => (nomatch h), hoff⟩
  · rintro i t ⟨ps, hv, tl, n1⟩ u h tk own hi ⟨hLd, hpl, hcd, hpr, hof⟩ hown F1 N1
    dsimp only [kstB] at hLd hpl hcd hpr hof F1 N1 hown ⊢
    rw [show (0 : Int) + (i : Int) * 1 = (i : Int) from by omega] at F1
    have hx1 : (x, instObj 182 dx) ∈ (H, W.listOf (hv.map (·.1)).toArray n1) :: (tl ++ rest) ++ own := List.mem_append_left _ (List.mem_cons_of_mem _ (List.mem_append_right _ hx))
    have hdx1 : (dx, dictOf [DictEntry.mk hs (.str (Str.ofString "_headers") tk0) (.ref H)] nd) ∈ (H, W.listOf (hv.map (·.1)).toArray n1) :: (tl ++ rest) ++ own := List.mem_append_left _ (List.mem_cons_of_mem _ (List.mem_append_right _ hdx))
    have hCL1 : (CL, W.listOf cv.toArray nc) ∈ (H, W.listOf (hv.map (·.1)).toArray n1) :: (tl ++ rest) ++ own := List.mem_append_left _ (List.mem_cons_of_mem _ (List.mem_append_right _ hCL))
    generalize hnw : (H, W.listOf (hv.map (·.1)).toArray n1) :: (tl ++ rest) ++ own = nw at N1 hx1 hdx1 hCL1
    k_steps
    refine spelled_call (k := 0) (q := 0) (by k_asm) (by k_asm) (by k_asm) (by k_asm) (by k_asm) rfl (by ktr_room) (by ktr_units) rfl rfl (by decide) ?_
    intro t2 h2 tk2 F2 N2
    k_steps
    have h12 : ∀ q ∈ ps, q < 12 := fun q hq => Nat.lt_of_lt_of_le (hLd.lt q hq) (by omega)
    have hhv : hv.length = i := by rw [← hpl, ← List.length_map (as := hv) (f := (·.2)), hcd, codesOf, List.length_map, List.length_zipIdx]
    have hHnw : (H, W.listOf (hv.map (·.1)).toArray n1) ∈ nw := by rw [← hnw]; exact List.mem_append_left _ (.head _)
    have hprn : ∀ y ∈ hv, PairIn nw y.1 y.2.1 y.2.2 ∧ okc y.2.1 = true := by
      intro y hy
      refine ⟨(hpr y hy).mono fun q hq => by rw [← hnw]; exact List.mem_append_left _ (List.mem_cons_of_mem _ (List.mem_append_left _ hq)), ?_⟩
      have : y.2 ∈ codesOf ps := by rw [← hcd]; exact List.mem_map_of_mem hy
      obtain ⟨z, hz, e⟩ := List.mem_map.mp this
      rw [← e]
      exact okc_spc (h12 _ (List.mem_of_getElem? (List.mem_zipIdx_iff_getElem?.mp hz)))
    refine getall_call (hv := hv) (by k_asm) (by k_asm) (by k_asm) (by k_asm) (by k_asm) rfl (by ktr_room) (by ktr_units) hx1 hdx1 hHnw (okc_spc (by decide)) hprn (by omega) ?_
    intro D rs nr h3 tk3 F3 N3 hnD hrs
    rw [row_of hcd h12 (lo_spc (k := 0) (by decide))] at hrs
    k_steps
    refine unhalt ?_
    refine while_ex (σ := Nat × Addr × List Value × Nat × Tok) (fun c => (c.2.1, W.listOf c.2.2.1.toArray c.2.2.2.1) :: nw) (fun c => [(Str.ofString "table", .ref x), (Str.ofString "cards", .ref CL), (Str.ofString "place", .int (i : Int) t), (Str.ofString "pile", .int (c.1 : Int) c.2.2.2.2), (Str.ofString "row", .ref c.2.1)])
      (fun c => StrsAre c.2.2.1 ((idxs ps c.1).map fun j => (⟨#[48 + j]⟩ : Str)) ∧ (∀ k' < c.1, ∃ j, (idxs ps k').getLast? = some j ∧ cards.getD j 0 < cards.getD ps.length 0) ∧ (∀ p ∈ nw, p.1 ≠ c.2.1))
      (fun c => (∀ k' < c.1, ∃ j, (idxs ps k').getLast? = some j ∧ cards.getD j 0 < cards.getD ps.length 0) ∧ (∀ j, (idxs ps c.1).getLast? = some j → ¬ cards.getD j 0 < cards.getD ps.length 0)) (fun c => 20 - c.1) (0, D, rs, nr, ?tp) (by k_asm) (by k_asm) (fun _ h => h) ?_ ?_ ?_ ?_
    rotate_left
    · repeat' (first | exact List.forall_mem_nil _ | refine List.forall_mem_cons.mpr ⟨?_, ?_⟩)
      all_goals rfl
    · exact ⟨hrs, fun k' h => absurd h (Nat.not_lt_zero _), hnD⟩
    · rintro ⟨k, D1, rs1, nr1, tp1⟩ u4 h4 tk4 ⟨hrs1, hbel, hnD1⟩ F4 N4
      dsimp only [kstB] at hrs1 hbel hnD1 F4 N4 ⊢
      have hkb := hLd.bound hbel
      have hlen1 := strs_len hrs1
      have hlen2 : (idxs ps k).length ≤ 1000 := by
        unfold idxs
        rw [List.length_map]
        exact Nat.le_trans (List.length_filter_le _ _) (by rw [List.length_zipIdx]; omega)
      k_steps
      refine list_ne_nil (vs := rs1) (by k_asm) (List.mem_cons_of_mem _ (.head _)) (.head _) (by ktr_units) ?_
      k_steps
      · -- the row is empty: the loop is left
        have hnil : idxs ps k = [] := by
          have e := strs_nil hrs1
          rw [(by assumption : rs1.isEmpty = true)] at e
          simpa using e.symm
        refine WExit.intro (k, D1, rs1, nr1, tp1) (by k_asm) (by k_asm) (fun q hq => List.mem_cons_of_mem _ hq) ?_ ⟨hbel, fun j hj => ?_⟩
        · repeat' (first | exact List.forall_mem_nil _ | refine List.forall_mem_cons.mpr ⟨?_, ?_⟩)
          all_goals rfl
        · rw [hnil] at hj; cases hj
      · obtain ⟨j, hj⟩ : ∃ j, (idxs ps k).getLast? = some j := by
          cases e : (idxs ps k).getLast? with
          | some j => exact ⟨j, rfl⟩
          | none =>
            rw [List.getLast?_eq_none_iff] at e
            have e2 := strs_nil hrs1
            rw [e] at e2
            rw [(by assumption : rs1.isEmpty = false)] at e2
            cases e2
        have hjm := idxs_mem.mp (List.mem_of_getLast? hj)
        have hjlt : j < ps.length := (List.getElem?_eq_some_iff.mp hjm).1
        obtain ⟨tj, hlast⟩ := strs_last hrs1 (x := ⟨#[48 + j]⟩) (by rw [List.getLast?_map, hj]; rfl)
        refine row_last (by k_asm) (List.mem_cons_of_mem _ (.head _)) hlast (by rw [hlen1, List.length_map]; exact hlen2) ?_
        k_steps
        refine KIN.call_text (int_is (by omega : j < 10)).1 (by show 1 ≤ 640; decide) ?_
        k_steps
        · -- the last card is less: the next pile
          have hlt : cards.getD j 0 < cards.getD ps.length 0 := by
            rename ((_ : Int) < _) => hc9
            rw [hpl]
            simpa using hc9
          have hbel2 : ∀ k' < k + 1, ∃ j, (idxs ps k').getLast? = some j ∧ cards.getD j 0 < cards.getD ps.length 0 := by
            intro k' hk'
            by_cases e : k' = k
            · subst e; exact ⟨j, hj, hlt⟩
            · exact hbel k' (by omega)
          have hkb2 := hLd.bound hbel2
          refine spelled_call (k := k + 1) (q := 0) (by k_asm) (by k_asm) (by k_asm) (by k_asm) (by k_asm) rfl (by ktr_room) (by ktr_units) (by omega) rfl (by omega) ?_
          intro t5 h5 tk5 F5 N5
          k_steps
          refine getall_call (hv := hv) (x := x) (dx := dx) (H := H) (news := nw) (by k_asm) (by k_asm) (by k_asm) (fun q hq => N5 q (List.mem_cons_of_mem _ (List.mem_cons_of_mem _ hq))) (by k_asm) rfl (by ktr_room) (by ktr_units) hx1 hdx1 hHnw (okc_spc (by omega)) hprn (by omega) ?_
          intro D6 rs6 nr6 h6 tk6 F6 N6 hnD6 hrs6
          rw [row_of hcd h12 (lo_spc (k := k + 1) (by omega))] at hrs6
          k_steps
          rename Fr _ _ _ _ => F9
          rename News _ _ _ _ => N9
          rw [show ((k : Int) + 1) = ((k + 1 : Nat) : Int) from by omega] at F9
          refine WEnd.intro (k + 1, D6, rs6, nr6, ?tp6) F9 N9 (fun _ h => h) ?_ ⟨hrs6, hbel2, hnD6⟩ (by dsimp only; omega)
          rotate_left
          repeat' (first | exact List.forall_mem_nil _ | refine List.forall_mem_cons.mpr ⟨?_, ?_⟩)
          all_goals rfl
        · refine WExit.intro (k, D1, rs1, nr1, tp1) (by k_asm) (by k_asm) (fun q hq => List.mem_cons_of_mem _ hq) ?_ ⟨hbel, fun j' hj' => ?_⟩
          · repeat' (first | exact List.forall_mem_nil _ | refine List.forall_mem_cons.mpr ⟨?_, ?_⟩)
            all_goals rfl
          · rw [hj] at hj'; cases hj'
            rename (¬ (_ : Int) < _) => hc9
            rw [hpl]
            simpa using hc9
    · rintro ⟨k, D1, rs1, nr1, tp1⟩ u4 h4 tk4 ⟨hbel, hend⟩ F4 N4
      dsimp only [kstB] at hbel hend F4 N4 ⊢
      have hkb := hLd.bound hbel
      k_steps
      refine spelled_call (k := k) (q := i) (by k_asm) (by k_asm) (by k_asm) (by k_asm) (by k_asm) rfl (by ktr_room) (by ktr_units) rfl rfl (by omega) ?_
      intro t5 h5 tk5 F5 N5
      k_steps
      rw [(int_is (by omega : i < 10)).2]
      refine addhdr_call (x := x) (dx := dx) (H := H) (hv := hv) (n := n1) (rest := tl ++ rest ++ own) (c := spc k i) (d := 48 + i) (by k_asm) (by k_asm) (by k_asm) (fun q hq => N5 q (List.mem_cons_of_mem _ (by rw [← hnw]; exact hq))) (by k_asm) rfl (by ktr_room) (by ktr_units) ?_ (List.mem_append_left _ (List.mem_append_right _ hx)) (List.mem_append_left _ (List.mem_append_right _ hdx)) (okc_spc (by omega)) (okc_dig (by omega)) (by omega) ?_
      · intro q hq
        rcases List.mem_append.mp hq with hq | hq
        · exact hof q hq
        · exact hown q hq _ (.head _)
      intro v6 tp6 o6 n6 h6 tk6 F6 N6 hpi hH6 hnt6
      k_steps
      refine FEnd.intro (ps ++ [k], hv ++ [(v6, spc k i, 48 + i)], (tp6, o6) :: tl, n6) (by k_asm) N6 (fun q hq => ?_) (fun q hq => .tail _ (.tail _ (List.mem_append_right _ hq))) (fun q hq r hr => ?_) ?_ ⟨.snoc hLd hbel hend, by simp [hpl], ?_, ?_, ?_⟩
      · rcases List.mem_cons.mp hq with rfl | hq
        · exact .head _
        · rcases List.mem_cons.mp hq with rfl | hq
          · exact .tail _ (.head _)
          · exact .tail _ (.tail _ (List.mem_append_left _ hq))
      · rcases List.mem_cons.mp hr with rfl | hr
        · exact hown q hq (H, W.listOf (hv.map (·.1)).toArray n1) (.head _)
        · rcases List.mem_cons.mp hr with rfl | hr
          · exact hnt6 q (List.mem_append_right _ hq)
          · exact hown q hq r (.tail _ hr)
      · repeat' (first | exact List.forall_mem_nil _ | refine List.forall_mem_cons.mpr ⟨?_, ?_⟩)
        all_goals rfl
      · rw [List.map_append, hcd, codes_snoc, hpl]; rfl
      · intro y hy
        rcases List.mem_append.mp hy with hy | hy
        · exact (hpr y hy).mono fun q hq => .tail _ hq
        · rw [List.mem_singleton.mp hy]
          exact hpi.mono fun q hq => by rw [List.mem_singleton.mp hq]; exact .head _
      · intro q hq
        rcases List.mem_cons.mp hq with rfl | hq
        · exact Ne.symm hH6
        · exact hof q hq
  · rintro ⟨ps, hv, tl, n1⟩ u h tk ⟨hLd, hpl, hcd, hpr, hof⟩ F1 N1
    dsimp only [kstB] at hLd hpl hcd hpr hof F1 N1 ⊢
    k_steps
    exact hret ps hv tl n1 _ _ hLd hpl hcd hpr hof (by k_asm) (by k_asm)
end
end Mine
end
section
namespace Mine
section
variable {prog : Program} {w : World} {A : Around} {E : Value → Shared → Prop} {Q : Flow → Shared → Prop} {s : Shared} {h₀ : Heap} {x : Str} {body : List Stmt} {cn : Str} {cs : Scope} {L fa : Addr} {ccd : Value} {cl : List (Str × Addr)} {px : Pos}
def CEnd {σ : Type} (h₀ : Heap) (L : Addr) (cx : Addr) (s : Shared) (Led : σ → List (Addr × Obj)) (ps : σ → List (Str × Value)) (P : σ → Prop) (own : List (Addr × Obj)) (s₂ : Shared) : Prop :=
  ∃ (c' : σ) (o : Obj) (v : Option Value) (h' : Heap) (tk : Nat) (m' : Str → Option Value) (news' : List (Addr × Obj)), s₂ = { s with heap := h', toks := tk } ∧ Fr h₀ L h' m' ∧ News h₀ L h' news' ∧ (∀ p ∈ (cx, o) :: Led c', p ∈ news') ∧ (∀ p ∈ own, p ∈ news') ∧ (∀ p ∈ own, ∀ q ∈ Led c', p.1 ≠ q.1) ∧ (∀ q ∈ Led c', q.1 ≠ cx) ∧ o.data = .cell v ∧ (∀ p ∈ ps c', m' p.1 = some p.2) ∧ P c'
def CPost {σ : Type} (h₀ : Heap) (L : Addr) (cx : Addr) (s : Shared) (Led : σ → List (Addr × Obj)) (ps : σ → List (Str × Value)) (P : σ → Prop) (own : List (Addr × Obj)) (Q : Flow → Shared → Prop) (f : Flow) (s₂ : Shared) : Prop :=
  match f with
  | .ret v => Q (.ret v) s₂
  | .brk => Q .next s₂
  | _ => CEnd h₀ L cx s Led ps P own s₂
theorem CEnd.intro {σ : Type} {h₀ : Heap} {L cx : Addr} {s : Shared} {Led : σ → List (Addr × Obj)} {ps : σ → List (Str × Value)} {P : σ → Prop} {own : List (Addr × Obj)} {h' : Heap} {tk : Nat} {m' : Str → Option Value} {news' : List (Addr × Obj)} {o : Obj} {v : Option Value} (c' : σ)
    (F : Fr h₀ L h' m') (N : News h₀ L h' news') (hn : ∀ p ∈ (cx, o) :: Led c', p ∈ news') (ho : ∀ p ∈ own, p ∈ news') (hf : ∀ p ∈ own, ∀ q ∈ Led c', p.1 ≠ q.1) (hc : ∀ q ∈ Led c', q.1 ≠ cx) (hd : o.data = .cell v) (hk : ∀ p ∈ ps c', m' p.1 = some p.2) (hp : P c') :
    CEnd h₀ L cx s Led ps P own { s with heap := h', toks := tk } := ⟨c', o, v, h', tk, m', news', rfl, F, N, hn, ho, hf, hc, hd, hk, hp⟩
theorem for_cell {σ : Type} {r : Addr} {a b c : Int} {n : Nat} {t₀ u₀ v₀ : Tok} {m₀ : Str → Option Value} {news : List (Addr × Obj)} {cx : Addr} {oc : Obj} {vc : Option Value} (Led : σ → List (Addr × Obj)) (ps : σ → List (Str × Value)) (P : Nat → σ → Prop) (c₀ : σ)
    (hh : A.handled = none) (hr : IsRange s.heap r a b c t₀ u₀ v₀) (hsmall : Builtin.Range.small a b c = true) (hsz : Builtin.Range.rangeSize a b c = (n : Int))
    (hck : cs.kind = .function) (hcx : (envX cn cs L fa ccd cl).kindOf x = some .cell) (hcl : cl.lookup x = some cx)
    (F : Fr h₀ L s.heap m₀) (N : News h₀ L s.heap news) (hcm : (cx, oc) ∈ news) (hcd : oc.data = .cell vc) (hn : ∀ p ∈ Led c₀, p ∈ news) (hoff : ∀ q ∈ Led c₀, q.1 ≠ cx) (hk : ∀ p ∈ ps c₀, m₀ p.1 = some p.2) (hp : P 0 c₀)
    (turn : ∀ (i : Nat) (t : Tok) (d : σ) (o : Obj) (u : Str → Option Value) h tk own, i < n → P i d → o.data = .cell (some (.int (a + (i : Int) * c) t)) → (∀ p ∈ own, ∀ q ∈ Led d, p.1 ≠ q.1) → (∀ p ∈ own, p.1 ≠ cx) → (∀ q ∈ Led d, q.1 ≠ cx) → Fr h₀ L h (kstB u (ps d)) → News h₀ L h ((cx, o) :: (Led d ++ own)) →
      wpAny (model prog w) A (execs body (envX cn cs L fa ccd cl)) (CPost h₀ L cx { s with heap := h, toks := tk } Led ps (P (i + 1)) own Q) E { s with heap := h, toks := tk })
    (done : ∀ (d : σ) (o : Obj) (v : Option Value) (u : Str → Option Value) h tk, P n d → o.data = .cell v → (∀ q ∈ Led d, q.1 ≠ cx) → Fr h₀ L h (kstB u (ps d)) → News h₀ L h ((cx, o) :: Led d) → Q .next { s with heap := h, toks := tk })
    (hE : PassesOwn (model prog w) A (envX cn cs L fa ccd cl) E := by passes_own) :
    wpAny (model prog w) A (pyIter (.ref r)) (fun it s₂ => codeAny (model prog w) A (.forLoop (.Name x px) it body [] (envX cn cs L fa ccd cl)) (fun r s' => match r with | .ok f => Q f s' | .error e => cameBackBy (model prog w) A (envX cn cs L fa ccd cl) E e s') s₂) E s := by
  refine wpAny_pyIter_range hr hsmall ?_
  have hIL : L ≠ s.heap.objs.size := Nat.ne_of_lt F.ns.lt
  have hI0 : h₀.get? s.heap.objs.size = none := next_is_new F
  have hNI : ∀ p ∈ news, p.1 ≠ s.heap.objs.size := fun p hp => Nat.ne_of_lt (Heap.lt_size (N p hp).1)
  have hcI : cx ≠ s.heap.objs.size := hNI _ hcm
  have W := Walks.range (prog := prog) (w := w) hh s.heap.objs.size a c n
  generalize hIe : s.heap.objs.size = I at *
  generalize hs₀ : ({ s with heap := s.heap.push { cls := .type "range_iterator", data := .fields #[rawInt a, rawInt (Builtin.Range.rangeSize a b c), rawInt c] } } : Shared) = s₁
  have hst : IsRangeIter s₁.heap I a (n : Int) c := by
    rw [← hs₀, ← hsz, ← hIe]
    exact Heap.get?_push_size _ rfl
  have F₁ : Fr h₀ L s₁.heap m₀ := by rw [← hs₀]; exact F.push _
  have N₁ : News h₀ L s₁.heap news := by rw [← hs₀]; exact fun p hp => ⟨Heap.get?_push_of_some _ (N p hp).1, (N p hp).2⟩
  have hsh : ∀ h tk, ({ s₁ with heap := h, toks := tk } : Shared) = { s with heap := h, toks := tk } := by intro h tk; rw [← hs₀]
  refine codeAny_forLoop
    (fun k s' => ∃ h' tk m' i d o v, s' = { s with heap := h', toks := tk } ∧ IsRangeIter h' I (a + (i : Nat) * c) ((n : Int) - (i : Nat)) c ∧ Fr h₀ L h' m' ∧ News h₀ L h' ((cx, o) :: Led d) ∧ o.data = .cell v ∧ (∀ q ∈ Led d, q.1 ≠ cx) ∧ (∀ q ∈ Led d, q.1 ≠ I) ∧ (∀ p ∈ ps d, m' p.1 = some p.2) ∧ P i d ∧ i ≤ n ∧ k = n + 1 - i) ?_ (n + 1)
    ⟨s₁.heap, s₁.toks, m₀, 0, c₀, oc, vc, by rw [← hsh], by simpa using hst, F₁, fun p hp => ?_, hcd, hoff, fun q hq => hNI q (hn q hq), hk, hp, Nat.zero_le _, rfl⟩
  · rintro k s' ⟨h', tk, m', i, d, o, v, rfl, hst', F', N', hdo, hoc, hoI, hk', hp', hi, rfl⟩
    have next : ∀ h₁ : Heap, (∀ b o, b ∉ [I] → h'.get? b = some o → h₁.get? b = some o) → Fr h₀ L h₁ m' ∧ News h₀ L h₁ ((cx, o) :: Led d) := fun h₁ hk₁ =>
      ⟨⟨F'.ns.at' fun o e => hk₁ _ o (by simpa using hIL) e, fun b o e => hk₁ b o (fun hm => by rw [List.mem_singleton.mp hm, hI0] at e; cases e) (F'.keep b o e), F'.above⟩, fun p hp => ⟨hk₁ _ _ (by
        rcases List.mem_cons.mp hp with rfl | hp
        · simpa using hcI
        · simpa using hoI p hp) (N' p hp).1, (N' p hp).2⟩⟩
    by_cases hlt : i < n
    · refine W.item i _ _ _ hlt hst' fun v h₁ tk₁ hP hst₁ hk₁ => ?_
      obtain ⟨t, rfl⟩ := hP
      obtain ⟨F₂, N₂⟩ := next h₁ hk₁
      have hcz := N₂ (cx, o) (.head _)
      refine wpAny_assign_Name (wpAny_storeName_cell hck hcx hcl ⟨o, hcz.1, hdo⟩ fun h₂ hv hs₂ => ?_)
      obtain ⟨o₂, ho₂, hd₂⟩ := hv
      have F₃ : Fr h₀ L h₂ m' := F₂.change hs₂ hcz.2.1 hcz.2.2
      obtain ⟨oI, hoIe⟩ : ∃ oI : Obj, oI = { cls := .type "range_iterator", dict := none, data := .fields #[rawInt (a + ((i + 1 : Nat) : Int) * c), rawInt ((n : Int) - ((i + 1 : Nat) : Int)), rawInt c], slots := #[] } := ⟨_, rfl⟩
      have hIi : h₂.get? I = some oI := by rw [hoIe]; exact (hs₂.2 I (Ne.symm hcI)).trans hst₁
      have N₃ : News h₀ L h₂ ((cx, o₂) :: (Led d ++ [(I, oI)])) := fun p hp => by
        rcases List.mem_cons.mp hp with rfl | hp
        · exact ⟨ho₂, hcz.2⟩
        · rcases List.mem_append.mp hp with hp | hp
          · have z := N₂ p (.tail _ hp)
            exact ⟨(hs₂.2 _ (hoc p hp)).trans z.1, z.2⟩
          · rw [List.mem_singleton.mp hp]
            exact ⟨hIi, Ne.symm hIL, hI0⟩
      refine wpAny_passesOwn hE (wpAny_mono (turn i t d o₂ m' h₂ tk₁ [(I, oI)] hlt hp' hd₂ (fun p hp q hq => by rw [List.mem_singleton.mp hp]; exact Ne.symm (hoI q hq)) (fun p hp => by rw [List.mem_singleton.mp hp]; exact Ne.symm hcI) hoc (fr_kst hk' F₃) N₃) (fun f s₃ h₃ => ?_) fun _ _ e => e)
      have fin : CEnd h₀ L cx { s with heap := h₂, toks := tk₁ } Led ps (P (i + 1)) [(I, oI)] s₃ → ∃ m, m < n + 1 - i ∧ ∃ h' tk m' i d o v, s₃ = { s with heap := h', toks := tk } ∧ IsRangeIter h' I (a + (i : Nat) * c) ((n : Int) - (i : Nat)) c ∧ Fr h₀ L h' m' ∧ News h₀ L h' ((cx, o) :: Led d) ∧ o.data = .cell v ∧ (∀ q ∈ Led d, q.1 ≠ cx) ∧ (∀ q ∈ Led d, q.1 ≠ I) ∧ (∀ p ∈ ps d, m' p.1 = some p.2) ∧ P i d ∧ i ≤ n ∧ m = n + 1 - i := by
        rintro ⟨c', o', v', h'', tk', m'', news', rfl, F', N', hn', ho', hf', hc', hd', hk'', hp''⟩
        refine ⟨n + 1 - (i + 1), by omega, h'', tk', m'', i + 1, c', o', v', rfl, by have z := (N' _ (ho' _ (List.mem_singleton.mpr rfl))).1; rw [hoIe] at z; exact z, F', fun p hp => N' p (hn' p hp), hd', hc', fun q hq => Ne.symm (hf' _ (List.mem_singleton.mpr rfl) q hq), hk'', hp'', hlt, rfl⟩
      cases f with
      | ret v => exact h₃
      | brk => exact h₃
      | next => exact fin h₃
      | cont => exact fin h₃
    · have hin : i = n := by omega
      subst hin
      refine W.done _ _ _ hst' fun h₁ tk₁ hk₁ => wpAny_execs_nil ?_
      obtain ⟨F₂, N₂⟩ := next h₁ hk₁
      exact done d o v m' h₁ tk₁ hp' hdo hoc (fr_kst hk' F₂) N₂
  · rcases List.mem_cons.mp hp with rfl | hp
    · exact N₁ _ hcm
    · exact N₁ p (hn p hp)
end
end Mine
end
section
local macro_rules | `(tactic| walk_at "no key 0") => `(tactic| skip)
namespace Mine
inductive Risen (cards : List Int) : List Int → Prop
  | nil : Risen cards []
  | snoc {rs : List Int} {v : Int} : Risen cards rs → 0 ≤ v → (v = 0 ∨ ∃ j, j < rs.length ∧ cards.getD j 0 < cards.getD rs.length 0 ∧ rs.getD j 0 = v) →
      (∀ j, j < rs.length → cards.getD j 0 < cards.getD rs.length 0 → rs.getD j 0 ≤ v) → Risen cards (rs ++ [1 + v])
section
variable {prog : Program} {w : World} {p : Program} {loose : List Str} {mean : ExcName → Option Value} {mg mb : Str → Option Value}
    {dp un : Nat} {gd : Option (List Code)} {cn : Str} {cs : Scope} {a : Addr} {ccd : Value} {cl : List (Str × Addr)} {outer : List Env} {A₀ : Around} {base h₀ : Heap} {L : Addr} {m : Str → Option Value} {news : List (Addr × Obj)} {s : Shared}
    {Q E : Value → Shared → Prop}
local macro_rules | `(tactic| walk_at "pyIter ref") => `(tactic| refine halt ?_)
local macro_rules | `(tactic| walk_at "CompSrcT") => `(tactic| refine halt ?_)
local macro_rules | `(tactic| walk_at "eval ListComp") => `(tactic| (k_here; k_dflt (refine LCt.ListComp_T (F₀ := by k_asm) (by with_unfolding_all rfl) (by decide) (by rfl) (by decide) (by rfl) ?_)))
local macro_rules | `(tactic| walk_at "CPost") => `(tactic| dsimp only [CPost])
local macro_rules | `(tactic| walk_at "exec For Name Call cons nil") => `(tactic| (k_here; refine wpAny_For ?_))
local macro_rules | `(tactic| k_mem) => `(tactic| first | assumption | exact List.Mem.head _ | (refine' List.mem_cons_of_mem _ ?_; k_mem))
local macro_rules | `(tactic| k_all) => `(tactic| first | exact List.forall_mem_nil _ | (refine' List.forall_mem_cons.mpr ⟨?a, ?b⟩; (case a => k_ne); (case b => k_all)) | exact allLt_ne (by assumption) | exact allLt_ne (And.right (by assumption)) | exact allLt_ne (And.right (And.right (by assumption))) | exact allLt_ne (And.right (And.right (And.right (by assumption)))) | (intro p9 hp9; (rename (∀ p : Addr × Obj, p ∈ _ → p.1 < _) => l9); (have e9 := ltN (l9 p9 hp9)); refine neN ?_; (try dsimp only at e9 ⊢); omega) | assumption)
local macro_rules | `(tactic| ktn_open) => `(tactic| (refine' code_defC ?k1 ?k2 ?k3 ?k4 ?k5 ?kA ?kF ?kK ?k6 ?k7 ?k8 ?k9 ?kB ?kD ?_ ?c2 ?c3 ?c4; (case kA => exact rfl); (case kF => exact rfl); (case kK => assumption); (case k1 => k_asm); (case k2 => k_asm); (case k3 => k_asm); (case k4 => k_asm); (case k5 => k_asm); (case k6 => k_is); (case k7 => k_is); (case k8 => ktr_room); (case k9 => exact BindsTo.of_eq rfl); (case kB => exact rfl); (case kD => decide +kernel); (case c2 => exact rfl); (case c3 => exact rfl); (case c4 => exact rfl); k_whole; intro g' L' h' tk' cells' FG' F' N' Y' B' X' T' l1; (try k_lt l1); k_cells Y'; (try simp only [List.cons_append, List.nil_append] at N'); (try dsimp only); (try k_fold)))
set_option maxRecDepth 100000 in
set_option maxHeartbeats 8000000 in
theorem rises_call {CL : Addr} {nc : Nat} {cv : List Value} {cards : List Int}
    (B : Below A₀ base outer h₀) (F : Fr h₀ L s.heap m) (X : (hd.heap_39 w.params).In h₀) (N : News h₀ L s.heap news) (T : Top p loose mean mg mb h₀) (hk : cs.kind = .function)
    (hdp : dp + 20 < recursionLimit) (hun : un + 200 < cLine)
    (hCL : (CL, W.listOf cv.toArray nc) ∈ news) (hcv : IntsAre cv cards) (hsz : cards.length ≤ 10)
    (hret : ∀ D rv rs n' h' tk', Risen cards rs → rs.length = cards.length → IntsAre rv rs → (∀ p ∈ news, p.1 ≠ D) → Fr h₀ L h' m → News h₀ L h' ((D, W.listOf rv.toArray n') :: news) → Q (.ref D) { s with heap := h', toks := tk' }) :
    wpAny (model prog w) (ktrTop dp un gd cn cs L a ccd cl outer) (call (.ref 252) [.ref CL]) Q E s := by
  have hlen := hcv.length
  refine wpAny_call ?_
  k_dflt ktn_open
  k_steps
  refine list_len (k := cards.length) (by k_asm) (by k_mem) hlen (by omega) ?_
  k_steps
  rename IsRange _ _ _ _ _ _ _ _ => hR9
  rename Fr _ _ _ _ => F9
  rename News _ _ _ _ => N9
  rename (Obj.data _ = Data.cell (some (Value.ref _))) => dR
  rename (Obj.data _ = Data.cell (bindC _ _ _ _)) => dC
  rename (_ < _ ∧ _ < _ ∧ _ < _ ∧ AllLt _ _) => l9
  rename (∀ p : Addr × Obj, p ∈ news → p.1 < _) => l8
  rename_i gP LP hP tkP FGP BP XP TP oP o2P oC dP d2P lR ha hb oR Fa Na hc tkc t1c u1c v1c keepc
  have dC2 : oC.data = .cell (some (.ref CL)) := dC
  clear d2P dC Fa Na keepc
  refine unhalt ?_
  refine for_cell (σ := List Value × List Int × Nat) (n := cards.length) (cx := LP + 1 + 1 + 1) (fun c => (lR, W.listOf c.1.toArray c.2.2) :: (LP + 1 + 1, oR) :: (LP + 1, oC) :: news) (fun c => [])
    (fun i c => Risen cards c.2.1 ∧ c.2.1.length = i ∧ IntsAre c.1 c.2.1) ([], [], 0) rfl hR9 (rng_small (by omega)) (rng_size _) rfl rfl rfl F9 N9 (.tail _ (.head _)) dP ?_ ?_ (List.forall_mem_nil _) ⟨.nil, rfl, .nil⟩ ?_ ?_
  · intro q hq
    simp only [List.mem_cons] at hq ⊢
    rcases hq with h | h | h | h <;> simp [h]
  · intro q hq
    simp only [List.mem_cons] at hq
    rcases hq with rfl | rfl | rfl | h
    · exact Nat.ne_of_gt l9.1
    · exact Nat.ne_of_lt (Nat.lt_succ_self _)
    · exact Nat.ne_of_lt (Nat.lt_succ_of_lt (Nat.lt_succ_self _))
    · exact Nat.ne_of_lt (Nat.lt_trans (l8 q h) (by omega))
  · rintro i t ⟨rv, rs, n1⟩ o1 u h tk own hi ⟨hRs, hrl, hrv⟩ ho1 hown hownc hoc1 F1 N1
    dsimp only at hRs hrl hrv hown hoc1 F1 N1 ⊢
    rw [show (0 : Int) + (i : Int) * 1 = (i : Int) from by omega] at ho1
    simp only [List.cons_append] at N1
    k_steps
    rename IsRange _ _ _ _ _ _ _ _ => hR8
    rename Fr gP _ _ _ => F8
    rename News gP _ _ _ => N8
    refine unhalt ?_
    refine LCt.CompSrcT.range rfl F8 N8 hR8 (rng_small (by omega)) (rng_size _) (by rw [sizeLine_eq]; omega) ?_
    intro g9
    refine comp_T (fun j ys nw => nw = _ ∧ ys.length ≤ j ∧ IntsAre ys (((List.range j).filter fun j => decide (cards.getD j 0 < cards.getD i 0)).map fun j => rs.getD j 0)) ⟨rfl, Nat.le_refl _, .nil⟩ ?_ ?_
    · rintro j v I oI C oC2 D m₂ ys nw h2 tk2 E' hj ⟨tj, rfl⟩ ⟨rfl, hyl, hys⟩ hC hx2 F2 N2 off ne
      have hst : (List.range (j + 1)).filter (fun j => decide (cards.getD j 0 < cards.getD i 0)) = (List.range j).filter (fun j => decide (cards.getD j 0 < cards.getD i 0)) ++ (if cards.getD j 0 < cards.getD i 0 then [j] else []) := by
        rw [List.range_succ, List.filter_append]
        by_cases e : cards.getD j 0 < cards.getD i 0
        · rw [if_pos e, List.filter_cons_of_pos (by simpa using e)]; rfl
        · rw [if_neg e, List.filter_cons_of_neg (by simpa using e)]; rfl
      have hj1 : (0 + (j : Int)).toNat = j := by omega
      have hi1 : ((i : Int)).toNat = i := by omega
      k_steps
      · rename (List.getD _ _ _ < List.getD _ _ _) => hc9
        rw [hj1, hi1] at hc9
        refine LCg.CompEnd.intro F2 N2 _ (fun _ h => h) off trivial ⟨rfl, ?_, ?_⟩
        · simp; omega
        · rw [hst, if_pos hc9, List.map_append, hj1]
          exact ksk_snoc hys
      · rename (¬ List.getD _ _ _ < List.getD _ _ _) => hc9
        rw [hj1, hi1] at hc9
        refine LCg.CompEnd.intro F2 N2 _ (fun _ h => h) off trivial ⟨rfl, ?_, ?_⟩
        · omega
        · rw [hst, if_neg hc9, List.append_nil]
          exact hys
    · rintro ys nw ⟨rfl, hyl, hys⟩
      k_steps
      rename Fr gP _ _ _ => F7
      rename News gP _ _ _ => N7
      rename (∀ _ : Int, _ ∈ _ → _ ≤ _) => hmx
      rename (_ ∈ [_] ++ _) => hmm
      rename_i M7 t7 k7
      have hrvl := hrv.length
      refine list_append (vs := rv) (n := n1) (rest := (LP + 1 + 1 + 1, o1) :: (LP + 1 + 1, oR) :: (LP + 1, oC) :: (news ++ own)) F7 (fun q hq => N7 q ?_) ?_ (by omega) ?_
      · refine List.mem_cons_of_mem _ (List.mem_cons_of_mem _ (List.mem_cons_of_mem _ ?_))
        simp only [List.mem_cons, List.mem_append] at hq ⊢
        rcases hq with h | h | h | h | h | h <;> simp [h]
      · intro q hq
        simp only [List.mem_cons, List.mem_append] at hq
        rcases hq with rfl | rfl | rfl | h | h
        · exact Nat.ne_of_lt l9.1
        · exact Nat.ne_of_lt l9.2.1
        · exact Nat.ne_of_lt l9.2.2.1
        · exact allLt_ne l9.2.2.2 q h
        · exact hown q h _ (.head _)
      · intro n6 h6 F6 N6
        k_steps
        refine CEnd.intro (rv ++ [.int (1 + M7) k7], rs ++ [1 + M7], n6) F6 N6 ?_ ?_ ?_ ?_ ho1 (List.forall_mem_nil _) ⟨?_, by simp [hrl], ksk_snoc hrv⟩
        · intro q hq
          simp only [List.mem_cons, List.mem_append] at hq ⊢
          rcases hq with h | h | h | h | h <;> simp [h]
        · intro q hq
          simp only [List.mem_cons, List.mem_append]
          simp [hq]
        · intro q hq r hr
          rcases List.mem_cons.mp hr with rfl | hr
          · exact hown q hq (lR, W.listOf rv.toArray n1) (.head _)
          · exact hown q hq r (.tail _ hr)
        · intro q hq
          rcases List.mem_cons.mp hq with rfl | hq
          · exact hoc1 (lR, W.listOf rv.toArray n1) (.head _)
          · exact hoc1 q (.tail _ hq)
        · refine Risen.snoc hRs (hmx 0 (by simp)) ?_ ?_
          · rw [hrl]
            simp only [List.mem_append, List.mem_singleton, List.mem_map, List.mem_filter, List.mem_range, decide_eq_true_eq] at hmm
            rcases hmm with h | ⟨j, ⟨h1, h2⟩, h3⟩
            · exact .inl h
            · exact .inr ⟨j, h1, h2, h3⟩
          · rw [hrl]
            intro j h1 h2
            exact hmx _ (by simp only [List.mem_append, List.mem_map, List.mem_filter, List.mem_range, decide_eq_true_eq]; exact .inr ⟨j, ⟨h1, h2⟩, rfl⟩)
  · rintro ⟨rv, rs, n1⟩ o1 v1 u h tk ⟨hRs, hrl, hrv⟩ ho1 hoc1 F1 N1
    dsimp only at hRs hrl hrv hoc1 F1 N1 ⊢
    k_steps
    rename Fr h₀ _ _ _ => F7
    rename News h₀ _ _ _ => N7
    refine hret lR rv rs n1 _ _ hRs hrl hrv (fun q hq => allLt_ne l9.2.2.2 q hq) F7 (fun q hq => N7 q ?_)
    simp only [List.mem_cons] at hq ⊢
    rcases hq with h | h <;> simp [h]
end
end Mine
end
section
namespace Mine
theorem ints_at {vs : List Value} {ns : List Int} (h : IntsAre vs ns) : ∀ {i : Nat} {v : Value}, vs[i]? = some v → ∃ x t, ns[i]? = some x ∧ v = .int x t := by
  induction h with
  | nil => intro i v e; simp at e
  | cons _ _ _ ih =>
    intro i v e
    cases i with
    | zero => simp at e; exact ⟨_, _, rfl, e.symm⟩
    | succ i => simp at e; simpa using ih e
theorem mem_app2 {x y : Addr × Obj} {l own : List (Addr × Obj)} : ∀ p ∈ x :: y :: l, p ∈ x :: y :: (l ++ own) := by
  intro p hp
  simp only [List.mem_cons, List.mem_append] at hp ⊢
  rcases hp with h | h | h <;> simp [h]
def card (x : Int) : Int := if x.fmod 2 = 1 then (x.fdiv 2).fmod 4 else x.fdiv 2
section
variable {prog : Program} {w : World} {p : Program} {loose : List Str} {mean : ExcName → Option Value} {mg mb : Str → Option Value}
    {dp un : Nat} {gd : Option (List Code)} {cn : Str} {cs : Scope} {a : Addr} {ccd : Value} {cl : List (Str × Addr)} {outer : List Env} {A₀ : Around} {base h₀ : Heap} {L : Addr} {m : Str → Option Value} {news : List (Addr × Obj)} {s : Shared}
    {Q E : Value → Shared → Prop}
local macro_rules | `(tactic| walk_at "pyIter ref") => `(tactic| refine halt ?_)
local macro_rules | `(tactic| walk_at "FPost") => `(tactic| dsimp only [FPost])
local macro_rules | `(tactic| k_mem) => `(tactic| first | assumption | exact List.Mem.head _ | (refine' List.mem_cons_of_mem _ ?_; k_mem))
local macro_rules | `(tactic| walk_at "exec For Name BinOp cons nil") => `(tactic| (k_here; (rename Fr _ _ _ _ => lF'); (with_unfolding_all refine' For_invVF lF' ?k1 ?k2 ?_; (case k1 => exact rfl); (case k2 => exact rfl); k_whole)))
local macro_rules | `(tactic| k_all) => `(tactic| first | exact List.forall_mem_nil _ | (refine' List.forall_mem_cons.mpr ⟨?a, ?b⟩; (case a => k_ne); (case b => k_all)) | exact allLt_ne (by assumption) | exact allLt_ne (And.right (by assumption)) | exact allLt_ne (And.right (And.right (by assumption))) | exact allLt_ne (And.right (And.right (And.right (by assumption)))) | (intro p9 hp9; (rename (∀ p : Addr × Obj, p ∈ _ → p.1 < _) => l9); (have e9 := ltN (l9 p9 hp9)); refine neN ?_; (try dsimp only at e9 ⊢); omega) | assumption)
set_option maxRecDepth 100000 in
set_option maxHeartbeats 8000000 in
theorem cards_call {SL : Addr} {sv : List Value} {script : List Int}
    (B : Below A₀ base outer h₀) (F : Fr h₀ L s.heap m) (X : (hd.heap_39 w.params).In h₀) (N : News h₀ L s.heap news) (T : Top p loose mean mg mb h₀) (hk : cs.kind = .function)
    (hdp : dp + 5 < recursionLimit) (hun : un + 50 < cLine)
    (hS : h₀.IsList SL sv.toArray) (hsv : IntsAre sv script) (hsz : script.length ≤ 63)
    (hret : ∀ D rv n' h' tk', IntsAre rv ((script.take 6 ++ [12, 9, 3, 20]).map card) → (∀ p ∈ news, p.1 ≠ D) → Fr h₀ L h' m → News h₀ L h' ((D, W.listOf rv.toArray n') :: news) → Q (.ref D) { s with heap := h', toks := tk' }) :
    wpAny (model prog w) (ktrTop dp un gd cn cs L a ccd cl outer) (call (.ref 228) [.ref SL]) Q E s := by
  have hlen := hsv.length
  refine wpAny_call ?_
  k_dflt ktr_enter
  rename Fr h₀ L _ m => FG9
  have lifted := (show Heap.IsList _ SL sv.toArray from (by obtain ⟨o, e, h1⟩ := hS; exact ⟨o, FG9.keep _ _ e, h1⟩))
  k_steps
  rename_i lA hA lAn hA2 DB wsB hB hIB hCB hLB lBn lC hCC lCn DD wsD hD FD ND hID lDn
  have hwl := hID.length
  refine unhalt ?_
  refine for_list (σ := List Value × Nat) (l := DD) (vs := wsD) (nn := 0) (fun c => (lA, W.listOf c.1.toArray c.2) :: (DD, W.listOf wsD.toArray 0) :: news) (fun c => [(Str.ofString "cards", .ref lA)])
    (fun i c => IntsAre c.1 (((script.take 6 ++ [12, 9, 3, 20]).take i).map card)) ([], 0) rfl (fun d => .tail _ (.head _)) FD ND ?_ ?_ .nil ?_ ?_
  · intro q hq
    simp only [List.mem_cons] at hq ⊢
    rcases hq with h | h | h <;> simp [h]
  · repeat' (first | exact List.forall_mem_nil _ | refine List.forall_mem_cons.mpr ⟨?_, ?_⟩)
    all_goals rfl
  · rintro i v ⟨rv, n1⟩ u h tk own hi hP hown F1 N1
    dsimp only [kstB] at hP hown F1 N1 ⊢
    obtain ⟨xv, tv, hxv, rfl⟩ := ints_at hID hi
    have hst : ((script.take 6 ++ [12, 9, 3, 20]).take (i + 1)).map card = ((script.take 6 ++ [12, 9, 3, 20]).take i).map card ++ [card xv] := by
      rw [List.take_add_one, hxv, List.map_append]; rfl
    k_steps
    · rename (Int.fmod _ _ = _) => hc9
      have hrvl := hP.length
      rw [List.length_map] at hrvl
      have hbd : rv.length ≤ 1000 := by
        rw [hrvl]
        have h1 := List.length_take_le' i (script.take 6 ++ [12, 9, 3, 20])
        have h2 := List.length_take_le 6 script
        simp only [List.length_append, List.length_cons, List.length_nil] at h1
        omega
      refine list_append (vs := rv) (n := n1) (rest := (DD, W.listOf wsD.toArray 0) :: (news ++ own)) (by k_asm) (by k_asm) ?_ hbd ?_
      · intro q hq
        simp only [List.mem_cons, List.mem_append] at hq
        rcases hq with rfl | h | h
        · exact Nat.ne_of_gt lDn.2.2.1
        · exact Nat.ne_of_lt (lAn q h)
        · exact hown q h _ (.head _)
      · intro n6 h6 F6 N6
        k_steps
        refine FEnd.intro (rv ++ [.int ((xv.fdiv 2).fmod 4) _], n6) F6 N6 mem_app2 ?_ ?_ ?_ ?_
        rotate_right
        · dsimp only
          rw [hst]
          rw [show card xv = (xv.fdiv 2).fmod 4 from if_pos hc9]
          exact ksk_snoc hP
        · intro q hq
          simp only [List.mem_cons, List.mem_append]
          simp [hq]
        · intro q hq r hr
          rcases List.mem_cons.mp hr with rfl | hr
          · exact hown q hq (lA, W.listOf rv.toArray n1) (.head _)
          · exact hown q hq r (.tail _ hr)
        · repeat' (first | exact List.forall_mem_nil _ | refine List.forall_mem_cons.mpr ⟨?_, ?_⟩)
          all_goals rfl
    · rename (¬ Int.fmod _ _ = _) => hc9
      have hrvl := hP.length
      rw [List.length_map] at hrvl
      have hbd : rv.length ≤ 1000 := by
        rw [hrvl]
        have h1 := List.length_take_le' i (script.take 6 ++ [12, 9, 3, 20])
        have h2 := List.length_take_le 6 script
        simp only [List.length_append, List.length_cons, List.length_nil] at h1
        omega
      refine list_append (vs := rv) (n := n1) (rest := (DD, W.listOf wsD.toArray 0) :: (news ++ own)) (by k_asm) (by k_asm) ?_ hbd ?_
      · intro q hq
        simp only [List.mem_cons, List.mem_append] at hq
        rcases hq with rfl | h | h
        · exact Nat.ne_of_gt lDn.2.2.1
        · exact Nat.ne_of_lt (lAn q h)
        · exact hown q h _ (.head _)
      · intro n6 h6 F6 N6
        k_steps
        refine FEnd.intro (rv ++ [.int (xv.fdiv 2) _], n6) F6 N6 mem_app2 ?_ ?_ ?_ ?_
        rotate_right
        · dsimp only
          rw [hst]
          rw [show card xv = xv.fdiv 2 from if_neg hc9]
          exact ksk_snoc hP
        · intro q hq
          simp only [List.mem_cons, List.mem_append]
          simp [hq]
        · intro q hq r hr
          rcases List.mem_cons.mp hr with rfl | hr
          · exact hown q hq (lA, W.listOf rv.toArray n1) (.head _)
          · exact hown q hq r (.tail _ hr)
        · repeat' (first | exact List.forall_mem_nil _ | refine List.forall_mem_cons.mpr ⟨?_, ?_⟩)
          all_goals rfl
  · rintro ⟨rv, n1⟩ u h tk hP F1 N1
    dsimp only [kstB] at hP F1 N1 ⊢
    k_steps
    rename Fr h₀ _ _ _ => F7
    rename News h₀ _ _ _ => N7
    rw [List.take_of_length_le (by omega)] at hP
    refine hret lA rv n1 _ _ hP (fun q hq => Nat.ne_of_lt (lAn q hq)) F7 (fun q hq => N7 q ?_)
    simp only [List.mem_cons] at hq ⊢
    rcases hq with h | h <;> simp [h]
end
end Mine
end
section
open PySem PySem.W PyProof.Rows PySem.SeqAt
namespace Mine
/-- a row: its list's address, items, length stamp, places -/
abbrev Row := Addr × List Value × Nat × List Nat
def rowsLed (rows : List Row) : List (Addr × Obj) := rows.map fun r => (r.1, W.listOf r.2.1.toArray r.2.2.1)
def rowRefs (rows : List Row) : List Value := rows.map fun r => Value.ref r.1
def rowsOk (rows : List Row) : Prop := ∀ r ∈ rows, IntsAre r.2.1 (r.2.2.2.map fun j => ((j : Nat) : Int))
theorem rowsLed_snoc (rows : List Row) (r : Row) : rowsLed (rows ++ [r]) = rowsLed rows ++ [(r.1, W.listOf r.2.1.toArray r.2.2.1)] := by simp [rowsLed]
theorem rowRefs_snoc (rows : List Row) (r : Row) : rowRefs (rows ++ [r]) = rowRefs rows ++ [Value.ref r.1] := by simp [rowRefs]
/-- the rows' lists are apart from one another, from their list and from the rest -/
def Sep (RA : Addr) (rows : List Row) (news : List (Addr × Obj)) : Prop := (∀ p ∈ news, p.1 ≠ RA) ∧ (∀ r ∈ rows, r.1 ≠ RA) ∧ (rows.map (·.1)).Nodup ∧ (∀ p ∈ news, ∀ r ∈ rows, p.1 ≠ r.1)
theorem Sep.snoc {RA : Addr} {rows : List Row} {news : List (Addr × Obj)} (h : Sep RA rows news) {r : Row} (h1 : r.1 ≠ RA) (h2 : ∀ q ∈ rows, q.1 ≠ r.1) (h3 : ∀ p ∈ news, p.1 ≠ r.1) : Sep RA (rows ++ [r]) news := by
  obtain ⟨a, b, c, d⟩ := h
  refine ⟨a, fun q hq => ?_, ?_, fun p hp q hq => ?_⟩
  · rcases List.mem_append.mp hq with hq | hq
    · exact b q hq
    · rw [List.mem_singleton.mp hq]; exact h1
  · rw [List.map_append, List.nodup_append]
    refine ⟨c, by simp, ?_⟩
    intro x hx y hy
    obtain ⟨q, hq, rfl⟩ := List.mem_map.mp hx
    simp only [List.map_cons, List.map_nil, List.mem_singleton] at hy
    rw [hy]
    exact h2 q hq
  · rcases List.mem_append.mp hq with hq | hq
    · exact d p hp q hq
    · rw [List.mem_singleton.mp hq]; exact h3 p hp
theorem led_mem {rows : List Row} {r : Row} (h : r ∈ rows) : (r.1, W.listOf r.2.1.toArray r.2.2.1) ∈ rowsLed rows := List.mem_map.mpr ⟨r, h, rfl⟩
def Apart (HP RA : Addr) (rows : List Row) (news : List (Addr × Obj)) : Prop := RA ≠ HP ∧ (∀ r ∈ rows, r.1 ≠ HP) ∧ ∀ p ∈ news, p.1 ≠ HP
theorem news_sub {h₀ g : Heap} {L : Addr} {news : List (Addr × Obj)} (N : News h₀ L g news) (news' : List (Addr × Obj)) (hs : ∀ q ∈ news', q ∈ news) : News h₀ L g news' := fun q hq => N q (hs q hq)
theorem tup_head {h₀ g : Heap} {L D : Addr} {nw : List (Addr × Obj)} {c m k : Int} {t1 t2 t3 : Tok} {n : Nat} (N : News h₀ L g ((D, ({ cls := .type "tuple", data := .seq #[.int c t1, .int m t2, .int k t3] n } : Obj)) :: nw)) :
    ∃ ob, News h₀ L g ((D, ob) :: nw) ∧ TupIn [(D, ob)] (.ref D) (c, m, k) := ⟨_, N, D, t1, t2, t3, n, rfl, .head _⟩
theorem ints_snoc_inv : ∀ {ns : List Int} {vs : List Value} {x : Int}, IntsAre vs (ns ++ [x]) → ∃ vs' t, vs = vs' ++ [.int x t] ∧ IntsAre vs' ns
  | [], _, _, h => by
    cases h with
    | cons _ t h => cases h; exact ⟨[], t, rfl, .nil⟩
  | a :: ns, _, _, h => by
    cases h with
    | cons _ t h =>
      obtain ⟨vs', t', rfl, h2⟩ := ints_snoc_inv h
      exact ⟨_ :: vs', t', rfl, .cons _ _ h2⟩
theorem set_addrs {rows : List Row} {i : Nat} {r r1 : Row} (h : rows[i]? = some r) (e : r1.1 = r.1) : (rows.set i r1).map (·.1) = rows.map (·.1) := by
  apply List.ext_getElem?
  intro k
  rw [List.getElem?_map, List.getElem?_map, List.getElem?_set]
  split
  · subst_vars
    rw [h]
    have := (List.getElem?_eq_some_iff.mp h).1
    simp [this, e]
  · rfl
theorem refs_addrs (rows : List Row) : rowRefs rows = (rows.map (·.1)).map Value.ref := by simp [rowRefs]
theorem mem_addrs {rows : List Row} {P : Addr → Prop} : (∀ r ∈ rows, P r.1) ↔ ∀ a ∈ rows.map (·.1), P a := by simp
theorem Sep.congr {RA : Addr} {rows rows' : List Row} {news : List (Addr × Obj)} (e : rows'.map (·.1) = rows.map (·.1)) (h : Sep RA rows news) : Sep RA rows' news := by
  obtain ⟨a, b, c, d⟩ := h
  refine ⟨a, (mem_addrs (P := fun x => x ≠ RA)).mpr ?_, ?_, fun p hp => (mem_addrs (P := fun x => p.1 ≠ x)).mpr ?_⟩
  · rw [e]; exact (mem_addrs (P := fun x => x ≠ RA)).mp b
  · rw [e]; exact c
  · rw [e]; exact (mem_addrs (P := fun x => p.1 ≠ x)).mp (d p hp)
theorem Sep.more {RA : Addr} {rows : List Row} {news : List (Addr × Obj)} {q : Addr × Obj} (h : Sep RA rows news) (h1 : q.1 ≠ RA) (h2 : ∀ r ∈ rows, q.1 ≠ r.1) : Sep RA rows (q :: news) := by
  obtain ⟨a, b, c, d⟩ := h
  refine ⟨List.forall_mem_cons.mpr ⟨h1, a⟩, b, c, List.forall_mem_cons.mpr ⟨h2, d⟩⟩
theorem Apart.congr {HP RA : Addr} {rows rows' : List Row} {news : List (Addr × Obj)} (e : rows'.map (·.1) = rows.map (·.1)) (h : Apart HP RA rows news) : Apart HP RA rows' news := by
  obtain ⟨a, b, c⟩ := h
  refine ⟨a, (mem_addrs (P := fun x => x ≠ HP)).mpr ?_, c⟩
  rw [e]; exact (mem_addrs (P := fun x => x ≠ HP)).mp b
theorem Apart.more {HP RA : Addr} {rows : List Row} {news : List (Addr × Obj)} {q : Addr × Obj} (h : Apart HP RA rows news) (h1 : q.1 ≠ HP) : Apart HP RA rows (q :: news) :=
  ⟨h.1, h.2.1, List.forall_mem_cons.mpr ⟨h1, h.2.2⟩⟩
theorem set_led {RA : Addr} {rows : List Row} {news : List (Addr × Obj)} (hs : Sep RA rows news) {i : Nat} {r r1 : Row} (h : rows[i]? = some r) (e : r1.1 = r.1) : ∀ q ∈ rowsLed (rows.set i r1), q = (r.1, W.listOf r1.2.1.toArray r1.2.2.1) ∨ (q ∈ rowsLed rows ∧ q.1 ≠ r.1) := by
  intro q hq
  obtain ⟨z, hz, rfl⟩ := List.mem_map.mp hq
  obtain ⟨k, hk⟩ := List.getElem?_of_mem hz
  rw [List.getElem?_set] at hk
  have hi := (List.getElem?_eq_some_iff.mp h).1
  split at hk
  · cases hk
    exact .inl (by rw [e])
  · next hne =>
    refine .inr ⟨led_mem (List.mem_of_getElem? hk), fun ez => hne ?_⟩
    have h1 : (rows.map (·.1))[i]? = some r.1 := by rw [List.getElem?_map, h]; rfl
    have h2 : (rows.map (·.1))[k]? = some r.1 := by rw [List.getElem?_map, hk]; exact congrArg some ez
    exact (List.getElem?_inj (by simpa using hi) hs.2.2.1).mp (h1.trans h2.symm)
theorem led_pop {RA : Addr} {n1 : Nat} {rows : List Row} {news : List (Addr × Obj)} (hs : Sep RA rows news) {i : Nat} {r r1 : Row} (h : rows[i]? = some r) (e : r1.1 = r.1) :
    ∀ q ∈ (RA, W.listOf (rowRefs (rows.set i r1)).toArray n1) :: (rowsLed (rows.set i r1) ++ news), q = (r.1, W.listOf r1.2.1.toArray r1.2.2.1) ∨ (q ∈ (RA, W.listOf (rowRefs rows).toArray n1) :: (rowsLed rows ++ news) ∧ q.1 ≠ r.1) := by
  intro q hq
  have hrm := List.mem_of_getElem? h
  rcases List.mem_cons.mp hq with rfl | hq
  · refine .inr ⟨?_, Ne.symm (hs.2.1 r hrm)⟩
    rw [show rowRefs (rows.set i r1) = rowRefs rows from by rw [refs_addrs, refs_addrs, set_addrs h e]]
    exact .head _
  · rcases List.mem_append.mp hq with hq | hq
    · rcases set_led hs h e q hq with h | ⟨h1, h2⟩
      · exact .inl h
      · exact .inr ⟨.tail _ (List.mem_append_left _ h1), h2⟩
    · exact .inr ⟨.tail _ (List.mem_append_right _ hq), hs.2.2.2 q hq r hrm⟩
theorem rowsOk.set {rows : List Row} (h : rowsOk rows) {i : Nat} {r1 : Row} (h1 : IntsAre r1.2.1 (r1.2.2.2.map fun j => ((j : Nat) : Int))) : rowsOk (rows.set i r1) := by
  intro r hr
  rcases List.mem_or_eq_of_mem_set hr with hr | rfl
  · exact h r hr
  · exact h1
section
variable {prog : Program} {w : World} {A : Around} {E : Value → Shared → Prop} {s : Shared} {h₀ : Heap} {L : Addr} {news : List (Addr × Obj)}
theorem row_get {value slice : PySem.Expr} {RA : Addr} {rows : List Row} {n : Nat} {i : Int} {k : Nat} {u : Tok} {r : Row} {Q : Value → Shared → Prop} (N : News h₀ L s.heap news) (hm : (RA, W.listOf (rowRefs rows).toArray n) ∈ news)
    (hi : i = (k : Int)) (hx : rows[k]? = some r) (hsz : rows.length ≤ 1000) (h : Q (.ref r.1) s)
    (hs : subscripted slice false (.ref RA) (.int i u) = operate [.ref RA, .int i u] (getItem (.ref RA) (.int i u)) := by with_unfolding_all rfl) (hg : ∀ r, letTemporaryGo value (.ref RA) r = pure () := by intro _; with_unfolding_all rfl) :
    wpAny (model prog w) A (subscriptTail value slice (.ref RA) (.int i u)) Q E s := by
  have hk : k < rows.length := (List.getElem?_eq_some_iff.mp hx).1
  refine kim_list N hm rfl rfl (by omega) (by omega) ?_ h hs hg
  subst hi
  simp [rowRefs, hx]
theorem row_pop {ra : Addr} {vs : List Value} {v : Value} {n : Nat} {m : Str → Option Value} {Q : Value → Shared → Prop} (F : Fr h₀ L s.heap m) (N : News h₀ L s.heap news) (hm : (ra, W.listOf (vs ++ [v]).toArray n) ∈ news)
    (hsz : vs.length ≤ 1000) (h : ∀ h', Fr h₀ L h' m → (∀ nw', (∀ q ∈ nw', q = (ra, W.listOf vs.toArray (n + 1)) ∨ (q ∈ news ∧ q.1 ≠ ra)) → News h₀ L h' nw') → Q v { s with heap := h' }) :
    wpAny (model prog w) A (call (.builtin "list.pop") [.ref ra]) Q E s := by
  refine list_pop (vs := vs) (v := v) (n := n) (rest := news.filter fun q => decide (q.1 ≠ ra)) F (fun q hq => ?_) (fun q hq => ?_) hsz (fun h' F' N' => h h' F' fun nw' hn q hq => N' q ?_)
  · rcases List.mem_cons.mp hq with rfl | hq
    · exact N _ hm
    · exact N q (List.mem_filter.mp hq).1
  · simpa using (List.mem_filter.mp hq).2
  · rcases hn q hq with rfl | ⟨h1, h2⟩
    · exact .head _
    · exact .tail _ (List.mem_filter.mpr ⟨h1, by simpa using h2⟩)
theorem tup_ne_same {a : Value} {b : Addr} {k : Key} {nn : Nat} {u1 u2 u3 : Tok} {Q : Value → Shared → Prop} (N : News h₀ L s.heap news) (ha : TupIn news a k) (hb : (b, ({ cls := .type "tuple", data := .seq #[.int k.1 u1, .int k.2.1 u2, .int k.2.2 u3] nn } : Obj)) ∈ news) (hu : A.units < cLine) (h : Q (.bool false) s) :
    wpAny (model prog w) A (compareOp .NotEq a (.ref b)) Q E s := by
  obtain ⟨a, t1, t2, t3, n, rfl, hm⟩ := ha
  refine cmp_ofNotEq ?_
  have la : s.heap.IsTuple a #[.int k.1 t1, .int k.2.1 t2, .int k.2.2 t3] := ⟨_, (N _ hm).1, rfl, n, rfl⟩
  have lb : s.heap.IsTuple b #[.int k.1 u1, .int k.2.1 u2, .int k.2.2 u3] := ⟨_, (N _ hb).1, rfl, nn, rfl⟩
  refine RcNeAt.tuples (e := fun _ => true) la lb hu (fun j h1 _ => ?_) prog w E Q h
  have h3 : j < 3 := h1
  match j, h3 with
  | 0, _ => exact (by simpa using EqAt.int_int (A := A.in1) (s := s) k.1 t1 k.1 u1)
  | 1, _ => exact (by simpa using EqAt.int_int (A := A.in1) (s := s) k.2.1 t2 k.2.1 u2)
  | 2, _ => exact (by simpa using EqAt.int_int (A := A.in1) (s := s) k.2.2 t3 k.2.2 u3)
end
/-- a pair of numbers in the ledger -/
def TwoIn (news : List (Addr × Obj)) (v : Value) (k : Int × Int) : Prop :=
  ∃ (a : Addr) (t1 t2 : Tok) (n : Nat), v = .ref a ∧ (a, ({ cls := .type "tuple", data := .seq #[.int k.1 t1, .int k.2 t2] n } : Obj)) ∈ news
theorem TwoIn.mono {l l' : List (Addr × Obj)} {v : Value} {k : Int × Int} (h : TwoIn l v k) (hs : ∀ p ∈ l, p ∈ l') : TwoIn l' v k := by
  obtain ⟨a, t1, t2, n, e, hm⟩ := h
  exact ⟨a, t1, t2, n, e, hs _ hm⟩
theorem two_head {h₀ g : Heap} {L D : Addr} {nw : List (Addr × Obj)} {c m : Int} {t1 t2 : Tok} {n : Nat} (N : News h₀ L g ((D, ({ cls := .type "tuple", data := .seq #[.int c t1, .int m t2] n } : Obj)) :: nw)) :
    ∃ ob, News h₀ L g ((D, ob) :: nw) ∧ TwoIn [(D, ob)] (.ref D) (c, m) := ⟨_, N, D, t1, t2, n, rfl, .head _⟩
end Mine
end
section
namespace Mine
def key2 (cards : List Int) (j : Nat) : Int × Int := (cards.getD j 0, -(j : Int))
def key3 (cards : List Int) (j k : Nat) : Key := (cards.getD j 0, -(j : Int), (k : Int))
def le2 (a b : Int × Int) : Prop := a.1 < b.1 ∨ (a.1 = b.1 ∧ a.2 ≤ b.2)
def two (y : Item) : Int × Int := (y.2.1, y.2.2.1)
structure Inv (cards : List Int) (i : Nat) (rr : List (List Nat)) (l : List Item) (out : List (Int × Int)) : Prop where
  len : rr.length = 12
  ord : ∀ r ∈ rr, r.Pairwise fun a b => a < b ∧ cards.getD b 0 ≤ cards.getD a 0
  bnd : ∀ r ∈ rr, ∀ j ∈ r, j < cards.length
  tops : ∀ y ∈ l, ∃ j k : Nat, y.2 = key3 cards j k ∧ k < 12 ∧ j < cards.length ∧ ∀ j' ∈ rr.getD k [], j' < j ∧ cards.getD j 0 ≤ cards.getD j' 0
  has : ∀ k < i, rr.getD k [] ≠ [] → ∃ y ∈ l, y.2.2.2 = (k : Int)
  all : (out ++ l.map two ++ rr.flatten.map (key2 cards)).Perm ((List.range cards.length).map (key2 cards))
  srt : out.Pairwise le2
  low : ∀ o ∈ out, (∀ y ∈ l, le2 o (two y)) ∧ ∀ r ∈ rr, ∀ j ∈ r, le2 o (key2 cards j)
section
variable {cards : List Int} {i : Nat} {rr : List (List Nat)} {l l' : List Item} {out : List (Int × Int)}
theorem getD_of {k : Nat} {r : List Nat} (h : rr[k]? = some r) : rr.getD k [] = r := by rw [List.getD_eq_getElem?_getD, h]; rfl
theorem Inv.skip (h : Inv cards i rr l out) (hr : rr[i]? = some []) : Inv cards (i + 1) rr l out := by
  refine ⟨h.len, h.ord, h.bnd, h.tops, fun k hk hne => ?_, h.all, h.srt, h.low⟩
  by_cases e : k = i
  · subst e; exact absurd (getD_of hr) hne
  · exact h.has k (by omega) hne
theorem Inv.perm (h : Inv cards i rr l out) (hp : l'.Perm l) : Inv cards i rr l' out := by
  refine ⟨h.len, h.ord, h.bnd, fun y hy => h.tops y (hp.mem_iff.mp hy), fun k hk hne => ?_, ?_, h.srt, fun o ho => ⟨fun y hy => (h.low o ho).1 y (hp.mem_iff.mp hy), (h.low o ho).2⟩⟩
  · obtain ⟨y, hy, e⟩ := h.has k hk hne
    exact ⟨y, hp.mem_iff.mpr hy, e⟩
  · exact (((hp.map two).append_left out).append_right _).trans h.all
theorem Inv.fin (h : Inv cards 12 rr [] out) : out.Perm ((List.range cards.length).map (key2 cards)) ∧ out.Pairwise le2 := by
  have hz : rr.flatten = [] := by
    rw [List.flatten_eq_nil_iff]
    intro r hr
    obtain ⟨k, hk⟩ := List.getElem?_of_mem hr
    have hk2 := (List.getElem?_eq_some_iff.mp hk).1
    rw [h.len] at hk2
    by_cases e : r = []
    · exact e
    · obtain ⟨y, hy, _⟩ := h.has k hk2 (by rw [getD_of hk]; exact e)
      cases hy
  have := h.all
  rw [hz] at this
  simp only [List.map_nil, List.append_nil] at this
  exact ⟨this, h.srt⟩
theorem flat_set {k : Nat} {r' : List Nat} {j : Nat} : ∀ {rr : List (List Nat)} {k : Nat}, rr[k]? = some (r' ++ [j]) → (j :: (rr.set k r').flatten).Perm rr.flatten := by
  intro rr
  induction rr with
  | nil => intro k h; simp at h
  | cons a rr ih =>
    intro k h
    cases k with
    | zero =>
      simp only [List.getElem?_cons_zero, Option.some.injEq] at h
      subst h
      rw [List.set_cons_zero, List.flatten_cons, List.flatten_cons, List.append_assoc]
      exact List.perm_middle.symm
    | succ k =>
      simp only [List.getElem?_cons_succ] at h
      rw [List.set_cons_succ, List.flatten_cons, List.flatten_cons]
      exact List.perm_middle.symm.trans ((ih h).append_left a)
theorem mem_set_sub {k : Nat} {r' : List Nat} {j : Nat} (h : rr[k]? = some (r' ++ [j])) : ∀ r ∈ rr.set k r', ∃ r2 ∈ rr, r.Sublist r2 := by
  intro r hr
  rcases List.mem_or_eq_of_mem_set hr with hr | rfl
  · exact ⟨r, hr, List.Sublist.refl _⟩
  · exact ⟨_, List.mem_of_getElem? h, List.sublist_append_left _ _⟩
theorem getD_set_sub {k k' : Nat} {r' : List Nat} {j : Nat} (h : rr[k]? = some (r' ++ [j])) : ∀ x ∈ (rr.set k r').getD k' [], x ∈ rr.getD k' [] := by
  intro x hx
  rw [List.getD_eq_getElem?_getD, List.getElem?_set] at hx
  split at hx
  · next e =>
    subst e
    rw [getD_of h]
    split at hx
    · exact List.mem_append_left _ hx
    · cases hx
  · rw [List.getD_eq_getElem?_getD]; exact hx
/-- one card taken from row k -/
theorem Inv.take {v : Value} {k j : Nat} {r' : List Nat} (h : Inv cards i rr l out) (hr : rr[k]? = some (r' ++ [j])) (i' : Nat) (hi : ∀ k' < i', k' ≠ k → k' < i) : Inv cards i' (rr.set k r') ((v, key3 cards j k) :: l) out := by
  have hk : k < 12 := by have := (List.getElem?_eq_some_iff.mp hr).1; rw [h.len] at this; exact this
  have hrm := List.mem_of_getElem? hr
  have hjr : j ∈ r' ++ [j] := List.mem_append_right _ (.head _)
  refine ⟨by rw [List.length_set]; exact h.len, fun r hr2 => ?_, fun r hr2 j' hj' => ?_, ?_, fun k' hk' hne => ?_, ?_, h.srt, fun o ho => ⟨?_, ?_⟩⟩
  · obtain ⟨r2, h1, h2⟩ := mem_set_sub hr r hr2
    exact (h.ord r2 h1).sublist h2
  · obtain ⟨r2, h1, h2⟩ := mem_set_sub hr r hr2
    exact h.bnd r2 h1 j' (h2.subset hj')
  · intro y hy
    rcases List.mem_cons.mp hy with rfl | hy
    · refine ⟨j, k, rfl, hk, h.bnd _ hrm j hjr, fun j' hj' => ?_⟩
      have e : (rr.set k r').getD k [] = r' := getD_of (by rw [List.getElem?_set]; simp [h.len, hk])
      rw [e] at hj'
      have := List.pairwise_append.mp (h.ord _ hrm)
      exact this.2.2 j' hj' j (.head _)
    · obtain ⟨j2, k2, e1, e2, e3, e4⟩ := h.tops y hy
      exact ⟨j2, k2, e1, e2, e3, fun j' hj' => e4 j' (getD_set_sub hr j' hj')⟩
  · by_cases e : k' = k
    · subst e; exact ⟨_, .head _, rfl⟩
    · have hne2 : rr.getD k' [] ≠ [] := by
        rw [List.getD_eq_getElem?_getD, List.getElem?_set_ne (Ne.symm e), ← List.getD_eq_getElem?_getD] at hne
        exact hne
      obtain ⟨y, hy, e2⟩ := h.has k' (hi k' hk' e) hne2
      exact ⟨y, .tail _ hy, e2⟩
  · refine List.Perm.trans ?_ h.all
    rw [List.map_cons, List.append_assoc, List.append_assoc, List.cons_append]
    refine List.Perm.append_left out ?_
    have h2 := (flat_set (k := k) hr).map (key2 cards)
    rw [List.map_cons] at h2
    exact List.perm_middle.symm.trans (h2.append_left _)
  · intro y hy
    rcases List.mem_cons.mp hy with rfl | hy
    · exact (h.low o ho).2 _ hrm j hjr
    · exact (h.low o ho).1 y hy
  · intro r hr2 j' hj'
    obtain ⟨r2, h1, h2⟩ := mem_set_sub hr r hr2
    exact (h.low o ho).2 r2 h1 j' (h2.subset hj')
theorem Inv.deal {v : Value} {j : Nat} {r' : List Nat} (h : Inv cards i rr l []) (hr : rr[i]? = some (r' ++ [j])) : Inv cards (i + 1) (rr.set i r') (l ++ [(v, key3 cards j i)]) [] :=
  (h.take hr (i + 1) (fun k' h1 h2 => by omega)).perm (List.perm_append_comm (l₁ := l) (l₂ := [_]))
theorem le2_trans {a b c : Int × Int} (h1 : le2 a b) (h2 : le2 b c) : le2 a c := by
  unfold le2 at *; omega
theorem le2_refl (a : Int × Int) : le2 a a := .inr ⟨rfl, Int.le_refl _⟩
theorem le2_of_lt {x y : Item} (h : ltI y x = false) : le2 (two x) (two y) := by
  simp only [ltI, ltK, decide_eq_false_iff_not] at h
  unfold le2 two
  dsimp only
  omega
theorem Inv.drop {x : Item} {j k : Nat} (h : Inv cards 12 rr (x :: l) out) (hx : x.2 = key3 cards j k) (hmin : ∀ y ∈ l, ltI y x = false) (hk : rr.getD k [] = [] ∨ ∃ y ∈ l, y.2.2.2 = (k : Int)) : Inv cards 12 rr l (out ++ [key2 cards j]) := by
  have hxt : two x = key2 cards j := by unfold two; rw [hx]; rfl
  have hle : ∀ y ∈ x :: l, le2 (two x) (two y) := by
    intro y hy
    rcases List.mem_cons.mp hy with rfl | hy
    · exact le2_refl _
    · exact le2_of_lt (hmin y hy)
  refine ⟨h.len, h.ord, h.bnd, fun y hy => h.tops y (.tail _ hy), fun k' hk' hne => ?_, ?_, ?_, fun o ho => ?_⟩
  · obtain ⟨y, hy, e⟩ := h.has k' hk' hne
    rcases List.mem_cons.mp hy with rfl | hy
    · rw [hx] at e
      have e2 : k = k' := by simp only [key3] at e; omega
      subst e2
      rcases hk with hk | hk
      · exact absurd hk hne
      · exact hk
    · exact ⟨y, hy, e⟩
  · have := h.all
    rw [List.map_cons, hxt, List.append_assoc] at this
    rw [List.append_assoc, List.append_assoc]
    exact this
  · rw [List.pairwise_append]
    refine ⟨h.srt, List.pairwise_singleton _ _, fun a ha b hb => ?_⟩
    rw [List.mem_singleton.mp hb, ← hxt]
    exact (h.low a ha).1 x (.head _)
  · rcases List.mem_append.mp ho with ho | ho
    · exact ⟨fun y hy => (h.low o ho).1 y (.tail _ hy), (h.low o ho).2⟩
    · rw [List.mem_singleton.mp ho, ← hxt]
      refine ⟨fun y hy => hle y (.tail _ hy), fun r hr j' hj' => ?_⟩
      obtain ⟨k', hk'⟩ := List.getElem?_of_mem hr
      have hk2 := (List.getElem?_eq_some_iff.mp hk').1
      rw [h.len] at hk2
      have hg := getD_of hk'
      obtain ⟨y, hy, e⟩ := h.has k' hk2 (by rw [hg]; exact List.ne_nil_of_mem hj')
      obtain ⟨j2, k2, e1, _, _, e4⟩ := h.tops y hy
      have ek : k2 = k' := by rw [e1] at e; simp only [key3] at e; omega
      subst ek
      rw [hg] at e4
      have h3 := e4 j' hj'
      refine le2_trans (hle y hy) ?_
      unfold le2 two key2
      rw [e1]
      simp only [key3]
      omega
theorem heap_tail {l0 : List Item} {x y : Item} (h : HeapFrom ltI 0 (x :: l0)) : HeapFrom ltI 1 (y :: l0) := by
  intro j a b h1 h2 h3 h4
  refine h j a b h1 (Nat.zero_le _) ?_ ?_
  · obtain ⟨q, hq⟩ : ∃ q, (j - 1) / 2 = q + 1 := ⟨(j - 1) / 2 - 1, by omega⟩
    rw [hq, List.getElem?_cons_succ] at h3 ⊢
    exact h3
  · obtain ⟨q, hq⟩ : ∃ q, j = q + 1 := ⟨j - 1, by omega⟩
    rw [hq, List.getElem?_cons_succ] at h4 ⊢
    exact h4
theorem heap_pre {l0 : List Item} {z : Item} (h : HeapFrom ltI 0 (l0 ++ [z])) : HeapFrom ltI 0 l0 := by
  intro j a b h1 h2 h3 h4
  have hj := (List.getElem?_eq_some_iff.mp h4).1
  have hp := (List.getElem?_eq_some_iff.mp h3).1
  refine h j a b h1 h2 ?_ ?_
  · rw [List.getElem?_append_left hp]; exact h3
  · rw [List.getElem?_append_left hj]; exact h4
theorem Inv.rep {j k j1 : Nat} {r' : List Nat} {x : Item} {v : Value} (h : Inv cards 12 rr l out) (hh : HeapFrom ltI 0 l) (hx : l[0]? = some x) (hk : x.2 = key3 cards j k) (hr : rr[k]? = some (r' ++ [j1])) :
    Inv cards 12 (rr.set k r') (sup ltI (l.set 0 (v, key3 cards j1 k)) 0) (out ++ [key2 cards j]) ∧ HeapFrom ltI 0 (sup ltI (l.set 0 (v, key3 cards j1 k)) 0) := by
  have hfirst := heap_first ltI_ok ltI_irrefl l hh x hx
  cases l with
  | nil => simp at hx
  | cons x0 l0 =>
    simp only [List.getElem?_cons_zero, Option.some.injEq] at hx
    subst hx
    rw [List.set_cons_zero]
    refine ⟨Inv.perm ?_ (sup_perm _ 0), sup_heap ltI_ok _ 0 (by simp) (heap_tail hh)⟩
    have ht := h.take (v := v) hr 12 (fun k' h1 _ => h1)
    have ht2 := ht.perm (List.Perm.swap (v, key3 cards j1 k) x0 l0)
    refine ht2.drop hk ?_ (.inr ⟨_, .head _, rfl⟩)
    intro y hy
    rcases List.mem_cons.mp hy with rfl | hy
    · obtain ⟨j2, k2, e1, _, _, e4⟩ := h.tops x0 (.head _)
      rw [hk] at e1
      have e5 : j2 = j ∧ k2 = k := by simp only [key3, Prod.mk.injEq] at e1; omega
      obtain ⟨rfl, rfl⟩ := e5
      have h3 := e4 j1 (by rw [getD_of hr]; exact List.mem_append_right _ (.head _))
      simp only [ltI, ltK, hk, key3, decide_eq_false_iff_not]
      omega
    · obtain ⟨q, hq⟩ := List.getElem?_of_mem (List.mem_cons_of_mem x0 hy)
      exact hfirst q y hq
theorem Inv.pop {j k : Nat} {z : Item} (h : Inv cards 12 rr (l ++ [z]) out) (hh : HeapFrom ltI 0 (l ++ [z])) (hk : (popTop l z).2 = key3 cards j k) (hr : rr[k]? = some []) :
    Inv cards 12 rr (popRest l z) (out ++ [key2 cards j]) ∧ HeapFrom ltI 0 (popRest l z) := by
  cases l with
  | nil =>
    refine ⟨?_, ?_⟩
    · exact h.drop hk (fun _ h => nomatch h) (.inl (getD_of hr))
    · exact heap_pre hh
  | cons x0 l0 =>
    have hfirst := heap_first ltI_ok ltI_irrefl _ hh x0 rfl
    have e : popRest (x0 :: l0) z = sup ltI (z :: l0) 0 := by unfold popRest; rw [if_neg (by simp)]; rfl
    rw [e]
    refine ⟨Inv.perm ?_ (sup_perm _ 0), sup_heap ltI_ok _ 0 (by simp) (heap_tail (heap_pre hh))⟩
    have h1 : Inv cards 12 rr (l0 ++ [z]) (out ++ [key2 cards j]) := by
      refine h.drop hk (fun y hy => ?_) (.inl (getD_of hr))
      obtain ⟨q, hq⟩ := List.getElem?_of_mem (List.mem_cons_of_mem x0 hy)
      exact hfirst q y hq
    exact h1.perm (List.perm_append_comm (l₁ := [z]) (l₂ := l0))
theorem flat_other {ps : List Nat} {k : Nat} : ∀ {ks : List Nat}, k ∉ ks → ks.map (idxs (ps ++ [k])) = ks.map (idxs ps) := by
  intro ks hk
  apply List.map_congr_left
  intro q hq
  have hne : ¬ k = q := fun e => hk (by rw [e]; exact hq)
  rw [idxs_snoc, if_neg hne, List.append_nil]
theorem flat_one {ps : List Nat} {k : Nat} : ∀ {ks : List Nat}, ks.Nodup → k ∈ ks → ((ks.map (idxs (ps ++ [k]))).flatten).Perm (ps.length :: (ks.map (idxs ps)).flatten) := by
  intro ks
  induction ks with
  | nil => intro _ h; cases h
  | cons q ks ih =>
    intro hn hk
    rw [List.nodup_cons] at hn
    rw [List.map_cons, List.map_cons, List.flatten_cons, List.flatten_cons, idxs_snoc]
    by_cases e : k = q
    · subst e
      rw [if_pos rfl, flat_other hn.1, List.append_assoc]
      exact List.perm_middle
    · rw [if_neg e, List.append_nil]
      have hk2 : k ∈ ks := (List.mem_cons.mp hk).resolve_left e
      exact ((ih hn.2 hk2).append_left _).trans List.perm_middle
theorem flat_all {ks : List Nat} (hn : ks.Nodup) : ∀ (n : Nat) {ps : List Nat}, ps.length = n → (∀ q ∈ ps, q ∈ ks) → ((ks.map (idxs ps)).flatten).Perm (List.range n) := by
  intro n
  induction n with
  | zero =>
    intro ps h _
    rw [List.length_eq_zero_iff.mp h]
    have : (ks.map (idxs [])).flatten = [] := by
      rw [List.flatten_eq_nil_iff]
      intro r hr
      obtain ⟨q, _, rfl⟩ := List.mem_map.mp hr
      rfl
    rw [this]
    exact .refl _
  | succ n ih =>
    intro ps h hq
    rcases List.eq_nil_or_concat ps with rfl | ⟨ps', k, rfl⟩
    · simp at h
    · rw [List.concat_eq_append] at h hq ⊢
      have hl : ps'.length = n := by simpa using h
      refine (flat_one hn (hq k (List.mem_append_right _ (.head _)))).trans ?_
      rw [hl, List.range_succ]
      exact ((ih hl fun q hq' => hq q (List.mem_append_left _ hq')).cons n).trans (List.perm_append_comm (l₁ := [n]))
theorem Laid.ord {ps : List Nat} (h : Laid cards ps) : ∀ k, (idxs ps k).Pairwise fun a b => a < b ∧ cards.getD b 0 ≤ cards.getD a 0 := by
  induction h with
  | nil => intro k; exact .nil
  | @snoc ps k hl h1 h2 ih =>
    intro k'
    rw [idxs_snoc]
    by_cases e : k = k'
    · subst e
      rw [if_pos rfl, List.pairwise_append]
      refine ⟨ih k, List.pairwise_singleton _ _, fun a ha b hb => ?_⟩
      rw [List.mem_singleton.mp hb]
      refine ⟨(List.getElem?_eq_some_iff.mp (idxs_mem.mp ha)).1, ?_⟩
      rcases List.eq_nil_or_concat (idxs ps k) with h0 | ⟨r, j, h0⟩
      · rw [h0] at ha; cases ha
      · rw [List.concat_eq_append] at h0
        have hj := h2 j (by rw [h0]; simp)
        have hp := ih k
        rw [h0] at ha hp
        rcases List.mem_append.mp ha with ha | ha
        · have := (List.pairwise_append.mp hp).2.2 a ha j (.head _)
          omega
        · rw [List.mem_singleton.mp ha]; omega
    · rw [if_neg e, List.append_nil]; exact ih k'
theorem Inv.init {ps : List Nat} (h : Laid cards ps) (hl : ps.length = cards.length) (hz : cards.length ≤ 10) : Inv cards 0 ((List.range 12).map fun i => idxs ps (11 - i)) [] [] := by
  have e : (List.range 12).map (fun i => idxs ps (11 - i)) = [11, 10, 9, 8, 7, 6, 5, 4, 3, 2, 1, 0].map (idxs ps) := rfl
  refine ⟨by simp, fun r hr => ?_, fun r hr j hj => ?_, fun _ h => (nomatch h), fun k hk => absurd hk (Nat.not_lt_zero _), ?_, .nil, fun _ h => (nomatch h)⟩
  · obtain ⟨i, _, rfl⟩ := List.mem_map.mp hr
    exact h.ord _
  · obtain ⟨i, _, rfl⟩ := List.mem_map.mp hr
    rw [← hl]
    exact (List.getElem?_eq_some_iff.mp (idxs_mem.mp hj)).1
  · rw [List.map_nil, List.nil_append, List.nil_append, e]
    refine (flat_all (by decide) cards.length hl fun q hq => ?_).map _
    have := h.lt q hq
    have hq2 : q < 12 := by omega
    simp only [List.mem_cons, List.not_mem_nil, or_false]
    omega
end
theorem popRest_mem {l : List Item} {z y : Item} (hy : y ∈ popRest l z) : y ∈ l ++ [z] := by
  unfold popRest at hy
  split at hy
  · cases hy
  · rw [sup_mem] at hy
    rcases List.mem_or_eq_of_mem_set hy with hy | rfl
    · exact List.mem_append_left _ hy
    · exact List.mem_append_right _ (.head _)
theorem mem_len {r : List Nat} {rr : List (List Nat)} (h : r ∈ rr) : r.length ≤ rr.flatten.length := by
  induction rr with
  | nil => cases h
  | cons a l ih =>
    rw [List.flatten_cons, List.length_append]
    rcases List.mem_cons.mp h with rfl | h
    · omega
    · have := ih h; omega
theorem Inv.size {cards : List Int} {i : Nat} {rr : List (List Nat)} {l : List Item} {out : List (Int × Int)} (h : Inv cards i rr l out) : out.length + l.length + rr.flatten.length = cards.length := by
  have := h.all.length_eq
  simp only [List.length_append, List.length_map, List.length_range] at this
  exact this
end Mine
end
section
namespace Mine
theorem strs_at {vs : List Value} {ss : List PySem.Str} (h : StrsAre vs ss) : ∀ {i : Nat} {v : Value}, vs[i]? = some v → ∃ x t, ss[i]? = some x ∧ v = .str x t := by
  induction h with
  | nil => intro i v e; simp at e
  | cons _ _ _ ih =>
    intro i v e
    cases i with
    | zero => simp at e; exact ⟨_, _, rfl, e.symm⟩
    | succ i => simp at e; simpa using ih e
theorem drop_nil {r : List Nat} {vs : List Value} (h : IntsAre vs (r.map fun j => ((j : Nat) : Int))) : vs.isEmpty = r.isEmpty := by
  cases r with
  | nil => cases h; rfl
  | cons a l => cases h; rfl
section
variable {prog : Program} {w : World} {p : Program} {loose : List Str} {mean : ExcName → Option Value} {mg mb : Str → Option Value}
    {dp un : Nat} {gd : Option (List Code)} {cn : Str} {cs : Scope} {a : Addr} {ccd : Value} {cl : List (Str × Addr)} {outer : List Env} {A₀ : Around} {base h₀ : Heap} {L : Addr} {m : Str → Option Value} {news : List (Addr × Obj)} {s : Shared}
    {Q E : Value → Shared → Prop}
local macro_rules | `(tactic| walk_at "pyIter ref") => `(tactic| refine halt ?_)
local macro_rules | `(tactic| walk_at "FPost") => `(tactic| dsimp only [FPost])
local macro_rules | `(tactic| walk_at "WPost") => `(tactic| dsimp only [WPost])
local macro_rules | `(tactic| walk_at "exec While Compare cons nil") => `(tactic| refine halt ?_)
local macro_rules | `(tactic| walk_at "compareOp NotEq ref ref") => `(tactic| refine halt ?_)
local macro_rules | `(tactic| walk_at "compareOp Eq ref ref") => `(tactic| refine halt ?_)
local macro_rules | `(tactic| walk_at "call builtin:len") => `(tactic| refine halt ?_)
local macro_rules | `(tactic| walk_at "call builtin:list.append") => `(tactic| refine halt ?_)
local macro_rules | `(tactic| walk_at "call builtin:list.pop") => `(tactic| refine halt ?_)
local macro_rules | `(tactic| walk_at "call ref") => `(tactic| refine halt ?_)
local macro_rules | `(tactic| walk_at "subscriptTail Name Name ref int") => `(tactic| refine halt ?_)
local macro_rules | `(tactic| walk_at "subscriptTail Name Constant ref int") => `(tactic| refine halt ?_)
local macro_rules | `(tactic| walk_at "CompSrc") => `(tactic| refine halt ?_)
local macro_rules | `(tactic| walk_at "eval ListComp") => `(tactic| (k_here; k_dflt (refine LCg.ListComp_U (F₀ := by k_asm) (by with_unfolding_all rfl) (by decide) (by rfl) (by decide) (by rfl) ?_)))
local macro_rules | `(tactic| k_mem) => `(tactic| first | assumption | exact List.Mem.head _ | (refine' List.mem_cons_of_mem _ ?_; k_mem))
local macro_rules | `(tactic| walk_at "exec For Name Call cons nil") => `(tactic| (k_here; (rename Fr _ _ _ _ => lF'); (with_unfolding_all refine' For_invVF lF' ?k1 ?k2 ?_; (case k1 => exact rfl); (case k2 => exact rfl); k_whole)))
local macro_rules | `(tactic| k_all) => `(tactic| first | exact List.forall_mem_nil _ | (refine' List.forall_mem_cons.mpr ⟨?a, ?b⟩; (case a => k_ne); (case b => k_all)) | exact allLt_ne (by assumption) | exact allLt_ne (And.right (by assumption)) | exact allLt_ne (And.right (And.right (by assumption))) | exact allLt_ne (And.right (And.right (And.right (by assumption)))) | (intro p9 hp9; (rename (∀ p : Addr × Obj, p ∈ _ → p.1 < _) => l9); (have e9 := ltN (l9 p9 hp9)); refine neN ?_; (try dsimp only at e9 ⊢); omega) | assumption)
set_option maxRecDepth 100000 in
set_option maxHeartbeats 8000000 in
theorem gathered_call {x dx H CL : Addr} {hs : Int} {tk0 : Tok} {nd n nc : Nat} {hv : List (Value × Nat × Nat)} {ps : List Nat} {cv : List Value} {cards : List Int}
    (B : Below A₀ base outer h₀) (F : Fr h₀ L s.heap m) (X : (hd.heap_39 w.params).In h₀) (N : News h₀ L s.heap news) (T : Top p loose mean mg mb h₀) (hk : cs.kind = .function)
    (hdp : dp + 30 < recursionLimit) (hun : un + 300 < cLine)
    (hx : (x, instObj 182 dx) ∈ news) (hdx : (dx, dictOf [DictEntry.mk hs (.str (Str.ofString "_headers") tk0) (.ref H)] nd) ∈ news) (hH : (H, W.listOf (hv.map (·.1)).toArray n) ∈ news)
    (hLd : Laid cards ps) (hpl : ps.length = cards.length) (hcd : hv.map (·.2) = codesOf ps) (hpr : ∀ y ∈ hv, PairIn news y.1 y.2.1 y.2.2)
    (hCL : (CL, W.listOf cv.toArray nc) ∈ news) (hcv : IntsAre cv cards) (hsz : cards.length ≤ 10)
    (hret : ∀ OU (outs : List (Value × Int × Int)) (tl : List (Addr × Obj)) no h' tk', (outs.map (·.2)).Perm ((List.range cards.length).map (key2 cards)) → (outs.map (·.2)).Pairwise le2 → (∀ o ∈ outs, TwoIn tl o.1 o.2) → (∀ p ∈ tl ++ news, p.1 ≠ OU) → Fr h₀ L h' m → News h₀ L h' ((OU, W.listOf (outs.map (·.1)).toArray no) :: (tl ++ news)) → Q (.ref OU) { s with heap := h', toks := tk' }) :
    wpAny (model prog w) (ktrTop dp un gd cn cs L a ccd cl outer) (call (.ref 247) [.ref x, .ref CL]) Q E s := by
  have hlen := hcv.length
  have h12 : ∀ q ∈ ps, q < 12 := fun q hq => Nat.lt_of_lt_of_le (hLd.lt q hq) (by omega)
  have hhv : hv.length = ps.length := by rw [← List.length_map (as := hv) (f := (·.2)), hcd, codesOf, List.length_map, List.length_zipIdx]
  have hprn : ∀ y ∈ hv, PairIn news y.1 y.2.1 y.2.2 ∧ okc y.2.1 = true := by
    intro y hy
    refine ⟨hpr y hy, ?_⟩
    have : y.2 ∈ codesOf ps := by rw [← hcd]; exact List.mem_map_of_mem hy
    obtain ⟨z, hz, e⟩ := List.mem_map.mp this
    rw [← e]
    exact okc_spc (h12 _ (List.mem_of_getElem? (List.mem_zipIdx_iff_getElem?.mp hz)))
  refine wpAny_call ?_
  k_dflt ktr_enter
  k_steps
  rename_i RA hA lRA hB FB NB hC tkC tC uC vC hR9 F9 N9 kp9
  refine unhalt ?_
  refine for_range (σ := List Row × Nat) (n := 12) (fun c => (RA, W.listOf (rowRefs c.1).toArray c.2) :: (rowsLed c.1 ++ news)) (fun c => [(Str.ofString "table", .ref x), (Str.ofString "cards", .ref CL), (Str.ofString "rows", .ref RA)])
    (fun i c => rowsOk c.1 ∧ c.1.map (·.2.2.2) = (List.range i).map (fun i => idxs ps (11 - i)) ∧ Sep RA c.1 news) ([], 0) rfl hR9 (by decide) (by decide) F9 N9 (fun _ h => h) ?_ ?_ ?_ ?_
  · repeat' (first | exact List.forall_mem_nil _ | refine List.forall_mem_cons.mpr ⟨?_, ?_⟩)
    all_goals rfl
  · exact ⟨fun _ h => (nomatch h), rfl, fun q hq => Nat.ne_of_lt (lRA q hq), fun _ h => (nomatch h), .nil, fun _ _ _ h => (nomatch h)⟩
  · rintro i t ⟨rows, n1⟩ u h tk own hi ⟨hro, hrr, hsep⟩ hown F1 N1
    dsimp only [kstB] at hro hrr hsep hown F1 N1 ⊢
    have hrl : rows.length = i := by have := congrArg List.length hrr; simpa using this
    rw [show (11 : Int) + (i : Int) * -1 = ((11 - i : Nat) : Int) from by omega] at F1
    have hin : ∀ q ∈ news, q ∈ (RA, W.listOf (rowRefs rows).toArray n1) :: (rowsLed rows ++ news) ++ own := fun q hq => List.mem_append_left _ (List.mem_cons_of_mem _ (List.mem_append_right _ hq))
    have hRAm : (RA, W.listOf (rowRefs rows).toArray n1) ∈ (RA, W.listOf (rowRefs rows).toArray n1) :: (rowsLed rows ++ news) ++ own := List.mem_append_left _ (.head _)
    have hback : ∀ q ∈ (RA, W.listOf (rowRefs rows).toArray n1) :: (rowsLed rows ++ news) ++ own, q = (RA, W.listOf (rowRefs rows).toArray n1) ∨ q ∈ rowsLed rows ++ news ∨ q ∈ own := by
      intro q hq
      simp only [List.cons_append, List.mem_cons, List.mem_append] at hq ⊢
      exact hq.imp id fun h => h
    have hrest : ∀ q ∈ rowsLed rows ++ news ++ own, q ∈ (RA, W.listOf (rowRefs rows).toArray n1) :: (rowsLed rows ++ news) ++ own := fun q hq => List.mem_cons_of_mem _ hq
    generalize (RA, W.listOf (rowRefs rows).toArray n1) :: (rowsLed rows ++ news) ++ own = nw at N1 hin hRAm hback hrest
    have hx1 := hin _ hx
    have hdx1 := hin _ hdx
    have hH1 := hin _ hH
    have hprn1 : ∀ y ∈ hv, PairIn nw y.1 y.2.1 y.2.2 ∧ okc y.2.1 = true := fun y hy => ⟨(hprn y hy).1.mono hin, (hprn y hy).2⟩
    k_steps
    refine unhalt ?_
    refine spelled_call (k := 11 - i) (q := 1) (by k_asm) (by k_asm) (by k_asm) (by k_asm) (by k_asm) rfl (by ktr_room) (by ktr_units) rfl rfl (by omega) ?_
    intro t2 h2 tk2 F2 N2
    k_steps
    refine unhalt ?_
    refine getall_call (hv := hv) (x := x) (dx := dx) (H := H) (news := nw) (by k_asm) (by k_asm) (by k_asm) (by k_asm) (by k_asm) rfl (by ktr_room) (by ktr_units) hx1 hdx1 hH1 (okc_spc (by omega)) hprn1 (by omega) ?_
    intro D rs nr h3 tk3 F3 N3 hnD hrs
    rw [row_of hcd h12 (lo_spc (k := 11 - i) (by omega))] at hrs
    have hlr := strs_len hrs
    have hil : (idxs ps (11 - i)).length ≤ 1000 := by
      unfold idxs
      rw [List.length_map]
      exact Nat.le_trans (List.length_filter_le _ _) (by rw [List.length_zipIdx]; omega)
    rw [List.length_map] at hlr
    k_steps
    refine unhalt ?_
    refine LCg.CompSrc.ledger rfl F3 N3 (.head _) (by rw [sizeLine_eq]; simp; omega) ?_
    intro g9
    refine comp_N (fun j ys nw' => nw' = _ ∧ ys.length ≤ j ∧ IntsAre ys (((idxs ps (11 - i)).take j).map fun j => ((j : Nat) : Int))) ⟨rfl, Nat.le_refl _, .nil⟩ ?_ ?_
    · rintro j v I oI C oC2 D' m₂ ys nw' h4 tk4 E' hj hPv ⟨rfl, hyl, hys⟩ hC hx2 F4 N4 off ne
      rw [List.getElem?_toArray] at hPv
      obtain ⟨j', tj, hj', rfl⟩ : ∃ j' tj, (idxs ps (11 - i))[j]? = some j' ∧ v = .str ⟨#[48 + j']⟩ tj := by
        obtain ⟨sx, tj, h1, h2⟩ := strs_at hrs hPv
        rw [List.getElem?_map] at h1
        cases e : (idxs ps (11 - i))[j]? with
        | none => rw [e] at h1; cases h1
        | some j' => rw [e] at h1; cases h1; exact ⟨j', tj, rfl, h2⟩
      have hj10 : j' < 10 := by
        have := (List.getElem?_eq_some_iff.mp (idxs_mem.mp (List.mem_of_getElem? hj'))).1
        omega
      k_steps
      refine KIN.call_text (int_is hj10).1 (by show 1 ≤ 640; decide) ?_
      refine LCg.CompEnd.intro F4 N4 _ (fun _ h => h) off (.inr ⟨_, .head _, rfl, _, rfl⟩) ⟨rfl, ?_, ?_⟩
      · simp; omega
      · rw [List.take_add_one, hj', List.map_append]
        exact ksk_snoc hys
    · rintro ys nw' ⟨rfl, hyl, hys⟩
      k_steps
      rename Fr _ _ _ _ => F7
      rename News _ _ _ _ => N7
      rename (_ ≠ _ ∧ LCg.Off1 _ nw) => o7
      rename_i D7 h7 tk7
      rw [List.take_of_length_le (by simp; omega)] at hys
      have o8 := off1_mem o7.2
      refine unhalt ?_
      refine list_append (vs := rowRefs rows) (n := n1) (rest := (D7, LCg.lst ys) :: (rowsLed rows ++ news ++ own)) F7 (fun q hq => N7 q ?_) ?_ (by simp [rowRefs]; omega) ?_
      · rcases List.mem_cons.mp hq with rfl | hq
        · exact .tail _ (.tail _ hRAm)
        · rcases List.mem_cons.mp hq with rfl | hq
          · exact .head _
          · exact .tail _ (.tail _ (hrest q hq))
      · intro q hq
        rcases List.mem_cons.mp hq with rfl | hq
        · exact Ne.symm (o8 _ hRAm)
        · rcases List.mem_append.mp hq with hq | hq
          · rcases List.mem_append.mp hq with hq | hq
            · obtain ⟨r, hr, rfl⟩ := List.mem_map.mp hq
              exact hsep.2.1 r hr
            · exact hsep.1 q hq
          · exact hown q hq _ (.head _)
      · intro n6 h6 F6 N6
        k_steps
        refine FEnd.intro (rows ++ [(D7, ys, ys.length, idxs ps (11 - i))], n6) F6 N6 ?_ ?_ ?_ ?_ ⟨?_, ?_, ?_⟩
        · intro q hq
          dsimp only at hq
          rw [rowRefs_snoc, rowsLed_snoc] at hq
          simp only [List.mem_cons, List.mem_append, List.not_mem_nil, or_false] at hq ⊢
          rcases hq with h | (h | h) | h
          · exact .inl h
          · exact .inr (.inr (.inl (.inl h)))
          · exact .inr (.inl h)
          · exact .inr (.inr (.inl (.inr h)))
        · intro q hq
          simp only [List.mem_cons, List.mem_append]
          exact .inr (.inr (.inr hq))
        · intro q hq r hr
          dsimp only at hr
          rw [rowsLed_snoc] at hr
          simp only [List.mem_cons, List.mem_append, List.not_mem_nil, or_false] at hr
          rcases hr with rfl | (h | rfl) | h
          · exact hown q hq (RA, W.listOf (rowRefs rows).toArray n1) (.head _)
          · exact hown q hq r (.tail _ (List.mem_append_left _ h))
          · exact o8 q (hrest q (List.mem_append_right _ hq))
          · exact hown q hq r (.tail _ (List.mem_append_right _ h))
        · repeat' (first | exact List.forall_mem_nil _ | refine List.forall_mem_cons.mpr ⟨?_, ?_⟩)
          all_goals rfl
        · intro r hr
          rcases List.mem_append.mp hr with hr | hr
          · exact hro r hr
          · rw [List.mem_singleton.mp hr]; exact hys
        · dsimp only
          rw [List.map_append, hrr, List.range_succ, List.map_append]; rfl
        · refine hsep.snoc (Ne.symm (o8 _ hRAm)) (fun q hq => ?_) (fun q hq => o8 q (hin q hq))
          exact o8 _ (hrest _ (List.mem_append_left _ (List.mem_append_left _ (led_mem hq))))
  · rintro ⟨rows0, n1⟩ u h tk ⟨hro0, hrr0, hsep0⟩ F1 N1
    dsimp only [kstB] at hro0 hrr0 hsep0 F1 N1 ⊢
    have hrl0 : rows0.length = 12 := by have := congrArg List.length hrr0; simpa using this
    have hI0 := Inv.init hLd hpl hsz
    rw [← hrr0] at hI0
    k_steps
    refine unhalt ?_
    refine list_len (k := 12) (by k_asm) (List.mem_cons_of_mem _ (.head _)) (by simp [rowRefs, hrl0]) (by omega) ?_
    k_steps
    rename_i HP hP FP NP lHP hP2 FP2 NP2 hP3 tkP tP uP vP hR8 F8 N8 kp8
    clear kp8 FP NP FP2 NP2
    have lHP1 := allLt_ne lHP.2
    refine unhalt ?_
    refine for_range (σ := List Row × List Item × List (Addr × Obj) × Nat) (n := 12) (fun c => (HP, W.listOf (c.2.1.map (·.1)).toArray c.2.2.2) :: (RA, W.listOf (rowRefs c.1).toArray n1) :: (rowsLed c.1 ++ (c.2.2.1 ++ news)))
      (fun c => [(Str.ofString "table", .ref x), (Str.ofString "cards", .ref CL), (Str.ofString "rows", .ref RA), (Str.ofString "heap", .ref HP)])
      (fun i c => rowsOk c.1 ∧ Inv cards i (c.1.map (·.2.2.2)) c.2.1 [] ∧ Sep RA c.1 (c.2.2.1 ++ news) ∧ Apart HP RA c.1 (c.2.2.1 ++ news) ∧ ∀ y ∈ c.2.1, TupIn c.2.2.1 y.1 y.2) (rows0, [], [], 0) rfl hR8 (by decide) (by decide) F8 N8 (fun _ h => h) ?_ ?_ ?_ ?_
    · repeat' (first | exact List.forall_mem_nil _ | refine List.forall_mem_cons.mpr ⟨?_, ?_⟩)
      all_goals rfl
    · refine ⟨hro0, hI0, hsep0, ⟨Nat.ne_of_lt lHP.1, fun r hr => ?_, fun q hq => ?_⟩, fun _ h => (nomatch h)⟩
      · exact lHP1 _ (List.mem_append_left _ (led_mem hr))
      · exact lHP1 _ (List.mem_append_right _ hq)
    · rintro i t ⟨rows, l, tl, nh⟩ u h tk own hi ⟨hro, hI, hsep, hap, htl⟩ hown F1 N1
      dsimp only [kstB] at hro hI hsep hap htl hown F1 N1 ⊢
      rw [show (0 : Int) + (i : Int) * 1 = ((i : Nat) : Int) from by omega] at F1
      have hrl : rows.length = 12 := by have := hI.len; simpa using this
      obtain ⟨r, hr⟩ : ∃ r, rows[i]? = some r := ⟨_, List.getElem?_eq_getElem (by omega)⟩
      have hrm := List.mem_of_getElem? hr
      have hrr : (rows.map (·.2.2.2))[i]? = some r.2.2.2 := by rw [List.getElem?_map, hr]; rfl
      have hri := hro r hrm
      have hrlen := hri.length
      have hl2 : r.2.2.2.length ≤ 10 := by
        have h1 := hI.size
        have h2 := mem_len (List.mem_of_getElem? hrr)
        omega
      have hnw : ∀ q, q ∈ (HP, W.listOf (l.map (·.1)).toArray nh) :: (RA, W.listOf (rowRefs rows).toArray n1) :: (rowsLed rows ++ (tl ++ news)) ++ own ↔ q = (HP, W.listOf (l.map (·.1)).toArray nh) ∨ q = (RA, W.listOf (rowRefs rows).toArray n1) ∨ q ∈ rowsLed rows ∨ q ∈ tl ++ news ∨ q ∈ own := by
        intro q
        simp only [List.cons_append, List.mem_cons, List.mem_append, or_assoc]
      generalize (HP, W.listOf (l.map (·.1)).toArray nh) :: (RA, W.listOf (rowRefs rows).toArray n1) :: (rowsLed rows ++ (tl ++ news)) ++ own = nw at N1 hnw
      have hHPm := (hnw _).mpr (.inl rfl)
      have hRAm := (hnw _).mpr (.inr (.inl rfl))
      have hram := (hnw _).mpr (.inr (.inr (.inl (led_mem hrm))))
      have hCL1 := (hnw _).mpr (.inr (.inr (.inr (.inl (List.mem_append_right tl hCL)))))
      k_steps
      refine unhalt ?_
      refine row_get (by k_asm) hRAm rfl hr (by omega) ?_
      k_steps
      refine unhalt ?_
      refine list_ne_nil (vs := r.2.1) (by k_asm) (List.mem_cons_of_mem _ hram) (.head _) (by ktr_units) ?_
      rcases List.eq_nil_or_concat r.2.2.2 with hz | ⟨r', j, hz⟩
      · rw [show (!r.2.1.isEmpty) = false from by rw [drop_nil hri, hz]; rfl]
        k_steps
        rename Fr _ _ _ _ => F7
        rename News _ _ _ _ => N7
        refine FEnd.intro (rows, l, tl, nh) F7 N7 (fun q hq => ?_) (fun q hq => ?_) hown ?_ ⟨hro, hI.skip (by rw [hrr, hz]), hsep, hap, htl⟩
        · refine List.mem_cons_of_mem _ ((hnw q).mpr ?_)
          simp only [List.mem_cons, List.mem_append] at hq ⊢
          exact hq.imp id fun h => h.imp id fun h => h.imp id .inl
        · exact List.mem_cons_of_mem _ ((hnw q).mpr (.inr (.inr (.inr (.inr hq)))))
        · repeat' (first | exact List.forall_mem_nil _ | refine List.forall_mem_cons.mpr ⟨?_, ?_⟩)
          all_goals rfl
      · rw [List.concat_eq_append] at hz
        rw [show (!r.2.1.isEmpty) = true from by rw [drop_nil hri, hz]; cases r' <;> rfl]
        k_steps
        refine unhalt ?_
        refine row_get (by k_asm) (List.mem_cons_of_mem _ hRAm) rfl hr (by omega) ?_
        k_steps
        obtain ⟨vs', tj, hvs, hvi⟩ := ints_snoc_inv (by rw [hz, List.map_append] at hri; exact hri)
        have hvl : vs'.length ≤ 1000 := by have := congrArg List.length hvs; simp only [List.length_append, List.length_cons, List.length_nil] at this; rw [List.length_map] at hrlen; omega
        rename Fr _ _ _ _ => F7
        rename News _ _ _ _ => N7
        have hjb : j < cards.length := hI.bnd _ (List.mem_of_getElem? hrr) j (by rw [hz]; simp)
        refine unhalt ?_
        refine row_pop (vs := vs') (v := .int (j : Int) tj) (n := r.2.2.1) F7 N7 (by rw [← hvs]; exact List.mem_cons_of_mem _ hram) hvl ?_
        intro h5 F5 N5
        have N6 := N5 ((HP, W.listOf (l.map (·.1)).toArray nh) :: (RA, W.listOf (rowRefs (rows.set i (r.1, vs', r.2.2.1 + 1, r'))).toArray n1) :: (rowsLed (rows.set i (r.1, vs', r.2.2.1 + 1, r')) ++ (tl ++ news)) ++ own) (by
          intro q hq
          rw [List.cons_append] at hq
          rcases List.mem_cons.mp hq with rfl | hq
          · exact .inr ⟨List.mem_cons_of_mem _ hHPm, Ne.symm (hap.2.1 r hrm)⟩
          · rcases List.mem_append.mp hq with hq | hq
            · rcases led_pop hsep hr (r1 := (r.1, vs', r.2.2.1 + 1, r')) rfl q hq with h | ⟨h1, h2⟩
              · exact .inl h
              · refine .inr ⟨List.mem_cons_of_mem _ ((hnw q).mpr (.inr ?_)), h2⟩
                simp only [List.mem_cons, List.mem_append] at h1 ⊢
                exact h1.imp id fun h => h.imp id .inl
            · exact .inr ⟨List.mem_cons_of_mem _ ((hnw q).mpr (.inr (.inr (.inr (.inr hq))))), hown q hq (r.1, W.listOf r.2.1.toArray r.2.2.1) (.tail _ (.tail _ (List.mem_append_left _ (led_mem hrm))))⟩)
        have hCL2 : (CL, W.listOf cv.toArray nc) ∈ (HP, W.listOf (l.map (·.1)).toArray nh) :: (RA, W.listOf (rowRefs (rows.set i (r.1, vs', r.2.2.1 + 1, r'))).toArray n1) :: (rowsLed (rows.set i (r.1, vs', r.2.2.1 + 1, r')) ++ (tl ++ news)) ++ own := List.mem_append_left _ (.tail _ (.tail _ (List.mem_append_right _ (List.mem_append_right _ hCL))))
        have hHP2 : (HP, W.listOf (l.map (·.1)).toArray nh) ∈ (HP, W.listOf (l.map (·.1)).toArray nh) :: (RA, W.listOf (rowRefs (rows.set i (r.1, vs', r.2.2.1 + 1, r'))).toArray n1) :: (rowsLed (rows.set i (r.1, vs', r.2.2.1 + 1, r')) ++ (tl ++ news)) ++ own := .head _
        clear N5 hnw N7 hHPm hRAm hram hCL1
        have hso := set_addrs hr (r1 := (r.1, vs', r.2.2.1 + 1, r')) rfl
        generalize hnw : (HP, W.listOf (l.map (·.1)).toArray nh) :: (RA, W.listOf (rowRefs (rows.set i (r.1, vs', r.2.2.1 + 1, r'))).toArray n1) :: (rowsLed (rows.set i (r.1, vs', r.2.2.1 + 1, r')) ++ (tl ++ news)) ++ own = nw2 at N6 hCL2 hHP2
        k_steps
        refine unhalt ?_
        refine ints_sub (ns := cards) (j := j) (by k_asm) hCL2 hcv rfl hjb (by omega) ?_
        intro tc
        k_steps
        rename Fr _ _ _ _ => F7
        rename News _ _ _ _ => N7
        rename (∀ p : Addr × Obj, p ∈ nw2 → p.1 < _) => lD
        rename_i h7a D7 h7
        obtain ⟨ob, N8, htup⟩ := tup_head N7
        clear N7
        have hnw2 : ∀ q, q ∈ nw2 ↔ q = (HP, W.listOf (l.map (·.1)).toArray nh) ∨ q = (RA, W.listOf (rowRefs (rows.set i (r.1, vs', r.2.2.1 + 1, r'))).toArray n1) ∨ q ∈ rowsLed (rows.set i (r.1, vs', r.2.2.1 + 1, r')) ∨ q ∈ tl ++ news ∨ q ∈ own := by
          intro q
          rw [← hnw]
          simp only [List.cons_append, List.mem_cons, List.mem_append, or_assoc]
        have hsep2 := hsep.congr hso
        have hap2 := hap.congr hso
        have lHPD : HP ≠ D7 := Nat.ne_of_lt (lD _ hHP2)
        have lRAD : RA ≠ D7 := Nat.ne_of_lt (lD _ ((hnw2 _).mpr (.inr (.inl rfl))))
        have lrD : ∀ q ∈ (rows.set i (r.1, vs', r.2.2.1 + 1, r')), q.1 ≠ D7 := fun q hq => Nat.ne_of_lt (lD _ ((hnw2 _).mpr (.inr (.inr (.inl (led_mem hq))))))
        have hllen : l.length ≤ 10 := by have := hI.size; omega
        generalize hR1 : (rows.set i (r.1, vs', r.2.2.1 + 1, r')) = R1 at *
        refine unhalt ?_
        refine list_append (vs := l.map (·.1)) (n := nh) (rest := (D7, ob) :: (RA, W.listOf (rowRefs R1).toArray n1) :: (rowsLed R1 ++ (tl ++ news) ++ own)) F7 (fun q hq => N8 q ?_) ?_ (by simp; omega) ?_
        · rcases List.mem_cons.mp hq with rfl | hq
          · exact List.mem_cons_of_mem _ hHP2
          · rcases List.mem_cons.mp hq with rfl | hq
            · exact .head _
            · refine List.mem_cons_of_mem _ ((hnw2 q).mpr (.inr ?_))
              simp only [List.mem_cons, List.mem_append] at hq ⊢
              rcases hq with h | (h | h) | h
              · exact .inl h
              · exact .inr (.inl h)
              · exact .inr (.inr (.inl h))
              · exact .inr (.inr (.inr h))
        · intro q hq
          rcases List.mem_cons.mp hq with rfl | hq
          · exact Ne.symm lHPD
          · rcases List.mem_cons.mp hq with rfl | hq
            · exact hap2.1
            · rcases List.mem_append.mp hq with hq | hq
              · rcases List.mem_append.mp hq with hq | hq
                · obtain ⟨z, hz, rfl⟩ := List.mem_map.mp hq
                  exact hap2.2.1 z hz
                · exact hap2.2.2 q hq
              · exact hown q hq _ (.head _)
        · intro n6 h6 F6 N6
          k_steps
          refine FEnd.intro (R1, l ++ [(.ref D7, key3 cards j i)], (D7, ob) :: tl, n6) F6 N6 (fun q hq => ?_) (fun q hq => ?_) ?_ ?_ ⟨?_, ?_, ?_, ?_, ?_⟩
          · dsimp only at hq
            rw [List.map_append] at hq
            simp only [List.mem_cons, List.mem_append, List.cons_append] at hq ⊢
            rcases hq with h | h | h | h | h | h
            · exact .inl h
            · exact .inr (.inr (.inl h))
            · exact .inr (.inr (.inr (.inl (.inl h))))
            · exact .inr (.inl h)
            · exact .inr (.inr (.inr (.inl (.inr (.inl h)))))
            · exact .inr (.inr (.inr (.inl (.inr (.inr h)))))
          · simp only [List.mem_cons, List.mem_append]
            exact .inr (.inr (.inr (.inr hq)))
          · intro q hq z hz
            dsimp only at hz
            rcases List.mem_cons.mp hz with rfl | hz
            · exact hown q hq (HP, W.listOf (l.map (·.1)).toArray nh) (.head _)
            · have hqD : q.1 ≠ D7 := Nat.ne_of_lt (lD q ((hnw2 q).mpr (.inr (.inr (.inr (.inr hq))))))
              rcases List.mem_cons.mp hz with rfl | hz
              · exact hown q hq (RA, W.listOf (rowRefs rows).toArray n1) (.tail _ (.head _))
              · rcases List.mem_append.mp hz with hz | hz
                · rw [← hR1] at hz
                  rcases set_led hsep hr (r1 := (r.1, vs', r.2.2.1 + 1, r')) rfl z hz with rfl | ⟨h1, h2⟩
                  · exact hown q hq (r.1, W.listOf r.2.1.toArray r.2.2.1) (.tail _ (.tail _ (List.mem_append_left _ (led_mem hrm))))
                  · exact hown q hq z (.tail _ (.tail _ (List.mem_append_left _ h1)))
                · rcases List.mem_cons.mp hz with rfl | hz
                  · exact hqD
                  · exact hown q hq z (.tail _ (.tail _ (List.mem_append_right _ hz)))
          · repeat' (first | exact List.forall_mem_nil _ | refine List.forall_mem_cons.mpr ⟨?_, ?_⟩)
            all_goals rfl
          · rw [← hR1]; exact hro.set hvi
          · have := hI.deal (v := .ref D7) (by rw [hrr, hz])
            rw [← hR1]
            dsimp only
            rw [List.map_set]
            exact this
          · exact hsep2.more (Ne.symm lRAD) fun q hq => Ne.symm (lrD q hq)
          · exact hap2.more (Ne.symm lHPD)
          · intro y hy
            rcases List.mem_append.mp hy with hy | hy
            · exact (htl y hy).mono fun q hq => List.mem_cons_of_mem _ hq
            · rw [List.mem_singleton.mp hy]
              exact htup.mono fun q hq => by rw [List.mem_singleton.mp hq]; exact .head _
    · rintro ⟨rows1, l1, tl1, nh1⟩ u h tk ⟨hro1, hI1, hsep1, hap1, htl1⟩ F1 N1
      dsimp only [kstB] at hro1 hI1 hsep1 hap1 htl1 F1 N1 ⊢
      have hs1 := hI1.size
      k_steps
      refine unhalt ?_
      refine heapify_call (H := HP) (l := l1) (n := nh1) (rest := (RA, W.listOf (rowRefs rows1).toArray n1) :: (rowsLed rows1 ++ (tl1 ++ news))) (by k_asm) (by k_asm) (by k_asm) (by k_asm) (by k_asm) rfl (by ktr_room) (by ktr_units) ?_ ?_ (by omega) ?_
      · intro q hq
        rcases List.mem_cons.mp hq with rfl | hq
        · exact hap1.1
        · rcases List.mem_append.mp hq with hq | hq
          · obtain ⟨z, hz, rfl⟩ := List.mem_map.mp hq
            exact hap1.2.1 z hz
          · exact hap1.2.2 q hq
      · exact fun y hy => (htl1 y hy).mono fun q hq => .tail _ (List.mem_append_right _ (List.mem_append_left _ hq))
      intro nh2 h2 tk2 F2 N2
      have hI2 := hI1.perm (heapify_perm l1 (List.range (l1.length / 2)).reverse (lt := ltI))
      have hH2 := heapify_ok ltI_ok l1
      have htl2 : ∀ y ∈ (List.range (l1.length / 2)).reverse.foldl (sup ltI) l1, TupIn tl1 y.1 y.2 := fun y hy => htl1 y ((heapify_perm l1 _).mem_iff.mp hy)
      generalize (List.range (l1.length / 2)).reverse.foldl (sup ltI) l1 = l2 at N2 hI2 hH2 htl2
      k_steps
      rename Fr _ _ _ _ => F3
      rename News _ _ _ _ => N3
      rename_i OU hO lOU hO2
      have lOU1 := allLt_ne lOU.2.2
      have hHPOU : HP ≠ OU := Nat.ne_of_lt lOU.1
      refine unhalt ?_
      refine while_st (σ := List Row × List Item × List (Addr × Obj) × Nat × List (Value × Int × Int) × Nat)
        (fun c => (HP, W.listOf (c.2.1.map (·.1)).toArray c.2.2.2.1) :: (OU, W.listOf (c.2.2.2.2.1.map (·.1)).toArray c.2.2.2.2.2) :: (RA, W.listOf (rowRefs c.1).toArray n1) :: (rowsLed c.1 ++ (c.2.2.1 ++ news)))
        (fun c => [(Str.ofString "table", .ref x), (Str.ofString "cards", .ref CL), (Str.ofString "rows", .ref RA), (Str.ofString "heap", .ref HP), (Str.ofString "out", .ref OU)])
        (fun c => rowsOk c.1 ∧ Inv cards 12 (c.1.map (·.2.2.2)) c.2.1 (c.2.2.2.2.1.map (·.2)) ∧ HeapFrom ltI 0 c.2.1 ∧ Sep RA c.1 (c.2.2.1 ++ news) ∧ Apart HP RA c.1 (c.2.2.1 ++ news) ∧ Apart OU RA c.1 (c.2.2.1 ++ news) ∧ (∀ y ∈ c.2.1, TupIn c.2.2.1 y.1 y.2) ∧ ∀ o ∈ c.2.2.2.2.1, TwoIn c.2.2.1 o.1 o.2)
        (fun c => cards.length - c.2.2.2.2.1.length) (rows1, l2, tl1, nh2, [], 0) F3 N3 ?_ ?_ ?_ ?_
      · intro q hq
        simp only [List.mem_cons] at hq ⊢
        rcases hq with h | h | h | h
        · exact .inr (.inl h)
        · exact .inl h
        · exact .inr (.inr (.inl h))
        · exact .inr (.inr (.inr h))
      · repeat' (first | exact List.forall_mem_nil _ | refine List.forall_mem_cons.mpr ⟨?_, ?_⟩)
        all_goals rfl
      · refine ⟨hro1, hI2, hH2, hsep1, hap1, ⟨Nat.ne_of_lt lOU.2.1, fun r hr => ?_, fun q hq => ?_⟩, htl2, fun _ h => (nomatch h)⟩
        · exact lOU1 _ (List.mem_append_left _ (led_mem hr))
        · exact lOU1 _ (List.mem_append_right _ hq)
      rintro ⟨rows, l, tl, nh, outs, no⟩ u h tk ⟨hro, hI, hHf, hsep, hap, hao, htl, hto⟩ F1 N1
      dsimp only [kstB] at hro hI hHf hsep hap hao htl hto F1 N1 ⊢
      have hsz2 := hI.size
      have hll : l.length ≤ 10 := by omega
      have hrl : rows.length = 12 := by have := hI.len; simpa using this
      have hnw : ∀ q, q ∈ (HP, W.listOf (l.map (·.1)).toArray nh) :: (OU, W.listOf (outs.map (·.1)).toArray no) :: (RA, W.listOf (rowRefs rows).toArray n1) :: (rowsLed rows ++ (tl ++ news)) ↔ q = (HP, W.listOf (l.map (·.1)).toArray nh) ∨ q = (OU, W.listOf (outs.map (·.1)).toArray no) ∨ q = (RA, W.listOf (rowRefs rows).toArray n1) ∨ q ∈ rowsLed rows ∨ q ∈ tl ++ news := by
        intro q
        simp only [List.mem_cons, List.mem_append]
      generalize (HP, W.listOf (l.map (·.1)).toArray nh) :: (OU, W.listOf (outs.map (·.1)).toArray no) :: (RA, W.listOf (rowRefs rows).toArray n1) :: (rowsLed rows ++ (tl ++ news)) = nw at N1 hnw
      have hHPm := (hnw _).mpr (.inl rfl)
      have hOUm := (hnw _).mpr (.inr (.inl rfl))
      have hRAm := (hnw _).mpr (.inr (.inr (.inl rfl)))
      have hCL1 := (hnw _).mpr (.inr (.inr (.inr (.inr (List.mem_append_right tl hCL)))))
      k_steps
      refine unhalt ?_
      refine list_ne_nil (vs := l.map (·.1)) (by k_asm) (List.mem_cons_of_mem _ hHPm) (.head _) (by ktr_units) ?_
      rcases l with _ | ⟨x0, l0⟩
      · rw [show (!(List.map (·.1) ([] : List Item)).isEmpty) = false from rfl]
        k_steps
        rename Fr h₀ _ _ _ => F7
        rename News h₀ _ _ _ => N7
        obtain ⟨hp1, hp2⟩ := hI.fin
        refine hret OU outs tl no _ _ hp1 hp2 hto hao.2.2 F7 (news_sub N7 _ fun q hq => List.mem_cons_of_mem _ ((hnw q).mpr ?_))
        rcases List.mem_cons.mp hq with h | h
        · exact .inr (.inl h)
        · exact .inr (.inr (.inr (.inr h)))
      · rw [show (!(List.map (·.1) (x0 :: l0)).isEmpty) = true from rfl]
        obtain ⟨j, k, hx0, hk12, hjc, hrow⟩ := hI.tops x0 (.head _)
        obtain ⟨a0, t1, t2, t3, n0, hx0a, ha0⟩ := htl x0 (.head _)
        rw [hx0] at ha0
        dsimp only [key3] at ha0
        have ha1 := (hnw _).mpr (.inr (.inr (.inr (.inr (List.mem_append_left news ha0)))))
        obtain ⟨r, hr⟩ : ∃ r, rows[k]? = some r := ⟨_, List.getElem?_eq_getElem (by omega)⟩
        have hrm := List.mem_of_getElem? hr
        have hrr : (rows.map (·.2.2.2))[k]? = some r.2.2.2 := by rw [List.getElem?_map, hr]; rfl
        have hri := hro r hrm
        have hrlen := hri.length
        have hl2 : r.2.2.2.length ≤ 10 := by
          have h2 := mem_len (List.mem_of_getElem? hrr)
          omega
        have hram := (hnw _).mpr (.inr (.inr (.inr (.inl (led_mem hrm)))))
        k_steps
        refine unhalt ?_
        refine item_get (l := x0 :: l0) (k := 0) (by k_asm) (List.mem_cons_of_mem _ hHPm) rfl rfl (by omega) ?_
        rw [hx0a]
        k_steps
        refine unhalt ?_
        refine row_get (by k_asm) (List.mem_cons_of_mem _ hRAm) rfl hr (by omega) ?_
        k_steps
        refine unhalt ?_
        refine list_eq_nil (vs := r.2.1) (by k_asm) (List.mem_cons_of_mem _ (List.mem_cons_of_mem _ hram)) (.head _) (by ktr_units) ?_
        rename Fr _ _ _ _ => F8
        rename News _ _ _ _ => N8
        rcases List.eq_nil_or_concat r.2.2.2 with hz | ⟨r', j1, hz⟩
        · rw [show r.2.1.isEmpty = true from by rw [drop_nil hri, hz]; rfl]
          have N9 := news_sub N8 nw (fun q hq => List.mem_cons_of_mem _ (List.mem_cons_of_mem _ hq))
          clear N8
          k_steps
          rename News _ _ _ _ => N8
          obtain ⟨lp, z, hlz⟩ : ∃ lp z, x0 :: l0 = lp ++ [z] := by
            rcases List.eq_nil_or_concat (x0 :: l0) with h | ⟨lp, z, h⟩
            · cases h
            · exact ⟨lp, z, by rw [h, List.concat_eq_append]⟩
          have hpt : popTop lp z = x0 := by
            cases lp with
            | nil => cases hlz; rfl
            | cons y lp => cases hlz; rfl
          rw [hlz] at hI hHf htl hnw hHPm
          have hp3 := hI.pop hHf (by rw [hpt]; exact hx0) (by rw [hrr, hz])
          obtain ⟨hI3, hHf3⟩ := hp3
          have hpm : ∀ y ∈ popRest lp z, y ∈ lp ++ [z] := fun y hy => popRest_mem hy
          refine unhalt ?_
          refine heappop_call (H := HP) (l := lp) (z := z) (n := nh) (rest := (OU, W.listOf (outs.map (·.1)).toArray no) :: (RA, W.listOf (rowRefs rows).toArray n1) :: (rowsLed rows ++ (tl ++ news))) (by k_asm) (by k_asm) (by k_asm) (news_sub N8 _ (fun q hq => (hnw q).mpr ?_)) (by k_asm) rfl (by ktr_room) (by ktr_units) ?_ ?_ (by have := congrArg List.length hlz; simp only [List.length_append, List.length_cons, List.length_nil] at this hll; omega) ?_
          · simp only [List.mem_cons, List.mem_append] at hq ⊢
            exact hq
          · intro q hq
            rcases List.mem_cons.mp hq with rfl | hq
            · exact Ne.symm hHPOU
            · rcases List.mem_cons.mp hq with rfl | hq
              · exact hap.1
              · rcases List.mem_append.mp hq with hq | hq
                · obtain ⟨z, hz, rfl⟩ := List.mem_map.mp hq
                  exact hap.2.1 z hz
                · exact hap.2.2 q hq
          · exact fun y hy => (htl y hy).mono fun q hq => .tail _ (.tail _ (List.mem_append_right _ (List.mem_append_left _ hq)))
          intro nh3 h3 tk3 F9 N9
          rw [hpt, hx0a]
          have htl3 : ∀ y ∈ popRest lp z, TupIn tl y.1 y.2 := fun y hy => htl y (hpm y hy)
          generalize popRest lp z = l3 at N9 hI3 hHf3 htl3
          have hnw3 : ∀ q, q ∈ (HP, W.listOf (l3.map (·.1)).toArray nh3) :: (OU, W.listOf (outs.map (·.1)).toArray no) :: (RA, W.listOf (rowRefs rows).toArray n1) :: (rowsLed rows ++ (tl ++ news)) ↔ q = (HP, W.listOf (l3.map (·.1)).toArray nh3) ∨ q = (OU, W.listOf (outs.map (·.1)).toArray no) ∨ q = (RA, W.listOf (rowRefs rows).toArray n1) ∨ q ∈ rowsLed rows ∨ q ∈ tl ++ news := by
            intro q
            simp only [List.mem_cons, List.mem_append]
          generalize (HP, W.listOf (l3.map (·.1)).toArray nh3) :: (OU, W.listOf (outs.map (·.1)).toArray no) :: (RA, W.listOf (rowRefs rows).toArray n1) :: (rowsLed rows ++ (tl ++ news)) = nw3 at N9 hnw3
          have ha3 := (hnw3 _).mpr (.inr (.inr (.inr (.inr (List.mem_append_left news ha0)))))
          have hOU3 := (hnw3 _).mpr (.inr (.inl rfl))
          clear hnw N8 hHPm hOUm hRAm hCL1 ha1 hram
          obtain ⟨rows3, hrows3⟩ : ∃ r3, r3 = rows := ⟨_, rfl⟩
          obtain ⟨tl3, htl3e⟩ : ∃ r3, r3 = tl := ⟨_, rfl⟩
          rw [← hrows3, ← htl3e] at hnw3
          rw [← htl3e] at htl3
          have hro3 := hro
          have hsep3 := hsep
          have hap3 := hap
          have hao3 := hao
          have hto3 := hto
          rw [← hrows3] at hro3 hsep3 hap3 hao3 hI3
          rw [← htl3e] at hsep3 hap3 hao3 hto3
          k_steps
          refine unhalt ?_
          refine tup_ne_same (k := key3 cards j k) (by k_asm) ⟨a0, t1, t2, t3, n0, rfl, List.mem_cons_of_mem _ ha3⟩ (.head _) (by ktr_units) ?_
          k_steps
          rename Fr _ _ _ _ => F7
          rename News _ _ _ _ => N7
          rename (_ < _ ∧ AllLt _ nw3) => lD
          obtain ⟨ob, N8, htwo⟩ := two_head N7
          clear N7
          rename_i D2 h7
          have lD1 := allLt_ne lD.2
          have lHPD : HP ≠ D2 := lD1 _ ((hnw3 _).mpr (.inl rfl))
          have lOUD : OU ≠ D2 := lD1 _ ((hnw3 _).mpr (.inr (.inl rfl)))
          have lRAD : RA ≠ D2 := lD1 _ ((hnw3 _).mpr (.inr (.inr (.inl rfl))))
          have lrD : ∀ q ∈ rows3, q.1 ≠ D2 := fun q hq => lD1 _ ((hnw3 _).mpr (.inr (.inr (.inr (.inl (led_mem hq))))))
          refine unhalt ?_
          refine list_append (vs := outs.map (·.1)) (n := no) (rest := (D2, ob) :: (HP, W.listOf (l3.map (·.1)).toArray nh3) :: (RA, W.listOf (rowRefs rows3).toArray n1) :: (rowsLed rows3 ++ (tl3 ++ news))) F7 (fun q hq => N8 q ?_) ?_ (by simp only [List.length_map] at hsz2 ⊢; omega) ?_
          · rcases List.mem_cons.mp hq with rfl | hq
            · exact List.mem_cons_of_mem _ (List.mem_cons_of_mem _ ((hnw3 _).mpr (.inr (.inl rfl))))
            · rcases List.mem_cons.mp hq with rfl | hq
              · exact .head _
              · refine List.mem_cons_of_mem _ (List.mem_cons_of_mem _ ((hnw3 q).mpr ?_))
                rcases List.mem_cons.mp hq with h | hq
                · exact .inl h
                · rcases List.mem_cons.mp hq with h | hq
                  · exact .inr (.inr (.inl h))
                  · rcases List.mem_append.mp hq with h | h
                    · exact .inr (.inr (.inr (.inl h)))
                    · exact .inr (.inr (.inr (.inr h)))
          · intro q hq
            rcases List.mem_cons.mp hq with rfl | hq
            · exact Ne.symm lOUD
            · rcases List.mem_cons.mp hq with rfl | hq
              · exact hHPOU
              · rcases List.mem_cons.mp hq with rfl | hq
                · exact hao3.1
                · rcases List.mem_append.mp hq with hq | hq
                  · obtain ⟨z, hz, rfl⟩ := List.mem_map.mp hq
                    exact hao3.2.1 z hz
                  · exact hao3.2.2 q hq
          · intro n6 h6 F6 N6
            k_steps
            refine WEnd.intro (rows3, l3, (D2, ob) :: tl3, nh3, outs ++ [(.ref D2, key2 cards j)], n6) F6 N6 (fun q hq => ?_) ?_ ⟨hro3, ?_, hHf3, ?_, ?_, ?_, ?_, ?_⟩ ?_
            · dsimp only at hq
              rw [List.map_append] at hq
              simp only [List.mem_cons, List.mem_append, List.cons_append] at hq ⊢
              rcases hq with h | h | h | h | h | h | h
              · exact .inr (.inr (.inl h))
              · exact .inl h
              · exact .inr (.inr (.inr (.inl h)))
              · exact .inr (.inr (.inr (.inr (.inl h))))
              · exact .inr (.inl h)
              · exact .inr (.inr (.inr (.inr (.inr (.inl h)))))
              · exact .inr (.inr (.inr (.inr (.inr (.inr h)))))
            · repeat' (first | exact List.forall_mem_nil _ | refine List.forall_mem_cons.mpr ⟨?_, ?_⟩)
              all_goals rfl
            · dsimp only
              rw [List.map_append]
              exact hI3
            · exact hsep3.more (Ne.symm lRAD) fun q hq => Ne.symm (lrD q hq)
            · exact hap3.more (Ne.symm lHPD)
            · exact hao3.more (Ne.symm lOUD)
            · exact fun y hy => (htl3 y hy).mono fun q hq => List.mem_cons_of_mem _ hq
            · intro o ho
              rcases List.mem_append.mp ho with ho | ho
              · exact (hto3 o ho).mono fun q hq => List.mem_cons_of_mem _ hq
              · rw [List.mem_singleton.mp ho]
                exact htwo.mono fun q hq => by rw [List.mem_singleton.mp hq]; exact .head _
            · dsimp only
              simp only [List.length_append, List.length_map, List.length_cons, List.length_nil] at hsz2 ⊢
              omega
        · rw [List.concat_eq_append] at hz
          rw [show r.2.1.isEmpty = false from by rw [drop_nil hri, hz]; cases r' <;> rfl]
          have N9 := news_sub N8 nw (fun q hq => List.mem_cons_of_mem _ (List.mem_cons_of_mem _ hq))
          clear N8
          k_steps
          refine unhalt ?_
          refine row_get (by k_asm) hRAm rfl hr (by omega) ?_
          k_steps
          obtain ⟨vs', tj, hvs, hvi⟩ := ints_snoc_inv (by rw [hz, List.map_append] at hri; exact hri)
          have hvl : vs'.length ≤ 1000 := by have := congrArg List.length hvs; simp only [List.length_append, List.length_cons, List.length_nil] at this; rw [List.length_map] at hrlen; omega
          rename Fr _ _ _ _ => F7
          rename News _ _ _ _ => N7
          have hjb : j1 < cards.length := hI.bnd _ (List.mem_of_getElem? hrr) j1 (by rw [hz]; simp)
          refine unhalt ?_
          refine row_pop (vs := vs') (v := .int (j1 : Int) tj) (n := r.2.2.1) F7 N7 (by rw [← hvs]; exact hram) hvl ?_
          intro h5 F5 N5
          have hso := set_addrs hr (r1 := (r.1, vs', r.2.2.1 + 1, r')) rfl
          have hnw2 : ∀ q, q ∈ (HP, W.listOf ((x0 :: l0).map (·.1)).toArray nh) :: (OU, W.listOf (outs.map (·.1)).toArray no) :: (RA, W.listOf (rowRefs (rows.set k (r.1, vs', r.2.2.1 + 1, r'))).toArray n1) :: (rowsLed (rows.set k (r.1, vs', r.2.2.1 + 1, r')) ++ (tl ++ news)) ↔ q = (HP, W.listOf ((x0 :: l0).map (·.1)).toArray nh) ∨ q = (OU, W.listOf (outs.map (·.1)).toArray no) ∨ q = (RA, W.listOf (rowRefs (rows.set k (r.1, vs', r.2.2.1 + 1, r'))).toArray n1) ∨ q ∈ rowsLed (rows.set k (r.1, vs', r.2.2.1 + 1, r')) ∨ q ∈ tl ++ news := by
            intro q
            simp only [List.mem_cons, List.mem_append]
          have N6 := N5 ((HP, W.listOf ((x0 :: l0).map (·.1)).toArray nh) :: (OU, W.listOf (outs.map (·.1)).toArray no) :: (RA, W.listOf (rowRefs (rows.set k (r.1, vs', r.2.2.1 + 1, r'))).toArray n1) :: (rowsLed (rows.set k (r.1, vs', r.2.2.1 + 1, r')) ++ (tl ++ news))) (by
            intro q hq
            rcases List.mem_cons.mp hq with rfl | hq
            · exact .inr ⟨hHPm, Ne.symm (hap.2.1 r hrm)⟩
            · rcases List.mem_cons.mp hq with rfl | hq
              · exact .inr ⟨hOUm, Ne.symm (hao.2.1 r hrm)⟩
              · rcases led_pop hsep hr (r1 := (r.1, vs', r.2.2.1 + 1, r')) rfl q hq with h | ⟨h1, h2⟩
                · exact .inl h
                · refine .inr ⟨(hnw q).mpr (.inr (.inr ?_)), h2⟩
                  simp only [List.mem_cons, List.mem_append] at h1 ⊢
                  exact h1)
          have hIv := fun v : Value => hI.rep (v := v) (r' := r') (j1 := j1) hHf rfl hx0 (by rw [hrr, hz])
          rw [← List.map_set (f := fun x : Row => x.2.2.2) (a := (r.1, vs', r.2.2.1 + 1, r'))] at hIv
          have hro3 := hro.set (i := k) (r1 := (r.1, vs', r.2.2.1 + 1, r')) hvi
          have hsepA := hsep.congr hso
          have hapA := hap.congr hso
          have haoA := hao.congr hso
          generalize (rows.set k (r.1, vs', r.2.2.1 + 1, r')) = rows3 at *
          generalize (HP, W.listOf ((x0 :: l0).map (·.1)).toArray nh) :: (OU, W.listOf (outs.map (·.1)).toArray no) :: (RA, W.listOf (rowRefs rows3).toArray n1) :: (rowsLed rows3 ++ (tl ++ news)) = nw2 at N6 hnw2
          have hCL2 := (hnw2 _).mpr (.inr (.inr (.inr (.inr (List.mem_append_right tl hCL)))))
          clear N5 hnw N7 hHPm hOUm hRAm hCL1 ha1 hram hI hHf hsep hap hao hro
          k_steps
          refine unhalt ?_
          refine ints_sub (ns := cards) (j := j1) (by k_asm) hCL2 hcv rfl hjb (by omega) ?_
          intro tc
          k_steps
          rename Fr _ _ _ _ => F7
          rename News _ _ _ _ => N7
          rename (∀ p : Addr × Obj, p ∈ nw2 → p.1 < _) => lE
          rename_i D3 h7
          obtain ⟨ob3, N8, htup⟩ := tup_head N7
          clear N7
          have hpm := hIv (.ref D3)
          obtain ⟨hI3, hHf3⟩ := hIv (.ref D3)
          refine unhalt ?_
          refine heapreplace_call (H := HP) (l := x0 :: l0) (x := x0) (y := (.ref D3, key3 cards j1 k)) (n := nh) (rest := (D3, ob3) :: (OU, W.listOf (outs.map (·.1)).toArray no) :: (RA, W.listOf (rowRefs rows3).toArray n1) :: (rowsLed rows3 ++ (tl ++ news))) (by k_asm) (by k_asm) (by k_asm) (news_sub N8 _ (fun q hq => ?_)) (by k_asm) rfl (by ktr_room) (by ktr_units) ?_ ?_ ?_ (by omega) rfl ?_
          · rcases List.mem_cons.mp hq with h | hq
            · exact List.mem_cons_of_mem _ ((hnw2 q).mpr (.inl h))
            · rcases List.mem_cons.mp hq with rfl | hq
              · exact .head _
              · refine List.mem_cons_of_mem _ ((hnw2 q).mpr (.inr ?_))
                simp only [List.mem_cons, List.mem_append] at hq ⊢
                exact hq
          · intro q hq
            rcases List.mem_cons.mp hq with rfl | hq
            · exact Ne.symm (Nat.ne_of_lt (lE _ ((hnw2 _).mpr (.inl rfl))))
            · rcases List.mem_cons.mp hq with rfl | hq
              · exact Ne.symm hHPOU
              · rcases List.mem_cons.mp hq with rfl | hq
                · exact hapA.1
                · rcases List.mem_append.mp hq with hq | hq
                  · obtain ⟨z, hz, rfl⟩ := List.mem_map.mp hq
                    exact hapA.2.1 z hz
                  · exact hapA.2.2 q hq
          · exact fun y hy => (htl y hy).mono fun q hq => .tail _ (.tail _ (.tail _ (List.mem_append_right _ (List.mem_append_left _ hq))))
          · exact htup.mono fun q hq => by rw [List.mem_singleton.mp hq]; exact .head _
          intro nh3 h3 tk3 F9 N9
          rw [hx0a]
          obtain ⟨tl3, htl3e⟩ : ∃ r3, r3 = (D3, ob3) :: tl := ⟨_, rfl⟩
          have lE1 : ∀ q ∈ nw2, q.1 ≠ D3 := fun q hq => Nat.ne_of_lt (lE q hq)
          have hsep3 : Sep RA rows3 (tl3 ++ news) := by
            rw [htl3e]
            exact hsepA.more (Ne.symm (lE1 _ ((hnw2 _).mpr (.inr (.inr (.inl rfl)))))) fun q hq => Ne.symm (lE1 _ ((hnw2 _).mpr (.inr (.inr (.inr (.inl (led_mem hq)))))))
          have hap3 : Apart HP RA rows3 (tl3 ++ news) := by
            rw [htl3e]
            exact hapA.more (Ne.symm (lE1 _ ((hnw2 _).mpr (.inl rfl))))
          have hao3 : Apart OU RA rows3 (tl3 ++ news) := by
            rw [htl3e]
            exact haoA.more (Ne.symm (lE1 _ ((hnw2 _).mpr (.inr (.inl rfl)))))
          have hto3 : ∀ o ∈ outs, TwoIn tl3 o.1 o.2 := fun o ho => (hto o ho).mono fun q hq => by rw [htl3e]; exact List.mem_cons_of_mem _ hq
          have htl3 : ∀ y ∈ sup ltI ((x0 :: l0).set 0 (.ref D3, key3 cards j1 k)) 0, TupIn tl3 y.1 y.2 := by
            intro y hy
            rw [sup_mem] at hy
            rcases List.mem_or_eq_of_mem_set hy with hy | rfl
            · exact (htl y hy).mono fun q hq => by rw [htl3e]; exact List.mem_cons_of_mem _ hq
            · exact htup.mono fun q hq => by rw [htl3e, List.mem_singleton.mp hq]; exact .head _
          generalize sup ltI ((x0 :: l0).set 0 (.ref D3, key3 cards j1 k)) 0 = l3 at N9 hI3 hHf3 htl3
          have hnw3 : ∀ q, q ∈ (HP, W.listOf (l3.map (·.1)).toArray nh3) :: (D3, ob3) :: (OU, W.listOf (outs.map (·.1)).toArray no) :: (RA, W.listOf (rowRefs rows3).toArray n1) :: (rowsLed rows3 ++ (tl ++ news)) ↔ q = (HP, W.listOf (l3.map (·.1)).toArray nh3) ∨ q = (OU, W.listOf (outs.map (·.1)).toArray no) ∨ q = (RA, W.listOf (rowRefs rows3).toArray n1) ∨ q ∈ rowsLed rows3 ∨ q ∈ tl3 ++ news := by
            intro q
            rw [htl3e]
            simp only [List.cons_append, List.mem_cons, List.mem_append]
            constructor
            · rintro (h | h | h | h | h | h | h) <;> simp [h]
            · rintro (h | h | h | h | h | h | h) <;> simp [h]
          generalize (HP, W.listOf (l3.map (·.1)).toArray nh3) :: (D3, ob3) :: (OU, W.listOf (outs.map (·.1)).toArray no) :: (RA, W.listOf (rowRefs rows3).toArray n1) :: (rowsLed rows3 ++ (tl ++ news)) = nw3 at N9 hnw3
          have ha3 := (hnw3 _).mpr (.inr (.inr (.inr (.inr (List.mem_append_left news (show _ ∈ tl3 from by rw [htl3e]; exact List.mem_cons_of_mem _ ha0))))))
          have hOU3 := (hnw3 _).mpr (.inr (.inl rfl))
          clear hnw2 N8
          k_steps
          refine unhalt ?_
          refine tup_ne_same (k := key3 cards j k) (by k_asm) ⟨a0, t1, t2, t3, n0, rfl, List.mem_cons_of_mem _ ha3⟩ (.head _) (by ktr_units) ?_
          k_steps
          rename Fr _ _ _ _ => F7
          rename News _ _ _ _ => N7
          rename (_ < _ ∧ AllLt _ nw3) => lD
          obtain ⟨ob, N8, htwo⟩ := two_head N7
          clear N7
          rename_i D2 h7
          have lD1 := allLt_ne lD.2
          have lHPD : HP ≠ D2 := lD1 _ ((hnw3 _).mpr (.inl rfl))
          have lOUD : OU ≠ D2 := lD1 _ ((hnw3 _).mpr (.inr (.inl rfl)))
          have lRAD : RA ≠ D2 := lD1 _ ((hnw3 _).mpr (.inr (.inr (.inl rfl))))
          have lrD : ∀ q ∈ rows3, q.1 ≠ D2 := fun q hq => lD1 _ ((hnw3 _).mpr (.inr (.inr (.inr (.inl (led_mem hq))))))
          refine unhalt ?_
          refine list_append (vs := outs.map (·.1)) (n := no) (rest := (D2, ob) :: (HP, W.listOf (l3.map (·.1)).toArray nh3) :: (RA, W.listOf (rowRefs rows3).toArray n1) :: (rowsLed rows3 ++ (tl3 ++ news))) F7 (fun q hq => N8 q ?_) ?_ (by simp only [List.length_map] at hsz2 ⊢; omega) ?_
          · rcases List.mem_cons.mp hq with rfl | hq
            · exact List.mem_cons_of_mem _ (List.mem_cons_of_mem _ ((hnw3 _).mpr (.inr (.inl rfl))))
            · rcases List.mem_cons.mp hq with rfl | hq
              · exact .head _
              · refine List.mem_cons_of_mem _ (List.mem_cons_of_mem _ ((hnw3 q).mpr ?_))
                rcases List.mem_cons.mp hq with h | hq
                · exact .inl h
                · rcases List.mem_cons.mp hq with h | hq
                  · exact .inr (.inr (.inl h))
                  · rcases List.mem_append.mp hq with h | h
                    · exact .inr (.inr (.inr (.inl h)))
                    · exact .inr (.inr (.inr (.inr h)))
          · intro q hq
            rcases List.mem_cons.mp hq with rfl | hq
            · exact Ne.symm lOUD
            · rcases List.mem_cons.mp hq with rfl | hq
              · exact hHPOU
              · rcases List.mem_cons.mp hq with rfl | hq
                · exact hao3.1
                · rcases List.mem_append.mp hq with hq | hq
                  · obtain ⟨z, hz, rfl⟩ := List.mem_map.mp hq
                    exact hao3.2.1 z hz
                  · exact hao3.2.2 q hq
          · intro n6 h6 F6 N6
            k_steps
            refine WEnd.intro (rows3, l3, (D2, ob) :: tl3, nh3, outs ++ [(.ref D2, key2 cards j)], n6) F6 N6 (fun q hq => ?_) ?_ ⟨hro3, ?_, hHf3, ?_, ?_, ?_, ?_, ?_⟩ ?_
            · dsimp only at hq
              rw [List.map_append] at hq
              simp only [List.mem_cons, List.mem_append, List.cons_append] at hq ⊢
              rcases hq with h | h | h | h | h | h | h
              · exact .inr (.inr (.inl h))
              · exact .inl h
              · exact .inr (.inr (.inr (.inl h)))
              · exact .inr (.inr (.inr (.inr (.inl h))))
              · exact .inr (.inl h)
              · exact .inr (.inr (.inr (.inr (.inr (.inl h)))))
              · exact .inr (.inr (.inr (.inr (.inr (.inr h)))))
            · repeat' (first | exact List.forall_mem_nil _ | refine List.forall_mem_cons.mpr ⟨?_, ?_⟩)
              all_goals rfl
            · dsimp only
              rw [List.map_append]
              exact hI3
            · exact hsep3.more (Ne.symm lRAD) fun q hq => Ne.symm (lrD q hq)
            · exact hap3.more (Ne.symm lHPD)
            · exact hao3.more (Ne.symm lOUD)
            · exact fun y hy => (htl3 y hy).mono fun q hq => List.mem_cons_of_mem _ hq
            · intro o ho
              rcases List.mem_append.mp ho with ho | ho
              · exact (hto3 o ho).mono fun q hq => List.mem_cons_of_mem _ hq
              · rw [List.mem_singleton.mp ho]
                exact htwo.mono fun q hq => by rw [List.mem_singleton.mp hq]; exact .head _
            · dsimp only
              simp only [List.length_append, List.length_map, List.length_cons, List.length_nil] at hsz2 ⊢
              omega
end
end Mine
end
section
namespace Mine
section
variable {cards : List Int}
theorem Laid.down {ps : List Nat} (h : Laid cards ps) : ∀ j q : Nat, ps[j]? = some q → ∀ k' < q, ∃ j' : Nat, ps[j']? = some k' ∧ cards.getD j' 0 < cards.getD j 0 := by
  induction h with
  | nil => intro j q h; simp at h
  | @snoc ps k hl h1 h2 ih =>
    intro j q hj k' hk'
    by_cases e : j < ps.length
    · rw [List.getElem?_append_left e] at hj
      obtain ⟨j', a, b⟩ := ih j q hj k' hk'
      exact ⟨j', by rw [List.getElem?_append_left (List.getElem?_eq_some_iff.mp a).1]; exact a, b⟩
    · rw [List.getElem?_append_right (by omega)] at hj
      have hj2 : j = ps.length := by
        have := (List.getElem?_eq_some_iff.mp hj).1
        simp at this
        omega
      subst hj2
      simp only [Nat.sub_self, List.getElem?_cons_zero, Option.some.injEq] at hj
      subst hj
      obtain ⟨j', a, b⟩ := h1 k' hk'
      have hm := idxs_mem.mp (List.mem_of_getLast? a)
      exact ⟨j', by rw [List.getElem?_append_left (List.getElem?_eq_some_iff.mp hm).1]; exact hm, b⟩
/-- the top of a pile is the least of it -/
theorem Laid.top {ps : List Nat} (h : Laid cards ps) {k j : Nat} (hj : ps[j]? = some k) : ∃ t, (idxs ps k).getLast? = some t ∧ cards.getD t 0 ≤ cards.getD j 0 := by
  have hm := idxs_mem.mpr hj
  rcases List.eq_nil_or_concat (idxs ps k) with h0 | ⟨r, t, h0⟩
  · rw [h0] at hm; cases hm
  · rw [List.concat_eq_append] at h0
    refine ⟨t, by rw [h0]; simp, ?_⟩
    have hp := h.ord k
    rw [h0] at hm hp
    rcases List.mem_append.mp hm with hm | hm
    · exact ((List.pairwise_append.mp hp).2.2 j hm t (.head _)).2
    · rw [List.mem_singleton.mp hm]; exact Int.le_refl _
theorem patience {ps : List Nat} (h : Laid cards ps) : ∀ {rs : List Int}, Risen cards rs → rs.length = ps.length → rs = ps.map fun k => ((k : Nat) : Int) + 1 := by
  induction h with
  | nil =>
    intro rs _ hl
    rw [List.length_eq_zero_iff.mp hl]; rfl
  | @snoc ps k hl h1 h2 ih =>
    intro rs hr hlen
    cases hr with
    | nil => simp at hlen
    | @snoc rs v hr h0 hv hm =>
      have hlen2 : rs.length = ps.length := by simpa using hlen
      have e := ih hr hlen2
      have hget : ∀ j q : Nat, ps[j]? = some q → rs.getD j 0 = (q : Int) + 1 := by
        intro j q hq
        rw [e, List.getD_eq_getElem?_getD, List.getElem?_map, hq]; rfl
      have hv2 : v = (k : Int) := by
        apply Int.le_antisymm
        · rcases hv with h | ⟨j, hj, hc, he⟩
          · omega
          · obtain ⟨q, hq⟩ : ∃ q, ps[j]? = some q := ⟨_, List.getElem?_eq_getElem (by omega)⟩
            rw [hget j q hq] at he
            rw [hlen2] at hc
            by_cases hqk : q < k
            · omega
            · exfalso
              obtain ⟨j', hj', hc'⟩ : ∃ j' : Nat, ps[j']? = some k ∧ cards.getD j' 0 ≤ cards.getD j 0 := by
                by_cases e2 : q = k
                · subst e2; exact ⟨j, hq, Int.le_refl _⟩
                · obtain ⟨j', a, b⟩ := hl.down j q hq k (by omega)
                  exact ⟨j', a, by omega⟩
              obtain ⟨t, ht, hc2⟩ := hl.top hj'
              exact h2 t ht (by omega)
        · cases k with
          | zero => omega
          | succ k0 =>
            obtain ⟨j, a, b⟩ := h1 k0 (by omega)
            have hj := idxs_mem.mp (List.mem_of_getLast? a)
            have h3 := hm j (by rw [hlen2]; exact (List.getElem?_eq_some_iff.mp hj).1) (by rw [hlen2]; exact b)
            rw [hget j k0 hj] at h3
            omega
      rw [e, hv2, List.map_append]
      simp only [List.map_cons, List.map_nil]
      rw [Int.add_comm 1 (k : Int)]
end
end Mine
end
section
namespace Mine
/-- what a tree of asks gives when each ask is answered by lt -/
def Spec {α : Type} (n : Nat) (lt : Nat → Nat → Bool) : KasT α → (α → Prop) → Prop
  | .ret a, R => R a
  | .ask i j k, R => i < n ∧ j < n ∧ Spec n lt (k (lt i j)) R
section
variable {n : Nat} {lt : Nat → Nat → Bool} {α β : Type}
theorem Spec.wp {cmp : Nat → Nat → (Bool → Shared → Prop) → Shared → Prop} {s : Shared} (hc : ∀ i j C, i < n → j < n → C (lt i j) s → cmp i j C s) {Q : α → Shared → Prop} {R : α → Prop} (hq : ∀ a, R a → Q a s) :
    ∀ (t : KasT α), Spec n lt t R → t.kasWp cmp Q s
  | .ret a, h => hq a h
  | .ask i j k, h => hc i j _ h.1 h.2.1 (Spec.wp hc hq (k (lt i j)) h.2.2)
theorem Spec.bind {f : α → KasT β} {R : α → Prop} {S : β → Prop} (hf : ∀ a, R a → Spec n lt (f a) S) : ∀ (t : KasT α), Spec n lt t R → Spec n lt (t.bind f) S
  | .ret a, h => hf a h
  | .ask i j k, h => ⟨h.1, h.2.1, Spec.bind hf (k (lt i j)) h.2.2⟩
theorem Spec.ask {i j : Nat} {k : Bool → KasT α} {R : α → Prop} (hi : i < n) (hj : j < n) (h1 : lt i j = true → Spec n lt (k true) R) (h2 : lt i j = false → Spec n lt (k false) R) : Spec n lt (.ask i j k) R := by
  refine ⟨hi, hj, ?_⟩
  cases e : lt i j with
  | true => exact h1 e
  | false => exact h2 e
theorem Spec.mono {R S : α → Prop} (h : ∀ a, R a → S a) : ∀ (t : KasT α), Spec n lt t R → Spec n lt t S
  | .ret a, r => h a r
  | .ask i j k, r => ⟨r.1, r.2.1, Spec.mono h (k (lt i j)) r.2.2⟩
structure Ord (n : Nat) (lt : Nat → Nat → Bool) : Prop where
  tot : ∀ i j, i < n → j < n → i ≠ j → lt i j = false → lt j i = true
  tr : ∀ i j k, lt i j = true → lt j k = true → lt i k = true
/-- an order of the places -/
def PV (n : Nat) (p : Array Nat) : Prop := p.toList.Perm (List.range n)
theorem PV.size {p : Array Nat} (h : PV n p) : p.size = n := by have := List.Perm.length_eq h; simpa using this
theorem PV.bd {p : Array Nat} (h : PV n p) (hn : 0 < n) (i : Nat) : p.getD i 0 < n := by
  by_cases e : i < p.size
  · rw [Array.getD_eq_getD_getElem?, Array.getElem?_eq_getElem e]
    exact List.mem_range.mp ((List.Perm.mem_iff h).mp (by simp))
  · rw [Array.getD_eq_getD_getElem?, Array.getElem?_eq_none (by omega)]; exact hn
theorem PV.ne {p : Array Nat} (h : PV n p) {i j : Nat} (hi : i < n) (hj : j < n) (e : i ≠ j) : p.getD i 0 ≠ p.getD j 0 := by
  have h1 := h.size
  have h2 : p.toList.Nodup := (List.Perm.nodup_iff h).mpr List.nodup_range
  have hi' : i < p.size := by omega
  have hj' : j < p.size := by omega
  rw [Array.getD_eq_getD_getElem?, Array.getElem?_eq_getElem hi', Array.getD_eq_getD_getElem?, Array.getElem?_eq_getElem hj']
  intro e2
  simp only [Option.getD_some] at e2
  exact e ((List.getElem_inj (h₀ := by simpa using hi') (h₁ := by simpa using hj') h2).mp (by simpa using e2))
theorem PV.perm {p q : Array Nat} (h : PV n p) (hp : q.Perm p) : PV n q := List.Perm.trans hp.toList h
def Srtd (lt : Nat → Nat → Bool) (p : Array Nat) (k : Nat) : Prop := ∀ i j, i < j → j < k → lt (p.getD i 0) (p.getD j 0) = true
def Dsc (lt : Nat → Nat → Bool) (p : Array Nat) (k : Nat) : Prop := ∀ i j, i < j → j < k → lt (p.getD j 0) (p.getD i 0) = true
theorem Srtd.step (o : Ord n lt) {p : Array Nat} {k : Nat} (hk : 1 ≤ k) (h : Srtd lt p k) (hl : lt (p.getD (k - 1) 0) (p.getD k 0) = true) : Srtd lt p (k + 1) := by
  intro i j hij hj
  by_cases e : j = k
  · subst e
    by_cases e2 : i = j - 1
    · subst e2; exact hl
    · exact o.tr _ _ _ (h i (j - 1) (by omega) (by omega)) hl
  · exact h i j hij (by omega)
theorem Dsc.step (o : Ord n lt) {p : Array Nat} {k : Nat} (hk : 1 ≤ k) (h : Dsc lt p k) (hl : lt (p.getD k 0) (p.getD (k - 1) 0) = true) : Dsc lt p (k + 1) := by
  intro i j hij hj
  by_cases e : j = k
  · subst e
    by_cases e2 : i = j - 1
    · subst e2; exact hl
    · exact o.tr _ _ _ hl (h i (j - 1) (by omega) (by omega))
  · exact h i j hij (by omega)
theorem asc_spec (o : Ord n lt) {p : Array Nat} (hp : PV n p) (hn : 0 < n) : ∀ (f m : Nat), 1 ≤ m → m + f ≤ n → Srtd lt p m → Spec n lt (kas_asc p f m) (fun r => m ≤ r ∧ r ≤ m + f ∧ Srtd lt p r ∧ (r < m + f → lt (p.getD r 0) (p.getD (r - 1) 0) = true))
  | 0, m, _, _, hs => ⟨Nat.le_refl _, Nat.le_refl _, hs, fun h => absurd h (Nat.lt_irrefl _)⟩
  | f + 1, m, h1, hf, hs => by
    unfold kas_asc
    refine Spec.ask (hp.bd hn _) (hp.bd hn _) (fun e => ?_) (fun e => ?_)
    · rw [if_pos rfl]
      exact ⟨Nat.le_refl _, by omega, hs, fun _ => e⟩
    · rw [if_neg (by simp)]
      have hl := o.tot _ _ (hp.bd hn m) (hp.bd hn (m - 1)) (hp.ne (by omega) (by omega) (by omega)) e
      have ih := asc_spec o hp hn f (m + 1) (by omega) (by omega) (hs.step o h1 hl)
      have e2 : m + 1 + f = m + (f + 1) := by omega
      rw [e2] at ih
      exact Spec.mono (fun r hr => ⟨by omega, hr.2⟩) _ ih
theorem desc_spec (o : Ord n lt) {p : Array Nat} (hp : PV n p) (hn : 0 < n) : ∀ (f m : Nat), 1 ≤ m → m + f ≤ n → Dsc lt p m → Spec n lt (kas_desc f p m 0) (fun r => r.1 = p ∧ r.2.2 = 0 ∧ m ≤ r.2.1 ∧ r.2.1 ≤ m + f ∧ Dsc lt p r.2.1)
  | 0, m, _, _, hs => ⟨rfl, rfl, Nat.le_refl _, Nat.le_refl _, hs⟩
  | f + 1, m, h1, hf, hs => by
    unfold kas_desc
    refine Spec.ask (hp.bd hn _) (hp.bd hn _) (fun e => ?_) (fun e => ?_)
    · rw [if_pos rfl, if_neg (by omega)]
      have ih := desc_spec o hp hn f (m + 1) (by omega) (by omega) (hs.step o h1 e)
      exact Spec.mono (fun r hr => ⟨hr.1, hr.2.1, by omega, by omega, hr.2.2.2.2⟩) _ ih
    · rw [if_neg (by simp)]
      have hl := o.tot _ _ (hp.bd hn m) (hp.bd hn (m - 1)) (hp.ne (by omega) (by omega) (by omega)) e
      refine Spec.ask (hp.bd hn _) (hp.bd hn _) (fun e2 => ?_) (fun e2 => ?_)
      · rw [if_pos rfl]
        exact ⟨rfl, rfl, Nat.le_refl _, Nat.le_add_right _ _, hs⟩
      · rw [hl] at e2; cases e2
theorem rev_at {p : Array Nat} {m : Nat} (hm : m ≤ p.size) (k : Nat) (hk : k < m) : (kas_rev p 0 m).getD k 0 = p.getD (m - 1 - k) 0 := by
  unfold kas_rev
  rw [Array.getD_eq_getD_getElem?, getElem?_mirror_all hm, if_pos ⟨Nat.zero_le _, hk⟩, Array.getD_eq_getD_getElem?, Nat.zero_add]
theorem count_spec (o : Ord n lt) {p : Array Nat} (hp : PV n p) (hn : 2 ≤ n) : Spec n lt (kas_count n p) (fun r => PV n r.2 ∧ Srtd lt r.2 r.1 ∧ 1 ≤ r.1 ∧ r.1 ≤ n) := by
  have hn0 : 0 < n := by omega
  unfold kas_count
  refine Spec.bind ?_ _ (asc_spec o hp hn0 (n - 1) 1 (Nat.le_refl _) (by omega) (fun i j h1 h2 => by omega))
  rintro m ⟨h1, h2, hs, hd⟩
  split
  · exact ⟨hp, hs, h1, by omega⟩
  · next hne =>
    have hmn : m ≠ n := by simpa using hne
    split
    · next hm1 =>
      refine Spec.ask (hp.bd hn0 _) (hp.bd hn0 _) (fun e => ?_) (fun e => ?_)
      · rw [if_pos rfl]; exact ⟨hp, hs, h1, by omega⟩
      · have := hs 0 (m - 1) (by omega) (by omega)
        rw [this] at e; cases e
    · next hm1 =>
      have hm : m = 1 := by omega
      subst hm
      have hlt := hd (by omega)
      unfold kas_descPart
      refine Spec.bind ?_ _ (desc_spec o hp hn0 (n - (1 + 1)) (1 + 1) (by omega) (by omega) ?_)
      · rintro ⟨p', m', q'⟩ ⟨e1, e2, h3, h4, hds⟩
        dsimp only at e1 e2 h3 h4 hds ⊢
        subst e1 e2
        rw [if_neg (by omega)]
        unfold kas_tail3
        have hp2 : PV n (kas_rev p' 0 m') := hp.perm (mirror_perm _ _ _ _)
        have hs2 : Srtd lt (kas_rev p' 0 m') m' := by
          intro i j hij hj
          rw [rev_at (by rw [hp.size]; omega) i (by omega), rev_at (by rw [hp.size]; omega) j hj]
          exact hds _ _ (by omega) (by omega)
        refine Spec.bind ?_ _ (asc_spec o hp2 hn0 (n - m') m' (by omega) (by omega) hs2)
        rintro r ⟨h5, h6, hs3, _⟩
        exact ⟨hp2, hs3, by show 1 ≤ r; omega, by show r ≤ n; omega⟩
      · intro i j hij hj
        have e1 : i = 0 := by omega
        have e2 : j = 1 := by omega
        subst e1 e2
        exact hlt
theorem place_spec {p : Array Nat} (o : Ord n lt) (hp : PV n p) (hn : 0 < n) {k : Nat} (hk : k < n) (hs : Srtd lt p k) : ∀ (f l r : Nat), l ≤ r → r ≤ k → r - l ≤ f → (∀ i < l, lt (p.getD i 0) (p.getD k 0) = true) → (∀ i, r ≤ i → i < k → lt (p.getD k 0) (p.getD i 0) = true) →
    Spec n lt (kas_place p k f l r) (fun x => x ≤ k ∧ (∀ i < x, lt (p.getD i 0) (p.getD k 0) = true) ∧ (∀ i, x ≤ i → i < k → lt (p.getD k 0) (p.getD i 0) = true))
  | 0, l, r, h1, h2, h3, h4, h5 => by
    have e : l = r := by omega
    subst e
    exact ⟨h2, h4, h5⟩
  | f + 1, l, r, h1, h2, h3, h4, h5 => by
    unfold kas_place
    split
    · have e : l = r := by omega
      subst e
      exact ⟨h2, h4, h5⟩
    · refine Spec.ask (hp.bd hn _) (hp.bd hn _) (fun e => ?_) (fun e => ?_)
      · rw [if_pos rfl]
        refine place_spec o hp hn hk hs f l ((l + r) / 2) (by omega) (by omega) (by omega) h4 (fun i hi hik => ?_)
        by_cases e2 : i = (l + r) / 2
        · rw [e2]; exact e
        · exact o.tr _ _ _ e (hs _ _ (by omega) hik)
      · rw [if_neg (by simp)]
        have hl := o.tot _ _ (hp.bd hn k) (hp.bd hn ((l + r) / 2)) (hp.ne hk (by omega) (by omega)) e
        refine place_spec o hp hn hk hs f ((l + r) / 2 + 1) r (by omega) h2 (by omega) (fun i hi => ?_) h5
        by_cases e2 : i = (l + r) / 2
        · rw [e2]; exact hl
        · exact o.tr _ _ _ (hs _ _ (by omega) (by omega)) hl
theorem bub_at {p : Array Nat} {k l : Nat} (hk : k < p.size) (hl : l ≤ k) (i : Nat) : (bubble p k (k - l)).getD i 0 = if i = l then p.getD k 0 else if l < i ∧ i ≤ k then p.getD (i - 1) 0 else p.getD i 0 := by
  rw [Array.getD_eq_getD_getElem?, getElem?_bubble hk (k - l) (by omega), show k - (k - l) = l from by omega]
  by_cases e1 : i = l
  · rw [if_pos e1, if_pos e1, Array.getD_eq_getD_getElem?]
  · rw [if_neg e1, if_neg e1]
    by_cases e2 : l < i ∧ i ≤ k
    · rw [if_pos e2, if_pos e2, Array.getD_eq_getD_getElem?]
    · rw [if_neg e2, if_neg e2, Array.getD_eq_getD_getElem?]
theorem bin_spec (o : Ord n lt) (hn : 0 < n) : ∀ (f k : Nat) (p : Array Nat), PV n p → 1 ≤ k → k + f = n → Srtd lt p k → Spec n lt (kas_bin f p k) (fun r => PV n r ∧ Srtd lt r n)
  | 0, k, p, hp, _, e, hs => by
    have : k = n := by omega
    subst this
    exact ⟨hp, hs⟩
  | f + 1, k, p, hp, h1, e, hs => by
    unfold kas_bin
    refine Spec.bind ?_ _ (place_spec o hp hn (by omega) hs k 0 k (by omega) (Nat.le_refl _) (by omega) (fun i hi => absurd hi (Nat.not_lt_zero _)) (fun i h2 h3 => by omega))
    rintro l ⟨hl, hlo, hhi⟩
    have hkp : k < p.size := by rw [hp.size]; omega
    refine bin_spec o hn f (k + 1) _ (hp.perm (bubble_perm _ _ _)) (by omega) (by omega) ?_
    intro i j hij hj
    rw [bub_at hkp hl, bub_at hkp hl]
    by_cases e1 : i = l
    · rw [if_pos e1, if_neg (by omega), if_pos (by omega)]
      exact hhi (j - 1) (by omega) (by omega)
    · rw [if_neg e1]
      by_cases e2 : l < i ∧ i ≤ k
      · rw [if_pos e2, if_neg (by omega), if_pos (by omega)]
        exact hs (i - 1) (j - 1) (by omega) (by omega)
      · rw [if_neg e2]
        by_cases e3 : j = l
        · rw [if_pos e3]
          exact hlo i (by omega)
        · rw [if_neg e3]
          by_cases e4 : l < j ∧ j ≤ k
          · rw [if_pos e4]
            exact hs i (j - 1) (by omega) (by omega)
          · rw [if_neg e4]
            exact hs i j hij (by omega)
theorem sort_spec (o : Ord n lt) (hn : 2 ≤ n) : Spec n lt (kas_sort n) (fun r => PV n r ∧ Srtd lt r n) := by
  unfold kas_sort
  refine Spec.bind ?_ _ (count_spec o (p := (List.range n).toArray) (.refl _) hn)
  rintro ⟨m, p⟩ ⟨hp, hs, h1, h2⟩
  dsimp only at hp hs h1 h2 ⊢
  split
  · rw [show max m 1 = m from by omega]
    exact bin_spec o (by omega) (n - m) m p hp h1 (by omega) hs
  · have : m = n := by omega
    subst this
    exact ⟨hp, hs⟩
end
end Mine
end
section
open PySem PySem.W PyProof.Rows PySem.SeqAt
namespace Mine
def lt2 (a b : Int × Int) : Bool := decide (a.1 < b.1 ∨ (a.1 = b.1 ∧ a.2 < b.2))
section
variable {prog : Program} {w : World} {A : Around} {E : Value → Shared → Prop} {s : Shared} {h₀ : Heap} {L : Addr} {news : List (Addr × Obj)} {m : Str → Option Value}
theorem two_lt {x y : Value} {k l : Int × Int} {C : Bool → Shared → Prop} (N : News h₀ L s.heap news) (hx : TwoIn news x k) (hy : TwoIn news y l) (h : C (lt2 k l) s) :
    wpAny (model prog w) A (keyLt' (tuples' true) x y) C E s := by
  obtain ⟨a, t1, t2, n, rfl, ha⟩ := hx
  obtain ⟨b, u1, u2, n', rfl, hb⟩ := hy
  refine kat_lt (N _ ha).1 rfl (N _ hb).1 rfl ?_
  refine kat_cons (wpAny_eqBool_int ?_)
  refine kat_go (fun e => kat_yes ?_) (fun e => kat_no ?_)
  · have e1 : k.1 = l.1 := by simpa using e
    refine kat_cons (wpAny_eqBool_int ?_)
    refine kat_go (fun e2 => kat_yes (kat_nil ?_)) (fun e2 => kat_no ?_)
    · have e3 : k.2 = l.2 := by simpa using e2
      have : lt2 k l = false := by simp only [lt2, decide_eq_false_iff_not]; omega
      rw [this] at h
      exact h
    · have e3 : k.2 ≠ l.2 := by simpa using e2
      have : lt2 k l = decide (k.2 < l.2) := by
        simp only [lt2, decide_eq_decide]; omega
      rw [this] at h
      refine kat_one _ _ ?_
      exact wpAny_lt_int h
  · have e1 : k.1 ≠ l.1 := by simpa using e
    have : lt2 k l = decide (k.1 < l.1) := by
      simp only [lt2, decide_eq_decide]; omega
    rw [this] at h
    exact oneLt_int h
theorem twos_tups (N : News h₀ L s.heap news) : ∀ (items : List (Value × Int × Int)), (∀ o ∈ items, TwoIn news o.1 o.2) → ∃ fs, KatTups s.heap (items.map (·.1)) fs ∧ fs.length = items.length ∧ ∀ v ∈ fs, ∃ x t, v = Value.int x t
  | [], _ => ⟨[], .nil, rfl, fun _ h => nomatch h⟩
  | o :: items, h => by
    obtain ⟨fs, h1, h2, h3⟩ := twos_tups N items fun o ho => h o (.tail _ ho)
    obtain ⟨a, t1, t2, n, e, ha⟩ := h o (.head _)
    refine ⟨.int o.2.1 t1 :: fs, ?_, by simp [h2], ?_⟩
    · rw [List.map_cons, e]
      exact KatTups.cons (N _ ha).1 rfl rfl rfl h1
    · intro v hv
      rcases List.mem_cons.mp hv with rfl | hv
      · exact ⟨_, _, rfl⟩
      · exact h3 v hv
theorem sorted_two {l : Addr} {items : List (Value × Int × Int)} {nn : Nat} {Q : Value → Shared → Prop} (F : Fr h₀ L s.heap m) (N : News h₀ L s.heap news) (hm : (l, W.listOf (items.map (·.1)).toArray nn) ∈ news)
    (hti : ∀ o ∈ items, TwoIn news o.1 o.2) (hnd : (items.map (·.2)).Nodup) (h2 : 2 ≤ items.length) (h64 : items.length < 64)
    (hret : ∀ D (out : List (Value × Int × Int)) n' h', (out.map (·.2)).Perm (items.map (·.2)) → (out.map (·.2)).Pairwise le2 → (∀ o ∈ out, TwoIn news o.1 o.2) → (∀ q ∈ news, q.1 < D) → Fr h₀ L h' m → News h₀ L h' ((D, W.listOf (out.map (·.1)).toArray n') :: news) → Q (.ref D) { s with heap := h' }) :
    wpAny (model prog w) A (call (.builtin "sorted") [.ref l]) Q E s := by
  refine kat_sorted (vs := items.map (·.1)) F N ⟨_, (N _ hm).1, rfl, nn, rfl⟩ (by simpa using h2) (by simpa using h64) ?_
  intro D e1 h' F' N' hD
  have N2 : News h₀ L h' news := news_sub N' news fun q hq => List.mem_cons_of_mem _ hq
  obtain ⟨fs, hf1, hf2, hf3⟩ := twos_tups (s := { s with heap := h' }) N2 items hti
  refine kat_kind (T := .type "int") hf1 (by omega) (fun v hv => ?_) (by decide) ?_
  · obtain ⟨x, t, rfl⟩ := hf3 v hv
    exact Looks.of_pure rfl
  have hkey : ∀ i, i < items.length → ∃ o, items[i]? = some o ∧ (items.map (·.1)).getD i Value.none = o.1 ∧ (items.map (·.2)).getD i (0, 0) = o.2 := by
    intro i hi
    refine ⟨_, List.getElem?_eq_getElem hi, ?_, ?_⟩
    · rw [List.getD_eq_getElem?_getD, List.getElem?_map, List.getElem?_eq_getElem hi]; rfl
    · rw [List.getD_eq_getElem?_getD, List.getElem?_map, List.getElem?_eq_getElem hi]; rfl
  have ho : Ord items.length fun i j => lt2 ((items.map (·.2)).getD i (0, 0)) ((items.map (·.2)).getD j (0, 0)) := by
    refine ⟨fun i j hi hj hne hf => ?_, fun i j k h1 h2 => ?_⟩
    · have hi' : i < (items.map (·.2)).length := by simpa using hi
      have hj' : j < (items.map (·.2)).length := by simpa using hj
      have hd : (items.map (·.2)).getD i (0, 0) ≠ (items.map (·.2)).getD j (0, 0) := by
        rw [List.getD_eq_getElem?_getD, List.getElem?_eq_getElem hi', List.getD_eq_getElem?_getD, List.getElem?_eq_getElem hj']
        intro e
        exact hne ((List.getElem_inj hnd).mp e)
      generalize (items.map (·.2)).getD i (0, 0) = a at *
      generalize (items.map (·.2)).getD j (0, 0) = b at *
      simp only [lt2, decide_eq_false_iff_not, decide_eq_true_eq] at hf ⊢
      have : ¬ (a.1 = b.1 ∧ a.2 = b.2) := fun h => hd (Prod.ext h.1 h.2)
      omega
    · simp only [lt2, decide_eq_true_eq] at h1 h2 ⊢
      omega
  have hsp := sort_spec ho h2
  rw [List.length_map]
  refine Spec.wp (s := { s with heap := h' }) (fun i j C hi hj hC => ?_) (fun p hp => ?_) _ hsp
  · obtain ⟨oi, e1, e2, e3⟩ := hkey i hi
    obtain ⟨oj, f1, f2, f3⟩ := hkey j hj
    unfold kas_ask
    rw [e2, f2]
    rw [e3, f3] at hC
    exact two_lt N2 (hti oi (List.mem_of_getElem? e1)) (hti oj (List.mem_of_getElem? f1)) hC
  · obtain ⟨hpv, hps⟩ := hp
    refine KasFin.intro (g := fun o => (D, o) :: news) F' N' ?_ ?_
    · exact .head fun q hq => Nat.ne_of_lt (hD q hq)
    · intro h'' c F'' N''
      have eo : p.toList.map (fun i => (items.map (·.1)).getD i Value.none) = (p.toList.map fun i => items.getD i (Value.none, 0, 0)).map (·.1) := by
        rw [List.map_map]
        apply List.map_congr_left
        intro i hi
        obtain ⟨o, e1, e2, e3⟩ := hkey i (List.mem_range.mp ((List.Perm.mem_iff hpv).mp hi))
        rw [e2]
        show o.1 = (items.getD i (Value.none, 0, 0)).1
        rw [List.getD_eq_getElem?_getD, e1]; rfl
      have ek : (p.toList.map fun i => items.getD i (Value.none, 0, 0)).map (·.2) = p.toList.map fun i => (items.map (·.2)).getD i (0, 0) := by
        rw [List.map_map]
        apply List.map_congr_left
        intro i hi
        obtain ⟨o, e1, e2, e3⟩ := hkey i (List.mem_range.mp ((List.Perm.mem_iff hpv).mp hi))
        rw [e3]
        show (items.getD i (Value.none, 0, 0)).2 = o.2
        rw [List.getD_eq_getElem?_getD, e1]; rfl
      rw [eo] at N''
      have hall : ((List.range items.length).map fun i => items.getD i (Value.none, 0, 0)) = items := by
        apply List.ext_getElem?
        intro i
        rw [List.getElem?_map]
        by_cases hi : i < items.length
        · rw [List.getElem?_range hi, Option.map_some, List.getD_eq_getElem?_getD, List.getElem?_eq_getElem hi]; rfl
        · rw [List.getElem?_eq_none (by simpa using hi), List.getElem?_eq_none (by omega)]; rfl
      have hperm : (p.toList.map fun i => items.getD i (Value.none, 0, 0)).Perm items := by
        have := List.Perm.map (fun i => items.getD i (Value.none, 0, 0)) hpv
        rw [hall] at this
        exact this
      refine hret D _ c h'' (hperm.map _) ?_ (fun o ho => hti o (hperm.mem_iff.mp ho)) hD F'' N''
      rw [ek, List.pairwise_map, List.pairwise_iff_getElem]
      intro i j hi hj hij
      have h1 : i < p.size := by simpa using hi
      have h2 : j < p.size := by simpa using hj
      have := hps i j hij (by rw [← hpv.size]; exact h2)
      rw [Array.getD_eq_getD_getElem?, Array.getElem?_eq_getElem h1, Array.getD_eq_getD_getElem?, Array.getElem?_eq_getElem h2] at this
      simp only [Option.getD_some, lt2, decide_eq_true_eq] at this
      unfold le2
      simp only [Array.getElem_toList]
      omega
theorem le2_anti {a b : Int × Int} (h1 : le2 a b) (h2 : le2 b a) : a = b := by
  unfold le2 at *
  exact Prod.ext (by omega) (by omega)
/-- two sorted orders of the same pairs are one -/
theorem sorted_unique : ∀ {l l' : List (Int × Int)}, l.Perm l' → l.Pairwise le2 → l'.Pairwise le2 → l = l'
  | [], l', hp, _, _ => (List.nil_perm.mp hp).symm
  | a :: l, [], hp, _, _ => absurd hp.symm (by simp)
  | a :: l, b :: l', hp, h1, h2 => by
    rw [List.pairwise_cons] at h1 h2
    have e : a = b := by
      have ha : a ∈ b :: l' := hp.mem_iff.mp (.head _)
      have hb : b ∈ a :: l := hp.mem_iff.mpr (.head _)
      rcases List.mem_cons.mp ha with h | ha
      · exact h
      · rcases List.mem_cons.mp hb with h | hb
        · exact h.symm
        · exact le2_anti (h1.1 b hb) (h2.1 a ha)
    subst e
    rw [sorted_unique ((List.perm_cons a).mp hp) h1.2 h2.2]
theorem two_eq {x y : Value} {k : Int × Int} {news' : List (Addr × Obj)} (N : News h₀ L s.heap news) (N' : News h₀ L s.heap news') (hx : TwoIn news x k) (hy : TwoIn news' y k) (hu : A.units < cLine) : EqAt A s x y true := by
  obtain ⟨a, t1, t2, n, rfl, ha⟩ := hx
  obtain ⟨b, u1, u2, n', rfl, hb⟩ := hy
  by_cases e : a = b
  · subst e; exact EqAt.same _
  · have la : s.heap.IsTuple a #[.int k.1 t1, .int k.2 t2] := ⟨_, (N _ ha).1, rfl, n, rfl⟩
    have lb : s.heap.IsTuple b #[.int k.1 u1, .int k.2 u2] := ⟨_, (N' _ hb).1, rfl, n', rfl⟩
    refine EqAt.of_refs e (RcAt.tuples (e := fun _ => true) la lb hu (fun j h1 _ => ?_))
    have h3 : j < 2 := h1
    match j, h3 with
    | 0, _ => exact (by simpa using EqAt.int_int (A := A.in1) (s := s) k.1 t1 k.1 u1)
    | 1, _ => exact (by simpa using EqAt.int_int (A := A.in1) (s := s) k.2 t2 k.2 u2)
theorem twos_eq {a b : Addr} {xs ys : List (Value × Int × Int)} {na nb : Nat} {news' : List (Addr × Obj)} {Q : Value → Shared → Prop} (N : News h₀ L s.heap news) (N' : News h₀ L s.heap news') (ha : (a, W.listOf (xs.map (·.1)).toArray na) ∈ news) (hb : (b, W.listOf (ys.map (·.1)).toArray nb) ∈ news')
    (hx : ∀ o ∈ xs, TwoIn news o.1 o.2) (hy : ∀ o ∈ ys, TwoIn news' o.1 o.2) (he : xs.map (·.2) = ys.map (·.2)) (hu : A.units + 2 < cLine) (h : Q (.bool true) s) :
    wpAny (model prog w) A (compareOp .Eq (.ref a) (.ref b)) Q E s := by
  refine cmp_ofEq ?_
  have la : s.heap.IsList a (xs.map (·.1)).toArray := ⟨_, (N _ ha).1, rfl, na, rfl⟩
  have lb : s.heap.IsList b (ys.map (·.1)).toArray := ⟨_, (N' _ hb).1, rfl, nb, rfl⟩
  have hlen : xs.length = ys.length := by have := congrArg List.length he; simpa using this
  have := RcAt.lists (A := A) (e := fun _ => true) la lb (by simp [hlen]) (by omega) (fun j h1 h2 => ?_)
  · refine this prog w E Q ?_
    rw [show ∀ l : List Nat, (l.all fun _ => true) = true from fun l => by induction l <;> simp_all]
    exact h
  · have h1' : j < xs.length := by simpa using h1
    have h2' : j < ys.length := by simpa using h2
    have ek : xs[j].2 = ys[j].2 := by
      have := congrArg (fun l => l[j]?) he
      simp only [List.getElem?_map, List.getElem?_eq_getElem h1', List.getElem?_eq_getElem h2', Option.map_some, Option.some.injEq] at this
      exact this
    have := two_eq (A := A.in1) N N' (hx xs[j] (List.getElem_mem _)) (by rw [ek]; exact hy ys[j] (List.getElem_mem _)) (by show A.units + 1 < cLine; omega)
    simpa using this
end
end Mine
end
section
open PySem PySem.W PyProof.Rows PySem.SeqAt
namespace Mine
section
variable {prog : Program} {w : World} {p : Program} {loose : List Str} {mean : ExcName → Option Value} {mg mb : Str → Option Value}
    {dp un : Nat} {gd : Option (List Code)} {cn : Str} {cs : Scope} {a : Addr} {ccd : Value} {cl : List (Str × Addr)} {outer : List Env} {A₀ : Around} {base h₀ : Heap} {L : Addr} {m : Str → Option Value} {news : List (Addr × Obj)} {s : Shared}
    {Q E : Value → Shared → Prop}
local macro_rules | `(tactic| walk_at "subscriptTail Attribute Slice ref ref") => `(tactic| refine halt ?_)
local macro_rules | `(tactic| k_mem) => `(tactic| first | assumption | exact List.Mem.head _ | (refine' List.mem_cons_of_mem _ ?_; k_mem))
set_option maxRecDepth 100000 in
set_option maxHeartbeats 8000000 in
theorem items_call {x dx H : Addr} {hs : Int} {tk0 : Tok} {nd n : Nat} {vs : List Value}
    (B : Below A₀ base outer h₀) (F : Fr h₀ L s.heap m) (X : (hd.heap_39 w.params).In h₀) (N : News h₀ L s.heap news) (T : Top p loose mean mg mb h₀) (hk : cs.kind = .function)
    (hdp : dp + 12 < recursionLimit) (hun : un + 120 < cLine)
    (hx : (x, instObj 182 dx) ∈ news) (hdx : (dx, dictOf [DictEntry.mk hs (.str (Str.ofString "_headers") tk0) (.ref H)] nd) ∈ news) (hH : (H, W.listOf vs.toArray n) ∈ news)
    (hsz : vs.length ≤ 1000)
    (hret : ∀ D n' h' tk', Fr h₀ L h' m → News h₀ L h' ((D, W.listOf vs.toArray n') :: news) → (∀ p ∈ news, p.1 ≠ D) → Q (.ref D) { s with heap := h', toks := tk' }) :
    wpAny (model prog w) (ktrTop dp un gd cn cs L a ccd cl outer) (call (.ref 146) [.ref x]) Q E s := by
  refine wpAny_call ?_
  k_dflt ktr_enter
  k_steps
  refine kmk_slice (by k_asm) (by k_asm) (News.isList (by k_asm) hH) IsPart.none IsPart.none ?_ (by with_unfolding_all rfl) (by intro _; with_unfolding_all rfl) (by rw [sizeLine_eq]; simp; omega)
  intro D h5 F5 N5 l5
  rw [slicePick_all] at N5
  k_steps
  rename Fr h₀ _ _ _ => F7
  rename News h₀ _ _ _ => N7
  exact hret D 0 _ _ F7 N7 (fun q hq => Nat.ne_of_lt (l5 q hq))
end
section
variable {prog : Program} {w : World} {A : Around} {E : Value → Shared → Prop} {s : Shared} {h₀ : Heap} {L : Addr} {news : List (Addr × Obj)}
theorem pair_eq {x y : Value} {c d : Nat} {news' : List (Addr × Obj)} (N : News h₀ L s.heap news) (N' : News h₀ L s.heap news') (hx : PairIn news x c d) (hy : PairIn news' y c d) (hu : A.units < cLine) : EqAt A s x y true := by
  obtain ⟨a, t1, t2, n, rfl, ha⟩ := hx
  obtain ⟨b, u1, u2, n', rfl, hb⟩ := hy
  by_cases e : a = b
  · subst e; exact EqAt.same _
  · have la : s.heap.IsTuple a #[.str ⟨#[c]⟩ t1, .str ⟨#[d]⟩ t2] := ⟨_, (N _ ha).1, rfl, n, rfl⟩
    have lb : s.heap.IsTuple b #[.str ⟨#[c]⟩ u1, .str ⟨#[d]⟩ u2] := ⟨_, (N' _ hb).1, rfl, n', rfl⟩
    refine EqAt.of_refs e (RcAt.tuples (e := fun _ => true) la lb hu (fun j h1 _ => ?_))
    have h3 : j < 2 := h1
    match j, h3 with
    | 0, _ => exact (by simpa using EqAt.str_str (A := A.in1) (s := s) ⟨#[c]⟩ t1 ⟨#[c]⟩ u1)
    | 1, _ => exact (by simpa using EqAt.str_str (A := A.in1) (s := s) ⟨#[d]⟩ t2 ⟨#[d]⟩ u2)
theorem pairs_ne {a b : Addr} {xs ys : List (Value × Nat × Nat)} {na nb : Nat} {news' : List (Addr × Obj)} {Q : Value → Shared → Prop} (N : News h₀ L s.heap news) (N' : News h₀ L s.heap news') (ha : (a, W.listOf (xs.map (·.1)).toArray na) ∈ news) (hb : (b, W.listOf (ys.map (·.1)).toArray nb) ∈ news')
    (hx : ∀ o ∈ xs, PairIn news o.1 o.2.1 o.2.2) (hy : ∀ o ∈ ys, PairIn news' o.1 o.2.1 o.2.2) (he : xs.map (·.2) = ys.map (·.2)) (hu : A.units + 2 < cLine) (h : Q (.bool false) s) :
    wpAny (model prog w) A (compareOp .NotEq (.ref a) (.ref b)) Q E s := by
  refine cmp_ofNotEq ?_
  have la : s.heap.IsList a (xs.map (·.1)).toArray := ⟨_, (N _ ha).1, rfl, na, rfl⟩
  have lb : s.heap.IsList b (ys.map (·.1)).toArray := ⟨_, (N' _ hb).1, rfl, nb, rfl⟩
  have hlen : xs.length = ys.length := by have := congrArg List.length he; simpa using this
  have := RcNeAt.lists (A := A) (e := fun _ => true) la lb (by simp [hlen]) (by omega) (fun j h1 h2 => ?_)
  · refine this prog w E Q ?_
    rw [show ∀ l : List Nat, (l.all fun _ => true) = true from fun l => by induction l <;> simp_all]
    exact h
  · have h1' : j < xs.length := by simpa using h1
    have h2' : j < ys.length := by simpa using h2
    have ek : xs[j].2 = ys[j].2 := by
      have := congrArg (fun l => l[j]?) he
      simp only [List.getElem?_map, List.getElem?_eq_getElem h1', List.getElem?_eq_getElem h2', Option.map_some, Option.some.injEq] at this
      exact this
    have := pair_eq (A := A.in1) N N' (hx xs[j] (List.getElem_mem _)) (by rw [ek]; exact hy ys[j] (List.getElem_mem _)) (by show A.units + 1 < cLine; omega)
    simpa using this
end
end Mine
end
section
namespace Mine
local macro_rules | `(tactic| walk_at "call ref") => `(tactic| ((fail_if_success (with_reducible show wpAny _ _ (call (.ref 182) _) _ _ _)); refine halt ?_))
local macro_rules | `(tactic| walk_at "compareOp NotEq ref ref") => `(tactic| refine halt ?_)
local macro_rules | `(tactic| walk_at "compareOp Eq ref ref") => `(tactic| refine halt ?_)
local macro_rules | `(tactic| walk_at "call builtin:len") => `(tactic| refine halt ?_)
local macro_rules | `(tactic| walk_at "call builtin:sorted") => `(tactic| refine halt ?_)
local macro_rules | `(tactic| walk_at "CompSrc") => `(tactic| refine halt ?_)
local macro_rules | `(tactic| walk_at "eval ListComp") => `(tactic| (k_here; k_dflt (refine LCg.ListComp_U (F₀ := by k_asm) (by with_unfolding_all rfl) (by decide) (by rfl) (by decide) (by rfl) ?_)))
local macro_rules | `(tactic| k_mem) => `(tactic| first | assumption | exact List.Mem.head _ | (refine' List.mem_cons_of_mem _ ?_; k_mem))
theorem cards_any {sc : List Int} {cv : List Value} (h : IntsAre cv ((sc.take 6 ++ [12, 9, 3, 20]).map card)) : ∃ cards, IntsAre cv cards ∧ 4 ≤ cards.length ∧ cards.length ≤ 10 := by
  refine ⟨_, h, ?_, ?_⟩
  · simp
  · have := List.length_take_le 6 sc
    simp only [List.length_map, List.length_append, List.length_cons, List.length_nil]
    omega
theorem news_rot {h₀ g : Heap} {L : Addr} {a b c : Addr × Obj} {r : List (Addr × Obj)} (N : News h₀ L g (a :: b :: c :: r)) : News h₀ L g (c :: a :: b :: r) := news_sub N _ fun q hq => by
  simp only [List.mem_cons] at hq ⊢
  rcases hq with h | h | h | h <;> simp [h]
theorem st_cell {M : Model} {A : Around} {E : Value → Shared → Prop} {s : Shared} {name : Str} {scope : Scope} {L a : Addr} {cd : Value} {h₀ : Heap} {m : Str → Option Value} {news : List (Addr × Obj)} {x : Str} {c : Addr} {o : Obj} {v₀ : Option Value} {v : Value} {Q : Unit → Shared → Prop}
    (hc : (cellsFrom (L + 1) scope.names []).lookup x = some c) (F : Fr h₀ L s.heap m) (N : News h₀ L s.heap news) (hm : (c, o) ∈ news) (hd : o.data = .cell v₀)
    (h : ∀ h' o', Fr h₀ L h' m → (∀ nw', (∀ q ∈ nw', q = (c, o') ∨ (q ∈ news ∧ q.1 ≠ c)) → News h₀ L h' nw') → o'.data = .cell (some v) → Q () { s with heap := h' })
    (hk : scope.kind = .function := by rfl) (hl : (envOfC name scope L a cd).kindOf x = some .cell := by rfl) :
    wpAny M A (storeName (envOfC name scope L a cd) x v) Q E s := by
  refine stCN (c := c) (o := o) (own := []) (rest := news.filter fun q => decide (q.1 ≠ c)) F (fun q hq => ?_) hc hd (fun _ h => nomatch h) (fun q hq => ?_) (fun h' o' F' N' hd' => h h' o' F' (fun nw' hn q hq => N' q ?_) hd') hk hl
  · rcases List.mem_cons.mp hq with rfl | hq
    · exact N _ hm
    · exact N q (List.mem_filter.mp hq).1
  · simpa using (List.mem_filter.mp hq).2
  · rcases hn q hq with rfl | ⟨h1, h2⟩
    · exact .head _
    · exact .tail _ (List.mem_filter.mpr ⟨h1, by simpa using h2⟩)
theorem off_cell {h₀ g : Heap} {L : Addr} {news : List (Addr × Obj)} {c : Addr} {o : Obj} {v : Option Value} (N : News h₀ L g news) (hm : (c, o) ∈ news) (hd : o.data = .cell v) {q : Addr × Obj} (hq : q ∈ news) (hn : ∀ v, q.2.data ≠ .cell v) : q.1 ≠ c := by
  intro e
  have h1 := (N _ hm).1
  have h2 := (N _ hq).1
  rw [e] at h2
  have h3 : o = q.2 := Option.some.inj (h1.symm.trans h2)
  rw [h3] at hd
  exact hn _ hd
theorem pair_head {h₀ g : Heap} {L D : Addr} {nw : List (Addr × Obj)} {c d : Nat} {t1 t2 : Tok} {n : Nat} (N : News h₀ L g ((D, ({ cls := .type "tuple", data := .seq #[.str ⟨#[c]⟩ t1, .str ⟨#[d]⟩ t2] n } : Obj)) :: nw)) :
    ∃ ob, News h₀ L g ((D, ob) :: nw) ∧ PairIn [(D, ob)] (.ref D) c d := ⟨_, N, D, t1, t2, n, rfl, .head _⟩
theorem keep_cell {h₀ g g' : Heap} {L : Addr} {old : List (Addr × Obj)} {c : Addr} {o o' : Obj} {v : Option Value} (N : News h₀ L g old) (hm : (c, o) ∈ old) (hd : o.data = .cell v) (N4 : ∀ nw', (∀ q ∈ nw', q = (c, o') ∨ (q ∈ old ∧ q.1 ≠ c)) → News h₀ L g' nw') :
    ∃ nw, News h₀ L g' nw ∧ (c, o') ∈ nw ∧ (∀ q ∈ old, (∀ v, q.2.data ≠ .cell v) → q ∈ nw) ∧ (∀ q ∈ old, q.1 ≠ c → q ∈ nw) := by
  refine ⟨(c, o') :: old.filter fun q => decide (q.1 ≠ c), N4 _ (fun q hq => ?_), .head _, fun q hq hn => ?_, fun q hq hn => ?_⟩
  · rcases List.mem_cons.mp hq with h | h
    · exact .inl h
    · exact .inr ⟨(List.mem_filter.mp h).1, by simpa using (List.mem_filter.mp h).2⟩
  · exact .tail _ (List.mem_filter.mpr ⟨hq, by simpa using off_cell N hm hd hq hn⟩)
  · exact .tail _ (List.mem_filter.mpr ⟨hq, by simpa using hn⟩)
set_option maxRecDepth 100000 in
set_option maxHeartbeats 8000000 in
theorem holds : PySem.Challenge.rw_nb0241_01.Holds := hd (by
  k_go0
  all_goals try k_fold
  k_steps
  rename Heap.IsList _ _ _ => hS
  rename IntsAre _ _ => hsv
  rename (¬ (_ : Int) < _) => hlen
  refine unhalt ?_
  refine cards_call (by k_asm) (by k_asm) (by k_asm) (by k_asm) (by k_asm) rfl (by ktr_room) (by ktr_units) hS hsv (by omega) ?_
  intro CL cv nc h1 tk1 hcv hnC F1 N1
  obtain ⟨cards, hcc, hc4, hc10⟩ := cards_any hcv
  clear hcv
  k_steps
  rename News _ _ _ _ => N9
  refine unhalt ?_
  refine laid_call (by k_asm) (by k_asm) (by k_asm) (news_rot N9) (by k_asm) rfl (by ktr_room) (by ktr_units) (by k_all) (.head _) (.tail _ (.head _)) (by k_mem) hcc hc10 ?_
  intro ps hv tl nH h2 tk2 hLd hpl hcd hpr hoH F2 N2
  k_steps
  refine unhalt ?_
  refine rises_call (by k_asm) (by k_asm) (by k_asm) (by k_asm) (by k_asm) rfl (by ktr_room) (by ktr_units) (List.mem_cons_of_mem _ (List.mem_append_right _ (by k_mem))) hcc hc10 ?_
  intro RL rv rs nR h3 tk3 hRs hrl hrv hnR F3 N3
  have hpat := patience hLd hRs (by rw [hrl, hpl])
  k_steps
  have F3b := F3
  refine' st_cell ?hc F3 N3 ?hm ?hd ?_
  case hc => exact rfl
  case hm => repeat' (first | exact List.Mem.head _ | refine List.mem_cons_of_mem _ ?_ | refine List.mem_append_right _ ?_)
  case hd => assumption
  intro h4 o4 F4 N4 d4
  obtain ⟨nw, N5, hc2, hkn, hkc⟩ := keep_cell (v := _) N3 (by repeat' (first | exact List.Mem.head _ | refine List.mem_cons_of_mem _ ?_ | refine List.mem_append_right _ ?_)) (by assumption) N4
  have hRL := hkn _ (.head _) (fun _ e => nomatch e)
  have hH := hkn _ (.tail _ (.head _)) (fun _ e => nomatch e)
  have hx := hkn _ (.tail _ (.tail _ (List.mem_append_right _ (.head _)))) (fun _ e => nomatch e)
  have hdx := hkn _ (.tail _ (.tail _ (List.mem_append_right _ (.tail _ (.head _))))) (fun _ e => nomatch e)
  have hCL := hkn _ (.tail _ (.tail _ (List.mem_append_right _ (.tail _ (.tail _ (.head _)))))) (fun _ e => nomatch e)
  have hc1 := hkc _ (.tail _ (.tail _ (List.mem_append_right _ (.tail _ (.tail _ (.tail _ (.tail _ (.head _)))))))) (Nat.ne_of_lt (Nat.lt_succ_self _))
  have hpn : ∀ y ∈ hv, PairIn nw y.1 y.2.1 y.2.2 := by
    intro y hy
    obtain ⟨a, t1, t2, n, e, hm⟩ := hpr y hy
    exact ⟨a, t1, t2, n, e, hkn _ (.tail _ (.tail _ (List.mem_append_left _ hm))) (fun _ e => nomatch e)⟩
  clear hkn hkc N4 N3 F3 F3b hnR N2 F2 hoH
  have hhv : hv.length = cards.length := by rw [← hpl, ← List.length_map (as := hv) (f := (·.2)), hcd, codesOf, List.length_map, List.length_zipIdx]
  have hcl := hcc.length
  have hrvl := hrv.length
  k_steps
  refine unhalt ?_
  refine items_call (by k_asm) (by k_asm) (by k_asm) (by k_asm) (by k_asm) rfl (by ktr_room) (by ktr_units) hx hdx hH (by simp; omega) ?_
  intro D5 n5 h5 tk5 F5 N6 hD5
  k_steps
  refine unhalt ?_
  refine list_len (k := cards.length) (by k_asm) (by k_mem) hcl (by omega) ?_
  k_steps
  rename IsRange _ _ _ _ _ _ _ _ => hR8
  rename Fr _ _ _ _ => F8
  rename News _ _ _ _ => N8
  refine unhalt ?_
  refine LCg.CompSrc.range rfl F8 N8 hR8 (rng_small (by omega)) (rng_size _) (by rw [sizeLine_eq]; omega) ?_
  intro g9
  refine comp_N (fun j ys nx => ∃ pv : List (Value × Nat × Nat), ys = pv.map (·.1) ∧ pv.map (·.2) = (codesOf ps).take j ∧ (∀ y ∈ pv, PairIn nx y.1 y.2.1 y.2.2) ∧ (∀ q ∈ (D5, W.listOf (hv.map (·.1)).toArray n5) :: nw, q ∈ nx)) ⟨[], rfl, rfl, (fun _ h => nomatch h), fun _ h => h⟩ ?_ ?_
  · rintro j v I oI C oC2 D m₂ ys nx h6 tk6 E' hj ⟨tj, rfl⟩ ⟨pv, rfl, hpv, hpi, hsub⟩ hC hx2 F6 N7 off ne
    have hRL2 := hsub _ (.tail _ hRL)
    have hCL2 := hsub _ (.tail _ hCL)
    have hc12 := hsub _ (.tail _ hc1)
    have hc22 := hsub _ (.tail _ hc2)
    rw [Int.zero_add] at hx2
    obtain ⟨k, hk⟩ : ∃ k, ps[j]? = some k := ⟨_, List.getElem?_eq_getElem (by omega)⟩
    have hk12 : k < 12 := Nat.lt_of_lt_of_le (hLd.lt k (List.mem_of_getElem? hk)) (by omega)
    have hgi : rs.getD (j : Int).toNat 0 - 1 = (k : Int) := by
      rw [Int.toNat_natCast, hpat, List.getD_eq_getElem?_getD, List.getElem?_map, hk]; simp
    have hdg := (int_is (by omega : j < 10)).2
    k_steps
    refine unhalt ?_
    refine spelled_call (k := k) (q := j) (by k_asm) (by k_asm) (by k_asm) (by k_asm) (by k_asm) rfl (by ktr_room) (by ktr_units) hgi rfl hk12 ?_
    intro t7 h7 tk7 F7 N8
    k_steps
    rename Fr _ _ _ _ => F8
    rename News _ _ _ _ => N9
    rename (_ < _ ∧ _ < _ ∧ _ < _ ∧ AllLt _ _) => l8
    rename_i D8 h8
    rw [hdg] at N9
    obtain ⟨ob8, N10, hpo⟩ := pair_head N9
    refine LCg.CompEnd.intro F8 N10 ((D8, ob8) :: nx) ?_ ⟨⟨Nat.ne_of_gt l8.1, Nat.ne_of_gt l8.2.1, Nat.ne_of_gt l8.2.2.1⟩, off⟩ trivial ⟨pv ++ [(.ref D8, spc k j, 48 + j)], ?_, ?_, ?_, ?_⟩
    · intro q hq
      simp only [List.mem_cons] at hq ⊢
      rcases hq with h | h | h | h | h <;> simp [h]
    · rw [List.map_append]; rfl
    · rw [List.map_append, hpv, List.take_add_one]
      congr 1
      unfold codesOf
      rw [List.getElem?_map, List.getElem?_zipIdx, hk]
      simp
    · intro y hy
      rcases List.mem_append.mp hy with hy | hy
      · exact (hpi y hy).mono fun q hq => .tail _ hq
      · rw [List.mem_singleton.mp hy]
        exact hpo.mono fun q hq => by rw [List.mem_singleton.mp hq]; exact .head _
    · intro q hq
      exact .tail _ (hsub q hq)
  · rintro ys nx ⟨pv, rfl, hpv, hpi, hsub⟩
    k_steps
    rename Fr _ _ _ _ => F11
    rename News _ _ _ _ => N11
    refine unhalt ?_
    have hcdl : (codesOf ps).length ≤ cards.length := by rw [← hcd, List.length_map, hhv]; exact Nat.le_refl _
    refine pairs_ne N11 N11 (xs := hv) (ys := pv) (.tail _ (hsub _ (.head _))) (.head _) (fun o ho => (hpn o ho).mono fun q hq => .tail _ (hsub _ (.tail _ hq))) (fun o ho => (hpi o ho).mono fun q hq => .tail _ hq) ?_ (by ktr_units) ?_
    · rw [hpv, hcd, List.take_of_length_le hcdl]
    have N12 := news_sub N11 nx fun q hq => .tail _ hq
    clear N11
    have hx2 := hsub _ (.tail _ hx)
    have hdx2 := hsub _ (.tail _ hdx)
    have hH2 := hsub _ (.tail _ hH)
    have hCL2 := hsub _ (.tail _ hCL)
    have hc12 := hsub _ (.tail _ hc1)
    have hpn2 : ∀ o ∈ hv, PairIn nx o.1 o.2.1 o.2.2 := fun o ho => (hpn o ho).mono fun q hq => hsub _ (.tail _ hq)
    clear hsub hpi hpv hx hdx hH hCL hc1 hpn hD5 hc2 hRL
    k_steps
    refine unhalt ?_
    refine gathered_call (by k_asm) (by k_asm) (by k_asm) N12 (by k_asm) rfl (by ktr_room) (by ktr_units) hx2 hdx2 hH2 hLd hpl hcd hpn2 hCL2 hcc hc10 ?_
    intro OU outs tl2 no h13 tk13 hpm hps hot hnO F13 N13
    have hCL3 := List.mem_cons_of_mem (OU, W.listOf (outs.map (·.1)).toArray no) (List.mem_append_right tl2 hCL2)
    have hc13 := List.mem_cons_of_mem (OU, W.listOf (outs.map (·.1)).toArray no) (List.mem_append_right tl2 hc12)
    have hOU := List.mem_cons_self (a := (OU, W.listOf (outs.map (·.1)).toArray no)) (l := tl2 ++ nx)
    have hot2 : ∀ o ∈ outs, TwoIn ((OU, W.listOf (outs.map (·.1)).toArray no) :: (tl2 ++ nx)) o.1 o.2 := fun o ho => (hot o ho).mono fun q hq => .tail _ (List.mem_append_left _ hq)
    generalize (OU, W.listOf (outs.map (·.1)).toArray no) :: (tl2 ++ nx) = nz at N13 hCL3 hc13 hOU hot2
    clear hCL2 hc12 hot hnO N12
    k_steps
    refine unhalt ?_
    refine list_len (k := cards.length) (by k_asm) (by k_mem) hcl (by omega) ?_
    k_steps
    rename IsRange _ _ _ _ _ _ _ _ => hR14
    rename Fr _ _ _ _ => F14
    rename News _ _ _ _ => N14
    refine unhalt ?_
    refine LCg.CompSrc.range rfl F14 N14 hR14 (rng_small (by omega)) (rng_size _) (by rw [sizeLine_eq]; omega) ?_
    intro g15
    refine comp_N (fun j ys nx => ∃ tv : List (Value × Int × Int), ys = tv.map (·.1) ∧ tv.map (·.2) = (List.range j).map (key2 cards) ∧ (∀ y ∈ tv, TwoIn nx y.1 y.2) ∧ (∀ q ∈ nz, q ∈ nx)) ⟨[], rfl, rfl, (fun _ h => nomatch h), fun _ h => h⟩ ?_ ?_
    · rintro j v I oI C oC2 D m₂ ys ny h16 tk16 E' hj ⟨tj, rfl⟩ ⟨tv, rfl, htv, hti, hsub⟩ hC hx3 F16 N16 off ne
      have hCL4 := hsub _ hCL3
      have hc14 := hsub _ hc13
      rw [Int.zero_add] at hx3
      k_steps
      rename Fr _ _ _ _ => F17
      rename News _ _ _ _ => N17
      rename (_ < _ ∧ _ < _ ∧ _ < _ ∧ AllLt _ _) => l17
      rename_i D17 h17
      rw [Int.toNat_natCast] at N17
      obtain ⟨ob17, N18, hpo⟩ := two_head N17
      refine LCg.CompEnd.intro F17 N18 ((D17, ob17) :: ny) ?_ ⟨⟨Nat.ne_of_gt l17.1, Nat.ne_of_gt l17.2.1, Nat.ne_of_gt l17.2.2.1⟩, off⟩ trivial ⟨tv ++ [(.ref D17, key2 cards j)], ?_, ?_, ?_, ?_⟩
      · intro q hq
        simp only [List.mem_cons] at hq ⊢
        rcases hq with h | h | h | h | h <;> simp [h]
      · rw [List.map_append]; rfl
      · rw [List.map_append, htv, List.range_succ, List.map_append]; rfl
      · intro y hy
        rcases List.mem_append.mp hy with hy | hy
        · exact (hti y hy).mono fun q hq => .tail _ hq
        · rw [List.mem_singleton.mp hy]
          exact hpo.mono fun q hq => by rw [List.mem_singleton.mp hq]; exact .head _
      · intro q hq
        exact .tail _ (hsub q hq)
    · rintro ys ny ⟨tv, rfl, htv, hti, hsub⟩
      k_steps
      rename Fr _ _ _ _ => F19
      rename News _ _ _ _ => N19
      refine unhalt ?_
      have htl : tv.length = cards.length := by have := congrArg List.length htv; simpa using this
      refine sorted_two F19 N19 (items := tv) (.head _) (fun o ho => (hti o ho).mono fun q hq => .tail _ hq) ?_ (by omega) (by omega) ?_
      · rw [htv]
        refine List.pairwise_map.mpr (List.Pairwise.imp ?_ List.nodup_range)
        intro a b hab e
        have := congrArg Prod.snd e
        simp only [key2] at this
        omega
      intro DS out ns h20 hop hos hoi hDS F20 N20
      k_steps
      refine unhalt ?_
      refine twos_eq (xs := outs) (ys := out) N20 N20 (.tail _ (.tail _ (hsub _ hOU))) (.head _) (fun o ho => (hot2 o ho).mono fun q hq => .tail _ (.tail _ (hsub _ hq))) (fun o ho => (hoi o ho).mono fun q hq => .tail _ hq) ?_ (by ktr_units) ?_
      · exact sorted_unique (hpm.trans (htv ▸ hop).symm) hps hos
      k_steps)
end Mine
end
theorem PySem.Challenge.cw_nb0241_01_holds : PySem.Challenge.rw_nb0241_01.Holds :=
  Mine.holds
#print axioms PySem.Challenge.cw_nb0241_01_holds
