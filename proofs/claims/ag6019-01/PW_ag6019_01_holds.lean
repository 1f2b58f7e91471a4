import PyProof.Rows.All
import Wide.All
import OpenK.AllK
import Wide.FinOn
import PySem.Challenge.RW_ag6019_01
open PySem PySem.W PyProof.Rows
set_option Elab.async false
set_option rowWalk.seconds 3000
namespace Mine
set_option maxRecDepth 100000 in
set_option maxHeartbeats 8000000 in
open_top hd for PySem.Challenge.rw_ag6019_01
end Mine
namespace Mine
abbrev Led := List (Addr × Obj)
/-- a contract of the def at f: whatever calls it with vs -/
abbrev Claim (w : World) (mean : ExcName → Option Value) (mg mb : Str → Option Value) (lv : Nat) (f : Addr) (news : Led) (pre : Prop) (vs : List Value)
    (Ret : Heap → Addr → (Str → Option Value) → Shared → (Value → Shared → Prop) → Prop) : Prop :=
  ∀ (dp un : Nat) (gd : Option (List Code)) (cn : Str) (cs : Scope) (a : Addr) (ccd : Value) (cl : List (Str × Addr)) (outer : List Env) (A₀ : Around) (base h₀ : Heap) (L : Addr) (m : Str → Option Value) (s : Shared) (Q E : Value → Shared → Prop),
    Below A₀ base outer h₀ → Fr h₀ L s.heap m → (Mine.hd.heap_39 w.params).In h₀ → News h₀ L s.heap news → Top Mine.hd.view_39 (looseW Mine.hd.view_39 []) mean mg mb h₀ → cs.kind = .function →
    pre → dp + lv < recursionLimit → un + 8 * lv < cLine → Ret h₀ L m s Q →
    wpAny (model PySem.Challenge.rw_ag6019_01.row.prog w) (ktrTop dp un gd cn cs L a ccd cl outer) (call (.ref f) vs) Q E s
/-- a flat value comes back, the ledger stands -/
abbrev RetV (news : Led) (R : Tok → Value) (h₀ : Heap) (L : Addr) (m : Str → Option Value) (s : Shared) (Q : Value → Shared → Prop) : Prop :=
  ∀ (t : Tok) (h' : Heap) (tk' : Nat), Fr h₀ L h' m → News h₀ L h' news → Q (R t) { s with heap := h', toks := tk' }
/-- a turn's end under my_while: the library's own, under a name that no line of the walk takes -/
def MEnd {σ : Type} (h₀ : Heap) (L : Addr) (s : Shared) (Led : σ → List (Addr × Obj)) (ps : σ → List (Str × Value)) (stored : List Str) (m₀ : Str → Option Value) (P : σ → Prop) (μ : σ → Nat) (c : σ) (s₂ : Shared) : Prop :=
  KswEnd h₀ L s Led ps (fun _ => True) stored m₀ P μ c s₂
def MPost {σ : Type} (h₀ : Heap) (L : Addr) (s : Shared) (Led : σ → List (Addr × Obj)) (ps : σ → List (Str × Value)) (stored : List Str) (m₀ : Str → Option Value) (P : σ → Prop) (μ : σ → Nat) (Q : Flow → Shared → Prop) (c : σ) (f : Flow) (s₂ : Shared) : Prop :=
  match f with
  | .ret v => Q (.ret v) s₂
  | .brk => Q .next s₂
  | _ => MEnd h₀ L s Led ps stored m₀ P μ c s₂
theorem my_end {σ : Type} {h₀ : Heap} {L : Addr} {s : Shared} {Led : σ → List (Addr × Obj)} {ps : σ → List (Str × Value)} {stored : List Str} {m₀ m' : Str → Option Value} {P : σ → Prop} {μ : σ → Nat} {c : σ} {h' : Heap} {tk : Nat} (c' : σ)
    (F : Fr h₀ L h' m') (N : News h₀ L h' (Led c')) (hk : ∀ p ∈ ps c', m' p.1 = some p.2) (hr : ∀ z, (∀ p ∈ ps c', z ≠ p.1) → stored.contains z = false → m' z = m₀ z) (hp : P c') (hm : μ c' < μ c) :
    MEnd h₀ L s Led ps stored m₀ P μ c { s with heap := h', toks := tk } := ksw_end c' F N (fun _ h => h) trivial hk hr hp hm
theorem my_while {prog : Program} {w : World} {A : Around} {E : Value → Shared → Prop} {Q : Flow → Shared → Prop} {s : Shared} {env : Env} {h₀ : Heap} {L : Addr} {σ : Type} {test : PySem.Expr} {body : List Stmt} {pos : Pos} {m₀ : Str → Option Value}
    (Led : σ → List (Addr × Obj)) (ps : σ → List (Str × Value)) (stored : List Str) (P : σ → Prop) (μ : σ → Nat) (c₀ : σ)
    (F : Fr h₀ L s.heap m₀) (N : News h₀ L s.heap (Led c₀)) (hk : ∀ p ∈ ps c₀, m₀ p.1 = some p.2) (hp : P c₀)
    (turn : ∀ (c : σ) (u : Str → Option Value) h tk, P c → Fr h₀ L h (kstB (fun z => if stored.contains z then u z else m₀ z) (ps c)) → News h₀ L h (Led c) →
      wpAny (model prog w) A (isTrue test env (eval test env)) (fun b s₂ =>
        if b = true then wpAny (model prog w) A (execs body env) (MPost h₀ L s Led ps stored m₀ P μ Q c) E s₂ else Q .next s₂) E { s with heap := h, toks := tk })
    (hE : PassesOwn (model prog w) A env E := by passes_own) :
    wpAny (model prog w) A (exec (.While test body [] pos) env) Q E s := by
  refine ksw_while Led ps (fun _ => True) stored P μ c₀ F N trivial hk hp (fun c u h tk _ hp F N => ?_) hE
  refine wpAny_mono (turn c u h tk hp F N) (fun b s₂ x => ?_) fun _ _ x => x
  cases b with
  | false => exact x
  | true =>
    simp only [if_true] at x ⊢
    refine wpAny_mono x (fun f s₃ y => ?_) fun _ _ x => x
    cases f <;> exact y
/-- a turn's end under my_text, my_range -/
def FEnd {σ : Type} (h₀ : Heap) (L : Addr) (Led : σ → List (Addr × Obj)) (ps : σ → List (Str × Value)) (x : Str) (stored : List Str) (m₀ : Str → Option Value) (P : List Int → σ → Prop) (pre : List Int) (own : List (Addr × Obj)) (adr : List Addr) (s₁ s₂ : Shared) : Prop :=
  InvEndN h₀ L (KstS Led ps (fun _ => True) x stored m₀ P pre) own adr s₁ s₂
def FPost {σ : Type} (h₀ : Heap) (L : Addr) (Led : σ → List (Addr × Obj)) (ps : σ → List (Str × Value)) (x : Str) (stored : List Str) (m₀ : Str → Option Value) (P : List Int → σ → Prop) (pre : List Int) (own : List (Addr × Obj)) (adr : List Addr) (s₁ : Shared) (Q : Flow → Shared → Prop) (f : Flow) (s₂ : Shared) : Prop :=
  match f with
  | .ret v => Q (.ret v) s₂
  | .brk => Q .next s₂
  | _ => FEnd h₀ L Led ps x stored m₀ P pre own adr s₁ s₂
theorem my_fend {σ : Type} {h₀ : Heap} {L : Addr} {Led : σ → List (Addr × Obj)} {ps : σ → List (Str × Value)} {x : Str} {stored : List Str} {m₀ m' : Str → Option Value} {P : List Int → σ → Prop} {pre : List Int} {own news' : List (Addr × Obj)} {adr : List Addr} {s₁ : Shared} {h' : Heap} {tk : Nat} (c : σ)
    (F : Fr h₀ L h' m') (N : News h₀ L h' news') (hn : ∀ p ∈ Led c, p ∈ news') (ho : ∀ p ∈ own, p ∈ news') (ha : (Led c).map (·.1) = adr) (hk : ∀ p ∈ ps c, m' p.1 = some p.2) (hr : ∀ z, z ≠ x → (∀ p ∈ ps c, z ≠ p.1) → stored.contains z = false → m' z = m₀ z) (hp : P pre c) :
    FEnd h₀ L Led ps x stored m₀ P pre own adr s₁ { s₁ with heap := h', toks := tk } := kst_end c F N hn ho ha trivial hk hr hp
section
variable {prog : Program} {w : World} {A : Around} {E : Value → Shared → Prop} {s : Shared} {env : Env} {h₀ : Heap} {x : Str} {body : List Stmt} {Q : Flow → Shared → Prop}
theorem my_text {σ : Type} {xt : Str} {tx : Tok} {m₀ : Str → Option Value} (Led : σ → List (Addr × Obj)) (ps : σ → List (Str × Value)) (stored : List Str) (P : List Nat → σ → Prop) (c₀ : σ)
    (hh : A.handled = none) (F : Fr h₀ env.locals s.heap m₀) (N : News h₀ env.locals s.heap (Led c₀)) (hk : ∀ p ∈ ps c₀, m₀ p.1 = some p.2) (hp : P [] c₀)
    (turn : ∀ (c : σ) (pre post : List Nat) (n : Nat) t (u : Str → Option Value) h tk own (pre' : List Int), xt.cps.toList = pre ++ n :: post → pre'.map Int.toNat = pre ++ [n] → OwnOff own ((Led c₀).map (·.1)) → P pre c →
      Fr h₀ env.locals h (fun y => if y = x then some (.str ⟨#[n]⟩ t) else kstB (fun z => if stored.contains z then u z else m₀ z) (ps c) y) → News h₀ env.locals h (Led c ++ own) →
      wpAny (model prog w) A (execs body env) (FPost h₀ env.locals Led ps x stored m₀ (fun q c => P (q.map Int.toNat) c) pre' own ((Led c₀).map (·.1)) { s with heap := h, toks := tk } Q) E { s with heap := h, toks := tk })
    (done : ∀ (c : σ) (u : Str → Option Value) h tk, P xt.cps.toList c → Fr h₀ env.locals h (fun y => if y = x then u y else kstB (fun z => if stored.contains z then u z else m₀ z) (ps c) y) → News h₀ env.locals h (Led c) → Q .next { s with heap := h, toks := tk }) :
    wpAny (model prog w) A (pyIter (.str xt tx)) (fun it s₂ => LoopAtV prog w A h₀ env x body Q E it s₂) E s := by
  have ec : (KStt.codes xt).map Int.toNat = xt.cps.toList := congrArg (fun y => y.cps.toList) (KStt.txt_codes xt)
  refine KStt.kst_text Led ps (fun _ => True) stored (fun q c => P (q.map Int.toNat) c) c₀ hh F N trivial hk hp (fun c pre post n t u h tk own hc ho _ hp F N => ?_) (fun c u h tk _ hp F N => done c u h tk (by rw [ec] at hp; exact hp) F N)
  refine wpAny_mono (turn c (pre.map Int.toNat) (post.map Int.toNat) n t u h tk own (pre ++ [(n : Int)]) (by rw [← ec, hc]; simp) (by simp) ho hp F N) (fun f s₂ y => ?_) fun _ _ x => x
  cases f <;> exact y
theorem my_range {σ : Type} {r : Addr} {a₀ b₀ : Int} {t₀ u₀ v₀ : Tok} {n : Nat} {m₀ : Str → Option Value} (Led : σ → List (Addr × Obj)) (ps : σ → List (Str × Value)) (stored : List Str) (P : List Int → σ → Prop) (c₀ : σ)
    (hh : A.handled = none) (hr : IsRange s.heap r a₀ b₀ 1 t₀ u₀ v₀) (hsmall : Builtin.Range.small a₀ b₀ 1 = true) (hn : Builtin.Range.rangeSize a₀ b₀ 1 = (n : Int)) (F : Fr h₀ env.locals s.heap m₀) (N : News h₀ env.locals s.heap (Led c₀)) (hk : ∀ p ∈ ps c₀, m₀ p.1 = some p.2) (hp : P [] c₀)
    (turn : ∀ (c : σ) (pre : List Int) (k : Int) t (u : Str → Option Value) h tk own, k = a₀ + (pre.length : Int) → pre.length < n → OwnOff own ((Led c₀).map (·.1)) → P pre c →
      Fr h₀ env.locals h (fun y => if y = x then some (.int k t) else kstB (fun z => if stored.contains z then u z else m₀ z) (ps c) y) → News h₀ env.locals h (Led c ++ own) →
      wpAny (model prog w) A (execs body env) (FPost h₀ env.locals Led ps x stored m₀ P (pre ++ [k]) own ((Led c₀).map (·.1)) { s with heap := h, toks := tk } Q) E { s with heap := h, toks := tk })
    (done : ∀ (c : σ) (u : Str → Option Value) h tk, P (rangeKs a₀ n) c → Fr h₀ env.locals h (fun y => if y = x then u y else kstB (fun z => if stored.contains z then u z else m₀ z) (ps c) y) → News h₀ env.locals h (Led c) → Q .next { s with heap := h, toks := tk }) :
    wpAny (model prog w) A (pyIter (.ref r)) (fun it s₂ => LoopAtV prog w A h₀ env x body Q E it s₂) E s := by
  refine kst_range Led ps (fun _ => True) stored P c₀ hh hr hsmall hn F N trivial hk hp (fun c pre k t u h tk own e1 e2 ho _ hp F N => ?_) (fun c u h tk _ hp F N => done c u h tk hp F N)
  refine wpAny_mono (turn c pre k t u h tk own e1 e2 ho hp F N) (fun f s₂ y => ?_) fun _ _ x => x
  cases f <;> exact y
end
/-- a flat value comes back of which so much is said -/
abbrev RetE {α : Type} (news : Led) (R : α → Tok → Value) (P : α → Prop) (h₀ : Heap) (L : Addr) (m : Str → Option Value) (s : Shared) (Q : Value → Shared → Prop) : Prop :=
  ∀ (y : α) (t : Tok) (h' : Heap) (tk' : Nat), P y → Fr h₀ L h' m → News h₀ L h' news → Q (R y t) { s with heap := h', toks := tk' }
/-- a new list of texts comes back, put ahead of the ledger -/
abbrev RetL (news : Led) (xs : List Str) (h₀ : Heap) (L : Addr) (m : Str → Option Value) (s : Shared) (Q : Value → Shared → Prop) : Prop :=
  ∀ (a : Addr) (vs : List Value) (n : Nat) (h' : Heap) (tk' : Nat), Fr h₀ L h' m → News h₀ L h' ((a, listOf vs.toArray n) :: news) → StrsAre vs xs → (∀ p ∈ news, p.1 < a) → Q (.ref a) { s with heap := h', toks := tk' }
end Mine
namespace Mine
/-! a while by what its names hold, whatever else the frame holds; a statement cut off from what stands behind it -/
def WEnd {σ : Type} (h₀ : Heap) (L : Addr) (s : Shared) (Led : σ → List (Addr × Obj)) (ps : σ → List (Str × Value)) (P : σ → Prop) (μ : σ → Nat) (c : σ) (s₂ : Shared) : Prop :=
  ∃ (c' : σ) (h' : Heap) (tk : Nat) (m' : Str → Option Value), s₂ = { s with heap := h', toks := tk } ∧ Fr h₀ L h' m' ∧ News h₀ L h' (Led c') ∧ (∀ p ∈ ps c', m' p.1 = some p.2) ∧ P c' ∧ μ c' < μ c
def WPost {σ : Type} (h₀ : Heap) (L : Addr) (s : Shared) (Led : σ → List (Addr × Obj)) (ps : σ → List (Str × Value)) (P : σ → Prop) (μ : σ → Nat) (Q : Flow → Shared → Prop) (c : σ) (f : Flow) (s₂ : Shared) : Prop :=
  match f with
  | .ret v => Q (.ret v) s₂
  | .brk => Q .next s₂
  | _ => WEnd h₀ L s Led ps P μ c s₂
def Mid {σ : Type} (h₀ : Heap) (L : Addr) (s : Shared) (Led : σ → List (Addr × Obj)) (ps : σ → List (Str × Value)) (P : σ → Prop) (f : Flow) (s₂ : Shared) : Prop :=
  f = .next ∧ ∃ (c : σ) (h' : Heap) (tk : Nat) (m' : Str → Option Value), s₂ = { s with heap := h', toks := tk } ∧ Fr h₀ L h' m' ∧ News h₀ L h' (Led c) ∧ (∀ p ∈ ps c, m' p.1 = some p.2) ∧ P c
theorem frB {h₀ h : Heap} {L : Addr} {m : Str → Option Value} {ps : List (Str × Value)} (F : Fr h₀ L h m) (hk : ∀ p ∈ ps, m p.1 = some p.2) : Fr h₀ L h (kstB m ps) := by
  have : kstB m ps = m := funext fun y => kstB_eq hk fun _ => rfl
  rw [this]; exact F
theorem wend {σ : Type} {h₀ : Heap} {L : Addr} {s : Shared} {Led : σ → List (Addr × Obj)} {ps : σ → List (Str × Value)} {P : σ → Prop} {μ : σ → Nat} {c : σ} {h' : Heap} {tk : Nat} {m' : Str → Option Value} {news' : List (Addr × Obj)} (c' : σ)
    (F : Fr h₀ L h' m') (N : News h₀ L h' news') (hn : ∀ p ∈ Led c', p ∈ news') (hk : ∀ p ∈ ps c', m' p.1 = some p.2) (hp : P c') (hm : μ c' < μ c) : WEnd h₀ L s Led ps P μ c { s with heap := h', toks := tk } :=
  ⟨c', h', tk, m', rfl, F, fun p hp => N p (hn p hp), hk, hp, hm⟩
theorem midI {σ : Type} {h₀ : Heap} {L : Addr} {s : Shared} {Led : σ → List (Addr × Obj)} {ps : σ → List (Str × Value)} {P : σ → Prop} {h' : Heap} {tk : Nat} {m' : Str → Option Value} {news' : List (Addr × Obj)} (c' : σ)
    (F : Fr h₀ L h' m') (N : News h₀ L h' news') (hn : ∀ p ∈ Led c', p ∈ news') (hk : ∀ p ∈ ps c', m' p.1 = some p.2) (hp : P c') : Mid h₀ L s Led ps P .next { s with heap := h', toks := tk } :=
  ⟨rfl, c', h', tk, m', rfl, F, fun p hp => N p (hn p hp), hk, hp⟩
theorem mid {M : Model} {A : Around} {E : Value → Shared → Prop} {Q : Flow → Shared → Prop} {s : Shared} {h₀ : Heap} {L : Addr} {σ : Type} {t : Sem Flow} {m₀ : Str → Option Value} (F0 : Fr h₀ L s.heap m₀) (Led : σ → List (Addr × Obj)) (ps : σ → List (Str × Value)) (P : σ → Prop)
    (h : wpAny M A t (Mid h₀ L s Led ps P) E s)
    (k : ∀ (c : σ) h' tk m', P c → Fr h₀ L h' (kstB m' (ps c)) → News h₀ L h' (Led c) → Q .next { s with heap := h', toks := tk }) : wpAny M A t Q E s := by
  refine wpAny_mono h (fun f s₂ x => ?_) fun _ _ x => x
  obtain ⟨rfl, c, h', tk, m', rfl, F, N, hk, hp⟩ := x
  exact k c h' tk m' hp (frB F hk) N
section
variable {prog : Program} {w : World} {A : Around} {E : Value → Shared → Prop} {s : Shared} {env : Env} {h₀ : Heap} {L : Addr}
theorem w_while {Q : Flow → Shared → Prop} {σ : Type} {test : PySem.Expr} {body : List Stmt} {pos : Pos} {m₀ : Str → Option Value} {news₀ : List (Addr × Obj)}
    (Led : σ → List (Addr × Obj)) (ps : σ → List (Str × Value)) (P : σ → Prop) (μ : σ → Nat) (c₀ : σ)
    (F : Fr h₀ L s.heap m₀) (N : News h₀ L s.heap news₀) (hn : ∀ p ∈ Led c₀, p ∈ news₀) (hk : ∀ p ∈ ps c₀, m₀ p.1 = some p.2) (hp : P c₀)
    (turn : ∀ (c : σ) (u : Str → Option Value) h tk, P c → Fr h₀ L h (kstB u (ps c)) → News h₀ L h (Led c) →
      wpAny (model prog w) A (isTrue test env (eval test env)) (fun b s₂ =>
        if b = true then wpAny (model prog w) A (execs body env) (WPost h₀ L s Led ps P μ Q c) E s₂ else Q .next s₂) E { s with heap := h, toks := tk })
    (hE : PassesOwn (model prog w) A env E := by passes_own) :
    wpAny (model prog w) A (exec (.While test body [] pos) env) Q E s := by
  refine While_inv2 (fun n m nx => ∃ c : σ, nx = Led c ∧ μ c = n ∧ (∀ p ∈ ps c, m p.1 = some p.2) ∧ P c) F (fun p hp => N p (hn p hp)) ⟨c₀, rfl, rfl, hk, hp⟩ ?_ hE
  rintro n m₁ nx h tk F₁ N₁ ⟨c, rfl, rfl, h1, hp'⟩
  refine wpAny_mono (turn c m₁ h tk hp' (frB F₁ h1) N₁) (fun b s₂ p => ?_) fun _ _ x => x
  cases b with
  | false => simpa using p
  | true =>
    simp only [if_true] at p ⊢
    refine wpAny_mono p (fun f s₃ q => ?_) fun _ _ x => x
    cases f with
    | ret v => exact q
    | brk => exact q
    | next =>
      obtain ⟨c', h', tk', m', rfl, F', N', hk9, hp9, hm9⟩ := q
      exact ⟨h', tk', m', Led c', μ c', rfl, F', N', hm9, c', rfl, rfl, hk9, hp9⟩
    | cont =>
      obtain ⟨c', h', tk', m', rfl, F', N', hk9, hp9, hm9⟩ := q
      exact ⟨h', tk', m', Led c', μ c', rfl, F', N', hm9, c', rfl, rfl, hk9, hp9⟩
end
/-! lists of the ledger whose last item is known -/
section
variable {prog : Program} {w : World} {A : Around} {E : Value → Shared → Prop} {s : Shared} {h₀ : Heap} {L D : Addr} {m : Str → Option Value} {news news' : List (Addr × Obj)} {n : Nat} {us : List Value} {y : Value}
theorem my_truthT {Q : Bool → Shared → Prop} (N : News h₀ L s.heap news) (hm : (D, listOf (us ++ [y]).toArray n) ∈ news) (hz : us.length ≤ 1000000)
    (h : Q true { s with toks := s.toks + 1 + 1 }) : wpAny (model prog w) A (truthy (.ref D)) Q E s :=
  wpAny_truthy_list (PySem.IsL.isList (n := n) (N _ hm).1) (by rw [List.size_toArray, List.length_append, List.length_cons, List.length_nil]; omega) (by rw [show (!(us ++ [y]).toArray.isEmpty) = true from by simp]; exact h)
theorem my_truthF {Q : Bool → Shared → Prop} (N : News h₀ L s.heap news) (hm : (D, listOf ([] : List Value).toArray n) ∈ news)
    (h : Q false { s with toks := s.toks + 1 + 1 }) : wpAny (model prog w) A (truthy (.ref D)) Q E s :=
  wpAny_truthy_list (PySem.IsL.isList (n := n) (N _ hm).1) (by decide) h
theorem my_truthG {Q : Bool → Shared → Prop} (N : News h₀ L s.heap news) (hm : (D, listOf us.toArray n) ∈ news) (hz : us.length ≤ 1000000)
    (h : Q (!us.isEmpty) { s with toks := s.toks + 1 + 1 }) : wpAny (model prog w) A (truthy (.ref D)) Q E s :=
  wpAny_truthy_list (PySem.IsL.isList (n := n) (N _ hm).1) (by rw [List.size_toArray]; omega) (by rw [List.isEmpty_toArray]; exact h)
theorem strs_isEmpty : ∀ {vs : List Value} {xs : List Str}, StrsAre vs xs → vs.isEmpty = xs.isEmpty
  | _, _, .nil => rfl
  | _, _, .cons _ _ _ => rfl
theorem strs_snoc_inv : ∀ {vs : List Value} {xs : List Str}, StrsAre vs xs → (vs = [] ∧ xs = []) ∨ ∃ us y t ys, vs = us ++ [.str y t] ∧ xs = ys ++ [y] ∧ StrsAre us ys
  | _, _, .nil => .inl ⟨rfl, rfl⟩
  | _, _, .cons y t r => .inr (by
    rcases strs_snoc_inv r with ⟨rfl, rfl⟩ | ⟨us, z, u, ys, rfl, rfl, h⟩
    · exact ⟨[], y, t, [], rfl, rfl, .nil⟩
    · exact ⟨.str y t :: us, z, u, y :: ys, rfl, rfl, .cons y t h⟩)
theorem my_last {value slice : PySem.Expr} {u : Tok} {Q : Value → Shared → Prop} (N : News h₀ L s.heap news) (hm : (D, listOf (us ++ [y]).toArray n) ∈ news) (h : Q y s)
    (hs : subscripted slice false (.ref D) (.int (-1) u) = operate [.ref D, .int (-1) u] (getItem (.ref D) (.int (-1) u)) := by with_unfolding_all rfl) :
    wpAny (model prog w) A (subscriptTail value slice (.ref D) (.int (-1) u)) Q E s := by
  have hl : s.heap.IsList D (us ++ [y]).toArray := PySem.IsL.isList (n := n) (N _ hm).1
  refine tail_any hl.typeIs slot_list_getitem.lookup (wpAny_getItem_list_neg hl (by decide) (by simp; omega) (by decide) (x := y) ?_ h) hs
  have e : ((-1 : Int) + ((us ++ [y]).toArray.size : Nat)).toNat = us.length := by simp; omega
  rw [e]; simp
theorem my_delLast {u : Tok} {Q : Unit → Shared → Prop} (F : Fr h₀ L s.heap m) (N : News h₀ L s.heap news) (U : Upd D (listOf (us ++ [y]).toArray n) (listOf us.toArray (n + 1)) news news') (hz : us.length ≤ 1000000)
    (h : ∀ h', Fr h₀ L h' m → News h₀ L h' news' → Q () { s with heap := h' }) : wpAny (model prog w) A (delItem (.ref D) (.int (-1) u)) Q E s := by
  have e9 : sizeLine = 16777216 := PySem.sizeLine_eq
  have hd : ∀ us : List Value, ki_delL (us ++ [y]) us.length = some us := by
    intro us
    induction us with
    | nil => rfl
    | cons a r ih => show (match ki_delL (r ++ [y]) r.length with | some q => some (a :: q) | none => none) = _; rw [ih]
  refine ki_del F N (k := us.length) (q := us) (by decide) ?_ (hd us) U (by simp only [List.length_append, List.length_cons, List.length_nil]; omega) h
  have := PySem.seqIndex_neg (k := -1) (n := (us ++ [y]).toArray.size) (by decide) (by simp; omega)
  rw [this]; congr 1; simp; omega
theorem my_pop {Q : Value → Shared → Prop} (F : Fr h₀ L s.heap m) (N : News h₀ L s.heap news) (U : Upd D (listOf (us ++ [y]).toArray n) (listOf us.toArray (n + 1)) news news') (hz : us.length ≤ 1000000)
    (h : ∀ h', Fr h₀ L h' m → News h₀ L h' news' → Q y { s with heap := h' }) : wpAny (model prog w) A (call (.builtin "list.pop") [.ref D]) Q E s := by
  have e9 : sizeLine = 16777216 := PySem.sizeLine_eq
  exact kl_pop F N (p := us) (y := y) (kpa_last y us) U (by simp only [List.length_append, List.length_cons, List.length_nil]; omega) h
theorem my_setLast {t : Tok} {v : Value} {Q : Unit → Shared → Prop} (F : Fr h₀ L s.heap m) (N : News h₀ L s.heap news) (U : Upd D (listOf (us ++ [y]).toArray n) (listOf (us ++ [v]).toArray n) news news')
    (h : ∀ h', Fr h₀ L h' m → News h₀ L h' news' → Q () { s with heap := h' }) : wpAny (model prog w) A (setItem (.ref D) (.int (-1) t) v) Q E s := by
  have hd : ∀ us : List Value, ki_setL (us ++ [y]) us.length v = some (us ++ [v]) := by
    intro us
    induction us with
    | nil => rfl
    | cons a r ih => show (match ki_setL (r ++ [y]) r.length v with | some q => some (a :: q) | none => none) = _; rw [ih]; rfl
  refine ki_setNeg F N (j := us.length) (q := us ++ [v]) (by decide) (by decide) ?_ (hd us) U h
  have := PySem.seqIndex_neg (k := -1) (n := (us ++ [y]).toArray.size) (by decide) (by simp; omega)
  rw [this]; congr 1; simp; omega
theorem my_reverse {Q : Value → Shared → Prop} (F : Fr h₀ L s.heap m) (N : News h₀ L s.heap news) (U : Upd D (listOf us.toArray n) (listOf us.reverse.toArray n) news news') (hz : us.length ≤ 1000000)
    (h : ∀ h', Fr h₀ L h' m → News h₀ L h' news' → Q .none { s with heap := h' }) : wpAny (model prog w) A (call (.builtin "list.reverse") [.ref D]) Q E s := by
  have e9 : sizeLine = 16777216 := PySem.sizeLine_eq
  exact kl_reverse F N (l := us.reverse) (by simp) U (by simpa using (by omega : us.length ≤ sizeLine)) h
theorem my_append {v : Value} {Q : Value → Shared → Prop} (F : Fr h₀ L s.heap m) (N : News h₀ L s.heap news) (U : Upd D (listOf us.toArray n) (listOf (us ++ [v]).toArray (n + 1)) news news') (hz : us.length ≤ 1000000)
    (h : ∀ h', Fr h₀ L h' m → News h₀ L h' news' → Q .none { s with heap := h' }) : wpAny (model prog w) A (call (.builtin "list.append") [.ref D, v]) Q E s := by
  have e9 : sizeLine = 16777216 := PySem.sizeLine_eq
  refine append_K F N (its := us.toArray) (n := n) (news' := news') ?_ h (by rw [List.size_toArray]; omega)
  rw [List.push_toArray]; exact U
theorem my_join {x : Str} {t : Tok} {ys : List Str} {Q : Value → Shared → Prop} (N : News h₀ L s.heap news) (hm : (D, listOf us.toArray n) ∈ news) (hi : StrsAre us ys) (hok : (ys.map (·.length)).sum + ys.length * x.length ≤ 16777216)
    (h : ∀ t' k, Q (.str (Txt.join x ys) t') { s with toks := k }) : wpAny (model prog w) A (call (.builtin "str.join") [.str x t, .ref D]) Q E s :=
  join_list (PySem.IsL.isList (n := n) (N _ hm).1) hi hok h
end
end Mine
namespace Mine
local macro_rules | `(tactic| walk_at "my pad 0") => `(tactic| skip)
def isWs (c : Str) : Bool := Txt.isalnum c || (c == Str.ofString "_")
def isLs (c : Str) : Bool := isWs c && (!(!(decide (c.cps.toList < (Str.ofString "0").cps.toList)) && !(decide ((Str.ofString "9").cps.toList < c.cps.toList))) && !(!(decide (c.cps.toList < (Str.ofString "０").cps.toList)) && !(decide ((Str.ofString "９").cps.toList < c.cps.toList))))
def isLs2 (c : Str) : Bool := isWs c && !Txt.contains (Str.ofString "0123456789０１２３４５６７８９") c
set_option maxRecDepth 100000 in
set_option maxHeartbeats 8000000 in
theorem word_ok {w : World} {mean : ExcName → Option Value} {mg mb : Str → Option Value} {news : Led} {c : Str} {t : Tok} :
    Claim w mean mg mb 1 21 news True [.str c t] (RetV news fun _ => .bool (isWs c)) := by
  unfold Claim RetV
  k_fill
  intros
  rename_i hret
  refine wpAny_call ?_
  cell_enter
  k_steps
  all_goals (refine cb_retB hret ?_ (by k_asm) (by k_asm); simp_all [isWs])
set_option maxRecDepth 100000 in
set_option maxHeartbeats 8000000 in
theorem wordy_ok {w : World} {mean : ExcName → Option Value} {mg mb : Str → Option Value} {news : Led} {c : Str} {t : Tok} :
    Claim w mean mg mb 1 65 news True [.str c t] (RetV news fun _ => .bool (isWs c)) := by
  unfold Claim RetV
  k_fill
  intros
  rename_i hret
  refine wpAny_call ?_
  cell_enter
  k_steps
  all_goals (refine cb_retB hret ?_ (by k_asm) (by k_asm); simp_all [isWs])
-- the calls of the text's own defs, by their contracts
local macro_rules | `(tactic| walk_at "my call done") => `(tactic| (
  (case k1 => k_asm); (case k2 => k_asm); (case k3 => k_asm); (case k4 => k_asm); (case k5 => k_asm); (case k6 => first | exact rfl | assumption); (case kd => ktr_room); (case ku => ktr_units)))
local macro_rules | `(tactic| walk_at "call ref") => `(tactic| (k_here; (with_unfolding_all refine' word_ok (mean := _) _ _ _ _ _ _ _ _ _ _ _ _ _ _ _ _ _ ?k1 ?k2 ?k3 ?k4 ?k5 ?k6 trivial ?kd ?ku ?_); walk_at "my call done"; intro t9 h9 tk9 F9 N9; (try dsimp only); (try k_fold)))
set_option maxRecDepth 100000 in
set_option maxHeartbeats 8000000 in
theorem letter_ok {w : World} {mean : ExcName → Option Value} {mg mb : Str → Option Value} {news : Led} {c : Str} {t : Tok} :
    Claim w mean mg mb 2 28 news True [.str c t] (RetV news fun _ => .bool (isLs c)) := by
  unfold Claim RetV
  k_fill
  intros
  rename_i hret
  refine wpAny_call ?_
  cell_enter
  k_steps
  all_goals (refine cb_retB hret ?_ (by k_asm) (by k_asm); unfold isLs; simp only [*, decide_true, decide_false, Bool.not_not, Bool.not_true, Bool.not_false, Bool.and_true, Bool.true_and, Bool.and_false, Bool.false_and])
local macro_rules | `(tactic| walk_at "call ref") => `(tactic| (k_here; (with_unfolding_all refine' wordy_ok _ _ _ _ _ _ _ _ _ _ _ _ _ _ _ _ _ ?k1 ?k2 ?k3 ?k4 ?k5 ?k6 trivial ?kd ?ku ?_); walk_at "my call done"; intro t9 h9 tk9 F9 N9; (try dsimp only); (try k_fold)))
set_option maxRecDepth 100000 in
set_option maxHeartbeats 8000000 in
theorem lettery_ok {w : World} {mean : ExcName → Option Value} {mg mb : Str → Option Value} {news : Led} {c : Str} {t : Tok} :
    Claim w mean mg mb 2 72 news True [.str c t] (RetV news fun _ => .bool (isLs2 c)) := by
  unfold Claim RetV
  k_fill
  intros
  rename_i hret
  refine wpAny_call ?_
  cell_enter
  k_steps
  all_goals (refine cb_retB hret ?_ (by k_asm) (by k_asm); simp_all [isLs2, Txt.contains])
end Mine
namespace Mine
def one (c : Nat) : Str := ⟨#[c]⟩
def tl (x : Str) : List Nat := x.cps.toList
def g (l : List Nat) (i : Nat) : Nat := l.getD i 0
def cw (c : Nat) : Bool := isWs (one c)
def cl (c : Nat) : Bool := isLs (one c)
def cp (c : Nat) : Bool := Txt.contains (Str.ofString "!\"'&.,?") (one c)
theorem tl_length (x : Str) : (tl x).length = x.length := by simp [tl, Str.length]
theorem item_nat (x : Str) (i : Nat) : Txt.item x (i : Int) = one (g (tl x) i) := by
  unfold Txt.item Txt.charAt one g tl
  have h0 : ¬ ((i : Int) < 0) := by omega
  by_cases h : i < x.length
  · have : seqIndex? (i : Int) x.length = some i := by
      unfold seqIndex?; simp [h0]; omega
    rw [this]; simp [List.getD_eq_getElem?_getD]
  · have : seqIndex? (i : Int) x.length = none := by
      unfold seqIndex?; simp [h0]; omega
    rw [this]; simp [List.getD_eq_getElem?_getD]
    have : x.cps.size ≤ i := by simpa [Str.length] using h
    simp [Array.getElem?_eq_none this]
theorem item_m1 {x : Str} {i : Nat} (h : 1 ≤ i) : Txt.item x ((i : Int) - 1) = one (g (tl x) (i - 1)) := by rw [← item_nat]; congr 1; omega
theorem item_m2 {x : Str} {i : Nat} (h : 2 ≤ i) : Txt.item x ((i : Int) - 2) = one (g (tl x) (i - 2)) := by rw [← item_nat]; congr 1; omega
theorem item_m3 {x : Str} {i : Nat} (h : 3 ≤ i) : Txt.item x ((i : Int) - 3) = one (g (tl x) (i - 3)) := by rw [← item_nat]; congr 1; omega
theorem item_p1 {x : Str} {i : Nat} : Txt.item x ((i : Int) + 1) = one (g (tl x) (i + 1)) := by rw [← item_nat]; rfl
theorem item_p2 {x : Str} {i : Nat} : Txt.item x ((i : Int) + 2) = one (g (tl x) (i + 2)) := by rw [← item_nat]; rfl
theorem item_p3 {x : Str} {i : Nat} : Txt.item x ((i : Int) + 3) = one (g (tl x) (i + 3)) := by rw [← item_nat]; rfl
theorem one_dash (c : Nat) : (one c == Str.ofString "-") = decide (c = 45) := by
  rw [show Str.ofString "-" = one 45 from by decide +kernel]
  by_cases h : c = 45
  · subst h; simp
  · simp [one, h]
theorem one_blank (c : Nat) : (one c == Str.ofString " ") = decide (c = 32) := by
  rw [show Str.ofString " " = one 32 from by decide +kernel]
  by_cases h : c = 32
  · subst h; simp
  · simp [one, h]
theorem one_dash_ne (c : Nat) : (one c != Str.ofString "-") = !decide (c = 45) := by rw [bne, one_dash]
theorem one_blank_ne (c : Nat) : (one c != Str.ofString " ") = !decide (c = 32) := by rw [bne, one_blank]
theorem one_length (c : Nat) : (one c).length = 1 := rfl
/-- where the run of dashes ends -/
def dEnd (l : List Nat) (i : Nat) : Nat := if i < l.length ∧ g l i = 45 then dEnd l (i + 1) else i
termination_by l.length - i
decreasing_by omega
def dashesB (l : List Nat) (i : Nat) : Bool := decide (1 < dEnd l i - i) && (cw (g l (i - 1)) || cp (g l (i - 1))) && cw (g l (dEnd l i))
def hyphenB (l : List Nat) (i : Nat) : Bool :=
  if !cl (g l (i - 1)) || !cl (g l (i + 1)) then false
  else if !cl (g l (i - 2)) && !(decide (g l (i - 2) = 45) && cl (g l (i - 3))) then false
  else cl (if g l (i + 2) = 45 then g l (i + 3) else g l (i + 2))
theorem dEnd_step {l : List Nat} {i : Nat} (h : i < l.length) (h1 : g l i = 45) : dEnd l i = dEnd l (i + 1) := by rw [dEnd, if_pos ⟨h, h1⟩]
theorem dEnd_stop {l : List Nat} {i : Nat} (h1 : g l i ≠ 45) : dEnd l i = i := by rw [dEnd, if_neg (fun h => h1 h.2)]
def sl (l : List Nat) (a b : Nat) : Str := ⟨((l.drop a).take (b - a)).toArray⟩
/-- where the run of blanks ends -/
def bEnd (l : List Nat) (e i : Nat) : Nat := if i < e ∧ g l i = 32 then bEnd l e (i + 1) else i
termination_by e - i
decreasing_by omega
theorem bEnd_step {l : List Nat} {e i : Nat} (h : i < e) (h1 : g l i = 32) : bEnd l e i = bEnd l e (i + 1) := by rw [bEnd, if_pos ⟨h, h1⟩]
theorem bEnd_stop {l : List Nat} {e i : Nat} (h1 : ¬ (i < e ∧ g l i = 32)) : bEnd l e i = i := by rw [bEnd, if_neg h1]
def stopB (l : List Nat) (i : Nat) : Bool := decide (g l i = 32) || (decide (g l i = 45) && (dashesB l i || hyphenB l i))
/-- where a piece of another kind ends, a hyphen left out -/
def wEnd (l : List Nat) (i : Nat) : Nat := if i < l.length ∧ stopB l i = false then wEnd l (i + 1) else i
termination_by l.length - i
decreasing_by omega
theorem wEnd_step {l : List Nat} {i : Nat} (h : i < l.length) (h1 : stopB l i = false) : wEnd l i = wEnd l (i + 1) := by rw [wEnd, if_pos ⟨h, h1⟩]
theorem wEnd_stop {l : List Nat} {i : Nat} (h1 : stopB l i = true) : wEnd l i = i := by rw [wEnd, if_neg (fun h => by rw [h1] at h; exact absurd h.2 (by decide))]
theorem dEnd_ge (l : List Nat) (i : Nat) : i ≤ dEnd l i := by
  fun_induction dEnd l i with
  | case1 i h ih => omega
  | case2 i h => exact Nat.le_refl _
theorem bEnd_ge (l : List Nat) (e i : Nat) : i ≤ bEnd l e i := by
  fun_induction bEnd l e i with
  | case1 i h ih => omega
  | case2 i h => exact Nat.le_refl _
theorem wEnd_ge (l : List Nat) (i : Nat) : i ≤ wEnd l i := by
  fun_induction wEnd l i with
  | case1 i h ih => omega
  | case2 i h => exact Nat.le_refl _
def cEnd (l : List Nat) (e s : Nat) : Nat :=
  if g l s = 32 then bEnd l e (s + 1) else if dashesB l s = true then dEnd l (s + 1)
  else if g l (wEnd l (s + 1)) = 45 ∧ g l (wEnd l (s + 1) + 1) ≠ 45 then wEnd l (s + 1) + 1 else wEnd l (s + 1)
theorem cEnd_gt (l : List Nat) (e s : Nat) : s < cEnd l e s := by
  have h1 := bEnd_ge l e (s + 1)
  have h2 := dEnd_ge l (s + 1)
  have h3 := wEnd_ge l (s + 1)
  unfold cEnd
  repeat' split
  all_goals omega
theorem stop_blank {l : List Nat} {j : Nat} (h : g l j = 32) : stopB l j = true := by simp [stopB, h]
theorem stop_dash {l : List Nat} {j : Nat} (h : g l j = 45) (h1 : dashesB l j = true) : stopB l j = true := by simp [stopB, h, h1]
theorem stop_hyph {l : List Nat} {j : Nat} (h : g l j = 45) (h1 : hyphenB l j = true) : stopB l j = true := by simp [stopB, h, h1]
theorem on_other {l : List Nat} {j : Nat} (h : ¬ g l j = 32) (h1 : ¬ g l j = 45) : stopB l j = false := by simp [stopB, h, h1]
theorem on_dash {l : List Nat} {j : Nat} (h : ¬ g l j = 32) (h1 : dashesB l j = false) (h2 : hyphenB l j = false) : stopB l j = false := by simp [stopB, h, h1, h2]
theorem cEnd_word {l : List Nat} {e i j : Nat} (hb : ¬ g l i = 32) (hd : dashesB l i = false) (q3 : wEnd l (i + 1) = wEnd l j) (hs : stopB l j = true) :
    cEnd l e i = if g l j = 45 ∧ ¬ g l (j + 1) = 45 then j + 1 else j := by
  unfold cEnd
  rw [if_neg hb, if_neg (by rw [hd]; decide), q3, wEnd_stop hs]
/-- the pieces from place s on -/
def splitFrom (l : List Nat) (e s : Nat) : List Str := if s < e then sl l s (cEnd l e s) :: splitFrom l e (cEnd l e s) else []
termination_by e - s
decreasing_by have := cEnd_gt l e s; omega
theorem splitFrom_step {l : List Nat} {e s : Nat} (h : s < e) : splitFrom l e s = sl l s (cEnd l e s) :: splitFrom l e (cEnd l e s) := by rw [splitFrom, if_pos h]
theorem splitFrom_stop {l : List Nat} {e s : Nat} (h : ¬ s < e) : splitFrom l e s = [] := by rw [splitFrom, if_neg h]
def padL (l : List Nat) : List Nat := [32, 32, 32] ++ l ++ [32, 32, 32]
def splitL (l : List Nat) : List Str := splitFrom (padL l) (l.length + 3) 3
theorem slice_sl {x : Str} {a b : Nat} (h1 : a ≤ b) (h2 : b ≤ x.length) : Txt.slice x (some (a : Int)) (some (b : Int)) = sl (tl x) a b := by
  have := PyProof.Rows.slice_closes (x := x) (i := (a : Int)) (j := (b : Int)) ⟨by omega, by omega, by simpa [Str.length] using h2⟩
  rw [beq_iff_eq] at this
  rw [this]
  unfold sl tl
  congr
  omega
/-- wrap's text with its white signs turned, from a column on -/
def plainFrom : Nat → List Nat → List Nat
  | _, [] => []
  | col, c :: r => if c = 9 then List.replicate (8 - col % 8) 32 ++ plainFrom 0 r
    else (if c = 10 ∨ c = 11 ∨ c = 12 ∨ c = 13 then 32 else c) :: plainFrom (if c = 10 ∨ c = 13 then 0 else col + 1) r
theorem tl_append (x y : Str) : tl (x ++ y) = tl x ++ tl y := by simp [tl, Str.cps_append]
theorem tl_mk (c : Nat) : tl ⟨#[c]⟩ = [c] := rfl
theorem is_tab (n : Nat) : ((⟨#[n]⟩ : Str) == Str.ofString "\t") = decide (n = 9) := by
  rw [show Str.ofString "\t" = ⟨#[9]⟩ from by decide +kernel]
  by_cases h : n = 9
  · subst h; simp
  · simp [h]
theorem isEmpty_of {a b : Bool} (h : (!a) = b) : a = !b := by cases a <;> cases b <;> simp_all
theorem in_ws4 (n : Nat) : (Builtin.Str.occurrences (Str.ofString "\n\x0b\x0c\r") ⟨#[n]⟩ 0 (Str.ofString "\n\x0b\x0c\r").length 1).isEmpty = !decide (n = 10 ∨ n = 11 ∨ n = 12 ∨ n = 13) := by
  refine isEmpty_of ?_
  rw [StrLaws.found_one, show (Str.ofString "\n\x0b\x0c\r").cps = #[10, 11, 12, 13] from by decide +kernel]
  simp
theorem in_ws2 (n : Nat) : (Builtin.Str.occurrences (Str.ofString "\n\r") ⟨#[n]⟩ 0 (Str.ofString "\n\r").length 1).isEmpty = !decide (n = 10 ∨ n = 13) := by
  refine isEmpty_of ?_
  rw [StrLaws.found_one, show (Str.ofString "\n\r").cps = #[10, 13] from by decide +kernel]
  simp
theorem mul_blank8 : ∀ k : Nat, k < 9 → Txt.mul (Str.ofString " ") (k : Int) = ⟨(List.replicate k 32).toArray⟩ := by decide +kernel
theorem mul_tab (co : Nat) : Txt.mul (Str.ofString " ") (8 - Int.fmod (co : Int) 8) = ⟨(List.replicate (8 - co % 8) 32).toArray⟩ := by
  have h : (8 - Int.fmod (co : Int) 8) = ((8 - co % 8 : Nat) : Int) := by
    rw [Int.fmod_eq_emod_of_nonneg _ (by omega)]; omega
  rw [h]
  exact mul_blank8 _ (by omega)
section
variable {l pl pre : List Nat} {n co : Nat} (p1 : ∀ post, l = pre ++ post → pl ++ plainFrom co post = plainFrom 0 l)
include p1
theorem plain_tab (h9 : n = 9) : ∀ post, l = (pre ++ [n]) ++ post → (pl ++ List.replicate (8 - co % 8) 32) ++ plainFrom 0 post = plainFrom 0 l := by
  intro post e
  rw [← p1 (n :: post) (by rw [e]; simp)]
  simp [plainFrom, h9]
theorem plain_end (h9 : ¬ n = 9) (h1 : n = 10 ∨ n = 11 ∨ n = 12 ∨ n = 13) (h2 : n = 10 ∨ n = 13) : ∀ post, l = (pre ++ [n]) ++ post → (pl ++ [32]) ++ plainFrom 0 post = plainFrom 0 l := by
  intro post e
  rw [← p1 (n :: post) (by rw [e]; simp)]
  simp [plainFrom, h9, h1, h2]
theorem plain_ws (h9 : ¬ n = 9) (h1 : n = 10 ∨ n = 11 ∨ n = 12 ∨ n = 13) (h2 : ¬ (n = 10 ∨ n = 13)) : ∀ post, l = (pre ++ [n]) ++ post → (pl ++ [32]) ++ plainFrom (co + 1) post = plainFrom 0 l := by
  intro post e
  rw [← p1 (n :: post) (by rw [e]; simp)]
  simp only [plainFrom, h9, h1, h2, if_true, if_false, List.append_assoc, List.cons_append, List.nil_append]
theorem plain_sign (h9 : ¬ n = 9) (h1 : ¬ (n = 10 ∨ n = 11 ∨ n = 12 ∨ n = 13)) : ∀ post, l = (pre ++ [n]) ++ post → (pl ++ [n]) ++ plainFrom (co + 1) post = plainFrom 0 l := by
  intro post e
  rw [← p1 (n :: post) (by rw [e]; simp)]
  have h2 : ¬ (n = 10 ∨ n = 13) := by omega
  simp only [plainFrom, h9, h1, h2, if_false, List.append_assoc, List.cons_append, List.nil_append]
end
theorem blank_cps : (Str.ofString " ") = ⟨#[32]⟩ := by decide +kernel
/-- the walk waits here -/
def Halt (P : Prop) : Prop := P
theorem halt {P : Prop} (h : Halt P) : P := h
theorem unhalt {P : Prop} (h : P) : Halt P := h
end Mine
namespace Mine
local macro_rules | `(tactic| walk_at "my call done") => `(tactic| (
  (case k1 => k_asm); (case k2 => k_asm); (case k3 => k_asm); (case k4 => k_asm); (case k5 => k_asm); (case k6 => first | exact rfl | assumption); (case kd => ktr_room); (case ku => ktr_units)))
local macro_rules | `(tactic| walk_at "call ref") => `(tactic| (k_here; (with_unfolding_all refine' word_ok _ _ _ _ _ _ _ _ _ _ _ _ _ _ _ _ _ ?k1 ?k2 ?k3 ?k4 ?k5 ?k6 trivial ?kd ?ku ?_); walk_at "my call done"; intro t9 h9 tk9 F9 N9; (try dsimp only); (try k_fold)))
local macro_rules | `(tactic| walk_at "call ref") => `(tactic| (k_here; (with_unfolding_all refine' letter_ok _ _ _ _ _ _ _ _ _ _ _ _ _ _ _ _ _ ?k1 ?k2 ?k3 ?k4 ?k5 ?k6 trivial ?kd ?ku ?_); walk_at "my call done"; intro t9 h9 tk9 F9 N9; (try dsimp only); (try k_fold)))
local macro_rules | `(tactic| walk_at "subscriptTail Name IfExp str int") => `(tactic| (refine item_str (fitsSsize_of (N := 9223372036854775808) (by omega) (by omega) (Int.le_refl _)) (by omega) (by omega) ?_; intro _))
local macro_rules | `(tactic| walk_at "my same") => `(tactic| (intro z h2 h3; (try simp only [List.forall_mem_cons, List.not_mem_nil, false_implies, implies_true, and_true, ne_eq] at h2); (try simp only [List.contains_cons, List.contains_nil, Bool.or_false, Bool.or_eq_false_iff, beq_eq_false_iff_ne, ne_eq] at h3); (simp [kstB, h2, h3]; done)))
local macro_rules | `(tactic| walk_at "MPost") => `(tactic| (dsimp only [MPost]))
set_option maxRecDepth 100000 in
set_option maxHeartbeats 8000000 in
theorem dashes_ok {w : World} {mean : ExcName → Option Value} {mg mb : Str → Option Value} {news : Led} {x : Str} {t : Tok} {i : Nat} {u : Tok} :
    Claim w mean mg mb 2 35 news (1 ≤ i ∧ i < x.length ∧ x.length ≤ 100000 ∧ g (tl x) (x.length - 1) ≠ 45) [.str x t, .int (i : Int) u] (RetV news fun _ => .bool (dashesB (tl x) i)) := by
  unfold Claim RetV
  k_fill
  intros
  rename_i hpre hdp hun hret
  obtain ⟨h1, h2, h3, h4⟩ := hpre
  refine wpAny_call ?_
  cell_enter
  k_with "exec While Compare cons nil" => refine halt ?_
  k_steps
  refine unhalt ?_
  rename_i F' N'
  with_unfolding_all refine' my_while (σ := Nat × Tok) (fun _ => news) (fun c => [(Str.ofString "end", Value.int (c.1 : Int) c.2)]) [] (fun c => i ≤ c.1 ∧ c.1 < x.length ∧ dEnd (tl x) i = dEnd (tl x) c.1) (fun c => x.length - c.1) (i, u) F' N' ?kk ?kp ?_
  case kk => (intro p hp; simp at hp; subst hp; rfl)
  case kp => exact ⟨Nat.le_refl _, h2, rfl⟩
  clear F' N'
  rintro ⟨e, et⟩ u' h' tk' ⟨p1, p2, p3⟩ F' N'
  dsimp only at p1 p2 p3 F' N'
  (try k_fold)
  k_steps
  · rename Fr _ _ _ _ => F'
    rename News _ _ _ _ => N'
    rename (_ == Str.ofString "-") = true => hd
    rw [item_nat, one_dash, decide_eq_true_eq] at hd
    have hne : e ≠ x.length - 1 := by rintro rfl; exact h4 hd
    refine' my_end (e + 1, _) F' N' (by kst_all) (by walk_at "my same") ?_ ?_
    · exact ⟨by show i ≤ e + 1; omega, by show e + 1 < _; omega, by rw [p3, dEnd_step (by rw [tl_length]; exact p2) hd]⟩
    · show x.length - (e + 1) < x.length - e; omega
  all_goals (
    rename (_ == Str.ofString "-") = false => hd
    rw [item_nat, one_dash, decide_eq_false_iff_not] at hd
    rw [dEnd_stop hd] at p3
    refine cb_retB hret ?_ (by k_asm) (by k_asm)
    unfold dashesB
    rw [p3]
    simp only [item_nat, item_m1 h1] at *
    have e1 : (1 < (e : Int) - (i : Int)) = (1 < e - i) := by rw [eq_iff_iff]; omega
    simp_all [cw, cp, Txt.contains]
    try (have h9 : ¬ (1 < e - i) := by omega
         simp [h9]))
set_option maxRecDepth 100000 in
set_option maxHeartbeats 8000000 in
theorem hyphen_ok {w : World} {mean : ExcName → Option Value} {mg mb : Str → Option Value} {news : Led} {x : Str} {t : Tok} {i : Nat} {u : Tok} :
    Claim w mean mg mb 3 42 news (3 ≤ i ∧ i + 3 < x.length ∧ x.length ≤ 100000) [.str x t, .int (i : Int) u] (RetV news fun _ => .bool (hyphenB (tl x) i)) := by
  unfold Claim RetV
  k_fill
  intros
  rename_i hpre hdp hun hret
  obtain ⟨h1, h2, h3⟩ := hpre
  refine wpAny_call ?_
  cell_enter
  k_with_none
  k_steps
  all_goals (
    refine cb_retB hret ?_ (by k_asm) (by k_asm)
    unfold hyphenB
    simp only [item_m1 (show 1 ≤ i by omega), item_m2 (show 2 ≤ i by omega), item_m3 h1, item_p1, item_p2, item_p3, one_dash, decide_eq_true_eq, decide_eq_false_iff_not] at *
    simp_all [cl])
end Mine
namespace Mine
/-- as the walk has it at the call: the sign at hand is a hyphen, the text ends in blanks -/
theorem hyphen_ok2 {w : World} {mean : ExcName → Option Value} {mg mb : Str → Option Value} {news : Led} {x : Str} {t : Tok} {i : Nat} {u : Tok} :
    Claim w mean mg mb 3 42 news (3 ≤ i ∧ i + 3 ≤ x.length ∧ x.length ≤ 100000 ∧ (Txt.item x (i : Int) == Str.ofString "-") = true ∧ g (tl x) (x.length - 3) = 32) [.str x t, .int (i : Int) u] (RetV news fun _ => .bool (hyphenB (tl x) i)) := by
  intro dp un gd cn cs a ccd cl outer A₀ base h₀ L m s Q E B F X N T hk hp hd hu hr
  obtain ⟨p1, p2, p3, p4, p5⟩ := hp
  refine hyphen_ok dp un gd cn cs a ccd cl outer A₀ base h₀ L m s Q E B F X N T hk ⟨p1, ?_, p3⟩ hd hu hr
  rw [item_nat, one_dash, decide_eq_true_eq] at p4
  have : i ≠ x.length - 3 := by rintro rfl; rw [p5] at p4; exact absurd p4 (by decide)
  omega
local macro_rules | `(tactic| walk_at "my call done") => `(tactic| (
  (case k1 => k_asm); (case k2 => k_asm); (case k3 => k_asm); (case k4 => k_asm); (case k5 => k_asm); (case k6 => first | exact rfl | assumption); (case kp => first | exact trivial | assumption | ((repeat' (refine And.intro ?_ ?_)) <;> first | assumption | omega)); (case kd => ktr_room); (case ku => ktr_units)))
local macro_rules | `(tactic| walk_at "call ref") => `(tactic| (k_here; (first
  | (with_unfolding_all refine' dashes_ok _ _ _ _ _ _ _ _ _ _ _ _ _ _ _ _ _ ?k1 ?k2 ?k3 ?k4 ?k5 ?k6 ?kp ?kd ?ku ?_)
  | (with_unfolding_all refine' hyphen_ok2 _ _ _ _ _ _ _ _ _ _ _ _ _ _ _ _ _ ?k1 ?k2 ?k3 ?k4 ?k5 ?k6 ?kp ?kd ?ku ?_)); walk_at "my call done"; intro t9 h9 tk9 F9 N9; (try dsimp only); (try k_fold)))
local macro_rules | `(tactic| walk_at "subscriptTail Name BinOp str int") => `(tactic| (refine item_str (fitsSsize_of (N := 9223372036854775808) (by omega) (by omega) (Int.le_refl _)) (by omega) (by omega) ?_; intro _))
local macro_rules | `(tactic| walk_at "subscriptTail Name Name str int") => `(tactic| (refine item_str (fitsSsize_of (N := 9223372036854775808) (by omega) (by omega) (Int.le_refl _)) (by omega) (by omega) ?_; intro _))
local macro_rules | `(tactic| walk_at "my same") => `(tactic| (intro z h2 h3; (try simp only [List.forall_mem_cons, List.not_mem_nil, false_implies, implies_true, and_true, ne_eq] at h2); (try simp only [List.contains_cons, List.contains_nil, Bool.or_false, Bool.or_eq_false_iff, beq_eq_false_iff_ne, ne_eq] at h3); (simp [kstB, h2, h3]; done)))
theorem split_step {l : List Nat} {e i j : Nat} {xs T : List Str} (hi : i < e) (hc : cEnd l e i = j) (p4 : xs ++ splitFrom l e i = T) : (xs ++ [sl l i j]) ++ splitFrom l e j = T := by
  rw [← p4, splitFrom_step hi, hc, List.append_assoc]; rfl
local macro_rules | `(tactic| walk_at "MPost") => `(tactic| (dsimp only [MPost]))
local macro_rules | `(tactic| walk_at "my size") => `(tactic| ((try simp only [List.length_reverse, List.length_append, List.length_cons, List.length_nil]); omega))
local macro_rules | `(tactic| walk_at "call builtin:list.append") => `(tactic| (k_here; k_dflt (refine' my_append ?F ?N ?U ?z ?_; (case F => k_asm); (case N => k_asm); (case U => k_upd); (case z => walk_at "my size")); intro h' F' N'))
set_option maxRecDepth 100000 in
set_option maxHeartbeats 8000000 in
theorem split_ok {w : World} {mean : ExcName → Option Value} {mg mb : Str → Option Value} {news : Led} {x : Str} {t : Tok} :
    Claim w mean mg mb 4 49 news (x.length ≤ 50000) [.str x t] (RetL news (splitL (tl x))) := by
  unfold Claim RetL
  k_fill
  intros
  rename_i hpre hdp hun hret
  refine wpAny_call ?_
  cell_enter
  k_with_none
  k_with "exec While Compare cons nil" => refine halt ?_
  k_with "exec While BoolOp cons nil" => refine halt ?_
  k_steps
  refine unhalt ?_
  generalize hpx : (Str.ofString "   " ++ x ++ Str.ofString "   ") = px at *
  rename Fr _ _ _ _ => F'
  rename News _ _ _ _ => N'
  have htl : tl px = padL (tl x) := by
    rw [← hpx]; simp [tl, padL, Str.cps_append, show (Str.ofString "   ").cps = #[32, 32, 32] from by decide +kernel]
  have hlen : px.length = x.length + 6 := by rw [← tl_length, htl, ← tl_length x]; simp [padL]
  have hlast : g (tl px) (px.length - 1) ≠ 45 := by
    rw [htl, hlen, ← tl_length x]; simp [g, padL, List.getD_eq_getElem?_getD]
  have hE : g (tl px) (x.length + 3) = 32 := by
    rw [htl, ← tl_length x]; simp [g, padL, List.getD_eq_getElem?_getD]
  have hE2 : g (tl px) (px.length - 3) = 32 := by rw [hlen]; exact hE
  clear hpx
  rename ∀ p ∈ news, p.1 < _ => hlt
  have hlt2 := allLt_of hlt
  with_unfolding_all refine' my_while (σ := Nat × Tok × List Value × List Str × Nat) (fun c => (_, listOf c.2.2.1.toArray c.2.2.2.2) :: news) (fun c => [(Str.ofString "at", Value.int (c.1 : Int) c.2.1)]) [Str.ofString "start"] (fun c => 3 ≤ c.1 ∧ c.1 ≤ x.length + 3 ∧ StrsAre c.2.2.1 c.2.2.2.1 ∧ c.2.2.2.1 ++ splitFrom (tl px) (x.length + 3) c.1 = splitFrom (tl px) (x.length + 3) 3 ∧ c.2.2.2.1.length ≤ c.1) (fun c => x.length + 3 - c.1) (3, _, [], [], 0) F' N' ?kk ?kp ?_
  case kk => kst_all
  case kp => exact ⟨Nat.le_refl _, by show 3 ≤ _; omega, .nil, rfl, by show 0 ≤ 3; omega⟩
  clear F' N'
  rintro ⟨i, it, vs, xs, n⟩ u' h' tk' ⟨p1, p2, p3, p4, p5⟩ F' N'
  dsimp only at p1 p2 p3 p4 p5 F' N'
  (try k_fold)
  have p6 := p3.length
  k_steps
  · -- blanks
    refine unhalt ?_
    rename Fr _ _ _ _ => F'
    rename News _ _ _ _ => N'
    rename (_ == Str.ofString " ") = true => hb
    rw [item_nat, one_blank, decide_eq_true_eq] at hb
    with_unfolding_all refine' my_while (σ := Nat × Tok) (fun _ => (_, listOf vs.toArray n) :: news) (fun c => [(Str.ofString "at", Value.int (c.1 : Int) c.2)]) [] (fun c => i + 1 ≤ c.1 ∧ c.1 ≤ x.length + 3 ∧ bEnd (tl px) (x.length + 3) (i + 1) = bEnd (tl px) (x.length + 3) c.1) (fun c => x.length + 3 - c.1) (i + 1, _) F' N' ?kk ?kp ?_
    case kk => kst_all
    case kp => exact ⟨Nat.le_refl _, by show i + 1 ≤ _; omega, rfl⟩
    clear F' N'
    rintro ⟨j, jt⟩ u2' h2' tk2' ⟨q1, q2, q3⟩ F' N'
    dsimp only at q1 q2 q3 F' N'
    (try k_fold)
    k_steps
    · rename Fr _ _ _ _ => F'
      rename News _ _ _ _ => N'
      rename (Txt.item px (j : Int) == Str.ofString " ") = true => hd
      rw [item_nat, one_blank, decide_eq_true_eq] at hd
      refine' my_end (j + 1, _) F' N' (by kst_all) (by walk_at "my same") ?_ ?_
      · exact ⟨by show i + 1 ≤ j + 1; omega, by show j + 1 ≤ _; omega, by rw [q3, bEnd_step (by omega) hd]⟩
      · show x.length + 3 - (j + 1) < x.length + 3 - j; omega
    all_goals (
      have hc : cEnd (tl px) (x.length + 3) i = j := by
        unfold cEnd
        rw [if_pos hb, q3]
        refine bEnd_stop (fun h9 => ?_)
        first
        | (have := h9.1; omega)
        | (rename (Txt.item px (j : Int) == Str.ofString " ") = false => hd
           rw [item_nat, one_blank, decide_eq_false_iff_not] at hd
           exact hd h9.2)
      rename Fr _ _ _ _ => F'
      rename News _ _ _ _ => N'
      rw [slice_sl (by omega) (by omega)] at N'
      (try simp only [List.push_toArray] at N')
      refine' my_end (j, _, vs ++ [_], xs ++ [sl (tl px) i j], n + 1) F' N' (by kst_all) (by walk_at "my same") ?_ ?_
      · refine ⟨by show 3 ≤ j; omega, by show j ≤ _; omega, p3.append' (.cons _ _ .nil), ?_, ?_⟩
        · exact split_step (by omega) hc p4
        · show (xs ++ [_]).length ≤ j; rw [List.length_append]; simp; omega
      · show x.length + 3 - j < x.length + 3 - i; omega)
  · -- dashes
    refine unhalt ?_
    rename Fr _ _ _ _ => F'
    rename News _ _ _ _ => N'
    rename dashesB (tl px) i = true => hd
    rename (_ == Str.ofString " ") = false => hb
    rw [item_nat, one_blank, decide_eq_false_iff_not] at hb
    with_unfolding_all refine' my_while (σ := Nat × Tok) (fun _ => (_, listOf vs.toArray n) :: news) (fun c => [(Str.ofString "at", Value.int (c.1 : Int) c.2)]) [] (fun c => i + 1 ≤ c.1 ∧ c.1 ≤ x.length + 3 ∧ dEnd (tl px) (i + 1) = dEnd (tl px) c.1) (fun c => x.length + 3 - c.1) (i + 1, _) F' N' ?kk ?kp ?_
    case kk => kst_all
    case kp => exact ⟨Nat.le_refl _, by show i + 1 ≤ _; omega, rfl⟩
    clear F' N'
    rintro ⟨j, jt⟩ u2' h2' tk2' ⟨q1, q2, q3⟩ F' N'
    dsimp only at q1 q2 q3 F' N'
    (try k_fold)
    k_steps
    · rename Fr _ _ _ _ => F'
      rename News _ _ _ _ => N'
      rename (Txt.item px (j : Int) == Str.ofString "-") = true => he
      rw [item_nat, one_dash, decide_eq_true_eq] at he
      have hne : j ≠ x.length + 3 := by rintro rfl; rw [hE] at he; exact absurd he (by decide)
      refine' my_end (j + 1, _) F' N' (by kst_all) (by walk_at "my same") ?_ ?_
      · exact ⟨by show i + 1 ≤ j + 1; omega, by show j + 1 ≤ _; omega, by rw [q3, dEnd_step (by rw [tl_length]; omega) he]⟩
      · show x.length + 3 - (j + 1) < x.length + 3 - j; omega
    · rename Fr _ _ _ _ => F'
      rename News _ _ _ _ => N'
      rename (Txt.item px (j : Int) == Str.ofString "-") = false => he
      rw [item_nat, one_dash, decide_eq_false_iff_not] at he
      have hc : cEnd (tl px) (x.length + 3) i = j := by
        unfold cEnd
        rw [if_neg hb, if_pos hd, q3, dEnd_stop he]
      rw [slice_sl (by omega) (by omega)] at N'
      (try simp only [List.push_toArray] at N')
      refine' my_end (j, _, vs ++ [_], xs ++ [sl (tl px) i j], n + 1) F' N' (by kst_all) (by walk_at "my same") ?_ ?_
      · refine ⟨by show 3 ≤ j; omega, by show j ≤ _; omega, p3.append' (.cons _ _ .nil), ?_, ?_⟩
        · exact split_step (by omega) hc p4
        · show (xs ++ [_]).length ≤ j; rw [List.length_append]; simp; omega
      · show x.length + 3 - j < x.length + 3 - i; omega
  · -- any other
    refine unhalt ?_
    rename Fr _ _ _ _ => F'
    rename News _ _ _ _ => N'
    rename dashesB (tl px) i = false => hd
    rename (_ == Str.ofString " ") = false => hb
    rw [item_nat, one_blank, decide_eq_false_iff_not] at hb
    with_unfolding_all refine' my_while (σ := Nat × Tok) (fun _ => (_, listOf vs.toArray n) :: news) (fun c => [(Str.ofString "at", Value.int (c.1 : Int) c.2)]) [] (fun c => i + 1 ≤ c.1 ∧ c.1 ≤ x.length + 3 ∧ wEnd (tl px) (i + 1) = wEnd (tl px) c.1) (fun c => x.length + 3 - c.1) (i + 1, _) F' N' ?kk ?kp ?_
    case kk => kst_all
    case kp => exact ⟨Nat.le_refl _, by show i + 1 ≤ _; omega, rfl⟩
    clear F' N'
    rintro ⟨j, jt⟩ u2' h2' tk2' ⟨q1, q2, q3⟩ F' N'
    dsimp only at q1 q2 q3 F' N'
    (try k_fold)
    k_steps
    all_goals (
      rename Fr _ _ _ _ => F'
      rename News _ _ _ _ => N'
      simp only [item_nat, item_p1, one_dash, one_dash_ne, one_blank_ne, decide_eq_true_eq, decide_eq_false_iff_not, Bool.not_eq_true', Bool.not_eq_false'] at *
      first
      | (have hs : stopB (tl px) j = false := by first | exact on_other (by assumption) (by assumption) | exact on_dash (by assumption) (by assumption) (by assumption)
         have hne : j ≠ x.length + 3 := by rintro rfl; rw [stop_blank hE] at hs; exact absurd hs (by decide)
         refine' my_end (j + 1, _) F' N' (by kst_all) (by walk_at "my same") ?_ ?_
         · exact ⟨by show i + 1 ≤ j + 1; omega, by show j + 1 ≤ _; omega, by rw [q3, wEnd_step (by rw [tl_length]; omega) hs]⟩
         · show x.length + 3 - (j + 1) < x.length + 3 - j; omega)
      | (have hc := cEnd_word (e := x.length + 3) hb hd q3 (by first | exact stop_blank (by assumption) | exact stop_dash (by assumption) (by assumption) | exact stop_hyph (by assumption) (by assumption))
         rw [if_pos ⟨by assumption, by assumption⟩] at hc
         have hj : g (tl px) j = 45 := by assumption
         have hne : j ≠ x.length + 3 := by rintro rfl; rw [hE] at hj; exact absurd hj (by decide)
         rw [show ((j : Int) + 1) = ((j + 1 : Nat) : Int) from rfl, slice_sl (by omega) (by omega)] at N'
         (try simp only [List.push_toArray] at N')
         refine' my_end (j + 1, _, vs ++ [_], xs ++ [sl (tl px) i (j + 1)], n + 1) F' N' (by kst_all) (by walk_at "my same") ?_ ?_
         · refine ⟨by show 3 ≤ j + 1; omega, by show j + 1 ≤ _; omega, p3.append' (.cons _ _ .nil), ?_, ?_⟩
           · exact split_step (by omega) hc p4
           · show (xs ++ [_]).length ≤ j + 1; rw [List.length_append]; simp; omega
         · show x.length + 3 - (j + 1) < x.length + 3 - i; omega)
      | (have hc := cEnd_word (e := x.length + 3) hb hd q3 (by first | exact stop_blank (by assumption) | exact stop_dash (by assumption) (by assumption) | exact stop_hyph (by assumption) (by assumption))
         rw [if_neg (by first | exact fun h => absurd h.1 (by assumption) | exact fun h => h.2 (by assumption))] at hc
         rw [slice_sl (by omega) (by omega)] at N'
         (try simp only [List.push_toArray] at N')
         refine' my_end (j, _, vs ++ [_], xs ++ [sl (tl px) i j], n + 1) F' N' (by kst_all) (by walk_at "my same") ?_ ?_
         · refine ⟨by show 3 ≤ j; omega, by show j ≤ _; omega, p3.append' (.cons _ _ .nil), ?_, ?_⟩
           · exact split_step (by omega) hc p4
           · show (xs ++ [_]).length ≤ j; rw [List.length_append]; simp; omega
         · show x.length + 3 - j < x.length + 3 - i; omega))
  · have hi : i = x.length + 3 := by omega
    rw [hi, splitFrom_stop (by omega), List.append_nil] at p4
    refine hret _ vs n _ _ (by k_asm) (by k_asm) ?_ hlt
    have e9 : splitL (tl x) = xs := by unfold splitL; rw [← htl, tl_length, ← p4]
    rw [e9]
    exact p3
end Mine
namespace Mine
/-! wrap's lines out of its pieces -/
def blankS (x : Str) : Bool := Txt.strip x == Str.ofString ""
def sumLen (cs : List Str) : Nat := (cs.map (·.length)).sum
def weight (cs : List Str) : Nat := sumLen cs + cs.length
def dropB (started : Bool) : List Str → List Str
  | [] => []
  | c :: r => if started && blankS c then r else c :: r
def fillL (wd : Int) : Nat → List Str → List Str × Nat × List Str
  | len, [] => ([], len, [])
  | len, c :: r => if (len : Int) + (c.length : Int) ≤ wd then (c :: (fillL wd (len + c.length) r).1, (fillL wd (len + c.length) r).2.1, (fillL wd (len + c.length) r).2.2) else ([], len, c :: r)
def cutI (e : Int) (c : Str) : Int :=
  if 0 < Txt.rfind (Txt.slice c none (some e)) (Str.ofString "-") ∧ (Txt.stripChars (Txt.slice c none (some (Txt.rfind (Txt.slice c none (some e)) (Str.ofString "-")))) (Str.ofString "-") == Str.ofString "") = false
  then Txt.rfind (Txt.slice c none (some e)) (Str.ofString "-") + 1 else e
def longW (wd : Int) (cur : List Str) (len : Nat) : List Str → List Str × List Str
  | [] => (cur, [])
  | c :: r => if wd < (c.length : Int) ∧ (len : Int) < wd then (cur ++ [Txt.slice c none (some (cutI (wd - len) c))], Txt.slice c (some (cutI (wd - len) c)) none :: r) else (cur, c :: r)
def trimW (cur : List Str) : List Str := match cur.getLast? with
  | some c => if blankS c then cur.dropLast else cur
  | none => cur
def turnW (wd : Int) (started : Bool) (cs : List Str) : List Str × List Str :=
  ((trimW (longW wd (fillL wd 0 (dropB started cs)).1 (fillL wd 0 (dropB started cs)).2.1 (fillL wd 0 (dropB started cs)).2.2).1), (longW wd (fillL wd 0 (dropB started cs)).1 (fillL wd 0 (dropB started cs)).2.1 (fillL wd 0 (dropB started cs)).2.2).2)
def lineW (cur : List Str) : List Str := if cur.isEmpty then [] else [Txt.join (Str.ofString "") cur]
def wrapF : Nat → Int → Bool → List Str → List Str
  | 0, _, _, _ => []
  | _ + 1, _, _, [] => []
  | f + 1, wd, started, c :: r => lineW (turnW wd started (c :: r)).1 ++ wrapF f wd (started || !(turnW wd started (c :: r)).1.isEmpty) (turnW wd started (c :: r)).2
def wrapL (l : List Nat) (wd : Int) : List Str := wrapF (weight (splitL (plainFrom 0 l))) wd false (splitL (plainFrom 0 l))
theorem sumLen_cons (c : Str) (r : List Str) : sumLen (c :: r) = c.length + sumLen r := by simp [sumLen]
theorem sumLen_append (a b : List Str) : sumLen (a ++ b) = sumLen a + sumLen b := by simp [sumLen]
theorem weight_cons (c : Str) (r : List Str) : weight (c :: r) = c.length + 1 + weight r := by simp [weight, sumLen_cons]; omega
theorem weight_nil : weight [] = 0 := rfl
theorem dropB_weight (st : Bool) (cs : List Str) : weight (dropB st cs) ≤ weight cs := by
  cases cs with
  | nil => exact Nat.le_refl _
  | cons c r =>
    simp only [dropB]
    split
    · rw [weight_cons]; omega
    · exact Nat.le_refl _
theorem fill_weight (wd : Int) : ∀ (cs : List Str) (len : Nat), weight (fillL wd len cs).1 + weight (fillL wd len cs).2.2 = weight cs
  | [], len => rfl
  | c :: r, len => by
    have ih := fill_weight wd r (len + c.length)
    unfold fillL
    split
    · simp only [weight_cons]; omega
    · simp [weight_cons, weight_nil]
theorem slice_le (c : Str) (a b : Option Int) : (Txt.slice c a b).length ≤ c.length := PyProof.Txt.length_slice_le c a b
theorem slice_from_lt {c : Str} {e : Int} (h : 1 ≤ e) (hc : 0 < c.length) : (Txt.slice c (some e) none).length < c.length := by
  have := PyProof.Rows.fact_slice_sn c e
  rcases Int.le_total e (c.length : Int) with h1 | h1
  · have := this.1 (by omega) h1; omega
  · have := this.2 h1; omega
theorem cutI_pos {e : Int} {c : Str} (h : 1 ≤ e) : 1 ≤ cutI e c := by
  unfold cutI; split <;> omega
theorem long_weight {wd : Int} {cur : List Str} {len : Nat} {cs : List Str} : weight (longW wd cur len cs).2 ≤ weight cs ∧ sumLen (longW wd cur len cs).1 ≤ sumLen cur + weight cs := by
  cases cs with
  | nil => simp [longW, weight_nil]
  | cons c r =>
    simp only [longW]
    split
    · rename_i h
      have h1 := slice_from_lt (c := c) (e := cutI (wd - len) c) (cutI_pos (by omega)) (by omega)
      have h2 := slice_le c none (some (cutI (wd - len) c))
      simp only [weight_cons, sumLen_append, sumLen_cons, show sumLen [] = 0 from rfl]
      omega
    · simp [weight_cons]
theorem turn_weight {wd : Int} {st : Bool} {c : Str} {r : List Str} (hw : 0 < wd) : weight (turnW wd st (c :: r)).2 < weight (c :: r) := by
  unfold turnW
  simp only
  have h1 := dropB_weight st (c :: r)
  cases hd : dropB st (c :: r) with
  | nil =>
    simp only [fillL, longW, weight_nil, weight_cons]; omega
  | cons d s =>
    rw [hd] at h1
    have h2 := fill_weight wd (d :: s) 0
    have h3 := (long_weight (wd := wd) (cur := (fillL wd 0 (d :: s)).1) (len := (fillL wd 0 (d :: s)).2.1) (cs := (fillL wd 0 (d :: s)).2.2)).1
    by_cases hf : ((0 : Nat) : Int) + (d.length : Int) ≤ wd
    · have h4 : 0 < weight (fillL wd 0 (d :: s)).1 := by
        unfold fillL; rw [if_pos hf]; simp only [weight_cons]; omega
      omega
    · have h4 : fillL wd 0 (d :: s) = ([], 0, d :: s) := by unfold fillL; rw [if_neg hf]
      rw [h4]
      simp only [longW]
      rw [if_pos ⟨by omega, by omega⟩]
      have h5 := slice_from_lt (c := d) (e := cutI (wd - ((0 : Nat) : Int)) d) (cutI_pos (by omega)) (by omega)
      simp only [weight_cons] at h1 ⊢
      omega
theorem trim_snoc (cur : List Str) (c : Str) : trimW (cur ++ [c]) = if blankS c then cur else cur ++ [c] := by simp [trimW]
theorem trim_nil : trimW [] = [] := rfl
theorem trim_len (cur : List Str) : sumLen (trimW cur) ≤ sumLen cur := by
  rcases List.eq_nil_or_concat cur with rfl | ⟨a, c, rfl⟩
  · exact Nat.le_refl _
  · simp only [List.concat_eq_append, trim_snoc]
    split
    · rw [sumLen_append]; omega
    · exact Nat.le_refl _
theorem wrapF_nil (f : Nat) (wd : Int) (st : Bool) : wrapF f wd st [] = [] := by cases f <;> rfl
theorem long_yes {wd : Int} {cur : List Str} {len : Nat} {d : Str} {r : List Str} (h1 : wd < (d.length : Int)) (h2 : (len : Int) < wd) :
    longW wd cur len (d :: r) = (cur ++ [Txt.slice d none (some (cutI (wd - len) d))], Txt.slice d (some (cutI (wd - len) d)) none :: r) := by simp only [longW]; rw [if_pos ⟨h1, h2⟩]
theorem long_no {wd : Int} {cur : List Str} {len : Nat} {d : Str} {r : List Str} (h : ¬ (wd < (d.length : Int) ∧ (len : Int) < wd)) : longW wd cur len (d :: r) = (cur, d :: r) := by simp only [longW]; rw [if_neg h]
theorem cut_hy {e : Int} {c : Str} (h : 0 < Txt.rfind (Txt.slice c none (some e)) (Str.ofString "-")) (h1 : (Txt.stripChars (Txt.slice c none (some (Txt.rfind (Txt.slice c none (some e)) (Str.ofString "-")))) (Str.ofString "-") != Str.ofString "") = true) :
    cutI e c = Txt.rfind (Txt.slice c none (some e)) (Str.ofString "-") + 1 := by
  unfold cutI
  rw [if_pos ⟨h, by simpa [bne] using h1⟩]
theorem cut_no1 {e : Int} {c : Str} (h1 : (Txt.stripChars (Txt.slice c none (some (Txt.rfind (Txt.slice c none (some e)) (Str.ofString "-")))) (Str.ofString "-") != Str.ofString "") = false) :
    cutI e c = e := by
  unfold cutI
  rw [if_neg]
  rintro ⟨_, h⟩
  rw [bne, h] at h1
  exact absurd h1 (by decide)
theorem cut_no2 {e : Int} {c : Str} (h : ¬ 0 < Txt.rfind (Txt.slice c none (some e)) (Str.ofString "-")) : cutI e c = e := by
  unfold cutI
  rw [if_neg fun h1 => h h1.1]
theorem lineW_nil : lineW [] = [] := rfl
theorem lineW_snoc (a : List Str) (c : Str) : lineW (a ++ [c]) = [Txt.join (Str.ofString "") (a ++ [c])] := by
  unfold lineW; rw [if_neg (by simp)]
theorem wrap_step {f : Nat} {ls : List Str} {c : Str} {r : List Str} {T : List Str} {wd : Int} {cur rest : List Str} (h : ls ++ wrapF f wd (!ls.isEmpty) (c :: r) = T) (hf : 0 < f)
    (h1 : turnW wd (!ls.isEmpty) (c :: r) = (cur, rest)) : (ls ++ lineW cur) ++ wrapF (f - 1) wd (!(ls ++ lineW cur).isEmpty) rest = T := by
  obtain ⟨g, rfl⟩ : ∃ g, f = g + 1 := ⟨f - 1, by omega⟩
  simp only [wrapF, h1] at h
  rw [← h, List.append_assoc]
  congr 3
  cases ls <;> cases cur <;> simp [lineW]
theorem lineW_len (cur : List Str) : (lineW cur).length ≤ 1 := by unfold lineW; split <;> simp
theorem long_len (wd : Int) (cur : List Str) (len : Nat) (cs : List Str) : (longW wd cur len cs).1.length ≤ cur.length + 1 := by
  cases cs with
  | nil => simp [longW]
  | cons c r => simp only [longW]; split <;> simp
theorem trim_length (cur : List Str) : (trimW cur).length ≤ cur.length := by
  unfold trimW
  split
  · split
    · simp
    · exact Nat.le_refl _
  · exact Nat.le_refl _
/-! the pieces' lengths -/
theorem dEnd_le {l : List Nat} {e : Nat} (he : g l e ≠ 45) (i : Nat) : i ≤ e → dEnd l i ≤ e := by
  fun_induction dEnd l i with
  | case1 i h ih => intro hi; exact ih (by rcases Nat.lt_or_ge i e with h1 | h1; exact h1; (have : i = e := by omega); rw [this] at h; exact absurd h.2 he)
  | case2 i h => exact _root_.id
theorem bEnd_le (l : List Nat) (e i : Nat) : i ≤ e → bEnd l e i ≤ e := by
  fun_induction bEnd l e i with
  | case1 i h ih => intro hi; exact ih h.1
  | case2 i h => exact _root_.id
theorem wEnd_le {l : List Nat} {e : Nat} (he : stopB l e = true) (i : Nat) : i ≤ e → wEnd l i ≤ e := by
  fun_induction wEnd l i with
  | case1 i h ih => intro hi; exact ih (by rcases Nat.lt_or_ge i e with h1 | h1; exact h1; (have : i = e := by omega); rw [this, he] at h; exact absurd h.2 (by decide))
  | case2 i h => exact _root_.id
theorem cEnd_le {l : List Nat} {e s : Nat} (he : g l e = 32) (h : s < e) : cEnd l e s ≤ e := by
  have h1 := bEnd_le l e (s + 1) h
  have h2 := dEnd_le (l := l) (e := e) (by rw [he]; decide) (s + 1) h
  have h3 := wEnd_le (stop_blank he) (s + 1) h
  unfold cEnd
  repeat' split
  · exact h1
  · exact h2
  · rename_i h4
    have : wEnd l (s + 1) ≠ e := by intro h5; rw [h5, he] at h4; exact absurd h4.1 (by decide)
    omega
  · exact h3
theorem sl_length {l : List Nat} {a b : Nat} (h : b ≤ l.length) : (sl l a b).length = b - a := by
  simp [sl, Str.length]; omega
theorem split_weight {l : List Nat} {e : Nat} (he : g l e = 32) (hl : e ≤ l.length) (s : Nat) : s ≤ e → sumLen (splitFrom l e s) = e - s ∧ (splitFrom l e s).length ≤ e - s := by
  fun_induction splitFrom l e s with
  | case1 s h ih =>
    intro _
    have h1 := cEnd_le he h
    have h2 := cEnd_gt l e s
    obtain ⟨i1, i2⟩ := ih h1
    rw [sumLen_cons, sl_length (by omega), List.length_cons]
    omega
  | case2 s h => intro h1; simp [sumLen]; omega
theorem pad_end (p : List Nat) : g (padL p) (p.length + 3) = 32 := by simp [g, padL, List.getD_eq_getElem?_getD]
theorem splitL_weight (p : List Nat) : weight (splitL p) ≤ 2 * p.length := by
  have := split_weight (l := padL p) (e := p.length + 3) (pad_end p) (by simp [padL]) 3 (by omega)
  unfold splitL weight
  omega
end Mine
namespace Mine
local macro_rules | `(tactic| walk_at "my call done") => `(tactic| (
  (case k1 => k_asm); (case k2 => k_asm); (case k3 => k_asm); (case k4 => k_asm); (case k5 => k_asm); (case k6 => first | exact rfl | assumption); (case kp => first | exact trivial | assumption | ((repeat' (refine And.intro ?_ ?_)) <;> first | assumption | omega)); (case kd => ktr_room); (case ku => ktr_units)))
local macro_rules | `(tactic| walk_at "call ref") => `(tactic| (k_here; (with_unfolding_all refine' split_ok _ _ _ _ _ _ _ _ _ _ _ _ _ _ _ _ _ ?k1 ?k2 ?k3 ?k4 ?k5 ?k6 ?kp ?kd ?ku ?_); walk_at "my call done"; intro a9 vs9 n9 h9 tk9 F9 N9 S9 lt9; (have lt9' := allLt_of lt9); (try dsimp only); (try k_fold)))
-- lists of the ledger whose last item is known
local macro_rules | `(tactic| walk_at "my size") => `(tactic| ((try simp only [List.length_reverse, List.length_append, List.length_cons, List.length_nil]); omega))
local macro_rules | `(tactic| walk_at "truthy ref") => `(tactic| (k_here; k_dflt (first
  | (refine' my_truthT ?N ?m ?z ?_; (case N => k_asm); (case m => k_mem); (case z => walk_at "my size"))
  | (refine' my_truthF ?N ?m ?_; (case N => k_asm); (case m => k_mem))
  | (refine' my_truthG ?N ?m ?z ?_; (case N => k_asm); (case m => k_mem); (case z => walk_at "my size")))))
local macro_rules | `(tactic| walk_at "subscriptTail Name UnaryOp ref int") => `(tactic| (k_here; k_dflt (refine' my_last ?N ?m ?_ ?hs; (case N => k_asm); (case m => k_mem); (case hs => with_unfolding_all rfl))))
local macro_rules | `(tactic| walk_at "delItem ref int") => `(tactic| (k_here; k_dflt (refine' my_delLast ?F ?N ?U ?z ?_; (case F => k_asm); (case N => k_asm); (case U => k_upd); (case z => walk_at "my size")); intro h' F' N'))
local macro_rules | `(tactic| walk_at "call builtin:list.pop") => `(tactic| (k_here; k_dflt (refine' my_pop ?F ?N ?U ?z ?_; (case F => k_asm); (case N => k_asm); (case U => k_upd); (case z => walk_at "my size")); intro h' F' N'))
local macro_rules | `(tactic| walk_at "setItem ref int") => `(tactic| (k_here; k_dflt (refine' my_setLast ?F ?N ?U ?_; (case F => k_asm); (case N => k_asm); (case U => k_upd)); intro h' F' N'))
local macro_rules | `(tactic| walk_at "call builtin:list.append") => `(tactic| (k_here; k_dflt (refine' my_append ?F ?N ?U ?z ?_; (case F => k_asm); (case N => k_asm); (case U => k_upd); (case z => walk_at "my size")); intro h' F' N'))
local macro_rules | `(tactic| walk_at "call builtin:str.join") => `(tactic| (k_here; k_dflt (refine' my_join ?N ?m ?i ?z ?_; (case N => k_asm); (case m => k_mem); (case i => assumption); (case z => assumption)); intro t' k'))
local macro_rules | `(tactic| walk_at "call builtin:list.reverse") => `(tactic| (k_here; k_dflt (refine' my_reverse ?F ?N ?U ?z ?_; (case F => k_asm); (case N => k_asm); (case U => k_upd); (case z => walk_at "my size")); intro h' F' N'))
local macro_rules | `(tactic| walk_at "subscriptTail Subscript Slice str ref") => `(tactic| ((with_reducible show wpAny _ _ (subscriptTail _ (PySem.Expr.Slice (some _) none none _) _ _) _ _ _); (with_reducible rename Fr _ _ _ _ => F'); (with_reducible rename News _ _ _ _ => N'); (refine slice_strN_sn (hsz := ?hsz) (s := ⟨_, _, _, _, _⟩) F' N' ?_); (case hsz => size_fits); intro _ _ _ _ _))
local macro_rules | `(tactic| walk_at "subscriptTail Subscript Slice str ref") => `(tactic| ((with_reducible show wpAny _ _ (subscriptTail _ (PySem.Expr.Slice none (some _) none _) _ _) _ _ _); (with_reducible rename Fr _ _ _ _ => F'); (with_reducible rename News _ _ _ _ => N'); (refine slice_strN_ns (hsz := ?hsz) (s := ⟨_, _, _, _, _⟩) F' N' ?_); (case hsz => size_fits); intro _ _ _ _ _))
local macro_rules | `(tactic| walk_at "WPost") => `(tactic| (dsimp only [WPost]))
local macro_rules | `(tactic| walk_at "my same") => `(tactic| (intro z h2 h3; (try simp only [List.forall_mem_cons, List.not_mem_nil, false_implies, implies_true, and_true, ne_eq] at h2); (try simp only [List.contains_cons, List.contains_nil, Bool.or_false, Bool.or_eq_false_iff, beq_eq_false_iff_ne, ne_eq] at h3); (simp [kstB, h2, h3]; done)))
local macro_rules | `(tactic| walk_at "my same3") => `(tactic| (intro z h1 h2 h3; (try simp only [List.forall_mem_cons, List.not_mem_nil, false_implies, implies_true, and_true, ne_eq] at h2); (try simp only [List.contains_cons, List.contains_nil, Bool.or_false, Bool.or_eq_false_iff, beq_eq_false_iff_ne, ne_eq] at h3); (simp [kstB, h1, h2, h3]; done)))
local macro_rules | `(tactic| walk_at "FPost") => `(tactic| (dsimp only [FPost]))
local macro_rules | `(tactic| walk_at "MPost") => `(tactic| (dsimp only [MPost]))
set_option maxRecDepth 100000 in
set_option maxHeartbeats 8000000 in
theorem wrap_ok {w : World} {mean : ExcName → Option Value} {mg mb : Str → Option Value} {news : Led} {x : Str} {t : Tok} {wd : Int} {u : Tok} :
    Claim w mean mg mb 5 56 news (x.length ≤ 5000 ∧ 0 < wd) [.str x t, .int wd u] (RetL news (wrapL (tl x) wd)) := by
  unfold Claim RetL
  k_fill
  intros
  rename_i hpre hdp hun hret
  obtain ⟨hp1, hp2⟩ := hpre
  refine wpAny_call ?_
  cell_enter
  k_with_none
  k_with "exec While Compare cons nil" => refine halt ?_
  k_with "exec While BoolOp cons nil" => refine halt ?_
  k_with "exec While Name cons nil" => refine halt ?_
  k_with "pyIter str" => refine halt ?_
  k_steps
  refine unhalt ?_
  rename Fr _ _ _ _ => F'
  rename News _ _ _ _ => N'
  with_unfolding_all refine' my_text (σ := Str × Tok × Nat × Tok) (fun _ => news) (fun c => [(Str.ofString "plain", Value.str c.1 c.2.1), (Str.ofString "column", Value.int (c.2.2.1 : Int) c.2.2.2)]) [] (fun pre c => (∀ post, tl x = pre ++ post → tl c.1 ++ plainFrom c.2.2.1 post = plainFrom 0 (tl x)) ∧ c.1.length ≤ 8 * pre.length ∧ c.2.2.1 ≤ pre.length) (_, _, 0, _) (by rfl) F' N' ?kk ?kp ?_ ?_
  case kk => kst_all
  case kp => exact ⟨fun post e => by rw [e]; rfl, Nat.le_refl _, Nat.le_refl _⟩
  · clear F' N'
    rintro ⟨pl, pt, co, ct⟩ pre post n tt u' h' tk' own pre' he hpre' hoff ⟨p1, p2, p3⟩ F' N'
    dsimp only at p1 p2 p3 F' N'
    (try k_fold)
    have hle : pre.length + 1 + post.length ≤ 5000 := by
      have := congrArg List.length he
      rw [List.length_append, List.length_cons, ← tl, tl_length] at this
      omega
    k_steps
    all_goals (
      rename Fr _ _ _ _ => F'
      rename News _ _ _ _ => N'
      simp only [is_tab, in_ws4, in_ws2, decide_eq_true_eq, decide_eq_false_iff_not, Bool.not_eq_true', Bool.not_eq_false', mul_tab] at *
      first
      | (refine' my_fend (_, _, 0, _) F' N' (fun p hp => List.mem_append_left _ hp) (fun p hp => List.mem_append_right _ hp) rfl (by kst_all) (by walk_at "my same3") ?_
         rw [hpre']
         refine ⟨?_, ?_, by simp⟩
         · simp only [tl_append]; exact plain_tab p1 (by assumption)
         · show (_ ++ _ : Str).length ≤ 8 * (pre ++ [n]).length
           rw [List.length_append]; simp only [Str.length, List.size_toArray, List.length_replicate, List.length_cons, List.length_nil] at *; omega)
      | (refine' my_fend (_, _, 0, _) F' N' (fun p hp => List.mem_append_left _ hp) (fun p hp => List.mem_append_right _ hp) rfl (by kst_all) (by walk_at "my same3") ?_
         rw [hpre']
         refine ⟨?_, ?_, by simp⟩
         · simp only [tl_append, blank_cps, tl_mk]; exact plain_end p1 (by assumption) (by assumption) (by assumption)
         · show (_ ++ _ : Str).length ≤ 8 * (pre ++ [n]).length
           rw [List.length_append]; simp only [blank_cps, Str.length, List.size_toArray, List.length_replicate, List.length_cons, List.length_nil] at *; omega)
      | (refine' my_fend (_, _, co + 1, _) F' N' (fun p hp => List.mem_append_left _ hp) (fun p hp => List.mem_append_right _ hp) rfl (by kst_all) (by walk_at "my same3") ?_
         rw [hpre']
         refine ⟨?_, ?_, by rw [List.length_append]; show co + 1 ≤ pre.length + 1; omega⟩
         · simp only [tl_append, blank_cps, tl_mk]; first | exact plain_ws p1 (by assumption) (by assumption) (by assumption) | exact plain_sign p1 (by assumption) (by assumption)
         · show (_ ++ _ : Str).length ≤ 8 * (pre ++ [n]).length
           rw [List.length_append]; simp only [blank_cps, Str.length, List.size_toArray, List.length_cons, List.length_nil] at *; omega)
      | (exfalso; omega))
  · clear F' N'
    rintro ⟨pl, pt, co, ct⟩ u' h' tk' ⟨p1, p2, p3⟩ F' N'
    dsimp only at p1 p2 p3 F' N'
    (try k_fold)
    have hpl := p1 [] (by rw [List.append_nil]; rfl)
    rw [show plainFrom co [] = [] from rfl, List.append_nil] at hpl
    have hxl : x.cps.toList.length = x.length := tl_length x
    rw [hxl] at p2
    clear p1 p3
    have hw0 : weight (splitL (tl pl)) ≤ 80000 := by have := splitL_weight (tl pl); rw [tl_length] at this; omega
    k_with "call builtin:list.reverse" => refine halt ?_
    k_steps
    refine unhalt ?_
    rename StrsAre _ _ => S9
    have hvl := S9.length
    have hwl : (splitL (tl pl)).length ≤ weight (splitL (tl pl)) := by unfold weight; omega
    k_with_none
    k_with "exec While BoolOp cons nil" => refine halt ?_
    k_with "exec While Name cons nil" => refine halt ?_
    k_with "exec If" => refine halt ?_
    k_steps
    refine unhalt ?_
    rename Fr _ _ _ _ => F'
    rename News _ _ _ _ => N'
    rename _ ∧ AllLt _ news => l1
    rename AllLt _ news => l2
    with_unfolding_all refine' w_while (σ := Addr × Addr × List Value × List Str × Nat × List Value × List Str × Nat × Nat) (fun c => (c.2.1, listOf c.2.2.2.2.2.1.toArray c.2.2.2.2.2.2.2.1) :: (c.1, listOf c.2.2.1.reverse.toArray c.2.2.2.2.1) :: news) (fun c => [(Str.ofString "chunks", Value.ref c.1), (Str.ofString "lines", Value.ref c.2.1), (Str.ofString "width", Value.int wd u)]) (fun c => (c.1 < c.2.1 ∧ AllLt c.1 news ∧ AllLt c.2.1 news) ∧ StrsAre c.2.2.1 c.2.2.2.1 ∧ StrsAre c.2.2.2.2.2.1 c.2.2.2.2.2.2.1 ∧ c.2.2.2.2.2.2.1 ++ wrapF c.2.2.2.2.2.2.2.2 wd (!c.2.2.2.2.2.2.1.isEmpty) c.2.2.2.1 = wrapF (weight (splitL (tl pl))) wd false (splitL (tl pl)) ∧ weight c.2.2.2.1 ≤ c.2.2.2.2.2.2.2.2 ∧ c.2.2.2.2.2.2.1.length + c.2.2.2.2.2.2.2.2 ≤ 80000) (fun c => c.2.2.2.2.2.2.2.2) (_, _, _, splitL (tl pl), _, [], [], 0, weight (splitL (tl pl))) F' N' (fun _ hp => hp) ?kk ?kp ?_
    case kk => kst_all
    case kp => exact ⟨⟨l1.1, l2, l1.2⟩, S9, .nil, rfl, Nat.le_refl _, by simpa using hw0⟩
    clear F' N' l1 l2
    rintro ⟨ca, la, ws, cs, n, lv, ls, nl, f⟩ u2 h2 tk2 ⟨⟨l1, l2, l3⟩, q1, q2, q3, q4, q5⟩ F' N'
    dsimp only at l1 l2 l3 q1 q2 q3 q4 q5 F' N'
    (try k_fold)
    cases cs with
    | nil =>
      cases q1
      rw [List.reverse_nil] at N'
      k_steps
      rw [wrapF_nil, List.append_nil] at q3
      refine hret _ lv nl _ _ (by k_asm) (cb_drop (by k_asm) ?_) ?_ (ktn_ltOf l3)
      · intro p hp; rcases List.mem_cons.mp hp with rfl | hp
        · exact .head _
        · exact .tail _ (.tail _ hp)
      · unfold wrapL; rw [← hpl, ← q3]; exact q2
    | cons c r =>
      obtain ⟨ct, ws', rfl, q1'⟩ := q1.cons_inv
      rw [List.reverse_cons] at N'
      have q6 := q1'.length
      have q7 := q2.length
      rw [weight_cons] at q4
      have q8 : r.length ≤ weight r := by unfold weight; omega
      k_steps
      refine unhalt ?_
      rename Fr _ _ _ _ => F'
      rename News _ _ _ _ => N'
      rename _ ∧ _ ∧ AllLt _ news => l4
      obtain ⟨l4a, l4b, l4c⟩ := l4
      replace l1 := ltN l1
      replace l4a := ltN l4a
      replace l4b := ltN l4b
      with_unfolding_all refine' mid (σ := Addr × List Value × List Str × Nat × Tok) F' (fun c => (c.1, listOf ([] : List Value).toArray 0) :: (la, listOf lv.toArray nl) :: (ca, listOf c.2.1.reverse.toArray c.2.2.2.1) :: news) (fun c => [(Str.ofString "chunks", Value.ref ca), (Str.ofString "lines", Value.ref la), (Str.ofString "width", Value.int wd u), (Str.ofString "cur_line", Value.ref c.1), (Str.ofString "cur_len", Value.int 0 c.2.2.2.2)]) (fun c9 => (la < c9.1 ∧ ca < c9.1 ∧ AllLt c9.1 news) ∧ StrsAre c9.2.1 c9.2.2.1 ∧ c9.2.2.1 = dropB (!ls.isEmpty) (c :: r)) ?h ?k
      · refine wpAny_If ?_
        k_steps
        all_goals (
          rename Fr _ _ _ _ => F'
          rename News _ _ _ _ => N'
          first
          | (refine' midI (_, ws', r, _, _) F' N' (fun _ hp => hp) (by kst_all) ⟨⟨l4a, l4b, l4c⟩, q1', ?_⟩
             simp only [strs_isEmpty q2] at *
             simp_all [dropB, blankS])
          | (refine' midI (_, Value.str c ct :: ws', c :: r, _, _) F' N' (by rw [List.reverse_cons]; exact fun _ hp => hp) (by kst_all) ⟨⟨l4a, l4b, l4c⟩, q1, ?_⟩
             simp only [strs_isEmpty q2] at *
             simp_all [dropB, blankS]))
      · clear F' N'
        rintro ⟨xl, ws1, cs1, n1, ktok⟩ h3 tk3 m3 ⟨⟨l5, l6, l7⟩, r1, r2⟩ F' N'
        dsimp only at l5 l6 l7 r1 r2 F' N'
        replace l5 := ltN l5
        replace l6 := ltN l6
        (try k_fold)
        k_steps
        refine unhalt ?_
        have r3 := dropB_weight (!ls.isEmpty) (c :: r)
        rw [← r2, weight_cons] at r3
        have r4 := r1.length
        have r5 : cs1.length ≤ weight cs1 := by unfold weight; omega
        with_unfolding_all refine' mid (σ := List Value × List Str × Nat × List Value × List Str × Nat × Nat × Tok) F' (fun c => (xl, listOf c.1.toArray c.2.2.1) :: (la, listOf lv.toArray nl) :: (ca, listOf c.2.2.2.1.reverse.toArray c.2.2.2.2.2.1) :: news) (fun c => [(Str.ofString "chunks", Value.ref ca), (Str.ofString "lines", Value.ref la), (Str.ofString "width", Value.int wd u), (Str.ofString "cur_line", Value.ref xl), (Str.ofString "cur_len", Value.int (c.2.2.2.2.2.2.1 : Int) c.2.2.2.2.2.2.2)]) (fun c => StrsAre c.1 c.2.1 ∧ StrsAre c.2.2.2.1 c.2.2.2.2.1 ∧ c.2.1 = (fillL wd 0 cs1).1 ∧ c.2.2.2.2.2.2.1 = (fillL wd 0 cs1).2.1 ∧ c.2.2.2.2.1 = (fillL wd 0 cs1).2.2) ?h2 ?k2
        · with_unfolding_all refine' w_while (σ := List Value × List Str × Nat × List Value × List Str × Nat × Nat × Tok) (fun c => (xl, listOf c.1.toArray c.2.2.1) :: (la, listOf lv.toArray nl) :: (ca, listOf c.2.2.2.1.reverse.toArray c.2.2.2.2.2.1) :: news) (fun c => [(Str.ofString "chunks", Value.ref ca), (Str.ofString "lines", Value.ref la), (Str.ofString "width", Value.int wd u), (Str.ofString "cur_line", Value.ref xl), (Str.ofString "cur_len", Value.int (c.2.2.2.2.2.2.1 : Int) c.2.2.2.2.2.2.2)]) (fun c => StrsAre c.1 c.2.1 ∧ StrsAre c.2.2.2.1 c.2.2.2.2.1 ∧ fillL wd 0 cs1 = (c.2.1 ++ (fillL wd c.2.2.2.2.2.2.1 c.2.2.2.2.1).1, (fillL wd c.2.2.2.2.2.2.1 c.2.2.2.2.1).2.1, (fillL wd c.2.2.2.2.2.2.1 c.2.2.2.2.1).2.2) ∧ c.2.1.length + weight c.2.2.2.2.1 ≤ 80000) (fun c => c.2.2.2.2.1.length) ([], [], 0, ws1, cs1, n1, 0, ktok) F' N' (fun _ hp => hp) ?kk ?kp ?_
          case kk => kst_all
          case kp => exact ⟨.nil, r1, rfl, by simp; omega⟩
          clear F' N'
          rintro ⟨cv, cur, cn, ws2, cs2, n2, len, lt⟩ u4 h4 tk4 ⟨s1, s2, s3, s4⟩ F' N'
          dsimp only at s1 s2 s3 s4 F' N'
          (try k_fold)
          have s5 := s1.length
          cases cs2 with
          | nil =>
            cases s2
            rw [List.reverse_nil] at N'
            k_steps
            rename Fr _ _ _ _ => F'
            rename News _ _ _ _ => N'
            refine' midI (cv, cur, cn, [], [], n2, len, _) F' N' (fun _ hp => hp) (by kst_all) ⟨s1, .nil, ?_, ?_, ?_⟩
            all_goals (rw [s3]; simp [fillL])
          | cons d r' =>
            obtain ⟨dt, ws'', rfl, s2'⟩ := s2.cons_inv
            rw [List.reverse_cons] at N'
            have s6 := s2'.length
            rw [weight_cons] at s4
            have s7 : r'.length ≤ weight r' := by unfold weight; omega
            k_steps
            · rename Fr _ _ _ _ => F'
              rename News _ _ _ _ => N'
              rename (len : Int) + (d.length : Int) ≤ wd => hfit
              refine' wend (cv ++ [Value.str d dt], cur ++ [d], _, ws'', r', _, len + d.length, _) F' N' (fun _ hp => hp) (by kst_all) ⟨s1.append' (.cons d dt .nil), s2', ?_, ?_⟩ ?_
              · rw [s3]; simp [fillL, hfit]
              · show (cur ++ [d]).length + weight r' ≤ 80000; rw [List.length_append]; simp; omega
              · show r'.length < (d :: r').length; simp
            · rename Fr _ _ _ _ => F'
              rename News _ _ _ _ => N'
              rename ¬ (len : Int) + (d.length : Int) ≤ wd => hfit
              refine' midI (cv, cur, cn, Value.str d dt :: ws'', d :: r', n2, len, _) F' N' (by dsimp only; rw [List.reverse_cons]; exact fun _ hp => hp) (by kst_all) ⟨s1, s2, ?_, ?_, ?_⟩
              all_goals (rw [s3]; simp [fillL, hfit])
        · clear F' N'
          rintro ⟨cv, cur, cn, ws2, cs2, n2, len, lt⟩ h4 tk4 m4 ⟨s1, s2, s3, s4, s5⟩ F' N'
          dsimp only at s1 s2 s3 s4 s5 F' N'
          have s6 := fill_weight wd cs1 0
          rw [← s3, ← s5] at s6
          have s7 := s1.length
          have s8 : cur.length ≤ weight cur := by unfold weight; omega
          (try k_fold)
          k_steps
          refine unhalt ?_
          with_unfolding_all refine' mid (σ := List Value × List Str × Nat × List Value × List Str × Nat) F' (fun c => (xl, listOf c.1.toArray c.2.2.1) :: (la, listOf lv.toArray nl) :: (ca, listOf c.2.2.2.1.reverse.toArray c.2.2.2.2.2) :: news) (fun c => [(Str.ofString "chunks", Value.ref ca), (Str.ofString "lines", Value.ref la), (Str.ofString "width", Value.int wd u), (Str.ofString "cur_line", Value.ref xl)]) (fun c => StrsAre c.1 c.2.1 ∧ StrsAre c.2.2.2.1 c.2.2.2.2.1 ∧ c.2.1 = (longW wd cur len cs2).1 ∧ c.2.2.2.2.1 = (longW wd cur len cs2).2) ?h3 ?k3
          · refine wpAny_If ?_
            cases cs2 with
            | nil =>
              cases s2
              rw [List.reverse_nil] at N'
              k_steps
              rename Fr _ _ _ _ => F'
              rename News _ _ _ _ => N'
              exact midI (cv, cur, cn, [], [], n2) F' N' (fun _ hp => hp) (by kst_all) ⟨s1, .nil, rfl, rfl⟩
            | cons d r' =>
              obtain ⟨dt, ws'', rfl, s2'⟩ := s2.cons_inv
              rw [List.reverse_cons] at N'
              have t1 := s2'.length
              rw [weight_cons] at s6
              have t2 : r'.length ≤ weight r' := by unfold weight; omega
              k_steps
              · refine unhalt ?_
                rename Fr _ _ _ _ => F'
                rename News _ _ _ _ => N'
                rename wd < (d.length : Int) => hd1
                rename (len : Int) < wd => hd2
                with_unfolding_all refine' mid (σ := Tok) F' (fun _ => (xl, listOf cv.toArray cn) :: (la, listOf lv.toArray nl) :: (ca, listOf (ws''.reverse ++ [Value.str d dt]).toArray n2) :: news) (fun c => [(Str.ofString "chunks", Value.ref ca), (Str.ofString "lines", Value.ref la), (Str.ofString "width", Value.int wd u), (Str.ofString "cur_line", Value.ref xl), (Str.ofString "end", Value.int (cutI (wd - len) d) c)]) (fun _ => True) ?h4 ?k4
                · refine wpAny_If ?_
                  k_steps
                  all_goals (
                    rename Fr _ _ _ _ => F'
                    rename News _ _ _ _ => N'
                    refine' midI _ F' N' (fun _ hp => hp) (by dsimp only; (first | rw [cut_hy (by assumption) (by assumption)] | rw [cut_no1 (by assumption)] | rw [cut_no2 (by assumption)]); kst_all) trivial)
                · clear F' N'
                  rintro et h5 tk5 m5 - F' N'
                  (try k_fold)
                  k_steps
                  rename Fr _ _ _ _ => F'
                  rename News _ _ _ _ => N'
                  refine' midI (cv ++ [_], cur ++ [Txt.slice d none (some (cutI (wd - len) d))], _, Value.str (Txt.slice d (some (cutI (wd - len) d)) none) _ :: ws'', Txt.slice d (some (cutI (wd - len) d)) none :: r', _) F' N' (by dsimp only; rw [List.reverse_cons]; exact fun _ hp => hp) (by kst_all) ⟨s1.append' (.cons _ _ .nil), .cons _ _ s2', ?_, ?_⟩
                  all_goals (rw [long_yes hd1 hd2])
              all_goals (
                rename Fr _ _ _ _ => F'
                rename News _ _ _ _ => N'
                refine' midI (cv, cur, cn, Value.str d dt :: ws'', d :: r', n2) F' N' (by dsimp only; rw [List.reverse_cons]; exact fun _ hp => hp) (by kst_all) ⟨s1, s2, ?_, ?_⟩
                all_goals (rw [long_no (by omega)]))
          · clear F' N'
            rintro ⟨cv3, cur3, cn3, ws3, cs3, n3⟩ h6 tk6 m6 ⟨t1, t2, t3, t4⟩ F' N'
            dsimp only at t1 t2 t3 t4 F' N'
            have t5 := (long_weight (wd := wd) (cur := cur) (len := len) (cs := cs2))
            rw [← t3, ← t4] at t5
            have t5' := long_len wd cur len cs2
            rw [← t3] at t5'
            have t6 := t1.length
            (try k_fold)
            k_steps
            refine unhalt ?_
            with_unfolding_all refine' mid (σ := List Value × List Str × Nat) F' (fun c => (xl, listOf c.1.toArray c.2.2) :: (la, listOf lv.toArray nl) :: (ca, listOf ws3.reverse.toArray n3) :: news) (fun c => [(Str.ofString "chunks", Value.ref ca), (Str.ofString "lines", Value.ref la), (Str.ofString "width", Value.int wd u), (Str.ofString "cur_line", Value.ref xl)]) (fun c => StrsAre c.1 c.2.1 ∧ c.2.1 = trimW cur3) ?h5 ?k5
            · refine wpAny_If ?_
              rcases strs_snoc_inv t1 with ⟨rfl, e9⟩ | ⟨us, y, yt, ys, rfl, e9, t1'⟩
              · k_steps
                rename Fr _ _ _ _ => F'
                rename News _ _ _ _ => N'
                exact midI ([], cur3, cn3) F' N' (fun _ hp => hp) (by kst_all) ⟨t1, by rw [e9]; rfl⟩
              · have t7 := t1'.length
                rw [List.length_append, List.length_cons, List.length_nil] at t6
                have t8 := congrArg sumLen e9
                rw [sumLen_append, sumLen_cons] at t8
                have t9 : sumLen cur ≤ weight cur := by unfold weight; omega
                k_steps
                all_goals (
                  rename Fr _ _ _ _ => F'
                  rename News _ _ _ _ => N'
                  rw [e9] at t1 ⊢
                  first
                  | (refine' midI (us ++ [_], ys ++ [y], _) F' N' (fun _ hp => hp) (by kst_all) ⟨t1, ?_⟩
                     rw [trim_snoc, if_neg (by unfold blankS; simp_all)])
                  | (refine' midI (us, ys, _) F' N' (fun _ hp => hp) (by kst_all) ⟨t1', ?_⟩
                     rw [trim_snoc, if_pos (by unfold blankS; simp_all)]))
            · clear F' N'
              rintro ⟨cv4, cur4, cn4⟩ h7 tk7 m7 ⟨y1, y2⟩ F' N'
              dsimp only at y1 y2 F' N'
              have y3 := y1.length
              have y3' := trim_length cur3
              rw [← y2] at y3'
              have y4 := trim_len cur3
              rw [← y2] at y4
              have hturn : turnW wd (!ls.isEmpty) (c :: r) = (cur4, cs3) := by
                unfold turnW; rw [← r2, ← s3, ← s4, ← s5, ← t3, ← t4, ← y2]
              have y5 := turn_weight (wd := wd) (st := !ls.isEmpty) (c := c) (r := r) hp2
              rw [hturn, weight_cons] at y5
              dsimp only at y5
              have y6 := wrap_step q3 (by omega) hturn
              have y7 := lineW_len cur4
              (try k_fold)
              k_steps
              refine unhalt ?_
              refine wpAny_If ?_
              rcases strs_snoc_inv y1 with ⟨rfl, e9⟩ | ⟨us, y, yt, ys, rfl, e9, y1'⟩
              · k_steps
                rename Fr _ _ _ _ => F'
                rename News _ _ _ _ => N'
                rw [e9, lineW_nil, List.append_nil] at y6
                refine' wend (ca, la, ws3, cs3, n3, lv, ls, nl, f - 1) F' N' (fun _ hp => .tail _ hp) (by kst_all) ⟨⟨l1, l2, l3⟩, t2, q2, y6, ?_, ?_⟩ ?_
                · show weight cs3 ≤ f - 1; omega
                · show ls.length + (f - 1) ≤ 80000; omega
                · show f - 1 < f; omega
              · have z7 := y1'.length
                have z8 := congrArg List.length e9
                rw [List.length_append] at z8
                have z9 : (sumLen cur4) + cur4.length * (Str.ofString "").length ≤ 16777216 := by
                  rw [show (Str.ofString "").length = 0 from by decide +kernel]
                  have : sumLen cur ≤ weight cur := by unfold weight; omega
                  omega
                k_steps
                rename Fr _ _ _ _ => F'
                rename News _ _ _ _ => N'
                have z1 : lineW cur4 = [Txt.join (Str.ofString "") cur4] := by rw [e9]; exact lineW_snoc _ _
                rw [z1] at y6
                refine' wend (ca, la, ws3, cs3, n3, lv ++ [_], ls ++ [Txt.join (Str.ofString "") cur4], _, f - 1) F' N' (fun _ hp => .tail _ hp) (by kst_all) ⟨⟨l1, l2, l3⟩, t2, q2.append' (.cons _ _ .nil), y6, ?_, ?_⟩ ?_
                · show weight cs3 ≤ f - 1; omega
                · show (ls ++ [_]).length + (f - 1) ≤ 80000; rw [List.length_append]; simp; omega
                · show f - 1 < f; omega
end Mine
namespace Mine
def plainS (x : Str) : Str := ⟨(plainFrom 0 (tl x)).toArray⟩
theorem tl_plainS (x : Str) : tl (plainS x) = plainFrom 0 (tl x) := by simp [tl, plainS]
theorem plainFrom_mod : ∀ (l : List Nat) (a b : Nat), a % 8 = b % 8 → plainFrom a l = plainFrom b l
  | [], _, _, _ => rfl
  | c :: r, a, b, h => by
    unfold plainFrom
    rw [h]
    split
    · rfl
    · congr 1
      split
      · rfl
      · exact plainFrom_mod r _ _ (by omega)
theorem eq_tl {y x : Str} (h : tl y = plainFrom 0 (tl x)) : y = plainS x := by
  cases y with | mk a => unfold plainS; rw [← h]; simp [tl]
theorem is_nl (n : Nat) : ((⟨#[n]⟩ : Str) == Str.ofString "\n") = decide (n = 10) := by
  rw [show Str.ofString "\n" = ⟨#[10]⟩ from by decide +kernel]
  by_cases h : n = 10
  · subst h; simp
  · simp [h]
theorem is_cr (n : Nat) : ((⟨#[n]⟩ : Str) == Str.ofString "\r") = decide (n = 13) := by
  rw [show Str.ofString "\r" = ⟨#[13]⟩ from by decide +kernel]
  by_cases h : n = 13
  · subst h; simp
  · simp [h]
theorem is_vt (n : Nat) : ((⟨#[n]⟩ : Str) == Str.ofString "\x0b") = decide (n = 11) := by
  rw [show Str.ofString "\x0b" = ⟨#[11]⟩ from by decide +kernel]
  by_cases h : n = 11
  · subst h; simp
  · simp [h]
theorem is_ff (n : Nat) : ((⟨#[n]⟩ : Str) == Str.ofString "\x0c") = decide (n = 12) := by
  rw [show Str.ofString "\x0c" = ⟨#[12]⟩ from by decide +kernel]
  by_cases h : n = 12
  · subst h; simp
  · simp [h]
theorem stop_nat (p : Nat) : (Int.fdiv (p : Int) 8 + 1) * 8 = (((p / 8 + 1) * 8 : Nat) : Int) := by
  rw [Int.fdiv_eq_ediv_of_nonneg _ (by omega)]; omega
theorem mul_stop (p : Nat) : Txt.mul (Str.ofString " ") ((((p / 8 + 1) * 8 : Nat) : Int) - (p : Int)) = ⟨(List.replicate (8 - p % 8) 32).toArray⟩ := by
  rw [show ((((p / 8 + 1) * 8 : Nat) : Int) - (p : Int)) = ((8 - p % 8 : Nat) : Int) from by omega]
  exact mul_blank8 _ (by omega)
local macro_rules | `(tactic| walk_at "my same3") => `(tactic| (intro z h1 h2 h3; (try simp only [List.forall_mem_cons, List.not_mem_nil, false_implies, implies_true, and_true, ne_eq] at h2); (try simp only [List.contains_cons, List.contains_nil, Bool.or_false, Bool.or_eq_false_iff, beq_eq_false_iff_ne, ne_eq] at h3); (simp [kstB, h1, h2, h3]; done)))
local macro_rules | `(tactic| walk_at "FPost") => `(tactic| (dsimp only [FPost]))
set_option maxRecDepth 100000 in
set_option maxHeartbeats 8000000 in
theorem lplain_ok {w : World} {mean : ExcName → Option Value} {mg mb : Str → Option Value} {news : Led} {x : Str} {t : Tok} :
    Claim w mean mg mb 1 79 news (x.length ≤ 5000) [.str x t] (RetV news fun t => .str (plainS x) t) := by
  unfold Claim RetV
  k_fill
  intros
  rename_i hp1 hdp hun hret
  refine wpAny_call ?_
  cell_enter
  k_with_none
  k_with "pyIter str" => refine halt ?_
  k_steps
  refine unhalt ?_
  rename Fr _ _ _ _ => F'
  rename News _ _ _ _ => N'
  with_unfolding_all refine' my_text (σ := Str × Tok × Nat × Tok) (fun _ => news) (fun c => [(Str.ofString "plain", Value.str c.1 c.2.1), (Str.ofString "place", Value.int (c.2.2.1 : Int) c.2.2.2)]) [Str.ofString "stop"] (fun pre c => (∀ post, tl x = pre ++ post → tl c.1 ++ plainFrom c.2.2.1 post = plainFrom 0 (tl x)) ∧ c.1.length ≤ 8 * pre.length ∧ c.2.2.1 ≤ 8 * pre.length) (_, _, 0, _) (by rfl) F' N' ?kk ?kp ?_ ?_
  case kk => kst_all
  case kp => exact ⟨fun post e => by rw [e]; rfl, Nat.le_refl _, Nat.le_refl _⟩
  · clear F' N'
    rintro ⟨pl, pt, co, ct⟩ pre post n tt u' h' tk' own pre' he hpre' hoff ⟨p1, p2, p3⟩ F' N'
    dsimp only at p1 p2 p3 F' N'
    (try k_fold)
    have hle : pre.length + 1 + post.length ≤ 5000 := by
      have := congrArg List.length he
      rw [List.length_append, List.length_cons, ← tl, tl_length] at this
      omega
    k_steps
    all_goals (
      rename Fr _ _ _ _ => F'
      rename News _ _ _ _ => N'
      simp only [is_tab, is_nl, is_cr, is_vt, is_ff, decide_eq_true_eq, decide_eq_false_iff_not, stop_nat, mul_stop] at *
      first
      | (refine' my_fend (_, _, (co / 8 + 1) * 8, _) F' N' (fun p hp => List.mem_append_left _ hp) (fun p hp => List.mem_append_right _ hp) rfl (by kst_all) (by walk_at "my same3") ?_
         rw [hpre']
         refine ⟨?_, ?_, by show (co / 8 + 1) * 8 ≤ 8 * (pre ++ [n]).length; rw [List.length_append]; simp; omega⟩
         · simp only [tl_append]; intro post9 h9; rw [plainFrom_mod post9 ((co / 8 + 1) * 8) 0 (by omega)]; exact plain_tab p1 (by assumption) post9 h9
         · show (_ ++ _ : Str).length ≤ 8 * (pre ++ [n]).length
           rw [List.length_append]; simp only [Str.length, List.size_toArray, List.length_replicate, List.length_cons, List.length_nil] at *; omega)
      | (refine' my_fend (_, _, 0, _) F' N' (fun p hp => List.mem_append_left _ hp) (fun p hp => List.mem_append_right _ hp) rfl (by kst_all) (by walk_at "my same3") ?_
         rw [hpre']
         refine ⟨?_, ?_, by simp⟩
         · simp only [tl_append, blank_cps, tl_mk]; exact plain_end p1 (by assumption) (by omega) (by omega)
         · show (_ ++ _ : Str).length ≤ 8 * (pre ++ [n]).length
           rw [List.length_append]; simp only [blank_cps, Str.length, List.size_toArray, List.length_cons, List.length_nil] at *; omega)
      | (refine' my_fend (_, _, co + 1, _) F' N' (fun p hp => List.mem_append_left _ hp) (fun p hp => List.mem_append_right _ hp) rfl (by kst_all) (by walk_at "my same3") ?_
         rw [hpre']
         refine ⟨?_, ?_, by show co + 1 ≤ 8 * (pre ++ [n]).length; rw [List.length_append]; simp; omega⟩
         · simp only [tl_append, blank_cps, tl_mk]; first | exact plain_ws p1 (by assumption) (by omega) (by omega) | exact plain_sign p1 (by assumption) (by omega)
         · show (_ ++ _ : Str).length ≤ 8 * (pre ++ [n]).length
           rw [List.length_append]; simp only [blank_cps, Str.length, List.size_toArray, List.length_cons, List.length_nil] at *; omega))
  · clear F' N'
    rintro ⟨pl, pt, co, ct⟩ u' h' tk' ⟨p1, p2, p3⟩ F' N'
    dsimp only at p1 p2 p3 F' N'
    (try k_fold)
    have hpl := p1 [] (by rw [List.append_nil]; rfl)
    rw [show plainFrom co [] = [] from rfl, List.append_nil] at hpl
    k_steps
    exact cb_retS hret (eq_tl hpl) (by k_asm) (by k_asm)
end Mine
namespace Mine
local macro_rules | `(tactic| walk_at "my pad 0") => `(tactic| skip)
local macro_rules | `(tactic| walk_at "call builtin:len") => `(tactic| (k_here; (with_reducible show wpAny _ _ (call (Value.builtin "len") [Value.ref _]) _ _ _); k_dflt (refine' kst_len ?N ?m ?e ?z ?_; (case N => k_asm); (case m => k_mem); (case e => assumption); (case z => omega))))
local macro_rules | `(tactic| walk_at "subscriptTail Name Name ref int") => `(tactic| (k_here; k_dflt (refine' ksa_sub ?N ?m ?i ?z0 ?z1 ?z2 ?_ ?hs; (case N => k_asm); (case m => k_mem); (case i => assumption); (case z0 => omega); (case z1 => omega); (case z2 => omega); (case hs => with_unfolding_all rfl)); intro _))
def rawI (ns : List Int) (i : Int) : Int := if i < ns.length then ns.getD i.toNat 0 else 7919 * i + 3
set_option maxRecDepth 100000 in
set_option maxHeartbeats 8000000 in
theorem raw_ok {w : World} {mean : ExcName → Option Value} {mg mb : Str → Option Value} {news : Led} {a : Addr} {vs : List Value} {ns : List Int} {n : Nat} {i : Int} {u : Tok} :
    Claim w mean mg mb 1 105 news ((a, listOf vs.toArray n) ∈ news ∧ IntsAre vs ns ∧ ns.length ≤ 100 ∧ 0 ≤ i ∧ i ≤ 100) [.ref a, .int i u] (RetV news fun t => .int (rawI ns i) t) := by
  unfold Claim RetV
  k_fill
  intros
  rename_i hp hdp hun hret
  obtain ⟨p1, p2, p3, p4, p5⟩ := hp
  have hl := p2.length
  refine wpAny_call ?_
  cell_enter
  k_with_none
  k_steps
  all_goals (
    refine cb_retI hret ?_ (by k_asm) (by k_asm)
    unfold rawI
    first | rw [if_pos (by assumption)] | rw [if_neg (by assumption)])
set_option maxRecDepth 100000 in
set_option maxHeartbeats 8000000 in
theorem width_ok {w : World} {mean : ExcName → Option Value} {mg mb : Str → Option Value} {news : Led} {i : Int} {u : Tok} :
    Claim w mean mg mb 1 119 news True [.int i u] (RetE news Value.int fun v => -2 ≤ v) := by
  unfold Claim RetE
  k_fill
  intros
  rename_i hp hdp hun hret
  refine wpAny_call ?_
  cell_enter
  k_with_none
  k_steps
  all_goals (refine hret _ _ _ _ ?_ (by k_asm) (by k_asm))
  · rw [Int.fmod_eq_emod_of_nonneg _ (by decide)]; omega
  · split <;> omega
  · omega
  · rw [Int.fmod_eq_emod_of_nonneg _ (by decide)]; omega
end Mine
namespace Mine
/-- every sign is one that a text may hold -/
def okT (y : Str) : Bool := (tl y).all (fun c => decide (c < 1114112))
theorem tabOk {y : Str} (h : y.length ≤ 16 ∧ okT y = true) : okT y = true := h.2
theorem okT_nil : okT (Str.ofString "") = true := by decide +kernel
theorem okT_append {x y : Str} (hx : okT x = true) (hy : okT y = true) : okT (x ++ y) = true := by
  unfold okT at *; rw [tl_append, List.all_append, hx, hy]; rfl
theorem my_tab {prog : Program} {w : World} {A : Around} {E : Value → Shared → Prop} {s : Shared} {K : Frag} {h₀ : Heap} {L a : Addr} {m : Str → Option Value} {value slice : PySem.Expr} {l : List Value} {dd : Option Addr} {n : Nat} {sl : Array (Option Value)} {k : Int} {u : Tok} {Q : Value → Shared → Prop} (F : Fr h₀ L s.heap m) (X₀ : K.In h₀) (hl : K.lookup a = some ⟨.type "tuple", dd, .seq l.toArray n, sl⟩)
    (h0 : 0 ≤ k) (h1 : k < (l.length : Int)) (hlen : l.length ≤ 100) (hall : ∀ v ∈ l, ∃ y t, v = .str y t ∧ (y.length ≤ 16 ∧ okT y = true)) (h : ∀ y t, (y.length ≤ 16 ∧ okT y = true) → Q (.str y t) s)
    (hs : subscripted slice false (.ref a) (.int k u) = operate [.ref a, .int k u] (getItem (.ref a) (.int k u)) := by with_unfolding_all rfl) :
    wpAny (model prog w) A (subscriptTail value slice (.ref a) (.int k u)) Q E s := by
  have hj : k.toNat < l.length := by omega
  obtain ⟨y, t, e, hy⟩ := hall _ (List.getElem_mem hj)
  refine topTup_K F X₀ hl (by omega) (by omega) (j := k.toNat) ?_ (List.getElem?_eq_getElem hj) (by rw [e]; exact h y t hy) hs
  unfold seqIndex?
  simp only [show ¬ k < 0 from by omega, if_false]
  rw [if_pos (by simp; omega)]
local macro_rules | `(tactic| walk_at "my call done") => `(tactic| (
  (case k1 => k_asm); (case k2 => k_asm); (case k3 => k_asm); (case k4 => k_asm); (case k5 => k_asm); (case k6 => first | exact rfl | assumption); (case kp => first | exact trivial | assumption | ((repeat' (refine And.intro ?_ ?_)) <;> first | assumption | omega | k_dflt k_mem)); (case kd => ktr_room); (case ku => ktr_units)))
local macro_rules | `(tactic| walk_at "call ref") => `(tactic| (k_here; (with_unfolding_all refine' raw_ok _ _ _ _ _ _ _ _ _ _ _ _ _ _ _ _ _ ?k1 ?k2 ?k3 ?k4 ?k5 ?k6 ?kp ?kd ?ku ?_); walk_at "my call done"; intro t9 h9 tk9 F9 N9; (try dsimp only); (try k_fold)))
local macro_rules | `(tactic| walk_at "my texts") => `(tactic| repeat' (first | exact List.forall_mem_nil _ | refine List.forall_mem_cons.mpr ⟨⟨_, _, rfl, by decide +kernel⟩, ?_⟩))
local macro_rules | `(tactic| walk_at "my mod") => `(tactic| ((try simp only [List.length_cons, List.length_nil]); (rw [Int.fmod_eq_emod_of_nonneg _ (by decide)]); omega))
local macro_rules | `(tactic| walk_at "subscriptTail Name BinOp ref int") => `(tactic| (k_here; k_dflt (refine' my_tab ?F ?X ?l ?z0 ?z1 ?zl ?za ?_ ?hs; (case F => k_asm); (case X => k_asm); (case l => k_is); (case z0 => walk_at "my mod"); (case z1 => walk_at "my mod"); (case zl => decide); (case za => walk_at "my texts"); (case hs => with_unfolding_all rfl)); intro y9 t9 hy9))
local macro_rules | `(tactic| walk_at "my same3") => `(tactic| (intro z h1 h2 h3; (try simp only [List.forall_mem_cons, List.not_mem_nil, false_implies, implies_true, and_true, ne_eq] at h2); (try simp only [List.contains_cons, List.contains_nil, Bool.or_false, Bool.or_eq_false_iff, beq_eq_false_iff_ne, ne_eq] at h3); (simp [kstB, h1, h2, h3]; done)))
local macro_rules | `(tactic| walk_at "FPost") => `(tactic| (dsimp only [FPost]))
set_option maxRecDepth 100000 in
set_option maxHeartbeats 8000000 in
theorem text_ok {w : World} {mean : ExcName → Option Value} {mg mb : Str → Option Value} {news : Led} {a : Addr} {vs : List Value} {ns : List Int} {n : Nat} {i : Int} {u : Tok} :
    Claim w mean mg mb 2 112 news ((a, listOf vs.toArray n) ∈ news ∧ IntsAre vs ns ∧ ns.length ≤ 100) [.ref a, .int i u] (RetE news Value.str fun y => y.length ≤ 2000 ∧ okT y = true) := by
  unfold Claim RetE
  k_fill
  intros
  rename_i hp hdp hun hret
  obtain ⟨p1, p2, p3⟩ := hp
  have hl := p2.length
  refine wpAny_call ?_
  cell_enter
  k_with_none
  k_with "pyIter ref" => refine halt ?_
  k_steps
  all_goals (
    refine unhalt ?_
    rename Fr _ _ _ _ => F'
    rename News _ _ _ _ => N'
    rename IsRange _ _ _ _ _ _ _ _ => rg
    have hm := Int.fmod_eq_emod_of_nonneg (Int.fdiv i 32) (b := 11) (by decide)
    generalize Int.fmod (Int.fdiv i 32) 11 = r11 at *
    have hr0 : 0 ≤ r11 ∧ r11 < 11 := by omega
    with_unfolding_all refine' my_range (n := (4 + r11 - 1).toNat) (σ := Str × Tok) (fun _ => news) (fun c => [(Str.ofString "text", Value.str c.1 c.2)]) [Str.ofString "number"] (fun pre c => c.1.length ≤ 32 * pre.length ∧ okT c.1 = true) (Str.ofString "", _) (by rfl) rg (small_one (by omega) (by omega) (by omega) (by omega)) (rangeSize_nat _ _) F' N' (by kst_all) ⟨Nat.zero_le _, okT_nil⟩ ?_ ?_
    · clear F' N'
      rintro ⟨y, yt⟩ pre k kt u' h' tk' own hk hlt hoff p4 F' N'
      dsimp only at p4 F' N'
      (try k_fold)
      k_steps
      rename Fr _ _ _ _ => F'
      rename News _ _ _ _ => N'
      refine' my_fend (_, _) F' N' (fun p hp => List.mem_append_left _ hp) (fun p hp => List.mem_append_right _ hp) rfl (by kst_all) (by walk_at "my same3") ?_
      refine ⟨?_, okT_append p4.2 (okT_append (tabOk (by assumption)) (tabOk (by assumption)))⟩
      show (_ ++ _ : Str).length ≤ 32 * (pre ++ [k]).length
      rw [List.length_append, List.length_cons, List.length_nil]; omega
    · clear F' N'
      rintro ⟨y, yt⟩ u' h' tk' p4 F' N'
      dsimp only at p4 F' N'
      (try k_fold)
      k_steps
      refine hret _ _ _ _ ?_ (by k_asm) (by k_asm)
      rw [rangeKs_length] at p4; exact ⟨by omega, p4.2⟩)
end Mine
namespace Mine
local macro_rules | `(tactic| walk_at "my call done") => `(tactic| (
  (case k1 => k_asm); (case k2 => k_asm); (case k3 => k_asm); (case k4 => k_asm); (case k5 => k_asm); (case k6 => first | exact rfl | assumption); (case kp => first | exact trivial | assumption | ((repeat' (refine And.intro ?_ ?_)) <;> first | assumption | omega | k_dflt k_mem)); (case kd => ktr_room); (case ku => ktr_units)))
local macro_rules | `(tactic| walk_at "call ref") => `(tactic| (k_here; (first
  | (with_unfolding_all refine' wordy_ok _ _ _ _ _ _ _ _ _ _ _ _ _ _ _ _ _ ?k1 ?k2 ?k3 ?k4 ?k5 ?k6 ?kp ?kd ?ku ?_)
  | (with_unfolding_all refine' lettery_ok _ _ _ _ _ _ _ _ _ _ _ _ _ _ _ _ _ ?k1 ?k2 ?k3 ?k4 ?k5 ?k6 ?kp ?kd ?ku ?_)); walk_at "my call done"; intro t9 h9 tk9 F9 N9; (try dsimp only); (try k_fold)))
local macro_rules | `(tactic| walk_at "my enterC") => `(tactic| (refine' code_defC ?k1 ?k2 ?k3 ?k4 ?k5 ?kA ?kF ?kK ?k6 ?k7 ?k8 ?k9 ?kB ?kD ?_ ?c2 ?c3 ?c4; (case kA => exact rfl); (case kF => exact rfl); (case kK => assumption); (case k1 => k_asm); (case k2 => k_asm); (case k3 => k_asm); (case k4 => k_asm); (case k5 => k_asm); (case k6 => k_is); (case k7 => k_is); (case k8 => ktr_room); (case k9 => exact BindsTo.of_eq rfl); (case kB => exact rfl); (case kD => decide +kernel); (case c2 => exact rfl); (case c3 => exact rfl); (case c4 => exact rfl); k_whole; intro g' L' h' tk' cells' FG' F' N' Y' B' X' T' l1; (try k_lt l1); k_cells Y'; (try simp only [List.cons_append, List.nil_append] at N'); (try dsimp only); (try k_lift B'); (try k_fold)))
/-- a turn's end under my_compRange -/
def BEnd (h₀ : Heap) (L : Addr) (m : Str → Option Value) (s : Shared) (I : Addr) (oI : Obj) (C : Addr) (oC : Obj) (D : Addr) (oD : Obj) (S : Led → Prop) (news : Led) (b : Bool) (y : Value) (s₂ : Shared) : Prop :=
  LCg.CompEnd h₀ L m s I oI C oC D oD S (fun y news' => news' = news ∧ y = .bool b) y s₂
theorem bend {h₀ h' : Heap} {L : Addr} {m : Str → Option Value} {s : Shared} {I C D : Addr} {oI oC oD : Obj} {S : Led → Prop} {news all : Led} {b b' : Bool} {tk : Nat} (F : Fr h₀ L h' m) (N : News h₀ L h' all)
    (sub : ∀ p ∈ (I, oI) :: (C, oC) :: (D, oD) :: news, p ∈ all) (off : LCg.Off3 I C D news) (hS : S news) (e : b = b') : BEnd h₀ L m s I oI C oC D oD S news b (.bool b') { s with heap := h', toks := tk } :=
  LCg.CompEnd.intro F N news sub off hS ⟨rfl, by rw [e]⟩
section
variable {prog : Program} {w : World} {A : Around} {h₀ : Heap} {L : Addr} {m : Str → Option Value} {env : Env} {elt : PySem.Expr} {x : Str} {scope : Scope} {cl : List (Str × Addr)} {s : Shared} {S : Led → Prop} {Fin : List Value → Led → Prop} {news : Led}
theorem my_compRange {n : Nat} {a : Int} (g : Int → Bool)
    (turn : ∀ k t I oI C oC D m₂ ys h tk (E' : Value → Shared → Prop), a ≤ k → k < a + (n : Int) → LCg.NsObj oC m₂ → m₂ x = some (.int k t) → Fr h₀ L h m → News h₀ L h ((I, oI) :: (C, oC) :: (D, LCg.lst ys) :: news) → LCg.Off3 I C D news → ((@Ne Nat I C) ∧ (@Ne Nat I D) ∧ (@Ne Nat C D)) →
      wpAny (model prog w) A (eval elt (compEnvC scope cl C env)) (BEnd h₀ L m { s with heap := h, toks := tk } I oI C oC D (LCg.lst ys) S news (g k)) E' { s with heap := h, toks := tk })
    (fin : ∀ bs : List Bool, bs = (rangeKs a n).map g → Fin (bs.map Value.bool) news) : LCg.CompRest prog w A h₀ L m env elt x scope cl s S (fun i v => ∃ t, v = .int (a + (i : Int)) t) Fin n 0 [] news := by
  have key : ∀ (j i : Nat), i + j = n → LCg.CompRest prog w A h₀ L m env elt x scope cl s S (fun i v => ∃ t, v = .int (a + (i : Int)) t) Fin j i ((((rangeKs a n).take i).map g).map Value.bool) news := by
    intro j
    induction j with
    | zero =>
      intro i hi
      have e : i = (rangeKs a n).length := by rw [rangeKs_length]; omega
      subst e
      rw [List.take_length]
      exact LCg.CompRest.zero (fin _ rfl)
    | succ j ih =>
      intro i hi
      refine LCg.CompRest.succ ?_
      intro v I oI C oC D m₂ h tk E' hv hC hx F N off ne
      obtain ⟨t, hv'⟩ := hv
      rw [hv'] at hx
      have hk : (rangeKs a n)[i]? = some (a + (i : Int)) := by
        have : i < n := by omega
        simp [rangeKs, this]
      refine wpAny_mono (turn (a + (i : Int)) t I oI C oC D m₂ _ h tk E' (by omega) (by omega) hC hx F N off ne) (fun y s₂ hq => ?_) fun _ _ e => e
      obtain ⟨h', tk', nw, e, F', N', off', hS, hn, hy'⟩ := hq
      rw [hn] at N' off' hS
      refine ⟨h', tk', news, e, F', N', off', hS, ?_⟩
      rw [hy']
      have := ih (i + 1) (by omega)
      rw [List.take_add_one, hk] at this
      simpa using this
  exact key n 0 (by omega)
end
/-! what _law_cuts computes -/
def ck (c : Nat) : Bool := isLs2 (one c)
def cut0 (l : List Nat) (k : Nat) : Bool := decide (k = l.length) || (decide (0 < k) && (decide (g l k = 32) != decide (g l (k - 1) = 32)))
def cuts0 (l : List Nat) : List Bool := (List.range (l.length + 1)).map (cut0 l)
def runB (l : List Nat) (i j : Nat) : Bool := decide (1 < j - i) && (cw (g (padL l) (i + 2)) || cp (g (padL l) (i + 2))) && cw (g (padL l) (j + 3))
def hyB (l : List Nat) (i j : Nat) : Bool := decide (j - i = 1) && ck (g (padL l) (i + 2)) && ck (g (padL l) (j + 3)) && (ck (g (padL l) (i + 1)) || (decide (g (padL l) (i + 1) = 45) && ck (g (padL l) i)))
  && (ck (g (padL l) (i + 5)) || (decide (g (padL l) (i + 5) = 45) && ck (g (padL l) (i + 6))))
def cutTurn (l : List Nat) (bs : List Bool) (i j : Nat) : List Bool :=
  if hyB l i j = true then bs.set j true else if runB l i j = true then (bs.set i true).set j true else bs
def cutsFrom (l : List Nat) (bs : List Bool) (i : Nat) : List Bool := if i < l.length then cutsFrom l (cutTurn l bs i (dEnd l i)) (max (dEnd l i) (i + 1)) else bs
termination_by l.length - i
decreasing_by omega
def cutsL (l : List Nat) : List Bool := cutsFrom l (cuts0 l) 0
theorem cutTurn_length (l : List Nat) (bs : List Bool) (i j : Nat) : (cutTurn l bs i j).length = bs.length := by unfold cutTurn; (repeat' split) <;> simp
theorem cuts0_length (l : List Nat) : (cuts0 l).length = l.length + 1 := by simp [cuts0]
theorem cuts0_of {x : Str} {n : Nat} {bs : List Bool} {g' : Int → Bool} (e : bs = (rangeKs 0 n).map g') (hn : n = x.length + 1) (h : ∀ k : Nat, k < n → g' (k : Int) = cut0 (tl x) k) : bs = cuts0 (tl x) := by
  rw [e]; unfold cuts0 rangeKs; rw [tl_length, ← hn, List.map_map]
  refine List.map_congr_left fun k hk => ?_
  have := h k (List.mem_range.mp hk)
  simpa using this
/-- _law_cuts' new list -/
abbrev RetB (news : Led) (bs : List Bool) (h₀ : Heap) (L : Addr) (m : Str → Option Value) (s : Shared) (Q : Value → Shared → Prop) : Prop :=
  ∀ (a : Addr) (n : Nat) (h' : Heap) (tk' : Nat), Fr h₀ L h' m → News h₀ L h' ((a, listOf (bs.map Value.bool).toArray n) :: news) → (∀ p ∈ news, p.1 ≠ a) → Q (.ref a) { s with heap := h', toks := tk' }
/-! lists of bools -/
theorem boolsMap : ∀ bs : List Bool, PyProof.Rows.LSm.BoolsAre (bs.map Value.bool) bs
  | [] => .nil
  | b :: r => .cons b (boolsMap r)
section
variable {prog : Program} {w : World} {A : Around} {E : Value → Shared → Prop} {s : Shared} {h₀ : Heap} {L D : Addr} {m : Str → Option Value} {news news' : List (Addr × Obj)} {n k : Nat} {bs : List Bool} {b : Bool} {u : Tok}
theorem my_setB {Q : Unit → Shared → Prop} (F : Fr h₀ L s.heap m) (N : News h₀ L s.heap news) (U : Upd D (listOf (bs.map Value.bool).toArray n) (listOf ((bs.set k b).map Value.bool).toArray n) news news') (hk : k < bs.length) (hz : bs.length ≤ 100000)
    (h : ∀ h', Fr h₀ L h' m → News h₀ L h' news' → Q () { s with heap := h' }) : wpAny (model prog w) A (setItem (.ref D) (.int (k : Int) u) (.bool b)) Q E s :=
  kbo_set F N (by rw [Int.toNat_natCast, ← List.map_set]; exact U) (boolsMap bs) (by omega) (by omega) (by omega) fun h' F N _ _ => h h' F N
theorem my_getB {value slice : PySem.Expr} {Q : Value → Shared → Prop} (N : News h₀ L s.heap news) (hm : (D, listOf (bs.map Value.bool).toArray n) ∈ news) (hk : k < bs.length) (hz : bs.length ≤ 100000) (h : Q (.bool (bs.getD k false)) s)
    (hs : subscripted slice false (.ref D) (.int (k : Int) u) = operate [.ref D, .int (k : Int) u] (getItem (.ref D) (.int (k : Int) u)) := by with_unfolding_all rfl) :
    wpAny (model prog w) A (subscriptTail value slice (.ref D) (.int (k : Int) u)) Q E s :=
  kbo_sub N hm (boolsMap bs) (by omega) (by omega) (by omega) (by rw [Int.toNat_natCast]; exact h) hs
end
theorem off1_of {D : Addr} : ∀ {l : Led}, LCg.Off1 D l → ∀ p ∈ l, p.1 ≠ D
  | [], _, _, h => nomatch h
  | _ :: _, x, p, h => by
    rcases List.mem_cons.mp h with rfl | h
    · exact x.1
    · exact off1_of x.2 p h
theorem newsSub {h₀ h : Heap} {L : Addr} {l l' : Led} (N : News h₀ L h l) (hs : ∀ p ∈ l', p ∈ l) : News h₀ L h l' := fun p hp => N p (hs p hp)
theorem runB_item {x px : Str} {i j : Nat} (htl : tl px = padL (tl x)) (hij : i ≤ j) : runB (tl x) i j = (decide (1 < (j : Int) - (i : Int)) && (isWs (Txt.item px ((i : Int) + 2)) || !(Builtin.Str.occurrences (Str.ofString "!\"'&.,?") (Txt.item px ((i : Int) + 2)) 0 (Str.ofString "!\"'&.,?").length 1).isEmpty) && isWs (Txt.item px ((j : Int) + 3))) := by
  rw [item_p2, item_p3, htl]
  have e1 : decide (1 < (j : Int) - (i : Int)) = decide (1 < j - i) := by congr 1; rw [eq_iff_iff]; omega
  rw [e1]; rfl
theorem hyB_item {x px : Str} {i j : Nat} (htl : tl px = padL (tl x)) (hij : i ≤ j) : hyB (tl x) i j = (decide ((j : Int) - (i : Int) = 1) && isLs2 (Txt.item px ((i : Int) + 2)) && isLs2 (Txt.item px ((j : Int) + 3))
    && (isLs2 (Txt.item px ((i : Int) + 1)) || (Txt.item px ((i : Int) + 1) == Str.ofString "-" && isLs2 (Txt.item px (i : Int)))) && (isLs2 (Txt.item px ((i : Int) + 5)) || (Txt.item px ((i : Int) + 5) == Str.ofString "-" && isLs2 (Txt.item px ((i : Int) + 6))))) := by
  have e5 : Txt.item px ((i : Int) + 5) = one (g (tl px) (i + 5)) := by rw [← item_nat]; rfl
  have e6 : Txt.item px ((i : Int) + 6) = one (g (tl px) (i + 6)) := by rw [← item_nat]; rfl
  rw [item_p1, item_p2, item_p3, item_nat, e5, e6, one_dash, one_dash, htl]
  have e1 : decide ((j : Int) - (i : Int) = 1) = decide (j - i = 1) := by congr 1; rw [eq_iff_iff]; omega
  rw [e1]; rfl
theorem nm3 {h₀ h : Heap} {L D b c : Addr} {x o1 o2 : Obj} {news : Led} (N0 : News h₀ L h ((D, x) :: (b, o1) :: (c, o2) :: news)) : ∃ L' D' o1' o2', L' = L ∧ D' = D ∧ o1' = o1 ∧ o2' = o2 := ⟨_, _, _, _, rfl, rfl, rfl, rfl⟩
local macro_rules | `(tactic| walk_at "CompSrc") => `(tactic| (refine halt ?_))
local macro_rules | `(tactic| walk_at "WPost") => `(tactic| (dsimp only [WPost]))
local macro_rules | `(tactic| walk_at "setItem ref int") => `(tactic| (k_here; k_dflt (refine' my_setB ?F ?N ?U ?hk ?z ?_; (case F => k_asm); (case N => k_asm); (case U => first | exact Upd.head (by assumption) | k_upd); (case hk => ((try simp only [List.length_set]); omega)); (case z => ((try simp only [List.length_set]); omega))); intro h' F' N'))
set_option maxRecDepth 100000 in
set_option maxHeartbeats 8000000 in
theorem cuts_ok {w : World} {mean : ExcName → Option Value} {mg mb : Str → Option Value} {news : Led} {x : Str} {t : Tok} :
    Claim w mean mg mb 3 84 news (x.length ≤ 50000) [.str x t] (RetB news (cutsL (tl x))) := by
  unfold Claim RetB
  k_fill
  intros
  rename_i hp1 hdp hun hret
  refine wpAny_call ?_
  walk_at "my enterC"
  rename ∀ p ∈ news, p.1 < _ => l1
  have l2 := allLt_of l1
  have l3 := tbn_up (Nat.lt_succ_self _) l2
  have l4 := tbn_up (Nat.lt_succ_self _) l3
  k_with_none
  k_with "exec While Compare cons nil" => refine halt ?_
  k_with "exec While BoolOp cons nil" => refine halt ?_
  k_with "exec If" => refine halt ?_
  k_steps
  refine unhalt ?_
  refine LCg.CompSrc.range (by rfl) (by k_asm) (by k_asm) (by assumption) (small_one (by omega) (by omega) (by omega) (by omega)) (rangeSize_nat _ _) (by rw [PySem.sizeLine_eq]; omega) ?_
  intro g'
  refine' my_compRange (fun k => cut0 (tl x) k.toNat) (fun k' t' I' oI' C' oC' D' m' ys' h' tk' E' hlo' hhi' hC' hx' F' N' off' ne' => ?_) ?_
  · simp only [LCg.Off3] at off'
    obtain ⟨k, rfl⟩ : ∃ k : Nat, k' = (k : Int) := ⟨k'.toNat, by omega⟩
    k_steps
    all_goals (
      refine bend (by k_asm) (by k_asm) (fun p hp => hp) (by simp only [LCg.Off3]; exact off') (by first | lcg_src | assumption) ?_
      show cut0 (tl x) k = _
      unfold cut0
      rw [tl_length]
      by_cases e1 : k = x.length
      · first | omega | (subst e1; simp)
      · first
        | omega
        | (rw [item_nat, item_m1 (by omega), one_blank, one_blank, decide_eq_false e1, decide_eq_true (show 0 < k by omega), Bool.true_and, Bool.false_or])
        | (rw [decide_eq_false e1, Bool.false_or, decide_eq_false (show ¬ 0 < k by omega), Bool.false_and, eq_comm, decide_eq_false_iff_not]; omega))
  · intro bs hbs
    k_steps
    refine unhalt ?_
    have hbs := cuts0_of hbs (by omega) (fun k _ => rfl)
    generalize hpx : (Str.ofString "   " ++ x ++ Str.ofString "   ") = px at *
    rename Fr _ _ _ _ => F'
    rename News _ _ _ _ => N'
    have htl : tl px = padL (tl x) := by
      rw [← hpx]; simp [tl, padL, Str.cps_append, show (Str.ofString "   ").cps = #[32, 32, 32] from by decide +kernel]
    have hlen : px.length = x.length + 6 := by rw [← tl_length, htl, ← tl_length x]; simp [padL]
    clear hpx
    obtain ⟨L, D, oM, oT, e1, e2, e3, e4⟩ := nm3 N'
    subst e1 e2 e3 e4
    rename _ ∧ _ ∧ LCg.Off1 _ _ => o1
    have hoff : ∀ p ∈ (L + 1 + 1, oM) :: (L + 1, oT) :: news, p.1 ≠ D := off1_of (l := (L + 1 + 1, oM) :: (L + 1, oT) :: news) o1
    with_unfolding_all refine' w_while (σ := Nat × Tok × List Bool × Tok × Nat) (fun c => (D, listOf (c.2.2.1.map Value.bool).toArray c.2.2.2.2) :: (L + 1 + 1, oM) :: (L + 1, oT) :: news) (fun c => [(Str.ofString "wide", Value.str px c.2.2.2.1), (Str.ofString "cuts", Value.ref D), (Str.ofString "left", Value.int (c.1 : Int) c.2.1)]) (fun c => c.2.2.1.length = x.length + 1 ∧ cutsFrom (tl x) c.2.2.1 c.1 = cutsL (tl x)) (fun c => x.length - c.1) (0, _, bs, _, _) F' N' (fun p hp => hp) ?kk ?kp ?_
    case kk => kst_all
    case kp => exact ⟨by rw [hbs, cuts0_length, tl_length], by rw [hbs]; rfl⟩
    clear F' N' hbs
    rintro ⟨i, it, bs, wt, nb⟩ u' h' tk' ⟨p1, p2⟩ F' N'
    dsimp only at p1 p2 F' N'
    (try k_fold)
    k_steps
    · refine unhalt ?_
      rename Fr _ _ _ _ => F'
      rename News _ _ _ _ => N'
      with_unfolding_all refine' mid (σ := Nat × Tok) F' (fun c => (D, listOf (bs.map Value.bool).toArray nb) :: (L + 1 + 1, oM) :: (L + 1, oT) :: news) (fun c => [(Str.ofString "wide", Value.str px wt), (Str.ofString "cuts", Value.ref D), (Str.ofString "left", Value.int (i : Int) it), (Str.ofString "right", Value.int (c.1 : Int) c.2)]) (fun c => i ≤ c.1 ∧ c.1 ≤ x.length ∧ dEnd (tl x) i = c.1) ?h0 ?k0
      · with_unfolding_all refine' w_while (σ := Nat × Tok) (fun c => (D, listOf (bs.map Value.bool).toArray nb) :: (L + 1 + 1, oM) :: (L + 1, oT) :: news) (fun c => [(Str.ofString "wide", Value.str px wt), (Str.ofString "cuts", Value.ref D), (Str.ofString "left", Value.int (i : Int) it), (Str.ofString "right", Value.int (c.1 : Int) c.2)]) (fun c => i ≤ c.1 ∧ c.1 ≤ x.length ∧ dEnd (tl x) i = dEnd (tl x) c.1) (fun c => x.length - c.1) (i, _) F' N' (fun p hp => hp) ?kk ?kp ?_
        case kk => kst_all
        case kp => exact ⟨Nat.le_refl _, by show i ≤ _; omega, rfl⟩
        clear F' N'
        rintro ⟨j, jt⟩ u2' h2' tk2' ⟨q1, q2, q3⟩ F' N'
        dsimp only at q1 q2 q3 F' N'
        (try k_fold)
        k_steps
        · rename Fr _ _ _ _ => F'
          rename News _ _ _ _ => N'
          rename (Txt.item x (j : Int) == Str.ofString "-") = true => hd
          rw [item_nat, one_dash, decide_eq_true_eq] at hd
          refine' wend (j + 1, _) F' N' (fun p hp => hp) (by kst_all) ?_ ?_
          · exact ⟨by show i ≤ j + 1; omega, by show j + 1 ≤ _; omega, by rw [q3, dEnd_step (by rw [tl_length]; omega) hd]⟩
          · show x.length - (j + 1) < x.length - j; omega
        all_goals (
          rename Fr _ _ _ _ => F'
          rename News _ _ _ _ => N'
          refine' midI (j, _) F' N' (fun p hp => hp) (by kst_all) ⟨q1, q2, ?_⟩
          rw [q3]
          first
          | (rename (Txt.item x (j : Int) == Str.ofString "-") = false => hd
             rw [item_nat, one_dash, decide_eq_false_iff_not] at hd
             exact dEnd_stop hd)
          | (rw [dEnd, if_neg (fun h => by have := h.1; rw [tl_length] at this; omega)]))
      · clear F' N'
        rintro ⟨j, jt⟩ h3 tk3 m3 ⟨q1, q2, q3⟩ F' N'
        dsimp only at q1 q2 q3 F' N'
        (try k_fold)
        k_steps
        refine unhalt ?_
        rename Fr _ _ _ _ => F'
        rename News _ _ _ _ => N'
        with_unfolding_all refine' mid (σ := List Bool × Tok × Tok) F' (fun c => (D, listOf (c.1.map Value.bool).toArray nb) :: (L + 1 + 1, oM) :: (L + 1, oT) :: news) (fun c => [(Str.ofString "wide", Value.str px wt), (Str.ofString "cuts", Value.ref D), (Str.ofString "left", Value.int (i : Int) it), (Str.ofString "right", Value.int (j : Int) jt), (Str.ofString "ahead", Value.str (Txt.item px ((i : Int) + 2)) c.2.1), (Str.ofString "behind", Value.str (Txt.item px ((j : Int) + 3)) c.2.2)]) (fun c => c.1 = if runB (tl x) i j = true then (bs.set i true).set j true else bs) ?h1 ?k1
        · refine wpAny_If ?_
          k_steps
          all_goals (
            rename Fr _ _ _ _ => F'
            rename News _ _ _ _ => N'
            first
            | (refine midI ((bs.set i true).set j true, _, _) F' N' (fun _ hp => hp) (by kst_all) ?_
               show _ = _
               rw [if_pos]
               clear F' N'
               rw [runB_item htl q1]
               simp [*]
               done)
            | (refine midI (bs, _, _) F' N' (fun _ hp => hp) (by kst_all) ?_
               show _ = _
               rw [if_neg]
               clear F' N'
               rw [runB_item htl q1]
               simp [*]))
        · clear F' N'
          rintro ⟨cs, at', bt⟩ h4 tk4 m4 r1 F' N'
          dsimp only at r1 F' N'
          have r2 : cs.length = bs.length := by rw [r1]; split <;> simp
          (try k_fold)
          k_steps
          refine unhalt ?_
          rename Fr _ _ _ _ => F'
          rename News _ _ _ _ => N'
          with_unfolding_all refine' mid (σ := List Bool) F' (fun c => (D, listOf (c.map Value.bool).toArray nb) :: (L + 1 + 1, oM) :: (L + 1, oT) :: news) (fun c => [(Str.ofString "wide", Value.str px wt), (Str.ofString "cuts", Value.ref D), (Str.ofString "left", Value.int (i : Int) it), (Str.ofString "right", Value.int (j : Int) jt)]) (fun c => c = cutTurn (tl x) bs i j) ?h2 ?k2
          · refine wpAny_If ?_
            k_steps
            all_goals (try (refine unhalt ?_; refine wpAny_If ?_; k_steps))
            all_goals (
              rename Fr _ _ _ _ => F'
              rename News _ _ _ _ => N'
              first
              | (refine midI (cs.set j true) F' N' (fun _ hp => hp) (by kst_all) ?_
                 show _ = _
                 have hne : ¬ runB (tl x) i j = true := by unfold runB; rw [decide_eq_false (by omega)]; simp
                 rw [if_neg hne] at r1
                 unfold cutTurn
                 rw [if_pos, r1]
                 clear F' N'
                 rw [hyB_item htl q1]
                 simp [*]
                 done)
              | (refine midI cs F' N' (fun _ hp => hp) (by kst_all) ?_
                 show _ = _
                 unfold cutTurn
                 rw [if_neg, ← r1]
                 clear F' N' r1
                 rw [hyB_item htl q1]
                 simp [*]))
          · clear F' N'
            rintro ds h5 tk5 m5 r3 F' N'
            (try k_fold)
            k_steps
            rename Fr _ _ _ _ => F'
            rename News _ _ _ _ => N'
            have e9 : (if (i : Int) + 1 > (j : Int) then (i : Int) + 1 else (j : Int)) = ((max j (i + 1) : Nat) : Int) := by split <;> omega
            rw [e9] at F'
            refine' wend (max j (i + 1), _, ds, wt, nb) F' N' (fun p hp => hp) (by kst_all) ?_ ?_
            · refine ⟨by show ds.length = _; rw [r3, cutTurn_length]; exact p1, ?_⟩
              show cutsFrom (tl x) ds (max j (i + 1)) = _
              rw [← p2, r3]
              conv => rhs; rw [cutsFrom, if_pos (show i < (tl x).length by rw [tl_length]; omega), q3]
            · show x.length - max j (i + 1) < x.length - i; omega
    · rename News _ _ _ _ => N'
      rw [cutsFrom, if_neg (by rw [tl_length]; omega)] at p2
      rw [← p2] at hret
      refine hret D nb _ _ (by k_asm) (newsSub N' ?_) (fun p hp h9 => hoff p (List.mem_cons_of_mem _ (List.mem_cons_of_mem _ hp)) h9)
      intro p hp
      rcases List.mem_cons.mp hp with rfl | hp
      · exact List.mem_cons_self
      · exact List.mem_cons_of_mem _ (List.mem_cons_of_mem _ (List.mem_cons_of_mem _ hp))
end Mine
namespace Mine
/-- where the next cut stands -/
def nextB (bs : List Bool) (p : Nat) : Nat := if p + 1 < bs.length ∧ bs.getD (p + 1) false = false then nextB bs (p + 1) else p + 1
termination_by bs.length - p
decreasing_by omega
theorem nextB_step {bs : List Bool} {p : Nat} (h : p + 1 < bs.length) (h1 : bs.getD (p + 1) false = false) : nextB bs p = nextB bs (p + 1) := by rw [nextB, if_pos ⟨h, h1⟩]
theorem nextB_stop {bs : List Bool} {p : Nat} (h1 : bs.getD (p + 1) false = true) : nextB bs p = p + 1 := by rw [nextB, if_neg (fun h => by rw [h1] at h; exact absurd h.2 (by decide))]
theorem nextB_gt (bs : List Bool) (p : Nat) : p < nextB bs p := by
  fun_induction nextB bs p with
  | case1 p h ih => omega
  | case2 p h => omega
theorem nextB_le {bs : List Bool} {N : Nat} (he : bs.getD N false = true) (hN : N < bs.length) (p : Nat) : p < N → nextB bs p ≤ N := by
  fun_induction nextB bs p with
  | case1 p h ih =>
    intro hp
    refine ih ?_
    rcases Nat.lt_or_ge (p + 1) N with h1 | h1
    · exact h1
    · rw [show p + 1 = N by omega, he] at h; exact absurd h.2 (by decide)
  | case2 p h => omega
local macro_rules | `(tactic| walk_at "WPost") => `(tactic| (dsimp only [WPost]))
local macro_rules | `(tactic| walk_at "subscriptTail Name Name ref int") => `(tactic| (k_here; k_dflt (refine' my_getB ?N ?m ?hk ?z ?_ ?hs; (case N => k_asm); (case m => assumption); (case hk => omega); (case z => omega); (case hs => with_unfolding_all rfl))))
set_option maxRecDepth 100000 in
set_option maxHeartbeats 8000000 in
theorem next_ok {w : World} {mean : ExcName → Option Value} {mg mb : Str → Option Value} {news : Led} {a : Addr} {bs : List Bool} {n N p : Nat} {u : Tok} :
    Claim w mean mg mb 1 91 news ((a, listOf (bs.map Value.bool).toArray n) ∈ news ∧ bs.getD N false = true ∧ N < bs.length ∧ p < N ∧ bs.length ≤ 60000) [.ref a, .int (p : Int) u] (RetV news fun t => .int (nextB bs p : Nat) t) := by
  unfold Claim RetV
  k_fill
  intros
  rename_i hp hdp hun hret
  obtain ⟨p1, p2, p3, p4, p5⟩ := hp
  refine wpAny_call ?_
  cell_enter
  k_with_none
  k_with "exec While UnaryOp cons nil" => refine halt ?_
  k_steps
  refine unhalt ?_
  rename Fr _ _ _ _ => F'
  rename News _ _ _ _ => N'
  with_unfolding_all refine' w_while (σ := Nat × Tok) (fun c => news) (fun c => [(Str.ofString "cuts", Value.ref a), (Str.ofString "place", Value.int (c.1 : Int) c.2)]) (fun c => p < c.1 ∧ c.1 ≤ N ∧ nextB bs p = nextB bs (c.1 - 1)) (fun c => N - c.1) (p + 1, _) F' N' (fun p hp => hp) ?kk ?kp ?_
  case kk => kst_all
  case kp => exact ⟨Nat.lt_succ_self _, by show p + 1 ≤ N; omega, rfl⟩
  clear F' N'
  rintro ⟨j, jt⟩ u2' h2' tk2' ⟨q1, q2, q3⟩ F' N'
  dsimp only at q1 q2 q3 F' N'
  (try k_fold)
  k_steps
  · rename bs.getD j false = true => hj
    have e9 : nextB bs (j - 1) = j := by
      have e1 := nextB_stop (bs := bs) (p := j - 1) (by rw [show j - 1 + 1 = j by omega]; exact hj)
      omega
    rw [q3, e9] at hret
    exact hret _ _ _ (by k_asm) (by k_asm)
  · rename Fr _ _ _ _ => F'
    rename News _ _ _ _ => N'
    rename bs.getD j false = false => hj
    have hne : j ≠ N := by rintro rfl; rw [p2] at hj; exact absurd hj (by decide)
    refine' wend (j + 1, _) F' N' (fun p hp => hp) (by kst_all) ?_ ?_
    · refine ⟨by show p < j + 1; omega, by show j + 1 ≤ N; omega, ?_⟩
      show _ = nextB bs (j + 1 - 1)
      rw [q3, nextB_step (by omega) (by rw [show j - 1 + 1 = j by omega]; exact hj)]
      congr 1
      omega
    · show N - (j + 1) < N - j; omega
end Mine
namespace Mine
/-! what _law_fold computes -/
/-- the piece of a long word that a line takes -/
def cutJ (q : Str) : Int :=
  if 0 < Txt.rfind q (Str.ofString "-") ∧ (Txt.stripChars (Txt.slice q none (some (Txt.rfind q (Str.ofString "-")))) (Str.ofString "-") == Str.ofString "") = false then Txt.rfind q (Str.ofString "-") + 1 else (q.length : Int)
theorem rfind_lt (q : Str) : Txt.rfind q (Str.ofString "-") < (q.length : Int) ∨ Txt.rfind q (Str.ofString "-") = -1 := by
  rcases PyProof.Rows.rfind_whole q (Str.ofString "-") with h | ⟨i, h, h1, _⟩
  · exact .inr h.1
  · left
    have := h1.1
    rw [show (Str.ofString "-").length = 1 from by decide +kernel] at this
    omega
theorem cutJ_pos {q : Str} (h : 0 < q.length) : 1 ≤ cutJ q ∧ cutJ q ≤ (q.length : Int) := by
  have := rfind_lt q
  unfold cutJ
  split <;> omega
def dropF (p : List Nat) (bs : List Bool) (st : Bool) (s : Nat) : Nat := if st = true ∧ blankS (sl p s (nextB bs s)) = true then nextB bs s else s
/-- the last cut and the one before, n places on from s -/
def scanR (bs : List Bool) (s : Nat) : Nat → Nat × Nat
  | 0 => (s, s)
  | k + 1 => if bs.getD (s + k + 1) false = true then ((scanR bs s k).2, s + k + 1) else scanR bs s k
abbrev longP (p : List Nat) (wn : Nat) (bs : List Bool) (s en : Nat) : Prop := en < p.length ∧ wn < nextB bs en - en ∧ en - s < wn
def longF (p : List Nat) (wn : Nat) (bs : List Bool) (s : Nat) (c : Nat × Nat) : List Bool × Nat × Nat :=
  if longP p wn bs s c.2 then (bs.set (c.2 + (cutJ (sl p c.2 (s + wn))).toNat) true, c.2, c.2 + (cutJ (sl p c.2 (s + wn))).toNat) else (bs, c.1, c.2)
def lineF (p : List Nat) (s la en : Nat) : Str := if blankS (sl p la en) = true then sl p s la else sl p s en
def roomF (p : List Nat) (wn s : Nat) : Nat := min (s + wn) p.length - s
def turnF (p : List Nat) (wn : Nat) (bs : List Bool) (s : Nat) : List Bool × Nat × Nat := longF p wn bs s (scanR bs s (roomF p wn s))
def oneF (x : Str) : List Str := if x == Str.ofString "" then [] else [x]
def foldF : Nat → List Nat → Nat → List Bool → Bool → Nat → List Str
  | 0, _, _, _, _, _ => []
  | f + 1, p, wn, bs, st, s =>
    if s < p.length then
      oneF (lineF p (dropF p bs st s) (turnF p wn bs (dropF p bs st s)).2.1 (turnF p wn bs (dropF p bs st s)).2.2) ++
      foldF f p wn (turnF p wn bs (dropF p bs st s)).1 (st || !(oneF (lineF p (dropF p bs st s) (turnF p wn bs (dropF p bs st s)).2.1 (turnF p wn bs (dropF p bs st s)).2.2)).isEmpty) (turnF p wn bs (dropF p bs st s)).2.2
    else []
def foldL (p : List Nat) (wn : Nat) : List Str := foldF p.length p wn (cutsL p) false 0
theorem scanR_bounds (bs : List Bool) (s : Nat) : ∀ n : Nat, s ≤ (scanR bs s n).1 ∧ (scanR bs s n).1 ≤ (scanR bs s n).2 ∧ (scanR bs s n).2 ≤ s + n
  | 0 => ⟨Nat.le_refl _, Nat.le_refl _, Nat.le_refl _⟩
  | n + 1 => by
    have := scanR_bounds bs s n
    unfold scanR
    split
    · dsimp only; omega
    · omega
/-! every text ends in a cut -/
theorem cut0_end (l : List Nat) : (cuts0 l).getD l.length false = true := by simp [cuts0, cut0, List.getD_eq_getElem?_getD]
theorem set_keeps {bs : List Bool} {k N : Nat} (h : bs.getD N false = true) : (bs.set k true).getD N false = true := by
  rw [List.getD_eq_getElem?_getD] at h ⊢
  rw [List.getElem?_set]
  split
  · split
    · rfl
    · rename_i h1 h2; subst h1; rw [List.getElem?_eq_none (by omega)] at h; exact absurd h (by decide)
  · exact h
theorem cutTurn_keeps {l : List Nat} {bs : List Bool} {i j N : Nat} (h : bs.getD N false = true) : (cutTurn l bs i j).getD N false = true := by
  unfold cutTurn
  repeat' split
  · exact set_keeps h
  · exact set_keeps (set_keeps h)
  · exact h
theorem cutsFrom_keeps {l : List Nat} {N : Nat} (bs : List Bool) (i : Nat) : bs.getD N false = true → (cutsFrom l bs i).getD N false = true := by
  fun_induction cutsFrom l bs i with
  | case1 bs i h ih => intro h1; exact ih (cutTurn_keeps h1)
  | case2 bs i h => exact _root_.id
theorem cutsFrom_length (l : List Nat) (bs : List Bool) (i : Nat) : (cutsFrom l bs i).length = bs.length := by
  fun_induction cutsFrom l bs i with
  | case1 bs i h ih => rw [ih, cutTurn_length]
  | case2 bs i h => rfl
theorem cutsL_length (l : List Nat) : (cutsL l).length = l.length + 1 := by unfold cutsL; rw [cutsFrom_length, cuts0_length]
theorem cutsL_end (l : List Nat) : (cutsL l).getD l.length false = true := cutsFrom_keeps _ _ (cut0_end l)
/-! the scan and the next cut -/
theorem scanR_none {bs : List Bool} {s : Nat} : ∀ {n q : Nat}, (scanR bs s n).2 < q → q ≤ s + n → bs.getD q false = false
  | 0, q, h1, h2 => by simp only [scanR] at h1; omega
  | n + 1, q, h1, h2 => by
    unfold scanR at h1
    split at h1
    · dsimp only at h1; omega
    · rename_i h3
      rcases Nat.lt_or_ge q (s + n + 1) with h4 | h4
      · exact scanR_none h1 (by omega)
      · rw [show q = s + n + 1 by omega]; simpa using h3
theorem nextB_far {bs : List Bool} {M : Nat} (hM : M < bs.length) (p : Nat) : p ≤ M → (∀ q, p < q → q ≤ M → bs.getD q false = false) → M < nextB bs p := by
  fun_induction nextB bs p with
  | case1 p h ih =>
    intro hp ha
    rcases Nat.lt_or_ge p M with h1 | h1
    · exact ih (by omega) (fun q h2 h3 => ha q (by omega) h3)
    · have := nextB_gt bs (p + 1); omega
  | case2 p h =>
    intro hp ha
    rcases Nat.lt_or_ge p M with h1 | h1
    · exact absurd ⟨by omega, ha (p + 1) (by omega) (by omega)⟩ h
    · omega
theorem turn_bounds {p : List Nat} {wn : Nat} {bs : List Bool} {s : Nat} (hw : 0 < wn) (hl : bs.length = p.length + 1) (he : bs.getD p.length false = true) (hs : s ≤ p.length) :
    s ≤ (turnF p wn bs s).2.1 ∧ (turnF p wn bs s).2.1 ≤ (turnF p wn bs s).2.2 ∧ (turnF p wn bs s).2.2 ≤ p.length ∧ (s < p.length → s < (turnF p wn bs s).2.2) ∧ (turnF p wn bs s).1.length = p.length + 1 ∧ (turnF p wn bs s).1.getD p.length false = true := by
  have h1 := scanR_bounds bs s (roomF p wn s)
  have hr : s + roomF p wn s ≤ p.length ∧ (roomF p wn s = wn ∨ s + roomF p wn s = p.length) := by unfold roomF; omega
  unfold turnF longF
  split
  · rename_i h2
    obtain ⟨h3, h4, h5⟩ := h2
    have h6 := nextB_le he (by omega) _ h3
    have h7 : (sl p (scanR bs s (roomF p wn s)).2 (s + wn)).length = s + wn - (scanR bs s (roomF p wn s)).2 := sl_length (by omega)
    have h8 := cutJ_pos (q := sl p (scanR bs s (roomF p wn s)).2 (s + wn)) (by omega)
    dsimp only
    refine ⟨by omega, by omega, by omega, by intro _; omega, by rw [List.length_set, hl], set_keeps he⟩
  · rename_i h2
    dsimp only
    refine ⟨by omega, by omega, by omega, fun h3 => ?_, hl, he⟩
    rcases Nat.lt_or_ge s (scanR bs s (roomF p wn s)).2 with h4 | h4
    · exact h4
    · exfalso
      have h5 : (scanR bs s (roomF p wn s)).2 = s := by omega
      have h6 := nextB_far (bs := bs) (M := s + roomF p wn s) (by omega) s (by omega) (fun q h7 h8 => scanR_none (by rw [h5]; exact h7) h8)
      have h7 := nextB_le he (by omega) s h3
      refine h2 ⟨by omega, ?_, by omega⟩
      rw [h5]; omega
theorem drop_bounds {p : List Nat} {bs : List Bool} {st : Bool} {s : Nat} (hl : bs.length = p.length + 1) (he : bs.getD p.length false = true) (hs : s < p.length) : s ≤ dropF p bs st s ∧ dropF p bs st s ≤ p.length ∧ (dropF p bs st s = p.length → s < dropF p bs st s) := by
  have h1 := nextB_gt bs s
  have h2 := nextB_le he (by omega) s hs
  unfold dropF
  split <;> omega
theorem oneF_len (x : Str) : (oneF x).length ≤ 1 := by unfold oneF; split <;> simp
theorem fold_step {f : Nat} {p : List Nat} {wn : Nat} {bs : List Bool} {ls T : List Str} {s s1 : Nat} {r : List Bool × Nat × Nat} {line : Str} (h : ls ++ foldF f p wn bs (!ls.isEmpty) s = T) (hs : s < p.length) (hf : p.length - s ≤ f)
    (h1 : s1 = dropF p bs (!ls.isEmpty) s) (h2 : r = turnF p wn bs s1) (h3 : line = lineF p s1 r.2.1 r.2.2) : (ls ++ oneF line) ++ foldF (f - 1) p wn r.1 (!(ls ++ oneF line).isEmpty) r.2.2 = T := by
  obtain ⟨g, rfl⟩ : ∃ g, f = g + 1 := ⟨f - 1, by omega⟩
  subst h3 h2 h1
  rw [foldF, if_pos hs] at h
  rw [← h, List.append_assoc]
  congr 3
  generalize oneF _ = o
  cases ls <;> cases o <;> simp
theorem foldF_stop {f : Nat} {p : List Nat} {wn : Nat} {bs : List Bool} {st : Bool} {s : Nat} (h : ¬ s < p.length) : foldF f p wn bs st s = [] := by cases f <;> simp [foldF, h]
end Mine
namespace Mine
local macro_rules | `(tactic| walk_at "my call done") => `(tactic| (
  (case k1 => k_asm); (case k2 => k_asm); (case k3 => k_asm); (case k4 => k_asm); (case k5 => k_asm); (case k6 => first | exact rfl | assumption); (case kd => ktr_room); (case ku => ktr_units)))
local macro_rules | `(tactic| walk_at "call ref") => `(tactic| (k_here; (with_unfolding_all refine' cuts_ok _ _ _ _ _ _ _ _ _ _ _ _ _ _ _ _ _ ?k1 ?k2 ?k3 ?k4 ?k5 ?k6 ?kp ?kd ?ku ?_); walk_at "my call done"; (case kp => first | assumption | omega); intro a9 n9 h9 tk9 F9 N9 lt9; (try dsimp only); (try k_fold)))
local macro_rules | `(tactic| walk_at "call ref") => `(tactic| (k_here; (with_unfolding_all refine' next_ok _ _ _ _ _ _ _ _ _ _ _ _ _ _ _ _ _ ?k1 ?k2 ?k3 ?k4 ?k5 ?k6 ?kp ?kd ?ku ?_); walk_at "my call done"; (case kp => (refine ⟨?ka, ?kb, ?kc, ?kd, ?ke⟩; (case ka => k_dflt k_mem); (case kb => assumption); (case kc => omega); (case kd => omega); (case ke => omega))); intro t9 h9 tk9 F9 N9; (try dsimp only); (try k_fold)))
local macro_rules | `(tactic| walk_at "WPost") => `(tactic| (dsimp only [WPost]))
local macro_rules | `(tactic| walk_at "FPost") => `(tactic| (dsimp only [FPost]))
local macro_rules | `(tactic| walk_at "my size") => `(tactic| ((try simp only [List.length_reverse, List.length_append, List.length_cons, List.length_nil]); omega))
local macro_rules | `(tactic| walk_at "truthy ref") => `(tactic| (k_here; k_dflt (refine' my_truthG ?N ?m ?z ?_; (case N => k_asm); (case m => k_mem); (case z => walk_at "my size"))))
local macro_rules | `(tactic| walk_at "call builtin:list.append") => `(tactic| (k_here; k_dflt (refine' my_append ?F ?N ?U ?z ?_; (case F => k_asm); (case N => k_asm); (case U => k_upd); (case z => walk_at "my size")); intro h' F' N'))
local macro_rules | `(tactic| walk_at "setItem ref int") => `(tactic| (k_here; k_dflt (refine' my_setB ?F ?N ?U ?hk ?z ?_; (case F => k_asm); (case N => k_asm); (case U => first | exact Upd.tail (by k_ne) (Upd.head (by assumption)) | exact Upd.head (by assumption) | k_upd); (case hk => ((try simp only [List.length_set]); omega)); (case z => ((try simp only [List.length_set]); omega))); intro h' F' N'))
local macro_rules | `(tactic| walk_at "subscriptTail Name Name ref int") => `(tactic| (k_here; k_dflt (refine' my_getB ?N ?m ?hk ?z ?_ ?hs; (case N => k_asm); (case m => k_mem); (case hk => omega); (case z => omega); (case hs => with_unfolding_all rfl))))
local macro_rules | `(tactic| walk_at "my same3") => `(tactic| (intro z h1 h2 h3; (try simp only [List.forall_mem_cons, List.not_mem_nil, false_implies, implies_true, and_true, ne_eq] at h2); (try simp only [List.contains_cons, List.contains_nil, Bool.or_false, Bool.or_eq_false_iff, beq_eq_false_iff_ne, ne_eq] at h3); (simp [kstB, h1, h2, h3]; done)))
theorem nm2 {h₀ h : Heap} {L D l : Addr} {x y : Obj} {news : Led} (N0 : News h₀ L h ((l, x) :: (D, y) :: news)) : ∃ l' D', l' = l ∧ D' = D := ⟨_, _, rfl, rfl⟩
set_option maxRecDepth 100000 in
set_option maxHeartbeats 8000000 in
theorem fold_ok {w : World} {mean : ExcName → Option Value} {mg mb : Str → Option Value} {news : Led} {x : Str} {t : Tok} {wn : Nat} {u : Tok} :
    Claim w mean mg mb 4 98 news (x.length ≤ 50000 ∧ 0 < wn) [.str x t, .int (wn : Int) u] (RetL news (foldL (tl x) wn)) := by
  unfold Claim RetL
  k_fill
  intros
  rename_i hp hdp hun hret
  obtain ⟨hp1, hp2⟩ := hp
  refine wpAny_call ?_
  cell_enter
  k_with_none
  k_with "exec While Compare cons nil" => refine halt ?_
  k_with "exec If" => refine halt ?_
  k_with "pyIter ref" => refine halt ?_
  k_steps
  refine unhalt ?_
  rename Fr _ _ _ _ => F'
  rename News _ _ _ _ => N'
  rename ∀ p ∈ news, p.1 ≠ _ => hoff
  rename _ ∧ AllLt _ news => l1
  obtain ⟨l, D, e1, e2⟩ := nm2 N'
  subst e1 e2
  have hN : (tl x).length = x.length := tl_length x
  with_unfolding_all refine' w_while (σ := (List Bool × Nat × Tok) × (List Value × List Str × Nat) × Nat × Tok × Nat) (fun c => (l, listOf c.2.1.1.toArray c.2.1.2.2) :: (D, listOf (c.1.1.map Value.bool).toArray c.1.2.1) :: news) (fun c => [(Str.ofString "plain", Value.str x t), (Str.ofString "width", Value.int (wn : Int) u), (Str.ofString "cuts", Value.ref D), (Str.ofString "many", Value.int (x.length : Int) c.1.2.2), (Str.ofString "lines", Value.ref l), (Str.ofString "start", Value.int (c.2.2.1 : Int) c.2.2.2.1)]) (fun c => StrsAre c.2.1.1 c.2.1.2.1 ∧ c.1.1.length = (tl x).length + 1 ∧ c.1.1.getD (tl x).length false = true ∧ c.2.2.1 ≤ (tl x).length ∧ c.2.1.2.1 ++ foldF c.2.2.2.2 (tl x) wn c.1.1 (!c.2.1.2.1.isEmpty) c.2.2.1 = foldL (tl x) wn ∧ (tl x).length - c.2.2.1 ≤ c.2.2.2.2 ∧ c.2.1.2.1.length ≤ c.2.2.1) (fun c => (tl x).length - c.2.2.1) ((cutsL (tl x), _, _), ([], [], _), 0, _, (tl x).length) F' N' (fun p hp => hp) ?kk ?kp ?_
  case kk => kst_all
  case kp => exact ⟨.nil, cutsL_length _, cutsL_end _, Nat.zero_le _, rfl, Nat.le_refl _, Nat.le_refl _⟩
  clear F' N'
  rintro ⟨⟨bs, nb, mt⟩, ⟨lv, ls, nl⟩, s, st, f⟩ u2 h2 tk2 ⟨q1, q2, q3, q4, q5, q6, q7⟩ F' N'
  dsimp only at q1 q2 q3 q4 q5 q6 q7 F' N'
  (try k_fold)
  have q8 := q1.length
  have q9 := strs_isEmpty q1
  k_steps
  · refine unhalt ?_
    rename Fr _ _ _ _ => F'
    rename News _ _ _ _ => N'
    have hs : s < (tl x).length := by omega
    have hb := nextB_gt bs s
    have hb2 := nextB_le q3 (by omega) s hs
    with_unfolding_all refine' mid (σ := Nat × Tok) F' (fun _ => (l, listOf (lv).toArray nl) :: (D, listOf ((bs).map Value.bool).toArray nb) :: news) (fun c => [(Str.ofString "plain", Value.str x t), (Str.ofString "width", Value.int (wn : Int) u), (Str.ofString "cuts", Value.ref D), (Str.ofString "many", Value.int (x.length : Int) mt), (Str.ofString "lines", Value.ref l), (Str.ofString "start", Value.int (c.1 : Int) c.2)]) (fun c => c.1 = dropF (tl x) bs (!ls.isEmpty) s) ?h1 ?k1
    · refine wpAny_If ?_
      k_steps
      all_goals (
        rename Fr _ _ _ _ => F'
        rename News _ _ _ _ => N'
        first
        | (refine midI (nextB bs s, _) F' N' (fun _ hp => hp) (by kst_all) ?_
           rename (Txt.strip _ == _) = true => hc
           rename lv.isEmpty = false => hc2
           rw [slice_sl (by omega) (by omega)] at hc
           show nextB bs s = _
           unfold dropF
           rw [if_pos ⟨by rw [← q9, hc2]; rfl, hc⟩])
        | (refine midI (s, _) F' N' (fun _ hp => hp) (by kst_all) ?_
           show s = _
           unfold dropF
           rw [if_neg]
           rintro ⟨hc1, hc2⟩
           first
           | (rename lv.isEmpty = true => hc3
              rw [← q9, hc3] at hc1
              exact absurd hc1 (by decide))
           | (rename (Txt.strip _ == _) = false => hc
              rw [slice_sl (by omega) (by omega)] at hc
              unfold blankS at hc2
              rw [hc2] at hc
              exact absurd hc (by decide))))
    · clear F' N'
      rintro ⟨s1, s1t⟩ h3 tk3 m3 r1 F' N'
      dsimp only at r1 F' N'
      have hd := drop_bounds (st := !ls.isEmpty) q2 q3 hs
      rw [← r1] at hd
      (try k_fold)
      k_steps
      refine unhalt ?_
      rename Fr _ _ _ _ => F'
      rename News _ _ _ _ => N'
      rename IsRange _ _ _ _ _ _ _ _ => rg
      have e9 : (if (x.length : Int) < (s1 : Int) + (wn : Int) then (x.length : Int) else (s1 : Int) + (wn : Int)) = ((min (s1 + wn) (tl x).length : Nat) : Int) := by split <;> omega
      rw [e9] at rg
      have hroom : roomF (tl x) wn s1 = min (s1 + wn) (tl x).length - s1 := rfl
      with_unfolding_all refine' my_range (n := roomF (tl x) wn s1) (σ := (Nat × Nat) × Tok × Tok) (fun _ => (l, listOf (lv).toArray nl) :: (D, listOf ((bs).map Value.bool).toArray nb) :: news) (fun c => [(Str.ofString "last", Value.int (c.1.1 : Int) c.2.1), (Str.ofString "end", Value.int (c.1.2 : Int) c.2.2)]) [] (fun pre c => c.1 = scanR bs s1 pre.length) ((s1, s1), _, _) (by rfl) rg (small_one (by omega) (by omega) (by omega) (by omega)) ((rangeSize_nat _ _).trans (by rw [hroom]; omega)) F' N' (by kst_all) rfl ?_ ?_
      · clear F' N'
        rintro ⟨⟨la, en⟩, lat, ent⟩ pre k kt u' h' tk' own hk hlt hoff2 p4 F' N'
        dsimp only at p4 F' N'
        have hk2 : k = ((s1 + pre.length + 1 : Nat) : Int) := by omega
        subst hk2
        (try k_fold)
        k_steps
        refine unhalt (wpAny_If ?_)
        k_steps
        · rename Fr _ _ _ _ => F'
          rename News _ _ _ _ => N'
          refine' my_fend ((_, _), _, _) F' N' (fun p hp => List.mem_append_left _ hp) (fun p hp => List.mem_append_right _ hp) rfl (by kst_all) (by walk_at "my same3") ?_
          show (_, _) = scanR bs s1 (pre ++ [_]).length
          rw [List.length_append, List.length_cons, List.length_nil, scanR, if_pos (by assumption), ← p4]
        · rename Fr _ _ _ _ => F'
          rename News _ _ _ _ => N'
          refine' my_fend ((_, _), _, _) F' N' (fun p hp => List.mem_append_left _ hp) (fun p hp => List.mem_append_right _ hp) rfl (by kst_all) (by walk_at "my same3") ?_
          show (_, _) = scanR bs s1 (pre ++ [_]).length
          rename bs.getD _ false = false => h9
          rw [List.length_append, List.length_cons, List.length_nil, scanR, if_neg (by rw [h9]; decide), ← p4]
      · clear F' N'
        rintro ⟨⟨la, en⟩, lat, ent⟩ u' h' tk' p4 F' N'
        dsimp only at p4 F' N'
        rw [rangeKs_length] at p4
        have sb := scanR_bounds bs s1 (roomF (tl x) wn s1)
        rw [← p4] at sb
        dsimp only at sb
        have tb := turn_bounds (s := s1) hp2 q2 q3 hd.2.1
        have te : turnF (tl x) wn bs s1 = longF (tl x) wn bs s1 (la, en) := by rw [p4]; rfl
        (try k_fold)
        k_steps
        refine unhalt ?_
        rename Fr _ _ _ _ => F'
        rename News _ _ _ _ => N'
        with_unfolding_all refine' mid (σ := (List Bool × Nat × Nat) × Tok × Tok) F' (fun c => (l, listOf (lv).toArray nl) :: (D, listOf ((c.1.1).map Value.bool).toArray nb) :: news) (fun c => [(Str.ofString "plain", Value.str x t), (Str.ofString "width", Value.int (wn : Int) u), (Str.ofString "cuts", Value.ref D), (Str.ofString "many", Value.int (x.length : Int) mt), (Str.ofString "lines", Value.ref l), (Str.ofString "start", Value.int (s1 : Int) s1t), (Str.ofString "last", Value.int (c.1.2.1 : Int) c.2.1), (Str.ofString "end", Value.int (c.1.2.2 : Int) c.2.2)]) (fun c => c.1 = turnF (tl x) wn bs s1) ?h2 ?k2
        · refine wpAny_If ?_
          k_steps
          · refine unhalt ?_
            rename (wn : Int) < _ => hc2
            rename (en : Int) - (s1 : Int) < (wn : Int) => hc3
            have hc1 : en < (tl x).length := by omega
            have hcn := nextB_le q3 (by omega) _ hc1
            have hlong : longP (tl x) wn bs s1 en := ⟨hc1, by omega, by omega⟩
            have hq : Txt.slice x (some (en : Int)) (some ((s1 : Int) + (wn : Int))) = sl (tl x) en (s1 + wn) := by
              rw [show ((s1 : Int) + (wn : Int)) = ((s1 + wn : Nat) : Int) from rfl]; exact slice_sl (by omega) (by omega)
            have hql : (sl (tl x) en (s1 + wn)).length = s1 + wn - en := sl_length (by omega)
            generalize Txt.slice x (some (en : Int)) (some ((s1 : Int) + (wn : Int))) = q at *
            subst hq
            have hr := rfind_lt (sl (tl x) en (s1 + wn))
            have hj := cutJ_pos (q := sl (tl x) en (s1 + wn)) (by omega)
            rename Fr _ _ _ _ => F'
            rename News _ _ _ _ => N'
            with_unfolding_all refine' mid (σ := Str × Tok) F' (fun c => (l, listOf (lv).toArray nl) :: (D, listOf ((bs).map Value.bool).toArray nb) :: news) (fun c => [(Str.ofString "plain", Value.str x t), (Str.ofString "width", Value.int (wn : Int) u), (Str.ofString "cuts", Value.ref D), (Str.ofString "many", Value.int (x.length : Int) mt), (Str.ofString "lines", Value.ref l), (Str.ofString "start", Value.int (s1 : Int) s1t), (Str.ofString "last", Value.int (la : Int) lat), (Str.ofString "end", Value.int (en : Int) ent), (Str.ofString "piece", Value.str c.1 c.2)]) (fun c => (c.1.length : Int) = cutJ (sl (tl x) en (s1 + wn))) ?h3 ?k3
            · refine wpAny_If ?_
              k_steps
              all_goals (
                rename Fr _ _ _ _ => F'
                rename News _ _ _ _ => N'
                refine midI (_, _) F' N' (fun _ hp => hp) (by kst_all) ?_
                dsimp only
                unfold cutJ
                first
                | (rename (Txt.stripChars _ _ != _) = true => hx
                   rw [if_pos ⟨by assumption, by simpa [bne] using hx⟩]
                   have := PyProof.Rows.fact_slice_ns (sl (tl x) en (s1 + wn)) (Txt.rfind (sl (tl x) en (s1 + wn)) (Str.ofString "-") + 1)
                   omega)
                | (rename (Txt.stripChars _ _ != _) = false => hx
                   rw [if_neg (by rintro ⟨_, h⟩; rw [bne, h] at hx; exact absurd hx (by decide))])
                | (rw [if_neg (by rintro ⟨h, _⟩; omega)]))
            · clear F' N'
              rintro ⟨pc, pt⟩ h5 tk5 m5 r5 F' N'
              dsimp only at r5 F' N'
              (try k_fold)
              k_steps
              rename Fr _ _ _ _ => F'
              rename News _ _ _ _ => N'
              refine midI ((bs.set (en + pc.length) true, en, en + pc.length), _, _) F' N' (fun _ hp => hp) (by kst_all) ?_
              show (_, _, _) = _
              rw [te]
              unfold longF
              rw [if_pos hlong, ← r5, Int.toNat_natCast]
          all_goals (
            rename Fr _ _ _ _ => F'
            rename News _ _ _ _ => N'
            refine midI ((bs, la, en), _, _) F' N' (fun _ hp => hp) (by kst_all) ?_
            show (bs, la, en) = _
            rw [te]
            unfold longF
            rw [if_neg]
            rintro ⟨hc1, hc2, hc3⟩
            dsimp only at hc1 hc2 hc3
            omega)
        · clear F' N'
          rintro ⟨⟨bs2, la2, en2⟩, la2t, en2t⟩ h6 tk6 m6 r6 F' N'
          dsimp only at r6 F' N'
          rw [← r6] at tb
          dsimp only at tb
          (try k_fold)
          k_steps
          all_goals (
            rename (Txt.strip _ == Str.ofString "") = _ => hs9
            rw [slice_sl (a := la2) (b := en2) (by omega) (by omega)] at hs9
            have e1 := slice_sl (x := x) (a := s1) (b := la2) (by omega) (by omega)
            have e2 := slice_sl (x := x) (a := s1) (b := en2) (by omega) (by omega)
            obtain ⟨ln, hl⟩ : ∃ ln, ln = lineF (tl x) s1 la2 en2 := ⟨_, rfl⟩
            have hl2 := hl
            unfold lineF blankS at hl2
            rw [hs9] at hl2
            rw [← e1, ← e2] at hl2
            first | rw [if_pos rfl] at hl2 | rw [if_neg (by decide)] at hl2
            clear e1 e2
            first
            | (generalize Txt.slice x (some (s1 : Int)) (some (la2 : Int)) = z at *
               have h8 : ln = z := hl2
               clear hl2
               subst h8)
            | (generalize Txt.slice x (some (s1 : Int)) (some (en2 : Int)) = z at *
               have h8 : ln = z := hl2
               clear hl2
               subst h8)
            refine unhalt (wpAny_If ?_)
            k_steps)
          all_goals (
            rename Fr _ _ _ _ => F'
            rename News _ _ _ _ => N'
            have hfs := fold_step q5 hs q6 r1 r6 hl
            first
            | (rename (ln != Str.ofString "") = true => hb3
               have ho : oneF ln = [ln] := by unfold oneF; rw [if_neg (by rw [bne] at hb3; intro h; rw [h] at hb3; exact absurd hb3 (by decide))]
               rw [ho] at hfs
               refine' wend ((bs2, nb, mt), (lv ++ [_], ls ++ [ln], nl + 1), en2, _, f - 1) F' N' (fun p hp => hp) (by kst_all) ⟨q1.append' (.cons _ _ .nil), tb.2.2.2.2.1, tb.2.2.2.2.2, tb.2.2.1, hfs, ?_, ?_⟩ ?_
               · show (tl x).length - en2 ≤ f - 1; omega
               · show (ls ++ [_]).length ≤ en2; rw [List.length_append, List.length_cons, List.length_nil]; omega
               · show (tl x).length - en2 < (tl x).length - s; omega)
            | (rename (ln != Str.ofString "") = false => hb3
               have ho : oneF ln = [] := by unfold oneF; rw [if_pos (by simpa [bne] using hb3)]
               rw [ho, List.append_nil] at hfs
               refine' wend ((bs2, nb, mt), (lv, ls, nl), en2, _, f - 1) F' N' (fun p hp => hp) (by kst_all) ⟨q1, tb.2.2.2.2.1, tb.2.2.2.2.2, tb.2.2.1, hfs, ?_, ?_⟩ ?_
               · show (tl x).length - en2 ≤ f - 1; omega
               · show ls.length ≤ en2; omega
               · show (tl x).length - en2 < (tl x).length - s; omega))
  · rw [foldF_stop (by omega), List.append_nil] at q5
    rw [← q5] at hret
    exact hret l lv nl _ _ (by k_asm) (newsSub (by k_asm) (fun p hp => by rcases List.mem_cons.mp hp with rfl | hp; exact List.mem_cons_self; exact List.mem_cons_of_mem _ (List.mem_cons_of_mem _ hp))) q1 (ktn_ltOf l1.2)
end Mine
namespace Mine
/-! wrap's turns and _law_fold's turns, over one text and its cuts -/
/-- the pieces between the cuts, from s on -/
def chop (p : List Nat) (bs : List Bool) (s : Nat) : List Str := if s < p.length then sl p s (nextB bs s) :: chop p bs (nextB bs s) else []
termination_by p.length - s
decreasing_by have := nextB_gt bs s; omega
theorem chop_step {p : List Nat} {bs : List Bool} {s : Nat} (h : s < p.length) : chop p bs s = sl p s (nextB bs s) :: chop p bs (nextB bs s) := by rw [chop, if_pos h]
theorem chop_stop {p : List Nat} {bs : List Bool} {s : Nat} (h : ¬ s < p.length) : chop p bs s = [] := by rw [chop, if_neg h]
theorem nextB_eq {bs : List Bool} {e : Nat} (he : bs.getD e false = true) (p : Nat) : p < e → (∀ q, p < q → q < e → bs.getD q false = false) → nextB bs p = e := by
  fun_induction nextB bs p with
  | case1 p h ih =>
    intro h1 h2
    refine ih ?_ (fun q h3 h4 => h2 q (by omega) h4)
    rcases Nat.lt_or_ge (p + 1) e with h3 | h3
    · exact h3
    · rw [show p + 1 = e by omega, he] at h; exact absurd h.2 (by decide)
  | case2 p h =>
    intro h1 h2
    rcases Nat.lt_or_ge (p + 1) e with h3 | h3
    · exfalso
      refine h ⟨?_, h2 _ (by omega) h3⟩
      rcases Nat.lt_or_ge e bs.length with h4 | h4
      · omega
      · rw [List.getD_eq_getElem?_getD, List.getElem?_eq_none h4] at he; exact absurd he (by decide)
    · omega
theorem nextB_free {bs : List Bool} (p : Nat) : ∀ q, p < q → q < nextB bs p → bs.getD q false = false := by
  fun_induction nextB bs p with
  | case1 p h ih =>
    intro q h1 h2
    rcases Nat.lt_or_ge (p + 1) q with h3 | h3
    · exact ih q h3 h2
    · rw [show q = p + 1 by omega]; exact h.2
  | case2 p h => intro q h1 h2; omega
theorem nextB_hit {bs : List Bool} {N : Nat} (he : bs.getD N false = true) (hN : N < bs.length) (p : Nat) : p < N → bs.getD (nextB bs p) false = true := by
  fun_induction nextB bs p with
  | case1 p h ih =>
    intro h1
    refine ih ?_
    rcases Nat.lt_or_ge (p + 1) N with h3 | h3
    · exact h3
    · rw [show p + 1 = N by omega, he] at h; exact absurd h.2 (by decide)
  | case2 p h =>
    intro h1
    by_cases h2 : bs.getD (p + 1) false = true
    · exact h2
    · exact absurd ⟨by omega, by simpa using h2⟩ h
theorem set_get {bs : List Bool} {t q : Nat} (h : t < q) : (bs.set t true).getD q false = bs.getD q false := by
  rw [List.getD_eq_getElem?_getD, List.getD_eq_getElem?_getD, List.getElem?_set_ne (by omega)]
theorem nextB_set {bs : List Bool} {t : Nat} (s : Nat) : t ≤ s → nextB (bs.set t true) s = nextB bs s := by
  fun_induction nextB bs s with
  | case1 p h ih =>
    intro h1
    rw [nextB, if_pos ⟨by rw [List.length_set]; exact h.1, by rw [set_get (by omega)]; exact h.2⟩]
    exact ih (by omega)
  | case2 p h =>
    intro h1
    rw [nextB, if_neg]
    rw [List.length_set, set_get (by omega)]; exact h
theorem chop_set {p : List Nat} {bs : List Bool} {t : Nat} (s : Nat) : t ≤ s → chop p (bs.set t true) s = chop p bs s := by
  fun_induction chop p bs s with
  | case1 s h ih =>
    intro h1
    have := nextB_gt bs s
    rw [chop_step h, nextB_set s h1, ih (by omega)]
  | case2 s h => intro h1; rw [chop_stop h]
/-! pieces that stand behind one another -/
inductive Seg (p : List Nat) (s : Nat) : Nat → List Str → Prop
  | nil : Seg p s s []
  | snoc {m e : Nat} {cs : List Str} : Seg p s m cs → m < e → e ≤ p.length → Seg p s e (cs ++ [sl p m e])
theorem Seg.le {p : List Nat} {s e : Nat} {cs : List Str} (h : Seg p s e cs) : s ≤ e := by
  induction h with
  | nil => exact Nat.le_refl _
  | snoc _ h1 _ ih => omega
theorem sl_nil (p : List Nat) (s : Nat) : sl p s s = Str.ofString "" := by
  unfold sl; rw [Nat.sub_self, List.take_zero]; decide +kernel
theorem sl_append {p : List Nat} {s m e : Nat} (h1 : s ≤ m) (h2 : m ≤ e) : sl p s m ++ sl p m e = sl p s e := by
  have : ((p.drop s).take (m - s)) ++ ((p.drop m).take (e - m)) = (p.drop s).take (e - s) := by
    rw [show e - s = (m - s) + (e - m) by omega, List.take_add, List.drop_drop]
    congr 3; omega
  unfold sl
  rw [← this]
  have h9 : ∀ a b : List Nat, (⟨a.toArray⟩ : Str) ++ ⟨b.toArray⟩ = ⟨(a ++ b).toArray⟩ := fun a b => by
    show (⟨a.toArray ++ b.toArray⟩ : Str) = _
    simp
  exact h9 _ _
theorem sl_ne {p : List Nat} {s e : Nat} (h : s < e) (h2 : e ≤ p.length) : (sl p s e == Str.ofString "") = false := by
  rw [beq_eq_false_iff_ne]
  intro h3
  have h4 := sl_length (l := p) (a := s) h2
  rw [h3, show (Str.ofString "").length = 0 from by decide +kernel] at h4
  omega
theorem joinS (sep : Str) (cs : List Str) : Txt.join sep cs = Str.join sep cs := by
  show PySem.Builtin.Str.glued sep cs = _
  exact PySem.StrLaws.glued_eq_join sep cs
theorem Seg.nil_inv {p : List Nat} {s e : Nat} {cs : List Str} (h : Seg p s e cs) : cs = [] → s = e := by
  cases h with
  | nil => intro _; rfl
  | snoc _ _ _ => intro h; simp at h
theorem Seg.join {p : List Nat} {s e : Nat} {cs : List Str} (h : Seg p s e cs) : Txt.join (Str.ofString "") cs = sl p s e := by
  induction h with
  | nil => rw [sl_nil, joinS]; exact show (Str.empty : Str) = _ by decide +kernel
  | snoc h0 h1 h2 ih =>
    rw [joinS] at ih ⊢
    rw [PyProof.Rows.FinIter.join_snoc]
    split
    · rename_i h3
      rw [h0.nil_inv h3]
    · rw [← sl_append h0.le (Nat.le_of_lt h1), ← ih]
      refine congrArg (· ++ sl p _ _) ?_
      rw [show Str.ofString "" = ⟨#[]⟩ from by decide +kernel]
      exact PyProof.Rows.FinIter.str_append_nil _
theorem Seg.empty {p : List Nat} {s e : Nat} {cs : List Str} (h : Seg p s e cs) : (cs = [] ∧ s = e) ∨ (cs ≠ [] ∧ s < e ∧ e ≤ p.length) := by
  cases h with
  | nil => exact .inl ⟨rfl, rfl⟩
  | snoc h0 h1 h2 => exact .inr ⟨by simp, by have := h0.le; omega, h2⟩
/-- the pieces of a line: the last one stands from la to en -/
def Line (p : List Nat) (s la en : Nat) (cs : List Str) : Prop := (cs = [] ∧ la = s ∧ en = s) ∨ ∃ init, cs = init ++ [sl p la en] ∧ Seg p s la init ∧ la < en ∧ en ≤ p.length
theorem Line.seg {p : List Nat} {s la en : Nat} {cs : List Str} (h : Line p s la en cs) : Seg p s en cs := by
  rcases h with ⟨rfl, rfl, rfl⟩ | ⟨init, rfl, h1, h2, h3⟩
  · exact .nil
  · exact .snoc h1 h2 h3
theorem seg_one {p : List Nat} {s e : Nat} {cs : List Str} (h : Seg p s e cs) : lineW cs = oneF (sl p s e) ∧ cs.isEmpty = (oneF (sl p s e)).isEmpty := by
  rcases h.empty with ⟨rfl, rfl⟩ | ⟨h1, h2, h3⟩
  · rw [sl_nil]; exact ⟨by decide +kernel, by decide +kernel⟩
  · have h4 : oneF (sl p s e) = [sl p s e] := by unfold oneF; rw [sl_ne h2 h3]; rfl
    have h5 : cs.isEmpty = false := by cases cs; exact absurd rfl h1; rfl
    rw [h4]
    refine ⟨?_, h5⟩
    unfold lineW
    rw [h5, h.join]; rfl
theorem line_trim {p : List Nat} {s la en : Nat} {cs : List Str} (h : Line p s la en cs) : Seg p s (if blankS (sl p la en) = true then la else en) (trimW cs) := by
  rcases h with ⟨rfl, rfl, rfl⟩ | ⟨init, rfl, h1, h2, h3⟩
  · rw [trim_nil, ite_self]; exact .nil
  · rw [trim_snoc]
    split
    · exact h1
    · exact .snoc h1 h2 h3
theorem line_one {p : List Nat} {s la en : Nat} {cs : List Str} (h : Line p s la en cs) : lineW (trimW cs) = oneF (lineF p s la en) ∧ (trimW cs).isEmpty = (oneF (lineF p s la en)).isEmpty := by
  have h1 := seg_one (line_trim h)
  have h2 : lineF p s la en = sl p s (if blankS (sl p la en) = true then la else en) := by unfold lineF; split <;> rfl
  rw [h2]; exact h1
/-! the pieces that fit -/
theorem scanR_still {bs : List Bool} {s : Nat} (a : Nat) : ∀ d : Nat, (∀ q, s + a < q → q ≤ s + a + d → bs.getD q false = false) → scanR bs s (a + d) = scanR bs s a
  | 0, _ => rfl
  | d + 1, h => by
    rw [show a + (d + 1) = (a + d) + 1 by omega, scanR, if_neg (by rw [h _ (by omega) (by omega)]; decide)]
    exact scanR_still a d (fun q h1 h2 => h q h1 (by omega))
theorem fill_scan {p : List Nat} {wn : Nat} {bs : List Bool} {s : Nat} (hl : bs.length = p.length + 1) (he : bs.getD p.length false = true) : ∀ (k e : Nat) (acc : List Str) (la : Nat), p.length - e ≤ k → s ≤ e → e ≤ s + roomF p wn s → e ≤ p.length → scanR bs s (e - s) = (la, e) → Line p s la e acc →
    ∃ cur, fillL (wn : Int) (e - s) (chop p bs e) = (cur, (scanR bs s (roomF p wn s)).2 - s, chop p bs (scanR bs s (roomF p wn s)).2) ∧ Line p s (scanR bs s (roomF p wn s)).1 (scanR bs s (roomF p wn s)).2 (acc ++ cur) := by
  intro k
  induction k with
  | zero =>
    intro e acc la h1 h2 h3 h4 h5 h6
    have hr : roomF p wn s = e - s := by unfold roomF at *; omega
    rw [hr, h5, chop_stop (by omega)]
    exact ⟨[], rfl, by rw [List.append_nil]; exact h6⟩
  | succ k ih =>
    intro e acc la h1 h2 h3 h4 h5 h6
    by_cases h7 : e < p.length
    · have h8 := nextB_gt bs e
      have h9 := nextB_le he (by omega) e h7
      have h10 := nextB_hit he (by omega) e h7
      have h11 := nextB_free (bs := bs) e
      rw [chop_step h7]
      unfold fillL
      rw [sl_length h9]
      by_cases h12 : nextB bs e ≤ s + roomF p wn s
      · have h13 : scanR bs s (nextB bs e - s) = (e, nextB bs e) := by
          obtain ⟨d, hd⟩ : ∃ d, nextB bs e - s = (e - s + d) + 1 := ⟨nextB bs e - s - 1 - (e - s), by omega⟩
          rw [hd, scanR, if_pos (by rw [show s + (e - s + d) + 1 = nextB bs e by omega]; exact h10), scanR_still (e - s) d (fun q h1 h2 => h11 q (by omega) (by omega)), h5]
          congr 1
          omega
        obtain ⟨cur, h14, h15⟩ := ih (nextB bs e) (acc ++ [sl p e (nextB bs e)]) e (by omega) (by omega) h12 h9 h13 (.inr ⟨acc, rfl, h6.seg, h8, h9⟩)
        have h16 : ((e - s : Nat) : Int) + ((nextB bs e - e : Nat) : Int) ≤ (wn : Int) := by unfold roomF at h12; omega
        rw [if_pos h16]
        rw [show e - s + (nextB bs e - e) = nextB bs e - s by omega, h14]
        exact ⟨sl p e (nextB bs e) :: cur, rfl, by rw [List.append_assoc] at h15; exact h15⟩
      · have h13 : scanR bs s (roomF p wn s) = (la, e) := by
          have := scanR_still (bs := bs) (s := s) (e - s) (s + roomF p wn s - e) (fun q h1 h2 => h11 q (by omega) (by omega))
          rw [h5, show e - s + (s + roomF p wn s - e) = roomF p wn s by omega] at this
          exact this
        have h16 : ¬ ((e - s : Nat) : Int) + ((nextB bs e - e : Nat) : Int) ≤ (wn : Int) := by unfold roomF at h12; omega
        rw [if_neg h16, h13]
        exact ⟨[], by rw [chop_step h7], by rw [List.append_nil]; exact h6⟩
    · have hr : roomF p wn s = e - s := by unfold roomF at *; omega
      rw [hr, h5, chop_stop h7]
      exact ⟨[], rfl, by rw [List.append_nil]; exact h6⟩
/-! a long word, cut -/
theorem slice_to {x : Str} {k : Nat} (h : k ≤ x.length) : Txt.slice x none (some (k : Int)) = sl (tl x) 0 k := by
  have := PyProof.Rows.slice_closes_toL (x := x) (j := (k : Int)) (by omega) (by omega)
  rw [beq_iff_eq] at this
  rw [this]
  rfl
theorem slice_from {x : Str} {k : Nat} (h : k ≤ x.length) : Txt.slice x (some (k : Int)) none = sl (tl x) k x.length := by
  have := PyProof.Rows.slice_closes_fromL (x := x) (i := (k : Int)) (b := (x.length : Int)) (by omega) (by omega) rfl
  rw [beq_iff_eq] at this
  rw [this]
  unfold sl tl
  congr
  omega
theorem sl_sl {p : List Nat} {a b c d : Nat} (h : a + d ≤ b) : sl (tl (sl p a b)) c d = sl p (a + c) (a + d) := by
  have e1 : tl (sl p a b) = (p.drop a).take (b - a) := by simp [tl, sl]
  rw [e1]
  unfold sl
  rw [List.drop_take, List.drop_drop, List.take_take]
  congr 3
  omega
theorem long_same {p : List Nat} {wn : Nat} {bs : List Bool} {s la en : Nat} {cur : List Str} (hl : bs.length = p.length + 1) (he : bs.getD p.length false = true) (hs : s ≤ en) (h : Line p s la en cur) (hen : en ≤ p.length) :
    ∃ cur3, longW (wn : Int) cur (en - s) (chop p bs en) = (cur3, chop p (longF p wn bs s (la, en)).1 (longF p wn bs s (la, en)).2.2) ∧ Line p s (longF p wn bs s (la, en)).2.1 (longF p wn bs s (la, en)).2.2 cur3 := by
  by_cases h1 : en < p.length
  · have h2 := nextB_gt bs en
    have h3 := nextB_le he (by omega) en h1
    have h4 := nextB_free (bs := bs) en
    have hc := sl_length (l := p) (a := en) h3
    by_cases h5 : longP p wn bs s en
    · obtain ⟨_, h6, h7⟩ := h5
      have hq : Txt.slice (sl p en (nextB bs en)) none (some ((wn : Int) - ((en - s : Nat) : Int))) = sl p en (s + wn) := by
        rw [show (wn : Int) - ((en - s : Nat) : Int) = ((wn - (en - s) : Nat) : Int) by omega, slice_to (by omega), sl_sl (by omega)]
        congr 1; omega
      have hql : (sl p en (s + wn)).length = s + wn - en := sl_length (by omega)
      have hj := cutJ_pos (q := sl p en (s + wn)) (by omega)
      have hk : cutI ((wn : Int) - ((en - s : Nat) : Int)) (sl p en (nextB bs en)) = (((cutJ (sl p en (s + wn))).toNat : Nat) : Int) := by
        rw [Int.toNat_of_nonneg (by omega)]
        unfold cutI cutJ
        rw [hq]
        rw [show (wn : Int) - ((en - s : Nat) : Int) = ((sl p en (s + wn)).length : Int) by omega]
        have hr := rfind_lt (sl p en (s + wn))
        by_cases h9 : 0 < Txt.rfind (sl p en (s + wn)) (Str.ofString "-")
        · have e9 : Txt.slice (sl p en (nextB bs en)) none (some (Txt.rfind (sl p en (s + wn)) (Str.ofString "-"))) = Txt.slice (sl p en (s + wn)) none (some (Txt.rfind (sl p en (s + wn)) (Str.ofString "-"))) := by
            generalize Txt.rfind (sl p en (s + wn)) (Str.ofString "-") = r at *
            obtain ⟨rn, rfl⟩ : ∃ rn : Nat, r = (rn : Int) := ⟨r.toNat, by omega⟩
            rw [slice_to (by omega), slice_to (by omega), sl_sl (by omega), sl_sl (by omega)]
          rw [e9]
        · rw [if_neg (fun h => h9 h.1), if_neg (fun h => h9 h.1)]
      have hlong : longP p wn bs s en := ⟨h1, h6, h7⟩
      unfold longF
      rw [if_pos hlong]
      dsimp only
      generalize hkn : (cutJ (sl p en (s + wn))).toNat = k at *
      have hk1 : 1 ≤ k ∧ en + k < nextB bs en := by omega
      have hnext : nextB (bs.set (en + k) true) (en + k) = nextB bs en := by
        rw [nextB_set _ (Nat.le_refl _)]
        exact nextB_eq (nextB_hit he (by omega) en h1) _ hk1.2 (fun q h8 h9 => h4 q (by omega) h9)
      rw [chop_step (bs := bs) h1, chop_step (bs := bs.set (en + k) true) (s := en + k) (by omega), hnext, chop_set _ (by omega), long_yes (by omega) (by omega), hk, slice_to (by omega), slice_from (by omega), sl_sl (by omega), hc, sl_sl (by omega)]
      refine ⟨_, ?_, .inr ⟨cur, rfl, h.seg, by omega, by omega⟩⟩
      rw [Nat.add_zero, show en + (nextB bs en - en) = nextB bs en by omega]
    · unfold longF
      rw [if_neg h5]
      refine ⟨cur, ?_, h⟩
      rw [chop_step h1, long_no (by rw [hc]; rintro ⟨h6, h7⟩; exact h5 ⟨h1, by omega, by omega⟩)]
  · have h5 : ¬ longP p wn bs s en := fun h => h1 h.1
    unfold longF
    rw [if_neg h5]
    refine ⟨cur, ?_, h⟩
    rw [chop_stop h1]; rfl
theorem drop_same {p : List Nat} {bs : List Bool} {st : Bool} {s : Nat} (h : s < p.length) : dropB st (chop p bs s) = chop p bs (dropF p bs st s) := by
  rw [chop_step h]
  unfold dropF
  show (if (st && blankS (sl p s (nextB bs s))) = true then chop p bs (nextB bs s) else sl p s (nextB bs s) :: chop p bs (nextB bs s)) = _
  by_cases h1 : st = true ∧ blankS (sl p s (nextB bs s)) = true
  · rw [if_pos h1, if_pos (by rw [h1.1, h1.2]; rfl)]
  · rw [if_neg h1, if_neg (by intro h2; rw [Bool.and_eq_true] at h2; exact h1 h2), chop_step h]
theorem turn_same {p : List Nat} {wn : Nat} {bs : List Bool} {st : Bool} {s : Nat} (hl : bs.length = p.length + 1) (he : bs.getD p.length false = true) (hs : s < p.length) :
    ∃ cur, turnW (wn : Int) st (chop p bs s) = (trimW cur, chop p (turnF p wn bs (dropF p bs st s)).1 (turnF p wn bs (dropF p bs st s)).2.2) ∧ Line p (dropF p bs st s) (turnF p wn bs (dropF p bs st s)).2.1 (turnF p wn bs (dropF p bs st s)).2.2 cur := by
  have hd := drop_bounds (st := st) hl he hs
  unfold turnW
  rw [drop_same hs]
  generalize dropF p bs st s = s1 at *
  have hroom : s1 + roomF p wn s1 ≤ p.length := by unfold roomF; omega
  obtain ⟨cur, h1, h2⟩ := fill_scan (wn := wn) hl he (p.length - s1) s1 [] s1 (Nat.le_refl _) (Nat.le_refl _) (by omega) hd.2.1 (by rw [Nat.sub_self]; rfl) (.inl ⟨rfl, rfl, rfl⟩)
  rw [Nat.sub_self] at h1
  rw [List.nil_append] at h2
  have hb := scanR_bounds bs s1 (roomF p wn s1)
  rw [h1]
  dsimp only
  obtain ⟨cur3, h3, h4⟩ := long_same (wn := wn) hl he (by omega) h2 (by omega)
  rw [h3]
  exact ⟨cur3, rfl, h4⟩
theorem wrap_fold {p : List Nat} {wn : Nat} (hw : 0 < wn) : ∀ (n : Nat) (s : Nat) (bs : List Bool) (st : Bool) (f f2 : Nat), p.length - s ≤ n → bs.length = p.length + 1 → bs.getD p.length false = true → s ≤ p.length → weight (chop p bs s) ≤ f → p.length - s ≤ f2 →
    wrapF f (wn : Int) st (chop p bs s) = foldF f2 p wn bs st s := by
  intro n
  induction n with
  | zero => intro s bs st f f2 h1 h2 h3 h4 h5 h6; rw [chop_stop (by omega), wrapF_nil, foldF_stop (by omega)]
  | succ n ih =>
    intro s bs st f f2 h1 h2 h3 h4 h5 h6
    rcases Nat.lt_or_ge s p.length with h7 | h7
    · obtain ⟨cur, t1, t2⟩ := turn_same (wn := wn) (st := st) h2 h3 h7
      have hd := drop_bounds (st := st) h2 h3 h7
      have tb := turn_bounds hw h2 h3 hd.2.1
      have t3 := line_one t2
      have t4 : weight (chop p (turnF p wn bs (dropF p bs st s)).1 (turnF p wn bs (dropF p bs st s)).2.2) < weight (chop p bs s) := by
        have := turn_weight (wd := (wn : Int)) (st := st) (c := sl p s (nextB bs s)) (r := chop p bs (nextB bs s)) (by omega)
        rw [← chop_step h7, t1] at this
        exact this
      obtain ⟨f', rfl⟩ : ∃ f', f = f' + 1 := ⟨f - 1, by omega⟩
      obtain ⟨f3, rfl⟩ : ∃ f3, f2 = f3 + 1 := ⟨f2 - 1, by omega⟩
      have hfl : (trimW cur).isEmpty = (lineW (trimW cur)).isEmpty := by unfold lineW; cases trimW cur <;> rfl
      rw [foldF, if_pos h7, ← t3.1, ← hfl]
      have hstep := chop_step (bs := bs) h7
      have : wrapF (f' + 1) (wn : Int) st (chop p bs s) = lineW (turnW (wn : Int) st (chop p bs s)).1 ++ wrapF f' (wn : Int) (st || !(turnW (wn : Int) st (chop p bs s)).1.isEmpty) (turnW (wn : Int) st (chop p bs s)).2 := by
        rw [hstep]; rfl
      rw [this, t1]
      dsimp only
      rw [ih _ _ _ _ f3 (by omega) tb.2.2.2.2.1 tb.2.2.2.2.2 tb.2.2.1 (by omega) (by omega)]
    · rw [chop_stop (by omega), wrapF_nil, foldF_stop (by omega)]
end Mine
namespace Mine
/-! _split's pieces lie between _law_cuts' cuts -/
theorem one_list (c : Nat) : (one c).cps.toList = [c] := rfl
theorem cl_ck (c : Nat) : cl c = ck c := by
  unfold cl ck isLs isLs2
  congr 1
  rw [one_list, show (Str.ofString "0").cps.toList = [48] from by decide +kernel, show (Str.ofString "9").cps.toList = [57] from by decide +kernel, show (Str.ofString "０").cps.toList = [65296] from by decide +kernel, show (Str.ofString "９").cps.toList = [65305] from by decide +kernel]
  have h1 : ∀ a b : Nat, decide ([a] < [b]) = decide (a < b) := fun a b => by
    refine decide_eq_decide.mpr ?_
    simp [List.cons_lt_cons_iff]
  rw [h1, h1, h1, h1]
  have h2 : Txt.contains (Str.ofString "0123456789０１２３４５６７８９") (one c) = decide (c ∈ [48, 49, 50, 51, 52, 53, 54, 55, 56, 57, 65296, 65297, 65298, 65299, 65300, 65301, 65302, 65303, 65304, 65305]) := by
    unfold Txt.contains one
    rw [StrLaws.found_one, show (Str.ofString "0123456789０１２３４５６７８９").cps = #[48, 49, 50, 51, 52, 53, 54, 55, 56, 57, 65296, 65297, 65298, 65299, 65300, 65301, 65302, 65303, 65304, 65305] from by decide +kernel]
  rw [h2]
  have h3 : (c ∈ [48, 49, 50, 51, 52, 53, 54, 55, 56, 57, 65296, 65297, 65298, 65299, 65300, 65301, 65302, 65303, 65304, 65305]) ↔ (48 ≤ c ∧ c ≤ 57) ∨ (65296 ≤ c ∧ c ≤ 65305) := by
    simp only [List.mem_cons, List.not_mem_nil, or_false]
    omega
  by_cases h4 : (48 ≤ c ∧ c ≤ 57) ∨ (65296 ≤ c ∧ c ≤ 65305)
  · rw [decide_eq_true (h3.mpr h4)]
    rcases h4 with h4 | h4
    · rw [decide_eq_false (show ¬ c < 48 by omega), decide_eq_false (show ¬ 57 < c by omega)]; rfl
    · rw [decide_eq_false (show ¬ c < 65296 by omega), decide_eq_false (show ¬ 65305 < c by omega)]; simp
  · rw [decide_eq_false (fun h5 => h4 (h3.mp h5))]
    have h5 : (c < 48 ∨ 57 < c) ∧ (c < 65296 ∨ 65305 < c) := by omega
    rcases h5 with ⟨h5 | h5, h6 | h6⟩ <;> simp [h5, h6]
theorem cw45 : cw 45 = false := by decide +kernel
theorem cp45 : cp 45 = false := by decide +kernel
theorem ck45 : ck 45 = false := by decide +kernel
theorem ck32 : ck 32 = false := by decide +kernel
theorem g_pad {p : List Nat} {k : Nat} (h : k < p.length) : g (padL p) (k + 3) = g p k := by
  unfold g padL
  rw [List.getD_eq_getElem?_getD, List.getD_eq_getElem?_getD, List.append_assoc, List.getElem?_append_right (by simp), List.getElem?_append_left (by simpa using h)]
  simp
theorem padL_length (p : List Nat) : (padL p).length = p.length + 6 := by simp [padL]
theorem dEnd_pad {p : List Nat} (i : Nat) : i ≤ p.length → dEnd (padL p) (i + 3) = dEnd p i + 3 := by
  fun_induction dEnd p i with
  | case1 i h ih => intro _; rw [dEnd_step (by rw [padL_length]; omega) (by rw [g_pad h.1]; exact h.2)]; exact ih (by omega)
  | case2 i h =>
    intro h1
    rw [dEnd_stop]
    rcases Nat.lt_or_ge i p.length with h2 | h2
    · rw [g_pad h2]; exact fun h3 => h ⟨h2, h3⟩
    · rw [show i = p.length by omega, pad_end]; decide
theorem dEnd_in {l : List Nat} (i : Nat) : ∀ t, i ≤ t → t < dEnd l i → g l t = 45 := by
  fun_induction dEnd l i with
  | case1 i h ih =>
    intro t h1 h2
    rcases Nat.lt_or_ge i t with h3 | h3
    · exact ih t h3 h2
    · rw [show t = i by omega]; exact h.2
  | case2 i h => intro t h1 h2; omega
theorem dEnd_at {l : List Nat} (i : Nat) : i ≤ l.length → dEnd l i ≤ l.length ∧ (dEnd l i < l.length → g l (dEnd l i) ≠ 45) := by
  fun_induction dEnd l i with
  | case1 i h ih => intro _; exact ih h.1
  | case2 i h => intro h1; exact ⟨h1, fun h2 h3 => h ⟨h2, h3⟩⟩
theorem bEnd_in {l : List Nat} {e : Nat} (i : Nat) : ∀ t, i ≤ t → t < bEnd l e i → g l t = 32 := by
  fun_induction bEnd l e i with
  | case1 i h ih =>
    intro t h1 h2
    rcases Nat.lt_or_ge i t with h3 | h3
    · exact ih t h3 h2
    · rw [show t = i by omega]; exact h.2
  | case2 i h => intro t h1 h2; omega
theorem bEnd_at {l : List Nat} {e : Nat} (i : Nat) : bEnd l e i < e → g l (bEnd l e i) ≠ 32 := by
  fun_induction bEnd l e i with
  | case1 i h ih => exact ih
  | case2 i h => exact fun h1 h2 => h ⟨h1, h2⟩
theorem wEnd_in {l : List Nat} (i : Nat) : ∀ t, i ≤ t → t < wEnd l i → stopB l t = false := by
  fun_induction wEnd l i with
  | case1 i h ih =>
    intro t h1 h2
    rcases Nat.lt_or_ge i t with h3 | h3
    · exact ih t h3 h2
    · rw [show t = i by omega]; exact h.2
  | case2 i h => intro t h1 h2; omega
theorem wEnd_at {l : List Nat} (i : Nat) : wEnd l i < l.length → stopB l (wEnd l i) = true := by
  fun_induction wEnd l i with
  | case1 i h ih => exact ih
  | case2 i h => intro h1; by_cases h2 : stopB l i = true; exact h2; exact absurd ⟨h1, by simpa using h2⟩ h
def hyX (l : List Nat) (i : Nat) : Bool := decide (g l i = 45) && hyphenB l i
theorem run_dash {p : List Nat} {i : Nat} (h : i ≤ p.length) : runB p i (dEnd p i) = dashesB (padL p) (i + 3) := by
  unfold runB dashesB
  rw [dEnd_pad i h, show i + 3 - 1 = i + 2 by omega, show dEnd p i + 3 - (i + 3) = dEnd p i - i by omega]
theorem dash_of {l : List Nat} {i : Nat} (h : dashesB l i = true) : 1 < dEnd l i - i ∧ g l (i - 1) ≠ 45 ∧ g l i = 45 ∧ g l (i + 1) = 45 := by
  unfold dashesB at h
  simp only [Bool.and_eq_true, decide_eq_true_eq] at h
  obtain ⟨⟨h1, h2⟩, h3⟩ := h
  refine ⟨h1, ?_, dEnd_in i i (Nat.le_refl _) (by omega), dEnd_in i (i + 1) (by omega) (by omega)⟩
  intro h4
  rw [h4, cw45, cp45] at h2
  exact absurd h2 (by decide)
theorem hyX_of {l : List Nat} {i : Nat} (h : hyX l i = true) : g l i = 45 ∧ ck (g l (i - 1)) = true ∧ ck (g l (i + 1)) = true := by
  unfold hyX hyphenB at h
  rw [Bool.and_eq_true, decide_eq_true_eq] at h
  obtain ⟨h1, h2⟩ := h
  refine ⟨h1, ?_⟩
  rw [cl_ck, cl_ck] at h2
  cases h3 : ck (g l (i - 1)) <;> cases h4 : ck (g l (i + 1)) <;> simp_all
theorem ck_ne {c : Nat} (h : ck c = true) : c ≠ 45 ∧ c ≠ 32 := ⟨by rintro rfl; rw [ck45] at h; exact absurd h (by decide), by rintro rfl; rw [ck32] at h; exact absurd h (by decide)⟩
theorem hy_hyX {p : List Nat} {i : Nat} (h : i < p.length) : hyB p i (dEnd p i) = hyX (padL p) (i + 3) := by
  have e : ∀ j, g (padL p) (i + 2 + j) = g (padL p) (i + 3 - 1 + j) := fun j => by congr 1
  by_cases h1 : g p i = 45 ∧ g (padL p) (i + 4) ≠ 45
  · have h2 : dEnd p i = i + 1 := by
      have h3 := dEnd_pad (p := p) i (by omega)
      rw [dEnd_step (by rw [padL_length]; omega) (by rw [g_pad h]; exact h1.1), dEnd_stop h1.2] at h3
      omega
    unfold hyB hyX hyphenB
    rw [h2, g_pad h, h1.1]
    simp only [cl_ck, show i + 1 + 3 = i + 4 by omega, show i + 3 + 1 = i + 4 by omega, show i + 3 - 1 = i + 2 by omega, show i + 3 - 2 = i + 1 by omega, show i + 3 - 3 = i by omega, show i + 3 + 2 = i + 5 by omega, show i + 3 + 3 = i + 6 by omega, show i + 1 - i = 1 by omega]
    by_cases h5 : g (padL p) (i + 5) = 45
    · rw [h5, if_pos rfl]
      cases ck (g (padL p) (i + 2)) <;> cases ck (g (padL p) (i + 4)) <;> cases ck (g (padL p) (i + 1)) <;> cases ck (g (padL p) i) <;> cases ck (g (padL p) (i + 6)) <;> by_cases h6 : g (padL p) (i + 1) = 45 <;> simp [h6, ck45]
    · rw [if_neg h5]
      cases ck (g (padL p) (i + 2)) <;> cases ck (g (padL p) (i + 4)) <;> cases ck (g (padL p) (i + 1)) <;> cases ck (g (padL p) i) <;> cases ck (g (padL p) (i + 5)) <;> by_cases h6 : g (padL p) (i + 1) = 45 <;> simp [h6, h5]
  · have h2 : hyX (padL p) (i + 3) = false := by
      by_cases h3 : hyX (padL p) (i + 3) = true
      · have h4 := hyX_of h3
        exact absurd ⟨by rw [← g_pad h]; exact h4.1, (ck_ne h4.2.2).1⟩ h1
      · simpa using h3
    rw [h2]
    unfold hyB
    by_cases h3 : dEnd p i - i = 1
    · exfalso
      have h4 := dEnd_in (l := p) i i (Nat.le_refl _) (by omega)
      have h5 := dEnd_pad (p := p) i (by omega)
      have h6 := dEnd_at (l := padL p) (i + 3) (by rw [padL_length]; omega)
      rw [h5, show dEnd p i + 3 = i + 4 by omega, padL_length] at h6
      exact h1 ⟨h4, h6.2 (by omega)⟩
    · simp [h3]
/-! what is cut -/
/-- the run of dashes at i cuts at k -/
def marks (p : List Nat) (i k : Nat) : Prop := (dashesB (padL p) (i + 3) = true ∧ (k = i ∨ k = dEnd p i)) ∨ (hyX (padL p) (i + 3) = true ∧ k = i + 1)
theorem set_true {bs : List Bool} {j k : Nat} (hk : k < bs.length) : (bs.set j true).getD k false = true ↔ bs.getD k false = true ∨ k = j := by
  rw [List.getD_eq_getElem?_getD, List.getD_eq_getElem?_getD, List.getElem?_set]
  by_cases h : j = k
  · subst h; simp [hk]
  · have h3 : ¬ k = j := fun h2 => h h2.symm
    simp [h, h3]
theorem hyX_end {p : List Nat} {i : Nat} (h : i < p.length) (h1 : hyX (padL p) (i + 3) = true) : dEnd p i = i + 1 := by
  have h2 := hyX_of h1
  have h3 := dEnd_pad (p := p) i (by omega)
  rw [dEnd_step (by rw [padL_length]; omega) h2.1, dEnd_stop (ck_ne h2.2.2).1] at h3
  omega
theorem cutTurn_iff {p : List Nat} {bs : List Bool} {i k : Nat} (h : i < p.length) (hk : k < bs.length) : (cutTurn p bs i (dEnd p i)).getD k false = true ↔ bs.getD k false = true ∨ marks p i k := by
  unfold cutTurn marks
  rw [hy_hyX h, run_dash (by omega)]
  by_cases h1 : hyX (padL p) (i + 3) = true
  · have h2 : dashesB (padL p) (i + 3) = false := by
      by_cases h3 : dashesB (padL p) (i + 3) = true
      · exact absurd (dash_of h3).2.2.2 (ck_ne (hyX_of h1).2.2).1
      · simpa using h3
    rw [if_pos h1, set_true hk, h1, h2, hyX_end h h1]
    simp
  · rw [if_neg h1]
    by_cases h3 : dashesB (padL p) (i + 3) = true
    · have h4 : hyX (padL p) (i + 3) = false := by simpa using h1
      rw [if_pos h3, set_true (by rw [List.length_set]; exact hk), set_true hk, h3, h4]
      simp only [true_and, Bool.false_eq_true, false_and, or_false]
      constructor
      · rintro ((h | h) | h)
        · exact .inl h
        · exact .inr (.inl h)
        · exact .inr (.inr h)
      · rintro (h | h | h)
        · exact .inl (.inl h)
        · exact .inl (.inr h)
        · exact .inr h
    · rw [if_neg h3]
      simp [h1, h3]
theorem cutsFrom_iff {p : List Nat} {k : Nat} (bs : List Bool) (i : Nat) : k < bs.length → ((cutsFrom p bs i).getD k false = true ↔ bs.getD k false = true ∨ ∃ i', i ≤ i' ∧ i' < p.length ∧ marks p i' k) := by
  fun_induction cutsFrom p bs i with
  | case1 bs i h ih =>
    intro hk
    rw [ih (by rw [cutTurn_length]; exact hk), cutTurn_iff h hk]
    constructor
    · rintro ((h1 | h1) | ⟨i', h1, h2, h3⟩)
      · exact .inl h1
      · exact .inr ⟨i, Nat.le_refl _, h, h1⟩
      · exact .inr ⟨i', by omega, h2, h3⟩
    · rintro (h1 | ⟨i', h1, h2, h3⟩)
      · exact .inl (.inl h1)
      · rcases Nat.lt_or_ge i i' with h4 | h4
        · rcases Nat.lt_or_ge i' (dEnd p i) with h5 | h5
          · exfalso
            have h6 := dEnd_in (l := p) i (i' - 1) (by omega) (by omega)
            have h7 : g (padL p) (i' + 3 - 1) = 45 := by rw [show i' + 3 - 1 = (i' - 1) + 3 by omega, g_pad (by omega)]; exact h6
            rcases h3 with ⟨h3, _⟩ | ⟨h3, _⟩
            · exact (dash_of h3).2.1 h7
            · exact (ck_ne (hyX_of h3).2.1).1 h7
          · exact .inr ⟨i', by omega, h2, h3⟩
        · rw [show i' = i by omega] at h3
          exact .inl (.inr h3)
  | case2 bs i h =>
    intro hk
    constructor
    · exact .inl
    · rintro (h1 | ⟨i', h1, h2, _⟩)
      · exact h1
      · omega
theorem cut0_iff {p : List Nat} {k : Nat} (h : k ≤ p.length) : (cuts0 p).getD k false = true ↔ k = p.length ∨ (0 < k ∧ ¬ (g p k = 32 ↔ g p (k - 1) = 32)) := by
  have : (cuts0 p).getD k false = cut0 p k := by
    unfold cuts0
    rw [List.getD_eq_getElem?_getD, List.getElem?_map, List.getElem?_range (by omega)]; rfl
  rw [this]
  unfold cut0
  by_cases h1 : g p k = 32 <;> by_cases h2 : g p (k - 1) = 32 <;> simp [h1, h2]
theorem cutsL_iff {p : List Nat} {k : Nat} (h : k ≤ p.length) : (cutsL p).getD k false = true ↔ (k = p.length ∨ (0 < k ∧ ¬ (g p k = 32 ↔ g p (k - 1) = 32))) ∨ ∃ i, i < p.length ∧ marks p i k := by
  unfold cutsL
  rw [cutsFrom_iff _ _ (by rw [cuts0_length]; omega), cut0_iff h]
  simp
/-- no cut -/
theorem uncut {p : List Nat} {k : Nat} (h0 : 0 < k) (h : k < p.length) (hb : g p k = 32 ↔ g p (k - 1) = 32) (h1 : dashesB (padL p) (k + 3) = false) (h2 : hyX (padL p) (k + 2) = false) (h3 : ∀ i, i < k → dashesB (padL p) (i + 3) = true → dEnd p i ≠ k) : (cutsL p).getD k false = false := by
  by_cases h4 : (cutsL p).getD k false = true
  · exfalso
    rw [cutsL_iff (by omega)] at h4
    rcases h4 with (h4 | ⟨_, h4⟩) | ⟨i, h5, ⟨h6, h7 | h7⟩ | ⟨h6, h7⟩⟩
    · omega
    · exact h4 hb
    · subst h7; rw [h1] at h6; exact absurd h6 (by decide)
    · refine h3 i ?_ h6 h7.symm
      have := (dash_of h6).1
      have h8 := dEnd_pad (p := p) i (by omega)
      omega
    · subst h7
      rw [show i + 1 + 2 = i + 3 by omega, h6] at h2
      exact absurd h2 (by decide)
  · simpa using h4
theorem dEnd_dash {p : List Nat} {i : Nat} (h : dashesB (padL p) (i + 3) = true) (h1 : i ≤ p.length) : i + 1 < dEnd p i ∧ g p (dEnd p i - 1) = 45 ∧ dEnd p i ≤ p.length ∧ (dEnd p i < p.length → g p (dEnd p i) ≠ 45) := by
  have h2 := (dash_of h).1
  have h3 := dEnd_pad (p := p) i h1
  have h4 := dEnd_at (l := p) i h1
  exact ⟨by omega, dEnd_in i _ (by omega) (by omega), h4.1, h4.2⟩
/-- no piece starts amid a run of dashes -/
theorem start_dash {p : List Nat} {s : Nat} (hs : s < p.length) (h0 : s = 0 ∨ (cutsL p).getD s false = true) (h1 : g p s = 45) : s = 0 ∨ g p (s - 1) ≠ 45 := by
  rcases Nat.eq_zero_or_pos s with h9 | h9
  · exact .inl h9
  rcases h0 with h0 | h0
  · exact .inl h0
  · right
    rw [cutsL_iff (by omega)] at h0
    intro h2
    rcases h0 with (h4 | ⟨h5, h4⟩) | ⟨i, h5, ⟨h6, h7 | h7⟩ | ⟨h6, h7⟩⟩
    · omega
    · exact h4 (by rw [h1, h2])
    · subst h7
      have h8 := (dash_of h6).2.1
      rw [show s + 3 - 1 = (s - 1) + 3 by omega, g_pad (by omega)] at h8
      exact h8 h2
    · have h8 := dEnd_dash h6 (by omega)
      rw [← h7] at h8
      exact h8.2.2.2 hs h1
    · have h8 := hyX_of h6
      rw [show i + 3 + 1 = s + 3 by omega, g_pad hs] at h8
      exact (ck_ne h8.2.2).1 h1
theorem stop_cases {l : List Nat} {j : Nat} (h : stopB l j = true) : g l j = 32 ∨ (g l j = 45 ∧ dashesB l j = true) ∨ hyX l j = true := by
  unfold stopB at h
  unfold hyX
  by_cases h1 : g l j = 32
  · exact .inl h1
  · by_cases h2 : g l j = 45
    · rw [decide_eq_false h1, decide_eq_true h2, Bool.false_or, Bool.true_and, Bool.or_eq_true] at h
      rcases h with h | h
      · exact .inr (.inl ⟨h2, h⟩)
      · exact .inr (.inr (by rw [decide_eq_true h2, h]; rfl))
    · rw [decide_eq_false h1, decide_eq_false h2] at h; simp at h
theorem go_cases {l : List Nat} {j : Nat} (h : stopB l j = false) : g l j ≠ 32 ∧ dashesB l j = false ∧ hyX l j = false := by
  refine ⟨fun h1 => ?_, ?_, ?_⟩
  · rw [stop_blank h1] at h; exact absurd h (by decide)
  · by_cases h1 : dashesB l j = true
    · rw [stop_dash (dash_of h1).2.2.1 h1] at h; exact absurd h (by decide)
    · simpa using h1
  · by_cases h1 : hyX l j = true
    · have h2 : hyphenB l j = true := by unfold hyX at h1; rw [Bool.and_eq_true] at h1; exact h1.2
      rw [stop_hyph (hyX_of h1).1 h2] at h; exact absurd h (by decide)
    · simpa using h1
section
variable {p : List Nat} {s : Nat} (hs : s < p.length) (h0 : s = 0 ∨ (cutsL p).getD s false = true)
include hs h0
theorem next_blank (hb : g (padL p) (s + 3) = 32) : nextB (cutsL p) s + 3 = bEnd (padL p) (p.length + 3) (s + 4) := by
  have h1 := bEnd_ge (padL p) (p.length + 3) (s + 4)
  have h2 := bEnd_le (padL p) (p.length + 3) (s + 4) (by omega)
  have h3 := bEnd_in (l := padL p) (e := p.length + 3) (s + 4)
  have h4 := bEnd_at (l := padL p) (e := p.length + 3) (s + 4)
  generalize bEnd (padL p) (p.length + 3) (s + 4) = b at *
  have h5 : ∀ k, s ≤ k → k + 3 < b → g p k = 32 := by
    intro k h6 h7
    rw [← g_pad (by omega)]
    rcases Nat.lt_or_ge s k with h8 | h8
    · exact h3 _ (by omega) h7
    · rw [show k = s by omega]; exact hb
  have h6 : nextB (cutsL p) s = b - 3 := by
    refine nextB_eq ?_ s (by omega) fun k h7 h8 => ?_
    · rw [cutsL_iff (by omega)]
      left
      rcases Nat.lt_or_ge b (p.length + 3) with h9 | h9
      · right
        refine ⟨by omega, ?_⟩
        have h10 := h4 h9
        rw [show b = (b - 3) + 3 by omega, g_pad (by omega)] at h10
        rw [h5 (b - 3 - 1) (by omega) (by omega)]
        simp [h10]
      · left; omega
    · have h9 := h5 k (by omega) (by omega)
      have h10 := h5 (k - 1) (by omega) (by omega)
      refine uncut (by omega) (by omega) (by rw [h9, h10]) ?_ ?_ ?_
      · by_cases h11 : dashesB (padL p) (k + 3) = true
        · have := (dash_of h11).2.2.1; rw [g_pad (by omega), h9] at this; exact absurd this (by decide)
        · simpa using h11
      · by_cases h11 : hyX (padL p) (k + 2) = true
        · have := (hyX_of h11).1; rw [show k + 2 = (k - 1) + 3 by omega, g_pad (by omega), h10] at this; exact absurd this (by decide)
        · simpa using h11
      · intro i h11 h12 h13
        have := (dEnd_dash h12 (by omega)).2.1
        rw [h13, h10] at this
        exact absurd this (by decide)
  omega
theorem next_dash (hd : dashesB (padL p) (s + 3) = true) : nextB (cutsL p) s + 3 = dEnd (padL p) (s + 4) := by
  have h1 := dEnd_dash hd (by omega)
  have h2 := dEnd_pad (p := p) s (by omega)
  rw [dEnd_step (by rw [padL_length]; omega) (dash_of hd).2.2.1] at h2
  rw [h2]
  congr 1
  refine nextB_eq ?_ s (by omega) fun k h7 h8 => ?_
  · rw [cutsL_iff h1.2.2.1]
    exact .inr ⟨s, hs, .inl ⟨hd, .inr rfl⟩⟩
  · have h9 := dEnd_in (l := p) s k (by omega) h8
    have h10 := dEnd_in (l := p) s (k - 1) (by omega) (by omega)
    refine uncut (by omega) (by omega) (by rw [h9, h10]) ?_ ?_ ?_
    · by_cases h11 : dashesB (padL p) (k + 3) = true
      · have := (dash_of h11).2.1; rw [show k + 3 - 1 = (k - 1) + 3 by omega, g_pad (by omega)] at this; exact absurd h10 this
      · simpa using h11
    · by_cases h11 : hyX (padL p) (k + 2) = true
      · have := (hyX_of h11).2.2; rw [show k + 2 + 1 = k + 3 by omega, g_pad (by omega)] at this; exact absurd h9 (ck_ne this).1
      · simpa using h11
    · intro i h11 h12 h13
      have := (dEnd_dash h12 (by omega)).2.2.2
      rw [h13] at this
      exact this (by omega) h9
theorem next_word (hb : ¬ g (padL p) (s + 3) = 32) (hd : dashesB (padL p) (s + 3) = false) :
    nextB (cutsL p) s + 3 = if g (padL p) (wEnd (padL p) (s + 4)) = 45 ∧ g (padL p) (wEnd (padL p) (s + 4) + 1) ≠ 45 then wEnd (padL p) (s + 4) + 1 else wEnd (padL p) (s + 4) := by
  have h1 := wEnd_ge (padL p) (s + 4)
  have h2 := wEnd_le (stop_blank (pad_end p)) (s + 4) (by omega)
  have h3 := wEnd_in (l := padL p) (s + 4)
  have h4 := wEnd_at (l := padL p) (s + 4) (by rw [padL_length]; omega)
  generalize wEnd (padL p) (s + 4) = w at *
  -- no cut ahead of w
  have hu : ∀ k, s < k → k + 3 ≤ w → (k + 3 < w ∨ (hyX (padL p) w = true ∧ dashesB (padL p) w = false)) → (cutsL p).getD k false = false := by
    intro k h5 h6 h7
    have hkN : k < p.length := by
      rcases Nat.lt_or_ge k p.length with h8 | h8
      · exact h8
      · exfalso
        rcases h7 with h7 | ⟨h7, _⟩
        · omega
        · have h9 := (hyX_of h7).1
          rw [show w = p.length + 3 by omega, pad_end] at h9
          exact absurd h9 (by decide)
    have hk : g p k ≠ 32 := by
      rw [← g_pad hkN]
      rcases h7 with h7 | ⟨h7, _⟩
      · exact (go_cases (h3 _ (by omega) h7)).1
      · rcases Nat.lt_or_ge (k + 3) w with h8 | h8
        · exact (go_cases (h3 _ (by omega) h8)).1
        · rw [show k + 3 = w by omega, (hyX_of h7).1]; decide
    have hk1 : g p (k - 1) ≠ 32 := by
      rw [← g_pad (by omega), show k - 1 + 3 = k + 2 by omega]
      rcases Nat.lt_or_ge (s + 3) (k + 2) with h8 | h8
      · exact (go_cases (h3 _ (by omega) (by omega))).1
      · rw [show k + 2 = s + 3 by omega]; exact hb
    refine uncut (by omega) hkN (by simp [hk, hk1]) ?_ ?_ ?_
    · rcases Nat.lt_or_ge (k + 3) w with h8 | h8
      · exact (go_cases (h3 _ (by omega) h8)).2.1
      · rcases h7 with h7 | ⟨_, h7⟩
        · omega
        · rw [show k + 3 = w by omega]; exact h7
    · rcases Nat.lt_or_ge (s + 3) (k + 2) with h8 | h8
      · exact (go_cases (h3 _ (by omega) (by omega))).2.2
      · rw [show k + 2 = s + 3 by omega]
        by_cases h9 : hyX (padL p) (s + 3) = true
        · exfalso
          have h10 := hyX_of h9
          rw [g_pad hs] at h10
          rcases Nat.eq_zero_or_pos s with h11 | h11
          · subst h11
            exact (ck_ne h10.2.1).2 rfl
          · have h12 := h10.2.1
            rw [show s + 3 - 1 = (s - 1) + 3 by omega, g_pad (by omega)] at h12
            have h13 := ck_ne h12
            rcases h0 with h0 | h0
            · omega
            · rw [cutsL_iff (by omega)] at h0
              rcases h0 with (h14 | ⟨_, h14⟩) | ⟨i, h15, ⟨h16, h17 | h17⟩ | ⟨h16, h17⟩⟩
              · omega
              · exact h14 (by simp [h10.1, h13.2])
              · subst h17; rw [hd] at h16; exact absurd h16 (by decide)
              · have h18 := (dEnd_dash h16 (by omega)).2.1
                rw [← h17] at h18
                exact h13.1 h18
              · have h18 := (hyX_of h16).1
                rw [show i + 3 = (s - 1) + 3 by omega, g_pad (by omega)] at h18
                exact h13.1 h18
        · simpa using h9
    · intro i h8 h9 h10
      have h11 := dEnd_dash h9 (by omega)
      rcases Nat.lt_trichotomy i s with h12 | h12 | h12
      · have h13 := dEnd_in (l := p) i s (by omega) (by omega)
        have h14 := dEnd_in (l := p) i (s - 1) (by omega) (by omega)
        rcases start_dash hs h0 h13 with h15 | h15
        · omega
        · exact h15 h14
      · subst h12; rw [hd] at h9; exact absurd h9 (by decide)
      · rcases Nat.lt_or_ge (i + 3) w with h13 | h13
        · have h14 := (go_cases (h3 _ (by omega) h13)).2.1
          rw [h9] at h14; exact absurd h14 (by decide)
        · omega
  split
  · rename_i h5
    have h6 : hyX (padL p) w = true := by
      rcases stop_cases h4 with h7 | ⟨_, h7⟩ | h7
      · rw [h7] at h5; exact absurd h5.1 (by decide)
      · exact absurd (dash_of h7).2.2.2 h5.2
      · exact h7
    have h7 : dashesB (padL p) w = false := by
      by_cases h8 : dashesB (padL p) w = true
      · exact absurd (dash_of h8).2.2.2 h5.2
      · simpa using h8
    have hw : w < p.length + 3 := by
      rcases Nat.lt_or_ge w (p.length + 3) with h8 | h8
      · exact h8
      · rw [show w = p.length + 3 by omega, pad_end] at h5; exact absurd h5.1 (by decide)
    have h8 : nextB (cutsL p) s = w - 2 := by
      refine nextB_eq ?_ s (by omega) fun k h9 h10 => hu k h9 (by omega) (.inr ⟨h6, h7⟩)
      rw [cutsL_iff (by omega)]
      exact .inr ⟨w - 3, by omega, .inr ⟨by rw [show w - 3 + 3 = w by omega]; exact h6, by omega⟩⟩
    omega
  · rename_i h5
    have h8 : nextB (cutsL p) s = w - 3 := by
      refine nextB_eq ?_ s (by omega) fun k h9 h10 => hu k h9 (by omega) (.inl (by omega))
      rw [cutsL_iff (by omega)]
      rcases stop_cases h4 with h7 | ⟨_, h7⟩ | h7
      · left
        rcases Nat.lt_or_ge w (p.length + 3) with h8 | h8
        · right
          refine ⟨by omega, ?_⟩
          rw [show w = (w - 3) + 3 by omega, g_pad (by omega)] at h7
          have h9 : g p (w - 3 - 1) ≠ 32 := by
            rw [← g_pad (by omega), show w - 3 - 1 + 3 = w - 1 by omega]
            rcases Nat.lt_or_ge (s + 3) (w - 1) with h10 | h10
            · exact (go_cases (h3 _ (by omega) (by omega))).1
            · rw [show w - 1 = s + 3 by omega]; exact hb
          simp [h7, h9]
        · left; omega
      · have hw : w < p.length + 3 := by
          rcases Nat.lt_or_ge w (p.length + 3) with h8 | h8
          · exact h8
          · have h9 := (dash_of h7).2.2.1
            rw [show w = p.length + 3 by omega, pad_end] at h9; exact absurd h9 (by decide)
        exact .inr ⟨w - 3, by omega, .inl ⟨by rw [show w - 3 + 3 = w by omega]; exact h7, .inl rfl⟩⟩
      · exfalso
        have h9 := hyX_of h7
        exact h5 ⟨h9.1, (ck_ne h9.2.2).1⟩
    omega
theorem next_cEnd : nextB (cutsL p) s + 3 = cEnd (padL p) (p.length + 3) (s + 3) := by
  unfold cEnd
  by_cases hb : g (padL p) (s + 3) = 32
  · rw [if_pos hb]; exact next_blank hs h0 hb
  · rw [if_neg hb]
    by_cases hd : dashesB (padL p) (s + 3) = true
    · rw [if_pos hd]; exact next_dash hs h0 hd
    · rw [if_neg hd]; exact next_word hs h0 hb (by simpa using hd)
end
theorem sl_pad {p : List Nat} {a b : Nat} (h : b ≤ p.length) : sl (padL p) (a + 3) (b + 3) = sl p a b := by
  unfold sl padL
  rw [show b + 3 - (a + 3) = b - a by omega, List.append_assoc]
  congr 2
  have h1 : ([32, 32, 32] ++ (p ++ [32, 32, 32])).drop (a + 3) = (p ++ [32, 32, 32]).drop a := by
    rw [show a + 3 = 3 + a by omega, ← List.drop_drop]; rfl
  rw [h1]
  rcases Nat.lt_or_ge a b with h2 | h2
  · rw [List.drop_append_of_le_length (by omega), List.take_append_of_le_length (by rw [List.length_drop]; omega)]
  · rw [show b - a = 0 by omega]; rfl
theorem split_chop {p : List Nat} : ∀ (n s : Nat), p.length - s ≤ n → s ≤ p.length → (s = 0 ∨ (cutsL p).getD s false = true) → splitFrom (padL p) (p.length + 3) (s + 3) = chop p (cutsL p) s := by
  intro n
  induction n with
  | zero => intro s h1 h2 h3; rw [splitFrom_stop (by omega), chop_stop (by omega)]
  | succ n ih =>
    intro s h1 h2 h3
    rcases Nat.lt_or_ge s p.length with h4 | h4
    · have h5 := next_cEnd h4 h3
      have h6 := nextB_le (cutsL_end p) (by rw [cutsL_length]; omega) s h4
      have h7 := nextB_gt (cutsL p) s
      have h8 := nextB_hit (cutsL_end p) (by rw [cutsL_length]; omega) s h4
      rw [splitFrom_step (by omega), chop_step h4, ← h5, sl_pad h6, ih _ (by omega) h6 (.inr h8)]
    · rw [splitFrom_stop (by omega), chop_stop (by omega)]
/-- the law, without the program -/
theorem wrapL_foldL (l : List Nat) {wn : Nat} (hw : 0 < wn) : wrapL l (wn : Int) = foldL (plainFrom 0 l) wn := by
  unfold wrapL foldL
  have h1 : splitL (plainFrom 0 l) = chop (plainFrom 0 l) (cutsL (plainFrom 0 l)) 0 := split_chop _ 0 (Nat.le_refl _) (Nat.zero_le _) (.inl rfl)
  rw [h1]
  exact wrap_fold hw _ 0 _ _ _ _ (Nat.le_refl _) (cutsL_length _) (cutsL_end _) (Nat.zero_le _) (Nat.le_refl _) (by omega)
end Mine
namespace Mine
/-! told and due hold the same -/
theorem okT_sl {p : List Nat} (h : p.all (fun c => decide (c < 1114112)) = true) (a b : Nat) : okT (sl p a b) = true := by
  unfold okT
  rw [List.all_eq_true] at h ⊢
  intro c hc
  have e1 : tl (sl p a b) = (p.drop a).take (b - a) := by simp [tl, sl]
  rw [e1] at hc
  exact h c (List.mem_of_mem_drop (List.mem_of_mem_take hc))
theorem okT_plain : ∀ (l : List Nat) (k : Nat), l.all (fun c => decide (c < 1114112)) = true → (plainFrom k l).all (fun c => decide (c < 1114112)) = true
  | [], _, _ => rfl
  | n :: r, k, h => by
    rw [List.all_cons, Bool.and_eq_true] at h
    unfold plainFrom
    split
    · rw [List.all_append, okT_plain r 0 h.2, Bool.and_true, List.all_eq_true]
      intro c hc
      rw [(List.mem_replicate.mp hc).2]; decide
    · rw [List.all_cons, okT_plain r _ h.2, Bool.and_true]
      split
      · decide
      · exact h.1
theorem okT_lineF {p : List Nat} (h : p.all (fun c => decide (c < 1114112)) = true) (s la en : Nat) : okT (lineF p s la en) = true := by
  unfold lineF; split <;> exact okT_sl h _ _
theorem okT_foldF {p : List Nat} (h : p.all (fun c => decide (c < 1114112)) = true) (wn : Nat) : ∀ (f : Nat) (bs : List Bool) (st : Bool) (s : Nat), ∀ x ∈ foldF f p wn bs st s, okT x = true
  | 0, _, _, _, _, hx => nomatch hx
  | f + 1, bs, st, s, x, hx => by
    unfold foldF at hx
    split at hx
    · rcases List.mem_append.mp hx with hx | hx
      · unfold oneF at hx
        split at hx
        · exact nomatch hx
        · rw [List.mem_singleton.mp hx]; exact okT_lineF h _ _ _
      · exact okT_foldF h wn f _ _ _ x hx
    · exact nomatch hx
theorem okT_foldL {y : Str} (h : okT y = true) (wn : Nat) : ∀ x ∈ foldL (plainFrom 0 (tl y)) wn, okT x = true := okT_foldF (okT_plain _ 0 h) wn _ _ _ _
theorem reads_strs0 {h : Heap} : ∀ {vs : List Value} {xs : List Str}, StrsAre vs xs → ReadsAll h vs (xs.map PyData.str) []
  | _, _, .nil => .nil
  | _, _, .cons x t r => by
    have := ReadsAll.cons (Reads.str (h := h) x t) (reads_strs0 (h := h) r)
    simpa using this
theorem reads_strs {h₀ h : Heap} {L a : Addr} {news : Led} {vs : List Value} {xs : List Str} {n : Nat} (N : News h₀ L h news) (hm : (a, listOf vs.toArray n) ∈ news) (hi : StrsAre vs xs) : Reads h (.ref a) (.list (xs.map PyData.str)) [a] := by
  have := reads_list_at (N.get hm) rfl rfl (by simpa using reads_strs0 (h := h) hi)
  simpa using this
theorem lay_strs : ∀ xs : List Str, (∀ x ∈ xs, okT x = true) → PyData.canLayAll0 (xs.map PyData.str) = true
  | [], _ => by simp [PyData.canLayAll0]
  | x :: r, h => by
    have h1 := h x List.mem_cons_self
    have h2 : PyData.strOk x = true := by
      unfold PyData.strOk
      unfold okT tl at h1
      rw [← Array.all_toList]
      exact h1
    simp [PyData.canLayAll0, PyData.canLay0, h2, lay_strs r fun y hy => h y (List.mem_cons_of_mem _ hy)]
theorem depth_strs : ∀ xs : List Str, PyData.depthAll (xs.map PyData.str) = 0
  | [] => by simp [PyData.depthAll]
  | _ :: r => by simp [PyData.depthAll, PyData.depth, depth_strs r]
section
variable {prog : Program} {w : World} {A : Around} {E : Value → Shared → Prop} {s : Shared} {h₀ : Heap} {L a b a1 a2 b1 b2 : Addr} {news : Led} {n n' n1 n2 m1 m2 : Nat} {v1 v2 u1 u2 : List Value} {xs ys : List Str} {Q : Value → Shared → Prop}
theorem eq_lists (N : News h₀ L s.heap news) (ha : (a, listOf #[.ref a1, .ref a2] n) ∈ news) (hb : (b, listOf #[.ref b1, .ref b2] n') ∈ news) (h1 : (a1, listOf v1.toArray n1) ∈ news) (h2 : (a2, listOf v2.toArray n2) ∈ news) (k1 : (b1, listOf u1.toArray m1) ∈ news) (k2 : (b2, listOf u2.toArray m2) ∈ news)
    (s1 : StrsAre v1 xs) (s2 : StrsAre v2 ys) (t1 : StrsAre u1 xs) (t2 : StrsAre u2 ys) (hx : ∀ x ∈ xs, okT x = true) (hy : ∀ x ∈ ys, okT x = true) (hu : A.units + 64 < cLine) (h : Q (.bool true) s) : wpAny (model prog w) A (compareOp .Eq (.ref a) (.ref b)) Q E s := by
  have hs : PySem.SeqAt.shaped (.list [.list (xs.map PyData.str), .list (ys.map PyData.str)]) = true := by
    simp [PySem.SeqAt.shaped, PyData.canLay0, PyData.canLayAll0, PyData.depth, PyData.depthAll, lay_strs xs hx, lay_strs ys hy, depth_strs]
  refine eq_dataH (reads_list_at (N.get ha) rfl rfl (ReadsAll.cons (reads_strs N h1 s1) (ReadsAll.cons (reads_strs N h2 s2) ReadsAll.nil))) (reads_list_at (N.get hb) rfl rfl (ReadsAll.cons (reads_strs N k1 t1) (ReadsAll.cons (reads_strs N k2 t2) ReadsAll.nil))) hs hs hu ?_
  rw [PySem.SeqAt.eqv_refl _ (by simp [PyData.canLay0, PyData.canLayAll0, lay_strs xs hx, lay_strs ys hy])]
  exact h
theorem eq_told {x x' : Str} {t t' : Tok} (N : News h₀ L s.heap news) (ha : (a, listOf #[.str x t, .ref a2] n) ∈ news) (hb : (b, listOf #[.str x' t', .ref b2] n') ∈ news) (ex : x' = x) (h2 : (a2, listOf v2.toArray n2) ∈ news) (k2 : (b2, listOf u2.toArray m2) ∈ news)
    (s2 : StrsAre v2 ys) (t2 : StrsAre u2 ys) (hx : okT x' = true) (hy : ∀ x ∈ ys, okT x = true) (hu : A.units + 64 < cLine) (h : Q (.bool true) s) : wpAny (model prog w) A (compareOp .Eq (.ref a) (.ref b)) Q E s := by
  subst ex
  have hx' := lay_strs [x'] (fun y hy => by rw [List.mem_singleton.mp hy]; exact hx)
  simp only [List.map_cons, List.map_nil, PyData.canLayAll0, Bool.and_true] at hx'
  have hs : PySem.SeqAt.shaped (.list [.str x', .list (ys.map PyData.str)]) = true := by
    simp [PySem.SeqAt.shaped, PyData.canLayAll0, PyData.canLay0, PyData.depth, PyData.depthAll, lay_strs ys hy, depth_strs]
    simpa [PyData.canLay0] using hx'
  refine eq_dataH (reads_list_at (N.get ha) rfl rfl (ReadsAll.cons (Reads.str x' t) (ReadsAll.cons (reads_strs N h2 s2) ReadsAll.nil))) (reads_list_at (N.get hb) rfl rfl (ReadsAll.cons (Reads.str x' t') (ReadsAll.cons (reads_strs N k2 t2) ReadsAll.nil))) hs hs hu ?_
  rw [PySem.SeqAt.eqv_refl _ (by simp [PyData.canLayAll0, PyData.canLay0, lay_strs ys hy]; simpa [PyData.canLay0] using hx')]
  exact h
end
end Mine
namespace Mine
open PySem.Calls
theorem reprUnder_int {prog : Program} {w : World} {A : Around} {E : Value → Shared → Prop} {s : Shared} {b : Nat} {n : Int} {u : Tok} {Q : Value → Shared → Prop} (ha : n.natAbs.log2 < 1920) (h : Q (.str (Str.ofString (toString n)) s.toks) { s with toks := s.toks + 1 }) :
    wpAny (model prog w) A (pyReprObjUnder b (.int n u)) Q E s := by
  unfold pyReprObjUnder pyReprObjBy
  have hv : [Value.int n u].any Value.onHeap = false := rfl
  simp only [cRoomFor, hv, Bool.false_eq_true, if_false, pure_bind]
  refine wpAny_bind (wpAny_specialOf (name := Str.ofString "__repr__") (typeIs_int s n u) F.slot_int_repr.lookup ?_)
  refine wpAny_bind (wpAny_callSpecialIfBoundBy?_slotG (name := Str.ofString "__repr__") (typeIs_int s n u) F.slot_int_repr.toG ?_)
  have e : reprUnder? (.builtin "int.__repr__") = none := by first | rfl | decide +kernel
  simp only [e]
  refine call_gives F.slot_int_repr (typeIs_int _ _ _) F.entry_int_repr (F.args_int_repr_1 _) (gives_int_repr n u ha) ⟨int_text_fits ha, ?_⟩
  exact wpAny_bind (wpAny_isInstance (T := "str") (b := true) rfl isSubtype_str_str (wpAny_pure h))
set_option maxRecDepth 100000 in
theorem mod_r {prog : Program} {w : World} {A : Around} {E : Value → Shared → Prop} {s : Shared} {n : Int} {t u : Tok} {Q : Value → Shared → Prop} (hd : n.natAbs.log2 < 1920) (hn : (Str.ofString (toString n)).length ≤ 100) (h : ∀ t' k, Q (.str (Str.ofString "invalid width " ++ Str.ofString (toString n) ++ Str.ofString " (must be > 0)") t') { s with toks := k }) :
    wpAny (model prog w) A (binaryOp .Mod (.str (Str.ofString "invalid width %r (must be > 0)") t) (.int n u)) Q E s := by
  refine' KPc.mod_lit (T := Str.ofString "invalid width " ++ Str.ofString (toString n) ++ Str.ofString " (must be > 0)") ?kpcF hd ?kpcm h
  case kpcF => kpc_eq
  case kpcm =>
    intros
    apply KPc.meets_of
    intro _ _ _ _ _ _ _
    rw [KPc.entry_is]
    unfold Builtin.Str.percentFormat
    refine wpAny_bind (wpAny_isInstance (typeIs_int _ _ _) F.sub_int_tuple ?_)
    refine wpAny_bind (wpAny_of_eq (a := none) rfl ?_)
    refine wpAny_bind (wpAny_of_eq (KPc.fills _ _) ?_)
    kpc_if
    refine wpAny_bind (wpAny_pure ?_)
    refine wpAny_bind ?_
    rw [KPc.range_list]
    refine KPc.start ?_
    intro _ _
    refine KPc.turn ?_; kpc_check; (repeat kpc_if)
    refine wpAny_pure ?_
    kpc_piece
    refine KPc.turn ?_; kpc_check; (repeat kpc_if)
    refine wpAny_bind ?_
    refine wpAny_holding ?_
    (repeat kpc_if)
    refine wpAny_bind (reprUnder_int (by with_reducible assumption) ?_)
    refine wpAny_bind (wpAny_of_eq (a := some _) rfl ?_)
    refine wpAny_pure ?_; refine wpAny_pure ?_
    refine KPc.after_str (by kpc_g) (by with_reducible assumption) (by first | kpc_obj | exact KPc.obj_none rfl) ?_
    intro _ _
    kpc_turns
end Mine
namespace Mine
theorem plainFrom_len : ∀ (l : List Nat) (c : Nat), (plainFrom c l).length ≤ 8 * l.length
  | [], _ => Nat.le_refl _
  | n :: r, c => by
    unfold plainFrom
    have h1 := plainFrom_len r 0
    split
    · simp only [List.length_append, List.length_replicate, List.length_cons]; omega
    · have h2 := plainFrom_len r (if n = 10 ∨ n = 13 then 0 else c + 1)
      simp only [List.length_cons]; omega
theorem plainS_len (x : Str) : (plainS x).length ≤ 8 * x.length := by
  rw [← tl_length, tl_plainS, ← tl_length]; exact plainFrom_len _ _
theorem fold_okI {w : World} {mean : ExcName → Option Value} {mg mb : Str → Option Value} {news : Led} {x : Str} {t : Tok} {i : Int} {u : Tok} :
    Claim w mean mg mb 4 98 news (x.length ≤ 2000 ∧ 0 < i) [.str (plainS x) t, .int i u] (RetL news (foldL (plainFrom 0 (tl x)) i.toNat)) := by
  intro dp un gd cn cs a ccd cl outer A₀ base h₀ L m s Q E B F X N T hk hp hd hu hr
  obtain ⟨n, rfl⟩ : ∃ n : Nat, i = (n : Int) := ⟨i.toNat, by omega⟩
  rw [Int.toNat_natCast, ← tl_plainS] at hr
  exact fold_ok dp un gd cn cs a ccd cl outer A₀ base h₀ L m s Q E B F X N T hk ⟨by have := plainS_len x; omega, by omega⟩ hd hu hr
theorem wrap_okI {w : World} {mean : ExcName → Option Value} {mg mb : Str → Option Value} {news : Led} {x : Str} {t : Tok} {i : Int} {u : Tok} :
    Claim w mean mg mb 5 56 news (x.length ≤ 2000 ∧ 0 < i) [.str x t, .int i u] (RetL news (foldL (plainFrom 0 (tl x)) i.toNat)) := by
  intro dp un gd cn cs a ccd cl outer A₀ base h₀ L m s Q E B F X N T hk hp hd hu hr
  obtain ⟨n, rfl⟩ : ∃ n : Nat, i = (n : Int) := ⟨i.toNat, by omega⟩
  rw [Int.toNat_natCast, ← wrapL_foldL _ (by omega)] at hr
  exact wrap_ok dp un gd cn cs a ccd cl outer A₀ base h₀ L m s Q E B F X N T hk ⟨by omega, by omega⟩ hd hu hr
local macro_rules | `(tactic| walk_at "my call done") => `(tactic| (
  (case k1 => k_asm); (case k2 => k_asm); (case k3 => k_asm); (case k4 => k_asm); (case k5 => k_asm); (case k6 => first | exact rfl | assumption); (case kd => ktr_room); (case ku => ktr_units)))
local macro_rules | `(tactic| walk_at "call ref") => `(tactic| (k_here; (with_unfolding_all refine' raw_ok _ _ _ _ _ _ _ _ _ _ _ _ _ _ _ _ _ ?k1 ?k2 ?k3 ?k4 ?k5 ?k6 ?kp ?kd ?ku ?_); walk_at "my call done"; (case kp => (refine ⟨?ka, ?kb, ?kc, ?ke, ?kf⟩; (case ka => k_dflt k_mem); (case kb => assumption); (case kc => omega); (case ke => omega); (case kf => omega))); intro t9 h9 tk9 F9 N9; (try dsimp only); (try k_fold)))
local macro_rules | `(tactic| walk_at "call ref") => `(tactic| (k_here; (with_unfolding_all refine' text_ok _ _ _ _ _ _ _ _ _ _ _ _ _ _ _ _ _ ?k1 ?k2 ?k3 ?k4 ?k5 ?k6 ?kp ?kd ?ku ?_); walk_at "my call done"; (case kp => (refine ⟨?ka, ?kb, ?kc⟩; (case ka => k_dflt k_mem); (case kb => assumption); (case kc => omega))); intro y9 t9 h9 tk9 P9 F9 N9; (try dsimp only); (try k_fold)))
theorem w4 {v : Int} (h : -2 ≤ v) : v = 0 ∨ v = -1 ∨ v = -2 ∨ 0 < v := by omega
theorem pos12 (a : Int) : 0 < 1 + Int.fmod a 12 := by rw [Int.fmod_eq_emod_of_nonneg _ (by decide)]; omega
local macro_rules | `(tactic| walk_at "call ref") => `(tactic| (k_here; (with_unfolding_all refine' width_ok _ _ _ _ _ _ _ _ _ _ _ _ _ _ _ _ _ ?k1 ?k2 ?k3 ?k4 ?k5 ?k6 trivial ?kd ?ku ?_); walk_at "my call done"; intro y9 t9 h9 tk9 P9 F9 N9; (rcases w4 P9 with e9 | e9 | e9 | P8) <;> ((try subst e9); (try dsimp only); (try k_fold))))
local macro_rules | `(tactic| walk_at "call ref") => `(tactic| (k_here; (with_unfolding_all refine' lplain_ok _ _ _ _ _ _ _ _ _ _ _ _ _ _ _ _ _ ?k1 ?k2 ?k3 ?k4 ?k5 ?k6 ?kp ?kd ?ku ?_); walk_at "my call done"; (case kp => omega); intro t9 h9 tk9 F9 N9; (try dsimp only); (try k_fold)))
local macro_rules | `(tactic| walk_at "call ref") => `(tactic| (k_here; (with_unfolding_all refine' fold_okI _ _ _ _ _ _ _ _ _ _ _ _ _ _ _ _ _ ?k1 ?k2 ?k3 ?k4 ?k5 ?k6 ?kp ?kd ?ku ?_); walk_at "my call done"; (case kp => (refine ⟨?ka, ?kb⟩; (case ka => omega); (case kb => first | assumption | exact pos12 _))); intro a9 vs9 n9 h9 tk9 F9 N9 S9 lt9; (have lt9' := allLt_of lt9); (try simp only [AllLt, and_true] at lt9'); (try dsimp only); (try k_fold)))
local macro_rules | `(tactic| walk_at "call ref") => `(tactic| (k_here; (with_unfolding_all refine' wrap_okI _ _ _ _ _ _ _ _ _ _ _ _ _ _ _ _ _ ?k1 ?k2 ?k3 ?k4 ?k5 ?k6 ?kp ?kd ?ku ?_); walk_at "my call done"; (case kp => (refine ⟨?ka, ?kb⟩; (case ka => omega); (case kb => first | assumption | exact pos12 _))); intro a9 vs9 n9 h9 tk9 F9 N9 S9 lt9; (have lt9' := allLt_of lt9); (try simp only [AllLt, and_true] at lt9'); (try dsimp only); (try k_fold)))
local macro_rules | `(tactic| walk_at "eval Call") => `(tactic| (k_here; k_dflt (refine Call_ ?_)))
theorem okT2 {y : Str} (h : y.length ≤ 2000 ∧ okT y = true) : okT y = true := h.2
local macro_rules | `(tactic| walk_at "compareOp Eq ref ref") => `(tactic| (k_here; k_dflt (refine' eq_lists ?N ?ha ?hb ?h1 ?h2 ?k1 ?k2 ?s1 ?s2 ?t1 ?t2 ?hx ?hy ?hu ?_; (case N => k_asm); (case ha => k_mem); (case hb => k_mem); (case h1 => k_mem); (case h2 => k_mem); (case k1 => k_mem); (case k2 => k_mem); (case s1 => assumption); (case s2 => assumption); (case t1 => assumption); (case t2 => assumption); (case hx => exact okT_foldL (okT2 (by assumption)) _); (case hy => exact okT_foldL (okT2 (by assumption)) _); (case hu => first | units_room | exact Nat.le_of_ble_eq_true rfl))))
local macro_rules | `(tactic| walk_at "compareOp Eq ref ref") => `(tactic| (k_here; k_dflt (refine' eq_told ?N ?ha ?hb ?ex ?h2 ?k2 ?s2 ?t2 ?hx ?hy ?hu ?_; (case N => k_asm); (case ha => k_mem); (case hb => k_mem); (case ex => decide +kernel); (case h2 => k_mem); (case k2 => k_mem); (case s2 => assumption); (case t2 => assumption); (case hx => decide +kernel); (case hy => exact okT_foldL (okT2 (by assumption)) _); (case hu => first | units_room | exact Nat.le_of_ble_eq_true rfl))))
local macro_rules | `(tactic| walk_at "exec If") => `(tactic| (refine halt ?_))
local macro_rules | `(tactic| walk_at "my size") => `(tactic| ((try simp only [List.length_reverse, List.length_append, List.length_cons, List.length_nil]); omega))
local macro_rules | `(tactic| walk_at "call builtin:list.append") => `(tactic| (k_here; k_dflt (refine' my_append ?F ?N ?U ?z ?_; (case F => k_asm); (case N => k_asm); (case U => k_upd); (case z => walk_at "my size")); intro h' F' N'))
local macro_rules | `(tactic| walk_at "binaryOp Mod str int") => `(tactic| (k_here; k_dflt (refine' mod_r ?hd ?hn ?_; (case hd => decide +kernel); (case hn => decide +kernel)); intro t' k'))
set_option maxRecDepth 100000 in
set_option maxHeartbeats 8000000 in
theorem law_holds : PySem.Challenge.rw_ag6019_01.Holds := Mine.hd (by
  k_go0
  (all_goals try k_fold)
  k_with_none
  k_steps
  · refine unhalt (wpAny_If ?_)
    k_steps
    refine unhalt (wpAny_If ?_)
    k_steps
  · refine unhalt (wpAny_If ?_)
    k_steps
    refine unhalt (wpAny_If ?_)
    k_steps
  · refine unhalt (wpAny_If ?_)
    k_steps
    refine unhalt (wpAny_If ?_)
    k_steps
  · refine unhalt (wpAny_If ?_)
    k_steps)
end Mine
theorem PySem.Challenge.cw_ag6019_01_holds : PySem.Challenge.rw_ag6019_01.Holds :=
  Mine.law_holds
