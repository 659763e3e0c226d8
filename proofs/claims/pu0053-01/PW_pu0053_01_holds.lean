import PyProof.Rows.All
import Wide.All
import OpenK.AllK
import Wide.FinOn
import PySem.Challenge.RW_pu0053_01
set_option Elab.async false
set_option linter.unusedVariables false
set_option linter.unusedSimpArgs false

open PySem PySem.W PyProof.Rows
namespace Mine
set_option maxRecDepth 100000
set_option maxHeartbeats 8000000
open_top hd for PySem.Challenge.rw_pu0053_01

section
set_option maxRecDepth 100000
set_option maxHeartbeats 8000000

abbrev PR : Program := PySem.Challenge.rw_pu0053_01.row.prog
abbrev Led := List (Addr × Obj)

/-- a contract of one call: what it hands back and how the ledger stands behind it -/
abbrev Ctr (w : World) (f : Addr) (vs : List Value) (kw : List (Str × Value)) (news : Led) (k : Nat) (Post : Value → Led → Prop) : Prop :=
  ∀ (loose : List Str) (mean : ExcName → Option Value) (mg mb : Str → Option Value) (dp un : Nat) (gd : Option (List Code)) (cn : Str) (cs : Scope) (a : Addr) (ccd : Value) (cl : List (Str × Addr)) (outer : List Env) (A₀ : Around) (base h₀ : Heap) (L : Addr) (m : Str → Option Value) (s : Shared) (Q E : Value → Shared → Prop),
    Below A₀ base outer h₀ → Fr h₀ L s.heap m → (hd.heap_39 w.params).In h₀ → News h₀ L s.heap news → Top topProg loose mean mg mb h₀ → cs.kind = .function →
    dp + k < recursionLimit → un + 8 * k < cLine →
    (∀ (v : Value) (news' : Led) (h' : Heap) (tk' : Nat), Post v news' → Fr h₀ L h' m → News h₀ L h' news' → Q v { s with heap := h', toks := tk' }) →
    wpAny (model PR w) (ktrTop dp un gd cn cs L a ccd cl outer) (call (.ref f) vs kw) Q E s

/-- an int back, the ledger as it was -/
abbrev IntBack (news : Led) (x : Int) : Value → Led → Prop := fun v news' => (∃ t, v = .int x t) ∧ news = news'

theorem fill0 : (fun (_ : OpenLaw) (_ : Params → Frag) => True) PySem.Challenge.rw_pu0053_01 hd.heap_39 := by
  k_fill
  w_top off
  trivial
theorem ctr_call {w : World} {f : Addr} {vs : List Value} {kw : List (Str × Value)} {news : Led} {k : Nat} {Post : Value → Led → Prop}
    {loose : List Str} {mean : ExcName → Option Value} {mg mb : Str → Option Value} {dp un : Nat} {gd : Option (List Code)} {cn : Str} {cs : Scope} {a : Addr} {ccd : Value} {cl : List (Str × Addr)} {outer : List Env} {A₀ : Around} {base h₀ : Heap} {L : Addr} {m : Str → Option Value} {s : Shared} {Q E : Value → Shared → Prop}
    (hC : Ctr w f vs kw news k Post) (B : Below A₀ base outer h₀) (F : Fr h₀ L s.heap m) (X : (hd.heap_39 w.params).In h₀) (N : News h₀ L s.heap news) (T : Top topProg loose mean mg mb h₀) (hcs : cs.kind = .function)
    (hdp : dp + k < recursionLimit) (hun : un + 8 * k < cLine)
    (hret : ∀ (v : Value) (news' : Led) (h' : Heap) (tk' : Nat), Post v news' → Fr h₀ L h' m → News h₀ L h' news' → Q v { s with heap := h', toks := tk' }) :
    wpAny (model PR w) (ktrTop dp un gd cn cs L a ccd cl outer) (call (.ref f) vs kw) Q E s :=
  hC loose mean mg mb dp un gd cn cs a ccd cl outer A₀ base h₀ L m s Q E B F X N T hcs hdp hun hret
/-- the walk halts here -/
def Stop (P : Prop) : Prop := P
theorem stop_here {P : Prop} (h : Stop P) : P := h
theorem Stop.mk {P : Prop} (h : P) : Stop P := h
section
variable {prog : Program} {w : World} {A : Around} {E : Value → Shared → Prop} {Q : Flow → Shared → Prop} {s : Shared} {env : Env} {h₀ : Heap} {L : Addr}
theorem my_while {σ : Type} {test : Expr} {body : List Stmt} {pos : Pos} {m₀ : Str → Option Value} (Led : σ → List (Addr × Obj)) (ps : σ → List (Str × Value)) (stored : List Str) (P : σ → Prop) (μ : σ → Nat) (c₀ : σ)
    (F : Fr h₀ L s.heap m₀) (N : News h₀ L s.heap (Led c₀)) (hk : ∀ p ∈ ps c₀, m₀ p.1 = some p.2) (hp : P c₀)
    (turn : ∀ (c : σ) (u : Str → Option Value) h tk, P c → Fr h₀ L h (kstB (fun z => if stored.contains z then u z else m₀ z) (ps c)) → News h₀ L h (Led c) →
      wpAny (model prog w) A (isTrue test env (eval test env)) (fun b s₂ =>
        if b = true then wpAny (model prog w) A (execs body env) (fun f s₃ => Stop (KswPost h₀ L s Led ps (fun _ => True) stored m₀ P μ Q c f s₃)) E s₂ else Q .next s₂) E { s with heap := h, toks := tk })
    (hE : PassesOwn (model prog w) A env E := by passes_own) :
    wpAny (model prog w) A (exec (.While test body [] pos) env) Q E s :=
  ksw_while Led ps (fun _ => True) stored P μ c₀ F N trivial hk hp (fun c u h tk _ hp F N => turn c u h tk hp F N) hE
end
/-- where a loop is left -/
def KswOut {σ : Type} (h₀ : Heap) (L : Addr) (s : Shared) (Led : σ → List (Addr × Obj)) (ps : σ → List (Str × Value)) (stored : List Str) (m₀ : Str → Option Value) (D : σ → Prop) (s₂ : Shared) : Prop :=
  ∃ (c' : σ) (h' : Heap) (tk : Nat) (m' : Str → Option Value) (news' : List (Addr × Obj)), s₂ = { s with heap := h', toks := tk } ∧ Fr h₀ L h' m' ∧ News h₀ L h' news' ∧ (∀ p ∈ Led c', p ∈ news') ∧ (∀ p ∈ ps c', m' p.1 = some p.2) ∧ (∀ z, (∀ p ∈ ps c', z ≠ p.1) → stored.contains z = false → m' z = m₀ z) ∧ D c'
theorem ksw_out {σ : Type} {h₀ : Heap} {L : Addr} {s : Shared} {Led : σ → List (Addr × Obj)} {ps : σ → List (Str × Value)} {stored : List Str} {m₀ m' : Str → Option Value} {D : σ → Prop} {h' : Heap} {tk : Nat} {news' : List (Addr × Obj)} (c' : σ)
    (F : Fr h₀ L h' m') (N : News h₀ L h' news') (hn : ∀ p ∈ Led c', p ∈ news') (hk : ∀ p ∈ ps c', m' p.1 = some p.2) (hr : ∀ z, (∀ p ∈ ps c', z ≠ p.1) → stored.contains z = false → m' z = m₀ z) (hp : D c') :
    KswOut h₀ L s Led ps stored m₀ D { s with heap := h', toks := tk } := ⟨c', h', tk, m', news', rfl, F, N, hn, hk, hr, hp⟩
section
variable {prog : Program} {w : World} {A : Around} {E : Value → Shared → Prop} {Q : Flow → Shared → Prop} {s : Shared} {env : Env} {h₀ : Heap} {L : Addr}
theorem my_while2 {σ : Type} {test : Expr} {body : List Stmt} {pos : Pos} {m₀ : Str → Option Value} (Led : σ → List (Addr × Obj)) (ps : σ → List (Str × Value)) (stored : List Str) (P : σ → Prop) (D : σ → Prop) (μ : σ → Nat) (c₀ : σ)
    (F : Fr h₀ L s.heap m₀) (N : News h₀ L s.heap (Led c₀)) (hk : ∀ p ∈ ps c₀, m₀ p.1 = some p.2) (hp : P c₀)
    (turn : ∀ (c : σ) (u : Str → Option Value) h tk, P c → Fr h₀ L h (kstB (fun z => if stored.contains z then u z else m₀ z) (ps c)) → News h₀ L h (Led c) →
      wpAny (model prog w) A (isTrue test env (eval test env)) (fun b s₂ =>
        if b = true then wpAny (model prog w) A (execs body env) (fun f s₃ => Stop (KswPost h₀ L s Led ps (fun _ => True) stored m₀ P μ Q c f s₃)) E s₂ else Stop (KswOut h₀ L s Led ps stored m₀ D s₂)) E { s with heap := h, toks := tk })
    (done : ∀ (c : σ) (u : Str → Option Value) h tk, D c → Fr h₀ L h (kstB (fun z => if stored.contains z then u z else m₀ z) (ps c)) → News h₀ L h (Led c) → Q .next { s with heap := h, toks := tk })
    (hE : PassesOwn (model prog w) A env E := by passes_own) :
    wpAny (model prog w) A (exec (.While test body [] pos) env) Q E s := by
  refine ksw_while Led ps (fun _ => True) stored P μ c₀ F N trivial hk hp (fun c u h tk _ hp F N => wpAny_mono (turn c u h tk hp F N) (fun b s₂ q => ?_) fun _ _ x => x) hE
  cases b with
  | true => simp only [if_true] at q ⊢; exact q
  | false =>
    simp only [Bool.false_eq_true, if_false] at q ⊢
    obtain ⟨c', h', tk, m', news', rfl, F', N', hn, hk, hr, hd⟩ := q
    exact done c' m' h' tk hd (ksw_fr hk hr F') fun p hp => N' p (hn p hp)
end
def RngEnd {σ : Type} (h₀ : Heap) (L : Addr) (x : Str) (Led : σ → List (Addr × Obj)) (ps : σ → List (Str × Value)) (stored : List Str) (m₀ : Str → Option Value) (P' : σ → Prop) (own : List (Addr × Obj)) (adr : List Addr) (s₁ s₂ : Shared) : Prop :=
  ∃ (c : σ) (h' : Heap) (tk : Nat) (m' : Str → Option Value) (news' : List (Addr × Obj)), s₂ = { s₁ with heap := h', toks := tk } ∧ Fr h₀ L h' m' ∧ News h₀ L h' news' ∧ (Led c).map (·.1) = adr ∧ (∀ p ∈ Led c, p ∈ news') ∧ (∀ p ∈ own, p ∈ news') ∧
    (∀ p ∈ ps c, m' p.1 = some p.2) ∧ (∀ z, z ≠ x → (∀ p ∈ ps c, z ≠ p.1) → stored.contains z = false → m' z = m₀ z) ∧ P' c
def RngPost {σ : Type} (h₀ : Heap) (L : Addr) (x : Str) (Led : σ → List (Addr × Obj)) (ps : σ → List (Str × Value)) (stored : List Str) (m₀ : Str → Option Value) (P' : σ → Prop) (own : List (Addr × Obj)) (adr : List Addr) (s₁ : Shared) (Q : Flow → Shared → Prop) (f : Flow) (s₂ : Shared) : Prop :=
  match f with
  | .ret v => Q (.ret v) s₂
  | .brk => Q .next s₂
  | _ => RngEnd h₀ L x Led ps stored m₀ P' own adr s₁ s₂
section
variable {prog : Program} {w : World} {A : Around} {E : Value → Shared → Prop} {s : Shared} {env : Env} {h₀ : Heap} {x : Str} {body : List Stmt} {Q : Flow → Shared → Prop}
theorem RngPost.toInv {σ : Type} {L : Addr} {Led : σ → List (Addr × Obj)} {ps : σ → List (Str × Value)} {stored : List Str} {m₀ : Str → Option Value} {P : List Int → σ → Prop} {P' : σ → Prop} {pre : List Int} {own : List (Addr × Obj)} {adr : List Addr} {s₁ : Shared} {f : Flow} {s₂ : Shared}
    (hP : ∀ c, P' c → P pre c) (h : RngPost h₀ L x Led ps stored m₀ P' own adr s₁ Q f s₂) : InvPostN h₀ L (KstS Led ps (fun _ => True) x stored m₀ P pre) own adr s₁ Q f s₂ := by
  have fin : RngEnd h₀ L x Led ps stored m₀ P' own adr s₁ s₂ → InvEndN h₀ L (KstS Led ps (fun _ => True) x stored m₀ P pre) own adr s₁ s₂ := by
    rintro ⟨c, h', tk, m', news', rfl, F, N, ha, hn, ho, hk, hr, hp⟩
    exact InvEndN.intro (nx := Led c) F N ⟨c, rfl, trivial, hk, hr, hP c hp⟩ ha hn ho
  cases f with
  | ret v => exact h
  | brk => exact h
  | next => exact fin h
  | cont => exact fin h
theorem my_range {σ : Type} {r : Addr} {a₀ b₀ : Int} {t₀ u₀ v₀ : Tok} {n : Nat} {m₀ : Str → Option Value} (Led : σ → List (Addr × Obj)) (ps : σ → List (Str × Value)) (stored : List Str) (P : Nat → σ → Prop) (c₀ : σ)
    (hh : A.handled = none) (hr : IsRange s.heap r a₀ b₀ 1 t₀ u₀ v₀) (hsmall : Builtin.Range.small a₀ b₀ 1 = true) (hn : Builtin.Range.rangeSize a₀ b₀ 1 = (n : Int)) (F : Fr h₀ env.locals s.heap m₀) (N : News h₀ env.locals s.heap (Led c₀)) (hk : ∀ p ∈ ps c₀, m₀ p.1 = some p.2) (hp : P 0 c₀)
    (turn : ∀ (c : σ) (i : Nat) (k : Int) t (u : Str → Option Value) h tk own, k = a₀ + (i : Int) → i < n → OwnOff own ((Led c₀).map (·.1)) → P i c →
      Fr h₀ env.locals h (fun y => if y = x then some (.int k t) else kstB (fun z => if stored.contains z then u z else m₀ z) (ps c) y) → News h₀ env.locals h (Led c ++ own) →
      wpAny (model prog w) A (execs body env) (fun f s₃ => Stop (RngPost h₀ env.locals x Led ps stored m₀ (P (i + 1)) own ((Led c₀).map (·.1)) { s with heap := h, toks := tk } Q f s₃)) E { s with heap := h, toks := tk })
    (done : ∀ (c : σ) (u : Str → Option Value) h tk, P n c → Fr h₀ env.locals h (fun y => if y = x then u y else kstB (fun z => if stored.contains z then u z else m₀ z) (ps c) y) → News h₀ env.locals h (Led c) → Q .next { s with heap := h, toks := tk }) :
    wpAny (model prog w) A (pyIter (.ref r)) (fun it s₂ => LoopAtV prog w A h₀ env x body Q E it s₂) E s := by
  refine kst_range Led ps (fun _ => True) stored (fun pre c => P pre.length c) c₀ hh hr hsmall hn F N trivial hk (by simpa using hp) ?_ ?_
  · intro c pre k t u h tk own hk hlt hoff _ hP F N
    refine wpAny_mono (turn c pre.length k t u h tk own hk hlt hoff hP F N) (fun f s₃ q => ?_) fun _ _ x => x
    exact RngPost.toInv (fun c hc => by simpa using hc) q
  · intro c u h tk _ hP F N
    exact done c u h tk (by simpa [rangeKs] using hP) F N
/-- a loop over a list of ints of the call's own -/
theorem my_list {σ : Type} {l : Addr} {vs : List Value} {ns : List Int} {nn : Nat} {m₀ : Str → Option Value} (Led : σ → List (Addr × Obj)) (ps : σ → List (Str × Value)) (stored : List Str) (P : Nat → σ → Prop) (c₀ : σ)
    (hh : A.handled = none) (hl : ∀ c : σ, (l, listOf vs.toArray nn) ∈ Led c) (hi : IntsAre vs ns) (F : Fr h₀ env.locals s.heap m₀) (N : News h₀ env.locals s.heap (Led c₀)) (hk : ∀ p ∈ ps c₀, m₀ p.1 = some p.2) (hp : P 0 c₀)
    (turn : ∀ (c : σ) (i : Nat) (k : Int) t (u : Str → Option Value) h tk own, ns[i]? = some k → OwnOff own ((Led c₀).map (·.1)) → P i c →
      Fr h₀ env.locals h (fun y => if y = x then some (.int k t) else kstB (fun z => if stored.contains z then u z else m₀ z) (ps c) y) → News h₀ env.locals h (Led c ++ own) →
      wpAny (model prog w) A (execs body env) (fun f s₃ => Stop (RngPost h₀ env.locals x Led ps stored m₀ (P (i + 1)) own ((Led c₀).map (·.1)) { s with heap := h, toks := tk } Q f s₃)) E { s with heap := h, toks := tk })
    (done : ∀ (c : σ) (u : Str → Option Value) h tk, P ns.length c → Fr h₀ env.locals h (fun y => if y = x then u y else kstB (fun z => if stored.contains z then u z else m₀ z) (ps c) y) → News h₀ env.locals h (Led c) → Q .next { s with heap := h, toks := tk }) :
    wpAny (model prog w) A (pyIter (.ref l)) (fun it s₂ => LoopAtV prog w A h₀ env x body Q E it s₂) E s := by
  refine kst_listL Led ps (fun _ => True) stored (fun pre c => P pre.length c) c₀ hh hl hi F N trivial hk (by simpa using hp) ?_ ?_
  · intro c pre post k t u h tk own hns _ hoff _ hP F N
    refine wpAny_mono (turn c pre.length k t u h tk own (by rw [hns]; simp) hoff hP F N) (fun f s₃ q => ?_) fun _ _ x => x
    exact RngPost.toInv (fun c hc => by simpa using hc) q
  · intro c u h tk _ hP F N
    exact done c u h tk hP F N
end
theorem rng_end {σ : Type} {h₀ : Heap} {L : Addr} {x : Str} {Q : Flow → Shared → Prop} {Led : σ → List (Addr × Obj)} {ps : σ → List (Str × Value)} {stored : List Str} {m₀ m' : Str → Option Value} {P' : σ → Prop} {own news' : List (Addr × Obj)} {adr : List Addr} {s : Shared} {h' : Heap} {tk : Nat} (c' : σ)
    (F : Fr h₀ L h' m') (N : News h₀ L h' news') (ha : (Led c').map (·.1) = adr) (hn : ∀ p ∈ Led c', p ∈ news') (ho : ∀ p ∈ own, p ∈ news')
    (hk : ∀ p ∈ ps c', m' p.1 = some p.2) (hr : ∀ z, z ≠ x → (∀ p ∈ ps c', z ≠ p.1) → stored.contains z = false → m' z = m₀ z) (hp : P' c') :
    Stop (RngPost h₀ L x Led ps stored m₀ P' own adr s Q .next { s with heap := h', toks := tk }) :=
  ⟨c', h', tk, m', news', rfl, F, N, ha, hn, ho, hk, hr, hp⟩
theorem RngPost.ret {σ : Type} {h₀ : Heap} {L : Addr} {x : Str} {Q : Flow → Shared → Prop} {Led : σ → List (Addr × Obj)} {ps : σ → List (Str × Value)} {stored : List Str} {m₀ : Str → Option Value} {P' : σ → Prop} {own : List (Addr × Obj)} {adr : List Addr} {s s₂ : Shared} {v : Value} (h : Q (.ret v) s₂) :
    Stop (RngPost h₀ L x Led ps stored m₀ P' own adr s Q (.ret v) s₂) := h
def CutPost (Mid : Shared → Prop) (Q : Flow → Shared → Prop) (f : Flow) (s' : Shared) : Prop :=
  match f with
  | .next => Mid s'
  | f => Q f s'
theorem exec_cut {M : Model} {A : Around} {env : Env} {st : Stmt} {rest : List Stmt} {Q : Flow → Shared → Prop} {E : Value → Shared → Prop} {s : Shared} (Mid : Shared → Prop)
    (h1 : wpAny M A (exec st env) (fun f s' => Stop (CutPost Mid Q f s')) E s) (h2 : ∀ s', Mid s' → wpAny M A (execs rest env) Q E s') : wpAny M A (execs (st :: rest) env) Q E s := by
  refine wpAny_execs_cons (wpAny_mono h1 (fun f s' q => ?_) fun _ _ x => x)
  cases f with
  | next => exact h2 s' q
  | _ => exact q
/-- the same frame further on, some names stored -/
def After {h₀ : Heap} {L : Addr} {h : Heap} {m : Str → Option Value} (_ : Fr h₀ L h m) (s : Shared) (ups : List (Str × Value)) (news : Led) (s' : Shared) : Prop :=
  ∃ h' tk, s' = { s with heap := h', toks := tk } ∧ Fr h₀ L h' (kstB m ups) ∧ News h₀ L h' news
theorem After.intro {h₀ : Heap} {L : Addr} {h h' : Heap} {tk : Nat} {m : Str → Option Value} {F : Fr h₀ L h m} {s : Shared} {ups : List (Str × Value)} {news : Led} (F' : Fr h₀ L h' (kstB m ups)) (N' : News h₀ L h' news) : After F s ups news { s with heap := h', toks := tk } := ⟨h', tk, rfl, F', N'⟩
theorem CutPost.ret {Mid : Shared → Prop} {Q : Flow → Shared → Prop} {v : Value} {s' : Shared} (h : Q (.ret v) s') : Stop (CutPost Mid Q (.ret v) s') := h
theorem allLt_ne {d a : Nat} {l : Led} (h : AllLt d l) (hd : d ≤ a) : ∀ p ∈ l, p.1 ≠ a := by
  induction l with
  | nil => intro p hp; cases hp
  | cons q r ih =>
    intro p hp
    rcases List.mem_cons.mp hp with rfl | hp
    · exact Nat.ne_of_lt (Nat.lt_of_lt_of_le h.1 hd)
    · exact ih h.2 p hp
theorem allLt_mem {d : Nat} {l : Led} (h : AllLt d l) : ∀ p ∈ l, p.1 < d := by
  induction l with
  | nil => intro p hp; cases hp
  | cons q r ih =>
    intro p hp
    rcases List.mem_cons.mp hp with rfl | hp
    · exact h.1
    · exact ih h.2 p hp
end

local macro_rules | `(tactic| walk_at $s:str) => `(tactic| k_extra $s)
local macro_rules | `(tactic| k_mem) => `(tactic| (repeat (first | exact List.Mem.head _ | assumption | refine List.Mem.tail _ ?_)))
local macro_rules | `(tactic| k_all) => `(tactic| first | assumption | exact allLt_ne (by assumption) (by omega) | (refine List.forall_mem_cons.mpr ⟨?_, ?_⟩; (focus (refine neN ?_; (try dsimp only); omega)); k_all) | fail "k_all")

section
set_option maxRecDepth 100000
set_option maxHeartbeats 8000000
def nthS : List Stmt → Nat → Stmt
  | [], _ => .Pass ⟨0, 0, 0, 0⟩
  | s :: _, 0 => s
  | _ :: r, n + 1 => nthS r n
def fdBody : Stmt → List Stmt
  | .FunctionDef _ _ b _ _ _ _ _ _ _ => b
  | _ => []
def fdArgs : Stmt → Arguments
  | .FunctionDef _ a _ _ _ _ _ _ _ _ => a
  | _ => ⟨[], [], none, [], [], none, []⟩
def fdScope : Stmt → Scope
  | .FunctionDef _ _ _ _ _ _ s _ _ _ => s
  | _ => default
def forBody : Stmt → List Stmt
  | .For _ _ b _ _ => b
  | _ => []
def forIter : Stmt → Expr
  | .For _ i _ _ _ => i
  | _ => .Constant .none 0 ⟨0, 0, 0, 0⟩
def forTgt : Stmt → Expr
  | .For t _ _ _ _ => t
  | _ => .Constant .none 0 ⟨0, 0, 0, 0⟩
/-- what comes behind, hidden -/
theorem opq {α : Type} {M : Model} {A : Around} {t : Sem α} {Q : α → Shared → Prop} {E : Value → Shared → Prop} {s : Shared} (h : ∀ Q' : α → Shared → Prop, (∀ v s', Q v s' → Q' v s') → wpAny M A t Q' E s) : wpAny M A t Q E s := h Q fun _ _ q => q
theorem opqE {α : Type} {M : Model} {A : Around} {env : Env} {t : Sem α} {Q : α → Shared → Prop} {E : Value → Shared → Prop} {s : Shared} (hE : PassesOwn M A env E) (h : ∀ E' : Value → Shared → Prop, PassesOwn M A env E' → wpAny M A t Q E' s) : wpAny M A t Q E s := h E hE
theorem execs_step {M : Model} {A : Around} {env : Env} {st : Stmt} {rest : List Stmt} {Q : Flow → Shared → Prop} {E : Value → Shared → Prop} {s : Shared}
    (h : ∀ Q' : Flow → Shared → Prop, (∀ s', wpAny M A (execs rest env) Q E s' → Q' .next s') → wpAny M A (exec st env) Q' E s) : wpAny M A (execs (st :: rest) env) Q E s :=
  wpAny_execs_cons (h _ fun _ q => q)
theorem execs_stepR {M : Model} {A : Around} {env : Env} {st : Stmt} {rest : List Stmt} {Q : Flow → Shared → Prop} {E : Value → Shared → Prop} {s : Shared}
    (h : ∀ Q' : Flow → Shared → Prop, (∀ s', wpAny M A (execs rest env) Q E s' → Q' .next s') → (∀ v s', Q (.ret v) s' → Q' (.ret v) s') → wpAny M A (exec st env) Q' E s) : wpAny M A (execs (st :: rest) env) Q E s :=
  wpAny_execs_cons (h _ (fun _ q => q) fun _ _ q => q)
theorem ctr_int {w : World} {f : Addr} {vs : List Value} {kw : List (Str × Value)} {news : Led} {k : Nat} {x : Int}
    {loose : List Str} {mean : ExcName → Option Value} {mg mb : Str → Option Value} {dp un : Nat} {gd : Option (List Code)} {cn : Str} {cs : Scope} {a : Addr} {ccd : Value} {cl : List (Str × Addr)} {outer : List Env} {A₀ : Around} {base h₀ : Heap} {L : Addr} {m : Str → Option Value} {s : Shared} {Q E : Value → Shared → Prop}
    (hC : Ctr w f vs kw news k (IntBack news x)) (B : Below A₀ base outer h₀) (F : Fr h₀ L s.heap m) (X : (hd.heap_39 w.params).In h₀) (N : News h₀ L s.heap news) (T : Top topProg loose mean mg mb h₀) (hcs : cs.kind = .function)
    (hdp : dp + k < recursionLimit) (hun : un + 8 * k < cLine)
    (hret : ∀ (t : Tok) (h' : Heap) (tk' : Nat), Fr h₀ L h' m → News h₀ L h' news → Q (.int x t) { s with heap := h', toks := tk' }) :
    wpAny (model PR w) (ktrTop dp un gd cn cs L a ccd cl outer) (call (.ref f) vs kw) Q E s :=
  ctr_call hC B F X N T hcs hdp hun fun v news' h' tk' P F' N' => by
    obtain ⟨⟨t, rfl⟩, rfl⟩ := P
    exact hret t h' tk' F' N'
theorem kst_self {m : Str → Option Value} {ps : List (Str × Value)} (hk : ∀ p ∈ ps, m p.1 = some p.2) : kstB m ps = m := by
  funext z
  exact kstB_eq hk fun _ => rfl
theorem fr_kst {h₀ h : Heap} {L : Addr} {m : Str → Option Value} {ps : List (Str × Value)} (hk : ∀ p ∈ ps, m p.1 = some p.2) (F : Fr h₀ L h m) : Fr h₀ L h (kstB m ps) := by
  rw [kst_self hk]; exact F
/-- a name stored, the others kept -/
abbrev put (x : Str) (v : Value) (m : Str → Option Value) : Str → Option Value := fun z => if z = x then some v else m z
theorem put_put {x : Str} {v w : Value} {m : Str → Option Value} : put x v (put x w m) = put x v m := by
  funext z
  show (if z = x then some v else if z = x then some w else m z) = if z = x then some v else m z
  by_cases h : z = x
  · rw [if_pos h, if_pos h]
  · rw [if_neg h, if_neg h, if_neg h]
theorem put_same {x : Str} {v : Value} {m : Str → Option Value} (h : m x = some v) : put x v m = m := by
  funext z
  show (if z = x then some v else m z) = m z
  by_cases e : z = x
  · rw [if_pos e, e, h]
  · rw [if_neg e]
theorem ps_step {m : Str → Option Value} {ps : List (Str × Value)} {x : Str} {v : Value} (h : ∀ p ∈ ps, m p.1 = some p.2) (hx : (ps.map (·.1)).contains x = false) : ∀ p ∈ (x, v) :: ps, put x v m p.1 = some p.2 := fun p hp => by
  rcases List.mem_cons.mp hp with rfl | hp
  · exact if_pos rfl
  · have : p.1 ≠ x := fun e => by
      have : (ps.map (·.1)).contains x = true := by
        rw [List.contains_iff_mem]
        exact List.mem_map.mpr ⟨p, hp, e⟩
      rw [hx] at this; cases this
    show (if p.1 = x then some v else m p.1) = some p.2
    rw [if_neg this]; exact h p hp
theorem put_ne {x y : Str} {v : Value} {m : Str → Option Value} (h : y ≠ x) : put x v m y = m y := if_neg h
theorem put_eq {x : Str} {v : Value} {m : Str → Option Value} : put x v m x = some v := if_pos rfl
theorem allc {m : Str → Option Value} {a : Str} {va : Value} {ps : List (Str × Value)} (h1 : m a = some va) (h2 : ∀ p ∈ ps, m p.1 = some p.2) : ∀ p ∈ (a, va) :: ps, m p.1 = some p.2 := List.forall_mem_cons.mpr ⟨h1, h2⟩
theorem all1 {m : Str → Option Value} {a : Str} {va : Value} (h1 : m a = some va) : ∀ p ∈ [(a, va)], m p.1 = some p.2 := List.forall_mem_cons.mpr ⟨h1, List.forall_mem_nil _⟩
theorem all2 {m : Str → Option Value} {a b : Str} {va vb : Value} (h1 : m a = some va) (h2 : m b = some vb) : ∀ p ∈ [(a, va), (b, vb)], m p.1 = some p.2 := List.forall_mem_cons.mpr ⟨h1, all1 h2⟩
theorem all3 {m : Str → Option Value} {a b c : Str} {va vb vc : Value} (h1 : m a = some va) (h2 : m b = some vb) (h3 : m c = some vc) : ∀ p ∈ [(a, va), (b, vb), (c, vc)], m p.1 = some p.2 := List.forall_mem_cons.mpr ⟨h1, all2 h2 h3⟩
section
variable {prog : Program} {w : World} {A : Around} {E : Value → Shared → Prop} {Q : Flow → Shared → Prop} {s : Shared} {env : Env} {h₀ : Heap} {L : Addr}
/-- a while that turns one int -/
theorem while_int {x : Str} {test : Expr} {body : List Stmt} {pos : Pos} {m : Str → Option Value} {R : Led} {k₀ : Int} {t₀ : Tok} (P D : Int → Prop) (μ : Int → Nat) (hE : PassesOwn (model prog w) A env E)
    (F : Fr h₀ L s.heap m) (N : News h₀ L s.heap R) (hx : m x = some (.int k₀ t₀)) (hp : P k₀)
    (turn : ∀ (k : Int) t h tk (Q1 : Flow → Shared → Prop) (Q2 : Shared → Prop), P k → Fr h₀ L h (put x (.int k t) m) → News h₀ L h R →
      (∀ k' t' h' tk', P k' → μ k' < μ k → Fr h₀ L h' (put x (.int k' t') (put x (.int k t) m)) → News h₀ L h' R → Q1 .next { s with heap := h', toks := tk' }) →
      (∀ h' tk', D k → Fr h₀ L h' (put x (.int k t) m) → News h₀ L h' R → Q2 { s with heap := h', toks := tk' }) →
      wpAny (model prog w) A (isTrue test env (eval test env)) (fun b s₂ => if b = true then wpAny (model prog w) A (execs body env) Q1 E s₂ else Q2 s₂) E { s with heap := h, toks := tk })
    (done : ∀ k t h tk, D k → Fr h₀ L h (put x (.int k t) m) → News h₀ L h R → Q .next { s with heap := h, toks := tk }) :
    wpAny (model prog w) A (exec (.While test body [] pos) env) Q E s := by
  have hm1 : ∀ {k : Int} {t : Tok}, ∀ p ∈ [(x, Value.int k t)], put x (.int k t) m p.1 = some p.2 := fun {k t} p hp => by
    rw [List.mem_singleton.mp hp]; exact if_pos rfl
  have hoff : ∀ {k : Int} {t : Tok} (z : Str), (∀ p ∈ [(x, Value.int k t)], z ≠ p.1) → ([] : List Str).contains z = false → put x (.int k t) m z = m z := fun {k t} z hz _ => if_neg (hz _ (.head _))
  refine my_while2 (σ := Int × Tok) (fun _ => R) (fun c => [(x, .int c.1 c.2)]) [] (fun c => P c.1) (fun c => D c.1) (fun c => μ c.1) (k₀, t₀) F N (fun p hp => by rw [List.mem_singleton.mp hp]; exact hx) hp (fun c u h tk hP F N => ?_) (fun c u h tk hD F N => done c.1 c.2 h tk hD F N) hE
  refine turn c.1 c.2 h tk _ _ hP F N (fun k' t' h' tk' hP' hμ F' N' => ?_) (fun h' tk' hD F' N' => ?_)
  · rw [put_put] at F'
    exact ksw_end (k', t') F' N' (fun p hp => hp) trivial hm1 hoff hP' hμ
  · exact ksw_out c F' N' (fun p hp => hp) hm1 hoff hD
/-- a for over a range, what the turns keep told by J; the body may return -/
theorem range_J {x : Str} {body : List Stmt} {r : Addr} {a₀ b₀ : Int} {t₀ u₀ v₀ : Tok} {n : Nat} {m₀ : Str → Option Value} {news : Led} (J : Nat → (Str → Option Value) → Led → Prop)
    (hh : A.handled = none) (hr : IsRange s.heap r a₀ b₀ 1 t₀ u₀ v₀) (hsmall : Builtin.Range.small a₀ b₀ 1 = true) (hn : Builtin.Range.rangeSize a₀ b₀ 1 = (n : Int)) (F : Fr h₀ env.locals s.heap m₀) (N : News h₀ env.locals s.heap news) (hj : J 0 m₀ news)
    (turn : ∀ (I : Addr) (i : Nat) t m₁ nx h tk it (Q1 : Flow → Shared → Prop), i < n → J i m₁ nx → (∀ p ∈ news, p.1 < I) → (∀ p ∈ nx, p.1 ≠ I) → Fr h₀ env.locals h (put x (.int (a₀ + (i : Int)) t) m₁) → News h₀ env.locals h (nx ++ [(I, it)]) →
      (∀ h' tk' m' nx', Fr h₀ env.locals h' m' → News h₀ env.locals h' (nx' ++ [(I, it)]) → (∀ p ∈ nx', p.1 ≠ I) → J (i + 1) m' nx' → Q1 .next { s with heap := h', toks := tk' }) →
      (∀ v s', Q (.ret v) s' → Q1 (.ret v) s') →
      wpAny (model prog w) A (execs body env) Q1 E { s with heap := h, toks := tk })
    (done : ∀ m₁ nx h tk, J n m₁ nx → Fr h₀ env.locals h m₁ → News h₀ env.locals h nx → Q .next { s with heap := h, toks := tk }) :
    wpAny (model prog w) A (pyIter (.ref r)) (fun it s₂ => LoopAtV prog w A h₀ env x body Q E it s₂) E s := by
  refine wpAny_pyIter_range hr hsmall ?_
  have W : Walks prog w A s.heap.objs.size [s.heap.objs.size] [s.heap.objs.size] n (fun i v => i < n ∧ ∃ t, v = .int (a₀ + i * 1) t)
      (fun i h => IsRangeIter h s.heap.objs.size (a₀ + (i : Nat) * 1) ((n : Int) - (i : Nat)) 1) := (Walks.range hh _ a₀ 1 n).bound
  have hnone : h₀.get? s.heap.objs.size = none := next_is_new F
  refine ⟨_, _, _, n, _, _, m₀, news, J, rfl, W, ?_, ?_, ?_, (by show IsRangeIter _ _ _ _ _; rw [hn]; simpa using Heap.get?_push_size _ rfl), F.push _, (fun p hp => ⟨Heap.get?_push_of_some _ (N p hp).1, (N p hp).2⟩), hj, ?_, ?_⟩
  · intro hm
    exact absurd F.ns.lt ((List.mem_singleton.mp hm) ▸ Nat.lt_irrefl _)
  · intro b hb
    rw [List.mem_singleton.mp hb]; exact hnone
  · intro p hp hI
    exact absurd (Heap.lt_size (N p hp).1) ((List.mem_singleton.mp hI) ▸ Nat.lt_irrefl _)
  · rintro i v m₁ nx s₁ own ⟨hh', tk', rfl⟩ hi ⟨_, t, rfl⟩ hJ hoff hsub hget hall hst F₁ N₁
    have e1 : a₀ + (i : Int) * 1 = a₀ + (i : Int) := by omega
    rw [e1] at F₁
    obtain ⟨it, hit⟩ : ∃ it, hh'.get? s.heap.objs.size = some it := ⟨_, hst⟩
    have hown : ∀ p ∈ own, p = (s.heap.objs.size, it) := by
      intro p hp
      have h1 := List.mem_singleton.mp (hsub p hp)
      have h2 := hget p hp
      rw [h1, show ({ s with heap := hh', toks := tk' } : Shared).heap.get? s.heap.objs.size = some it from hit] at h2
      exact Prod.ext h1 (Option.some.inj h2).symm
    have hin : (s.heap.objs.size, it) ∈ own := hall _ (.head _) hnone _ hit
    refine turn s.heap.objs.size i t m₁ nx hh' tk' it _ hi hJ (fun p hp => Heap.lt_size (N p hp).1) (fun p hp e => hoff p hp (List.mem_singleton.mpr e)) F₁ ?_ (fun h' tk' m' nx' F' N' hx' hj' => ?_) (fun v s' q => LoopStepV.ret q)
    · intro p hp
      rcases List.mem_append.mp hp with hp | hp
      · exact N₁ p (List.mem_append_right _ hp)
      · rw [List.mem_singleton.mp hp]; exact N₁ _ (List.mem_append_left _ hin)
    · refine LoopStepV.next ⟨rfl, h', tk', m', nx', rfl, F', fun p hp => ?_, fun p hp hb => hx' p hp (List.mem_singleton.mp hb), hj'⟩
      rcases List.mem_append.mp hp with hp | hp
      · rw [hown p hp]; exact N' _ (List.mem_append_right _ (.head _))
      · exact N' _ (List.mem_append_left _ hp)
  · intro h' tk m' nx F' N' _ hJ
    exact done m' nx h' tk hJ F' N'
end
end

section
set_option maxRecDepth 100000
set_option maxHeartbeats 8000000
theorem fillBis : (fun (_ : OpenLaw) (_ : Params → Frag) => True) PySem.Challenge.rw_pu0053_01 hd.heap_39 := by
  k_fill
  w_top off
  trivial
theorem getD_mem {ns : List Int} {i : Nat} (h : i < ns.length) : ns.getD i 0 ∈ ns := by
  rw [List.getD_eq_getElem?_getD, List.getElem?_eq_getElem h]; exact List.getElem_mem h
theorem getD_get {ns : List Int} {i : Nat} (h : i < ns.length) : ns[i]? = some (ns.getD i 0) := by
  rw [List.getD_eq_getElem?_getD, List.getElem?_eq_getElem h]; rfl
theorem mid_facts (lo hi : Int) (h : lo < hi) : lo ≤ (lo + hi).fdiv 2 ∧ (lo + hi).fdiv 2 < hi := by
  rw [Int.fdiv_eq_ediv_of_nonneg _ (by decide)]; omega
theorem bl_lo {ns : List Int} {f : Int → Int} {x : Int} {p : Nat} (hp : ∀ i n, ns[i]? = some n → (f n < x ↔ i < p)) {lo hi : Int} (h : 0 ≤ lo ∧ lo ≤ (p : Int) ∧ (p : Int) ≤ hi ∧ hi ≤ (ns.length : Int)) (hl : lo < hi)
    (hx : f (ns.getD ((lo + hi).fdiv 2).toNat 0) < x) : 0 ≤ (lo + hi).fdiv 2 + 1 ∧ (lo + hi).fdiv 2 + 1 ≤ (p : Int) ∧ (p : Int) ≤ hi ∧ hi ≤ (ns.length : Int) := by
  have q := mid_facts _ _ hl
  have := (hp _ _ (getD_get (i := ((lo + hi).fdiv 2).toNat) (by omega))).mp hx
  omega
theorem bl_hi {ns : List Int} {f : Int → Int} {x : Int} {p : Nat} (hp : ∀ i n, ns[i]? = some n → (f n < x ↔ i < p)) {lo hi : Int} (h : 0 ≤ lo ∧ lo ≤ (p : Int) ∧ (p : Int) ≤ hi ∧ hi ≤ (ns.length : Int)) (hl : lo < hi)
    (hx : ¬ f (ns.getD ((lo + hi).fdiv 2).toNat 0) < x) : 0 ≤ lo ∧ lo ≤ (p : Int) ∧ (p : Int) ≤ (lo + hi).fdiv 2 ∧ (lo + hi).fdiv 2 ≤ (ns.length : Int) := by
  have q := mid_facts _ _ hl
  have := mt (hp _ _ (getD_get (i := ((lo + hi).fdiv 2).toNat) (by omega))).mpr hx
  omega
theorem c_bl {w : World} {la kf : Addr} {vs : List Value} {ns : List Int} {c : Nat} {news : Led} (f : Int → Int) (x : Int) (t : Tok) (p : Nat)
   (hm : (la, listOf vs.toArray c) ∈ news) (hi : IntsAre vs ns) (hlen : ns.length ≤ 100) (hpl : p ≤ ns.length)
   (hp : ∀ i n, ns[i]? = some n → (f n < x ↔ i < p))
   {oc : Value} {od : Option Addr} {fd : FuncData} {sl : Array (Option Value)} (hkf : (kf, (⟨oc, od, .func fd, sl⟩ : Obj)) ∈ news)
   (hkey : ∀ n t, n ∈ ns → Ctr w kf [.int n t] [] news 10 (IntBack news (f n))) :
   Ctr w 74 [.ref la, .int x t] [(Str.ofString "key", .ref kf)] news 12 (IntBack news p) := by
  intro loose mean mg mb dp un gd cn cs a ccd cl outer A₀ base h₀ L m s Q E B F X N T hcs hdp hun hret
  have hvl : vs.length = ns.length := hi.length
  refine wpAny_call ?_
  k_dflt (refine' code_def ?k1 ?k2 ?k3 ?k4 ?k5 ?kA ?kF ?kK ?k6 ?k7 ?k8 ?k9 ?kB ?_ ?c2 ?c3 ?c4 ?c5; (case kA => exact rfl); (case kF => exact rfl); (case kK => assumption); (case k1 => k_asm); (case k2 => k_asm); (case k3 => k_asm); (case k4 => k_asm); (case k5 => k_asm); (case k6 => k_is); (case k7 => k_is); (case k8 => ktr_room); (case k9 => (refine' kp_binds ?kx ?ke; (case kx => k_in); (case ke => exact fun _ => rfl))); (case c5 => decide); (case kB => exact locs rfl); (case c2 => exact rfl); (case c3 => exact rfl); (case c4 => exact rfl); k_whole; intro g' L' h' FG' F' N' B' X' T'; (try dsimp only); (try k_lift B'); (try k_fold))
  k_with_none
  k_with "exec While Compare cons nil" => (refine stop_here ?_)
  k_with "call builtin:len" => (refine KM.len_K (n := ns.length) (by k_asm) hm (by rw [List.size_toArray]; exact hvl) (by omega) ?_)
  k_with "callWith ref" => (refine' callWith_F (FnAt.of (by k_asm) hkf) ?_; k_whole)
  k_with "FnAt" => (exact FnAt.of (by k_asm) hkf)
  k_with "call ref" => (k_dflt (refine' ctr_call (hkey _ _ ?hm) ?k1 ?k2 ?k3 ?k4 ?k5 ?kK ?kd ?ku ?_); (case k1 => k_asm); (case k2 => k_asm); (case k3 => k_asm); (case k4 => k_asm); (case k5 => k_asm); (case kK => exact rfl); (case kd => ktr_room); (case ku => ktr_units); (case hm => exact getD_mem (by have := mid_facts _ _ (by assumption); omega)); intro v' news' h' tk' P' F' N'; obtain ⟨⟨t', e1'⟩, e2'⟩ := P'; subst e1'; subst e2'; (try dsimp only); (try k_fold))
  k_steps
  refine Stop.mk ?_
  rename_i F₁ N₁
  refine' my_while (σ := Int × Tok × Int × Tok) (fun _ => news) (fun c => [(Str.ofString "lo", .int c.1 c.2.1), (Str.ofString "hi", .int c.2.2.1 c.2.2.2)]) [Str.ofString "mid"]
    (fun c => 0 ≤ c.1 ∧ c.1 ≤ (p : Int) ∧ (p : Int) ≤ c.2.2.1 ∧ c.2.2.1 ≤ (ns.length : Int)) (fun c => (c.2.2.1 - c.1).toNat) ⟨0, _, ns.length, _⟩ F₁ N₁ ?hk ?hp ?turn ?hE
  case hk => kst_all
  case hp => dsimp only; omega
  case hE => passes_own
  case turn =>
    rintro ⟨lo, tlo, hi', thi⟩ u h tk hinv F₂ N₂
    dsimp only [kstB] at hinv F₂ N₂ ⊢
    k_steps
    · refine' ksw_end ⟨_, _, _, _⟩ ?f1 ?n1 ?a1 ?a2 ?a3 ?a4 ?a5 ?a6
      case f1 => assumption
      case n1 => assumption
      case a3 => kst_all
      case a1 => exact fun p hp => hp
      case a2 => trivial
      case a4 => ksw_same
      case a5 => exact bl_lo hp hinv (by assumption) (by assumption)
      case a6 => (have q9 := mid_facts lo hi' (by assumption)); dsimp only; omega
    · refine' ksw_end ⟨_, _, _, _⟩ ?f1 ?n1 ?a1 ?a2 ?a3 ?a4 ?a5 ?a6
      case f1 => assumption
      case n1 => assumption
      case a3 => kst_all
      case a1 => exact fun p hp => hp
      case a2 => trivial
      case a4 => ksw_same
      case a5 => exact bl_hi hp hinv (by assumption) (by assumption)
      case a6 => (have q9 := mid_facts lo hi' (by assumption)); dsimp only; omega
    · refine hret _ _ _ _ ⟨⟨_, congrArg (fun z => Value.int z _) ?_⟩, rfl⟩ (by assumption) (by assumption)
      omega
theorem br_lo {ns : List Int} {f : Int → Int} {x : Int} {p : Nat} (hp : ∀ i n, ns[i]? = some n → (¬ x < f n ↔ i < p)) {lo hi : Int} (h : 0 ≤ lo ∧ lo ≤ (p : Int) ∧ (p : Int) ≤ hi ∧ hi ≤ (ns.length : Int)) (hl : lo < hi)
    (hx : ¬ x < f (ns.getD ((lo + hi).fdiv 2).toNat 0)) : 0 ≤ (lo + hi).fdiv 2 + 1 ∧ (lo + hi).fdiv 2 + 1 ≤ (p : Int) ∧ (p : Int) ≤ hi ∧ hi ≤ (ns.length : Int) := by
  have q := mid_facts _ _ hl
  have := (hp _ _ (getD_get (i := ((lo + hi).fdiv 2).toNat) (by omega))).mp hx
  omega
theorem br_hi {ns : List Int} {f : Int → Int} {x : Int} {p : Nat} (hp : ∀ i n, ns[i]? = some n → (¬ x < f n ↔ i < p)) {lo hi : Int} (h : 0 ≤ lo ∧ lo ≤ (p : Int) ∧ (p : Int) ≤ hi ∧ hi ≤ (ns.length : Int)) (hl : lo < hi)
    (hx : x < f (ns.getD ((lo + hi).fdiv 2).toNat 0)) : 0 ≤ lo ∧ lo ≤ (p : Int) ∧ (p : Int) ≤ (lo + hi).fdiv 2 ∧ (lo + hi).fdiv 2 ≤ (ns.length : Int) := by
  have q := mid_facts _ _ hl
  have := mt (hp _ _ (getD_get (i := ((lo + hi).fdiv 2).toNat) (by omega))).mpr (by omega)
  omega
theorem c_br {w : World} {la kf : Addr} {vs : List Value} {ns : List Int} {c : Nat} {news : Led} (f : Int → Int) (x : Int) (t : Tok) (p : Nat)
   (hm : (la, listOf vs.toArray c) ∈ news) (hi : IntsAre vs ns) (hlen : ns.length ≤ 100) (hpl : p ≤ ns.length)
   (hp : ∀ i n, ns[i]? = some n → (¬ x < f n ↔ i < p))
   {oc : Value} {od : Option Addr} {fd : FuncData} {sl : Array (Option Value)} (hkf : (kf, (⟨oc, od, .func fd, sl⟩ : Obj)) ∈ news)
   (hkey : ∀ n t, n ∈ ns → Ctr w kf [.int n t] [] news 10 (IntBack news (f n))) :
   Ctr w 65 [.ref la, .int x t] [(Str.ofString "key", .ref kf)] news 12 (IntBack news p) := by
  intro loose mean mg mb dp un gd cn cs a ccd cl outer A₀ base h₀ L m s Q E B F X N T hcs hdp hun hret
  have hvl : vs.length = ns.length := hi.length
  refine wpAny_call ?_
  k_dflt (refine' code_def ?k1 ?k2 ?k3 ?k4 ?k5 ?kA ?kF ?kK ?k6 ?k7 ?k8 ?k9 ?kB ?_ ?c2 ?c3 ?c4 ?c5; (case kA => exact rfl); (case kF => exact rfl); (case kK => assumption); (case k1 => k_asm); (case k2 => k_asm); (case k3 => k_asm); (case k4 => k_asm); (case k5 => k_asm); (case k6 => k_is); (case k7 => k_is); (case k8 => ktr_room); (case k9 => (refine' kp_binds ?kx ?ke; (case kx => k_in); (case ke => exact fun _ => rfl))); (case c5 => decide); (case kB => exact locs rfl); (case c2 => exact rfl); (case c3 => exact rfl); (case c4 => exact rfl); k_whole; intro g' L' h' FG' F' N' B' X' T'; (try dsimp only); (try k_lift B'); (try k_fold))
  k_with_none
  k_with "exec While Compare cons nil" => (refine stop_here ?_)
  k_with "call builtin:len" => (refine KM.len_K (n := ns.length) (by k_asm) hm (by rw [List.size_toArray]; exact hvl) (by omega) ?_)
  k_with "callWith ref" => (refine' callWith_F (FnAt.of (by k_asm) hkf) ?_; k_whole)
  k_with "FnAt" => (exact FnAt.of (by k_asm) hkf)
  k_with "call ref" => (k_dflt (refine' ctr_call (hkey _ _ ?hm) ?k1 ?k2 ?k3 ?k4 ?k5 ?kK ?kd ?ku ?_); (case k1 => k_asm); (case k2 => k_asm); (case k3 => k_asm); (case k4 => k_asm); (case k5 => k_asm); (case kK => exact rfl); (case kd => ktr_room); (case ku => ktr_units); (case hm => exact getD_mem (by have := mid_facts _ _ (by assumption); omega)); intro v' news' h' tk' P' F' N'; obtain ⟨⟨t', e1'⟩, e2'⟩ := P'; subst e1'; subst e2'; (try dsimp only); (try k_fold))
  k_steps
  refine Stop.mk ?_
  rename_i F₁ N₁
  refine' my_while (σ := Int × Tok × Int × Tok) (fun _ => news) (fun c => [(Str.ofString "lo", .int c.1 c.2.1), (Str.ofString "hi", .int c.2.2.1 c.2.2.2)]) [Str.ofString "mid"]
    (fun c => 0 ≤ c.1 ∧ c.1 ≤ (p : Int) ∧ (p : Int) ≤ c.2.2.1 ∧ c.2.2.1 ≤ (ns.length : Int)) (fun c => (c.2.2.1 - c.1).toNat) ⟨0, _, ns.length, _⟩ F₁ N₁ ?hk ?hp ?turn ?hE
  case hk => kst_all
  case hp => dsimp only; omega
  case hE => passes_own
  case turn =>
    rintro ⟨lo, tlo, hi', thi⟩ u h tk hinv F₂ N₂
    dsimp only [kstB] at hinv F₂ N₂ ⊢
    k_steps
    · refine' ksw_end ⟨_, _, _, _⟩ ?f1 ?n1 ?a1 ?a2 ?a3 ?a4 ?a5 ?a6
      case f1 => assumption
      case n1 => assumption
      case a3 => kst_all
      case a1 => exact fun p hp => hp
      case a2 => trivial
      case a4 => ksw_same
      case a5 => exact br_hi hp hinv (by assumption) (by assumption)
      case a6 => (have q9 := mid_facts lo hi' (by assumption)); dsimp only; omega
    · refine' ksw_end ⟨_, _, _, _⟩ ?f1 ?n1 ?a1 ?a2 ?a3 ?a4 ?a5 ?a6
      case f1 => assumption
      case n1 => assumption
      case a3 => kst_all
      case a1 => exact fun p hp => hp
      case a2 => trivial
      case a4 => ksw_same
      case a5 => exact br_lo hp hinv (by assumption) (by assumption)
      case a6 => (have q9 := mid_facts lo hi' (by assumption)); dsimp only; omega
    · refine hret _ _ _ _ ⟨⟨_, congrArg (fun z => Value.int z _) ?_⟩, rfl⟩ (by assumption) (by assumption)
      omega
end

section
set_option maxRecDepth 100000
set_option maxHeartbeats 8000000
theorem fillSub : (fun (_ : OpenLaw) (_ : Params → Frag) => True) PySem.Challenge.rw_pu0053_01 hd.heap_39 := by
  k_fill
  w_top off
  trivial
theorem c_sub {w : World} {news : Led} (a b : Str) (ta tb : Tok) (ha : a.length ≤ 1) (hb : b.length ≤ 1) (hab : (a == b) = false) (hl : (Txt.lower a == Txt.lower b) = false) :
   Ctr w 81 [.str a ta, .str b tb] [] news 2 (IntBack news 2) := by
  intro loose mean mg mb dp un gd cn cs ad ccd cl outer A₀ base h₀ L m s Q E B F X N T hcs hdp hun hret
  refine wpAny_call ?_
  k_dflt cell_enter
  k_with_none
  k_steps
  exact hret _ _ _ _ ⟨⟨_, rfl⟩, rfl⟩ (by assumption) (by assumption)
end

section
open PySem PySem.W PyProof.Rows PySem.Builtin PySem.Builtin.Str
/-- m signs c, n signs d -/
def R2 (c m d n : Nat) : Str := ⟨(List.replicate m c ++ List.replicate n d).toArray⟩
theorem R2_length (c m d n : Nat) : (R2 c m d n).length = m + n := by
  simp [R2, Str.length]
theorem slice_nn (x : Str) : Txt.slice x none none = x := by
  unfold Txt.slice
  rw [if_pos]
  have h3 : (1 : Int) > 0 := by decide
  simp only [strSliceIndices, sliceRange, h3, if_true, List.length_map, List.length_range, beq_self_eq_true, Bool.true_and, beq_iff_eq]
  split <;> omega
theorem slice_sn (x : Str) (k : Nat) (h : k ≤ x.length) : Txt.slice x (some (k : Int)) none = ⟨(x.cps.toList.drop k).toArray⟩ := by
  rw [slice_from_eq (b := x.length) (by omega) (by omega) rfl]
  congr 2
  rw [List.take_of_length_le]
  · congr 1
  · simp only [List.length_drop, Array.length_toList]
    have : x.cps.size = x.length := rfl
    omega
theorem slice_ns (x : Str) (k : Nat) (h : k ≤ x.length) : Txt.slice x none (some (k : Int)) = ⟨(x.cps.toList.take k).toArray⟩ := by
  have e := beq_iff_eq.mp (slice_closes_toL (x := x) (j := (k : Int)) (by omega) (by omega))
  rw [e]
  congr 2
theorem slice_neg (x : Str) (k : Nat) (h0 : 0 < k) (h : k ≤ x.length) : Txt.slice x none (some (-(k : Int))) = ⟨(x.cps.toList.take (x.length - k)).toArray⟩ := by
  rw [← slice_ns x (x.length - k) (by omega)]
  have e : strSliceIndices none (some (-(k : Int))) 1 x.length = strSliceIndices none (some ((x.length - k : Nat) : Int)) 1 x.length := by
    have h1 : -(k : Int) < 0 := by omega
    have h2 : ¬ (((x.length - k : Nat) : Int) < 0) := by omega
    have h3 : (1 : Int) > 0 := by decide
    have h4 : -(k : Int) + (x.length : Int) = ((x.length - k : Nat) : Int) := by omega
    simp only [strSliceIndices, h1, h2, h3, if_false, if_true, h4]
  unfold Txt.slice
  rw [e]
theorem item_nat (x : Str) (k : Nat) (h : k < x.length) : Txt.item x (k : Int) = ⟨#[x.cps.toList[k]?.getD 0]⟩ := by
  have h1 : ¬ ((k : Int) < 0) := by omega
  have h2 : (0 ≤ (k : Int) && (k : Int) < (x.length : Int)) = true := by simp; omega
  have h3 : ((k : Int) < (x.length : Int)) := by omega
  unfold Txt.item Txt.charAt seqIndex?
  simp [h1, h3]
theorem item_neg (x : Str) (k : Nat) (h : k < x.length) : Txt.item x (-(k : Int) - 1) = ⟨#[x.cps.toList[x.length - 1 - k]?.getD 0]⟩ := by
  have h1 : (-(k : Int) - 1 < 0) := by omega
  have h3 : (0 ≤ -(k : Int) - 1 + x.length) := by omega
  have h4 : (-(k : Int) - 1 + x.length < x.length) := by omega
  have h5 : (-(k : Int) - 1 + x.length).toNat = x.length - 1 - k := by omega
  unfold Txt.item Txt.charAt seqIndex?
  simp [h1, h3, h4, h5]
theorem foldl_rep (c : Nat) : ∀ (n : Nat) (acc : Array Nat), (List.replicate n (#[c] : Array Nat)).foldl (· ++ ·) acc = acc ++ (List.replicate n c).toArray
  | 0, acc => by simp
  | n + 1, acc => by
    rw [List.replicate_succ, List.foldl_cons, foldl_rep c n, List.replicate_succ]
    apply Array.ext'
    simp
theorem mul_one (c : Nat) (n : Int) : Txt.mul ⟨#[c]⟩ n = ⟨(List.replicate n.toNat c).toArray⟩ := by
  unfold Txt.mul
  by_cases h : n < 1
  · rw [if_pos h]
    have : n.toNat = 0 := by omega
    simp [this, Str.empty]
  · rw [if_neg h]
    by_cases h1 : n = 1
    · subst h1; simp
    · rw [if_neg]
      · rw [foldl_rep]; simp
      · simp [h1, Str.length]
theorem R2_mul (c d : Nat) (m n : Int) : Txt.mul ⟨#[c]⟩ m ++ Txt.mul ⟨#[d]⟩ n = R2 c m.toNat d n.toNat := by
  rw [mul_one, mul_one]
  apply Str.ext'
  simp [R2, Str.cps_append]
theorem slice_nn_len (x : Str) : (Txt.slice x none none).length = x.length := by rw [slice_nn]
theorem slice_neg_len (x : Str) (k : Int) (h0 : k < 0) (h : -k ≤ x.length) : ((Txt.slice x none (some k)).length : Int) = x.length + k := by
  have e := slice_neg x (-k).toNat (by omega) (by omega)
  have e2 : -((-k).toNat : Int) = k := by omega
  rw [e2] at e
  rw [e]
  have : x.cps.toList.length = x.length := by simp [Str.length]
  simp [Str.length] at *
  omega
theorem slice_sn_len (x : Str) (k : Int) (h0 : 0 ≤ k) (h : k ≤ x.length) : ((Txt.slice x (some k) none).length : Int) = x.length - k := by
  have e := slice_sn x k.toNat (by omega)
  have e2 : (k.toNat : Int) = k := by omega
  rw [e2] at e
  rw [e]
  have : x.cps.toList.length = x.length := by simp [Str.length]
  simp [Str.length] at *
  omega
end

section
set_option maxRecDepth 100000
def rowAt (p j : Nat) : List Int := (List.range p).map fun (k : Nat) => 2 * max ((k : Int) + 1) (j : Int)
def rowMid (p j i : Nat) : List Int := (List.range p).map fun (k : Nat) => if k < i then 2 * max ((k : Int) + 1) ((j : Int) + 1) else 2 * max ((k : Int) + 1) (j : Int)
theorem rowAt_length (p j : Nat) : (rowAt p j).length = p := by simp [rowAt]
theorem rowMid_length (p j i : Nat) : (rowMid p j i).length = p := by simp [rowMid]
theorem rowMid_zero (p j : Nat) : rowMid p j 0 = rowAt p j := by simp [rowMid, rowAt]
theorem rowMid_full (p j : Nat) : rowMid p j p = rowAt p (j + 1) := by
  unfold rowMid rowAt
  apply List.map_congr_left
  intro k hk
  rw [if_pos (List.mem_range.mp hk)]
  push_cast
  rfl
theorem rowMid_get {p j i : Nat} (h : i < p) : (rowMid p j i).getD i 0 = 2 * max ((i : Int) + 1) (j : Int) := by
  unfold rowMid
  rw [List.getD_eq_getElem?_getD, List.getElem?_map, List.getElem?_range h]
  simp
theorem rowMid_set {p j i : Nat} (h : i < p) : (rowMid p j i).set i (2 * max ((i : Int) + 1) ((j : Int) + 1)) = rowMid p j (i + 1) := by
  apply List.ext_getElem?
  intro k
  rw [List.getElem?_set]
  unfold rowMid
  by_cases hk : k < p
  · by_cases e : i = k
    · subst e
      simp [hk]
    · rw [if_neg e, List.getElem?_map, List.getElem?_map, List.getElem?_range hk]
      simp only [Option.map_some, Option.some.injEq]
      by_cases h1 : k < i
      · rw [if_pos h1, if_pos (by omega)]
      · rw [if_neg h1, if_neg (by omega)]
  · have e : i ≠ k := by omega
    rw [if_neg e, List.getElem?_eq_none (by simp; omega), List.getElem?_eq_none (by simp; omega)]
theorem row_start (n : Nat) : (List.range n).map (fun (i : Nat) => (2 : Int) + (i : Int) * 2) = rowAt n 0 := by
  unfold rowAt
  apply List.map_congr_left
  intro k _
  rw [Int.max_eq_left (by omega)]
  omega
theorem ints_step : ∀ (vs : List Value) (a c : Int) (n : Nat), vs.length = n → (∀ (j : Nat) (v : Value), vs[j]? = some v → ∃ t, v = .int (a + j * c) t) → IntsAre vs ((List.range n).map fun (i : Nat) => a + (i : Int) * c)
  | [], a, c, n, e, _ => by
    subst e
    exact IntsAre.nil
  | v :: r, a, c, n, e, h => by
    subst e
    rw [List.length_cons, List.range_succ_eq_map, List.map_cons, List.map_map]
    obtain ⟨t, ht⟩ := h 0 v rfl
    have hv : v = .int (a + ((0 : Nat) : Int) * c) t := ht
    subst hv
    refine IntsAre.cons _ _ ?_
    have := ints_step r (a + c) c r.length rfl fun j v hj => by
      obtain ⟨t', ht'⟩ := h (j + 1) v hj
      refine ⟨t', ht'.trans ?_⟩
      congr 1
      push_cast
      rw [Int.add_mul]; omega
    have e : (List.range r.length).map ((fun (i : Nat) => a + (i : Int) * c) ∘ Nat.succ) = (List.range r.length).map (fun (i : Nat) => a + c + (i : Int) * c) := by
      apply List.map_congr_left
      intro i _
      simp only [Function.comp]
      push_cast
      rw [Int.add_mul]; omega
    rw [e]
    exact this
section
variable {prog : Program} {w : World} {A : Around} {E : Value → Shared → Prop} {s : Shared} {h₀ : Heap} {L l r : Addr} {m : Str → Option Value} {news : List (Addr × Obj)} {a b c : Int} {t₀ u₀ v₀ : Tok} {n : Nat} {Q : Value → Shared → Prop}
theorem list_step (hh : A.handled = none) (F : Fr h₀ L s.heap m) (N : News h₀ L s.heap news) (hr : IsRange s.heap r a b c t₀ u₀ v₀) (hsmall : Builtin.Range.small a b c = true) (hn : Builtin.Range.rangeSize a b c = (n : Int)) (hz : n ≤ 2 ^ 24)
    (h : ∀ D us d h' tk, Fr h₀ L h' m → News h₀ L h' ((D, listOf (List.toArray us) d) :: news) → (∀ p ∈ news, p.1 < D) → IntsAre us ((List.range n).map fun (i : Nat) => a + (i : Int) * c) → Q (.ref D) { s with heap := h', toks := tk }) :
    wpAny (model prog w) A (call (.type "list") [.ref r]) Q E s := by
  refine call_list_range hh hr hsmall hn hz fun h' tk acc d hk hD hI => ?_
  have hD' : h'.get? s.heap.objs.size = some (listOf (List.toArray acc.toList) d) := by
    rw [Array.toArray_toList]
    exact hD
  exact h _ acc.toList d h' tk (F.keeps hk) (news_pushed F N hk hD' rfl) (fun p hp => Heap.lt_size (N p hp).1) (ints_step _ _ _ _ (by rw [Array.length_toList]; exact hI.1) fun j v hj => hI.2 j v (by rw [← hj, Array.getElem?_toList]))
end
theorem range2_size (p : Nat) : Builtin.Range.rangeSize 2 (2 * ((p : Int) + 1)) 2 = (p : Int) := by
  unfold Builtin.Range.rangeSize
  rw [if_pos (by decide)]
  split <;> omega
theorem range2_small (p : Nat) (h : p ≤ 100) : Builtin.Range.small 2 (2 * ((p : Int) + 1)) 2 = true := by
  have : ∀ p : Nat, p < 101 → Builtin.Range.small 2 (2 * ((p : Int) + 1)) 2 = true := by decide +kernel
  exact this p (by omega)
theorem kstB_same {m : Str → Option Value} {ps : List (Str × Value)} (h : ∀ p ∈ ps, m p.1 = some p.2) : kstB m ps = m := by
  funext z
  exact kstB_eq h fun _ => rfl
theorem range1_size (q : Nat) : Builtin.Range.rangeSize 0 (q : Int) 1 = (q : Int) := by
  unfold Builtin.Range.rangeSize
  rw [if_pos (by decide)]
  split <;> omega
theorem mx1 (i j : Int) : max i j ≤ max (i + 1) j := Int.max_le.mpr ⟨Int.le_trans (Int.le_of_lt (Int.lt_succ i)) (Int.le_max_left _ _), Int.le_max_right _ _⟩
theorem mx2 (i j : Int) : max (i + 1) (j + 1) = max i j + 1 := by
  rcases Int.le_total i j with h | h
  · rw [Int.max_eq_right h, Int.max_eq_right (Int.add_le_add_right h 1)]
  · rw [Int.max_eq_left h, Int.max_eq_left (Int.add_le_add_right h 1)]
theorem mn_eq {a m : Int} (h : a ≤ m) : (if a + 2 < m + 2 then a + 2 else m + 2) = a + 2 := by
  split
  · rfl
  · omega
theorem dp_val {i j : Nat} {di r g : Int} (hdi : di = 2 * max (i : Int) (j : Int)) (hr : 2 * max (i : Int) (j : Int) ≤ r) (hg : g = 2 * max ((i : Int) + 1) (j : Int)) :
    (if di + 2 < (if g < r then g else r) + 2 then di + 2 else (if g < r then g else r) + 2) = 2 * max ((i : Int) + 1) ((j : Int) + 1) := by
  have h1 : di ≤ g := by rw [hdi, hg]; exact Int.mul_le_mul_of_nonneg_left (mx1 _ _) (by decide)
  have h2 : di ≤ r := by rw [hdi]; exact hr
  rw [mn_eq (by split; exact h1; exact h2), mx2, hdi, Int.mul_add]; rfl
theorem mem_head_ext {a : Addr × Obj} {l l' : Led} (h : ∀ p ∈ l, p ∈ l') : ∀ p ∈ a :: l, p ∈ a :: l' := fun p hp =>
  (List.mem_cons.mp hp).elim (fun e => e ▸ .head _) fun q => .tail _ (h p q)
end

section
set_option maxRecDepth 100000
set_option maxHeartbeats 8000000
theorem fillLv1 : (fun (_ : OpenLaw) (_ : Params → Frag) => True) PySem.Challenge.rw_pu0053_01 hd.heap_39 := by
  k_fill
  w_top off
  trivial
noncomputable def levF : Stmt := nthS PySem.Challenge.pw_pu0053_01.main.body 16
noncomputable abbrev levEnv (L : Addr) : Env := envOf (Str.ofString "_levenshtein_distance") (fdScope levF) L 88 (.ref 87)
theorem sz40 {n : Nat} (h : n ≤ 40) : n ≤ sizeLine := Nat.le_trans h (by rw [sizeLine_eq]; decide)
theorem lv1 {A B : Str} {P : Nat} {pre : Int} (hst : P < A.length → P < B.length → (Txt.item A P == Txt.item B P) = false) (h0 : 0 ≤ pre) (h1 : pre ≤ (P : Int)) (ha : pre < A.length) (hb : pre < B.length) (e : (Txt.item A pre == Txt.item B pre) = true) : pre + 1 ≤ (P : Int) := by
  by_cases h : pre = (P : Int)
  · subst h
    rw [hst (by omega) (by omega)] at e; cases e
  · omega
theorem lv2 {A B : Str} {P : Nat} {pre : Int} (hpre : ∀ k : Int, 0 ≤ k → k < P → (Txt.item A k == Txt.item B k) = true) (h0 : 0 ≤ pre) (h1 : pre ≤ (P : Int)) (e : (Txt.item A pre == Txt.item B pre) = false) : pre = (P : Int) := by
  by_cases h : pre = (P : Int)
  · exact h
  · rw [hpre pre h0 (by omega)] at e; cases e
section
variable {w : World} {Q : Flow → Shared → Prop} {E : Value → Shared → Prop} {g : Heap} {L L0 ad : Addr} {m : Str → Option Value} {s : Shared} {R : Led} {loose : List Str} {mean : ExcName → Option Value} {mg mb : Str → Option Value}
  {dp un : Nat} {gd : Option (List Code)} {cn : Str} {cs : Scope} {ccd : Value} {cl : List (Str × Addr)} {outer : List Env} {A B : Str} {ta tb : Tok}
theorem lev_s0 (X : (hd.heap_39 w.params).In g) (T : Top topProg loose mean mg mb g) (hne : (A == B) = false) (hm : ∀ p ∈ [(Str.ofString "a", .str A ta), (Str.ofString "b", .str B tb)], m p.1 = some p.2) (F : Fr g L s.heap m) (N : News g L s.heap R)
    (hQ : ∀ h' tk', Fr g L h' m → News g L h' R → Q .next { s with heap := h', toks := tk' }) :
    wpAny (model PR w) ((ktrTop dp un gd cn cs L0 ad ccd cl outer).deeper (levEnv L)) (exec (nthS (fdBody levF) 0) (levEnv L)) Q E s := by
  rw [← kst_self hm] at F hQ
  clear hm
  dsimp only [levF, nthS, fdBody, PySem.Challenge.pw_pu0053_01]
  dsimp only [kstB] at F hQ
  k_with_none
  k_steps
  exact hQ _ _ (by assumption) (by assumption)
theorem lev_s1 (X : (hd.heap_39 w.params).In g) (F : Fr g L s.heap m) (N : News g L s.heap R)
    (hQ : ∀ t h' tk', Fr g L h' (put (Str.ofString "pre") (.int 0 t) m) → News g L h' R → Q .next { s with heap := h', toks := tk' }) :
    wpAny (model PR w) ((ktrTop dp un gd cn cs L0 ad ccd cl outer).deeper (levEnv L)) (exec (nthS (fdBody levF) 1) (levEnv L)) Q E s := by
  dsimp only [levF, nthS, fdBody, PySem.Challenge.pw_pu0053_01]
  k_steps
  exact hQ _ _ _ (by assumption) (by assumption)
theorem lev_s5 (X : (hd.heap_39 w.params).In g) (F : Fr g L s.heap m) (N : News g L s.heap R)
    (hQ : ∀ t h' tk', Fr g L h' (put (Str.ofString "post") (.int 0 t) m) → News g L h' R → Q .next { s with heap := h', toks := tk' }) :
    wpAny (model PR w) ((ktrTop dp un gd cn cs L0 ad ccd cl outer).deeper (levEnv L)) (exec (nthS (fdBody levF) 5) (levEnv L)) Q E s := by
  dsimp only [levF, nthS, fdBody, PySem.Challenge.pw_pu0053_01]
  k_steps
  exact hQ _ _ _ (by assumption) (by assumption)
theorem lev_s14 (X : (hd.heap_39 w.params).In g) (F : Fr g L s.heap m) (N : News g L s.heap R)
    (hQ : ∀ t h' tk', Fr g L h' (put (Str.ofString "result") (.int 0 t) m) → News g L h' R → Q .next { s with heap := h', toks := tk' }) :
    wpAny (model PR w) ((ktrTop dp un gd cn cs L0 ad ccd cl outer).deeper (levEnv L)) (exec (nthS (fdBody levF) 14) (levEnv L)) Q E s := by
  dsimp only [levF, nthS, fdBody, PySem.Challenge.pw_pu0053_01]
  k_steps
  exact hQ _ _ _ (by assumption) (by assumption)
theorem lev_s2 {P : Nat} {t0 : Tok} (X : (hd.heap_39 w.params).In g) (hPO : PassesOwn (model PR w) ((ktrTop dp un gd cn cs L0 ad ccd cl outer).deeper (levEnv L)) (levEnv L) E) (hA : A.length ≤ 40) (hB : B.length ≤ 40) (hPA : P ≤ A.length) (hPB : P ≤ B.length)
    (hpre : ∀ k : Int, 0 ≤ k → k < P → (Txt.item A k == Txt.item B k) = true) (hst : P < A.length → P < B.length → (Txt.item A P == Txt.item B P) = false)
    (hm : ∀ p ∈ [(Str.ofString "pre", .int 0 t0), (Str.ofString "a", .str A ta), (Str.ofString "b", .str B tb)], m p.1 = some p.2) (F : Fr g L s.heap m) (N : News g L s.heap R)
    (hQ : ∀ t h' tk', Fr g L h' (put (Str.ofString "pre") (.int P t) m) → News g L h' R → Q .next { s with heap := h', toks := tk' }) :
    wpAny (model PR w) ((ktrTop dp un gd cn cs L0 ad ccd cl outer).deeper (levEnv L)) (exec (nthS (fdBody levF) 2) (levEnv L)) Q E s := by
  rw [← kst_self hm] at F hQ
  clear hm
  dsimp only [levF, nthS, fdBody, PySem.Challenge.pw_pu0053_01]
  refine while_int (x := Str.ofString "pre") (fun k => 0 ≤ k ∧ k ≤ (P : Int)) (fun k => k = P) (fun k => (P - k).toNat) hPO F N rfl ⟨Int.le_refl 0, Int.natCast_nonneg P⟩ ?_ (fun k t h tk hk F N => hQ t h tk (by rw [← hk]; exact F) N)
  clear F N hQ
  rintro k t h tk Q1 Q2 ⟨h0, h1⟩ F N hQ1 hQ2
  dsimp only [kstB, put] at F hQ1 hQ2
  have q1 := slice_sn_len A k h0 (by omega)
  have q2 := slice_sn_len B k h0 (by omega)
  k_with_none
  k_with "subscriptTail Name Slice str ref" => ((with_reducible show wpAny _ _ (subscriptTail _ (Expr.Slice (some _) none none _) (Value.str _ _) (Value.ref _)) _ _ _); (with_reducible rename Fr _ _ _ _ => F'); (with_reducible rename News _ _ _ _ => N'); (refine slice_strN_sn (hsz := sz40 (by assumption)) (s := ⟨_, _, _, _, _⟩) F' N' ?_); (clear F' N'); intro _ _ _ _ _; (try dsimp only))
  k_steps
  · have h3 : k + 1 ≤ (P : Int) := lv1 hst h0 h1 (by omega) (by omega) (by assumption)
    exact hQ1 (k + 1) _ _ _ ⟨by omega, h3⟩ (by omega) (by assumption) (by assumption)
  · exact hQ2 _ _ (lv2 hpre h0 h1 (by assumption)) (by assumption) (by assumption)
  · exact hQ2 _ _ (by omega) (by assumption) (by assumption)
  · exact hQ2 _ _ (by omega) (by assumption) (by assumption)
end
end

section
set_option maxRecDepth 100000
set_option maxHeartbeats 8000000
theorem fillLv2 : (fun (_ : OpenLaw) (_ : Params → Frag) => True) PySem.Challenge.rw_pu0053_01 hd.heap_39 := by
  k_fill
  w_top off
  trivial
theorem lv3 {A B : Str} {S : Nat} {k : Int} (hst : S < A.length → S < B.length → (Txt.item A (-(S : Int) - 1) == Txt.item B (-(S : Int) - 1)) = false) (h0 : k ≤ 0) (h1 : -(S : Int) ≤ k) (ha : -k < A.length) (hb : -k < B.length) (e : (Txt.item A (k - 1) == Txt.item B (k - 1)) = true) : -(S : Int) ≤ k - 1 := by
  by_cases h : k = -(S : Int)
  · subst h
    rw [hst (by omega) (by omega)] at e; cases e
  · omega
theorem lv4 {A B : Str} {S : Nat} {k : Int} (hpre : ∀ k : Int, k ≤ 0 → -(S : Int) < k → (Txt.item A (k - 1) == Txt.item B (k - 1)) = true) (h0 : k ≤ 0) (h1 : -(S : Int) ≤ k) (e : (Txt.item A (k - 1) == Txt.item B (k - 1)) = false) : k = -(S : Int) := by
  by_cases h : k = -(S : Int)
  · exact h
  · rw [hpre k h0 (by omega)] at e; cases e
/-- a text without its last signs -/
def cut (A : Str) (k : Int) : Str := if k = 0 then A else Txt.slice A none (some k)
theorem cut_len (A : Str) (k : Int) (h0 : k ≤ 0) (h1 : -(A.length : Int) ≤ k) : ((cut A k).length : Int) = A.length + k := by
  unfold cut
  by_cases h : k = 0
  · rw [if_pos h, h, Int.add_zero]
  · rw [if_neg h]
    have := slice_neg_len A k (by omega) (by omega)
    omega
section
variable {w : World} {Q : Flow → Shared → Prop} {K E : Value → Shared → Prop} {g : Heap} {L L0 ad : Addr} {m : Str → Option Value} {s : Shared} {R : Led} {loose : List Str} {mean : ExcName → Option Value} {mg mb : Str → Option Value}
  {dp un : Nat} {gd : Option (List Code)} {cn : Str} {cs : Scope} {ccd : Value} {cl : List (Str × Addr)} {outer : List Env} {A B A1 B1 : Str} {ta tb tp : Tok} {k : Int} {P S : Nat}
theorem ev_pa {p1 p2 p3 p4 p5 p6 : Pos} {k3 : Nat} (X : (hd.heap_39 w.params).In g) (hA : A.length ≤ 40) (hm : ∀ p ∈ [(Str.ofString "a", .str A ta), (Str.ofString "post", .int k tp)], m p.1 = some p.2) (F : Fr g L s.heap m) (N : News g L s.heap R)
    (hQ : ∀ t h' tk', Fr g L h' m → News g L h' R → K (.str (cut A k) t) { s with heap := h', toks := tk' }) :
    wpAny (model PR w) ((ktrTop dp un gd cn cs L0 ad ccd cl outer).deeper (levEnv L)) (eval (.Subscript (.Name (Str.ofString "a") p1) (.Slice none (some (.BoolOp .Or [.Name (Str.ofString "post") p2, .Constant .none k3 p3] p4)) none p5) p6) (levEnv L)) K E s := by
  rw [← kst_self hm] at F hQ
  clear hm
  dsimp only [kstB] at F hQ
  k_with_none
  k_with "subscriptTail Name Slice str ref" => ((with_reducible show wpAny _ _ (subscriptTail _ (Expr.Slice none (some _) none _) (Value.str _ _) (Value.ref _)) _ _ _); (with_reducible rename Fr _ _ _ _ => F'); (with_reducible rename News _ _ _ _ => N'); (first | (refine slice_strN_ns (hsz := sz40 (by assumption)) (s := ⟨_, _, _, _, _⟩) F' N' ?_) | (refine slice_strN_nn (hsz := sz40 (by assumption)) (s := ⟨_, _, _, _, _⟩) F' N' ?_)); (clear F' N'); intro _ _ _ _ _; (try dsimp only))
  by_cases hk : k = 0
  · subst hk
    k_steps
    have e : cut A 0 = Txt.slice A none none := by rw [slice_nn]; exact if_pos rfl
    rw [← e]
    exact hQ _ _ _ (by assumption) (by assumption)
  · have e : cut A k = Txt.slice A none (some k) := if_neg hk
    k_steps
    all_goals first
      | exact absurd (by assumption) hk
      | (rw [← e]; exact hQ _ _ _ (by assumption) (by assumption))
theorem ev_pb {p1 p2 p3 p4 p5 p6 : Pos} {k3 : Nat} (X : (hd.heap_39 w.params).In g) (hA : A.length ≤ 40) (hm : ∀ p ∈ [(Str.ofString "b", .str A ta), (Str.ofString "post", .int k tp)], m p.1 = some p.2) (F : Fr g L s.heap m) (N : News g L s.heap R)
    (hQ : ∀ t h' tk', Fr g L h' m → News g L h' R → K (.str (cut A k) t) { s with heap := h', toks := tk' }) :
    wpAny (model PR w) ((ktrTop dp un gd cn cs L0 ad ccd cl outer).deeper (levEnv L)) (eval (.Subscript (.Name (Str.ofString "b") p1) (.Slice none (some (.BoolOp .Or [.Name (Str.ofString "post") p2, .Constant .none k3 p3] p4)) none p5) p6) (levEnv L)) K E s := by
  rw [← kst_self hm] at F hQ
  clear hm
  dsimp only [kstB] at F hQ
  k_with_none
  k_with "subscriptTail Name Slice str ref" => ((with_reducible show wpAny _ _ (subscriptTail _ (Expr.Slice none (some _) none _) (Value.str _ _) (Value.ref _)) _ _ _); (with_reducible rename Fr _ _ _ _ => F'); (with_reducible rename News _ _ _ _ => N'); (first | (refine slice_strN_ns (hsz := sz40 (by assumption)) (s := ⟨_, _, _, _, _⟩) F' N' ?_) | (refine slice_strN_nn (hsz := sz40 (by assumption)) (s := ⟨_, _, _, _, _⟩) F' N' ?_)); (clear F' N'); intro _ _ _ _ _; (try dsimp only))
  by_cases hk : k = 0
  · subst hk
    k_steps
    have e : cut A 0 = Txt.slice A none none := by rw [slice_nn]; exact if_pos rfl
    rw [← e]
    exact hQ _ _ _ (by assumption) (by assumption)
  · have e : cut A k = Txt.slice A none (some k) := if_neg hk
    k_steps
    all_goals first
      | exact absurd (by assumption) hk
      | (rw [← e]; exact hQ _ _ _ (by assumption) (by assumption))
theorem lev_s3 (X : (hd.heap_39 w.params).In g) (hA : A.length ≤ 40) (hA1 : Txt.slice A (some k) none = A1) (hm : ∀ p ∈ [(Str.ofString "a", .str A ta), (Str.ofString "pre", .int k tp)], m p.1 = some p.2) (F : Fr g L s.heap m) (N : News g L s.heap R)
    (hQ : ∀ t h' tk', Fr g L h' (put (Str.ofString "a") (.str A1 t) m) → News g L h' R → Q .next { s with heap := h', toks := tk' }) :
    wpAny (model PR w) ((ktrTop dp un gd cn cs L0 ad ccd cl outer).deeper (levEnv L)) (exec (nthS (fdBody levF) 3) (levEnv L)) Q E s := by
  rw [← kst_self hm] at F hQ
  subst hA1
  clear hm
  dsimp only [levF, nthS, fdBody, PySem.Challenge.pw_pu0053_01]
  dsimp only [kstB] at F hQ
  k_with_none
  k_with "subscriptTail Name Slice str ref" => ((with_reducible show wpAny _ _ (subscriptTail _ (Expr.Slice (some _) none none _) (Value.str _ _) (Value.ref _)) _ _ _); (with_reducible rename Fr _ _ _ _ => F'); (with_reducible rename News _ _ _ _ => N'); (refine slice_strN_sn (hsz := sz40 (by assumption)) (s := ⟨_, _, _, _, _⟩) F' N' ?_); (clear F' N'); intro _ _ _ _ _; (try dsimp only))
  k_steps
  exact hQ _ _ _ (by assumption) (by assumption)
theorem lev_s4 (X : (hd.heap_39 w.params).In g) (hA : A.length ≤ 40) (hA1 : Txt.slice A (some k) none = A1) (hm : ∀ p ∈ [(Str.ofString "b", .str A ta), (Str.ofString "pre", .int k tp)], m p.1 = some p.2) (F : Fr g L s.heap m) (N : News g L s.heap R)
    (hQ : ∀ t h' tk', Fr g L h' (put (Str.ofString "b") (.str A1 t) m) → News g L h' R → Q .next { s with heap := h', toks := tk' }) :
    wpAny (model PR w) ((ktrTop dp un gd cn cs L0 ad ccd cl outer).deeper (levEnv L)) (exec (nthS (fdBody levF) 4) (levEnv L)) Q E s := by
  rw [← kst_self hm] at F hQ
  subst hA1
  clear hm
  dsimp only [levF, nthS, fdBody, PySem.Challenge.pw_pu0053_01]
  dsimp only [kstB] at F hQ
  k_with_none
  k_with "subscriptTail Name Slice str ref" => ((with_reducible show wpAny _ _ (subscriptTail _ (Expr.Slice (some _) none none _) (Value.str _ _) (Value.ref _)) _ _ _); (with_reducible rename Fr _ _ _ _ => F'); (with_reducible rename News _ _ _ _ => N'); (refine slice_strN_sn (hsz := sz40 (by assumption)) (s := ⟨_, _, _, _, _⟩) F' N' ?_); (clear F' N'); intro _ _ _ _ _; (try dsimp only))
  k_steps
  exact hQ _ _ _ (by assumption) (by assumption)
theorem lev_s7 (X : (hd.heap_39 w.params).In g) (hA : A.length ≤ 40) (hA1 : cut A k = A1) (hm : ∀ p ∈ [(Str.ofString "a", .str A ta), (Str.ofString "post", .int k tp)], m p.1 = some p.2) (F : Fr g L s.heap m) (N : News g L s.heap R)
    (hQ : ∀ t h' tk', Fr g L h' (put (Str.ofString "a") (.str A1 t) m) → News g L h' R → Q .next { s with heap := h', toks := tk' }) :
    wpAny (model PR w) ((ktrTop dp un gd cn cs L0 ad ccd cl outer).deeper (levEnv L)) (exec (nthS (fdBody levF) 7) (levEnv L)) Q E s := by
  subst hA1
  k_with_none
  k_with "eval Subscript" => ((refine ev_pa X hA hm F N ?_); clear F N; intro t' h' tk' F N)
  dsimp only [levF, nthS, fdBody, PySem.Challenge.pw_pu0053_01]
  k_steps
  exact hQ _ _ _ (by assumption) (by assumption)
theorem lev_s8 (X : (hd.heap_39 w.params).In g) (hA : A.length ≤ 40) (hA1 : cut A k = A1) (hm : ∀ p ∈ [(Str.ofString "b", .str A ta), (Str.ofString "post", .int k tp)], m p.1 = some p.2) (F : Fr g L s.heap m) (N : News g L s.heap R)
    (hQ : ∀ t h' tk', Fr g L h' (put (Str.ofString "b") (.str A1 t) m) → News g L h' R → Q .next { s with heap := h', toks := tk' }) :
    wpAny (model PR w) ((ktrTop dp un gd cn cs L0 ad ccd cl outer).deeper (levEnv L)) (exec (nthS (fdBody levF) 8) (levEnv L)) Q E s := by
  subst hA1
  k_with_none
  k_with "eval Subscript" => ((refine ev_pb X hA hm F N ?_); clear F N; intro t' h' tk' F N)
  dsimp only [levF, nthS, fdBody, PySem.Challenge.pw_pu0053_01]
  k_steps
  exact hQ _ _ _ (by assumption) (by assumption)
theorem lev_s6 {t0 : Tok} (X : (hd.heap_39 w.params).In g) (hPO : PassesOwn (model PR w) ((ktrTop dp un gd cn cs L0 ad ccd cl outer).deeper (levEnv L)) (levEnv L) E) (hA : A.length ≤ 40) (hB : B.length ≤ 40) (hSA : S ≤ A.length) (hSB : S ≤ B.length)
    (hpost : ∀ k : Int, k ≤ 0 → -(S : Int) < k → (Txt.item A (k - 1) == Txt.item B (k - 1)) = true)
    (hst2 : S < A.length → S < B.length → (Txt.item A (-(S : Int) - 1) == Txt.item B (-(S : Int) - 1)) = false)
    (hm : ∀ p ∈ [(Str.ofString "post", .int 0 t0), (Str.ofString "a", .str A ta), (Str.ofString "b", .str B tb)], m p.1 = some p.2) (F : Fr g L s.heap m) (N : News g L s.heap R)
    (hQ : ∀ t h' tk', Fr g L h' (put (Str.ofString "post") (.int (-(S : Int)) t) m) → News g L h' R → Q .next { s with heap := h', toks := tk' }) :
    wpAny (model PR w) ((ktrTop dp un gd cn cs L0 ad ccd cl outer).deeper (levEnv L)) (exec (nthS (fdBody levF) 6) (levEnv L)) Q E s := by
  rw [← kst_self hm] at F hQ
  clear hm
  dsimp only [levF, nthS, fdBody, PySem.Challenge.pw_pu0053_01]
  refine while_int (x := Str.ofString "post") (fun k => k ≤ 0 ∧ -(S : Int) ≤ k) (fun k => k = -(S : Int)) (fun k => (S + k).toNat) hPO F N rfl ⟨Int.le_refl 0, by omega⟩ ?_ (fun k t h tk hk F N => hQ t h tk (by rw [← hk]; exact F) N)
  clear F N hQ
  rintro k t h tk Q1 Q2 ⟨h0, h1⟩ F N hQ1 hQ2
  dsimp only [kstB, put] at F hQ1 hQ2
  have q1 := cut_len A k h0 (by omega)
  have q2 := cut_len B k h0 (by omega)
  k_with_none
  k_with "eval Subscript" => ((with_reducible rename Fr _ _ _ _ => F'); (with_reducible rename News _ _ _ _ => N'); (first | (with_reducible refine ev_pa (ta := ta) (k := k) (tp := t) X hA ?hm F' N' ?_) | (with_reducible refine ev_pb (ta := tb) (k := k) (tp := t) X hB ?hm F' N' ?_)); (case hm => kst_all); clear F' N'; intro _ _ _ _ _; (try dsimp only))
  k_steps
  · have h3 : -(S : Int) ≤ k - 1 := lv3 hst2 h0 h1 (by omega) (by omega) (by assumption)
    exact hQ1 (k - 1) _ _ _ ⟨by omega, h3⟩ (by omega) (by assumption) (by assumption)
  · exact hQ2 _ _ (lv4 hpost h0 h1 (by assumption)) (by assumption) (by assumption)
  · exact hQ2 _ _ (by omega) (by assumption) (by assumption)
  · exact hQ2 _ _ (by omega) (by assumption) (by assumption)
end
end

section
set_option maxRecDepth 100000
set_option maxHeartbeats 8000000
theorem fillLv3 : (fun (_ : OpenLaw) (_ : Params → Frag) => True) PySem.Challenge.rw_pu0053_01 hd.heap_39 := by
  k_fill
  w_top off
  trivial
section
variable {w : World} {Q : Flow → Shared → Prop} {E : Value → Shared → Prop} {g : Heap} {L L0 ad : Addr} {m : Str → Option Value} {s : Shared} {R : Led} {loose : List Str} {mean : ExcName → Option Value} {mg mb : Str → Option Value}
  {dp un : Nat} {gd : Option (List Code)} {cn : Str} {cs : Scope} {ccd : Value} {cl : List (Str × Addr)} {outer : List Env} {A B : Str} {ta tb tc : Tok} {mc : Int}
theorem lev_s9 (X : (hd.heap_39 w.params).In g) (T : Top topProg loose mean mg mb g) (hA : A.length ≤ 40) (hB : B.length ≤ 40) (hm : ∀ p ∈ [(Str.ofString "a", .str A ta), (Str.ofString "b", .str B tb)], m p.1 = some p.2) (F : Fr g L s.heap m) (N : News g L s.heap R)
    (hQ : A.length ≠ 0 → B.length ≠ 0 → ∀ h' tk', Fr g L h' m → News g L h' R → Q .next { s with heap := h', toks := tk' })
    (hR : A.length = 0 ∨ B.length = 0 → ∀ t h' tk', Fr g L h' m → News g L h' R → Q (.ret (.int (2 * ((A.length : Int) + B.length)) t)) { s with heap := h', toks := tk' }) :
    wpAny (model PR w) ((ktrTop dp un gd cn cs L0 ad ccd cl outer).deeper (levEnv L)) (exec (nthS (fdBody levF) 9) (levEnv L)) Q E s := by
  rw [← kst_self hm] at F hQ hR
  clear hm
  dsimp only [levF, nthS, fdBody, PySem.Challenge.pw_pu0053_01]
  dsimp only [kstB] at F hQ hR
  k_with_none
  k_steps
  all_goals first
    | exact hQ (by omega) (by omega) _ _ (by assumption) (by assumption)
    | exact hR (by omega) _ _ _ (by assumption) (by assumption)
theorem lev_s10 (X : (hd.heap_39 w.params).In g) (T : Top topProg loose mean mg mb g) (hA : A.length ≤ 40) (hB : B.length ≤ 40) (hm : ∀ p ∈ [(Str.ofString "a", .str A ta), (Str.ofString "b", .str B tb)], m p.1 = some p.2) (F : Fr g L s.heap m) (N : News g L s.heap R)
    (hQ : ∀ h' tk', Fr g L h' m → News g L h' R → Q .next { s with heap := h', toks := tk' }) :
    wpAny (model PR w) ((ktrTop dp un gd cn cs L0 ad ccd cl outer).deeper (levEnv L)) (exec (nthS (fdBody levF) 10) (levEnv L)) Q E s := by
  rw [← kst_self hm] at F hQ
  clear hm
  dsimp only [levF, nthS, fdBody, PySem.Challenge.pw_pu0053_01]
  dsimp only [kstB] at F hQ
  k_with_none
  k_steps
  all_goals first
    | (exfalso; omega)
    | exact hQ _ _ (by assumption) (by assumption)
theorem lev_s11 (X : (hd.heap_39 w.params).In g) (T : Top topProg loose mean mg mb g) (hA : A.length ≤ 40) (hB : B.length ≤ 40) (hm : ∀ p ∈ [(Str.ofString "a", .str A ta), (Str.ofString "b", .str B tb)], m p.1 = some p.2) (F : Fr g L s.heap m) (N : News g L s.heap R)
    (hQ : B.length < A.length → ∀ h' tk', Fr g L h' (put (Str.ofString "a") (.str B tb) (put (Str.ofString "b") (.str A ta) m)) → News g L h' R → Q .next { s with heap := h', toks := tk' })
    (hR : ¬ B.length < A.length → ∀ h' tk', Fr g L h' m → News g L h' R → Q .next { s with heap := h', toks := tk' }) :
    wpAny (model PR w) ((ktrTop dp un gd cn cs L0 ad ccd cl outer).deeper (levEnv L)) (exec (nthS (fdBody levF) 11) (levEnv L)) Q E s := by
  rw [← kst_self hm] at F hQ hR
  clear hm
  dsimp only [levF, nthS, fdBody, PySem.Challenge.pw_pu0053_01]
  dsimp only [kstB, put] at F hQ hR
  k_with_none
  k_steps
  · rename Fr _ _ _ _ => F9
    rename News _ _ _ _ => N9
    exact hQ (by omega) _ _ F9 fun p hp => N9 p (.tail _ hp)
  · exact hR (by omega) _ _ (by assumption) (by assumption)
theorem lev_s12 (X : (hd.heap_39 w.params).In g) (T : Top topProg loose mean mg mb g) (hA : A.length ≤ 40) (hB : B.length ≤ 40) (hm : ∀ p ∈ [(Str.ofString "a", .str A ta), (Str.ofString "b", .str B tb), (Str.ofString "max_cost", .int mc tc)], m p.1 = some p.2) (F : Fr g L s.heap m) (N : News g L s.heap R)
    (hQ : ∀ h' tk', Fr g L h' m → News g L h' R → Q .next { s with heap := h', toks := tk' })
    (hR : ((B.length : Int) - A.length) * 2 > mc → ∀ t h' tk', Fr g L h' m → News g L h' R → Q (.ret (.int (mc + 1) t)) { s with heap := h', toks := tk' }) :
    wpAny (model PR w) ((ktrTop dp un gd cn cs L0 ad ccd cl outer).deeper (levEnv L)) (exec (nthS (fdBody levF) 12) (levEnv L)) Q E s := by
  rw [← kst_self hm] at F hQ hR
  clear hm
  dsimp only [levF, nthS, fdBody, PySem.Challenge.pw_pu0053_01]
  dsimp only [kstB] at F hQ hR
  k_with_none
  k_steps
  all_goals first
    | exact hQ _ _ (by assumption) (by assumption)
    | exact hR (by assumption) _ _ _ (by assumption) (by assumption)
theorem lev_s13 {p : Nat} (X : (hd.heap_39 w.params).In g) (T : Top topProg loose mean mg mb g) (hA : A.length = p) (hp : p ≤ 40) (hm : ∀ p ∈ [(Str.ofString "a", Value.str A ta)], m p.1 = some p.2) (F : Fr g L s.heap m) (N : News g L s.heap R)
    (hQ : ∀ D us c h' tk', (∀ p ∈ R, p.1 < D) → IntsAre us (rowAt p 0) → Fr g L h' (put (Str.ofString "row") (.ref D) m) → News g L h' ((D, listOf (List.toArray us) c) :: R) → Q .next { s with heap := h', toks := tk' }) :
    wpAny (model PR w) ((ktrTop dp un gd cn cs L0 ad ccd cl outer).deeper (levEnv L)) (exec (nthS (fdBody levF) 13) (levEnv L)) Q E s := by
  rw [← kst_self hm] at F hQ
  clear hm
  dsimp only [levF, nthS, fdBody, PySem.Challenge.pw_pu0053_01]
  dsimp only [kstB] at F hQ
  k_with_none
  k_with "call type:list" => (refine list_step (n := p) (by rfl) (by assumption) (by assumption) (by assumption) (by rw [hA]; exact range2_small p (by omega)) (by rw [hA]; exact range2_size p) (by omega) ?_; intro D' us' d' h' tk' F' N' l1 i1; (try dsimp only))
  k_steps
  rename IntsAre _ _ => i1
  rw [row_start] at i1
  exact hQ _ _ _ _ _ (by assumption) i1 (by assumption) (by assumption)
theorem lev_s16 {r : Int} {tr : Tok} (X : (hd.heap_39 w.params).In g) (hm : ∀ p ∈ [(Str.ofString "result", Value.int r tr)], m p.1 = some p.2) (F : Fr g L s.heap m) (N : News g L s.heap R)
    (hR : ∀ h' tk', Fr g L h' m → News g L h' R → Q (.ret (.int r tr)) { s with heap := h', toks := tk' }) :
    wpAny (model PR w) ((ktrTop dp un gd cn cs L0 ad ccd cl outer).deeper (levEnv L)) (exec (nthS (fdBody levF) 16) (levEnv L)) Q E s := by
  rw [← kst_self hm] at F hR
  clear hm
  dsimp only [levF, nthS, fdBody, PySem.Challenge.pw_pu0053_01]
  dsimp only [kstB] at F hR
  k_with_none
  k_steps
  exact hR _ _ (by assumption) (by assumption)
end
end

section
set_option maxRecDepth 100000
set_option maxHeartbeats 8000000
theorem fillLv4 : (fun (_ : OpenLaw) (_ : Params → Frag) => True) PySem.Challenge.rw_pu0053_01 hd.heap_39 := by
  k_fill
  w_top off
  trivial
noncomputable abbrev levO : Stmt := nthS (fdBody levF) 15
noncomputable abbrev levI : Stmt := nthS (forBody levO) 3
/-- the names that stand through the loops -/
abbrev psK (A B : Str) (ta tb tc : Tok) (mc : Int) (D : Addr) : List (Str × Value) := [(Str.ofString "a", .str A ta), (Str.ofString "b", .str B tb), (Str.ofString "max_cost", .int mc tc), (Str.ofString "row", .ref D)]
/-- the names that the inner loop turns -/
abbrev psN (di re mi : Int) (td tr tm : Tok) (c : Str) (tb : Tok) : List (Str × Value) := [(Str.ofString "distance", .int di td), (Str.ofString "result", .int re tr), (Str.ofString "minimum", .int mi tm), (Str.ofString "bchar", .str c tb)]
section
variable {w : World} {Q : Flow → Shared → Prop} {E : Value → Shared → Prop} {g : Heap} {L L0 ad : Addr} {m : Str → Option Value} {s : Shared} {R : Led} {loose : List Str} {mean : ExcName → Option Value} {mg mb : Str → Option Value}
  {dp un : Nat} {gd : Option (List Code)} {cn : Str} {cs : Scope} {ccd : Value} {cl : List (Str × Addr)} {outer : List Env} {A₀ : Around} {base : Heap} {A B cx cy : Str} {ta tb tc td tr tm tcy tk : Tok} {mc di re mi k : Int} {D : Addr} {us : List Value} {c : Nat} {ns : List Int}
theorem lev_in (X : (hd.heap_39 w.params).In g) (T : Top topProg loose mean mg mb g) (BB : Below (ktrTop dp un gd cn cs L0 ad ccd cl outer) base (envX cn cs L0 ad ccd cl :: outer) g)
    (hdp : dp + 6 < recursionLimit) (hun : un + 8 * 6 < cLine) (hA : A.length ≤ 40) (hk0 : 0 ≤ k) (hk1 : k < A.length) (hcx : Txt.item A k = cx) (hx1 : cx.length = 1) (hy1 : cy.length = 1) (hne : (cy == cx) = false) (hlo : (Txt.lower cy == Txt.lower cx) = false)
    (hI : IntsAre us ns) (hnl : ns.length = A.length) (hR : ∀ p ∈ R, p.1 ≠ D) (hd0 : -1000 ≤ di ∧ di ≤ 1000) (hr0 : -1000 ≤ re ∧ re ≤ 1000) (hg0 : -1000 ≤ ns.getD k.toNat 0 ∧ ns.getD k.toNat 0 ≤ 1000)
    (hm : ∀ p ∈ (Str.ofString "index", .int k tk) :: (psN di re mi td tr tm cy tcy ++ psK A B ta tb tc mc D), m p.1 = some p.2) (F : Fr g L s.heap m) (N : News g L s.heap ((D, listOf (List.toArray us) c) :: R))
    (hQ : ∀ v us' c' td' tr' tm' m' h' tk', v = (if di + 2 < (if ns.getD k.toNat 0 < re then ns.getD k.toNat 0 else re) + 2 then di + 2 else (if ns.getD k.toNat 0 < re then ns.getD k.toNat 0 else re) + 2) → IntsAre us' (ns.set k.toNat v) →
      (∀ p ∈ psN (ns.getD k.toNat 0) v (if v < mi then v else mi) td' tr' tm' cy tcy ++ psK A B ta tb tc mc D, m' p.1 = some p.2) → Fr g L h' m' → News g L h' ((D, listOf (List.toArray us') c') :: R) → Q .next { s with heap := h', toks := tk' }) :
    wpAny (model PR w) ((ktrTop dp un gd cn cs L0 ad ccd cl outer).deeper (levEnv L)) (execs (forBody levI) (levEnv L)) Q E s := by
  rw [← kst_self hm] at F
  clear hm
  have hil := hI.length
  dsimp only [levF, levI, levO, forBody, nthS, fdBody, PySem.Challenge.pw_pu0053_01]
  dsimp only [kstB, psN, psK, List.cons_append, List.nil_append] at F
  k_with_none
  k_with "call ref" => (k_dflt (refine' ctr_int (c_sub _ _ _ _ ?s1 ?s2 ?s3 ?s4) ?k1 ?k2 ?k3 ?k4 ?k5 ?kK ?kd ?ku ?_); (case k1 => k_asm); (case k2 => k_asm); (case k3 => k_asm); (case k4 => k_asm); (case k5 => k_asm); (case kK => exact rfl); (case kd => ktr_room); (case ku => ktr_units); (case s1 => exact Nat.le_of_eq hy1); (case s2 => rw [hcx]; exact Nat.le_of_eq hx1); (case s3 => rw [hcx]; exact hne); (case s4 => rw [hcx]; exact hlo); intro _ _ _ _ _; (try dsimp only); (try k_fold))
  k_steps
  · rename Fr _ _ _ _ => F9
    rename News _ _ _ _ => N9
    rename IntsAre _ (List.set _ _ _) => i9
    rename (_ < mi) => h9
    exact hQ _ _ _ _ _ _ _ _ _ rfl i9 (by rw [if_pos h9]; kst_all) F9 N9
  · rename Fr _ _ _ _ => F9
    rename News _ _ _ _ => N9
    rename IntsAre _ (List.set _ _ _) => i9
    rename ¬ (_ < mi) => h9
    exact hQ _ _ _ _ _ _ _ _ _ rfl i9 (by rw [if_neg h9]; kst_all) F9 N9
theorem lev_o0 {tk : Tok} (X : (hd.heap_39 w.params).In g) (hB : B.length ≤ 40) (hk0 : 0 ≤ k) (hk1 : k < B.length) (hcy : Txt.item B k = cy)
    (hm : ∀ p ∈ (Str.ofString "bindex", .int k tk) :: psK A B ta tb tc mc D, m p.1 = some p.2) (F : Fr g L s.heap m) (N : News g L s.heap R)
    (hQ : ∀ t h' tk', Fr g L h' (put (Str.ofString "bchar") (.str cy t) m) → News g L h' R → Q .next { s with heap := h', toks := tk' }) :
    wpAny (model PR w) ((ktrTop dp un gd cn cs L0 ad ccd cl outer).deeper (levEnv L)) (exec (nthS (forBody levO) 0) (levEnv L)) Q E s := by
  rw [← kst_self hm] at F hQ
  subst hcy
  clear hm
  dsimp only [levF, levO, forBody, nthS, fdBody, PySem.Challenge.pw_pu0053_01]
  dsimp only [kstB, psK] at F hQ
  k_with_none
  k_steps
  exact hQ _ _ _ (by assumption) (by assumption)
theorem lev_o12 {rest : List Stmt} {tk : Tok} (X : (hd.heap_39 w.params).In g) (T : Top topProg loose mean mg mb g) (hk0 : 0 ≤ k) (hk1 : k ≤ 40) 
    (hm : ∀ p ∈ (Str.ofString "bindex", .int k tk) :: (Str.ofString "bchar", .str cy tcy) :: psK A B ta tb tc mc D, m p.1 = some p.2) (F : Fr g L s.heap m) (N : News g L s.heap R)
    (hQ : ∀ td' tr' tm' m' h' tk', (∀ p ∈ psN (k * 2) (k * 2) 9223372036854775807 td' tr' tm' cy tcy ++ psK A B ta tb tc mc D, m' p.1 = some p.2) → Fr g L h' m' → News g L h' R → wpAny (model PR w) ((ktrTop dp un gd cn cs L0 ad ccd cl outer).deeper (levEnv L)) (execs rest (levEnv L)) Q E { s with heap := h', toks := tk' }) :
    wpAny (model PR w) ((ktrTop dp un gd cn cs L0 ad ccd cl outer).deeper (levEnv L)) (execs (nthS (forBody levO) 1 :: nthS (forBody levO) 2 :: rest) (levEnv L)) Q E s := by
  rw [← kst_self hm] at F
  clear hm
  dsimp only [levF, levO, forBody, nthS, fdBody, PySem.Challenge.pw_pu0053_01]
  dsimp only [kstB, psK] at F
  k_with_none
  k_steps
  rename Fr _ _ _ _ => F9
  exact hQ _ _ _ _ _ _ (by kst_all) F9 (by assumption)
theorem lev_o4 (X : (hd.heap_39 w.params).In g) (hmi : -9223372036854775807 ≤ mi ∧ mi ≤ 9223372036854775807)
    (hm : ∀ p ∈ [(Str.ofString "minimum", Value.int mi tm), (Str.ofString "max_cost", .int mc tc)], m p.1 = some p.2) (F : Fr g L s.heap m) (N : News g L s.heap R)
    (hQ : ¬ mi > mc → ∀ h' tk', Fr g L h' m → News g L h' R → Q .next { s with heap := h', toks := tk' })
    (hR : mi > mc → ∀ t h' tk', Fr g L h' m → News g L h' R → Q (.ret (.int (mc + 1) t)) { s with heap := h', toks := tk' }) :
    wpAny (model PR w) ((ktrTop dp un gd cn cs L0 ad ccd cl outer).deeper (levEnv L)) (exec (nthS (forBody levO) 4) (levEnv L)) Q E s := by
  rw [← kst_self hm] at F hQ hR
  clear hm
  dsimp only [levF, levO, forBody, nthS, fdBody, PySem.Challenge.pw_pu0053_01]
  dsimp only [kstB] at F hQ hR
  k_with_none
  k_steps
  all_goals first
    | exact hR (by assumption) _ _ _ (by assumption) (by assumption)
    | exact hQ (by assumption) _ _ (by assumption) (by assumption)
end
end

section
set_option maxRecDepth 100000
set_option maxHeartbeats 8000000
theorem fillLv5 : (fun (_ : OpenLaw) (_ : Params → Frag) => True) PySem.Challenge.rw_pu0053_01 hd.heap_39 := by
  k_fill
  w_top off
  trivial
/-- what the inner loop turns -/
structure LvSt where
  us : List Value
  c : Nat
  di : Int
  re : Int
  mi : Int
  td : Tok
  tr : Tok
  tm : Tok
structure LvOk (p j i : Nat) (c : LvSt) : Prop where
  hI : IntsAre c.us (rowMid p j i)
  di : c.di = 2 * max (i : Int) (j : Int)
  r0 : i = 0 → c.re = 2 * (j : Int)
  r1 : 0 < i → c.re = 2 * max (i : Int) ((j : Int) + 1)
  m0 : i = 0 → c.mi = 9223372036854775807
  m1 : 0 < i → c.mi = 2 * ((j : Int) + 1)
theorem mx3 (i j : Int) : max i j ≤ max i (j + 1) ∧ max i (j + 1) ≤ max i j + 1 :=
  ⟨Int.max_le.mpr ⟨Int.le_max_left _ _, Int.le_trans (Int.le_of_lt (Int.lt_succ j)) (Int.le_max_right _ _)⟩, Int.max_le.mpr ⟨Int.le_trans (Int.le_max_left i j) (Int.le_of_lt (Int.lt_succ _)), Int.add_le_add_right (Int.le_max_right i j) 1⟩⟩
theorem mb {i j : Int} (h1 : 0 ≤ i) (h2 : i ≤ 41) (h4 : j ≤ 41) : 0 ≤ max i j ∧ max i j ≤ 41 := ⟨Int.le_trans h1 (Int.le_max_left _ _), Int.max_le.mpr ⟨h2, h4⟩⟩
theorem LvOk.re {p j i : Nat} {c : LvSt} (h : LvOk p j i c) : 2 * max (i : Int) (j : Int) ≤ c.re ∧ c.re ≤ 2 * max (i : Int) (j : Int) + 2 := by
  by_cases h0 : i = 0
  · have e : max (i : Int) (j : Int) = j := by rw [h0]; exact Int.max_eq_right (Int.natCast_nonneg j)
    rw [h.r0 h0, e]
    exact ⟨Int.le_refl _, Int.le_add_of_nonneg_right (by decide)⟩
  · rw [h.r1 (Nat.pos_of_ne_zero h0)]
    have q := mx3 (i : Int) (j : Int)
    clear h
    generalize max (i : Int) (j : Int) = a at q
    generalize max (i : Int) ((j : Int) + 1) = b at q
    omega
theorem LvOk.bnd {p j i : Nat} {c : LvSt} (h : LvOk p j i c) (hi : i ≤ 40) (hj : j ≤ 40) : (-1000 ≤ c.di ∧ c.di ≤ 1000) ∧ (-1000 ≤ c.re ∧ c.re ≤ 1000) ∧ -1000 ≤ 2 * max ((i : Int) + 1) (j : Int) ∧ 2 * max ((i : Int) + 1) (j : Int) ≤ 1000 := by
  have b1 := mb (Int.natCast_nonneg i) (Int.ofNat_le.mpr (Nat.le_succ_of_le hi)) (Int.ofNat_le.mpr (Nat.le_succ_of_le hj))
  have b2 := mb (i := (i : Int) + 1) (Int.le_add_one (Int.natCast_nonneg i)) (Int.ofNat_le.mpr (Nat.succ_le_succ hi)) (Int.ofNat_le.mpr (Nat.le_succ_of_le hj))
  have q := h.re
  rw [h.di]
  clear h hi hj
  generalize max (i : Int) (j : Int) = a at b1 q
  generalize max ((i : Int) + 1) (j : Int) = b at b2
  omega
theorem LvOk.step {p j i : Nat} {c : LvSt} {us : List Value} {k : Nat} {td tr tm : Tok} {v gg : Int} (h : LvOk p j i c) (hj : j ≤ 40) (hi : i < p) (hg : gg = (rowMid p j i).getD i 0) (hv : v = (if c.di + 2 < (if gg < c.re then gg else c.re) + 2 then c.di + 2 else (if gg < c.re then gg else c.re) + 2)) (hI : IntsAre us ((rowMid p j i).set i v)) :
    LvOk p j (i + 1) ⟨us, k, gg, v, if v < c.mi then v else c.mi, td, tr, tm⟩ := by
  have hG := hg.trans (rowMid_get hi)
  have hV := dp_val h.di h.re.1 hG
  rw [← hv] at hV
  rw [hV, rowMid_set hi] at hI
  refine ⟨hI, by dsimp only; rw [hG]; push_cast; rfl, (fun e => nomatch e), fun _ => by dsimp only; rw [hV]; push_cast; rfl, (fun e => nomatch e), fun _ => ?_⟩
  dsimp only
  have h1 := h.m0
  have h2 := h.m1
  clear h hI hv hg hG
  by_cases h0 : i = 0
  · have e : max ((i : Int) + 1) ((j : Int) + 1) = (j : Int) + 1 := by rw [h0]; exact Int.max_eq_right (Int.add_le_add_right (Int.natCast_nonneg j) 1)
    rw [e] at hV
    rw [h1 h0, hV, if_pos (by omega)]
  · have e : (j : Int) + 1 ≤ max ((i : Int) + 1) ((j : Int) + 1) := Int.le_max_right _ _
    rw [h2 (Nat.pos_of_ne_zero h0), hV, if_neg (Int.not_lt.mpr (Int.mul_le_mul_of_nonneg_left e (by decide)))]
section
variable {w : World} {Q : Flow → Shared → Prop} {K E : Value → Shared → Prop} {g : Heap} {L L0 ad : Addr} {m : Str → Option Value} {s : Shared} {R : Led} {loose : List Str} {mean : ExcName → Option Value} {mg mb : Str → Option Value}
  {dp un : Nat} {gd : Option (List Code)} {cn : Str} {cs : Scope} {ccd : Value} {cl : List (Str × Addr)} {outer : List Env} {base : Heap} {A B cx cy : Str} {ta tb tc td tr tm tcy tk : Tok} {mc di re mi k res : Int} {D : Addr} {us : List Value} {c p j : Nat} {ns : List Int}
theorem lev_rgI (X : (hd.heap_39 w.params).In g) (T : Top topProg loose mean mg mb g) (hA : A.length ≤ 40) (ha : ∀ p ∈ [(Str.ofString "a", Value.str A ta)], m p.1 = some p.2) (F : Fr g L s.heap m) (N : News g L s.heap R)
    (hQ : ∀ rg t1 t2 t3 h' tk', IsRange h' rg 0 A.length 1 t1 t2 t3 → Fr g L h' m → News g L h' R → K (.ref rg) { s with heap := h', toks := tk' }) :
    wpAny (model PR w) ((ktrTop dp un gd cn cs L0 ad ccd cl outer).deeper (levEnv L)) (eval (forIter levI) (levEnv L)) K E s := by
  rw [← kst_self ha] at F hQ
  clear ha
  dsimp only [levF, levO, levI, forIter, forBody, nthS, fdBody, PySem.Challenge.pw_pu0053_01]
  dsimp only [kstB] at F hQ
  k_with_none
  k_steps
  exact hQ _ _ _ _ _ _ (by assumption) (by assumption) (by assumption)
theorem lev_rgO (X : (hd.heap_39 w.params).In g) (T : Top topProg loose mean mg mb g) (hB : B.length ≤ 40) (hb : ∀ p ∈ [(Str.ofString "b", Value.str B tb)], m p.1 = some p.2) (F : Fr g L s.heap m) (N : News g L s.heap R)
    (hQ : ∀ rg t1 t2 t3 h' tk', IsRange h' rg 0 B.length 1 t1 t2 t3 → Fr g L h' m → News g L h' R → K (.ref rg) { s with heap := h', toks := tk' }) :
    wpAny (model PR w) ((ktrTop dp un gd cn cs L0 ad ccd cl outer).deeper (levEnv L)) (eval (forIter levO) (levEnv L)) K E s := by
  rw [← kst_self hb] at F hQ
  clear hb
  dsimp only [levF, levO, levI, forIter, forBody, nthS, fdBody, PySem.Challenge.pw_pu0053_01]
  dsimp only [kstB] at F hQ
  k_with_none
  k_steps
  exact hQ _ _ _ _ _ _ (by assumption) (by assumption) (by assumption)
theorem lev_o3 (X : (hd.heap_39 w.params).In g) (T : Top topProg loose mean mg mb g) (BB : Below (ktrTop dp un gd cn cs L0 ad ccd cl outer) base (envX cn cs L0 ad ccd cl :: outer) g) (hPO : PassesOwn (model PR w) ((ktrTop dp un gd cn cs L0 ad ccd cl outer).deeper (levEnv L)) (levEnv L) E)
    (hdp : dp + 6 < recursionLimit) (hun : un + 8 * 6 < cLine) (hA : A.length = p) (hp0 : 0 < p) (hp : p ≤ 40) (hj : j ≤ 40) (hcx : ∀ k : Int, 0 ≤ k → k < A.length → Txt.item A k = cx) (hx1 : cx.length = 1) (hy1 : cy.length = 1) (hne : (cy == cx) = false) (hlo : (Txt.lower cy == Txt.lower cx) = false)
    (hI : IntsAre us (rowAt p j)) (hR : ∀ p ∈ R, p.1 ≠ D)
    (hm : ∀ p ∈ psN ((j : Int) * 2) ((j : Int) * 2) 9223372036854775807 td tr tm cy tcy ++ psK A B ta tb tc mc D, m p.1 = some p.2) (F : Fr g L s.heap m) (N : News g L s.heap ((D, listOf (List.toArray us) c) :: R))
    (hQ : ∀ us' c' di' td' tr' tm' m' h' tk', IntsAre us' (rowAt p (j + 1)) → (∀ q ∈ psN di' (2 * max (p : Int) ((j : Int) + 1)) (2 * ((j : Int) + 1)) td' tr' tm' cy tcy ++ psK A B ta tb tc mc D, m' q.1 = some q.2) → Fr g L h' m' → News g L h' ((D, listOf (List.toArray us') c') :: R) → Q .next { s with heap := h', toks := tk' }) :
    wpAny (model PR w) ((ktrTop dp un gd cn cs L0 ad ccd cl outer).deeper (levEnv L)) (exec levI (levEnv L)) Q E s := by
  refine For_invVF (x := Str.ofString "index") (iter := forIter levI) (body := forBody levI) (hE := hPO) (m := m) (show Fr g (levEnv L).locals s.heap m from F) rfl rfl ?_
  refine lev_rgI X T (by omega) (List.forall_mem_cons.mpr ⟨hm _ (.tail _ (.tail _ (.tail _ (.tail _ (.head _))))), List.forall_mem_nil _⟩) F N ?_
  clear F N
  intro rg t1 t2 t3 h1 tk1 hrg F N
  refine range_J (n := p) (fun i m' nx => ∃ c : LvSt, nx = (D, listOf (List.toArray c.us) c.c) :: R ∧ LvOk p j i c ∧ ∀ q ∈ psN c.di c.re c.mi c.td c.tr c.tm cy tcy ++ psK A B ta tb tc mc D, m' q.1 = some q.2) rfl hrg (by rw [hA]; exact small_one (by omega) (by omega) (by omega) (by omega)) (by rw [hA]; exact range1_size p) F N ⟨⟨us, c, _, _, _, td, tr, tm⟩, rfl, ⟨by rw [rowMid_zero]; exact hI, by dsimp only; omega, fun _ => Int.mul_comm _ _, fun h => absurd h (by omega), fun _ => rfl, fun h => absurd h (by omega)⟩, hm⟩ ?_ ?_
  · rintro I i t m₁ nx h tk it Q1 hi ⟨st, rfl, hok, hps⟩ hlow hoff F N hQ1 _
    rw [Int.zero_add] at F
    have hbn := hok.bnd (by omega) hj
    have hgg := rowMid_get (j := j) hi
    have hDI : D ≠ I := hoff _ (.head _)
    refine lev_in (k := (i : Int)) (R := R ++ [(I, it)]) X T BB hdp hun (by omega) (Int.natCast_nonneg i) (by omega) (hcx _ (Int.natCast_nonneg i) (by omega)) hx1 hy1 hne hlo hok.hI (by rw [rowMid_length, hA]) (fun q hq => ?_) hbn.1 hbn.2.1 (by rw [Int.toNat_natCast, hgg]; exact hbn.2.2) (ps_step hps (by with_unfolding_all rfl)) F N ?_
    · rcases List.mem_append.mp hq with hq | hq
      · exact hR q hq
      · rw [List.mem_singleton.mp hq]; exact (hoff _ (.head _)).symm
    · rw [Int.toNat_natCast]
      intro v us' c' td' tr' tm' m' h' tk' hv hI' hps' F' N'
      exact hQ1 _ _ _ ((D, listOf (List.toArray us') c') :: R) F' N' (List.forall_mem_cons.mpr ⟨hDI, fun q hq => hoff q (.tail _ hq)⟩) ⟨⟨us', c', _, v, _, td', tr', tm'⟩, rfl, hok.step hj hi rfl hv hI', hps'⟩
  · rintro m₁ nx h tk ⟨st, rfl, hok, hps⟩ F N
    have h1 := hok.r1 hp0
    have h2 := hok.m1 hp0
    have h3 := hok.hI
    rw [rowMid_full] at h3
    rw [h1, h2] at hps
    exact hQ _ _ _ _ _ _ _ _ _ h3 hps F N
theorem lev_s15 {q : Nat} (X : (hd.heap_39 w.params).In g) (T : Top topProg loose mean mg mb g) (BB : Below (ktrTop dp un gd cn cs L0 ad ccd cl outer) base (envX cn cs L0 ad ccd cl :: outer) g) (hPO : PassesOwn (model PR w) ((ktrTop dp un gd cn cs L0 ad ccd cl outer).deeper (levEnv L)) (levEnv L) E)
    (hdp : dp + 6 < recursionLimit) (hun : un + 8 * 6 < cLine) (hA : A.length = p) (hB : B.length = q) (hp0 : 0 < p) (hpq : p ≤ q) (hq : q ≤ 40) (hcx : ∀ k : Int, 0 ≤ k → k < A.length → Txt.item A k = cx) (hcy : ∀ k : Int, 0 ≤ k → k < B.length → Txt.item B k = cy) (hx1 : cx.length = 1) (hy1 : cy.length = 1) (hne : (cy == cx) = false) (hlo : (Txt.lower cy == Txt.lower cx) = false)
    (hI : IntsAre us (rowAt p 0)) (hR : ∀ p ∈ R, p.1 ≠ D) (hres : res = if 2 * (q : Int) > mc then mc + 1 else 2 * (q : Int))
    (hm : ∀ q ∈ (Str.ofString "result", .int re tr) :: psK A B ta tb tc mc D, m q.1 = some q.2) (F : Fr g L s.heap m) (N : News g L s.heap ((D, listOf (List.toArray us) c) :: R))
    (hQ : ∀ t m' h' tk', (∀ q ∈ [(Str.ofString "result", Value.int res t)], m' q.1 = some q.2) → Fr g L h' m' → News g L h' R → Q .next { s with heap := h', toks := tk' })
    (hret : ∀ t m' h' tk', Fr g L h' m' → News g L h' R → Q (.ret (.int res t)) { s with heap := h', toks := tk' }) :
    wpAny (model PR w) ((ktrTop dp un gd cn cs L0 ad ccd cl outer).deeper (levEnv L)) (exec levO (levEnv L)) Q E s := by
  refine For_invVF (x := Str.ofString "bindex") (iter := forIter levO) (body := forBody levO) (hE := hPO) (m := m) (show Fr g (levEnv L).locals s.heap m from F) rfl rfl ?_
  refine lev_rgO X T (by omega) (List.forall_mem_cons.mpr ⟨hm _ (.tail _ (.tail _ (.head _))), List.forall_mem_nil _⟩) F N ?_
  clear F N
  intro rg t1 t2 t3 h1 tk1 hrg F N
  refine range_J (n := q) (fun j m' nx => ∃ (us : List Value) (c : Nat) (re : Int) (tr : Tok), nx = (D, listOf (List.toArray us) c) :: R ∧ IntsAre us (rowAt p j) ∧ (0 < j → re = 2 * max (p : Int) (j : Int) ∧ 2 * (j : Int) ≤ mc) ∧ ∀ q ∈ (Str.ofString "result", .int re tr) :: psK A B ta tb tc mc D, m' q.1 = some q.2) rfl hrg (by rw [hB]; exact small_one (by omega) (by omega) (by omega) (by omega)) (by rw [hB]; exact range1_size q) F N ⟨us, c, _, _, rfl, hI, fun h => absurd h (by omega), hm⟩ ?_ ?_
  · clear hQ hm F N hI
    rintro I j t m₁ nx h tk it Q1 hj ⟨us, c, re, tr, rfl, hI, hrj, hps⟩ hlow hoff F N hQ1 hret1
    clear hlow
    rw [Int.zero_add] at F
    have hDI : D ≠ I := hoff _ (.head _)
    have hR1 : ∀ p ∈ R ++ [(I, it)], p.1 ≠ D := fun q hq => by
      rcases List.mem_append.mp hq with hq | hq
      · exact hR q hq
      · rw [List.mem_singleton.mp hq]; exact (hoff _ (.head _)).symm
    replace hps := ps_step (x := Str.ofString "bindex") (v := .int (j : Int) t) (fun q hq => hps q (.tail _ hq)) (by with_unfolding_all rfl)
    change wpAny _ _ (execs [nthS (forBody levO) 0, nthS (forBody levO) 1, nthS (forBody levO) 2, levI, nthS (forBody levO) 4] _) _ _ _
    refine execs_step fun Q2 hQ2 => lev_o0 (k := (j : Int)) X (by omega) (Int.natCast_nonneg j) (by omega) (hcy _ (Int.natCast_nonneg j) (by omega)) hps F N ?_
    intro tcy h2 tk2 F N
    refine hQ2 _ ?_
    clear hQ2 Q2
    refine lev_o12 (k := (j : Int)) (cy := cy) (tcy := tcy) (tk := t) X T (Int.natCast_nonneg j) (by omega) (List.forall_mem_cons.mpr ⟨?_, ps_step (fun q hq => hps q (.tail _ hq)) (by with_unfolding_all rfl)⟩) F N ?_
    · show (if Str.ofString "bindex" = Str.ofString "bchar" then _ else put (Str.ofString "bindex") (.int (j : Int) t) m₁ (Str.ofString "bindex")) = _
      rw [if_neg (by decide)]
      exact hps _ (.head _)
    clear hps
    intro td' tr' tm' m2 h3 tk3 hps F N
    refine execs_step fun Q2 hQ2 => lev_o3 (R := R ++ [(I, it)]) (j := j) X T BB hPO hdp hun hA hp0 (by omega) (by omega) hcx hx1 hy1 hne hlo hI hR1 hps F N ?_
    clear hps
    intro us' c' di' td' tr' tm' m3 h4 tk4 hI' hps F N
    refine hQ2 _ ?_
    clear hQ2 Q2
    refine execs_stepR fun Q2 hQ2 hQr => lev_o4 (mi := 2 * ((j : Int) + 1)) (mc := mc) X (by omega) (List.forall_mem_cons.mpr ⟨hps _ (.tail _ (.tail _ (.head _))), List.forall_mem_cons.mpr ⟨hps _ (.tail _ (.tail _ (.tail _ (.tail _ (.tail _ (.tail _ (.head _))))))), List.forall_mem_nil _⟩⟩) F N ?_ ?_
    · intro hle h5 tk5 F N
      refine hQ2 _ (wpAny_execs_nil ?_)
      refine hQ1 _ _ _ ((D, listOf (List.toArray us') c') :: R) F N (List.forall_mem_cons.mpr ⟨hDI, fun q hq => hoff q (.tail _ hq)⟩) ⟨us', c', _, tr', rfl, hI', fun _ => ⟨?_, ?_⟩, List.forall_mem_cons.mpr ⟨hps _ (.tail _ (.head _)), fun q hq => hps q (.tail _ (.tail _ (.tail _ (.tail _ hq))))⟩⟩
      · push_cast; rfl
      · push_cast; omega
    · intro hgt t5 h5 tk5 F N
      have e : res = mc + 1 := by rw [hres, if_pos (by omega)]
      rw [← e]
      exact hQr _ _ (hret1 _ _ (hret _ _ _ _ F fun p hp => N p (.tail _ (List.mem_append_left _ hp))))
  · rintro m₁ nx h tk ⟨us, c, re, tr, rfl, hI, hrj, hps⟩ F N
    obtain ⟨e1, e2⟩ := hrj (by omega)
    have e3 : re = res := by
      rw [hres, if_neg (by omega), e1, Int.max_eq_right (by omega)]
    rw [e3] at hps
    exact hQ _ _ _ _ (List.forall_mem_cons.mpr ⟨hps _ (.head _), List.forall_mem_nil _⟩) F fun p hp => N p (.tail _ hp)
end
end

section
set_option maxRecDepth 100000
set_option maxHeartbeats 8000000
theorem fillLev : (fun (_ : OpenLaw) (_ : Params → Frag) => True) PySem.Challenge.rw_pu0053_01 hd.heap_39 := by
  k_fill
  w_top off
  trivial
section
variable {w : World} {Q : Flow → Shared → Prop} {E : Value → Shared → Prop} {g : Heap} {L L0 ad : Addr} {m : Str → Option Value} {s : Shared} {R : Led} {loose : List Str} {mean : ExcName → Option Value} {mg mb : Str → Option Value}
  {dp un : Nat} {gd : Option (List Code)} {cn : Str} {cs : Scope} {ccd : Value} {cl : List (Str × Addr)} {outer : List Env} {base : Heap} {A B cx cy : Str} {ta tb tc : Tok} {mc res : Int} {p q : Nat}
theorem lev_last (X : (hd.heap_39 w.params).In g) (T : Top topProg loose mean mg mb g) (BB : Below (ktrTop dp un gd cn cs L0 ad ccd cl outer) base (envX cn cs L0 ad ccd cl :: outer) g) (hPO : PassesOwn (model PR w) ((ktrTop dp un gd cn cs L0 ad ccd cl outer).deeper (levEnv L)) (levEnv L) E)
    (hdp : dp + 6 < recursionLimit) (hun : un + 8 * 6 < cLine) (hA : A.length = p) (hB : B.length = q) (hp0 : 0 < p) (hpq : p ≤ q) (hq : q ≤ 40) (hcx : ∀ k : Int, 0 ≤ k → k < A.length → Txt.item A k = cx) (hcy : ∀ k : Int, 0 ≤ k → k < B.length → Txt.item B k = cy) (hx1 : cx.length = 1) (hy1 : cy.length = 1) (hne : (cy == cx) = false) (hlo : (Txt.lower cy == Txt.lower cx) = false)
    (hres : res = if 2 * (q : Int) > mc then mc + 1 else 2 * (q : Int))
    (hm : ∀ q ∈ [(Str.ofString "a", .str A ta), (Str.ofString "b", .str B tb), (Str.ofString "max_cost", .int mc tc)], m q.1 = some q.2) (F : Fr g L s.heap m) (N : News g L s.heap R)
    (hret : ∀ t m' h' tk', Fr g L h' m' → News g L h' R → Q (.ret (.int res t)) { s with heap := h', toks := tk' }) :
    wpAny (model PR w) ((ktrTop dp un gd cn cs L0 ad ccd cl outer).deeper (levEnv L)) (execs ((fdBody levF).drop 12) (levEnv L)) Q E s := by
  change wpAny _ _ (execs [nthS (fdBody levF) 12, nthS (fdBody levF) 13, nthS (fdBody levF) 14, levO, nthS (fdBody levF) 16] _) _ _ _
  have hp40 := Nat.le_trans hpq hq
  have hA40 : A.length ≤ 40 := by rw [hA]; exact hp40
  have hB40 : B.length ≤ 40 := by rw [hB]; exact hq
  refine execs_stepR fun Q1 hQ1 hQr => lev_s12 X T hA40 hB40 hm F N ?_ ?_
  · clear F N
    intro h1 tk1 F N
    refine hQ1 _ ?_
    clear hQ1 hQr Q1
    refine execs_step fun Q1 hQ1 => lev_s13 (A := A) (ta := ta) X T hA hp40 (List.forall_mem_cons.mpr ⟨hm _ (.head _), List.forall_mem_nil _⟩) F N ?_
    clear F N
    intro D us c h2 tk2 hD hI F N
    refine hQ1 _ ?_
    clear hQ1 Q1
    replace hm := ps_step (x := Str.ofString "row") (v := .ref D) hm (by with_unfolding_all rfl)
    generalize put (Str.ofString "row") (Value.ref D) m = m1 at F hm
    refine execs_step fun Q1 hQ1 => lev_s14 X F N ?_
    clear F N
    intro t h3 tk3 F N
    refine hQ1 _ ?_
    clear hQ1 Q1
    replace hm := ps_step (x := Str.ofString "result") (v := .int 0 t) hm (by with_unfolding_all rfl)
    generalize put (Str.ofString "result") (Value.int 0 t) m1 = m2 at F hm
    clear m1
    refine execs_stepR fun Q1 hQ1 hQr => lev_s15 (ta := ta) (tb := tb) (tc := tc) (res := res) X T BB hPO hdp hun hA hB hp0 hpq hq hcx hcy hx1 hy1 hne hlo hI (fun p hp => Nat.ne_of_lt (hD p hp)) hres (List.forall_mem_cons.mpr ⟨hm _ (.head _), List.forall_mem_cons.mpr ⟨hm _ (.tail _ (.tail _ (.head _))), List.forall_mem_cons.mpr ⟨hm _ (.tail _ (.tail _ (.tail _ (.head _)))), List.forall_mem_cons.mpr ⟨hm _ (.tail _ (.tail _ (.tail _ (.tail _ (.head _))))), List.forall_mem_cons.mpr ⟨hm _ (.tail _ (.head _)), List.forall_mem_nil _⟩⟩⟩⟩⟩) F N ?_ ?_
    · clear F N hm
      intro t m' h4 tk4 hm F N
      refine hQ1 _ ?_
      clear hQ1 hQr Q1
      refine execs_stepR fun Q1 hQ1 hQr => lev_s16 X hm F N ?_
      intro h5 tk5 F N
      exact hQr _ _ (hret _ _ _ _ F N)
    · intro t m' h' tk' F N
      exact hQr _ _ (hret _ _ _ _ F N)
  · intro hgt t h1 tk1 F N
    have e : res = mc + 1 := by rw [hres, if_pos (by rw [hA, hB] at hgt; omega)]
    rw [← e]
    exact hQr _ _ (hret _ _ _ _ F N)
theorem lev_body {A1 B1 A2 B2 ca cb : Str} {P S : Nat} (X : (hd.heap_39 w.params).In g) (T : Top topProg loose mean mg mb g) (BB : Below (ktrTop dp un gd cn cs L0 ad ccd cl outer) base (envX cn cs L0 ad ccd cl :: outer) g) (hPO : PassesOwn (model PR w) ((ktrTop dp un gd cn cs L0 ad ccd cl outer).deeper (levEnv L)) (levEnv L) E)
    (hdp : dp + 6 < recursionLimit) (hun : un + 8 * 6 < cLine) (hA : A.length ≤ 40) (hB : B.length ≤ 40) (hne : (A == B) = false) (hPA : P ≤ A.length) (hPB : P ≤ B.length)
    (hpre : ∀ k : Int, 0 ≤ k → k < P → (Txt.item A k == Txt.item B k) = true)
    (hst : P < A.length → P < B.length → (Txt.item A P == Txt.item B P) = false)
    (hA1 : Txt.slice A (some (P : Int)) none = A1) (hB1 : Txt.slice B (some (P : Int)) none = B1) (hA1l : A1.length ≤ 40) (hB1l : B1.length ≤ 40)
    (hSA : S ≤ A1.length) (hSB : S ≤ B1.length)
    (hpost : ∀ k : Int, k ≤ 0 → -(S : Int) < k → (Txt.item A1 (k - 1) == Txt.item B1 (k - 1)) = true)
    (hst2 : S < A1.length → S < B1.length → (Txt.item A1 (-(S : Int) - 1) == Txt.item B1 (-(S : Int) - 1)) = false)
    (hca : A2.length ≠ 0 → B2.length ≠ 0 → ∀ k : Int, 0 ≤ k → k < A2.length → Txt.item A2 k = ca) (hcb : A2.length ≠ 0 → B2.length ≠ 0 → ∀ k : Int, 0 ≤ k → k < B2.length → Txt.item B2 k = cb)
    (hc1 : ca.length = 1) (hc2 : cb.length = 1) (hc3 : (ca == cb) = false) (hc4 : (cb == ca) = false) (hc5 : (Txt.lower ca == Txt.lower cb) = false) (hc6 : (Txt.lower cb == Txt.lower ca) = false)
    (hr0 : A2.length = 0 ∨ B2.length = 0 → res = 2 * ((A2.length : Int) + B2.length))
    (hr1 : A2.length ≠ 0 → B2.length ≠ 0 → res = if 2 * max (A2.length : Int) B2.length > mc then mc + 1 else 2 * max (A2.length : Int) B2.length)
    (hA2l : A2.length ≤ 40) (hB2l : B2.length ≤ 40) (hA2 : cut A1 (-(S : Int)) = A2) (hB2 : cut B1 (-(S : Int)) = B2)
    (hm : ∀ q ∈ [(Str.ofString "a", .str A ta), (Str.ofString "b", .str B tb), (Str.ofString "max_cost", .int mc tc)], m q.1 = some q.2) (F : Fr g L s.heap m) (N : News g L s.heap R)
    (hret : ∀ t m' h' tk', Fr g L h' m' → News g L h' R → Q (.ret (.int res t)) { s with heap := h', toks := tk' }) :
    wpAny (model PR w) ((ktrTop dp un gd cn cs L0 ad ccd cl outer).deeper (levEnv L)) (execs (fdBody levF) (levEnv L)) Q E s := by
  change wpAny _ _ (execs (nthS (fdBody levF) 0 :: nthS (fdBody levF) 1 :: nthS (fdBody levF) 2 :: nthS (fdBody levF) 3 :: nthS (fdBody levF) 4 :: nthS (fdBody levF) 5 :: nthS (fdBody levF) 6 :: nthS (fdBody levF) 7 :: nthS (fdBody levF) 8 :: nthS (fdBody levF) 9 :: nthS (fdBody levF) 10 :: nthS (fdBody levF) 11 :: (fdBody levF).drop 12) _) _ _ _
  have ha := hm _ (.head _)
  have hb := hm _ (.tail _ (.head _))
  have hc := hm _ (.tail _ (.tail _ (.head _)))
  clear hm
  dsimp only at ha hb hc
  refine execs_step fun Q1 hQ1 => lev_s0 X T hne (all2 ha hb) F N ?_
  clear F N hne
  intro h1 tk1 F N
  refine hQ1 _ ?_
  clear hQ1 Q1
  refine execs_step fun Q1 hQ1 => lev_s1 X F N ?_
  clear F N
  intro t1 h1 tk1 F N
  refine hQ1 _ ?_
  clear hQ1 Q1
  refine execs_step fun Q1 hQ1 => lev_s2 X hPO hA hB hPA hPB hpre hst (all3 put_eq ((put_ne (by decide)).trans ha) ((put_ne (by decide)).trans hb)) F N ?_
  clear F N hpre hst hPA hPB
  intro t2 h2 tk2 F N
  refine hQ1 _ ?_
  clear hQ1 Q1
  rw [put_put] at F
  refine execs_step fun Q1 hQ1 => lev_s3 X hA hA1 (all2 ((put_ne (by decide)).trans ha) put_eq) F N ?_
  clear F N hA hA1 ha
  intro t3 h3 tk3 F N
  refine hQ1 _ ?_
  clear hQ1 Q1
  refine execs_step fun Q1 hQ1 => lev_s4 X hB hB1 (all2 ((put_ne (by decide)).trans ((put_ne (by decide)).trans hb)) ((put_ne (by decide)).trans put_eq)) F N ?_
  clear F N hB hB1 hb
  intro t4 h4 tk4 F N
  refine hQ1 _ ?_
  clear hQ1 Q1
  have ha : put (Str.ofString "b") (.str B1 t4) (put (Str.ofString "a") (.str A1 t3) (put (Str.ofString "pre") (.int P t2) m)) (Str.ofString "a") = some (.str A1 t3) := (put_ne (by decide)).trans put_eq
  have hb : put (Str.ofString "b") (.str B1 t4) (put (Str.ofString "a") (.str A1 t3) (put (Str.ofString "pre") (.int P t2) m)) (Str.ofString "b") = some (.str B1 t4) := put_eq
  replace hc : put (Str.ofString "b") (.str B1 t4) (put (Str.ofString "a") (.str A1 t3) (put (Str.ofString "pre") (.int P t2) m)) (Str.ofString "max_cost") = some (.int mc tc) := (put_ne (by decide)).trans ((put_ne (by decide)).trans ((put_ne (by decide)).trans hc))
  generalize put (Str.ofString "b") (Value.str B1 t4) (put (Str.ofString "a") (Value.str A1 t3) (put (Str.ofString "pre") (Value.int P t2) m)) = m1 at F ha hb hc
  refine execs_step fun Q1 hQ1 => lev_s5 X F N ?_
  clear F N
  intro t5 h5 tk5 F N
  refine hQ1 _ ?_
  clear hQ1 Q1
  refine execs_step fun Q1 hQ1 => lev_s6 X hPO hA1l hB1l hSA hSB hpost hst2 (all3 put_eq ((put_ne (by decide)).trans ha) ((put_ne (by decide)).trans hb)) F N ?_
  clear F N hpost hst2 hSA hSB
  intro t6 h6 tk6 F N
  refine hQ1 _ ?_
  clear hQ1 Q1
  rw [put_put] at F
  refine execs_step fun Q1 hQ1 => lev_s7 X hA1l hA2 (all2 ((put_ne (by decide)).trans ha) put_eq) F N ?_
  clear F N hA1l hA2 ha
  intro t7 h7 tk7 F N
  refine hQ1 _ ?_
  clear hQ1 Q1
  refine execs_step fun Q1 hQ1 => lev_s8 X hB1l hB2 (all2 ((put_ne (by decide)).trans ((put_ne (by decide)).trans hb)) ((put_ne (by decide)).trans put_eq)) F N ?_
  clear F N hB1l hB2 hb
  intro t8 h8 tk8 F N
  refine hQ1 _ ?_
  clear hQ1 Q1
  have ha : put (Str.ofString "b") (.str B2 t8) (put (Str.ofString "a") (.str A2 t7) (put (Str.ofString "post") (.int (-(S : Int)) t6) m1)) (Str.ofString "a") = some (.str A2 t7) := (put_ne (by decide)).trans put_eq
  have hb : put (Str.ofString "b") (.str B2 t8) (put (Str.ofString "a") (.str A2 t7) (put (Str.ofString "post") (.int (-(S : Int)) t6) m1)) (Str.ofString "b") = some (.str B2 t8) := put_eq
  replace hc : put (Str.ofString "b") (.str B2 t8) (put (Str.ofString "a") (.str A2 t7) (put (Str.ofString "post") (.int (-(S : Int)) t6) m1)) (Str.ofString "max_cost") = some (.int mc tc) := (put_ne (by decide)).trans ((put_ne (by decide)).trans ((put_ne (by decide)).trans hc))
  generalize put (Str.ofString "b") (Value.str B2 t8) (put (Str.ofString "a") (Value.str A2 t7) (put (Str.ofString "post") (Value.int (-(S : Int)) t6) m1)) = m2 at F ha hb hc
  clear m1
  refine execs_stepR fun Q1 hQ1 hQr => lev_s9 X T hA2l hB2l (all2 ha hb) F N ?_ ?_
  · clear F N
    intro hz1 hz2 h9 tk9 F N
    refine hQ1 _ ?_
    clear hQ1 hQr Q1 hr0
    replace hr1 := hr1 hz1 hz2
    replace hca := hca hz1 hz2
    replace hcb := hcb hz1 hz2
    refine execs_step fun Q1 hQ1 => lev_s10 X T hA2l hB2l (all2 ha hb) F N ?_
    clear F N
    intro h10 tk10 F N
    refine hQ1 _ ?_
    clear hQ1 Q1
    refine execs_step fun Q1 hQ1 => lev_s11 X T hA2l hB2l (all2 ha hb) F N ?_ ?_
    · clear F N
      intro hl h11 tk11 F N
      refine hQ1 _ ?_
      clear hQ1 Q1
      exact lev_last X T BB hPO hdp hun rfl rfl (Nat.pos_of_ne_zero hz2) (Nat.le_of_lt hl) hA2l hcb hca hc2 hc1 hc3 hc5 (by rw [hr1, Int.max_eq_left (by omega)]) (all3 put_eq ((put_ne (by decide)).trans put_eq) ((put_ne (by decide)).trans ((put_ne (by decide)).trans hc))) F N hret
    · clear F N
      intro hl h11 tk11 F N
      refine hQ1 _ ?_
      clear hQ1 Q1
      exact lev_last X T BB hPO hdp hun rfl rfl (Nat.pos_of_ne_zero hz1) (Nat.le_of_not_lt hl) hB2l hca hcb hc1 hc2 hc4 hc6 (by rw [hr1, Int.max_eq_right (by omega)]) (all3 ha hb hc) F N hret
  · intro hz t h9 tk9 F N
    rw [← hr0 hz]
    exact hQr _ _ (hret _ _ _ _ F N)
end
theorem c_lev {w : World} {news : Led} (A B A1 B1 A2 B2 : Str) (P S : Nat) (mc : Int) (ta tb tc : Tok)
    (hA : A.length ≤ 40) (hB : B.length ≤ 40) (hne : (A == B) = false)
    (hPA : P ≤ A.length) (hPB : P ≤ B.length)
    (hpre : ∀ k : Int, 0 ≤ k → k < P → (Txt.item A k == Txt.item B k) = true)
    (hst : P < A.length → P < B.length → (Txt.item A P == Txt.item B P) = false)
    (hA1 : Txt.slice A (some (P : Int)) none = A1) (hB1 : Txt.slice B (some (P : Int)) none = B1) 
    (hA1l : A1.length = A.length - P) (hB1l : B1.length = B.length - P)
    (hSA : S ≤ A1.length) (hSB : S ≤ B1.length)
    (hpost : ∀ k : Int, k ≤ 0 → -(S : Int) < k → (Txt.item A1 (k - 1) == Txt.item B1 (k - 1)) = true)
    (hst2 : S < A1.length → S < B1.length → (Txt.item A1 (-(S : Int) - 1) == Txt.item B1 (-(S : Int) - 1)) = false)
    (ca cb : Str) (hca : A2.length ≠ 0 → B2.length ≠ 0 → ∀ k : Int, 0 ≤ k → k < A2.length → Txt.item A2 k = ca) (hcb : A2.length ≠ 0 → B2.length ≠ 0 → ∀ k : Int, 0 ≤ k → k < B2.length → Txt.item B2 k = cb)
    (hc1 : ca.length = 1) (hc2 : cb.length = 1) (hc3 : (ca == cb) = false) (hc4 : (cb == ca) = false) (hc5 : (Txt.lower ca == Txt.lower cb) = false) (hc6 : (Txt.lower cb == Txt.lower ca) = false)
    (res : Int) (hr0 : A2.length = 0 ∨ B2.length = 0 → res = 2 * ((A2.length : Int) + B2.length))
    (hr1 : A2.length ≠ 0 → B2.length ≠ 0 → res = if 2 * max (A2.length : Int) B2.length > mc then mc + 1 else 2 * max (A2.length : Int) B2.length)
    (hA2l : A2.length = A1.length - S) (hB2l : B2.length = B1.length - S)
    (hA2 : (if S = 0 then A1 else Txt.slice A1 none (some (-(S : Int)))) = A2) (hB2 : (if S = 0 then B1 else Txt.slice B1 none (some (-(S : Int)))) = B2) :
   Ctr w 88 [.str A ta, .str B tb, .int mc tc] [] news 6 (IntBack news res) := by
  have hA1m : A1.length ≤ 40 := by rw [hA1l]; exact Nat.le_trans (Nat.sub_le _ _) hA
  have hB1m : B1.length ≤ 40 := by rw [hB1l]; exact Nat.le_trans (Nat.sub_le _ _) hB
  have hcut : ∀ {X Y : Str}, (if S = 0 then X else Txt.slice X none (some (-(S : Int)))) = Y → cut X (-(S : Int)) = Y := fun {X Y} h => by
    unfold cut
    by_cases hS : S = 0
    · rw [if_pos hS] at h; rw [if_pos (by rw [hS]; rfl)]; exact h
    · rw [if_neg hS] at h; rw [if_neg (by omega)]; exact h
  intro loose mean mg mb dp un gd cn cs ad ccd cl outer A₀ base h₀ L m s Q E BB F X N T hcs hdp hun hret
  refine wpAny_call ?_
  k_with_none
  k_dflt cell_enter
  rename_i F₁ N₁ B₁ X₁ T₁
  refine lev_body X₁ T₁ B₁ (by passes_own) hdp hun hA hB hne hPA hPB hpre hst hA1 hB1 hA1m hB1m hSA hSB hpost hst2 hca hcb hc1 hc2 hc3 hc4 hc5 hc6 hr0 hr1 (by rw [hA2l]; exact Nat.le_trans (Nat.sub_le _ _) hA1m) (by rw [hB2l]; exact Nat.le_trans (Nat.sub_le _ _) hB1m) (hcut hA2) (hcut hB2) (by kst_all) F₁ N₁ ?_
  clear F₁ N₁
  intro t m' h' tk' F₁ N₁
  k_steps
  exact hret _ _ _ _ ⟨⟨_, rfl⟩, rfl⟩ (by assumption) (by assumption)
end

section
open PySem PySem.W PyProof.Rows PySem.Builtin PySem.Builtin.Str
set_option maxRecDepth 100000
abbrev S1 (c : Nat) : Str := ⟨#[c]⟩
theorem R2_cps (c m d n : Nat) : (R2 c m d n).cps.toList = List.replicate m c ++ List.replicate n d := by simp [R2]
theorem R2_get (c m d n k : Nat) (h : k < m + n) : (List.replicate m c ++ List.replicate n d)[k]?.getD 0 = if k < m then c else d := by
  by_cases hk : k < m
  · rw [List.getElem?_append_left (by simpa using hk), if_pos hk]
    simp [hk]
  · rw [List.getElem?_append_right (by simpa using hk), if_neg hk]
    have : k - m < n := by omega
    simp [this]
theorem item_R2 (c m d n : Nat) (k : Int) (h0 : 0 ≤ k) (h : k < (m : Int) + n) : Txt.item (R2 c m d n) k = S1 (if k < m then c else d) := by
  have e : k = ((k.toNat : Nat) : Int) := by omega
  have hl := R2_length c m d n
  rw [e, item_nat _ _ (by omega), R2_cps, R2_get _ _ _ _ _ (by omega)]
  by_cases h1 : k.toNat < m
  · rw [if_pos h1, if_pos (by omega)]
  · rw [if_neg h1, if_neg (by omega)]
theorem item_R2n (c m d n : Nat) (k : Int) (h0 : k ≤ 0) (h : -((m : Int) + n) < k) : Txt.item (R2 c m d n) (k - 1) = S1 (if (n : Int) - 1 + k < 0 then c else d) := by
  have hl := R2_length c m d n
  have e : k - 1 = -(((-k).toNat : Nat) : Int) - 1 := by omega
  rw [e, item_neg _ _ (by omega), R2_cps, R2_get _ _ _ _ _ (by omega)]
  by_cases h1 : (R2 c m d n).length - 1 - (-k).toNat < m
  · rw [if_pos h1, if_pos (by omega)]
  · rw [if_neg h1, if_neg (by omega)]
theorem slice_R2a (c m d n k : Nat) (h : k ≤ m) : Txt.slice (R2 c m d n) (some (k : Int)) none = R2 c (m - k) d n := by
  rw [slice_sn _ _ (by rw [R2_length]; omega), R2_cps, List.drop_append_of_le_length (by simpa using h)]
  simp [R2]
theorem slice_R2b (c m d n k : Nat) (h : m ≤ k) (h2 : k ≤ m + n) : Txt.slice (R2 c m d n) (some (k : Int)) none = R2 c 0 d (n - (k - m)) := by
  rw [slice_sn _ _ (by rw [R2_length]; omega), R2_cps, List.drop_append]
  have : m - k = 0 := by omega
  simp [R2, this]
theorem slice_R2n (c m d n k : Nat) (h0 : 0 < k) (h : k ≤ n) : Txt.slice (R2 c m d n) none (some (-(k : Int))) = R2 c m d (n - k) := by
  rw [slice_neg _ _ h0 (by rw [R2_length]; exact Nat.le_trans h (Nat.le_add_left _ _)), R2_cps, R2_length, List.take_append]
  have e1 : m + n - k - m = n - k := by rw [Nat.add_sub_assoc h, Nat.add_sub_cancel_left]
  simp only [R2, List.length_replicate, List.take_replicate, e1]
  congr 3
  · congr 1
    first
      | (refine Nat.min_eq_right ?_; rw [Nat.add_sub_assoc h]; exact Nat.le_add_right _ _)
      | (refine Nat.min_eq_left ?_; rw [Nat.add_sub_assoc h]; exact Nat.le_add_right _ _)
  · congr 1; exact Nat.min_eq_left (Nat.sub_le _ _)
theorem beqS (a b : Nat) : (S1 a == S1 b) = decide (a = b) := by
  by_cases h : a = b
  · subst h; simp
  · rw [decide_eq_false h]
    apply beq_false_of_ne
    intro e
    apply h
    have := congrArg (fun s : Str => s.cps) e
    simpa using this
theorem R2_inj {c d m n m' n' : Nat} (hcd : c ≠ d) (h : ¬ (m = m' ∧ n = n')) : (R2 c m d n == R2 c m' d n') = false := by
  apply beq_false_of_ne
  intro e
  apply h
  have e1 : List.replicate m c ++ List.replicate n d = List.replicate m' c ++ List.replicate n' d := by
    rw [← R2_cps, ← R2_cps, e]
  have c1 := congrArg (List.count c) e1
  have c2 := congrArg (List.count d) e1
  simp [List.count_replicate, hcd, Ne.symm hcd] at c1 c2
  exact ⟨c1, c2⟩
/-- what the distance tells of the words c^m d^n and c^m' d^n' -/
def levv (m n m' n' : Nat) (mc : Int) : Int :=
  if (m ≤ m' ∧ n ≤ n') ∨ (m' ≤ m ∧ n' ≤ n) then 2 * (((m' : Int) - m).natAbs + ((n' : Int) - n).natAbs : Nat)
  else if 2 * max (((m' : Int) - m).natAbs : Int) (((n' : Int) - n).natAbs : Int) > mc then mc + 1 else 2 * max (((m' : Int) - m).natAbs : Int) (((n' : Int) - n).natAbs : Int)
theorem c_levW {w : World} {news : Led} (A B A1 B1 A2 B2 : Str) (p s a b : Nat) (mc : Int) (ta tb tc : Tok)
    (lA : A.length = p + (s + a)) (lB : B.length = p + (s + b)) (hA : p + (s + a) ≤ 40) (hB : p + (s + b) ≤ 40) (lA1 : A1.length = s + a) (lB1 : B1.length = s + b) (lA2 : A2.length = a) (lB2 : B2.length = b) (hne : (A == B) = false)
    (hpre : ∀ k : Int, 0 ≤ k → k < p → (Txt.item A k == Txt.item B k) = true)
    (hst : 0 < s + a → 0 < s + b → (Txt.item A p == Txt.item B p) = false)
    (hA1 : Txt.slice A (some (p : Int)) none = A1) (hB1 : Txt.slice B (some (p : Int)) none = B1)
    (hpost : ∀ k : Int, k ≤ 0 → -(s : Int) < k → (Txt.item A1 (k - 1) == Txt.item B1 (k - 1)) = true)
    (hst2 : 0 < a → 0 < b → (Txt.item A1 (-(s : Int) - 1) == Txt.item B1 (-(s : Int) - 1)) = false)
    (ca cb : Str) (hca : 0 < a → 0 < b → ∀ k : Int, 0 ≤ k → k < a → Txt.item A2 k = ca) (hcb : 0 < a → 0 < b → ∀ k : Int, 0 ≤ k → k < b → Txt.item B2 k = cb)
    (hc1 : ca.length = 1) (hc2 : cb.length = 1) (hc3 : (ca == cb) = false) (hc4 : (cb == ca) = false) (hc5 : (Txt.lower ca == Txt.lower cb) = false) (hc6 : (Txt.lower cb == Txt.lower ca) = false)
    (res : Int) (hr0 : a = 0 ∨ b = 0 → res = 2 * ((a : Int) + b))
    (hr1 : 0 < a → 0 < b → res = if 2 * max (a : Int) b > mc then mc + 1 else 2 * max (a : Int) b)
    (hA2 : (if s = 0 then A1 else Txt.slice A1 none (some (-(s : Int)))) = A2) (hB2 : (if s = 0 then B1 else Txt.slice B1 none (some (-(s : Int)))) = B2) :
   Ctr w 88 [.str A ta, .str B tb, .int mc tc] [] news 6 (IntBack news res) := by
  refine c_lev A B A1 B1 A2 B2 p s mc ta tb tc (by rw [lA]; exact hA) (by rw [lB]; exact hB) hne (by rw [lA]; exact Nat.le_add_right _ _) (by rw [lB]; exact Nat.le_add_right _ _) hpre
    (fun h1 h2 => hst ?_ ?_) hA1 hB1 (by rw [lA1, lA, Nat.add_sub_cancel_left]) (by rw [lB1, lB, Nat.add_sub_cancel_left]) (by rw [lA1]; exact Nat.le_add_right _ _) (by rw [lB1]; exact Nat.le_add_right _ _) hpost
    (fun h1 h2 => hst2 ?_ ?_) ca cb (fun h1 h2 => ?_) (fun h1 h2 => ?_) hc1 hc2 hc3 hc4 hc5 hc6 res ?_ (fun h1 h2 => ?_) (by rw [lA2, lA1, Nat.add_sub_cancel_left]) (by rw [lB2, lB1, Nat.add_sub_cancel_left]) hA2 hB2
  · rw [lA] at h1; exact Nat.pos_of_lt_add_right h1
  · rw [lB] at h2; exact Nat.pos_of_lt_add_right h2
  · rw [lA1] at h1; exact Nat.pos_of_lt_add_right h1
  · rw [lB1] at h2; exact Nat.pos_of_lt_add_right h2
  · rw [lA2] at h1 ⊢; rw [lB2] at h2; exact hca (Nat.pos_of_ne_zero h1) (Nat.pos_of_ne_zero h2)
  · rw [lA2] at h1; rw [lB2] at h2 ⊢; exact hcb (Nat.pos_of_ne_zero h1) (Nat.pos_of_ne_zero h2)
  · rw [lA2, lB2]; exact hr0
  · rw [lA2] at h1 ⊢; rw [lB2] at h2 ⊢; exact hr1 (Nat.pos_of_ne_zero h1) (Nat.pos_of_ne_zero h2)
theorem R2z (c m d n : Nat) (h : m = 0) : R2 c m d n = R2 c 0 d n := by rw [h]
/-- one letter's number is the same -/
theorem lev_same {w : World} {news : Led} (c d m k a b : Nat) (mc : Int) (ta tb tc : Tok) (hcd : c ≠ d) (hl1 : (Txt.lower (S1 c) == Txt.lower (S1 d)) = false) (hl2 : (Txt.lower (S1 d) == Txt.lower (S1 c)) = false)
    (h1 : m + (k + a) ≤ 40) (h2 : m + (k + b) ≤ 40) (hne : a ≠ b) (hz : a = 0 ∨ b = 0) : Ctr w 88 [.str (R2 c m d (k + a)) ta, .str (R2 c m d (k + b)) tb, .int mc tc] [] news 6 (IntBack news (2 * ((a : Int) + b))) := by
  have hf : ∀ {P : Prop}, 0 < a → 0 < b → P := fun q1 q2 => by
    rcases hz with h | h
    · exact absurd q1 (by rw [h]; exact Nat.lt_irrefl 0)
    · exact absurd q2 (by rw [h]; exact Nat.lt_irrefl 0)
  refine c_levW (R2 c m d (k + a)) (R2 c m d (k + b)) (R2 c 0 d a) (R2 c 0 d b) (R2 c 0 d a) (R2 c 0 d b) (m + k) 0 a b mc ta tb tc
    (by rw [R2_length, Nat.zero_add, Nat.add_assoc]) (by rw [R2_length, Nat.zero_add, Nat.add_assoc]) (by rw [Nat.zero_add, Nat.add_assoc]; exact h1) (by rw [Nat.zero_add, Nat.add_assoc]; exact h2) (by rw [R2_length]) (by rw [R2_length]) (by rw [R2_length, Nat.zero_add]) (by rw [R2_length, Nat.zero_add])
    (R2_inj hcd fun h => hne (Nat.add_left_cancel h.2)) ?_ ?_ ?_ ?_ ?_ hf
    (S1 c) (S1 d) hf hf rfl rfl (by rw [beqS]; simpa using hcd) (by rw [beqS]; simpa using Ne.symm hcd) hl1 hl2 _ (fun _ => rfl) hf rfl rfl
  · intro j h0 hk
    rw [item_R2 _ _ _ _ _ h0 (by omega), item_R2 _ _ _ _ _ h0 (by omega)]
    simp
  · intro q1 q2
    rw [Nat.zero_add] at q1 q2
    exact hf q1 q2
  · rw [slice_R2b _ _ _ _ _ (Nat.le_add_right _ _) (by omega)]; congr 1; omega
  · rw [slice_R2b _ _ _ _ _ (Nat.le_add_right _ _) (by omega)]; congr 1; omega
  · intro j h0 hk; clear hf; omega
theorem lev_tail {c d k a : Nat} (e : Nat) : (if k = 0 then R2 c e d (k + a) else Txt.slice (R2 c e d (k + a)) none (some (-(k : Int)))) = R2 c e d a := by
  by_cases h : k = 0
  · rw [if_pos h, h, Nat.zero_add]
  · rw [if_neg h, slice_R2n _ _ _ _ _ (Nat.pos_of_ne_zero h) (Nat.le_add_right _ _), Nat.add_sub_cancel_left]
theorem lev_back {c d k a b e e' : Nat} (j : Int) (h0 : j ≤ 0) (hk : -(k : Int) < j) : (Txt.item (R2 c e d (k + a)) (j - 1) == Txt.item (R2 c e' d (k + b)) (j - 1)) = true := by
  rw [item_R2n _ _ _ _ _ h0 (by omega), item_R2n _ _ _ _ _ h0 (by omega), if_neg (by omega), if_neg (by omega), beqS]
  simp
theorem lev_pre {c d m k a b e e' : Nat} (j : Int) (h0 : 0 ≤ j) (hk : j < (m : Int)) : (Txt.item (R2 c (m + e) d (k + a)) j == Txt.item (R2 c (m + e') d (k + b)) j) = true := by
  rw [item_R2 _ _ _ _ _ h0 (by omega), item_R2 _ _ _ _ _ h0 (by omega), if_pos (by omega), if_pos (by omega), beqS]
  simp
theorem lev_at {c d m k b e : Nat} (he : 0 < e) : Txt.item (R2 c (m + e) d (k + b)) (m : Int) = S1 c := by
  rw [item_R2 _ _ _ _ _ (Int.natCast_nonneg _) (by omega), if_pos (by omega)]
theorem lev_at0 {c d m k a : Nat} (h : 0 < k + a) : Txt.item (R2 c (m + 0) d (k + a)) (m : Int) = S1 d := by
  rw [item_R2 _ _ _ _ _ (Int.natCast_nonneg _) (by omega), if_neg (by omega)]
theorem lev_end {c d k a e : Nat} (h : 0 < a) : Txt.item (R2 c e d (k + a)) (-(k : Int) - 1) = S1 d := by
  rw [item_R2n _ _ _ _ _ (by omega) (by omega), if_neg (by omega)]
theorem lev_end0 {c d k e : Nat} (h : 0 < e) : Txt.item (R2 c e d (k + 0)) (-(k : Int) - 1) = S1 c := by
  rw [item_R2n _ _ _ _ _ (by omega) (by omega), if_pos (by omega)]
theorem lev_sl {c d m k a e : Nat} : Txt.slice (R2 c (m + e) d (k + a)) (some (m : Int)) none = R2 c e d (k + a) := by
  rw [slice_R2a _ _ _ _ _ (Nat.le_add_right _ _), Nat.add_sub_cancel_left]
theorem lev_hA {m e k a : Nat} (h : (m + e) + (k + a) ≤ 40) : m + (k + (e + a)) ≤ 40 := by omega
theorem lev_l1 {m e k a : Nat} : (m + e) + (k + a) = m + (k + (e + a)) := by omega
theorem lev_l2 {e k a : Nat} : e + (k + a) = k + (e + a) := by omega
theorem lev_less {w : World} {news : Led} (c d m e k a b : Nat) (mc : Int) (ta tb tc : Tok) (hcd : c ≠ d) (hl1 : (Txt.lower (S1 c) == Txt.lower (S1 d)) = false) (hl2 : (Txt.lower (S1 d) == Txt.lower (S1 c)) = false)
    (h1 : (m + 0) + (k + a) ≤ 40) (h2 : (m + e) + (k + b) ≤ 40) (he : 0 < e) (hz : a = 0 ∨ b = 0) (res : Int)
    (hr0 : 0 + a = 0 ∨ e + b = 0 → res = 2 * (((0 + a : Nat) : Int) + ((e + b : Nat) : Int))) (hr1 : 0 < 0 + a → 0 < e + b → res = if 2 * max ((0 + a : Nat) : Int) ((e + b : Nat) : Int) > mc then mc + 1 else 2 * max ((0 + a : Nat) : Int) ((e + b : Nat) : Int)) :
    Ctr w 88 [.str (R2 c (m + 0) d (k + a)) ta, .str (R2 c (m + e) d (k + b)) tb, .int mc tc] [] news 6 (IntBack news res) := by
  have hb : 0 < 0 + a → b = 0 := fun h => hz.resolve_left (by omega)
  refine c_levW (R2 c (m + 0) d (k + a)) (R2 c (m + e) d (k + b)) (R2 c 0 d (k + a)) (R2 c e d (k + b)) (R2 c 0 d a) (R2 c e d b) m k (0 + a) (e + b) mc ta tb tc
    (by rw [R2_length]; exact lev_l1) (by rw [R2_length]; exact lev_l1) (lev_hA h1) (lev_hA h2) (by rw [R2_length]; exact lev_l2) (by rw [R2_length]; exact lev_l2) (R2_length _ _ _ _) (R2_length _ _ _ _)
    (R2_inj hcd fun h => by omega) (fun j h0 hk => lev_pre j h0 hk) (fun q1 _ => ?_) lev_sl lev_sl (fun j h0 hk => lev_back j h0 hk) (fun q1 _ => ?_)
    (S1 d) (S1 c) (fun q1 _ j h0 hk => ?_) (fun q1 _ j h0 hk => ?_) rfl rfl (by rw [beqS]; simpa using Ne.symm hcd) (by rw [beqS]; simpa using hcd) hl2 hl1 res hr0 hr1 (lev_tail 0) (lev_tail e)
  · rw [lev_at0 (by omega), lev_at he, beqS]; simpa using Ne.symm hcd
  · have := hb q1
    subst this
    rw [lev_end (by omega), lev_end0 he, beqS]; simpa using Ne.symm hcd
  · rw [item_R2 _ _ _ _ _ h0 (by omega), if_neg (by omega)]
  · have := hb q1
    subst this
    rw [item_R2 _ _ _ _ _ h0 (by omega), if_pos (by omega)]
theorem lev_more {w : World} {news : Led} (c d m e k a b : Nat) (mc : Int) (ta tb tc : Tok) (hcd : c ≠ d) (hl1 : (Txt.lower (S1 c) == Txt.lower (S1 d)) = false) (hl2 : (Txt.lower (S1 d) == Txt.lower (S1 c)) = false)
    (h1 : (m + e) + (k + a) ≤ 40) (h2 : (m + 0) + (k + b) ≤ 40) (he : 0 < e) (hz : a = 0 ∨ b = 0) (res : Int)
    (hr0 : e + a = 0 ∨ 0 + b = 0 → res = 2 * (((e + a : Nat) : Int) + ((0 + b : Nat) : Int))) (hr1 : 0 < e + a → 0 < 0 + b → res = if 2 * max ((e + a : Nat) : Int) ((0 + b : Nat) : Int) > mc then mc + 1 else 2 * max ((e + a : Nat) : Int) ((0 + b : Nat) : Int)) :
    Ctr w 88 [.str (R2 c (m + e) d (k + a)) ta, .str (R2 c (m + 0) d (k + b)) tb, .int mc tc] [] news 6 (IntBack news res) := by
  have ha : 0 < 0 + b → a = 0 := fun h => hz.resolve_right (by omega)
  refine c_levW (R2 c (m + e) d (k + a)) (R2 c (m + 0) d (k + b)) (R2 c e d (k + a)) (R2 c 0 d (k + b)) (R2 c e d a) (R2 c 0 d b) m k (e + a) (0 + b) mc ta tb tc
    (by rw [R2_length]; exact lev_l1) (by rw [R2_length]; exact lev_l1) (lev_hA h1) (lev_hA h2) (by rw [R2_length]; exact lev_l2) (by rw [R2_length]; exact lev_l2) (R2_length _ _ _ _) (R2_length _ _ _ _)
    (R2_inj hcd fun h => by omega) (fun j h0 hk => lev_pre j h0 hk) (fun _ q2 => ?_) lev_sl lev_sl (fun j h0 hk => lev_back j h0 hk) (fun _ q2 => ?_)
    (S1 c) (S1 d) (fun _ q2 j h0 hk => ?_) (fun _ q2 j h0 hk => ?_) rfl rfl (by rw [beqS]; simpa using hcd) (by rw [beqS]; simpa using Ne.symm hcd) hl1 hl2 res hr0 hr1 (lev_tail e) (lev_tail 0)
  · rw [lev_at0 (by omega), lev_at he, beqS]; simpa using hcd
  · have := ha q2
    subst this
    rw [lev_end0 he, lev_end (by omega), beqS]; simpa using hcd
  · have := ha q2
    subst this
    rw [item_R2 _ _ _ _ _ h0 (by omega), if_pos (by omega)]
  · rw [item_R2 _ _ _ _ _ h0 (by omega), if_neg (by omega)]
theorem fillLevE : (fun (_ : OpenLaw) (_ : Params → Frag) => True) PySem.Challenge.rw_pu0053_01 hd.heap_39 := by
  k_fill
  w_top off
  trivial
set_option maxHeartbeats 4000000 in
theorem lev_eq {w : World} {news : Led} (A : Str) (mc : Int) (ta tb tc : Tok) : Ctr w 88 [.str A ta, .str A tb, .int mc tc] [] news 6 (IntBack news 0) := by
  intro loose mean mg mb dp un gd cn cs ad ccd cl outer A₀ base h₀ L m s Q E B F X N T hcs hdp hun hret
  have e : (A == A) = true := beq_self_eq_true A
  refine wpAny_call ?_
  k_dflt cell_enter
  k_with_none
  k_with "exec While BoolOp" => (refine stop_here ?_)
  k_steps
  · exact hret _ _ _ _ ⟨⟨_, rfl⟩, rfl⟩ (by assumption) (by assumption)
theorem split2 (n n' : Nat) : ∃ k a b, n = k + a ∧ n' = k + b ∧ (a = 0 ∨ b = 0) := by
  rcases Nat.le_total n n' with h | h
  · exact ⟨n, 0, n' - n, rfl, (Nat.add_sub_cancel' h).symm, Or.inl rfl⟩
  · exact ⟨n', n - n', 0, (Nat.add_sub_cancel' h).symm, rfl, Or.inr rfl⟩
theorem na1 (x e : Nat) : (((x + e : Nat) : Int) - x).natAbs = e := by rw [Int.natCast_add, Int.add_comm, Int.add_sub_cancel]; rfl
theorem na2 (x e : Nat) : ((x : Int) - ((x + e : Nat) : Int)).natAbs = e := by rw [← Int.natAbs_neg, Int.neg_sub]; exact na1 x e
theorem na3 {k a b : Nat} (h : a = 0 ∨ b = 0) : (((k + b : Nat) : Int) - ((k + a : Nat) : Int)).natAbs = a + b := by
  rcases h with h | h
  · subst h; rw [Nat.add_zero, Nat.zero_add]; exact na1 k b
  · subst h; rw [Nat.add_zero]; exact na2 k a
theorem c_levR {w : World} {news : Led} (c d m n m' n' : Nat) (mc : Int) (ta tb tc : Tok) (hcd : c ≠ d) (hl1 : (Txt.lower (S1 c) == Txt.lower (S1 d)) = false) (hl2 : (Txt.lower (S1 d) == Txt.lower (S1 c)) = false)
    (h1 : m + n ≤ 40) (h2 : m' + n' ≤ 40) : Ctr w 88 [.str (R2 c m d n) ta, .str (R2 c m' d n') tb, .int mc tc] [] news 6 (IntBack news (levv m n m' n' mc)) := by
  obtain ⟨k, a, b, rfl, rfl, hz⟩ := split2 n n'
  rcases Nat.lt_trichotomy m m' with h | h | h
  · obtain ⟨e, rfl⟩ : ∃ e, m' = m + e := ⟨m' - m, (Nat.add_sub_cancel' (Nat.le_of_lt h)).symm⟩
    have he : 0 < e := Nat.pos_of_lt_add_right h
    refine lev_less c d m e k a b mc ta tb tc hcd hl1 hl2 h1 h2 he hz _ (fun q => ?_) (fun q1 q2 => ?_)
    · have ha : a = 0 := q.elim (fun q => by rw [Nat.zero_add] at q; exact q) fun q => absurd he (by rw [Nat.eq_zero_of_add_eq_zero_right q]; exact Nat.lt_irrefl 0)
      subst ha
      unfold levv
      rw [na1, na3 hz, if_pos (Or.inl ⟨Nat.le_add_right _ _, Nat.add_le_add_left (Nat.zero_le _) _⟩), Nat.zero_add, Nat.zero_add]
      show 2 * ((e + b : Nat) : Int) = 2 * (((0 : Nat) : Int) + ((e + b : Nat) : Int))
      rw [Int.natCast_zero, Int.zero_add]
    · rw [Nat.zero_add] at q1 ⊢
      have hb : b = 0 := hz.resolve_left (Nat.ne_of_gt q1)
      subst hb
      unfold levv
      rw [na1, na3 hz, if_neg (fun q => q.elim (fun q => absurd (Nat.add_le_add_iff_left.mp q.2) (Nat.not_le.mpr q1)) fun q => absurd q.1 (Nat.not_le.mpr h)), Nat.add_zero, Nat.add_zero, Int.max_comm]
  · subst h
    have e : levv m (k + a) m (k + b) mc = 2 * (((a + b : Nat) : Nat) : Int) := by
      unfold levv
      rw [na3 hz, Int.sub_self, if_pos]
      · rw [Int.natAbs_zero, Nat.zero_add]
      · rcases hz with h | h
        · exact Or.inl ⟨Nat.le_refl _, by rw [h]; exact Nat.add_le_add_left (Nat.zero_le _) _⟩
        · exact Or.inr ⟨Nat.le_refl _, by rw [h]; exact Nat.add_le_add_left (Nat.zero_le _) _⟩
    rw [e]
    by_cases hn : a = b
    · subst hn
      have ha : a = 0 := hz.elim id id
      subst ha
      exact lev_eq _ _ _ _ _
    · rw [Int.natCast_add]
      exact lev_same c d m k a b mc ta tb tc hcd hl1 hl2 h1 h2 hn hz
  · obtain ⟨e, rfl⟩ : ∃ e, m = m' + e := ⟨m - m', (Nat.add_sub_cancel' (Nat.le_of_lt h)).symm⟩
    have he : 0 < e := Nat.pos_of_lt_add_right h
    refine lev_more c d m' e k a b mc ta tb tc hcd hl1 hl2 h1 h2 he hz _ (fun q => ?_) (fun q1 q2 => ?_)
    · have hb : b = 0 := q.elim (fun q => absurd he (by rw [Nat.eq_zero_of_add_eq_zero_right q]; exact Nat.lt_irrefl 0)) (fun q => by rw [Nat.zero_add] at q; exact q)
      subst hb
      unfold levv
      rw [na2, na3 hz, if_pos (Or.inr ⟨Nat.le_add_right _ _, Nat.add_le_add_left (Nat.zero_le _) _⟩), Nat.add_zero, Nat.add_zero]
      exact (Int.mul_add 2 _ 0).symm ▸ rfl
    · rw [Nat.zero_add] at q2 ⊢
      have ha : a = 0 := hz.resolve_right (Nat.ne_of_gt q2)
      subst ha
      unfold levv
      rw [na2, na3 hz, if_neg (fun q => q.elim (fun q => absurd q.1 (Nat.not_le.mpr h)) fun q => absurd (Nat.add_le_add_iff_left.mp q.2) (Nat.not_le.mpr q2)), Nat.add_zero, Nat.zero_add]
end

section
open PySem PySem.W PyProof.Rows PySem.Builtin PySem.Builtin.Str
set_option maxRecDepth 100000
set_option maxHeartbeats 8000000
theorem fillTold : (fun (_ : OpenLaw) (_ : Params → Frag) => True) PySem.Challenge.rw_pu0053_01 hd.heap_39 := by
  k_fill
  w_top off
  trivial
/-- what _law_told tells -/
def tv (wd hg bd : Int) : Int :=
  if (0 ≤ wd ∧ 0 ≤ hg) ∨ (wd ≤ 0 ∧ hg ≤ 0) then 2 * (wd.natAbs + hg.natAbs : Nat)
  else if 2 * max (wd.natAbs : Int) (hg.natAbs : Int) > bd then bd + 1 else 2 * max (wd.natAbs : Int) (hg.natAbs : Int)
theorem tl1 {m d : Int} (h1 : 0 ≤ m) (h2 : 0 ≤ m + d) : (m.toNat ≤ (m + d).toNat) = (0 ≤ d) := propext (by omega)
theorem tl2 {m d : Int} (h1 : 0 ≤ m) (h2 : 0 ≤ m + d) : ((m + d).toNat ≤ m.toNat) = (d ≤ 0) := propext (by omega)
theorem tl3 {m d : Int} (h1 : 0 ≤ m) (h2 : 0 ≤ m + d) : ((((m + d).toNat : Nat) : Int) - (m.toNat : Nat)) = d := by
  rw [Int.toNat_of_nonneg h1, Int.toNat_of_nonneg h2]; omega
theorem levv_tv {m n wd hg bd : Int} (h1 : 0 ≤ m) (h2 : 0 ≤ n) (h3 : 0 ≤ m + wd) (h4 : 0 ≤ n + hg) : levv m.toNat n.toNat (m + wd).toNat (n + hg).toNat bd = tv wd hg bd := by
  unfold levv tv
  simp only [tl1 h1 h3, tl1 h2 h4, tl2 h1 h3, tl2 h2 h4, tl3 h1 h3, tl3 h2 h4]
def lettersOk (c d : Nat) : Prop := c ≠ d ∧ (Txt.lower (S1 c) == Txt.lower (S1 d)) = false ∧ (Txt.lower (S1 d) == Txt.lower (S1 c)) = false
theorem letters25 : ∀ c ∈ [65, 98, 67, 100, 69], ∀ d ∈ [118, 87, 120, 121, 90], c ≠ d ∧ (Txt.lower (S1 c) == Txt.lower (S1 d)) = false ∧ (Txt.lower (S1 d) == Txt.lower (S1 c)) = false := by
  decide +kernel
theorem letter_one (i : Nat) (h : i < 5) : ∃ c ∈ [65, 98, 67, 100, 69], Txt.item (Str.ofString "AbCdE") (i : Int) = S1 c := by
  have : ∀ i : Nat, i < 5 → ∃ c ∈ [65, 98, 67, 100, 69], Txt.item (Str.ofString "AbCdE") (i : Int) = S1 c := by decide +kernel
  exact this i h
theorem letter_other (i : Nat) (h : i < 5) : ∃ c ∈ [118, 87, 120, 121, 90], Txt.item (Str.ofString "vWxyZ") (i : Int) = S1 c := by
  have : ∀ i : Nat, i < 5 → ∃ c ∈ [118, 87, 120, 121, 90], Txt.item (Str.ofString "vWxyZ") (i : Int) = S1 c := by decide +kernel
  exact this i h
theorem letters (x y : Int) : ∃ c d, Txt.item (Str.ofString "AbCdE") (x.fmod 5) = S1 c ∧ Txt.item (Str.ofString "vWxyZ") (y.fmod 5) = S1 d ∧ lettersOk c d := by
  have hx0 := Int.fmod_nonneg_of_pos x (b := 5) (by decide)
  have hx1 := Int.fmod_lt_of_pos x (b := 5) (by decide)
  have hy0 := Int.fmod_nonneg_of_pos y (b := 5) (by decide)
  have hy1 := Int.fmod_lt_of_pos y (b := 5) (by decide)
  obtain ⟨c, hc, ec⟩ := letter_one (x.fmod 5).toNat (by (first | lia -abstractProof | omega))
  obtain ⟨d, hd, ed⟩ := letter_other (y.fmod 5).toNat (by (first | lia -abstractProof | omega))
  rw [Int.toNat_of_nonneg hx0] at ec
  rw [Int.toNat_of_nonneg hy0] at ed
  exact ⟨c, d, ec, ed, letters25 c hc d hd⟩
theorem mul_len (c : Nat) (n : Int) : (Txt.mul (S1 c) n).length = n.toNat := by
  rw [mul_one]; simp [Str.length]
noncomputable def toldF : Stmt := nthS PySem.Challenge.pw_pu0053_01.main.body 18
noncomputable abbrev toldEnv (L : Addr) : Env := envOf (Str.ofString "_law_told") (fdScope toldF) L 95 (.ref 94)
abbrev psA (x y r wd hg bd : Int) (t1 t2 t3 t4 t5 t6 : Tok) : List (Str × Value) := [(Str.ofString "x", .int x t1), (Str.ofString "y", .int y t2), (Str.ofString "reach", .int r t3), (Str.ofString "wide", .int wd t4), (Str.ofString "high", .int hg t5), (Str.ofString "bound", .int bd t6)]
section
variable {w : World} {Q : Flow → Shared → Prop} {E : Value → Shared → Prop} {g : Heap} {L L0 ad : Addr} {m : Str → Option Value} {s : Shared} {R : Led} {loose : List Str} {mean : ExcName → Option Value} {mg mb : Str → Option Value}
  {dp un : Nat} {gd : Option (List Code)} {cn : Str} {cs : Scope} {ccd : Value} {cl : List (Str × Addr)} {outer : List Env} {base : Heap} {x y r wd hg bd mx my : Int} {t1 t2 t3 t4 t5 t6 t7 t8 t9 ta tb : Tok} {A B C : Str} {c d : Nat}
theorem told_s0 (X : (hd.heap_39 w.params).In g) (T : Top topProg loose mean mg mb g) (ec : Txt.item (Str.ofString "AbCdE") (x.fmod 5) = A) (ed : Txt.item (Str.ofString "vWxyZ") (y.fmod 5) = B)
    (hm : ∀ p ∈ [(Str.ofString "x", Value.int x t1), (Str.ofString "y", .int y t2)], m p.1 = some p.2) (F : Fr g L s.heap m) (N : News g L s.heap R)
    (hQ : ∀ t t' h' tk', Fr g L h' (put (Str.ofString "one") (.str A t) (put (Str.ofString "other") (.str B t') m)) → News g L h' R → Q .next { s with heap := h', toks := tk' }) :
    wpAny (model PR w) ((ktrTop dp un gd cn cs L0 ad ccd cl outer).deeper (toldEnv L)) (exec (nthS (fdBody toldF) 0) (toldEnv L)) Q E s := by
  have hx0 := Int.fmod_nonneg_of_pos x (b := 5) (by decide)
  have hx1 := Int.fmod_lt_of_pos x (b := 5) (by decide)
  have hy0 := Int.fmod_nonneg_of_pos y (b := 5) (by decide)
  have hy1 := Int.fmod_lt_of_pos y (b := 5) (by decide)
  rw [← kst_self hm] at F hQ
  subst ec ed
  clear hm
  dsimp only [toldF, nthS, fdBody, PySem.Challenge.pw_pu0053_01]
  dsimp only [kstB] at F hQ
  k_with_none
  k_steps
  rename Fr _ _ _ _ => F9
  rename News _ _ _ _ => N9
  exact hQ _ _ _ _ F9 (fun p hp => N9 p (.tail _ hp))
theorem told_s1 (X : (hd.heap_39 w.params).In g) (T : Top topProg loose mean mg mb g) (hr1 : 1 ≤ r) (hr3 : r ≤ 3)
    (hm : ∀ p ∈ [(Str.ofString "x", Value.int x t1), (Str.ofString "y", .int y t2), (Str.ofString "reach", .int r t3)], m p.1 = some p.2) (F : Fr g L s.heap m) (N : News g L s.heap R)
    (hQ : ∀ t t' h' tk', Fr g L h' (put (Str.ofString "many") (.int (2 * r + 1 + x.fmod 3) t) (put (Str.ofString "more") (.int (2 * r + 1 + y.fmod 3) t') m)) → News g L h' R → Q .next { s with heap := h', toks := tk' }) :
    wpAny (model PR w) ((ktrTop dp un gd cn cs L0 ad ccd cl outer).deeper (toldEnv L)) (exec (nthS (fdBody toldF) 1) (toldEnv L)) Q E s := by
  have hx0 := Int.fmod_nonneg_of_pos x (b := 3) (by decide)
  have hx1 := Int.fmod_lt_of_pos x (b := 3) (by decide)
  have hy0 := Int.fmod_nonneg_of_pos y (b := 3) (by decide)
  have hy1 := Int.fmod_lt_of_pos y (b := 3) (by decide)
  rw [← kst_self hm] at F hQ
  clear hm
  dsimp only [toldF, nthS, fdBody, PySem.Challenge.pw_pu0053_01]
  dsimp only [kstB] at F hQ
  k_with_none
  k_steps
  rename Fr _ _ _ _ => F9
  rename News _ _ _ _ => N9
  exact hQ _ _ _ _ F9 (fun p hp => N9 p (.tail _ hp))
theorem told_s2 (X : (hd.heap_39 w.params).In g) (hw0 : 0 ≤ mx + wd) (hw : mx + wd ≤ 16) (hh0 : 0 ≤ my + hg) (hh : my + hg ≤ 16) (hmx : 0 ≤ mx ∧ mx ≤ 9) (hmy : 0 ≤ my ∧ my ≤ 9)
    (hm : ∀ p ∈ [(Str.ofString "one", Value.str (S1 c) ta), (Str.ofString "other", .str (S1 d) tb), (Str.ofString "many", .int mx t1), (Str.ofString "more", .int my t2), (Str.ofString "wide", .int wd t3), (Str.ofString "high", .int hg t4)], m p.1 = some p.2) (F : Fr g L s.heap m) (N : News g L s.heap R)
    (hQ : ∀ t h' tk', Fr g L h' (put (Str.ofString "near") (.str (R2 c (mx + wd).toNat d (my + hg).toNat) t) m) → News g L h' R → Q .next { s with heap := h', toks := tk' }) :
    wpAny (model PR w) ((ktrTop dp un gd cn cs L0 ad ccd cl outer).deeper (toldEnv L)) (exec (nthS (fdBody toldF) 2) (toldEnv L)) Q E s := by
  have hm1 := mul_len c (mx + wd)
  have hm2 := mul_len d (my + hg)
  rw [← kst_self hm] at F hQ
  clear hm
  dsimp only [toldF, nthS, fdBody, PySem.Challenge.pw_pu0053_01]
  dsimp only [kstB] at F hQ
  k_with_none
  k_with "binaryOp Mult str int" => (refine SB.mul (mulOk_of 16 1048576 (Nat.le_of_ble_eq_true rfl) (by omega) (by omega) (by decide) (by decide)) ?_; intro _ _)
  k_steps
  rename Fr _ _ _ _ => F9
  simp only [R2_mul] at F9
  exact hQ _ _ _ F9 (by assumption)
theorem told_s3 {w1 h1 : Nat} (X : (hd.heap_39 w.params).In g) (T : Top topProg loose mean mg mb g) (BB : Below (ktrTop dp un gd cn cs L0 ad ccd cl outer) base (envX cn cs L0 ad ccd cl :: outer) g) (hdp : dp + 8 < recursionLimit) (hun : un + 8 * 8 < cLine)
    (hcd : c ≠ d) (hl1 : (Txt.lower (S1 c) == Txt.lower (S1 d)) = false) (hl2 : (Txt.lower (S1 d) == Txt.lower (S1 c)) = false) (hmx : 0 ≤ mx ∧ mx ≤ 9) (hmy : 0 ≤ my ∧ my ≤ 9) (hwh : w1 + h1 ≤ 40)
    (hm : ∀ p ∈ [(Str.ofString "one", Value.str (S1 c) ta), (Str.ofString "other", .str (S1 d) tb), (Str.ofString "many", .int mx t1), (Str.ofString "more", .int my t2), (Str.ofString "near", .str (R2 c w1 d h1) t3), (Str.ofString "bound", .int bd t4)], m p.1 = some p.2) (F : Fr g L s.heap m) (N : News g L s.heap R)
    (hQ : ∀ t h' tk', Fr g L h' m → News g L h' R → Q (.ret (.int (levv mx.toNat my.toNat w1 h1 bd) t)) { s with heap := h', toks := tk' }) :
    wpAny (model PR w) ((ktrTop dp un gd cn cs L0 ad ccd cl outer).deeper (toldEnv L)) (execs [nthS (fdBody toldF) 3] (toldEnv L)) Q E s := by
  have hm1 := mul_len c mx
  have hm2 := mul_len d my
  rw [← kst_self hm] at F hQ
  clear hm
  dsimp only [toldF, nthS, fdBody, PySem.Challenge.pw_pu0053_01]
  dsimp only [kstB] at F hQ
  k_with_none
  k_with "binaryOp Mult str int" => (refine SB.mul (mulOk_of 16 1048576 (Nat.le_of_ble_eq_true rfl) (by omega) (by omega) (by decide) (by decide)) ?_; intro _ _)
  k_with "call ref" => (simp only [R2_mul]; k_dflt (refine' ctr_int (c_levR _ _ _ _ _ _ _ _ _ _ hcd hl1 hl2 ?q1 ?q2) ?k1 ?k2 ?k3 ?k4 ?k5 ?kK ?kd ?ku ?_); (case k1 => k_dflt k_asm); (case k2 => k_dflt k_asm); (case k3 => k_dflt k_asm); (case k4 => k_dflt k_asm); (case k5 => k_dflt k_asm); (case kK => k_dflt (exact rfl)); (case kd => k_dflt ktr_room); (case ku => k_dflt ktr_units); (case q1 => omega); (case q2 => exact hwh); intro _ _ _ _ _; (try dsimp only); (try k_fold))
  k_steps
  exact hQ _ _ _ (by assumption) (by assumption)
end
theorem c_told {w : World} {news : Led} (x y r wd hg bd : Int) (t1 t2 t3 t4 t5 t6 : Tok) (hr1 : 1 ≤ r) (hr3 : r ≤ 3) (hw : 0 ≤ 2 * r + 1 + x.fmod 3 + wd) (hw7 : wd ≤ 7) (hh : 0 ≤ 2 * r + 1 + y.fmod 3 + hg) (hh7 : hg ≤ 7) :
   Ctr w 95 [.int x t1, .int y t2, .int r t3, .int wd t4, .int hg t5, .int bd t6] [] news 8 (IntBack news (tv wd hg bd)) := by
  have hx0 := Int.fmod_nonneg_of_pos x (b := 3) (by decide)
  have hx1 := Int.fmod_lt_of_pos x (b := 3) (by decide)
  have hy0 := Int.fmod_nonneg_of_pos y (b := 3) (by decide)
  have hy1 := Int.fmod_lt_of_pos y (b := 3) (by decide)
  have hmx : 0 ≤ 2 * r + 1 + x.fmod 3 ∧ 2 * r + 1 + x.fmod 3 ≤ 9 := by omega
  have hmy : 0 ≤ 2 * r + 1 + y.fmod 3 ∧ 2 * r + 1 + y.fmod 3 ≤ 9 := by omega
  clear hx0 hx1 hy0 hy1
  intro loose mean mg mb dp un gd cn cs ad ccd cl outer A₀ base h₀ L m s Q E B F X N T hcs hdp hun hret
  obtain ⟨c, d, ec, ed, hcd, hl1, hl2⟩ := letters x y
  refine wpAny_call ?_
  k_with_none
  k_dflt cell_enter
  rename_i F₁ N₁ B₁ X₁ T₁
  obtain ⟨m0, hm0, F⟩ : ∃ m0, (∀ p ∈ psA x y r wd hg bd t1 t2 t3 t4 t5 t6, m0 p.1 = some p.2) ∧ Fr _ _ _ m0 := ⟨_, by kst_all, F₁⟩
  clear F₁
  have hx := hm0 _ (.head _)
  have hy := hm0 _ (.tail _ (.head _))
  have hR := hm0 _ (.tail _ (.tail _ (.head _)))
  have hW := hm0 _ (.tail _ (.tail _ (.tail _ (.head _))))
  have hH := hm0 _ (.tail _ (.tail _ (.tail _ (.tail _ (.head _)))))
  have hB := hm0 _ (.tail _ (.tail _ (.tail _ (.tail _ (.tail _ (.head _))))))
  clear hm0
  dsimp only at hx hy hR hW hH hB
  change wpAny _ _ (execs [nthS (fdBody toldF) 0, nthS (fdBody toldF) 1, nthS (fdBody toldF) 2, nthS (fdBody toldF) 3] (toldEnv _)) _ _ _
  refine execs_step fun Q1 hQ1 => told_s0 X₁ T₁ ec ed (all2 hx hy) F N₁ ?_
  clear F N₁ ec ed
  intro ta tb h1 tk1 F N
  refine hQ1 _ ?_
  clear hQ1 Q1
  refine execs_step fun Q1 hQ1 => told_s1 X₁ T₁ hr1 hr3 (all3 ((put_ne (by decide)).trans ((put_ne (by decide)).trans hx)) ((put_ne (by decide)).trans ((put_ne (by decide)).trans hy)) ((put_ne (by decide)).trans ((put_ne (by decide)).trans hR))) F N ?_
  clear F N hx hy hR hr1 hr3
  intro t7 t8 h2 tk2 F N
  refine hQ1 _ ?_
  clear hQ1 Q1
  generalize 2 * r + 1 + x.fmod 3 = mx at *
  generalize 2 * r + 1 + y.fmod 3 = my at *
  have g1 : put (Str.ofString "many") (.int mx t7) (put (Str.ofString "more") (.int my t8) (put (Str.ofString "one") (.str (S1 c) ta) (put (Str.ofString "other") (.str (S1 d) tb) m0))) (Str.ofString "one") = some (.str (S1 c) ta) := (put_ne (by decide)).trans ((put_ne (by decide)).trans put_eq)
  have g2 : put (Str.ofString "many") (.int mx t7) (put (Str.ofString "more") (.int my t8) (put (Str.ofString "one") (.str (S1 c) ta) (put (Str.ofString "other") (.str (S1 d) tb) m0))) (Str.ofString "other") = some (.str (S1 d) tb) := (put_ne (by decide)).trans ((put_ne (by decide)).trans ((put_ne (by decide)).trans put_eq))
  have g3 : put (Str.ofString "many") (.int mx t7) (put (Str.ofString "more") (.int my t8) (put (Str.ofString "one") (.str (S1 c) ta) (put (Str.ofString "other") (.str (S1 d) tb) m0))) (Str.ofString "many") = some (.int mx t7) := put_eq
  have g4 : put (Str.ofString "many") (.int mx t7) (put (Str.ofString "more") (.int my t8) (put (Str.ofString "one") (.str (S1 c) ta) (put (Str.ofString "other") (.str (S1 d) tb) m0))) (Str.ofString "more") = some (.int my t8) := (put_ne (by decide)).trans put_eq
  replace hW : put (Str.ofString "many") (.int mx t7) (put (Str.ofString "more") (.int my t8) (put (Str.ofString "one") (.str (S1 c) ta) (put (Str.ofString "other") (.str (S1 d) tb) m0))) (Str.ofString "wide") = some (.int wd t4) := (put_ne (by decide)).trans ((put_ne (by decide)).trans ((put_ne (by decide)).trans ((put_ne (by decide)).trans hW)))
  replace hH : put (Str.ofString "many") (.int mx t7) (put (Str.ofString "more") (.int my t8) (put (Str.ofString "one") (.str (S1 c) ta) (put (Str.ofString "other") (.str (S1 d) tb) m0))) (Str.ofString "high") = some (.int hg t5) := (put_ne (by decide)).trans ((put_ne (by decide)).trans ((put_ne (by decide)).trans ((put_ne (by decide)).trans hH)))
  replace hB : put (Str.ofString "many") (.int mx t7) (put (Str.ofString "more") (.int my t8) (put (Str.ofString "one") (.str (S1 c) ta) (put (Str.ofString "other") (.str (S1 d) tb) m0))) (Str.ofString "bound") = some (.int bd t6) := (put_ne (by decide)).trans ((put_ne (by decide)).trans ((put_ne (by decide)).trans ((put_ne (by decide)).trans hB)))
  generalize put (Str.ofString "many") (Value.int mx t7) (put (Str.ofString "more") (Value.int my t8) (put (Str.ofString "one") (Value.str (S1 c) ta) (put (Str.ofString "other") (Value.str (S1 d) tb) m0))) = m1 at F g1 g2 g3 g4 hW hH hB
  refine execs_step fun Q1 hQ1 => told_s2 X₁ hw (by omega) hh (by omega) hmx hmy (allc g1 (allc g2 (allc g3 (all3 g4 hW hH)))) F N ?_
  clear F N hW hH
  intro t9 h3 tk3 F N
  refine hQ1 _ ?_
  clear hQ1 Q1
  refine told_s3 X₁ T₁ B₁ hdp hun hcd hl1 hl2 hmx hmy (by omega) (allc ((put_ne (by decide)).trans g1) (allc ((put_ne (by decide)).trans g2) (allc ((put_ne (by decide)).trans g3) (all3 ((put_ne (by decide)).trans g4) put_eq ((put_ne (by decide)).trans hB))))) F N ?_
  clear F N
  intro t10 h4 tk4 F N
  rw [levv_tv hmx.1 hmy.1 hw hh]
  k_steps
  exact hret _ _ _ _ ⟨⟨_, rfl⟩, rfl⟩ (by assumption) (by assumption)
end

section
/-- k digits of x by 2 ^ n, the lowest first -/
def digs (n : Nat) : Nat → Int → List Int
  | 0, _ => []
  | k + 1, x => x % 2 ^ n :: digs n k (x / 2 ^ n)
theorem digs_length (n : Nat) : ∀ (k : Nat) (x : Int), (digs n k x).length = k
  | 0, _ => rfl
  | k + 1, x => by rw [digs, List.length_cons, digs_length n k]
theorem pow_pos2 (n : Nat) : (0 : Int) < 2 ^ n := Int.pow_pos (by decide)
theorem emod_mul_div (x a b : Int) (ha : 0 < a) (hb : 0 < b) : x % (a * b) / a = x / a % b := by
  rw [Int.emod_def, Int.emod_def, Int.mul_assoc, Int.ediv_ediv_of_nonneg (Int.le_of_lt ha)]
  have : x - a * (b * (x / (a * b))) = x + a * (-(b * (x / (a * b)))) := by rw [Int.mul_neg]; omega
  rw [this, Int.add_mul_ediv_left _ _ (by omega)]
  omega
theorem digs_append (n : Nat) : ∀ (a b : Nat) (x : Int), digs n (a + b) x = digs n a (x % 2 ^ (n * a)) ++ digs n b (x / 2 ^ (n * a))
  | 0, b, x => by simp [digs]
  | a + 1, b, x => by
    have e : a + 1 + b = (a + b) + 1 := by omega
    rw [e, digs, digs, List.cons_append, digs_append n a b]
    have hp : (2 : Int) ^ (n * (a + 1)) = 2 ^ n * 2 ^ (n * a) := by rw [Nat.mul_add, Nat.mul_one, Nat.add_comm, Int.pow_add]
    have h1 : x % 2 ^ (n * (a + 1)) % 2 ^ n = x % 2 ^ n := by
      rw [hp]; exact Int.emod_emod_of_dvd x (Int.dvd_mul_right _ _)
    have h2 : x / 2 ^ n / 2 ^ (n * a) = x / 2 ^ (n * (a + 1)) := by
      rw [hp, Int.ediv_ediv_of_nonneg (Int.le_of_lt (pow_pos2 n))]
    have h3 : x % 2 ^ (n * (a + 1)) / 2 ^ n = x / 2 ^ n % 2 ^ (n * a) := by
      rw [hp]
      exact emod_mul_div x _ _ (pow_pos2 n) (pow_pos2 _)
    rw [h1, h2, h3]
theorem nat_and_low (x s : Nat) : x &&& (x / 2 ^ s * 2 ^ s) = x / 2 ^ s * 2 ^ s := by
  apply Nat.eq_of_testBit_eq
  intro i
  rw [Nat.testBit_and, Nat.testBit_mul_two_pow, Nat.testBit_div_two_pow]
  by_cases h : s ≤ i
  · have : i - s + s = i := by omega
    simp [h, this]
  · simp [h]
theorem xor_low (x : Int) (s : Nat) (hx : 0 ≤ x) : Builtin.bitXor x (x / 2 ^ s * 2 ^ s) = x % 2 ^ s := by
  have hp := pow_pos2 s
  have hy : 0 ≤ x / 2 ^ s * 2 ^ s := Int.mul_nonneg (Int.ediv_nonneg hx (Int.le_of_lt hp)) (Int.le_of_lt hp)
  rw [bitXor_and, bitAnd_pp hx hy]
  have e : x.toNat &&& (x / 2 ^ s * 2 ^ s).toNat = (x / 2 ^ s * 2 ^ s).toNat := by
    obtain ⟨m, rfl⟩ := Int.eq_ofNat_of_zero_le hx
    have e1 : ((m : Int) / 2 ^ s * 2 ^ s).toNat = m / 2 ^ s * 2 ^ s := by
      have : ((m : Int) / 2 ^ s * 2 ^ s) = ((m / 2 ^ s * 2 ^ s : Nat) : Int) := by push_cast; rfl
      rw [this, Int.toNat_natCast]
    rw [e1, Int.toNat_natCast, nat_and_low]
  rw [e, Int.toNat_of_nonneg hy, Int.emod_def, Int.mul_comm (2 ^ s)]
  omega
theorem half_eq (lo hi : Nat) : ((lo : Int) + hi).fdiv (2 ^ Int.toNat 1) = (((lo + hi) / 2 : Nat) : Int) := by
  have : (2 : Int) ^ Int.toNat 1 = 2 := rfl
  rw [this, Int.fdiv_eq_ediv_of_nonneg _ (by decide)]
  omega
theorem fdiv_pow (x : Int) (s : Nat) : x.fdiv (2 ^ s) = x / 2 ^ s := Int.fdiv_eq_ediv_of_nonneg _ (Int.le_of_lt (pow_pos2 s))
theorem div_lt_pow {x : Int} {a b : Nat} (h : x < 2 ^ (a + b)) : x / 2 ^ a < 2 ^ b := by
  apply Int.ediv_lt_of_lt_mul (pow_pos2 a)
  rw [← Int.pow_add, Nat.add_comm]
  exact h
theorem bits_lt {x : Int} {k : Nat} (h0 : 0 ≤ x) (h : x < 2 ^ k) : Builtin.Int.intBits x ≤ k := by
  unfold Builtin.Int.intBits
  by_cases e : x = 0
  · simp [e]
  · have e' : (x == 0) = false := by simpa using e
    rw [e']
    have hx : x.natAbs ≠ 0 := by omega
    have : x.natAbs < 2 ^ k := by
      have : (x.natAbs : Int) < ((2 ^ k : Nat) : Int) := by
        rw [Int.natAbs_of_nonneg h0]; push_cast; exact h
      exact Int.ofNat_lt.mp this
    have := (Nat.log2_lt hx).mpr this
    simp; omega
theorem set_take_drop (ns : List Int) (lo : Nat) (x : Int) (h : lo < ns.length) : ns.set lo x = ns.take lo ++ [x] ++ ns.drop (lo + 1) := by
  rw [List.set_eq_take_append_cons_drop, if_pos h]
  simp
theorem splice2 (ns d1 d2 : List Int) (lo mid hi : Nat) (h1 : d1.length = mid - lo) (h2 : d2.length = hi - mid) (hlo : lo ≤ mid) (hm : mid ≤ hi) (hh : hi ≤ ns.length) :
    (ns.take lo ++ d1 ++ ns.drop mid).take mid ++ d2 ++ (ns.take lo ++ d1 ++ ns.drop mid).drop hi = ns.take lo ++ (d1 ++ d2) ++ ns.drop hi := by
  have l0 : (ns.take lo ++ d1).length = mid := by simp [h1]; omega
  rw [List.take_append_of_le_length (by omega), List.take_of_length_le (by omega), List.drop_append, List.drop_of_length_le (by omega : (ns.take lo ++ d1).length ≤ hi), l0, List.drop_drop]
  have : mid + (hi - mid) = hi := by omega
  rw [this]
  simp
theorem splice_len (ns d1 : List Int) (lo mid : Nat) (h1 : d1.length = mid - lo) (hlo : lo ≤ mid) (hh : mid ≤ ns.length) : (ns.take lo ++ d1 ++ ns.drop mid).length = ns.length := by
  simp [h1]; omega
end

section
set_option maxRecDepth 100000
set_option maxHeartbeats 8000000
theorem fillDiv1 : (fun (_ : OpenLaw) (_ : Params → Frag) => True) PySem.Challenge.rw_pu0053_01 hd.heap_39 := by
  k_fill
  w_top off
  trivial
abbrev tup2 (q r : Int) (t1 t2 : Tok) (c : Nat) : Obj := { cls := .type "tuple", data := .seq #[.int q t1, .int r t2] c }
abbrev TupBack (news : Led) (q r : Int) : Value → Led → Prop := fun v news' => ∃ D t1 t2 c, v = .ref D ∧ (D, tup2 q r t1 t2 c) :: news = news' ∧ ∀ p ∈ news, p.1 < D
theorem c_div2n1n {w : World} {news : Led} (a b n : Int) (ta tb tn : Tok) (hb : b ≠ 0) (hbits : (Builtin.Int.intBits a : Int) - n ≤ 4000) (hpy : Builtin.divisionGoesByPylong a b = false) :
   Ctr w 21 [.int a ta, .int b tb, .int n tn] [] news 2 (TupBack news (a.fdiv b) (a.fmod b)) := by
  intro loose mean mg mb dp un gd cn cs ad ccd cl outer A₀ base h₀ L m s Q E B F X N T hcs hdp hun hret
  refine wpAny_call ?_
  k_dflt cell_enter
  k_with_none
  k_with "call builtin:divmod" => (refine divmod_N (hp := Or.inl hpy) (by assumption) (by assumption) hb ?_; intro _ _ _)
  k_steps
  rename_i kF kN _ _
  dsimp only at kN
  refine hret _ _ _ _ ⟨_, _, _, _, rfl, rfl, fun p hp => ?_⟩ kF kN
  exact Heap.lt_size ((by assumption : News _ _ _ news) p hp).1
end

section
set_option maxRecDepth 100000
set_option maxHeartbeats 8000000
theorem fillInner : (fun (_ : OpenLaw) (_ : Params → Frag) => True) PySem.Challenge.rw_pu0053_01 hd.heap_39 := by
  k_fill
  w_top off
  trivial
noncomputable def i2dIn : Stmt := nthS (fdBody (nthS PySem.Challenge.pw_pu0053_01.main.body 4)) 1
noncomputable abbrev inFn (q : Str) (cn ci ca : Addr) (doc pm : Value) (c' : Addr) (ctv : Value) : Obj :=
  fnMade (Str.ofString "inner") q (fdArgs i2dIn) (fdBody i2dIn) (fdScope i2dIn) [(Str.ofString "n", cn), (Str.ofString "inner", ci), (Str.ofString "a_digits", ca)] doc pm c' ctv
noncomputable abbrev inEnv (q : Str) (L f c' cn ci ca : Addr) : Env := envX q (fdScope i2dIn) L f (.ref c') [(Str.ofString "n", cn), (Str.ofString "inner", ci), (Str.ofString "a_digits", ca)]
abbrev InOk (w : World) (f D c' cn ca ci : Addr) (q : Str) (doc pm ctv : Value) (tl : Led) (n N : Nat) : Prop :=
  ∀ (x : Int) (lo hi : Nat) (tx t1 t2 : Tok) (us : List Value) (k : Nat) (ns : List Int), hi - lo ≤ N → lo < hi → hi ≤ ns.length → ns.length ≤ 41 → IntsAre us ns → 0 ≤ x → x < 2 ^ (n * (hi - lo)) →
      Ctr w f [.int x tx, .int lo t1, .int hi t2] [] ((f, inFn q cn ci ca doc pm c' ctv) :: (D, listOf us.toArray k) :: tl) (N + 1)
        (fun v news' => v = .none ∧ ∃ us' k', (f, inFn q cn ci ca doc pm c' ctv) :: (D, listOf (List.toArray us') k') :: tl = news' ∧ IntsAre us' (ns.take lo ++ digs n (hi - lo) x ++ ns.drop hi))
section
variable {w : World} {Q : Flow → Shared → Prop} {E : Value → Shared → Prop} {g : Heap} {L L0 ad f D c' cn ca ci : Addr} {q : Str} {m : Str → Option Value} {s : Shared} {R tl : Led} {loose : List Str} {mean : ExcName → Option Value} {mg mb : Str → Option Value}
  {dp un : Nat} {gd : Option (List Code)} {cn' : Str} {cs : Scope} {ccd : Value} {cl : List (Str × Addr)} {outer : List Env} {A₀ : Around} {base : Heap} {x y : Int} {n lo hi mid sh k K : Nat} {tn ct tx ty t1 t2 tm ts : Tok} {oi oa on oc : Obj} {cvs : Array Value} {doc pm ctv : Value} {us : List Value} {ns : List Int} {P : Value → Led → Prop}
theorem news_sw {h : Heap} {a b : Addr × Obj} (N : News g L h (a :: b :: R)) : News g L h (b :: a :: R) := List.forall_mem_cons.mpr ⟨N _ (.tail _ (.head _)), List.forall_mem_cons.mpr ⟨N _ (.head _), fun p hp => N p (.tail _ (.tail _ hp))⟩⟩
theorem in_s0 (X : (hd.heap_39 w.params).In g) (hoa : (ca, oa) ∈ R) (doa : oa.data = .cell (some (.ref D))) (hne : ∀ p ∈ R, p.1 ≠ D) (hus : IntsAre us ns) (hlt : lo < hi) (hhi : hi ≤ ns.length) (hlen : ns.length ≤ 41) (hx0 : 0 ≤ x) (hx1 : x < 2 ^ (n * (hi - lo)))
    (hm : ∀ p ∈ [(Str.ofString "x", Value.int x tx), (Str.ofString "L", Value.int lo t1), (Str.ofString "R", Value.int hi t2)], m p.1 = some p.2) (F : Fr g L s.heap m) (N : News g L s.heap ((D, listOf (List.toArray us) k) :: R))
    (hQ1 : ∀ h' tk', lo + 1 ≠ hi → Fr g L h' m → News g L h' ((D, listOf (List.toArray us) k) :: R) → Q .next { s with heap := h', toks := tk' })
      (hQ2 : ∀ us' k' h' tk', IntsAre us' (ns.take lo ++ digs n (hi - lo) x ++ ns.drop hi) → Fr g L h' m → News g L h' ((D, listOf (List.toArray us') k') :: R) → Q (.ret .none) { s with heap := h', toks := tk' }) :
    wpAny (model PR w) ((ktrTop dp un gd cn' cs L0 ad ccd cl outer).deeper (inEnv q L f c' cn ci ca)) (exec (nthS (fdBody i2dIn) 0) (inEnv q L f c' cn ci ca)) Q E s := by
  rw [← kst_self hm] at F hQ1 hQ2
  clear hm
  dsimp only [i2dIn, nthS, fdBody, PySem.Challenge.pw_pu0053_01]
  dsimp only [kstB] at F hQ1 hQ2
  k_with_none
  k_with "eval Name" => (k_dflt (refine' nameX_F ?N ?c ?m ?d ?_ ?a ?b; (case a => rfl); (case b => rfl); (case N => k_asm); (case c => rfl); (case m => k_mem); (case d => assumption)))
  have hul : us.length = ns.length := hus.length
  k_steps
  · rename_i _ _ kF kN hI _ _
    have hlh : hi = lo + 1 := by omega
    subst hlh
    have e1 : lo + 1 - lo = 1 := Nat.add_sub_cancel_left lo 1
    rw [e1, Nat.mul_one] at hx1
    have ed : digs n (lo + 1 - lo) x = [x] := by
      rw [e1, digs, digs, Int.emod_eq_of_lt hx0 hx1]
    rw [Int.toNat_natCast, set_take_drop _ _ _ hhi, ← ed] at hI
    rw [Int.toNat_natCast] at kN
    exact hQ2 _ _ _ _ hI kF kN
  · exact hQ1 _ _ (fun e => absurd (congrArg Int.ofNat e) (by assumption)) (by assumption) (by assumption)
theorem in_s1 (X : (hd.heap_39 w.params).In g) (hm : ∀ p ∈ [(Str.ofString "L", Value.int lo t1), (Str.ofString "R", Value.int hi t2)], m p.1 = some p.2) (F : Fr g L s.heap m) (N : News g L s.heap R)
    (hQ : ∀ t h' tk', Fr g L h' (put (Str.ofString "mid") (.int (((lo + hi) / 2 : Nat)) t) m) → News g L h' R → Q .next { s with heap := h', toks := tk' }) :
    wpAny (model PR w) ((ktrTop dp un gd cn' cs L0 ad ccd cl outer).deeper (inEnv q L f c' cn ci ca)) (exec (nthS (fdBody i2dIn) 1) (inEnv q L f c' cn ci ca)) Q E s := by
  rw [← kst_self hm] at F hQ
  clear hm
  dsimp only [i2dIn, nthS, fdBody, PySem.Challenge.pw_pu0053_01]
  dsimp only [kstB] at F hQ
  k_with_none
  k_with "binaryOp RShift int int" => (refine rshift_int (by omega) ?_)
  k_steps
  rename_i F₃ N₃
  rw [half_eq] at F₃
  exact hQ _ _ _ F₃ N₃
theorem in_s2 (X : (hd.heap_39 w.params).In g) (hon : (cn, on) ∈ R) (don : on.data = .cell (some (.int n tn))) (h : lo ≤ mid) (h41 : mid ≤ 41) (hnb : n ≤ 2097152) (hm : ∀ p ∈ [(Str.ofString "L", Value.int lo t1), (Str.ofString "mid", Value.int mid tm)], m p.1 = some p.2) (F : Fr g L s.heap m) (N : News g L s.heap R)
    (hQ : ∀ t h' tk', Fr g L h' (put (Str.ofString "shift") (.int ((n * (mid - lo) : Nat)) t) m) → News g L h' R → Q .next { s with heap := h', toks := tk' }) :
    wpAny (model PR w) ((ktrTop dp un gd cn' cs L0 ad ccd cl outer).deeper (inEnv q L f c' cn ci ca)) (exec (nthS (fdBody i2dIn) 2) (inEnv q L f c' cn ci ca)) Q E s := by
  rw [← kst_self hm] at F hQ
  clear hm
  dsimp only [i2dIn, nthS, fdBody, PySem.Challenge.pw_pu0053_01]
  dsimp only [kstB] at F hQ
  k_with_none
  k_with "eval Name" => (k_dflt (refine' nameX_F ?N ?c ?m ?d ?_ ?a ?b; (case a => rfl); (case b => rfl); (case N => k_asm); (case c => rfl); (case m => k_mem); (case d => assumption)))
  k_steps
  rename_i F₄ N₄
  have e : ((mid : Int) - (lo : Int)) * (n : Int) = ((n * (mid - lo) : Nat) : Int) := by rw [← Int.ofNat_sub h, Nat.mul_comm]; rfl
  rw [e] at F₄
  exact hQ _ _ _ F₄ N₄
theorem in_s3 (X : (hd.heap_39 w.params).In g) (hm : ∀ p ∈ [(Str.ofString "x", Value.int x tx), (Str.ofString "shift", Value.int sh ts)], m p.1 = some p.2) (F : Fr g L s.heap m) (N : News g L s.heap R)
    (hQ : ∀ t h' tk', Fr g L h' (put (Str.ofString "upper") (.int (x / 2 ^ sh) t) m) → News g L h' R → Q .next { s with heap := h', toks := tk' }) :
    wpAny (model PR w) ((ktrTop dp un gd cn' cs L0 ad ccd cl outer).deeper (inEnv q L f c' cn ci ca)) (exec (nthS (fdBody i2dIn) 3) (inEnv q L f c' cn ci ca)) Q E s := by
  rw [← kst_self hm] at F hQ
  clear hm
  dsimp only [i2dIn, nthS, fdBody, PySem.Challenge.pw_pu0053_01]
  dsimp only [kstB] at F hQ
  k_with_none
  k_with "binaryOp RShift int int" => (refine rshift_int (Int.natCast_nonneg _) ?_)
  k_steps
  rename_i F₅ N₅
  rw [Int.toNat_natCast, fdiv_pow] at F₅
  exact hQ _ _ _ F₅ N₅
theorem in_s4 (X : (hd.heap_39 w.params).In g) (hx0 : 0 ≤ x) (hsz : ((Builtin.Int.intBits (x / 2 ^ sh) : Nat) : Int) + (sh : Int) ≤ 2 ^ 27) (hm : ∀ p ∈ [(Str.ofString "x", Value.int x tx), (Str.ofString "upper", Value.int (x / 2 ^ sh) ty), (Str.ofString "shift", Value.int sh ts)], m p.1 = some p.2) (F : Fr g L s.heap m) (N : News g L s.heap R)
    (hQ : ∀ t h' tk', Fr g L h' (put (Str.ofString "lower") (.int (x % 2 ^ sh) t) m) → News g L h' R → Q .next { s with heap := h', toks := tk' }) :
    wpAny (model PR w) ((ktrTop dp un gd cn' cs L0 ad ccd cl outer).deeper (inEnv q L f c' cn ci ca)) (exec (nthS (fdBody i2dIn) 4) (inEnv q L f c' cn ci ca)) Q E s := by
  rw [← kst_self hm] at F hQ
  clear hm
  dsimp only [i2dIn, nthS, fdBody, PySem.Challenge.pw_pu0053_01]
  dsimp only [kstB] at F hQ
  k_with_none
  k_with "binaryOp LShift int int" => (refine lshift_int (Int.natCast_nonneg _) (by assumption) ?_)
  k_steps
  rename_i F₆ N₆
  rw [Int.toNat_natCast, xor_low x sh hx0] at F₆
  exact hQ _ _ _ F₆ N₆
theorem in_s5 (X : (hd.heap_39 w.params).In g) (T : Top topProg loose mean mg mb g) (BB : Below (ktrTop dp un gd cn' cs L0 ad ccd cl outer) base (envX cn' cs L0 ad ccd cl :: outer) g) (hdp : dp + (K + 1) < recursionLimit) (hun : un + 8 * (K + 1) < cLine) (hoi : (ci, oi) ∈ R) (doi : oi.data = .cell (some (.ref f)))
    (hC : Ctr w f [.int y ty, .int lo t1, .int mid tm] [] ((f, inFn q cn ci ca doc pm c' ctv) :: R) K P)
    (hm : ∀ p ∈ [(Str.ofString "lower", Value.int y ty), (Str.ofString "L", Value.int lo t1), (Str.ofString "mid", Value.int mid tm)], m p.1 = some p.2) (F : Fr g L s.heap m) (N : News g L s.heap ((f, inFn q cn ci ca doc pm c' ctv) :: R))
    (hQ : ∀ v news' h' tk', P v news' → Fr g L h' m → News g L h' news' → Q .next { s with heap := h', toks := tk' }) :
    wpAny (model PR w) ((ktrTop dp un gd cn' cs L0 ad ccd cl outer).deeper (inEnv q L f c' cn ci ca)) (exec (nthS (fdBody i2dIn) 5) (inEnv q L f c' cn ci ca)) Q E s := by
  rw [← kst_self hm] at F hQ
  clear hm
  dsimp only [i2dIn, nthS, fdBody, PySem.Challenge.pw_pu0053_01]
  dsimp only [kstB] at F hQ
  k_with_none
  k_with "eval Name" => (k_dflt (refine' nameX_F ?N ?c ?m ?d ?_ ?a ?b; (case a => rfl); (case b => rfl); (case N => k_asm); (case c => rfl); (case m => k_mem); (case d => assumption)))
  k_with "FnAt" => (exact FnAt.of (by k_asm) (List.Mem.head _))
  k_with "callWith ref" => (refine' callWith_F (FnAt.of (by k_asm) (List.Mem.head _)) ?_; k_whole)
  k_with "call ref" => (k_dflt (refine' ctr_call hC ?k1 ?k2 ?k3 ?k4 ?k5 ?kK ?kd ?ku ?_); (case k1 => k_asm); (case k2 => k_asm); (case k3 => k_asm); (case k4 => k_asm); (case k5 => k_asm); (case kK => exact rfl); (case kd => k_dflt ktr_room); (case ku => ktr_units); intro v' news' h' tk' P' F' N'; (try dsimp only))
  k_steps
  exact hQ _ _ _ _ P' (by assumption) (by assumption)
theorem in_s6 (X : (hd.heap_39 w.params).In g) (T : Top topProg loose mean mg mb g) (BB : Below (ktrTop dp un gd cn' cs L0 ad ccd cl outer) base (envX cn' cs L0 ad ccd cl :: outer) g) (hdp : dp + (K + 1) < recursionLimit) (hun : un + 8 * (K + 1) < cLine) (hoi : (ci, oi) ∈ R) (doi : oi.data = .cell (some (.ref f)))
    (hC : Ctr w f [.int y ty, .int lo t1, .int mid tm] [] ((f, inFn q cn ci ca doc pm c' ctv) :: R) K P)
    (hm : ∀ p ∈ [(Str.ofString "upper", Value.int y ty), (Str.ofString "mid", Value.int lo t1), (Str.ofString "R", Value.int mid tm)], m p.1 = some p.2) (F : Fr g L s.heap m) (N : News g L s.heap ((f, inFn q cn ci ca doc pm c' ctv) :: R))
    (hQ : ∀ v news' h' tk', P v news' → Fr g L h' m → News g L h' news' → Q .next { s with heap := h', toks := tk' }) :
    wpAny (model PR w) ((ktrTop dp un gd cn' cs L0 ad ccd cl outer).deeper (inEnv q L f c' cn ci ca)) (exec (nthS (fdBody i2dIn) 6) (inEnv q L f c' cn ci ca)) Q E s := by
  rw [← kst_self hm] at F hQ
  clear hm
  dsimp only [i2dIn, nthS, fdBody, PySem.Challenge.pw_pu0053_01]
  dsimp only [kstB] at F hQ
  k_with_none
  k_with "eval Name" => (k_dflt (refine' nameX_F ?N ?c ?m ?d ?_ ?a ?b; (case a => rfl); (case b => rfl); (case N => k_asm); (case c => rfl); (case m => k_mem); (case d => assumption)))
  k_with "FnAt" => (exact FnAt.of (by k_asm) (List.Mem.head _))
  k_with "callWith ref" => (refine' callWith_F (FnAt.of (by k_asm) (List.Mem.head _)) ?_; k_whole)
  k_with "call ref" => (k_dflt (refine' ctr_call hC ?k1 ?k2 ?k3 ?k4 ?k5 ?kK ?kd ?ku ?_); (case k1 => k_asm); (case k2 => k_asm); (case k3 => k_asm); (case k4 => k_asm); (case k5 => k_asm); (case kK => exact rfl); (case kd => k_dflt ktr_room); (case ku => ktr_units); intro v' news' h' tk' P' F' N'; (try dsimp only))
  k_steps
  exact hQ _ _ _ _ P' (by assumption) (by assumption)
theorem mid_in (h : lo < hi) (h1 : lo + 1 ≠ hi) : lo < (lo + hi) / 2 ∧ (lo + hi) / 2 < hi :=
  ⟨(Nat.le_div_iff_mul_le (Nat.succ_pos 1)).mpr (by omega), Nat.div_lt_of_lt_mul (by omega)⟩
theorem part_sum (h1 : lo < mid) (h2 : mid < hi) : hi - lo = (mid - lo) + (hi - mid) :=
  ((Nat.add_comm _ _).trans (Nat.sub_add_sub_cancel (Nat.le_of_lt h2) (Nat.le_of_lt h1))).symm
theorem part_le {N : Nat} (h : hi - lo ≤ N + 1) (h1 : lo < mid) (h2 : mid < hi) : mid - lo ≤ N ∧ hi - mid ≤ N :=
  ⟨Nat.le_of_lt_succ (Nat.lt_of_lt_of_le (Nat.sub_lt_sub_right (Nat.le_of_lt h1) h2) h), Nat.le_of_lt_succ (Nat.lt_of_lt_of_le (Nat.sub_lt_sub_left (Nat.lt_trans h1 h2) h1) h)⟩
theorem in_math (hx0 : 0 ≤ x) (hx1 : x < 2 ^ (n * (hi - lo))) (h1 : lo < mid) (h2 : mid < hi) (hh : hi ≤ 41) (hnb : n ≤ 2097152) : 0 ≤ x / 2 ^ (n * (mid - lo)) ∧ x / 2 ^ (n * (mid - lo)) < 2 ^ (n * (hi - mid)) ∧
    ((Builtin.Int.intBits (x / 2 ^ (n * (mid - lo))) : Nat) : Int) + ((n * (mid - lo) : Nat) : Int) ≤ 2 ^ 27 ∧ 0 ≤ x % 2 ^ (n * (mid - lo)) ∧ x % 2 ^ (n * (mid - lo)) < 2 ^ (n * (mid - lo)) := by
  have hsum : n * (hi - lo) = n * (mid - lo) + n * (hi - mid) := by
    rw [← Nat.mul_add, part_sum h1 h2]
  have hub : x / 2 ^ (n * (mid - lo)) < 2 ^ (n * (hi - mid)) := div_lt_pow (by rw [← hsum]; exact hx1)
  have hu0 : 0 ≤ x / 2 ^ (n * (mid - lo)) := Int.ediv_nonneg hx0 (Int.le_of_lt (pow_pos2 _))
  refine ⟨hu0, hub, ?_, Int.emod_nonneg _ (Int.ne_of_gt (pow_pos2 _)), Int.emod_lt_of_pos _ (pow_pos2 _)⟩
  have hn41 : n * (hi - lo) ≤ 2097152 * 41 := Nat.mul_le_mul hnb (Nat.le_trans (Nat.sub_le _ _) hh)
  have := bits_lt hu0 hub
  rw [hsum] at hn41
  revert hn41 this
  generalize Builtin.Int.intBits (x / 2 ^ (n * (mid - lo))) = b
  generalize n * (mid - lo) = u
  generalize n * (hi - mid) = v
  clear hx0 hx1 h1 h2 hh hnb hsum hub hu0
  omega
theorem in_body {N : Nat} (X : (hd.heap_39 w.params).In g) (T : Top topProg loose mean mg mb g) (BB : Below (ktrTop dp un gd cn' cs L0 ad ccd cl outer) base (envX cn' cs L0 ad ccd cl :: outer) g) (hdp : dp + (N + 1 + 1) < recursionLimit) (hun : un + 8 * (N + 1 + 1) < cLine)
    (hon : (cn, on) ∈ tl) (don : on.data = .cell (some (.int n tn))) (hoa : (ca, oa) ∈ tl) (doa : oa.data = .cell (some (.ref D))) (hoi : (ci, oi) ∈ tl) (doi : oi.data = .cell (some (.ref f))) (hD : ∀ p ∈ tl, p.1 ≠ D) (hfD : f ≠ D) (hnb : n ≤ 2097152) (ih : InOk w f D c' cn ca ci q doc pm ctv tl n N)
    (hN : hi - lo ≤ N + 1) (hlt : lo < hi) (hhi : hi ≤ ns.length) (hlen : ns.length ≤ 41) (hus : IntsAre us ns) (hx0 : 0 ≤ x) (hx1 : x < 2 ^ (n * (hi - lo)))
    (h1 : m (Str.ofString "x") = some (.int x tx)) (h2 : m (Str.ofString "L") = some (.int lo t1)) (h3 : m (Str.ofString "R") = some (.int hi t2)) (F : Fr g L s.heap m) (Nw : News g L s.heap ((f, inFn q cn ci ca doc pm c' ctv) :: (D, listOf (List.toArray us) k) :: tl))
    (hQ : ∀ us' k' fl m' h' tk', fl = .next ∨ fl = .ret .none → IntsAre us' (ns.take lo ++ digs n (hi - lo) x ++ ns.drop hi) → Fr g L h' m' → News g L h' ((f, inFn q cn ci ca doc pm c' ctv) :: (D, listOf (List.toArray us') k') :: tl) → Q fl { s with heap := h', toks := tk' }) :
    wpAny (model PR w) ((ktrTop dp un gd cn' cs L0 ad ccd cl outer).deeper (inEnv q L f c' cn ci ca)) (execs (fdBody i2dIn) (inEnv q L f c' cn ci ca)) Q E s := by
  change wpAny _ _ (execs (nthS (fdBody i2dIn) 0 :: nthS (fdBody i2dIn) 1 :: nthS (fdBody i2dIn) 2 :: nthS (fdBody i2dIn) 3 :: nthS (fdBody i2dIn) 4 :: nthS (fdBody i2dIn) 5 :: [nthS (fdBody i2dIn) 6]) _) _ _ _
  refine execs_stepR fun Q1 hQ1 hR1 => in_s0 X (.tail _ hoa) doa (List.forall_mem_cons.mpr ⟨hfD, hD⟩) hus hlt hhi hlen hx0 hx1 (all3 h1 h2 h3) F (news_sw Nw) ?_ fun us' k' h' tk' hI F' N' => hR1 _ _ (hQ us' k' _ _ _ _ (.inr rfl) hI F' (news_sw N'))
  clear F Nw hR1
  intro h4 tk4 hne F Nw
  refine hQ1 _ ?_
  clear hQ1 Q1
  obtain ⟨hm1, hm2⟩ := mid_in hlt hne
  refine execs_step fun Q1 hQ1 => in_s1 X (all2 h2 h3) F (news_sw Nw) ?_
  clear F Nw
  generalize (lo + hi) / 2 = mid at *
  intro tm h5 tk5 F Nw
  refine hQ1 _ ?_
  clear hQ1 Q1
  obtain ⟨hu0, hub, hsz, hl0, hl1⟩ := in_math hx0 hx1 hm1 hm2 (Nat.le_trans hhi hlen) hnb
  refine execs_step fun Q1 hQ1 => in_s2 X (.tail _ (.tail _ hon)) don (Nat.le_of_lt hm1) (Nat.le_trans (Nat.le_of_lt hm2) (Nat.le_trans hhi hlen)) hnb (all2 ((put_ne (by decide)).trans h2) put_eq) F Nw ?_
  clear F Nw
  intro ts h6 tk6 F Nw
  refine hQ1 _ ?_
  clear hQ1 Q1
  refine execs_step fun Q1 hQ1 => in_s3 X (all2 ((put_ne (by decide)).trans ((put_ne (by decide)).trans h1)) put_eq) F Nw ?_
  clear F Nw
  intro tu h7 tk7 F Nw
  refine hQ1 _ ?_
  clear hQ1 Q1
  refine execs_step fun Q1 hQ1 => in_s4 X hx0 hsz (all3 ((put_ne (by decide)).trans ((put_ne (by decide)).trans ((put_ne (by decide)).trans h1))) put_eq ((put_ne (by decide)).trans put_eq)) F Nw ?_
  clear F Nw
  intro tl' h8 tk8 F Nw
  refine hQ1 _ ?_
  clear hQ1 Q1
  have g1 : put (Str.ofString "lower") (.int (x % 2 ^ (n * (mid - lo))) tl') (put (Str.ofString "upper") (.int (x / 2 ^ (n * (mid - lo))) tu) (put (Str.ofString "shift") (.int (n * (mid - lo) : Nat) ts) (put (Str.ofString "mid") (.int mid tm) m))) (Str.ofString "L") = some (.int lo t1) := (put_ne (by decide)).trans ((put_ne (by decide)).trans ((put_ne (by decide)).trans ((put_ne (by decide)).trans h2)))
  have g2 : put (Str.ofString "lower") (.int (x % 2 ^ (n * (mid - lo))) tl') (put (Str.ofString "upper") (.int (x / 2 ^ (n * (mid - lo))) tu) (put (Str.ofString "shift") (.int (n * (mid - lo) : Nat) ts) (put (Str.ofString "mid") (.int mid tm) m))) (Str.ofString "R") = some (.int hi t2) := (put_ne (by decide)).trans ((put_ne (by decide)).trans ((put_ne (by decide)).trans ((put_ne (by decide)).trans h3)))
  have g3 : put (Str.ofString "lower") (.int (x % 2 ^ (n * (mid - lo))) tl') (put (Str.ofString "upper") (.int (x / 2 ^ (n * (mid - lo))) tu) (put (Str.ofString "shift") (.int (n * (mid - lo) : Nat) ts) (put (Str.ofString "mid") (.int mid tm) m))) (Str.ofString "mid") = some (.int mid tm) := (put_ne (by decide)).trans ((put_ne (by decide)).trans ((put_ne (by decide)).trans put_eq))
  have g4 : put (Str.ofString "lower") (.int (x % 2 ^ (n * (mid - lo))) tl') (put (Str.ofString "upper") (.int (x / 2 ^ (n * (mid - lo))) tu) (put (Str.ofString "shift") (.int (n * (mid - lo) : Nat) ts) (put (Str.ofString "mid") (.int mid tm) m))) (Str.ofString "upper") = some (.int (x / 2 ^ (n * (mid - lo))) tu) := (put_ne (by decide)).trans put_eq
  have g5 : put (Str.ofString "lower") (.int (x % 2 ^ (n * (mid - lo))) tl') (put (Str.ofString "upper") (.int (x / 2 ^ (n * (mid - lo))) tu) (put (Str.ofString "shift") (.int (n * (mid - lo) : Nat) ts) (put (Str.ofString "mid") (.int mid tm) m))) (Str.ofString "lower") = some (.int (x % 2 ^ (n * (mid - lo))) tl') := put_eq
  generalize put (Str.ofString "lower") _ _ = m1 at F g1 g2 g3 g4 g5
  obtain ⟨hN1, hN2⟩ := part_le hN hm1 hm2
  refine execs_step fun Q1 hQ1 => in_s5 (K := N + 1) X T BB hdp hun (.tail _ hoi) doi (ih _ _ _ _ _ _ _ _ _ hN1 hm1 (Nat.le_trans (Nat.le_of_lt hm2) hhi) hlen hus hl0 hl1) (all3 g5 g1 g3) F Nw ?_
  clear F Nw hus
  rintro _ _ h9 tk9 ⟨rfl, us2, k2, rfl, hus⟩ F Nw
  refine hQ1 _ ?_
  clear hQ1 Q1
  have hd1 := digs_length n (mid - lo) (x % 2 ^ (n * (mid - lo)))
  have hlen2 := splice_len ns (digs n (mid - lo) (x % 2 ^ (n * (mid - lo)))) lo mid hd1 (Nat.le_of_lt hm1) (Nat.le_trans (Nat.le_of_lt hm2) hhi)
  refine execs_step fun Q1 hQ1 => in_s6 (K := N + 1) X T BB hdp hun (.tail _ hoi) doi (ih _ _ _ _ _ _ _ _ _ hN2 hm2 (hlen2 ▸ hhi) (hlen2 ▸ hlen) hus hu0 hub) (all3 g4 g3 g2) F Nw ?_
  clear F Nw
  rintro _ _ h10 tk10 ⟨rfl, us3, k3, rfl, hus3⟩ F Nw
  refine hQ1 _ (wpAny_execs_nil ?_)
  refine hQ us3 k3 _ _ _ _ (.inl rfl) ?_ F Nw
  rw [splice2 ns _ _ lo mid hi hd1 (digs_length n (hi - mid) _) (Nat.le_of_lt hm1) (Nat.le_of_lt hm2) hhi] at hus3
  rw [part_sum hm1 hm2, digs_append]
  exact hus3
end
theorem c_inner1 {w : World} {f D c' cn ca ci : Addr} {q : Str} {doc pm ctv : Value} {oc on oa oi : Obj} {cvs : Array Value} {ct : Tok} {tl : Led} (n : Nat) (tn : Tok)
    (hoc : (c', oc) ∈ tl) (hocd : oc.data = .fields cvs) (hocq : cvs[1]? = some (.str q ct))
    (hon : (cn, on) ∈ tl) (hond : on.data = .cell (some (.int n tn))) (hoa : (ca, oa) ∈ tl) (hoad : oa.data = .cell (some (.ref D))) (hoi : (ci, oi) ∈ tl) (hoid : oi.data = .cell (some (.ref f)))
    (hD : ∀ p ∈ tl, p.1 ≠ D) (hfD : f ≠ D) (hn : 1 ≤ n) (hnb : n ≤ 2097152) : ∀ (N : Nat), InOk w f D c' cn ca ci q doc pm ctv tl n N := by
  intro N
  induction N with
  | zero => intro x lo hi tx t1 t2 us k ns h1 h2; exact absurd (Nat.sub_pos_of_lt h2) (Nat.not_lt_of_le h1)
  | succ N ih =>
    intro x lo hi tx t1 t2 us k ns hN hlt hhi hlen hus hx0 hx1 loose mean mg mb dp un gd cn' cs ad ccd cl outer A₀ base h₀ L m s Q E B F X Nw T hcs hdp hun hret
    refine wpAny_call ?_
    k_dflt (refine' code_nest ?k1 ?k2 ?k3 ?k4 ?k5 ?kA ?kF ?kK ?k6 ?k7 ?k8 ?k9 ?kB ?_ ?c2 ?c3 ?c4 ?c5)
    (case kA => exact rfl)
    (case kF => exact rfl)
    (case kK => assumption)
    (case k1 => k_asm)
    (case k2 => k_asm)
    (case k3 => k_asm)
    (case k4 => k_asm)
    (case k5 => k_asm)
    (case k6 => exact List.Mem.head _)
    (case k7 => exact codeRec_news Nw (.tail _ (.tail _ hoc)) hocd hocq)
    (case k8 => ktr_room)
    (case k9 => exact BindsTo.of_eq rfl)
    (case c5 => decide +kernel)
    (case kB => exact locs rfl)
    (case c2 => exact rfl)
    (case c3 => exact rfl)
    (case c4 => exact rfl)
    intro g' L' h' FG' F₁ N₁ B' X' T'
    refine in_body (tx := tx) (t1 := t1) (t2 := t2) X' T' B' hdp hun hon hond hoa hoad hoi hoid hD hfD hnb ih hN hlt hhi hlen hus hx0 hx1 (by with_unfolding_all rfl) (by with_unfolding_all rfl) (by with_unfolding_all rfl) F₁ N₁ ?_
    clear F₁ N₁ ih
    intro us' k' fl m' h' tk' hfl hI F₁ N₁
    k_with_none
    rcases hfl with rfl | rfl
    · k_steps
      exact hret _ _ _ _ ⟨rfl, us', k', rfl, hI⟩ (by assumption) (by assumption)
    · k_steps
      exact hret _ _ _ _ ⟨rfl, us', k', rfl, hI⟩ (by assumption) (by assumption)
end

section
set_option maxRecDepth 100000
set_option maxHeartbeats 8000000
theorem fillI2D : (fun (_ : OpenLaw) (_ : Params → Frag) => True) PySem.Challenge.rw_pu0053_01 hd.heap_39 := by
  k_fill
  w_top off
  trivial
/-- a code's table of what was made in it: empty, or the one code -/
def TabSt (line col : Nat) (q : Str) (ps : Array Value) (l : Led) : Prop :=
  ps = #[] ∨ ∃ c' oc vs t, ps = #[rawInt line, rawInt col, .ref c'] ∧ (c', oc) ∈ l ∧ oc.data = .fields vs ∧ vs[1]? = some (.str q t)
theorem cnt_facts (b n : Nat) (hn : 1 ≤ n) (h : b ≤ n + 40) : ((b : Int) + (n : Int) - 1).fdiv n = (((b + n - 1) / n : Nat) : Int) ∧ (b + n - 1) / n ≤ 41 ∧ b ≤ n * ((b + n - 1) / n) := by
  refine ⟨?_, ?_, ?_⟩
  · rw [Int.fdiv_eq_ediv_of_nonneg _ (by omega)]
    have : (b : Int) + (n : Int) - 1 = ((b + n - 1 : Nat) : Int) := by omega
    rw [this]; rfl
  · have : (b + n - 1) / n < 42 := by
      apply Nat.div_lt_of_lt_mul
      omega
    omega
  · have := Nat.div_add_mod (b + n - 1) n
    have := Nat.mod_lt (b + n - 1) (by omega : n > 0)
    omega
theorem lt_bits (a : Int) (ha : 0 ≤ a) : a < 2 ^ Builtin.Int.intBits a := by
  unfold Builtin.Int.intBits
  by_cases e : a = 0
  · subst e; decide
  · have e' : (a == 0) = false := by simpa using e
    rw [e']
    have h : a.natAbs < 2 ^ (a.natAbs.log2 + 1) := Nat.lt_log2_self
    have : ((a.natAbs : Nat) : Int) < ((2 ^ (a.natAbs.log2 + 1) : Nat) : Int) := Int.ofNat_lt.mpr h
    rw [Int.natAbs_of_nonneg ha] at this
    push_cast at this
    simpa using this
abbrev I2DPost (rest : Led) (ds : List Int) : Value → Led → Prop := fun v news' =>
  ∃ D us k ps' ex, v = .ref D ∧ (D, listOf (List.toArray us) k) :: (30, tabObj ps') :: (ex ++ rest) = news' ∧ IntsAre us ds ∧ TabSt 32 4 (Str.ofString "_int2digits" ++ ".<locals>." ++ "inner") ps' (ex ++ rest) ∧
    (∀ p ∈ rest, p.1 < D) ∧ 30 < D ∧ ∀ e ∈ ex, 30 < e.1 ∧ ∀ p ∈ rest, p.1 < e.1
theorem flat0 (k : Nat) : (List.replicate k [(0 : Int)]).flatten = List.replicate k 0 := by
  induction k with
  | zero => rfl
  | succ k ih => rw [List.replicate_succ, List.flatten_cons, ih, List.replicate_succ]; rfl
noncomputable def i2dF : Stmt := nthS PySem.Challenge.pw_pu0053_01.main.body 4
noncomputable abbrev i2dEnv (L : Addr) : Env := envOfC (Str.ofString "_int2digits") (fdScope i2dF) L 35 (.ref 34)
abbrev q2d : Str := Str.ofString "_int2digits" ++ ".<locals>." ++ "inner"
section
variable {w : World} {Q : Flow → Shared → Prop} {K E : Value → Shared → Prop} {g : Heap} {L L0 ad f D c' : Addr} {m : Str → Option Value} {s : Shared} {R tl rest : Led} {loose : List Str} {mean : ExcName → Option Value} {mg mb : Str → Option Value}
  {dp un : Nat} {gd : Option (List Code)} {cn : Str} {cs : Scope} {ccd : Value} {cl : List (Str × Addr)} {outer : List Env} {A₀ : Around} {base : Heap} {a : Int} {n cnt k : Nat} {ta tn ct : Tok} {ps us : Array Value} {oi oa on oc : Obj} {vi va : Option Value} {cvs : Array Value} {doc pm ctv : Value}
theorem news_d {h : Heap} {a b : Addr × Obj} (N : News g L h (a :: b :: R)) : News g L h (a :: R) := List.forall_mem_cons.mpr ⟨N _ (.head _), fun p hp => N p (.tail _ (.tail _ hp))⟩
theorem news_r {h : Heap} {a c t o : Addr × Obj} (N : News g L h (a :: c :: t :: o :: R)) : News g L h (a :: t :: o :: c :: R) :=
  List.forall_mem_cons.mpr ⟨N _ (.head _), List.forall_mem_cons.mpr ⟨N _ (.tail _ (.tail _ (.head _))), List.forall_mem_cons.mpr ⟨N _ (.tail _ (.tail _ (.tail _ (.head _)))), List.forall_mem_cons.mpr ⟨N _ (.tail _ (.head _)), fun p hp => N p (.tail _ (.tail _ (.tail _ (.tail _ hp))))⟩⟩⟩⟩
theorem news_x {h : Heap} {a b c d e o : Addr × Obj} {ex : Led} (N : News g L h (a :: b :: c :: (ex ++ d :: e :: o :: rest))) : News g L h (a :: d :: b :: c :: e :: o :: (ex ++ rest)) :=
  List.forall_mem_cons.mpr ⟨N _ (.head _), List.forall_mem_cons.mpr ⟨N _ (.tail _ (.tail _ (.tail _ (List.mem_append_right _ (.head _))))), List.forall_mem_cons.mpr ⟨N _ (.tail _ (.head _)), List.forall_mem_cons.mpr ⟨N _ (.tail _ (.tail _ (.head _))), List.forall_mem_cons.mpr ⟨N _ (.tail _ (.tail _ (.tail _ (List.mem_append_right _ (.tail _ (.head _)))))), List.forall_mem_cons.mpr ⟨N _ (.tail _ (.tail _ (.tail _ (List.mem_append_right _ (.tail _ (.tail _ (.head _))))))),
    List.forall_mem_append.mpr ⟨fun p hp => N p (.tail _ (.tail _ (.tail _ (List.mem_append_left _ hp)))), fun p hp => N p (.tail _ (.tail _ (.tail _ (List.mem_append_right _ (.tail _ (.tail _ (.tail _ hp)))))))⟩⟩⟩⟩⟩⟩⟩
theorem i2d_s0 (X : (hd.heap_39 w.params).In g) (T : Top topProg loose mean mg mb g) (ha : 0 ≤ a) (hn : 1 ≤ n) (hnb : n ≤ 2097152) (hcnt : ((Builtin.Int.intBits a : Int) + (n : Int) - 1).fdiv n = (cnt : Int)) (hK0 : 0 ≤ ((Builtin.Int.intBits a : Int) + (n : Int) - 1).fdiv n) (hK1 : ((Builtin.Int.intBits a : Int) + (n : Int) - 1).fdiv n ≤ 41) (hab : Builtin.Int.intBits a ≤ n + 40)
    (don : on.data = .cell (some (.int n tn))) (hon : (L + 1, on) ∈ R) (doa : oa.data = .cell va) (hne : ∀ p ∈ R, p.1 ≠ L + 1 + 1)
    (hm : ∀ p ∈ [(Str.ofString "a", Value.int a ta)], m p.1 = some p.2) (F : Fr g L s.heap m) (N : News g L s.heap ((L + 1 + 1, oa) :: R))
    (hQ : ∀ D us k o' h' tk', IntsAre us (List.replicate cnt 0) → o'.data = .cell (some (.ref D)) → L + 1 + 1 < D → (∀ p ∈ R, p.1 < D) → Fr g L h' m → News g L h' ((D, listOf (List.toArray us) k) :: (L + 1 + 1, o') :: R) → Q .next { s with heap := h', toks := tk' }) :
    wpAny (model PR w) ((ktrTop dp un gd cn cs L0 ad ccd cl outer).deeper (i2dEnv L)) (exec (nthS (fdBody i2dF) 0) (i2dEnv L)) Q E s := by
  rw [← kst_self hm] at F hQ
  clear hm
  dsimp only [i2dF, nthS, fdBody, PySem.Challenge.pw_pu0053_01]
  dsimp only [kstB] at F hQ
  k_with_none
  k_steps
  rename_i l1 h1 lt1 D h2 i1 n1 s1 e1 e2 e3 lt2 h3 o3 F3 N3 d3
  clear s1 e1 e2 e3
  rw [hcnt, Int.toNat_natCast] at i1 N3
  rw [flat0] at i1
  exact hQ D _ _ o3 _ _ i1 d3 lt2.2.1 (allLt_mem lt2.2.2) F3 (List.forall_mem_cons.mpr ⟨N3 _ (.head _), fun p hp => N3 p (.tail _ (.tail _ hp))⟩)
theorem i2d_s1a (X : (hd.heap_39 w.params).In g) (T : Top topProg loose mean mg mb g) (CH : CodeHd g 34 30) (hL : @LT.lt Nat instLTNat 30 L) (don : on.data = .cell (some (.int n tn))) (hon : (L + 1, on) ∈ R) (doa : oa.data = .cell va) (hoa : (L + 1 + 1, oa) ∈ R) (doi : oi.data = .cell vi) (hne1 : ∀ p ∈ R, p.1 ≠ 30) (hne2 : ∀ p ∈ R, p.1 ≠ L + 1 + 1 + 1)
    (F : Fr g L s.heap m) (N : News g L s.heap ((30, tabObj #[]) :: (L + 1 + 1 + 1, oi) :: R))
    (hQ : ∀ f c' oc vs t doc pm ctv o' ex h' tk', oc.data = .fields vs → vs[1]? = some (.str q2d t) → o'.data = .cell (some (.ref f)) → (c', oc) ∈ ex ++ rest → (∀ e ∈ ex, 30 < e.1 ∧ ∀ p ∈ R, p.1 < e.1) → (∀ p ∈ R, p.1 < f) → Fr g L h' m →
      News g L h' ((f, inFn q2d (L + 1) (L + 1 + 1 + 1) (L + 1 + 1) doc pm c' ctv) :: (30, tabObj #[rawInt 32, rawInt 4, .ref c']) :: (L + 1 + 1 + 1, o') :: (ex ++ R)) → Q .next { s with heap := h', toks := tk' }) :
    wpAny (model PR w) ((ktrTop dp un gd cn cs L0 ad ccd cl outer).deeper (i2dEnv L)) (exec (nthS (fdBody i2dF) 1) (i2dEnv L)) Q E s := by
  dsimp only [i2dF, nthS, fdBody, PySem.Challenge.pw_pu0053_01]
  k_with_none
  k_steps
  rename_i f' c' oc' vs' t' ct' dc' h1 tk1 d1 d2 l1 l2 h2 o2 F2 N2 d3
  rw [Array.empty_append] at N2
  exact hQ f' c' oc' vs' t' _ _ _ o2 [(c', oc')] _ _ d1 d2 d3 (.head _) (List.forall_mem_singleton.mpr ⟨l1.1, allLt_mem l1.2.2⟩) (fun p hp => Nat.lt_trans (allLt_mem l1.2.2 p hp) l2) F2 (news_r N2)
theorem i2d_s1b (X : (hd.heap_39 w.params).In g) (T : Top topProg loose mean mg mb g) (CH : CodeHd g 34 30) (hL : @LT.lt Nat instLTNat 30 L) (don : on.data = .cell (some (.int n tn))) (hon : (L + 1, on) ∈ R) (doa : oa.data = .cell va) (hoa : (L + 1 + 1, oa) ∈ R) (doi : oi.data = .cell vi) (hne1 : ∀ p ∈ R, p.1 ≠ 30) (hne2 : ∀ p ∈ R, p.1 ≠ L + 1 + 1 + 1)
    (hc : (c', oc) ∈ R) (hcd : oc.data = .fields cvs) (hcq : cvs[1]? = some (.str q2d ct))
    (F : Fr g L s.heap m) (N : News g L s.heap ((30, tabObj #[rawInt 32, rawInt 4, .ref c']) :: (L + 1 + 1 + 1, oi) :: R))
    (hQ : ∀ f doc pm ctv o' h' tk', o'.data = .cell (some (.ref f)) → (∀ p ∈ R, p.1 < f) → Fr g L h' m →
      News g L h' ((f, inFn q2d (L + 1) (L + 1 + 1 + 1) (L + 1 + 1) doc pm c' ctv) :: (30, tabObj #[rawInt 32, rawInt 4, .ref c']) :: (L + 1 + 1 + 1, o') :: R) → Q .next { s with heap := h', toks := tk' }) :
    wpAny (model PR w) ((ktrTop dp un gd cn cs L0 ad ccd cl outer).deeper (i2dEnv L)) (exec (nthS (fdBody i2dF) 1) (i2dEnv L)) Q E s := by
  dsimp only [i2dF, nthS, fdBody, PySem.Challenge.pw_pu0053_01]
  k_with_none
  k_steps
  rename_i f' ct' dc' h1 tk1 l1 h2 o2 F2 N2 d3
  exact hQ f' _ _ _ o2 _ _ d3 (allLt_mem l1.2.2) F2 N2
theorem i2d_s2 (X : (hd.heap_39 w.params).In g) (T : Top topProg loose mean mg mb g) (BB : Below (ktrTop dp un gd cn cs L0 ad ccd cl outer) base (envX cn cs L0 ad ccd cl :: outer) g) (hdp : dp + 50 < recursionLimit) (hun : un + 8 * 50 < cLine)
    (hn : 1 ≤ n) (hnb : n ≤ 2097152) {us : List Value} (hI : IntsAre us (List.replicate cnt 0)) (h41 : cnt ≤ 41) (ha : 0 ≤ a) (hp : a ≠ 0 → 0 < cnt) (h0 : a = 0 → cnt = 0) (hx : a < 2 ^ (n * cnt))
    (don : on.data = .cell (some (.int n tn))) (hon : (L + 1, on) ∈ tl) (doa : oa.data = .cell (some (.ref D))) (hoa : (L + 1 + 1, oa) ∈ tl) (doi : oi.data = .cell (some (.ref f))) (hoi : (L + 1 + 1 + 1, oi) ∈ tl) (hc : (c', oc) ∈ tl) (hcd : oc.data = .fields cvs) (hcq : cvs[1]? = some (.str q2d ct))
    (hD : ∀ p ∈ tl, p.1 ≠ D) (hfD : f ≠ D)
    (hm : ∀ p ∈ [(Str.ofString "a", Value.int a ta)], m p.1 = some p.2) (F : Fr g L s.heap m) (N : News g L s.heap ((f, inFn q2d (L + 1) (L + 1 + 1 + 1) (L + 1 + 1) doc pm c' ctv) :: (D, listOf (List.toArray us) k) :: tl))
    (hQ : ∀ us' k' h' tk', IntsAre us' (digs n cnt a) → Fr g L h' m → News g L h' ((f, inFn q2d (L + 1) (L + 1 + 1 + 1) (L + 1 + 1) doc pm c' ctv) :: (D, listOf (List.toArray us') k') :: tl) → Q .next { s with heap := h', toks := tk' }) :
    wpAny (model PR w) ((ktrTop dp un gd cn cs L0 ad ccd cl outer).deeper (i2dEnv L)) (exec (nthS (fdBody i2dF) 2) (i2dEnv L)) Q E s := by
  rw [← kst_self hm] at F hQ
  clear hm
  have hl : us.toArray.size = cnt := by rw [List.size_toArray, hI.length, List.length_replicate]
  dsimp only [i2dF, nthS, fdBody, PySem.Challenge.pw_pu0053_01]
  dsimp only [kstB] at F hQ
  k_with_none
  k_with "FnAt" => (exact FnAt.of (by k_asm) (List.Mem.head _))
  k_with "callWith ref" => (refine' callWith_F (FnAt.of (by k_asm) (List.Mem.head _)) ?_; k_whole)
  k_with "call ref" => (refine stop_here ?_)
  k_steps
  · refine Stop.mk ?_
    rename News _ _ _ _ => nn9
    have hlen : (List.replicate cnt (0 : Int)).length = cnt := List.length_replicate
    k_dflt (refine' ctr_call (c_inner1 n tn hc hcd hcq hon don hoa doa hoi doi hD hfD hn hnb 41 a 0 cnt _ _ _ us _ (List.replicate cnt 0) h41 (hp (by assumption)) (Nat.le_of_eq hlen.symm) (hlen.symm ▸ h41) hI ha hx) ?k1 ?k2 ?k3 nn9 ?k5 ?kK ?kd ?ku ?_)
    (case k1 => k_asm)
    (case k2 => k_asm)
    (case k3 => k_asm)
    (case k5 => k_asm)
    (case kK => exact rfl)
    (case kd => ktr_room)
    (case ku => ktr_units)
    clear nn9
    intro v' news' h' tk' P' F₅ N₅
    obtain ⟨e1', us', k', e2', i'⟩ := P'
    subst e1'
    subst e2'
    dsimp only
    rw [List.take_zero, List.nil_append, Nat.sub_zero, List.drop_of_length_le (Nat.le_of_eq hlen), List.append_nil] at i'
    k_steps
    exact hQ _ _ _ _ i' (by assumption) (by assumption)
  · have e : cnt = 0 := h0 (by assumption)
    subst e
    exact hQ _ _ _ _ hI (by assumption) (by assumption)
theorem i2d_s3 (X : (hd.heap_39 w.params).In g) (doa : oa.data = .cell (some (.ref D))) (hoa : (L + 1 + 1, oa) ∈ R) (F : Fr g L s.heap m) (N : News g L s.heap R)
    (hQ : ∀ h' tk', Fr g L h' m → News g L h' R → Q (.ret (.ref D)) { s with heap := h', toks := tk' }) :
    wpAny (model PR w) ((ktrTop dp un gd cn cs L0 ad ccd cl outer).deeper (i2dEnv L)) (exec (nthS (fdBody i2dF) 3) (i2dEnv L)) Q E s := by
  dsimp only [i2dF, nthS, fdBody, PySem.Challenge.pw_pu0053_01]
  k_with_none
  k_steps
  exact hQ _ _ (by assumption) (by assumption)
theorem i2d_s1 (X : (hd.heap_39 w.params).In g) (T : Top topProg loose mean mg mb g) (CH : CodeHd g 34 30) (hL : @LT.lt Nat instLTNat 30 L) (don : on.data = .cell (some (.int n tn))) (hon : (L + 1, on) ∈ R) (doa : oa.data = .cell va) (hoa : (L + 1 + 1, oa) ∈ R) (doi : oi.data = .cell vi) (hne1 : ∀ p ∈ R, p.1 ≠ 30) (hne2 : ∀ p ∈ R, p.1 ≠ L + 1 + 1 + 1)
    (hps : TabSt 32 4 q2d ps rest) (hsub : ∀ p ∈ rest, p ∈ R) (F : Fr g L s.heap m) (N : News g L s.heap ((30, tabObj ps) :: (L + 1 + 1 + 1, oi) :: R))
    (hQ : ∀ f c' oc vs t doc pm ctv o' ex h' tk', oc.data = .fields vs → vs[1]? = some (.str q2d t) → o'.data = .cell (some (.ref f)) → (c', oc) ∈ ex ++ rest → (∀ e ∈ ex, 30 < e.1 ∧ ∀ p ∈ R, p.1 < e.1) → (∀ p ∈ R, p.1 < f) → Fr g L h' m →
      News g L h' ((f, inFn q2d (L + 1) (L + 1 + 1 + 1) (L + 1 + 1) doc pm c' ctv) :: (30, tabObj #[rawInt 32, rawInt 4, .ref c']) :: (L + 1 + 1 + 1, o') :: (ex ++ R)) → Q .next { s with heap := h', toks := tk' }) :
    wpAny (model PR w) ((ktrTop dp un gd cn cs L0 ad ccd cl outer).deeper (i2dEnv L)) (exec (nthS (fdBody i2dF) 1) (i2dEnv L)) Q E s := by
  rcases hps with rfl | ⟨c', oc, vs, t, rfl, hc, hcd, hcq⟩
  · exact i2d_s1a X T CH hL don hon doa hoa doi hne1 hne2 F N hQ
  · exact i2d_s1b X T CH hL don hon doa hoa doi hne1 hne2 (hsub _ hc) hcd hcq F N fun f doc pm ctv o' h' tk' d hlt F N => hQ f c' oc vs t doc pm ctv o' [] h' tk' hcd hcq d hc (fun _ h => nomatch h) hlt F N
theorem cnt_more (a : Int) (n : Nat) (ha : 0 ≤ a) (hn : 1 ≤ n) : (a ≠ 0 → 0 < (Builtin.Int.intBits a + n - 1) / n) ∧ (a = 0 → (Builtin.Int.intBits a + n - 1) / n = 0) := by
  refine ⟨fun h => Nat.div_pos ?_ hn, fun h => ?_⟩
  · have hb : 1 ≤ Builtin.Int.intBits a := by
      unfold Builtin.Int.intBits
      have e' : (a == 0) = false := by simpa using h
      rw [e']; exact Nat.le_add_left _ _
    clear h ha
    generalize Builtin.Int.intBits a = b at hb
    omega
  · subst h
    exact Nat.div_eq_of_lt (by rw [show Builtin.Int.intBits 0 = 0 from rfl]; omega)
theorem i2d_body (X : (hd.heap_39 w.params).In g) (T : Top topProg loose mean mg mb g) (CH : CodeHd g 34 30) (BB : Below (ktrTop dp un gd cn cs L0 ad ccd cl outer) base (envX cn cs L0 ad ccd cl :: outer) g) (hdp : dp + 50 < recursionLimit) (hun : un + 8 * 50 < cLine)
    (ha : 0 ≤ a) (hn : 1 ≤ n) (hnb : n ≤ 2097152) (hab : Builtin.Int.intBits a ≤ n + 40) (hL : @LT.lt Nat instLTNat 30 L) (hLr : ∀ p ∈ rest, p.1 < L) (hr : ∀ p ∈ rest, p.1 ≠ 30) (hps : TabSt 32 4 q2d ps rest)
    (don : on.data = .cell (some (.int n tn))) (doa : oa.data = .cell va) (doi : oi.data = .cell vi) (h1 : m (Str.ofString "a") = some (.int a ta)) (F : Fr g L s.heap m)
    (N : News g L s.heap ((L + 1 + 1 + 1, oi) :: (L + 1 + 1, oa) :: (L + 1, on) :: (30, tabObj ps) :: rest))
    (hQ : ∀ D us k ps' ex h' tk', IntsAre us (digs n ((Builtin.Int.intBits a + n - 1) / n) a) → TabSt 32 4 q2d ps' (ex ++ rest) → (∀ p ∈ rest, p.1 < D) → 30 < D → (∀ e ∈ ex, 30 < e.1 ∧ ∀ p ∈ rest, p.1 < e.1) → Fr g L h' m → News g L h' ((D, listOf (List.toArray us) k) :: (30, tabObj ps') :: (ex ++ rest)) → Q (.ret (.ref D)) { s with heap := h', toks := tk' }) :
    wpAny (model PR w) ((ktrTop dp un gd cn cs L0 ad ccd cl outer).deeper (i2dEnv L)) (execs (fdBody i2dF) (i2dEnv L)) Q E s := by
  change wpAny _ _ (execs (nthS (fdBody i2dF) 0 :: nthS (fdBody i2dF) 1 :: nthS (fdBody i2dF) 2 :: [nthS (fdBody i2dF) 3]) _) _ _ _
  obtain ⟨hcnt, hc41, hcb⟩ := cnt_facts _ n hn hab
  obtain ⟨hc1, hc0⟩ := cnt_more a n ha hn
  have hac : a < 2 ^ (n * ((Builtin.Int.intBits a + n - 1) / n)) := Int.lt_of_lt_of_le (lt_bits a ha) (by exact_mod_cast Nat.pow_le_pow_right (n := 2) (by decide) hcb)
  clear hcb
  generalize (Builtin.Int.intBits a + n - 1) / n = cnt at *
  have hL1 : L < L + 1 := Nat.lt_succ_self L
  have hL2 : L + 1 < L + 1 + 1 := Nat.lt_succ_self _
  have hL3 : L + 1 + 1 < L + 1 + 1 + 1 := Nat.lt_succ_self _
  have hr1 : ∀ p ∈ rest, p.1 < L + 1 := fun p hp => Nat.lt_trans (hLr p hp) hL1
  have hr2 : ∀ p ∈ rest, p.1 < L + 1 + 1 := fun p hp => Nat.lt_trans (hr1 p hp) hL2
  refine execs_step fun Q1 hQ1 => i2d_s0 X T ha hn hnb hcnt (hcnt ▸ Int.natCast_nonneg _) (hcnt ▸ Int.ofNat_le.mpr hc41) hab (R := (30, tabObj ps) :: (L + 1 + 1 + 1, oi) :: (L + 1, on) :: rest) don (.tail _ (.tail _ (.head _))) doa
    (List.forall_mem_cons.mpr ⟨Nat.ne_of_lt (Nat.lt_trans hL (Nat.lt_trans hL1 hL2)), List.forall_mem_cons.mpr ⟨Nat.ne_of_gt hL3, List.forall_mem_cons.mpr ⟨Nat.ne_of_lt hL2, fun p hp => Nat.ne_of_lt (hr2 p hp)⟩⟩⟩) (all1 h1) F
    (List.forall_mem_cons.mpr ⟨N _ (.tail _ (.head _)), List.forall_mem_cons.mpr ⟨N _ (.tail _ (.tail _ (.tail _ (.head _)))), List.forall_mem_cons.mpr ⟨N _ (.head _), List.forall_mem_cons.mpr ⟨N _ (.tail _ (.tail _ (.head _))), fun p hp => N p (.tail _ (.tail _ (.tail _ (.tail _ hp))))⟩⟩⟩⟩) ?_
  clear F N
  intro D us k o2 h3 tk3 hI d2 hD2 hDR F N
  refine hQ1 _ ?_
  clear hQ1 Q1
  have hD3 : L + 1 + 1 + 1 < D := hDR _ (.tail _ (.head _))
  have hD30 : @LT.lt Nat instLTNat 30 D := hDR _ (.head _)
  have hDr : ∀ p ∈ rest, p.1 < D := fun p hp => hDR p (.tail _ (.tail _ (.tail _ hp)))
  refine execs_step fun Q1 hQ1 => i2d_s1 X T CH hL (R := (D, listOf (List.toArray us) k) :: (L + 1 + 1, o2) :: (L + 1, on) :: rest) don (.tail _ (.tail _ (.head _))) d2 (.tail _ (.head _)) doi
    (List.forall_mem_cons.mpr ⟨Nat.ne_of_gt hD30, List.forall_mem_cons.mpr ⟨Nat.ne_of_gt (Nat.lt_trans hL (Nat.lt_trans hL1 hL2)), List.forall_mem_cons.mpr ⟨Nat.ne_of_gt (Nat.lt_trans hL hL1), hr⟩⟩⟩)
    (List.forall_mem_cons.mpr ⟨Nat.ne_of_gt hD3, List.forall_mem_cons.mpr ⟨Nat.ne_of_lt hL3, List.forall_mem_cons.mpr ⟨Nat.ne_of_lt (Nat.lt_trans hL2 hL3), fun p hp => Nat.ne_of_lt (Nat.lt_trans (hr2 p hp) hL3)⟩⟩⟩)
    hps (fun p hp => .tail _ (.tail _ (.tail _ hp))) F (List.forall_mem_cons.mpr ⟨N _ (.tail _ (.tail _ (.head _))), List.forall_mem_cons.mpr ⟨N _ (.tail _ (.tail _ (.tail _ (.head _)))), List.forall_mem_cons.mpr ⟨N _ (.head _), List.forall_mem_cons.mpr ⟨N _ (.tail _ (.head _)), fun p hp => N p (.tail _ (.tail _ (.tail _ (.tail _ hp))))⟩⟩⟩⟩) ?_
  clear F N hps
  intro f c' oc vs t doc pm ctv o3 ex h4 tk4 hcd hcq d3 hc hex hf F N
  refine hQ1 _ ?_
  clear hQ1 Q1
  have hexD : ∀ p ∈ ex, p.1 ≠ D := fun p hp => Nat.ne_of_gt ((hex p hp).2 _ (.head _))
  refine execs_step fun Q1 hQ1 => i2d_s2 X T BB hdp hun hn hnb (tl := (30, tabObj #[rawInt 32, rawInt 4, .ref c']) :: (L + 1 + 1 + 1, o3) :: (L + 1 + 1, o2) :: (L + 1, on) :: (ex ++ rest)) (oc := oc) (ct := t) hI hc41 ha hc1 hc0 hac don (.tail _ (.tail _ (.tail _ (.head _)))) d2 (.tail _ (.tail _ (.head _))) d3 (.tail _ (.head _)) (.tail _ (.tail _ (.tail _ (.tail _ hc)))) hcd hcq
    (List.forall_mem_cons.mpr ⟨Nat.ne_of_lt hD30, List.forall_mem_cons.mpr ⟨Nat.ne_of_lt hD3, List.forall_mem_cons.mpr ⟨Nat.ne_of_lt hD2, List.forall_mem_cons.mpr ⟨Nat.ne_of_lt (Nat.lt_trans hL2 hD2), List.forall_mem_append.mpr ⟨hexD, fun p hp => Nat.ne_of_lt (hDr p hp)⟩⟩⟩⟩⟩) (Nat.ne_of_gt (hf _ (.head _))) (all1 h1) F (news_x N) ?_
  clear F N
  intro us' k' h5 tk5 hI' F N
  refine hQ1 _ ?_
  clear hQ1 Q1
  refine execs_stepR fun Q1 _ hR1 => i2d_s3 X d2 (.tail _ (.tail _ (.tail _ (.tail _ (.head _))))) F N ?_
  clear F N
  intro h6 tk6 F N
  refine hR1 _ _ ?_
  exact hQ D us' k' _ ex _ _ hI' (Or.inr ⟨c', oc, vs, t, rfl, hc, hcd, hcq⟩) hDr hD30 (fun e he => ⟨(hex e he).1, fun p hp => (hex e he).2 p (.tail _ (.tail _ (.tail _ hp)))⟩) F (List.forall_mem_cons.mpr ⟨N _ (.tail _ (.head _)), List.forall_mem_cons.mpr ⟨N _ (.tail _ (.tail _ (.head _))), fun p hp => N p (.tail _ (.tail _ (.tail _ (.tail _ (.tail _ (.tail _ hp))))))⟩⟩)
end
theorem c_i2d {w : World} {rest : Led} (ps : Array Value) (a : Int) (n : Nat) (ta tn : Tok) (ha : 0 ≤ a) (hn : 1 ≤ n) (hps : TabSt 32 4 (Str.ofString "_int2digits" ++ ".<locals>." ++ "inner") ps rest) (hr : ∀ p ∈ rest, p.1 ≠ 30) (hab : Builtin.Int.intBits a ≤ n + 40) (hnb : n ≤ 2097152) :
   Ctr w 35 [.int a ta, .int n tn] [] ((30, tabObj ps) :: rest) 50 (I2DPost rest (digs n ((Builtin.Int.intBits a + n - 1) / n) a)) := by
  intro loose mean mg mb dp un gd cn cs ad ccd cl outer A₀ base h₀ L m s Q E B F X N T hcs hdp hun hret
  refine wpAny_call ?_
  k_dflt (refine' code_defC ?k1 ?k2 ?k3 ?k4 ?k5 ?kA ?kF ?kK ?k6 ?k7 ?k8 ?k9 ?kB ?kD ?_ ?c2 ?c3 ?c4; (case kA => exact rfl); (case kF => exact rfl); (case kK => assumption); (case k1 => k_asm); (case k2 => k_asm); (case k3 => k_asm); (case k4 => k_asm); (case k5 => k_asm); (case k6 => k_is); (case k7 => k_is); (case k8 => ktr_room); (case k9 => exact BindsTo.of_eq rfl); (case kB => exact rfl); (case kD => decide +kernel); (case c2 => exact rfl); (case c3 => exact rfl); (case c4 => exact rfl); k_whole; intro g' L' h' tk' cells' FG' F' N' Y' B' X' T' l1; (try k_lt l1); k_cells Y'; (try simp only [List.cons_append, List.nil_append] at N'); (try dsimp only); (try k_lift B'); (try k_fold))
  have CH : CodeHd _ 34 30 := codeHd_of_K (by assumption) rfl
  k_with_none
  rename_i o1 o2 o3 d1 d2 d3
  refine i2d_body X' T' CH B' hdp hun ha hn hnb hab l1.1 (allLt_mem l1.2) hr hps d3 d2 d1 (by with_unfolding_all rfl) F' N' ?_
  clear F' N' d1 d2 d3
  intro D us k ps' ex h' tk' hI hT hD hD30 hex F' N'
  k_steps
  exact hret _ _ _ _ ⟨D, us, k, ps', ex, rfl, rfl, hI, hT, hD, hD30, hex⟩ (by assumption) (by assumption)
end

section
set_option maxRecDepth 100000
set_option maxHeartbeats 8000000
theorem fillInner2 : (fun (_ : OpenLaw) (_ : Params → Frag) => True) PySem.Challenge.rw_pu0053_01 hd.heap_39 := by
  k_fill
  w_top off
  trivial
/-- the number of these digits -/
def und (n : Nat) : List Int → Int
  | [] => 0
  | d :: r => d + 2 ^ n * und n r
theorem und_append (n : Nat) : ∀ (a b : List Int), und n (a ++ b) = und n a + 2 ^ (n * a.length) * und n b
  | [], b => by simp [und]
  | d :: a, b => by
    rw [List.cons_append, und, und, und_append n a b, List.length_cons, Nat.mul_add, Nat.mul_one, Nat.add_comm, Int.pow_add, Int.mul_add, ← Int.mul_assoc]
    rw [Int.add_assoc]
theorem und_bounds (n : Nat) : ∀ (l : List Int), (∀ d ∈ l, 0 ≤ d ∧ d < 2 ^ n) → 0 ≤ und n l ∧ und n l < 2 ^ (n * l.length)
  | [], _ => by simp [und]
  | d :: r, h => by
    have ⟨h1, h2⟩ := h d (.head _)
    have ⟨i1, i2⟩ := und_bounds n r fun x hx => h x (.tail _ hx)
    have hp := pow_pos2 n
    rw [und, List.length_cons, Nat.mul_add, Nat.mul_one, Nat.add_comm, Int.pow_add]
    constructor
    · have := Int.mul_nonneg (Int.le_of_lt hp) i1
      omega
    · have h3 : 2 ^ n * (und n r + 1) ≤ 2 ^ n * 2 ^ (n * r.length) := Int.mul_le_mul_of_nonneg_left (by omega) (Int.le_of_lt hp)
      rw [Int.mul_add, Int.mul_one] at h3
      omega
theorem seg_len (ds : List Int) (lo hi : Nat) (h : hi ≤ ds.length) : ((ds.drop lo).take (hi - lo)).length = hi - lo := by
  rw [List.length_take, List.length_drop]; exact Nat.min_eq_left (Nat.sub_le_sub_right h lo)
theorem seg_split (ds : List Int) (lo mid hi : Nat) (h1 : lo ≤ mid) (h2 : mid ≤ hi) (h : hi ≤ ds.length) : (ds.drop lo).take (hi - lo) = (ds.drop lo).take (mid - lo) ++ (ds.drop mid).take (hi - mid) := by
  have e : hi - lo = (mid - lo) + (hi - mid) := ((Nat.add_comm _ _).trans (Nat.sub_add_sub_cancel h2 h1)).symm
  rw [e, List.take_add, List.drop_drop, Nat.add_sub_cancel' h1]
theorem seg_one (ds : List Int) (lo : Nat) (h : lo < ds.length) (n : Nat) : und n ((ds.drop lo).take (lo + 1 - lo)) = ds.getD lo 0 := by
  have e : lo + 1 - lo = 1 := Nat.add_sub_cancel_left lo 1
  rw [e, List.drop_eq_getElem_cons h, List.take_succ_cons, List.take_zero, List.getD_eq_getElem?_getD, List.getElem?_eq_getElem h]
  simp [und]
theorem seg_mem {ds : List Int} {lo k : Nat} {P : Int → Prop} (h : ∀ d ∈ ds, P d) : ∀ d ∈ (ds.drop lo).take k, P d := fun d hd => h d (List.mem_of_mem_drop (List.mem_of_mem_take hd))
noncomputable def d2iIn : Stmt := nthS (fdBody (nthS PySem.Challenge.pw_pu0053_01.main.body 5)) 0
noncomputable abbrev inFn2 (q : Str) (cd cn ci : Addr) (doc pm : Value) (c' : Addr) (ctv : Value) : Obj :=
  fnMade (Str.ofString "inner") q (fdArgs d2iIn) (fdBody d2iIn) (fdScope d2iIn) [(Str.ofString "n", cn), (Str.ofString "inner", ci), (Str.ofString "digits", cd)] doc pm c' ctv
theorem sz27 {b u v : Nat} (h : b ≤ u) (h2 : u + v ≤ 2097152 * 41) : (b : Int) + (v : Int) ≤ 2 ^ 27 := by omega
theorem c_inner2 {w : World} {f D c' cd cn ci : Addr} {q : Str} {doc pm ctv : Value} {oc od on oi : Obj} {cvs : Array Value} {ct : Tok} {tl : Led} (n : Nat) (tn : Tok) {us : List Value} {k : Nat} (ds : List Int)
    (hoc : (c', oc) ∈ tl) (hocd : oc.data = .fields cvs) (hocq : cvs[1]? = some (.str q ct))
    (hon : (cn, on) ∈ tl) (hond : on.data = .cell (some (.int n tn))) (hod : (cd, od) ∈ tl) (hodd : od.data = .cell (some (.ref D))) (hoi : (ci, oi) ∈ tl) (hoid : oi.data = .cell (some (.ref f)))
    (hD : (D, listOf us.toArray k) ∈ tl) (hus : IntsAre us ds) (hds : ∀ d ∈ ds, 0 ≤ d ∧ d < 2 ^ n) (hlen : ds.length ≤ 41) (hn : 1 ≤ n) (hnb : n ≤ 2097152) :
    ∀ (N : Nat) (lo hi : Nat) (t1 t2 : Tok), hi - lo ≤ N → lo < hi → hi ≤ ds.length →
      Ctr w f [.int lo t1, .int hi t2] [] ((f, inFn2 q cd cn ci doc pm c' ctv) :: tl) (N + 1) (IntBack ((f, inFn2 q cd cn ci doc pm c' ctv) :: tl) (und n ((ds.drop lo).take (hi - lo)))) := by
  intro N
  induction N with
  | zero => intro lo hi t1 t2 h1 h2; exact absurd (Nat.sub_pos_of_lt h2) (Nat.not_lt_of_le h1)
  | succ N ih =>
    intro lo hi t1 t2 hN hlt hhi loose mean mg mb dp un gd cn' cs ad ccd cl outer A₀ base h₀ L m s Q E B F X Nw T hcs hdp hun hret
    have hul : us.length = ds.length := hus.length
    refine wpAny_call ?_
    k_dflt (refine' code_nest ?k1 ?k2 ?k3 ?k4 ?k5 ?kA ?kF ?kK ?k6 ?k7 ?k8 ?k9 ?kB ?_ ?c2 ?c3 ?c4 ?c5)
    (case kA => exact rfl)
    (case kF => exact rfl)
    (case kK => assumption)
    (case k1 => k_asm)
    (case k2 => k_asm)
    (case k3 => k_asm)
    (case k4 => k_asm)
    (case k5 => k_asm)
    (case k6 => exact List.Mem.head _)
    (case k7 => exact codeRec_news Nw (.tail _ hoc) hocd hocq)
    (case k8 => ktr_room)
    (case k9 => exact BindsTo.of_eq rfl)
    (case c5 => decide +kernel)
    (case kB => exact locs rfl)
    (case c2 => exact rfl)
    (case c3 => exact rfl)
    (case c4 => exact rfl)
    intro g' L' h' FG' F₁ N₁ B' X' T'
    dsimp only [d2iIn, nthS, fdBody, fdArgs, fdScope, PySem.Challenge.pw_pu0053_01] at F₁ ⊢
    have CH : CodeHd g' 41 37 := codeHd_of_K X' rfl
    k_with_none
    k_with "binaryOp RShift int int" => (refine rshift_int (by omega) ?_)
    k_with "binaryOp LShift int int" => (refine lshift_int (by omega) (by assumption) ?_)
    refine exec_cut (fun s' => lo + 1 ≠ hi ∧ After F₁ s [] ((f, inFn2 q cd cn ci doc pm c' ctv) :: tl) s') ?_ ?_
    · k_steps
      · refine CutPost.ret ?_
        k_steps
        have hlh : hi = lo + 1 := by omega
        subst hlh
        refine hret _ _ _ _ ⟨⟨_, congrArg (fun z => Value.int z _) ?_⟩, rfl⟩ (by assumption) (by assumption)
        rw [seg_one _ _ (by omega), Int.toNat_natCast]
      · exact ⟨by omega, After.intro (by assumption) (by assumption)⟩
    rintro _ ⟨hne, h₂, tk₂, rfl, F₂, N₂⟩
    clear F₁ N₁
    dsimp only [kstB] at F₂
    obtain ⟨mid, hmid⟩ : ∃ mid : Nat, mid = (lo + hi) / 2 := ⟨_, rfl⟩
    obtain ⟨hm1, hm2⟩ := mid_in hlt hne
    rw [← hmid] at hm1 hm2
    obtain ⟨hN1, hN2⟩ := part_le hN hm1 hm2
    refine exec_cut (fun s' => ∃ t, After F₂ s [(Str.ofString "mid", .int (mid : Int) t)] ((f, inFn2 q cd cn ci doc pm c' ctv) :: tl) s') ?_ ?_
    · k_steps
      rename_i F₃ N₃
      rw [half_eq, ← hmid] at F₃
      exact ⟨_, After.intro F₃ N₃⟩
    rintro _ ⟨tm, h₃, tk₃, rfl, F₃, N₃⟩
    clear F₂ N₂
    dsimp only [kstB] at F₃
    obtain ⟨sh, hsh⟩ : ∃ sh : Nat, sh = n * (mid - lo) := ⟨_, rfl⟩
    refine exec_cut (fun s' => ∃ t, After F₃ s [(Str.ofString "shift", .int (sh : Int) t)] ((f, inFn2 q cd cn ci doc pm c' ctv) :: tl) s') ?_ ?_
    · k_steps
      rename_i F₄ N₄
      have e : ((mid : Int) - (lo : Int)) * (n : Int) = (sh : Int) := by
        rw [hsh, ← Int.ofNat_sub (Nat.le_of_lt hm1), Nat.mul_comm]; rfl
      rw [e] at F₄
      exact ⟨_, After.intro F₄ N₄⟩
    rintro _ ⟨ts, h₄, tk₄, rfl, F₄, N₄⟩
    clear F₃ N₃
    dsimp only [kstB] at F₄
    have hl2 := seg_len ds mid hi hhi
    have hl1 := seg_len ds lo mid (Nat.le_trans (Nat.le_of_lt hm2) hhi)
    obtain ⟨hb0, hb1⟩ := und_bounds n ((ds.drop mid).take (hi - mid)) (seg_mem hds)
    have hsz : ((Builtin.Int.intBits (und n ((ds.drop mid).take (hi - mid))) : Nat) : Int) + (sh : Int) ≤ 2 ^ 27 := by
      have q1 := bits_lt hb0 hb1
      rw [hl2] at q1
      have q2 : n * (hi - mid) + sh ≤ 2097152 * 41 := by
        rw [hsh, ← Nat.mul_add, Nat.add_comm, ← part_sum hm1 hm2]
        exact Nat.mul_le_mul hnb (Nat.le_trans (Nat.sub_le _ _) (Nat.le_trans hhi hlen))
      exact sz27 q1 q2
    k_with "FnAt" => (exact FnAt.of (by k_asm) (List.Mem.head _))
    k_with "callWith ref" => (refine' callWith_F (FnAt.of (by k_asm) (List.Mem.head _)) ?_; k_whole)
    k_with "call ref" => (k_dflt (refine' ctr_call (ih _ _ _ _ ?i1 ?i2 ?i3) ?k1 ?k2 ?k3 ?k4 ?k5 ?kK ?kd ?ku ?_); (case k1 => k_asm); (case k2 => k_asm); (case k3 => k_asm); (case k4 => k_asm); (case k5 => k_asm); (case kK => exact rfl); (case kd => ktr_room); (case ku => ktr_units); (case i1 => first | exact hN1 | exact hN2); (case i2 => assumption); (case i3 => first | exact hhi | exact Nat.le_trans (Nat.le_of_lt hm2) hhi); intro v' news' h' tk' P' F' N'; obtain ⟨⟨t', e1'⟩, e2'⟩ := P'; subst e1'; subst e2'; (try dsimp only); (try k_fold))
    k_steps
    refine hret _ _ _ _ ⟨⟨_, congrArg (fun z => Value.int z _) ?_⟩, rfl⟩ (by assumption) (by assumption)
    rw [seg_split ds lo mid hi (Nat.le_of_lt hm1) (Nat.le_of_lt hm2) hhi, und_append, hl1, ← hsh, Int.toNat_natCast, Int.mul_comm]
    exact Int.add_comm _ _
end

section
set_option maxRecDepth 100000
set_option maxHeartbeats 8000000
theorem fillD2I : (fun (_ : OpenLaw) (_ : Params → Frag) => True) PySem.Challenge.rw_pu0053_01 hd.heap_39 := by
  k_fill
  w_top off
  trivial
abbrev D2IPost (rest : Led) (x : Int) : Value → Led → Prop := fun v news' =>
  ∃ t ps' ex, v = .int x t ∧ (37, tabObj ps') :: (ex ++ rest) = news' ∧ TabSt 47 4 (Str.ofString "_digits2int" ++ ".<locals>." ++ "inner") ps' (ex ++ rest) ∧
    ∀ e ∈ ex, 37 < e.1 ∧ ∀ p ∈ rest, p.1 < e.1
theorem d2i_close_e {h₀ h : Heap} {L : Addr} {f c c1 c2 c3 t : Addr × Obj} {rest : Led} (N : News h₀ L h (f :: c :: c1 :: c2 :: c3 :: t :: rest)) : News h₀ L h (t :: ([c] ++ rest)) :=
  fun p hp => N p (by simp only [List.mem_cons, List.mem_append, List.not_mem_nil, or_false] at hp ⊢; rcases hp with h | h | h <;> simp [h])
theorem d2i_close_h {h₀ h : Heap} {L : Addr} {f c1 c2 c3 t : Addr × Obj} {rest : Led} (N : News h₀ L h (f :: c1 :: c2 :: c3 :: t :: rest)) : News h₀ L h (t :: ([] ++ rest)) :=
  fun p hp => N p (by simp only [List.mem_cons, List.nil_append] at hp ⊢; rcases hp with h | h <;> simp [h])
theorem c_d2i {w : World} {rest : Led} (ps : Array Value) (D : Addr) {us : List Value} {k : Nat} (ds : List Int) (n : Nat) (tn : Tok) (hn : 1 ≤ n) (hps : TabSt 47 4 (Str.ofString "_digits2int" ++ ".<locals>." ++ "inner") ps rest) (hr : ∀ p ∈ rest, p.1 ≠ 37) (hD : (D, listOf us.toArray k) ∈ rest) (hus : IntsAre us ds)
    (hds : ∀ d ∈ ds, 0 ≤ d ∧ d < 2 ^ n) (hlen : ds.length ≤ 41) (hnb : n ≤ 2097152) :
   Ctr w 42 [.ref D, .int n tn] [] ((37, tabObj ps) :: rest) 50 (D2IPost rest (und n ds)) := by
  intro loose mean mg mb dp un gd cn cs ad ccd cl outer A₀ base h₀ L m s Q E B F X N T hcs hdp hun hret
  have hul : us.length = ds.length := hus.length
  rcases hps with hps | ⟨c', oc, vs, t, hps, hc, hcd, hcq⟩
  · subst hps
    refine wpAny_call ?_
    k_dflt (refine' code_defC ?k1 ?k2 ?k3 ?k4 ?k5 ?kA ?kF ?kK ?k6 ?k7 ?k8 ?k9 ?kB ?kD ?_ ?c2 ?c3 ?c4; (case kA => exact rfl); (case kF => exact rfl); (case kK => assumption); (case k1 => k_asm); (case k2 => k_asm); (case k3 => k_asm); (case k4 => k_asm); (case k5 => k_asm); (case k6 => k_is); (case k7 => k_is); (case k8 => ktr_room); (case k9 => exact BindsTo.of_eq rfl); (case kB => exact rfl); (case kD => decide +kernel); (case c2 => exact rfl); (case c3 => exact rfl); (case c4 => exact rfl); k_whole; intro g' L' h' tk' cells' FG' F' N' Y' B' X' T' l1; (try k_lt l1); k_cells Y'; (try simp only [List.cons_append, List.nil_append] at N'); (try dsimp only); (try k_lift B'); (try k_fold))
    have CH : CodeHd _ 41 37 := codeHd_of_K (by assumption) rfl
    k_with_none
    rename _ ∧ AllLt _ _ => hl9
    obtain ⟨hl30, hlr⟩ := hl9
    k_with "call ref" => (refine stop_here ?_)
    k_with "truthy ref" => (refine kgr_truthy (by k_asm) (by k_dflt k_mem) rfl rfl (by omega) ?_)
    k_with "call builtin:len" => (refine KM.len_K (n := ds.length) (by k_asm) (by k_dflt k_mem) (by rw [List.size_toArray]; exact hul) (by omega) ?_)
    k_steps
    · have hds0 : ds = [] := by
        have : us = [] := by simpa using (show us.isEmpty = true by assumption)
        rw [this] at hul
        exact List.length_eq_zero_iff.mp hul.symm
      subst hds0
      rename_i kF kN _ _
      rw [Array.empty_append] at kN
      refine hret _ _ _ _ ⟨_, _, [(_, _)], rfl, rfl, Or.inr ⟨_, _, _, _, rfl, List.Mem.head _, by assumption, by assumption⟩, ?_⟩ kF (d2i_close_e kN)
      intro e he
      rw [List.mem_singleton.mp he]
      exact ⟨ltN (by dsimp only; omega), fun p hp => Nat.lt_trans (allLt_mem hlr p hp) (by omega)⟩
    · refine Stop.mk ?_
      have hdp0 : 1 ≤ ds.length := by
        have : us ≠ [] := by
          intro h
          have h2 : us.isEmpty = false := by assumption
          rw [h] at h2
          cases h2
        have := List.length_pos_iff.mpr this
        omega
      rename News _ _ _ _ => nn9
      k_dflt (refine' ctr_call (c_inner2 n tn ds ?h1 ?h2 ?h3 ?h4 ?h5 ?h6 ?h7 ?h8 ?h9 ?h10 hus hds hlen hn hnb 41 0 ds.length _ _ ?i1 ?i2 ?i3) ?k1 ?k2 ?k3 nn9 ?k5 ?kK ?kd ?ku ?_)
      (case k1 => k_asm)
      (case k2 => k_asm)
      (case k3 => k_asm)
      (case k5 => k_asm)
      (case kK => exact rfl)
      (case kd => ktr_room)
      (case ku => ktr_units)
      (case h1 => (repeat (first | exact List.Mem.head _ | assumption | refine List.Mem.tail _ ?_)))
      (case h2 => assumption)
      (case h3 => assumption)
      (case h4 => (repeat (first | exact List.Mem.head _ | assumption | refine List.Mem.tail _ ?_)))
      (case h5 => k_asm)
      (case h6 => (repeat (first | exact List.Mem.head _ | assumption | refine List.Mem.tail _ ?_)))
      (case h7 => k_asm)
      (case h8 => (repeat (first | exact List.Mem.head _ | assumption | refine List.Mem.tail _ ?_)))
      (case h9 => k_asm)
      (case h10 => (repeat (first | exact List.Mem.head _ | assumption | refine List.Mem.tail _ ?_)))
      (case i1 => omega)
      (case i2 => omega)
      (case i3 => omega)
      clear nn9
      intro v' news' h' tk' P' F₅ N₅
      obtain ⟨⟨t', e1'⟩, e2'⟩ := P'
      subst e1'
      subst e2'
      rw [List.drop_zero, Nat.sub_zero, List.take_length]
      dsimp only
      k_steps
      rename_i kF kN _ _
      rw [Array.empty_append] at kN
      refine hret _ _ _ _ ⟨_, _, [(_, _)], rfl, rfl, Or.inr ⟨_, _, _, _, rfl, List.Mem.head _, by assumption, by assumption⟩, ?_⟩ kF (d2i_close_e kN)
      intro e he
      rw [List.mem_singleton.mp he]
      exact ⟨ltN (by dsimp only; omega), fun p hp => Nat.lt_trans (allLt_mem hlr p hp) (by omega)⟩
  · subst hps
    refine wpAny_call ?_
    k_dflt (refine' code_defC ?k1 ?k2 ?k3 ?k4 ?k5 ?kA ?kF ?kK ?k6 ?k7 ?k8 ?k9 ?kB ?kD ?_ ?c2 ?c3 ?c4; (case kA => exact rfl); (case kF => exact rfl); (case kK => assumption); (case k1 => k_asm); (case k2 => k_asm); (case k3 => k_asm); (case k4 => k_asm); (case k5 => k_asm); (case k6 => k_is); (case k7 => k_is); (case k8 => ktr_room); (case k9 => exact BindsTo.of_eq rfl); (case kB => exact rfl); (case kD => decide +kernel); (case c2 => exact rfl); (case c3 => exact rfl); (case c4 => exact rfl); k_whole; intro g' L' h' tk' cells' FG' F' N' Y' B' X' T' l1; (try k_lt l1); k_cells Y'; (try simp only [List.cons_append, List.nil_append] at N'); (try dsimp only); (try k_lift B'); (try k_fold))
    have CH : CodeHd _ 41 37 := codeHd_of_K (by assumption) rfl
    k_with_none
    rename _ ∧ AllLt _ _ => hl9
    obtain ⟨hl30, hlr⟩ := hl9
    k_with "call ref" => (refine stop_here ?_)
    k_with "truthy ref" => (refine kgr_truthy (by k_asm) (by k_dflt k_mem) rfl rfl (by omega) ?_)
    k_with "call builtin:len" => (refine KM.len_K (n := ds.length) (by k_asm) (by k_dflt k_mem) (by rw [List.size_toArray]; exact hul) (by omega) ?_)
    k_steps
    · have hds0 : ds = [] := by
        have : us = [] := by simpa using (show us.isEmpty = true by assumption)
        rw [this] at hul
        exact List.length_eq_zero_iff.mp hul.symm
      subst hds0
      rename_i kF kN _ _
      refine hret _ _ _ _ ⟨_, _, [], rfl, rfl, Or.inr ⟨_, _, _, _, rfl, hc, hcd, hcq⟩, ?_⟩ kF (d2i_close_h kN)
      intro e he; cases he
    · refine Stop.mk ?_
      have hdp0 : 1 ≤ ds.length := by
        have : us ≠ [] := by
          intro h
          have h2 : us.isEmpty = false := by assumption
          rw [h] at h2
          cases h2
        have := List.length_pos_iff.mpr this
        omega
      rename News _ _ _ _ => nn9
      k_dflt (refine' ctr_call (c_inner2 n tn ds ?h1 ?h2 ?h3 ?h4 ?h5 ?h6 ?h7 ?h8 ?h9 ?h10 hus hds hlen hn hnb 41 0 ds.length _ _ ?i1 ?i2 ?i3) ?k1 ?k2 ?k3 nn9 ?k5 ?kK ?kd ?ku ?_)
      (case k1 => k_asm)
      (case k2 => k_asm)
      (case k3 => k_asm)
      (case k5 => k_asm)
      (case kK => exact rfl)
      (case kd => ktr_room)
      (case ku => ktr_units)
      (case h1 => (repeat (first | exact List.Mem.head _ | assumption | refine List.Mem.tail _ ?_)))
      (case h2 => assumption)
      (case h3 => assumption)
      (case h4 => (repeat (first | exact List.Mem.head _ | assumption | refine List.Mem.tail _ ?_)))
      (case h5 => k_asm)
      (case h6 => (repeat (first | exact List.Mem.head _ | assumption | refine List.Mem.tail _ ?_)))
      (case h7 => k_asm)
      (case h8 => (repeat (first | exact List.Mem.head _ | assumption | refine List.Mem.tail _ ?_)))
      (case h9 => k_asm)
      (case h10 => (repeat (first | exact List.Mem.head _ | assumption | refine List.Mem.tail _ ?_)))
      (case i1 => omega)
      (case i2 => omega)
      (case i3 => omega)
      clear nn9
      intro v' news' h' tk' P' F₅ N₅
      obtain ⟨⟨t', e1'⟩, e2'⟩ := P'
      subst e1'
      subst e2'
      rw [List.drop_zero, Nat.sub_zero, List.take_length]
      dsimp only
      k_steps
      rename_i kF kN _ _
      refine hret _ _ _ _ ⟨_, _, [], rfl, rfl, Or.inr ⟨_, _, _, _, rfl, hc, hcd, hcq⟩, ?_⟩ kF (d2i_close_h kN)
      intro e he; cases he
end

section
theorem noPy_bits {x y : Int} (h : Builtin.Int.intBits x ≤ Builtin.Int.intBits y + 40) : Builtin.divisionGoesByPylong x y = false := by
  unfold Builtin.divisionGoesByPylong
  unfold Builtin.Int.intBits at h
  by_cases hy : y = 0
  · subst hy; simp
  · by_cases hx : x = 0
    · subst hx; simp
    · have e1 : (x == 0) = false := by simpa using hx
      have e2 : (y == 0) = false := by simpa using hy
      simp only [e1, e2, Bool.false_eq_true, if_false] at h ⊢
      simp only [Bool.and_eq_false_iff, decide_eq_false_iff_not]
      right
      omega
def upp (n : Nat) (a : Int) (j : Nat) : Int := a / 2 ^ (n * j)
theorem upp_zero (n : Nat) (a : Int) : upp n a 0 = a := by simp [upp]
theorem upp_succ (n : Nat) (a : Int) (j : Nat) : upp n a j = upp n a (j + 1) * 2 ^ n + upp n a j % 2 ^ n := by
  have e : upp n a (j + 1) = upp n a j / 2 ^ n := by
    unfold upp
    rw [Int.ediv_ediv_of_nonneg (Int.le_of_lt (pow_pos2 _)), ← Int.pow_add, Nat.mul_add, Nat.mul_one]
  rw [e, Int.mul_comm]
  have := Int.mul_ediv_add_emod (upp n a j) (2 ^ n)
  omega
theorem upp_nonneg (n : Nat) (a : Int) (j : Nat) (ha : 0 ≤ a) : 0 ≤ upp n a j := Int.ediv_nonneg ha (Int.le_of_lt (pow_pos2 _))
theorem upp_le (n : Nat) (a : Int) (j : Nat) (ha : 0 ≤ a) : upp n a j ≤ a := Int.ediv_le_self _ ha
theorem upp_top (n : Nat) (a : Int) (cnt : Nat) (ha : 0 ≤ a) (h : a < 2 ^ (n * cnt)) : upp n a cnt = 0 := Int.ediv_eq_zero_of_lt ha h
theorem digs_get (n : Nat) : ∀ (k : Nat) (x : Int) (j : Nat), j < k → (digs n k x)[j]? = some (upp n x j % 2 ^ n)
  | 0, _, j, h => by omega
  | k + 1, x, 0, _ => by simp [digs, upp]
  | k + 1, x, j + 1, h => by
    rw [digs, List.getElem?_cons_succ, digs_get n k _ j (by omega)]
    congr 2
    unfold upp
    rw [Int.ediv_ediv_of_nonneg (Int.le_of_lt (pow_pos2 _)), ← Int.pow_add, Nat.mul_add, Nat.mul_one, Nat.add_comm]
theorem dm_step (U d b B : Int) (hU : 0 ≤ U) (hb : 0 < b) (hd : 0 ≤ d) (hdB : d < B) :
    (U * B + d) / b = U / b * B + (U % b * B + d) / b ∧ (U * B + d) % b = (U % b * B + d) % b ∧ 0 ≤ U % b * B + d ∧ U % b * B + d ≤ U * B + d ∧ (U % b * B + d) / b < B ∧ 0 ≤ (U % b * B + d) / b := by
  have e := Int.mul_ediv_add_emod U b
  have r0 := Int.emod_nonneg U (by omega : b ≠ 0)
  have r1 := Int.emod_lt_of_pos U hb
  have q0 : 0 ≤ U / b := Int.ediv_nonneg hU (by omega)
  have hB : 0 < B := by omega
  have e2 : U * B + d = (U % b * B + d) + b * (U / b * B) := by
    calc U * B + d = (b * (U / b) + U % b) * B + d := by rw [e]
      _ = _ := by rw [Int.add_mul, Int.mul_assoc]; omega
  have v0 : 0 ≤ U % b * B := Int.mul_nonneg r0 (by omega)
  have qB : 0 ≤ U / b * B := Int.mul_nonneg q0 (by omega)
  refine ⟨?_, ?_, by omega, ?_, ?_, Int.ediv_nonneg (by omega) (by omega)⟩
  · rw [e2, Int.add_mul_ediv_left _ _ (by omega)]; omega
  · rw [e2, Int.add_mul_emod_self_left]
  · have := Int.mul_nonneg (by omega : 0 ≤ b) qB
    omega
  · apply Int.ediv_lt_of_lt_mul hb
    have h1 : (U % b + 1) * B ≤ b * B := Int.mul_le_mul_of_nonneg_right (by omega) (by omega)
    rw [Int.add_mul, Int.one_mul] at h1
    rw [Int.mul_comm B b]
    omega
/-- one digit more -/
structure DmInv (n : Nat) (a b : Int) (cnt : Nat) (i : Nat) (r : Int) (qs : List Int) : Prop where
  le : i ≤ cnt
  len : qs.length = i
  rem : r = upp n a (cnt - i) % b
  quo : und n qs.reverse = upp n a (cnt - i) / b
  dig : ∀ q ∈ qs, 0 ≤ q ∧ q < 2 ^ n
theorem DmInv.start {n : Nat} {a b : Int} {cnt : Nat} (ha : 0 ≤ a) (h : a < 2 ^ (n * cnt)) : DmInv n a b cnt 0 0 [] := by
  refine ⟨Nat.zero_le _, rfl, ?_, ?_, fun _ h => nomatch h⟩
  · rw [Nat.sub_zero, upp_top n a cnt ha h]; simp
  · rw [Nat.sub_zero, upp_top n a cnt ha h]; simp [und]
theorem DmInv.step {n : Nat} {a b : Int} {cnt i : Nat} {r d : Int} {qs : List Int} (h : DmInv n a b cnt i r qs) (ha : 0 ≤ a) (hb : 0 < b) (hd : (digs n cnt a).reverse[i]? = some d) :
    (0 ≤ r ∧ r < b) ∧ 0 ≤ r * 2 ^ n + d ∧ r * 2 ^ n + d ≤ a ∧ DmInv n a b cnt (i + 1) ((r * 2 ^ n + d).fmod b) (qs ++ [(r * 2 ^ n + d).fdiv b]) := by
  have hlt : i < cnt := by
    rcases Nat.lt_or_ge i cnt with h | h
    · exact h
    · rw [List.getElem?_eq_none (by rw [List.length_reverse, digs_length]; exact h)] at hd; cases hd
  rw [List.getElem?_reverse (by rw [digs_length]; exact hlt), digs_length, digs_get n cnt a _ (by omega)] at hd
  have hd := Option.some.inj hd
  have hp := pow_pos2 n
  have d0 : 0 ≤ d := by rw [← hd]; exact Int.emod_nonneg _ (by omega)
  have d1 : d < 2 ^ n := by rw [← hd]; exact Int.emod_lt_of_pos _ hp
  have hU := upp_nonneg n a (cnt - i) ha
  have hs := upp_succ n a (cnt - 1 - i)
  rw [hd, (by omega : cnt - 1 - i + 1 = cnt - i)] at hs
  have hle := upp_le n a (cnt - 1 - i) ha
  obtain ⟨s1, s2, s3, s4, s5, s6⟩ := dm_step (upp n a (cnt - i)) d b (2 ^ n) hU hb d0 d1
  rw [← h.rem] at s1 s2 s3 s4 s5 s6
  rw [← hs] at s1 s2 s4
  rw [Int.fdiv_eq_ediv_of_nonneg _ (by omega), Int.fmod_eq_emod_of_nonneg _ (by omega)]
  refine ⟨?_, s3, by omega, ?_⟩
  · rw [h.rem]; exact ⟨Int.emod_nonneg _ (by omega), Int.emod_lt_of_pos _ hb⟩
  refine ⟨by omega, by rw [List.length_append, h.len]; rfl, ?_, ?_, ?_⟩
  · rw [← s2, (by omega : cnt - (i + 1) = cnt - 1 - i)]
  · rw [List.reverse_append, List.reverse_cons, List.reverse_nil, List.nil_append, List.cons_append, List.nil_append, und, h.quo, (by omega : cnt - (i + 1) = cnt - 1 - i), s1]
    have := Int.mul_comm (2 ^ n) (upp n a (cnt - i) / b)
    omega
  · intro q hq
    rcases List.mem_append.mp hq with hq | hq
    · exact h.dig q hq
    · rw [List.mem_singleton.mp hq]; exact ⟨s6, s5⟩
theorem DmInv.fin {n : Nat} {a b : Int} {cnt : Nat} {r : Int} {qs : List Int} (h : DmInv n a b cnt cnt r qs) : r = a % b ∧ und n qs.reverse = a / b := by
  have h1 := h.rem
  have h2 := h.quo
  rw [Nat.sub_self, upp_zero] at h1 h2
  exact ⟨h1, h2⟩
end

section
set_option maxRecDepth 100000
set_option maxHeartbeats 8000000
section
variable {prog : Program} {w : World} {A : Around} {E : Value → Shared → Prop} {s : Shared} {env : Env} {h₀ : Heap} {x : Str} {body : List Stmt} {Q : Flow → Shared → Prop}
theorem ints_get {vs : List Value} {ns : List Int} (h : IntsAre vs ns) : ∀ (i : Nat) (v : Value), vs[i]? = some v → ∃ k t, ns[i]? = some k ∧ v = .int k t := by
  intro i v hv
  have hlt : i < vs.length := by
    rcases Nat.lt_or_ge i vs.length with h | h
    · exact h
    · rw [List.getElem?_eq_none h] at hv; cases hv
  have hlt' : i < ns.length := by rw [← h.length]; exact hlt
  have hn : ns[i]? = some ns[i] := List.getElem?_eq_getElem hlt'
  obtain ⟨t, ht⟩ := h.get i _ hn
  rw [hv] at ht
  exact ⟨_, t, hn, Option.some.inj ht⟩
theorem rev_J {ax I : Addr} {vs : List Value} {ns : List Int} {nn : Nat} {m₀ : Str → Option Value} {news : Mine.Led} (J : Nat → (Str → Option Value) → Mine.Led → Prop)
    (hh : A.handled = none) (hl : (ax, listOf vs.toArray nn) ∈ news) (hlJ : ∀ i m nx, J i m nx → (ax, listOf vs.toArray nn) ∈ nx) (hi : IntsAre vs ns) (F : Fr h₀ env.locals s.heap m₀) (N : News h₀ env.locals s.heap ((I, revObj ax ((vs.length : Int) - 1)) :: news)) (hoff : ∀ p ∈ news, p.1 ≠ I) (hj : J 0 m₀ news)
    (turn : ∀ (i : Nat) (k : Int) t m₁ nx h tk it (Q1 : Flow → Shared → Prop), ns.reverse[i]? = some k → J i m₁ nx → Fr h₀ env.locals h (put x (.int k t) m₁) → News h₀ env.locals h ((I, it) :: nx) →
      (∀ h' tk' m' nx', Fr h₀ env.locals h' m' → News h₀ env.locals h' ((I, it) :: nx') → (∀ p ∈ nx', p.1 ≠ I) → J (i + 1) m' nx' → Q1 .next { s with heap := h', toks := tk' }) →
      wpAny (model prog w) A (execs body env) Q1 E { s with heap := h, toks := tk })
    (done : ∀ m₁ nx h tk, J ns.length m₁ nx → Fr h₀ env.locals h m₁ → News h₀ env.locals h nx → Q .next { s with heap := h, toks := tk }) :
    wpAny (model prog w) A (pyIter (.ref I)) (fun it s₂ => LoopAtV prog w A h₀ env x body Q E it s₂) E s := by
  have main : ∀ (r : List Value) (i : Nat) (m : Str → Option Value) (nx : Mine.Led), r = vs.reverse.drop i → i + r.length = vs.length → J i m nx → RevRest prog w A E h₀ env x body Q s I (ax, listOf vs.toArray nn) r m nx := by
    intro r
    induction r with
    | nil =>
      intro i m nx hr hlen hJ
      refine RevRest.zero fun h tk F N => ?_
      have e : i = ns.length := by rw [← hi.length]; simpa using hlen
      subst e
      exact done m nx h tk hJ F N
    | cons v r ih =>
      intro i m nx hr hlen hJ
      refine RevRest.succ fun it h tk hc F N => ?_
      have hv : vs.reverse[i]? = some v := by
        have := congrArg (fun l => l[0]?) hr
        simpa using this.symm
      have hr' : r = vs.reverse.drop (i + 1) := by
        have := congrArg List.tail hr
        simpa [List.tail_drop] using this
      rw [List.length_cons] at hlen
      obtain ⟨k, t, hk', rfl⟩ : ∃ k t, ns.reverse[i]? = some k ∧ v = .int k t := by
        have hlt : i < vs.length := by omega
        rw [List.getElem?_reverse hlt] at hv
        obtain ⟨k, t, h1, h2⟩ := ints_get hi _ _ hv
        refine ⟨k, t, ?_, h2⟩
        rw [List.getElem?_reverse (by rw [← hi.length]; exact hlt), ← hi.length]
        exact h1
      exact turn i k t m nx h tk it _ hk' hJ F N fun h' tk' m' nx' F' N' hx' hj' => ⟨h', tk', m', nx', rfl, F', N', hx', hlJ _ _ _ hj', ih (i + 1) m' nx' hr' (by omega) hj'⟩
  refine iter_revUnr hh F N ?_ hl rfl rfl (main vs.reverse 0 m₀ news (by simp) (by simp) hj)
  have : ∀ l : Mine.Led, (∀ p ∈ l, p.1 ≠ I) → OffI I (revObj ax ((vs.length : Int) - 1)) l := by
    intro l
    induction l with
    | nil => intro _; trivial
    | cons p r ih => intro h; exact ⟨Or.inl (h p (.head _)), ih fun q hq => h q (.tail _ hq)⟩
  exact this _ hoff
end
end

section
set_option maxRecDepth 100000
set_option maxHeartbeats 8000000
theorem fillDmpA : (fun (_ : OpenLaw) (_ : Params → Frag) => True) PySem.Challenge.rw_pu0053_01 hd.heap_39 := by
  k_fill
  w_top off
  trivial
abbrev qI : Str := Str.ofString "_int2digits" ++ ".<locals>." ++ "inner"
abbrev qD : Str := Str.ofString "_digits2int" ++ ".<locals>." ++ "inner"
abbrev DmPost (rest : Led) (q r : Int) : Value → Led → Prop := fun v news' =>
  ∃ D t1 t2 c ps1 ps2 ex, v = .ref D ∧ (D, tup2 q r t1 t2 c) :: (30, tabObj ps1) :: (37, tabObj ps2) :: (ex ++ rest) = news' ∧ TabSt 32 4 qI ps1 (ex ++ rest) ∧ TabSt 47 4 qD ps2 (ex ++ rest) ∧
    (∀ p ∈ rest, p.1 < D) ∧ 37 < D ∧ (∀ e ∈ ex, 37 < e.1 ∧ e.1 < D ∧ ∀ p ∈ rest, p.1 < e.1)
theorem TabSt.mono {l c : Nat} {q : Str} {ps : Array Value} {l1 l2 : Led} (h : TabSt l c q ps l1) (hs : ∀ p ∈ l1, p ∈ l2) : TabSt l c q ps l2 := by
  rcases h with h | ⟨c', oc, vs, t, h1, h2, h3, h4⟩
  · exact Or.inl h
  · exact Or.inr ⟨c', oc, vs, t, h1, hs _ h2, h3, h4⟩
theorem TabSt.drop {l c l2 c2 : Nat} {q q2 : Str} {ps ps2 : Array Value} {ex rest X : Led} {P : Addr} (h : TabSt l c q ps (ex ++ (P, tabObj ps2) :: rest)) (h2 : TabSt l2 c2 q2 ps2 X) : TabSt l c q ps (ex ++ rest) := by
  rcases h with h | ⟨c', oc, vs, t, h1, h3, h4, h5⟩
  · exact Or.inl h
  · refine Or.inr ⟨c', oc, vs, t, h1, ?_, h4, h5⟩
    rcases List.mem_append.mp h3 with h | h
    · exact List.mem_append_left _ h
    · rcases List.mem_cons.mp h with h | h
      · exfalso
        have e := congrArg Prod.snd h
        dsimp only at e
        subst e
        have e : ps2 = vs := by injection h4
        subst e
        rcases h2 with h2 | ⟨_, _, _, _, h2, _⟩
        · rw [h2] at h5; cases h5
        · rw [h2] at h5; cases h5
      · exact List.mem_append_right _ h
theorem TabSt.dropL {l c : Nat} {q : Str} {ps : Array Value} {ex rest : Led} {G : Addr} {it : Array Value} {k : Nat} (h : TabSt l c q ps (ex ++ (G, listOf it k) :: rest)) : TabSt l c q ps (ex ++ rest) := by
  rcases h with h | ⟨c', oc, vs, t, h1, h3, h4, h5⟩
  · exact Or.inl h
  · refine Or.inr ⟨c', oc, vs, t, h1, ?_, h4, h5⟩
    rcases List.mem_append.mp h3 with h | h
    · exact List.mem_append_left _ h
    · rcases List.mem_cons.mp h with h | h
      · exfalso
        have e := congrArg Prod.snd h
        dsimp only at e
        subst e
        cases h4
      · exact List.mem_append_right _ h
theorem sz41 {n : Nat} (h : n ≤ 41) : n ≤ sizeLine := Nat.le_trans h (by rw [sizeLine_eq]; decide)
theorem bits_mono {x y : Int} (h0 : 0 ≤ x) (h : x ≤ y) : Builtin.Int.intBits x ≤ Builtin.Int.intBits y := bits_lt h0 (Int.lt_of_le_of_lt h (lt_bits y (by omega)))
noncomputable def dmpF : Stmt := nthS PySem.Challenge.pw_pu0053_01.main.body 6
noncomputable abbrev dmpEnv (L : Addr) : Env := envOf (Str.ofString "_divmod_pos") (fdScope dmpF) L 49 (.ref 48)
section
variable {w : World} {Q : Flow → Shared → Prop} {K E : Value → Shared → Prop} {g : Heap} {L L0 ad : Addr} {m : Str → Option Value} {s : Shared} {R : Led} {loose : List Str} {mean : ExcName → Option Value} {mg mb : Str → Option Value}
  {dp un : Nat} {gd : Option (List Code)} {cn : Str} {cs : Scope} {ccd : Value} {cl : List (Str × Addr)} {outer : List Env} {base : Heap} {a b r d : Int} {n : Nat} {ta tb tn tr td : Tok} {ps1 ps2 : Array Value} {D G : Addr} {us qvs : List Value} {k kq : Nat} {qs ds : List Int}
theorem dmp_s0 (X : (hd.heap_39 w.params).In g) (T : Top topProg loose mean mg mb g) (hn : Builtin.Int.intBits b = n) (hm : ∀ p ∈ [(Str.ofString "b", Value.int b tb)], m p.1 = some p.2) (F : Fr g L s.heap m) (N : News g L s.heap R)
    (hQ : ∀ t h' tk', Fr g L h' (put (Str.ofString "n") (.int (n : Int) t) m) → News g L h' R → Q .next { s with heap := h', toks := tk' }) :
    wpAny (model PR w) ((ktrTop dp un gd cn cs L0 ad ccd cl outer).deeper (dmpEnv L)) (exec (nthS (fdBody dmpF) 0) (dmpEnv L)) Q E s := by
  rw [← kst_self hm] at F hQ
  subst hn
  clear hm
  dsimp only [dmpF, nthS, fdBody, PySem.Challenge.pw_pu0053_01]
  dsimp only [kstB] at F hQ
  k_with_none
  k_steps
  exact hQ _ _ _ (by assumption) (by assumption)
theorem dmp_s1 (X : (hd.heap_39 w.params).In g) (T : Top topProg loose mean mg mb g) (BB : Below (ktrTop dp un gd cn cs L0 ad ccd cl outer) base (envX cn cs L0 ad ccd cl :: outer) g) (hdp : dp + 55 < recursionLimit) (hun : un + 8 * 55 < cLine)
    (ha : 0 ≤ a) (hn1 : 1 ≤ n) (hps1 : TabSt 32 4 qI ps1 R) (hne : ∀ p ∈ R, p.1 ≠ 30) (hab : Builtin.Int.intBits a ≤ n + 40) (hnb : n ≤ 2097152)
    (hm : ∀ p ∈ [(Str.ofString "a", Value.int a ta), (Str.ofString "n", .int (n : Int) tn)], m p.1 = some p.2) (F : Fr g L s.heap m) (N : News g L s.heap ((30, tabObj ps1) :: R))
    (hQ : ∀ D us k ps1' ex h' tk', IntsAre us (digs n ((Builtin.Int.intBits a + n - 1) / n) a) → TabSt 32 4 qI ps1' (ex ++ R) → (∀ p ∈ R, p.1 < D) → 30 < D → (∀ e ∈ ex, 30 < e.1 ∧ ∀ p ∈ R, p.1 < e.1) → Fr g L h' (put (Str.ofString "a_digits") (.ref D) m) → News g L h' ((D, listOf (List.toArray us) k) :: (30, tabObj ps1') :: (ex ++ R)) → Q .next { s with heap := h', toks := tk' }) :
    wpAny (model PR w) ((ktrTop dp un gd cn cs L0 ad ccd cl outer).deeper (dmpEnv L)) (exec (nthS (fdBody dmpF) 1) (dmpEnv L)) Q E s := by
  rw [← kst_self hm] at F hQ
  clear hm
  dsimp only [dmpF, nthS, fdBody, PySem.Challenge.pw_pu0053_01]
  dsimp only [kstB] at F hQ
  k_with_none
  k_with "call ref" => (refine stop_here ?_)
  k_steps
  refine Stop.mk ?_
  rename News _ _ _ _ => nn9
  k_dflt (refine' ctr_call (c_i2d ps1 a n _ _ ha hn1 hps1 hne hab hnb) ?k1 ?k2 ?k3 nn9 ?k5 ?kK ?kd ?ku ?_)
  (case k1 => k_asm)
  (case k2 => k_asm)
  (case k3 => k_asm)
  (case k5 => k_asm)
  (case kK => exact rfl)
  (case kd => ktr_room)
  (case ku => ktr_units)
  clear nn9
  intro v' news' h' tk' P' F₅ N₅
  obtain ⟨D, us, k, ps1', ex, e1, e2, hI, hT, hD, hD3, hex⟩ := P'
  subst e1
  subst e2
  try dsimp only
  k_steps
  rename Fr _ _ _ _ => F9
  exact hQ D us k ps1' ex _ _ hI hT hD hD3 hex F9 (by assumption)
theorem dmp_s2 (X : (hd.heap_39 w.params).In g) (F : Fr g L s.heap m) (N : News g L s.heap R)
    (hQ : ∀ t h' tk', Fr g L h' (put (Str.ofString "r") (.int 0 t) m) → News g L h' R → Q .next { s with heap := h', toks := tk' }) :
    wpAny (model PR w) ((ktrTop dp un gd cn cs L0 ad ccd cl outer).deeper (dmpEnv L)) (exec (nthS (fdBody dmpF) 2) (dmpEnv L)) Q E s := by
  dsimp only [dmpF, nthS, fdBody, PySem.Challenge.pw_pu0053_01]
  k_with_none
  k_steps
  exact hQ _ _ _ (by assumption) (by assumption)
theorem dmp_s3 (X : (hd.heap_39 w.params).In g) (F : Fr g L s.heap m) (N : News g L s.heap R)
    (hQ : ∀ G h' tk', (∀ p ∈ R, p.1 < G) → Fr g L h' (put (Str.ofString "q_digits") (.ref G) m) → News g L h' ((G, listOf (List.toArray []) 0) :: R) → Q .next { s with heap := h', toks := tk' }) :
    wpAny (model PR w) ((ktrTop dp un gd cn cs L0 ad ccd cl outer).deeper (dmpEnv L)) (exec (nthS (fdBody dmpF) 3) (dmpEnv L)) Q E s := by
  dsimp only [dmpF, nthS, fdBody, PySem.Challenge.pw_pu0053_01]
  k_with_none
  k_steps
  exact hQ _ _ _ (by assumption) (by assumption) (by assumption)
noncomputable abbrev dmpL : Stmt := nthS (fdBody dmpF) 4
theorem dmp_l0 (X : (hd.heap_39 w.params).In g) (T : Top topProg loose mean mg mb g) (BB : Below (ktrTop dp un gd cn cs L0 ad ccd cl outer) base (envX cn cs L0 ad ccd cl :: outer) g) (hdp : dp + 55 < recursionLimit) (hun : un + 8 * 55 < cLine)
    (hb : b ≠ 0) (hsz : ((Builtin.Int.intBits r : Nat) : Int) + (n : Int) ≤ 2 ^ 27) (hbits : (Builtin.Int.intBits (r * 2 ^ n + d) : Int) - (n : Int) ≤ 4000) (hpy : Builtin.divisionGoesByPylong (r * 2 ^ n + d) b = false)
    (hm : ∀ p ∈ [(Str.ofString "b", Value.int b tb), (Str.ofString "n", .int (n : Int) tn), (Str.ofString "r", .int r tr), (Str.ofString "a_digit", .int d td)], m p.1 = some p.2) (F : Fr g L s.heap m) (N : News g L s.heap R)
    (hQ : ∀ t1 t2 h' tk', Fr g L h' (put (Str.ofString "r") (.int ((r * 2 ^ n + d).fmod b) t2) (put (Str.ofString "q_digit") (.int ((r * 2 ^ n + d).fdiv b) t1) m)) → News g L h' R → Q .next { s with heap := h', toks := tk' }) :
    wpAny (model PR w) ((ktrTop dp un gd cn cs L0 ad ccd cl outer).deeper (dmpEnv L)) (exec (nthS (forBody dmpL) 0) (dmpEnv L)) Q E s := by
  rw [← kst_self hm] at F hQ
  clear hm
  have en : ((n : Int)).toNat = n := Int.toNat_natCast n
  dsimp only [dmpF, dmpL, forBody, nthS, fdBody, PySem.Challenge.pw_pu0053_01]
  dsimp only [kstB] at F hQ
  k_with_none
  k_with "binaryOp LShift int int" => (refine lshift_int (by omega) (by assumption) ?_)
  k_with "call ref" => (refine stop_here ?_)
  k_steps
  refine Stop.mk ?_
  rw [en]
  rename News _ _ _ _ => nn9
  k_dflt (refine' ctr_call (c_div2n1n _ _ _ _ _ _ hb hbits hpy) ?k1 ?k2 ?k3 nn9 ?k5 ?kK ?kd ?ku ?_)
  (case k1 => k_asm)
  (case k2 => k_asm)
  (case k3 => k_asm)
  (case k5 => k_asm)
  (case kK => exact rfl)
  (case kd => ktr_room)
  (case ku => ktr_units)
  clear nn9
  intro v' news' h' tk' P' F₈ N₈
  obtain ⟨D2, t1', t2', c2', e1', e2', hlt'⟩ := P'
  subst e1'
  subst e2'
  clear hlt'
  try dsimp only
  k_steps
  rename Fr _ _ _ _ => F9
  rename News _ _ _ _ => N9
  exact hQ _ _ _ _ F9 (fun p hp => N9 p (.tail _ hp))
theorem dmp_l1 {q : Int} {tq : Tok} (X : (hd.heap_39 w.params).In g) (hqv : (List.toArray qvs).size ≤ sizeLine) (hne : ∀ p ∈ R, p.1 ≠ G)
    (hm : ∀ p ∈ [(Str.ofString "q_digits", Value.ref G), (Str.ofString "q_digit", .int q tq)], m p.1 = some p.2) (F : Fr g L s.heap m) (N : News g L s.heap ((G, listOf (List.toArray qvs) kq) :: R))
    (hQ : ∀ kq' h' tk', Fr g L h' m → News g L h' ((G, listOf (List.toArray (qvs ++ [.int q tq])) kq') :: R) → Q .next { s with heap := h', toks := tk' }) :
    wpAny (model PR w) ((ktrTop dp un gd cn cs L0 ad ccd cl outer).deeper (dmpEnv L)) (exec (nthS (forBody dmpL) 1) (dmpEnv L)) Q E s := by
  rw [← kst_self hm] at F hQ
  clear hm
  dsimp only [dmpF, dmpL, forBody, nthS, fdBody, PySem.Challenge.pw_pu0053_01]
  dsimp only [kstB] at F hQ
  k_with_none
  k_steps
  rename News _ _ _ _ => N9
  rw [List.push_toArray] at N9
  exact hQ _ _ _ (by assumption) N9
theorem dmp_s5 (X : (hd.heap_39 w.params).In g) (hqv : (List.toArray qvs).toList.length ≤ sizeLine) (hne : ∀ p ∈ R, p.1 ≠ G)
    (hm : ∀ p ∈ [(Str.ofString "q_digits", Value.ref G)], m p.1 = some p.2) (F : Fr g L s.heap m) (N : News g L s.heap ((G, listOf (List.toArray qvs) kq) :: R))
    (hQ : ∀ h' tk', Fr g L h' m → News g L h' ((G, listOf (List.toArray qvs.reverse) kq) :: R) → Q .next { s with heap := h', toks := tk' }) :
    wpAny (model PR w) ((ktrTop dp un gd cn cs L0 ad ccd cl outer).deeper (dmpEnv L)) (exec (nthS (fdBody dmpF) 5) (dmpEnv L)) Q E s := by
  rw [← kst_self hm] at F hQ
  clear hm
  dsimp only [dmpF, nthS, fdBody, PySem.Challenge.pw_pu0053_01]
  dsimp only [kstB] at F hQ
  k_with_none
  k_with "call builtin:list.reverse" => (refine stop_here ?_)
  k_steps
  refine Stop.mk ?_
  k_dflt (refine' kl_reverse (l := qvs.reverse) F N (by simp) (Upd.head hne) hqv ?_)
  intro h'' F₈ N₈
  try dsimp only
  k_steps
  exact hQ _ _ (by assumption) (by assumption)
theorem dmp_s6 (X : (hd.heap_39 w.params).In g) (T : Top topProg loose mean mg mb g) (BB : Below (ktrTop dp un gd cn cs L0 ad ccd cl outer) base (envX cn cs L0 ad ccd cl :: outer) g) (hdp : dp + 55 < recursionLimit) (hun : un + 8 * 55 < cLine)
    (hn1 : 1 ≤ n) (hps2 : TabSt 47 4 qD ps2 R) (hne : ∀ p ∈ R, p.1 ≠ 37) (hG : (G, listOf (List.toArray us) k) ∈ R) (hus : IntsAre us ds) (hds : ∀ d ∈ ds, 0 ≤ d ∧ d < 2 ^ n) (hlen : ds.length ≤ 41) (hnb : n ≤ 2097152)
    (hm : ∀ p ∈ [(Str.ofString "q_digits", Value.ref G), (Str.ofString "n", .int (n : Int) tn)], m p.1 = some p.2) (F : Fr g L s.heap m) (N : News g L s.heap ((37, tabObj ps2) :: R))
    (hQ : ∀ t ps2' ex h' tk', TabSt 47 4 qD ps2' (ex ++ R) → (∀ e ∈ ex, 37 < e.1 ∧ ∀ p ∈ R, p.1 < e.1) → Fr g L h' (put (Str.ofString "q") (.int (und n ds) t) m) → News g L h' ((37, tabObj ps2') :: (ex ++ R)) → Q .next { s with heap := h', toks := tk' }) :
    wpAny (model PR w) ((ktrTop dp un gd cn cs L0 ad ccd cl outer).deeper (dmpEnv L)) (exec (nthS (fdBody dmpF) 6) (dmpEnv L)) Q E s := by
  rw [← kst_self hm] at F hQ
  clear hm
  dsimp only [dmpF, nthS, fdBody, PySem.Challenge.pw_pu0053_01]
  dsimp only [kstB] at F hQ
  k_with_none
  k_with "call ref" => (refine stop_here ?_)
  k_steps
  refine Stop.mk ?_
  rename News _ _ _ _ => nn9
  k_dflt (refine' ctr_call (c_d2i ps2 G ds n _ hn1 hps2 hne hG hus hds hlen hnb) ?k1 ?k2 ?k3 nn9 ?k5 ?kK ?kd ?ku ?_)
  (case k1 => k_asm)
  (case k2 => k_asm)
  (case k3 => k_asm)
  (case k5 => k_asm)
  (case kK => exact rfl)
  (case kd => ktr_room)
  (case ku => ktr_units)
  clear nn9
  intro v' news' h' tk' P' F₉ N₉
  obtain ⟨t9, ps2', ex2, e1, e2, hT2, hex2⟩ := P'
  subst e1
  subst e2
  try dsimp only
  k_steps
  rename Fr _ _ _ _ => F9
  exact hQ _ _ _ _ _ hT2 hex2 F9 (by assumption)
theorem dmp_s7 {q : Int} {tq : Tok} (X : (hd.heap_39 w.params).In g) (hm : ∀ p ∈ [(Str.ofString "q", Value.int q tq), (Str.ofString "r", .int r tr)], m p.1 = some p.2) (F : Fr g L s.heap m) (N : News g L s.heap R)
    (hQ : ∀ D h' tk', (∀ p ∈ R, p.1 < D) → Fr g L h' m → News g L h' ((D, tup2 q r tq tr 0) :: R) → Q (.ret (.ref D)) { s with heap := h', toks := tk' }) :
    wpAny (model PR w) ((ktrTop dp un gd cn cs L0 ad ccd cl outer).deeper (dmpEnv L)) (execs [nthS (fdBody dmpF) 7] (dmpEnv L)) Q E s := by
  rw [← kst_self hm] at F hQ
  clear hm
  dsimp only [dmpF, nthS, fdBody, PySem.Challenge.pw_pu0053_01]
  dsimp only [kstB] at F hQ
  k_with_none
  k_steps
  exact hQ _ _ _ (by assumption) (by assumption) (by assumption)
end
end

section
set_option maxRecDepth 100000
set_option maxHeartbeats 8000000
theorem fillDmp : (fun (_ : OpenLaw) (_ : Params → Frag) => True) PySem.Challenge.rw_pu0053_01 hd.heap_39 := by
  k_fill
  w_top off
  trivial
section
variable {w : World} {Q : Flow → Shared → Prop} {K E : Value → Shared → Prop} {g : Heap} {L L0 ad : Addr} {m : Str → Option Value} {s : Shared} {R rest : Led} {loose : List Str} {mean : ExcName → Option Value} {mg mb : Str → Option Value}
  {dp un : Nat} {gd : Option (List Code)} {cn : Str} {cs : Scope} {ccd : Value} {cl : List (Str × Addr)} {outer : List Env} {base : Heap} {a b r : Int} {n : Nat} {ta tb tn tr : Tok} {ps1 ps2 : Array Value} {D G : Addr} {us : List Value} {k kq : Nat}
theorem dmp_rv (X : (hd.heap_39 w.params).In g) (T : Top topProg loose mean mg mb g) (hD : (D, listOf (List.toArray us) k) ∈ R)
    (hm : ∀ p ∈ [(Str.ofString "a_digits", Value.ref D)], m p.1 = some p.2) (F : Fr g L s.heap m) (N : News g L s.heap R)
    (hQ : ∀ I h' tk', (∀ p ∈ R, p.1 < I) → Fr g L h' m → News g L h' ((I, revObj D ((us.length : Int) - 1)) :: R) → K (.ref I) { s with heap := h', toks := tk' }) :
    wpAny (model PR w) ((ktrTop dp un gd cn cs L0 ad ccd cl outer).deeper (dmpEnv L)) (eval (forIter dmpL) (dmpEnv L)) K E s := by
  rw [← kst_self hm] at F hQ
  clear hm
  dsimp only [dmpF, dmpL, forIter, nthS, fdBody, PySem.Challenge.pw_pu0053_01]
  dsimp only [kstB] at F hQ
  k_with_none
  k_with "call type:reversed" => (k_dflt (refine krv_reversed F N ⟨_, (N _ hD).1, rfl, k, rfl⟩ ?_); intro D' h' F' N' l1)
  k_steps
  exact hQ _ _ _ (by assumption) (by assumption) (by assumption)
theorem dmp_s4 {cnt : Nat} {tr0 : Tok} {kq0 : Nat} (X : (hd.heap_39 w.params).In g) (T : Top topProg loose mean mg mb g) (BB : Below (ktrTop dp un gd cn cs L0 ad ccd cl outer) base (envX cn cs L0 ad ccd cl :: outer) g) (hPO : PassesOwn (model PR w) ((ktrTop dp un gd cn cs L0 ad ccd cl outer).deeper (dmpEnv L)) (dmpEnv L) E) (hdp : dp + 55 < recursionLimit) (hun : un + 8 * 55 < cLine)
    (ha : 0 ≤ a) (hb : 0 < b) (hbn : Builtin.Int.intBits b = n) (hab : Builtin.Int.intBits a ≤ n + 40) (hnb : n ≤ 2097152) (hc41 : cnt ≤ 41) (hac : a < 2 ^ (n * cnt)) (hI : IntsAre us (digs n cnt a)) (hD : (D, listOf (List.toArray us) k) ∈ R) (hne : ∀ p ∈ R, p.1 ≠ G)
    (h1 : m (Str.ofString "r") = some (.int 0 tr0)) (h2 : m (Str.ofString "b") = some (.int b tb)) (h3 : m (Str.ofString "n") = some (.int (n : Int) tn)) (h4 : m (Str.ofString "q_digits") = some (.ref G)) (h5 : m (Str.ofString "a_digits") = some (.ref D))
    (F : Fr g L s.heap m) (N : News g L s.heap ((G, listOf (List.toArray []) kq0) :: R))
    (hQ : ∀ qs qvs kq tr m' h' tk', DmInv n a b cnt cnt (a % b) qs → IntsAre qvs qs → m' (Str.ofString "r") = some (.int (a % b) tr) → m' (Str.ofString "n") = some (.int (n : Int) tn) → m' (Str.ofString "q_digits") = some (.ref G) → Fr g L h' m' → News g L h' ((G, listOf (List.toArray qvs) kq) :: R) → Q .next { s with heap := h', toks := tk' }) :
    wpAny (model PR w) ((ktrTop dp un gd cn cs L0 ad ccd cl outer).deeper (dmpEnv L)) (exec dmpL (dmpEnv L)) Q E s := by
  refine For_invVF (x := Str.ofString "a_digit") (iter := forIter dmpL) (body := forBody dmpL) (hE := hPO) (m := m) (show Fr g (dmpEnv L).locals s.heap m from F) rfl rfl ?_
  refine dmp_rv X T (.tail _ hD) (all1 h5) F N ?_
  clear F N
  intro I h6 tk6 hlow F N
  have hGI : G ≠ I := Nat.ne_of_lt (hlow _ (.head _))
  refine rev_J (fun i m' nx => ∃ (qs : List Int) (r : Int) (tr : Tok) (qvs : List Value) (kq : Nat), nx = (G, listOf (List.toArray qvs) kq) :: R ∧ DmInv n a b cnt i r qs ∧ IntsAre qvs qs ∧ m' (Str.ofString "r") = some (.int r tr) ∧ m' (Str.ofString "b") = some (.int b tb) ∧ m' (Str.ofString "n") = some (.int (n : Int) tn) ∧ m' (Str.ofString "q_digits") = some (.ref G)) rfl (.tail _ hD) (fun i m nx hJ => by obtain ⟨_, _, _, _, _, rfl, _⟩ := hJ; exact .tail _ hD) hI F N (fun p hp => Nat.ne_of_lt (hlow p hp)) ⟨[], 0, tr0, [], kq0, rfl, DmInv.start ha hac, IntsAre.nil, h1, h2, h3, h4⟩ ?_ ?_
  · rintro i d td m₁ nx h tk it Q1 hd ⟨qs, r, tr, qvs, kq, rfl, hinv, hqi, g1, g2, g3, g4⟩ F' N' hQ1
    clear F N hQ h1 h2 h3 h4 h5 hac
    obtain ⟨⟨hr0, hr1⟩, hh0, hha, hnext⟩ := hinv.step ha hb hd
    have hrb : Builtin.Int.intBits r ≤ n := Nat.le_trans (bits_mono hr0 (Int.le_of_lt hr1)) (Nat.le_of_eq hbn)
    have hbb := bits_mono hh0 hha
    have hql : qvs.length ≤ 41 := by rw [hqi.length, hinv.len]; exact Nat.le_trans hinv.le hc41
    change wpAny _ _ (execs [nthS (forBody dmpL) 0, nthS (forBody dmpL) 1] _) _ _ _
    refine execs_step fun Q2 hQ2 => dmp_l0 (r := r) (d := d) X T BB hdp hun (Int.ne_of_gt hb) (by omega) (by omega) (noPy_bits (by omega)) (allc ((put_ne (by decide)).trans g2) (all3 ((put_ne (by decide)).trans g3) ((put_ne (by decide)).trans g1) put_eq)) F' N' ?_
    clear F' N'
    intro t1 t2 h7 tk7 F' N'
    refine hQ2 _ ?_
    clear hQ2 Q2
    refine execs_step fun Q2 hQ2 => dmp_l1 (G := G) (R := R ++ [(I, it)]) (q := (r * 2 ^ n + d).fdiv b) (tq := t1) X ?_ ?_ (all2 ((put_ne (by decide)).trans ((put_ne (by decide)).trans ((put_ne (by decide)).trans g4))) ((put_ne (by decide)).trans put_eq)) F' (List.forall_mem_cons.mpr ⟨N' _ (.tail _ (.head _)), fun p hp => ?_⟩) ?_
    · rw [List.size_toArray]; exact sz41 hql
    · intro p hp
      rcases List.mem_append.mp hp with hp | hp
      · exact hne p hp
      · rw [List.mem_singleton.mp hp]; exact hGI.symm
    · rcases List.mem_append.mp hp with hp | hp
      · exact N' p (.tail _ (.tail _ hp))
      · rw [List.mem_singleton.mp hp]; exact N' _ (.head _)
    clear F' N'
    intro kq' h8 tk8 F' N'
    refine hQ2 _ (wpAny_execs_nil ?_)
    refine hQ1 _ _ _ ((G, listOf (List.toArray (qvs ++ [.int ((r * 2 ^ n + d).fdiv b) t1])) kq') :: R) F' (List.forall_mem_cons.mpr ⟨N' _ (.tail _ (List.mem_append_right _ (.head _))), List.forall_mem_cons.mpr ⟨N' _ (.head _), fun p hp => N' p (.tail _ (List.mem_append_left _ hp))⟩⟩) (List.forall_mem_cons.mpr ⟨hGI, fun p hp => Nat.ne_of_lt (hlow p (.tail _ hp))⟩) ⟨_, _, t2, _, _, rfl, hnext, IntsAre.append hqi (IntsAre.cons _ _ IntsAre.nil), put_eq, (put_ne (by decide)).trans ((put_ne (by decide)).trans ((put_ne (by decide)).trans g2)), (put_ne (by decide)).trans ((put_ne (by decide)).trans ((put_ne (by decide)).trans g3)), (put_ne (by decide)).trans ((put_ne (by decide)).trans ((put_ne (by decide)).trans g4))⟩
  · rintro m₁ nx h tk ⟨qs, r, tr, qvs, kq, rfl, hinv, hqi, g1, g2, g3, g4⟩ F' N'
    rw [digs_length] at hinv
    obtain ⟨hre, hqe⟩ := hinv.fin
    subst hre
    exact hQ qs qvs kq tr _ _ _ hinv hqi g1 g3 g4 F' N'
theorem news_d1 {h : Heap} {d a c : Addr × Obj} {ex : Led} (N : News g L h (d :: a :: (ex ++ c :: rest))) : News g L h (d :: a :: c :: (ex ++ rest)) :=
  List.forall_mem_cons.mpr ⟨N _ (.head _), List.forall_mem_cons.mpr ⟨N _ (.tail _ (.head _)), List.forall_mem_cons.mpr ⟨N _ (.tail _ (.tail _ (List.mem_append_right _ (.head _)))), fun p hp => by
    rcases List.mem_append.mp hp with hp | hp
    · exact N p (.tail _ (.tail _ (List.mem_append_left _ hp)))
    · exact N p (.tail _ (.tail _ (List.mem_append_right _ (.tail _ hp))))⟩⟩⟩
theorem news_d2 {h : Heap} {x y z c : Addr × Obj} (N : News g L h (x :: y :: z :: c :: R)) : News g L h (c :: x :: y :: z :: R) :=
  List.forall_mem_cons.mpr ⟨N _ (.tail _ (.tail _ (.tail _ (.head _)))), List.forall_mem_cons.mpr ⟨N _ (.head _), List.forall_mem_cons.mpr ⟨N _ (.tail _ (.head _)), List.forall_mem_cons.mpr ⟨N _ (.tail _ (.tail _ (.head _))), fun p hp => N p (.tail _ (.tail _ (.tail _ (.tail _ hp))))⟩⟩⟩⟩
theorem news_d3 {h : Heap} {d c x y z : Addr × Obj} {e2 ex : Led} (N : News g L h (d :: c :: (e2 ++ x :: y :: z :: (ex ++ rest)))) : News g L h (d :: z :: c :: ((e2 ++ ex) ++ rest)) :=
  List.forall_mem_cons.mpr ⟨N _ (.head _), List.forall_mem_cons.mpr ⟨N _ (.tail _ (.tail _ (List.mem_append_right _ (.tail _ (.tail _ (.head _)))))), List.forall_mem_cons.mpr ⟨N _ (.tail _ (.head _)), fun p hp => by
    rcases List.mem_append.mp hp with hp | hp
    · rcases List.mem_append.mp hp with hp | hp
      · exact N p (.tail _ (.tail _ (List.mem_append_left _ hp)))
      · exact N p (.tail _ (.tail _ (List.mem_append_right _ (.tail _ (.tail _ (.tail _ (List.mem_append_left _ hp)))))))
    · exact N p (.tail _ (.tail _ (List.mem_append_right _ (.tail _ (.tail _ (.tail _ (List.mem_append_right _ hp)))))))⟩⟩⟩
theorem dmp_body (X : (hd.heap_39 w.params).In g) (T : Top topProg loose mean mg mb g) (BB : Below (ktrTop dp un gd cn cs L0 ad ccd cl outer) base (envX cn cs L0 ad ccd cl :: outer) g) (hPO : PassesOwn (model PR w) ((ktrTop dp un gd cn cs L0 ad ccd cl outer).deeper (dmpEnv L)) (dmpEnv L) E) (hdp : dp + 55 < recursionLimit) (hun : un + 8 * 55 < cLine)
    (ha : 0 ≤ a) (hb : 0 < b) (hps1 : TabSt 32 4 qI ps1 rest) (hps2 : TabSt 47 4 qD ps2 rest) (hr : ∀ p ∈ rest, p.1 ≠ 30 ∧ p.1 ≠ 37) (hab : Builtin.Int.intBits a ≤ Builtin.Int.intBits b + 40) (hnb : Builtin.Int.intBits b ≤ 2097152)
    (h1 : m (Str.ofString "a") = some (.int a ta)) (h2 : m (Str.ofString "b") = some (.int b tb)) (F : Fr g L s.heap m) (N : News g L s.heap ((30, tabObj ps1) :: (37, tabObj ps2) :: rest))
    (hret : ∀ D t1 t2 c ps1 ps2 ex m' h' tk', TabSt 32 4 qI ps1 (ex ++ rest) → TabSt 47 4 qD ps2 (ex ++ rest) → (∀ p ∈ rest, p.1 < D) → 37 < D → (∀ e ∈ ex, 37 < e.1 ∧ e.1 < D ∧ ∀ p ∈ rest, p.1 < e.1) → Fr g L h' m' → News g L h' ((D, tup2 (a / b) (a % b) t1 t2 c) :: (30, tabObj ps1) :: (37, tabObj ps2) :: (ex ++ rest)) → Q (.ret (.ref D)) { s with heap := h', toks := tk' }) :
    wpAny (model PR w) ((ktrTop dp un gd cn cs L0 ad ccd cl outer).deeper (dmpEnv L)) (execs (fdBody dmpF) (dmpEnv L)) Q E s := by
  change wpAny _ _ (execs (nthS (fdBody dmpF) 0 :: nthS (fdBody dmpF) 1 :: nthS (fdBody dmpF) 2 :: nthS (fdBody dmpF) 3 :: dmpL :: nthS (fdBody dmpF) 5 :: nthS (fdBody dmpF) 6 :: [nthS (fdBody dmpF) 7]) _) _ _ _
  obtain ⟨n, hn⟩ : ∃ n, Builtin.Int.intBits b = n := ⟨_, rfl⟩
  refine execs_step fun Q1 hQ1 => dmp_s0 X T hn (all1 h2) F N ?_
  clear F N
  intro tn h3 tk3 F N
  refine hQ1 _ ?_
  clear hQ1 Q1
  have hn1 : 1 ≤ n := by
    rw [← hn]; unfold Builtin.Int.intBits
    have e' : (b == 0) = false := by simp; omega
    rw [e']; simp
  rw [hn] at hab hnb
  obtain ⟨cnt, hcnt⟩ : ∃ cnt, (Builtin.Int.intBits a + n - 1) / n = cnt := ⟨_, rfl⟩
  obtain ⟨_, hc41, hcb⟩ := cnt_facts _ n hn1 hab
  rw [hcnt] at hc41 hcb
  have hac : a < 2 ^ (n * cnt) := by
    refine Int.lt_of_lt_of_le (lt_bits a ha) ?_
    have := Nat.pow_le_pow_right (n := 2) (by decide) hcb
    exact_mod_cast this
  clear hcb
  refine execs_step fun Q1 hQ1 => dmp_s1 X T BB hdp hun ha hn1 (hps1.mono fun p hp => .tail _ hp) (List.forall_mem_cons.mpr ⟨(by decide : (37 : Nat) ≠ 30), fun p hp => (hr p hp).1⟩) hab hnb (all2 ((put_ne (by decide)).trans h1) put_eq) F N ?_
  clear F N hps1 h1
  intro D us k ps1' ex h4 tk4 hI hT hD _ hex F N
  rw [hcnt] at hI
  refine hQ1 _ ?_
  clear hQ1 Q1 hcnt
  have hT1 := TabSt.drop hT hps2
  have hD37 : @LT.lt Nat instLTNat 37 D := hD _ (.head _)
  replace hD : ∀ p ∈ rest, p.1 < D := fun p hp => hD p (.tail _ hp)
  replace hex : ∀ e ∈ ex, 37 < e.1 ∧ ∀ p ∈ rest, p.1 < e.1 := fun e he => ⟨(hex e he).2 _ (.head _), fun p hp => (hex e he).2 p (.tail _ hp)⟩
  replace N := news_d1 N
  clear hT
  refine execs_step fun Q1 hQ1 => dmp_s2 X F N ?_
  clear F N
  intro tr h5 tk5 F N
  refine hQ1 _ ?_
  clear hQ1 Q1
  refine execs_step fun Q1 hQ1 => dmp_s3 X F N ?_
  clear F N
  intro G h6 tk6 hG F N
  refine hQ1 _ ?_
  clear hQ1 Q1
  refine execs_step fun Q1 hQ1 => dmp_s4 (tb := tb) (tn := tn) X T BB hPO hdp hun ha hb hn hab hnb hc41 hac hI (.head _) (fun p hp => Nat.ne_of_lt (hG p hp)) ((put_ne (by decide)).trans put_eq) ((put_ne (by decide)).trans ((put_ne (by decide)).trans ((put_ne (by decide)).trans ((put_ne (by decide)).trans h2)))) ((put_ne (by decide)).trans ((put_ne (by decide)).trans ((put_ne (by decide)).trans put_eq))) put_eq ((put_ne (by decide)).trans ((put_ne (by decide)).trans put_eq)) F N ?_
  clear F N hI hac h2
  intro qs qvs kq tr' m' h7 tk7 hinv hqi g1 g3 g4 F N
  refine hQ1 _ ?_
  clear hQ1 Q1
  have hql : qvs.length ≤ 41 := by rw [hqi.length, hinv.len]; exact hc41
  refine execs_step fun Q1 hQ1 => dmp_s5 X (by rw [List.toList_toArray]; exact sz41 hql) (fun p hp => Nat.ne_of_lt (hG p hp)) (all1 g4) F N ?_
  clear F N
  intro h8 tk8 F N
  refine hQ1 _ ?_
  clear hQ1 Q1
  have hG37 : @LT.lt Nat instLTNat 37 G := Nat.lt_trans hD37 (hG _ (.head _))
  refine execs_step fun Q1 hQ1 => dmp_s6 (ds := qs.reverse) X T BB hdp hun hn1 (hps2.mono fun p hp => .tail _ (.tail _ (.tail _ (List.mem_append_right _ hp)))) (List.forall_mem_cons.mpr ⟨Nat.ne_of_gt hG37, List.forall_mem_cons.mpr ⟨Nat.ne_of_gt hD37, List.forall_mem_cons.mpr ⟨(by decide : (30 : Nat) ≠ 37), fun p hp => by
    rcases List.mem_append.mp hp with hp | hp
    · exact Nat.ne_of_gt (hex p hp).1
    · exact (hr p hp).2⟩⟩⟩) (.head _) hqi.reverse (fun d hd => hinv.dig d (List.mem_reverse.mp hd)) (by rw [List.length_reverse, hinv.len]; exact hc41) hnb (all2 g4 g3) F (news_d2 N) ?_
  clear F N hqi hG hr hps2
  intro tq ps2' ex2 h9 tk9 hT2 hex2 F N
  refine hQ1 _ ?_
  clear hQ1 Q1
  rw [hinv.fin.2] at F
  refine dmp_s7 X (all2 put_eq ((put_ne (by decide)).trans g1)) F N ?_
  clear F N
  intro D7 h10 tk10 hl F N
  have hT2' := TabSt.drop (TabSt.dropL (TabSt.dropL hT2)) hT1
  refine hret D7 tq tr' 0 ps1' ps2' (ex2 ++ ex) _ _ _ (hT1.mono fun p hp => ?_) (by rw [List.append_assoc]; exact hT2') (fun p hp => hl p (.tail _ (List.mem_append_right _ (.tail _ (.tail _ (.tail _ (List.mem_append_right _ hp))))))) (hl _ (.head _)) (fun e he => ?_) F (news_d3 N)
  · rw [List.append_assoc]; exact List.mem_append_right _ hp
  · rcases List.mem_append.mp he with he | he
    · exact ⟨(hex2 e he).1, hl e (.tail _ (List.mem_append_left _ he)), fun p hp => (hex2 e he).2 p (.tail _ (.tail _ (.tail _ (List.mem_append_right _ hp))))⟩
    · exact ⟨(hex e he).1, hl e (.tail _ (List.mem_append_right _ (.tail _ (.tail _ (.tail _ (List.mem_append_left _ he)))))), (hex e he).2⟩
end
theorem c_dmp {w : World} {rest : Led} (ps1 ps2 : Array Value) (a b : Int) (ta tb : Tok) (ha : 0 ≤ a) (hb : 0 < b) (hps1 : TabSt 32 4 qI ps1 rest) (hps2 : TabSt 47 4 qD ps2 rest)
   (hr : ∀ p ∈ rest, p.1 ≠ 30 ∧ p.1 ≠ 37) (hab : Builtin.Int.intBits a ≤ Builtin.Int.intBits b + 40) (hnb : Builtin.Int.intBits b ≤ 2097152) :
   Ctr w 49 [.int a ta, .int b tb] [] ((30, tabObj ps1) :: (37, tabObj ps2) :: rest) 55 (DmPost rest (a / b) (a % b)) := by
  intro loose mean mg mb dp un gd cn cs ad ccd cl outer A₀ base h₀ L m s Q E B F X N T hcs hdp hun hret
  refine wpAny_call ?_
  k_with_none
  k_dflt cell_enter
  rename_i F₁ N₁ B₁ X₁ T₁
  refine dmp_body X₁ T₁ B₁ (by passes_own) hdp hun ha hb hps1 hps2 hr hab hnb (ta := ta) (tb := tb) (by with_unfolding_all rfl) (by with_unfolding_all rfl) F₁ N₁ ?_
  clear F₁ N₁
  intro D t1 t2 c ps1' ps2' ex m' h' tk' hT1 hT2 hD hD37 hex F₁ N₁
  k_steps
  exact hret _ _ _ _ ⟨D, t1, t2, c, ps1', ps2', ex, rfl, rfl, hT1, hT2, hD, hD37, hex⟩ (by assumption) (by assumption)
end

section
set_option maxRecDepth 100000
set_option maxHeartbeats 8000000
theorem fillIdm : (fun (_ : OpenLaw) (_ : Params → Frag) => True) PySem.Challenge.rw_pu0053_01 hd.heap_39 := by
  k_fill
  w_top off
  trivial
theorem bits_abs {x y : Int} (h : x.natAbs ≤ y.natAbs) : Builtin.Int.intBits x ≤ Builtin.Int.intBits y := by
  have e : ∀ z : Int, Builtin.Int.intBits (z.natAbs : Int) = Builtin.Int.intBits z := by
    intro z
    unfold Builtin.Int.intBits
    by_cases hz : z = 0
    · subst hz; rfl
    · have e1 : (z == 0) = false := by simpa using hz
      have e2 : (((z.natAbs : Nat) : Int) == 0) = false := by simp; omega
      rw [e1, e2, Int.natAbs_natCast]
  rw [← e x, ← e y]
  exact bits_mono (Int.natCast_nonneg _) (by omega)
theorem neg_div (n b : Int) (hb : 0 < b) : (-n - 1) / b = -(n / b) - 1 ∧ (-n - 1) % b = b + (-(n % b) - 1) := by
  have e := Int.mul_ediv_add_emod n b
  have r0 := Int.emod_nonneg n (by omega : b ≠ 0)
  have r1 := Int.emod_lt_of_pos n hb
  refine (Int.ediv_emod_unique hb).mpr ⟨?_, by omega, by omega⟩
  have : b * (-(n / b) - 1) = -(b * (n / b)) - b := by rw [Int.mul_sub, Int.mul_neg, Int.mul_one]
  rw [this]
  omega
theorem fdiv_neg2 (a b : Int) (hb : b < 0) : a.fdiv b = -a / -b ∧ a.fmod b = -(-a % -b) := by
  rw [← Int.fdiv_eq_ediv_of_nonneg (-a) (by omega : 0 ≤ -b), ← Int.fmod_eq_emod_of_nonneg (-a) (by omega : 0 ≤ -b), Int.neg_fdiv_neg, Int.neg_fmod_neg, Int.neg_neg]
  exact ⟨rfl, rfl⟩
theorem news_drop2 {h₀ h : Heap} {L : Addr} {a b : Addr × Obj} {l : Led} (N : News h₀ L h (a :: b :: l)) : News h₀ L h (a :: l) := fun p hp => N p (by
  rcases List.mem_cons.mp hp with rfl | hp
  · exact .head _
  · exact .tail _ (.tail _ hp))
theorem ctr_more {w : World} {f : Addr} {vs : List Value} {kw : List (Str × Value)} {news : Led} {k k' : Nat} {Post : Value → Led → Prop} (hk : k ≤ k') (h : Ctr w f vs kw news k Post) : Ctr w f vs kw news k' Post := by
  intro loose mean mg mb dp un gd cn cs ad ccd cl outer A₀ base h₀ L m s Q E B F X N T hcs hdp hun hret
  exact h loose mean mg mb dp un gd cn cs ad ccd cl outer A₀ base h₀ L m s Q E B F X N T hcs (by omega) (by omega) hret
theorem c_idmP {w : World} {rest : Led} (ps1 ps2 : Array Value) (a b : Int) (ta tb : Tok) (ha : 0 ≤ a) (hb : 0 < b) (hps1 : TabSt 32 4 qI ps1 rest) (hps2 : TabSt 47 4 qD ps2 rest)
   (hr : ∀ p ∈ rest, p.1 ≠ 30 ∧ p.1 ≠ 37) (hab : Builtin.Int.intBits a ≤ Builtin.Int.intBits b + 40) (hnb : Builtin.Int.intBits b ≤ 2097152) :
   Ctr w 56 [.int a ta, .int b tb] [] ((30, tabObj ps1) :: (37, tabObj ps2) :: rest) 57 (DmPost rest (a / b) (a % b)) := by
  intro loose mean mg mb dp un gd cn cs ad ccd cl outer A₀ base h₀ L m s Q E B F X N T hcs hdp hun hret
  have hb1 : ¬ b = 0 := by omega
  have hb2 : ¬ b < 0 := by omega
  have ha2 : ¬ a < 0 := by omega
  refine wpAny_call ?_
  k_dflt cell_enter
  rename_i F₁ N₁ _ _ _
  k_with_none
  k_with "call ref" => (refine stop_here ?_)
  k_steps
  · exact absurd (by assumption) hb1
  refine Stop.mk ?_
  rename News _ _ _ _ => nn9
  k_dflt (refine' ctr_call (c_dmp ps1 ps2 a b _ _ ha hb hps1 hps2 hr hab hnb) ?k1 ?k2 ?k3 nn9 ?k5 ?kK ?kd ?ku ?_)
  (case k1 => k_asm)
  (case k2 => k_asm)
  (case k3 => k_asm)
  (case k5 => k_asm)
  (case kK => exact rfl)
  (case kd => ktr_room)
  (case ku => ktr_units)
  clear nn9
  intro v' news' h' tk' P' F₅ N₅
  dsimp only
  k_steps
  rename_i kF kN _ _
  exact hret _ _ _ _ P' kF kN
theorem c_idmN {w : World} {rest : Led} (ps1 ps2 : Array Value) (a b : Int) (ta tb : Tok) (ha : a < 0) (hb : 0 < b) (hps1 : TabSt 32 4 qI ps1 rest) (hps2 : TabSt 47 4 qD ps2 rest)
   (hr : ∀ p ∈ rest, p.1 ≠ 30 ∧ p.1 ≠ 37) (hab : Builtin.Int.intBits a ≤ Builtin.Int.intBits b + 40) (hnb : Builtin.Int.intBits b ≤ 2097152) :
   Ctr w 56 [.int a ta, .int b tb] [] ((30, tabObj ps1) :: (37, tabObj ps2) :: rest) 59 (DmPost rest (a / b) (a % b)) := by
  intro loose mean mg mb dp un gd cn cs ad ccd cl outer A₀ base h₀ L m s Q E B F X N T hcs hdp hun hret
  have hb1 : ¬ b = 0 := by omega
  have hb2 : ¬ b < 0 := by omega
  have hbn : Builtin.bitNot a = -a - 1 := by unfold Builtin.bitNot; omega
  refine wpAny_call ?_
  k_dflt cell_enter
  rename_i F₁ N₁ _ _ _
  k_with_none
  k_with "call ref" => (refine stop_here ?_)
  k_steps
  · exact absurd (by assumption) hb1
  refine Stop.mk ?_
  rw [hbn]
  rename News _ _ _ _ => nn9
  k_dflt (refine' ctr_call (c_idmP ps1 ps2 (-a - 1) b _ _ (by omega) hb hps1 hps2 hr (Nat.le_trans (bits_abs (by omega)) hab) hnb) ?k1 ?k2 ?k3 nn9 ?k5 ?kK ?kd ?ku ?_)
  (case k1 => k_asm)
  (case k2 => k_asm)
  (case k3 => k_asm)
  (case k5 => k_asm)
  (case kK => exact rfl)
  (case kd => ktr_room)
  (case ku => ktr_units)
  clear nn9
  intro v' news' h' tk' P' F₅ N₅
  obtain ⟨D, t1, t2, c, ps1', ps2', ex, e1, e2, hT1, hT2, hrD, hD37, hex⟩ := P'
  subst e1
  subst e2
  dsimp only

  k_steps
  have e9 := neg_div (-a - 1) b hb
  have ea : -(-a - 1) - 1 = a := by omega
  rw [ea] at e9
  have e10 : Builtin.bitNot ((-a - 1) / b) = a / b := by rw [e9.1]; unfold Builtin.bitNot; omega
  have e11 : b + Builtin.bitNot ((-a - 1) % b) = a % b := by rw [e9.2]; unfold Builtin.bitNot; omega
  rename _ ∧ _ ∧ _ ∧ AllLt _ _ => hl9
  rename_i kF kN _ _
  rw [e10, e11] at kN
  refine hret _ _ _ _ ⟨_, _, _, 0, ps1', ps2', ex, rfl, rfl, hT1, hT2, fun p hp => allLt_mem hl9.2.2.2 p (List.mem_append_right _ hp), hl9.2.2.1, fun e he => ⟨(hex e he).1, allLt_mem hl9.2.2.2 e (List.mem_append_left _ he), (hex e he).2.2⟩⟩ kF (news_drop2 kN)
theorem c_idmB {w : World} {rest : Led} (ps1 ps2 : Array Value) (a b : Int) (ta tb : Tok) (hb : b < 0) (hps1 : TabSt 32 4 qI ps1 rest) (hps2 : TabSt 47 4 qD ps2 rest)
   (hr : ∀ p ∈ rest, p.1 ≠ 30 ∧ p.1 ≠ 37) (hab : Builtin.Int.intBits a ≤ Builtin.Int.intBits b + 40) (hnb : Builtin.Int.intBits b ≤ 2097152) :
   Ctr w 56 [.int a ta, .int b tb] [] ((30, tabObj ps1) :: (37, tabObj ps2) :: rest) 61 (DmPost rest (-a / -b) (-(-a % -b))) := by
  intro loose mean mg mb dp un gd cn cs ad ccd cl outer A₀ base h₀ L m s Q E B F X N T hcs hdp hun hret
  have hb1 : ¬ b = 0 := by omega
  refine wpAny_call ?_
  k_dflt cell_enter
  rename_i F₁ N₁ _ _ _
  k_with_none
  k_with "call ref" => (refine stop_here ?_)
  k_steps
  · exact absurd (by assumption) hb1
  refine Stop.mk ?_
  rename News _ _ _ _ => nn9
  have hC : ∀ u1 u2, Ctr w 56 [.int (-a) u1, .int (-b) u2] [] ((30, tabObj ps1) :: (37, tabObj ps2) :: rest) 59 (DmPost rest (-a / -b) (-a % -b)) := by
    intro u1 u2
    have e1 : Builtin.Int.intBits (-a) ≤ Builtin.Int.intBits (-b) + 40 := Nat.le_trans (bits_abs (by omega)) (Nat.le_trans hab (Nat.add_le_add_right (bits_abs (by omega)) _))
    have e2 : Builtin.Int.intBits (-b) ≤ 2097152 := Nat.le_trans (bits_abs (by omega)) hnb
    by_cases h : 0 ≤ -a
    · exact ctr_more (by decide) (c_idmP ps1 ps2 (-a) (-b) u1 u2 h (by omega) hps1 hps2 hr e1 e2)
    · exact c_idmN ps1 ps2 (-a) (-b) u1 u2 (by omega) (by omega) hps1 hps2 hr e1 e2
  k_dflt (refine' ctr_call (hC _ _) ?k1 ?k2 ?k3 nn9 ?k5 ?kK ?kd ?ku ?_)
  (case k1 => k_asm)
  (case k2 => k_asm)
  (case k3 => k_asm)
  (case k5 => k_asm)
  (case kK => exact rfl)
  (case kd => ktr_room)
  (case ku => ktr_units)
  clear nn9
  intro v' news' h' tk' P' F₅ N₅
  obtain ⟨D, t1, t2, c, ps1', ps2', ex, e1, e2, hT1, hT2, hrD, hD37, hex⟩ := P'
  subst e1
  subst e2
  dsimp only

  k_steps
  rename _ ∧ _ ∧ _ ∧ AllLt _ _ => hl9
  rename_i kF kN _ _
  refine hret _ _ _ _ ⟨_, _, _, 0, ps1', ps2', ex, rfl, rfl, hT1, hT2, fun p hp => allLt_mem hl9.2.2.2 p (List.mem_append_right _ hp), hl9.2.2.1, fun e he => ⟨(hex e he).1, allLt_mem hl9.2.2.2 e (List.mem_append_left _ he), (hex e he).2.2⟩⟩ kF (news_drop2 kN)
theorem c_idm {w : World} {rest : Led} (ps1 ps2 : Array Value) (a b : Int) (ta tb : Tok) (hb : b ≠ 0) (hps1 : TabSt 32 4 qI ps1 rest) (hps2 : TabSt 47 4 qD ps2 rest)
   (hr : ∀ p ∈ rest, p.1 ≠ 30 ∧ p.1 ≠ 37) (hab : Builtin.Int.intBits a ≤ Builtin.Int.intBits b + 40) (hnb : Builtin.Int.intBits b ≤ 2097152) :
   Ctr w 56 [.int a ta, .int b tb] [] ((30, tabObj ps1) :: (37, tabObj ps2) :: rest) 61 (DmPost rest (a.fdiv b) (a.fmod b)) := by
  by_cases h : b < 0
  · rw [(fdiv_neg2 a b h).1, (fdiv_neg2 a b h).2]
    exact c_idmB ps1 ps2 a b ta tb h hps1 hps2 hr hab hnb
  · rw [Int.fdiv_eq_ediv_of_nonneg _ (by omega), Int.fmod_eq_emod_of_nonneg _ (by omega)]
    by_cases h2 : 0 ≤ a
    · exact ctr_more (by decide) (c_idmP ps1 ps2 a b ta tb h2 (by omega) hps1 hps2 hr hab hnb)
    · exact ctr_more (by decide) (c_idmN ps1 ps2 a b ta tb (by omega) (by omega) hps1 hps2 hr hab hnb)
end

section
set_option maxRecDepth 100000
set_option maxHeartbeats 8000000
noncomputable def lawF : Stmt := nthS PySem.Challenge.pw_pu0053_01.main.body 19
noncomputable abbrev lawEnv (L fa : Addr) : Env := envOfC (Str.ofString "law") (fdScope lawF) L fa (.ref 101)
noncomputable abbrev lawTop (L fa : Addr) : Around := callerA.deeper (lawEnv L fa)
end

section
open PySem PySem.W PyProof.Rows PySem.Spec
set_option maxRecDepth 100000
set_option maxHeartbeats 8000000
/-- no code object -/
def NotCode (o : Obj) : Prop := ∀ (vs : Array Value) (q : Str) (t : Tok), o.data = .fields vs → vs[1]? ≠ some (.str q t)
/-- a turn's end: the iterator stays, what is kept is apart from it -/
def TPost (h₀ : Heap) (L : Addr) (I : Addr) (it : Obj) (J : (Str → Option Value) → Led → Prop) (s₁ : Shared) (f : Flow) (s₂ : Shared) : Prop :=
  f = .next ∧ ∃ h' tk m' nx all, s₂ = { s₁ with heap := h', toks := tk } ∧ Fr h₀ L h' m' ∧ News h₀ L h' all ∧ (∀ p ∈ nx, p ∈ all) ∧ (I, it) ∈ all ∧ (∀ p ∈ nx, p.1 ≠ I) ∧ J m' nx
theorem TPost.intro {h₀ : Heap} {L I : Addr} {it : Obj} {J : (Str → Option Value) → Led → Prop} {s₁ : Shared} {h' : Heap} {tk : Nat} {m' : Str → Option Value} {nx all : Led}
    (F : Fr h₀ L h' m') (N : News h₀ L h' all) (hn : ∀ p ∈ nx, p ∈ all) (hi : (I, it) ∈ all) (hx : ∀ p ∈ nx, p.1 ≠ I) (hj : J m' nx) : Stop (TPost h₀ L I it J s₁ .next { s₁ with heap := h', toks := tk }) :=
  ⟨rfl, h', tk, m', nx, all, rfl, F, N, hn, hi, hx, hj⟩
section
variable {prog : Program} {w : World} {A : Around} {E : Value → Shared → Prop} {s : Shared} {env : Env} {h₀ : Heap} {body : List Stmt} {Q : Flow → Shared → Prop}
theorem TPost.toU {I : Addr} {it : Obj} {L : Addr} {own : Led} {J : (Str → Option Value) → Led → Prop} {s₁ : Shared} {f : Flow} {s₂ : Shared} (ho : ∀ p ∈ own, p = (I, it)) (h : TPost h₀ L I it J s₁ f s₂) : LoopStepU h₀ L [I] own J s₁ f s₂ := by
  obtain ⟨e, h', tk, m', nx, all, e2, F, N, hn, hi, hx, hj⟩ := h
  refine ⟨e, h', tk, m', nx, e2, F, fun p hp => ?_, fun p hp hb => hx p hp (List.mem_singleton.mp hb), hj⟩
  rcases List.mem_append.mp hp with hp | hp
  · rw [ho p hp]; exact N _ hi
  · exact N _ (hn p hp)
theorem my_rangeT {x : Str} {px : Pos} {r : Addr} {a₀ b₀ : Int} {t₀ u₀ v₀ : Tok} {n : Nat} {m₀ : Str → Option Value} {news : Led} (J : Nat → (Str → Option Value) → Led → Prop)
    (hh : A.handled = none) (hr : IsRange s.heap r a₀ b₀ 1 t₀ u₀ v₀) (hsmall : Builtin.Range.small a₀ b₀ 1 = true) (hn : Builtin.Range.rangeSize a₀ b₀ 1 = (n : Int)) (F : Fr h₀ env.locals s.heap m₀) (N : News h₀ env.locals s.heap news) (hj : J 0 m₀ news)
    (turn : ∀ (I : Addr) (i : Nat) t m₁ nx (s₁ : Shared) it, i < n → J i m₁ nx → (∀ p ∈ news, p.1 < I) → (∀ p ∈ nx, p.1 ≠ I) → NotCode it → Fr h₀ env.locals s₁.heap m₁ → News h₀ env.locals s₁.heap (nx ++ [(I, it)]) →
      wpAny (model prog w) A (assign (.Name x px) env (.int (a₀ + (i : Int)) t)) (fun _ s₃ => wpAny (model prog w) A (execs body env) (fun f s₄ => Stop (TPost h₀ env.locals I it (J (i + 1)) s₁ f s₄)) E s₃) E s₁)
    (done : ∀ m₁ nx h tk, J n m₁ nx → Fr h₀ env.locals h m₁ → News h₀ env.locals h nx → Q .next { s with heap := h, toks := tk }) :
    wpAny (model prog w) A (pyIter (.ref r)) (fun it s₂ => LoopAtT prog w A h₀ env (.Name x px) body Q E it s₂) E s := by
  refine wpAny_pyIter_range hr hsmall ?_
  have W : Walks prog w A s.heap.objs.size [s.heap.objs.size] [s.heap.objs.size] n (fun i v => i < n ∧ ∃ t, v = .int (a₀ + i * 1) t)
      (fun i h => IsRangeIter h s.heap.objs.size (a₀ + (i : Nat) * 1) ((n : Int) - (i : Nat)) 1) := (Walks.range hh _ a₀ 1 n).bound
  have hnone : h₀.get? s.heap.objs.size = none := next_is_new F
  refine ⟨_, _, _, n, _, _, m₀, news, J, rfl, W, ?_, ?_, ?_, (by show IsRangeIter _ _ _ _ _; rw [hn]; simpa using Heap.get?_push_size _ rfl), F.push _, (fun p hp => ⟨Heap.get?_push_of_some _ (N p hp).1, (N p hp).2⟩), ?_, hj, ?_, ?_⟩
  · intro hm
    exact absurd F.ns.lt ((List.mem_singleton.mp hm) ▸ Nat.lt_irrefl _)
  · intro b hb
    rw [List.mem_singleton.mp hb]; exact hnone
  · intro p hp hI
    exact absurd (Heap.lt_size (N p hp).1) ((List.mem_singleton.mp hI) ▸ Nat.lt_irrefl _)
  · intro i s' v Q' _ q
    exact wpAny_pure q
  · rintro i v m₁ nx s₁ own hi ⟨_, t, rfl⟩ hJ hoff hsub hget hall hst F₁ N₁
    have e1 : a₀ + (i : Int) * 1 = a₀ + (i : Int) := by omega
    rw [e1]
    obtain ⟨it, hit, hnc⟩ : ∃ it, s₁.heap.get? s.heap.objs.size = some it ∧ NotCode it := by
      have : IsRangeIter s₁.heap s.heap.objs.size (a₀ + ((i + 1 : Nat) : Int) * 1) ((n : Int) - ((i + 1 : Nat) : Int)) 1 := hst
      refine ⟨_, this, fun vs q t h => ?_⟩
      cases h
      simp [rawInt]
    have hown : ∀ p ∈ own, p = (s.heap.objs.size, it) := by
      intro p hp
      have h1 := List.mem_singleton.mp (hsub p hp)
      have h2 := hget p hp
      rw [h1, hit] at h2
      exact Prod.ext h1 (Option.some.inj h2).symm
    have hin : (s.heap.objs.size, it) ∈ own := hall _ (.head _) hnone _ hit
    refine wpAny_mono (turn s.heap.objs.size i t m₁ nx s₁ it hi hJ (fun p hp => Heap.lt_size (N p hp).1) (fun p hp e => hoff p hp (List.mem_singleton.mpr e)) hnc F₁ ?_) (fun _ s₃ q => wpAny_mono q (fun f s₄ q => TPost.toU hown q) fun _ _ x => x) fun _ _ x => x
    intro p hp
    rcases List.mem_append.mp hp with hp | hp
    · exact N₁ p (List.mem_append_right _ hp)
    · rw [List.mem_singleton.mp hp]; exact N₁ _ (List.mem_append_left _ hin)
  · intro h' tk m' nx F' N' _ hJ
    exact done m' nx h' tk hJ F' N'
/-- a loop over a list of ints of the call's own; what the turns keep may grow -/
theorem my_listJ {x : Str} {l : Addr} {vs : List Value} {ns : List Int} {nn : Nat} {m₀ : Str → Option Value} {news : Led} (J : Nat → (Str → Option Value) → Led → Prop)
    (hh : A.handled = none) (hl : (l, listOf vs.toArray nn) ∈ news) (hlJ : ∀ i m nx, J i m nx → (l, listOf vs.toArray nn) ∈ nx) (hi : IntsAre vs ns) (F : Fr h₀ env.locals s.heap m₀) (N : News h₀ env.locals s.heap news) (hj : J 0 m₀ news)
    (turn : ∀ (I : Addr) (i : Nat) (k : Int) t m₁ nx h tk it, ns[i]? = some k → J i m₁ nx → (∀ p ∈ news, p.1 < I) → (∀ p ∈ nx, p.1 ≠ I) → Fr h₀ env.locals h (fun y => if y = x then some (.int k t) else m₁ y) → News h₀ env.locals h (nx ++ [(I, it)]) →
      wpAny (model prog w) A (execs body env) (fun f s₄ => Stop (TPost h₀ env.locals I it (J (i + 1)) { s with heap := h, toks := tk } f s₄)) E { s with heap := h, toks := tk })
    (done : ∀ m₁ nx h tk, J ns.length m₁ nx → Fr h₀ env.locals h m₁ → News h₀ env.locals h nx → Q .next { s with heap := h, toks := tk }) :
    wpAny (model prog w) A (pyIter (.ref l)) (fun it s₂ => LoopAtV prog w A h₀ env x body Q E it s₂) E s := by
  have hol : s.heap.get? l = some (listOf vs.toArray nn) := (N _ hl).1
  have hls : s.heap.IsList l vs.toArray := ⟨_, hol, rfl, nn, rfl⟩
  have hne : l ≠ s.heap.objs.size := Nat.ne_of_lt (Heap.lt_size hol)
  have hnone : h₀.get? s.heap.objs.size = none := next_is_new F
  refine wpAny_pyIter_list hls ?_
  have W := Walks.list (prog := prog) (w := w) hh s.heap.objs.size l hne vs.toArray
  have hlen : vs.toArray.size = ns.length := by simp [hi.length]
  rw [hlen] at W
  refine ⟨_, _, _, ns.length, _, _, m₀, news, J, rfl, W, ?_, ?_, ?_, ⟨⟨_, Heap.get?_push_size _ rfl, rfl, rfl⟩, hls.at fun o e => Heap.get?_push_of_some _ e⟩, F.push _, (fun p hp => ⟨Heap.get?_push_of_some _ (N p hp).1, (N p hp).2⟩), hj, ?_, ?_⟩
  · intro hm
    rcases List.mem_cons.mp hm with e | hm
    · exact absurd F.ns.lt (e ▸ Nat.lt_irrefl _)
    · exact (N _ hl).2.1 ((List.mem_singleton.mp hm).symm)
  · intro b hb
    rw [List.mem_singleton.mp hb]; exact hnone
  · intro p hp hI
    exact absurd (Heap.lt_size (N p hp).1) ((List.mem_singleton.mp hI) ▸ Nat.lt_irrefl _)
  · rintro i v m₁ nx s₁ own ⟨hh', tk', rfl⟩ hin hP hJ hoff hown hget hfp hst F₁ N₁
    have hlt' : i < ns.length := hin
    obtain ⟨t, hx⟩ := hi.get i ns[i] (by simp [hlt'])
    have hv : v = .int ns[i] t := by
      have hP' : vs[i]? = some v := by simpa using hP
      rw [hx] at hP'; exact (Option.some.inj hP').symm
    subst hv
    have hl₁ := hlJ _ _ _ hJ
    have hlo : hh'.get? l = some (listOf vs.toArray nn) := (N₁ _ (List.mem_append.mpr (.inr hl₁))).1
    obtain ⟨it, hit⟩ : ∃ it, hh'.get? s.heap.objs.size = some it := ⟨_, hst.1.choose_spec.1⟩
    have hmem : (s.heap.objs.size, it) ∈ own := hfp _ (.head _) hnone _ hit
    refine wpAny_mono (turn s.heap.objs.size i ns[i] t m₁ nx hh' tk' it (by simp [hlt']) hJ (fun p hp => Heap.lt_size (N p hp).1) (fun p hp e => hoff p hp (List.mem_singleton.mpr e)) F₁ ?_) (fun f s₂ q => ?_) fun _ _ e => e
    · intro p hp
      rcases List.mem_append.mp hp with hp | hp
      · exact N₁ p (List.mem_append_right _ hp)
      · rw [List.mem_singleton.mp hp]; exact N₁ _ (List.mem_append_left _ hmem)
    · obtain ⟨rfl, h', tk, m', nx', all, e2, F', N', hn, hi', hx', hj'⟩ := q
      refine .next ⟨rfl, h', tk, m', nx', e2, F', fun p hp => ?_, fun p hp hb => hx' p hp (List.mem_singleton.mp hb), hj'⟩
      rcases List.mem_append.mp hp with hp | hp
      · have h2 := hget p hp
        rcases List.mem_cons.mp (hown p hp) with h1 | h1
        · have e : p = (s.heap.objs.size, it) := by
            rw [h1, show ({ s with heap := hh', toks := tk' } : Shared).heap.get? s.heap.objs.size = some it from hit] at h2
            exact Prod.ext h1 (Option.some.inj h2).symm
          rw [e]; exact N' _ hi'
        · have h1 := List.mem_singleton.mp h1
          have e : p = (l, listOf vs.toArray nn) := by
            rw [h1, show ({ s with heap := hh', toks := tk' } : Shared).heap.get? l = _ from hlo] at h2
            exact Prod.ext h1 (Option.some.inj h2).symm
          rw [e]; exact N' _ (hn _ (hlJ _ _ _ hj'))
      · exact N' _ (hn p hp)
  · intro h' tk m' nx F' N' _ hJ
    exact done m' nx h' tk hJ F' N'
/-- the same with any target, the items any values; the turns go on -/
theorem my_listT {es : List Expr} {ne : Nat} {pe : Pos} {l : Addr} {vs : List Value} {nn : Nat} {m₀ : Str → Option Value} {news : Led} (J : Nat → (Str → Option Value) → Led → Prop)
    (hh : A.handled = none) (hl : (l, listOf vs.toArray nn) ∈ news) (hlJ : ∀ i m nx, J i m nx → (l, listOf vs.toArray nn) ∈ nx) (F : Fr h₀ env.locals s.heap m₀) (N : News h₀ env.locals s.heap news) (hj : J 0 m₀ news)
    (turn : ∀ (I : Addr) (i : Nat) (v : Value) m₁ nx (s₁ : Shared) it, vs[i]? = some v → J i m₁ nx → (∀ p ∈ news, p.1 < I) → (∀ p ∈ nx, p.1 ≠ I) → Fr h₀ env.locals s₁.heap m₁ → News h₀ env.locals s₁.heap (nx ++ [(I, it)]) →
      wpAny (model prog w) A (assign (.Tuple es ne pe) env v) (fun _ s₃ => wpAny (model prog w) A (execs body env) (fun f s₄ => Stop (TPost h₀ env.locals I it (J (i + 1)) s₁ f s₄)) E s₃) E s₁)
    (done : ∀ m₁ nx h tk, J vs.length m₁ nx → Fr h₀ env.locals h m₁ → News h₀ env.locals h nx → Q .next { s with heap := h, toks := tk }) :
    wpAny (model prog w) A (pyIter (.ref l)) (fun it s₂ => LoopAtT prog w A h₀ env (.Tuple es ne pe) body Q E it s₂) E s := by
  have hol : s.heap.get? l = some (listOf vs.toArray nn) := (N _ hl).1
  have hls : s.heap.IsList l vs.toArray := ⟨_, hol, rfl, nn, rfl⟩
  have hne : l ≠ s.heap.objs.size := Nat.ne_of_lt (Heap.lt_size hol)
  have hnone : h₀.get? s.heap.objs.size = none := next_is_new F
  refine wpAny_pyIter_list hls ?_
  have W := Walks.list (prog := prog) (w := w) hh s.heap.objs.size l hne vs.toArray
  have hlen : vs.toArray.size = vs.length := by simp
  rw [hlen] at W
  refine ⟨_, _, _, vs.length, _, _, m₀, news, J, rfl, W, ?_, ?_, ?_, ⟨⟨_, Heap.get?_push_size _ rfl, rfl, rfl⟩, hls.at fun o e => Heap.get?_push_of_some _ e⟩, F.push _, (fun p hp => ⟨Heap.get?_push_of_some _ (N p hp).1, (N p hp).2⟩), (fun i s' v Q' st hQ' => letGo_listiter st.1 hQ'), hj, ?_, ?_⟩
  · intro hm
    rcases List.mem_cons.mp hm with e | hm
    · exact absurd F.ns.lt (e ▸ Nat.lt_irrefl _)
    · exact (N _ hl).2.1 ((List.mem_singleton.mp hm).symm)
  · intro b hb
    rw [List.mem_singleton.mp hb]; exact hnone
  · intro p hp hI
    exact absurd (Heap.lt_size (N p hp).1) ((List.mem_singleton.mp hI) ▸ Nat.lt_irrefl _)
  · rintro i v m₁ nx s₁ own hin hP hJ hoff hown hget hfp hst F₁ N₁
    have hP' : vs[i]? = some v := by simpa using hP
    have hl₁ := hlJ _ _ _ hJ
    have hlo : s₁.heap.get? l = some (listOf vs.toArray nn) := (N₁ _ (List.mem_append.mpr (.inr hl₁))).1
    obtain ⟨it, hit⟩ : ∃ it, s₁.heap.get? s.heap.objs.size = some it := ⟨_, hst.1.choose_spec.1⟩
    have hmem : (s.heap.objs.size, it) ∈ own := hfp _ (.head _) hnone _ hit
    refine wpAny_mono (turn s.heap.objs.size i v m₁ nx s₁ it hP' hJ (fun p hp => Heap.lt_size (N p hp).1) (fun p hp e => hoff p hp (List.mem_singleton.mpr e)) F₁ ?_) (fun _ s₃ q => wpAny_mono q (fun f s₂ q => ?_) fun _ _ e => e) fun _ _ e => e
    · intro p hp
      rcases List.mem_append.mp hp with hp | hp
      · exact N₁ p (List.mem_append_right _ hp)
      · rw [List.mem_singleton.mp hp]; exact N₁ _ (List.mem_append_left _ hmem)
    · obtain ⟨rfl, h', tk, m', nx', all, e2, F', N', hn, hi', hx', hj'⟩ := q
      refine ⟨rfl, h', tk, m', nx', e2, F', fun p hp => ?_, fun p hp hb => hx' p hp (List.mem_singleton.mp hb), hj'⟩
      rcases List.mem_append.mp hp with hp | hp
      · have h2 := hget p hp
        rcases List.mem_cons.mp (hown p hp) with h1 | h1
        · have e : p = (s.heap.objs.size, it) := by
            rw [h1, hit] at h2
            exact Prod.ext h1 (Option.some.inj h2).symm
          rw [e]; exact N' _ hi'
        · have h1 := List.mem_singleton.mp h1
          have e : p = (l, listOf vs.toArray nn) := by
            rw [h1, hlo] at h2
            exact Prod.ext h1 (Option.some.inj h2).symm
          rw [e]; exact N' _ (hn _ (hlJ _ _ _ hj'))
      · exact N' _ (hn p hp)
  · intro h' tk m' nx F' N' _ hJ
    exact done m' nx h' tk hJ F' N'
end
end

section
theorem wpAny_cut {α : Type} {M : Model} {A : Around} {t : Sem α} {Q : α → Shared → Prop} {E : Value → Shared → Prop} {s : Shared} (Mid : Shared → Prop) (h1 : wpAny M A t (fun _ s' => Stop (Mid s')) E s) (h2 : ∀ v s', Mid s' → Q v s') : wpAny M A t Q E s :=
  wpAny_mono h1 (fun v s' q => h2 v s' q) fun _ _ x => x
theorem wpAny_cutV {α : Type} {M : Model} {A : Around} {t : Sem α} {Q : α → Shared → Prop} {E : Value → Shared → Prop} {s : Shared} (Mid : α → Shared → Prop) (h1 : wpAny M A t (fun v s' => Stop (Mid v s')) E s) (h2 : ∀ v s', Mid v s' → Q v s') : wpAny M A t Q E s :=
  wpAny_mono h1 (fun v s' q => h2 v s' q) fun _ _ x => x
theorem isList_of {g h : Heap} {L D : Addr} {xs : Array Value} {k : Nat} {news : Led} (N : News g L h news) (hm : (D, listOf xs k) ∈ news) : h.IsList D xs := ⟨_, (N _ hm).1, rfl, k, rfl⟩
def AllGt (d : Nat) (l : Led) : Prop := ∀ p ∈ l, @LT.lt Nat instLTNat d p.1
theorem allGt_ne {d a : Nat} {l : Led} (h : AllGt d l) (hd : a ≤ d) : ∀ p ∈ l, p.1 ≠ a := fun p hp => Nat.ne_of_gt (Nat.lt_of_le_of_lt hd (h p hp))
/-- the wide ones of a row -/
def wds (r x y h : Int) : List Int :=
  (rangeKs (-r - 1 - x.fmod 3) (r + 2 + x.fmod 3).toNat).drop (1 + x.fmod 3 + (if h < 0 then -h else 0)).toNat ++ ((rangeKs 0 (r + 2 + y.fmod 3).toNat).take (r + 1 - (if h < 0 then 0 else h)).toNat).drop 1
def col (r n x y h w : Int) : Int := ((x + (3 * r + 2) * (y + h)) % n + w) % n
def colsRow (r n x y h : Int) : List Int := (wds r x y h).map (col r n x y h)
def prsOf (r n x y h : Int) (ws : List Int) : List (Int × Int) := (ws.filter fun w => col r n x y h w == 0).map fun w => (x + w, y + h)
def colsUp (r n x y : Int) (i : Nat) : List Int := (List.range i).flatMap fun (k : Nat) => colsRow r n x y (-r + (k : Int))
def prsUp (r n x y : Int) (i : Nat) : List (Int × Int) := (List.range i).flatMap fun (k : Nat) => prsOf r n x y (-r + (k : Int)) (wds r x y (-r + (k : Int)))
theorem colsUp_succ (r n x y : Int) (i : Nat) : colsUp r n x y (i + 1) = colsUp r n x y i ++ colsRow r n x y (-r + (i : Int)) := by
  simp [colsUp, List.range_succ]
theorem prsUp_succ (r n x y : Int) (i : Nat) : prsUp r n x y (i + 1) = prsUp r n x y i ++ prsOf r n x y (-r + (i : Int)) (wds r x y (-r + (i : Int))) := by
  simp [prsUp, List.range_succ]
theorem wds_eq {r x y h : Int} {pf pe : Nat} (hpf : (1 + x.fmod 3 + (if h < 0 then -h else 0)).toNat = pf) (hpe : (r + 1 - (if h < 0 then 0 else h)).toNat = pe) (hle : pe ≤ (rangeKs 0 (r + 2 + y.fmod 3).toNat).length) :
    (rangeKs (-r - 1 - x.fmod 3) (r + 2 + x.fmod 3).toNat).drop ((pf : Int)).toNat ++ ((rangeKs 0 (r + 2 + y.fmod 3).toNat).drop (Int.toNat 1)).take (min ((pe : Int)).toNat (rangeKs 0 (r + 2 + y.fmod 3).toNat).length - Int.toNat 1) = wds r x y h := by
  unfold wds
  rw [hpf, hpe, Int.toNat_natCast, Int.toNat_natCast, Nat.min_eq_left hle, List.drop_take]
  rfl
theorem news_dropTT {g h : Heap} {L : Addr} {a b c : Addr × Obj} {l : Led} (N : News g L h (a :: b :: c :: l)) : News g L h (a :: l) := fun p hp => N p (by
  rcases List.mem_cons.mp hp with rfl | hp
  · exact .head _
  · exact .tail _ (.tail _ (.tail _ hp)))
abbrev psT (D Ln Lc Dh Db : Addr) (sg S n : Int) (tG tS tn : Tok) : List (Str × Value) := [(Str.ofString "told", .ref D), (Str.ofString "sign", .int sg tG), (Str.ofString "nought", .ref Ln), (Str.ofString "colours", .ref Lc), (Str.ofString "behind", .ref Dh), (Str.ofString "before", .ref Db), (Str.ofString "scale", .int S tS), (Str.ofString "count", .int n tn)]
/-- a division that comes out -/
structure FDivIs (a b c : Int) : Prop where
  ne : b ≠ 0
  py : Builtin.divisionGoesByPylong a b = false
  val : a.fdiv b = c
theorem floordiv_L {prog : Program} {w : World} {A : Around} {E : Value → Shared → Prop} {s : Shared} {a b c : Int} {t u : Tok} {Q : Value → Shared → Prop} (hd : FDivIs a b c) (h : Q (.int c s.toks) { s with toks := s.toks + 1 }) : wpAny (model prog w) A (binaryOp .FloorDiv (.int a t) (.int b u)) Q E s :=
  PyProof.Rows.floordiv_int hd.ne (by rw [hd.val]; exact h) (Or.inl hd.py)
/-- a list of pairs, each a list of the call's own -/
def PairsAre (ex : Led) : List Value → List (Int × Int) → Prop
  | [], [] => True
  | v :: vs, p :: ps => (∃ (P : Addr) (t1 t2 : Tok) (k : Nat), v = .ref P ∧ (P, listOf #[.int p.1 t1, .int p.2 t2] k) ∈ ex) ∧ PairsAre ex vs ps
  | _, _ => False
theorem PairsAre.mono {ex ex' : Led} (h : ∀ p ∈ ex, p ∈ ex') : ∀ {vs : List Value} {ps : List (Int × Int)}, PairsAre ex vs ps → PairsAre ex' vs ps
  | [], [], _ => trivial
  | _ :: _, _ :: _, ⟨⟨P, t1, t2, k, e, hm⟩, r⟩ => ⟨⟨P, t1, t2, k, e, h _ hm⟩, PairsAre.mono h r⟩
  | [], _ :: _, x => x
  | _ :: _, [], x => x
theorem PairsAre.snoc {ex : Led} {v : Value} {p : Int × Int} (h : ∃ (P : Addr) (t1 t2 : Tok) (k : Nat), v = .ref P ∧ (P, listOf #[.int p.1 t1, .int p.2 t2] k) ∈ ex) : ∀ {vs : List Value} {ps : List (Int × Int)}, PairsAre ex vs ps → PairsAre ex (vs ++ [v]) (ps ++ [p])
  | [], [], _ => ⟨h, trivial⟩
  | _ :: _, _ :: _, ⟨a, r⟩ => ⟨a, PairsAre.snoc h r⟩
  | [], _ :: _, x => x.elim
  | _ :: _, [], x => x.elim
theorem PairsAre.length {ex : Led} : ∀ {vs : List Value} {ps : List (Int × Int)}, PairsAre ex vs ps → vs.length = ps.length
  | [], [], _ => rfl
  | _ :: _, _ :: _, ⟨_, r⟩ => by simp [PairsAre.length r]
  | [], _ :: _, x => x.elim
  | _ :: _, [], x => x.elim
/-- what stands between two turns -/
structure LSt where
  cs : List Int
  vc : List Value
  kc : Nat
  prs : List (Int × Int)
  vn : List Value
  kn : Nat
  oh : Obj
  ps1 : Array Value
  ps2 : Array Value
  ps3 : Array Value
  ex : Led
abbrev lamQ : Str := Str.ofString "law" ++ ".<locals>." ++ "<lambda>"
def Tab3 (ps : Array Value) (l : Led) : Prop := ps = #[] ∨ ∃ k1 o1 v1 t1 k2 o2 v2 t2, ps = #[rawInt 181, rawInt 52, .ref k1, rawInt 182, rawInt 50, .ref k2] ∧ (k1, o1) ∈ l ∧ o1.data = .fields v1 ∧ v1[1]? = some (.str lamQ t1) ∧ (k2, o2) ∈ l ∧ o2.data = .fields v2 ∧ v2[1]? = some (.str lamQ t2)
abbrev cellsL (L : Addr) (oy ox oR oh : Obj) (l : Led) : Led := (L + 1 + 1 + 1 + 1, oy) :: (L + 1 + 1 + 1, ox) :: (L + 1 + 1, oR) :: (L + 1, oh) :: l
abbrev ledL (Ln Lc Dh Db L : Addr) (vh vb : List Value) (ch cb : Nat) (oy ox oR : Obj) (c : LSt) : Led :=
  (Ln, listOf (List.toArray c.vn) c.kn) :: (Lc, listOf (List.toArray c.vc) c.kc) :: (Dh, listOf (List.toArray vh) ch) :: (Db, listOf (List.toArray vb) cb) :: cellsL L oy ox oR c.oh ((37, tabObj c.ps2) :: (30, tabObj c.ps1) :: (97, tabObj c.ps3) :: c.ex)
abbrev ledH (Ln Lc Dh Db L : Addr) (vn vc vh vb : List Value) (kn kc ch cb : Nat) (oy ox oR oh : Obj) (ps2 ps1 ps3 : Array Value) : Led :=
  [(Ln, listOf (List.toArray vn) kn), (Lc, listOf (List.toArray vc) kc), (Dh, listOf (List.toArray vh) ch), (Db, listOf (List.toArray vb) cb), (L + 1 + 1 + 1 + 1, oy), (L + 1 + 1 + 1, ox), (L + 1 + 1, oR), (L + 1, oh), (37, tabObj ps2), (30, tabObj ps1), (97, tabObj ps3)]
theorem news_move {g h : Heap} {L : Addr} {f a : Addr × Obj} {l t : Led} (N : News g L h (f :: a :: (l ++ t))) : News g L h (l ++ (a :: t)) := fun p hp => N p (by
  rcases List.mem_append.mp hp with hp | hp
  · exact .tail _ (.tail _ (List.mem_append_left _ hp))
  · rcases List.mem_cons.mp hp with rfl | hp
    · exact .tail _ (.head _)
    · exact .tail _ (.tail _ (List.mem_append_right _ hp)))
abbrev ledQ (Ln Lc Dh Db L : Addr) (vn vc vh vb : List Value) (kn kc ch cb : Nat) (oy ox oR oh : Obj) : Led :=
  [(Ln, listOf (List.toArray vn) kn), (Lc, listOf (List.toArray vc) kc), (Dh, listOf (List.toArray vh) ch), (Db, listOf (List.toArray vb) cb), (L + 1 + 1 + 1 + 1, oy), (L + 1 + 1 + 1, ox), (L + 1 + 1, oR), (L + 1, oh)]
theorem news_pull {g h : Heap} {L : Addr} {a b : Addr × Obj} {l t : Led} (N : News g L h (l ++ (a :: b :: t))) : News g L h (b :: a :: (l ++ t)) := fun p hp => N p (by
  simp only [List.mem_cons, List.mem_append] at hp ⊢
  rcases hp with h | h | h | h <;> simp [h])
theorem news_push {g h : Heap} {L : Addr} {d a b c : Addr × Obj} {x l e i : Led} (N : News g L h (d :: b :: a :: (x ++ (l ++ (c :: (e ++ i)))))) : News g L h (d :: (l ++ (a :: b :: c :: ((x ++ e) ++ i)))) := fun p hp => N p (by
  simp only [List.mem_cons, List.mem_append] at hp ⊢
  rcases hp with h | h | h | h | h | (h | h) | h <;> simp [h])
theorem news_push0 {g h : Heap} {L : Addr} {d a b c : Addr × Obj} {x l e : Led} (N : News g L h (d :: b :: a :: (x ++ (l ++ (c :: e))))) : News g L h (l ++ (a :: b :: c :: (x ++ e))) := fun p hp => N p (by
  simp only [List.mem_cons, List.mem_append] at hp ⊢
  rcases hp with h | h | h | h | h | h <;> simp [h])
theorem news_tail {g h : Heap} {L : Addr} {f : Addr × Obj} {l : Led} (N : News g L h (f :: l)) : News g L h l := fun p hp => N p (.tail _ hp)
/-- the law's table with the first lambda in it -/
def TabA (ps : Array Value) (l : Led) : Prop := (∃ k1 o1 v1 t1, ps = #[rawInt 181, rawInt 52, .ref k1] ∧ (k1, o1) ∈ l ∧ o1.data = .fields v1 ∧ v1[1]? = some (.str lamQ t1)) ∨ ∃ k1 o1 v1 t1 k2 o2 v2 t2, ps = #[rawInt 181, rawInt 52, .ref k1, rawInt 182, rawInt 50, .ref k2] ∧ (k1, o1) ∈ l ∧ o1.data = .fields v1 ∧ v1[1]? = some (.str lamQ t1) ∧ (k2, o2) ∈ l ∧ o2.data = .fields v2 ∧ v2[1]? = some (.str lamQ t2)
def Tab3F (ps : Array Value) (l : Led) : Prop := ∃ k1 o1 v1 t1 k2 o2 v2 t2, ps = #[rawInt 181, rawInt 52, .ref k1, rawInt 182, rawInt 50, .ref k2] ∧ (k1, o1) ∈ l ∧ o1.data = .fields v1 ∧ v1[1]? = some (.str lamQ t1) ∧ (k2, o2) ∈ l ∧ o2.data = .fields v2 ∧ v2[1]? = some (.str lamQ t2)
theorem TabSt.only {l c : Nat} {q : Str} {ps : Array Value} {l1 l2 : Led} (h : TabSt l c q ps l1) (hs : ∀ p ∈ l1, p ∈ l2 ∨ NotCode p.2) : TabSt l c q ps l2 := by
  rcases h with h | ⟨c', oc, vs, t, h1, h2, h3, h4⟩
  · exact Or.inl h
  · rcases hs _ h2 with h5 | h5
    · exact Or.inr ⟨c', oc, vs, t, h1, h5, h3, h4⟩
    · exact absurd h4 (h5 vs q t h3)
theorem nc_list (xs : Array Value) (k : Nat) : NotCode (listOf xs k) := fun vs q t h => by cases h
theorem nc_cell {o : Obj} {v : Option Value} (h : o.data = .cell v) : NotCode o := fun vs q t e => by rw [h] at e; cases e
theorem nc_tab3 {ps : Array Value} {l : Led} (h : Tab3F ps l) : NotCode (tabObj ps) := fun vs q t e => by
  obtain ⟨k1, _, _, _, k2, _, _, _, rfl, _⟩ := h
  have e' : #[rawInt 181, rawInt 52, .ref k1, rawInt 182, rawInt 50, .ref k2] = vs := by injection e
  rw [← e']
  simp [rawInt]
theorem nc_tab3' {ps : Array Value} {l : Led} (h : Tab3 ps l) : NotCode (tabObj ps) := by
  rcases h with rfl | h
  · intro vs q t e
    have e' : #[] = vs := by injection e
    rw [← e']
    simp
  · exact nc_tab3 h
theorem Tab3.mono {ps : Array Value} {l l' : Led} (h : Tab3 ps l) (hs : ∀ p ∈ l, p ∈ l') : Tab3 ps l' := by
  rcases h with rfl | ⟨k1, o1, v1, t1, k2, o2, v2, t2, e9, hk1, hd1, hv1, hk2, hd2, hv2⟩
  · exact Or.inl rfl
  · exact Or.inr ⟨k1, o1, v1, t1, k2, o2, v2, t2, e9, hs _ hk1, hd1, hv1, hs _ hk2, hd2, hv2⟩
structure LOk (Ln : Addr) (r n x y : Int) (i : Nat) (c : LSt) : Prop where
  ci : IntsAre c.vc c.cs
  cc : c.cs = colsUp r n x y i
  pi : PairsAre c.ex c.vn c.prs
  pc : c.prs = prsUp r n x y i
  oh : ∃ v, c.oh.data = .cell v
  t1 : TabSt 32 4 qI c.ps1 c.ex
  t2 : TabSt 47 4 qD c.ps2 c.ex
  t3 : Tab3 c.ps3 c.ex
  up : ∀ e ∈ c.ex, @LT.lt Nat instLTNat Ln e.1
abbrev psL (Ln Lc Dh Db : Addr) (S n : Int) (tS tn : Tok) : List (Str × Value) := [(Str.ofString "nought", .ref Ln), (Str.ofString "colours", .ref Lc), (Str.ofString "behind", .ref Dh), (Str.ofString "before", .ref Db), (Str.ofString "scale", .int S tS), (Str.ofString "count", .int n tn)]
end

section
set_option maxRecDepth 100000
set_option maxHeartbeats 8000000
theorem fillLam : (fun (_ : OpenLaw) (_ : Params → Frag) => True) PySem.Challenge.rw_pu0053_01 hd.heap_39 := by
  k_fill
  w_top off
  trivial
def asgV : Stmt → Expr
  | .Assign _ v .. => v
  | _ => .Constant .none 0 ⟨0, 0, 0, 0⟩
def callK : Expr → Expr
  | .Call _ _ (k :: _) _ => k.value
  | e => e
def lamArgs : Expr → Arguments
  | .Lambda a _ _ _ => a
  | _ => ⟨[], [], none, [], [], none, []⟩
def lamBody : Expr → Expr
  | .Lambda _ b _ _ => b
  | e => e
def lamScope : Expr → Scope
  | .Lambda _ _ s _ => s
  | _ => default
noncomputable def lam (k : Nat) : Expr := callK (asgV (nthS (forBody (nthS (fdBody lawF) 8)) k))

theorem c_lam1 {w : World} {f c' a1 a2 a3 a4 : Addr} {pm ctv : Value} {oy ox oR oh oc : Obj} {cvs : Array Value} {q : Str} {qt tx ty tr th : Tok} {x y r hg : Int} {news : Led}
    (hf : (f, kla_obj (Str.ofString "<lambda>") q (lamArgs (lam 0)) (lamBody (lam 0)) (lamScope (lam 0)) [(Str.ofString "y", a4), (Str.ofString "x", a3), (Str.ofString "reach", a2), (Str.ofString "high", a1)] pm c' ctv) ∈ news)
    (hoc : (c', oc) ∈ news) (hocd : oc.data = .fields cvs) (hocq : cvs[1]? = some (.str q qt))
    (hy : (a4, oy) ∈ news) (dy : oy.data = .cell (some (.int y ty))) (hx : (a3, ox) ∈ news) (dx : ox.data = .cell (some (.int x tx))) (hR : (a2, oR) ∈ news) (dR : oR.data = .cell (some (.int r tr))) (hH : (a1, oh) ∈ news) (dh : oh.data = .cell (some (.int hg th)))
    (hr1 : 1 ≤ r) (hr3 : r ≤ 3) (wd : Int) (t : Tok) (hw : 0 ≤ 2 * r + 1 + x.fmod 3 + wd) (hw7 : wd ≤ 7) (hh : 0 ≤ 2 * r + 1 + y.fmod 3 + hg) (hh7 : hg ≤ 7) :
    Ctr w f [.int wd t] [] news 10 (IntBack news (-(tv wd hg (2 * r)))) := by
  intro loose mean mg mb dp un gd cn cs ad ccd cl outer A₀ base h₀ L m s Q E B F X N T hcs hdp hun hret
  dsimp only [lam, lamBody, lamScope, lamArgs, callK, asgV, forBody, lawF, nthS, fdBody, PySem.Challenge.pw_pu0053_01] at hf
  refine wpAny_call ?_
  k_dflt (refine' kla_code ?k1 ?k2 ?k3 ?k4 ?k5 ?kA ?kF ?kK ?k6 ?k7 ?k8 ?k9 ?kB ?_ ?c2 ?c3 ?c4 ?c5)
  (case kA => exact rfl)
  (case kF => exact rfl)
  (case kK => assumption)
  (case k1 => k_asm)
  (case k2 => k_asm)
  (case k3 => k_asm)
  (case k4 => k_asm)
  (case k5 => k_asm)
  (case k6 => exact hf)
  (case k7 => exact codeRec_news N hoc hocd hocq)
  (case k8 => ktr_room)
  (case k9 => exact rfl)
  (case c5 => decide +kernel)
  (case kB => exact locs rfl)
  (case c2 => exact rfl)
  (case c3 => exact rfl)
  (case c4 => exact rfl)
  intro g' L' h' FG' F₁ N₁ B' X' T'
  dsimp only at F₁ ⊢
  k_with_none
  k_with "eval Name" => (k_dflt (refine' nameX_F ?N ?c ?m ?d ?_ ?a ?b; (case a => rfl); (case b => rfl); (case N => k_asm); (case c => rfl); (case m => assumption); (case d => assumption)))
  k_with "call ref" => (refine stop_here ?_)
  k_steps
  refine Stop.mk ?_
  rename News _ _ _ _ => nn9
  k_dflt (refine' ctr_call (c_told x y r wd hg (2 * r) _ _ _ _ _ _ hr1 hr3 hw hw7 hh hh7) ?k1 ?k2 ?k3 nn9 ?k5 ?kK ?kd ?ku ?_)
  (case k1 => k_asm)
  (case k2 => k_asm)
  (case k3 => k_asm)
  (case k5 => k_asm)
  (case kK => exact rfl)
  (case kd => ktr_room)
  (case ku => ktr_units)
  clear nn9
  intro v' news' h' tk' P' F' N'
  obtain ⟨⟨t', e1'⟩, e2'⟩ := P'
  subst e1'
  subst e2'
  (try dsimp only)
  k_steps
  exact hret _ _ _ _ ⟨⟨_, rfl⟩, rfl⟩ (by assumption) (by assumption)
theorem c_lam2 {w : World} {f c' a1 a2 a3 a4 : Addr} {pm ctv : Value} {oy ox oR oh oc : Obj} {cvs : Array Value} {q : Str} {qt tx ty tr th : Tok} {x y r hg : Int} {news : Led}
    (hf : (f, kla_obj (Str.ofString "<lambda>") q (lamArgs (lam 1)) (lamBody (lam 1)) (lamScope (lam 1)) [(Str.ofString "y", a4), (Str.ofString "x", a3), (Str.ofString "reach", a2), (Str.ofString "high", a1)] pm c' ctv) ∈ news)
    (hoc : (c', oc) ∈ news) (hocd : oc.data = .fields cvs) (hocq : cvs[1]? = some (.str q qt))
    (hy : (a4, oy) ∈ news) (dy : oy.data = .cell (some (.int y ty))) (hx : (a3, ox) ∈ news) (dx : ox.data = .cell (some (.int x tx))) (hR : (a2, oR) ∈ news) (dR : oR.data = .cell (some (.int r tr))) (hH : (a1, oh) ∈ news) (dh : oh.data = .cell (some (.int hg th)))
    (hr1 : 1 ≤ r) (hr3 : r ≤ 3) (wd : Int) (t : Tok) (hw : 0 ≤ 2 * r + 1 + x.fmod 3 + wd) (hw7 : wd ≤ 7) (hh : 0 ≤ 2 * r + 1 + y.fmod 3 + hg) (hh7 : hg ≤ 7) :
    Ctr w f [.int wd t] [] news 10 (IntBack news (tv wd hg (2 * r))) := by
  intro loose mean mg mb dp un gd cn cs ad ccd cl outer A₀ base h₀ L m s Q E B F X N T hcs hdp hun hret
  dsimp only [lam, lamBody, lamScope, lamArgs, callK, asgV, forBody, lawF, nthS, fdBody, PySem.Challenge.pw_pu0053_01] at hf
  refine wpAny_call ?_
  k_dflt (refine' kla_code ?k1 ?k2 ?k3 ?k4 ?k5 ?kA ?kF ?kK ?k6 ?k7 ?k8 ?k9 ?kB ?_ ?c2 ?c3 ?c4 ?c5)
  (case kA => exact rfl)
  (case kF => exact rfl)
  (case kK => assumption)
  (case k1 => k_asm)
  (case k2 => k_asm)
  (case k3 => k_asm)
  (case k4 => k_asm)
  (case k5 => k_asm)
  (case k6 => exact hf)
  (case k7 => exact codeRec_news N hoc hocd hocq)
  (case k8 => ktr_room)
  (case k9 => exact rfl)
  (case c5 => decide +kernel)
  (case kB => exact locs rfl)
  (case c2 => exact rfl)
  (case c3 => exact rfl)
  (case c4 => exact rfl)
  intro g' L' h' FG' F₁ N₁ B' X' T'
  dsimp only at F₁ ⊢
  k_with_none
  k_with "eval Name" => (k_dflt (refine' nameX_F ?N ?c ?m ?d ?_ ?a ?b; (case a => rfl); (case b => rfl); (case N => k_asm); (case c => rfl); (case m => assumption); (case d => assumption)))
  k_with "call ref" => (refine stop_here ?_)
  k_steps
  refine Stop.mk ?_
  rename News _ _ _ _ => nn9
  k_dflt (refine' ctr_call (c_told x y r wd hg (2 * r) _ _ _ _ _ _ hr1 hr3 hw hw7 hh hh7) ?k1 ?k2 ?k3 nn9 ?k5 ?kK ?kd ?ku ?_)
  (case k1 => k_asm)
  (case k2 => k_asm)
  (case k3 => k_asm)
  (case k5 => k_asm)
  (case kK => exact rfl)
  (case kd => ktr_room)
  (case ku => ktr_units)
  clear nn9
  intro v' news' h' tk' P' F' N'
  obtain ⟨⟨t', e1'⟩, e2'⟩ := P'
  subst e1'
  subst e2'
  (try dsimp only)
  k_steps
  exact hret _ _ _ _ ⟨⟨_, rfl⟩, rfl⟩ (by assumption) (by assumption)
end

section
theorem rk_get {a : Int} {k i : Nat} {v : Int} (h : (rangeKs a k)[i]? = some v) : v = a + (i : Int) ∧ i < k := by
  have hlt : i < k := by
    rcases Nat.lt_or_ge i k with h1 | h1
    · exact h1
    · rw [List.getElem?_eq_none (by rw [rangeKs_length]; exact h1)] at h; cases h
  refine ⟨?_, hlt⟩
  have : (rangeKs a k)[i]? = some (a + (i : Int)) := by simp [rangeKs, hlt]
  rw [this] at h
  exact (Option.some.inj h).symm
theorem rk_mem {a : Int} {k : Nat} {v : Int} (h : v ∈ rangeKs a k) : a ≤ v ∧ v < a + (k : Int) := by
  obtain ⟨i, hi, e⟩ := List.getElem_of_mem h
  have := rk_get (i := i) (v := v) (by rw [List.getElem?_eq_getElem hi, e])
  (first | lia -abstractProof | omega)
abbrev pF (x h : Int) : Nat := (1 + x.fmod 3 + (if h < 0 then -h else 0)).toNat
abbrev pE (r h : Int) : Nat := (r + 1 - (if h < 0 then 0 else h)).toNat
theorem m3 (x : Int) : 0 ≤ x.fmod 3 ∧ x.fmod 3 < 3 := ⟨Int.fmod_nonneg_of_pos x (by decide), Int.fmod_lt_of_pos x (by decide)⟩
theorem tv_neg (v h d : Int) : tv (-v) (-h) d = tv v h d := by
  unfold tv
  rw [Int.natAbs_neg, Int.natAbs_neg]
  have e : ((0 ≤ -v ∧ 0 ≤ -h) ∨ (-v ≤ 0 ∧ -h ≤ 0)) ↔ ((0 ≤ v ∧ 0 ≤ h) ∨ (v ≤ 0 ∧ h ≤ 0)) := by
    rw [Int.neg_nonneg, Int.neg_nonneg, Int.neg_nonpos_iff, Int.neg_nonpos_iff]
    exact Or.comm
  by_cases q : (0 ≤ v ∧ 0 ≤ h) ∨ (v ≤ 0 ∧ h ≤ 0)
  · rw [if_pos q, if_pos (e.mpr q)]
  · rw [if_neg q, if_neg fun k => q (e.mp k)]
theorem tv_down {r v h : Int} (h0 : 0 ≤ r) (h1 : -r ≤ h) (h2 : h ≤ r) (hv : v ≤ 0) : 2 * r < tv v h (2 * r) ↔ v < -r + (if h < 0 then -h else 0) := by
  have a1 : ((v.natAbs : Nat) : Int) = -v := Int.ofNat_natAbs_of_nonpos hv
  unfold tv
  by_cases c : h ≤ 0
  · have a2 : ((h.natAbs : Nat) : Int) = -h := Int.ofNat_natAbs_of_nonpos c
    have e : (if h < 0 then -h else 0) = -h := by
      split
      · rfl
      · omega
    rw [if_pos (Or.inr ⟨hv, c⟩), e, Int.natCast_add, a1, a2]
    omega
  · have c' : 0 < h := Int.not_le.mp c
    have a2 : ((h.natAbs : Nat) : Int) = h := Int.natAbs_of_nonneg (Int.le_of_lt c')
    have e : (if h < 0 then -h else 0) = 0 := if_neg (Int.not_lt.mpr (Int.le_of_lt c'))
    rw [e, Int.add_zero]
    by_cases d : v = 0
    · rw [if_pos (Or.inl ⟨by rw [d]; exact Int.le_refl 0, Int.le_of_lt c'⟩), Int.natCast_add, a1, a2, d]
      omega
    · rw [if_neg (fun q => q.elim (fun q => d (Int.le_antisymm hv q.1)) fun q => c q.2), a1, a2]
      clear a1 a2 c e
      by_cases k : -v ≤ h
      · rw [Int.max_eq_right k, if_neg (by omega)]; omega
      · rw [Int.max_eq_left (Int.le_of_not_le k)]; split <;> omega
theorem first_ok {r x h : Int} (hr1 : 1 ≤ r) (hr3 : r ≤ 3) (h1 : -r ≤ h) (h2 : h ≤ r) (i : Nat) (v : Int) (hv : (rangeKs (-r - 1 - x.fmod 3) (r + 2 + x.fmod 3).toNat)[i]? = some v) :
    -(tv v h (2 * r)) < -2 * r ↔ i < pF x h := by
  have ha := (m3 x).1
  obtain ⟨e, hi⟩ := rk_get hv
  unfold pF
  generalize x.fmod 3 = a at *
  have q := tv_down (v := v) (Int.le_trans (by decide) hr1) h1 h2 (by omega)
  generalize tv v h (2 * r) = z at *
  have hk : 0 ≤ (if h < 0 then -h else 0) := by split <;> omega
  generalize (if h < 0 then -h else 0) = k at *
  clear hv h1 h2 hr3 hi
  omega
theorem end_ok {r y h : Int} (hr1 : 1 ≤ r) (hr3 : r ≤ 3) (h1 : -r ≤ h) (h2 : h ≤ r) (i : Nat) (v : Int) (hv : (rangeKs 0 (r + 2 + y.fmod 3).toNat)[i]? = some v) :
    ¬ 2 * r < tv v h (2 * r) ↔ i < pE r h := by
  obtain ⟨e, hi⟩ := rk_get hv
  rw [Int.zero_add] at e
  unfold pE
  have q := tv_down (v := -v) (h := -h) (Int.le_trans (by decide) hr1) (Int.neg_le_neg h2) (by omega) (by omega)
  rw [tv_neg] at q
  generalize tv v h (2 * r) = z at *
  have hk : (if -h < 0 then - -h else 0) = (if h < 0 then 0 else h) := by split <;> split <;> omega
  rw [hk] at q
  have hk : (if h < 0 then 0 else h) ≤ r := by split <;> omega
  generalize (if h < 0 then 0 else h) = k at *
  clear hv h1 h2 hr3 hi
  omega
theorem first_le {r x h : Int} (hr1 : 1 ≤ r) (h1 : -r ≤ h) : pF x h ≤ (rangeKs (-r - 1 - x.fmod 3) (r + 2 + x.fmod 3).toNat).length := by
  have := m3 x
  rw [rangeKs_length]
  unfold pF
  generalize x.fmod 3 = a at *
  (first | lia -abstractProof | omega)
theorem end_le {r y h : Int} (hr1 : 1 ≤ r) (h1 : -r ≤ h) : pE r h ≤ (rangeKs 0 (r + 2 + y.fmod 3).toNat).length := by
  have := m3 y
  rw [rangeKs_length]
  unfold pE
  generalize y.fmod 3 = a at *
  (first | lia -abstractProof | omega)
theorem dt_len {α : Type} (l l' : List α) (i j k : Nat) : (l.drop i ++ (l'.take j).drop k).length ≤ l.length + l'.length := by
  rw [List.length_append, List.length_drop, List.length_drop, List.length_take]
  exact Nat.add_le_add (Nat.sub_le _ _) (Nat.le_trans (Nat.sub_le _ _) (Nat.min_le_right _ _))
theorem len7 {r a : Int} (hr3 : r ≤ 3) (h : a < 3) : (r + 2 + a).toNat ≤ 7 := Int.toNat_le.mpr (by omega)
theorem wds_len {r x y h : Int} (hr1 : 1 ≤ r) (hr3 : r ≤ 3) : (wds r x y h).length ≤ 14 := by
  refine Nat.le_trans (dt_len _ _ _ _ _) ?_
  rw [rangeKs_length, rangeKs_length]
  exact Nat.add_le_add (len7 hr3 (m3 x).2) (len7 hr3 (m3 y).2)
theorem flat_len {α : Type} {f : Nat → List α} (h : ∀ k, (f k).length ≤ 14) : ∀ i, ((List.range i).flatMap f).length ≤ 14 * i
  | 0 => by simp
  | i + 1 => by
    rw [List.range_succ, List.flatMap_append, List.length_append]
    have := flat_len h i
    have := h i
    rw [List.flatMap_cons, List.flatMap_nil, List.append_nil]
    (first | lia -abstractProof | omega)
theorem colsUp_len {r n x y : Int} (hr1 : 1 ≤ r) (hr3 : r ≤ 3) (i : Nat) : (colsUp r n x y i).length ≤ 14 * i :=
  flat_len (fun k => by unfold colsRow; rw [List.length_map]; exact wds_len hr1 hr3) i
theorem prsUp_len {r n x y : Int} (hr1 : 1 ≤ r) (hr3 : r ≤ 3) (i : Nat) : (prsUp r n x y i).length ≤ 14 * i :=
  flat_len (fun k => by unfold prsOf; rw [List.length_map]; exact Nat.le_trans (List.length_filter_le _ _) (wds_len hr1 hr3)) i
end

section
theorem sum_lt {k : Nat} : ∀ {ns : List Int}, (∀ x ∈ ns, x.natAbs < 2 ^ k) → ns.sum.natAbs ≤ ns.length * 2 ^ k
  | [], _ => by simp
  | x :: r, h => by
    have h1 := h x (.head _)
    have h2 := sum_lt (k := k) (ns := r) fun y hy => h y (.tail _ hy)
    rw [List.sum_cons, List.length_cons, Nat.add_mul, Nat.one_mul]
    have := Int.natAbs_add_le x r.sum
    omega
theorem sum_bits_k {k : Nat} {ns : List Int} (h : ∀ x ∈ ns, Builtin.Int.intBits x ≤ k) (hlen : ns.length ≤ 63) : Builtin.Int.intBits ns.sum ≤ k + 6 := by
  have h1 := sum_lt (k := k) (ns := ns) fun x hx => intBits_le_iff.mp (h x hx)
  refine intBits_le_iff.mpr ?_
  have hp : 0 < 2 ^ k := Nat.pos_of_ne_zero (by exact Nat.ne_of_gt (Nat.pow_pos (by decide)))
  have : ns.length * 2 ^ k ≤ 63 * 2 ^ k := Nat.mul_le_mul_right _ hlen
  rw [Nat.pow_add]
  have e : 2 ^ k * 2 ^ 6 = 64 * 2 ^ k := by rw [Nat.mul_comm]
  omega
theorem sum_bits {ns : List Int} (h : PyData.layable0 (.list (ns.map .int)) = true) (hlen : ns.length ≤ 63) : Builtin.Int.intBits ns.sum ≤ 1048576 + 7 :=
  Nat.le_trans (sum_bits_k (fun x hx => intBits_le_of_item hx h) hlen) (by omega)
theorem abs_one (x : Int) : 1 ≤ 1 + if x < 0 then -x else x := by split <;> omega
theorem abs_bits {x : Int} (h : Builtin.Int.intBits x ≤ 1048576 + 7) : Builtin.Int.intBits (1 + if x < 0 then -x else x) ≤ 1100000 := by
  have h1 : Builtin.Int.intBits (if x < 0 then -x else x) ≤ 1048576 + 7 := intBits_le_of_natAbs (by split <;> omega) h
  have h0 : Builtin.Int.intBits 1 ≤ 1 := by decide
  exact Nat.le_trans (intBits_add_le h0 h1) (by omega)
theorem n_facts {r n : Int} (h1 : 1 ≤ r) (h3 : r ≤ 3) (hn : n = 3 * r * (r + 1) + 1) : 7 ≤ n ∧ n ≤ 37 := by
  have : r = 1 ∨ r = 2 ∨ r = 3 := by omega
  rcases this with rfl | rfl | rfl <;> omega
theorem tot_facts {r x y h : Int} (h1 : 1 ≤ r) (h3 : r ≤ 3) (hx : -1000000000 ≤ x ∧ x < 1000000000) (hy : -1000000000 ≤ y ∧ y < 1000000000) (hh1 : -r ≤ h) (hh2 : h ≤ r) :
    -20000000000 ≤ x + (3 * r + 2) * (y + h) ∧ x + (3 * r + 2) * (y + h) ≤ 20000000000 := by
  have : r = 1 ∨ r = 2 ∨ r = 3 := by omega
  rcases this with rfl | rfl | rfl <;> omega
theorem sg_facts (h : Int) : 1 - 2 * h.fmod 2 = 1 ∨ 1 - 2 * h.fmod 2 = -1 := by
  have h0 := Int.fmod_nonneg_of_pos h (b := 2) (by decide)
  have h1 := Int.fmod_lt_of_pos h (b := 2) (by decide)
  omega
theorem bits36 {a : Int} (h1 : -20000000000 ≤ a) (h2 : a ≤ 20000000000) : Builtin.Int.intBits a ≤ 36 := intBits_le_iff.mpr (by
  have : (2 : Nat) ^ 36 = 68719476736 := by decide
  omega)
structure DFacts (sg S tot n : Int) : Prop where
  ne : sg * S * n ≠ 0
  m1 : IntMulOk sg S
  m2 : IntMulOk (sg * S) tot
  m3 : IntMulOk (sg * S) n
  m4 : IntMulOk (sg * S) (tot.fmod n)
  b1 : Builtin.Int.intBits (sg * S * tot) ≤ Builtin.Int.intBits (sg * S * n) + 40
  b2 : Builtin.Int.intBits (sg * S * n) ≤ 2097152
  q : (sg * S * tot).fdiv (sg * S * n) = tot.fdiv n
  r : (sg * S * tot).fmod (sg * S * n) = sg * S * tot.fmod n
theorem dm_cancel {G n : Int} (tot : Int) (hG : G ≠ 0) : (G * tot).fdiv (G * n) = tot.fdiv n ∧ (G * tot).fmod (G * n) = G * tot.fmod n := by
  have e1 : (G * tot).fdiv (G * n) = tot.fdiv n := by
    rcases Int.lt_or_gt_of_ne hG with h | h
    · have := Int.mul_fdiv_mul_of_pos (a := -G) tot n (by omega)
      rw [Int.neg_mul, Int.neg_mul, Int.neg_fdiv_neg] at this
      exact this
    · exact Int.mul_fdiv_mul_of_pos tot n h
  refine ⟨e1, ?_⟩
  have h1 := Int.mul_fdiv_add_fmod (G * tot) (G * n)
  have h2 := Int.mul_fdiv_add_fmod tot n
  rw [e1] at h1
  have h3 : G * tot = G * n * tot.fdiv n + G * tot.fmod n := by
    rw [Int.mul_assoc, ← Int.mul_add, h2]
  omega
theorem dfacts {sg S tot n : Int} (hs : sg = 1 ∨ sg = -1) (hS : 1 ≤ S) (hSb : Builtin.Int.intBits S ≤ 1100000) (hn7 : 7 ≤ n) (hn37 : n ≤ 37) (ht1 : -20000000000 ≤ tot) (ht2 : tot ≤ 20000000000) : DFacts sg S tot n := by
  have hgb : Builtin.Int.intBits (sg * S) ≤ 1100000 := intBits_le_of_natAbs (by rcases hs with rfl | rfl <;> omega) hSb
  have hg0 : sg * S ≠ 0 := by rcases hs with rfl | rfl <;> omega
  have hnb : Builtin.Int.intBits n ≤ 36 := bits36 (by omega) (by omega)
  have htb : Builtin.Int.intBits tot ≤ 36 := bits36 ht1 ht2
  have hfb : Builtin.Int.intBits (tot.fmod n) ≤ 36 := Nat.le_trans (intBits_fmod_le htb hnb) (by omega)
  have hsb : Builtin.Int.intBits sg ≤ 1 := by rcases hs with rfl | rfl <;> decide
  obtain ⟨e1, e2⟩ := dm_cancel (G := sg * S) (n := n) tot hg0
  have hG0 : sg * S * n ≠ 0 := Int.mul_ne_zero hg0 (by omega)
  have hle : Builtin.Int.intBits (sg * S) ≤ Builtin.Int.intBits (sg * S * n) := bits_abs (by
    rw [Int.natAbs_mul (sg * S) n]
    exact Nat.le_mul_of_pos_right _ (by omega))
  have h1 := intBits_mul_le (Nat.le_refl (Builtin.Int.intBits (sg * S))) htb
  have h2 := intBits_mul_le hgb hnb
  exact ⟨hG0, .of_left (by omega), .of_right (by omega), .of_right (by omega), .of_right (by omega), by omega, by omega, e1, e2⟩
theorem fdivIs {sg S m : Int} (hs : sg = 1 ∨ sg = -1) (hS : 1 ≤ S) (hm : Builtin.Int.intBits m ≤ 36) : FDivIs (sg * (sg * S * m)) S m := by
  have e : sg * (sg * S * m) = S * m := by
    rcases hs with rfl | rfl
    · rw [Int.one_mul, Int.one_mul]
    · rw [Int.neg_mul, Int.neg_mul, Int.one_mul, Int.one_mul, Int.neg_mul, Int.neg_neg]
  rw [e]
  refine ⟨by omega, noPy_bits ?_, Int.mul_fdiv_cancel_left m (by omega)⟩
  have := intBits_mul_le (Nat.le_refl (Builtin.Int.intBits S)) hm
  omega
theorem fmod_bits {tot n : Int} (hn7 : 7 ≤ n) (hn37 : n ≤ 37) (ht1 : -20000000000 ≤ tot) (ht2 : tot ≤ 20000000000) : Builtin.Int.intBits (tot.fmod n) ≤ 36 :=
  Nat.le_trans (intBits_fmod_le (bits36 ht1 ht2) (bits36 (by omega) (by omega))) (by omega)
theorem last_getD (l : List Int) (c : Int) : (l ++ [c]).getD (-1 + ((l ++ [c]).length : Int)).toNat 0 = c := by
  have e : (-1 + ((l ++ [c]).length : Int)).toNat = l.length := by rw [List.length_append, List.length_singleton]; omega
  rw [e, List.getD_eq_getElem?_getD, List.getElem?_append_right (Nat.le_refl _), Nat.sub_self]
  rfl
theorem col_fmod {r n x y h k tot : Int} (hn : 7 ≤ n) (ht : x + (3 * r + 2) * (y + h) = tot) : (tot.fmod n + k).fmod n = col r n x y h k := by
  unfold col
  rw [ht, Int.fmod_eq_emod_of_nonneg _ (by omega), Int.fmod_eq_emod_of_nonneg _ (by omega)]
theorem prs_zero {r n x y h k : Int} (ws : List Int) (h0 : col r n x y h k = 0) : prsOf r n x y h (ws ++ [k]) = prsOf r n x y h ws ++ [(x + k, y + h)] := by
  unfold prsOf
  rw [List.filter_append, List.map_append]
  simp [h0]
theorem prs_nz {r n x y h k : Int} (ws : List Int) (h0 : col r n x y h k ≠ 0) : prsOf r n x y h (ws ++ [k]) = prsOf r n x y h ws := by
  unfold prsOf
  rw [List.filter_append, List.map_append]
  simp [h0]
theorem take_snoc {α : Type} {l : List α} {j : Nat} {k : α} (h : l[j]? = some k) : l.take (j + 1) = l.take j ++ [k] := by simp [List.take_add_one, h]
theorem mem_in1 {q a b : Addr × Obj} {l e x i i2 : Led} : ∀ p ∈ a :: b :: (l ++ (((q :: e) ++ x) ++ i)), p ∈ q :: a :: b :: (l ++ ((e ++ x) ++ i ++ i2)) := by
  intro p hp
  simp only [List.mem_cons, List.mem_append] at hp ⊢
  rcases hp with h | h | h | ((h | h) | h) | h <;> simp [h]
theorem mem_in2 {a b : Addr × Obj} {l e x i i2 : Led} : ∀ p ∈ a :: b :: (l ++ ((e ++ x) ++ i)), p ∈ a :: b :: (l ++ ((e ++ x) ++ i ++ i2)) := by
  intro p hp
  simp only [List.mem_cons, List.mem_append] at hp ⊢
  rcases hp with h | h | h | (h | h) | h <;> simp [h]
theorem mem_in3 {a b : Addr × Obj} {l e i : Led} : ∀ p ∈ l ++ e, p ∈ a :: b :: (l ++ (e ++ i)) := by
  intro p hp
  simp only [List.mem_cons, List.mem_append] at hp ⊢
  rcases hp with h | h <;> simp [h]
theorem range_facts {r : Int} (h1 : 1 ≤ r) (h3 : r ≤ 3) : Builtin.Range.small (-r) (r + 1) 1 = true ∧ Builtin.Range.rangeSize (-r) (r + 1) 1 = ((2 * r + 1).toNat : Int) := by
  have : r = 1 ∨ r = 2 ∨ r = 3 := by omega
  rcases this with rfl | rfl | rfl <;> decide
theorem mul_left_ok {sg a : Int} (hs : sg = 1 ∨ sg = -1) : IntMulOk sg a := .of_left (by rcases hs with rfl | rfl <;> decide)
end

section
theorem rk_ext {a b : Int} {k : Nat} {l : List Int} (hl : l.length = k) (h : ∀ (i : Nat) (v : Int), l[i]? = some v → v = b + (i : Int)) (hb : b = a) : l = rangeKs a k := by
  subst hb
  refine List.ext_getElem? fun i => ?_
  rcases Nat.lt_or_ge i k with hi | hi
  · rw [List.getElem?_eq_getElem (by (first | lia -abstractProof | omega))]
    have := h i _ (List.getElem?_eq_getElem (by (first | lia -abstractProof | omega)))
    rw [this]
    simp [rangeKs, hi]
  · rw [List.getElem?_eq_none (by (first | lia -abstractProof | omega)), List.getElem?_eq_none (by rw [rangeKs_length]; exact hi)]
theorem rk_drop (a : Int) (k p : Nat) : (rangeKs a k).drop p = rangeKs (a + (p : Int)) (k - p) := by
  refine rk_ext (b := a + (p : Int)) (by rw [List.length_drop, rangeKs_length]) (fun i v hv => ?_) rfl
  rw [List.getElem?_drop] at hv
  have := rk_get hv
  (first | lia -abstractProof | omega)
theorem rk_take (a : Int) (k e : Nat) : (rangeKs a k).take e = rangeKs a (min e k) := by
  refine rk_ext (b := a) (by rw [List.length_take, rangeKs_length]) (fun i v hv => ?_) rfl
  rw [List.getElem?_take] at hv
  split at hv
  · exact (rk_get hv).1
  · cases hv
theorem rk_append (a b : Int) (k j : Nat) (hb : b = a + (k : Int)) : rangeKs a k ++ rangeKs b j = rangeKs a (k + j) := by
  refine rk_ext (b := a) (by rw [List.length_append, rangeKs_length, rangeKs_length]) (fun i v hv => ?_) rfl
  rcases Nat.lt_or_ge i k with hi | hi
  · rw [List.getElem?_append_left (by rw [rangeKs_length]; exact hi)] at hv
    exact (rk_get hv).1
  · rw [List.getElem?_append_right (by rw [rangeKs_length]; exact hi), rangeKs_length] at hv
    have := rk_get hv
    (first | lia -abstractProof | omega)
def wLo (r h : Int) : Int := -r + (if h < 0 then -h else 0)
def wCt (r h : Int) : Nat := (2 * r + 1 - (if h < 0 then -h else h)).toNat
theorem wds_canon {r x y h : Int} (hr1 : 1 ≤ r) (h1 : -r ≤ h) (h2 : h ≤ r) : wds r x y h = rangeKs (wLo r h) (wCt r h) := by
  have hx := m3 x
  have hy := m3 y
  unfold wds wLo wCt
  rw [rk_drop, rk_take, rk_drop]
  generalize x.fmod 3 = a at *
  generalize y.fmod 3 = b at *
  by_cases hh : h < 0
  · simp only [hh, if_true]
    rw [rk_append _ _ _ _ (by (first | lia -abstractProof | omega))]
    congr 1 <;> (first | lia -abstractProof | omega)
  · simp only [hh, if_false]
    rw [rk_append _ _ _ _ (by (first | lia -abstractProof | omega))]
    congr 1 <;> (first | lia -abstractProof | omega)
def colsC (r n c0 : Int) (i : Nat) : List Int := (List.range i).flatMap fun (k : Nat) => (rangeKs (wLo r (-r + (k : Int))) (wCt r (-r + (k : Int)))).map fun w => (c0 + (3 * r + 2) * (-r + (k : Int)) + w) % n
theorem col_c {r n x y h w : Int} : col r n x y h w = ((x + (3 * r + 2) * y) % n + (3 * r + 2) * h + w) % n := by
  unfold col
  rw [Int.emod_add_emod, Int.mul_add]
  have e : (x + (3 * r + 2) * y) % n + (3 * r + 2) * h + w = (x + (3 * r + 2) * y) % n + ((3 * r + 2) * h + w) := by (first | lia -abstractProof | omega)
  rw [e, Int.emod_add_emod]
  congr 1
  (first | lia -abstractProof | omega)
theorem cols_c {r n x y : Int} (hr1 : 1 ≤ r) (i : Nat) (hi : (i : Int) ≤ 2 * r + 1) : colsUp r n x y i = colsC r n ((x + (3 * r + 2) * y) % n) i := by
  induction i with
  | zero => rfl
  | succ i ih =>
    rw [colsUp_succ, ih (by (first | lia -abstractProof | omega))]
    unfold colsC colsRow
    rw [List.range_succ, List.flatMap_append, List.flatMap_cons, List.flatMap_nil, List.append_nil, wds_canon hr1 (by (first | lia -abstractProof | omega)) (by (first | lia -abstractProof | omega))]
    congr 1
    refine List.map_congr_left fun w _ => ?_
    exact col_c
theorem perm1 : ∀ c : Nat, c < 7 → (colsC 1 7 (c : Int) 3).isPerm (rangeKs 0 7) = true := by decide +kernel
theorem perm2 : ∀ c : Nat, c < 19 → (colsC 2 19 (c : Int) 5).isPerm (rangeKs 0 19) = true := by decide +kernel
theorem perm3 : ∀ c : Nat, c < 37 → (colsC 3 37 (c : Int) 7).isPerm (rangeKs 0 37) = true := by decide +kernel
theorem cols_perm {r n x y : Int} (hr1 : 1 ≤ r) (hr3 : r ≤ 3) (hn : n = 3 * r * (r + 1) + 1) : (colsUp r n x y (2 * r + 1).toNat).Perm (rangeKs 0 n.toNat) := by
  rw [cols_c hr1 _ (by (first | lia -abstractProof | omega))]
  have h7 := (n_facts hr1 hr3 hn).1
  have c0 := Int.emod_nonneg (x + (3 * r + 2) * y) (by (first | lia -abstractProof | omega) : n ≠ 0)
  have c1 := Int.emod_lt_of_pos (x + (3 * r + 2) * y) (by (first | lia -abstractProof | omega) : 0 < n)
  obtain ⟨c, hc⟩ := Int.eq_ofNat_of_zero_le c0
  rw [hc] at c1 ⊢
  have : r = 1 ∨ r = 2 ∨ r = 3 := by (first | lia -abstractProof | omega)
  rcases this with rfl | rfl | rfl
  · have e : n = 7 := by (first | lia -abstractProof | omega)
    subst e
    exact List.isPerm_iff.mp (perm1 c (by (first | lia -abstractProof | omega)))
  · have e : n = 19 := by (first | lia -abstractProof | omega)
    subst e
    exact List.isPerm_iff.mp (perm2 c (by (first | lia -abstractProof | omega)))
  · have e : n = 37 := by (first | lia -abstractProof | omega)
    subst e
    exact List.isPerm_iff.mp (perm3 c (by (first | lia -abstractProof | omega)))
theorem cols_len {r n x y : Int} (hr1 : 1 ≤ r) (hr3 : r ≤ 3) (hn : n = 3 * r * (r + 1) + 1) : (colsUp r n x y (2 * r + 1).toNat).length < 64 := by
  rw [(cols_perm hr1 hr3 hn).length_eq, rangeKs_length]
  have := n_facts hr1 hr3 hn
  (first | lia -abstractProof | omega)
theorem rk_sorted (a : Int) (k : Nat) : (rangeKs a k).Pairwise (· ≤ ·) := by
  rw [List.pairwise_iff_getElem]
  intro i j hi hj hij
  have e1 := rk_get (List.getElem?_eq_getElem hi)
  have e2 := rk_get (List.getElem?_eq_getElem hj)
  (first | lia -abstractProof | omega)
theorem sorted_eq {r n x y : Int} {l cs : List Int} (hr1 : 1 ≤ r) (hr3 : r ≤ 3) (hn : n = 3 * r * (r + 1) + 1) (hc : cs = colsUp r n x y (2 * r + 1).toNat) (hp : l.Perm cs) (hs : l.Pairwise (· ≤ ·)) : l = rangeKs 0 (n - 0).toNat := by
  rw [Int.sub_zero]
  subst hc
  exact List.Perm.eq_of_pairwise (le := (· ≤ ·)) (fun a b _ _ h1 h2 => by (first | lia -abstractProof | omega)) hs (rk_sorted _ _) (hp.trans (cols_perm hr1 hr3 hn))
theorem prs_some {r n x y : Int} (hr1 : 1 ≤ r) (hr3 : r ≤ 3) (hn : n = 3 * r * (r + 1) + 1) (hx : -1000000000 ≤ x ∧ x < 1000000000) (hy : -1000000000 ≤ y ∧ y < 1000000000) :
    ∃ u v rest, prsUp r n x y (2 * r + 1).toNat = (u, v) :: rest ∧ (u + (3 * r + 2) * v) % n = 0 ∧ (-1000000010 ≤ u ∧ u ≤ 1000000010) ∧ (-1000000010 ≤ v ∧ v ≤ 1000000010) := by
  have h7 := n_facts hr1 hr3 hn
  have hall : ∀ p ∈ prsUp r n x y (2 * r + 1).toNat, (p.1 + (3 * r + 2) * p.2) % n = 0 ∧ (-1000000010 ≤ p.1 ∧ p.1 ≤ 1000000010) ∧ (-1000000010 ≤ p.2 ∧ p.2 ≤ 1000000010) := by
    intro p hp
    unfold prsUp prsOf at hp
    obtain ⟨k, hk, hp⟩ := List.mem_flatMap.mp hp
    have hk := List.mem_range.mp hk
    obtain ⟨w, hw, rfl⟩ := List.mem_map.mp hp
    obtain ⟨hw, hc⟩ := List.mem_filter.mp hw
    have hc : col r n x y (-r + (k : Int)) w = 0 := by simpa using hc
    rw [wds_canon hr1 (by (first | lia -abstractProof | omega)) (by (first | lia -abstractProof | omega))] at hw
    have hb := rk_mem hw
    unfold wLo wCt at hb
    unfold col at hc
    rw [Int.emod_add_emod] at hc
    refine ⟨?_, ?_, ?_⟩
    · have e : x + w + (3 * r + 2) * (y + (-r + (k : Int))) = x + (3 * r + 2) * (y + (-r + (k : Int))) + w := by (first | lia -abstractProof | omega)
      dsimp only
      rw [e]
      exact hc
    · dsimp only
      (first | lia -abstractProof | omega)
    · dsimp only
      (first | lia -abstractProof | omega)
  have hne : ∃ p, p ∈ prsUp r n x y (2 * r + 1).toNat := by
    have h0 : (0 : Int) ∈ colsUp r n x y (2 * r + 1).toNat := by
      rw [(cols_perm hr1 hr3 hn).mem_iff]
      have : (rangeKs 0 n.toNat)[0]? = some 0 := by
        have h8 : 0 < n.toNat := by (first | lia -abstractProof | omega)
        simp [rangeKs, h8]
      exact List.mem_of_getElem? this
    unfold colsUp colsRow at h0
    obtain ⟨k, hk, h0⟩ := List.mem_flatMap.mp h0
    obtain ⟨w, hw, h0⟩ := List.mem_map.mp h0
    refine ⟨(x + w, y + (-r + (k : Int))), ?_⟩
    unfold prsUp prsOf
    exact List.mem_flatMap.mpr ⟨k, hk, List.mem_map.mpr ⟨w, List.mem_filter.mpr ⟨hw, by simp [h0]⟩, rfl⟩⟩
  obtain ⟨p, hp⟩ := hne
  cases hq : prsUp r n x y (2 * r + 1).toNat with
  | nil => rw [hq] at hp; cases hp
  | cons q rest =>
    obtain ⟨a1, a2, a3⟩ := hall q (by rw [hq]; exact .head _)
    exact ⟨q.1, q.2, rest, rfl, a1, a2, a3⟩
/-- where the cell of colour nought lies -/
structure UV (r n u v : Int) : Prop where
  m1 : IntMulOk (2 * r + 1) u
  m2 : IntMulOk r v
  m3 : IntMulOk (r + 1) v
  m4 : IntMulOk r u
  b1 : Builtin.Int.intBits ((2 * r + 1) * u + r * v) ≤ Builtin.Int.intBits n + 40
  b2 : Builtin.Int.intBits ((r + 1) * v - r * u) ≤ Builtin.Int.intBits n + 40
  bn : Builtin.Int.intBits n ≤ 2097152
  z1 : ((2 * r + 1) * u + r * v).fmod n = 0
  z2 : ((r + 1) * v - r * u).fmod n = 0
  e1 : (r + 1) * ((2 * r + 1) * u + r * v).fdiv n - r * ((r + 1) * v - r * u).fdiv n = u
  e2 : r * ((2 * r + 1) * u + r * v).fdiv n + (2 * r + 1) * ((r + 1) * v - r * u).fdiv n = v
  c1 : Builtin.Int.intBits (((2 * r + 1) * u + r * v).fdiv n) ≤ 36
  c2 : Builtin.Int.intBits (((r + 1) * v - r * u).fdiv n) ≤ 36
theorem small_ok {a b : Int} (h : -20 ≤ a ∧ a ≤ 20) : IntMulOk a b := .of_left (Nat.le_trans (bits36 (by (first | lia -abstractProof | omega)) (by (first | lia -abstractProof | omega))) (by decide))
theorem uv_facts {r n u v : Int} (hr1 : 1 ≤ r) (hr3 : r ≤ 3) (hn : n = 3 * r * (r + 1) + 1) (hc : (u + (3 * r + 2) * v) % n = 0) (hu : -1000000010 ≤ u ∧ u ≤ 1000000010) (hv : -1000000010 ≤ v ∧ v ≤ 1000000010) : UV r n u v := by
  have h7 := n_facts hr1 hr3 hn
  obtain ⟨q, hq⟩ : ∃ q, u + (3 * r + 2) * v = n * q := Int.dvd_of_emod_eq_zero hc
  have hr : r = 1 ∨ r = 2 ∨ r = 3 := by (first | lia -abstractProof | omega)
  have hs : ∃ s t, (2 * r + 1) * u + r * v = n * s ∧ (r + 1) * v - r * u = n * t ∧ (r + 1) * s - r * t = u ∧ r * s + (2 * r + 1) * t = v := by
    refine ⟨(2 * r + 1) * q - 2 * v, v - r * q, ?_⟩
    rcases hr with rfl | rfl | rfl
    · have e : n = 7 := by (first | lia -abstractProof | omega)
      subst e
      (first | lia -abstractProof | omega)
    · have e : n = 19 := by (first | lia -abstractProof | omega)
      subst e
      (first | lia -abstractProof | omega)
    · have e : n = 37 := by (first | lia -abstractProof | omega)
      subst e
      (first | lia -abstractProof | omega)
  obtain ⟨s, t, hs, ht, e1, e2⟩ := hs
  have hb1 : -20000000000 ≤ (2 * r + 1) * u + r * v ∧ (2 * r + 1) * u + r * v ≤ 20000000000 := by
    rcases hr with rfl | rfl | rfl <;> (first | lia -abstractProof | omega)
  have hb2 : -20000000000 ≤ (r + 1) * v - r * u ∧ (r + 1) * v - r * u ≤ 20000000000 := by
    rcases hr with rfl | rfl | rfl <;> (first | lia -abstractProof | omega)
  have f1 : ((2 * r + 1) * u + r * v).fdiv n = s := by rw [hs]; exact Int.mul_fdiv_cancel_left s (by (first | lia -abstractProof | omega))
  have f2 : ((r + 1) * v - r * u).fdiv n = t := by rw [ht]; exact Int.mul_fdiv_cancel_left t (by (first | lia -abstractProof | omega))
  have b1 := bits36 hb1.1 hb1.2
  have b2 := bits36 hb2.1 hb2.2
  have bn : Builtin.Int.intBits n ≤ 36 := bits36 (by (first | lia -abstractProof | omega)) (by (first | lia -abstractProof | omega))
  refine ⟨small_ok (by (first | lia -abstractProof | omega)), small_ok (by (first | lia -abstractProof | omega)), small_ok (by (first | lia -abstractProof | omega)), small_ok (by (first | lia -abstractProof | omega)), by (first | lia -abstractProof | omega), by (first | lia -abstractProof | omega), by (first | lia -abstractProof | omega), ?_, ?_, by rw [f1, f2]; exact e1, by rw [f1, f2]; exact e2, intBits_fdiv_le b1, intBits_fdiv_le b2⟩
  · rw [hs, Int.mul_fmod_right]
  · rw [ht, Int.mul_fmod_right]
/-- one of the six directions and its opposite -/
structure HexOk (r w h : Int) : Prop where
  w1 : -7 ≤ w ∧ w ≤ 7
  h1 : -7 ≤ h ∧ h ≤ 7
  w2 : 0 ≤ 2 * r + 1 + w
  w3 : 0 ≤ 2 * r + 1 - w
  h2 : 0 ≤ 2 * r + 1 + h
  h3 : 0 ≤ 2 * r + 1 - h
  t1 : tv w h (2 * (2 * r + 1)) = 2 * (2 * r + 1)
  t2 : tv (-w) (-h) (2 * (2 * r + 1) - 1) = 2 * (2 * r + 1)
theorem hex1 {r : Int} (hr1 : 1 ≤ r) (hr3 : r ≤ 3) : HexOk r (r + 1) r := by
  have h : r = 1 ∨ r = 2 ∨ r = 3 := by (first | lia -abstractProof | omega)
  rcases h with rfl | rfl | rfl <;> (refine ⟨by decide, by decide, by decide, by decide, by decide, by decide, ?_, ?_⟩ <;> decide)
theorem hex2 {r : Int} (hr1 : 1 ≤ r) (hr3 : r ≤ 3) : HexOk r (-r) (2 * r + 1) := by
  have h : r = 1 ∨ r = 2 ∨ r = 3 := by (first | lia -abstractProof | omega)
  rcases h with rfl | rfl | rfl <;> (refine ⟨by decide, by decide, by decide, by decide, by decide, by decide, ?_, ?_⟩ <;> decide)
theorem hex3 {r : Int} (hr1 : 1 ≤ r) (hr3 : r ≤ 3) : HexOk r (2 * r + 1) (-r - 1) := by
  have h : r = 1 ∨ r = 2 ∨ r = 3 := by (first | lia -abstractProof | omega)
  rcases h with rfl | rfl | rfl <;> (refine ⟨by decide, by decide, by decide, by decide, by decide, by decide, ?_, ?_⟩ <;> decide)
theorem mem_in4 {q a b c d : Addr × Obj} {l e i : Led} : ∀ p ∈ a :: b :: c :: d :: (l ++ e), p ∈ q :: a :: b :: c :: d :: (l ++ (e ++ i)) := by
  intro p hp
  simp only [List.mem_cons, List.mem_append] at hp ⊢
  rcases hp with h | h | h | h | h | h <;> simp [h]
end

section
set_option maxRecDepth 100000
set_option maxHeartbeats 8000000
theorem fillLawD : (fun (_ : OpenLaw) (_ : Params → Frag) => True) PySem.Challenge.rw_pu0053_01 hd.heap_39 := by
  k_fill
  w_top off
  trivial
theorem exec_cutO {M : Model} {A : Around} {env : Env} {st : Stmt} {rest : List Stmt} {Q : Flow → Shared → Prop} {E : Value → Shared → Prop} {s : Shared} (Mid : Shared → Prop)
    (h1 : ∀ (Q' : Flow → Shared → Prop) (E' : Value → Shared → Prop), (∀ s', Mid s' → Q' .next s') → wpAny M A (exec st env) Q' E' s) (h2 : ∀ s', Mid s' → wpAny M A (execs rest env) Q E s') : wpAny M A (execs (st :: rest) env) Q E s := by
  refine exec_cut Mid ?_ h2
  exact h1 _ _ fun s' h => h
theorem news_cons {g h : Heap} {L : Addr} {a : Addr × Obj} {l : Led} (hm : a ∈ l) (N : News g L h l) : News g L h (a :: l) := fun p hp => by
  rcases List.mem_cons.mp hp with rfl | hp
  · exact N _ hm
  · exact N _ hp
/-- the ledger's three that change at a call of int_divmod and what stands beside them -/
structure Can (L : Addr) (ps1 ps2 : Array Value) (R : Led) : Prop where
  t1 : TabSt 32 4 qI ps1 R
  t2 : TabSt 47 4 qD ps2 R
  ne : ∀ p ∈ R, p.1 ≠ 30 ∧ p.1 ≠ 37 ∧ p.1 ≠ L + 1
  lo : @LT.lt Nat instLTNat 37 L
theorem Can.rest {L : Addr} {ps1 ps2 : Array Value} {R : Led} {oh : Obj} (c : Can L ps1 ps2 R) : ∀ p ∈ (L + 1, oh) :: R, p.1 ≠ 30 ∧ p.1 ≠ 37 := fun p hp => by
  rcases List.mem_cons.mp hp with rfl | hp
  · have := c.lo
    exact ⟨neN (by dsimp only; omega), neN (by dsimp only; omega)⟩
  · exact ⟨(c.ne p hp).1, (c.ne p hp).2.1⟩
theorem TabSt.cellOut {l c : Nat} {q : Str} {ps : Array Value} {ex R : Led} {a : Addr} {o : Obj} {v : Option Value} (hd : o.data = .cell v) (h : TabSt l c q ps (ex ++ (a, o) :: R)) : TabSt l c q ps (ex ++ R) :=
  h.only fun p hp => by
    rcases List.mem_append.mp hp with hp | hp
    · exact Or.inl (List.mem_append_left _ hp)
    · rcases List.mem_cons.mp hp with rfl | hp
      · exact Or.inr (nc_cell hd)
      · exact Or.inl (List.mem_append_right _ hp)
theorem news_cell {g h : Heap} {L : Addr} {d a b c : Addr × Obj} {ex R : Led} (N : News g L h (d :: a :: b :: (ex ++ c :: R))) : News g L h (d :: a :: b :: c :: (ex ++ R)) := fun p hp => N p (by
  simp only [List.mem_cons, List.mem_append] at hp ⊢
  rcases hp with h | h | h | h | h | h <;> simp [h])
theorem law_dm {w : World} {E Q : Value → Shared → Prop} {s : Shared} {g : Heap} {L fa : Addr} {m : Str → Option Value} {loose : List Str} {mean : ExcName → Option Value} {mg mb : Str → Option Value} {R : Led} {ps1 ps2 : Array Value} {oh : Obj} {vH : Option Value}
    (a b : Int) (ta tb : Tok) (hb : b ≠ 0) (hab : Builtin.Int.intBits a ≤ Builtin.Int.intBits b + 40) (hnb : Builtin.Int.intBits b ≤ 2097152) (hc : Can L ps1 ps2 R) (dh : oh.data = .cell vH)
    (X : (hd.heap_39 w.params).In g) (T : Top topProg loose mean mg mb g) (B : Below callerA g [] g) (F : Fr g L s.heap m) (N : News g L s.heap ((30, tabObj ps1) :: (37, tabObj ps2) :: (L + 1, oh) :: R))
    (hQ : ∀ D t1 t2 cD ps1' ps2' ex h' tk', Can L ps1' ps2' (ex ++ R) → (∀ p ∈ R, p.1 < D) → (∀ p ∈ ex, ∀ q ∈ R, q.1 < p.1) → Fr g L h' m → News g L h' ((D, tup2 (a.fdiv b) (a.fmod b) t1 t2 cD) :: (30, tabObj ps1') :: (37, tabObj ps2') :: (L + 1, oh) :: (ex ++ R)) → Q (.ref D) { s with heap := h', toks := tk' }) :
    wpAny (model PR w) (lawTop L fa) (call (.ref 56) [.int a ta, .int b tb]) Q E s := by
  k_dflt (refine' ctr_call (c_idm ps1 ps2 a b ta tb hb (hc.t1.mono fun p hp => .tail _ hp) (hc.t2.mono fun p hp => .tail _ hp) hc.rest hab hnb) ?k1 ?k2 ?k3 N ?k5 ?kK ?kd ?ku ?_)
  (case k1 => k_asm)
  (case k2 => k_asm)
  (case k3 => k_asm)
  (case k5 => k_asm)
  (case kK => exact rfl)
  (case kd => ktr_room)
  (case ku => ktr_units)
  intro v' news' h' tk' P' F8 N8
  obtain ⟨D, t1, t2, cD, ps1', ps2', ex, e1, e2, hT1, hT2, hrD, hD37, hexd⟩ := P'
  subst e1
  subst e2
  refine hQ D t1 t2 cD ps1' ps2' ex h' tk' ⟨hT1.cellOut dh, hT2.cellOut dh, fun p hp => ?_, hc.lo⟩ (fun p hp => hrD p (.tail _ hp)) (fun p hp q hq => (hexd p hp).2.2 q (.tail _ hq)) F8 (news_cell N8)
  rcases List.mem_append.mp hp with hp | hp
  · obtain ⟨h1, _, h3⟩ := hexd p hp
    have h4 := h3 _ (.head _)
    exact ⟨Nat.ne_of_gt (Nat.lt_trans (by decide : (30 : Nat) < 37) h1), Nat.ne_of_gt h1, Nat.ne_of_gt h4⟩
  · exact hc.ne p hp
end

section
set_option maxRecDepth 100000
set_option maxHeartbeats 8000000
theorem fillLawS : (fun (_ : OpenLaw) (_ : Params → Frag) => True) PySem.Challenge.rw_pu0053_01 hd.heap_39 := by
  k_fill
  w_top off
  trivial
theorem news_mid {g h : Heap} {L : Addr} {f a p : Addr × Obj} {R : Led} (N : News g L h (f :: a :: p :: R)) : News g L h (p :: ([a] ++ R)) := fun q hq => N q (by
  simp only [List.mem_cons, List.mem_append, List.not_mem_nil, or_false] at hq ⊢
  rcases hq with h | h | h <;> simp [h])
theorem ctr_bl {w : World} {L f c' : Addr} {pm ctv : Value} {oy ox oR oh oc : Obj} {cvs : Array Value} {q : Str} {qt tx ty tr th ti : Tok} {x y r hg : Int} {Db : Addr} {vb : List Value} {cb : Nat} {news : Led}
    (hf : (f, kla_obj (Str.ofString "<lambda>") q (lamArgs (lam 0)) (lamBody (lam 0)) (lamScope (lam 0)) [(Str.ofString "y", L + 1 + 1 + 1 + 1), (Str.ofString "x", L + 1 + 1 + 1), (Str.ofString "reach", L + 1 + 1), (Str.ofString "high", L + 1)] pm c' ctv) ∈ news)
    (hoc : (c', oc) ∈ news) (hocd : oc.data = .fields cvs) (hocq : cvs[1]? = some (.str q qt)) (hr1 : 1 ≤ r) (hr3 : r ≤ 3) (hg1 : -r ≤ hg) (hg2 : hg ≤ r)
    (dy : oy.data = .cell (some (.int y ty))) (dx : ox.data = .cell (some (.int x tx))) (dR : oR.data = .cell (some (.int r tr))) (dh : oh.data = .cell (some (.int hg th)))
    (hyM : (L + 1 + 1 + 1 + 1, oy) ∈ news) (hxM : (L + 1 + 1 + 1, ox) ∈ news) (hRM : (L + 1 + 1, oR) ∈ news) (hhM : (L + 1, oh) ∈ news) (hDM : (Db, listOf (List.toArray vb) cb) ∈ news) (hI : IntsAre vb (rangeKs (-r - 1 - x.fmod 3) (r + 2 + x.fmod 3).toNat)) :
    Ctr w 74 [.ref Db, .int (-2 * r) ti] [(Str.ofString "key", .ref f)] news 12 (IntBack news (pF x hg)) := by
  have h1 := m3 x
  have h2 := m3 y
  refine c_bl (fun v => -(tv v hg (2 * r))) (-2 * r) _ (pF x hg) hDM hI ?_ (first_le hr1 hg1) (fun i v hv => first_ok hr1 hr3 hg1 hg2 i v hv) hf ?_
  · rw [rangeKs_length]; omega
  · intro v tv9 hv9
    have h3 := rk_mem hv9
    exact c_lam1 hf hoc hocd hocq hyM dy hxM dx hRM dR hhM dh hr1 hr3 v tv9 (by omega) (by omega) (by omega) (by omega)
theorem ctr_br {w : World} {L f c' : Addr} {pm ctv : Value} {oy ox oR oh oc : Obj} {cvs : Array Value} {q : Str} {qt tx ty tr th ti : Tok} {x y r hg : Int} {Dh : Addr} {vh : List Value} {ch : Nat} {news : Led}
    (hf : (f, kla_obj (Str.ofString "<lambda>") q (lamArgs (lam 1)) (lamBody (lam 1)) (lamScope (lam 1)) [(Str.ofString "y", L + 1 + 1 + 1 + 1), (Str.ofString "x", L + 1 + 1 + 1), (Str.ofString "reach", L + 1 + 1), (Str.ofString "high", L + 1)] pm c' ctv) ∈ news)
    (hoc : (c', oc) ∈ news) (hocd : oc.data = .fields cvs) (hocq : cvs[1]? = some (.str q qt)) (hr1 : 1 ≤ r) (hr3 : r ≤ 3) (hg1 : -r ≤ hg) (hg2 : hg ≤ r)
    (dy : oy.data = .cell (some (.int y ty))) (dx : ox.data = .cell (some (.int x tx))) (dR : oR.data = .cell (some (.int r tr))) (dh : oh.data = .cell (some (.int hg th)))
    (hyM : (L + 1 + 1 + 1 + 1, oy) ∈ news) (hxM : (L + 1 + 1 + 1, ox) ∈ news) (hRM : (L + 1 + 1, oR) ∈ news) (hhM : (L + 1, oh) ∈ news) (hDM : (Dh, listOf (List.toArray vh) ch) ∈ news) (hI : IntsAre vh (rangeKs 0 (r + 2 + y.fmod 3).toNat)) :
    Ctr w 65 [.ref Dh, .int (2 * r) ti] [(Str.ofString "key", .ref f)] news 12 (IntBack news (pE r hg)) := by
  have h1 := m3 x
  have h2 := m3 y
  refine c_br (fun v => tv v hg (2 * r)) (2 * r) _ (pE r hg) hDM hI ?_ (end_le hr1 hg1) (fun i v hv => end_ok hr1 hr3 hg1 hg2 i v hv) hf ?_
  · rw [rangeKs_length]; omega
  · intro v tv9 hv9
    have h3 := rk_mem hv9
    exact c_lam2 hf hoc hocd hocq hyM dy hxM dx hRM dR hhM dh hr1 hr3 v tv9 (by omega) (by omega) (by omega) (by omega)
theorem law_s1 {w : World} {Q : Flow → Shared → Prop} {E : Value → Shared → Prop} {g : Heap} {L fa : Addr} {m : Str → Option Value} {s : Shared} {loose : List Str} {mean : ExcName → Option Value} {mg mb : Str → Option Value}
    {oy ox oR oh : Obj} {x y r hg : Int} {tx ty tr th : Tok} {Db : Addr} {vb : List Value} {cb : Nat} {ps3 : Array Value} {R X9 : Led}
    (X : (hd.heap_39 w.params).In g) (T : Top topProg loose mean mg mb g) (B : Below callerA g [] g) (c3 : CodeHd g 101 97) (hr1 : 1 ≤ r) (hr3 : r ≤ 3) (hg1 : -r ≤ hg) (hg2 : hg ≤ r)
    (dy : oy.data = .cell (some (.int y ty))) (dx : ox.data = .cell (some (.int x tx))) (dR : oR.data = .cell (some (.int r tr))) (dh : oh.data = .cell (some (.int hg th)))
    (hyM : (L + 1 + 1 + 1 + 1, oy) ∈ R) (hxM : (L + 1 + 1 + 1, ox) ∈ R) (hRM : (L + 1 + 1, oR) ∈ R) (hhM : (L + 1, oh) ∈ R) (hDM : (Db, listOf (List.toArray vb) cb) ∈ R) (hI : IntsAre vb (rangeKs (-r - 1 - x.fmod 3) (r + 2 + x.fmod 3).toNat))
    (hne : ∀ p ∈ R, p.1 ≠ 97) (ht3 : Tab3 ps3 X9) (hX9 : ∀ p ∈ X9, p ∈ R)
    (F : Fr g L s.heap m) (hb : m (Str.ofString "before") = some (.ref Db)) (N : News g L s.heap ((97, tabObj ps3) :: R))
    (hQ : ∀ ps3' ex t h' tk', TabA ps3' (ex ++ X9) → (∀ e ∈ ex, e.1 ≠ 97 ∧ ∀ q ∈ R, q.1 < e.1) → Fr g L h' (put (Str.ofString "first") (.int (pF x hg : Nat) t) m) → News g L h' ((97, tabObj ps3') :: (ex ++ R)) → Q .next { s with heap := h', toks := tk' }) :
    wpAny (model PR w) (lawTop L fa) (exec (nthS (forBody (nthS (fdBody lawF) 8)) 0) (lawEnv L fa)) Q E s := by
  dsimp only [lawTop, lawEnv, lawF, nthS, fdBody, fdScope, forBody, PySem.Challenge.pw_pu0053_01]
  k_with_none
  have hm : kstB m [(Str.ofString "before", .ref Db)] = m := kst_self (fun p hp => by rw [List.mem_singleton.mp hp]; exact hb)
  rw [← hm] at F hQ
  clear hm hb
  dsimp only [kstB] at F hQ
  k_with "call ref" => (refine stop_here ?_)
  rcases ht3 with ht3 | ⟨k1, o1, v1, t1, k2, o2, v2, t2, ht3, hk1, hd1, hv1, hk2, hd2, hv2⟩
  · subst ht3
    k_steps
    refine Stop.mk ?_
    rename News _ _ _ _ => nn9
    rename (@LT.lt Nat _ 97 _ ∧ AllLt _ _) => l1
    rename Obj.data _ = Data.fields _ => d1
    rename _ = some (Value.str _ _) => d2
    k_dflt (refine' ctr_int (ctr_bl (List.Mem.head _) (List.Mem.tail _ (List.Mem.head _)) d1 d2 hr1 hr3 hg1 hg2 dy dx dR dh (.tail _ (.tail _ (.tail _ hyM))) (.tail _ (.tail _ (.tail _ hxM))) (.tail _ (.tail _ (.tail _ hRM))) (.tail _ (.tail _ (.tail _ hhM))) (.tail _ (.tail _ (.tail _ hDM))) hI) ?k1 ?k2 ?k3 nn9 ?k5 ?kK ?kd ?ku ?_)
    (case k1 => k_asm)
    (case k2 => k_asm)
    (case k3 => k_asm)
    (case k5 => k_asm)
    (case kK => exact rfl)
    (case kd => ktr_room)
    (case ku => ktr_units)
    clear nn9
    intro t9 h' tk' F9 N9
    dsimp only
    k_steps
    rename Fr _ _ _ _ => F7
    rename News _ _ _ _ => N7
    refine hQ _ [(_, _)] t9 _ _ ?_ ?_ F7 (news_mid N7)
    · exact (Or.inl ⟨_, _, _, _, rfl, .head _, d1, d2⟩)
    · intro e he
      rw [List.mem_singleton.mp he]
      exact ⟨Nat.ne_of_gt l1.1, fun q hq => allLt_mem l1.2 q hq⟩
  · subst ht3
    have hk1' := hX9 _ hk1
    k_steps
    refine Stop.mk ?_
    rename News _ _ _ _ => nn9
    k_dflt (refine' ctr_int (ctr_bl (List.Mem.head _) (.tail _ (.tail _ hk1')) hd1 hv1 hr1 hr3 hg1 hg2 dy dx dR dh (.tail _ (.tail _ hyM)) (.tail _ (.tail _ hxM)) (.tail _ (.tail _ hRM)) (.tail _ (.tail _ hhM)) (.tail _ (.tail _ hDM)) hI) ?k1 ?k2 ?k3 nn9 ?k5 ?kK ?kd ?ku ?_)
    (case k1 => k_asm)
    (case k2 => k_asm)
    (case k3 => k_asm)
    (case k5 => k_asm)
    (case kK => exact rfl)
    (case kd => ktr_room)
    (case ku => ktr_units)
    clear nn9
    intro t9 h' tk' F9 N9
    dsimp only
    k_steps
    rename Fr _ _ _ _ => F7
    rename News _ _ _ _ => N7
    exact hQ _ [] t9 _ _ (Or.inr ⟨k1, o1, v1, t1, k2, o2, v2, t2, rfl, hk1, hd1, hv1, hk2, hd2, hv2⟩) (fun e he => (nomatch he)) F7 (news_tail N7)
theorem law_s2 {w : World} {Q : Flow → Shared → Prop} {E : Value → Shared → Prop} {g : Heap} {L fa : Addr} {m : Str → Option Value} {s : Shared} {loose : List Str} {mean : ExcName → Option Value} {mg mb : Str → Option Value}
    {oy ox oR oh : Obj} {x y r hg : Int} {tx ty tr th : Tok} {Dh : Addr} {vh : List Value} {ch : Nat} {ps3 : Array Value} {R X9 : Led}
    (X : (hd.heap_39 w.params).In g) (T : Top topProg loose mean mg mb g) (B : Below callerA g [] g) (c3 : CodeHd g 101 97) (hr1 : 1 ≤ r) (hr3 : r ≤ 3) (hg1 : -r ≤ hg) (hg2 : hg ≤ r)
    (dy : oy.data = .cell (some (.int y ty))) (dx : ox.data = .cell (some (.int x tx))) (dR : oR.data = .cell (some (.int r tr))) (dh : oh.data = .cell (some (.int hg th)))
    (hyM : (L + 1 + 1 + 1 + 1, oy) ∈ R) (hxM : (L + 1 + 1 + 1, ox) ∈ R) (hRM : (L + 1 + 1, oR) ∈ R) (hhM : (L + 1, oh) ∈ R) (hDM : (Dh, listOf (List.toArray vh) ch) ∈ R) (hI : IntsAre vh (rangeKs 0 (r + 2 + y.fmod 3).toNat))
    (hne : ∀ p ∈ R, p.1 ≠ 97) (ht3 : TabA ps3 X9) (hX9 : ∀ p ∈ X9, p ∈ R)
    (F : Fr g L s.heap m) (hb : m (Str.ofString "behind") = some (.ref Dh)) (N : News g L s.heap ((97, tabObj ps3) :: R))
    (hQ : ∀ ps3' ex t h' tk', Tab3F ps3' (ex ++ X9) → (∀ e ∈ ex, e.1 ≠ 97 ∧ ∀ q ∈ R, q.1 < e.1) → Fr g L h' (put (Str.ofString "end") (.int (pE r hg : Nat) t) m) → News g L h' ((97, tabObj ps3') :: (ex ++ R)) → Q .next { s with heap := h', toks := tk' }) :
    wpAny (model PR w) (lawTop L fa) (exec (nthS (forBody (nthS (fdBody lawF) 8)) 1) (lawEnv L fa)) Q E s := by
  dsimp only [lawTop, lawEnv, lawF, nthS, fdBody, fdScope, forBody, PySem.Challenge.pw_pu0053_01]
  k_with_none
  have hm : kstB m [(Str.ofString "behind", .ref Dh)] = m := kst_self (fun p hp => by rw [List.mem_singleton.mp hp]; exact hb)
  rw [← hm] at F hQ
  clear hm hb
  dsimp only [kstB] at F hQ
  k_with "call ref" => (refine stop_here ?_)
  rcases ht3 with ⟨k1, o1, v1, t1, ht3, hk1, hd1, hv1⟩ | ⟨k1, o1, v1, t1, k2, o2, v2, t2, ht3, hk1, hd1, hv1, hk2, hd2, hv2⟩
  · subst ht3
    have hk1' := hX9 _ hk1
    k_steps
    refine Stop.mk ?_
    rename News _ _ _ _ => nn9
    rename (@LT.lt Nat _ 97 _ ∧ AllLt _ _) => l1
    rename Obj.data _ = Data.fields _ => d1
    rename _ = some (Value.str _ _) => d2
    k_dflt (refine' ctr_int (ctr_br (List.Mem.head _) (List.Mem.tail _ (List.Mem.head _)) d1 d2 hr1 hr3 hg1 hg2 dy dx dR dh (.tail _ (.tail _ (.tail _ hyM))) (.tail _ (.tail _ (.tail _ hxM))) (.tail _ (.tail _ (.tail _ hRM))) (.tail _ (.tail _ (.tail _ hhM))) (.tail _ (.tail _ (.tail _ hDM))) hI) ?k1 ?k2 ?k3 nn9 ?k5 ?kK ?kd ?ku ?_)
    (case k1 => k_asm)
    (case k2 => k_asm)
    (case k3 => k_asm)
    (case k5 => k_asm)
    (case kK => exact rfl)
    (case kd => ktr_room)
    (case ku => ktr_units)
    clear nn9
    intro t9 h' tk' F9 N9
    dsimp only
    k_steps
    rename Fr _ _ _ _ => F7
    rename News _ _ _ _ => N7
    refine hQ _ [(_, _)] t9 _ _ ?_ ?_ F7 (news_mid N7)
    · exact ⟨k1, o1, v1, t1, _, _, _, _, rfl, .tail _ hk1, hd1, hv1, .head _, d1, d2⟩
    · intro e he
      rw [List.mem_singleton.mp he]
      exact ⟨Nat.ne_of_gt l1.1, fun q hq => allLt_mem l1.2 q hq⟩
  · subst ht3
    have hk2' := hX9 _ hk2
    k_steps
    refine Stop.mk ?_
    rename News _ _ _ _ => nn9
    k_dflt (refine' ctr_int (ctr_br (List.Mem.head _) (.tail _ (.tail _ hk2')) hd2 hv2 hr1 hr3 hg1 hg2 dy dx dR dh (.tail _ (.tail _ hyM)) (.tail _ (.tail _ hxM)) (.tail _ (.tail _ hRM)) (.tail _ (.tail _ hhM)) (.tail _ (.tail _ hDM)) hI) ?k1 ?k2 ?k3 nn9 ?k5 ?kK ?kd ?ku ?_)
    (case k1 => k_asm)
    (case k2 => k_asm)
    (case k3 => k_asm)
    (case k5 => k_asm)
    (case kK => exact rfl)
    (case kd => ktr_room)
    (case ku => ktr_units)
    clear nn9
    intro t9 h' tk' F9 N9
    dsimp only
    k_steps
    rename Fr _ _ _ _ => F7
    rename News _ _ _ _ => N7
    exact hQ _ [] t9 _ _ ⟨k1, o1, v1, t1, k2, o2, v2, t2, rfl, hk1, hd1, hv1, hk2, hd2, hv2⟩ (fun e he => (nomatch he)) F7 (news_tail N7)
end

section
set_option maxRecDepth 100000
set_option maxHeartbeats 8000000
theorem fillLawT : (fun (_ : OpenLaw) (_ : Params → Frag) => True) PySem.Challenge.rw_pu0053_01 hd.heap_39 := by
  k_fill
  w_top off
  trivial
/-- the sum of a row -/
theorem law_s3 {w : World} {Q : Flow → Shared → Prop} {E : Value → Shared → Prop} {g : Heap} {L fa : Addr} {m : Str → Option Value} {s : Shared} {loose : List Str} {mean : ExcName → Option Value} {mg mb : Str → Option Value}
    {oy ox oR oh : Obj} {x y r hg : Int} {tx ty tr th : Tok} {R : Led}
    (X : (hd.heap_39 w.params).In g) (T : Top topProg loose mean mg mb g) (B : Below callerA g [] g) (hr1 : 1 ≤ r) (hr3 : r ≤ 3) (hx : -1000000000 ≤ x ∧ x < 1000000000) (hy : -1000000000 ≤ y ∧ y < 1000000000) (hg1 : -r ≤ hg) (hg2 : hg ≤ r)
    (dy : oy.data = .cell (some (.int y ty))) (dx : ox.data = .cell (some (.int x tx))) (dR : oR.data = .cell (some (.int r tr))) (dh : oh.data = .cell (some (.int hg th)))
    (hyM : (L + 1 + 1 + 1 + 1, oy) ∈ R) (hxM : (L + 1 + 1 + 1, ox) ∈ R) (hRM : (L + 1 + 1, oR) ∈ R) (hhM : (L + 1, oh) ∈ R)
    (F : Fr g L s.heap m) (N : News g L s.heap R)
    (hQ : ∀ t h' tk', Fr g L h' (put (Str.ofString "total") (.int (x + (3 * r + 2) * (y + hg)) t) m) → News g L h' R → Q .next { s with heap := h', toks := tk' }) :
    wpAny (model PR w) (lawTop L fa) (exec (nthS (forBody (nthS (fdBody lawF) 8)) 2) (lawEnv L fa)) Q E s := by
  dsimp only [lawTop, lawEnv, lawF, nthS, fdBody, fdScope, forBody, PySem.Challenge.pw_pu0053_01]
  k_with_none
  k_with "binaryOp Mult int int" => (refine PyProof.Rows.mul_int ?_ (by assumption))
  k_steps
  exact hQ _ _ _ (by assumption) (by assumption)
/-- its sign -/
theorem law_s4 {w : World} {Q : Flow → Shared → Prop} {E : Value → Shared → Prop} {g : Heap} {L fa : Addr} {m : Str → Option Value} {s : Shared} {loose : List Str} {mean : ExcName → Option Value} {mg mb : Str → Option Value}
    {oh : Obj} {r hg : Int} {th : Tok} {R : Led}
    (X : (hd.heap_39 w.params).In g) (T : Top topProg loose mean mg mb g) (B : Below callerA g [] g) (hr3 : r ≤ 3) (hg1 : -r ≤ hg) (hg2 : hg ≤ r)
    (dh : oh.data = .cell (some (.int hg th))) (hhM : (L + 1, oh) ∈ R)
    (F : Fr g L s.heap m) (N : News g L s.heap R)
    (hQ : ∀ t h' tk', Fr g L h' (put (Str.ofString "sign") (.int (1 - 2 * hg.fmod 2) t) m) → News g L h' R → Q .next { s with heap := h', toks := tk' }) :
    wpAny (model PR w) (lawTop L fa) (exec (nthS (forBody (nthS (fdBody lawF) 8)) 3) (lawEnv L fa)) Q E s := by
  dsimp only [lawTop, lawEnv, lawF, nthS, fdBody, fdScope, forBody, PySem.Challenge.pw_pu0053_01]
  k_with_none
  k_with "binaryOp Mult int int" => (refine PyProof.Rows.mul_int ?_ (by assumption))
  k_steps
  exact hQ _ _ _ (by assumption) (by assumption)
/-- the names that the division asks -/
abbrev psD (sg S tot n : Int) (tG tS tT tn : Tok) : List (Str × Value) := [(Str.ofString "total", .int tot tT), (Str.ofString "sign", .int sg tG), (Str.ofString "scale", .int S tS), (Str.ofString "count", .int n tn)]
theorem law_s5 {w : World} {Q : Flow → Shared → Prop} {E : Value → Shared → Prop} {g : Heap} {L fa : Addr} {m : Str → Option Value} {s : Shared} {loose : List Str} {mean : ExcName → Option Value} {mg mb : Str → Option Value}
    {oh : Obj} {vH : Option Value} {sg S tot n : Int} {tG tS tT tn : Tok} {ps1 ps2 : Array Value} {R : Led}
    (X : (hd.heap_39 w.params).In g) (T : Top topProg loose mean mg mb g) (B : Below callerA g [] g) (hDF : DFacts sg S tot n) (hc : Can L ps1 ps2 R) (dh : oh.data = .cell vH)
    (hm : ∀ p ∈ psD sg S tot n tG tS tT tn, m p.1 = some p.2) (F : Fr g L s.heap m) (N : News g L s.heap ((30, tabObj ps1) :: (37, tabObj ps2) :: (L + 1, oh) :: R))
    (hQ : ∀ D t1 t2 cD ps1' ps2' ex h' tk', Can L ps1' ps2' (ex ++ R) → (∀ p ∈ R, p.1 < D) → (∀ p ∈ ex, ∀ q ∈ R, q.1 < p.1) → Fr g L h' (put (Str.ofString "told") (.ref D) m) → News g L h' ((D, tup2 (tot.fdiv n) (sg * S * tot.fmod n) t1 t2 cD) :: (30, tabObj ps1') :: (37, tabObj ps2') :: (L + 1, oh) :: (ex ++ R)) → Q .next { s with heap := h', toks := tk' }) :
    wpAny (model PR w) (lawTop L fa) (exec (nthS (forBody (nthS (fdBody lawF) 8)) 4) (lawEnv L fa)) Q E s := by
  dsimp only [lawTop, lawEnv, lawF, nthS, fdBody, fdScope, forBody, PySem.Challenge.pw_pu0053_01]
  k_with_none
  k_with "binaryOp Mult int int" => (refine PyProof.Rows.mul_int ?_ (by assumption))
  rw [← kst_self hm] at F hQ
  clear hm
  dsimp only [kstB] at F hQ
  have hM1 := hDF.m1
  have hM2 := hDF.m2
  have hM3 := hDF.m3
  k_with "call ref" => (refine stop_here ?_)
  k_steps
  refine Stop.mk ?_
  rename Fr _ _ _ _ => F9
  rename News _ _ _ _ => N9
  refine law_dm (sg * S * tot) (sg * S * n) _ _ hDF.ne hDF.b1 hDF.b2 hc dh X T B F9 N9 ?_
  clear hc N9
  intro D t1 t2 cD ps1' ps2' exd h' tk' hc' hD hex F8 N8
  rw [hDF.q, hDF.r] at N8
  dsimp only
  k_steps
  rename Fr _ _ _ _ => F7
  rename News _ _ _ _ => N7
  exact hQ D t1 t2 cD ps1' ps2' exd _ _ hc' hD hex F7 N7
theorem law_s6 {w : World} {Q : Flow → Shared → Prop} {E : Value → Shared → Prop} {g : Heap} {L fa D : Addr} {m : Str → Option Value} {s : Shared} {loose : List Str} {mean : ExcName → Option Value} {mg mb : Str → Option Value}
    {sg S tot n : Int} {tG tS tT tn tq tm : Tok} {cD : Nat} {R : Led}
    (X : (hd.heap_39 w.params).In g) (T : Top topProg loose mean mg mb g) (B : Below callerA g [] g) (hDF : DFacts sg S tot n) (hn7 : 7 ≤ n) (hn37 : n ≤ 37) (hto1 : -20000000000 ≤ tot) (hto2 : tot ≤ 20000000000)
    (hm : ∀ p ∈ (Str.ofString "told", .ref D) :: psD sg S tot n tG tS tT tn, m p.1 = some p.2) (F : Fr g L s.heap m) (N : News g L s.heap ((D, tup2 (tot.fdiv n) (sg * S * tot.fmod n) tq tm cD) :: R))
    (hQ : ∀ h' tk', Fr g L h' m → News g L h' ((D, tup2 (tot.fdiv n) (sg * S * tot.fmod n) tq tm cD) :: R) → Q .next { s with heap := h', toks := tk' }) :
    wpAny (model PR w) (lawTop L fa) (exec (nthS (forBody (nthS (fdBody lawF) 8)) 5) (lawEnv L fa)) Q E s := by
  dsimp only [lawTop, lawEnv, lawF, nthS, fdBody, fdScope, forBody, PySem.Challenge.pw_pu0053_01]
  k_with_none
  k_with "binaryOp Mult int int" => (refine PyProof.Rows.mul_int ?_ (by assumption))
  rw [← kst_self hm] at F hQ
  clear hm
  dsimp only [kstB] at F hQ
  have hM1 := hDF.m1
  have hM4 := hDF.m4
  k_steps
  rename Fr _ _ _ _ => F9
  rename News _ _ _ _ => N9
  exact hQ _ _ F9 (news_tail N9)
end

section
set_option maxRecDepth 100000
set_option maxHeartbeats 8000000
theorem fillLawI : (fun (_ : OpenLaw) (_ : Params → Frag) => True) PySem.Challenge.rw_pu0053_01 hd.heap_39 := by
  k_fill
  w_top off
  trivial
theorem mem_i1 {q a b : Addr × Obj} {e R i2 : Led} : ∀ p ∈ a :: b :: ((q :: e) ++ R), p ∈ q :: a :: b :: ((e ++ R) ++ i2) := by
  intro p hp
  simp only [List.mem_cons, List.mem_append] at hp ⊢
  rcases hp with h | h | (h | h) | h <;> simp [h]
theorem mem_t1 {q w d a b : Addr × Obj} {e R i : Led} : ∀ p ∈ w :: d :: a :: b :: ((q :: e) ++ R), p ∈ q :: w :: d :: a :: b :: ((e ++ R) ++ i) := by
  intro p hp
  simp only [List.mem_cons, List.mem_append] at hp ⊢
  rcases hp with h | h | h | h | (h | h) | h <;> simp [h]
theorem mem_t2 {w d a b : Addr × Obj} {e R i : Led} : ∀ p ∈ w :: d :: a :: b :: (e ++ R), p ∈ w :: d :: a :: b :: ((e ++ R) ++ i) := by
  intro p hp
  simp only [List.mem_cons, List.mem_append] at hp ⊢
  rcases hp with h | h | h | h | h | h <;> simp [h]
abbrev psU (D Ln Lc Dh Db : Addr) (sg S n : Int) (pf pe : Nat) (tG tS tn tF tE : Tok) : List (Str × Value) := psT D Ln Lc Dh Db sg S n tG tS tn ++ [(Str.ofString "first", .int pf tF), (Str.ofString "end", .int pe tE)]
theorem slen {α : Type} (a b : List α) (i j k : Nat) : (a.drop i).length + ((b.drop j).take k).length ≤ a.length + b.length := by
  rw [List.length_drop, List.length_take, List.length_drop]
  exact Nat.add_le_add (Nat.sub_le _ _) (Nat.le_trans (Nat.min_le_right _ _) (Nat.sub_le _ _))
theorem law_s7 {w : World} {Q : Flow → Shared → Prop} {E : Value → Shared → Prop} {g : Heap} {L fa : Addr} {m : Str → Option Value} {s : Shared} {loose : List Str} {mean : ExcName → Option Value} {mg mb : Str → Option Value}
    {oy ox oh : Obj} {x y r n S sg tot hg : Int} {tx ty th tq tm tG tS tn tF tE : Tok} {cD : Nat} {D Ln Lc Dh Db : Nat} {vb vh vn vc : List Value} {cb ch kn kc pf pe : Nat} {cs : List Int} {prs : List (Int × Int)} {R X9 : Led}
    (X : (hd.heap_39 w.params).In g) (T : Top topProg loose mean mg mb g) (B : Below callerA g [] g) (hr1 : 1 ≤ r) (hr3 : r ≤ 3) (hn7 : 7 ≤ n) (hn37 : n ≤ 37) (hS1 : 1 ≤ S) (hsg : sg = 1 ∨ sg = -1) (hg1 : -r ≤ hg) (hg2 : hg ≤ r)
    (htot : x + (3 * r + 2) * (y + hg) = tot) (hto1 : -20000000000 ≤ tot) (hto2 : tot ≤ 20000000000) (hpf : pF x hg = pf) (hpe : pE r hg = pe)
    (dy : oy.data = .cell (some (.int y ty))) (dx : ox.data = .cell (some (.int x tx))) (dh : oh.data = .cell (some (.int hg th)))
    (hyM : (L + 1 + 1 + 1 + 1, oy) ∈ R) (hxM : (L + 1 + 1 + 1, ox) ∈ R) (hhM : (L + 1, oh) ∈ R) (hDbM : (Db, listOf (List.toArray vb) cb) ∈ R) (hDhM : (Dh, listOf (List.toArray vh) ch) ∈ R)
    (hIb : IntsAre vb (rangeKs (-r - 1 - x.fmod 3) (r + 2 + x.fmod 3).toNat)) (hIh : IntsAre vh (rangeKs 0 (r + 2 + y.fmod 3).toNat))
    (hcl : cs.length ≤ 1000) (hpl : prs.length ≤ 1000) (hci : IntsAre vc cs) (hpi : PairsAre X9 vn prs) (hLn : Lc < Ln) (hDn : Ln < D) (hneR : (∀ p ∈ R, p.1 ≠ Ln) ∧ ∀ p ∈ R, p.1 ≠ Lc)
    (hE : PassesOwn (model PR w) (lawTop L fa) (lawEnv L fa) E) (hm : ∀ p ∈ psU D Ln Lc Dh Db sg S n pf pe tG tS tn tF tE, m p.1 = some p.2) (F : Fr g L s.heap m) (N : News g L s.heap ((D, tup2 (tot.fdiv n) (sg * S * tot.fmod n) tq tm cD) :: (Ln, listOf (List.toArray vn) kn) :: (Lc, listOf (List.toArray vc) kc) :: R))
    (hQ : ∀ vn' vc' kn' kc' exP m' h' tk', IntsAre vc' (cs ++ colsRow r n x y hg) → PairsAre (exP ++ X9) vn' (prs ++ prsOf r n x y hg (wds r x y hg)) → (∀ e ∈ exP, @LT.lt Nat instLTNat Ln e.1 ∧ ∀ q ∈ R, q.1 < e.1) →
      Fr g L h' (kstB m' (psT D Ln Lc Dh Db sg S n tG tS tn)) → News g L h' ((Ln, listOf (List.toArray vn') kn') :: (Lc, listOf (List.toArray vc') kc') :: (exP ++ R)) → Q .next { s with heap := h', toks := tk' }) :
    wpAny (model PR w) (lawTop L fa) (exec (nthS (forBody (nthS (fdBody lawF) 8)) 6) (lawEnv L fa)) Q E s := by
  dsimp only [lawTop, lawEnv, lawF, nthS, fdBody, fdScope, forBody, PySem.Challenge.pw_pu0053_01] at hE ⊢
  k_with_none
  k_with "binaryOp Mult int int" => (refine PyProof.Rows.mul_int ?_ (by assumption))
  k_with "binaryOp FloorDiv int int" => (refine floordiv_L (by assumption) ?_)
  k_with "subscriptTail Name Slice ref ref" => (refine stop_here ?_)
  k_with "binaryOp Add ref ref" => (refine stop_here ?_)
  replace F := fr_kst hm F
  clear hm
  dsimp only [kstB, psU, psT, List.cons_append, List.nil_append] at F
  k_dflt (refine For_invVF (hE := hE) F rfl rfl ?_)
  refine wpAny_cutV (fun v s' => ∃ (W : Nat) (us : List Value) (k : Nat), v = .ref W ∧ IntsAre us (wds r x y hg) ∧ @LT.lt Nat instLTNat D W ∧ (∀ p ∈ R, p.1 < W) ∧ After F s [] ((W, listOf (List.toArray us) k) :: (D, tup2 (tot.fdiv n) (sg * S * tot.fmod n) tq tm cD) :: (Ln, listOf (List.toArray vn) kn) :: (Lc, listOf (List.toArray vc) kc) :: R) s') ?_ ?_
  · have hs1 : (List.toArray vb).size ≤ sizeLine := by
      have := m3 x
      rw [List.size_toArray, hIb.length, rangeKs_length, sizeLine_eq]; omega
    have hs2 : (List.toArray vh).size ≤ sizeLine := by
      have := m3 y
      rw [List.size_toArray, hIh.length, rangeKs_length, sizeLine_eq]; omega
    k_steps
    refine Stop.mk ?_
    rename Fr _ _ _ _ => F9
    rename News _ _ _ _ => N9
    k_dflt (refine' kmk_slice_ints F9 N9 ?l (.int _ _) .none hIb (kmk_from hIb (Int.natCast_nonneg pf)) rfl ?_ ?s ?t hs1)
    case l => exact (isList_of N9 (.tail _ (.tail _ (.tail _ hDbM))))
    case s => with_unfolding_all rfl
    case t => intro _; with_unfolding_all rfl
    intro T1 w1 h10 F10 N10 l10 i10 _ _
    (try dsimp only)
    k_steps
    refine Stop.mk ?_
    rename Fr _ _ _ _ => F9
    rename News _ _ _ _ => N9
    k_dflt (refine' kmk_slice_ints F9 N9 ?l (.int _ _) (.int _ _) hIh (kmk_run hIh (by decide) (Int.natCast_nonneg pe)) rfl ?_ ?s ?t hs2)
    case l => exact (isList_of N9 (.tail _ (.tail _ (.tail _ (.tail _ hDhM)))))
    case s => with_unfolding_all rfl
    case t => intro _; with_unfolding_all rfl
    intro T2 w2 h11 F11 N11 l11 i11 _ _
    (try dsimp only)
    k_steps
    refine Stop.mk ?_
    k_dflt (refine' kmk_add_ints F11 N11 (isList_of N11 (.tail _ (.head _))) (isList_of N11 (.head _)) i10 i11 ?_ ?z)
    case z =>
      have h3 := m3 x
      have h4 := m3 y
      refine Nat.le_trans (slen _ _ _ _ _) ?_
      rw [rangeKs_length, rangeKs_length, sizeLine_eq]
      omega
    intro T3 w3 h12 F12 N12 l12 i12
    rw [wds_eq hpf hpe (by rw [← hpe]; exact end_le hr1 hg1)] at i12
    exact ⟨T3, w3, 0, rfl, i12, l12 (D, _) (.tail _ (.tail _ (.head _))), fun p hp => l12 p (.tail _ (.tail _ (.tail _ (.tail _ (.tail _ hp))))), After.intro F12 (news_dropTT N12)⟩
  rintro _ _ ⟨W, us, kw, rfl, hus, hDW, hRW, hH', tkH, rfl, FH, NH⟩
  clear N hIb hIh hDbM hDhM hpf hpe
  dsimp only [kstB] at FH
  refine' my_listJ (x := Str.ofString "wide") (fun j m' nx => ∃ vc' vn' kc' kn' exP, nx = (W, listOf (List.toArray us) kw) :: (D, tup2 (tot.fdiv n) (sg * S * tot.fmod n) tq tm cD) :: (Ln, listOf (List.toArray vn') kn') :: (Lc, listOf (List.toArray vc') kc') :: (exP ++ R) ∧
      IntsAre vc' (cs ++ ((wds r x y hg).take j).map (col r n x y hg)) ∧ PairsAre (exP ++ X9) vn' (prs ++ prsOf r n x y hg ((wds r x y hg).take j)) ∧ (∀ e ∈ exP, @LT.lt Nat instLTNat W e.1) ∧ (∀ p ∈ psT D Ln Lc Dh Db sg S n tG tS tn, m' p.1 = some p.2))
    rfl (.head _) ?hlJ hus FH NH ?h0 ?turn ?done
  case hlJ => rintro j m' nx ⟨vc', vn', kc', kn', exP, rfl, _⟩; exact .head _
  case h0 =>
    refine ⟨vc, vn, kc, kn, [], rfl, ?_, ?_, fun _ h => (nomatch h), ?_⟩
    · rw [List.take_zero, List.map_nil, List.append_nil]; exact hci
    · rw [List.take_zero, List.nil_append]
      have e : prsOf r n x y hg [] = [] := rfl
      rw [e, List.append_nil]; exact hpi
    · kst_all
  case turn =>
    rintro I2 j k t2 m₂ nx hq tkq it2 hk ⟨vc', vn', kc', kn', exP, rfl, hvc', hvn', hgP, hpsT⟩ hlow hoff FI NI
    clear FH NH F hQ
    rw [← kst_self hpsT] at FI
    dsimp only [kstB, psT] at FI
    replace FI : Fr g L _ _ := FI
    have hI2W := Nat.lt_of_lt_of_le (hlow _ (.head _)) (Nat.le_refl _)
    dsimp only at hI2W
    have hoff9 : ∀ p ∈ exP ++ R, p.1 ≠ I2 := fun p hp => hoff p (.tail _ (.tail _ (.tail _ (.tail _ hp))))
    obtain ⟨R9, hR9⟩ : ∃ R9 : Led, R9 = exP ++ R ++ [(I2, it2)] := ⟨_, rfl⟩
    have hDW' := Nat.lt_trans hDn hDW
    have hCW' := Nat.lt_trans hLn hDW'
    have hneN : ∀ p ∈ R9, p.1 ≠ Ln := by
      rw [hR9]
      intro p hp
      rcases List.mem_append.mp hp with hp | hp
      · rcases List.mem_append.mp hp with hp | hp
        · exact Nat.ne_of_gt (Nat.lt_trans hDW' (hgP p hp))
        · exact hneR.1 p hp
      · rw [List.mem_singleton.mp hp]; exact Nat.ne_of_gt (Nat.lt_trans hDW' hI2W)
    have hneC : ∀ p ∈ R9, p.1 ≠ Lc := by
      rw [hR9]
      intro p hp
      rcases List.mem_append.mp hp with hp | hp
      · rcases List.mem_append.mp hp with hp | hp
        · exact Nat.ne_of_gt (Nat.lt_trans hCW' (hgP p hp))
        · exact hneR.2 p hp
      · rw [List.mem_singleton.mp hp]; exact Nat.ne_of_gt (Nat.lt_trans hCW' hI2W)
    replace NI : News g L hq ((W, listOf (List.toArray us) kw) :: (D, tup2 (tot.fdiv n) (sg * S * tot.fmod n) tq tm cD) :: (Ln, listOf (List.toArray vn') kn') :: (Lc, listOf (List.toArray vc') kc') :: R9) := by rw [hR9]; exact NI
    replace hyM : (L + 1 + 1 + 1 + 1, oy) ∈ R9 := by rw [hR9]; exact List.mem_append_left _ (List.mem_append_right _ hyM)
    replace hxM : (L + 1 + 1 + 1, ox) ∈ R9 := by rw [hR9]; exact List.mem_append_left _ (List.mem_append_right _ hxM)
    replace hhM : (L + 1, oh) ∈ R9 := by rw [hR9]; exact List.mem_append_left _ (List.mem_append_right _ hhM)
    have hFD := fdivIs hsg hS1 (fmod_bits hn7 hn37 hto1 hto2)
    have hM5 : IntMulOk sg (sg * S * tot.fmod n) := mul_left_ok hsg
    have hjl : (wds r x y hg).length ≤ 14 := wds_len hr1 hr3
    have hvl : (List.toArray vc').size ≤ sizeLine := by
      rw [List.size_toArray, hvc'.length, sizeLine_eq, List.length_append, List.length_map, List.length_take]; omega
    have hvn : (List.toArray vn').size ≤ sizeLine := by
      have h9 : (prsOf r n x y hg ((wds r x y hg).take j)).length ≤ ((wds r x y hg).take j).length := by
        unfold prsOf
        rw [List.length_map]; exact List.length_filter_le _ _
      rw [List.length_take] at h9
      rw [List.size_toArray, hvn'.length, sizeLine_eq, List.length_append]; omega
    have e1 : W ≠ I2 := Nat.ne_of_lt hI2W
    have e2 : D ≠ I2 := Nat.ne_of_lt (Nat.lt_trans hDW hI2W)
    have e3 : Ln ≠ I2 := Nat.ne_of_lt (Nat.lt_trans hDW' hI2W)
    have e4 : Lc ≠ I2 := Nat.ne_of_lt (Nat.lt_trans hCW' hI2W)
    have e5 : I2 ≤ I2 := Nat.le_refl _
    clear hlow hoff hpsT hneR hRW hto1 hto2 hcl hpl hjl hci hpi
    k_steps
    · first | (rename (List.getD _ _ _ = 0) => h0) | (rename (Int.fmod _ _ = 0) => h0)
      rename Fr _ _ _ _ => F9
      rename News _ _ _ _ => N9
      rename (@LT.lt Nat _ W _ ∧ _) => l1
      (try rw [last_getD] at h0)
      rw [col_fmod hn7 htot] at h0
      rw [col_fmod hn7 htot] at N9
      (repeat rw [List.push_toArray] at N9)
      have l2 := l1.2.2.2.2
      subst hR9
      have hz := allLt_mem l2 (I2, it2) (List.mem_append_right _ (.head _))
      refine TPost.intro F9 N9 (mem_t1 (e := exP) (R := R) (i := [(I2, it2)])) (.tail _ (.tail _ (.tail _ (.tail _ (.tail _ (List.mem_append_right _ (.head _))))))) ?_ ⟨_, _, _, _, (_, _) :: exP, rfl, ?_, ?_, ?_, ?_⟩
      · exact List.forall_mem_cons.mpr ⟨e1, List.forall_mem_cons.mpr ⟨e2, List.forall_mem_cons.mpr ⟨e3, List.forall_mem_cons.mpr ⟨e4, List.forall_mem_cons.mpr ⟨Nat.ne_of_gt hz, hoff9⟩⟩⟩⟩⟩
      · rw [take_snoc hk, List.map_append, ← List.append_assoc]
        exact hvc'.append (IntsAre.cons _ _ IntsAre.nil)
      · rw [take_snoc hk, prs_zero _ h0, ← List.append_assoc]
        exact PairsAre.snoc (p := (x + k, y + hg)) ⟨_, _, _, _, rfl, .head _⟩ (hvn'.mono fun p hp => .tail _ hp)
      · intro p hp
        rcases List.mem_cons.mp hp with rfl | hp
        · exact l1.1
        · exact hgP p hp
      · kst_all
    · first | (rename (List.getD _ _ _ ≠ 0) => h0) | (rename (Int.fmod _ _ ≠ 0) => h0)
      rename Fr _ _ _ _ => F9
      rename News _ _ _ _ => N9
      (try rw [last_getD] at h0)
      rw [col_fmod hn7 htot] at h0
      rw [col_fmod hn7 htot] at N9
      (repeat rw [List.push_toArray] at N9)
      subst hR9
      refine TPost.intro F9 N9 (mem_t2 (e := exP) (R := R) (i := [(I2, it2)])) (.tail _ (.tail _ (.tail _ (.tail _ (List.mem_append_right _ (.head _)))))) ?_ ⟨_, _, _, _, exP, rfl, ?_, ?_, hgP, ?_⟩
      · exact List.forall_mem_cons.mpr ⟨e1, List.forall_mem_cons.mpr ⟨e2, List.forall_mem_cons.mpr ⟨e3, List.forall_mem_cons.mpr ⟨e4, hoff9⟩⟩⟩⟩
      · rw [take_snoc hk, List.map_append, ← List.append_assoc]
        exact hvc'.append (IntsAre.cons _ _ IntsAre.nil)
      · rw [take_snoc hk, prs_nz _ h0]
        exact hvn'
      · kst_all
  case done =>
    rintro m₂ nx hq tkq ⟨vc', vn', kc', kn', exP, rfl, hvc', hvn', hgP, hpsT⟩ FI NI
    rw [List.take_length] at hvc' hvn'
    exact hQ vn' vc' kn' kc' exP m₂ hq tkq hvc' hvn' (fun e he => ⟨Nat.lt_trans hDn (Nat.lt_trans hDW (hgP e he)), fun q hq => Nat.lt_trans (hRW q hq) (hgP e he)⟩) (fr_kst hpsT FI) (news_tail (news_tail NI))
end

section
set_option maxRecDepth 100000
set_option maxHeartbeats 8000000
theorem fillLawEa : (fun (_ : OpenLaw) (_ : Params → Frag) => True) PySem.Challenge.rw_pu0053_01 hd.heap_39 := by
  k_fill
  w_top off
  trivial
noncomputable abbrev S16 : Stmt := nthS (fdBody lawF) 16
section
variable {w : World} {Q : Flow → Shared → Prop} {E : Value → Shared → Prop} {g : Heap} {L fa : Addr} {m : Str → Option Value} {s : Shared} {R : Led} {loose : List Str} {mean : ExcName → Option Value} {mg mb : Str → Option Value}
  {x y r n u v : Int} {tx ty tr tn tu tv' : Tok} {oy ox oR oh : Obj} {vH : Option Value}
theorem law_e9 {Lc : Addr} {kc : Nat} {vc : List Value} {cs : List Int} (X : (hd.heap_39 w.params).In g) (T : Top topProg loose mean mg mb g) (hr1 : 1 ≤ r) (hr3 : r ≤ 3) (hn : n = 3 * r * (r + 1) + 1) (hn7 : 7 ≤ n) (hn37 : n ≤ 37) (hci : IntsAre vc cs) (hcc : cs = colsUp r n x y (2 * r + 1).toNat)
    (hm : ∀ p ∈ [(Str.ofString "colours", Value.ref Lc), (Str.ofString "count", .int n tn)], m p.1 = some p.2) (F : Fr g L s.heap m) (N : News g L s.heap ((Lc, listOf (List.toArray vc) kc) :: R))
    (hQ : ∀ h' tk', Fr g L h' m → News g L h' ((Lc, listOf (List.toArray vc) kc) :: R) → Q .next { s with heap := h', toks := tk' }) :
    wpAny (model PR w) (lawTop L fa) (exec (nthS (fdBody lawF) 9) (lawEnv L fa)) Q E s := by
  rw [← kst_self hm] at F hQ
  clear hm
  have h64 : cs.length < 64 := by rw [hcc]; exact cols_len hr1 hr3 hn
  dsimp only [lawF, nthS, fdBody, PySem.Challenge.pw_pu0053_01]
  dsimp only [kstB] at F hQ
  k_with_none
  k_steps
  · rename Fr _ _ _ _ => F9
    rename News _ _ _ _ => N9
    exact hQ _ _ F9 (news_tail (news_tail N9))
  · exfalso
    rename ¬ _ = rangeKs 0 _ => h9
    exact h9 (sorted_eq hr1 hr3 hn hcc (by assumption) (by assumption))
theorem law_e10 {Ln P : Addr} {kn kp : Nat} {vnr : List Value} (X : (hd.heap_39 w.params).In g)
    (hm : ∀ p ∈ [(Str.ofString "nought", Value.ref Ln)], m p.1 = some p.2) (F : Fr g L s.heap m) (N : News g L s.heap ((P, listOf #[.int u tu, .int v tv'] kp) :: (Ln, listOf (List.toArray (.ref P :: vnr)) kn) :: R))
    (hQ : ∀ t1 t2 h' tk', Fr g L h' (put (Str.ofString "v") (.int v t2) (put (Str.ofString "u") (.int u t1) m)) → News g L h' ((P, listOf #[.int u tu, .int v tv'] kp) :: (Ln, listOf (List.toArray (.ref P :: vnr)) kn) :: R) → Q .next { s with heap := h', toks := tk' }) :
    wpAny (model PR w) (lawTop L fa) (exec (nthS (fdBody lawF) 10) (lawEnv L fa)) Q E s := by
  rw [← kst_self hm] at F hQ
  clear hm
  dsimp only [lawF, nthS, fdBody, PySem.Challenge.pw_pu0053_01]
  dsimp only [kstB] at F hQ
  k_with_none
  k_steps
  rename Fr _ _ _ _ => F9
  exact hQ _ _ _ _ F9 (by assumption)
theorem law_e11 {ps1 ps2 : Array Value} (X : (hd.heap_39 w.params).In g) (T : Top topProg loose mean mg mb g) (B : Below callerA g [] g) (hUV : UV r n u v) (hr1 : 1 ≤ r) (hr3 : r ≤ 3) (hn7 : 7 ≤ n) (dR : oR.data = .cell (some (.int r tr))) (hRM : (L + 1 + 1, oR) ∈ R) (dh : oh.data = .cell vH) (hc : Can L ps1 ps2 R)
    (hm : ∀ p ∈ [(Str.ofString "u", Value.int u tu), (Str.ofString "v", .int v tv'), (Str.ofString "count", .int n tn)], m p.1 = some p.2) (F : Fr g L s.heap m) (N : News g L s.heap ((30, tabObj ps1) :: (37, tabObj ps2) :: (L + 1, oh) :: R))
    (hQ : ∀ ta tb ps1' ps2' exd h' tk', Can L ps1' ps2' (exd ++ R) → Fr g L h' (put (Str.ofString "rest") (.int 0 tb) (put (Str.ofString "s") (.int (((2 * r + 1) * u + r * v).fdiv n) ta) m)) → News g L h' ((30, tabObj ps1') :: (37, tabObj ps2') :: (L + 1, oh) :: (exd ++ R)) → Q .next { s with heap := h', toks := tk' }) :
    wpAny (model PR w) (lawTop L fa) (exec (nthS (fdBody lawF) 11) (lawEnv L fa)) Q E s := by
  rw [← kst_self hm] at F hQ
  clear hm
  have hm1 := hUV.m1
  have hm2 := hUV.m2
  dsimp only [lawF, nthS, fdBody, PySem.Challenge.pw_pu0053_01]
  dsimp only [kstB] at F hQ
  k_with_none
  k_with "binaryOp Mult int int" => (refine PyProof.Rows.mul_int ?_ (by assumption))
  k_with "call ref" => (refine stop_here ?_)
  k_steps
  refine Stop.mk ?_
  rename Fr _ _ _ _ => F9
  rename News _ _ _ _ => N9
  refine law_dm ((2 * r + 1) * u + r * v) n _ _ (by omega) hUV.b1 hUV.bn hc dh X T B F9 N9 ?_
  clear hc N9
  intro D t1 t2 cD ps1' ps2' exd h' tk' hc' _ _ F8 N8
  rw [hUV.z1] at N8
  dsimp only
  k_steps
  rename Fr _ _ _ _ => F7
  rename News _ _ _ _ => N7
  exact hQ _ _ ps1' ps2' exd _ _ hc' F7 (news_tail N7)
theorem law_e12 {ps1 ps2 : Array Value} (X : (hd.heap_39 w.params).In g) (T : Top topProg loose mean mg mb g) (B : Below callerA g [] g) (hUV : UV r n u v) (hr1 : 1 ≤ r) (hr3 : r ≤ 3) (hn7 : 7 ≤ n) (dR : oR.data = .cell (some (.int r tr))) (hRM : (L + 1 + 1, oR) ∈ R) (dh : oh.data = .cell vH) (hc : Can L ps1 ps2 R)
    (hm : ∀ p ∈ [(Str.ofString "u", Value.int u tu), (Str.ofString "v", .int v tv'), (Str.ofString "count", .int n tn)], m p.1 = some p.2) (F : Fr g L s.heap m) (N : News g L s.heap ((30, tabObj ps1) :: (37, tabObj ps2) :: (L + 1, oh) :: R))
    (hQ : ∀ ta tb ps1' ps2' exd h' tk', Can L ps1' ps2' (exd ++ R) → Fr g L h' (put (Str.ofString "left") (.int 0 tb) (put (Str.ofString "t") (.int (((r + 1) * v - r * u).fdiv n) ta) m)) → News g L h' ((30, tabObj ps1') :: (37, tabObj ps2') :: (L + 1, oh) :: (exd ++ R)) → Q .next { s with heap := h', toks := tk' }) :
    wpAny (model PR w) (lawTop L fa) (exec (nthS (fdBody lawF) 12) (lawEnv L fa)) Q E s := by
  rw [← kst_self hm] at F hQ
  clear hm
  have hm1 := hUV.m3
  have hm2 := hUV.m4
  dsimp only [lawF, nthS, fdBody, PySem.Challenge.pw_pu0053_01]
  dsimp only [kstB] at F hQ
  k_with_none
  k_with "binaryOp Mult int int" => (refine PyProof.Rows.mul_int ?_ (by assumption))
  k_with "call ref" => (refine stop_here ?_)
  k_steps
  refine Stop.mk ?_
  rename Fr _ _ _ _ => F9
  rename News _ _ _ _ => N9
  refine law_dm ((r + 1) * v - r * u) n _ _ (by omega) hUV.b2 hUV.bn hc dh X T B F9 N9 ?_
  clear hc N9
  intro D t1 t2 cD ps1' ps2' exd h' tk' hc' _ _ F8 N8
  rw [hUV.z2] at N8
  dsimp only
  k_steps
  rename Fr _ _ _ _ => F7
  rename News _ _ _ _ => N7
  exact hQ _ _ ps1' ps2' exd _ _ hc' F7 (news_tail N7)
theorem law_e13 {ta tb : Tok} (X : (hd.heap_39 w.params).In g)
    (hm : ∀ p ∈ [(Str.ofString "rest", Value.int 0 ta), (Str.ofString "left", .int 0 tb)], m p.1 = some p.2) (F : Fr g L s.heap m) (N : News g L s.heap R)
    (hQ : ∀ h' tk', Fr g L h' m → News g L h' R → Q .next { s with heap := h', toks := tk' }) :
    wpAny (model PR w) (lawTop L fa) (exec (nthS (fdBody lawF) 13) (lawEnv L fa)) Q E s := by
  rw [← kst_self hm] at F hQ
  clear hm
  dsimp only [lawF, nthS, fdBody, PySem.Challenge.pw_pu0053_01]
  dsimp only [kstB] at F hQ
  k_with_none
  k_steps
  rename News _ _ _ _ => N9
  exact hQ _ _ (by assumption) (news_tail (news_tail N9))
theorem law_e14 {ta tb : Tok} {a b : Int} (X : (hd.heap_39 w.params).In g) (hr1 : 1 ≤ r) (hr3 : r ≤ 3) (ha : Builtin.Int.intBits a ≤ 36) (hb : Builtin.Int.intBits b ≤ 36) (e1 : (r + 1) * a - r * b = u) (e2 : r * a + (2 * r + 1) * b = v) (dR : oR.data = .cell (some (.int r tr))) (hRM : (L + 1 + 1, oR) ∈ R)
    (hm : ∀ p ∈ [(Str.ofString "s", Value.int a ta), (Str.ofString "t", .int b tb), (Str.ofString "u", .int u tu), (Str.ofString "v", .int v tv')], m p.1 = some p.2) (F : Fr g L s.heap m) (N : News g L s.heap R)
    (hQ : ∀ h' tk', Fr g L h' m → News g L h' R → Q .next { s with heap := h', toks := tk' }) :
    wpAny (model PR w) (lawTop L fa) (exec (nthS (fdBody lawF) 14) (lawEnv L fa)) Q E s := by
  rw [← kst_self hm] at F hQ
  clear hm
  have q1 : IntMulOk (r + 1) a := small_ok (by omega)
  have q2 : IntMulOk r b := small_ok (by omega)
  have q3 : IntMulOk r a := small_ok (by omega)
  have q4 : IntMulOk (2 * r + 1) b := small_ok (by omega)
  dsimp only [lawF, nthS, fdBody, PySem.Challenge.pw_pu0053_01]
  dsimp only [kstB] at F hQ
  k_with_none
  k_with "binaryOp Mult int int" => (refine PyProof.Rows.mul_int ?_ (by assumption))
  k_steps
  · rename News _ _ _ _ => N9
    exact hQ _ _ (by assumption) (news_tail (news_tail N9))
  · exfalso
    rename ¬ _ = [u, v] => h9
    exact h9 (by rw [e1, e2])
theorem law_e15 (X : (hd.heap_39 w.params).In g) (hr1 : 1 ≤ r) (hr3 : r ≤ 3) (dR : oR.data = .cell (some (.int r tr))) (hRM : (L + 1 + 1, oR) ∈ R) (F : Fr g L s.heap m) (N : News g L s.heap R)
    (hQ : ∀ t h' tk', Fr g L h' (put (Str.ofString "due") (.int (2 * (2 * r + 1)) t) m) → News g L h' R → Q .next { s with heap := h', toks := tk' }) :
    wpAny (model PR w) (lawTop L fa) (exec (nthS (fdBody lawF) 15) (lawEnv L fa)) Q E s := by
  dsimp only [lawF, nthS, fdBody, PySem.Challenge.pw_pu0053_01]
  k_with_none
  k_steps
  exact hQ _ _ _ (by assumption) (by assumption)
end
end

section
set_option maxRecDepth 100000
set_option maxHeartbeats 8000000
theorem fillLawEb : (fun (_ : OpenLaw) (_ : Params → Frag) => True) PySem.Challenge.rw_pu0053_01 hd.heap_39 := by
  k_fill
  w_top off
  trivial
section
variable {w : World} {Q : Flow → Shared → Prop} {K E : Value → Shared → Prop} {g : Heap} {L fa : Addr} {m : Str → Option Value} {s : Shared} {R : Led} {loose : List Str} {mean : ExcName → Option Value} {mg mb : Str → Option Value}
  {x y r n u v w1 h1 du : Int} {tx ty tr tn tu tv' tw th td : Tok} {oy ox oR oh : Obj} {vH : Option Value}
/-- the six neighbours' list -/
abbrev hexL (l P1 P2 P3 : Addr) (r : Int) (a1 a2 a3 b1 b2 b3 : Tok) (R : Led) : Led := (l, listOf #[.ref P1, .ref P2, .ref P3] 0) :: (P3, listOf #[.int (2 * r + 1) a3, .int (-r - 1) b3] 0) :: (P2, listOf #[.int (-r) a2, .int (2 * r + 1) b2] 0) :: (P1, listOf #[.int (r + 1) a1, .int r b1] 0) :: R
theorem law_e16i (X : (hd.heap_39 w.params).In g) (hr1 : 1 ≤ r) (hr3 : r ≤ 3) (dR : oR.data = .cell (some (.int r tr))) (hRM : (L + 1 + 1, oR) ∈ R) (F : Fr g L s.heap m) (N : News g L s.heap ((L + 1, oh) :: R))
    (hQ : ∀ (l P1 P2 P3 : Nat) a1 a2 a3 b1 b2 b3 h' tk', @LT.lt Nat instLTNat (L + 1) P1 → P1 < P2 → P2 < P3 → P3 < l → (∀ p ∈ R, p.1 < l) → Fr g L h' m → News g L h' (hexL l P1 P2 P3 r a1 a2 a3 b1 b2 b3 ((L + 1, oh) :: R)) → K (.ref l) { s with heap := h', toks := tk' }) :
    wpAny (model PR w) (lawTop L fa) (eval (forIter S16) (lawEnv L fa)) K E s := by
  dsimp only [lawF, S16, forIter, nthS, fdBody, PySem.Challenge.pw_pu0053_01]
  k_with_none
  k_steps
  rename_i q1 P2 _ q2 P3 _ q3 l _ F9 N9 q4
  exact hQ l _ P2 P3 _ _ _ _ _ _ _ _ q1.1 q2.1 q3.1 q4.1 (allLt_mem q4.2.2.2.2) F9 N9
theorem law_ta {PP : Addr} (X : (hd.heap_39 w.params).In g) (dh : oh.data = .cell vH) (hne : ∀ p ∈ R, p.1 ≠ L + 1) (hP : PP ≠ L + 1) (F : Fr g L s.heap m) (N : News g L s.heap ((PP, listOf #[.int w1 tw, .int h1 th] 0) :: (L + 1, oh) :: R)) {Q : Unit → Shared → Prop}
    (hQ : ∀ tw' th' o h' tk', o.data = .cell (some (.int h1 th')) → Fr g L h' (put (Str.ofString "wide") (.int w1 tw') m) → News g L h' ((PP, listOf #[.int w1 tw, .int h1 th] 0) :: (L + 1, o) :: R) → Q () { s with heap := h', toks := tk' }) :
    wpAny (model PR w) (lawTop L fa) (assign (forTgt S16) (lawEnv L fa) (.ref PP)) Q E s := by
  dsimp only [lawF, S16, forTgt, nthS, fdBody, PySem.Challenge.pw_pu0053_01]
  k_with_none
  k_steps

  exact hQ _ _ _ _ _ (by assumption) (by assumption) (by assumption)
theorem law_tb0 (X : (hd.heap_39 w.params).In g) (T : Top topProg loose mean mg mb g) (B : Below callerA g [] g) (hr1 : 1 ≤ r) (hr3 : r ≤ 3) (hw : 0 ≤ 2 * r + 1 + x.fmod 3 + w1) (hw7 : w1 ≤ 7) (hh : 0 ≤ 2 * r + 1 + y.fmod 3 + h1) (hh7 : h1 ≤ 7) (htv : tv w1 h1 du = du)
    (dy : oy.data = .cell (some (.int y ty))) (dx : ox.data = .cell (some (.int x tx))) (dR : oR.data = .cell (some (.int r tr))) (dh : oh.data = .cell (some (.int h1 th))) (hyM : (L + 1 + 1 + 1 + 1, oy) ∈ R) (hxM : (L + 1 + 1 + 1, ox) ∈ R) (hRM : (L + 1 + 1, oR) ∈ R) (hhM : (L + 1, oh) ∈ R)
    (hm : ∀ p ∈ [(Str.ofString "wide", Value.int w1 tw), (Str.ofString "due", .int du td)], m p.1 = some p.2) (F : Fr g L s.heap m) (N : News g L s.heap R)
    (hQ : ∀ h' tk', Fr g L h' m → News g L h' R → Q .next { s with heap := h', toks := tk' }) :
    wpAny (model PR w) (lawTop L fa) (exec (nthS (forBody S16) 0) (lawEnv L fa)) Q E s := by
  rw [← kst_self hm] at F hQ
  clear hm
  dsimp only [lawF, S16, forBody, nthS, fdBody, PySem.Challenge.pw_pu0053_01]
  dsimp only [kstB] at F hQ
  k_with_none
  k_with "call ref" => (k_dflt (refine' ctr_int (c_told x y r w1 h1 du _ _ _ _ _ _ hr1 hr3 hw hw7 hh hh7) ?k1 ?k2 ?k3 ?k4 ?k5 ?kK ?kd ?ku ?_); (case k1 => k_dflt k_asm); (case k2 => k_dflt k_asm); (case k3 => k_dflt k_asm); (case k4 => k_dflt k_asm); (case k5 => k_dflt k_asm); (case kK => k_dflt (exact rfl)); (case kd => k_dflt ktr_room); (case ku => k_dflt ktr_units); clear F N; intro _ _ _ F N; rw [htv]; (try dsimp only); (try k_fold))
  k_steps
  all_goals first
    | exact absurd rfl (by assumption)
    | exact hQ _ _ (by assumption) (by assumption)
theorem law_tb1 (X : (hd.heap_39 w.params).In g) (T : Top topProg loose mean mg mb g) (B : Below callerA g [] g) (hr1 : 1 ≤ r) (hr3 : r ≤ 3) (hw : 0 ≤ 2 * r + 1 + x.fmod 3 + -w1) (hw7 : -w1 ≤ 7 ∧ w1 ≤ 7) (hh : 0 ≤ 2 * r + 1 + y.fmod 3 + -h1) (hh7 : -h1 ≤ 7 ∧ h1 ≤ 7) (hdu : 0 ≤ du ∧ du ≤ 14) (htv : tv (-w1) (-h1) (du - 1) = du)
    (dy : oy.data = .cell (some (.int y ty))) (dx : ox.data = .cell (some (.int x tx))) (dR : oR.data = .cell (some (.int r tr))) (dh : oh.data = .cell (some (.int h1 th))) (hyM : (L + 1 + 1 + 1 + 1, oy) ∈ R) (hxM : (L + 1 + 1 + 1, ox) ∈ R) (hRM : (L + 1 + 1, oR) ∈ R) (hhM : (L + 1, oh) ∈ R)
    (hm : ∀ p ∈ [(Str.ofString "wide", Value.int w1 tw), (Str.ofString "due", .int du td)], m p.1 = some p.2) (F : Fr g L s.heap m) (N : News g L s.heap R)
    (hQ : ∀ h' tk', Fr g L h' m → News g L h' R → Q .next { s with heap := h', toks := tk' }) :
    wpAny (model PR w) (lawTop L fa) (exec (nthS (forBody S16) 1) (lawEnv L fa)) Q E s := by
  rw [← kst_self hm] at F hQ
  clear hm
  dsimp only [lawF, S16, forBody, nthS, fdBody, PySem.Challenge.pw_pu0053_01]
  dsimp only [kstB] at F hQ
  k_with_none
  k_with "call ref" => (k_dflt (refine' ctr_int (c_told x y r (-w1) (-h1) (du - 1) _ _ _ _ _ _ hr1 hr3 hw hw7.1 hh hh7.1) ?k1 ?k2 ?k3 ?k4 ?k5 ?kK ?kd ?ku ?_); (case k1 => k_dflt k_asm); (case k2 => k_dflt k_asm); (case k3 => k_dflt k_asm); (case k4 => k_dflt k_asm); (case k5 => k_dflt k_asm); (case kK => k_dflt (exact rfl)); (case kd => k_dflt ktr_room); (case ku => k_dflt ktr_units); clear F N; intro _ _ _ F N; rw [htv]; (try dsimp only); (try k_fold))
  k_steps
  all_goals first
    | exact absurd rfl (by assumption)
    | exact hQ _ _ (by assumption) (by assumption)
theorem law_e17 (X : (hd.heap_39 w.params).In g) (F : Fr g L s.heap m) (N : News g L s.heap R)
    (hQ : ∀ h' tk', Fr g L h' m → News g L h' R → Q (.ret (.bool true)) { s with heap := h', toks := tk' }) :
    wpAny (model PR w) (lawTop L fa) (execs [nthS (fdBody lawF) 17] (lawEnv L fa)) Q E s := by
  dsimp only [lawF, nthS, fdBody, PySem.Challenge.pw_pu0053_01]
  k_with_none
  k_steps
  exact hQ _ _ (by assumption) (by assumption)
end
end

section
set_option maxRecDepth 100000
set_option maxHeartbeats 8000000
section
variable {w : World} {Q : Flow → Shared → Prop} {E : Value → Shared → Prop} {g : Heap} {L fa : Addr} {m : Str → Option Value} {s : Shared} {R : Led} {loose : List Str} {mean : ExcName → Option Value} {mg mb : Str → Option Value}
  {x y r n : Int} {tx ty tr tn td : Tok} {oy ox oR oh : Obj} {vH : Option Value}
theorem news_r3 {h : Heap} {a b c : Addr × Obj} (N : News g L h (a :: b :: c :: R)) : News g L h (c :: a :: b :: R) :=
  List.forall_mem_cons.mpr ⟨N _ (.tail _ (.tail _ (.head _))), List.forall_mem_cons.mpr ⟨N _ (.head _), List.forall_mem_cons.mpr ⟨N _ (.tail _ (.head _)), fun p hp => N p (.tail _ (.tail _ (.tail _ hp)))⟩⟩⟩
theorem law_e16 (X : (hd.heap_39 w.params).In g) (T : Top topProg loose mean mg mb g) (B : Below callerA g [] g) (hPO : PassesOwn (model PR w) (lawTop L fa) (lawEnv L fa) E) (hr1 : 1 ≤ r) (hr3 : r ≤ 3)
    (dy : oy.data = .cell (some (.int y ty))) (dx : ox.data = .cell (some (.int x tx))) (dR : oR.data = .cell (some (.int r tr))) (dh : oh.data = .cell vH) (hyM : (L + 1 + 1 + 1 + 1, oy) ∈ R) (hxM : (L + 1 + 1 + 1, ox) ∈ R) (hRM : (L + 1 + 1, oR) ∈ R) (hne : ∀ p ∈ R, p.1 ≠ L + 1)
    (hm : m (Str.ofString "due") = some (.int (2 * (2 * r + 1)) td)) (F : Fr g L s.heap m) (N : News g L s.heap ((L + 1, oh) :: R))
    (hQ : ∀ m' h' tk', Fr g L h' m' → News g L h' R → Q .next { s with heap := h', toks := tk' }) :
    wpAny (model PR w) (lawTop L fa) (exec S16 (lawEnv L fa)) Q E s := by
  refine For_invTF (target := forTgt S16) (iter := forIter S16) (body := forBody S16) (hE := hPO) (m := m) (show Fr g (lawEnv L fa).locals s.heap m from F) ?_ (fun _ => rfl)
  refine law_e16i X hr1 hr3 dR hRM F N ?_
  clear F N
  intro l P1 P2 P3 a1 a2 a3 b1 b2 b3 h1 tk1 hP1 hP12 hP23 hPl hRl F N
  refine my_listT (vs := [.ref P1, .ref P2, .ref P3]) (fun i m' nx => ∃ o vo, o.data = .cell vo ∧ nx = hexL l P1 P2 P3 r a1 a2 a3 b1 b2 b3 ((L + 1, o) :: R) ∧ m' (Str.ofString "due") = some (.int (2 * (2 * r + 1)) td)) rfl (.head _) ?_ F N ⟨oh, vH, dh, rfl, hm⟩ ?_ ?_
  · rintro i m' nx ⟨o, vo, ho, rfl, _⟩; exact .head _
  · rintro I i v0 m₁ nx s₁ it hv0 ⟨o, vo, ho, rfl, hdue⟩ hlow hoff F' N'
    clear F N hm dh hQ
    obtain ⟨PP, w1, h1, tw, th, rfl, hPm, hLP, hHex⟩ : ∃ (PP : Nat) (w1 h1 : Int) (tw th : Tok), v0 = .ref PP ∧ (PP, listOf #[.int w1 tw, .int h1 th] 0) ∈ hexL l P1 P2 P3 r a1 a2 a3 b1 b2 b3 ((L + 1, o) :: R) ∧ @LT.lt Nat instLTNat (L + 1) PP ∧ HexOk r w1 h1 := by
      match i, hv0 with
      | 0, hv0 => exact ⟨P1, _, _, _, _, (Option.some.inj hv0).symm, .tail _ (.tail _ (.tail _ (.head _))), hP1, hex1 hr1 hr3⟩
      | 1, hv0 => exact ⟨P2, _, _, _, _, (Option.some.inj hv0).symm, .tail _ (.tail _ (.head _)), Nat.lt_trans hP1 hP12, hex2 hr1 hr3⟩
      | 2, hv0 => exact ⟨P3, _, _, _, _, (Option.some.inj hv0).symm, .tail _ (.head _), Nat.lt_trans (Nat.lt_trans hP1 hP12) hP23, hex3 hr1 hr3⟩
      | _ + 3, hv0 => cases hv0
    have hLl : @LT.lt Nat instLTNat (L + 1) l := Nat.lt_trans hP1 (Nat.lt_trans hP12 (Nat.lt_trans hP23 hPl))
    have hlI : @LT.lt Nat instLTNat l I := hlow _ (.head _)
    have hLI : @LT.lt Nat instLTNat (L + 1) I := Nat.lt_trans hLl hlI
    obtain ⟨R4, hR4⟩ : ∃ R4 : Led, R4 = hexL l P1 P2 P3 r a1 a2 a3 b1 b2 b3 (R ++ [(I, it)]) := ⟨_, rfl⟩
    have hmR : ∀ p ∈ R, p ∈ R4 := fun p hp => by rw [hR4]; exact .tail _ (.tail _ (.tail _ (.tail _ (List.mem_append_left _ hp))))
    have hne4 : ∀ p ∈ R4, p.1 ≠ L + 1 := by
      rw [hR4]
      exact List.forall_mem_cons.mpr ⟨Nat.ne_of_gt hLl, List.forall_mem_cons.mpr ⟨Nat.ne_of_gt (Nat.lt_trans hP1 (Nat.lt_trans hP12 hP23)), List.forall_mem_cons.mpr ⟨Nat.ne_of_gt (Nat.lt_trans hP1 hP12), List.forall_mem_cons.mpr ⟨Nat.ne_of_gt hP1, fun p hp => by
        rcases List.mem_append.mp hp with hp | hp
        · exact hne p hp
        · rw [List.mem_singleton.mp hp]; exact Nat.ne_of_gt hLI⟩⟩⟩⟩
    have N4 : News g L s₁.heap ((PP, listOf #[.int w1 tw, .int h1 th] 0) :: (L + 1, o) :: R4) := by
      rw [hR4]
      exact List.forall_mem_cons.mpr ⟨N' _ (List.mem_append_left _ hPm), List.forall_mem_cons.mpr ⟨N' _ (.tail _ (.tail _ (.tail _ (.tail _ (.head _))))), List.forall_mem_cons.mpr ⟨N' _ (.head _), List.forall_mem_cons.mpr ⟨N' _ (.tail _ (.head _)), List.forall_mem_cons.mpr ⟨N' _ (.tail _ (.tail _ (.head _))), List.forall_mem_cons.mpr ⟨N' _ (.tail _ (.tail _ (.tail _ (.head _)))), fun p hp => N' p (.tail _ (.tail _ (.tail _ (.tail _ (.tail _ hp)))))⟩⟩⟩⟩⟩⟩
    have hsub : ∀ o9, ∀ p ∈ hexL l P1 P2 P3 r a1 a2 a3 b1 b2 b3 ((L + 1, o9) :: R), p ∈ (L + 1, o9) :: R4 := fun o9 => by
      rw [hR4]
      exact List.forall_mem_cons.mpr ⟨.tail _ (.head _), List.forall_mem_cons.mpr ⟨.tail _ (.tail _ (.head _)), List.forall_mem_cons.mpr ⟨.tail _ (.tail _ (.tail _ (.head _))), List.forall_mem_cons.mpr ⟨.tail _ (.tail _ (.tail _ (.tail _ (.head _)))), List.forall_mem_cons.mpr ⟨.head _, fun p hp => .tail _ (.tail _ (.tail _ (.tail _ (.tail _ (List.mem_append_left _ hp)))))⟩⟩⟩⟩⟩
    have hI4 : (I, it) ∈ R4 := by rw [hR4]; exact .tail _ (.tail _ (.tail _ (.tail _ (List.mem_append_right _ (.head _)))))
    have hof : ∀ o9, ∀ p ∈ hexL l P1 P2 P3 r a1 a2 a3 b1 b2 b3 ((L + 1, o9) :: R), p.1 ≠ I := fun o9 =>
      List.forall_mem_cons.mpr ⟨hoff _ (.head _), List.forall_mem_cons.mpr ⟨hoff _ (.tail _ (.head _)), List.forall_mem_cons.mpr ⟨hoff _ (.tail _ (.tail _ (.head _))), List.forall_mem_cons.mpr ⟨hoff _ (.tail _ (.tail _ (.tail _ (.head _)))), List.forall_mem_cons.mpr ⟨Nat.ne_of_lt hLI, fun p hp => hoff p (.tail _ (.tail _ (.tail _ (.tail _ (.tail _ hp)))))⟩⟩⟩⟩⟩
    clear hPm hlow hoff hv0 hR4 N' hne hRl hP1 hP12 hP23 hPl hlI hLl
    have mx := m3 x
    have my := m3 y
    refine opq fun Q2 hQ2 => law_ta X ho hne4 (Nat.ne_of_gt hLP) F' N4 ?_
    clear F' N4 ho
    intro tw' th' o' h2 tk2 ho F N
    refine hQ2 _ _ ?_
    clear hQ2 Q2
    refine opq fun Q2 hQ2 => ?_
    change wpAny _ _ (execs [nthS (forBody S16) 0, nthS (forBody S16) 1] _) _ _ _
    have hps := all2 (a := Str.ofString "wide") (b := Str.ofString "due") (put_eq (v := .int w1 tw') (m := m₁)) ((put_ne (by decide)).trans hdue)
    refine execs_step fun Q3 hQ3 => law_tb0 X T B hr1 hr3 (by have := hHex.w2; omega) hHex.w1.2 (by have := hHex.h2; omega) hHex.h1.2 hHex.t1 dy dx dR ho (.tail _ (.tail _ (hmR _ hyM))) (.tail _ (.tail _ (hmR _ hxM))) (.tail _ (.tail _ (hmR _ hRM))) (.tail _ (.head _)) hps F N ?_
    clear F N
    intro h3 tk3 F N
    refine hQ3 _ ?_
    clear hQ3 Q3
    refine execs_step fun Q3 hQ3 => law_tb1 X T B hr1 hr3 (by have := hHex.w3; omega) ⟨by have := hHex.w1; omega, hHex.w1.2⟩ (by have := hHex.h3; omega) ⟨by have := hHex.h1; omega, hHex.h1.2⟩ (by omega) hHex.t2 dy dx dR ho (.tail _ (.tail _ (hmR _ hyM))) (.tail _ (.tail _ (hmR _ hxM))) (.tail _ (.tail _ (hmR _ hRM))) (.tail _ (.head _)) hps F N ?_
    clear F N
    intro h4 tk4 F N
    refine hQ3 _ (wpAny_execs_nil (hQ2 _ _ ?_))
    exact TPost.intro (nx := hexL l P1 P2 P3 r a1 a2 a3 b1 b2 b3 ((L + 1, o') :: R)) F N (fun p hp => .tail _ (hsub _ p hp)) (.tail _ (.tail _ hI4)) (hof _) ⟨_, _, ho, rfl, (put_ne (by decide)).trans hdue⟩
  · rintro m₁ nx h tk ⟨o, vo, ho, rfl, hdue⟩ F' N'
    exact hQ _ _ _ F' fun p hp => N' p (.tail _ (.tail _ (.tail _ (.tail _ (.tail _ hp)))))
theorem law_end {Lc Ln : Addr} {vc vn : List Value} {cs : List Int} {prs : List (Int × Int)} {kc kn : Nat} {ps1 ps2 ps3 : Array Value}
    (X : (hd.heap_39 w.params).In g) (T : Top topProg loose mean mg mb g) (B : Below callerA g [] g)
    (hr1 : 1 ≤ r) (hr3 : r ≤ 3) (hn : n = 3 * r * (r + 1) + 1) (hn7 : 7 ≤ n) (hn37 : n ≤ 37) (hx : -1000000000 ≤ x ∧ x < 1000000000) (hy : -1000000000 ≤ y ∧ y < 1000000000)
    (dy : oy.data = .cell (some (.int y ty))) (dx : ox.data = .cell (some (.int x tx))) (dR : oR.data = .cell (some (.int r tr))) (dh : oh.data = .cell vH)
    (hyM : (L + 1 + 1 + 1 + 1, oy) ∈ R) (hxM : (L + 1 + 1 + 1, ox) ∈ R) (hRM : (L + 1 + 1, oR) ∈ R) (h97 : (97, tabObj ps3) ∈ R)
    (hLcM : (Lc, listOf (List.toArray vc) kc) ∈ R) (hLnM : (Ln, listOf (List.toArray vn) kn) ∈ R)
    (hci : IntsAre vc cs) (hcc : cs = colsUp r n x y (2 * r + 1).toNat) (hpi : PairsAre R vn prs) (hpc : prs = prsUp r n x y (2 * r + 1).toNat) (hc : Can L ps1 ps2 R)
    (h1 : m (Str.ofString "nought") = some (.ref Ln)) (h2 : m (Str.ofString "colours") = some (.ref Lc)) (h3 : m (Str.ofString "count") = some (.int n tn)) (F : Fr g L s.heap m) (N : News g L s.heap ((30, tabObj ps1) :: (37, tabObj ps2) :: (L + 1, oh) :: R))
    (hPO : PassesOwn (model PR w) (lawTop L fa) (lawEnv L fa) E)
    (hret : ∀ h' tk' m' ps1 ps2 ps3 news, Fr g L h' m' → News g L h' news → (37, tabObj ps1) ∈ news → (30, tabObj ps2) ∈ news → (97, tabObj ps3) ∈ news → Q (.ret (.bool true)) { s with heap := h', toks := tk' }) :
    wpAny (model PR w) (lawTop L fa) (execs ((fdBody lawF).drop 9) (lawEnv L fa)) Q E s := by
  change wpAny _ _ (execs (nthS (fdBody lawF) 9 :: nthS (fdBody lawF) 10 :: nthS (fdBody lawF) 11 :: nthS (fdBody lawF) 12 :: nthS (fdBody lawF) 13 :: nthS (fdBody lawF) 14 :: nthS (fdBody lawF) 15 :: S16 :: [nthS (fdBody lawF) 17]) _) _ _ _
  refine execs_step fun Q1 hQ1 => law_e9 X T hr1 hr3 hn hn7 hn37 hci hcc (all2 h2 h3) F (news_cons (.tail _ (.tail _ (.tail _ hLcM))) N) ?_
  clear F N hLcM hci hcc h2
  intro hA tkA F N
  refine hQ1 _ ?_
  clear hQ1 Q1
  replace N := news_tail N
  obtain ⟨u, v, prest, hpr, hcong, hu, hv⟩ := prs_some (n := n) hr1 hr3 hn hx hy
  rw [hpr] at hpc
  subst hpc
  obtain ⟨P, tu, tv, kp, vnr, hvn, hPm⟩ : ∃ (P : Addr) (tu tv : Tok) (kp : Nat) (vnr : List Value), vn = .ref P :: vnr ∧ (P, listOf #[.int u tu, .int v tv] kp) ∈ R := by
    cases vn with
    | nil => exact hpi.elim
    | cons v0 vnr =>
      obtain ⟨⟨P, t1, t2, k, e, hm⟩, _⟩ := hpi
      exact ⟨P, t1, t2, k, vnr, by rw [e], hm⟩
  subst hvn
  have hUV := uv_facts hr1 hr3 hn hcong hu hv
  clear hpi hpr hcong hu hv hx hy
  refine execs_step fun Q1 hQ1 => law_e10 X (all1 h1) F (news_cons (.tail _ (.tail _ (.tail _ (.tail _ hPm)))) (news_cons (.tail _ (.tail _ (.tail _ hLnM))) N)) ?_
  clear F N hPm hLnM h1
  intro tu' tv' hB tkB F N
  refine hQ1 _ ?_
  clear hQ1 Q1
  replace N := news_tail (news_tail N)
  have g1 : put (Str.ofString "v") (.int v tv') (put (Str.ofString "u") (.int u tu') m) (Str.ofString "u") = some (.int u tu') := (put_ne (by decide)).trans put_eq
  have g2 : put (Str.ofString "v") (.int v tv') (put (Str.ofString "u") (.int u tu') m) (Str.ofString "v") = some (.int v tv') := put_eq
  replace h3 : put (Str.ofString "v") (.int v tv') (put (Str.ofString "u") (.int u tu') m) (Str.ofString "count") = some (.int n tn) := (put_ne (by decide)).trans ((put_ne (by decide)).trans h3)
  generalize put (Str.ofString "v") (Value.int v tv') (put (Str.ofString "u") (Value.int u tu') m) = m1 at F g1 g2 h3
  refine execs_step fun Q1 hQ1 => law_e11 X T B hUV hr1 hr3 hn7 dR hRM dh hc (all3 g1 g2 h3) F N ?_
  clear F N hc
  intro ta tb ps1' ps2' exd hC tkC hc F N
  refine hQ1 _ ?_
  clear hQ1 Q1
  replace hyM := List.mem_append_right exd hyM
  replace hxM := List.mem_append_right exd hxM
  replace hRM := List.mem_append_right exd hRM
  replace h97 := List.mem_append_right exd h97
  generalize exd ++ R = R1 at hc N hyM hxM hRM h97
  have g3 : put (Str.ofString "rest") (.int 0 tb) (put (Str.ofString "s") (.int (((2 * r + 1) * u + r * v).fdiv n) ta) m1) (Str.ofString "rest") = some (.int 0 tb) := put_eq
  have g4 : put (Str.ofString "rest") (.int 0 tb) (put (Str.ofString "s") (.int (((2 * r + 1) * u + r * v).fdiv n) ta) m1) (Str.ofString "s") = some (.int (((2 * r + 1) * u + r * v).fdiv n) ta) := (put_ne (by decide)).trans put_eq
  replace g1 := (put_ne (x := Str.ofString "rest") (v := .int 0 tb) (by decide)).trans ((put_ne (x := Str.ofString "s") (v := .int (((2 * r + 1) * u + r * v).fdiv n) ta) (by decide)).trans g1)
  replace g2 := (put_ne (x := Str.ofString "rest") (v := .int 0 tb) (by decide)).trans ((put_ne (x := Str.ofString "s") (v := .int (((2 * r + 1) * u + r * v).fdiv n) ta) (by decide)).trans g2)
  replace h3 := (put_ne (x := Str.ofString "rest") (v := .int 0 tb) (by decide)).trans ((put_ne (x := Str.ofString "s") (v := .int (((2 * r + 1) * u + r * v).fdiv n) ta) (by decide)).trans h3)
  generalize put (Str.ofString "rest") (.int 0 tb) (put (Str.ofString "s") (Value.int (((2 * r + 1) * u + r * v).fdiv n) ta) m1) = m2 at F g1 g2 g3 g4 h3
  refine execs_step fun Q1 hQ1 => law_e12 X T B hUV hr1 hr3 hn7 dR hRM dh hc (all3 g1 g2 h3) F N ?_
  clear F N hc h3
  intro tc te ps1'' ps2'' exd2 hD tkD hc F N
  refine hQ1 _ ?_
  clear hQ1 Q1
  replace hyM := List.mem_append_right exd2 hyM
  replace hxM := List.mem_append_right exd2 hxM
  replace hRM := List.mem_append_right exd2 hRM
  replace h97 := List.mem_append_right exd2 h97
  generalize exd2 ++ R1 = R2 at hc N hyM hxM hRM h97
  have g5 : put (Str.ofString "left") (.int 0 te) (put (Str.ofString "t") (.int (((r + 1) * v - r * u).fdiv n) tc) m2) (Str.ofString "left") = some (.int 0 te) := put_eq
  have g6 : put (Str.ofString "left") (.int 0 te) (put (Str.ofString "t") (.int (((r + 1) * v - r * u).fdiv n) tc) m2) (Str.ofString "t") = some (.int (((r + 1) * v - r * u).fdiv n) tc) := (put_ne (by decide)).trans put_eq
  replace g1 := (put_ne (x := Str.ofString "left") (v := .int 0 te) (by decide)).trans ((put_ne (x := Str.ofString "t") (v := .int (((r + 1) * v - r * u).fdiv n) tc) (by decide)).trans g1)
  replace g2 := (put_ne (x := Str.ofString "left") (v := .int 0 te) (by decide)).trans ((put_ne (x := Str.ofString "t") (v := .int (((r + 1) * v - r * u).fdiv n) tc) (by decide)).trans g2)
  replace g3 := (put_ne (x := Str.ofString "left") (v := .int 0 te) (by decide)).trans ((put_ne (x := Str.ofString "t") (v := .int (((r + 1) * v - r * u).fdiv n) tc) (by decide)).trans g3)
  replace g4 := (put_ne (x := Str.ofString "left") (v := .int 0 te) (by decide)).trans ((put_ne (x := Str.ofString "t") (v := .int (((r + 1) * v - r * u).fdiv n) tc) (by decide)).trans g4)
  generalize put (Str.ofString "left") (.int 0 te) (put (Str.ofString "t") (Value.int (((r + 1) * v - r * u).fdiv n) tc) m2) = m3 at F g1 g2 g3 g4 g5 g6
  refine execs_step fun Q1 hQ1 => law_e13 X (all2 g3 g5) F N ?_
  clear F N g3 g5
  intro hE tkE F N
  refine hQ1 _ ?_
  clear hQ1 Q1
  refine execs_step fun Q1 hQ1 => law_e14 X hr1 hr3 hUV.c1 hUV.c2 hUV.e1 hUV.e2 dR (.tail _ (.tail _ (.tail _ hRM))) (List.forall_mem_cons.mpr ⟨g4, all3 g6 g1 g2⟩) F N ?_
  clear F N g1 g2 g4 g6 hUV
  intro hF tkF F N
  refine hQ1 _ ?_
  clear hQ1 Q1
  refine execs_step fun Q1 hQ1 => law_e15 X hr1 hr3 dR (.tail _ (.tail _ (.tail _ hRM))) F N ?_
  clear F N
  intro tdue hG tkG F N
  refine hQ1 _ ?_
  clear hQ1 Q1
  refine execs_step fun Q1 hQ1 => law_e16 X T B hPO hr1 hr3 dy dx dR dh (.tail _ (.tail _ hyM)) (.tail _ (.tail _ hxM)) (.tail _ (.tail _ hRM)) (List.forall_mem_cons.mpr ⟨Nat.ne_of_lt (Nat.lt_trans (by decide : (30 : Nat) < 37) (Nat.lt_succ_of_lt hc.lo)), List.forall_mem_cons.mpr ⟨Nat.ne_of_lt (Nat.lt_succ_of_lt hc.lo), fun p hp => (hc.ne p hp).2.2⟩⟩) put_eq F (news_r3 N) ?_
  clear F N
  intro m' hH tkH F N
  refine hQ1 _ ?_
  clear hQ1 Q1
  exact law_e17 X F N fun h' tk' F N => hret _ _ _ _ _ _ _ F N (.tail _ (.head _)) (.head _) (.tail _ (.tail _ h97))
end
end

section
set_option maxRecDepth 100000
set_option maxHeartbeats 8000000
theorem fillLawC : (fun (_ : OpenLaw) (_ : Params → Frag) => True) PySem.Challenge.rw_pu0053_01 hd.heap_39 := by
  k_fill
  w_top off
  trivial
/-- the rows that the loop walks -/
theorem law_rg {w : World} {K E : Value → Shared → Prop} {g : Heap} {L fa : Addr} {m : Str → Option Value} {s : Shared} {loose : List Str} {mean : ExcName → Option Value} {mg mb : Str → Option Value}
    {oR : Obj} {r : Int} {tr : Tok} {R : Led} (X : (hd.heap_39 w.params).In g) (T : Top topProg loose mean mg mb g) (B : Below callerA g [] g) (hr1 : 1 ≤ r) (hr3 : r ≤ 3) (dR : oR.data = .cell (some (.int r tr))) (hRM : (L + 1 + 1, oR) ∈ R)
    (F : Fr g L s.heap m) (N : News g L s.heap R)
    (hQ : ∀ rg t1 t2 t3 h' tk', IsRange h' rg (-r) (r + 1) 1 t1 t2 t3 → Fr g L h' m → News g L h' R → K (.ref rg) { s with heap := h', toks := tk' }) :
    wpAny (model PR w) (lawTop L fa) (eval (forIter (nthS (fdBody lawF) 8)) (lawEnv L fa)) K E s := by
  dsimp only [lawTop, lawEnv, lawF, nthS, fdBody, fdScope, forIter, PySem.Challenge.pw_pu0053_01]
  k_with_none
  k_steps
  exact hQ _ _ _ _ _ _ (by assumption) (by assumption) (by assumption)
/-- assigning the loop's name, a cell -/
theorem law_high {w : World} {Q : Unit → Shared → Prop} {E : Value → Shared → Prop} {g : Heap} {L fa : Addr} {m : Str → Option Value} {s : Shared} {loose : List Str} {mean : ExcName → Option Value} {mg mb : Str → Option Value} {oh : Obj} {vH : Option Value} {R : Led} {k : Int} {t : Tok}
    (X : (hd.heap_39 w.params).In g) (T : Top topProg loose mean mg mb g) (B : Below callerA g [] g) (dh : oh.data = .cell vH) (hne : ∀ p ∈ R, p.1 ≠ L + 1) (F : Fr g L s.heap m) (N : News g L s.heap ((L + 1, oh) :: R))
    (hQ : ∀ o h' tk', o.data = .cell (some (.int k t)) → Fr g L h' m → News g L h' ((L + 1, o) :: R) → Q () { s with heap := h', toks := tk' }) :
    wpAny (model PR w) (lawTop L fa) (assign (forTgt (nthS (fdBody lawF) 8)) (lawEnv L fa) (.int k t)) Q E s := by
  dsimp only [lawTop, lawEnv, lawF, nthS, fdBody, fdScope, forTgt, PySem.Challenge.pw_pu0053_01]
  k_with_none
  k_steps
  exact hQ _ _ _ (by assumption) (by assumption) (by assumption)
end

section
set_option maxRecDepth 100000
set_option maxHeartbeats 8000000
/-- the addresses' order -/
structure Ord (L Lc Ln : Addr) : Prop where
  a : @LT.lt Nat instLTNat 97 L
  b : @LT.lt Nat instLTNat (L + 1) Lc
  c : @LT.lt Nat instLTNat Lc Ln
/-- the part of the ledger that the rows do not change -/
structure RowR (L Lc Ln Db Dh : Addr) (oy ox oR : Obj) (vb vh : List Value) (cb ch : Nat) (R : Led) : Prop where
  y : (L + 1 + 1 + 1 + 1, oy) ∈ R
  x : (L + 1 + 1 + 1, ox) ∈ R
  r : (L + 1 + 1, oR) ∈ R
  b : (Db, listOf (List.toArray vb) cb) ∈ R
  h : (Dh, listOf (List.toArray vh) ch) ∈ R
  ne : ∀ p ∈ R, p.1 ≠ 97 ∧ p.1 ≠ 30 ∧ p.1 ≠ 37 ∧ p.1 ≠ L + 1 ∧ p.1 ≠ Lc ∧ p.1 ≠ Ln
section
variable {L Lc Ln Db Dh I : Addr} {oy ox oR oh : Obj} {vb vh vn vc : List Value} {cb ch kn kc : Nat} {R ex e1 X : Led} {a b c o : Obj}
theorem Ord.l30 (o : Ord L Lc Ln) : @LT.lt Nat instLTNat 37 L := Nat.lt_trans (by decide) o.a
theorem Ord.up (o : Ord L Lc Ln) {d : Nat} (h : @LT.lt Nat instLTNat Ln d) : d ≠ 97 ∧ d ≠ 30 ∧ d ≠ 37 ∧ d ≠ L + 1 ∧ d ≠ Lc ∧ d ≠ Ln := by
  have hn : @LT.lt Nat instLTNat (L + 1) Ln := Nat.lt_trans o.b o.c
  have hd : @LT.lt Nat instLTNat 97 d := Nat.lt_trans (Nat.lt_succ_of_lt o.a) (Nat.lt_trans hn h)
  exact ⟨Nat.ne_of_gt hd, Nat.ne_of_gt (Nat.lt_trans (by decide) hd), Nat.ne_of_gt (Nat.lt_trans (by decide) hd), Nat.ne_of_gt (Nat.lt_trans hn h), Nat.ne_of_gt (Nat.lt_trans o.c h), Nat.ne_of_gt h⟩
theorem Ord.d97 (o : Ord L Lc Ln) : (L + 1 : Nat) ≠ 97 ∧ (Ln : Nat) ≠ 97 ∧ (Lc : Nat) ≠ 97 ∧ (Ln : Nat) ≠ 30 ∧ (Ln : Nat) ≠ 37 ∧ (Ln : Nat) ≠ L + 1 ∧ (Lc : Nat) ≠ 30 ∧ (Lc : Nat) ≠ 37 ∧ (Lc : Nat) ≠ L + 1 ∧ (L + 1 : Nat) ≠ 30 ∧ (L + 1 : Nat) ≠ 37 ∧ (Lc : Nat) ≠ Ln := by
  have hl : @LT.lt Nat instLTNat 97 (L + 1) := Nat.lt_succ_of_lt o.a
  have hc : @LT.lt Nat instLTNat 97 Lc := Nat.lt_trans hl o.b
  have hn : @LT.lt Nat instLTNat 97 Ln := Nat.lt_trans hc o.c
  exact ⟨Nat.ne_of_gt hl, Nat.ne_of_gt hn, Nat.ne_of_gt hc, Nat.ne_of_gt (Nat.lt_trans (by decide) hn), Nat.ne_of_gt (Nat.lt_trans (by decide) hn), Nat.ne_of_gt (Nat.lt_trans o.b o.c), Nat.ne_of_gt (Nat.lt_trans (by decide) hc), Nat.ne_of_gt (Nat.lt_trans (by decide) hc), Nat.ne_of_gt o.b, Nat.ne_of_gt (Nat.lt_trans (by decide) hl), Nat.ne_of_gt (Nat.lt_trans (by decide) hl), Nat.ne_of_lt o.c⟩
theorem Ord.mid (o : Ord L Lc Ln) {d : Nat} (h : @LT.lt Nat instLTNat (L + 1) d) (h2 : @LT.lt Nat instLTNat d Lc) : d ≠ 97 ∧ d ≠ 30 ∧ d ≠ 37 ∧ d ≠ L + 1 ∧ d ≠ Lc ∧ d ≠ Ln := by
  have hd : @LT.lt Nat instLTNat 97 d := Nat.lt_trans (Nat.lt_succ_of_lt o.a) h
  exact ⟨Nat.ne_of_gt hd, Nat.ne_of_gt (Nat.lt_trans (by decide) hd), Nat.ne_of_gt (Nat.lt_trans (by decide) hd), Nat.ne_of_gt h, Nat.ne_of_lt h2, Nat.ne_of_lt (Nat.lt_trans h2 o.c)⟩
theorem RowR.app (q : Ord L Lc Ln) (h : RowR L Lc Ln Db Dh oy ox oR vb vh cb ch R) (hx : ∀ e ∈ ex, @LT.lt Nat instLTNat Ln e.1) : RowR L Lc Ln Db Dh oy ox oR vb vh cb ch (ex ++ R) :=
  ⟨List.mem_append_right _ h.y, List.mem_append_right _ h.x, List.mem_append_right _ h.r, List.mem_append_right _ h.b, List.mem_append_right _ h.h, fun p hp => by
    rcases List.mem_append.mp hp with hp | hp
    · exact q.up (hx p hp)
    · exact h.ne p hp⟩
/-- the ledger without the law's own table -/
abbrev led5 (L Lc Ln : Addr) (a b oh : Obj) (vn vc : List Value) (kn kc : Nat) (R : Led) : Led := (30, a) :: (37, b) :: (L + 1, oh) :: (Ln, listOf (List.toArray vn) kn) :: (Lc, listOf (List.toArray vc) kc) :: R
theorem ne97 (q : Ord L Lc Ln) (h : RowR L Lc Ln Db Dh oy ox oR vb vh cb ch R) : ∀ p ∈ led5 L Lc Ln a b oh vn vc kn kc R, p.1 ≠ 97 :=
  List.forall_mem_cons.mpr ⟨(by decide : (30 : Nat) ≠ 97), List.forall_mem_cons.mpr ⟨(by decide : (37 : Nat) ≠ 97), List.forall_mem_cons.mpr ⟨q.d97.1, List.forall_mem_cons.mpr ⟨q.d97.2.1, List.forall_mem_cons.mpr ⟨q.d97.2.2.1, fun p hp => (h.ne p hp).1⟩⟩⟩⟩⟩
theorem neCan (q : Ord L Lc Ln) (h : RowR L Lc Ln Db Dh oy ox oR vb vh cb ch R) : ∀ p ∈ (97, c) :: (Ln, listOf (List.toArray vn) kn) :: (Lc, listOf (List.toArray vc) kc) :: R, p.1 ≠ 30 ∧ p.1 ≠ 37 ∧ p.1 ≠ L + 1 :=
  List.forall_mem_cons.mpr ⟨⟨(by decide : (97 : Nat) ≠ 30), (by decide : (97 : Nat) ≠ 37), q.d97.1.symm⟩, List.forall_mem_cons.mpr ⟨⟨q.d97.2.2.2.1, q.d97.2.2.2.2.1, q.d97.2.2.2.2.2.1⟩, List.forall_mem_cons.mpr ⟨⟨q.d97.2.2.2.2.2.2.1, q.d97.2.2.2.2.2.2.2.1, q.d97.2.2.2.2.2.2.2.2.1⟩, fun p hp => ⟨(h.ne p hp).2.1, (h.ne p hp).2.2.1, (h.ne p hp).2.2.2.1⟩⟩⟩⟩
theorem neLn (q : Ord L Lc Ln) (h : RowR L Lc Ln Db Dh oy ox oR vb vh cb ch R) : (∀ p ∈ (30, a) :: (37, b) :: (97, c) :: (L + 1, oh) :: R, p.1 ≠ Ln) ∧ ∀ p ∈ (30, a) :: (37, b) :: (97, c) :: (L + 1, oh) :: R, p.1 ≠ Lc :=
  ⟨List.forall_mem_cons.mpr ⟨q.d97.2.2.2.1.symm, List.forall_mem_cons.mpr ⟨q.d97.2.2.2.2.1.symm, List.forall_mem_cons.mpr ⟨q.d97.2.1.symm, List.forall_mem_cons.mpr ⟨q.d97.2.2.2.2.2.1.symm, fun p hp => (h.ne p hp).2.2.2.2.2⟩⟩⟩⟩,
   List.forall_mem_cons.mpr ⟨q.d97.2.2.2.2.2.2.1.symm, List.forall_mem_cons.mpr ⟨q.d97.2.2.2.2.2.2.2.1.symm, List.forall_mem_cons.mpr ⟨q.d97.2.2.1.symm, List.forall_mem_cons.mpr ⟨q.d97.2.2.2.2.2.2.2.2.1.symm, fun p hp => (h.ne p hp).2.2.2.2.1⟩⟩⟩⟩⟩
/-- what the rows make lies above, apart from the iterator -/
def UpI (Ln I : Addr) (ex : Led) : Prop := ∀ e ∈ ex, @LT.lt Nat instLTNat Ln e.1 ∧ e.1 ≠ I
theorem UpI.lt (h : UpI Ln I ex) : ∀ e ∈ ex, @LT.lt Nat instLTNat Ln e.1 := fun e he => (h e he).1
theorem UpI.app (h : UpI Ln I ex) (hs : ∀ e ∈ e1, ∀ q ∈ X, q.1 < e.1) {o i : Obj} (h1 : (Ln, o) ∈ X) (h2 : (I, i) ∈ X) : UpI Ln I (e1 ++ ex) := fun e he => by
  rcases List.mem_append.mp he with he | he
  · exact ⟨hs e he _ h1, Nat.ne_of_gt (hs e he _ h2)⟩
  · exact h e he
theorem news_p1 {g h : Heap} {L : Addr} {a b1 b2 b3 b4 b5 : Addr × Obj} {e x r : Led} (N : News g L h (a :: (e ++ (b1 :: b2 :: b3 :: b4 :: b5 :: (x ++ r))))) : News g L h (a :: b1 :: b2 :: b3 :: b4 :: b5 :: ((e ++ x) ++ r)) :=
  List.forall_mem_cons.mpr ⟨N _ (.head _), List.forall_mem_cons.mpr ⟨N _ (.tail _ (List.mem_append_right _ (.head _))), List.forall_mem_cons.mpr ⟨N _ (.tail _ (List.mem_append_right _ (.tail _ (.head _)))), List.forall_mem_cons.mpr ⟨N _ (.tail _ (List.mem_append_right _ (.tail _ (.tail _ (.head _))))), List.forall_mem_cons.mpr ⟨N _ (.tail _ (List.mem_append_right _ (.tail _ (.tail _ (.tail _ (.head _)))))), List.forall_mem_cons.mpr ⟨N _ (.tail _ (List.mem_append_right _ (.tail _ (.tail _ (.tail _ (.tail _ (.head _))))))), fun p hp => by
    rcases List.mem_append.mp hp with hp | hp
    · rcases List.mem_append.mp hp with hp | hp
      · exact N p (.tail _ (List.mem_append_left _ (hp)))
      · exact N p (.tail _ (List.mem_append_right _ (.tail _ (.tail _ (.tail _ (.tail _ (.tail _ (List.mem_append_left _ (hp)))))))))
    · exact N p (.tail _ (List.mem_append_right _ (.tail _ (.tail _ (.tail _ (.tail _ (.tail _ (List.mem_append_right _ (hp)))))))))⟩⟩⟩⟩⟩⟩
theorem news_p2 {g h : Heap} {L : Addr} {a b1 b2 b3 : Addr × Obj} {r : Led} (N : News g L h (a :: b1 :: b2 :: b3 :: r)) : News g L h (b1 :: b2 :: b3 :: a :: r) :=
  List.forall_mem_cons.mpr ⟨N _ (.tail _ (.head _)), List.forall_mem_cons.mpr ⟨N _ (.tail _ (.tail _ (.head _))), List.forall_mem_cons.mpr ⟨N _ (.tail _ (.tail _ (.tail _ (.head _)))), List.forall_mem_cons.mpr ⟨N _ (.head _), fun p hp => N p (.tail _ (.tail _ (.tail _ (.tail _ (hp)))))⟩⟩⟩⟩
theorem news_p3 {g h : Heap} {L : Addr} {d a1 a2 b a3 n c : Addr × Obj} {e x r : Led} (N : News g L h (d :: a1 :: a2 :: b :: (e ++ (a3 :: n :: c :: (x ++ r))))) : News g L h (d :: n :: c :: a1 :: a2 :: a3 :: b :: ((e ++ x) ++ r)) :=
  List.forall_mem_cons.mpr ⟨N _ (.head _), List.forall_mem_cons.mpr ⟨N _ (.tail _ (.tail _ (.tail _ (.tail _ (List.mem_append_right _ (.tail _ (.head _))))))), List.forall_mem_cons.mpr ⟨N _ (.tail _ (.tail _ (.tail _ (.tail _ (List.mem_append_right _ (.tail _ (.tail _ (.head _)))))))), List.forall_mem_cons.mpr ⟨N _ (.tail _ (.head _)), List.forall_mem_cons.mpr ⟨N _ (.tail _ (.tail _ (.head _))), List.forall_mem_cons.mpr ⟨N _ (.tail _ (.tail _ (.tail _ (.tail _ (List.mem_append_right _ (.head _)))))), List.forall_mem_cons.mpr ⟨N _ (.tail _ (.tail _ (.tail _ (.head _)))), fun p hp => by
    rcases List.mem_append.mp hp with hp | hp
    · rcases List.mem_append.mp hp with hp | hp
      · exact N p (.tail _ (.tail _ (.tail _ (.tail _ (List.mem_append_left _ (hp))))))
      · exact N p (.tail _ (.tail _ (.tail _ (.tail _ (List.mem_append_right _ (.tail _ (.tail _ (.tail _ (List.mem_append_left _ (hp))))))))))
    · exact N p (.tail _ (.tail _ (.tail _ (.tail _ (List.mem_append_right _ (.tail _ (.tail _ (.tail _ (List.mem_append_right _ (hp))))))))))⟩⟩⟩⟩⟩⟩⟩
theorem news_p4 {g h : Heap} {L : Addr} {a1 a2 a3 b n c : Addr × Obj} {e x r : Led} (N : News g L h (n :: c :: (e ++ (a1 :: a2 :: a3 :: b :: (x ++ r))))) : News g L h (a3 :: a1 :: a2 :: b :: n :: c :: ((e ++ x) ++ r)) :=
  List.forall_mem_cons.mpr ⟨N _ (.tail _ (.tail _ (List.mem_append_right _ (.tail _ (.tail _ (.head _)))))), List.forall_mem_cons.mpr ⟨N _ (.tail _ (.tail _ (List.mem_append_right _ (.head _)))), List.forall_mem_cons.mpr ⟨N _ (.tail _ (.tail _ (List.mem_append_right _ (.tail _ (.head _))))), List.forall_mem_cons.mpr ⟨N _ (.tail _ (.tail _ (List.mem_append_right _ (.tail _ (.tail _ (.tail _ (.head _))))))), List.forall_mem_cons.mpr ⟨N _ (.head _), List.forall_mem_cons.mpr ⟨N _ (.tail _ (.head _)), fun p hp => by
    rcases List.mem_append.mp hp with hp | hp
    · rcases List.mem_append.mp hp with hp | hp
      · exact N p (.tail _ (.tail _ (List.mem_append_left _ (hp))))
      · exact N p (.tail _ (.tail _ (List.mem_append_right _ (.tail _ (.tail _ (.tail _ (.tail _ (List.mem_append_left _ (hp)))))))))
    · exact N p (.tail _ (.tail _ (List.mem_append_right _ (.tail _ (.tail _ (.tail _ (.tail _ (List.mem_append_right _ (hp)))))))))⟩⟩⟩⟩⟩⟩
theorem news_turn {g h : Heap} {L : Addr} {a1 a2 a3 b n c i : Addr × Obj} {x r : Led} (N : News g L h ((a3 :: a1 :: a2 :: b :: n :: c :: (x ++ r)) ++ [i])) : News g L h (b :: a3 :: a1 :: a2 :: n :: c :: (x ++ (r ++ [i]))) := by
  rw [List.cons_append, List.cons_append, List.cons_append, List.cons_append, List.cons_append, List.cons_append, List.append_assoc] at N
  exact List.forall_mem_cons.mpr ⟨N _ (.tail _ (.tail _ (.tail _ (.head _)))), List.forall_mem_cons.mpr ⟨N _ (.head _), List.forall_mem_cons.mpr ⟨N _ (.tail _ (.head _)), List.forall_mem_cons.mpr ⟨N _ (.tail _ (.tail _ (.head _))), List.forall_mem_cons.mpr ⟨N _ (.tail _ (.tail _ (.tail _ (.tail _ (.head _))))), List.forall_mem_cons.mpr ⟨N _ (.tail _ (.tail _ (.tail _ (.tail _ (.tail _ (.head _)))))), fun p hp => N p (.tail _ (.tail _ (.tail _ (.tail _ (.tail _ (.tail _ (hp)))))))⟩⟩⟩⟩⟩⟩
theorem news_p0 {g h : Heap} {L : Addr} {b1 b2 b3 b4 : Addr × Obj} {r : Led} (N : News g L h (b4 :: b1 :: b2 :: b3 :: r)) : News g L h (b1 :: b2 :: b3 :: b4 :: r) := news_p2 N
theorem news_p5 {g h : Heap} {L : Addr} {n c d b y x r k a37 a30 a97 : Addr × Obj} (N : News g L h [n, c, d, b, y, x, r, k, a37, a30, a97]) : News g L h [a97, a30, a37, k, n, c, d, b, y, x, r] :=
  List.forall_mem_cons.mpr ⟨N _ (.tail _ (.tail _ (.tail _ (.tail _ (.tail _ (.tail _ (.tail _ (.tail _ (.tail _ (.tail _ (.head _))))))))))), List.forall_mem_cons.mpr ⟨N _ (.tail _ (.tail _ (.tail _ (.tail _ (.tail _ (.tail _ (.tail _ (.tail _ (.tail _ (.head _)))))))))), List.forall_mem_cons.mpr ⟨N _ (.tail _ (.tail _ (.tail _ (.tail _ (.tail _ (.tail _ (.tail _ (.tail _ (.head _))))))))), List.forall_mem_cons.mpr ⟨N _ (.tail _ (.tail _ (.tail _ (.tail _ (.tail _ (.tail _ (.tail _ (.head _)))))))), List.forall_mem_cons.mpr ⟨N _ (.head _), List.forall_mem_cons.mpr ⟨N _ (.tail _ (.head _)), List.forall_mem_cons.mpr ⟨N _ (.tail _ (.tail _ (.head _))), List.forall_mem_cons.mpr ⟨N _ (.tail _ (.tail _ (.tail _ (.head _)))), List.forall_mem_cons.mpr ⟨N _ (.tail _ (.tail _ (.tail _ (.tail _ (.head _))))), List.forall_mem_cons.mpr ⟨N _ (.tail _ (.tail _ (.tail _ (.tail _ (.tail _ (.head _)))))), List.forall_mem_cons.mpr ⟨N _ (.tail _ (.tail _ (.tail _ (.tail _ (.tail _ (.tail _ (.head _))))))), List.forall_mem_nil _⟩⟩⟩⟩⟩⟩⟩⟩⟩⟩⟩
theorem tab_strip {l c : Nat} {q : Str} {ps ps3 : Array Value} {x : Led} (h : TabSt l c q ps (ex ++ ((97, tabObj ps3) :: (Ln, listOf (List.toArray vn) kn) :: (Lc, listOf (List.toArray vc) kc) :: (x ++ R)))) {x3 : Led} (h3 : Tab3F ps3 x3) (hn : ∀ p ∈ R, NotCode p.2) : TabSt l c q ps (ex ++ x) :=
  h.only fun p hp => by
    rcases List.mem_append.mp hp with hp | hp
    · exact Or.inl (List.mem_append_left _ hp)
    rcases List.mem_cons.mp hp with rfl | hp
    · exact Or.inr (nc_tab3 h3)
    rcases List.mem_cons.mp hp with rfl | hp
    · exact Or.inr (nc_list _ _)
    rcases List.mem_cons.mp hp with rfl | hp
    · exact Or.inr (nc_list _ _)
    rcases List.mem_append.mp hp with hp | hp
    · exact Or.inl (List.mem_append_right _ hp)
    · exact Or.inr (hn p hp)
theorem Tab3F.mono {ps : Array Value} {l l' : Led} (h : Tab3F ps l) (hs : ∀ p ∈ l, p ∈ l') : Tab3F ps l' := by
  obtain ⟨k1, o1, v1, t1, k2, o2, v2, t2, e9, hk1, hd1, hv1, hk2, hd2, hv2⟩ := h
  exact ⟨k1, o1, v1, t1, k2, o2, v2, t2, e9, hs _ hk1, hd1, hv1, hs _ hk2, hd2, hv2⟩
end
theorem mem5 {p a b c d e : Addr × Obj} {x r : Led} (h : p ∈ r) : p ∈ a :: b :: c :: d :: e :: (x ++ r) := .tail _ (.tail _ (.tail _ (.tail _ (.tail _ (List.mem_append_right _ h)))))
theorem mem5x {p a b c d e : Addr × Obj} {x r : Led} (h : p ∈ x) : p ∈ a :: b :: c :: d :: e :: (x ++ r) := .tail _ (.tail _ (.tail _ (.tail _ (.tail _ (List.mem_append_left _ h)))))
noncomputable abbrev B8 : List Stmt := forBody (nthS (fdBody lawF) 8)
/-- the ledger between the rows -/
abbrev led6 (L Lc Ln : Addr) (c : LSt) (R : Led) : Led := (97, tabObj c.ps3) :: (30, tabObj c.ps1) :: (37, tabObj c.ps2) :: (L + 1, c.oh) :: (Ln, listOf (List.toArray c.vn) c.kn) :: (Lc, listOf (List.toArray c.vc) c.kc) :: (c.ex ++ R)
theorem mem_l6 {L Lc Ln : Addr} {c : LSt} {R : Led} {i : Addr × Obj} : ∀ p ∈ led6 L Lc Ln c R, p ∈ led6 L Lc Ln c (R ++ [i]) := fun p hp => by
  have e : led6 L Lc Ln c (R ++ [i]) = led6 L Lc Ln c R ++ [i] := by
    unfold led6
    rw [← List.append_assoc]; rfl
  rw [e]; exact List.mem_append_left _ hp
theorem law_turn {w : World} {Q : Flow → Shared → Prop} {E : Value → Shared → Prop} {g : Heap} {L fa : Addr} {m : Str → Option Value} {s : Shared} {loose : List Str} {mean : ExcName → Option Value} {mg mb : Str → Option Value}
    {Lc Ln Db Dh I : Nat} {oy ox oR oh oI : Obj} {x y r n S hg : Int} {tx ty tr th tn tS : Tok} {vb vh : List Value} {cb ch i : Nat} {R1 : Led} {cs : List Int} {vc : List Value} {kc : Nat} {prs : List (Int × Int)} {vn : List Value} {kn : Nat} {ps1 ps2 ps3 : Array Value} {ex : Led}
    (X : (hd.heap_39 w.params).In g) (T : Top topProg loose mean mg mb g) (B : Below callerA g [] g) (c3 : CodeHd g 101 97) (hPO : PassesOwn (model PR w) (lawTop L fa) (lawEnv L fa) E)
    (hr1 : 1 ≤ r) (hr3 : r ≤ 3) (hn7 : 7 ≤ n) (hn37 : n ≤ 37) (hS1 : 1 ≤ S) (hSb : Builtin.Int.intBits S ≤ 1100000) (hx : -1000000000 ≤ x ∧ x < 1000000000) (hy : -1000000000 ≤ y ∧ y < 1000000000) (hg1 : -r ≤ hg) (hg2 : hg ≤ r) (hhg : -r + (i : Int) = hg)
    (dy : oy.data = .cell (some (.int y ty))) (dx : ox.data = .cell (some (.int x tx))) (dR : oR.data = .cell (some (.int r tr))) (dh : oh.data = .cell (some (.int hg th)))
    (hIb : IntsAre vb (rangeKs (-r - 1 - x.fmod 3) (r + 2 + x.fmod 3).toNat)) (hIh : IntsAre vh (rangeKs 0 (r + 2 + y.fmod 3).toNat))
    (q : Ord L Lc Ln) (hR : RowR L Lc Ln Db Dh oy ox oR vb vh cb ch R1) (hnc : ∀ p ∈ R1, NotCode p.2) (hIM : (I, oI) ∈ R1) (hU : UpI Ln I ex)
    (hci : IntsAre vc cs) (hcc : cs = colsUp r n x y i) (hpi : PairsAre ex vn prs) (hpc : prs = prsUp r n x y i) (ht1 : TabSt 32 4 qI ps1 ex) (ht2 : TabSt 47 4 qD ps2 ex) (ht3 : Tab3 ps3 ex)
    (hps : ∀ p ∈ psL Ln Lc Dh Db S n tS tn, m p.1 = some p.2) (F : Fr g L s.heap m) (N : News g L s.heap ((97, tabObj ps3) :: led5 L Lc Ln (tabObj ps1) (tabObj ps2) oh vn vc kn kc (ex ++ R1)))
    (hQ : ∀ c' m' h' tk', LOk Ln r n x y (i + 1) c' → UpI Ln I c'.ex → (∀ p ∈ psL Ln Lc Dh Db S n tS tn, m' p.1 = some p.2) → Fr g L h' m' → News g L h' (led6 L Lc Ln c' R1) → Q .next { s with heap := h', toks := tk' }) :
    wpAny (model PR w) (lawTop L fa) (execs B8 (lawEnv L fa)) Q E s := by
  change wpAny _ _ (execs [nthS B8 0, nthS B8 1, nthS B8 2, nthS B8 3, nthS B8 4, nthS B8 5, nthS B8 6] _) _ _ _
  obtain ⟨hto1, hto2⟩ := tot_facts (x := x) (y := y) hr1 hr3 hx hy hg1 hg2
  have hsg := sg_facts hg
  have hDF := dfacts hsg hS1 hSb hn7 hn37 hto1 hto2
  have hcl := colsUp_len (r := r) (n := n) (x := x) (y := y) hr1 hr3 i
  have hpl := prsUp_len (r := r) (n := n) (x := x) (y := y) hr1 hr3 i
  have hi7 : i ≤ 6 := by omega
  have hin : 14 * i ≤ 1000 := Nat.le_trans (Nat.mul_le_mul_left 14 hi7) (by decide)
  have hA := hR.app q hU.lt
  refine execs_step fun Q1 hQ1 => law_s1 X T B c3 hr1 hr3 hg1 hg2 dy dx dR dh (.tail _ (.tail _ (.tail _ (.tail _ (.tail _ hA.y))))) (.tail _ (.tail _ (.tail _ (.tail _ (.tail _ hA.x))))) (.tail _ (.tail _ (.tail _ (.tail _ (.tail _ hA.r))))) (.tail _ (.tail _ (.head _))) (.tail _ (.tail _ (.tail _ (.tail _ (.tail _ hA.b))))) hIb (ne97 q hA) ht3 (fun p hp => mem5x hp) F (hps (Str.ofString "before", .ref Db) (.tail _ (.tail _ (.tail _ (.head _))))) N ?_
  intro ps3a e1 tF h1 tk1 hT1 he1 F1 N1
  refine hQ1 _ ?_
  try dsimp only
  clear hQ1 Q1 F N ht3 hA
  replace hps := ps_step (x := Str.ofString "first") (v := .int (pF x hg : Nat) tF) hps (by with_unfolding_all rfl)
  replace hU := hU.app (fun e he => (he1 e he).2) (.tail _ (.tail _ (.tail _ (.head _)))) (mem5 hIM)
  replace hpi := hpi.mono (ex' := e1 ++ ex) fun p hp => List.mem_append_right _ hp
  replace ht1 := ht1.mono (l2 := e1 ++ ex) fun p hp => List.mem_append_right _ hp
  replace ht2 := ht2.mono (l2 := e1 ++ ex) fun p hp => List.mem_append_right _ hp
  replace N1 := news_p1 N1
  clear he1
  generalize put (Str.ofString "first") (Value.int (pF x hg : Nat) tF) m = m1 at F1 hps
  generalize e1 ++ ex = x1 at hU hpi ht1 ht2 N1 hT1
  clear e1 ex m
  have hA := hR.app q hU.lt
  refine execs_step fun Q1 hQ1 => law_s2 X T B c3 hr1 hr3 hg1 hg2 dy dx dR dh (.tail _ (.tail _ (.tail _ (.tail _ (.tail _ hA.y))))) (.tail _ (.tail _ (.tail _ (.tail _ (.tail _ hA.x))))) (.tail _ (.tail _ (.tail _ (.tail _ (.tail _ hA.r))))) (.tail _ (.tail _ (.head _))) (.tail _ (.tail _ (.tail _ (.tail _ (.tail _ hA.h))))) hIh (ne97 q hA) hT1 (fun p hp => mem5x hp) F1 (hps (Str.ofString "behind", .ref Dh) (.tail _ (.tail _ (.tail _ (.head _))))) N1 ?_
  intro ps3b e2 tE h2 tk2 hT3 he2 F2 N2
  refine hQ1 _ ?_
  try dsimp only
  clear hQ1 Q1 F1 N1 hT1 hA
  replace hps := ps_step (x := Str.ofString "end") (v := .int (pE r hg : Nat) tE) hps (by with_unfolding_all rfl)
  replace hU := hU.app (fun e he => (he2 e he).2) (.tail _ (.tail _ (.tail _ (.head _)))) (mem5 hIM)
  replace hpi := hpi.mono (ex' := e2 ++ x1) fun p hp => List.mem_append_right _ hp
  replace ht1 := ht1.mono (l2 := e2 ++ x1) fun p hp => List.mem_append_right _ hp
  replace ht2 := ht2.mono (l2 := e2 ++ x1) fun p hp => List.mem_append_right _ hp
  replace N2 := news_p1 N2
  clear he2
  generalize put (Str.ofString "end") (Value.int (pE r hg : Nat) tE) m1 = m2 at F2 hps
  generalize e2 ++ x1 = x2 at hU hpi ht1 ht2 N2 hT3
  clear e2 x1 m1
  have hA := hR.app q hU.lt
  refine execs_step fun Q1 hQ1 => law_s3 X T B hr1 hr3 hx hy hg1 hg2 dy dx dR dh (.tail _ (.tail _ (.tail _ (.tail _ (.tail _ (.tail _ hA.y)))))) (.tail _ (.tail _ (.tail _ (.tail _ (.tail _ (.tail _ hA.x)))))) (.tail _ (.tail _ (.tail _ (.tail _ (.tail _ (.tail _ hA.r)))))) (.tail _ (.tail _ (.tail _ (.head _)))) F2 N2 ?_
  intro tT h3 tk3 F3 N3
  refine hQ1 _ ?_
  try dsimp only
  clear hQ1 Q1 F2 N2
  obtain ⟨tot, htot⟩ : ∃ tot, x + (3 * r + 2) * (y + hg) = tot := ⟨_, rfl⟩
  rw [htot] at F3 hDF hto1 hto2
  replace hps := ps_step (x := Str.ofString "total") (v := .int tot tT) hps (by with_unfolding_all rfl)
  generalize put (Str.ofString "total") (Value.int tot tT) m2 = m3 at F3 hps
  clear m2
  refine execs_step fun Q1 hQ1 => law_s4 X T B hr3 hg1 hg2 dh (.tail _ (.tail _ (.tail _ (.head _)))) F3 N3 ?_
  intro tG h4 tk4 F4 N4
  refine hQ1 _ ?_
  try dsimp only
  clear hQ1 Q1 F3 N3
  obtain ⟨sg, hsg2⟩ : ∃ sg, 1 - 2 * hg.fmod 2 = sg := ⟨_, rfl⟩
  rw [hsg2] at F4 hsg hDF
  replace hps := ps_step (x := Str.ofString "sign") (v := .int sg tG) hps (by with_unfolding_all rfl)
  generalize put (Str.ofString "sign") (Value.int sg tG) m3 = m4 at F4 hps
  clear m3 hsg2
  refine execs_step fun Q1 hQ1 => law_s5 (sg := sg) (S := S) (tot := tot) (n := n) (tG := tG) (tS := tS) (tT := tT) (tn := tn) X T B hDF ⟨ht1.mono fun p hp => .tail _ (.tail _ (.tail _ (List.mem_append_left _ hp))), ht2.mono fun p hp => .tail _ (.tail _ (.tail _ (List.mem_append_left _ hp))), neCan q hA, q.l30⟩ dh
    (List.forall_mem_cons.mpr ⟨hps _ (.tail _ (.head _)), List.forall_mem_cons.mpr ⟨hps _ (.head _), List.forall_mem_cons.mpr ⟨hps _ (.tail _ (.tail _ (.tail _ (.tail _ (.tail _ (.tail _ (.tail _ (.tail _ (.head _))))))))), List.forall_mem_cons.mpr ⟨hps _ (.tail _ (.tail _ (.tail _ (.tail _ (.tail _ (.tail _ (.tail _ (.tail _ (.tail _ (.head _)))))))))), List.forall_mem_nil _⟩⟩⟩⟩) F4 (news_p2 N4) ?_
  intro D tq tm cD ps1n ps2n e3 h5 tk5 hcD hD hex3 F5 N5
  refine hQ1 _ ?_
  try dsimp only
  clear hQ1 Q1 F4 N4 ht1 ht2 hA
  have hDn : @LT.lt Nat instLTNat Ln D := hD _ (.tail _ (.head _))
  have ht1 := tab_strip hcD.t1 hT3 hnc
  have ht2 := tab_strip hcD.t2 hT3 hnc
  clear hcD hD
  replace hps := ps_step (x := Str.ofString "told") (v := .ref D) hps (by with_unfolding_all rfl)
  replace hU := hU.app hex3 (.tail _ (.head _)) (.tail _ (.tail _ (.tail _ (List.mem_append_right _ hIM))))
  replace hpi := hpi.mono (ex' := e3 ++ x2) fun p hp => List.mem_append_right _ hp
  replace hT3 := hT3.mono (l' := e3 ++ x2) fun p hp => List.mem_append_right _ hp
  replace N5 := news_p3 N5
  clear hex3
  generalize put (Str.ofString "told") (Value.ref D) m4 = m5 at F5 hps
  generalize e3 ++ x2 = x3 at hU hpi ht1 ht2 N5 hT3
  clear e3 x2 m4
  refine execs_step fun Q1 hQ1 => law_s6 (tG := tG) (tS := tS) (tT := tT) (tn := tn) X T B hDF hn7 hn37 hto1 hto2
    (List.forall_mem_cons.mpr ⟨hps _ (.head _), List.forall_mem_cons.mpr ⟨hps _ (.tail _ (.tail _ (.head _))), List.forall_mem_cons.mpr ⟨hps _ (.tail _ (.head _)), List.forall_mem_cons.mpr ⟨hps _ (.tail _ (.tail _ (.tail _ (.tail _ (.tail _ (.tail _ (.tail _ (.tail _ (.tail _ (.head _)))))))))), List.forall_mem_cons.mpr ⟨hps _ (.tail _ (.tail _ (.tail _ (.tail _ (.tail _ (.tail _ (.tail _ (.tail _ (.tail _ (.tail _ (.head _))))))))))), List.forall_mem_nil _⟩⟩⟩⟩⟩) F5 N5 ?_
  intro h6 tk6 F6 N6
  refine hQ1 _ ?_
  try dsimp only
  clear hQ1 Q1 F5 N5 hDF
  have hA := hR.app q hU.lt
  refine execs_step fun Q1 hQ1 => law_s7 (tG := tG) (tS := tS) (tn := tn) (tF := tF) (tE := tE) (pf := pF x hg) (pe := pE r hg) (X9 := x3) X T B hr1 hr3 hn7 hn37 hS1 hsg hg1 hg2 htot hto1 hto2 rfl rfl dy dx dh (.tail _ (.tail _ (.tail _ (.tail _ hA.y)))) (.tail _ (.tail _ (.tail _ (.tail _ hA.x)))) (.tail _ (.tail _ (.tail _ (.head _)))) (.tail _ (.tail _ (.tail _ (.tail _ hA.b)))) (.tail _ (.tail _ (.tail _ (.tail _ hA.h)))) hIb hIh (by rw [hcc]; exact Nat.le_trans hcl hin) (by rw [hpc]; exact Nat.le_trans hpl hin) hci hpi q.c hDn (neLn q hA) hPO
    (fun p hp => hps p ?_) F6 N6 ?_
  · simp only [psU, psT, List.cons_append, List.nil_append, List.mem_cons, List.not_mem_nil, or_false] at hp ⊢
    rcases hp with h | h | h | h | h | h | h | h | h | h <;> simp [h]
  intro vn' vc' kn' kc' exP m' h7 tk7 hci' hpi' hexP F7 N7
  refine hQ1 _ ?_
  try dsimp only
  clear hQ1 Q1 F6 N6 hps hA
  refine wpAny_execs_nil ?_
  have hU' : UpI Ln I (exP ++ x3) := fun e he => by
    rcases List.mem_append.mp he with he | he
    · exact ⟨(hexP e he).1, Nat.ne_of_gt ((hexP e he).2 _ (.tail _ (.tail _ (.tail _ (.tail _ (List.mem_append_right _ hIM))))))⟩
    · exact hU e he
  refine hQ ⟨cs ++ colsRow r n x y hg, vc', kc', prs ++ prsOf r n x y hg (wds r x y hg), vn', kn', oh, ps1n, ps2n, ps3b, exP ++ x3⟩ _ h7 tk7 ⟨hci', ?_, hpi', ?_, ⟨_, dh⟩, ht1.mono fun p hp => List.mem_append_right _ hp, ht2.mono fun p hp => List.mem_append_right _ hp, Or.inr (hT3.mono fun p hp => List.mem_append_right _ hp), hU'.lt⟩ hU' (by kst_all) F7 (news_p4 N7)
  · rw [colsUp_succ, hhg, ← hcc]
  · rw [prsUp_succ, hhg, ← hpc]
/-- the rows, and what comes behind them -/
theorem law_rest {w : World} {Q : Flow → Shared → Prop} {E : Value → Shared → Prop} {g h₉ : Heap} {L fa : Addr} {m : Str → Option Value} {s : Shared} {tk₉ : Nat}
    {loose : List Str} {mean : ExcName → Option Value} {mg mb : Str → Option Value} {oy ox oR oh : Obj} {vH : Option Value} {x y r n S : Int} {tx ty tr tn tS : Tok} {Db Dh Lc Ln : Nat} {vb vh : List Value} {cb ch : Nat} {R0 : Led}
    (X : (hd.heap_39 w.params).In g) (T : Top topProg loose mean mg mb g) (B : Below callerA g [] g) (c3 : CodeHd g 101 97) (hPO : PassesOwn (model PR w) (lawTop L fa) (lawEnv L fa) E) (q : Ord L Lc Ln)
    (hr1 : 1 ≤ r) (hr3 : r ≤ 3) (hn : n = 3 * r * (r + 1) + 1) (hS1 : 1 ≤ S) (hSb : Builtin.Int.intBits S ≤ 1100000) (hx : -1000000000 ≤ x ∧ x < 1000000000) (hy : -1000000000 ≤ y ∧ y < 1000000000)
    (dy : oy.data = .cell (some (.int y ty))) (dx : ox.data = .cell (some (.int x tx))) (dR : oR.data = .cell (some (.int r tr))) (dh : oh.data = .cell vH)
    (hIb : IntsAre vb (rangeKs (-r - 1 - x.fmod 3) (r + 2 + x.fmod 3).toNat)) (hIh : IntsAre vh (rangeKs 0 (r + 2 + y.fmod 3).toNat))
    (hR : RowR L Lc Ln Db Dh oy ox oR vb vh cb ch R0) (hnc : ∀ p ∈ R0, NotCode p.2)
    (hps : ∀ p ∈ psL Ln Lc Dh Db S n tS tn, m p.1 = some p.2) (F : Fr g L h₉ m) (N : News g L h₉ (led6 L Lc Ln ⟨[], [], 0, [], [], 0, oh, #[], #[], #[], []⟩ R0))
    (hret : ∀ h' tk' m' ps1 ps2 ps3 news, Fr g L h' m' → News g L h' news → (37, tabObj ps1) ∈ news → (30, tabObj ps2) ∈ news → (97, tabObj ps3) ∈ news → Q (.ret (.bool true)) { s with heap := h', toks := tk' }) :
    wpAny (model PR w) (lawTop L fa) (execs ((fdBody lawF).drop 8) (lawEnv L fa)) Q E { s with heap := h₉, toks := tk₉ } := by
  obtain ⟨hn7, hn37⟩ := n_facts hr1 hr3 hn
  change wpAny _ _ (execs (nthS (fdBody lawF) 8 :: (fdBody lawF).drop 9) _) _ _ _
  refine execs_step fun Q1 hQ1 => ?_
  refine For_invTF (target := forTgt (nthS (fdBody lawF) 8)) (iter := forIter (nthS (fdBody lawF) 8)) (body := B8) (s := { s with heap := h₉, toks := tk₉ }) (hE := hPO) (m := m) (show Fr g (lawEnv L fa).locals h₉ m from F) ?_ (fun _ => rfl)
  refine law_rg X T B hr1 hr3 dR (.tail _ (.tail _ (.tail _ (.tail _ (.tail _ (.tail _ hR.r)))))) F N ?_
  intro rg t1 t2 t3 h1 tk1 hrg F1 N1
  clear F N
  refine my_rangeT (x := Str.ofString "high") (n := (2 * r + 1).toNat) (fun i m' nx => ∃ c, nx = led6 L Lc Ln c R0 ∧ LOk Ln r n x y i c ∧ ∀ p ∈ psL Ln Lc Dh Db S n tS tn, m' p.1 = some p.2) rfl hrg (range_facts hr1 hr3).1 (range_facts hr1 hr3).2 F1 N1 ⟨_, rfl, ⟨IntsAre.nil, rfl, trivial, rfl, ⟨_, dh⟩, Or.inl rfl, Or.inl rfl, Or.inl rfl, fun _ h => (nomatch h)⟩, hps⟩ ?_ ?_
  · rintro I i t m₁ nx s₁ it hi ⟨c, rfl, hok, hps⟩ hlow hoff hni F N
    have hLnI : @LT.lt Nat instLTNat Ln I := hlow _ (.tail _ (.tail _ (.tail _ (.tail _ (.head _)))))
    clear hlow F1 N1 hrg hQ1 hret
    have hoffR : ∀ p ∈ c.ex ++ R0, p.1 ≠ I := fun p hp => hoff p (.tail _ (.tail _ (.tail _ (.tail _ (.tail _ (.tail _ hp))))))
    have hR1 : RowR L Lc Ln Db Dh oy ox oR vb vh cb ch (R0 ++ [(I, it)]) := ⟨List.mem_append_left _ hR.y, List.mem_append_left _ hR.x, List.mem_append_left _ hR.r, List.mem_append_left _ hR.b, List.mem_append_left _ hR.h, fun p hp => by
      rcases List.mem_append.mp hp with hp | hp
      · exact hR.ne p hp
      · rw [List.mem_singleton.mp hp]; exact q.up hLnI⟩
    have hnc1 : ∀ p ∈ R0 ++ [(I, it)], NotCode p.2 := fun p hp => by
      rcases List.mem_append.mp hp with hp | hp
      · exact hnc p hp
      · rw [List.mem_singleton.mp hp]; exact hni
    have hA := hR1.app q hok.up
    obtain ⟨vH', dh'⟩ := hok.oh
    refine opq fun Q2 hQ2 => law_high X T B dh' (List.forall_mem_cons.mpr ⟨q.d97.1.symm, List.forall_mem_cons.mpr ⟨q.d97.2.2.2.2.2.2.2.2.2.1.symm, List.forall_mem_cons.mpr ⟨q.d97.2.2.2.2.2.2.2.2.2.2.1.symm, List.forall_mem_cons.mpr ⟨q.d97.2.2.2.2.2.1, List.forall_mem_cons.mpr ⟨q.d97.2.2.2.2.2.2.2.2.1, fun p hp => (hA.ne p hp).2.2.2.1⟩⟩⟩⟩⟩) F (news_turn N) ?_
    intro o h2 tk2 hdo F2 N2
    refine hQ2 () _ ?_
    clear hQ2 Q2 F N hA dh'
    refine opq fun Q3 hQ3 => law_turn (I := I) (i := i) X T B c3 hPO hr1 hr3 hn7 hn37 hS1 hSb hx hy (by omega) (by omega) rfl dy dx dR hdo hIb hIh q hR1 hnc1 (List.mem_append_right _ (.head _)) (fun e he => ⟨hok.up e he, hoffR e (List.mem_append_left _ he)⟩) hok.ci hok.cc hok.pi hok.pc hok.t1 hok.t2 hok.t3 hps F2 (news_p0 N2) ?_
    have k1 := hoff _ (.head _)
    have k2 := hoff _ (.tail _ (.head _))
    have k3 := hoff _ (.tail _ (.tail _ (.head _)))
    have k4 := hoff _ (.tail _ (.tail _ (.tail _ (.head _))))
    have k5 := hoff _ (.tail _ (.tail _ (.tail _ (.tail _ (.head _)))))
    have k6 := hoff _ (.tail _ (.tail _ (.tail _ (.tail _ (.tail _ (.head _))))))
    intro c' m' h3 tk3 hok' hU' hps' F3 N3
    refine hQ3 _ _ ?_
    refine TPost.intro (nx := led6 L Lc Ln c' R0) F3 N3 mem_l6 (.tail _ (.tail _ (.tail _ (.tail _ (.tail _ (.tail _ (List.mem_append_right _ (List.mem_append_right _ (.head _))))))))) ?_ ⟨c', rfl, hok', hps'⟩
    exact List.forall_mem_cons.mpr ⟨k1, List.forall_mem_cons.mpr ⟨k2, List.forall_mem_cons.mpr ⟨k3, List.forall_mem_cons.mpr ⟨k4, List.forall_mem_cons.mpr ⟨k5, List.forall_mem_cons.mpr ⟨k6, fun p hp => by
      rcases List.mem_append.mp hp with hp | hp
      · exact (hU' p hp).2
      · exact hoffR p (List.mem_append_right _ hp)⟩⟩⟩⟩⟩⟩
  · rintro m₁ nx h tk ⟨c, rfl, hok, hps⟩ F N
    refine hQ1 _ ?_
    obtain ⟨vH', dh'⟩ := hok.oh
    have hA := hR.app q hok.up
    refine law_end X T B hr1 hr3 hn hn7 hn37 hx hy dy dx dR dh' (.tail _ (.tail _ (.tail _ hA.y))) (.tail _ (.tail _ (.tail _ hA.x))) (.tail _ (.tail _ (.tail _ hA.r))) (.head _) (.tail _ (.tail _ (.head _))) (.tail _ (.head _)) hok.ci hok.cc (hok.pi.mono fun p hp => .tail _ (.tail _ (.tail _ (List.mem_append_left _ hp)))) hok.pc ⟨hok.t1.mono fun p hp => .tail _ (.tail _ (.tail _ (List.mem_append_left _ hp))), hok.t2.mono fun p hp => .tail _ (.tail _ (.tail _ (List.mem_append_left _ hp))), neCan q hA, q.l30⟩ (hps _ (.head _)) (hps _ (.tail _ (.head _))) (hps _ (.tail _ (.tail _ (.tail _ (.tail _ (.tail _ (.head _))))))) F (news_p2 N) hPO hret
end

section
set_option maxRecDepth 100000
set_option maxHeartbeats 8000000
theorem fillLaw : (fun (_ : OpenLaw) (_ : Params → Frag) => True) PySem.Challenge.rw_pu0053_01 hd.heap_39 := by
  k_fill
  w_top off
  trivial
section
variable {prog : Program} {w : World} {A : Around} {E : Value → Shared → Prop} {s : Shared} {h₀ : Heap} {L : Addr} {m : Str → Option Value} {news : Led}
theorem sum_slice {D : Addr} {k : Nat} {vs : List Value} {ns : List Int} {lo hi st : Option Int} {Q : Value → Shared → Prop} (F : Fr h₀ L s.heap m) (N : News h₀ L s.heap ((D, listOf (slicePick vs.toArray lo hi st) k) :: news)) (hh : A.handled = none) (hI : IntsAre vs ns)
    (h : ∀ h' tk t', Fr h₀ L h' m → News h₀ L h' news → Q (.int (pickNums ns lo hi st).sum t') { s with heap := h', toks := tk }) : wpAny (model prog w) A (call (.builtin "sum") [.ref D]) Q E s :=
  LSm.sum_ints (vs := (slicePick vs.toArray lo hi st).toList) F N hh (by
    rw [Array.toArray_toList]
    exact ⟨_, (N _ (.head _)).1, rfl, k, rfl⟩) (hI.pick lo hi st) fun h' tk t' F' N' => h h' tk t' F' fun p hp => N' p (.tail _ hp)
end
theorem pow_e9 {prog : Program} {w : World} {A : Around} {E : Value → Shared → Prop} {s : Shared} {t u : Tok} {Q : Value → Shared → Prop} (h : Q (.int 1000000000 s.toks) { s with toks := s.toks + 1 }) : wpAny (model prog w) A (binaryOp .Pow (.int 10 t) (.int 9 u)) Q E s :=
  pow_int (by decide) (by decide) h
theorem mul_2e9 {prog : Program} {w : World} {A : Around} {E : Value → Shared → Prop} {s : Shared} {t u : Tok} {Q : Value → Shared → Prop} (h : Q (.int 2000000000 s.toks) { s with toks := s.toks + 1 }) : wpAny (model prog w) A (binaryOp .Mult (.int 2 t) (.int 1000000000 u)) Q E s :=
  PyProof.Rows.mul_int (a := 2) (b := 1000000000) h
theorem mod_2e9 {prog : Program} {w : World} {A : Around} {E : Value → Shared → Prop} {s : Shared} {a : Int} {t u : Tok} {Q : Value → Shared → Prop} (h : ∀ t, Q (.int (a % 2000000000) t) { s with toks := s.toks + 1 }) : wpAny (model prog w) A (binaryOp .Mod (.int a t) (.int 2000000000 u)) Q E s :=
  PyProof.Rows.mod_int (by decide) (by rw [Int.fmod_eq_emod_of_nonneg _ (by decide)]; exact h _)
theorem r_ok (n : Int) : 1 ≤ [(2 : Int), 1, 3].getD (n.fmod 3).toNat 0 ∧ [(2 : Int), 1, 3].getD (n.fmod 3).toNat 0 ≤ 3 := by
  have h : (n.fmod 3).toNat < 3 := (Int.toNat_lt (m3 n).1).mpr (m3 n).2
  generalize (n.fmod 3).toNat = k at h
  match k, h with
  | 0, _ => decide
  | 1, _ => decide
  | 2, _ => decide
theorem mod_e9 (a : Int) : -1000000000 ≤ a % 2000000000 - 1000000000 ∧ a % 2000000000 - 1000000000 < 1000000000 := by omega
section
variable {w : World} {Q : Flow → Shared → Prop} {E : Value → Shared → Prop} {g : Heap} {L fa la : Addr} {m : Str → Option Value} {s : Shared} {R : Led} {loose : List Str} {mean : ExcName → Option Value} {mg mb : Str → Option Value}
  {vs : List Value} {ns : List Int} {x y r : Int} {tx ty tr : Tok} {oy ox oR : Obj} {vR vx vy : Option Value}
theorem law_b0 (X : (hd.heap_39 w.params).In g) (T : Top topProg loose mean mg mb g) (hla : g.IsList la vs.toArray) (hI : IntsAre vs ns) (hlen : ns.length ≤ 63) (dR : oR.data = .cell vR) (hne : ∀ p ∈ R, p.1 ≠ L + 1 + 1)
    (hm : ∀ p ∈ [(Str.ofString "script", Value.ref la)], m p.1 = some p.2) (F : Fr g L s.heap m) (N : News g L s.heap ((L + 1 + 1, oR) :: R))
    (hQ : ∀ r t o h' tk', 1 ≤ r ∧ r ≤ 3 → o.data = .cell (some (.int r t)) → Fr g L h' m → News g L h' ((L + 1 + 1, o) :: R) → Q .next { s with heap := h', toks := tk' }) :
    wpAny (model PR w) (lawTop L fa) (exec (nthS (fdBody lawF) 0) (lawEnv L fa)) Q E s := by
  rw [← kst_self hm] at F hQ
  clear hm
  dsimp only [lawF, nthS, fdBody, PySem.Challenge.pw_pu0053_01]
  dsimp only [kstB] at F hQ
  k_with_none
  k_steps
  all_goals
    rename Obj.data _ = Data.cell (some (Value.int _ _)) => d9
    rename Fr _ _ _ _ => F9
    rename News _ _ _ _ => N9
    exact hQ _ _ _ _ _ (r_ok _) d9 F9 (news_tail N9)
theorem law_b1 (X : (hd.heap_39 w.params).In g) (hr1 : 1 ≤ r) (hr3 : r ≤ 3) (dR : oR.data = .cell (some (.int r tr))) (hRM : (L + 1 + 1, oR) ∈ R) (F : Fr g L s.heap m) (N : News g L s.heap R)
    (hQ : ∀ t h' tk', Fr g L h' (put (Str.ofString "count") (.int (3 * r * (r + 1) + 1) t) m) → News g L h' R → Q .next { s with heap := h', toks := tk' }) :
    wpAny (model PR w) (lawTop L fa) (exec (nthS (fdBody lawF) 1) (lawEnv L fa)) Q E s := by
  dsimp only [lawF, nthS, fdBody, PySem.Challenge.pw_pu0053_01]
  k_with_none
  k_steps
  exact hQ _ _ _ (by assumption) (by assumption)
theorem law_b2 (X : (hd.heap_39 w.params).In g) (T : Top topProg loose mean mg mb g) (hla : g.IsList la vs.toArray) (hI : IntsAre vs ns) (hlen : ns.length ≤ 63) (hLay : PyData.layable0 (.list (ns.map .int)) = true)
    (hm : ∀ p ∈ [(Str.ofString "script", Value.ref la)], m p.1 = some p.2) (F : Fr g L s.heap m) (N : News g L s.heap R)
    (hQ : ∀ S t h' tk', 1 ≤ S → Builtin.Int.intBits S ≤ 1100000 → Fr g L h' (put (Str.ofString "scale") (.int S t) m) → News g L h' R → Q .next { s with heap := h', toks := tk' }) :
    wpAny (model PR w) (lawTop L fa) (exec (nthS (fdBody lawF) 2) (lawEnv L fa)) Q E s := by
  have hS0 := sum_bits hLay hlen
  rw [← kst_self hm] at F hQ
  clear hm
  dsimp only [lawF, nthS, fdBody, PySem.Challenge.pw_pu0053_01]
  dsimp only [kstB] at F hQ
  k_with_none
  k_steps
  exact hQ _ _ _ _ (abs_one _) (abs_bits hS0) (by assumption) (by assumption)
theorem law_b3 (X : (hd.heap_39 w.params).In g) (T : Top topProg loose mean mg mb g) (hla : g.IsList la vs.toArray) (hI : IntsAre vs ns) (hlen : ns.length ≤ 63) (hLay : PyData.layable0 (.list (ns.map .int)) = true) (dx : ox.data = .cell vx) (hne : ∀ p ∈ R, p.1 ≠ L + 1 + 1 + 1)
    (hm : ∀ p ∈ [(Str.ofString "script", Value.ref la)], m p.1 = some p.2) (F : Fr g L s.heap m) (N : News g L s.heap ((L + 1 + 1 + 1, ox) :: R))
    (hQ : ∀ x t o h' tk', -1000000000 ≤ x ∧ x < 1000000000 → o.data = .cell (some (.int x t)) → Fr g L h' m → News g L h' ((L + 1 + 1 + 1, o) :: R) → Q .next { s with heap := h', toks := tk' }) :
    wpAny (model PR w) (lawTop L fa) (exec (nthS (fdBody lawF) 3) (lawEnv L fa)) Q E s := by
  rw [← kst_self hm] at F hQ
  clear hm
  dsimp only [lawF, nthS, fdBody, PySem.Challenge.pw_pu0053_01]
  dsimp only [kstB] at F hQ
  k_with_none
  k_with "binaryOp Mult int int" => (refine mul_2e9 ?_)
  k_with "binaryOp Mod int int" => (refine mod_2e9 ?_; intro _)
  k_with "binaryOp Pow int int" => (refine pow_e9 ?_)
  k_with "call builtin:sum" => (refine sum_slice (by assumption) (by assumption) rfl hI ?_; intro h' tk' t' F' N')
  k_steps
  rename (Obj.data _ = Data.cell (some (Value.int _ _))) => d9
  exact hQ _ _ _ _ _ (mod_e9 _) d9 (by assumption) (by assumption)
theorem law_b4 (X : (hd.heap_39 w.params).In g) (T : Top topProg loose mean mg mb g) (hla : g.IsList la vs.toArray) (hI : IntsAre vs ns) (hlen : ns.length ≤ 63) (hLay : PyData.layable0 (.list (ns.map .int)) = true) (dy : oy.data = .cell vy) (hne : ∀ p ∈ R, p.1 ≠ L + 1 + 1 + 1 + 1)
    (hm : ∀ p ∈ [(Str.ofString "script", Value.ref la)], m p.1 = some p.2) (F : Fr g L s.heap m) (N : News g L s.heap ((L + 1 + 1 + 1 + 1, oy) :: R))
    (hQ : ∀ y t o h' tk', -1000000000 ≤ y ∧ y < 1000000000 → o.data = .cell (some (.int y t)) → Fr g L h' m → News g L h' ((L + 1 + 1 + 1 + 1, o) :: R) → Q .next { s with heap := h', toks := tk' }) :
    wpAny (model PR w) (lawTop L fa) (exec (nthS (fdBody lawF) 4) (lawEnv L fa)) Q E s := by
  rw [← kst_self hm] at F hQ
  clear hm
  dsimp only [lawF, nthS, fdBody, PySem.Challenge.pw_pu0053_01]
  dsimp only [kstB] at F hQ
  k_with_none
  k_with "binaryOp Mult int int" => (refine mul_2e9 ?_)
  k_with "binaryOp Mod int int" => (refine mod_2e9 ?_; intro _)
  k_with "binaryOp Pow int int" => (refine pow_e9 ?_)
  k_with "call builtin:sum" => (refine sum_slice (by assumption) (by assumption) rfl hI ?_; intro h' tk' t' F' N')
  k_steps
  rename (Obj.data _ = Data.cell (some (Value.int _ _))) => d9
  exact hQ _ _ _ _ _ (mod_e9 _) d9 (by assumption) (by assumption)
theorem law_b5 (X : (hd.heap_39 w.params).In g) (T : Top topProg loose mean mg mb g) (hr1 : 1 ≤ r) (hr3 : r ≤ 3) (dR : oR.data = .cell (some (.int r tr))) (hRM : (L + 1 + 1, oR) ∈ R) (dx : ox.data = .cell (some (.int x tx))) (hxM : (L + 1 + 1 + 1, ox) ∈ R) (F : Fr g L s.heap m) (N : News g L s.heap R)
    (hQ : ∀ Db vb cb h' tk', IntsAre vb (rangeKs (-r - 1 - x.fmod 3) (r + 2 + x.fmod 3).toNat) → (∀ p ∈ R, p.1 < Db) → Fr g L h' (put (Str.ofString "before") (.ref Db) m) → News g L h' ((Db, listOf (List.toArray vb) cb) :: R) → Q .next { s with heap := h', toks := tk' }) :
    wpAny (model PR w) (lawTop L fa) (exec (nthS (fdBody lawF) 5) (lawEnv L fa)) Q E s := by
  dsimp only [lawF, nthS, fdBody, PySem.Challenge.pw_pu0053_01]
  k_with_none
  k_steps
  rename IntsAre _ (rangeKs _ _) => hI9
  have e9 : (1 - (-r - 1 - x.fmod 3)).toNat = (r + 2 + x.fmod 3).toNat := by congr 1; omega
  rw [e9] at hI9
  exact hQ _ _ _ _ _ hI9 (by assumption) (by assumption) (by assumption)
theorem law_b6 (X : (hd.heap_39 w.params).In g) (T : Top topProg loose mean mg mb g) (hr1 : 1 ≤ r) (hr3 : r ≤ 3) (dR : oR.data = .cell (some (.int r tr))) (hRM : (L + 1 + 1, oR) ∈ R) (dy : oy.data = .cell (some (.int y ty))) (hyM : (L + 1 + 1 + 1 + 1, oy) ∈ R) (F : Fr g L s.heap m) (N : News g L s.heap R)
    (hQ : ∀ Dh vh ch h' tk', IntsAre vh (rangeKs 0 (r + 2 + y.fmod 3).toNat) → (∀ p ∈ R, p.1 < Dh) → Fr g L h' (put (Str.ofString "behind") (.ref Dh) m) → News g L h' ((Dh, listOf (List.toArray vh) ch) :: R) → Q .next { s with heap := h', toks := tk' }) :
    wpAny (model PR w) (lawTop L fa) (exec (nthS (fdBody lawF) 6) (lawEnv L fa)) Q E s := by
  dsimp only [lawF, nthS, fdBody, PySem.Challenge.pw_pu0053_01]
  k_with_none
  k_steps
  rename IntsAre _ (rangeKs 0 _) => hI9
  have e9 : (r + 2 + y.fmod 3 - 0).toNat = (r + 2 + y.fmod 3).toNat := by congr 1; omega
  rw [e9] at hI9
  exact hQ _ _ _ _ _ hI9 (by assumption) (by assumption) (by assumption)
theorem law_b7 (X : (hd.heap_39 w.params).In g) (F : Fr g L s.heap m) (N : News g L s.heap R)
    (hQ : ∀ (Lc Ln : Nat) h' tk', (∀ p ∈ R, p.1 < Lc) → @LT.lt Nat instLTNat Lc Ln → Fr g L h' (put (Str.ofString "colours") (.ref Lc) (put (Str.ofString "nought") (.ref Ln) m)) → News g L h' ((Ln, listOf (List.toArray []) 0) :: (Lc, listOf (List.toArray []) 0) :: R) → Q .next { s with heap := h', toks := tk' }) :
    wpAny (model PR w) (lawTop L fa) (exec (nthS (fdBody lawF) 7) (lawEnv L fa)) Q E s := by
  dsimp only [lawF, nthS, fdBody, PySem.Challenge.pw_pu0053_01]
  k_with_none
  k_steps
  rename_i Lc _ q1 Ln _ q2 _ _ _ _ _ _ F9 N9
  exact hQ Lc Ln _ _ q1 q2.1 F9 (news_tail N9)
end
end

section
set_option maxRecDepth 100000
set_option maxHeartbeats 8000000
theorem ne_rest {L d : Nat} {a b c : Obj} (hL : @LT.lt Nat instLTNat 97 L) (hd : @LT.lt Nat instLTNat L d) : ∀ p ∈ [((37 : Addr), a), (30, b), (97, c)], p.1 ≠ d :=
  have h : @LT.lt Nat instLTNat 97 d := Nat.lt_trans hL hd
  List.forall_mem_cons.mpr ⟨Nat.ne_of_lt (Nat.lt_trans (by decide : (37 : Nat) < 97) h), List.forall_mem_cons.mpr ⟨Nat.ne_of_lt (Nat.lt_trans (by decide : (30 : Nat) < 97) h), List.forall_mem_cons.mpr ⟨Nat.ne_of_lt h, List.forall_mem_nil _⟩⟩⟩
theorem law_body {w : World} {Q : Flow → Shared → Prop} {E : Value → Shared → Prop} {g h₁ : Heap} {L fa la : Addr} {m : Str → Option Value} {vs : List Value} {ns : List Int} {s : Shared} {tk₁ : Nat}
    {loose : List Str} {mean : ExcName → Option Value} {mg mb : Str → Option Value} {oy ox oR oh : Obj} {vy vx vR vh : Option Value}
    (X : (hd.heap_39 w.params).In g) (T : Top topProg loose mean mg mb g) (B : Below callerA g [] g) (F₀ : Fr g L h₁ (kstB m [(Str.ofString "script", .ref la)]))
    (hla : g.IsList la vs.toArray) (hI : IntsAre vs ns) (hlen : ns.length ≤ 63) (hLay : PyData.layable0 (.list (ns.map .int)) = true) (c1 : CodeHd g 41 37) (c2 : CodeHd g 34 30) (c3 : CodeHd g 101 97)
    (hcd : g.CodeRec (.ref 101) (Str.ofString "law"))
    (N₀ : News g L h₁ [(L + 1 + 1 + 1 + 1, oy), (L + 1 + 1 + 1, ox), (L + 1 + 1, oR), (L + 1, oh), (37, tabObj #[]), (30, tabObj #[]), (97, tabObj #[])])
    (dy : oy.data = .cell vy) (dx : ox.data = .cell vx) (dR : oR.data = .cell vR) (dh : oh.data = .cell vh) (hL : 37 < L ∧ 30 < L ∧ 97 < L)
    (hPO : PassesOwn (model PR w) (lawTop L fa) (lawEnv L fa) E)
    (hret : ∀ h' tk' m' ps1 ps2 ps3 news, Fr g L h' m' → News g L h' news → (37, tabObj ps1) ∈ news → (30, tabObj ps2) ∈ news → (97, tabObj ps3) ∈ news → Q (.ret (.bool true)) { s with heap := h', toks := tk' }) :
    wpAny (model PR w) (lawTop L fa) (execs (fdBody lawF) (lawEnv L fa)) Q E { s with heap := h₁, toks := tk₁ } := by
  change wpAny _ _ (execs (nthS (fdBody lawF) 0 :: nthS (fdBody lawF) 1 :: nthS (fdBody lawF) 2 :: nthS (fdBody lawF) 3 :: nthS (fdBody lawF) 4 :: nthS (fdBody lawF) 5 :: nthS (fdBody lawF) 6 :: nthS (fdBody lawF) 7 :: (fdBody lawF).drop 8) _) _ _ _
  obtain ⟨m0, hs, F⟩ : ∃ m0, m0 (Str.ofString "script") = some (.ref la) ∧ Fr g L h₁ m0 := ⟨_, rfl, F₀⟩
  clear F₀ m
  have hLc9 : @LT.lt Nat instLTNat 97 L := hL.2.2
  have l1 : @LT.lt Nat instLTNat L (L + 1) := Nat.lt_succ_self _
  have l2 : @LT.lt Nat instLTNat (L + 1) (L + 1 + 1) := Nat.lt_succ_self _
  have l3 : @LT.lt Nat instLTNat (L + 1 + 1) (L + 1 + 1 + 1) := Nat.lt_succ_self _
  have l4 : @LT.lt Nat instLTNat (L + 1 + 1 + 1) (L + 1 + 1 + 1 + 1) := Nat.lt_succ_self _
  have k2 := Nat.lt_trans l1 l2
  have k3 := Nat.lt_trans k2 l3
  refine execs_step fun Q1 hQ1 => law_b0 X T hla hI hlen dR (List.forall_mem_cons.mpr ⟨Nat.ne_of_gt (Nat.lt_trans l3 l4), List.forall_mem_cons.mpr ⟨Nat.ne_of_gt l3, List.forall_mem_cons.mpr ⟨Nat.ne_of_lt l2, ne_rest hLc9 k2⟩⟩⟩) (all1 hs) F (news_r3 N₀) ?_
  clear F N₀ dR oR
  intro r tr oR' h2 tk2 ⟨hr1, hr3⟩ dR' F N
  refine hQ1 _ ?_
  clear hQ1 Q1
  refine execs_step fun Q1 hQ1 => law_b1 X hr1 hr3 dR' (.head _) F N ?_
  clear F N
  intro tn h3 tk3 F N
  refine hQ1 _ ?_
  clear hQ1 Q1
  obtain ⟨n, hn⟩ : ∃ n, n = 3 * r * (r + 1) + 1 := ⟨_, rfl⟩
  rw [← hn] at F
  have hn1 : put (Str.ofString "count") (.int n tn) m0 (Str.ofString "count") = some (.int n tn) := put_eq
  replace hs : put (Str.ofString "count") (.int n tn) m0 (Str.ofString "script") = some (.ref la) := (put_ne (by decide)).trans hs
  generalize put (Str.ofString "count") (Value.int n tn) m0 = m1 at F hs hn1
  refine execs_step fun Q1 hQ1 => law_b2 X T hla hI hlen hLay (all1 hs) F N ?_
  clear F N
  intro S tS h4 tk4 hS1 hSb F N
  refine hQ1 _ ?_
  clear hQ1 Q1
  have hS2 : put (Str.ofString "scale") (.int S tS) m1 (Str.ofString "scale") = some (.int S tS) := put_eq
  replace hs : put (Str.ofString "scale") (.int S tS) m1 (Str.ofString "script") = some (.ref la) := (put_ne (by decide)).trans hs
  replace hn1 : put (Str.ofString "scale") (.int S tS) m1 (Str.ofString "count") = some (.int n tn) := (put_ne (by decide)).trans hn1
  generalize put (Str.ofString "scale") (Value.int S tS) m1 = m2 at F hs hn1 hS2
  refine execs_step fun Q1 hQ1 => law_b3 X T hla hI hlen hLay dx (List.forall_mem_cons.mpr ⟨Nat.ne_of_lt l3, List.forall_mem_cons.mpr ⟨Nat.ne_of_gt l4, List.forall_mem_cons.mpr ⟨Nat.ne_of_lt (Nat.lt_trans l2 l3), ne_rest hLc9 k3⟩⟩⟩) (all1 hs) F (news_r3 N) ?_
  clear F N dx ox
  intro x tx ox' h5 tk5 hx dx' F N
  refine hQ1 _ ?_
  clear hQ1 Q1
  refine execs_step fun Q1 hQ1 => law_b4 X T hla hI hlen hLay dy (List.forall_mem_cons.mpr ⟨Nat.ne_of_lt l4, List.forall_mem_cons.mpr ⟨Nat.ne_of_lt (Nat.lt_trans l3 l4), List.forall_mem_cons.mpr ⟨Nat.ne_of_lt (Nat.lt_trans (Nat.lt_trans l2 l3) l4), ne_rest hLc9 (Nat.lt_trans k3 l4)⟩⟩⟩) (all1 hs) F (news_r3 N) ?_
  clear F N dy oy hs
  intro y ty oy' h6 tk6 hy dy' F N
  refine hQ1 _ ?_
  clear hQ1 Q1
  refine execs_step fun Q1 hQ1 => law_b5 X T hr1 hr3 dR' (.tail _ (.tail _ (.head _))) dx' (.tail _ (.head _)) F N ?_
  clear F N
  intro Db vb cb h7 tk7 hIb hDb' F N
  refine hQ1 _ ?_
  clear hQ1 Q1
  have hDb : @LT.lt Nat instLTNat (L + 1 + 1 + 1 + 1) Db := hDb' _ (.head _)
  clear hDb'
  refine execs_step fun Q1 hQ1 => law_b6 X T hr1 hr3 dR' (.tail _ (.tail _ (.tail _ (.head _)))) dy' (.tail _ (.head _)) F N ?_
  clear F N
  intro Dh vh ch h8 tk8 hIh hDh' F N
  refine hQ1 _ ?_
  clear hQ1 Q1
  have hDh : @LT.lt Nat instLTNat Db Dh := hDh' _ (.head _)
  clear hDh'
  refine execs_step fun Q1 hQ1 => law_b7 X F N ?_
  clear F N
  intro Lc Ln h9 tk9 hLc' hLn F N
  refine hQ1 _ ?_
  clear hQ1 Q1
  have hLc : @LT.lt Nat instLTNat Dh Lc := hLc' _ (.head _)
  clear hLc'
  have q : Ord L Lc Ln := ⟨hLc9, Nat.lt_trans (Nat.lt_succ_self _) (Nat.lt_trans (Nat.lt_succ_self _) (Nat.lt_trans (Nat.lt_succ_self _) (Nat.lt_trans hDb (Nat.lt_trans hDh hLc)))), hLn⟩
  have hm9 : ∀ p ∈ psL Ln Lc Dh Db S n tS tn, put (Str.ofString "colours") (.ref Lc) (put (Str.ofString "nought") (.ref Ln) (put (Str.ofString "behind") (.ref Dh) (put (Str.ofString "before") (.ref Db) m2))) p.1 = some p.2 :=
    allc ((put_ne (by decide)).trans put_eq) (allc (put_eq) (allc ((put_ne (by decide)).trans ((put_ne (by decide)).trans put_eq)) (allc ((put_ne (by decide)).trans ((put_ne (by decide)).trans ((put_ne (by decide)).trans put_eq))) (all2 ((put_ne (by decide)).trans ((put_ne (by decide)).trans ((put_ne (by decide)).trans ((put_ne (by decide)).trans hS2)))) ((put_ne (by decide)).trans ((put_ne (by decide)).trans ((put_ne (by decide)).trans ((put_ne (by decide)).trans hn1))))))))
  have hl2 : @LT.lt Nat instLTNat (L + 1) (L + 1 + 1) := Nat.lt_succ_self _
  have hl3 : @LT.lt Nat instLTNat (L + 1) (L + 1 + 1 + 1) := Nat.lt_trans hl2 (Nat.lt_succ_self _)
  have hl4 : @LT.lt Nat instLTNat (L + 1) (L + 1 + 1 + 1 + 1) := Nat.lt_trans hl3 (Nat.lt_succ_self _)
  have hc4 : @LT.lt Nat instLTNat (L + 1 + 1 + 1 + 1) Lc := Nat.lt_trans hDb (Nat.lt_trans hDh hLc)
  have hc3 : @LT.lt Nat instLTNat (L + 1 + 1 + 1) Lc := Nat.lt_trans (Nat.lt_succ_self _) hc4
  refine law_rest (oy := oy') (ox := ox') (oR := oR') (oh := oh) (Db := Db) (Dh := Dh) (cb := cb) (ch := ch) (S := S) (tS := tS) (tn := tn) (R0 := [(Dh, listOf (List.toArray vh) ch), (Db, listOf (List.toArray vb) cb), (L + 1 + 1 + 1 + 1, oy'), (L + 1 + 1 + 1, ox'), (L + 1 + 1, oR')]) X T B c3 hPO q hr1 hr3 hn hS1 hSb hx hy dy' dx' dR' dh hIb hIh ⟨.tail _ (.tail _ (.head _)), .tail _ (.tail _ (.tail _ (.head _))), .tail _ (.tail _ (.tail _ (.tail _ (.head _)))), .tail _ (.head _), .head _, ?_⟩ ?_ hm9 F (news_p5 N) hret
  · exact List.forall_mem_cons.mpr ⟨q.mid (Nat.lt_trans hl4 (Nat.lt_trans hDb hDh)) hLc, List.forall_mem_cons.mpr ⟨q.mid (Nat.lt_trans hl4 hDb) (Nat.lt_trans hDh hLc), List.forall_mem_cons.mpr ⟨q.mid hl4 hc4, List.forall_mem_cons.mpr ⟨q.mid hl3 hc3, List.forall_mem_cons.mpr ⟨q.mid hl2 (Nat.lt_trans (Nat.lt_succ_self _) hc3), List.forall_mem_nil _⟩⟩⟩⟩⟩
  · exact List.forall_mem_cons.mpr ⟨nc_list _ _, List.forall_mem_cons.mpr ⟨nc_list _ _, List.forall_mem_cons.mpr ⟨nc_cell dy', List.forall_mem_cons.mpr ⟨nc_cell dx', List.forall_mem_cons.mpr ⟨nc_cell dR', List.forall_mem_nil _⟩⟩⟩⟩⟩
end

section
set_option maxRecDepth 100000
set_option maxHeartbeats 8000000
theorem law_holds : PySem.Challenge.rw_pu0053_01.Holds := hd (by
  k_go0
  (all_goals try k_fold)
  rename_i w s0 s1 mg mb G Y fa ob pm doc ho hg X V T B TE TW hcd ns hs hlay0 hLay hr hl2 a1 a2 la vs a3 hLst ra w1 r0 hI hr2 hlen hcT hD h1 tk1 oy ox oR oh dy dx dR dh X0 X' T' K' F' ch1 ch2 N' l0
  have hcd' : (ghostOf s1.heap [(41, 37), (34, 30), (101, 97)]).CodeRec (.ref 101) (Str.ofString "law") := by
    obtain ⟨c, oc, v9, t9, e1, e2, e3, e4⟩ := hcd
    refine ⟨c, oc, v9, t9, e1, ghost_get hT9 e2 (fun q => ?_), e3, e4⟩
    rw [q] at e3
    have e5 : #[] = v9 := by injection e3
    rw [← e5] at e4
    cases e4
  clear hcd
  refine law_body (s := s1) X' T' K' (fr_kst (by kst_all) F') lifted hI (by omega) hLay ch1 ch2 codeHd hcd' N' dy dx dR dh l0 (by passes_own) ?_
  clear F' N' dy dx dR dh X0
  intro h' tk' m' ps1 ps2 ps3 news F9 N9 m1 m2 m3
  k_steps)
end

end Mine
theorem PySem.Challenge.cw_pu0053_01_holds : PySem.Challenge.rw_pu0053_01.Holds := by
  exact Mine.law_holds
