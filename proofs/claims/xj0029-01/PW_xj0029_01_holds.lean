import PyProof.Rows.All
import Wide.All
import OpenK.AllK
import Wide.FinOn
import PySem.Challenge.RW_xj0029_01
open PySem PySem.W PyProof.Rows PySem.Calls PySem.Spec
set_option rowWalk.seconds 0
set_option Elab.async false
set_option maxRecDepth 100000
set_option maxHeartbeats 8000000
namespace Mine
/-- the text's statements, but for the names of its parts -/
noncomputable def viewP : Program := { PySem.Challenge.pw_xj0029_01 with main := { PySem.Challenge.pw_xj0029_01.main with body := PySem.Challenge.pw_xj0029_01.main.body.filter fun st => match st with | .Assign [.Name x _] _ _ => !(x == Str.ofString "__name__") | _ => true } }
theorem law_said : OpenLaw.wellSaid PySem.Challenge.rw_xj0029_01 = true := by
  unfold OpenLaw.wellSaid OpenRow.wellSaid OpenRow.partSaid looksOpen
  repeat' (with_reducible refine look_both ?_ ?_)
  all_goals first
    | (rw [PySem.W.Fast.te8377067652309620493]; decide +kernel)
    | (rw [PySem.W.Fast.te17119622794617984870]; decide +kernel)
    | (rw [PySem.W.Fast.te8179353310426384613]; decide +kernel)
    | (rw [PySem.W.Fast.te16286561074155671207]; decide +kernel)
    | decide +kernel
theorem law_ok : (chainsOk viewP && opensWell PySem.Challenge.rw_xj0029_01.row.prog && (frees PySem.Challenge.rw_xj0029_01.row.toRowW && PySem.Challenge.rw_xj0029_01.row.within.isEmpty)) = true := by
  unfold opensWell
  repeat' (with_reducible refine look_both ?_ ?_)
  all_goals decide +kernel
theorem left_boot {p q : Program} {loose : List Str} {Xt : Shared → Bool} {α : Type} {Yf : Shared → α} {Ya : World → α} {N : Nat} {g0 : Bool}
    (o : ∀ w : World, (fencedOpening treeTable p w N).map (fun s => (s.heap, s.gens, s.drawn, s.toks)) = some (boot_heap w.params, Array.mk [], boot_drawn, boot_toks))
    (h : ∀ (w : World) (os : OsState), (topFrom treeTable p w N ⟨boot_heap w.params, Array.mk [], boot_drawn, boot_toks, os⟩).map (fun s => (openSeen q loose (importedModules p.main.body) Xt g0 s, Yf s)) = some (openGood q loose, Ya w)) : LeftO p q loose Xt Yf Ya N g0 := fun w => by
  obtain ⟨⟨h', gs, d, k, os⟩, e, e'⟩ := Option.map_eq_some_iff.mp (o w)
  obtain ⟨rfl, rfl, rfl, rfl⟩ : h' = boot_heap w.params ∧ gs = Array.mk [] ∧ d = boot_drawn ∧ k = boot_toks := by simpa using e'
  unfold openEnds
  rw [e]
  exact h w os
theorem boot_1 : opening PySem.Challenge.rw_xj0029_01.row.prog = plainProg PySem.Challenge.rw_xj0029_01.row.prog.main.scope.names := by kernel_rfl
theorem boot_2 : ∀ s, fenceModules? PySem.Challenge.rw_xj0029_01.row.prog s = some s := by
  intro s
  kernel_rfl
set_option hygiene false in
local macro_rules | `(tactic| o_law) => `(tactic| refine holds_law Mine.law_said fun said => ?_)
set_option hygiene false in
local macro_rules | `(tactic| o_head $H) => `(tactic| (refine holds_open (q := Mine.viewP) (loose := []) (Xt := fun s => xlAt Mine.viewP [] s && recOk (RowW.records (OpenRow.toRowW (OpenLaw.row PySem.Challenge.rw_xj0029_01))) s) (XP := XL Mine.viewP []) (Yf := Hook.obs $H) (Ya := Hook.val $H) (YP := Hook.says $H) (N := 2340) ?hl (Hook.of $H) (Hook.keeps $H) (fun s e => xl_of s (Bool.and_eq_true_iff.mp e).1) XL.keeps (by rfl) (by rfl) (by rfl) (fun s e => recFacts_of (Bool.and_eq_true_iff.mp e).2) (by rfl) (by first | assumption | decide +kernel) Mine.law_ok ⟨rfl, rfl, rfl, rfl, rfl, by decide +kernel⟩ ?hw ?hc; (case hl => refine left_boot (boot_open Mine.boot_1 rfl Mine.boot_2) ?_; intro w os; unfold topFrom; rw [PySem.W.Fast.te14082659384304107361, PySem.W.Fast.te4187177175401517315]; kernel_rfl)))
open_top hd for PySem.Challenge.rw_xj0029_01
end Mine
set_option Elab.async false
set_option maxRecDepth 100000
set_option maxHeartbeats 4000000
namespace Mine
abbrev row := PySem.Challenge.rw_xj0029_01

theorem fill (P : Params) : row.prog = row.prog ∧ hd.heap_1 P = hd.heap_1 P := by
  k_fill
  w_top off
  exact ⟨rfl, rfl⟩

section
variable {w : World} {pr : Program} {p : Program} {loose : List Str} {mean : ExcName → Option Value} {mg mb : Str → Option Value}
  {dp un : Nat} {gd : Option (List Code)} {cn : Str} {cs : Scope} {a : Addr} {ccd : Value} {cl : List (Str × Addr)} {outer : List Env} {A₀ : Around} {base h₀ : Heap} {L : Addr} {m : Str → Option Value} {s : Shared} {Q E : Value → Shared → Prop} {news : List (Addr × Obj)} {K : Frag}

/-- a call of a plain def from a frame: its body is walked with no exception let out -/
theorem enter {name qual : Str} {params : Arguments} {body : List Stmt} {scope : Scope} {dV kV doc pm cdv ct oc : Value} {an od : Option Addr} {osl : Array (Option Value)} {f : Addr} {vals : List Value} (binds : List (Str × Value))
    (B : Below A₀ base outer h₀) (F : Fr h₀ L s.heap m) (X : K.In h₀) (N : News h₀ L s.heap news) (T : Top p loose mean mg mb h₀) (hcs : cs.kind = .function)
    (hroom : dp < recursionLimit)
    (ho : K.lookup f = some ⟨oc, od, .func (fnOf name qual params body scope dV kV doc pm an cdv ct), osl⟩) (hcd : codeIn K cdv qual = true)
    (hbind : BindsTo s (fnOf name qual params body scope dV kV doc pm an cdv ct) ⟨vals, []⟩ binds) (hloc : ∀ y ∈ binds, scope.names.lookup y.1 = some .local)
    (hco : scope.isCoroutine = false) (hgen : scope.isGenerator = false) (hk : scope.kind = .function)
    (hcell : ∀ x ∈ scope.names, x.2 ≠ .cell)
    (h : ∀ g L' h₁, Fr h₀ L g m → Fr g L' h₁ (fun y => binds.reverse.lookup y) → News g L' h₁ news → Below (ktrTop dp un gd cn cs L a ccd cl outer) base (envX cn cs L a ccd cl :: outer) g → K.In g → Top p loose mean mg mb g →
      wpAny (model pr w) ((ktrTop dp un gd cn cs L a ccd cl outer).deeper (envOf qual scope L' f cdv)) (execs body (envOf qual scope L' f cdv))
        (fun fl s' => LeaveK h₀ L m g (fun r s' => match r with | .ok (.ret v) => Q v s' | _ => False) (match fl with | .ret v => v | _ => .none) s')
        (fun _ _ => False)
        { s with heap := h₁, toks := s.toks + binds.length }) :
    wpAny (model pr w) (ktrTop dp un gd cn cs L a ccd cl outer) (call (.ref f) vals) Q E s := by
  refine wpAny_call ?_
  refine code_def (binds := binds) B F X N T rfl rfl hcs ho hcd hroom hbind hloc (fun g L' h₁ FG F' N' B' X' T' => ?_) hco hgen hk hcell
  refine wpAny_mono (h g L' h₁ FG F' N' B' X' T') (fun fl s' hl => ?_) fun _ _ x => x.elim
  obtain ⟨L'', m', news', F₂, N₂, k⟩ := hl
  exact ⟨L'', m', news', F₂, N₂, fun a b => k a b⟩

/-- a value back from a pure call: what it made comes onto the ledger -/
theorem wp_false_E {α : Type} {A : Around} {t : Sem α} {Q : α → Shared → Prop} {E : Value → Shared → Prop} (h : wpAny (model pr w) A t Q (fun _ _ => False) s) : wpAny (model pr w) A t Q E s :=
  wpAny_mono h (fun _ _ x => x) fun _ _ x => x.elim
end

section
variable {prog : Program} {w : World} {A : Around} {s : Shared} {env : Env} {Q : Flow → Shared → Prop}

noncomputable def WhileBack {σ : Type} (S : σ → Shared → Prop) (μ : σ → Nat) (Q : Flow → Shared → Prop) (c : σ) (f : Flow) (s : Shared) : Prop :=
  match f with
  | .next => ∃ c', S c' s ∧ μ c' < μ c
  | .cont => ∃ c', S c' s ∧ μ c' < μ c
  | .brk => Q .next s
  | .ret v => Q (.ret v) s

theorem while_rule {σ : Type} {test : PySem.Expr} {body : List Stmt} {pos : Pos} (S : σ → Shared → Prop) (μ : σ → Nat) (c₀ : σ) (h0 : S c₀ s)
    (turn : ∀ c s', S c s' → wpAny (model prog w) A (isTrue test env (eval test env)) (fun b s₂ => if b = true then wpAny (model prog w) A (execs body env) (WhileBack S μ Q c) (fun _ _ => False) s₂ else Q .next s₂) (fun _ _ => False) s') :
    wpAny (model prog w) A (exec (.While test body [] pos) env) Q (fun _ _ => False) s := by
  have all : ∀ n c s', μ c < n → S c s' → WhlRest prog w A (fun _ _ => False) env test body [] Q 0 s' := by
    intro n
    induction n with
    | zero => intro c s' h; exact absurd h (Nat.not_lt_zero _)
    | succ n ih =>
      intro c s' hn hS
      refine whl_turn (k := 0) PassesOwn.never (wpAny_mono (turn c s' hS) (fun b s₂ h₂ => ?_) fun _ _ x => x)
      cases b with
      | false =>
        refine WhlIf.no rfl (wpAny_execs_nil ?_)
        simpa using h₂
      | true =>
        refine WhlIf.yes rfl ?_
        simp only [if_true] at h₂
        refine wpAny_mono h₂ (fun f s₃ h₃ => ?_) fun _ _ x => x
        cases f with
        | next => obtain ⟨c', hS', hm⟩ := h₃; exact ih c' s₃ (by omega) hS'
        | cont => obtain ⟨c', hS', hm⟩ := h₃; exact ih c' s₃ (by omega) hS'
        | brk => exact h₃
        | ret v => exact h₃
  exact whl_start 0 (all _ c₀ s (Nat.lt_succ_self _) h0)

noncomputable def ForBack (I : Nat → Shared → Prop) (n : Nat) (Q : Flow → Shared → Prop) (f : Flow) (s : Shared) : Prop :=
  match f with
  | .next => ∃ m, m < n ∧ I m s
  | .cont => ∃ m, m < n ∧ I m s
  | .brk => Q .next s
  | .ret v => Q (.ret v) s

theorem for_rule {target iter : PySem.Expr} {body : List Stmt} {pos : Pos} (I : Value → Nat → Shared → Prop)
    (h : wpAny (model prog w) A (eval iter env) (fun x s₁ => wpAny (model prog w) A (pyIter x) (fun it s₂ => ∃ n, I it n s₂) (fun _ _ => False) s₁) (fun _ _ => False) s)
    (turn : ∀ it n s', I it n s' → wpAny (model prog w) A (pyNext it) (fun r s₁ => match r with
      | none => Q .next s₁
      | some v => wpAny (model prog w) A (letOwnedTupleGo target it v) (fun _ s₂ => wpAny (model prog w) A (assign target env v) (fun _ s₃ => wpAny (model prog w) A (execs body env) (ForBack (I it) n Q) (fun _ _ => False) s₃) (fun _ _ => False) s₂) (fun _ _ => False) s₁) (fun _ _ => False) s')
    (hs : ∀ x, foldedSetIterable iter env x = pure x := by intro _; rfl) :
    wpAny (model prog w) A (exec (.For target iter body [] pos) env) Q (fun _ _ => False) s := by
  refine wpAny_For (wpAny_mono h (fun x s₁ h₁ => wpAny_mono h₁ (fun it s₂ h₂ => ?_) fun _ _ e => e) fun _ _ e => e) hs
  obtain ⟨n, hn⟩ := h₂
  refine codeAny_forLoop_any (I it) (fun n s' hI => ?_) n hn
  refine wpAny_mono (turn it n s' hI) (fun r s₁ h₁ => ?_) fun _ _ x => x.elim
  cases r with
  | none => exact wpAny_execs_nil h₁
  | some v =>
    refine wpAny_mono h₁ (fun _ s₂ h₂ => wpAny_mono h₂ (fun _ s₃ h₃ => wpAny_mono h₃ (fun f s₄ h₄ => ?_) fun _ _ x => x.elim) fun _ _ x => x.elim) fun _ _ x => x.elim
    cases f with
    | next => exact h₄
    | cont => exact h₄
    | brk => exact h₄
    | ret v => exact h₄
end

section
variable {g h : Heap} {L : Addr}
theorem fr_swap {A B : Str} {x z : Value} {f : Str → Option Value} (F : Fr g L h (fun y => if y = A then some x else if y = B then some z else f y)) (hne : A ≠ B := by decide) :
    Fr g L h (fun y => if y = B then some z else if y = A then some x else f y) := by
  have e : (fun y => if y = B then some z else if y = A then some x else f y) = fun y => if y = A then some x else if y = B then some z else f y := by
    funext y
    by_cases h1 : y = A
    · subst h1; simp [hne]
    · simp [h1]
  rw [e]; exact F
theorem fr_ext {m m' : Str → Option Value} (F : Fr g L h m) (e : ∀ y, m y = m' y) : Fr g L h m' := by
  have : m = m' := funext e
  subst this; exact F
theorem news_sub {news news' : List (Addr × Obj)} (N : News g L h news') (hs : ∀ p ∈ news, p ∈ news') : News g L h news := fun p hp => N p (hs p hp)
theorem news_tail {x : Addr × Obj} {news : List (Addr × Obj)} (N : News g L h (x :: news)) : News g L h news := fun p hp => N p (.tail _ hp)
end

section
open Builtin.Int (intBits)
theorem noPy {x y : Int} {k : Nat} (h : intBits y ≤ k) (hk : k ≤ 9000) : Builtin.divisionGoesByPylong x y = false := by
  by_cases h0 : y = 0
  · subst h0; exact PyProof.noPylong_of_log2 (by decide)
  · refine PyProof.noPylong_of_log2 ?_
    have h1 : intBits y = y.natAbs.log2 + 1 := by unfold intBits; rw [if_neg (by simpa using h0)]
    omega
theorem bits_pow {n : Nat} : intBits ((2 : Int) ^ n) ≤ n + 1 := by
  rw [intBits_le_iff, Int.natAbs_pow]
  exact Nat.pow_lt_pow_right (by decide) (by omega)
theorem bits_of_lt {x : Int} {n : Nat} (h0 : 0 ≤ x) (h : x < 2 ^ n) : intBits x ≤ n := by
  rw [intBits_le_iff]
  have : ((x.natAbs : Nat) : Int) < ((2 ^ n : Nat) : Int) := by push_cast; omega
  exact_mod_cast this
theorem lt_of_bits {x : Int} {n : Nat} (h : intBits x ≤ n) : x < 2 ^ n := by
  rw [intBits_le_iff] at h
  have : ((x.natAbs : Nat) : Int) < ((2 ^ n : Nat) : Int) := by exact_mod_cast h
  push_cast at this; omega

variable {prog : Program} {w : World} {A : Around} {E : Value → Shared → Prop} {s : Shared} {Q : Value → Shared → Prop}
theorem lshift_b {a n : Int} {t u : Tok} {k : Nat} (hn : 0 ≤ n) (hb : intBits a ≤ k) (hk : (k : Int) + n ≤ 100000000) (h : Q (.int (a * 2 ^ n.toNat) s.toks) { s with toks := s.toks + 1 }) :
    wpAny (model prog w) A (binaryOp .LShift (.int a t) (.int n u)) Q E s := lshift_int hn (by omega) h
theorem mul_b {a b : Int} {t u : Tok} {m n : Nat} (ha : intBits a ≤ m) (hb : intBits b ≤ n) (hk : m + n ≤ 134217728) (h : Q (.int (a * b) s.toks) { s with toks := s.toks + 1 }) :
    wpAny (model prog w) A (binaryOp .Mult (.int a t) (.int b u)) Q E s := mul_int h (IntMulOk.of_le ha hb hk)
theorem bits_up {x : Int} {k k' : Nat} (h : intBits x ≤ k) (hk : k ≤ k') : intBits x ≤ k' := Nat.le_trans h hk
end

theorem allLt_mem {d : Addr} : ∀ (l : List (Addr × Obj)), AllLt d l → ∀ p ∈ l, p.1 < d := by
  intro l
  induction l with
  | nil => intro _ p hp; cases hp
  | cons q r ih =>
    intro h p hp
    rcases List.mem_cons.mp hp with e | hp
    · rw [e]; exact h.1
    · exact ih h.2 p hp
noncomputable def Off (P : Addr) (news : List (Addr × Obj)) : Prop := ∀ p ∈ news, p.1 ≠ P
/-- the walk halts here: what follows is typed by hand -/
noncomputable def Stop (P : Prop) : Prop := P
theorem stop_intro {P : Prop} (h : Stop P) : P := h
theorem Stop.mk {P : Prop} (h : P) : Stop P := h
theorem room_up {d n k : Nat} (h : d + n < recursionLimit) (hk : k + 1 ≤ n) : d + 1 + k < recursionLimit :=
  Nat.lt_of_le_of_lt (by rw [Nat.add_assoc, Nat.add_comm 1 k]; exact Nat.add_le_add_left hk d) h
theorem unit_up {u n k : Nat} (h : u + n < cLine) (hk : k + 3 ≤ n) : u + 3 + k < cLine :=
  Nat.lt_of_le_of_lt (by rw [Nat.add_assoc, Nat.add_comm 3 k]; exact Nat.add_le_add_left hk u) h
end Mine
set_option Elab.async false
set_option maxRecDepth 100000
set_option maxHeartbeats 4000000
namespace Mine
section
variable {w : World} {pr : Program} {p : Program} {loose : List Str} {mean : ExcName → Option Value} {mg mb : Str → Option Value}
  {dp un : Nat} {gd : Option (List Code)} {cn : Str} {cs : Scope} {a : Addr} {ccd : Value} {cl : List (Str × Addr)} {outer : List Env} {A₀ : Around} {base h₀ : Heap} {L : Addr} {m : Str → Option Value} {s : Shared} {Q E : Value → Shared → Prop} {news : List (Addr × Obj)} {K : Frag}

/-- a call of a def some of whose names are cells -/
theorem enterC {name qual : Str} {params : Arguments} {body : List Stmt} {scope : Scope} {dV kV doc pm cdv ct oc : Value} {an od : Option Addr} {osl : Array (Option Value)} {f : Addr} {vals : List Value} (binds : List (Str × Value))
    (B : Below A₀ base outer h₀) (F : Fr h₀ L s.heap m) (X : K.In h₀) (N : News h₀ L s.heap news) (T : Top p loose mean mg mb h₀) (hcs : cs.kind = .function)
    (hroom : dp < recursionLimit)
    (ho : K.lookup f = some ⟨oc, od, .func (fnOf name qual params body scope dV kV doc pm an cdv ct), osl⟩) (hcd : codeIn K cdv qual = true)
    (hbind : BindsTo s (fnOf name qual params body scope dV kV doc pm an cdv ct) ⟨vals, []⟩ binds) (hkind : (binds.all fun y => scope.names.lookup y.1 == some .local || scope.names.lookup y.1 == some .cell) = true)
    (hnd : ((cellsFrom 0 scope.names []).map (·.1)).Nodup)
    (hco : scope.isCoroutine = false) (hgen : scope.isGenerator = false) (hk : scope.kind = .function)
    (h : ∀ g L' h₁ tk cells, Fr h₀ L g m → Fr g L' h₁ (bindL (envOfC qual scope L' f cdv).kindOf binds fun _ => none) → News g L' h₁ (cells ++ news) →
      CellsAre (bindC (envOfC qual scope L' f cdv).kindOf binds fun _ => none) (cellsFrom (L' + 1) scope.names []) cells →
      Below (ktrTop dp un gd cn cs L a ccd cl outer) base (envX cn cs L a ccd cl :: outer) g → K.In g → Top p loose mean mg mb g → (∀ p ∈ news, p.1 < L') →
      wpAny (model pr w) ((ktrTop dp un gd cn cs L a ccd cl outer).deeper (envOfC qual scope L' f cdv)) (execs body (envOfC qual scope L' f cdv))
        (fun fl s' => LeaveK h₀ L m g (fun r s' => match r with | .ok (.ret v) => Q v s' | _ => False) (match fl with | .ret v => v | _ => .none) s')
        (fun _ _ => False)
        { s with heap := h₁, toks := tk }) :
    wpAny (model pr w) (ktrTop dp un gd cn cs L a ccd cl outer) (call (.ref f) vals) Q E s := by
  refine wpAny_call ?_
  refine code_defC (binds := binds) B F X N T rfl rfl hcs ho hcd hroom hbind hkind hnd (fun g L' h₁ tk cells FG F' N' Y B' X' T' l => ?_) hco hgen hk
  refine wpAny_mono (h g L' h₁ tk cells FG F' N' Y B' X' T' l) (fun fl s' hl => ?_) fun _ _ x => x.elim
  obtain ⟨L'', m', news', F₂, N₂, k⟩ := hl
  exact ⟨L'', m', news', F₂, N₂, fun a b => k a b⟩

/-- a call of a def that this call made -/
theorem enterN {name qual : Str} {params : Arguments} {body : List Stmt} {scope : Scope} {clos : List (Str × Addr)} {doc pm ctv : Value} {c' f : Addr} {vals : List Value} (binds : List (Str × Value))
    (B : Below A₀ base outer h₀) (F : Fr h₀ L s.heap m) (X : K.In h₀) (N : News h₀ L s.heap news) (T : Top p loose mean mg mb h₀) (hcs : cs.kind = .function)
    (hroom : dp < recursionLimit)
    (ho : (f, fnMade name qual params body scope clos doc pm c' ctv) ∈ news) (hcd : s.heap.CodeRec (.ref c') qual)
    (hbind : BindsTo s (fnX name qual params body scope clos .none .none doc pm none (.ref c') ctv) ⟨vals, []⟩ binds) (hloc : ∀ y ∈ binds, scope.names.lookup y.1 = some .local)
    (hco : scope.isCoroutine = false) (hgen : scope.isGenerator = false) (hk : scope.kind = .function)
    (hcell : ∀ x ∈ scope.names, x.2 ≠ .cell)
    (h : ∀ g L' h₁, Fr h₀ L g m → Fr g L' h₁ (fun y => binds.reverse.lookup y) → News g L' h₁ news → Below (ktrTop dp un gd cn cs L a ccd cl outer) base (envX cn cs L a ccd cl :: outer) g → K.In g → Top p loose mean mg mb g →
      wpAny (model pr w) ((ktrTop dp un gd cn cs L a ccd cl outer).deeper (envX qual scope L' f (.ref c') clos)) (execs body (envX qual scope L' f (.ref c') clos))
        (fun fl s' => LeaveK h₀ L m g (fun r s' => match r with | .ok (.ret v) => Q v s' | _ => False) (match fl with | .ret v => v | _ => .none) s')
        (fun _ _ => False)
        { s with heap := h₁, toks := s.toks + binds.length }) :
    wpAny (model pr w) (ktrTop dp un gd cn cs L a ccd cl outer) (call (.ref f) vals) Q E s := by
  refine wpAny_call ?_
  refine code_nest (binds := binds) B F X N T rfl rfl hcs ho hcd hroom hbind hloc (fun g L' h₁ FG F' N' B' X' T' => ?_) hco hgen hk hcell
  refine wpAny_mono (h g L' h₁ FG F' N' B' X' T') (fun fl s' hl => ?_) fun _ _ x => x.elim
  obtain ⟨L'', m', news', F₂, N₂, k⟩ := hl
  exact ⟨L'', m', news', F₂, N₂, fun a b => k a b⟩
end

/-- the table of the code objects that a def's own run has made: none yet, or the one -/
noncomputable def TabSt (pos : Pos) (qual : Str) (ps : Array Value) (news : List (Addr × Obj)) : Prop :=
  ps = #[] ∨ ∃ c' oc vs t, ps = #[rawInt pos.line, rawInt pos.col, .ref c'] ∧ (c', oc) ∈ news ∧ oc.data = .fields vs ∧ vs[1]? = some (.str qual t)
theorem TabSt.mono {pos : Pos} {qual : Str} {ps : Array Value} {news news' : List (Addr × Obj)} (x : TabSt pos qual ps news) (h : ∀ p ∈ news, p ∈ news') : TabSt pos qual ps news' := by
  rcases x with e | ⟨c', oc, vs, t, e, hm, r⟩
  · exact .inl e
  · exact .inr ⟨c', oc, vs, t, e, h _ hm, r⟩

section
variable {M : Model} {A : Around} {E : Value → Shared → Prop} {s : Shared} {h₀ : Heap} {L a c P : Addr} {m mg mb : Str → Option Value} {cn : Str} {cs : Scope} {ccd : Value} {cl : List (Str × Addr)} {news : List (Addr × Obj)}
  {p : Program} {loose : List Str} {mean : ExcName → Option Value} {name qual : Str} {params : Arguments} {body : List Stmt} {scope : Scope} {clos : List (Str × Addr)} {ps : Array Value} {pos : Pos}

/-- a def within a def: the table holds its code object, made now or earlier -/
theorem fdef {Q : Flow → Shared → Prop} (extra : List (Addr × Obj)) (hd0 : params.defaults = []) (hk0 : params.kw_defaults = []) (ha : annTrees params none (envX cn cs L a ccd cl) = []) (hq : qualnameIn (envX cn cs L a ccd cl) name name = qual)
    (F : Fr h₀ L s.heap m) (N : News h₀ L s.heap ((P, tabObj ps) :: (extra ++ news))) (T : Top p loose mean mg mb h₀) (C : CodeHd h₀ c P) (hcd : ccd = .ref c) (hoff : Off P (extra ++ news)) (hts : TabSt pos qual ps news)
    (hcl : closureFor scope (envX cn cs L a ccd cl) = pure clos)
    (h : ∀ f fo c' oc vs t ctv doc h' tk ps' add, fo = fnMade name qual params body scope clos doc ((mg "__name__").getD .none) c' ctv → Fr h₀ L h' m → News h₀ L h' ((P, tabObj ps') :: (f, fo) :: (extra ++ (add ++ news))) →
      P < f → Off P (add ++ news) → TabSt pos qual ps' (add ++ news) → (c', oc) ∈ add ++ news → oc.data = .fields vs → vs[1]? = some (.str qual t) →
      (∀ q ∈ (P, tabObj ps) :: (extra ++ news), q.1 < f) → (∀ q ∈ add, ∀ p ∈ (P, tabObj ps) :: (extra ++ news), p.1 < q.1) → (∀ q ∈ add, q.1 < f) →
      wpAny M A (storeName (envX cn cs L a ccd cl) name (.ref f)) (fun _ s'' => Q .next s'') E { s with heap := h', toks := tk }) :
    wpAny M A (exec (.FunctionDef name params body [] none [] scope none name pos) (envX cn cs L a ccd cl)) Q E s := by
  refine nestDef_K hd0 hk0 ha ?_
  rw [hq]
  rcases hts with rfl | ⟨c', oc, vs, t, rfl, hm, hd, hv⟩
  · refine nest_K F N T C hcd (UpdF.head hoff) True.intro rfl hcl ?_
    intro f c' oc vs t ctv doc h' tk F' N' hd hv l1 l2
    have hP := l1 (P, tabObj #[]) (.head _)
    refine h f _ c' oc vs t ctv doc h' tk #[rawInt pos.line, rawInt pos.col, .ref c'] [(c', oc)] rfl F' ?_ (Nat.lt_trans hP l2) ?_ (.inr ⟨c', oc, vs, t, rfl, .head _, hd, hv⟩) (.head _) hd hv ?_ ?_ ?_
    · intro q hq
      refine N' q ?_
      rcases List.mem_cons.mp hq with rfl | hq
      · exact .tail _ (.tail _ (.head _))
      · rcases List.mem_cons.mp hq with rfl | hq
        · exact .head _
        · rcases List.mem_append.mp hq with hq | hq
          · exact .tail _ (.tail _ (.tail _ (List.mem_append_left _ hq)))
          · rcases List.mem_cons.mp hq with rfl | hq
            · exact .tail _ (.head _)
            · exact .tail _ (.tail _ (.tail _ (List.mem_append_right _ hq)))
    · intro q hq
      rcases List.mem_cons.mp hq with rfl | hq
      · exact Nat.ne_of_gt hP
      · exact hoff q (List.mem_append_right _ hq)
    · intro q hq; exact Nat.lt_trans (l1 q hq) l2
    · intro q hq p hp
      rcases List.mem_cons.mp hq with rfl | hq
      · exact l1 p hp
      · cases hq
    · intro q hq
      rcases List.mem_cons.mp hq with rfl | hq
      · exact l2
      · cases hq
  · refine nestHit_K F N T C hcd (.head _) (by simp [TriplesOk, rawInt]) (c' := c') (by simp [codeAmong, rawInt]) hcl ?_
    intro f ctv doc h' tk F' N' l1
    refine h f _ c' oc vs t ctv doc h' tk _ [] rfl F' ?_ (l1 _ (.head _)) (fun q hq => hoff q (List.mem_append_right _ hq)) (.inr ⟨c', oc, vs, t, rfl, hm, hd, hv⟩) hm hd hv l1 (fun _ h => nomatch h) (fun _ h => nomatch h)
    intro q hq
    refine N' q ?_
    rcases List.mem_cons.mp hq with rfl | hq
    · exact .tail _ (.head _)
    · rcases List.mem_cons.mp hq with rfl | hq
      · exact .head _
      · exact .tail _ (.tail _ hq)
end
end Mine
set_option Elab.async false
namespace Mine
open Builtin.Int (intBits)

/-- what figures to the base 2^n make, the lowest first -/
noncomputable def dval (n : Nat) : List Int → Int
  | [] => 0
  | d :: r => d + 2 ^ n * dval n r
noncomputable def FigsOk (n : Nat) (ds : List Int) : Prop := ∀ d ∈ ds, 0 ≤ d ∧ d < 2 ^ n
noncomputable def dv (n : Nat) (ds : List Int) (lo hi : Nat) : Int := dval n ((ds.drop lo).take (hi - lo))

theorem dval_append (n : Nat) (a b : List Int) : dval n (a ++ b) = dval n a + 2 ^ (n * a.length) * dval n b := by
  induction a with
  | nil => simp [dval]
  | cons d r ih =>
    rw [List.cons_append, dval, ih, dval, List.length_cons, Nat.mul_add, Nat.mul_one, Nat.add_comm (n * r.length), Int.pow_add]
    grind
theorem dval_nonneg {n : Nat} {ds : List Int} (h : FigsOk n ds) : 0 ≤ dval n ds := by
  induction ds with
  | nil => simp [dval]
  | cons d r ih =>
    have h1 := h d (.head _)
    have h2 := ih fun x hx => h x (.tail _ hx)
    have h3 : (0 : Int) ≤ 2 ^ n * dval n r := Int.mul_nonneg (Int.le_of_lt (Int.pow_pos (by decide))) h2
    rw [dval]; omega
theorem dval_lt {n : Nat} {ds : List Int} (h : FigsOk n ds) : dval n ds < 2 ^ (n * ds.length) := by
  induction ds with
  | nil => simp [dval]
  | cons d r ih =>
    have h1 := h d (.head _)
    have h2 := ih fun x hx => h x (.tail _ hx)
    have h3 : (2 : Int) ^ n * (dval n r + 1) ≤ 2 ^ n * 2 ^ (n * r.length) := Int.mul_le_mul_of_nonneg_left (by omega) (Int.le_of_lt (Int.pow_pos (by decide)))
    rw [dval, List.length_cons, Nat.mul_add, Nat.mul_one, Nat.add_comm, Int.pow_add]
    rw [Int.mul_add] at h3
    omega
theorem figs_part {n : Nat} {ds : List Int} (h : FigsOk n ds) (lo k : Nat) : FigsOk n ((ds.drop lo).take k) :=
  fun d hd => h d (List.mem_of_mem_drop (List.mem_of_mem_take hd))
theorem dv_bits {n : Nat} {ds : List Int} {lo hi : Nat} (h : FigsOk n ds) (hn : n ≤ 200) (hl : ds.length ≤ 100) : intBits (dv n ds lo hi) ≤ 20000 := by
  have f := figs_part h lo (hi - lo)
  have h1 := dval_lt f
  refine bits_up (bits_of_lt (dval_nonneg f) h1) ?_
  have h2 : ((ds.drop lo).take (hi - lo)).length ≤ 100 := by rw [List.length_take, List.length_drop]; omega
  exact Nat.le_trans (Nat.mul_le_mul hn h2) (by decide)
theorem dv_split (n : Nat) (ds : List Int) {lo mid hi : Nat} (h1 : lo ≤ mid) (h2 : mid ≤ hi) (h3 : hi ≤ ds.length) : dv n ds lo hi = dv n ds mid hi * 2 ^ (n * (mid - lo)) + dv n ds lo mid := by
  unfold dv
  have e : (ds.drop lo).take (hi - lo) = (ds.drop lo).take (mid - lo) ++ (ds.drop mid).take (hi - mid) := by
    have e1 : hi - lo = (mid - lo) + (hi - mid) := by omega
    rw [e1, List.take_add, List.drop_drop]
    congr 3; omega
  rw [e, dval_append, List.length_take, List.length_drop, Nat.min_eq_left (by omega), Int.mul_comm, Int.add_comm]
theorem dv_one (n : Nat) (ds : List Int) {lo : Nat} (h : lo < ds.length) : dv n ds lo (lo + 1) = ds.getD lo 0 := by
  unfold dv
  have e : (ds.drop lo).take (lo + 1 - lo) = [ds[lo]] := by
    rw [Nat.add_sub_cancel_left, List.drop_eq_getElem_cons h]; rfl
  rw [e, List.getD_eq_getElem?_getD, List.getElem?_eq_getElem h]
  simp [dval]
theorem dv_all (n : Nat) (ds : List Int) : dv n ds 0 ds.length = dval n ds := by
  unfold dv; simp
theorem mid_k {lo hi k : Nat} (hk : hi - lo ≤ k + 1) (h : lo < hi) (hne : (lo : Int) + 1 ≠ hi) : (lo + hi) / 2 - lo ≤ k ∧ hi - (lo + hi) / 2 ≤ k := by omega
theorem mid_in {lo hi : Nat} (h : lo < hi) (hne : (lo : Int) + 1 ≠ hi) : lo < (lo + hi) / 2 ∧ (lo + hi) / 2 < hi := by omega
theorem mid_room {lo hi d c : Nat} (h : lo < hi) (hne : (lo : Int) + 1 ≠ hi) (hd : d + (hi - lo) + 2 < c) : d + 1 + ((lo + hi) / 2 - lo) + 2 < c ∧ d + 1 + (hi - (lo + hi) / 2) + 2 < c := by omega
theorem mid_units {lo hi u c : Nat} (h : lo < hi) (hne : (lo : Int) + 1 ≠ hi) (hu : u + 10 * (hi - lo + 2) < c) : u + 3 + 10 * ((lo + hi) / 2 - lo + 2) < c ∧ u + 3 + 10 * (hi - (lo + hi) / 2 + 2) < c := by omega
theorem mid_sum {lo hi : Nat} (h1 : lo ≤ (lo + hi) / 2) (h2 : (lo + hi) / 2 ≤ hi) : hi - (lo + hi) / 2 + ((lo + hi) / 2 - lo) = hi - lo := by omega
end Mine
set_option Elab.async false
set_option maxRecDepth 100000
set_option maxHeartbeats 4000000
namespace Mine
open Builtin.Int (intBits)
abbrev posD : Pos := ⟨47, 4, 52, 55⟩
theorem filled2 (P : Params) : row.prog = row.prog ∧ hd.heap_1 P = hd.heap_1 P := by
  k_fill
  exact ⟨rfl, rfl⟩
/-- what a call of a two-int def of the call's own gives back -/
noncomputable def RecD (w : World) (pr p : Program) (loose : List Str) (mean : ExcName → Option Value) (mg mb : Str → Option Value) (f : Addr) (need : List (Addr × Obj)) (lo hi : Nat) (v : Int) : Prop :=
  ∀ (dp un : Nat) (gd : Option (List Code)) (cn : Str) (cs : Scope) (a : Addr) (ccd : Value) (cl : List (Str × Addr)) (outer : List Env) (A₀ : Around) (base h₀ : Heap) (L : Addr) (m : Str → Option Value) (s : Shared) (Q E : Value → Shared → Prop) (news : List (Addr × Obj)) (t1 t2 : Tok),
    Below A₀ base outer h₀ → Fr h₀ L s.heap m → (Mine.hd.heap_1 w.params).In h₀ → News h₀ L s.heap news → Top p loose mean mg mb h₀ → cs.kind = .function → (∀ q ∈ need, q ∈ news) →
    dp + (hi - lo) + 2 < recursionLimit → un + 10 * ((hi - lo) + 2) < cLine →
    (∀ (t : Tok) (h' : Heap) (tk' : Nat), Fr h₀ L h' m → News h₀ L h' news → Q (.int v t) { s with heap := h', toks := tk' }) →
    wpAny (model pr w) (ktrTop dp un gd cn cs L a ccd cl outer) (call (.ref f) [.int lo t1, .int hi t2]) Q E s

theorem RecD.use {w : World} {pr p : Program} {loose : List Str} {mean : ExcName → Option Value} {mg mb : Str → Option Value} {f : Addr} {need : List (Addr × Obj)} {lo hi : Nat} {v : Int} (R : RecD w pr p loose mean mg mb f need lo hi v)
    {dp un : Nat} {gd : Option (List Code)} {cn : Str} {cs : Scope} {a : Addr} {ccd : Value} {cl : List (Str × Addr)} {outer : List Env} {A₀ : Around} {base h₀ : Heap} {L : Addr} {m : Str → Option Value} {s : Shared} {Q E : Value → Shared → Prop} {news : List (Addr × Obj)} {t1 t2 : Tok}
    (B : Below A₀ base outer h₀) (F : Fr h₀ L s.heap m) (X : (Mine.hd.heap_1 w.params).In h₀) (N : News h₀ L s.heap news) (T : Top p loose mean mg mb h₀) (hcs : cs.kind = .function) (hn : ∀ q ∈ need, q ∈ news)
    (hd : dp + (hi - lo) + 2 < recursionLimit) (hu : un + 10 * ((hi - lo) + 2) < cLine)
    (hret : ∀ (t : Tok) (h' : Heap) (tk' : Nat), Fr h₀ L h' m → News h₀ L h' news → Q (.int v t) { s with heap := h', toks := tk' }) :
    wpAny (model pr w) (ktrTop dp un gd cn cs L a ccd cl outer) (call (.ref f) [.int lo t1, .int hi t2]) Q E s := R _ _ _ _ _ _ _ _ _ _ _ _ _ _ _ _ _ _ _ _ B F X N T hcs hn hd hu hret

theorem half_of (lo hi : Nat) : Int.fdiv ((lo : Int) + (hi : Int)) (2 ^ (1 : Int).toNat) = (((lo + hi) / 2 : Nat) : Int) := by
  have : (2 : Int) ^ (1 : Int).toNat = 2 := by decide
  rw [this, Int.fdiv_eq_ediv_of_nonneg _ (by decide)]
  omega
theorem rshift_half {prog : Program} {w : World} {A : Around} {E : Value → Shared → Prop} {s : Shared} {Q : Value → Shared → Prop} {lo hi : Nat} {t u : Tok} (h : Q (.int (((lo + hi) / 2 : Nat) : Int) s.toks) { s with toks := s.toks + 1 }) :
    wpAny (model prog w) A (binaryOp .RShift (.int ((lo : Int) + (hi : Int)) t) (.int 1 u)) Q E s := rshift_int (by decide) (by rw [half_of]; exact h)

section
variable {w : World} {pr : Program} {p : Program} {loose : List Str} {mean : ExcName → Option Value} {mg mb : Str → Option Value}
  {dp un : Nat} {gd : Option (List Code)} {cn : Str} {cs : Scope} {a : Addr} {ccd : Value} {cl : List (Str × Addr)} {outer : List Env} {A₀ : Around} {base h₀ : Heap} {L : Addr} {m : Str → Option Value} {s : Shared} {Q E : Value → Shared → Prop} {news : List (Addr × Obj)}

local macro_rules | `(tactic| is_list) => `(tactic| exact News.isList (by k_asm) (by assumption))

theorem d2i {P : Addr} {ps : Array Value}
  (B : Below A₀ base outer h₀) (F : Fr h₀ L s.heap m) (X : (Mine.hd.heap_1 w.params).In h₀) (N : News h₀ L s.heap ((P, tabObj ps) :: news)) (T : Top p loose mean mg mb h₀) (hcs : cs.kind = .function)
  (C : CodeHd h₀ 41 P) (hoff : Off P news) (hts : TabSt posD (Str.ofString "_digits2int.<locals>.inner") ps news)
  (hd : dp + 200 < recursionLimit) (hu : un + 2000 < cLine) (l : Addr) (n : Int) (t1 t2 t3 : Tok) (vs : List Value) (ds : List Int) (nn : Nat) (hl : (l, listOf vs.toArray nn) ∈ news) (hv : IntsAre vs ds) (hlen : 0 < ds.length) (hlen2 : ds.length ≤ 100) (hn : 0 ≤ n) (hn2 : n ≤ 200) (hok : FigsOk n.toNat ds)
  (hret : ∀ (t : Tok) (h' : Heap) (tk' : Nat) (ps' : Array Value) (add : List (Addr × Obj)), Fr h₀ L h' m → News h₀ L h' ((P, tabObj ps') :: (add ++ news)) → Off P (add ++ news) → TabSt posD (Str.ofString "_digits2int.<locals>.inner") ps' (add ++ news) → Q (.int (dval n.toNat ds) t) { s with heap := h', toks := tk' }) :
  wpAny (model pr w) (ktrTop dp un gd cn cs L a ccd cl outer) (call (.ref 42) [.ref l, .int n t1]) Q E s := by
  refine' enterC [(Str.ofString "digits", .ref l), (Str.ofString "n", .int n t1)] B F X N T hcs (by omega) ?k6 ?k7 (BindsTo.of_eq ?k9) ?kB ?kD ?c2 ?c3 ?c4 ?_
  case k6 => k_is
  case k7 => k_is
  case k9 => exact rfl
  case kB => exact rfl
  case kD => decide +kernel
  case c2 => exact rfl
  case c3 => exact rfl
  case c4 => exact rfl
  intro g' L' h' tk' cells' FG' F' N' Y' B' X' T' l1
  have C' := C.keeps FG'.keep
  clear B F X N T C
  obtain ⟨o3, o2, o1, hE, d3, d2, d1⟩ := CellsAre.three Y'
  subst hE
  clear Y'
  replace d3 : o3.data = .cell none := d3
  replace d2 : o2.data = .cell (some (.int n t1)) := d2
  replace d1 : o1.data = .cell (some (.ref l)) := d1
  have hPL : @LT.lt Nat _ P L' := l1 (P, tabObj ps) (.head _)
  have hnL : ∀ q ∈ news, @LT.lt Nat _ q.1 L' := fun q hq => l1 q (.tail _ hq)
  refine wpAny_execs_cons ?_
  refine fdef (news := news) [(L' + 1 + 1 + 1, o3), (L' + 1 + 1, o2), (L' + 1, o1)] (qual := Str.ofString "_digits2int.<locals>.inner") rfl rfl rfl rfl F' (news_sub N' ?_) T' C' rfl ?_ hts rfl ?_
  · intro q hq
    simp only [List.cons_append, List.nil_append, List.mem_cons] at hq ⊢
    rcases hq with h | h | h | h | h <;> simp [h]
  · intro q hq
    simp only [List.cons_append, List.nil_append, List.mem_cons] at hq
    rcases hq with rfl | rfl | rfl | h
    · refine neN ?_; dsimp only; omega
    · refine neN ?_; dsimp only; omega
    · refine neN ?_; dsimp only; omega
    · exact hoff q h
  intro f fo c' oc vs' t ctv doc h₂ tk₂ ps' add hfo F₂ N₂ hPf hoff₂ hts₂ hc' hd' hv' lf la laf
  clear F' N'
  have hf3 : L' + 1 + 1 + 1 < f := lf (L' + 1 + 1 + 1, o3) (.tail _ (.head _))
  refine storeX_C (news := (L' + 1 + 1 + 1, o3) :: (L' + 1 + 1, o2) :: (L' + 1, o1) :: (P, tabObj ps') :: (f, fo) :: (add ++ news)) F₂ (news_sub N₂ ?_) rfl (UpdF.head ?_) d3 ?_ rfl rfl
  · intro q hq
    simp only [List.cons_append, List.nil_append, List.mem_cons] at hq ⊢
    rcases hq with h | h | h | h | h | h <;> simp [h]
  · intro q hq
    simp only [List.mem_cons] at hq
    rcases hq with rfl | rfl | rfl | rfl | h
    · refine neN ?_; dsimp only; omega
    · refine neN ?_; dsimp only; omega
    · refine neN ?_; dsimp only; omega
    · exact Nat.ne_of_gt hf3
    · rcases List.mem_append.mp h with h | h
      · exact Nat.ne_of_gt (la q h _ (.tail _ (.head _)))
      · have := hnL q h; refine neN ?_; omega
  intro h₃ o3' F₃ N₃ d3'
  clear N₂ F₂ d3
  have claim : ∀ k lo hi, hi - lo ≤ k → lo < hi → hi ≤ ds.length → RecD w pr p loose mean mg mb f [(f, fo), (c', oc), (L' + 1 + 1 + 1, o3'), (L' + 1 + 1, o2), (L' + 1, o1), (l, listOf vs.toArray nn)] lo hi (dv n.toNat ds lo hi) := by
    intro k
    induction k with
    | zero => intro lo hi h1 h2; omega
    | succ k ih =>
      intro lo hi hk hlt hle
      intro dp un gd cn cs a ccd cl outer A₀ base h₀ L m s Q E news t1 t2 B F X N T hcs hneed hdp hun hret
      have m1 := hneed _ (.head _)
      have m2 := hneed _ (.tail _ (.head _))
      have m3 := hneed _ (.tail _ (.tail _ (.head _)))
      have m4 := hneed _ (.tail _ (.tail _ (.tail _ (.head _))))
      have m5 := hneed _ (.tail _ (.tail _ (.tail _ (.tail _ (.head _)))))
      have m6 := hneed _ (.tail _ (.tail _ (.tail _ (.tail _ (.tail _ (.head _))))))
      rw [hfo] at m1
      refine' enterN [(Str.ofString "L", .int lo t1), (Str.ofString "R", .int hi t2)] B F X N T hcs (by omega) m1 (codeRec_news N m2 hd' hv') (BindsTo.of_eq rfl) (locs rfl) rfl rfl rfl ?c5 ?_
      case c5 => decide
      intro g' L' h' FG' F' N' B' X' T'
      clear B F X N T
      have m1' := hneed _ (.head _)
      (try dsimp only); (try k_lift B'); (try k_fold)
      have hm1 : lo ≤ (lo + hi) / 2 := by omega
      have hm2 : (lo + hi) / 2 ≤ hi := by omega
      have hs0 : 0 ≤ ((((lo + hi) / 2 : Nat) : Int) - (lo : Int)) * n := Int.mul_nonneg (by omega) hn
      have hs1 : ((((lo + hi) / 2 : Nat) : Int) - (lo : Int)) * n ≤ 100 * 200 := Int.mul_le_mul (by omega) hn2 hn (by decide)
      have hb1 : intBits ((((lo + hi) / 2 : Nat) : Int) - (lo : Int)) ≤ 7 := bits_of_lt (by omega) (by omega)
      have hb2 : intBits n ≤ 8 := bits_of_lt hn (by omega)
      have hnn : n.toNat ≤ 200 := by omega
      have hsn : (((((lo + hi) / 2 : Nat) : Int) - (lo : Int)) * n).toNat = n.toNat * ((lo + hi) / 2 - lo) := by
        obtain ⟨k, rfl⟩ := Int.eq_ofNat_of_zero_le hn
        rw [← Int.ofNat_sub hm1]
        rw [Int.toNat_natCast, Nat.mul_comm]; rfl
      (repeat' (first | (k_unfold; (try dsimp only)) | (k_end; kc_close) | ((with_reducible show wpAny _ _ (binaryOp Operator.Mult (Value.int ..) (Value.int ..)) _ _ _); k_dflt (refine mul_b (by assumption) (by assumption) (by decide) ?_; try dsimp only)) | ((with_reducible show wpAny _ _ (binaryOp Operator.LShift (Value.int ..) (Value.int ..)) _ _ _); k_dflt (refine lshift_b (by assumption) (by exact dv_bits (by assumption) (by assumption) (by assumption)) (by omega) ?_; try dsimp only)) | ((with_reducible show wpAny _ _ (binaryOp Operator.RShift (Value.int ..) (Value.int ..)) _ _ _); k_dflt (refine rshift_half ?_; try dsimp only)) | ((with_reducible show wpAny _ _ (eval (PySem.Expr.Name ..) _) _ _ _); (k_here; k_dflt (refine nameX_C (by k_asm) (by rfl) (by assumption) (by assumption) ?_ (by rfl) (by rfl); k_whole))) | ((with_reducible show wpAny _ _ (call (Value.ref ..) _) _ _ _); refine stop_intro ?_) | ((with_reducible show wpAny _ _ (callWith _ (Value.ref ..) _ _ _) _ _ _); k_dflt (refine callWith_F (by exact FnAt.of (by k_asm) (by assumption)) ?_; k_whole)) | ((with_reducible show wpAny _ _ (eval (PySem.Expr.Name ..) _) _ _ _); (k_here; k_dflt (refine nameX_F (by k_asm) (by rfl) (by assumption) (by assumption) ?_ (by rfl) (by rfl); k_whole))) | ((with_reducible show _ ∧ _); first | (with_reducible (((with_reducible show FnAt _ _ ∧ _); refine ⟨FnAt.of (by k_asm) (by assumption), ?_⟩; try dsimp only [List.nil_append, List.cons_append]))) | (((with_reducible show FnAt _ _ ∧ _); refine ⟨FnAt.of (by k_asm) (by assumption), ?_⟩; try dsimp only [List.nil_append, List.cons_append]))) | ((with_reducible show LeaveK ..); first | (with_reducible ((refine leaveK_ (by k_asm) (by k_asm) ?_; intro kF_z kN_z; try dsimp only))) | ((refine leaveK_ (by k_asm) (by k_asm) ?_; intro kF_z kN_z; try dsimp only))) | walk1 | (dsimp only; walk1) | (leave1; (try dsimp only)) | fail "no step"))
      · have e1 : hi = lo + 1 := by omega
        have e2 : dv n.toNat ds lo hi = ds.getD (lo : Int).toNat 0 := by rw [e1, dv_one _ _ (by omega)]; rfl
        rw [e2] at hret
        exact hret _ _ _ (by assumption) (by assumption)
      · refine Stop.mk ?_
        refine' RecD.use (ih ((lo + hi) / 2) hi (mid_k hk hlt (by assumption)).2 (mid_in hlt (by assumption)).2 hle) ?B ?F ?X ?N ?T ?K hneed ?d ?u ?_
        case B => k_asm
        case F => k_asm
        case X => k_asm
        case N => k_asm
        case T => k_asm
        case K => exact rfl
        case d => first | exact (mid_room hlt (by assumption) hdp).2 | (first | exact room_up (by with_reducible assumption) (by decide) | ktr_room)
        case u => first | exact (mid_units hlt (by assumption) hun).2 | (first | exact unit_up (by with_reducible assumption) (by decide) | ktr_units)
        intro t9 h9 tk9 F9 N9
        dsimp only
        (repeat' (first | (k_unfold; (try dsimp only)) | (k_end; kc_close) | ((with_reducible show wpAny _ _ (binaryOp Operator.Mult (Value.int ..) (Value.int ..)) _ _ _); k_dflt (refine mul_b (by assumption) (by assumption) (by decide) ?_; try dsimp only)) | ((with_reducible show wpAny _ _ (binaryOp Operator.LShift (Value.int ..) (Value.int ..)) _ _ _); k_dflt (refine lshift_b (by assumption) (by exact dv_bits (by assumption) (by assumption) (by assumption)) (by omega) ?_; try dsimp only)) | ((with_reducible show wpAny _ _ (binaryOp Operator.RShift (Value.int ..) (Value.int ..)) _ _ _); k_dflt (refine rshift_half ?_; try dsimp only)) | ((with_reducible show wpAny _ _ (eval (PySem.Expr.Name ..) _) _ _ _); (k_here; k_dflt (refine nameX_C (by k_asm) (by rfl) (by assumption) (by assumption) ?_ (by rfl) (by rfl); k_whole))) | ((with_reducible show wpAny _ _ (call (Value.ref ..) _) _ _ _); refine stop_intro ?_) | ((with_reducible show wpAny _ _ (callWith _ (Value.ref ..) _ _ _) _ _ _); k_dflt (refine callWith_F (by exact FnAt.of (by k_asm) (by assumption)) ?_; k_whole)) | ((with_reducible show wpAny _ _ (eval (PySem.Expr.Name ..) _) _ _ _); (k_here; k_dflt (refine nameX_F (by k_asm) (by rfl) (by assumption) (by assumption) ?_ (by rfl) (by rfl); k_whole))) | ((with_reducible show _ ∧ _); first | (with_reducible (((with_reducible show FnAt _ _ ∧ _); refine ⟨FnAt.of (by k_asm) (by assumption), ?_⟩; try dsimp only [List.nil_append, List.cons_append]))) | (((with_reducible show FnAt _ _ ∧ _); refine ⟨FnAt.of (by k_asm) (by assumption), ?_⟩; try dsimp only [List.nil_append, List.cons_append]))) | ((with_reducible show LeaveK ..); first | (with_reducible ((refine leaveK_ (by k_asm) (by k_asm) ?_; intro kF_z kN_z; try dsimp only))) | ((refine leaveK_ (by k_asm) (by k_asm) ?_; intro kF_z kN_z; try dsimp only))) | walk1 | (dsimp only; walk1) | (leave1; (try dsimp only)) | fail "no step"))
        refine Stop.mk ?_
        refine' RecD.use (ih lo ((lo + hi) / 2) (mid_k hk hlt (by assumption)).1 (mid_in hlt (by assumption)).1 (Nat.le_trans hm2 hle)) ?B ?F ?X ?N ?T ?K hneed ?d ?u ?_
        case B => k_asm
        case F => k_asm
        case X => k_asm
        case N => k_asm
        case T => k_asm
        case K => exact rfl
        case d => first | exact (mid_room hlt (by assumption) hdp).1 | (first | exact room_up (by with_reducible assumption) (by decide) | ktr_room)
        case u => first | exact (mid_units hlt (by assumption) hun).1 | (first | exact unit_up (by with_reducible assumption) (by decide) | ktr_units)
        intro t9 h9 tk9 F9 N9
        dsimp only
        (repeat' (first | (k_unfold; (try dsimp only)) | (k_end; kc_close) | ((with_reducible show wpAny _ _ (binaryOp Operator.Mult (Value.int ..) (Value.int ..)) _ _ _); k_dflt (refine mul_b (by assumption) (by assumption) (by decide) ?_; try dsimp only)) | ((with_reducible show wpAny _ _ (binaryOp Operator.LShift (Value.int ..) (Value.int ..)) _ _ _); k_dflt (refine lshift_b (by assumption) (by exact dv_bits (by assumption) (by assumption) (by assumption)) (by omega) ?_; try dsimp only)) | ((with_reducible show wpAny _ _ (binaryOp Operator.RShift (Value.int ..) (Value.int ..)) _ _ _); k_dflt (refine rshift_half ?_; try dsimp only)) | ((with_reducible show wpAny _ _ (eval (PySem.Expr.Name ..) _) _ _ _); (k_here; k_dflt (refine nameX_C (by k_asm) (by rfl) (by assumption) (by assumption) ?_ (by rfl) (by rfl); k_whole))) | ((with_reducible show wpAny _ _ (call (Value.ref ..) _) _ _ _); refine stop_intro ?_) | ((with_reducible show wpAny _ _ (callWith _ (Value.ref ..) _ _ _) _ _ _); k_dflt (refine callWith_F (by exact FnAt.of (by k_asm) (by assumption)) ?_; k_whole)) | ((with_reducible show wpAny _ _ (eval (PySem.Expr.Name ..) _) _ _ _); (k_here; k_dflt (refine nameX_F (by k_asm) (by rfl) (by assumption) (by assumption) ?_ (by rfl) (by rfl); k_whole))) | ((with_reducible show _ ∧ _); first | (with_reducible (((with_reducible show FnAt _ _ ∧ _); refine ⟨FnAt.of (by k_asm) (by assumption), ?_⟩; try dsimp only [List.nil_append, List.cons_append]))) | (((with_reducible show FnAt _ _ ∧ _); refine ⟨FnAt.of (by k_asm) (by assumption), ?_⟩; try dsimp only [List.nil_append, List.cons_append]))) | ((with_reducible show LeaveK ..); first | (with_reducible ((refine leaveK_ (by k_asm) (by k_asm) ?_; intro kF_z kN_z; try dsimp only))) | ((refine leaveK_ (by k_asm) (by k_asm) ?_; intro kF_z kN_z; try dsimp only))) | walk1 | (dsimp only; walk1) | (leave1; (try dsimp only)) | fail "no step"))
        rw [hsn, ← dv_split _ _ hm1 hm2 hle]
        exact hret _ _ _ (by assumption) (by assumption)
  dsimp only
  have hkeep : ∀ q ∈ (P, tabObj ps') :: (add ++ news), q ∈ (L' + 1 + 1 + 1, o3') :: (L' + 1 + 1, o2) :: (L' + 1, o1) :: (P, tabObj ps') :: (f, fo) :: (add ++ news) := by
    intro q hq
    rcases List.mem_cons.mp hq with rfl | hq
    · exact .tail _ (.tail _ (.tail _ (.head _)))
    · exact .tail _ (.tail _ (.tail _ (.tail _ (.tail _ hq))))
  have hneed : ∀ q ∈ [(f, fo), (c', oc), (L' + 1 + 1 + 1, o3'), (L' + 1 + 1, o2), (L' + 1, o1), (l, listOf vs.toArray nn)], q ∈ (L' + 1 + 1 + 1, o3') :: (L' + 1 + 1, o2) :: (L' + 1, o1) :: (P, tabObj ps') :: (f, fo) :: (add ++ news) := by
    intro q hq
    simp only [List.mem_cons, List.not_mem_nil, or_false] at hq
    rcases hq with rfl | rfl | rfl | rfl | rfl | rfl
    · exact .tail _ (.tail _ (.tail _ (.tail _ (.head _))))
    · exact hkeep _ (.tail _ hc')
    · exact .head _
    · exact .tail _ (.head _)
    · exact .tail _ (.tail _ (.head _))
    · exact hkeep _ (.tail _ (List.mem_append_right _ hl))
  generalize (L' + 1 + 1 + 1, o3') :: (L' + 1 + 1, o2) :: (L' + 1, o1) :: (P, tabObj ps') :: (f, fo) :: (add ++ news) = led at *
  have m1 := hneed _ (.head _)
  have m1' := m1
  rw [hfo] at m1
  have m3 := hneed _ (.tail _ (.tail _ (.head _)))
  have m4 := hneed _ (.tail _ (.tail _ (.tail _ (.head _))))
  have m5 := hneed _ (.tail _ (.tail _ (.tail _ (.tail _ (.head _)))))
  have m6 := hneed _ (.tail _ (.tail _ (.tail _ (.tail _ (.tail _ (.head _))))))
  (try k_lift B'); (try k_fold)
  (repeat' (first | (k_unfold; (try dsimp only)) | (k_end; kc_close) | ((with_reducible show wpAny _ _ (binaryOp Operator.Mult (Value.int ..) (Value.int ..)) _ _ _); k_dflt (refine mul_b (by assumption) (by assumption) (by decide) ?_; try dsimp only)) | ((with_reducible show wpAny _ _ (binaryOp Operator.LShift (Value.int ..) (Value.int ..)) _ _ _); k_dflt (refine lshift_b (by assumption) (by exact dv_bits (by assumption) (by assumption) (by assumption)) (by omega) ?_; try dsimp only)) | ((with_reducible show wpAny _ _ (binaryOp Operator.RShift (Value.int ..) (Value.int ..)) _ _ _); k_dflt (refine rshift_half ?_; try dsimp only)) | ((with_reducible show wpAny _ _ (eval (PySem.Expr.Name ..) _) _ _ _); (k_here; k_dflt (refine nameX_C (by k_asm) (by rfl) (by assumption) (by assumption) ?_ (by rfl) (by rfl); k_whole))) | ((with_reducible show wpAny _ _ (call (Value.ref ..) _) _ _ _); refine stop_intro ?_) | ((with_reducible show wpAny _ _ (callWith _ (Value.ref ..) _ _ _) _ _ _); k_dflt (refine callWith_F (by exact FnAt.of (by k_asm) (by assumption)) ?_; k_whole)) | ((with_reducible show wpAny _ _ (eval (PySem.Expr.Name ..) _) _ _ _); (k_here; k_dflt (refine nameX_F (by k_asm) (by rfl) (by assumption) (by assumption) ?_ (by rfl) (by rfl); k_whole))) | ((with_reducible show _ ∧ _); first | (with_reducible (((with_reducible show FnAt _ _ ∧ _); refine ⟨FnAt.of (by k_asm) (by assumption), ?_⟩; try dsimp only [List.nil_append, List.cons_append]))) | (((with_reducible show FnAt _ _ ∧ _); refine ⟨FnAt.of (by k_asm) (by assumption), ?_⟩; try dsimp only [List.nil_append, List.cons_append]))) | ((with_reducible show LeaveK ..); first | (with_reducible ((refine leaveK_ (by k_asm) (by k_asm) ?_; intro kF_z kN_z; try dsimp only))) | ((refine leaveK_ (by k_asm) (by k_asm) ?_; intro kF_z kN_z; try dsimp only))) | walk1 | (dsimp only; walk1) | (leave1; (try dsimp only)) | fail "no step"))
  refine Stop.mk ?_
  refine' RecD.use (claim ds.length 0 ds.length (by omega) hlen (Nat.le_refl _)) ?B ?F ?X ?N ?T ?K hneed ?d ?u ?_
  case B => k_asm
  case F => k_asm
  case X => k_asm
  case N => k_asm
  case T => k_asm
  case K => exact rfl
  case d => (first | exact room_up (by with_reducible assumption) (by decide) | ktr_room)
  case u => (first | exact unit_up (by with_reducible assumption) (by decide) | ktr_units)
  intro t9 h9 tk9 F9 N9
  dsimp only
  (repeat' (first | (k_unfold; (try dsimp only)) | (k_end; kc_close) | ((with_reducible show wpAny _ _ (binaryOp Operator.Mult (Value.int ..) (Value.int ..)) _ _ _); k_dflt (refine mul_b (by assumption) (by assumption) (by decide) ?_; try dsimp only)) | ((with_reducible show wpAny _ _ (binaryOp Operator.LShift (Value.int ..) (Value.int ..)) _ _ _); k_dflt (refine lshift_b (by assumption) (by exact dv_bits (by assumption) (by assumption) (by assumption)) (by omega) ?_; try dsimp only)) | ((with_reducible show wpAny _ _ (binaryOp Operator.RShift (Value.int ..) (Value.int ..)) _ _ _); k_dflt (refine rshift_half ?_; try dsimp only)) | ((with_reducible show wpAny _ _ (eval (PySem.Expr.Name ..) _) _ _ _); (k_here; k_dflt (refine nameX_C (by k_asm) (by rfl) (by assumption) (by assumption) ?_ (by rfl) (by rfl); k_whole))) | ((with_reducible show wpAny _ _ (call (Value.ref ..) _) _ _ _); refine stop_intro ?_) | ((with_reducible show wpAny _ _ (callWith _ (Value.ref ..) _ _ _) _ _ _); k_dflt (refine callWith_F (by exact FnAt.of (by k_asm) (by assumption)) ?_; k_whole)) | ((with_reducible show wpAny _ _ (eval (PySem.Expr.Name ..) _) _ _ _); (k_here; k_dflt (refine nameX_F (by k_asm) (by rfl) (by assumption) (by assumption) ?_ (by rfl) (by rfl); k_whole))) | ((with_reducible show _ ∧ _); first | (with_reducible (((with_reducible show FnAt _ _ ∧ _); refine ⟨FnAt.of (by k_asm) (by assumption), ?_⟩; try dsimp only [List.nil_append, List.cons_append]))) | (((with_reducible show FnAt _ _ ∧ _); refine ⟨FnAt.of (by k_asm) (by assumption), ?_⟩; try dsimp only [List.nil_append, List.cons_append]))) | ((with_reducible show LeaveK ..); first | (with_reducible ((refine leaveK_ (by k_asm) (by k_asm) ?_; intro kF_z kN_z; try dsimp only))) | ((refine leaveK_ (by k_asm) (by k_asm) ?_; intro kF_z kN_z; try dsimp only))) | walk1 | (dsimp only; walk1) | (leave1; (try dsimp only)) | fail "no step"))
  rename News h₀ _ _ _ => N₅
  rw [← dv_all] at hret
  exact hret _ _ _ ps' add (by assumption) (news_sub N₅ hkeep) hoff₂ hts₂
end
end Mine
set_option Elab.async false
namespace Mine
open Builtin.Int (intBits)

theorem and_high (x k : Nat) : x &&& (x / 2 ^ k * 2 ^ k) = x / 2 ^ k * 2 ^ k := by
  apply Nat.eq_of_testBit_eq
  intro i
  rw [Nat.testBit_and, ← Nat.shiftRight_eq_div_pow, ← Nat.shiftLeft_eq, Nat.testBit_shiftLeft, Nat.testBit_shiftRight]
  by_cases h : k ≤ i
  · have e : k + (i - k) = i := by omega
    simp [h, e]
  · simp [h]
theorem bitXor_low {x : Int} {k : Nat} (h0 : 0 ≤ x) : Builtin.bitXor x (x.fdiv (2 ^ k) * 2 ^ k) = x.fmod (2 ^ k) := by
  obtain ⟨x, rfl⟩ := Int.eq_ofNat_of_zero_le h0
  have hp : (0 : Int) ≤ 2 ^ k := Int.le_of_lt (Int.pow_pos (by decide))
  rw [Int.fdiv_eq_ediv_of_nonneg _ hp, Int.fmod_eq_emod_of_nonneg _ hp]
  have e : ((x : Int) / 2 ^ k * 2 ^ k) = ((x / 2 ^ k * 2 ^ k : Nat) : Int) := by push_cast; rfl
  have ha : Builtin.bitAnd (x : Int) ((x / 2 ^ k * 2 ^ k : Nat) : Int) = ((x / 2 ^ k * 2 ^ k : Nat) : Int) := by
    unfold Builtin.bitAnd
    have e1 : decide ((0 : Int) ≤ (x : Int)) = true := decide_eq_true (by omega)
    have e2 : decide ((0 : Int) ≤ ((x / 2 ^ k * 2 ^ k : Nat) : Int)) = true := decide_eq_true (by omega)
    simp only [e1, e2, Int.toNat_natCast, and_high]
  rw [e, bitXor_and, ha, ← e]
  have := Int.mul_ediv_add_emod (x : Int) (2 ^ k)
  rw [Int.mul_comm] at this
  omega

theorem foldl_rep (v : Value) : ∀ (k : Nat) (acc : Array Value), List.foldl (fun x1 x2 => x1 ++ x2) acc (List.replicate k #[v]) = acc ++ (List.replicate k v).toArray := by
  intro k
  induction k with
  | zero => intro acc; simp
  | succ k ih => intro acc; rw [List.replicate_succ, List.foldl_cons, ih, List.replicate_succ]; apply Array.toList_inj.mp; simp [List.replicate_succ]

section
variable {prog : Program} {w : World} {A : Around} {E : Value → Shared → Prop} {s : Shared} {h₀ : Heap} {L : Addr} {m : Str → Option Value} {news : List (Addr × Obj)} {Q : Value → Shared → Prop}
theorem mul_rep {l : Addr} {v : Value} {k : Nat} {x : Int} {u : Tok} (F : Fr h₀ L s.heap m) (N : News h₀ L s.heap news) (hl : (l, listOf [v].toArray k) ∈ news) (h0 : 0 ≤ x) (hx : x ≤ 100000)
    (h : ∀ D h', Fr h₀ L h' m → News h₀ L h' ((D, listOf (List.replicate x.toNat v).toArray 0) :: news) → (∀ p ∈ news, p.1 < D) → Q (.ref D) { s with heap := h' }) :
    wpAny (model prog w) A (binaryOp .Mult (.ref l) (.int x u)) Q E s := by
  refine mul_list F N (N _ hl).1 (by omega) (by omega) (by simp; omega) (fun h' F' N' => h _ h' F' ?_ fun p hp => Heap.lt_size (N p hp).1)
  have e : List.foldl (fun x1 x2 => x1 ++ x2) #[] (List.replicate (if ([v].toArray).isEmpty = true then 0 else x.toNat) [v].toArray) = (List.replicate x.toNat v).toArray := by
    have : ([v].toArray).isEmpty = false := rfl
    rw [this]; simp only [Bool.false_eq_true, if_false]
    rw [foldl_rep]; simp
  rw [e] at N'
  exact N'
theorem ints_rep (c : Int) (t : Tok) (k : Nat) : IntsAre (List.replicate k (.int c t)) (List.replicate k c) := by
  induction k with
  | zero => exact .nil
  | succ k ih => exact .cons c t ih
end
theorem two_pow_mono {a b : Nat} (h : a ≤ b) : (2 : Int) ^ a ≤ 2 ^ b := by
  have h1 : ((2 ^ a : Nat) : Int) ≤ ((2 ^ b : Nat) : Int) := by exact_mod_cast Nat.pow_le_pow_right (by decide) h
  push_cast at h1; exact h1
theorem splice_one {ds : List Int} {lo : Nat} {y : Int} (h : lo < ds.length) : ds.set lo y = ds.take lo ++ [y] ++ ds.drop (lo + 1) := by
  rw [List.set_eq_take_append_cons_drop, if_pos h]; simp
theorem splice_len {ds seg : List Int} {lo mid cnt : Nat} (hl : ds.length = cnt) (h1 : lo ≤ mid) (h2 : mid ≤ cnt) (hs : seg.length = mid - lo) : (ds.take lo ++ seg ++ ds.drop mid).length = cnt := by
  rw [List.length_append, List.length_append, List.length_take, List.length_drop, hl, hs]; omega
theorem splice_two {ds seg seg' : List Int} {lo mid hi cnt : Nat} (hl : ds.length = cnt) (h1 : lo ≤ mid) (h2 : mid ≤ hi) (h3 : hi ≤ cnt) (hs : seg.length = mid - lo) :
    (ds.take lo ++ seg ++ ds.drop mid).take mid ++ seg' ++ (ds.take lo ++ seg ++ ds.drop mid).drop hi = ds.take lo ++ (seg ++ seg') ++ ds.drop hi := by
  have e0 : (ds.take lo ++ seg).length = mid := by rw [List.length_append, List.length_take, hl, hs]; omega
  have e1 : (ds.take lo ++ seg ++ ds.drop mid).take mid = ds.take lo ++ seg := by
    rw [List.take_append_of_le_length (by omega), List.take_of_length_le (by omega)]
  have e2 : (ds.take lo ++ seg ++ ds.drop mid).drop hi = ds.drop hi := by
    rw [List.drop_append, e0, List.drop_eq_nil_of_le (by omega), List.nil_append, List.drop_drop]
    congr 1; omega
  rw [e1, e2]; simp
theorem figs_append {n : Nat} {a b : List Int} (ha : FigsOk n a) (hb : FigsOk n b) : FigsOk n (a ++ b) := fun d hd => (List.mem_append.mp hd).elim (ha d) (hb d)
/-- uniqueness of figures -/
theorem dval_inj {n : Nat} : ∀ {a b : List Int}, a.length = b.length → FigsOk n a → FigsOk n b → dval n a = dval n b → a = b
  | [], [], _, _, _, _ => rfl
  | x :: a, y :: b, hl, ha, hb, h => by
    have h1 := ha x (.head _)
    have h2 := hb y (.head _)
    have hp : (0 : Int) < 2 ^ n := Int.pow_pos (by decide)
    rw [dval, dval] at h
    have e1 : x = y := by
      have a1 : (x + 2 ^ n * dval n a) % 2 ^ n = x := by rw [Int.add_mul_emod_self_left]; exact Int.emod_eq_of_lt h1.1 h1.2
      have a2 : (y + 2 ^ n * dval n b) % 2 ^ n = y := by rw [Int.add_mul_emod_self_left]; exact Int.emod_eq_of_lt h2.1 h2.2
      rw [← a1, ← a2, h]
    subst e1
    have e2 : dval n a = dval n b := Int.eq_of_mul_eq_mul_left (Int.ne_of_gt hp) (by omega)
    rw [dval_inj (by simpa using hl) (fun d hd => ha d (.tail _ hd)) (fun d hd => hb d (.tail _ hd)) e2]
end Mine
set_option Elab.async false
set_option maxRecDepth 100000
set_option maxHeartbeats 600000
namespace Mine
open Builtin.Int (intBits)
abbrev posI : Pos := ⟨32, 4, 41, 28⟩
theorem filled3 (P : Params) : row.prog = row.prog ∧ hd.heap_1 P = hd.heap_1 P := by
  k_fill
  exact ⟨rfl, rfl⟩

/-- what a call of inner leaves in the list of figures -/
noncomputable def RecI (w : World) (pr p : Program) (loose : List Str) (mean : ExcName → Option Value) (mg mb : Str → Option Value) (f : Addr) (need : List (Addr × Obj)) (D : Addr) (nn len n : Nat) (lo hi : Nat) (x : Int) : Prop :=
  ∀ (dp un : Nat) (gd : Option (List Code)) (cn : Str) (cs : Scope) (a : Addr) (ccd : Value) (cl : List (Str × Addr)) (outer : List Env) (A₀ : Around) (base h₀ : Heap) (L : Addr) (m : Str → Option Value) (s : Shared) (Q E : Value → Shared → Prop) (news : List (Addr × Obj)) (t0 t1 t2 : Tok) (vs : List Value) (ds : List Int),
    Below A₀ base outer h₀ → Fr h₀ L s.heap m → (Mine.hd.heap_1 w.params).In h₀ → News h₀ L s.heap ((D, listOf vs.toArray nn) :: news) → Top p loose mean mg mb h₀ → cs.kind = .function → (∀ q ∈ need, q ∈ news) → Off D news → IntsAre vs ds → ds.length = len →
    dp + (hi - lo) + 2 < recursionLimit → un + 10 * ((hi - lo) + 2) < cLine →
    (∀ (vs' : List Value) (ds' seg : List Int) (h' : Heap) (tk' : Nat), Fr h₀ L h' m → News h₀ L h' ((D, listOf vs'.toArray nn) :: news) → IntsAre vs' ds' → ds' = ds.take lo ++ seg ++ ds.drop hi → seg.length = hi - lo → FigsOk n seg → dval n seg = x → Q .none { s with heap := h', toks := tk' }) →
    wpAny (model pr w) (ktrTop dp un gd cn cs L a ccd cl outer) (call (.ref f) [.int x t0, .int lo t1, .int hi t2]) Q E s
theorem RecI.use {w : World} {pr p : Program} {loose : List Str} {mean : ExcName → Option Value} {mg mb : Str → Option Value} {f : Addr} {need : List (Addr × Obj)} {D : Addr} {nn len n : Nat} {lo hi : Nat} {x : Int} (R : RecI w pr p loose mean mg mb f need D nn len n lo hi x)
    {dp un : Nat} {gd : Option (List Code)} {cn : Str} {cs : Scope} {a : Addr} {ccd : Value} {cl : List (Str × Addr)} {outer : List Env} {A₀ : Around} {base h₀ : Heap} {L : Addr} {m : Str → Option Value} {s : Shared} {Q E : Value → Shared → Prop} {news : List (Addr × Obj)} {t0 t1 t2 : Tok} {vs : List Value} {ds : List Int}
    (B : Below A₀ base outer h₀) (F : Fr h₀ L s.heap m) (X : (Mine.hd.heap_1 w.params).In h₀) (N : News h₀ L s.heap ((D, listOf vs.toArray nn) :: news)) (T : Top p loose mean mg mb h₀) (hcs : cs.kind = .function) (hn : ∀ q ∈ need, q ∈ news) (hoff : Off D news) (hi' : IntsAre vs ds) (hl : ds.length = len)
    (hd : dp + (hi - lo) + 2 < recursionLimit) (hu : un + 10 * ((hi - lo) + 2) < cLine)
    (hret : ∀ (vs' : List Value) (ds' seg : List Int) (h' : Heap) (tk' : Nat), Fr h₀ L h' m → News h₀ L h' ((D, listOf vs'.toArray nn) :: news) → IntsAre vs' ds' → ds' = ds.take lo ++ seg ++ ds.drop hi → seg.length = hi - lo → FigsOk n seg → dval n seg = x → Q .none { s with heap := h', toks := tk' }) :
    wpAny (model pr w) (ktrTop dp un gd cn cs L a ccd cl outer) (call (.ref f) [.int x t0, .int lo t1, .int hi t2]) Q E s := R _ _ _ _ _ _ _ _ _ _ _ _ _ _ _ _ _ _ _ _ _ _ _ B F X N T hcs hn hoff hi' hl hd hu hret

theorem half_of' (lo hi : Nat) : Int.fdiv ((lo : Int) + (hi : Int)) (2 ^ (1 : Int).toNat) = (((lo + hi) / 2 : Nat) : Int) := by
  have : (2 : Int) ^ (1 : Int).toNat = 2 := by decide
  rw [this, Int.fdiv_eq_ediv_of_nonneg _ (by decide)]
  omega
theorem rshift_half' {prog : Program} {w : World} {A : Around} {E : Value → Shared → Prop} {s : Shared} {Q : Value → Shared → Prop} {lo hi : Nat} {t u : Tok} (h : Q (.int (((lo + hi) / 2 : Nat) : Int) s.toks) { s with toks := s.toks + 1 }) :
    wpAny (model prog w) A (binaryOp .RShift (.int ((lo : Int) + (hi : Int)) t) (.int 1 u)) Q E s := rshift_int (by decide) (by rw [half_of']; exact h)

theorem fdm' (a b : Int) : a.fmod b + b * a.fdiv b = a := by
  have := Int.mul_fdiv_add_fmod a b
  omega
section
variable {w : World} {pr : Program} {p : Program} {loose : List Str} {mean : ExcName → Option Value} {mg mb : Str → Option Value}
  {dp un : Nat} {gd : Option (List Code)} {cn : Str} {cs : Scope} {a : Addr} {ccd : Value} {cl : List (Str × Addr)} {outer : List Env} {A₀ : Around} {base h₀ : Heap} {L : Addr} {m : Str → Option Value} {s : Shared} {Q E : Value → Shared → Prop} {news : List (Addr × Obj)}


theorem i2d {P : Addr} {ps : Array Value}
  (B : Below A₀ base outer h₀) (F : Fr h₀ L s.heap m) (X : (Mine.hd.heap_1 w.params).In h₀) (N : News h₀ L s.heap ((P, tabObj ps) :: news)) (T : Top p loose mean mg mb h₀) (hcs : cs.kind = .function)
  (C : CodeHd h₀ 34 P) (hoff : Off P news) (hts : TabSt posI (Str.ofString "_int2digits.<locals>.inner") ps news)
  (hd : dp + 200 < recursionLimit) (hu : un + 2000 < cLine) (x n : Int) (t1 t2 : Tok) (cnt : Nat) (hx : 0 < x) (hxb : intBits x ≤ 20000) (hn : 0 < n) (hn2 : n ≤ 200) (hnb : intBits n ≤ 8) (hcnt : ((intBits x : Int) + n - 1).fdiv n = (cnt : Int)) (hc0 : 0 < cnt) (hc2 : cnt ≤ 100)
  (hret : ∀ (D : Addr) (vs : List Value) (ds : List Int) (h' : Heap) (tk' : Nat) (ps' : Array Value) (add : List (Addr × Obj)), Fr h₀ L h' m → News h₀ L h' ((P, tabObj ps') :: (D, listOf vs.toArray 0) :: (add ++ news)) → Off P ((D, listOf vs.toArray 0) :: (add ++ news)) → TabSt posI (Str.ofString "_int2digits.<locals>.inner") ps' (add ++ news) →
    IntsAre vs ds → ds.length = cnt → FigsOk n.toNat ds → dval n.toNat ds = x → Q (.ref D) { s with heap := h', toks := tk' }) :
  wpAny (model pr w) (ktrTop dp un gd cn cs L a ccd cl outer) (call (.ref 35) [.int x t1, .int n t2]) Q E s := by
  refine' enterC [(Str.ofString "a", .int x t1), (Str.ofString "n", .int n t2)] B F X N T hcs (by omega) ?k6 ?k7 (BindsTo.of_eq ?k9) ?kB ?kD ?c2 ?c3 ?c4 ?_
  case k6 => k_is
  case k7 => k_is
  case k9 => exact rfl
  case kB => exact rfl
  case kD => decide +kernel
  case c2 => exact rfl
  case c3 => exact rfl
  case c4 => exact rfl
  intro g' L' h' tk' cells' FG' F' N' Y' B' X' T' l1
  have C' := C.keeps FG'.keep
  clear B F X N T C
  obtain ⟨o3, o2, o1, hE, d3, d2, d1⟩ := CellsAre.three Y'
  subst hE
  clear Y'
  replace d3 : o3.data = .cell none := d3
  replace d2 : o2.data = .cell none := d2
  replace d1 : o1.data = .cell (some (.int n t2)) := d1
  replace F' : Fr g' L' h' (fun y => if y = Str.ofString "a" then some (.int x t1) else none) := F'
  have hPL : @LT.lt Nat _ P L' := l1 (P, tabObj ps) (.head _)
  have hnL : ∀ q ∈ news, @LT.lt Nat _ q.1 L' := fun q hq => l1 q (.tail _ hq)
  have hcz : 0 ≤ ((intBits x : Int) + n - 1).fdiv n := by rw [hcnt]; omega
  have hcz2 : ((intBits x : Int) + n - 1).fdiv n ≤ 100000 := by rw [hcnt]; omega
  simp only [List.cons_append, List.nil_append] at N'
  refine wpAny_execs_cons ?_
  (try dsimp only); (try k_lift B'); (try k_fold)
  (repeat' (first | (k_unfold; (try dsimp only)) | (k_end; kc_close) | ((with_reducible show wpAny _ _ (binaryOp Operator.LShift (Value.int ..) (Value.int ..)) _ _ _); k_dflt (refine lshift_b (by with_reducible assumption) (by with_reducible assumption) (by omega) ?_; try dsimp only)) | ((with_reducible show wpAny _ _ (binaryOp Operator.RShift (Value.int ..) (Value.int ..)) _ _ _); ((with_reducible show wpAny _ _ (binaryOp _ (Value.int (_ + _) _) (Value.int 1 _)) _ _ _); k_dflt (refine rshift_half' ?_; try dsimp only))) | ((with_reducible show wpAny _ _ (binaryOp Operator.RShift (Value.int ..) (Value.int ..)) _ _ _); k_dflt (refine rshift_int (by with_reducible assumption) ?_; try dsimp only)) | ((with_reducible show wpAny _ _ (binaryOp Operator.FloorDiv (Value.int ..) (Value.int ..)) _ _ _); k_dflt (refine floordiv_int (by omega) ?_ (Or.inl (noPy (by assumption) (by decide))); (try dsimp only))) | ((with_reducible show wpAny _ _ (binaryOp Operator.Mult (Value.ref ..) (Value.int ..)) _ _ _); refine stop_intro ?_) | ((with_reducible show wpAny _ _ (setItem (Value.ref ..) (Value.int ..) _) _ _ _); refine stop_intro ?_) | ((with_reducible show wpAny _ _ (call (Value.ref ..) _) _ _ _); refine stop_intro ?_) | ((with_reducible show wpAny _ _ (callWith _ (Value.ref ..) _ _ _) _ _ _); k_dflt (refine callWith_F (by exact FnAt.of (by k_asm) (List.mem_cons_of_mem _ (by with_reducible assumption))) ?_; k_whole)) | ((with_reducible show wpAny _ _ (eval (PySem.Expr.Name ..) _) _ _ _); (k_here; k_dflt (refine nameX_F (by k_asm) (by rfl) (by exact List.mem_cons_of_mem _ (by with_reducible assumption)) (by with_reducible assumption) ?_ (by rfl) (by rfl); k_whole))) | ((with_reducible show wpAny _ _ (eval (PySem.Expr.Name ..) _) _ _ _); (k_here; k_dflt (refine nameX_C (by k_asm) (by rfl) (by exact List.mem_cons_of_mem _ (by with_reducible assumption)) (by with_reducible assumption) ?_ (by rfl) (by rfl); k_whole))) | ((with_reducible show wpAny _ _ (eval (PySem.Expr.Name ..) _) _ _ _); (k_here; k_dflt (refine nameX_C (by k_asm) (by rfl) (by k_mem) (by assumption) ?_ (by rfl) (by rfl); k_whole))) | ((with_reducible show _ ∧ _); first | (with_reducible (((with_reducible show FnAt _ _ ∧ _); refine ⟨FnAt.of (by k_asm) (List.mem_cons_of_mem _ (by with_reducible assumption)), ?_⟩; try dsimp only [List.nil_append, List.cons_append]))) | (((with_reducible show FnAt _ _ ∧ _); refine ⟨FnAt.of (by k_asm) (List.mem_cons_of_mem _ (by with_reducible assumption)), ?_⟩; try dsimp only [List.nil_append, List.cons_append]))) | ((with_reducible show LeaveK ..); first | (with_reducible ((refine leaveK_ (by k_asm) (by k_asm) ?_; intro kF_z kN_z; try dsimp only))) | ((refine leaveK_ (by k_asm) (by k_asm) ?_; intro kF_z kN_z; try dsimp only))) | walk1 | ((with_reducible show wpAny _ _ (storeName _ _ _) _ _ _); refine stop_intro ?_) | (dsimp only; walk1) | (leave1; (try dsimp only)) | fail "no step"))
  refine Stop.mk (mul_rep (by assumption) (by assumption) (.head _) hcz hcz2 ?_)
  intro D h₁ F₁ N₁ lD
  dsimp only
  have hD3 : @LT.lt Nat _ (L' + 1 + 1 + 1) D := lD (L' + 1 + 1 + 1, o3) (.tail _ (.head _))
  have hDP : @LT.lt Nat _ P D := lD (P, tabObj ps) (.tail _ (.tail _ (.tail _ (.tail _ (.head _)))))
  have hDn : ∀ q ∈ news, @LT.lt Nat _ q.1 D := fun q hq => lD q (.tail _ (.tail _ (.tail _ (.tail _ (.tail _ hq)))))
  rw [hcnt, Int.toNat_natCast] at N₁
  have hI0 := ints_rep 0 tk' cnt
  generalize List.replicate cnt (Value.int 0 tk') = vs0 at *
  (repeat' (first | (k_unfold; (try dsimp only)) | (k_end; kc_close) | ((with_reducible show wpAny _ _ (binaryOp Operator.LShift (Value.int ..) (Value.int ..)) _ _ _); k_dflt (refine lshift_b (by with_reducible assumption) (by with_reducible assumption) (by omega) ?_; try dsimp only)) | ((with_reducible show wpAny _ _ (binaryOp Operator.RShift (Value.int ..) (Value.int ..)) _ _ _); ((with_reducible show wpAny _ _ (binaryOp _ (Value.int (_ + _) _) (Value.int 1 _)) _ _ _); k_dflt (refine rshift_half' ?_; try dsimp only))) | ((with_reducible show wpAny _ _ (binaryOp Operator.RShift (Value.int ..) (Value.int ..)) _ _ _); k_dflt (refine rshift_int (by with_reducible assumption) ?_; try dsimp only)) | ((with_reducible show wpAny _ _ (binaryOp Operator.FloorDiv (Value.int ..) (Value.int ..)) _ _ _); k_dflt (refine floordiv_int (by omega) ?_ (Or.inl (noPy (by assumption) (by decide))); (try dsimp only))) | ((with_reducible show wpAny _ _ (binaryOp Operator.Mult (Value.ref ..) (Value.int ..)) _ _ _); refine stop_intro ?_) | ((with_reducible show wpAny _ _ (setItem (Value.ref ..) (Value.int ..) _) _ _ _); refine stop_intro ?_) | ((with_reducible show wpAny _ _ (call (Value.ref ..) _) _ _ _); refine stop_intro ?_) | ((with_reducible show wpAny _ _ (callWith _ (Value.ref ..) _ _ _) _ _ _); k_dflt (refine callWith_F (by exact FnAt.of (by k_asm) (List.mem_cons_of_mem _ (by with_reducible assumption))) ?_; k_whole)) | ((with_reducible show wpAny _ _ (eval (PySem.Expr.Name ..) _) _ _ _); (k_here; k_dflt (refine nameX_F (by k_asm) (by rfl) (by exact List.mem_cons_of_mem _ (by with_reducible assumption)) (by with_reducible assumption) ?_ (by rfl) (by rfl); k_whole))) | ((with_reducible show wpAny _ _ (eval (PySem.Expr.Name ..) _) _ _ _); (k_here; k_dflt (refine nameX_C (by k_asm) (by rfl) (by exact List.mem_cons_of_mem _ (by with_reducible assumption)) (by with_reducible assumption) ?_ (by rfl) (by rfl); k_whole))) | ((with_reducible show wpAny _ _ (eval (PySem.Expr.Name ..) _) _ _ _); (k_here; k_dflt (refine nameX_C (by k_asm) (by rfl) (by k_mem) (by assumption) ?_ (by rfl) (by rfl); k_whole))) | ((with_reducible show _ ∧ _); first | (with_reducible (((with_reducible show FnAt _ _ ∧ _); refine ⟨FnAt.of (by k_asm) (List.mem_cons_of_mem _ (by with_reducible assumption)), ?_⟩; try dsimp only [List.nil_append, List.cons_append]))) | (((with_reducible show FnAt _ _ ∧ _); refine ⟨FnAt.of (by k_asm) (List.mem_cons_of_mem _ (by with_reducible assumption)), ?_⟩; try dsimp only [List.nil_append, List.cons_append]))) | ((with_reducible show LeaveK ..); first | (with_reducible ((refine leaveK_ (by k_asm) (by k_asm) ?_; intro kF_z kN_z; try dsimp only))) | ((refine leaveK_ (by k_asm) (by k_asm) ?_; intro kF_z kN_z; try dsimp only))) | walk1 | ((with_reducible show wpAny _ _ (storeName _ _ _) _ _ _); refine stop_intro ?_) | (dsimp only; walk1) | (leave1; (try dsimp only)) | fail "no step"))
  refine Stop.mk (storeX_C (news := (L' + 1 + 1, o2) :: (L' + 1 + 1 + 1, o3) :: (L' + 1, o1) :: (D, listOf vs0.toArray 0) :: (P, tabObj ps) :: news) F₁ (news_sub N₁ ?_) rfl (UpdF.head ?_) d2 ?_ rfl rfl)
  · intro q hq
    simp only [List.mem_cons] at hq ⊢
    rcases hq with h | h | h | h | h | h <;> simp [h]
  · intro q hq
    simp only [List.mem_cons] at hq
    rcases hq with rfl | rfl | rfl | rfl | h
    · refine neN ?_; dsimp only; omega
    · refine neN ?_; dsimp only; omega
    · refine neN ?_; dsimp only; omega
    · refine neN ?_; dsimp only; omega
    · have := hnL q h; refine neN ?_; omega
  clear N₁ F₁ d2 lD
  intro h₂ o2' F₂ N₂ d2'
  dsimp only [qk, ek]
  clear qk ek
  refine wpAny_execs_cons ?_
  refine fdef (news := news) [(L' + 1 + 1 + 1, o3), (L' + 1 + 1, o2'), (L' + 1, o1), (D, listOf vs0.toArray 0)] (qual := Str.ofString "_int2digits.<locals>.inner") rfl rfl rfl rfl F₂ (news_sub N₂ ?_) T' C' rfl ?_ hts rfl ?_
  · intro q hq
    simp only [List.cons_append, List.nil_append, List.mem_cons] at hq ⊢
    rcases hq with h | h | h | h | h | h <;> simp [h]
  · intro q hq
    simp only [List.cons_append, List.nil_append, List.mem_cons] at hq
    rcases hq with rfl | rfl | rfl | rfl | h
    · refine neN ?_; dsimp only; omega
    · refine neN ?_; dsimp only; omega
    · refine neN ?_; dsimp only; omega
    · refine neN ?_; dsimp only; omega
    · exact hoff q h
  intro f fo c' oc vs' t ctv doc h₃ tk₃ ps' add hfo F₃ N₃ hPf hoff₂ hts₂ hc' hd' hv' lf la laf
  clear F₂ N₂
  have hf3 : @LT.lt Nat _ (L' + 1 + 1 + 1) f := lf (L' + 1 + 1 + 1, o3) (.tail _ (.head _))
  have hfD : @LT.lt Nat _ D f := lf (D, listOf vs0.toArray 0) (.tail _ (.tail _ (.tail _ (.tail _ (.head _)))))
  have haD : ∀ q ∈ add, @LT.lt Nat _ D q.1 := fun q hq => la q hq (D, listOf vs0.toArray 0) (.tail _ (.tail _ (.tail _ (.tail _ (.head _)))))
  have hPf' : @LT.lt Nat _ P f := hPf
  refine storeX_C (news := (L' + 1 + 1 + 1, o3) :: (L' + 1 + 1, o2') :: (L' + 1, o1) :: (D, listOf vs0.toArray 0) :: (P, tabObj ps') :: (f, fo) :: (add ++ news)) F₃ (news_sub N₃ ?_) rfl (UpdF.head ?_) d3 ?_ rfl rfl
  · intro q hq
    simp only [List.cons_append, List.nil_append, List.mem_cons] at hq ⊢
    rcases hq with h | h | h | h | h | h | h <;> simp [h]
  · intro q hq
    simp only [List.mem_cons] at hq
    rcases hq with rfl | rfl | rfl | rfl | rfl | h
    · refine neN ?_; dsimp only; omega
    · refine neN ?_; dsimp only; omega
    · refine neN ?_; dsimp only; omega
    · refine neN ?_; dsimp only; omega
    · exact Nat.ne_of_gt hf3
    · rcases List.mem_append.mp h with h | h
      · have := haD q h; refine neN ?_; omega
      · have := hnL q h; refine neN ?_; omega
  intro h₄ o3' F₄ N₄ d3'
  clear N₃ F₃ d3
  have claim : ∀ k lo hi, ∀ y : Int, hi - lo ≤ k → lo < hi → hi ≤ cnt → 0 ≤ y → y < 2 ^ (n.toNat * (hi - lo)) → RecI w pr p loose mean mg mb f [(f, fo), (c', oc), (L' + 1 + 1 + 1, o3'), (L' + 1 + 1, o2'), (L' + 1, o1)] D 0 cnt n.toNat lo hi y := by
    intro k
    induction k with
    | zero => intro lo hi y h1 h2; omega
    | succ k ih =>
      intro lo hi y hk hlt hle hy0 hy1
      intro dp un gd cn cs a ccd cl outer A₀ base h₀ L m s Q E news t0 t1 t2 vs ds B F X N T hcs hneed hoffD hI hlen hdp hun hret
      have m1 := hneed _ (.head _)
      have m2 := hneed _ (.tail _ (.head _))
      have m3 := hneed _ (.tail _ (.tail _ (.head _)))
      have m4 := hneed _ (.tail _ (.tail _ (.tail _ (.head _))))
      have m5 := hneed _ (.tail _ (.tail _ (.tail _ (.tail _ (.head _)))))
      rw [hfo] at m1
      refine' enterN [(Str.ofString "x", .int y t0), (Str.ofString "L", .int lo t1), (Str.ofString "R", .int hi t2)] B F X N T hcs (by omega) (.tail _ m1) (codeRec_news N (.tail _ m2) hd' hv') (BindsTo.of_eq rfl) (locs rfl) rfl rfl rfl ?c5 ?_
      case c5 => decide
      intro g' L' h' FG' F' N' B' X' T'
      clear B F X N T
      have m1' := hneed _ (.head _)
      (try dsimp only); (try k_lift B'); (try k_fold)
      have hm1 : lo ≤ (lo + hi) / 2 := by omega
      have hm2 : (lo + hi) / 2 ≤ hi := by omega
      have hs0 : 0 ≤ ((((lo + hi) / 2 : Nat) : Int) - (lo : Int)) * n := Int.mul_nonneg (by omega) (by omega)
      have hs1 : ((((lo + hi) / 2 : Nat) : Int) - (lo : Int)) * n ≤ 100 * 200 := Int.mul_le_mul (by omega) hn2 (by omega) (by decide)
      have hb1 : intBits ((((lo + hi) / 2 : Nat) : Int) - (lo : Int)) ≤ 7 := bits_of_lt (by omega) (by omega)
      have hsn : (((((lo + hi) / 2 : Nat) : Int) - (lo : Int)) * n).toNat = n.toNat * ((lo + hi) / 2 - lo) := by
        obtain ⟨k, rfl⟩ := Int.eq_ofNat_of_zero_le (Int.le_of_lt hn)
        rw [← Int.ofNat_sub hm1]
        rw [Int.toNat_natCast, Nat.mul_comm]; rfl
      have hub : intBits (y.fdiv (2 ^ (((((lo + hi) / 2 : Nat) : Int) - (lo : Int)) * n).toNat)) ≤ 20000 := intBits_fdiv_le (bits_up (bits_of_lt hy0 hy1) (Nat.le_trans (Nat.mul_le_mul (by omega : n.toNat ≤ 200) (by omega : hi - lo ≤ 100)) (by decide)))
      (repeat' (first | (k_unfold; (try dsimp only)) | (k_end; kc_close) | ((with_reducible show wpAny _ _ (binaryOp Operator.LShift (Value.int ..) (Value.int ..)) _ _ _); k_dflt (refine lshift_b (by with_reducible assumption) (by with_reducible assumption) (by omega) ?_; try dsimp only)) | ((with_reducible show wpAny _ _ (binaryOp Operator.RShift (Value.int ..) (Value.int ..)) _ _ _); ((with_reducible show wpAny _ _ (binaryOp _ (Value.int (_ + _) _) (Value.int 1 _)) _ _ _); k_dflt (refine rshift_half' ?_; try dsimp only))) | ((with_reducible show wpAny _ _ (binaryOp Operator.RShift (Value.int ..) (Value.int ..)) _ _ _); k_dflt (refine rshift_int (by with_reducible assumption) ?_; try dsimp only)) | ((with_reducible show wpAny _ _ (binaryOp Operator.FloorDiv (Value.int ..) (Value.int ..)) _ _ _); k_dflt (refine floordiv_int (by omega) ?_ (Or.inl (noPy (by assumption) (by decide))); (try dsimp only))) | ((with_reducible show wpAny _ _ (binaryOp Operator.Mult (Value.ref ..) (Value.int ..)) _ _ _); refine stop_intro ?_) | ((with_reducible show wpAny _ _ (setItem (Value.ref ..) (Value.int ..) _) _ _ _); refine stop_intro ?_) | ((with_reducible show wpAny _ _ (call (Value.ref ..) _) _ _ _); refine stop_intro ?_) | ((with_reducible show wpAny _ _ (callWith _ (Value.ref ..) _ _ _) _ _ _); k_dflt (refine callWith_F (by exact FnAt.of (by k_asm) (List.mem_cons_of_mem _ (by with_reducible assumption))) ?_; k_whole)) | ((with_reducible show wpAny _ _ (eval (PySem.Expr.Name ..) _) _ _ _); (k_here; k_dflt (refine nameX_F (by k_asm) (by rfl) (by exact List.mem_cons_of_mem _ (by with_reducible assumption)) (by with_reducible assumption) ?_ (by rfl) (by rfl); k_whole))) | ((with_reducible show wpAny _ _ (eval (PySem.Expr.Name ..) _) _ _ _); (k_here; k_dflt (refine nameX_C (by k_asm) (by rfl) (by exact List.mem_cons_of_mem _ (by with_reducible assumption)) (by with_reducible assumption) ?_ (by rfl) (by rfl); k_whole))) | ((with_reducible show wpAny _ _ (eval (PySem.Expr.Name ..) _) _ _ _); (k_here; k_dflt (refine nameX_C (by k_asm) (by rfl) (by k_mem) (by assumption) ?_ (by rfl) (by rfl); k_whole))) | ((with_reducible show _ ∧ _); first | (with_reducible (((with_reducible show FnAt _ _ ∧ _); refine ⟨FnAt.of (by k_asm) (List.mem_cons_of_mem _ (by with_reducible assumption)), ?_⟩; try dsimp only [List.nil_append, List.cons_append]))) | (((with_reducible show FnAt _ _ ∧ _); refine ⟨FnAt.of (by k_asm) (List.mem_cons_of_mem _ (by with_reducible assumption)), ?_⟩; try dsimp only [List.nil_append, List.cons_append]))) | ((with_reducible show LeaveK ..); first | (with_reducible ((refine leaveK_ (by k_asm) (by k_asm) ?_; intro kF_z kN_z; try dsimp only))) | ((refine leaveK_ (by k_asm) (by k_asm) ?_; intro kF_z kN_z; try dsimp only))) | walk1 | ((with_reducible show wpAny _ _ (storeName _ _ _) _ _ _); refine stop_intro ?_) | (dsimp only; walk1) | (leave1; (try dsimp only)) | fail "no step"))
      · refine Stop.mk (ksa_set (by assumption) (by assumption) (Upd.head hoffD) hI (by omega) (by omega) (by omega) ?_)
        intro h₆ F₆ N₆ hI₆ _ _
        dsimp only
        (repeat' (first | (k_unfold; (try dsimp only)) | (k_end; kc_close) | ((with_reducible show wpAny _ _ (binaryOp Operator.LShift (Value.int ..) (Value.int ..)) _ _ _); k_dflt (refine lshift_b (by with_reducible assumption) (by with_reducible assumption) (by omega) ?_; try dsimp only)) | ((with_reducible show wpAny _ _ (binaryOp Operator.RShift (Value.int ..) (Value.int ..)) _ _ _); ((with_reducible show wpAny _ _ (binaryOp _ (Value.int (_ + _) _) (Value.int 1 _)) _ _ _); k_dflt (refine rshift_half' ?_; try dsimp only))) | ((with_reducible show wpAny _ _ (binaryOp Operator.RShift (Value.int ..) (Value.int ..)) _ _ _); k_dflt (refine rshift_int (by with_reducible assumption) ?_; try dsimp only)) | ((with_reducible show wpAny _ _ (binaryOp Operator.FloorDiv (Value.int ..) (Value.int ..)) _ _ _); k_dflt (refine floordiv_int (by omega) ?_ (Or.inl (noPy (by assumption) (by decide))); (try dsimp only))) | ((with_reducible show wpAny _ _ (binaryOp Operator.Mult (Value.ref ..) (Value.int ..)) _ _ _); refine stop_intro ?_) | ((with_reducible show wpAny _ _ (setItem (Value.ref ..) (Value.int ..) _) _ _ _); refine stop_intro ?_) | ((with_reducible show wpAny _ _ (call (Value.ref ..) _) _ _ _); refine stop_intro ?_) | ((with_reducible show wpAny _ _ (callWith _ (Value.ref ..) _ _ _) _ _ _); k_dflt (refine callWith_F (by exact FnAt.of (by k_asm) (List.mem_cons_of_mem _ (by with_reducible assumption))) ?_; k_whole)) | ((with_reducible show wpAny _ _ (eval (PySem.Expr.Name ..) _) _ _ _); (k_here; k_dflt (refine nameX_F (by k_asm) (by rfl) (by exact List.mem_cons_of_mem _ (by with_reducible assumption)) (by with_reducible assumption) ?_ (by rfl) (by rfl); k_whole))) | ((with_reducible show wpAny _ _ (eval (PySem.Expr.Name ..) _) _ _ _); (k_here; k_dflt (refine nameX_C (by k_asm) (by rfl) (by exact List.mem_cons_of_mem _ (by with_reducible assumption)) (by with_reducible assumption) ?_ (by rfl) (by rfl); k_whole))) | ((with_reducible show wpAny _ _ (eval (PySem.Expr.Name ..) _) _ _ _); (k_here; k_dflt (refine nameX_C (by k_asm) (by rfl) (by k_mem) (by assumption) ?_ (by rfl) (by rfl); k_whole))) | ((with_reducible show _ ∧ _); first | (with_reducible (((with_reducible show FnAt _ _ ∧ _); refine ⟨FnAt.of (by k_asm) (List.mem_cons_of_mem _ (by with_reducible assumption)), ?_⟩; try dsimp only [List.nil_append, List.cons_append]))) | (((with_reducible show FnAt _ _ ∧ _); refine ⟨FnAt.of (by k_asm) (List.mem_cons_of_mem _ (by with_reducible assumption)), ?_⟩; try dsimp only [List.nil_append, List.cons_append]))) | ((with_reducible show LeaveK ..); first | (with_reducible ((refine leaveK_ (by k_asm) (by k_asm) ?_; intro kF_z kN_z; try dsimp only))) | ((refine leaveK_ (by k_asm) (by k_asm) ?_; intro kF_z kN_z; try dsimp only))) | walk1 | ((with_reducible show wpAny _ _ (storeName _ _ _) _ _ _); refine stop_intro ?_) | (dsimp only; walk1) | (leave1; (try dsimp only)) | fail "no step"))
        rename News h₀ _ _ _ => N₇
        have e1 : hi = lo + 1 := by omega
        refine hret _ _ [y] _ _ (by assumption) N₇ hI₆ ?_ (by simp [e1]) ?_ (by simp [dval])
        · rw [Int.toNat_natCast, e1]; exact splice_one (by omega)
        · intro d hd
          rw [List.mem_singleton.mp hd]
          rw [e1, Nat.add_sub_cancel_left, Nat.mul_one] at hy1
          exact ⟨hy0, hy1⟩
      · rw [hsn] at *
        generalize hS : n.toNat * ((lo + hi) / 2 - lo) = S at *
        have hlow : Builtin.bitXor y (y.fdiv (2 ^ S) * 2 ^ S) = y.fmod (2 ^ S) := bitXor_low hy0
        have hpS : (0 : Int) < 2 ^ S := Int.pow_pos (by decide)
        rw [hlow] at *
        have hup0 : 0 ≤ y.fdiv (2 ^ S) := by rw [Int.fdiv_eq_ediv_of_nonneg y (by omega)]; exact Int.ediv_nonneg hy0 (by omega)
        have hup1 : y.fdiv (2 ^ S) < 2 ^ (n.toNat * (hi - (lo + hi) / 2)) := by
          rw [Int.fdiv_eq_ediv_of_nonneg y (by omega)]
          refine Int.ediv_lt_of_lt_mul hpS ?_
          rw [← Int.pow_add, ← hS, ← Nat.mul_add]
          have : hi - (lo + hi) / 2 + ((lo + hi) / 2 - lo) = hi - lo := mid_sum hm1 hm2
          rw [this]; exact hy1
        refine Stop.mk ?_
        refine' RecI.use (ih lo ((lo + hi) / 2) (y.fmod (2 ^ S)) (mid_k hk hlt (by assumption)).1 (mid_in hlt (by assumption)).1 (Nat.le_trans hm2 hle) (fmod_lo _ hpS) (by rw [hS]; exact fmod_hi _ hpS)) ?B ?F ?X ?N ?T ?K hneed hoffD hI hlen ?d ?u ?_
        case B => k_asm
        case F => k_asm
        case X => k_asm
        case N => k_asm
        case T => k_asm
        case K => exact rfl
        case d => first | exact (mid_room hlt (by assumption) hdp).1 | (first | exact room_up (by with_reducible assumption) (by decide) | ktr_room)
        case u => first | exact (mid_units hlt (by assumption) hun).1 | (first | exact unit_up (by with_reducible assumption) (by decide) | ktr_units)
        intro vs1 ds1 seg1 h9 tk9 F9 N9 hI1 hd1 hl1 hf1 hv1
        dsimp only
        have hlen1 : ds1.length = cnt := by rw [hd1]; exact splice_len hlen hm1 (by omega) hl1
        (repeat' (first | (k_unfold; (try dsimp only)) | (k_end; kc_close) | ((with_reducible show wpAny _ _ (binaryOp Operator.LShift (Value.int ..) (Value.int ..)) _ _ _); k_dflt (refine lshift_b (by with_reducible assumption) (by with_reducible assumption) (by omega) ?_; try dsimp only)) | ((with_reducible show wpAny _ _ (binaryOp Operator.RShift (Value.int ..) (Value.int ..)) _ _ _); ((with_reducible show wpAny _ _ (binaryOp _ (Value.int (_ + _) _) (Value.int 1 _)) _ _ _); k_dflt (refine rshift_half' ?_; try dsimp only))) | ((with_reducible show wpAny _ _ (binaryOp Operator.RShift (Value.int ..) (Value.int ..)) _ _ _); k_dflt (refine rshift_int (by with_reducible assumption) ?_; try dsimp only)) | ((with_reducible show wpAny _ _ (binaryOp Operator.FloorDiv (Value.int ..) (Value.int ..)) _ _ _); k_dflt (refine floordiv_int (by omega) ?_ (Or.inl (noPy (by assumption) (by decide))); (try dsimp only))) | ((with_reducible show wpAny _ _ (binaryOp Operator.Mult (Value.ref ..) (Value.int ..)) _ _ _); refine stop_intro ?_) | ((with_reducible show wpAny _ _ (setItem (Value.ref ..) (Value.int ..) _) _ _ _); refine stop_intro ?_) | ((with_reducible show wpAny _ _ (call (Value.ref ..) _) _ _ _); refine stop_intro ?_) | ((with_reducible show wpAny _ _ (callWith _ (Value.ref ..) _ _ _) _ _ _); k_dflt (refine callWith_F (by exact FnAt.of (by k_asm) (List.mem_cons_of_mem _ (by with_reducible assumption))) ?_; k_whole)) | ((with_reducible show wpAny _ _ (eval (PySem.Expr.Name ..) _) _ _ _); (k_here; k_dflt (refine nameX_F (by k_asm) (by rfl) (by exact List.mem_cons_of_mem _ (by with_reducible assumption)) (by with_reducible assumption) ?_ (by rfl) (by rfl); k_whole))) | ((with_reducible show wpAny _ _ (eval (PySem.Expr.Name ..) _) _ _ _); (k_here; k_dflt (refine nameX_C (by k_asm) (by rfl) (by exact List.mem_cons_of_mem _ (by with_reducible assumption)) (by with_reducible assumption) ?_ (by rfl) (by rfl); k_whole))) | ((with_reducible show wpAny _ _ (eval (PySem.Expr.Name ..) _) _ _ _); (k_here; k_dflt (refine nameX_C (by k_asm) (by rfl) (by k_mem) (by assumption) ?_ (by rfl) (by rfl); k_whole))) | ((with_reducible show _ ∧ _); first | (with_reducible (((with_reducible show FnAt _ _ ∧ _); refine ⟨FnAt.of (by k_asm) (List.mem_cons_of_mem _ (by with_reducible assumption)), ?_⟩; try dsimp only [List.nil_append, List.cons_append]))) | (((with_reducible show FnAt _ _ ∧ _); refine ⟨FnAt.of (by k_asm) (List.mem_cons_of_mem _ (by with_reducible assumption)), ?_⟩; try dsimp only [List.nil_append, List.cons_append]))) | ((with_reducible show LeaveK ..); first | (with_reducible ((refine leaveK_ (by k_asm) (by k_asm) ?_; intro kF_z kN_z; try dsimp only))) | ((refine leaveK_ (by k_asm) (by k_asm) ?_; intro kF_z kN_z; try dsimp only))) | walk1 | ((with_reducible show wpAny _ _ (storeName _ _ _) _ _ _); refine stop_intro ?_) | (dsimp only; walk1) | (leave1; (try dsimp only)) | fail "no step"))
        refine Stop.mk ?_
        refine' RecI.use (ih ((lo + hi) / 2) hi (y.fdiv (2 ^ S)) (mid_k hk hlt (by assumption)).2 (mid_in hlt (by assumption)).2 hle hup0 hup1) ?B ?F ?X ?N ?T ?K hneed hoffD hI1 hlen1 ?d ?u ?_
        case B => k_asm
        case F => k_asm
        case X => k_asm
        case N => k_asm
        case T => k_asm
        case K => exact rfl
        case d => first | exact (mid_room hlt (by assumption) hdp).2 | (first | exact room_up (by with_reducible assumption) (by decide) | ktr_room)
        case u => first | exact (mid_units hlt (by assumption) hun).2 | (first | exact unit_up (by with_reducible assumption) (by decide) | ktr_units)
        intro vs2 ds2 seg2 h10 tk10 F10 N10 hI2 hd2 hl2 hf2 hv2
        dsimp only
        (repeat' (first | (k_unfold; (try dsimp only)) | (k_end; kc_close) | ((with_reducible show wpAny _ _ (binaryOp Operator.LShift (Value.int ..) (Value.int ..)) _ _ _); k_dflt (refine lshift_b (by with_reducible assumption) (by with_reducible assumption) (by omega) ?_; try dsimp only)) | ((with_reducible show wpAny _ _ (binaryOp Operator.RShift (Value.int ..) (Value.int ..)) _ _ _); ((with_reducible show wpAny _ _ (binaryOp _ (Value.int (_ + _) _) (Value.int 1 _)) _ _ _); k_dflt (refine rshift_half' ?_; try dsimp only))) | ((with_reducible show wpAny _ _ (binaryOp Operator.RShift (Value.int ..) (Value.int ..)) _ _ _); k_dflt (refine rshift_int (by with_reducible assumption) ?_; try dsimp only)) | ((with_reducible show wpAny _ _ (binaryOp Operator.FloorDiv (Value.int ..) (Value.int ..)) _ _ _); k_dflt (refine floordiv_int (by omega) ?_ (Or.inl (noPy (by assumption) (by decide))); (try dsimp only))) | ((with_reducible show wpAny _ _ (binaryOp Operator.Mult (Value.ref ..) (Value.int ..)) _ _ _); refine stop_intro ?_) | ((with_reducible show wpAny _ _ (setItem (Value.ref ..) (Value.int ..) _) _ _ _); refine stop_intro ?_) | ((with_reducible show wpAny _ _ (call (Value.ref ..) _) _ _ _); refine stop_intro ?_) | ((with_reducible show wpAny _ _ (callWith _ (Value.ref ..) _ _ _) _ _ _); k_dflt (refine callWith_F (by exact FnAt.of (by k_asm) (List.mem_cons_of_mem _ (by with_reducible assumption))) ?_; k_whole)) | ((with_reducible show wpAny _ _ (eval (PySem.Expr.Name ..) _) _ _ _); (k_here; k_dflt (refine nameX_F (by k_asm) (by rfl) (by exact List.mem_cons_of_mem _ (by with_reducible assumption)) (by with_reducible assumption) ?_ (by rfl) (by rfl); k_whole))) | ((with_reducible show wpAny _ _ (eval (PySem.Expr.Name ..) _) _ _ _); (k_here; k_dflt (refine nameX_C (by k_asm) (by rfl) (by exact List.mem_cons_of_mem _ (by with_reducible assumption)) (by with_reducible assumption) ?_ (by rfl) (by rfl); k_whole))) | ((with_reducible show wpAny _ _ (eval (PySem.Expr.Name ..) _) _ _ _); (k_here; k_dflt (refine nameX_C (by k_asm) (by rfl) (by k_mem) (by assumption) ?_ (by rfl) (by rfl); k_whole))) | ((with_reducible show _ ∧ _); first | (with_reducible (((with_reducible show FnAt _ _ ∧ _); refine ⟨FnAt.of (by k_asm) (List.mem_cons_of_mem _ (by with_reducible assumption)), ?_⟩; try dsimp only [List.nil_append, List.cons_append]))) | (((with_reducible show FnAt _ _ ∧ _); refine ⟨FnAt.of (by k_asm) (List.mem_cons_of_mem _ (by with_reducible assumption)), ?_⟩; try dsimp only [List.nil_append, List.cons_append]))) | ((with_reducible show LeaveK ..); first | (with_reducible ((refine leaveK_ (by k_asm) (by k_asm) ?_; intro kF_z kN_z; try dsimp only))) | ((refine leaveK_ (by k_asm) (by k_asm) ?_; intro kF_z kN_z; try dsimp only))) | walk1 | ((with_reducible show wpAny _ _ (storeName _ _ _) _ _ _); refine stop_intro ?_) | (dsimp only; walk1) | (leave1; (try dsimp only)) | fail "no step"))
        rename News h₀ _ _ _ => N₇
        refine hret vs2 ds2 (seg1 ++ seg2) _ _ (by assumption) N₇ hI2 ?_ ?_ (figs_append hf1 hf2) ?_
        · rw [hd2, hd1]; exact splice_two hlen hm1 hm2 hle hl1
        · rw [List.length_append, hl1, hl2]; omega
        · rw [dval_append, hv1, hv2, hl1, hS]
          have := fdm' y (2 ^ S)
          omega
  have hoffD : Off D ((L' + 1 + 1 + 1, o3') :: (L' + 1 + 1, o2') :: (L' + 1, o1) :: (P, tabObj ps') :: (f, fo) :: (add ++ news)) := by
    intro q hq
    simp only [List.mem_cons] at hq
    rcases hq with rfl | rfl | rfl | rfl | rfl | h
    · refine neN ?_; dsimp only; omega
    · refine neN ?_; dsimp only; omega
    · refine neN ?_; dsimp only; omega
    · refine neN ?_; dsimp only; omega
    · exact Nat.ne_of_gt hfD
    · rcases List.mem_append.mp h with h | h
      · have := haD q h; refine neN ?_; omega
      · have := hDn q h; refine neN ?_; omega
  have N₅ : News g' L' h₄ ((D, listOf vs0.toArray 0) :: (L' + 1 + 1 + 1, o3') :: (L' + 1 + 1, o2') :: (L' + 1, o1) :: (P, tabObj ps') :: (f, fo) :: (add ++ news)) := by
    refine news_sub N₄ ?_
    intro q hq
    simp only [List.mem_cons] at hq ⊢
    rcases hq with h | h | h | h | h | h | h <;> simp [h]
  clear N₄
  have hkeep : ∀ q ∈ (P, tabObj ps') :: (add ++ news), q ∈ (L' + 1 + 1 + 1, o3') :: (L' + 1 + 1, o2') :: (L' + 1, o1) :: (P, tabObj ps') :: (f, fo) :: (add ++ news) := by
    intro q hq
    rcases List.mem_cons.mp hq with rfl | hq
    · exact .tail _ (.tail _ (.tail _ (.head _)))
    · exact .tail _ (.tail _ (.tail _ (.tail _ (.tail _ hq))))
  have hneed : ∀ q ∈ [(f, fo), (c', oc), (L' + 1 + 1 + 1, o3'), (L' + 1 + 1, o2'), (L' + 1, o1)], q ∈ (L' + 1 + 1 + 1, o3') :: (L' + 1 + 1, o2') :: (L' + 1, o1) :: (P, tabObj ps') :: (f, fo) :: (add ++ news) := by
    intro q hq
    simp only [List.mem_cons, List.not_mem_nil, or_false] at hq
    rcases hq with rfl | rfl | rfl | rfl | rfl
    · exact .tail _ (.tail _ (.tail _ (.tail _ (.head _))))
    · exact hkeep _ (.tail _ hc')
    · exact .head _
    · exact .tail _ (.head _)
    · exact .tail _ (.tail _ (.head _))
  have hDP' : P ≠ D := Nat.ne_of_lt hDP
  generalize (L' + 1 + 1 + 1, o3') :: (L' + 1 + 1, o2') :: (L' + 1, o1) :: (P, tabObj ps') :: (f, fo) :: (add ++ news) = led at *
  have m1 := hneed _ (.head _)
  have m1' := m1
  rw [hfo] at m1
  have m3 := hneed _ (.tail _ (.tail _ (.head _)))
  have m4 := hneed _ (.tail _ (.tail _ (.tail _ (.head _))))
  have m5 := hneed _ (.tail _ (.tail _ (.tail _ (.tail _ (.head _)))))
  have hl0 : (List.replicate cnt (0 : Int)).length = cnt := List.length_replicate
  (try k_lift B'); (try k_fold)
  have hxlt : x < 2 ^ (n.toNat * (cnt - 0)) := by
    have h1 := lt_of_bits (Nat.le_refl (intBits x))
    have h2 := Int.mul_fdiv_add_fmod ((intBits x : Int) + n - 1) n
    have h3 := fmod_hi ((intBits x : Int) + n - 1) hn
    rw [hcnt] at h2
    have h4 : intBits x ≤ n.toNat * (cnt - 0) := by
      obtain ⟨k, rfl⟩ := Int.eq_ofNat_of_zero_le (Int.le_of_lt hn)
      have h5 : (((k * cnt : Nat) : Int)) = (k : Int) * (cnt : Int) := by push_cast; rfl
      rw [Int.toNat_natCast, Nat.sub_zero]
      omega
    exact Int.lt_of_lt_of_le h1 (two_pow_mono h4)
  (repeat' (first | (k_unfold; (try dsimp only)) | (k_end; kc_close) | ((with_reducible show wpAny _ _ (binaryOp Operator.LShift (Value.int ..) (Value.int ..)) _ _ _); k_dflt (refine lshift_b (by with_reducible assumption) (by with_reducible assumption) (by omega) ?_; try dsimp only)) | ((with_reducible show wpAny _ _ (binaryOp Operator.RShift (Value.int ..) (Value.int ..)) _ _ _); ((with_reducible show wpAny _ _ (binaryOp _ (Value.int (_ + _) _) (Value.int 1 _)) _ _ _); k_dflt (refine rshift_half' ?_; try dsimp only))) | ((with_reducible show wpAny _ _ (binaryOp Operator.RShift (Value.int ..) (Value.int ..)) _ _ _); k_dflt (refine rshift_int (by with_reducible assumption) ?_; try dsimp only)) | ((with_reducible show wpAny _ _ (binaryOp Operator.FloorDiv (Value.int ..) (Value.int ..)) _ _ _); k_dflt (refine floordiv_int (by omega) ?_ (Or.inl (noPy (by assumption) (by decide))); (try dsimp only))) | ((with_reducible show wpAny _ _ (binaryOp Operator.Mult (Value.ref ..) (Value.int ..)) _ _ _); refine stop_intro ?_) | ((with_reducible show wpAny _ _ (setItem (Value.ref ..) (Value.int ..) _) _ _ _); refine stop_intro ?_) | ((with_reducible show wpAny _ _ (call (Value.ref ..) _) _ _ _); refine stop_intro ?_) | ((with_reducible show wpAny _ _ (callWith _ (Value.ref ..) _ _ _) _ _ _); k_dflt (refine callWith_F (by exact FnAt.of (by k_asm) (List.mem_cons_of_mem _ (by with_reducible assumption))) ?_; k_whole)) | ((with_reducible show wpAny _ _ (eval (PySem.Expr.Name ..) _) _ _ _); (k_here; k_dflt (refine nameX_F (by k_asm) (by rfl) (by exact List.mem_cons_of_mem _ (by with_reducible assumption)) (by with_reducible assumption) ?_ (by rfl) (by rfl); k_whole))) | ((with_reducible show wpAny _ _ (eval (PySem.Expr.Name ..) _) _ _ _); (k_here; k_dflt (refine nameX_C (by k_asm) (by rfl) (by exact List.mem_cons_of_mem _ (by with_reducible assumption)) (by with_reducible assumption) ?_ (by rfl) (by rfl); k_whole))) | ((with_reducible show wpAny _ _ (eval (PySem.Expr.Name ..) _) _ _ _); (k_here; k_dflt (refine nameX_C (by k_asm) (by rfl) (by k_mem) (by assumption) ?_ (by rfl) (by rfl); k_whole))) | ((with_reducible show _ ∧ _); first | (with_reducible (((with_reducible show FnAt _ _ ∧ _); refine ⟨FnAt.of (by k_asm) (List.mem_cons_of_mem _ (by with_reducible assumption)), ?_⟩; try dsimp only [List.nil_append, List.cons_append]))) | (((with_reducible show FnAt _ _ ∧ _); refine ⟨FnAt.of (by k_asm) (List.mem_cons_of_mem _ (by with_reducible assumption)), ?_⟩; try dsimp only [List.nil_append, List.cons_append]))) | ((with_reducible show LeaveK ..); first | (with_reducible ((refine leaveK_ (by k_asm) (by k_asm) ?_; intro kF_z kN_z; try dsimp only))) | ((refine leaveK_ (by k_asm) (by k_asm) ?_; intro kF_z kN_z; try dsimp only))) | walk1 | ((with_reducible show wpAny _ _ (storeName _ _ _) _ _ _); refine stop_intro ?_) | (dsimp only; walk1) | (leave1; (try dsimp only)) | fail "no step"))
  · refine Stop.mk ?_
    rw [hl0]
    refine' RecI.use (claim cnt 0 cnt x (by omega) hc0 (Nat.le_refl _) (Int.le_of_lt hx) hxlt) ?B ?F ?X ?N ?T ?K hneed hoffD hI0 hl0 ?d ?u ?_
    case B => k_asm
    case F => k_asm
    case X => k_asm
    case N => k_asm
    case T => k_asm
    case K => exact rfl
    case d => (first | exact room_up (by with_reducible assumption) (by decide) | ktr_room)
    case u => (first | exact unit_up (by with_reducible assumption) (by decide) | ktr_units)
    intro vs1 ds1 seg1 h9 tk9 F9 N9 hI1 hd1 hl1 hf1 hv1
    dsimp only
    (repeat' (first | (k_unfold; (try dsimp only)) | (k_end; kc_close) | ((with_reducible show wpAny _ _ (binaryOp Operator.LShift (Value.int ..) (Value.int ..)) _ _ _); k_dflt (refine lshift_b (by with_reducible assumption) (by with_reducible assumption) (by omega) ?_; try dsimp only)) | ((with_reducible show wpAny _ _ (binaryOp Operator.RShift (Value.int ..) (Value.int ..)) _ _ _); ((with_reducible show wpAny _ _ (binaryOp _ (Value.int (_ + _) _) (Value.int 1 _)) _ _ _); k_dflt (refine rshift_half' ?_; try dsimp only))) | ((with_reducible show wpAny _ _ (binaryOp Operator.RShift (Value.int ..) (Value.int ..)) _ _ _); k_dflt (refine rshift_int (by with_reducible assumption) ?_; try dsimp only)) | ((with_reducible show wpAny _ _ (binaryOp Operator.FloorDiv (Value.int ..) (Value.int ..)) _ _ _); k_dflt (refine floordiv_int (by omega) ?_ (Or.inl (noPy (by assumption) (by decide))); (try dsimp only))) | ((with_reducible show wpAny _ _ (binaryOp Operator.Mult (Value.ref ..) (Value.int ..)) _ _ _); refine stop_intro ?_) | ((with_reducible show wpAny _ _ (setItem (Value.ref ..) (Value.int ..) _) _ _ _); refine stop_intro ?_) | ((with_reducible show wpAny _ _ (call (Value.ref ..) _) _ _ _); refine stop_intro ?_) | ((with_reducible show wpAny _ _ (callWith _ (Value.ref ..) _ _ _) _ _ _); k_dflt (refine callWith_F (by exact FnAt.of (by k_asm) (List.mem_cons_of_mem _ (by with_reducible assumption))) ?_; k_whole)) | ((with_reducible show wpAny _ _ (eval (PySem.Expr.Name ..) _) _ _ _); (k_here; k_dflt (refine nameX_F (by k_asm) (by rfl) (by exact List.mem_cons_of_mem _ (by with_reducible assumption)) (by with_reducible assumption) ?_ (by rfl) (by rfl); k_whole))) | ((with_reducible show wpAny _ _ (eval (PySem.Expr.Name ..) _) _ _ _); (k_here; k_dflt (refine nameX_C (by k_asm) (by rfl) (by exact List.mem_cons_of_mem _ (by with_reducible assumption)) (by with_reducible assumption) ?_ (by rfl) (by rfl); k_whole))) | ((with_reducible show wpAny _ _ (eval (PySem.Expr.Name ..) _) _ _ _); (k_here; k_dflt (refine nameX_C (by k_asm) (by rfl) (by k_mem) (by assumption) ?_ (by rfl) (by rfl); k_whole))) | ((with_reducible show _ ∧ _); first | (with_reducible (((with_reducible show FnAt _ _ ∧ _); refine ⟨FnAt.of (by k_asm) (List.mem_cons_of_mem _ (by with_reducible assumption)), ?_⟩; try dsimp only [List.nil_append, List.cons_append]))) | (((with_reducible show FnAt _ _ ∧ _); refine ⟨FnAt.of (by k_asm) (List.mem_cons_of_mem _ (by with_reducible assumption)), ?_⟩; try dsimp only [List.nil_append, List.cons_append]))) | ((with_reducible show LeaveK ..); first | (with_reducible ((refine leaveK_ (by k_asm) (by k_asm) ?_; intro kF_z kN_z; try dsimp only))) | ((refine leaveK_ (by k_asm) (by k_asm) ?_; intro kF_z kN_z; try dsimp only))) | walk1 | ((with_reducible show wpAny _ _ (storeName _ _ _) _ _ _); refine stop_intro ?_) | (dsimp only; walk1) | (leave1; (try dsimp only)) | fail "no step"))
    rename News h₀ _ _ _ => N₇
    have e : ds1 = seg1 := by rw [hd1, List.take_zero, List.nil_append, List.drop_of_length_le (by omega), List.append_nil]
    subst e
    refine hret D vs1 ds1 _ _ ps' add (by assumption) (news_sub N₇ ?_) ?_ hts₂ hI1 (by omega) hf1 hv1
    · intro q hq
      rcases List.mem_cons.mp hq with rfl | hq
      · exact .tail _ (hkeep _ (.head _))
      · rcases List.mem_cons.mp hq with rfl | hq
        · exact .head _
        · exact .tail _ (hkeep _ (.tail _ hq))
    · intro q hq
      rcases List.mem_cons.mp hq with rfl | hq
      · exact Ne.symm hDP'
      · exact hoff₂ q hq
  · exfalso
    omega
end
end Mine
set_option Elab.async false
set_option maxRecDepth 100000
set_option maxHeartbeats 4000000
set_option linter.unusedVariables false
namespace Mine
open Builtin.Int (intBits)
theorem filled_ops (P : Params) : row.prog = row.prog ∧ hd.heap_1 P = hd.heap_1 P := by
  k_fill
  exact ⟨rfl, rfl⟩
section
variable {w : World} {pr : Program} {p : Program} {loose : List Str} {mean : ExcName → Option Value} {mg mb : Str → Option Value}
  {dp un : Nat} {gd : Option (List Code)} {cn : Str} {cs : Scope} {a : Addr} {ccd : Value} {cl : List (Str × Addr)} {outer : List Env} {A₀ : Around} {base h₀ : Heap} {L : Addr} {m : Str → Option Value} {s : Shared} {Q E : Value → Shared → Prop} {news : List (Addr × Obj)}


theorem c_add {x y : Int} {t1 t2 : Tok}
  (B : Below A₀ base outer h₀) (F : Fr h₀ L s.heap m) (X : (Mine.hd.heap_1 w.params).In h₀) (N : News h₀ L s.heap news) (T : Top p loose mean mg mb h₀) (hcs : cs.kind = .function)
  (hd : dp + 2 < recursionLimit) (hu : un + 30 < cLine) 
  (hret : ∀ (t : Tok) (h' : Heap) (tk' : Nat), Fr h₀ L h' m → News h₀ L h' news → Q (.int (x + y) t) { s with heap := h', toks := tk' }) :
  wpAny (model pr w) (ktrTop dp un gd cn cs L a ccd cl outer) (call (.ref 91) [.int x t1, .int y t2]) Q E s := by
  refine' enter [(Str.ofString "a", .int x t1), (Str.ofString "b", .int y t2)] B F X N T hcs (by omega) ?k6 ?k7 (BindsTo.of_eq ?k9) (locs ?kB) ?c2 ?c3 ?c4 ?c5 ?_
  case k6 => k_is
  case k7 => k_is
  case k9 => exact rfl
  case kB => exact rfl
  case c2 => exact rfl
  case c3 => exact rfl
  case c4 => exact rfl
  case c5 => decide
  intro g' L' h' FG' F' N' B' X' T'
  clear B F X N T
  (try dsimp only); (try k_lift B'); (try k_fold)
  (repeat' (first | (k_unfold; (try dsimp only)) | (k_end; kc_close) | ((with_reducible show wpAny _ _ (binaryOp Operator.Mult (Value.int ..) (Value.int ..)) _ _ _); k_dflt (refine mul_b (by with_reducible assumption) (by with_reducible assumption) (by omega) ?_; try dsimp only)) | ((with_reducible show wpAny _ _ (binaryOp Operator.RShift (Value.int ..) (Value.int ..)) _ _ _); k_dflt (refine rshift_int (by with_reducible assumption) ?_; try dsimp only)) | ((with_reducible show wpAny _ _ (binaryOp Operator.LShift (Value.int ..) (Value.int ..)) _ _ _); k_dflt (refine lshift_b (by with_reducible assumption) (by with_reducible assumption) (by omega) ?_; try dsimp only)) | ((with_reducible show LeaveK ..); first | (with_reducible ((refine leaveK_ (by k_asm) (by k_asm) ?_; intro kF_z kN_z; try dsimp only))) | ((refine leaveK_ (by k_asm) (by k_asm) ?_; intro kF_z kN_z; try dsimp only))) | walk1 | (dsimp only; walk1) | (leave1; (try dsimp only)) | fail "no step"))
  exact hret _ _ _ (by assumption) (by assumption)

theorem c_sub {x y : Int} {t1 t2 : Tok}
  (B : Below A₀ base outer h₀) (F : Fr h₀ L s.heap m) (X : (Mine.hd.heap_1 w.params).In h₀) (N : News h₀ L s.heap news) (T : Top p loose mean mg mb h₀) (hcs : cs.kind = .function)
  (hd : dp + 2 < recursionLimit) (hu : un + 30 < cLine) 
  (hret : ∀ (t : Tok) (h' : Heap) (tk' : Nat), Fr h₀ L h' m → News h₀ L h' news → Q (.int (x - y) t) { s with heap := h', toks := tk' }) :
  wpAny (model pr w) (ktrTop dp un gd cn cs L a ccd cl outer) (call (.ref 126) [.int x t1, .int y t2]) Q E s := by
  refine' enter [(Str.ofString "a", .int x t1), (Str.ofString "b", .int y t2)] B F X N T hcs (by omega) ?k6 ?k7 (BindsTo.of_eq ?k9) (locs ?kB) ?c2 ?c3 ?c4 ?c5 ?_
  case k6 => k_is
  case k7 => k_is
  case k9 => exact rfl
  case kB => exact rfl
  case c2 => exact rfl
  case c3 => exact rfl
  case c4 => exact rfl
  case c5 => decide
  intro g' L' h' FG' F' N' B' X' T'
  clear B F X N T
  (try dsimp only); (try k_lift B'); (try k_fold)
  (repeat' (first | (k_unfold; (try dsimp only)) | (k_end; kc_close) | ((with_reducible show wpAny _ _ (binaryOp Operator.Mult (Value.int ..) (Value.int ..)) _ _ _); k_dflt (refine mul_b (by with_reducible assumption) (by with_reducible assumption) (by omega) ?_; try dsimp only)) | ((with_reducible show wpAny _ _ (binaryOp Operator.RShift (Value.int ..) (Value.int ..)) _ _ _); k_dflt (refine rshift_int (by with_reducible assumption) ?_; try dsimp only)) | ((with_reducible show wpAny _ _ (binaryOp Operator.LShift (Value.int ..) (Value.int ..)) _ _ _); k_dflt (refine lshift_b (by with_reducible assumption) (by with_reducible assumption) (by omega) ?_; try dsimp only)) | ((with_reducible show LeaveK ..); first | (with_reducible ((refine leaveK_ (by k_asm) (by k_asm) ?_; intro kF_z kN_z; try dsimp only))) | ((refine leaveK_ (by k_asm) (by k_asm) ?_; intro kF_z kN_z; try dsimp only))) | walk1 | (dsimp only; walk1) | (leave1; (try dsimp only)) | fail "no step"))
  exact hret _ _ _ (by assumption) (by assumption)

theorem c_mul {x y : Int} {t1 t2 : Tok}
  (B : Below A₀ base outer h₀) (F : Fr h₀ L s.heap m) (X : (Mine.hd.heap_1 w.params).In h₀) (N : News h₀ L s.heap news) (T : Top p loose mean mg mb h₀) (hcs : cs.kind = .function)
  (hd : dp + 2 < recursionLimit) (hu : un + 30 < cLine) {k1 k2 : Nat} (hx : intBits x ≤ k1) (hy : intBits y ≤ k2) (hk : k1 + k2 ≤ 1000000)
  (hret : ∀ (t : Tok) (h' : Heap) (tk' : Nat), Fr h₀ L h' m → News h₀ L h' news → Q (.int (x * y) t) { s with heap := h', toks := tk' }) :
  wpAny (model pr w) (ktrTop dp un gd cn cs L a ccd cl outer) (call (.ref 105) [.int x t1, .int y t2]) Q E s := by
  refine' enter [(Str.ofString "a", .int x t1), (Str.ofString "b", .int y t2)] B F X N T hcs (by omega) ?k6 ?k7 (BindsTo.of_eq ?k9) (locs ?kB) ?c2 ?c3 ?c4 ?c5 ?_
  case k6 => k_is
  case k7 => k_is
  case k9 => exact rfl
  case kB => exact rfl
  case c2 => exact rfl
  case c3 => exact rfl
  case c4 => exact rfl
  case c5 => decide
  intro g' L' h' FG' F' N' B' X' T'
  clear B F X N T
  (try dsimp only); (try k_lift B'); (try k_fold)
  (repeat' (first | (k_unfold; (try dsimp only)) | (k_end; kc_close) | ((with_reducible show wpAny _ _ (binaryOp Operator.Mult (Value.int ..) (Value.int ..)) _ _ _); k_dflt (refine mul_b (by with_reducible assumption) (by with_reducible assumption) (by omega) ?_; try dsimp only)) | ((with_reducible show wpAny _ _ (binaryOp Operator.RShift (Value.int ..) (Value.int ..)) _ _ _); k_dflt (refine rshift_int (by with_reducible assumption) ?_; try dsimp only)) | ((with_reducible show wpAny _ _ (binaryOp Operator.LShift (Value.int ..) (Value.int ..)) _ _ _); k_dflt (refine lshift_b (by with_reducible assumption) (by with_reducible assumption) (by omega) ?_; try dsimp only)) | ((with_reducible show LeaveK ..); first | (with_reducible ((refine leaveK_ (by k_asm) (by k_asm) ?_; intro kF_z kN_z; try dsimp only))) | ((refine leaveK_ (by k_asm) (by k_asm) ?_; intro kF_z kN_z; try dsimp only))) | walk1 | (dsimp only; walk1) | (leave1; (try dsimp only)) | fail "no step"))
  exact hret _ _ _ (by assumption) (by assumption)

theorem c_lshift {x y : Int} {t1 t2 : Tok}
  (B : Below A₀ base outer h₀) (F : Fr h₀ L s.heap m) (X : (Mine.hd.heap_1 w.params).In h₀) (N : News h₀ L s.heap news) (T : Top p loose mean mg mb h₀) (hcs : cs.kind = .function)
  (hd : dp + 2 < recursionLimit) (hu : un + 30 < cLine) {k : Nat} (hx : intBits x ≤ k) (hy : 0 ≤ y) (hk : (k : Int) + y ≤ 1000000)
  (hret : ∀ (t : Tok) (h' : Heap) (tk' : Nat), Fr h₀ L h' m → News h₀ L h' news → Q (.int (x * 2 ^ y.toNat) t) { s with heap := h', toks := tk' }) :
  wpAny (model pr w) (ktrTop dp un gd cn cs L a ccd cl outer) (call (.ref 98) [.int x t1, .int y t2]) Q E s := by
  refine' enter [(Str.ofString "a", .int x t1), (Str.ofString "b", .int y t2)] B F X N T hcs (by omega) ?k6 ?k7 (BindsTo.of_eq ?k9) (locs ?kB) ?c2 ?c3 ?c4 ?c5 ?_
  case k6 => k_is
  case k7 => k_is
  case k9 => exact rfl
  case kB => exact rfl
  case c2 => exact rfl
  case c3 => exact rfl
  case c4 => exact rfl
  case c5 => decide
  intro g' L' h' FG' F' N' B' X' T'
  clear B F X N T
  (try dsimp only); (try k_lift B'); (try k_fold)
  (repeat' (first | (k_unfold; (try dsimp only)) | (k_end; kc_close) | ((with_reducible show wpAny _ _ (binaryOp Operator.Mult (Value.int ..) (Value.int ..)) _ _ _); k_dflt (refine mul_b (by with_reducible assumption) (by with_reducible assumption) (by omega) ?_; try dsimp only)) | ((with_reducible show wpAny _ _ (binaryOp Operator.RShift (Value.int ..) (Value.int ..)) _ _ _); k_dflt (refine rshift_int (by with_reducible assumption) ?_; try dsimp only)) | ((with_reducible show wpAny _ _ (binaryOp Operator.LShift (Value.int ..) (Value.int ..)) _ _ _); k_dflt (refine lshift_b (by with_reducible assumption) (by with_reducible assumption) (by omega) ?_; try dsimp only)) | ((with_reducible show LeaveK ..); first | (with_reducible ((refine leaveK_ (by k_asm) (by k_asm) ?_; intro kF_z kN_z; try dsimp only))) | ((refine leaveK_ (by k_asm) (by k_asm) ?_; intro kF_z kN_z; try dsimp only))) | walk1 | (dsimp only; walk1) | (leave1; (try dsimp only)) | fail "no step"))
  exact hret _ _ _ (by assumption) (by assumption)

theorem c_rshift {x y : Int} {t1 t2 : Tok}
  (B : Below A₀ base outer h₀) (F : Fr h₀ L s.heap m) (X : (Mine.hd.heap_1 w.params).In h₀) (N : News h₀ L s.heap news) (T : Top p loose mean mg mb h₀) (hcs : cs.kind = .function)
  (hd : dp + 2 < recursionLimit) (hu : un + 30 < cLine) (hy : 0 ≤ y)
  (hret : ∀ (t : Tok) (h' : Heap) (tk' : Nat), Fr h₀ L h' m → News h₀ L h' news → Q (.int (x.fdiv (2 ^ y.toNat)) t) { s with heap := h', toks := tk' }) :
  wpAny (model pr w) (ktrTop dp un gd cn cs L a ccd cl outer) (call (.ref 119) [.int x t1, .int y t2]) Q E s := by
  refine' enter [(Str.ofString "a", .int x t1), (Str.ofString "b", .int y t2)] B F X N T hcs (by omega) ?k6 ?k7 (BindsTo.of_eq ?k9) (locs ?kB) ?c2 ?c3 ?c4 ?c5 ?_
  case k6 => k_is
  case k7 => k_is
  case k9 => exact rfl
  case kB => exact rfl
  case c2 => exact rfl
  case c3 => exact rfl
  case c4 => exact rfl
  case c5 => decide
  intro g' L' h' FG' F' N' B' X' T'
  clear B F X N T
  (try dsimp only); (try k_lift B'); (try k_fold)
  (repeat' (first | (k_unfold; (try dsimp only)) | (k_end; kc_close) | ((with_reducible show wpAny _ _ (binaryOp Operator.Mult (Value.int ..) (Value.int ..)) _ _ _); k_dflt (refine mul_b (by with_reducible assumption) (by with_reducible assumption) (by omega) ?_; try dsimp only)) | ((with_reducible show wpAny _ _ (binaryOp Operator.RShift (Value.int ..) (Value.int ..)) _ _ _); k_dflt (refine rshift_int (by with_reducible assumption) ?_; try dsimp only)) | ((with_reducible show wpAny _ _ (binaryOp Operator.LShift (Value.int ..) (Value.int ..)) _ _ _); k_dflt (refine lshift_b (by with_reducible assumption) (by with_reducible assumption) (by omega) ?_; try dsimp only)) | ((with_reducible show LeaveK ..); first | (with_reducible ((refine leaveK_ (by k_asm) (by k_asm) ?_; intro kF_z kN_z; try dsimp only))) | ((refine leaveK_ (by k_asm) (by k_asm) ?_; intro kF_z kN_z; try dsimp only))) | walk1 | (dsimp only; walk1) | (leave1; (try dsimp only)) | fail "no step"))
  exact hret _ _ _ (by assumption) (by assumption)

theorem c_neg {x y : Int} {t1 t2 : Tok}
  (B : Below A₀ base outer h₀) (F : Fr h₀ L s.heap m) (X : (Mine.hd.heap_1 w.params).In h₀) (N : News h₀ L s.heap news) (T : Top p loose mean mg mb h₀) (hcs : cs.kind = .function)
  (hd : dp + 2 < recursionLimit) (hu : un + 30 < cLine) 
  (hret : ∀ (t : Tok) (h' : Heap) (tk' : Nat), Fr h₀ L h' m → News h₀ L h' news → Q (.int (-x) t) { s with heap := h', toks := tk' }) :
  wpAny (model pr w) (ktrTop dp un gd cn cs L a ccd cl outer) (call (.ref 112) [.int x t1]) Q E s := by
  refine' enter [(Str.ofString "a", .int x t1)] B F X N T hcs (by omega) ?k6 ?k7 (BindsTo.of_eq ?k9) (locs ?kB) ?c2 ?c3 ?c4 ?c5 ?_
  case k6 => k_is
  case k7 => k_is
  case k9 => exact rfl
  case kB => exact rfl
  case c2 => exact rfl
  case c3 => exact rfl
  case c4 => exact rfl
  case c5 => decide
  intro g' L' h' FG' F' N' B' X' T'
  clear B F X N T
  (try dsimp only); (try k_lift B'); (try k_fold)
  (repeat' (first | (k_unfold; (try dsimp only)) | (k_end; kc_close) | ((with_reducible show wpAny _ _ (binaryOp Operator.Mult (Value.int ..) (Value.int ..)) _ _ _); k_dflt (refine mul_b (by with_reducible assumption) (by with_reducible assumption) (by omega) ?_; try dsimp only)) | ((with_reducible show wpAny _ _ (binaryOp Operator.RShift (Value.int ..) (Value.int ..)) _ _ _); k_dflt (refine rshift_int (by with_reducible assumption) ?_; try dsimp only)) | ((with_reducible show wpAny _ _ (binaryOp Operator.LShift (Value.int ..) (Value.int ..)) _ _ _); k_dflt (refine lshift_b (by with_reducible assumption) (by with_reducible assumption) (by omega) ?_; try dsimp only)) | ((with_reducible show LeaveK ..); first | (with_reducible ((refine leaveK_ (by k_asm) (by k_asm) ?_; intro kF_z kN_z; try dsimp only))) | ((refine leaveK_ (by k_asm) (by k_asm) ?_; intro kF_z kN_z; try dsimp only))) | walk1 | (dsimp only; walk1) | (leave1; (try dsimp only)) | fail "no step"))
  exact hret _ _ _ (by assumption) (by assumption)

theorem c_isub {x y : Int} {t1 t2 : Tok}
  (B : Below A₀ base outer h₀) (F : Fr h₀ L s.heap m) (X : (Mine.hd.heap_1 w.params).In h₀) (N : News h₀ L s.heap news) (T : Top p loose mean mg mb h₀) (hcs : cs.kind = .function)
  (hd : dp + 2 < recursionLimit) (hu : un + 30 < cLine) 
  (hret : ∀ (t : Tok) (h' : Heap) (tk' : Nat), Fr h₀ L h' m → News h₀ L h' news → Q (.int (x - y) t) { s with heap := h', toks := tk' }) :
  wpAny (model pr w) (ktrTop dp un gd cn cs L a ccd cl outer) (call (.ref 154) [.int x t1, .int y t2]) Q E s := by
  refine' enter [(Str.ofString "a", .int x t1), (Str.ofString "b", .int y t2)] B F X N T hcs (by omega) ?k6 ?k7 (BindsTo.of_eq ?k9) (locs ?kB) ?c2 ?c3 ?c4 ?c5 ?_
  case k6 => k_is
  case k7 => k_is
  case k9 => exact rfl
  case kB => exact rfl
  case c2 => exact rfl
  case c3 => exact rfl
  case c4 => exact rfl
  case c5 => decide
  intro g' L' h' FG' F' N' B' X' T'
  clear B F X N T
  (try dsimp only); (try k_lift B'); (try k_fold)
  (repeat' (first | (k_unfold; (try dsimp only)) | (k_end; kc_close) | ((with_reducible show wpAny _ _ (binaryOp Operator.Mult (Value.int ..) (Value.int ..)) _ _ _); k_dflt (refine mul_b (by with_reducible assumption) (by with_reducible assumption) (by omega) ?_; try dsimp only)) | ((with_reducible show wpAny _ _ (binaryOp Operator.RShift (Value.int ..) (Value.int ..)) _ _ _); k_dflt (refine rshift_int (by with_reducible assumption) ?_; try dsimp only)) | ((with_reducible show wpAny _ _ (binaryOp Operator.LShift (Value.int ..) (Value.int ..)) _ _ _); k_dflt (refine lshift_b (by with_reducible assumption) (by with_reducible assumption) (by omega) ?_; try dsimp only)) | ((with_reducible show LeaveK ..); first | (with_reducible ((refine leaveK_ (by k_asm) (by k_asm) ?_; intro kF_z kN_z; try dsimp only))) | ((refine leaveK_ (by k_asm) (by k_asm) ?_; intro kF_z kN_z; try dsimp only))) | walk1 | (dsimp only; walk1) | (leave1; (try dsimp only)) | fail "no step"))
  exact hret _ _ _ (by assumption) (by assumption)

theorem c_lt {x y : Str} {t1 t2 : Tok}
  (B : Below A₀ base outer h₀) (F : Fr h₀ L s.heap m) (X : (Mine.hd.heap_1 w.params).In h₀) (N : News h₀ L s.heap news) (T : Top p loose mean mg mb h₀) (hcs : cs.kind = .function)
  (hd : dp + 2 < recursionLimit) (hu : un + 30 < cLine) 
  (hret : ∀ (t : Tok) (h' : Heap) (tk' : Nat), Fr h₀ L h' m → News h₀ L h' news → Q (.bool (decide (x.cps.toList < y.cps.toList))) { s with heap := h', toks := tk' }) :
  wpAny (model pr w) (ktrTop dp un gd cn cs L a ccd cl outer) (call (.ref 49) [.str x t1, .str y t2]) Q E s := by
  refine' enter [(Str.ofString "a", .str x t1), (Str.ofString "b", .str y t2)] B F X N T hcs (by omega) ?k6 ?k7 (BindsTo.of_eq ?k9) (locs ?kB) ?c2 ?c3 ?c4 ?c5 ?_
  case k6 => k_is
  case k7 => k_is
  case k9 => exact rfl
  case kB => exact rfl
  case c2 => exact rfl
  case c3 => exact rfl
  case c4 => exact rfl
  case c5 => decide
  intro g' L' h' FG' F' N' B' X' T'
  clear B F X N T
  (try dsimp only); (try k_lift B'); (try k_fold)
  (repeat' (first | (k_unfold; (try dsimp only)) | (k_end; kc_close) | ((with_reducible show wpAny _ _ (binaryOp Operator.Mult (Value.int ..) (Value.int ..)) _ _ _); k_dflt (refine mul_b (by with_reducible assumption) (by with_reducible assumption) (by omega) ?_; try dsimp only)) | ((with_reducible show wpAny _ _ (binaryOp Operator.RShift (Value.int ..) (Value.int ..)) _ _ _); k_dflt (refine rshift_int (by with_reducible assumption) ?_; try dsimp only)) | ((with_reducible show wpAny _ _ (binaryOp Operator.LShift (Value.int ..) (Value.int ..)) _ _ _); k_dflt (refine lshift_b (by with_reducible assumption) (by with_reducible assumption) (by omega) ?_; try dsimp only)) | ((with_reducible show LeaveK ..); first | (with_reducible ((refine leaveK_ (by k_asm) (by k_asm) ?_; intro kF_z kN_z; try dsimp only))) | ((refine leaveK_ (by k_asm) (by k_asm) ?_; intro kF_z kN_z; try dsimp only))) | walk1 | (dsimp only; walk1) | (leave1; (try dsimp only)) | fail "no step"))
  exact hret 0 _ _ (by assumption) (by assumption)

theorem c_le {x y : Str} {t1 t2 : Tok}
  (B : Below A₀ base outer h₀) (F : Fr h₀ L s.heap m) (X : (Mine.hd.heap_1 w.params).In h₀) (N : News h₀ L s.heap news) (T : Top p loose mean mg mb h₀) (hcs : cs.kind = .function)
  (hd : dp + 2 < recursionLimit) (hu : un + 30 < cLine) 
  (hret : ∀ (t : Tok) (h' : Heap) (tk' : Nat), Fr h₀ L h' m → News h₀ L h' news → Q (.bool (!decide (y.cps.toList < x.cps.toList))) { s with heap := h', toks := tk' }) :
  wpAny (model pr w) (ktrTop dp un gd cn cs L a ccd cl outer) (call (.ref 56) [.str x t1, .str y t2]) Q E s := by
  refine' enter [(Str.ofString "a", .str x t1), (Str.ofString "b", .str y t2)] B F X N T hcs (by omega) ?k6 ?k7 (BindsTo.of_eq ?k9) (locs ?kB) ?c2 ?c3 ?c4 ?c5 ?_
  case k6 => k_is
  case k7 => k_is
  case k9 => exact rfl
  case kB => exact rfl
  case c2 => exact rfl
  case c3 => exact rfl
  case c4 => exact rfl
  case c5 => decide
  intro g' L' h' FG' F' N' B' X' T'
  clear B F X N T
  (try dsimp only); (try k_lift B'); (try k_fold)
  (repeat' (first | (k_unfold; (try dsimp only)) | (k_end; kc_close) | ((with_reducible show wpAny _ _ (binaryOp Operator.Mult (Value.int ..) (Value.int ..)) _ _ _); k_dflt (refine mul_b (by with_reducible assumption) (by with_reducible assumption) (by omega) ?_; try dsimp only)) | ((with_reducible show wpAny _ _ (binaryOp Operator.RShift (Value.int ..) (Value.int ..)) _ _ _); k_dflt (refine rshift_int (by with_reducible assumption) ?_; try dsimp only)) | ((with_reducible show wpAny _ _ (binaryOp Operator.LShift (Value.int ..) (Value.int ..)) _ _ _); k_dflt (refine lshift_b (by with_reducible assumption) (by with_reducible assumption) (by omega) ?_; try dsimp only)) | ((with_reducible show LeaveK ..); first | (with_reducible ((refine leaveK_ (by k_asm) (by k_asm) ?_; intro kF_z kN_z; try dsimp only))) | ((refine leaveK_ (by k_asm) (by k_asm) ?_; intro kF_z kN_z; try dsimp only))) | walk1 | (dsimp only; walk1) | (leave1; (try dsimp only)) | fail "no step"))
  exact hret 0 _ _ (by assumption) (by assumption)

theorem c_gt {x y : Str} {t1 t2 : Tok}
  (B : Below A₀ base outer h₀) (F : Fr h₀ L s.heap m) (X : (Mine.hd.heap_1 w.params).In h₀) (N : News h₀ L s.heap news) (T : Top p loose mean mg mb h₀) (hcs : cs.kind = .function)
  (hd : dp + 2 < recursionLimit) (hu : un + 30 < cLine) 
  (hret : ∀ (t : Tok) (h' : Heap) (tk' : Nat), Fr h₀ L h' m → News h₀ L h' news → Q (.bool (decide (y.cps.toList < x.cps.toList))) { s with heap := h', toks := tk' }) :
  wpAny (model pr w) (ktrTop dp un gd cn cs L a ccd cl outer) (call (.ref 84) [.str x t1, .str y t2]) Q E s := by
  refine' enter [(Str.ofString "a", .str x t1), (Str.ofString "b", .str y t2)] B F X N T hcs (by omega) ?k6 ?k7 (BindsTo.of_eq ?k9) (locs ?kB) ?c2 ?c3 ?c4 ?c5 ?_
  case k6 => k_is
  case k7 => k_is
  case k9 => exact rfl
  case kB => exact rfl
  case c2 => exact rfl
  case c3 => exact rfl
  case c4 => exact rfl
  case c5 => decide
  intro g' L' h' FG' F' N' B' X' T'
  clear B F X N T
  (try dsimp only); (try k_lift B'); (try k_fold)
  (repeat' (first | (k_unfold; (try dsimp only)) | (k_end; kc_close) | ((with_reducible show wpAny _ _ (binaryOp Operator.Mult (Value.int ..) (Value.int ..)) _ _ _); k_dflt (refine mul_b (by with_reducible assumption) (by with_reducible assumption) (by omega) ?_; try dsimp only)) | ((with_reducible show wpAny _ _ (binaryOp Operator.RShift (Value.int ..) (Value.int ..)) _ _ _); k_dflt (refine rshift_int (by with_reducible assumption) ?_; try dsimp only)) | ((with_reducible show wpAny _ _ (binaryOp Operator.LShift (Value.int ..) (Value.int ..)) _ _ _); k_dflt (refine lshift_b (by with_reducible assumption) (by with_reducible assumption) (by omega) ?_; try dsimp only)) | ((with_reducible show LeaveK ..); first | (with_reducible ((refine leaveK_ (by k_asm) (by k_asm) ?_; intro kF_z kN_z; try dsimp only))) | ((refine leaveK_ (by k_asm) (by k_asm) ?_; intro kF_z kN_z; try dsimp only))) | walk1 | (dsimp only; walk1) | (leave1; (try dsimp only)) | fail "no step"))
  exact hret 0 _ _ (by assumption) (by assumption)

theorem c_ge {x y : Str} {t1 t2 : Tok}
  (B : Below A₀ base outer h₀) (F : Fr h₀ L s.heap m) (X : (Mine.hd.heap_1 w.params).In h₀) (N : News h₀ L s.heap news) (T : Top p loose mean mg mb h₀) (hcs : cs.kind = .function)
  (hd : dp + 2 < recursionLimit) (hu : un + 30 < cLine) 
  (hret : ∀ (t : Tok) (h' : Heap) (tk' : Nat), Fr h₀ L h' m → News h₀ L h' news → Q (.bool (!decide (x.cps.toList < y.cps.toList))) { s with heap := h', toks := tk' }) :
  wpAny (model pr w) (ktrTop dp un gd cn cs L a ccd cl outer) (call (.ref 77) [.str x t1, .str y t2]) Q E s := by
  refine' enter [(Str.ofString "a", .str x t1), (Str.ofString "b", .str y t2)] B F X N T hcs (by omega) ?k6 ?k7 (BindsTo.of_eq ?k9) (locs ?kB) ?c2 ?c3 ?c4 ?c5 ?_
  case k6 => k_is
  case k7 => k_is
  case k9 => exact rfl
  case kB => exact rfl
  case c2 => exact rfl
  case c3 => exact rfl
  case c4 => exact rfl
  case c5 => decide
  intro g' L' h' FG' F' N' B' X' T'
  clear B F X N T
  (try dsimp only); (try k_lift B'); (try k_fold)
  (repeat' (first | (k_unfold; (try dsimp only)) | (k_end; kc_close) | ((with_reducible show wpAny _ _ (binaryOp Operator.Mult (Value.int ..) (Value.int ..)) _ _ _); k_dflt (refine mul_b (by with_reducible assumption) (by with_reducible assumption) (by omega) ?_; try dsimp only)) | ((with_reducible show wpAny _ _ (binaryOp Operator.RShift (Value.int ..) (Value.int ..)) _ _ _); k_dflt (refine rshift_int (by with_reducible assumption) ?_; try dsimp only)) | ((with_reducible show wpAny _ _ (binaryOp Operator.LShift (Value.int ..) (Value.int ..)) _ _ _); k_dflt (refine lshift_b (by with_reducible assumption) (by with_reducible assumption) (by omega) ?_; try dsimp only)) | ((with_reducible show LeaveK ..); first | (with_reducible ((refine leaveK_ (by k_asm) (by k_asm) ?_; intro kF_z kN_z; try dsimp only))) | ((refine leaveK_ (by k_asm) (by k_asm) ?_; intro kF_z kN_z; try dsimp only))) | walk1 | (dsimp only; walk1) | (leave1; (try dsimp only)) | fail "no step"))
  exact hret 0 _ _ (by assumption) (by assumption)

theorem c_eq {x y : Str} {t1 t2 : Tok}
  (B : Below A₀ base outer h₀) (F : Fr h₀ L s.heap m) (X : (Mine.hd.heap_1 w.params).In h₀) (N : News h₀ L s.heap news) (T : Top p loose mean mg mb h₀) (hcs : cs.kind = .function)
  (hd : dp + 2 < recursionLimit) (hu : un + 30 < cLine) 
  (hret : ∀ (t : Tok) (h' : Heap) (tk' : Nat), Fr h₀ L h' m → News h₀ L h' news → Q (.bool (x == y)) { s with heap := h', toks := tk' }) :
  wpAny (model pr w) (ktrTop dp un gd cn cs L a ccd cl outer) (call (.ref 63) [.str x t1, .str y t2]) Q E s := by
  refine' enter [(Str.ofString "a", .str x t1), (Str.ofString "b", .str y t2)] B F X N T hcs (by omega) ?k6 ?k7 (BindsTo.of_eq ?k9) (locs ?kB) ?c2 ?c3 ?c4 ?c5 ?_
  case k6 => k_is
  case k7 => k_is
  case k9 => exact rfl
  case kB => exact rfl
  case c2 => exact rfl
  case c3 => exact rfl
  case c4 => exact rfl
  case c5 => decide
  intro g' L' h' FG' F' N' B' X' T'
  clear B F X N T
  (try dsimp only); (try k_lift B'); (try k_fold)
  (repeat' (first | (k_unfold; (try dsimp only)) | (k_end; kc_close) | ((with_reducible show wpAny _ _ (binaryOp Operator.Mult (Value.int ..) (Value.int ..)) _ _ _); k_dflt (refine mul_b (by with_reducible assumption) (by with_reducible assumption) (by omega) ?_; try dsimp only)) | ((with_reducible show wpAny _ _ (binaryOp Operator.RShift (Value.int ..) (Value.int ..)) _ _ _); k_dflt (refine rshift_int (by with_reducible assumption) ?_; try dsimp only)) | ((with_reducible show wpAny _ _ (binaryOp Operator.LShift (Value.int ..) (Value.int ..)) _ _ _); k_dflt (refine lshift_b (by with_reducible assumption) (by with_reducible assumption) (by omega) ?_; try dsimp only)) | ((with_reducible show LeaveK ..); first | (with_reducible ((refine leaveK_ (by k_asm) (by k_asm) ?_; intro kF_z kN_z; try dsimp only))) | ((refine leaveK_ (by k_asm) (by k_asm) ?_; intro kF_z kN_z; try dsimp only))) | walk1 | (dsimp only; walk1) | (leave1; (try dsimp only)) | fail "no step"))
  exact hret 0 _ _ (by assumption) (by assumption)

theorem c_ne {x y : Str} {t1 t2 : Tok}
  (B : Below A₀ base outer h₀) (F : Fr h₀ L s.heap m) (X : (Mine.hd.heap_1 w.params).In h₀) (N : News h₀ L s.heap news) (T : Top p loose mean mg mb h₀) (hcs : cs.kind = .function)
  (hd : dp + 2 < recursionLimit) (hu : un + 30 < cLine) 
  (hret : ∀ (t : Tok) (h' : Heap) (tk' : Nat), Fr h₀ L h' m → News h₀ L h' news → Q (.bool (x != y)) { s with heap := h', toks := tk' }) :
  wpAny (model pr w) (ktrTop dp un gd cn cs L a ccd cl outer) (call (.ref 70) [.str x t1, .str y t2]) Q E s := by
  refine' enter [(Str.ofString "a", .str x t1), (Str.ofString "b", .str y t2)] B F X N T hcs (by omega) ?k6 ?k7 (BindsTo.of_eq ?k9) (locs ?kB) ?c2 ?c3 ?c4 ?c5 ?_
  case k6 => k_is
  case k7 => k_is
  case k9 => exact rfl
  case kB => exact rfl
  case c2 => exact rfl
  case c3 => exact rfl
  case c4 => exact rfl
  case c5 => decide
  intro g' L' h' FG' F' N' B' X' T'
  clear B F X N T
  (try dsimp only); (try k_lift B'); (try k_fold)
  (repeat' (first | (k_unfold; (try dsimp only)) | (k_end; kc_close) | ((with_reducible show wpAny _ _ (binaryOp Operator.Mult (Value.int ..) (Value.int ..)) _ _ _); k_dflt (refine mul_b (by with_reducible assumption) (by with_reducible assumption) (by omega) ?_; try dsimp only)) | ((with_reducible show wpAny _ _ (binaryOp Operator.RShift (Value.int ..) (Value.int ..)) _ _ _); k_dflt (refine rshift_int (by with_reducible assumption) ?_; try dsimp only)) | ((with_reducible show wpAny _ _ (binaryOp Operator.LShift (Value.int ..) (Value.int ..)) _ _ _); k_dflt (refine lshift_b (by with_reducible assumption) (by with_reducible assumption) (by omega) ?_; try dsimp only)) | ((with_reducible show LeaveK ..); first | (with_reducible ((refine leaveK_ (by k_asm) (by k_asm) ?_; intro kF_z kN_z; try dsimp only))) | ((refine leaveK_ (by k_asm) (by k_asm) ?_; intro kF_z kN_z; try dsimp only))) | walk1 | (dsimp only; walk1) | (leave1; (try dsimp only)) | fail "no step"))
  exact hret 0 _ _ (by assumption) (by assumption)

/-- the six answers, in the order in which the law writes them -/
noncomputable def cmpL (x y : Str) : List Bool := [decide (x.cps.toList < y.cps.toList), !decide (y.cps.toList < x.cps.toList), decide (y.cps.toList < x.cps.toList), !decide (x.cps.toList < y.cps.toList), x == y, x != y]
noncomputable def cmpF : List Addr := [49, 56, 84, 77, 63, 70]
theorem c_way {x y : Str} {t1 t2 : Tok}
  (B : Below A₀ base outer h₀) (F : Fr h₀ L s.heap m) (X : (Mine.hd.heap_1 w.params).In h₀) (N : News h₀ L s.heap news) (T : Top p loose mean mg mb h₀) (hcs : cs.kind = .function)
  (hd : dp + 2 < recursionLimit) (hu : un + 30 < cLine) (k : Nat) (f : Addr) (hf : cmpF[k]? = some f)
  (hret : ∀ (t : Tok) (h' : Heap) (tk' : Nat), Fr h₀ L h' m → News h₀ L h' news → Q (.bool ((cmpL x y).getD k false)) { s with heap := h', toks := tk' }) :
  wpAny (model pr w) (ktrTop dp un gd cn cs L a ccd cl outer) (call (.ref f) [.str x t1, .str y t2]) Q E s := by
  unfold cmpF at hf
  match k, hf with
  | 0, hf => cases hf; exact c_lt B F X N T hcs hd hu hret
  | 1, hf => cases hf; exact c_le B F X N T hcs hd hu hret
  | 2, hf => cases hf; exact c_gt B F X N T hcs hd hu hret
  | 3, hf => cases hf; exact c_ge B F X N T hcs hd hu hret
  | 4, hf => cases hf; exact c_eq B F X N T hcs hd hu hret
  | 5, hf => cases hf; exact c_ne B F X N T hcs hd hu hret
  | k + 6, hf => cases hf
section
local macro_rules | `(tactic| is_list) => `(tactic| exact News.isList (by k_asm) (by assumption))

theorem c_getitem {l : Addr} {vs : List Value} {nn : Nat} {ds : List Int} {y : Int} {t2 : Tok}
  (B : Below A₀ base outer h₀) (F : Fr h₀ L s.heap m) (X : (Mine.hd.heap_1 w.params).In h₀) (N : News h₀ L s.heap news) (T : Top p loose mean mg mb h₀) (hcs : cs.kind = .function)
  (hd : dp + 2 < recursionLimit) (hu : un + 30 < cLine) (hl : (l, listOf vs.toArray nn) ∈ news) (hv : IntsAre vs ds) (h0 : 0 ≤ y) (h1 : y < ds.length) (h2 : y < 2 ^ 60)
  (hret : ∀ (t : Tok) (h' : Heap) (tk' : Nat), Fr h₀ L h' m → News h₀ L h' news → Q (.int (ds.getD y.toNat 0) t) { s with heap := h', toks := tk' }) :
  wpAny (model pr w) (ktrTop dp un gd cn cs L a ccd cl outer) (call (.ref 140) [.ref l, .int y t2]) Q E s := by
  refine' enter [(Str.ofString "a", .ref l), (Str.ofString "b", .int y t2)] B F X N T hcs (by omega) ?k6 ?k7 (BindsTo.of_eq ?k9) (locs ?kB) ?c2 ?c3 ?c4 ?c5 ?_
  case k6 => k_is
  case k7 => k_is
  case k9 => exact rfl
  case kB => exact rfl
  case c2 => exact rfl
  case c3 => exact rfl
  case c4 => exact rfl
  case c5 => decide
  intro g' L' h' FG' F' N' B' X' T'
  clear B F X N T
  (try dsimp only); (try k_lift B'); (try k_fold)
  (repeat' (first | (k_unfold; (try dsimp only)) | (k_end; kc_close) | ((with_reducible show wpAny _ _ (binaryOp Operator.Mult (Value.int ..) (Value.int ..)) _ _ _); k_dflt (refine mul_b (by with_reducible assumption) (by with_reducible assumption) (by omega) ?_; try dsimp only)) | ((with_reducible show wpAny _ _ (binaryOp Operator.RShift (Value.int ..) (Value.int ..)) _ _ _); k_dflt (refine rshift_int (by with_reducible assumption) ?_; try dsimp only)) | ((with_reducible show wpAny _ _ (binaryOp Operator.LShift (Value.int ..) (Value.int ..)) _ _ _); k_dflt (refine lshift_b (by with_reducible assumption) (by with_reducible assumption) (by omega) ?_; try dsimp only)) | ((with_reducible show wpAny _ _ (setItem (Value.ref ..) (Value.int ..) _) _ _ _); refine stop_intro ?_) | ((with_reducible show LeaveK ..); first | (with_reducible ((refine leaveK_ (by k_asm) (by k_asm) ?_; intro kF_z kN_z; try dsimp only))) | ((refine leaveK_ (by k_asm) (by k_asm) ?_; intro kF_z kN_z; try dsimp only))) | walk1 | (dsimp only; walk1) | (leave1; (try dsimp only)) | fail "no step"))
  exact hret _ _ _ (by assumption) (by assumption)

theorem c_setitem {D : Addr} {vs : List Value} {nn : Nat} {ds : List Int} {y z : Int} {t2 t3 : Tok}
  (B : Below A₀ base outer h₀) (F : Fr h₀ L s.heap m) (X : (Mine.hd.heap_1 w.params).In h₀) (N : News h₀ L s.heap ((D, listOf vs.toArray nn) :: news)) (T : Top p loose mean mg mb h₀) (hcs : cs.kind = .function)
  (hd : dp + 2 < recursionLimit) (hu : un + 30 < cLine) (hoff : Off D news) (hv : IntsAre vs ds) (h0 : 0 ≤ y) (h1 : y < ds.length) (h2 : y < 2 ^ 60)
  (hret : ∀ (t : Tok) (h' : Heap) (tk' : Nat), Fr h₀ L h' m → News h₀ L h' ((D, listOf (vs.set y.toNat (.int z t3)).toArray nn) :: news) → Q (.none) { s with heap := h', toks := tk' }) :
  wpAny (model pr w) (ktrTop dp un gd cn cs L a ccd cl outer) (call (.ref 147) [.ref D, .int y t2, .int z t3]) Q E s := by
  refine' enter [(Str.ofString "a", .ref D), (Str.ofString "b", .int y t2), (Str.ofString "c", .int z t3)] B F X N T hcs (by omega) ?k6 ?k7 (BindsTo.of_eq ?k9) (locs ?kB) ?c2 ?c3 ?c4 ?c5 ?_
  case k6 => k_is
  case k7 => k_is
  case k9 => exact rfl
  case kB => exact rfl
  case c2 => exact rfl
  case c3 => exact rfl
  case c4 => exact rfl
  case c5 => decide
  intro g' L' h' FG' F' N' B' X' T'
  clear B F X N T
  (try dsimp only); (try k_lift B'); (try k_fold)
  (repeat' (first | (k_unfold; (try dsimp only)) | (k_end; kc_close) | ((with_reducible show wpAny _ _ (binaryOp Operator.Mult (Value.int ..) (Value.int ..)) _ _ _); k_dflt (refine mul_b (by with_reducible assumption) (by with_reducible assumption) (by omega) ?_; try dsimp only)) | ((with_reducible show wpAny _ _ (binaryOp Operator.RShift (Value.int ..) (Value.int ..)) _ _ _); k_dflt (refine rshift_int (by with_reducible assumption) ?_; try dsimp only)) | ((with_reducible show wpAny _ _ (binaryOp Operator.LShift (Value.int ..) (Value.int ..)) _ _ _); k_dflt (refine lshift_b (by with_reducible assumption) (by with_reducible assumption) (by omega) ?_; try dsimp only)) | ((with_reducible show wpAny _ _ (setItem (Value.ref ..) (Value.int ..) _) _ _ _); refine stop_intro ?_) | ((with_reducible show LeaveK ..); first | (with_reducible ((refine leaveK_ (by k_asm) (by k_asm) ?_; intro kF_z kN_z; try dsimp only))) | ((refine leaveK_ (by k_asm) (by k_asm) ?_; intro kF_z kN_z; try dsimp only))) | walk1 | (dsimp only; walk1) | (leave1; (try dsimp only)) | fail "no step"))
  refine Stop.mk (ksa_set (by assumption) (by assumption) (Upd.head hoff) hv (by omega) (by omega) (by omega) ?_)
  intro h₆ F₆ N₆ hI₆ _ _
  dsimp only
  (repeat' (first | (k_unfold; (try dsimp only)) | (k_end; kc_close) | ((with_reducible show wpAny _ _ (binaryOp Operator.Mult (Value.int ..) (Value.int ..)) _ _ _); k_dflt (refine mul_b (by with_reducible assumption) (by with_reducible assumption) (by omega) ?_; try dsimp only)) | ((with_reducible show wpAny _ _ (binaryOp Operator.RShift (Value.int ..) (Value.int ..)) _ _ _); k_dflt (refine rshift_int (by with_reducible assumption) ?_; try dsimp only)) | ((with_reducible show wpAny _ _ (binaryOp Operator.LShift (Value.int ..) (Value.int ..)) _ _ _); k_dflt (refine lshift_b (by with_reducible assumption) (by with_reducible assumption) (by omega) ?_; try dsimp only)) | ((with_reducible show wpAny _ _ (setItem (Value.ref ..) (Value.int ..) _) _ _ _); refine stop_intro ?_) | ((with_reducible show LeaveK ..); first | (with_reducible ((refine leaveK_ (by k_asm) (by k_asm) ?_; intro kF_z kN_z; try dsimp only))) | ((refine leaveK_ (by k_asm) (by k_asm) ?_; intro kF_z kN_z; try dsimp only))) | walk1 | (dsimp only; walk1) | (leave1; (try dsimp only)) | fail "no step"))
  exact hret 0 _ _ (by assumption) (by assumption)
end
end
end Mine
set_option Elab.async false
set_option maxRecDepth 100000
set_option maxHeartbeats 4000000
namespace Mine

/-- what a call leaves that touched, of the ledger ahead, the tabs alone -/
noncomputable def LeaveH (g h₀ : Heap) (L : Addr) (m : Str → Option Value) (rest : List (Addr × Obj)) (R : Value → Shared → Prop) (v : Value) (s' : Shared) : Prop :=
  ∃ L'' m' new, Fr g L'' s'.heap m' ∧ News g L'' s'.heap new ∧ (Fr h₀ L s'.heap m → News h₀ L s'.heap (new ++ rest) → (∀ q ∈ new, ∀ p ∈ rest, p.1 ≠ q.1) → R v s')
theorem leaveH_ {g h₀ : Heap} {L L'' : Addr} {m m' : Str → Option Value} {rest new : List (Addr × Obj)} {R : Value → Shared → Prop} {v : Value} {s' : Shared} (F' : Fr g L'' s'.heap m') (N' : News g L'' s'.heap new)
    (k : Fr h₀ L s'.heap m → News h₀ L s'.heap (new ++ rest) → (∀ q ∈ new, ∀ p ∈ rest, p.1 ≠ q.1) → R v s') : LeaveH g h₀ L m rest R v s' := ⟨L'', m', new, F', N', k⟩

section
variable {w : World} {pr : Program} {p : Program} {loose : List Str} {mean : ExcName → Option Value} {mg mb : Str → Option Value}
  {dp un : Nat} {gd : Option (List Code)} {cn : Str} {cs : Scope} {a : Addr} {ccd : Value} {cl : List (Str × Addr)} {outer : List Env} {A₀ : Around} {base h₀ : Heap} {L : Addr} {m : Str → Option Value} {s : Shared} {Q E : Value → Shared → Prop} {news : List (Addr × Obj)} {K : Frag}

theorem leaveH_back {tabs rest : List (Addr × Obj)} {R : Value → Shared → Prop} {v : Value} {s' : Shared} (F : Fr h₀ L s.heap m) (N : News h₀ L s.heap (tabs ++ rest)) (hap : ∀ p ∈ rest, ∀ q ∈ tabs, p.1 ≠ q.1)
    (l : LeaveH (hideAll s.heap (tabs.map (·.1))) h₀ L m rest R v s') : R v s' := by
  obtain ⟨L'', m', new, F', N', k⟩ := l
  have hL : (hideAll s.heap (tabs.map (·.1))).get? L = s.heap.get? L := by
    obtain ⟨oL, es, ep, hL, _⟩ := F.ns
    rw [hL]
    refine hideAll_get _ hL fun q => ?_
    obtain ⟨p, hp, e⟩ := List.mem_map.mp q
    exact (N p (List.mem_append_left _ hp)).2.1 e
  have old : ∀ b o, h₀.get? b = some o → (hideAll s.heap (tabs.map (·.1))).get? b = some o := fun b o e => by
    refine hideAll_get _ (F.keep b o e) fun q => ?_
    obtain ⟨p, hp, e'⟩ := List.mem_map.mp q
    have := (N p (List.mem_append_left _ hp)).2.2
    rw [e', e] at this; cases this
  have hr : ∀ p ∈ rest, (hideAll s.heap (tabs.map (·.1))).get? p.1 = some p.2 := fun p hp => by
    refine hideAll_get _ (N p (List.mem_append_right _ hp)).1 fun q => ?_
    obtain ⟨t, ht, e⟩ := List.mem_map.mp q
    exact hap p hp t ht e.symm
  refine k ⟨F.ns.at' fun o e => F'.keep L o (hL.trans e), fun b o e => F'.keep b o (old b o e), F.above⟩ (fun q hq => ?_) fun q hq p hp e => ?_
  · rcases List.mem_append.mp hq with hq | hq
    · refine ⟨(N' q hq).1, fun e => ?_, ?_⟩
      · obtain ⟨oL, es, ep, hL', _⟩ := F.ns
        have := (N' q hq).2.2
        rw [e, hL, hL'] at this; cases this
      · cases e : h₀.get? q.1 with
        | none => rfl
        | some o => have := (N' q hq).2.2; rw [old _ _ e] at this; cases this
    · exact ⟨F'.keep _ _ (hr q hq), (N q (List.mem_append_right _ hq)).2⟩
  · have := (N' q hq).2.2
    rw [← e, hr p hp] at this; cases this

theorem rest_seen {tabs rest : List (Addr × Obj)} (N : News h₀ L s.heap (tabs ++ rest)) (hap : ∀ p ∈ rest, ∀ q ∈ tabs, p.1 ≠ q.1) : ∀ p ∈ rest, (hideAll s.heap (tabs.map (·.1))).get? p.1 = some p.2 := fun p hp => by
  refine hideAll_get _ (N p (List.mem_append_right _ hp)).1 fun q => ?_
  obtain ⟨t, ht, e⟩ := List.mem_map.mp q
  exact hap p hp t ht e.symm

/-- a call of a plain def that changes, of the caller's new objects, the tabs alone; the others stand as old ones -/
theorem enterH {name qual : Str} {params : Arguments} {body : List Stmt} {scope : Scope} {dV kV doc pm cdv ct oc : Value} {an od : Option Addr} {osl : Array (Option Value)} {f : Addr} {vals : List Value} (binds : List (Str × Value)) (tabs rest : List (Addr × Obj))
    (B : Below A₀ base outer h₀) (F : Fr h₀ L s.heap m) (X : K.In h₀) (N : News h₀ L s.heap (tabs ++ rest)) (T : Top p loose mean mg mb h₀) (hcs : cs.kind = .function)
    (hroom : dp < recursionLimit) (hap : ∀ p ∈ rest, ∀ q ∈ tabs, p.1 ≠ q.1)
    (ho : K.lookup f = some ⟨oc, od, .func (fnOf name qual params body scope dV kV doc pm an cdv ct), osl⟩) (hcd : codeIn K cdv qual = true)
    (hbind : BindsTo s (fnOf name qual params body scope dV kV doc pm an cdv ct) ⟨vals, []⟩ binds) (hloc : ∀ y ∈ binds, scope.names.lookup y.1 = some .local)
    (hco : scope.isCoroutine = false) (hgen : scope.isGenerator = false) (hk : scope.kind = .function)
    (hcell : ∀ x ∈ scope.names, x.2 ≠ .cell)
    (h : ∀ g L' h₁, Fr g L' h₁ (fun y => binds.reverse.lookup y) → News g L' h₁ tabs → (∀ p ∈ rest, g.get? p.1 = some p.2) → h₀.StaysIn g → Below (ktrTop dp un gd cn cs L a ccd cl outer) base (envX cn cs L a ccd cl :: outer) g → K.In g → Top p loose mean mg mb g → (∀ p ∈ tabs, p.1 < L') →
      wpAny (model pr w) ((ktrTop dp un gd cn cs L a ccd cl outer).deeper (envOf qual scope L' f cdv)) (execs body (envOf qual scope L' f cdv))
        (fun fl s' => LeaveH g h₀ L m rest Q (match fl with | .ret v => v | _ => .none) s')
        (fun _ _ => False)
        { s with heap := h₁, toks := s.toks + binds.length }) :
    wpAny (model pr w) (ktrTop dp un gd cn cs L a ccd cl outer) (call (.ref f) vals) Q E s := by
  refine wpAny_call ?_
  have N₁ : News h₀ L s.heap tabs := fun p hp => N p (List.mem_append_left _ hp)
  obtain ⟨FG, BG, st, _⟩ := groundX (A := ktrTop dp un gd cn cs L a ccd cl outer) (R := fun _ _ => True) B F N₁ rfl rfl hcs
  refine codeAny_call_def (fd := fnOf name qual params body scope dV kV doc pm an cdv ct) (body := body) (binds := binds) hroom ((X.keeps F.keep) _ _ ho) rfl (T.nolimit.keeps F.keep) (codeRec_of (X.keeps F.keep) hcd) rfl hbind hcell hloc (fun h₁ hns hk₁ => ?_) hco hgen hk
  refine wpAny_mono (h _ s.heap.objs.size h₁ ⟨hns, fun b o e => hk₁ b o (of_hideAll _ e), Nat.le_of_eq (hideAll_size _ _)⟩
    (fun p hp => ⟨hk₁ _ _ (N₁ p hp).1, Nat.ne_of_lt (Heap.lt_size (N₁ p hp).1), hideAll_none _ (List.mem_map_of_mem hp)⟩) (rest_seen N hap) st BG (X.keeps st) (T.keeps st) (fun p hp => Heap.lt_size (N₁ p hp).1)) (fun fl s' hl => ?_) fun _ _ y => y.elim
  exact leaveH_back F N hap hl

/-- the same for a def some of whose names are cells -/
theorem enterHC {name qual : Str} {params : Arguments} {body : List Stmt} {scope : Scope} {dV kV doc pm cdv ct oc : Value} {an od : Option Addr} {osl : Array (Option Value)} {f : Addr} {vals : List Value} (binds : List (Str × Value)) (tabs rest : List (Addr × Obj))
    (B : Below A₀ base outer h₀) (F : Fr h₀ L s.heap m) (X : K.In h₀) (N : News h₀ L s.heap (tabs ++ rest)) (T : Top p loose mean mg mb h₀) (hcs : cs.kind = .function)
    (hroom : dp < recursionLimit) (hap : ∀ p ∈ rest, ∀ q ∈ tabs, p.1 ≠ q.1)
    (ho : K.lookup f = some ⟨oc, od, .func (fnOf name qual params body scope dV kV doc pm an cdv ct), osl⟩) (hcd : codeIn K cdv qual = true)
    (hbind : BindsTo s (fnOf name qual params body scope dV kV doc pm an cdv ct) ⟨vals, []⟩ binds) (hkind : (binds.all fun y => scope.names.lookup y.1 == some .local || scope.names.lookup y.1 == some .cell) = true)
    (hnd : ((cellsFrom 0 scope.names []).map (·.1)).Nodup)
    (hco : scope.isCoroutine = false) (hgen : scope.isGenerator = false) (hk : scope.kind = .function)
    (h : ∀ g L' h₁ tk cells, Fr g L' h₁ (bindL (envOfC qual scope L' f cdv).kindOf binds fun _ => none) → News g L' h₁ (cells ++ tabs) → CellsAre (bindC (envOfC qual scope L' f cdv).kindOf binds fun _ => none) (cellsFrom (L' + 1) scope.names []) cells →
      (∀ p ∈ rest, g.get? p.1 = some p.2) → h₀.StaysIn g → Below (ktrTop dp un gd cn cs L a ccd cl outer) base (envX cn cs L a ccd cl :: outer) g → K.In g → Top p loose mean mg mb g → (∀ p ∈ tabs, p.1 < L') →
      wpAny (model pr w) ((ktrTop dp un gd cn cs L a ccd cl outer).deeper (envOfC qual scope L' f cdv)) (execs body (envOfC qual scope L' f cdv))
        (fun fl s' => LeaveH g h₀ L m rest Q (match fl with | .ret v => v | _ => .none) s')
        (fun _ _ => False)
        { s with heap := h₁, toks := tk }) :
    wpAny (model pr w) (ktrTop dp un gd cn cs L a ccd cl outer) (call (.ref f) vals) Q E s := by
  refine wpAny_call ?_
  have N₁ : News h₀ L s.heap tabs := fun p hp => N p (List.mem_append_left _ hp)
  obtain ⟨FG, BG, st, _⟩ := groundX (A := ktrTop dp un gd cn cs L a ccd cl outer) (R := fun _ _ => True) B F N₁ rfl rfl hcs
  refine codeAny_call_function hroom ((X.keeps F.keep) _ _ ho) rfl hco hgen rfl (codeRec_of (X.keeps F.keep) hcd) (hbind _ _ _ _ ?_)
  refine wpAny_newFunctionEnv_cells hk (kindsX hkind _) fun env' he s' x => ?_
  subst he
  refine ⟨(T.nolimit.keeps F.keep).keeps x.toInCall.keep, codeAny_func ?_⟩
  obtain ⟨h₁, tk, rfl, _⟩ := x.done
  have hk₁ := x.toInCall.keep
  obtain ⟨cells, NC, Y⟩ := Cl.news (h₀ := s.heap) (Nat.le_refl _) fun n c hm => ⟨x.cell n c (lookup_of_mem_nodup (cellsFrom_names scope.names 0 (s.heap.objs.size + 1) [] [] rfl ▸ hnd) hm), x.above n c hm⟩
  refine wpAny_mono (h _ s.heap.objs.size h₁ tk cells ⟨x.toInCall.ns, fun b o e => hk₁ b o (of_hideAll _ e), Nat.le_of_eq (hideAll_size _ _)⟩ (fun p hp => ?_) Y (rest_seen N hap) st BG (X.keeps st) (T.keeps st) (fun p hp => Heap.lt_size (N₁ p hp).1)) (fun fl s' hl => ?_) fun _ _ y => y.elim
  · rcases List.mem_append.mp hp with hp | hp
    · refine ⟨(NC p hp).1, (NC p hp).2.1, ?_⟩
      cases q : (hideAll s.heap (tabs.map (·.1))).get? p.1 with
      | none => rfl
      | some o => have := of_hideAll _ q; rw [(NC p hp).2.2] at this; cases this
    · exact ⟨hk₁ _ _ (N₁ p hp).1, Nat.ne_of_lt (Heap.lt_size (N₁ p hp).1), hideAll_none _ (List.mem_map_of_mem hp)⟩
  · exact leaveH_back F N hap hl
end
end Mine
set_option Elab.async false
set_option maxRecDepth 100000
set_option maxHeartbeats 4000000
set_option linter.unusedVariables false
namespace Mine
open Builtin.Int (intBits)
theorem filled_esc (P : Params) : row.prog = row.prog ∧ hd.heap_1 P = hd.heap_1 P := by
  k_fill
  exact ⟨rfl, rfl⟩
noncomputable def repl (x c r : Str) : Str := if (Builtin.Str.occurrences x c 0 x.length 1).isEmpty = true then x else Txt.replace x c r
section
variable {w : World} {pr : Program} {p : Program} {loose : List Str} {mean : ExcName → Option Value} {mg mb : Str → Option Value}
  {dp un : Nat} {gd : Option (List Code)} {cn : Str} {cs : Scope} {a : Addr} {ccd : Value} {cl : List (Str × Addr)} {outer : List Env} {A₀ : Around} {base h₀ : Heap} {L : Addr} {m : Str → Option Value} {s : Shared} {Q E : Value → Shared → Prop} {news : List (Addr × Obj)}

section
theorem if_rep {A : Around} {Q : Flow → Shared → Prop} {c r x : Str} {t : Tok} {p1 p2 p3 p4 p5 p6 p7 p8 p9 p10 p11 : Pos} {pl : Sem Bool} (F : Fr h₀ L s.heap m) (N : News h₀ L s.heap news) (hx : m (Str.ofString "text") = some (.str x t)) (hk : cs.kind = .function) (hl : (envOf cn cs L a ccd).kindOf (Str.ofString "text") = some .local)
    (hlen : x.length ≤ 1048576) (he : eval (.Call (.Attribute (.Name (Str.ofString "text") p5) (Str.ofString "replace") p6) [.Constant (.str c) 0 p7, .Constant (.str r) 0 p8] [] p9) (envOf cn cs L a ccd) = (do
      let ov ← eval (.Name (Str.ofString "text") p5) (envOf cn cs L a ccd)
      standAt p6.atName
      let (f, first) ← holding [ov] (getMethod ov (Str.ofString "replace") pl)
      callWith p9 f first (backTo p9 (starEach [.Constant (.str c) 0 p7, .Constant (.str r) 0 p8] (envOf cn cs L a ccd))) []))
    (hcr : (c == r) = false) (hr : r.length ≤ 14)
    (h : ∀ (m' : Str → Option Value) (t' : Tok) (h' : Heap) (tk' : Nat), Fr h₀ L h' m' → News h₀ L h' news → m' (Str.ofString "text") = some (.str (repl x c r) t') → Q .next { s with heap := h', toks := tk' }) :
    wpAny (model pr w) A (exec (.If (.Compare (.Constant (.str c) 0 p1) [.In] [.Name (Str.ofString "text") p2] p3) [.Assign [.Name (Str.ofString "text") p4] (.Call (.Attribute (.Name (Str.ofString "text") p5) (Str.ofString "replace") p6) [.Constant (.str c) 0 p7, .Constant (.str r) 0 p8] [] p9) p10] [] p11) (envOf cn cs L a ccd)) Q E s := by
  refine wp_false_E ?_
  (repeat' (first | (k_unfold; (try dsimp only)) | (k_end; kc_close) | ((with_reducible show wpAny _ _ (eval (PySem.Expr.Call (PySem.Expr.Attribute ..) ..) _) _ _ _); first | (with_reducible (refine MethodCall_ ?_ (by assumption))) | (refine MethodCall_ ?_ (by assumption))) | ((with_reducible show wpAny _ _ (call (Value.builtin "str.replace") _) _ _ _); refine stop_intro ?_) | ((with_reducible show wpAny _ _ (eval (PySem.Expr.Name ..) _) _ _ _); k_dflt (refine ld (by assumption) (by assumption) ?_ (by assumption) (by assumption))) | ((with_reducible show wpAny _ _ (storeName _ _ _) _ _ _); k_dflt (refine stN (by assumption) (by assumption) ?_ (by assumption) (by assumption); intro h_z F_z N_z; try dsimp only)) | walk1 | (dsimp only; walk1) | (leave1; (try dsimp only)) | fail "no step"))
  · rename _ = true => e
    have e' : repl x c r = x := by unfold repl; rw [if_pos e]
    rw [e'] at h
    exact h _ _ _ _ F N hx
  · rename _ = false => e
    have e' : repl x c r = Txt.replace x c r := by unfold repl; rw [if_neg (by rw [e]; exact Bool.false_ne_true)]
    rw [e'] at h
    refine Stop.mk (SC.replaceW (Nat.succ_ne_zero _) (Nat.succ_ne_zero _) (Nat.ne_of_lt (Nat.lt_succ_self _)) hcr hlen hr ?_)
    intro t' k
    dsimp only
    (repeat' (first | (k_unfold; (try dsimp only)) | (k_end; kc_close) | ((with_reducible show wpAny _ _ (eval (PySem.Expr.Call (PySem.Expr.Attribute ..) ..) _) _ _ _); first | (with_reducible (refine MethodCall_ ?_ (by assumption))) | (refine MethodCall_ ?_ (by assumption))) | ((with_reducible show wpAny _ _ (call (Value.builtin "str.replace") _) _ _ _); refine stop_intro ?_) | ((with_reducible show wpAny _ _ (eval (PySem.Expr.Name ..) _) _ _ _); k_dflt (refine ld (by assumption) (by assumption) ?_ (by assumption) (by assumption))) | ((with_reducible show wpAny _ _ (storeName _ _ _) _ _ _); k_dflt (refine stN (by assumption) (by assumption) ?_ (by assumption) (by assumption); intro h_z F_z N_z; try dsimp only)) | walk1 | (dsimp only; walk1) | (leave1; (try dsimp only)) | fail "no step"))
    exact h _ _ _ _ (by assumption) (by assumption) rfl
end

noncomputable def esc_cdata (x : Str) : Str := (repl (repl (repl x (Str.ofString "&") (Str.ofString "&amp;")) (Str.ofString "<") (Str.ofString "&lt;")) (Str.ofString ">") (Str.ofString "&gt;"))

theorem e_cdata {x : Str} {t1 : Tok}
  (B : Below A₀ base outer h₀) (F : Fr h₀ L s.heap m) (X : (Mine.hd.heap_1 w.params).In h₀) (N : News h₀ L s.heap news) (T : Top p loose mean mg mb h₀) (hcs : cs.kind = .function)
  (hd : dp + 2 < recursionLimit) (hu : un + 30 < cLine) (n0 : (x).length ≤ 1048576) (n1 : ((repl x (Str.ofString "&") (Str.ofString "&amp;"))).length ≤ 1048576) (n2 : ((repl (repl x (Str.ofString "&") (Str.ofString "&amp;")) (Str.ofString "<") (Str.ofString "&lt;"))).length ≤ 1048576)
  (hret : ∀ (t : Tok) (h' : Heap) (tk' : Nat), Fr h₀ L h' m → News h₀ L h' news → Q (.str (esc_cdata x) t) { s with heap := h', toks := tk' }) :
  wpAny (model pr w) (ktrTop dp un gd cn cs L a ccd cl outer) (call (.ref 168) [.str x t1]) Q E s := by
  refine' enter [(Str.ofString "text", .str x t1)] B F X N T hcs (by omega) ?k6 ?k7 (BindsTo.of_eq ?k9) (locs ?kB) ?c2 ?c3 ?c4 ?c5 ?_
  case k6 => k_is
  case k7 => k_is
  case k9 => exact rfl
  case kB => exact rfl
  case c2 => exact rfl
  case c3 => exact rfl
  case c4 => exact rfl
  case c5 => decide
  intro g' L' h' FG' F' N' B' X' T'
  clear B F X N T
  (try dsimp only); (try k_lift B'); (try k_fold)
  (repeat' (first | (k_unfold; (try dsimp only)) | (k_end; kc_close) | ((with_reducible show wpAny _ _ (eval (PySem.Expr.Name ..) _) _ _ _); (k_here; k_dflt (refine ld (by k_asm) (by assumption) ?_; k_whole))) | ((with_reducible show wpAny _ _ (exec (Stmt.If ..) _) _ _ _); (k_dflt (refine if_rep (by k_asm) (by k_asm) (by first | assumption | exact rfl) (by exact rfl) (by exact rfl) (by assumption) (by exact rfl) (by decide +kernel) (by decide +kernel) ?_); intro m_z t_z h_z tk_z F_z N_z hm_z)) | ((with_reducible show LeaveK ..); first | (with_reducible ((refine leaveK_ (by k_asm) (by k_asm) ?_; intro kF_z kN_z; try dsimp only))) | ((refine leaveK_ (by k_asm) (by k_asm) ?_; intro kF_z kN_z; try dsimp only))) | walk1 | (dsimp only; walk1) | (leave1; (try dsimp only)) | fail "no step"))
  exact hret _ _ _ (by assumption) (by assumption)
noncomputable def esc_cdata_c14n (x : Str) : Str := (repl (repl (repl (repl x (Str.ofString "&") (Str.ofString "&amp;")) (Str.ofString "<") (Str.ofString "&lt;")) (Str.ofString ">") (Str.ofString "&gt;")) (Str.ofString "\r") (Str.ofString "&#xD;"))

theorem e_cdata_c14n {x : Str} {t1 : Tok}
  (B : Below A₀ base outer h₀) (F : Fr h₀ L s.heap m) (X : (Mine.hd.heap_1 w.params).In h₀) (N : News h₀ L s.heap news) (T : Top p loose mean mg mb h₀) (hcs : cs.kind = .function)
  (hd : dp + 2 < recursionLimit) (hu : un + 30 < cLine) (n0 : (x).length ≤ 1048576) (n1 : ((repl x (Str.ofString "&") (Str.ofString "&amp;"))).length ≤ 1048576) (n2 : ((repl (repl x (Str.ofString "&") (Str.ofString "&amp;")) (Str.ofString "<") (Str.ofString "&lt;"))).length ≤ 1048576) (n3 : ((repl (repl (repl x (Str.ofString "&") (Str.ofString "&amp;")) (Str.ofString "<") (Str.ofString "&lt;")) (Str.ofString ">") (Str.ofString "&gt;"))).length ≤ 1048576)
  (hret : ∀ (t : Tok) (h' : Heap) (tk' : Nat), Fr h₀ L h' m → News h₀ L h' news → Q (.str (esc_cdata_c14n x) t) { s with heap := h', toks := tk' }) :
  wpAny (model pr w) (ktrTop dp un gd cn cs L a ccd cl outer) (call (.ref 189) [.str x t1]) Q E s := by
  refine' enter [(Str.ofString "text", .str x t1)] B F X N T hcs (by omega) ?k6 ?k7 (BindsTo.of_eq ?k9) (locs ?kB) ?c2 ?c3 ?c4 ?c5 ?_
  case k6 => k_is
  case k7 => k_is
  case k9 => exact rfl
  case kB => exact rfl
  case c2 => exact rfl
  case c3 => exact rfl
  case c4 => exact rfl
  case c5 => decide
  intro g' L' h' FG' F' N' B' X' T'
  clear B F X N T
  (try dsimp only); (try k_lift B'); (try k_fold)
  (repeat' (first | (k_unfold; (try dsimp only)) | (k_end; kc_close) | ((with_reducible show wpAny _ _ (eval (PySem.Expr.Name ..) _) _ _ _); (k_here; k_dflt (refine ld (by k_asm) (by assumption) ?_; k_whole))) | ((with_reducible show wpAny _ _ (exec (Stmt.If ..) _) _ _ _); (k_dflt (refine if_rep (by k_asm) (by k_asm) (by first | assumption | exact rfl) (by exact rfl) (by exact rfl) (by assumption) (by exact rfl) (by decide +kernel) (by decide +kernel) ?_); intro m_z t_z h_z tk_z F_z N_z hm_z)) | ((with_reducible show LeaveK ..); first | (with_reducible ((refine leaveK_ (by k_asm) (by k_asm) ?_; intro kF_z kN_z; try dsimp only))) | ((refine leaveK_ (by k_asm) (by k_asm) ?_; intro kF_z kN_z; try dsimp only))) | walk1 | (dsimp only; walk1) | (leave1; (try dsimp only)) | fail "no step"))
  exact hret _ _ _ (by assumption) (by assumption)
noncomputable def esc_attrib (x : Str) : Str := (repl (repl (repl (repl (repl (repl (repl x (Str.ofString "&") (Str.ofString "&amp;")) (Str.ofString "<") (Str.ofString "&lt;")) (Str.ofString ">") (Str.ofString "&gt;")) (Str.ofString "\"") (Str.ofString "&quot;")) (Str.ofString "\r") (Str.ofString "&#13;")) (Str.ofString "\n") (Str.ofString "&#10;")) (Str.ofString "\t") (Str.ofString "&#09;"))

theorem e_attrib {x : Str} {t1 : Tok}
  (B : Below A₀ base outer h₀) (F : Fr h₀ L s.heap m) (X : (Mine.hd.heap_1 w.params).In h₀) (N : News h₀ L s.heap news) (T : Top p loose mean mg mb h₀) (hcs : cs.kind = .function)
  (hd : dp + 2 < recursionLimit) (hu : un + 30 < cLine) (n0 : (x).length ≤ 1048576) (n1 : ((repl x (Str.ofString "&") (Str.ofString "&amp;"))).length ≤ 1048576) (n2 : ((repl (repl x (Str.ofString "&") (Str.ofString "&amp;")) (Str.ofString "<") (Str.ofString "&lt;"))).length ≤ 1048576) (n3 : ((repl (repl (repl x (Str.ofString "&") (Str.ofString "&amp;")) (Str.ofString "<") (Str.ofString "&lt;")) (Str.ofString ">") (Str.ofString "&gt;"))).length ≤ 1048576) (n4 : ((repl (repl (repl (repl x (Str.ofString "&") (Str.ofString "&amp;")) (Str.ofString "<") (Str.ofString "&lt;")) (Str.ofString ">") (Str.ofString "&gt;")) (Str.ofString "\"") (Str.ofString "&quot;"))).length ≤ 1048576) (n5 : ((repl (repl (repl (repl (repl x (Str.ofString "&") (Str.ofString "&amp;")) (Str.ofString "<") (Str.ofString "&lt;")) (Str.ofString ">") (Str.ofString "&gt;")) (Str.ofString "\"") (Str.ofString "&quot;")) (Str.ofString "\r") (Str.ofString "&#13;"))).length ≤ 1048576) (n6 : ((repl (repl (repl (repl (repl (repl x (Str.ofString "&") (Str.ofString "&amp;")) (Str.ofString "<") (Str.ofString "&lt;")) (Str.ofString ">") (Str.ofString "&gt;")) (Str.ofString "\"") (Str.ofString "&quot;")) (Str.ofString "\r") (Str.ofString "&#13;")) (Str.ofString "\n") (Str.ofString "&#10;"))).length ≤ 1048576)
  (hret : ∀ (t : Tok) (h' : Heap) (tk' : Nat), Fr h₀ L h' m → News h₀ L h' news → Q (.str (esc_attrib x) t) { s with heap := h', toks := tk' }) :
  wpAny (model pr w) (ktrTop dp un gd cn cs L a ccd cl outer) (call (.ref 175) [.str x t1]) Q E s := by
  refine' enter [(Str.ofString "text", .str x t1)] B F X N T hcs (by omega) ?k6 ?k7 (BindsTo.of_eq ?k9) (locs ?kB) ?c2 ?c3 ?c4 ?c5 ?_
  case k6 => k_is
  case k7 => k_is
  case k9 => exact rfl
  case kB => exact rfl
  case c2 => exact rfl
  case c3 => exact rfl
  case c4 => exact rfl
  case c5 => decide
  intro g' L' h' FG' F' N' B' X' T'
  clear B F X N T
  (try dsimp only); (try k_lift B'); (try k_fold)
  (repeat' (first | (k_unfold; (try dsimp only)) | (k_end; kc_close) | ((with_reducible show wpAny _ _ (eval (PySem.Expr.Name ..) _) _ _ _); (k_here; k_dflt (refine ld (by k_asm) (by assumption) ?_; k_whole))) | ((with_reducible show wpAny _ _ (exec (Stmt.If ..) _) _ _ _); (k_dflt (refine if_rep (by k_asm) (by k_asm) (by first | assumption | exact rfl) (by exact rfl) (by exact rfl) (by assumption) (by exact rfl) (by decide +kernel) (by decide +kernel) ?_); intro m_z t_z h_z tk_z F_z N_z hm_z)) | ((with_reducible show LeaveK ..); first | (with_reducible ((refine leaveK_ (by k_asm) (by k_asm) ?_; intro kF_z kN_z; try dsimp only))) | ((refine leaveK_ (by k_asm) (by k_asm) ?_; intro kF_z kN_z; try dsimp only))) | walk1 | (dsimp only; walk1) | (leave1; (try dsimp only)) | fail "no step"))
  exact hret _ _ _ (by assumption) (by assumption)
noncomputable def esc_attrib_c14n (x : Str) : Str := (repl (repl (repl (repl (repl (repl x (Str.ofString "&") (Str.ofString "&amp;")) (Str.ofString "<") (Str.ofString "&lt;")) (Str.ofString "\"") (Str.ofString "&quot;")) (Str.ofString "\t") (Str.ofString "&#x9;")) (Str.ofString "\n") (Str.ofString "&#xA;")) (Str.ofString "\r") (Str.ofString "&#xD;"))

theorem e_attrib_c14n {x : Str} {t1 : Tok}
  (B : Below A₀ base outer h₀) (F : Fr h₀ L s.heap m) (X : (Mine.hd.heap_1 w.params).In h₀) (N : News h₀ L s.heap news) (T : Top p loose mean mg mb h₀) (hcs : cs.kind = .function)
  (hd : dp + 2 < recursionLimit) (hu : un + 30 < cLine) (n0 : (x).length ≤ 1048576) (n1 : ((repl x (Str.ofString "&") (Str.ofString "&amp;"))).length ≤ 1048576) (n2 : ((repl (repl x (Str.ofString "&") (Str.ofString "&amp;")) (Str.ofString "<") (Str.ofString "&lt;"))).length ≤ 1048576) (n3 : ((repl (repl (repl x (Str.ofString "&") (Str.ofString "&amp;")) (Str.ofString "<") (Str.ofString "&lt;")) (Str.ofString "\"") (Str.ofString "&quot;"))).length ≤ 1048576) (n4 : ((repl (repl (repl (repl x (Str.ofString "&") (Str.ofString "&amp;")) (Str.ofString "<") (Str.ofString "&lt;")) (Str.ofString "\"") (Str.ofString "&quot;")) (Str.ofString "\t") (Str.ofString "&#x9;"))).length ≤ 1048576) (n5 : ((repl (repl (repl (repl (repl x (Str.ofString "&") (Str.ofString "&amp;")) (Str.ofString "<") (Str.ofString "&lt;")) (Str.ofString "\"") (Str.ofString "&quot;")) (Str.ofString "\t") (Str.ofString "&#x9;")) (Str.ofString "\n") (Str.ofString "&#xA;"))).length ≤ 1048576)
  (hret : ∀ (t : Tok) (h' : Heap) (tk' : Nat), Fr h₀ L h' m → News h₀ L h' news → Q (.str (esc_attrib_c14n x) t) { s with heap := h', toks := tk' }) :
  wpAny (model pr w) (ktrTop dp un gd cn cs L a ccd cl outer) (call (.ref 196) [.str x t1]) Q E s := by
  refine' enter [(Str.ofString "text", .str x t1)] B F X N T hcs (by omega) ?k6 ?k7 (BindsTo.of_eq ?k9) (locs ?kB) ?c2 ?c3 ?c4 ?c5 ?_
  case k6 => k_is
  case k7 => k_is
  case k9 => exact rfl
  case kB => exact rfl
  case c2 => exact rfl
  case c3 => exact rfl
  case c4 => exact rfl
  case c5 => decide
  intro g' L' h' FG' F' N' B' X' T'
  clear B F X N T
  (try dsimp only); (try k_lift B'); (try k_fold)
  (repeat' (first | (k_unfold; (try dsimp only)) | (k_end; kc_close) | ((with_reducible show wpAny _ _ (eval (PySem.Expr.Name ..) _) _ _ _); (k_here; k_dflt (refine ld (by k_asm) (by assumption) ?_; k_whole))) | ((with_reducible show wpAny _ _ (exec (Stmt.If ..) _) _ _ _); (k_dflt (refine if_rep (by k_asm) (by k_asm) (by first | assumption | exact rfl) (by exact rfl) (by exact rfl) (by assumption) (by exact rfl) (by decide +kernel) (by decide +kernel) ?_); intro m_z t_z h_z tk_z F_z N_z hm_z)) | ((with_reducible show LeaveK ..); first | (with_reducible ((refine leaveK_ (by k_asm) (by k_asm) ?_; intro kF_z kN_z; try dsimp only))) | ((refine leaveK_ (by k_asm) (by k_asm) ?_; intro kF_z kN_z; try dsimp only))) | walk1 | (dsimp only; walk1) | (leave1; (try dsimp only)) | fail "no step"))
  exact hret _ _ _ (by assumption) (by assumption)
noncomputable def esc_attrib_html (x : Str) : Str := (repl (repl (repl x (Str.ofString "&") (Str.ofString "&amp;")) (Str.ofString ">") (Str.ofString "&gt;")) (Str.ofString "\"") (Str.ofString "&quot;"))

theorem e_attrib_html {x : Str} {t1 : Tok}
  (B : Below A₀ base outer h₀) (F : Fr h₀ L s.heap m) (X : (Mine.hd.heap_1 w.params).In h₀) (N : News h₀ L s.heap news) (T : Top p loose mean mg mb h₀) (hcs : cs.kind = .function)
  (hd : dp + 2 < recursionLimit) (hu : un + 30 < cLine) (n0 : (x).length ≤ 1048576) (n1 : ((repl x (Str.ofString "&") (Str.ofString "&amp;"))).length ≤ 1048576) (n2 : ((repl (repl x (Str.ofString "&") (Str.ofString "&amp;")) (Str.ofString ">") (Str.ofString "&gt;"))).length ≤ 1048576)
  (hret : ∀ (t : Tok) (h' : Heap) (tk' : Nat), Fr h₀ L h' m → News h₀ L h' news → Q (.str (esc_attrib_html x) t) { s with heap := h', toks := tk' }) :
  wpAny (model pr w) (ktrTop dp un gd cn cs L a ccd cl outer) (call (.ref 182) [.str x t1]) Q E s := by
  refine' enter [(Str.ofString "text", .str x t1)] B F X N T hcs (by omega) ?k6 ?k7 (BindsTo.of_eq ?k9) (locs ?kB) ?c2 ?c3 ?c4 ?c5 ?_
  case k6 => k_is
  case k7 => k_is
  case k9 => exact rfl
  case kB => exact rfl
  case c2 => exact rfl
  case c3 => exact rfl
  case c4 => exact rfl
  case c5 => decide
  intro g' L' h' FG' F' N' B' X' T'
  clear B F X N T
  (try dsimp only); (try k_lift B'); (try k_fold)
  (repeat' (first | (k_unfold; (try dsimp only)) | (k_end; kc_close) | ((with_reducible show wpAny _ _ (eval (PySem.Expr.Name ..) _) _ _ _); (k_here; k_dflt (refine ld (by k_asm) (by assumption) ?_; k_whole))) | ((with_reducible show wpAny _ _ (exec (Stmt.If ..) _) _ _ _); (k_dflt (refine if_rep (by k_asm) (by k_asm) (by first | assumption | exact rfl) (by exact rfl) (by exact rfl) (by assumption) (by exact rfl) (by decide +kernel) (by decide +kernel) ?_); intro m_z t_z h_z tk_z F_z N_z hm_z)) | ((with_reducible show LeaveK ..); first | (with_reducible ((refine leaveK_ (by k_asm) (by k_asm) ?_; intro kF_z kN_z; try dsimp only))) | ((refine leaveK_ (by k_asm) (by k_asm) ?_; intro kF_z kN_z; try dsimp only))) | walk1 | (dsimp only; walk1) | (leave1; (try dsimp only)) | fail "no step"))
  exact hret _ _ _ (by assumption) (by assumption)
end
end Mine
set_option Elab.async false
set_option maxRecDepth 100000
set_option maxHeartbeats 4000000
set_option linter.unusedVariables false
namespace Mine
open Builtin.Int (intBits)
theorem filled_hand (P : Params) : row.prog = row.prog ∧ hd.heap_1 P = hd.heap_1 P := by
  k_fill
  exact ⟨rfl, rfl⟩
noncomputable def sgL : List Str := [Str.ofString "&", Str.ofString "<", Str.ofString ">", Str.ofString "\"", Str.ofString "\t", Str.ofString "\n", Str.ofString "\r", Str.ofString "a", Str.ofString "b"]
noncomputable def spL : List (List Str) := [[Str.ofString "&amp;", Str.ofString "&lt;", Str.ofString "&gt;", Str.ofString "\"", Str.ofString "\t", Str.ofString "\n", Str.ofString "\r", Str.ofString "a", Str.ofString "b"],
 [Str.ofString "&amp;", Str.ofString "&lt;", Str.ofString "&gt;", Str.ofString "\"", Str.ofString "\t", Str.ofString "\n", Str.ofString "&#xD;", Str.ofString "a", Str.ofString "b"],
 [Str.ofString "&amp;", Str.ofString "&lt;", Str.ofString "&gt;", Str.ofString "&quot;", Str.ofString "&#09;", Str.ofString "&#10;", Str.ofString "&#13;", Str.ofString "a", Str.ofString "b"],
 [Str.ofString "&amp;", Str.ofString "&lt;", Str.ofString ">", Str.ofString "&quot;", Str.ofString "&#x9;", Str.ofString "&#xA;", Str.ofString "&#xD;", Str.ofString "a", Str.ofString "b"],
 [Str.ofString "&amp;", Str.ofString "<", Str.ofString "&gt;", Str.ofString "&quot;", Str.ofString "\t", Str.ofString "\n", Str.ofString "\r", Str.ofString "a", Str.ofString "b"]]
noncomputable def sg (i : Nat) : Str := sgL.getD i Str.empty
noncomputable def sp (k i : Nat) : Str := (spL.getD k []).getD i Str.empty
noncomputable def bareS (i j : Nat) : Str := sg i ++ sg j
noncomputable def dueS (k i j : Nat) : Str := sp k i ++ sp k j
noncomputable def escF : List Addr := [168, 189, 175, 196, 182]
noncomputable def lens (l : List (Str × Str)) (x : Str) : Bool := match l with
  | [] => true
  | (c, r) :: l => decide (x.length ≤ 1048576) && lens l (repl x c r)
noncomputable def runs (l : List (Str × Str)) (x : Str) : Str := match l with
  | [] => x
  | (c, r) :: l => runs l (repl x c r)
noncomputable def escL : List (List (Str × Str)) := [
 [(Str.ofString "&", Str.ofString "&amp;"), (Str.ofString "<", Str.ofString "&lt;"), (Str.ofString ">", Str.ofString "&gt;")],
 [(Str.ofString "&", Str.ofString "&amp;"), (Str.ofString "<", Str.ofString "&lt;"), (Str.ofString ">", Str.ofString "&gt;"), (Str.ofString "\r", Str.ofString "&#xD;")],
 [(Str.ofString "&", Str.ofString "&amp;"), (Str.ofString "<", Str.ofString "&lt;"), (Str.ofString ">", Str.ofString "&gt;"), (Str.ofString "\"", Str.ofString "&quot;"), (Str.ofString "\r", Str.ofString "&#13;"), (Str.ofString "\n", Str.ofString "&#10;"), (Str.ofString "\t", Str.ofString "&#09;")],
 [(Str.ofString "&", Str.ofString "&amp;"), (Str.ofString "<", Str.ofString "&lt;"), (Str.ofString "\"", Str.ofString "&quot;"), (Str.ofString "\t", Str.ofString "&#x9;"), (Str.ofString "\n", Str.ofString "&#xA;"), (Str.ofString "\r", Str.ofString "&#xD;")],
 [(Str.ofString "&", Str.ofString "&amp;"), (Str.ofString ">", Str.ofString "&gt;"), (Str.ofString "\"", Str.ofString "&quot;")]]
theorem told_0 : ∀ i, i < 9 → ∀ j, j < 9 → runs (escL.getD 0 []) (bareS i j) = dueS 0 i j ∧ lens (escL.getD 0 []) (bareS i j) = true := by decide +kernel
theorem told_1 : ∀ i, i < 9 → ∀ j, j < 9 → runs (escL.getD 1 []) (bareS i j) = dueS 1 i j ∧ lens (escL.getD 1 []) (bareS i j) = true := by decide +kernel
theorem told_2 : ∀ i, i < 9 → ∀ j, j < 9 → runs (escL.getD 2 []) (bareS i j) = dueS 2 i j ∧ lens (escL.getD 2 []) (bareS i j) = true := by decide +kernel
theorem told_3 : ∀ i, i < 9 → ∀ j, j < 9 → runs (escL.getD 3 []) (bareS i j) = dueS 3 i j ∧ lens (escL.getD 3 []) (bareS i j) = true := by decide +kernel
theorem told_4 : ∀ i, i < 9 → ∀ j, j < 9 → runs (escL.getD 4 []) (bareS i j) = dueS 4 i j ∧ lens (escL.getD 4 []) (bareS i j) = true := by decide +kernel
theorem told (k : Nat) (hk : k < 5) : ∀ i, i < 9 → ∀ j, j < 9 → runs (escL.getD k []) (bareS i j) = dueS k i j ∧ lens (escL.getD k []) (bareS i j) = true := by
  match k, hk with
  | 0, _ => exact told_0
  | 1, _ => exact told_1
  | 2, _ => exact told_2
  | 3, _ => exact told_3
  | 4, _ => exact told_4
section
variable {w : World} {pr : Program} {p : Program} {loose : List Str} {mean : ExcName → Option Value} {mg mb : Str → Option Value}
  {dp un : Nat} {gd : Option (List Code)} {cn : Str} {cs : Scope} {a : Addr} {ccd : Value} {cl : List (Str × Addr)} {outer : List Env} {A₀ : Around} {base h₀ : Heap} {L : Addr} {m : Str → Option Value} {s : Shared} {Q E : Value → Shared → Prop} {news : List (Addr × Obj)}
theorem e_hand {t1 : Tok} (k i j : Nat) (hk : k < 5) (hi : i < 9) (hj : j < 9)
  (B : Below A₀ base outer h₀) (F : Fr h₀ L s.heap m) (X : (Mine.hd.heap_1 w.params).In h₀) (N : News h₀ L s.heap news) (T : Top p loose mean mg mb h₀) (hcs : cs.kind = .function)
  (hd : dp + 2 < recursionLimit) (hu : un + 30 < cLine)
  (hret : ∀ (t : Tok) (h' : Heap) (tk' : Nat), Fr h₀ L h' m → News h₀ L h' news → Q (.str (dueS k i j) t) { s with heap := h', toks := tk' }) :
  wpAny (model pr w) (ktrTop dp un gd cn cs L a ccd cl outer) (call (.ref (escF.getD k 0)) [.str (bareS i j) t1]) Q E s := by
  obtain ⟨e, l⟩ := told k hk i hi j hj
  rw [← e] at hret
  match k, hk with
  | 0, _ =>
    simp only [lens, escL, List.getD_cons_zero, List.getD_cons_succ, Bool.and_eq_true, decide_eq_true_eq] at l
    exact e_cdata B F X N T hcs hd hu l.1 l.2.1 l.2.2.1 hret
  | 1, _ =>
    simp only [lens, escL, List.getD_cons_zero, List.getD_cons_succ, Bool.and_eq_true, decide_eq_true_eq] at l
    exact e_cdata_c14n B F X N T hcs hd hu l.1 l.2.1 l.2.2.1 l.2.2.2.1 hret
  | 2, _ =>
    simp only [lens, escL, List.getD_cons_zero, List.getD_cons_succ, Bool.and_eq_true, decide_eq_true_eq] at l
    exact e_attrib B F X N T hcs hd hu l.1 l.2.1 l.2.2.1 l.2.2.2.1 l.2.2.2.2.1 l.2.2.2.2.2.1 l.2.2.2.2.2.2.1 hret
  | 3, _ =>
    simp only [lens, escL, List.getD_cons_zero, List.getD_cons_succ, Bool.and_eq_true, decide_eq_true_eq] at l
    exact e_attrib_c14n B F X N T hcs hd hu l.1 l.2.1 l.2.2.1 l.2.2.2.1 l.2.2.2.2.1 l.2.2.2.2.2.1 hret
  | 4, _ =>
    simp only [lens, escL, List.getD_cons_zero, List.getD_cons_succ, Bool.and_eq_true, decide_eq_true_eq] at l
    exact e_attrib_html B F X N T hcs hd hu l.1 l.2.1 l.2.2.1 hret
theorem escIn (P : Params) (k : Nat) (hk : k < 5) : keepIn (Mine.hd.heap_1 P) (.ref (escF.getD k 0)) = true := by
  match k, hk with
  | 0, _ => show keepIn (Mine.hd.heap_1 P) (.ref 168) = true; k_is
  | 1, _ => show keepIn (Mine.hd.heap_1 P) (.ref 189) = true; k_is
  | 2, _ => show keepIn (Mine.hd.heap_1 P) (.ref 175) = true; k_is
  | 3, _ => show keepIn (Mine.hd.heap_1 P) (.ref 196) = true; k_is
  | 4, _ => show keepIn (Mine.hd.heap_1 P) (.ref 182) = true; k_is
theorem cmpIn (P : Params) (k : Nat) (hk : k < 6) : keepIn (Mine.hd.heap_1 P) (.ref (cmpF.getD k 0)) = true := by
  match k, hk with
  | 0, _ => show keepIn (Mine.hd.heap_1 P) (.ref 49) = true; k_is
  | 1, _ => show keepIn (Mine.hd.heap_1 P) (.ref 56) = true; k_is
  | 2, _ => show keepIn (Mine.hd.heap_1 P) (.ref 84) = true; k_is
  | 3, _ => show keepIn (Mine.hd.heap_1 P) (.ref 77) = true; k_is
  | 4, _ => show keepIn (Mine.hd.heap_1 P) (.ref 63) = true; k_is
  | 5, _ => show keepIn (Mine.hd.heap_1 P) (.ref 70) = true; k_is
end
end Mine
set_option Elab.async false
set_option maxRecDepth 100000
set_option maxHeartbeats 4000000
namespace Mine
section
variable {prog : Program} {w : World} {A : Around} {E : Value → Shared → Prop} {s : Shared} {env : Env} {h₀ : Heap} {x : Str} {body : List Stmt} {Q : Flow → Shared → Prop}
/-- the rest of a range loop, by an invariant -/
theorem range_rest {I : Addr} {a : Int} (J : Nat → (Str → Option Value) → List (Addr × Obj) → Prop) (n : Nat)
    (turn : ∀ i m news t h tk, i < n → J i m news → Fr h₀ env.locals h (fun y => if y = x then some (.int (a + (i : Int)) t) else m y) →
      News h₀ env.locals h ((I, itR (a + ((i + 1 : Nat) : Int)) ((n : Int) - ((i + 1 : Nat) : Int))) :: news) →
      wpAny (model prog w) A (execs body env) (UnrPost h₀ env.locals { s with heap := h, toks := tk } I (itR (a + ((i + 1 : Nat) : Int)) ((n : Int) - ((i + 1 : Nat) : Int))) (J (i + 1)) Q) E { s with heap := h, toks := tk })
    (done : ∀ m news, J n m news → ∀ h tk, Fr h₀ env.locals h m → News h₀ env.locals h news → Q .next { s with heap := h, toks := tk }) :
    ∀ k i m news, i + k = n → J i m news → RangeRest prog w A E h₀ env x body Q s I a n k i m news := by
  intro k
  induction k with
  | zero =>
    intro i m news e hJ
    have : i = n := by omega
    subst this
    exact RangeRest.zero (done m news hJ)
  | succ k ih =>
    intro i m news e hJ
    refine RangeRest.succ fun t h tk F N => wpAny_mono (turn i m news t h tk (by omega) hJ F N) (fun f s₂ p => ?_) fun _ _ e => e
    cases f with
    | ret v => exact p
    | brk => exact p
    | next =>
      obtain ⟨h', tk', m', news', e', F', N', o, r⟩ := p
      exact ⟨h', tk', m', news', e', F', N', o, ih _ _ _ (by omega) r⟩
    | cont =>
      obtain ⟨h', tk', m', news', e', F', N', o, r⟩ := p
      exact ⟨h', tk', m', news', e', F', N', o, ih _ _ _ (by omega) r⟩
end
end Mine
set_option Elab.async false
set_option maxRecDepth 100000
set_option maxHeartbeats 4000000
set_option linter.unusedVariables false
namespace Mine
section
variable {prog : Program} {w : World} {A : Around} {E : Value → Shared → Prop} {s : Shared} {Q : Value → Shared → Prop} {value slice : PySem.Expr} {t u : Tok} {l : Addr}
/-- the item appended last -/
theorem sub_last {vs : List Value} {x : Value} {i : Int} (hl : s.heap.IsList l (vs ++ [x]).toArray) (hi : i = (vs.length : Int)) (h3 : vs.length < 1000) (h : Q x s)
    (hs : subscripted slice false (.ref l) (.int i u) = operate [.ref l, .int i u] (getItem (.ref l) (.int i u)) := by with_unfolding_all rfl) :
    wpAny (model prog w) A (subscriptTail value slice (.ref l) (.int i u)) Q E s :=
  tail_any hl.typeIs slot_list_getitem.lookup (wpAny_getItem_list hl (by omega) (by omega) (x := x) (by rw [hi, Int.toNat_natCast]; simp) h) hs
end
theorem strs_snoc {vs : List Value} {ns : List Str} {x : Str} {t : Tok} (h : StrsAre vs ns) : StrsAre (vs ++ [.str x t]) (ns ++ [x]) := by
  induction h with
  | nil => exact .cons _ _ .nil
  | cons y t' _ ih => exact .cons y t' ih
/-- the state at the head of a turn of _law_written -/
inductive WrJ (a0 a1 a2 a3 a9 a10 : Addr) (st : List (Addr × Obj)) (I : Addr) (i : Nat) (m : Str → Option Value) (news : List (Addr × Obj)) : Prop
  | mk (vb vw vd : List Value) (n0 n1 n2 : Nat) (bs ws : List Str) (y : Int) (ty : Tok) (h0 : news = (a0, listOf vd.toArray n0) :: (a1, listOf vw.toArray n1) :: (a2, listOf vb.toArray n2) :: st)
    (oI : Off I ((a0, listOf vd.toArray n0) :: (a1, listOf vw.toArray n1) :: (a2, listOf vb.toArray n2) :: st)) (sb : StrsAre vb bs) (sw : StrsAre vw ws) (sd : StrsAre vd ws) (lb : bs.length = i) (lw : ws.length = i) (ok : ∀ b ∈ ws, PyData.strOk b = true)
    (e1 : m (Str.ofString "number") = some (.int y ty)) (e2 : m (Str.ofString "hands") = some (.ref a10)) (e3 : m (Str.ofString "signs") = some (.ref a9)) (e4 : m (Str.ofString "spelled") = some (.ref a3))
    (e5 : m (Str.ofString "bare") = some (.ref a2)) (e6 : m (Str.ofString "written") = some (.ref a1)) (e7 : m (Str.ofString "due") = some (.ref a0)) : WrJ a0 a1 a2 a3 a9 a10 st I i m news
theorem off_c {a : Addr} {p : Addr × Obj} {l : List (Addr × Obj)} (h : p.1 ≠ a) (hl : Off a l) : Off a (p :: l) := by
  intro q hq
  rcases List.mem_cons.mp hq with rfl | hq
  · exact h
  · exact hl q hq
/-- behind the range call: named addresses, the rest of the ledger as one list -/
theorem wr_start {C : Prop} {g h : Heap} {L a0 a1 a2 a3 a4 a5 a6 a7 a8 a9 a10 : Addr} {m : Str → Option Value} {v0 v1 v2 v3 v4 v5 : List Value} {n3 n4 n5 n6 n7 n8 n9 n10 : Nat} {x : Int} {t : Tok}
  (N : News g L h [(a0, listOf #[] 0), (a1, listOf #[] 0), (a2, listOf #[] 0), (a3, listOf [Value.ref a8, .ref a7, .ref a6, .ref a5, .ref a4].toArray n3), (a4, listOf v4.toArray n4), (a5, listOf v3.toArray n5), (a6, listOf v2.toArray n6), (a7, listOf v1.toArray n7), (a8, listOf v0.toArray n8), (a9, listOf v5.toArray n9), (a10, listOf (escF.map Value.ref).toArray n10)]) (F : Fr g L h m)
  (l0 : a1 < a0 ∧ a2 < a0 ∧ a3 < a0 ∧ a4 < a0 ∧ a5 < a0 ∧ a6 < a0 ∧ a7 < a0 ∧ a8 < a0 ∧ a9 < a0 ∧ a10 < a0) (l1 : a2 < a1 ∧ a3 < a1 ∧ a4 < a1 ∧ a5 < a1 ∧ a6 < a1 ∧ a7 < a1 ∧ a8 < a1 ∧ a9 < a1 ∧ a10 < a1) (l2 : a3 < a2 ∧ a4 < a2 ∧ a5 < a2 ∧ a6 < a2 ∧ a7 < a2 ∧ a8 < a2 ∧ a9 < a2 ∧ a10 < a2)
  (e1 : m (Str.ofString "number") = some (.int x t)) (e2 : m (Str.ofString "hands") = some (.ref a10)) (e3 : m (Str.ofString "signs") = some (.ref a9)) (e4 : m (Str.ofString "spelled") = some (.ref a3)) (e5 : m (Str.ofString "bare") = some (.ref a2)) (e6 : m (Str.ofString "written") = some (.ref a1)) (e7 : m (Str.ofString "due") = some (.ref a0))
  (k : ∀ (m : Str → Option Value) (a0 a1 a2 a3 a4 a5 a6 a7 a8 a9 a10 : Addr) (v0 v1 v2 v3 v4 v5 : List Value) (n3 n4 n5 n6 n7 n8 n9 n10 : Nat) (st : List (Addr × Obj)), StrsAre v0 (spL.getD 0 []) → StrsAre v1 (spL.getD 1 []) → StrsAre v2 (spL.getD 2 []) → StrsAre v3 (spL.getD 3 []) → StrsAre v4 (spL.getD 4 []) → StrsAre v5 sgL → Fr g L h m → News g L h ((a0, listOf ([] : List Value).toArray 0) :: (a1, listOf ([] : List Value).toArray 0) :: (a2, listOf ([] : List Value).toArray 0) :: st) → a1 ≠ a0 → a2 ≠ a0 → a2 ≠ a1 → Off a0 st → Off a1 st → Off a2 st → (a3, listOf [Value.ref a8, .ref a7, .ref a6, .ref a5, .ref a4].toArray n3) ∈ st → (a4, listOf v4.toArray n4) ∈ st → (a5, listOf v3.toArray n5) ∈ st → (a6, listOf v2.toArray n6) ∈ st → (a7, listOf v1.toArray n7) ∈ st → (a8, listOf v0.toArray n8) ∈ st → (a9, listOf v5.toArray n9) ∈ st → (a10, listOf (escF.map Value.ref).toArray n10) ∈ st → m (Str.ofString "number") = some (.int x t) → m (Str.ofString "hands") = some (.ref a10) → m (Str.ofString "signs") = some (.ref a9) → m (Str.ofString "spelled") = some (.ref a3) → m (Str.ofString "bare") = some (.ref a2) → m (Str.ofString "written") = some (.ref a1) → m (Str.ofString "due") = some (.ref a0) → C)
  (s0 : StrsAre v0 (spL.getD 0 [])) (s1 : StrsAre v1 (spL.getD 1 [])) (s2 : StrsAre v2 (spL.getD 2 [])) (s3 : StrsAre v3 (spL.getD 3 [])) (s4 : StrsAre v4 (spL.getD 4 [])) (s5 : StrsAre v5 sgL) : C := by
  have lt' : ∀ {a b : Nat}, a < b → a ≠ b := fun h e => by subst e; exact Nat.lt_irrefl _ h
  obtain ⟨p1, p2, p3, p4, p5, p6, p7, p8, p9, p10⟩ := l0
  obtain ⟨q2, q3, q4, q5, q6, q7, q8, q9, q10⟩ := l1
  obtain ⟨r3, r4, r5, r6, r7, r8, r9, r10⟩ := l2
  refine k m a0 a1 a2 a3 a4 a5 a6 a7 a8 a9 a10 v0 v1 v2 v3 v4 v5 n3 n4 n5 n6 n7 n8 n9 n10 [(a3, listOf [Value.ref a8, .ref a7, .ref a6, .ref a5, .ref a4].toArray n3), (a4, listOf v4.toArray n4), (a5, listOf v3.toArray n5), (a6, listOf v2.toArray n6), (a7, listOf v1.toArray n7), (a8, listOf v0.toArray n8), (a9, listOf v5.toArray n9), (a10, listOf (escF.map Value.ref).toArray n10)] s0 s1 s2 s3 s4 s5 F N (lt' p1) (lt' p2) (lt' q2) ?_ ?_ ?_ (.head _) (.tail _ (.head _)) (.tail _ (.tail _ (.head _))) (.tail _ (.tail _ (.tail _ (.head _)))) (.tail _ (.tail _ (.tail _ (.tail _ (.head _))))) (.tail _ (.tail _ (.tail _ (.tail _ (.tail _ (.head _)))))) (.tail _ (.tail _ (.tail _ (.tail _ (.tail _ (.tail _ (.head _))))))) (.tail _ (.tail _ (.tail _ (.tail _ (.tail _ (.tail _ (.tail _ (.head _)))))))) e1 e2 e3 e4 e5 e6 e7
  · exact off_c (lt' p3) (off_c (lt' p4) (off_c (lt' p5) (off_c (lt' p6) (off_c (lt' p7) (off_c (lt' p8) (off_c (lt' p9) (off_c (lt' p10) (fun _ h => nomatch h))))))))
  · exact off_c (lt' q3) (off_c (lt' q4) (off_c (lt' q5) (off_c (lt' q6) (off_c (lt' q7) (off_c (lt' q8) (off_c (lt' q9) (off_c (lt' q10) (fun _ h => nomatch h))))))))
  · exact off_c (lt' r3) (off_c (lt' r4) (off_c (lt' r5) (off_c (lt' r6) (off_c (lt' r7) (off_c (lt' r8) (off_c (lt' r9) (off_c (lt' r10) (fun _ h => nomatch h))))))))
theorem app_w {prog : Program} {w : World} {A : Around} {s : Shared} {E Q : Value → Shared → Prop} {g : Heap} {L D : Addr} {m : Str → Option Value} {vs : List Value} {n : Nat} {x : Value} {all : List (Addr × Obj)} (rest : List (Addr × Obj))
  (F : Fr g L s.heap m) (N : News g L s.heap all) (hm : (D, listOf vs.toArray n) ∈ all) (hs : ∀ p ∈ rest, p ∈ all) (off : Off D rest) (hsz : vs.toArray.size ≤ sizeLine)
  (h : ∀ h', Fr g L h' m → News g L h' ((D, listOf (vs ++ [x]).toArray (n + 1)) :: rest) → Q .none { s with heap := h' }) : wpAny (model prog w) A (call (.builtin "list.append") [.ref D, x]) Q E s := by
  refine append_K (hsz := hsz) F (news_sub (news := (D, listOf vs.toArray n) :: rest) N fun p hp => ?_) (Upd.head off) fun h' F' N' => h h' F' ?_
  · rcases List.mem_cons.mp hp with rfl | hp
    · exact hm
    · exact hs p hp
  · have : (vs.toArray.push x) = (vs ++ [x]).toArray := by simp
    rw [← this]; exact N'
end Mine
set_option Elab.async false
set_option maxRecDepth 100000
set_option maxHeartbeats 4000000
set_option linter.unusedVariables false
namespace Mine
/-- marks that switch walk lines on and off -/
structure MarkN (n : Nat) : Prop
open Builtin.Int (intBits)
theorem fm_lt (x : Int) (b : Int) (hb : 0 < b) : (x.fmod b).toNat < b.toNat := by
  have h0 := Int.fmod_nonneg_of_pos x hb
  have h1 := Int.fmod_lt_of_pos x hb
  omega
theorem sg_len (i : Nat) : (sg i).length ≤ 6 := by
  have h : ∀ i, i < 9 → (sg i).length ≤ 6 := by decide +kernel
  by_cases hi : i < 9
  · exact h i hi
  · have e : sg i = Str.empty := by unfold sg; rw [List.getD_eq_getElem?_getD, List.getElem?_eq_none (by simp [sgL]; omega)]; rfl
    rw [e]; decide
theorem sp_len (k i : Nat) : (sp k i).length ≤ 6 := by
  have h : ∀ k, k < 5 → ∀ i, i < 9 → (sp k i).length ≤ 6 := by decide +kernel
  by_cases hk : k < 5
  · by_cases hi : i < 9
    · exact h k hk i hi
    · have hl : ∀ k, k < 5 → (spL.getD k []).length = 9 := by decide +kernel
      have e : sp k i = Str.empty := by unfold sp; rw [List.getD_eq_getElem?_getD, List.getElem?_eq_none (by rw [hl k hk]; omega)]; rfl
      rw [e]; decide
  · have e : sp k i = Str.empty := by
      unfold sp
      have : spL.getD k [] = [] := by rw [List.getD_eq_getElem?_getD, List.getElem?_eq_none (by simp [spL]; omega)]; rfl
      rw [this]; rfl
    rw [e]; decide
theorem due_ok : ∀ k, k < 5 → ∀ i, i < 9 → ∀ j, j < 9 → PyData.strOk (dueS k i j) = true := by decide +kernel
section
variable {prog : Program} {w : World} {A : Around} {E : Value → Shared → Prop} {s : Shared} {Q : Value → Shared → Prop} {value slice : PySem.Expr} {t u : Tok} {l : Addr}
theorem add_sg {i j : Nat} (h : ∀ t' k, Q (.str (bareS i j) t') { s with toks := k }) : wpAny (model prog w) A (binaryOp .Add (.str (sg i) t) (.str (sg j) u)) Q E s :=
  KOpn.add (by have := sg_len i; have := sg_len j; omega) fun t' k _ => h t' k
theorem add_sp {k i j : Nat} (h : ∀ t' k', Q (.str (dueS k i j) t') { s with toks := k' }) : wpAny (model prog w) A (binaryOp .Add (.str (sp k i) t) (.str (sp k j) u)) Q E s :=
  KOpn.add (by have := sp_len k i; have := sp_len k j; omega) fun t' k _ => h t' k
theorem sub_sg {vs : List Value} {i : Int} (hl : s.heap.IsList l vs.toArray) (hw : StrsAre vs sgL) (h0 : 0 ≤ i) (h1 : i < 9) (h : ∀ t', Q (.str (sg i.toNat) t') s)
    (hs : subscripted slice false (.ref l) (.int i u) = operate [.ref l, .int i u] (getItem (.ref l) (.int i u)) := by with_unfolding_all rfl) :
    wpAny (model prog w) A (subscriptTail value slice (.ref l) (.int i u)) Q E s :=
  KTb.item_list hl hw h0 h1 (by omega) (fun t' _ => h t') hs
theorem sub_at {vs : List Value} {i : Int} {v : Value} (k : Nat) (hl : s.heap.IsList l vs.toArray) (hi : i = (k : Int) ∧ k < 1000) (hx : vs[k]? = some v) (h : Q v s)
    (hs : subscripted slice false (.ref l) (.int i u) = operate [.ref l, .int i u] (getItem (.ref l) (.int i u)) := by with_unfolding_all rfl) :
    wpAny (model prog w) A (subscriptTail value slice (.ref l) (.int i u)) Q E s :=
  tail_any hl.typeIs slot_list_getitem.lookup (wpAny_getItem_list hl (by omega) (by omega) (x := v) (by rw [hi.1]; simpa using hx) h) hs
theorem refs_at (as : List Addr) (k : Nat) (hk : k < as.length) : (as.map Value.ref)[k]? = some (.ref (as.getD k 0)) := by
  rw [List.getElem?_map, List.getD_eq_getElem?_getD, List.getElem?_eq_getElem hk]; rfl
theorem sub_refs (as : List Addr) {vs : List Value} {i : Int} (hl : s.heap.IsList l vs.toArray) (hv : vs = as.map Value.ref) (h0 : 0 ≤ i) (h1 : i < as.length) (h2 : i < 1000) (h : Q (.ref (as.getD i.toNat 0)) s)
    (hs : subscripted slice false (.ref l) (.int i u) = operate [.ref l, .int i u] (getItem (.ref l) (.int i u)) := by with_unfolding_all rfl) :
    wpAny (model prog w) A (subscriptTail value slice (.ref l) (.int i u)) Q E s := by
  subst hv
  have hk : i.toNat < as.length := by omega
  exact tail_any hl.typeIs slot_list_getitem.lookup (wpAny_getItem_list hl h0 (by omega) (x := .ref (as.getD i.toNat 0)) (by simpa using refs_at as _ hk) h) hs
theorem sub_sp (as : List Addr) {k : Nat} {i : Int} (hk : k < as.length) (hl : ∀ j, j < as.length → ∃ vs, s.heap.IsList (as.getD j 0) (vs : List Value).toArray ∧ StrsAre vs (spL.getD j []) ∧ (spL.getD j []).length = 9) (h0 : 0 ≤ i) (h1 : i < 9) (h : ∀ t', Q (.str (sp k i.toNat) t') s)
    (hs : subscripted slice false (.ref (as.getD k 0)) (.int i u) = operate [.ref (as.getD k 0), .int i u] (getItem (.ref (as.getD k 0)) (.int i u)) := by with_unfolding_all rfl) :
    wpAny (model prog w) A (subscriptTail value slice (.ref (as.getD k 0)) (.int i u)) Q E s := by
  obtain ⟨vs, hl, hw, hn⟩ := hl k hk
  exact KTb.item_list hl hw h0 (by rw [hn]; omega) (by omega) (fun t' _ => h t') hs
noncomputable def SpAt (h : Heap) (j : Nat) (a : Addr) : Prop := ∃ vs : List Value, h.IsList a vs.toArray ∧ StrsAre vs (spL.getD j []) ∧ (spL.getD j []).length = 9
theorem SpAt.mk {h : Heap} {j : Nat} {a : Addr} {vs : List Value} (x : h.IsList a vs.toArray) (y : StrsAre vs (spL.getD j [])) (z : (spL.getD j []).length = 9) : SpAt h j a := ⟨vs, x, y, z⟩
theorem sub_sp5 {a b c d e : Addr} {k : Nat} {i : Int} (hk : k < 5) (ha : SpAt s.heap 0 a) (hb : SpAt s.heap 1 b) (hc : SpAt s.heap 2 c) (hd : SpAt s.heap 3 d) (he : SpAt s.heap 4 e) (h0 : 0 ≤ i) (h1 : i < 9) (h : ∀ t', Q (.str (sp k i.toNat) t') s)
    (hs : subscripted slice false (.ref ([a, b, c, d, e].getD k 0)) (.int i u) = operate [.ref ([a, b, c, d, e].getD k 0), .int i u] (getItem (.ref ([a, b, c, d, e].getD k 0)) (.int i u)) := by with_unfolding_all rfl) :
    wpAny (model prog w) A (subscriptTail value slice (.ref ([a, b, c, d, e].getD k 0)) (.int i u)) Q E s :=
  sub_sp [a, b, c, d, e] hk (fun j hj => match j, hj with
    | 0, _ => ha
    | 1, _ => hb
    | 2, _ => hc
    | 3, _ => hd
    | 4, _ => he) h0 h1 h hs
end
/-- the end of a turn of _law_written -/
theorem wr_end {g h' : Heap} {L : Addr} {s₁ : Shared} {tk : Nat} {m : Str → Option Value} {I a0 a1 a2 a3 a9 a10 : Addr} {it : Obj} {vb vw vd : List Value} {n0 n1 n2 i k a b : Nat} {t0 t1 t2 : Tok} {st : List (Addr × Obj)} {bs ws : List Str} {y : Int} {ty : Tok}
  (F : Fr g L h' m) (N : News g L h' ((a0, listOf (vd ++ [Value.str (dueS k a b) t0]).toArray n0) :: (a1, listOf (vw ++ [Value.str (dueS k a b) t1]).toArray n1) :: (a2, listOf (vb ++ [Value.str (bareS a b) t2]).toArray n2) :: (I, it) :: st))
  (oI : Off I ((a0, listOf (vd ++ [Value.str (dueS k a b) t0]).toArray n0) :: (a1, listOf (vw ++ [Value.str (dueS k a b) t1]).toArray n1) :: (a2, listOf (vb ++ [Value.str (bareS a b) t2]).toArray n2) :: st))
  (sb : StrsAre vb bs) (sw : StrsAre vw ws) (sd : StrsAre vd ws) (lb : bs.length = i) (lw : ws.length = i) (ok : ∀ b ∈ ws, PyData.strOk b = true) (hk : k < 5) (ha : a < 9) (hb : b < 9)
  (e1 : m (Str.ofString "number") = some (.int y ty)) (e2 : m (Str.ofString "hands") = some (.ref a10)) (e3 : m (Str.ofString "signs") = some (.ref a9)) (e4 : m (Str.ofString "spelled") = some (.ref a3)) (e5 : m (Str.ofString "bare") = some (.ref a2)) (e6 : m (Str.ofString "written") = some (.ref a1)) (e7 : m (Str.ofString "due") = some (.ref a0)) :
  UnrEnd g L s₁ I it (WrJ a0 a1 a2 a3 a9 a10 st I (i + 1)) { s₁ with heap := h', toks := tk } := by
  refine UnrEnd.intro F N _ ?_ oI ⟨vb ++ [Value.str (bareS a b) t2], vw ++ [Value.str (dueS k a b) t1], vd ++ [Value.str (dueS k a b) t0], n0, n1, n2, bs ++ [bareS a b], ws ++ [dueS k a b], y, ty, rfl, oI, strs_snoc sb, strs_snoc sw, strs_snoc sd, by simp [lb], by simp [lw], ?_, e1, e2, e3, e4, e5, e6, e7⟩
  · exact (by (repeat (refine List.forall_mem_cons.mpr ⟨(by repeat (first | exact List.Mem.head _ | refine List.Mem.tail _ ?_)), ?_⟩)); exact fun p h => (by repeat (first | exact h | refine List.Mem.tail _ ?_)))
  · intro z hz
    rcases List.mem_append.mp hz with hz | hz
    · exact ok z hz
    · rw [List.mem_singleton.mp hz]; exact due_ok k hk a ha b hb
theorem off_t {D : Addr} {p : Addr × Obj} {l : List (Addr × Obj)} (h : Off D (p :: l)) : Off D l := fun q hq => h q (.tail _ hq)
theorem off_h {D a : Addr} {o : Obj} {l : List (Addr × Obj)} (h : Off D ((a, o) :: l)) : a ≠ D := h _ (.head _)
end Mine
set_option Elab.async false
set_option maxRecDepth 100000
set_option maxHeartbeats 4000000
set_option linter.unusedVariables false
namespace Mine
open Builtin.Int (intBits)
theorem filled_wr (P : Params) : row.prog = row.prog ∧ hd.heap_1 P = hd.heap_1 P := by
  k_fill
  exact ⟨rfl, rfl⟩
structure Mark : Prop
noncomputable def tupObj (vs : List Value) : Obj := { cls := .type "tuple", data := .seq vs.toArray }
theorem gen_wr {g h : Heap} {L a0 a1 a2 a3 a4 a5 a6 a7 a8 a9 : Addr} {x0 : Addr × Obj} {v0 v1 v2 v3 v4 v5 : List Value} {o3 : Obj} {y : Addr × Obj} {n4 n5 n6 n7 n8 n10 : Nat} {C : Prop}
  (N : News g L h [x0, (a0, listOf #[] 0), (a1, listOf #[] 0), (a2, listOf #[] 0), (a3, o3), (a4, listOf v4.toArray n4), (a5, listOf v3.toArray n5), (a6, listOf v2.toArray n6), (a7, listOf v1.toArray n7), (a8, listOf v0.toArray n8), (a9, listOf v5.toArray n10), y])
  (s0 : StrsAre v0 (spL.getD 0 [])) (s1 : StrsAre v1 (spL.getD 1 [])) (s2 : StrsAre v2 (spL.getD 2 [])) (s3 : StrsAre v3 (spL.getD 3 [])) (s4 : StrsAre v4 (spL.getD 4 [])) (s5 : StrsAre v5 sgL)
  (k : ∀ v0 v1 v2 v3 v4 v5, News g L h [(a0, listOf #[] 0), (a1, listOf #[] 0), (a2, listOf #[] 0), (a3, o3), (a4, listOf (v4 : List Value).toArray n4), (a5, listOf (v3 : List Value).toArray n5), (a6, listOf (v2 : List Value).toArray n6), (a7, listOf (v1 : List Value).toArray n7), (a8, listOf (v0 : List Value).toArray n8), (a9, listOf (v5 : List Value).toArray n10), y] →
    StrsAre v0 (spL.getD 0 []) → StrsAre v1 (spL.getD 1 []) → StrsAre v2 (spL.getD 2 []) → StrsAre v3 (spL.getD 3 []) → StrsAre v4 (spL.getD 4 []) → StrsAre v5 sgL → C) : C :=
  k _ _ _ _ _ _ (news_tail N) s0 s1 s2 s3 s4 s5
section
variable {w : World} {pr : Program} {p : Program} {loose : List Str} {mean : ExcName → Option Value} {mg mb : Str → Option Value}
  {dp un : Nat} {gd : Option (List Code)} {cn : Str} {cs : Scope} {a : Addr} {ccd : Value} {cl : List (Str × Addr)} {outer : List Env} {A₀ : Around} {base h₀ : Heap} {L : Addr} {m : Str → Option Value} {s : Shared} {Q E : Value → Shared → Prop} {news : List (Addr × Obj)}

local macro_rules | `(tactic| k_mem) => `(tactic| with_reducible first | exact List.mem_cons_self | assumption | (refine List.mem_cons_of_mem _ ?_; k_mem))
theorem c_written {x : Int} {t1 : Tok}
  (B : Below A₀ base outer h₀) (F : Fr h₀ L s.heap m) (X : (Mine.hd.heap_1 w.params).In h₀) (N : News h₀ L s.heap news) (T : Top p loose mean mg mb h₀) (hcs : cs.kind = .function)
  (hd : dp + 4 < recursionLimit) (hu : un + 50 < cLine)
  (hret : ∀ (c a1 a2 a3 : Addr) (vb vw vd : List Value) (bs ws : List Str) (n1 n2 n3 : Nat) (h' : Heap) (tk' : Nat) (new : List (Addr × Obj)), Fr h₀ L h' m → News h₀ L h' (new ++ news) → (∀ q ∈ new, ∀ p ∈ news, p.1 ≠ q.1) → (c, tupObj [.ref a1, .ref a2, .ref a3]) ∈ new → (a1, listOf vb.toArray n1) ∈ new → (a2, listOf vw.toArray n2) ∈ new → (a3, listOf vd.toArray n3) ∈ new →
    StrsAre vb bs → StrsAre vw ws → StrsAre vd ws → bs.length = 3 → ws.length = 3 → (∀ b ∈ ws, PyData.strOk b = true) → Q (.ref c) { s with heap := h', toks := tk' }) :
  wpAny (model pr w) (ktrTop dp un gd cn cs L a ccd cl outer) (call (.ref 208) [.int x t1]) Q E s := by
  refine' enterH [(Str.ofString "number", .int x t1)] [] news B F X N T hcs (by omega) (fun _ _ _ h => nomatch h) ?k6 ?k7 (BindsTo.of_eq ?k9) (locs ?kB) ?c2 ?c3 ?c4 ?c5 ?_
  case k6 => k_is
  case k7 => k_is
  case k9 => exact rfl
  case kB => exact rfl
  case c2 => exact rfl
  case c3 => exact rfl
  case c4 => exact rfl
  case c5 => decide
  intro g' L' h' F' N' hrest st B' X' T' _
  clear B F X N T
  (try dsimp only); (try k_lift B'); (try k_fold)
  (repeat' (first | (k_unfold; (try dsimp only)) | (k_end; kc_close) | ((with_reducible show wpAny _ _ (exec (Stmt.For (PySem.Expr.Name ..) (PySem.Expr.Call ..) ..) _) _ _ _); (refine stop_intro ?_)) | ((with_reducible show wpAny _ _ (eval (PySem.Expr.Name ..) _) _ _ _); (k_here; k_dflt (refine ld (by k_asm) (by first | exact rfl | ((repeat (refine Eq.trans (if_neg (by decide)) ?_)); with_reducible assumption)) ?_; k_whole))) | ((with_reducible show wpAny _ _ (loadName _ _) _ _ _); (k_here; k_dflt (refine ldn (by k_asm) (by first | exact rfl | ((repeat (refine Eq.trans (if_neg (by decide)) ?_)); with_reducible assumption)) ?_; k_whole))) | ((with_reducible show LeaveH _ _ _ _ _ _ _ _); first | (with_reducible ((refine leaveH_ (by k_asm) (by k_asm) ?_; intro kF_z kN_z kA_z; try dsimp only))) | ((refine leaveH_ (by k_asm) (by k_asm) ?_; intro kF_z kN_z kA_z; try dsimp only))) | walk1 | (dsimp only; walk1) | (leave1; (try dsimp only)) | fail "no step"))
  rename News g' _ _ _ => NN
  refine gen_wr NN (by repeat constructor) (by repeat constructor) (by repeat constructor) (by repeat constructor) (by repeat constructor) (by repeat constructor) ?_
  clear NN
  intro v0 v1 v2 v3 v4 v5 NN s0 s1 s2 s3 s4 s5
  refine Stop.mk ?_
  (repeat' (first | (k_unfold; (try dsimp only)) | (k_end; kc_close) | ((with_reducible show wpAny _ _ (call (Value.type "range") _) _ _ _); ((rename Fr _ _ _ _ => F_z); (rename News _ _ _ _ => N_z); (with_unfolding_all refine range1_rows F_z N_z ?_); clear F_z N_z; intro h9_z tk9_z t91_z u91_z v91_z R9_z F9_z N9_z K9_z; refine stop_intro ?_)) | ((with_reducible show wpAny _ _ (eval (PySem.Expr.Name ..) _) _ _ _); (k_here; k_dflt (refine ld (by k_asm) (by first | exact rfl | ((repeat (refine Eq.trans (if_neg (by decide)) ?_)); with_reducible assumption)) ?_; k_whole))) | ((with_reducible show wpAny _ _ (loadName _ _) _ _ _); (k_here; k_dflt (refine ldn (by k_asm) (by first | exact rfl | ((repeat (refine Eq.trans (if_neg (by decide)) ?_)); with_reducible assumption)) ?_; k_whole))) | ((with_reducible show LeaveH _ _ _ _ _ _ _ _); first | (with_reducible ((refine leaveH_ (by k_asm) (by k_asm) ?_; intro kF_z kN_z kA_z; try dsimp only))) | ((refine leaveH_ (by k_asm) (by k_asm) ?_; intro kF_z kN_z kA_z; try dsimp only))) | walk1 | (dsimp only; walk1) | (leave1; (try dsimp only)) | fail "no step"))
  refine Stop.mk ?_
  rename IsRange _ _ _ _ _ _ _ _ => R
  try dsimp only at R
  rename Fr _ _ _ _ => F9
  rename News _ _ _ _ => N9
  rename _ < _ ∧ _ < _ ∧ _ < _ ∧ _ < _ ∧ _ < _ ∧ _ < _ ∧ _ < _ ∧ _ < _ ∧ _ < _ ∧ _ < _ => l0
  rename _ < _ ∧ _ < _ ∧ _ < _ ∧ _ < _ ∧ _ < _ ∧ _ < _ ∧ _ < _ ∧ _ < _ ∧ _ < _ => l1
  rename _ < _ ∧ _ < _ ∧ _ < _ ∧ _ < _ ∧ _ < _ ∧ _ < _ ∧ _ < _ ∧ _ < _ => l2
  refine wr_start N9 F9 l0 l1 l2 rfl rfl rfl rfl rfl rfl rfl ?_ s0 s1 s2 s3 s4 s5
  clear N9 F9 l0 l1 l2 s0 s1 s2 s3 s4 s5
  intro mm a0 a1 a2 a3 a4 a5 a6 a7 a8 a9 a10 v0 v1 v2 v3 v4 v5 n3 n4 n5 n6 n7 n8 n9 n10 st s0 s1 s2 s3 s4 s5 F9 N9 d10 d20 d21 o0 o1 o2 m3 m4 m5 m6 m7 m8 m9 m10 e1 e2 e3 e4 e5 e6 e7
  refine iter_rangeUnr (n := 3) rfl R (by decide) (by decide) F9 N9 ?_
  intro I hI
  refine range_rest (WrJ a0 a1 a2 a3 a9 a10 st I) 3 ?turn ?done 3 0 _ _ rfl ⟨[], [], [], 0, 0, 0, [], [], _, _, rfl, fun p hp => Nat.ne_of_lt (hI p hp), .nil, .nil, .nil, rfl, rfl, (fun _ h => nomatch h), e1, e2, e3, e4, e5, e6, e7⟩
  case done =>
    clear N9 F9 R
    intro m' news' hJ h9 tk9 F N
    obtain ⟨vb, vw, vd, k0, k1, k2, bs, ws, y, ty, rfl, oI, sb, sw, sd, lb, lw, ok, e1, e2, e3, e4, e5, e6, e7⟩ := hJ
    (try dsimp only)
    (repeat' (first | (k_unfold; (try dsimp only)) | (k_end; kc_close) | ((with_reducible show wpAny _ _ (call (Value.type "range") _) _ _ _); ((rename Fr _ _ _ _ => F_z); (rename News _ _ _ _ => N_z); (with_unfolding_all refine range1_rows F_z N_z ?_); clear F_z N_z; intro h9_z tk9_z t91_z u91_z v91_z R9_z F9_z N9_z K9_z; refine stop_intro ?_)) | ((with_reducible show wpAny _ _ (eval (PySem.Expr.Name ..) _) _ _ _); (k_here; k_dflt (refine ld (by k_asm) (by first | exact rfl | ((repeat (refine Eq.trans (if_neg (by decide)) ?_)); with_reducible assumption)) ?_; k_whole))) | ((with_reducible show wpAny _ _ (loadName _ _) _ _ _); (k_here; k_dflt (refine ldn (by k_asm) (by first | exact rfl | ((repeat (refine Eq.trans (if_neg (by decide)) ?_)); with_reducible assumption)) ?_; k_whole))) | ((with_reducible show LeaveH _ _ _ _ _ _ _ _); first | (with_reducible ((refine leaveH_ (by k_asm) (by k_asm) ?_; intro kF_z kN_z kA_z; try dsimp only))) | ((refine leaveH_ (by k_asm) (by k_asm) ?_; intro kF_z kN_z kA_z; try dsimp only))) | walk1 | (dsimp only; walk1) | (leave1; (try dsimp only)) | fail "no step"))
    rename Fr h₀ _ _ _ => kF
    rename News h₀ _ _ _ => kN
    exact hret _ a2 a1 a0 vb vw vd bs ws _ _ _ _ _ _ kF kN (by assumption) (.head _) (.tail _ (.tail _ (.tail _ (.head _)))) (.tail _ (.tail _ (.head _))) (.tail _ (.head _)) sb sw sd lb lw ok
  case turn =>
    clear N9 F9 R
    intro i m' news' t h9 tk9 hi hJ F N
    obtain ⟨vb, vw, vd, k0, k1, k2, bs, ws, y, ty, rfl, oI, sb, sw, sd, lb, lw, ok, e1, e2, e3, e4, e5, e6, e7⟩ := hJ
    (try dsimp only)
    have c1 : a1 ≠ I := off_h (off_t oI)
    have c2 : a2 ≠ I := off_h (off_t (off_t oI))
    have c0 : a0 ≠ I := off_h oI
    have lbv : 0 + (i : Int) = (vb.length : Int) := by rw [sb.length, lb, Int.zero_add]
    have lb3 : vb.length < 1000 := by rw [sb.length, lb]; omega
    (repeat' (first | (k_unfold; (try dsimp only)) | (k_end; kc_close) | ((with_reducible show wpAny _ _ (subscriptTail _ _ (Value.ref ..) (Value.int ..)) _ _ _); (k_here; k_dflt (refine sub_sg (by exact News.isList (by k_asm) (by k_mem)) (by with_reducible assumption) (by exact Int.fmod_nonneg_of_pos _ (by decide)) (by exact Int.fmod_lt_of_pos _ (by decide)) ?_; intro _))) | ((with_reducible show wpAny _ _ (binaryOp Operator.Add (Value.str ..) (Value.str ..)) _ _ _); (k_dflt (with_reducible refine add_sg ?_; intro _ _))) | ((with_reducible show wpAny _ _ (call (Value.builtin "list.append") _) _ _ _); (refine stop_intro ?_)) | ((with_reducible show wpAny _ _ (eval (PySem.Expr.Name ..) _) _ _ _); (k_here; k_dflt (refine ld (by k_asm) (by first | exact rfl | ((repeat (refine Eq.trans (if_neg (by decide)) ?_)); with_reducible assumption)) ?_; k_whole))) | ((with_reducible show wpAny _ _ (loadName _ _) _ _ _); (k_here; k_dflt (refine ldn (by k_asm) (by first | exact rfl | ((repeat (refine Eq.trans (if_neg (by decide)) ?_)); with_reducible assumption)) ?_; k_whole))) | ((with_reducible show LeaveH _ _ _ _ _ _ _ _); first | (with_reducible ((refine leaveH_ (by k_asm) (by k_asm) ?_; intro kF_z kN_z kA_z; try dsimp only))) | ((refine leaveH_ (by k_asm) (by k_asm) ?_; intro kF_z kN_z kA_z; try dsimp only))) | walk1 | (dsimp only; walk1) | (leave1; (try dsimp only)) | fail "no step"))
    rename Fr g' _ _ _ => F1
    rename News g' _ _ _ => N1
    refine Stop.mk (app_w ((I, itR (0 + ((i + 1 : Nat) : Int)) (((3 : Nat) : Int) - ((i + 1 : Nat) : Int))) :: (a0, listOf vd.toArray k0) :: (a1, listOf vw.toArray k1) :: st) F1 N1 (.tail _ (.tail _ (.tail _ (.tail _ (.head _))))) (by (repeat (refine List.forall_mem_cons.mpr ⟨(by repeat (first | exact List.Mem.head _ | refine List.Mem.tail _ ?_)), ?_⟩)); exact fun p h => (by repeat (first | exact h | refine List.Mem.tail _ ?_))) (off_c c2.symm (off_c d20.symm (off_c d21.symm o2))) (by rw [List.size_toArray, sb.length, lb]; exact Nat.le_trans (Nat.le_of_lt hi) (by decide)) ?_)
    clear F1 N1
    intro h1 F1 N1
    (try dsimp only)
    (repeat' (first | (k_unfold; (try dsimp only)) | (k_end; kc_close) | ((with_reducible show wpAny _ _ (subscriptTail _ _ (Value.ref ..) (Value.int ..)) _ _ _); ((with_reducible show wpAny _ _ (subscriptTail _ _ (Value.ref _) (Value.int (HAdd.hAdd _ _) _)) _ _ _); k_here; k_dflt (refine sub_last (by exact News.isList (by k_asm) (by k_mem)) (by with_reducible assumption) (by with_reducible assumption) ?_))) | ((with_reducible show wpAny _ _ (subscriptTail _ _ (Value.ref ..) (Value.int ..)) _ _ _); ((with_reducible show wpAny _ _ (subscriptTail _ _ (Value.ref _) (Value.int (Int.fmod _ _) _)) _ _ _); k_here; k_dflt (refine sub_refs escF (by exact News.isList (by k_asm) (by k_mem)) (by exact rfl) (by exact Int.fmod_nonneg_of_pos _ (by decide)) (by exact Int.fmod_lt_of_pos _ (by decide)) (by exact Int.lt_trans (Int.fmod_lt_of_pos _ (by decide)) (by decide)) ?_))) | ((with_reducible show wpAny _ _ (call (Value.builtin "list.append") _) _ _ _); (refine stop_intro ?_)) | ((with_reducible show wpAny _ _ (eval (PySem.Expr.Name ..) _) _ _ _); (k_here; k_dflt (refine ld (by k_asm) (by first | exact rfl | ((repeat (refine Eq.trans (if_neg (by decide)) ?_)); with_reducible assumption)) ?_; k_whole))) | ((with_reducible show wpAny _ _ (call (Value.ref ..) _) _ _ _); (k_dflt (refine e_hand _ _ _ (by exact fm_lt _ 5 (by decide)) (by exact fm_lt _ 9 (by decide)) (by exact fm_lt _ 9 (by decide)) (by k_asm) (by k_asm) (by k_asm) (by k_asm) (by k_asm) (by first | with_reducible assumption | exact rfl) (by (first | exact room_up (by with_reducible assumption) (by decide) | ktr_room)) (by (first | exact unit_up (by with_reducible assumption) (by decide) | ktr_units)) ?_; intro t9_z h9_z tk9_z F9_z N9_z; try dsimp only))) | ((with_reducible show wpAny _ _ (callWith _ (Value.ref ..) _ _ _) _ _ _); (k_dflt (refine callWith_K (by k_asm) (by exact escIn _ _ (fm_lt _ 5 (by decide))) ?_; k_whole))) | ((with_reducible show wpAny _ _ (loadName _ _) _ _ _); (k_here; k_dflt (refine ldn (by k_asm) (by first | exact rfl | ((repeat (refine Eq.trans (if_neg (by decide)) ?_)); with_reducible assumption)) ?_; k_whole))) | ((with_reducible show LeaveH _ _ _ _ _ _ _ _); first | (with_reducible ((refine leaveH_ (by k_asm) (by k_asm) ?_; intro kF_z kN_z kA_z; try dsimp only))) | ((refine leaveH_ (by k_asm) (by k_asm) ?_; intro kF_z kN_z kA_z; try dsimp only))) | walk1 | (dsimp only; walk1) | (leave1; (try dsimp only)) | fail "no step"))
    rename Fr g' _ _ _ => F2
    rename News g' _ _ _ => N2
    refine Stop.mk (app_w ((a2, listOf (vb ++ [Value.str _ _]).toArray (k2 + 1)) :: (I, itR (0 + ((i + 1 : Nat) : Int)) (((3 : Nat) : Int) - ((i + 1 : Nat) : Int))) :: (a0, listOf vd.toArray k0) :: st) F2 N2 (.tail _ (.tail _ (.tail _ (.head _)))) (by (repeat (refine List.forall_mem_cons.mpr ⟨(by repeat (first | exact List.Mem.head _ | refine List.Mem.tail _ ?_)), ?_⟩)); exact fun p h => (by repeat (first | exact h | refine List.Mem.tail _ ?_))) (off_c d21 (off_c c1.symm (off_c d10.symm o1))) (by rw [List.size_toArray, sw.length, lw]; exact Nat.le_trans (Nat.le_of_lt hi) (by decide)) ?_)
    clear F2 N2
    intro h2 F2 N2
    (try dsimp only)
    (repeat' (first | (k_unfold; (try dsimp only)) | (k_end; kc_close) | ((with_reducible show wpAny _ _ (subscriptTail _ _ (Value.ref ..) (Value.int ..)) _ _ _); (k_dflt (refine sub_sp5 (by exact fm_lt _ 5 (by decide)) (by exact SpAt.mk (News.isList (by k_asm) (by k_mem)) (by with_reducible assumption) rfl) (by exact SpAt.mk (News.isList (by k_asm) (by k_mem)) (by with_reducible assumption) rfl) (by exact SpAt.mk (News.isList (by k_asm) (by k_mem)) (by with_reducible assumption) rfl) (by exact SpAt.mk (News.isList (by k_asm) (by k_mem)) (by with_reducible assumption) rfl) (by exact SpAt.mk (News.isList (by k_asm) (by k_mem)) (by with_reducible assumption) rfl) (by exact Int.fmod_nonneg_of_pos _ (by decide)) (by exact Int.fmod_lt_of_pos _ (by decide)) ?_; intro _))) | ((with_reducible show wpAny _ _ (subscriptTail _ _ (Value.ref ..) (Value.int ..)) _ _ _); (k_here; k_dflt (refine sub_refs [_, _, _, _, _] (by exact News.isList (by k_asm) (by k_mem)) (by exact rfl) (by exact Int.fmod_nonneg_of_pos _ (by decide)) (by exact Int.fmod_lt_of_pos _ (by decide)) (by exact Int.lt_trans (Int.fmod_lt_of_pos _ (by decide)) (by decide)) ?_))) | ((with_reducible show wpAny _ _ (binaryOp Operator.Add (Value.str ..) (Value.str ..)) _ _ _); (k_dflt (with_reducible refine add_sp ?_; intro _ _))) | ((with_reducible show wpAny _ _ (call (Value.builtin "list.append") _) _ _ _); (refine stop_intro ?_)) | ((with_reducible show wpAny _ _ (eval (PySem.Expr.Name ..) _) _ _ _); (k_here; k_dflt (refine ld (by k_asm) (by first | exact rfl | ((repeat (refine Eq.trans (if_neg (by decide)) ?_)); with_reducible assumption)) ?_; k_whole))) | ((with_reducible show wpAny _ _ (loadName _ _) _ _ _); (k_here; k_dflt (refine ldn (by k_asm) (by first | exact rfl | ((repeat (refine Eq.trans (if_neg (by decide)) ?_)); with_reducible assumption)) ?_; k_whole))) | ((with_reducible show LeaveH _ _ _ _ _ _ _ _); first | (with_reducible ((refine leaveH_ (by k_asm) (by k_asm) ?_; intro kF_z kN_z kA_z; try dsimp only))) | ((refine leaveH_ (by k_asm) (by k_asm) ?_; intro kF_z kN_z kA_z; try dsimp only))) | walk1 | (dsimp only; walk1) | (leave1; (try dsimp only)) | fail "no step"))
    rename Fr g' _ _ _ => F3
    rename News g' _ _ _ => N3
    refine Stop.mk (app_w ((a1, listOf (vw ++ [Value.str _ _]).toArray (k1 + 1)) :: (a2, listOf (vb ++ [Value.str _ _]).toArray (k2 + 1)) :: (I, itR (0 + ((i + 1 : Nat) : Int)) (((3 : Nat) : Int) - ((i + 1 : Nat) : Int))) :: st) F3 N3 (.tail _ (.tail _ (.tail _ (.head _)))) (by (repeat (refine List.forall_mem_cons.mpr ⟨(by repeat (first | exact List.Mem.head _ | refine List.Mem.tail _ ?_)), ?_⟩)); exact fun p h => (by repeat (first | exact h | refine List.Mem.tail _ ?_))) (off_c d10 (off_c d20 (off_c c0.symm o0))) (by rw [List.size_toArray, sd.length, lw]; exact Nat.le_trans (Nat.le_of_lt hi) (by decide)) ?_)
    clear F3 N3
    intro h3 F3 N3
    (try dsimp only)
    (repeat' (first | (k_unfold; (try dsimp only)) | (k_end; kc_close) | ((with_reducible show wpAny _ _ (call (Value.builtin "list.append") _) _ _ _); (refine stop_intro ?_)) | ((with_reducible show wpAny _ _ (eval (PySem.Expr.Name ..) _) _ _ _); (k_here; k_dflt (refine ld (by k_asm) (by first | exact rfl | ((repeat (refine Eq.trans (if_neg (by decide)) ?_)); with_reducible assumption)) ?_; k_whole))) | ((with_reducible show UnrEnd ..); (refine stop_intro ?_)) | ((with_reducible show wpAny _ _ (loadName _ _) _ _ _); (k_here; k_dflt (refine ldn (by k_asm) (by first | exact rfl | ((repeat (refine Eq.trans (if_neg (by decide)) ?_)); with_reducible assumption)) ?_; k_whole))) | ((with_reducible show LeaveH _ _ _ _ _ _ _ _); first | (with_reducible ((refine leaveH_ (by k_asm) (by k_asm) ?_; intro kF_z kN_z kA_z; try dsimp only))) | ((refine leaveH_ (by k_asm) (by k_asm) ?_; intro kF_z kN_z kA_z; try dsimp only))) | walk1 | (dsimp only; walk1) | (leave1; (try dsimp only)) | fail "no step"))
    rename Fr g' _ _ _ => F4
    rename News g' _ _ _ => N4
    exact Stop.mk (wr_end F4 N4 (off_c c0 (off_c c1 (off_c c2 (off_t (off_t (off_t oI)))))) sb sw sd lb lw ok (fm_lt _ 5 (by decide)) (fm_lt _ 9 (by decide)) (fm_lt _ 9 (by decide)) rfl e2 e3 e4 e5 e6 e7)
end
end Mine
set_option Elab.async false
set_option maxRecDepth 100000
set_option maxHeartbeats 4000000
set_option linter.unusedVariables false
namespace Mine
open Builtin.Int (intBits)
theorem filled_ce (P : Params) : row.prog = row.prog ∧ hd.heap_1 P = hd.heap_1 P := by
  k_fill
  exact ⟨rfl, rfl⟩
theorem hx_keeps {h g : Heap} {x : Addr} {vs : Array Value} (hx : h.IsList x vs) (st : h.StaysIn g) : g.IsList x vs := by
  obtain ⟨o, e, r⟩ := hx
  exact ⟨o, st _ _ e, r⟩
section
variable {prog : Program} {w : World} {A : Around} {E : Value → Shared → Prop} {s : Shared} {Q : Value → Shared → Prop} {l : Addr} {h₀ : Heap} {L : Addr} {m : Str → Option Value} {news : List (Addr × Obj)}
theorem sum_pick {vs : List Value} {ns : List Int} {lo hi st : Option Int} {n : Nat} (F : Fr h₀ L s.heap m) (N : News h₀ L s.heap news) (hh : A.handled = none) (hm : (l, { cls := .type "list", data := .seq (slicePick vs.toArray lo hi st) n }) ∈ news) (hv : IntsAre vs ns)
    (h : ∀ h' tk t', Fr h₀ L h' m → News h₀ L h' news → Q (.int (pickNums ns lo hi st).sum t') { s with heap := h', toks := tk }) : wpAny (model prog w) A (call (.builtin "sum") [.ref l]) Q E s :=
  LSm.sum_ints F N hh (vs := (slicePick vs.toArray lo hi st).toList) (News.isList N hm) (hv.pick lo hi st) h
end
section
variable {w : World} {pr : Program} {p : Program} {loose : List Str} {mean : ExcName → Option Value} {mg mb : Str → Option Value}
  {dp un : Nat} {gd : Option (List Code)} {cn : Str} {cs : Scope} {a : Addr} {ccd : Value} {cl : List (Str × Addr)} {outer : List Env} {A₀ : Around} {base h₀ : Heap} {L : Addr} {m : Str → Option Value} {s : Shared} {Q E : Value → Shared → Prop} {news : List (Addr × Obj)}

local macro_rules | `(tactic| k_mem) => `(tactic| with_reducible first | exact List.mem_cons_self | (refine List.mem_cons_of_mem _ ?_; k_mem))
theorem c_cells {x : Addr} {vs : List Value} {ns : List Int}
  (B : Below A₀ base outer h₀) (F : Fr h₀ L s.heap m) (X : (Mine.hd.heap_1 w.params).In h₀) (N : News h₀ L s.heap news) (T : Top p loose mean mg mb h₀) (hcs : cs.kind = .function)
  (hd : dp + 8 < recursionLimit) (hu : un + 150 < cLine) (hx : h₀.IsList x vs.toArray) (hv : IntsAre vs ns) (hlen : ns.length ≤ 63)
  (hret : ∀ (c : Addr) (vc : List Value) (nc : Nat) (ds : List Int) (h' : Heap) (tk' : Nat) (new : List (Addr × Obj)), Fr h₀ L h' m → News h₀ L h' (new ++ news) → (∀ q ∈ new, ∀ p ∈ news, p.1 ≠ q.1) → (c, listOf vc.toArray nc) ∈ new → IntsAre vc ds → ds.length = 10 → Q (.ref c) { s with heap := h', toks := tk' }) :
  wpAny (model pr w) (ktrTop dp un gd cn cs L a ccd cl outer) (call (.ref 201) [.ref x]) Q E s := by
  refine' enterHC [(Str.ofString "script", .ref x)] [] news B F X N T hcs (by omega) (fun _ _ _ h => nomatch h) ?k6 ?k7 (BindsTo.of_eq ?k9) ?kB ?kD ?c2 ?c3 ?c4 ?_
  case k6 => k_is
  case k7 => k_is
  case k9 => exact rfl
  case kB => exact rfl
  case kD => decide +kernel
  case c2 => exact rfl
  case c3 => exact rfl
  case c4 => exact rfl
  intro g' L' h' tk' cells' F' N' Y' hrest st B' X' T' _
  have hx' : g'.IsList x vs.toArray := hx_keeps hx st
  clear B F X N T
  obtain ⟨o2, o1, hE, d2, d1⟩ := CellsAre.two Y'
  subst hE
  clear Y'
  (try dsimp only); (try k_lift B'); (try k_fold)
  (repeat' (first | (k_unfold; (try dsimp only)) | (k_end; kc_close) | ((with_reducible show wpAny _ _ (call (Value.builtin "sum") _) _ _ _); k_dflt (refine sum_pick (by k_asm) (by k_asm) (by exact rfl) (by k_mem) (by with_reducible assumption) ?_; intro _ _ _ _ _; try dsimp only)) | walk1 | (dsimp only; walk1) | (leave1; (try dsimp only)) | fail "no step"))
  rename Fr g' _ _ _ => F₁
  rename News g' _ _ _ => N₁
  rename IntsAre _ (List.map _ _) => I₁
  refine leaveH_ F₁ N₁ ?_
  intro kF kN kA
  exact hret _ _ _ _ _ _ _ kF kN kA (.head _) I₁ (by simp [rangeKs])
end
end Mine
set_option Elab.async false
set_option maxRecDepth 100000
set_option maxHeartbeats 4000000
namespace Mine
section
variable {prog : Program} {w : World} {A : Around} {E : Value → Shared → Prop} {s : Shared} {env : Env} {h₀ : Heap} {target : PySem.Expr} {body : List Stmt} {Q : Flow → Shared → Prop}
/-- the rest of a loop over a list, by an invariant -/
theorem turns_rest {I : Addr} {lp : Addr × Obj} (J : List Value → (Str → Option Value) → List (Addr × Obj) → Prop)
    (turn : ∀ v r m news h tk it, J (v :: r) m news → it.cls = .type "list_iterator" → Fr h₀ env.locals h m → News h₀ env.locals h ((I, it) :: news) →
      wpAny (model prog w) A (assign target env v) (fun _ s₂ => wpAny (model prog w) A (execs body env) (UnrPostW h₀ env.locals { s with heap := h, toks := tk } [(I, it)] (fun m' n' => SubL [lp] n' ∧ J r m' n') Q) E s₂) E { s with heap := h, toks := tk })
    (done : ∀ m news, J [] m news → ∀ h tk, Fr h₀ env.locals h m → News h₀ env.locals h news → Q .next { s with heap := h, toks := tk }) :
    ∀ vs m news, J vs m news → ItemsRest prog w A E h₀ env target body Q s [(I, "list_iterator")] [lp] (vs.map Itm.val) m news := by
  intro vs
  induction vs with
  | nil => intro m news hJ; exact ItemsRest.zero (done m news hJ)
  | cons v r ih =>
    intro m news hJ
    refine ItemsRest.val fun h tk F => AllObj.cons fun it hc => AllObj.nil fun N => ?_
    refine wpAny_mono (turn v r m news h tk it hJ hc F N) (fun _ s₂ h₂ => wpAny_mono h₂ (fun f s₃ p => ?_) fun _ _ e => e) fun _ _ e => e
    cases f with
    | ret v => exact p
    | brk => exact p
    | next =>
      obtain ⟨h', tk', m', news', e', F', N', o, sb, r'⟩ := p
      exact ⟨h', tk', m', news', e', F', N', o, sb, ih _ _ r'⟩
    | cont =>
      obtain ⟨h', tk', m', news', e', F', N', o, sb, r'⟩ := p
      exact ⟨h', tk', m', news', e', F', N', o, sb, ih _ _ r'⟩
/-- a turn is over -/
theorem turn_end {L I : Addr} {it : Obj} {lp : Addr × Obj} {J : (Str → Option Value) → List (Addr × Obj) → Prop} {s₁ : Shared} {h' : Heap} {tk : Nat} {m' : Str → Option Value} {all : List (Addr × Obj)} (F : Fr h₀ L h' m') (N : News h₀ L h' all) (news' : List (Addr × Obj))
    (sub : ∀ p ∈ (I, it) :: news', p ∈ all) (off : ∀ p ∈ news', p.1 ≠ I) (hl : lp ∈ news') (r : J m' news') : UnrEndW h₀ L s₁ [(I, it)] (fun m' n' => SubL [lp] n' ∧ J m' n') { s₁ with heap := h', toks := tk } :=
  ⟨h', tk, m', news', rfl, F, fun p hp => N p (sub p (by simpa using hp)), fun p hp q hq => by rw [List.mem_singleton.mp hq]; exact off p hp, ⟨hl, trivial⟩, r⟩
/-- a loop over a list that stands in the ledger -/
theorem list_loop {iter : PySem.Expr} {pos : Pos} {m : Str → Option Value} {ax : Addr} {vs : List Value} {n : Nat} {news : List (Addr × Obj)} (J : Addr → List Value → (Str → Option Value) → List (Addr × Obj) → Prop)
    (hh : A.handled = none) (F : Fr h₀ env.locals s.heap m) (N : News h₀ env.locals s.heap news) (hm : (ax, listOf vs.toArray n) ∈ news)
    (hit : ∀ R : Value → Shared → Prop, R (.ref ax) s → wpAny (model prog w) A (eval iter env) R E s) (h0 : ∀ I, (∀ p ∈ news, p.1 < I) → J I vs m news)
    (turn : ∀ I v r m news h tk it, J I (v :: r) m news → it.cls = .type "list_iterator" → Fr h₀ env.locals h m → News h₀ env.locals h ((I, it) :: news) →
      wpAny (model prog w) A (assign target env v) (fun _ s₂ => wpAny (model prog w) A (execs body env) (UnrPostW h₀ env.locals { s with heap := h, toks := tk } [(I, it)] (fun m' n' => SubL [(ax, listOf vs.toArray n)] n' ∧ J I r m' n') Q) E s₂) E { s with heap := h, toks := tk })
    (done : ∀ I m news, J I [] m news → ∀ h tk, Fr h₀ env.locals h m → News h₀ env.locals h news → Q .next { s with heap := h, toks := tk })
    (hs : ∀ x, foldedSetIterable iter env x = pure x := by intro _; rfl)
    (hE : PassesOwn (model prog w) A env E := by passes_own) :
    wpAny (model prog w) A (exec (.For target iter body [] pos) env) Q E s :=
  For_turns F (hit _ (iter_listTurns hh F N hm rfl rfl fun I hI => turns_rest (J I) (turn I) (done I) vs m news (h0 I hI))) hs hE
end
end Mine
set_option Elab.async false
set_option maxRecDepth 100000
set_option maxHeartbeats 4000000
set_option linter.unusedVariables false
namespace Mine
open Builtin.Int (intBits)
theorem filled_co (P : Params) : row.prog = row.prog ∧ hd.heap_1 P = hd.heap_1 P := by
  k_fill
  exact ⟨rfl, rfl⟩
/-- how many of a list say True -/
noncomputable def trues : List Bool → Nat
  | [] => 0
  | b :: r => (if b then 1 else 0) + trues r
theorem bools_cons {v : Value} {r : List Value} {bs : List Bool} (h : LSm.BoolsAre (v :: r) bs) : ∃ b bs', v = .bool b ∧ LSm.BoolsAre r bs' ∧ bs = b :: bs' := by
  cases h with | cons b h' => exact ⟨b, _, rfl, h', rfl⟩
inductive CoJ (total : Nat) (news0 : List (Addr × Obj)) (I : Addr) (r : List Value) (m : Str → Option Value) (news : List (Addr × Obj)) : Prop
  | mk (bs : List Bool) (k : Nat) (t : Tok) (h0' : LSm.BoolsAre r bs) (h1' : k + trues bs = total) (h2' : m (Str.ofString "count") = some (.int k t)) (h3' : m (Str.ofString "b") = some (.bool true)) (h4' : news = news0) (h5' : Off I news0) : CoJ total news0 I r m news
section
variable {w : World} {pr : Program} {p : Program} {loose : List Str} {mean : ExcName → Option Value} {mg mb : Str → Option Value}
  {dp un : Nat} {gd : Option (List Code)} {cn : Str} {cs : Scope} {a : Addr} {ccd : Value} {cl : List (Str × Addr)} {outer : List Env} {A₀ : Around} {base h₀ : Heap} {L : Addr} {m : Str → Option Value} {s : Shared} {Q E : Value → Shared → Prop} {news : List (Addr × Obj)}

local macro_rules | `(tactic| k_mem) => `(tactic| with_reducible first | exact List.mem_cons_self | (refine List.mem_cons_of_mem _ ?_; k_mem))
theorem c_count {l : Addr} {vs : List Value} {nn : Nat} {bs : List Bool}
  (B : Below A₀ base outer h₀) (F : Fr h₀ L s.heap m) (X : (Mine.hd.heap_1 w.params).In h₀) (N : News h₀ L s.heap news) (T : Top p loose mean mg mb h₀) (hcs : cs.kind = .function)
  (hd : dp + 4 < recursionLimit) (hu : un + 60 < cLine) (hl : (l, listOf vs.toArray nn) ∈ news) (hv : LSm.BoolsAre vs bs) (h8 : bs.length ≤ 8)
  (hret : ∀ (t : Tok) (h' : Heap) (tk' : Nat), Fr h₀ L h' m → News h₀ L h' news → Q (.int (trues bs) t) { s with heap := h', toks := tk' }) :
  wpAny (model pr w) (ktrTop dp un gd cn cs L a ccd cl outer) (call (.ref 133) [.ref l, .bool true]) Q E s := by
  refine' enter [(Str.ofString "a", .ref l), (Str.ofString "b", .bool true)] B F X N T hcs (by omega) ?k6 ?k7 (BindsTo.of_eq ?k9) (locs ?kB) ?c2 ?c3 ?c4 ?c5 ?_
  case k6 => k_is
  case k7 => k_is
  case k9 => exact rfl
  case kB => exact rfl
  case c2 => exact rfl
  case c3 => exact rfl
  case c4 => exact rfl
  case c5 => decide
  intro g' L' h' FG' F' N' B' X' T'
  clear B F X N T
  (try dsimp only); (try k_lift B'); (try k_fold)
  (repeat' (first | (k_unfold; (try dsimp only)) | (k_end; kc_close) | ((with_reducible show wpAny _ _ (exec (Stmt.For (PySem.Expr.Name ..) (PySem.Expr.Name ..) ..) _) _ _ _); refine stop_intro ?_) | ((with_reducible show wpAny _ _ (eval (PySem.Expr.Name ..) _) _ _ _); (k_here; k_dflt (refine ld (by k_asm) (by first | exact rfl | ((repeat (refine Eq.trans (if_neg (by decide)) ?_)); with_reducible assumption)) ?_; k_whole))) | ((with_reducible show UnrEndW ..); refine stop_intro ?_) | ((with_reducible show wpAny _ _ (loadName _ _) _ _ _); (k_here; k_dflt (refine ldn (by k_asm) (by first | exact rfl | ((repeat (refine Eq.trans (if_neg (by decide)) ?_)); with_reducible assumption)) ?_; k_whole))) | ((with_reducible show LeaveK ..); first | (with_reducible ((refine leaveK_ (by k_asm) (by k_asm) ?_; intro kF_z kN_z; try dsimp only))) | ((refine leaveK_ (by k_asm) (by k_asm) ?_; intro kF_z kN_z; try dsimp only))) | walk1 | (dsimp only; walk1) | (leave1; (try dsimp only)) | fail "no step"))
  refine Stop.mk ?_
  rename Fr g' _ _ _ => F₁
  rename News g' _ _ _ => N₁
  refine list_loop (CoJ (trues bs) news) rfl F₁ N₁ hl (fun R hR => ?it) (fun I hI => ⟨bs, 0, _, hv, by simp, rfl, rfl, rfl, fun p hp => Nat.ne_of_lt (hI p hp)⟩) ?turn ?done
  case it => (repeat' (first | (k_unfold; (try dsimp only)) | (k_end; kc_close) | ((with_reducible show wpAny _ _ (exec (Stmt.For (PySem.Expr.Name ..) (PySem.Expr.Name ..) ..) _) _ _ _); refine stop_intro ?_) | ((with_reducible show wpAny _ _ (eval (PySem.Expr.Name ..) _) _ _ _); (k_here; k_dflt (refine ld (by k_asm) (by first | exact rfl | ((repeat (refine Eq.trans (if_neg (by decide)) ?_)); with_reducible assumption)) ?_; k_whole))) | ((with_reducible show UnrEndW ..); refine stop_intro ?_) | ((with_reducible show wpAny _ _ (loadName _ _) _ _ _); (k_here; k_dflt (refine ldn (by k_asm) (by first | exact rfl | ((repeat (refine Eq.trans (if_neg (by decide)) ?_)); with_reducible assumption)) ?_; k_whole))) | ((with_reducible show LeaveK ..); first | (with_reducible ((refine leaveK_ (by k_asm) (by k_asm) ?_; intro kF_z kN_z; try dsimp only))) | ((refine leaveK_ (by k_asm) (by k_asm) ?_; intro kF_z kN_z; try dsimp only))) | walk1 | (dsimp only; walk1) | (leave1; (try dsimp only)) | fail "no step")); exact hR
  case turn =>
    clear F₁ N₁
    rintro I v r m' _ h tk it ⟨bs', k, t, hb, hk, e1, e2, rfl, ho⟩ hc F N
    obtain ⟨b, bs'', rfl, hb', rfl⟩ := bools_cons hb
    try dsimp only
    cases b
    · (repeat' (first | (k_unfold; (try dsimp only)) | (k_end; kc_close) | ((with_reducible show wpAny _ _ (exec (Stmt.For (PySem.Expr.Name ..) (PySem.Expr.Name ..) ..) _) _ _ _); refine stop_intro ?_) | ((with_reducible show wpAny _ _ (eval (PySem.Expr.Name ..) _) _ _ _); (k_here; k_dflt (refine ld (by k_asm) (by first | exact rfl | ((repeat (refine Eq.trans (if_neg (by decide)) ?_)); with_reducible assumption)) ?_; k_whole))) | ((with_reducible show UnrEndW ..); refine stop_intro ?_) | ((with_reducible show wpAny _ _ (loadName _ _) _ _ _); (k_here; k_dflt (refine ldn (by k_asm) (by first | exact rfl | ((repeat (refine Eq.trans (if_neg (by decide)) ?_)); with_reducible assumption)) ?_; k_whole))) | ((with_reducible show LeaveK ..); first | (with_reducible ((refine leaveK_ (by k_asm) (by k_asm) ?_; intro kF_z kN_z; try dsimp only))) | ((refine leaveK_ (by k_asm) (by k_asm) ?_; intro kF_z kN_z; try dsimp only))) | walk1 | (dsimp only; walk1) | (leave1; (try dsimp only)) | fail "no step"))
      rename Fr g' _ _ _ => F₂
      rename News g' _ _ _ => N₂
      exact Stop.mk (turn_end F₂ N₂ _ (fun p hp => hp) ho hl ⟨bs'', k, t, hb', by simpa [trues] using hk, e1, e2, rfl, ho⟩)
    · (repeat' (first | (k_unfold; (try dsimp only)) | (k_end; kc_close) | ((with_reducible show wpAny _ _ (exec (Stmt.For (PySem.Expr.Name ..) (PySem.Expr.Name ..) ..) _) _ _ _); refine stop_intro ?_) | ((with_reducible show wpAny _ _ (eval (PySem.Expr.Name ..) _) _ _ _); (k_here; k_dflt (refine ld (by k_asm) (by first | exact rfl | ((repeat (refine Eq.trans (if_neg (by decide)) ?_)); with_reducible assumption)) ?_; k_whole))) | ((with_reducible show UnrEndW ..); refine stop_intro ?_) | ((with_reducible show wpAny _ _ (loadName _ _) _ _ _); (k_here; k_dflt (refine ldn (by k_asm) (by first | exact rfl | ((repeat (refine Eq.trans (if_neg (by decide)) ?_)); with_reducible assumption)) ?_; k_whole))) | ((with_reducible show LeaveK ..); first | (with_reducible ((refine leaveK_ (by k_asm) (by k_asm) ?_; intro kF_z kN_z; try dsimp only))) | ((refine leaveK_ (by k_asm) (by k_asm) ?_; intro kF_z kN_z; try dsimp only))) | walk1 | (dsimp only; walk1) | (leave1; (try dsimp only)) | fail "no step"))
      rename Fr g' _ _ _ => F₂
      rename News g' _ _ _ => N₂
      exact Stop.mk (turn_end F₂ N₂ _ (fun p hp => hp) ho hl ⟨bs'', k + 1, _, hb', by simp [trues] at hk; omega, rfl, e2, rfl, ho⟩)
  case done =>
    clear F₁ N₁
    rintro I m' _ ⟨bs', k, t, hb, hk, e1, e2, rfl, ho⟩ h tk F N
    try dsimp only
    (repeat' (first | (k_unfold; (try dsimp only)) | (k_end; kc_close) | ((with_reducible show wpAny _ _ (exec (Stmt.For (PySem.Expr.Name ..) (PySem.Expr.Name ..) ..) _) _ _ _); refine stop_intro ?_) | ((with_reducible show wpAny _ _ (eval (PySem.Expr.Name ..) _) _ _ _); (k_here; k_dflt (refine ld (by k_asm) (by first | exact rfl | ((repeat (refine Eq.trans (if_neg (by decide)) ?_)); with_reducible assumption)) ?_; k_whole))) | ((with_reducible show UnrEndW ..); refine stop_intro ?_) | ((with_reducible show wpAny _ _ (loadName _ _) _ _ _); (k_here; k_dflt (refine ldn (by k_asm) (by first | exact rfl | ((repeat (refine Eq.trans (if_neg (by decide)) ?_)); with_reducible assumption)) ?_; k_whole))) | ((with_reducible show LeaveK ..); first | (with_reducible ((refine leaveK_ (by k_asm) (by k_asm) ?_; intro kF_z kN_z; try dsimp only))) | ((refine leaveK_ (by k_asm) (by k_asm) ?_; intro kF_z kN_z; try dsimp only))) | walk1 | (dsimp only; walk1) | (leave1; (try dsimp only)) | fail "no step"))
    cases hb
    simp only [trues, Nat.add_zero] at hk
    rw [hk]
    exact hret _ _ _ (by assumption) (by assumption)
end
end Mine
set_option Elab.async false
set_option maxRecDepth 100000
set_option maxHeartbeats 4000000
set_option linter.unusedVariables false
namespace Mine
open Builtin.Int (intBits)
/-- the crossings of a list of pairs -/
inductive CrossAre (news : List (Addr × Obj)) : List Value → List (Int × Bool) → Prop
  | nil : CrossAre news [] []
  | cons {c : Addr} {p : Int} {t : Tok} {b : Bool} {vs xs} : (c, tupObj [.int p t, .bool b]) ∈ news → CrossAre news vs xs → CrossAre news (.ref c :: vs) ((p, b) :: xs)
theorem CrossAre.mono {news news' : List (Addr × Obj)} {vs : List Value} {xs : List (Int × Bool)} (h : CrossAre news vs xs) (hs : ∀ p ∈ news, p ∈ news') : CrossAre news' vs xs := by
  induction h with
  | nil => exact .nil
  | cons m _ ih => exact .cons (hs _ m) ih
theorem CrossAre.snoc {news : List (Addr × Obj)} {vs : List Value} {xs : List (Int × Bool)} {c : Addr} {p : Int} {t : Tok} {b : Bool} (h : CrossAre news vs xs) (m : (c, tupObj [.int p t, .bool b]) ∈ news) : CrossAre news (vs ++ [.ref c]) (xs ++ [(p, b)]) := by
  induction h with
  | nil => exact .cons m .nil
  | cons m' _ ih => exact .cons m' ih
theorem CrossAre.length {news : List (Addr × Obj)} {vs : List Value} {xs : List (Int × Bool)} (h : CrossAre news vs xs) : vs.length = xs.length := by
  induction h with
  | nil => rfl
  | cons m' _ ih => simp [ih]
noncomputable def swap (p : Int) (l : List Int) : List Int := (l.set p.toNat (l.getD (p + 1).toNat 0)).set (p + 1).toNat (l.getD p.toNat 0)
noncomputable def seatsOf (xs : List (Int × Bool)) : List Int := xs.foldl (fun l x => swap x.1 l) [0, 1, 2]
theorem news_four {h₀ h : Heap} {L : Addr} {new news : List (Addr × Obj)} {p q r t : Addr × Obj} (N : News h₀ L h (new ++ news)) (a : p ∈ new) (b : q ∈ new) (c : r ∈ new) (d : t ∈ new) : News h₀ L h [p, q, r, t] := by
  intro x hx
  refine N x (List.mem_append_left _ ?_)
  simp only [List.mem_cons, List.not_mem_nil, or_false] at hx
  rcases hx with e | e | e | e <;> rw [e] <;> assumption
theorem fr_list {h₀ h : Heap} {L x : Addr} {m : Str → Option Value} {vs : List Value} {n : Nat} (F : Fr h₀ L h m) (e : h₀.get? x = some (listOf vs.toArray n)) : h.IsList x vs.toArray :=
  ⟨_, F.keep _ _ e, rfl, _, rfl⟩
section
variable {prog : Program} {w : World} {A : Around} {E : Value → Shared → Prop} {s : Shared} {Q : Value → Shared → Prop} {value slice : PySem.Expr} {t u : Tok} {l : Addr}
theorem sub_int {vs : List Value} {ds : List Int} {i : Int} (hl : s.heap.IsList l vs.toArray) (hv : IntsAre vs ds) (h0 : 0 ≤ i) (h1 : i < ds.length) (h2 : i < 1000) (h : ∀ t', Q (.int (ds.getD i.toNat 0) t') s)
    (hs : subscripted slice false (.ref l) (.int i u) = operate [.ref l, .int i u] (getItem (.ref l) (.int i u)) := by with_unfolding_all rfl) :
    wpAny (model prog w) A (subscriptTail value slice (.ref l) (.int i u)) Q E s := by
  obtain ⟨t', hx⟩ := hv.get i.toNat _ (ints_getD h0 h1)
  exact tail_any hl.typeIs slot_list_getitem.lookup (wpAny_getItem_list hl h0 (by omega) (x := .int (ds.getD i.toNat 0) t') (by simpa using hx) (h t')) hs
end
section
variable {prog : Program} {w : World} {A : Around} {E : Value → Shared → Prop} {s : Shared} {Q : Value → Shared → Prop} {a b : Addr} {xs ys : List Value} {ns ms : List Str}
theorem ne_strs (ha : s.heap.IsList a xs.toArray) (hb : s.heap.IsList b ys.toArray) (hi : StrsAre xs ns) (hj : StrsAre ys ns) (h3 : ns.length = 3) (hok : ∀ b ∈ ns, PyData.strOk b = true) (hu : A.units + 64 < cLine) (h : Q (.bool false) s) :
    wpAny (model prog w) A (compareOp .NotEq (.ref a) (.ref b)) Q E s := by
  have c : ∀ {xs : List Value} {ns : List Str}, StrsAre xs ns → CarriedAll xs (ns.map PyData.str) := by
    intro xs ns hi
    induction hi with
    | nil => exact .nil
    | cons y t _ ih => exact .cons (.str y t) ih
  match ns, h3, hok with
  | [n1, n2, n3], _, hok =>
    have k1 := hok n1 (by simp)
    have k2 := hok n2 (by simp)
    have k3 := hok n3 (by simp)
    have sh : PySem.SeqAt.shaped (.list ([n1, n2, n3].map PyData.str)) = true := by simp [PySem.SeqAt.shaped, PyData.canLay0, PyData.canLayAll0, PyData.depth, PyData.depthAll, k1, k2, k3]
    exact ne_dataH_same (reads_newData ha (c hi)) (reads_newData hb (c hj)) sh sh hu (SeqAt.noMix_of_shape (.list .str) rfl _ _ (list_map_has fun _ => rfl) (list_map_has fun _ => rfl)) (by simpa [PySem.Spec.same, PySem.Spec.sameAll] using h)
end
theorem range_n : ∀ n : Nat, n < 9 → Builtin.Range.small 0 (n : Int) 1 = true ∧ Builtin.Range.rangeSize 0 (n : Int) 1 = (n : Int) := by decide
theorem range_8 {n : Nat} (h : n ≤ 8) : Builtin.Range.small 0 (n : Int) 1 = true ∧ Builtin.Range.rangeSize 0 (n : Int) 1 = (n : Int) := range_n n (by omega)
noncomputable def PlOk (xs : List (Int × Bool)) : Prop := ∀ x ∈ xs, x.1 = 0 ∨ x.1 = 1
noncomputable def In3 (l : List Int) : Prop := l.length = 3 ∧ ∀ i : Int, 0 ≤ i → i < 3 → 0 ≤ l.getD i.toNat 0 ∧ l.getD i.toNat 0 < 3
theorem in3_swap {p : Int} {l : List Int} (hp : p = 0 ∨ p = 1) (h : In3 l) : In3 (swap p l) := by
  obtain ⟨h1, h2⟩ := h
  match l, h1 with
  | [a, b, c], _ =>
    have a1 := h2 0 (by decide) (by decide)
    have a2 := h2 1 (by decide) (by decide)
    have a3 := h2 2 (by decide) (by decide)
    simp at a1 a2 a3
    rcases hp with rfl | rfl
    · refine ⟨rfl, fun i h0 h3 => ?_⟩
      have : i = 0 ∨ i = 1 ∨ i = 2 := by omega
      rcases this with rfl | rfl | rfl <;> simp [swap] <;> omega
    · refine ⟨rfl, fun i h0 h3 => ?_⟩
      have : i = 0 ∨ i = 1 ∨ i = 2 := by omega
      rcases this with rfl | rfl | rfl <;> simp [swap] <;> omega
theorem seatsOf_snoc (xs : List (Int × Bool)) (p : Int) (b : Bool) : seatsOf (xs ++ [(p, b)]) = swap p (seatsOf xs) := by simp [seatsOf]
theorem seats_in3 {xs : List (Int × Bool)} (h : PlOk xs) : In3 (seatsOf xs) := by
  have key : ∀ (xs : List (Int × Bool)) (l : List Int), PlOk xs → In3 l → In3 (xs.foldl (fun l x => swap x.1 l) l) := by
    intro xs
    induction xs with
    | nil => intro l _ h; exact h
    | cons x r ih => intro l hp h; exact ih _ (fun y hy => hp y (.tail _ hy)) (in3_swap (hp x (.head _)) h)
  refine key xs _ h ⟨rfl, fun i h0 h3 => ?_⟩
  have : i = 0 ∨ i = 1 ∨ i = 2 := by omega
  rcases this with rfl | rfl | rfl <;> decide
/-- the state at the head of a turn -/
inductive CrJ (I x a1 a2 cr st : Addr) (vb vw : List Value) (n1 n2 : Nat) (i : Nat) (m : Str → Option Value) (news : List (Addr × Obj)) : Prop
  | mk (vc : List Value) (nc : Nat) (vt : List Value) (nt : Nat) (xs : List (Int × Bool)) (tl : List (Addr × Obj)) (h0' : news = (cr, listOf vc.toArray nc) :: (st, listOf vt.toArray nt) :: (a1, listOf vb.toArray n1) :: (a2, listOf vw.toArray n2) :: tl) (h1' : Off cr tl) (h2' : Off st tl) (h3' : Off I news) (h4' : CrossAre tl vc xs) (h5' : IntsAre vt (seatsOf xs)) (h6' : xs.length = i) (h7' : PlOk xs) (h8' : m (Str.ofString "cells") = some (.ref x)) (h9' : m (Str.ofString "bare") = some (.ref a1)) (h10' : m (Str.ofString "written") = some (.ref a2)) (h11' : m (Str.ofString "crossings") = some (.ref cr)) (h12' : m (Str.ofString "seats") = some (.ref st)) : CrJ I x a1 a2 cr st vb vw n1 n2 i m news
theorem y_six {x : Int} (h : x < 6) : x < ((6 : Nat) : Int) := h
theorem y_nat {x : Int} (h : x < 6) : x.toNat < 6 := by omega
theorem cmp_at {k : Nat} (h : k < 6) : cmpF[k]? = some (cmpF.getD k 0) := by
  rw [List.getD_eq_getElem?_getD, List.getElem?_eq_getElem (show k < cmpF.length from h)]; rfl
theorem h24 {k : Nat} (h : k ≤ 1) : (24 : Int) ^ k ≠ 0 ∧ intBits ((24 : Int) ^ k) ≤ 9 := by
  have : k = 0 ∨ k = 1 := by omega
  rcases this with rfl | rfl <;> decide
/-- behind the turn's first row -/
noncomputable def FigQ (g : Heap) (L : Addr) (news : List (Addr × Obj)) (m : Str → Option Value) (s : Shared) (f : Flow) (s' : Shared) : Prop :=
  ∃ (v : Int) (t : Tok) (h : Heap) (tk : Nat), f = .next ∧ s' = { s with heap := h, toks := tk } ∧ 0 ≤ v ∧ v < 24 ∧ Fr g L h (fun y => if y = Str.ofString "figure" then some (.int v t) else m y) ∧ News g L h news
theorem fig_cut {prog : Program} {w : World} {A : Around} {s : Shared} {g h : Heap} {L : Addr} {m : Str → Option Value} {news : List (Addr × Obj)} {t : Sem Flow} {R : Flow → Shared → Prop} {E : Value → Shared → Prop}
  (F : Fr g L h m) (N : News g L h news) (h1 : wpAny (model prog w) A t (FigQ g L news m s) E s)
  (h2 : ∀ (v : Int) (tv : Tok) (h : Heap) (tk : Nat), 0 ≤ v → v < 24 → Fr g L h (fun y => if y = Str.ofString "figure" then some (.int v tv) else m y) → News g L h news → R .next { s with heap := h, toks := tk }) : wpAny (model prog w) A t R E s := by
  refine wpAny_mono h1 ?_ fun _ _ x => x
  rintro f s' ⟨v, tv, h₂, tk₂, rfl, rfl, v0, v1, F₂, N₂⟩
  exact h2 _ _ _ _ v0 v1 F₂ N₂
/-- any string, from an expression that changes nothing -/
noncomputable def StrQ (s : Shared) (v : Value) (s' : Shared) : Prop := ∃ (y : Str) (t : Tok) (tk : Nat), v = .str y t ∧ s' = { s with toks := tk }
theorem str_cut {prog : Program} {w : World} {A : Around} {s : Shared} {t : Sem Value} {Q E : Value → Shared → Prop}
  (h1 : wpAny (model prog w) A t (StrQ s) E s) (h2 : ∀ (y : Str) (t : Tok) (tk : Nat), Q (.str y t) { s with toks := tk }) : wpAny (model prog w) A t Q E s := by
  refine wpAny_mono h1 ?_ fun _ _ x => x
  rintro v s' ⟨y, t, tk, rfl, rfl⟩
  exact h2 _ _ _
theorem tup_ne {g h : Heap} {L D x : Addr} {vs ws : List Value} {n : Nat} {news : List (Addr × Obj)} (N : News g L h news) (a : (D, tupObj vs) ∈ news) (b : (x, listOf ws.toArray n) ∈ news) : x ≠ D := by
  intro e
  have h1 := (N _ a).1
  have h2 := (N _ b).1
  subst e
  rw [h1] at h2
  have h3 := Option.some.inj h2
  have h4 := congrArg Obj.cls h3
  exact absurd h4 (by simp [tupObj, W.listOf])
theorem tup_ne_it {g h : Heap} {L D I : Addr} {vs : List Value} {i j : Int} {news : List (Addr × Obj)} (N : News g L h news) (a : (D, tupObj vs) ∈ news) (b : (I, itR i j) ∈ news) : D ≠ I := by
  intro e
  have h1 := (N _ a).1
  have h2 := (N _ b).1
  subst e
  rw [h1] at h2
  have h3 := Option.some.inj h2
  have h4 := congrArg Obj.cls h3
  exact absurd h4 (by simp [tupObj, itR])
noncomputable def ShapeOf (l : List (Addr × Obj)) : Prop := l = l
theorem shape_of {g h : Heap} {L : Addr} {l : List (Addr × Obj)} (N : News g L h l) : ShapeOf l := rfl
theorem app_cut {prog : Program} {w : World} {A : Around} {s : Shared} {E Q : Value → Shared → Prop} {g : Heap} {L : Addr} {m : Str → Option Value} {D I cr st a1 a2 : Addr} {tv vc vt vb vw : List Value} {nc nt n1 n2 : Nat} {i j : Int} {tl all : List (Addr × Obj)}
  (F : Fr g L s.heap m) (N : News g L s.heap ((D, tupObj tv) :: all)) (sh : ShapeOf ((I, itR i j) :: (cr, listOf vc.toArray nc) :: (st, listOf vt.toArray nt) :: (a1, listOf vb.toArray n1) :: (a2, listOf vw.toArray n2) :: tl)) (d1 : cr ≠ st) (d2 : cr ≠ a1) (d3 : cr ≠ a2) (oc : Off cr tl) (oI : cr ≠ I) (hsz : vc.toArray.size ≤ sizeLine)
  (hsub : ∀ p ∈ (cr, listOf vc.toArray nc) :: (I, itR i j) :: (st, listOf vt.toArray nt) :: (a1, listOf vb.toArray n1) :: (a2, listOf vw.toArray n2) :: tl, p ∈ all)
  (h : ∀ h', Fr g L h' m → News g L h' ((st, listOf vt.toArray nt) :: (cr, listOf (vc ++ [Value.ref D]).toArray (nc + 1)) :: (D, tupObj tv) :: (I, itR i j) :: (a1, listOf vb.toArray n1) :: (a2, listOf vw.toArray n2) :: tl) → cr ≠ D → st ≠ D → D ≠ I → Q .none { s with heap := h' }) :
  wpAny (model prog w) A (call (.builtin "list.append") [.ref cr, .ref D]) Q E s := by
  have ic : (cr, listOf vc.toArray nc) ∈ (D, tupObj tv) :: all := .tail _ (hsub _ (.head _))
  have is : (st, listOf vt.toArray nt) ∈ (D, tupObj tv) :: all := .tail _ (hsub _ (.tail _ (.tail _ (.head _))))
  have ii : (I, itR i j) ∈ (D, tupObj tv) :: all := .tail _ (hsub _ (.tail _ (.head _)))
  have e1 := tup_ne N (.head _) ic
  have e2 := tup_ne N (.head _) is
  have e3 := tup_ne_it N (.head _) ii
  refine append_K (hsz := hsz) F (news_sub (news := (cr, listOf vc.toArray nc) :: (D, tupObj tv) :: (I, itR i j) :: (st, listOf vt.toArray nt) :: (a1, listOf vb.toArray n1) :: (a2, listOf vw.toArray n2) :: tl) N ?_) (Upd.head ?_) fun h' F' N' => h h' F' (news_sub N' ?_) e1 e2 e3
  · intro p hp
    rcases List.mem_cons.mp hp with rfl | hp
    · exact ic
    rcases List.mem_cons.mp hp with rfl | hp
    · exact .head _
    exact .tail _ (hsub _ (.tail _ hp))
  · intro p hp
    simp only [List.mem_cons] at hp
    rcases hp with rfl | rfl | rfl | rfl | rfl | hp
    · exact e1.symm
    · exact oI.symm
    · exact d1.symm
    · exact d2.symm
    · exact d3.symm
    · exact oc p hp
  · have : (vc.toArray.push (Value.ref D)) = (vc ++ [Value.ref D]).toArray := by simp
    rw [this]
    exact (by (repeat (refine List.forall_mem_cons.mpr ⟨(by repeat (first | exact List.Mem.head _ | refine List.Mem.tail _ ?_)), ?_⟩)); exact fun p h => (by repeat (first | exact h | refine List.Mem.tail _ ?_)))
theorem off_st {st cr D I a1 a2 : Addr} {o1 o2 o3 o4 o5 : Obj} {tl : List (Addr × Obj)} (d1 : cr ≠ st) (d4 : st ≠ a1) (d5 : st ≠ a2) (c2 : st ≠ D) (hI : st ≠ I) (ot : Off st tl) : Off st ((cr, o1) :: (D, o2) :: (I, o3) :: (a1, o4) :: (a2, o5) :: tl) := by
  intro p hp
  simp only [List.mem_cons] at hp
  rcases hp with rfl | rfl | rfl | rfl | rfl | hp
  · exact d1
  · exact c2.symm
  · exact hI.symm
  · exact d4.symm
  · exact d5.symm
  · exact ot p hp
theorem off_cons {a : Addr} {p : Addr × Obj} {l : List (Addr × Obj)} (h : p.1 ≠ a) (hl : Off a l) : Off a (p :: l) := by
  intro q hq
  rcases List.mem_cons.mp hq with rfl | hq
  · exact h
  · exact hl q hq
theorem cr_start {g h : Heap} {L D cr st c9 a1 a2 a3 x : Addr} {o o' o3 : Obj} {vb vw : List Value} {n1 n2 : Nat} {t0 t1 t2 : Tok} {C : Prop}
  (N : News g L h [(D, o), (cr, listOf #[] 0), (st, listOf #[.int 0 t0, .int 1 t1, .int 2 t2] 0), (c9, o'), (a1, listOf vb.toArray n1), (a2, listOf vw.toArray n2), (a3, o3)])
  (F : Fr g L h (fun y => if y = Str.ofString "seats" then some (.ref st) else if y = Str.ofString "crossings" then some (.ref cr) else if y = Str.ofString "due" then some (.ref a3) else if y = Str.ofString "written" then some (.ref a2) else if y = Str.ofString "bare" then some (.ref a1) else List.lookup y [(Str.ofString "cells", Value.ref x)].reverse))
  (l1 : c9 < st ∧ a1 < st ∧ a2 < st ∧ a3 < st) (l2 : st < cr ∧ c9 < cr ∧ a1 < cr ∧ a2 < cr ∧ a3 < cr)
  (k : ∀ cr st a1 a2 m, News g L h [(cr, listOf ([] : List Value).toArray 0), (st, listOf [Value.int 0 t0, .int 1 t1, .int 2 t2].toArray 0), (a1, listOf vb.toArray n1), (a2, listOf vw.toArray n2)] → Fr g L h m → cr ≠ st → cr ≠ a1 → cr ≠ a2 → st ≠ a1 → st ≠ a2 →
    (∀ I, (∀ p ∈ [(cr, listOf ([] : List Value).toArray 0), (st, listOf [Value.int 0 t0, .int 1 t1, .int 2 t2].toArray 0), (a1, listOf vb.toArray n1), (a2, listOf vw.toArray n2)], p.1 < I) → CrJ I x a1 a2 cr st vb vw n1 n2 0 m [(cr, listOf ([] : List Value).toArray 0), (st, listOf [Value.int 0 t0, .int 1 t1, .int 2 t2].toArray 0), (a1, listOf vb.toArray n1), (a2, listOf vw.toArray n2)]) → C) : C := by
  have ne : ∀ {a b : Addr}, @LT.lt Nat _ a b → b ≠ a := fun h e => by subst e; exact Nat.lt_irrefl _ h
  refine k cr st a1 a2 _ (news_sub N fun p hp => ?_) F (ne l2.1) (ne l2.2.2.1) (ne l2.2.2.2.1) (ne l1.2.1) (ne l1.2.2.1) fun I hI => ⟨[], 0, [Value.int 0 t0, .int 1 t1, .int 2 t2], 0, [], [], rfl, (fun _ h => nomatch h), (fun _ h => nomatch h), (fun p hp e => ?_), .nil, .cons _ _ (.cons _ _ (.cons _ _ .nil)), rfl, (fun _ h => nomatch h), rfl, rfl, rfl, rfl, rfl⟩
  · simp only [List.mem_cons, List.not_mem_nil, or_false] at hp ⊢
    rcases hp with rfl | rfl | rfl | rfl <;> simp
  · have := hI p hp; rw [e] at this; exact Nat.lt_irrefl _ this
theorem end_cut {g h' : Heap} {L : Addr} {s₁ : Shared} {tk : Nat} {m : Str → Option Value} {I x a1 a2 cr st D : Addr} {it : Obj} {vb vw vc vt : List Value} {n1 n2 nc nt i : Nat} {p : Int} {tp : Tok} {b : Bool} {xs : List (Int × Bool)} {tl : List (Addr × Obj)}
  (F : Fr g L h' m) (N : News g L h' ((st, listOf vt.toArray nt) :: (cr, listOf (vc ++ [Value.ref D]).toArray nc) :: (D, tupObj [.int p tp, .bool b]) :: (I, it) :: (a1, listOf vb.toArray n1) :: (a2, listOf vw.toArray n2) :: tl))
  (hx : CrossAre tl vc xs) (ii : IntsAre vt (swap p (seatsOf xs))) (hlx : xs.length = i) (hpl : PlOk xs) (pp : p = 0 ∨ p = 1) (c1 : cr ≠ D) (c2 : st ≠ D) (c3 : D ≠ I) (oc : Off cr tl) (ot : Off st tl)
  (hI1 : cr ≠ I) (hI2 : st ≠ I) (hI3 : a1 ≠ I) (hI4 : a2 ≠ I) (hI5 : Off I tl)
  (e1 : m (Str.ofString "cells") = some (.ref x)) (e2 : m (Str.ofString "bare") = some (.ref a1)) (e3 : m (Str.ofString "written") = some (.ref a2)) (e4 : m (Str.ofString "crossings") = some (.ref cr)) (e5 : m (Str.ofString "seats") = some (.ref st)) :
  UnrEnd g L s₁ I it (CrJ I x a1 a2 cr st vb vw n1 n2 (i + 1)) { s₁ with heap := h', toks := tk } := by
  have off : Off I ((cr, listOf (vc ++ [Value.ref D]).toArray nc) :: (st, listOf vt.toArray nt) :: (a1, listOf vb.toArray n1) :: (a2, listOf vw.toArray n2) :: (D, tupObj [.int p tp, .bool b]) :: tl) := off_cons hI1 (off_cons hI2 (off_cons hI3 (off_cons hI4 (off_cons c3 hI5))))
  refine UnrEnd.intro F N ((cr, listOf (vc ++ [Value.ref D]).toArray nc) :: (st, listOf vt.toArray nt) :: (a1, listOf vb.toArray n1) :: (a2, listOf vw.toArray n2) :: (D, tupObj [.int p tp, .bool b]) :: tl) ?_ off ⟨vc ++ [Value.ref D], nc, vt, nt, xs ++ [(p, b)], (D, tupObj [.int p tp, .bool b]) :: tl, rfl, off_cons (Ne.symm c1) oc, off_cons (Ne.symm c2) ot, off, CrossAre.snoc (hx.mono fun p hp => .tail _ hp) (.head _), ?_, by simp [hlx], ?_, e1, e2, e3, e4, e5⟩
  · exact (by (repeat (refine List.forall_mem_cons.mpr ⟨(by repeat (first | exact List.Mem.head _ | refine List.Mem.tail _ ?_)), ?_⟩)); exact fun p h => (by repeat (first | exact h | refine List.Mem.tail _ ?_)))
  · rw [seatsOf_snoc]; exact ii
  · intro y hy
    rcases List.mem_append.mp hy with hy | hy
    · exact hpl y hy
    · rw [List.mem_singleton.mp hy]; exact pp
end Mine
set_option Elab.async false
set_option maxRecDepth 100000
set_option maxHeartbeats 4000000
set_option linter.unusedVariables false
namespace Mine
open Builtin.Int (intBits)
theorem filled_step (P : Params) : row.prog = row.prog ∧ hd.heap_1 P = hd.heap_1 P := by
  k_fill
  exact ⟨rfl, rfl⟩
/-- one crossing, upon a row -/
noncomputable def stepA (place : Int) (over : Bool) (X x y : Int) : Int := if place = 0 then (if over then -(x * X) else -x) else (if over then x + y * X else (x + y) * X)
noncomputable def stepB (place : Int) (over : Bool) (X x y : Int) : Int := if place = 0 then (if over then x + y else x + y * X) else (if over then -(y * X) else -y)
section
variable {w : World} {pr : Program} {p : Program} {loose : List Str} {mean : ExcName → Option Value} {mg mb : Str → Option Value}
  {dp un : Nat} {gd : Option (List Code)} {cn : Str} {cs : Scope} {a : Addr} {ccd : Value} {cl : List (Str × Addr)} {outer : List Env} {A₀ : Around} {base h₀ : Heap} {L : Addr} {m : Str → Option Value} {s : Shared} {Q E : Value → Shared → Prop} {news : List (Addr × Obj)}

local macro_rules | `(tactic| tb_start) => `(tactic| first | with_reducible assumption | exact intBits_add_le (by tb_start) (by tb_start) | exact intBits_sub_le (by tb_start) (by tb_start))

theorem c_step {r : Addr} {x y z e : Int} {t1 t2 tx ty : Tok} {over : Bool} {nr k : Nat}
  (B : Below A₀ base outer h₀) (F : Fr h₀ L s.heap m) (X : (Mine.hd.heap_1 w.params).In h₀) (N : News h₀ L s.heap news) (T : Top p loose mean mg mb h₀) (hcs : cs.kind = .function)
  (hd : dp + 5 < recursionLimit) (hu : un + 60 < cLine) (hr : (r, listOf [Value.int x tx, Value.int y ty].toArray nr) ∈ news) (hx : intBits x ≤ k) (hy : intBits y ≤ k) (he : 0 ≤ e) (he2 : e ≤ 1000) (hk : k ≤ 10000)
  (hret : ∀ (t t' : Tok) (c : Addr) (h' : Heap) (tk' : Nat), Fr h₀ L h' m → News h₀ L h' ((c, listOf [Value.int (stepA z over (2 ^ e.toNat) x y) t, Value.int (stepB z over (2 ^ e.toNat) x y) t'].toArray 0) :: news) → (∀ q ∈ news, q.1 < c) → Q (.ref c) { s with heap := h', toks := tk' }) :
  wpAny (model pr w) (ktrTop dp un gd cn cs L a ccd cl outer) (call (.ref 222) [.ref r, .int z t1, .bool over, .int e t2]) Q E s := by
  refine' enter [(Str.ofString "row", .ref r), (Str.ofString "place", .int z t1), (Str.ofString "over", .bool over), (Str.ofString "w", .int e t2)] B F X N T hcs (by omega) ?k6 ?k7 (BindsTo.of_eq ?k9) (locs ?kB) ?c2 ?c3 ?c4 ?c5 ?_
  case k6 => k_is
  case k7 => k_is
  case k9 => exact rfl
  case kB => exact rfl
  case c2 => exact rfl
  case c3 => exact rfl
  case c4 => exact rfl
  case c5 => decide
  intro g' L' h' FG' F' N' B' X' T'
  clear B F X N T
  have hret' : ∀ (A' B' : Int) (t t' : Tok) (c : Addr) (h' : Heap) (tk' : Nat), A' = stepA z over (2 ^ e.toNat) x y → B' = stepB z over (2 ^ e.toNat) x y → Fr h₀ L h' m → News h₀ L h' ((c, listOf [Value.int A' t, Value.int B' t'].toArray 0) :: news) → (∀ q ∈ news, q.1 < c) → Q (.ref c) { s with heap := h', toks := tk' } := by
    intro A' B' t t' c h' tk' e1 e2
    rw [e1, e2]
    exact hret t t' c h' tk'
  (try dsimp only); (try k_lift B'); (try k_fold)
  (repeat' (first | (k_unfold; (try dsimp only)) | (k_end; kc_close) | ((with_reducible show wpAny _ _ (call (Value.ref ..) _) _ _ _); k_dflt ((first | refine c_add (by k_asm) (by k_asm) (by k_asm) (by k_asm) (by k_asm) (by first | assumption | exact rfl) (by (first | exact room_up (by with_reducible assumption) (by decide) | ktr_room)) (by (first | exact unit_up (by with_reducible assumption) (by decide) | ktr_units)) ?_ | refine c_neg (y := 0) (t2 := 0) (by k_asm) (by k_asm) (by k_asm) (by k_asm) (by k_asm) (by first | assumption | exact rfl) (by (first | exact room_up (by with_reducible assumption) (by decide) | ktr_room)) (by (first | exact unit_up (by with_reducible assumption) (by decide) | ktr_units)) ?_ | (refine c_lshift (by k_asm) (by k_asm) (by k_asm) (by k_asm) (by k_asm) (by first | assumption | exact rfl) (by (first | exact room_up (by with_reducible assumption) (by decide) | ktr_room)) (by (first | exact unit_up (by with_reducible assumption) (by decide) | ktr_units)) (by tb_start) (by with_reducible assumption) (by omega) ?_)); intro t9_z h9_z tk9_z F9_z N9_z; try dsimp only)) | ((with_reducible show LeaveK ..); first | (with_reducible ((refine leaveK_ (by k_asm) (by k_asm) ?_; intro kF_z kN_z; try dsimp only))) | ((refine leaveK_ (by k_asm) (by k_asm) ?_; intro kF_z kN_z; try dsimp only))) | walk1 | (dsimp only; walk1) | (leave1; (try dsimp only)) | fail "no step"))
  all_goals (
    rename News h₀ _ _ _ => NN
    refine hret' _ _ _ _ _ _ _ ?_ ?_ (by assumption) NN (by assumption) <;> simp [stepA, stepB, *])

local macro_rules | `(tactic| tb_start) => `(tactic| exact intBits_neg_le (by with_reducible assumption))
theorem c_plain {r : Addr} {x y z e : Int} {t1 t2 tx ty : Tok} {over : Bool} {nr k : Nat}
  (B : Below A₀ base outer h₀) (F : Fr h₀ L s.heap m) (X : (Mine.hd.heap_1 w.params).In h₀) (N : News h₀ L s.heap news) (T : Top p loose mean mg mb h₀) (hcs : cs.kind = .function)
  (hd : dp + 5 < recursionLimit) (hu : un + 60 < cLine) (hr : (r, listOf [Value.int x tx, Value.int y ty].toArray nr) ∈ news) (hx : intBits x ≤ k) (hy : intBits y ≤ k) (he : intBits e ≤ 1000) (hk : k ≤ 10000)
  (hret : ∀ (t t' : Tok) (c : Addr) (h' : Heap) (tk' : Nat), Fr h₀ L h' m → News h₀ L h' ((c, listOf [Value.int (stepA z over e x y) t, Value.int (stepB z over e x y) t'].toArray 0) :: news) → (∀ q ∈ news, q.1 < c) → Q (.ref c) { s with heap := h', toks := tk' }) :
  wpAny (model pr w) (ktrTop dp un gd cn cs L a ccd cl outer) (call (.ref 229) [.ref r, .int z t1, .bool over, .int e t2]) Q E s := by
  refine' enter [(Str.ofString "row", .ref r), (Str.ofString "place", .int z t1), (Str.ofString "over", .bool over), (Str.ofString "t", .int e t2)] B F X N T hcs (by omega) ?k6 ?k7 (BindsTo.of_eq ?k9) (locs ?kB) ?c2 ?c3 ?c4 ?c5 ?_
  case k6 => k_is
  case k7 => k_is
  case k9 => exact rfl
  case kB => exact rfl
  case c2 => exact rfl
  case c3 => exact rfl
  case c4 => exact rfl
  case c5 => decide
  intro g' L' h' FG' F' N' B' X' T'
  clear B F X N T
  have hret' : ∀ (A' B' : Int) (t t' : Tok) (c : Addr) (h' : Heap) (tk' : Nat), A' = stepA z over e x y → B' = stepB z over e x y → Fr h₀ L h' m → News h₀ L h' ((c, listOf [Value.int A' t, Value.int B' t'].toArray 0) :: news) → (∀ q ∈ news, q.1 < c) → Q (.ref c) { s with heap := h', toks := tk' } := by
    intro A' B' t t' c h' tk' e1 e2
    rw [e1, e2]
    exact hret t t' c h' tk'
  (try dsimp only); (try k_lift B'); (try k_fold)
  (repeat' (first | (k_unfold; (try dsimp only)) | (k_end; kc_close) | ((with_reducible show wpAny _ _ (binaryOp Operator.Mult (Value.int ..) (Value.int ..)) _ _ _); k_dflt (refine mul_b (by tb_start) (by tb_start) (by omega) ?_; try dsimp only)) | ((with_reducible show wpAny _ _ (call (Value.ref ..) _) _ _ _); k_dflt ((first | refine c_add (by k_asm) (by k_asm) (by k_asm) (by k_asm) (by k_asm) (by first | assumption | exact rfl) (by (first | exact room_up (by with_reducible assumption) (by decide) | ktr_room)) (by (first | exact unit_up (by with_reducible assumption) (by decide) | ktr_units)) ?_ | refine c_neg (y := 0) (t2 := 0) (by k_asm) (by k_asm) (by k_asm) (by k_asm) (by k_asm) (by first | assumption | exact rfl) (by (first | exact room_up (by with_reducible assumption) (by decide) | ktr_room)) (by (first | exact unit_up (by with_reducible assumption) (by decide) | ktr_units)) ?_ | (refine c_lshift (by k_asm) (by k_asm) (by k_asm) (by k_asm) (by k_asm) (by first | assumption | exact rfl) (by (first | exact room_up (by with_reducible assumption) (by decide) | ktr_room)) (by (first | exact unit_up (by with_reducible assumption) (by decide) | ktr_units)) (by tb_start) (by with_reducible assumption) (by omega) ?_)); intro t9_z h9_z tk9_z F9_z N9_z; try dsimp only)) | ((with_reducible show LeaveK ..); first | (with_reducible ((refine leaveK_ (by k_asm) (by k_asm) ?_; intro kF_z kN_z; try dsimp only))) | ((refine leaveK_ (by k_asm) (by k_asm) ?_; intro kF_z kN_z; try dsimp only))) | walk1 | (dsimp only; walk1) | (leave1; (try dsimp only)) | fail "no step"))
  all_goals (
    rename News h₀ _ _ _ => NN
    refine hret' _ _ _ _ _ _ _ ?_ ?_ (by assumption) NN (by assumption) <;> (simp [stepA, stepB, *]; try grind))
end
end Mine
set_option Elab.async false
set_option maxRecDepth 100000
set_option maxHeartbeats 4000000
set_option linter.unusedVariables false
namespace Mine
structure S6 where
  A : Int
  B : Int
  C : Int
  D : Int
  l : Int
  m : Int
noncomputable def stp (X Y : Int) (c : Int × Bool) (s : S6) : S6 :=
  if c.1 = 0 then
    (if c.2 then ⟨Y * s.A, s.l + (X*X + X*Y + Y*Y) * s.A - X * s.B, Y * s.C, s.C - X * s.D, Y * s.l, -(X * s.m)⟩
     else ⟨X * s.A, s.l + (X*X + X*Y + Y*Y) * s.A - Y * s.B, X * s.C, s.C - Y * s.D, X * s.l, -(Y * s.m)⟩)
  else
    (if c.2 then ⟨Y * s.A - s.B, -(X * s.B), Y * s.C - s.m - (X*X + X*Y + Y*Y) * s.D, -(X * s.D), Y * s.l, -(X * s.m)⟩
     else ⟨X * s.A - s.B, -(Y * s.B), X * s.C - s.m - (X*X + X*Y + Y*Y) * s.D, -(Y * s.D), X * s.l, -(Y * s.m)⟩)
noncomputable def st (X Y : Int) : List (Int × Bool) → S6
  | [] => ⟨0, 0, 0, 0, 1, 1⟩
  | c :: ys => stp X Y c (st X Y ys)
noncomputable def rowStep (X : Int) (c : Int × Bool) (r : Int × Int) : Int × Int := (stepA c.1 c.2 X r.1 r.2, stepB c.1 c.2 X r.1 r.2)
noncomputable def rowR (X : Int) (r0 : Int × Int) : List (Int × Bool) → Int × Int
  | [] => r0
  | c :: ys => rowStep X c (rowR X r0 ys)
noncomputable def rowF (X : Int) (r0 : Int × Int) (xs : List (Int × Bool)) : Int × Int := xs.foldl (fun r c => rowStep X c r) r0
theorem rowF_eq (X : Int) (r0 : Int × Int) (xs : List (Int × Bool)) : rowF X r0 xs = rowR X r0 xs.reverse := by
  have h : ∀ ys, rowR X r0 ys = ys.foldr (fun c r => rowStep X c r) r0 := by
    intro ys; induction ys with
    | nil => rfl
    | cons c r ih => simp [rowR, ih]
  rw [h, List.foldr_reverse]; rfl
theorem plOk_tail {c : Int × Bool} {ys : List (Int × Bool)} (h : PlOk (c :: ys)) : PlOk ys := fun x hx => h x (.tail _ hx)
theorem plOk_rev {xs : List (Int × Bool)} (h : PlOk xs) : PlOk xs.reverse := fun x hx => h x (List.mem_reverse.mp hx)
/-- a crossing is one of four -/
theorem four {c : Int × Bool} (h : c.1 = 0 ∨ c.1 = 1) : c = (0, true) ∨ c = (0, false) ∨ c = (1, true) ∨ c = (1, false) := by
  obtain ⟨a, b⟩ := c
  rcases h with h | h <;> cases b <;> simp_all
theorem row0_st (X : Int) : ∀ ys, PlOk ys → rowR X (1, 0) ys = ((st X 1 ys).l + (X*X + X + 1) * (st X 1 ys).A - (1 + X) * (st X 1 ys).B, (st X 1 ys).B) := by
  intro ys
  induction ys with
  | nil => intro _; simp [rowR, st]
  | cons c r ih =>
    intro hp
    rw [rowR, ih (plOk_tail hp), st]
    rcases four (hp c (.head _)) with rfl | rfl | rfl | rfl <;> simp [rowStep, stepA, stepB, stp] <;> (try constructor) <;> grind
theorem row1_st (X : Int) : ∀ ys, PlOk ys → rowR X (0, 1) ys = ((1 + X) * ((st X 1 ys).l + (X*X + X + 1) * (st X 1 ys).A - (1 + X) * (st X 1 ys).B) + ((X*X + X + 1) * (st X 1 ys).C - (1 + X) * ((st X 1 ys).m + (X*X + X + 1) * (st X 1 ys).D)), (1 + X) * (st X 1 ys).B + ((st X 1 ys).m + (X*X + X + 1) * (st X 1 ys).D)) := by
  intro ys
  induction ys with
  | nil => intro _; simp [rowR, st]; omega
  | cons c r ih =>
    intro hp
    rw [rowR, ih (plOk_tail hp), st]
    rcases four (hp c (.head _)) with rfl | rfl | rfl | rfl <;> simp [rowStep, stepA, stepB, stp] <;> (try constructor) <;> grind
/-- how many have the left one over; the right one -/
noncomputable def ov : List (Int × Bool) → Nat
  | [] => 0
  | c :: ys => (if c.2 then 1 else 0) + ov ys
noncomputable def un : List (Int × Bool) → Nat
  | [] => 0
  | c :: ys => (if c.2 then 0 else 1) + un ys
theorem ov_un (ys : List (Int × Bool)) : ov ys + un ys = ys.length := by
  induction ys with
  | nil => rfl
  | cons c r ih => cases h : c.2 <;> simp [ov, un, h] <;> omega
theorem l_eq (X Y : Int) (ys : List (Int × Bool)) : (st X Y ys).l = X ^ un ys * Y ^ ov ys := by
  induction ys with
  | nil => simp [st, ov, un]
  | cons c r ih =>
    obtain ⟨a, b⟩ := c
    by_cases ha : a = 0 <;> cases b <;> simp [st, stp, ha, ov, un, ih, Nat.add_comm 1, Int.pow_succ] <;> grind
theorem m_eq (X Y : Int) (ys : List (Int × Bool)) : (st X Y ys).m = (-1) ^ ys.length * (X ^ ov ys * Y ^ un ys) := by
  induction ys with
  | nil => simp [st, ov, un]
  | cons c r ih =>
    obtain ⟨a, b⟩ := c
    by_cases ha : a = 0 <;> cases b <;> simp [st, stp, ha, ov, un, ih, Nat.add_comm 1, Int.pow_succ] <;> grind
/-- the quotient -/
noncomputable def q (X Y : Int) (ys : List (Int × Bool)) : Int := -((st X Y ys).A + (st X Y ys).D)
theorem q_tr (X : Int) (ys : List (Int × Bool)) (hp : PlOk ys) : q X 1 ys * (1 + X + X * X) = X ^ un ys - ((rowR X (1, 0) ys).1 + (rowR X (0, 1) ys).2) + (-1) ^ ys.length * X ^ ov ys := by
  have h1 := l_eq X 1 ys
  have h2 := m_eq X 1 ys
  rw [Int.one_pow, Int.mul_one] at h1 h2
  rw [row0_st X ys hp, row1_st X ys hp, ← h1, ← h2]
  unfold q
  grind
/-- forms in two letters by their numbers, the lowest first -/
noncomputable def evalH : List Int → Int → Int → Int
  | [], _, _ => 0
  | c :: l, X, Y => c * Y ^ l.length + X * evalH l X Y
noncomputable def n1 : List Int → Nat
  | [] => 0
  | c :: l => c.natAbs + n1 l
theorem evalH_snoc (l : List Int) (c X Y : Int) : evalH (l ++ [c]) X Y = Y * evalH l X Y + c * X ^ l.length := by
  induction l with
  | nil => simp [evalH]
  | cons d r ih => simp [evalH, ih, Int.pow_succ]; grind
theorem evalH_rev (l : List Int) (X Y : Int) : evalH l.reverse X Y = evalH l Y X := by
  induction l with
  | nil => rfl
  | cons d r ih => simp [evalH, evalH_snoc, ih]; grind
theorem evalH_add (X Y : Int) : ∀ l l' : List Int, l.length = l'.length → evalH (List.zipWith (· + ·) l l') X Y = evalH l X Y + evalH l' X Y
  | [], [], _ => rfl
  | a :: l, b :: l', h => by
    have h' : l.length = l'.length := by simpa using h
    have e : (List.zipWith (· + ·) l l').length = l.length := by simp [h']
    simp only [List.zipWith_cons_cons, evalH, e, evalH_add X Y l l' h', ← h']; grind
  | [], _ :: _, h => by simp at h
  | _ :: _, [], h => by simp at h
theorem evalH_map (k X Y : Int) (l : List Int) : evalH (l.map (· * k)) X Y = k * evalH l X Y := by
  induction l with
  | nil => simp [evalH]
  | cons c r ih => simp only [List.map_cons, evalH, List.length_map, ih]; grind
theorem evalH_zero (d : Nat) (X Y : Int) : evalH (List.replicate d 0) X Y = 0 := by
  induction d with
  | zero => rfl
  | succ d ih => simp [List.replicate_succ, evalH, ih]
theorem n1_add : ∀ l l' : List Int, n1 (List.zipWith (· + ·) l l') ≤ n1 l + n1 l'
  | [], l' => by simp [n1]
  | a :: l, [] => by simp [n1]
  | a :: l, b :: l' => by
    have := n1_add l l'
    simp only [List.zipWith_cons_cons, n1]; omega
theorem n1_snoc (l : List Int) (c : Int) : n1 (l ++ [c]) = n1 l + c.natAbs := by
  induction l with
  | nil => simp [n1]
  | cons d r ih => simp [n1, ih]; omega
theorem n1_zero (d : Nat) : n1 (List.replicate d 0) = 0 := by
  induction d with
  | zero => rfl
  | succ d ih => simp [List.replicate_succ, n1, ih]
theorem n1_neg (l : List Int) : n1 (l.map (· * (-1))) = n1 l := by
  induction l with
  | nil => rfl
  | cons c r ih => simp only [List.map_cons, n1, ih]; omega
theorem n1_mem {l : List Int} {c : Int} (h : c ∈ l) : c.natAbs ≤ n1 l := by
  induction l with
  | nil => cases h
  | cons d r ih =>
    rcases List.mem_cons.mp h with rfl | h
    · simp [n1]
    · have := ih h; simp [n1]; omega
noncomputable def Poly (d N : Nat) (f : Int → Int → Int) : Prop := ∃ l : List Int, l.length = d ∧ n1 l ≤ N ∧ ∀ X Y, f X Y = evalH l X Y
theorem Poly.zero (d : Nat) : Poly d 0 fun _ _ => 0 := ⟨List.replicate d 0, by simp, by simp [n1_zero], fun X Y => (evalH_zero d X Y).symm⟩
theorem Poly.add {d N M : Nat} {f g : Int → Int → Int} (hf : Poly d N f) (hg : Poly d M g) : Poly d (N + M) fun X Y => f X Y + g X Y := by
  obtain ⟨l, l1, l2, l3⟩ := hf
  obtain ⟨k, k1, k2, k3⟩ := hg
  exact ⟨List.zipWith (· + ·) l k, by simp [l1, k1], Nat.le_trans (n1_add l k) (by omega), fun X Y => by rw [evalH_add X Y l k (by omega), ← l3, ← k3]⟩
theorem Poly.neg {d N : Nat} {f : Int → Int → Int} (hf : Poly d N f) : Poly d N fun X Y => -(f X Y) := by
  obtain ⟨l, l1, l2, l3⟩ := hf
  exact ⟨l.map (· * (-1)), by simp [l1], by rw [n1_neg]; exact l2, fun X Y => by rw [evalH_map, ← l3]; show -(f X Y) = -1 * f X Y; omega⟩
theorem Poly.sub {d N M : Nat} {f g : Int → Int → Int} (hf : Poly d N f) (hg : Poly d M g) : Poly d (N + M) fun X Y => f X Y - g X Y := by
  have h := hf.add hg.neg
  simpa only [Int.sub_eq_add_neg] using h
theorem Poly.mulX {d N : Nat} {f : Int → Int → Int} (hf : Poly d N f) : Poly (d + 1) N fun X Y => X * f X Y := by
  obtain ⟨l, l1, l2, l3⟩ := hf
  exact ⟨0 :: l, by simp [l1], by simpa [n1] using l2, fun X Y => by simp [evalH, l3]⟩
theorem Poly.mulY {d N : Nat} {f : Int → Int → Int} (hf : Poly d N f) : Poly (d + 1) N fun X Y => Y * f X Y := by
  obtain ⟨l, l1, l2, l3⟩ := hf
  exact ⟨l ++ [0], by simp [l1], by simpa [n1_snoc] using l2, fun X Y => by simp [evalH_snoc, l3]⟩
theorem Poly.congr {d N : Nat} {f g : Int → Int → Int} (hf : Poly d N f) (h : ∀ X Y, g X Y = f X Y) : Poly d N g := by
  obtain ⟨l, l1, l2, l3⟩ := hf
  exact ⟨l, l1, l2, fun X Y => by rw [h, l3]⟩
theorem Poly.phi {d N : Nat} {f : Int → Int → Int} (hf : Poly d N f) : Poly (d + 2) (3 * N) fun X Y => (X*X + X*Y + Y*Y) * f X Y := by
  have h := ((hf.mulX.mulX).add (hf.mulY.mulX)).add hf.mulY.mulY
  obtain ⟨l, l1, l2, l3⟩ := h
  exact ⟨l, l1, by omega, fun X Y => by rw [← l3]; grind⟩
theorem Poly.up {d N M : Nat} {f : Int → Int → Int} (hf : Poly d N f) (h : N ≤ M) : Poly d M f := by
  obtain ⟨l, l1, l2, l3⟩ := hf
  exact ⟨l, l1, by omega, l3⟩
noncomputable def al : Nat → Nat × Nat
  | 0 => (0, 1)
  | n + 1 => ((al n).1 + (al n).2, 1 + 3 * (al n).1 + (al n).2)
theorem st_poly : ∀ (ys : List (Int × Bool)) (c : Int × Bool), PlOk (c :: ys) → Poly ys.length (al ys.length).1 (fun X Y => (st X Y (c :: ys)).A) ∧ Poly (ys.length + 1) (al ys.length).2 (fun X Y => (st X Y (c :: ys)).B) ∧
    Poly (ys.length + 1) (al ys.length).2 (fun X Y => (st X Y (c :: ys)).C) ∧ Poly ys.length (al ys.length).1 (fun X Y => (st X Y (c :: ys)).D) ∧
    Poly (ys.length + 2) 1 (fun X Y => (st X Y (c :: ys)).l) ∧ Poly (ys.length + 2) 1 (fun X Y => (st X Y (c :: ys)).m) := by
  intro ys
  induction ys with
  | nil =>
    intro c hp
    rcases four (hp c (.head _)) with rfl | rfl | rfl | rfl
    · exact ⟨(Poly.zero 0).congr fun X Y => by simp [st, stp], ⟨[1], rfl, by decide, fun X Y => by simp [st, stp, evalH]⟩, ⟨[0], rfl, by decide, fun X Y => by simp [st, stp, evalH]⟩, (Poly.zero 0).congr fun X Y => by simp [st, stp], ⟨[1, 0], rfl, by decide, fun X Y => by simp [st, stp, evalH, Int.pow_succ]⟩, ⟨[0, -1], rfl, by decide, fun X Y => by simp [st, stp, evalH]⟩⟩
    · exact ⟨(Poly.zero 0).congr fun X Y => by simp [st, stp], ⟨[1], rfl, by decide, fun X Y => by simp [st, stp, evalH]⟩, ⟨[0], rfl, by decide, fun X Y => by simp [st, stp, evalH]⟩, (Poly.zero 0).congr fun X Y => by simp [st, stp], ⟨[0, 1], rfl, by decide, fun X Y => by simp [st, stp, evalH]⟩, ⟨[-1, 0], rfl, by decide, fun X Y => by simp [st, stp, evalH, Int.pow_succ]⟩⟩
    · exact ⟨(Poly.zero 0).congr fun X Y => by simp [st, stp], ⟨[0], rfl, by decide, fun X Y => by simp [st, stp, evalH]⟩, ⟨[-1], rfl, by decide, fun X Y => by simp [st, stp, evalH]⟩, (Poly.zero 0).congr fun X Y => by simp [st, stp], ⟨[1, 0], rfl, by decide, fun X Y => by simp [st, stp, evalH, Int.pow_succ]⟩, ⟨[0, -1], rfl, by decide, fun X Y => by simp [st, stp, evalH]⟩⟩
    · exact ⟨(Poly.zero 0).congr fun X Y => by simp [st, stp], ⟨[0], rfl, by decide, fun X Y => by simp [st, stp, evalH]⟩, ⟨[-1], rfl, by decide, fun X Y => by simp [st, stp, evalH]⟩, (Poly.zero 0).congr fun X Y => by simp [st, stp], ⟨[0, 1], rfl, by decide, fun X Y => by simp [st, stp, evalH]⟩, ⟨[-1, 0], rfl, by decide, fun X Y => by simp [st, stp, evalH, Int.pow_succ]⟩⟩
  | cons d r ih =>
    intro c hp
    obtain ⟨hA, hB, hC, hD, hl, hm⟩ := ih d (plOk_tail hp)
    simp only [List.length_cons, al]
    have wA : ∀ {M : Nat}, (al r.length).1 ≤ M → Poly r.length M (fun X Y => (st X Y (d :: r)).A) := hA.up
    rcases four (hp c (.head _)) with rfl | rfl | rfl | rfl
    · exact ⟨(hA.mulY.up (by omega)).congr fun X Y => by simp [st, stp], ((hl.add hA.phi).sub hB.mulX).congr fun X Y => by simp [st, stp], (hC.mulY.up (by omega)).congr fun X Y => by simp [st, stp], ((hC.sub hD.mulX).up (by omega)).congr fun X Y => by simp [st, stp], hl.mulY.congr fun X Y => by simp [st, stp], hm.mulX.neg.congr fun X Y => by simp [st, stp]⟩
    · exact ⟨(hA.mulX.up (by omega)).congr fun X Y => by simp [st, stp], ((hl.add hA.phi).sub hB.mulY).congr fun X Y => by simp [st, stp], (hC.mulX.up (by omega)).congr fun X Y => by simp [st, stp], ((hC.sub hD.mulY).up (by omega)).congr fun X Y => by simp [st, stp], hl.mulX.congr fun X Y => by simp [st, stp], hm.mulY.neg.congr fun X Y => by simp [st, stp]⟩
    · exact ⟨((hA.mulY.sub hB).up (by omega)).congr fun X Y => by simp [st, stp], (hB.mulX.neg.up (by omega)).congr fun X Y => by simp [st, stp], (((hC.mulY.sub hm).sub hD.phi).up (by omega)).congr fun X Y => by simp [st, stp], (hD.mulX.neg.up (by omega)).congr fun X Y => by simp [st, stp], hl.mulY.congr fun X Y => by simp [st, stp], hm.mulX.neg.congr fun X Y => by simp [st, stp]⟩
    · exact ⟨((hA.mulX.sub hB).up (by omega)).congr fun X Y => by simp [st, stp], (hB.mulY.neg.up (by omega)).congr fun X Y => by simp [st, stp], (((hC.mulX.sub hm).sub hD.phi).up (by omega)).congr fun X Y => by simp [st, stp], (hD.mulY.neg.up (by omega)).congr fun X Y => by simp [st, stp], hl.mulX.congr fun X Y => by simp [st, stp], hm.mulY.neg.congr fun X Y => by simp [st, stp]⟩
theorem al_le : ∀ n, n ≤ 7 → (al n).1 ≤ 517 := by decide
/-- the quotient's numbers -/
theorem q_poly (ys : List (Int × Bool)) (hp : PlOk ys) (h1 : 1 ≤ ys.length) (h8 : ys.length ≤ 8) : ∃ l : List Int, l.length = ys.length - 1 ∧ (∀ c ∈ l, -1034 ≤ c ∧ c ≤ 1034) ∧ ∀ X Y, q X Y ys = evalH l X Y := by
  match ys, h1 with
  | c :: r, _ =>
    obtain ⟨hA, hB, hC, hD, hl, hm⟩ := st_poly r c hp
    have hr : r.length ≤ 7 := by simpa using h8
    obtain ⟨l, l1, l2, l3⟩ := (hA.add hD).neg
    have hb := al_le _ hr
    refine ⟨l, by simpa using l1, fun c hc => ?_, fun X Y => l3 X Y⟩
    have := n1_mem hc
    omega
end Mine
set_option Elab.async false
set_option maxRecDepth 100000
set_option maxHeartbeats 4000000
set_option linter.unusedVariables false
namespace Mine
/-- the same product from behind -/
structure M4 where
  a : Int
  b : Int
  c : Int
  d : Int
noncomputable def vst (X Y : Int) : List (Int × Bool) → M4
  | [] => ⟨1, 0, 0, 1⟩
  | c :: ys =>
    let v := vst X Y ys
    if c.1 = 0 then
      (if c.2 then ⟨Y * v.a + v.c, Y * v.b + v.d, -(X * v.c), -(X * v.d)⟩ else ⟨X * v.a + v.c, X * v.b + v.d, -(Y * v.c), -(Y * v.d)⟩)
    else
      (if c.2 then ⟨Y * v.a, Y * v.b, -((X*X + X*Y + Y*Y) * v.a) - X * v.c, -((X*X + X*Y + Y*Y) * v.b) - X * v.d⟩ else ⟨X * v.a, X * v.b, -((X*X + X*Y + Y*Y) * v.a) - Y * v.c, -((X*X + X*Y + Y*Y) * v.b) - Y * v.d⟩)
noncomputable def wst (X Y : Int) : List (Int × Bool) → M4
  | [] => ⟨1, 0, 0, 1⟩
  | c :: ys =>
    let v := wst X Y ys
    if c.1 = 0 then
      (if c.2 then ⟨Y * v.a, v.a - X * v.b, Y * v.c, v.c - X * v.d⟩ else ⟨X * v.a, v.a - Y * v.b, X * v.c, v.c - Y * v.d⟩)
    else
      (if c.2 then ⟨Y * v.a - (X*X + X*Y + Y*Y) * v.b, -(X * v.b), Y * v.c - (X*X + X*Y + Y*Y) * v.d, -(X * v.d)⟩ else ⟨X * v.a - (X*X + X*Y + Y*Y) * v.b, -(Y * v.b), X * v.c - (X*X + X*Y + Y*Y) * v.d, -(Y * v.d)⟩)
theorem wst_st (X Y : Int) : ∀ ys, PlOk ys → wst X Y ys = ⟨(st X Y ys).l + (X*X + X*Y + Y*Y) * (st X Y ys).A, (st X Y ys).B, (X*X + X*Y + Y*Y) * (st X Y ys).C, (st X Y ys).m + (X*X + X*Y + Y*Y) * (st X Y ys).D⟩ := by
  intro ys
  induction ys with
  | nil => intro _; simp [wst, st]
  | cons c r ih =>
    intro hp
    rw [wst, ih (plOk_tail hp), st]
    rcases four (hp c (.head _)) with rfl | rfl | rfl | rfl <;> simp [stp] <;> (try constructor) <;> (try constructor) <;> (try constructor) <;> grind
theorem ws_sv (X Y : Int) : ∀ ys, PlOk ys →
    (wst X Y ys).a * (X + Y) - (wst X Y ys).b * (X*X + X*Y + Y*Y) = (X + Y) * (vst X Y ys).a - (X*X + X*Y + Y*Y) * (vst X Y ys).b ∧
    -((wst X Y ys).a * (X*X + X*Y + Y*Y)) + (wst X Y ys).b * (X*X + X*Y + Y*Y) * (X + Y) = (X + Y) * (vst X Y ys).c - (X*X + X*Y + Y*Y) * (vst X Y ys).d ∧
    (wst X Y ys).c * (X + Y) - (wst X Y ys).d * (X*X + X*Y + Y*Y) = -((X*X + X*Y + Y*Y) * (vst X Y ys).a) + (X*X + X*Y + Y*Y) * (X + Y) * (vst X Y ys).b ∧
    -((wst X Y ys).c * (X*X + X*Y + Y*Y)) + (wst X Y ys).d * (X*X + X*Y + Y*Y) * (X + Y) = -((X*X + X*Y + Y*Y) * (vst X Y ys).c) + (X*X + X*Y + Y*Y) * (X + Y) * (vst X Y ys).d := by
  intro ys
  induction ys with
  | nil => intro _; simp [wst, vst]; try grind
  | cons c r ih =>
    intro hp
    obtain ⟨h1, h2, h3, h4⟩ := ih (plOk_tail hp)
    rw [wst, vst]
    generalize wst X Y r = W at *
    generalize vst X Y r = V at *
    obtain ⟨w0, w1, w2, w3⟩ := W
    obtain ⟨v0, v1, v2, v3⟩ := V
    simp only at h1 h2 h3 h4
    have hc := hp c (.head _)
    clear ih hp
    have lin : ∀ {a a' b b' : Int} (x y : Int), a = a' → b = b' → a * x + b * y = a' * x + b' * y := by
      intro a a' b b' x y e e'; rw [e, e']
    rcases four hc with rfl | rfl | rfl | rfl <;> simp only [if_true, if_false, Int.one_ne_zero, Bool.false_eq_true]
    · have k1 := lin Y 1 h1 h2
      have k2 := lin 0 (-X) h1 h2
      have k3 := lin Y 1 h3 h4
      have k4 := lin 0 (-X) h3 h4
      clear h1 h2 h3 h4 lin
      refine ⟨?_, ?_, ?_, ?_⟩
      · clear k2 k3 k4; grind
      · clear k1 k3 k4; grind
      · clear k1 k2 k4; grind
      · clear k1 k2 k3; grind
    · have k1 := lin X 1 h1 h2
      have k2 := lin 0 (-Y) h1 h2
      have k3 := lin X 1 h3 h4
      have k4 := lin 0 (-Y) h3 h4
      clear h1 h2 h3 h4 lin
      refine ⟨?_, ?_, ?_, ?_⟩
      · clear k2 k3 k4; grind
      · clear k1 k3 k4; grind
      · clear k1 k2 k4; grind
      · clear k1 k2 k3; grind
    · have k1 := lin Y 0 h1 h2
      have k2 := lin (-(X*X + X*Y + Y*Y)) (-X) h1 h2
      have k3 := lin Y 0 h3 h4
      have k4 := lin (-(X*X + X*Y + Y*Y)) (-X) h3 h4
      clear h1 h2 h3 h4 lin
      refine ⟨?_, ?_, ?_, ?_⟩
      · clear k2 k3 k4; grind
      · clear k1 k3 k4; grind
      · clear k1 k2 k4; grind
      · clear k1 k2 k3; grind
    · have k1 := lin X 0 h1 h2
      have k2 := lin (-(X*X + X*Y + Y*Y)) (-Y) h1 h2
      have k3 := lin X 0 h3 h4
      have k4 := lin (-(X*X + X*Y + Y*Y)) (-Y) h3 h4
      clear h1 h2 h3 h4 lin
      refine ⟨?_, ?_, ?_, ?_⟩
      · clear k2 k3 k4; grind
      · clear k1 k3 k4; grind
      · clear k1 k2 k4; grind
      · clear k1 k2 k3; grind
theorem flip (X Y : Int) : ∀ ys, PlOk ys → (wst Y X ys).a = (-1) ^ ys.length * (vst X Y ys).d ∧ (wst Y X ys).b = -((-1) ^ ys.length * (vst X Y ys).b) ∧ (wst Y X ys).c = -((-1) ^ ys.length * (vst X Y ys).c) ∧ (wst Y X ys).d = (-1) ^ ys.length * (vst X Y ys).a := by
  intro ys
  induction ys with
  | nil => intro _; simp [wst, vst]
  | cons c r ih =>
    intro hp
    obtain ⟨h1, h2, h3, h4⟩ := ih (plOk_tail hp)
    rw [wst, vst, List.length_cons, Int.pow_succ]
    generalize (-1 : Int) ^ r.length = e at *
    generalize wst Y X r = W at *
    generalize vst X Y r = V at *
    obtain ⟨w0, w1, w2, w3⟩ := W
    obtain ⟨v0, v1, v2, v3⟩ := V
    simp only at h1 h2 h3 h4
    subst h1 h2 h3 h4
    rcases four (hp c (.head _)) with rfl | rfl | rfl | rfl <;> simp only [if_true, if_false, Int.one_ne_zero, Bool.false_eq_true] <;> refine ⟨?_, ?_, ?_, ?_⟩ <;> grind
theorem tr_eq (X Y : Int) (hX : 0 < X) (hY : 0 < Y) (ys : List (Int × Bool)) (hp : PlOk ys) : (wst X Y ys).a + (wst X Y ys).d = (vst X Y ys).a + (vst X Y ys).d := by
  obtain ⟨h1, h2, h3, h4⟩ := ws_sv X Y ys hp
  have key : (X*X + X*Y + Y*Y) * (X * Y) * ((wst X Y ys).a + (wst X Y ys).d) = (X*X + X*Y + Y*Y) * (X * Y) * ((vst X Y ys).a + (vst X Y ys).d) := by
    generalize wst X Y ys = W at *
    generalize vst X Y ys = V at *
    obtain ⟨w0, w1, w2, w3⟩ := W
    obtain ⟨v0, v1, v2, v3⟩ := V
    simp only at h1 h2 h3 h4 ⊢
    have lin : ∀ {a a' b b' c c' d d' : Int} (x y z u : Int), a = a' → b = b' → c = c' → d = d' → a * x + b * y + c * z + d * u = a' * x + b' * y + c' * z + d' * u := by
      intro a a' b b' c c' d d' x y z u e1 e2 e3 e4; rw [e1, e2, e3, e4]
    have k := lin ((X*X + X*Y + Y*Y) * (X + Y)) (X*X + X*Y + Y*Y) (X*X + X*Y + Y*Y) (X + Y) h1 h2 h3 h4
    clear h1 h2 h3 h4 lin hp
    grind
  have h0 : (X*X + X*Y + Y*Y) * (X * Y) ≠ 0 := by
    have a1 := Int.mul_pos hX hX
    have a2 := Int.mul_pos hX hY
    have a3 := Int.mul_pos hY hY
    have := Int.mul_pos (show 0 < X*X + X*Y + Y*Y by omega) a2
    omega
  exact Int.eq_of_mul_eq_mul_left h0 key
theorem sq_one (n : Nat) : ((-1 : Int) ^ n) * (-1) ^ n = 1 := by
  rw [← Int.mul_pow]; simp [Int.one_pow]
/-- the quotient from behind -/
theorem q_flip (X Y : Int) (hX : 0 < X) (hY : 0 < Y) (ys : List (Int × Bool)) (hp : PlOk ys) : q Y X ys = (-1) ^ ys.length * q X Y ys := by
  obtain ⟨f1, _, _, f4⟩ := flip X Y ys hp
  have t := tr_eq X Y hX hY ys hp
  have w1 := wst_st X Y ys hp
  have w2 := wst_st Y X ys hp
  have l1 := l_eq X Y ys
  have l2 := l_eq Y X ys
  have m1 := m_eq X Y ys
  have m2 := m_eq Y X ys
  have e := sq_one ys.length
  rw [w2] at f1 f4
  rw [w1] at t
  simp only at f1 f4 t
  have h0 : (X*X + X*Y + Y*Y) ≠ 0 := by
    have a1 := Int.mul_pos hX hX
    have a2 := Int.mul_pos hX hY
    have a3 := Int.mul_pos hY hY
    omega
  refine Int.eq_of_mul_eq_mul_left h0 ?_
  unfold q
  generalize (-1 : Int) ^ ys.length = s at *
  generalize X ^ ov ys = x1 at *
  generalize X ^ un ys = x2 at *
  generalize Y ^ ov ys = y1 at *
  generalize Y ^ un ys = y2 at *
  generalize (st X Y ys) = S at *
  generalize (st Y X ys) = R at *
  generalize (vst X Y ys) = V at *
  grind
end Mine
set_option Elab.async false
set_option maxRecDepth 100000
set_option maxHeartbeats 4000000
set_option linter.unusedVariables false
namespace Mine
/-- one number at each of k places -/
noncomputable def geo (w : Nat) (h : Int) : Nat → Int
  | 0 => 0
  | k + 1 => h + 2 ^ w * geo w h k
theorem dval_shift (w : Nat) (h : Int) (l : List Int) : dval w (l.map (· + h)) = dval w l + geo w h l.length := by
  induction l with
  | nil => rfl
  | cons c r ih => simp only [List.map_cons, dval, ih, List.length_cons, geo]; grind
theorem evalH_dval (w : Nat) (l : List Int) : evalH l (2 ^ w) 1 = dval w l := by
  induction l with
  | nil => rfl
  | cons c r ih => simp [evalH, dval, ih, Int.one_pow]
noncomputable def Small (l : List Int) : Prop := ∀ c ∈ l, -1034 ≤ c ∧ c ≤ 1034
theorem half_two {w : Nat} (hw : 12 ≤ w) : (2 : Int) ^ w = 2 * 2 ^ (w - 1) ∧ 2048 ≤ (2 : Int) ^ (w - 1) := by
  constructor
  · obtain ⟨k, rfl⟩ : ∃ k, w = k + 1 := ⟨w - 1, by omega⟩
    rw [Int.pow_succ, Nat.add_sub_cancel, Int.mul_comm]
  · have := two_pow_mono (show 11 ≤ w - 1 by omega)
    exact this
theorem figs_shift {w : Nat} (hw : 12 ≤ w) {l : List Int} (h : Small l) : FigsOk w (l.map (· + 2 ^ (w - 1))) := by
  intro d hd
  obtain ⟨c, hc, rfl⟩ := List.mem_map.mp hd
  have h1 := h c hc
  obtain ⟨h2, h3⟩ := half_two hw
  constructor <;> omega
theorem shift_inj {h : Int} {a b : List Int} (e : a.map (· + h) = b.map (· + h)) : a = b := by
  have := congrArg (List.map (· - h)) e
  simpa [Function.comp_def] using this
theorem bal_inj {w : Nat} (hw : 12 ≤ w) {a b : List Int} (hl : a.length = b.length) (ha : Small a) (hb : Small b) (h : dval w a = dval w b) : a = b := by
  refine shift_inj (h := 2 ^ (w - 1)) (dval_inj (n := w) (by simp [hl]) (figs_shift hw ha) (figs_shift hw hb) ?_)
  rw [dval_shift, dval_shift, h, hl]
theorem sign (n : Nat) : (-1 : Int) ^ n = 1 ∨ (-1 : Int) ^ n = -1 := by
  induction n with
  | zero => exact .inl rfl
  | succ n ih => rw [Int.pow_succ]; omega
/-- what the quotient's numbers are, and that they read the same from behind -/
theorem coefs (ys : List (Int × Bool)) (hp : PlOk ys) (h1 : 1 ≤ ys.length) (h8 : ys.length ≤ 8) : ∃ l : List Int, l.length = ys.length - 1 ∧ Small l ∧ (∀ X Y, q X Y ys = evalH l X Y) ∧ l = l.reverse.map (· * (-1) ^ ys.length) := by
  obtain ⟨l, l1, l2, l3⟩ := q_poly ys hp h1 h8
  refine ⟨l, l1, l2, l3, bal_inj (w := 12) (by decide) (by simp) l2 ?_ ?_⟩
  · intro c hc
    obtain ⟨d, hd, rfl⟩ := List.mem_map.mp hc
    have := l2 d (List.mem_reverse.mp hd)
    rcases sign ys.length with e | e <;> rw [e] <;> omega
  · rw [← evalH_dval, ← evalH_dval, evalH_map, evalH_rev, ← l3, ← l3]
    exact q_flip 1 (2 ^ 12) (by decide) (by decide) ys hp
/-- figures that make the quotient are its numbers -/
theorem figs_are {w : Nat} (hw : 12 ≤ w) {l F : List Int} (h : Small l) (hl : F.length = l.length) (hF : FigsOk w (F.map (· + 2 ^ (w - 1)))) (e : dval w (F.map (· + 2 ^ (w - 1))) = dval w l + geo w (2 ^ (w - 1)) l.length) : F = l := by
  refine shift_inj (h := 2 ^ (w - 1)) (dval_inj (n := w) (by simp [hl]) hF (figs_shift hw h) ?_)
  rw [e, dval_shift]
/-- the places of the strings, the last crossing first -/
noncomputable def seatsR : List (Int × Bool) → List Int
  | [] => [0, 1, 2]
  | c :: ys => swap c.1 (seatsR ys)
theorem seats_rev (xs : List (Int × Bool)) : seatsOf xs = seatsR xs.reverse := by
  have h : ∀ ys, seatsR ys = ys.foldr (fun c l => swap c.1 l) [0, 1, 2] := by
    intro ys; induction ys with
    | nil => rfl
    | cons c r ih => simp [seatsR, ih]
  rw [h, List.foldr_reverse]; rfl
noncomputable def six : List (List Int × S6) := [([0, 1, 2], ⟨0, 0, 0, 0, 1, 1⟩), ([0, 2, 1], ⟨0, 0, -1, 0, 1, -1⟩), ([1, 0, 2], ⟨0, 1, 0, 0, 1, -1⟩), ([1, 2, 0], ⟨-1, -1, 1, 0, 1, 1⟩), ([2, 0, 1], ⟨0, 1, -1, -1, 1, 1⟩), ([2, 1, 0], ⟨-1, -1, 1, 1, 1, -1⟩)]
noncomputable def eq6 (a b : List Int × S6) : Bool := a.1 == b.1 && (a.2.A == b.2.A && (a.2.B == b.2.B && (a.2.C == b.2.C && (a.2.D == b.2.D && (a.2.l == b.2.l && a.2.m == b.2.m)))))
theorem eq6_eq {a b : List Int × S6} (h : eq6 a b = true) : a = b := by
  obtain ⟨a1, A, B, C, D, l, m⟩ := a
  obtain ⟨b1, A', B', C', D', l', m'⟩ := b
  simp only [eq6, Bool.and_eq_true, beq_iff_eq] at h
  obtain ⟨rfl, rfl, rfl, rfl, rfl, rfl, rfl⟩ := h
  rfl
theorem six_step : (six.all fun x => [((0 : Int), true), (0, false), (1, true), (1, false)].all fun c => six.any fun y => eq6 (swap c.1 x.1, stp 1 1 c x.2) y) = true := by decide +kernel
theorem in_six : ∀ ys, PlOk ys → (seatsR ys, st 1 1 ys) ∈ six := by
  intro ys
  induction ys with
  | nil => intro _; exact .head _
  | cons c r ih =>
    intro hp
    have h := List.all_eq_true.mp six_step _ (ih (plOk_tail hp))
    have hc : c ∈ [((0 : Int), true), (0, false), (1, true), (1, false)] := by
      rcases four (hp c (.head _)) with rfl | rfl | rfl | rfl
      · exact .head _
      · exact .tail _ (.head _)
      · exact .tail _ (.tail _ (.head _))
      · exact .tail _ (.tail _ (.tail _ (.head _)))
    obtain ⟨y, hy, e⟩ := List.any_eq_true.mp (List.all_eq_true.mp h c hc)
    have e' := eq6_eq e
    rw [← e'] at hy
    exact hy
theorem q_one (ys : List (Int × Bool)) (hp : PlOk ys) : q 1 1 ys = if seatsR ys = [1, 2, 0] ∨ seatsR ys = [2, 0, 1] then 1 else 0 := by
  have h := in_six ys hp
  unfold q
  generalize seatsR ys = S at *
  generalize st 1 1 ys = T at *
  simp only [six, List.mem_cons, List.not_mem_nil, or_false, Prod.mk.injEq] at h
  rcases h with ⟨rfl, rfl⟩ | ⟨rfl, rfl⟩ | ⟨rfl, rfl⟩ | ⟨rfl, rfl⟩ | ⟨rfl, rfl⟩ | ⟨rfl, rfl⟩ <;> simp
/-- the paints -/
noncomputable def paint (c : Int × Bool) (x : Int × Int × Int) : Int × Int × Int :=
  if c.1 = 0 then (if c.2 then ((2 * x.1 - x.2.1) % 3, x.1, x.2.2) else (x.2.1, (2 * x.2.1 - x.1) % 3, x.2.2))
  else (if c.2 then (x.1, (2 * x.2.1 - x.2.2) % 3, x.2.1) else (x.1, x.2.2, (2 * x.2.2 - x.2.1) % 3))
noncomputable def paintR (x : Int × Int × Int) : List (Int × Bool) → Int × Int × Int
  | [] => x
  | c :: ys => paint c (paintR x ys)
noncomputable def uR (d : Int × Int) : List (Int × Bool) → Int × Int
  | [] => d
  | c :: ys => if c.1 = 0 then (if c.2 then ((uR d ys).1, (uR d ys).1 + (uR d ys).2) else ((uR d ys).1, (uR d ys).2 - (uR d ys).1))
    else (if c.2 then ((uR d ys).1 - (uR d ys).2, (uR d ys).2) else ((uR d ys).1 + (uR d ys).2, (uR d ys).2))
theorem pm1 {p q u : Int} (h : (p - q - u) % 3 = 0) : ((2 * p - q) % 3 - p - u) % 3 = 0 := by omega
theorem pm2 {p q r u v : Int} (h : (p - q - u) % 3 = 0) (h' : (q - r - v) % 3 = 0) : (p - r - (u + v)) % 3 = 0 := by omega
theorem pm4 {p q u : Int} (h : (p - q - u) % 3 = 0) : (q - (2 * q - p) % 3 - u) % 3 = 0 := by omega
theorem pm5 {p q r u v : Int} (h : (p - q - u) % 3 = 0) (h' : (q - r - v) % 3 = 0) : ((2 * q - p) % 3 - r - (v - u)) % 3 = 0 := by omega
theorem pm7 {p q r u v : Int} (h : (p - q - u) % 3 = 0) (h' : (q - r - v) % 3 = 0) : (p - (2 * q - r) % 3 - (u - v)) % 3 = 0 := by omega
theorem pm8 {p q r a : Int} (h : (p - q + r - a) % 3 = 0) : ((2 * p - q) % 3 - p + r - a) % 3 = 0 := by omega
theorem pm9 {p q r a : Int} (h : (p - q + r - a) % 3 = 0) : (q - (2 * q - p) % 3 + r - a) % 3 = 0 := by omega
theorem pm10 {p q r a : Int} (h : (p - q + r - a) % 3 = 0) : (p - (2 * q - r) % 3 + q - a) % 3 = 0 := by omega
theorem pm11 {p q r a : Int} (h : (p - q + r - a) % 3 = 0) : (p - r + (2 * r - q) % 3 - a) % 3 = 0 := by omega
theorem em3 (y : Int) : 0 ≤ y % 3 ∧ y % 3 < 3 := ⟨Int.emod_nonneg _ (by decide), Int.emod_lt_of_pos _ (by decide)⟩
theorem sub3 (a : Int) : (a - a) % 3 = 0 := by rw [Int.sub_self]; rfl
theorem paint_u (x : Int × Int × Int) (h0 : 0 ≤ x.1 ∧ x.1 < 3) (h1 : 0 ≤ x.2.1 ∧ x.2.1 < 3) (h2 : 0 ≤ x.2.2 ∧ x.2.2 < 3) : ∀ ys, PlOk ys →
    (0 ≤ (paintR x ys).1 ∧ (paintR x ys).1 < 3) ∧ (0 ≤ (paintR x ys).2.1 ∧ (paintR x ys).2.1 < 3) ∧ (0 ≤ (paintR x ys).2.2 ∧ (paintR x ys).2.2 < 3) ∧
    ((paintR x ys).1 - (paintR x ys).2.1 - (uR (x.1 - x.2.1, x.2.1 - x.2.2) ys).1) % 3 = 0 ∧ ((paintR x ys).2.1 - (paintR x ys).2.2 - (uR (x.1 - x.2.1, x.2.1 - x.2.2) ys).2) % 3 = 0 ∧
    ((paintR x ys).1 - (paintR x ys).2.1 + (paintR x ys).2.2 - (x.1 - x.2.1 + x.2.2)) % 3 = 0 := by
  intro ys
  induction ys with
  | nil => exact fun _ => ⟨h0, h1, h2, sub3 _, sub3 _, sub3 _⟩
  | cons c r ih =>
    intro hp
    obtain ⟨g0, g1, g2, g3, g4, g5⟩ := ih (plOk_tail hp)
    rw [paintR, uR]
    generalize paintR x r = P at *
    generalize uR (x.1 - x.2.1, x.2.1 - x.2.2) r = U at *
    rcases four (hp c (.head _)) with rfl | rfl | rfl | rfl <;> simp only [paint, if_true, if_false, Int.one_ne_zero, Bool.false_eq_true]
    · exact ⟨em3 _, g0, g2, pm1 g3, pm2 g3 g4, pm8 g5⟩
    · exact ⟨g1, em3 _, g2, pm4 g3, pm5 g3 g4, pm9 g5⟩
    · exact ⟨g0, em3 _, g1, pm7 g3 g4, pm1 g4, pm10 g5⟩
    · exact ⟨g0, g2, em3 _, pm2 g3 g4, pm4 g4, pm11 g5⟩
theorem u_rows (d1 d2 : Int) : ∀ ys, PlOk ys → uR (d1, d2) ys = ((-1) ^ un ys * (d1 * (rowR (-1) (1, 0) ys).1 + d2 * (rowR (-1) (0, 1) ys).1), (-1) ^ un ys * (d1 * (rowR (-1) (1, 0) ys).2 + d2 * (rowR (-1) (0, 1) ys).2)) := by
  intro ys
  induction ys with
  | nil => intro _; simp [uR, rowR, un]
  | cons c r ih =>
    intro hp
    rw [uR, ih (plOk_tail hp), rowR, rowR, un]
    generalize rowR (-1) (1, 0) r = R at *
    generalize rowR (-1) (0, 1) r = T at *
    generalize un r = k
    rcases four (hp c (.head _)) with rfl | rfl | rfl | rfl <;> simp [rowStep, stepA, stepB, Int.pow_add] <;> (try constructor) <;> grind
theorem det_rows : ∀ ys, PlOk ys → (rowR (-1) (1, 0) ys).1 * (rowR (-1) (0, 1) ys).2 - (rowR (-1) (1, 0) ys).2 * (rowR (-1) (0, 1) ys).1 = 1 := by
  intro ys
  induction ys with
  | nil => intro _; simp [rowR]
  | cons c r ih =>
    intro hp
    have h := ih (plOk_tail hp)
    rw [rowR, rowR]
    generalize rowR (-1) (1, 0) r = R at *
    generalize rowR (-1) (0, 1) r = T at *
    rcases four (hp c (.head _)) with rfl | rfl | rfl | rfl <;> simp [rowStep, stepA, stepB] <;> grind
/-- a painting that comes out as it went in, by the rows -/
noncomputable def fixB (a b c d s x y : Int) : Bool := decide ((s * (-x * a + (x - y) * c) + x) % 3 = 0) && decide ((s * (-x * b + (x - y) * d) - (x - y)) % 3 = 0)
noncomputable def ways : List (Int × Int) := [(0, 0), (0, 1), (0, 2), (1, 0), (1, 1), (1, 2), (2, 0), (2, 1), (2, 2)]
theorem mod_in (s x y r t : Int) (z : Int) : (s * (x * r + y * t) + z) % 3 = (s * (x * (r % 3) + y * (t % 3)) + z) % 3 := by
  have e1 : r = r % 3 + 3 * (r / 3) := by omega
  have e2 : t = t % 3 + 3 * (t / 3) := by omega
  have e : s * (x * r + y * t) + z = (s * (x * (r % 3) + y * (t % 3)) + z) + 3 * (s * (x * (r / 3) + y * (t / 3))) := by
    generalize r % 3 = r0 at *
    generalize t % 3 = t0 at *
    generalize r / 3 = r1 at *
    generalize t / 3 = t1 at *
    subst e1 e2
    grind
  rw [e, Int.add_mul_emod_self_left]
theorem fixB_mod (a b c d s x y : Int) : fixB a b c d s x y = fixB (a % 3) (b % 3) (c % 3) (d % 3) s x y := by
  unfold fixB
  rw [mod_in s (-x) (x - y) a c x, Int.sub_eq_add_neg (a := s * (-x * b + (x - y) * d)), mod_in s (-x) (x - y) b d, ← Int.sub_eq_add_neg]
theorem fix_count : ∀ a : Fin 3, ∀ b : Fin 3, ∀ c : Fin 3, ∀ d : Fin 3, ∀ s : Fin 2, (((a.1 : Int) * d.1 - b.1 * c.1) % 3 = 1) →
    (((ways.filter fun p => fixB a.1 b.1 c.1 d.1 (2 * s.1 - 1) p.1 p.2).length = 1) ↔ ¬ ((2 * (2 * (s.1 : Int) - 1) - (a.1 + d.1)) % 3 = 0)) := by decide +kernel
theorem pf1 {x U : Int} (h : (0 - x - U) % 3 = 0) : (U + x) % 3 = 0 := by omega
theorem pf2 {x y V : Int} (h : (x - y - V) % 3 = 0) : (V - (x - y)) % 3 = 0 := by omega
theorem pf3 {a b c x y U : Int} (h : (a - b - U) % 3 = 0) (h' : (a - b + c - (0 - x + y)) % 3 = 0) (k : (U + x) % 3 = 0) : (c - y) % 3 = 0 := by omega
theorem pf4 {b x y V : Int} (h : (b - y - V) % 3 = 0) (k : (V - (x - y)) % 3 = 0) : (b - x) % 3 = 0 := by omega
theorem pf5 {a x U : Int} (h : (a - x - U) % 3 = 0) (k : (U + x) % 3 = 0) : (a - 0) % 3 = 0 := by omega
theorem pe3 {a b : Int} (h : 0 ≤ a ∧ a < 3) (h' : 0 ≤ b ∧ b < 3) (k : (a - b) % 3 = 0) : a = b := by omega
theorem paint_fix (ys : List (Int × Bool)) (hp : PlOk ys) (x y : Int) (hx : 0 ≤ x ∧ x < 3) (hy : 0 ≤ y ∧ y < 3) :
    decide (paintR (0, x, y) ys = (0, x, y)) = fixB (rowR (-1) (1, 0) ys).1 (rowR (-1) (1, 0) ys).2 (rowR (-1) (0, 1) ys).1 (rowR (-1) (0, 1) ys).2 ((-1) ^ un ys) x y := by
  obtain ⟨h1, h2, h3, h4, h5, h6⟩ := paint_u (0, x, y) (by simp) hx hy ys hp
  simp only at h4 h5 h6
  rw [u_rows _ _ ys hp] at h4 h5
  simp only at h4 h5
  unfold fixB
  rw [← Bool.decide_and]
  have e : (0 - x : Int) = -x := by omega
  rw [e] at h4 h5
  generalize (-1) ^ un ys * (-x * (rowR (-1) (1, 0) ys).1 + (x - y) * (rowR (-1) (0, 1) ys).1) = U at *
  generalize (-1) ^ un ys * (-x * (rowR (-1) (1, 0) ys).2 + (x - y) * (rowR (-1) (0, 1) ys).2) = V at *
  generalize paintR (0, x, y) ys = P at *
  obtain ⟨p0, p1, p2⟩ := P
  simp only at h1 h2 h3 h4 h5 h6
  refine decide_eq_decide.mpr ?_
  simp only [Prod.mk.injEq]
  constructor
  · rintro ⟨rfl, rfl, rfl⟩
    exact ⟨pf1 h4, pf2 h5⟩
  · rintro ⟨k1, k2⟩
    have e2 := pe3 h3 hy (pf3 h4 h6 k1)
    rw [e2] at h5
    have e1 := pe3 h2 hx (pf4 h5 k2)
    rw [e1] at h4
    exact ⟨pe3 h1 ⟨by decide, by decide⟩ (pf5 h4 k1), e1, e2⟩
theorem fin3 (a : Int) : ∃ k : Fin 3, a % 3 = (k.1 : Int) := ⟨⟨(a % 3).toNat, by omega⟩, by simp only; omega⟩
theorem al1 {q a d : Int} (h : q * (1 + -1 + -1 * -1) = 1 - (a + d) + 1) : ¬ ((2 * (2 * ((1 : Nat) : Int) - 1) - (a % 3 + d % 3)) % 3 = 0) ↔ ¬ (q % 3 = 0) := by
  have e : q = 2 - (a + d) := by omega
  clear h
  subst e
  exact not_congr (by omega)
theorem al0 {q a d : Int} (h : q * (1 + -1 + -1 * -1) = -1 - (a + d) + -1) : ¬ ((2 * (2 * ((0 : Nat) : Int) - 1) - (a % 3 + d % 3)) % 3 = 0) ↔ ¬ (q % 3 = 0) := by
  have e : q = -2 - (a + d) := by omega
  clear h
  subst e
  exact not_congr (by omega)
theorem alike_law (ys : List (Int × Bool)) (hp : PlOk ys) : ((ways.filter fun p => decide (paintR (0, p.1, p.2) ys = (0, p.1, p.2))).length = 1) ↔ ¬ (q (-1) 1 ys % 3 = 0) := by
  have e : (ways.filter fun p => decide (paintR (0, p.1, p.2) ys = (0, p.1, p.2))) = ways.filter fun p => fixB (rowR (-1) (1, 0) ys).1 (rowR (-1) (1, 0) ys).2 (rowR (-1) (0, 1) ys).1 (rowR (-1) (0, 1) ys).2 ((-1) ^ un ys) p.1 p.2 := by
    refine List.filter_congr fun p h => ?_
    have hb : (0 ≤ p.1 ∧ p.1 < 3) ∧ (0 ≤ p.2 ∧ p.2 < 3) := by
      simp only [ways, List.mem_cons, List.not_mem_nil, or_false] at h
      rcases h with rfl | rfl | rfl | rfl | rfl | rfl | rfl | rfl | rfl <;> decide
    exact paint_fix ys hp p.1 p.2 hb.1 hb.2
  rw [e]
  have hd := det_rows ys hp
  have hq := q_tr (-1) ys hp
  have hn := ov_un ys
  have hs := sign (un ys)
  have e1 : (-1 : Int) ^ ys.length * (-1) ^ ov ys = (-1) ^ un ys := by
    rw [← hn, Int.pow_add]
    have := sq_one (ov ys)
    grind
  rw [e1] at hq
  generalize rowR (-1) (1, 0) ys = R at *
  generalize rowR (-1) (0, 1) ys = T at *
  obtain ⟨a, b⟩ := R
  obtain ⟨c, d⟩ := T
  simp only at hd hq ⊢
  obtain ⟨a', ha⟩ := fin3 a
  obtain ⟨b', hb⟩ := fin3 b
  obtain ⟨c', hc⟩ := fin3 c
  obtain ⟨d', hd'⟩ := fin3 d
  have hdet : ((a'.1 : Int) * d'.1 - b'.1 * c'.1) % 3 = 1 := by
    rw [← ha, ← hb, ← hc, ← hd', Int.sub_emod, ← Int.mul_emod, ← Int.mul_emod, ← Int.sub_emod, hd]; rfl
  rcases hs with hs | hs <;> rw [hs] at hq ⊢
  · have key := fix_count a' b' c' d' 1 hdet
    rw [← ha, ← hb, ← hc, ← hd'] at key
    have e2 : (ways.filter fun p => fixB a b c d 1 p.1 p.2) = ways.filter fun p => fixB (a % 3) (b % 3) (c % 3) (d % 3) (2 * (1 : Fin 2).1 - 1) p.1 p.2 := List.filter_congr fun p _ => by rw [fixB_mod]; rfl
    rw [e2, key]
    exact al1 hq
  · have key := fix_count a' b' c' d' 0 hdet
    rw [← ha, ← hb, ← hc, ← hd'] at key
    have e2 : (ways.filter fun p => fixB a b c d (-1) p.1 p.2) = ways.filter fun p => fixB (a % 3) (b % 3) (c % 3) (d % 3) (2 * (0 : Fin 2).1 - 1) p.1 p.2 := List.filter_congr fun p _ => by rw [fixB_mod]; rfl
    rw [e2, key]
    exact al0 hq
end Mine
set_option Elab.async false
set_option maxRecDepth 100000
set_option maxHeartbeats 4000000
set_option linter.unusedVariables false
namespace Mine
open Builtin.Int (intBits)
theorem filled_al (P : Params) : row.prog = row.prog ∧ hd.heap_1 P = hd.heap_1 P := by
  k_fill
  exact ⟨rfl, rfl⟩
noncomputable def paintF (x : Int × Int × Int) (xs : List (Int × Bool)) : Int × Int × Int := xs.foldl (fun x c => paint c x) x
noncomputable def alN (xs : List (Int × Bool)) (i : Nat) : Nat := ((List.range i).filter fun k => decide (paintF (0, ((k / 3 : Nat) : Int), ((k % 3 : Nat) : Int)) xs = (0, ((k / 3 : Nat) : Int), ((k % 3 : Nat) : Int)))).length
theorem alN_succ (xs : List (Int × Bool)) (i : Nat) : alN xs (i + 1) = alN xs i + (if paintF (0, ((i / 3 : Nat) : Int), ((i % 3 : Nat) : Int)) xs = (0, ((i / 3 : Nat) : Int), ((i % 3 : Nat) : Int)) then 1 else 0) := by
  unfold alN
  rw [List.range_succ, List.filter_append, List.length_append]
  congr 1
  split <;> rename_i h
  · rw [List.filter_cons_of_pos (by simpa using h)]; rfl
  · rw [List.filter_cons_of_neg (by simpa using h)]; rfl
theorem cross_cons {news : List (Addr × Obj)} {v : Value} {r : List Value} {xs : List (Int × Bool)} (h : CrossAre news (v :: r) xs) : ∃ c p t b xs', v = .ref c ∧ (c, tupObj [.int p t, .bool b]) ∈ news ∧ CrossAre news r xs' ∧ xs = (p, b) :: xs' := by
  cases h with | cons m h' => exact ⟨_, _, _, _, _, rfl, m, h', rfl⟩
/-- the state at the head of an inner turn -/
inductive AlJ (xs : List (Int × Bool)) (l P Ir : Addr) (oI : Obj) (news0 : List (Addr × Obj)) (tgt : Int × Int × Int) (al way : Int) (ta tw : Tok) (I : Addr) (r : List Value) (m : Str → Option Value) (news : List (Addr × Obj)) : Prop
  | mk (x0 x1 x2 : Int) (t0 t1 t2 : Tok) (n : Nat) (xs' : List (Int × Bool)) (h0' : CrossAre news0 r xs') (h1' : PlOk xs') (h2' : paintF (x0, x1, x2) xs' = tgt) (h3' : news = (P, listOf [Value.int x0 t0, .int x1 t1, .int x2 t2].toArray n) :: (Ir, oI) :: news0) (h4' : Off I news) (h5' : m (Str.ofString "paints") = some (.ref P)) (h6' : m (Str.ofString "crossings") = some (.ref l)) (h7' : m (Str.ofString "alike") = some (.int al ta)) (h8' : m (Str.ofString "way") = some (.int way tw)) : AlJ xs l P Ir oI news0 tgt al way ta tw I r m news
inductive OuJ (xs : List (Int × Bool)) (l : Addr) (news0 : List (Addr × Obj)) (I : Addr) (i : Nat) (m : Str → Option Value) (news : List (Addr × Obj)) : Prop
  | mk  (h0' : news = news0) (h1' : Off I news0) (h2' : (∃ t, m (Str.ofString "alike") = some (.int (alN xs i) t))) (h3' : m (Str.ofString "crossings") = some (.ref l)) : OuJ xs l news0 I i m news
section
variable {prog : Program} {w : World} {A : Around} {E : Value → Shared → Prop} {s : Shared} {g : Heap} {L P : Addr} {m : Str → Option Value}
theorem set_cut {vs : List Value} {ds : List Int} {n : Nat} {k z : Int} {t u : Tok} {Q : Unit → Shared → Prop} {all : List (Addr × Obj)} (rest : List (Addr × Obj)) (F : Fr g L s.heap m) (N : News g L s.heap all) (hv : IntsAre vs ds)
    (hsub : ∀ p ∈ (P, listOf vs.toArray n) :: rest, p ∈ all) (off : Off P rest) (h0 : 0 ≤ k) (h1 : k < ds.length) (h2 : k < 2 ^ 63)
    (h : ∀ h', Fr g L h' m → News g L h' ((P, listOf (vs.set k.toNat (.int z u)).toArray n) :: rest) → Q () { s with heap := h' }) : wpAny (model prog w) A (setItem (.ref P) (.int k t) (.int z u)) Q E s :=
  ksa_set F (news_sub N hsub) (Upd.head off) hv h0 h1 h2 fun h' F' N' _ _ _ => h h' F' N'
end
theorem fm3 (z : Int) : z.fmod 3 = z % 3 := Int.fmod_eq_emod_of_nonneg z (by decide)
theorem sub_perm {g h : Heap} {a b : Addr × Obj} {all rest : List (Addr × Obj)} (N : News g L h all) (e : all = a :: b :: rest) : ∀ p ∈ b :: a :: rest, p ∈ all := by
  subst e
  exact (by (repeat (refine List.forall_mem_cons.mpr ⟨(by repeat (first | exact List.Mem.head _ | refine List.Mem.tail _ ?_)), ?_⟩)); exact fun p h => (by repeat (first | exact h | refine List.Mem.tail _ ?_)))
theorem paintF_cons (x : Int × Int × Int) (c : Int × Bool) (xs : List (Int × Bool)) : paintF x (c :: xs) = paintF (paint c x) xs := rfl
section
variable {w : World} {pr : Program} {p : Program} {loose : List Str} {mean : ExcName → Option Value} {mg mb : Str → Option Value}
  {dp un : Nat} {gd : Option (List Code)} {cn : Str} {cs : Scope} {a : Addr} {ccd : Value} {cl : List (Str × Addr)} {outer : List Env} {A₀ : Around} {base h₀ : Heap} {L : Addr} {m : Str → Option Value} {s : Shared} {Q E : Value → Shared → Prop} {news : List (Addr × Obj)}

local macro_rules | `(tactic| k_mem) => `(tactic| with_reducible first | exact List.mem_cons_self | assumption | (refine List.mem_cons_of_mem _ ?_; k_mem))
theorem c_alike {l : Addr} {vs : List Value} {nn : Nat} {xs : List (Int × Bool)}
  (B : Below A₀ base outer h₀) (F : Fr h₀ L s.heap m) (X : (Mine.hd.heap_1 w.params).In h₀) (N : News h₀ L s.heap news) (T : Top p loose mean mg mb h₀) (hcs : cs.kind = .function)
  (hd : dp + 4 < recursionLimit) (hu : un + 120 < cLine) (hl : (l, listOf vs.toArray nn) ∈ news) (hv : CrossAre news vs xs) (hp : PlOk xs)
  (hret : ∀ (t : Tok) (h' : Heap) (tk' : Nat), Fr h₀ L h' m → News h₀ L h' news → Q (.int (alN xs 9) t) { s with heap := h', toks := tk' }) :
  wpAny (model pr w) (ktrTop dp un gd cn cs L a ccd cl outer) (call (.ref 241) [.ref l]) Q E s := by
  refine' enter [(Str.ofString "crossings", .ref l)] B F X N T hcs (by omega) ?k6 ?k7 (BindsTo.of_eq ?k9) (locs ?kB) ?c2 ?c3 ?c4 ?c5 ?_
  case k6 => k_is
  case k7 => k_is
  case k9 => exact rfl
  case kB => exact rfl
  case c2 => exact rfl
  case c3 => exact rfl
  case c4 => exact rfl
  case c5 => decide
  intro g' L' h' FG' F' N' B' X' T'
  clear B F X N T
  (try dsimp only); (try k_lift B'); (try k_fold)
  (repeat' (first | (k_unfold; (try dsimp only)) | (k_end; kc_close) | ((with_reducible show wpAny _ _ (exec (Stmt.For (PySem.Expr.Tuple ..) (PySem.Expr.Name ..) ..) _) _ _ _); refine stop_intro ?_) | ((with_reducible show wpAny _ _ (call (Value.type "range") _) _ _ _); ((rename Fr _ _ _ _ => F_z); (rename News _ _ _ _ => N_z); (with_unfolding_all refine range1_rows F_z N_z ?_); clear F_z N_z; intro h9_z tk9_z t91_z u91_z v91_z R9_z F9_z N9_z K9_z; refine stop_intro ?_)) | ((with_reducible show wpAny _ _ (setItem (Value.ref ..) (Value.int ..) _) _ _ _); refine stop_intro ?_) | ((with_reducible show wpAny _ _ (eval (PySem.Expr.Name ..) _) _ _ _); (k_here; k_dflt (refine ld (by k_asm) (by first | exact rfl | ((repeat (refine Eq.trans (if_neg (by decide)) ?_)); with_reducible assumption)) ?_; k_whole))) | ((with_reducible show UnrEnd ..); refine stop_intro ?_) | ((with_reducible show UnrEndW ..); refine stop_intro ?_) | ((with_reducible show wpAny _ _ (loadName _ _) _ _ _); (k_here; k_dflt (refine ldn (by k_asm) (by first | exact rfl | ((repeat (refine Eq.trans (if_neg (by decide)) ?_)); with_reducible assumption)) ?_; k_whole))) | ((with_reducible show LeaveK ..); first | (with_reducible ((refine leaveK_ (by k_asm) (by k_asm) ?_; intro kF_z kN_z; try dsimp only))) | ((refine leaveK_ (by k_asm) (by k_asm) ?_; intro kF_z kN_z; try dsimp only))) | walk1 | (dsimp only; walk1) | (leave1; (try dsimp only)) | fail "no step"))
  refine Stop.mk ?_
  rename IsRange _ _ _ _ _ _ _ _ => R
  try dsimp only at R ⊢
  rename Fr g' _ _ _ => F9
  rename News g' _ _ _ => N9
  refine iter_rangeUnr (n := 9) rfl R (by decide) (by decide) F9 N9 ?_
  intro I hI
  refine range_rest (OuJ xs l news I) 9 ?turn ?done 9 0 _ _ rfl ⟨rfl, fun p hp => Nat.ne_of_lt (hI p hp), ⟨_, rfl⟩, rfl⟩
  case done =>
    clear N9 F9 R hI
    rintro m' news ⟨rfl, oI, ⟨t, e1⟩, e2⟩ h9 tk9 F N
    (try dsimp only)
    (repeat' (first | (k_unfold; (try dsimp only)) | (k_end; kc_close) | ((with_reducible show wpAny _ _ (exec (Stmt.For (PySem.Expr.Tuple ..) (PySem.Expr.Name ..) ..) _) _ _ _); refine stop_intro ?_) | ((with_reducible show wpAny _ _ (call (Value.type "range") _) _ _ _); ((rename Fr _ _ _ _ => F_z); (rename News _ _ _ _ => N_z); (with_unfolding_all refine range1_rows F_z N_z ?_); clear F_z N_z; intro h9_z tk9_z t91_z u91_z v91_z R9_z F9_z N9_z K9_z; refine stop_intro ?_)) | ((with_reducible show wpAny _ _ (setItem (Value.ref ..) (Value.int ..) _) _ _ _); refine stop_intro ?_) | ((with_reducible show wpAny _ _ (eval (PySem.Expr.Name ..) _) _ _ _); (k_here; k_dflt (refine ld (by k_asm) (by first | exact rfl | ((repeat (refine Eq.trans (if_neg (by decide)) ?_)); with_reducible assumption)) ?_; k_whole))) | ((with_reducible show UnrEnd ..); refine stop_intro ?_) | ((with_reducible show UnrEndW ..); refine stop_intro ?_) | ((with_reducible show wpAny _ _ (loadName _ _) _ _ _); (k_here; k_dflt (refine ldn (by k_asm) (by first | exact rfl | ((repeat (refine Eq.trans (if_neg (by decide)) ?_)); with_reducible assumption)) ?_; k_whole))) | ((with_reducible show LeaveK ..); first | (with_reducible ((refine leaveK_ (by k_asm) (by k_asm) ?_; intro kF_z kN_z; try dsimp only))) | ((refine leaveK_ (by k_asm) (by k_asm) ?_; intro kF_z kN_z; try dsimp only))) | walk1 | (dsimp only; walk1) | (leave1; (try dsimp only)) | fail "no step"))
    exact hret _ _ _ (by assumption) (by assumption)
  case turn =>
    clear N9 F9 R hI
    rintro i m' news t h9 tk9 hi ⟨rfl, oI, ⟨ta, e1⟩, e2⟩ F N
    (try dsimp only)
    (repeat' (first | (k_unfold; (try dsimp only)) | (k_end; kc_close) | ((with_reducible show wpAny _ _ (exec (Stmt.For (PySem.Expr.Tuple ..) (PySem.Expr.Name ..) ..) _) _ _ _); refine stop_intro ?_) | ((with_reducible show wpAny _ _ (call (Value.type "range") _) _ _ _); ((rename Fr _ _ _ _ => F_z); (rename News _ _ _ _ => N_z); (with_unfolding_all refine range1_rows F_z N_z ?_); clear F_z N_z; intro h9_z tk9_z t91_z u91_z v91_z R9_z F9_z N9_z K9_z; refine stop_intro ?_)) | ((with_reducible show wpAny _ _ (setItem (Value.ref ..) (Value.int ..) _) _ _ _); refine stop_intro ?_) | ((with_reducible show wpAny _ _ (eval (PySem.Expr.Name ..) _) _ _ _); (k_here; k_dflt (refine ld (by k_asm) (by first | exact rfl | ((repeat (refine Eq.trans (if_neg (by decide)) ?_)); with_reducible assumption)) ?_; k_whole))) | ((with_reducible show UnrEnd ..); refine stop_intro ?_) | ((with_reducible show UnrEndW ..); refine stop_intro ?_) | ((with_reducible show wpAny _ _ (loadName _ _) _ _ _); (k_here; k_dflt (refine ldn (by k_asm) (by first | exact rfl | ((repeat (refine Eq.trans (if_neg (by decide)) ?_)); with_reducible assumption)) ?_; k_whole))) | ((with_reducible show LeaveK ..); first | (with_reducible ((refine leaveK_ (by k_asm) (by k_asm) ?_; intro kF_z kN_z; try dsimp only))) | ((refine leaveK_ (by k_asm) (by k_asm) ?_; intro kF_z kN_z; try dsimp only))) | walk1 | (dsimp only; walk1) | (leave1; (try dsimp only)) | fail "no step"))
    refine Stop.mk ?_
    rename Fr g' _ _ _ => F₁
    rename News g' _ _ _ => N₁
    have w3 : (0 + (i : Int)).fdiv 3 = ((i / 3 : Nat) : Int) := by
      rw [Int.fdiv_eq_ediv_of_nonneg _ (by decide)]; omega
    have w4 : (0 + (i : Int)).fmod 3 = ((i % 3 : Nat) : Int) := by
      rw [Int.fmod_eq_emod_of_nonneg _ (by decide)]; omega
    rw [w3, w4] at N₁
    rename _ < _ ∧ AllLt _ _ => l1
    have hPI := Nat.ne_of_lt l1.1
    have hPn : Off _ news := fun p hp => Nat.ne_of_lt (allLt_mem news l1.2 p hp)
    refine list_loop (AlJ xs l _ I _ news (paintF (0, ((i / 3 : Nat) : Int), ((i % 3 : Nat) : Int)) xs) (alN xs i) (0 + (i : Int)) ta t) rfl F₁ N₁ (by k_mem) (fun R hR => ?it) (fun I2 hI2 => ⟨_, _, _, _, _, _, _, xs, hv, hp, rfl, rfl, fun p hp => Nat.ne_of_lt (hI2 p hp), rfl, e2, e1, rfl⟩) ?turn ?done
    case it => (repeat' (first | (k_unfold; (try dsimp only)) | (k_end; kc_close) | ((with_reducible show wpAny _ _ (exec (Stmt.For (PySem.Expr.Tuple ..) (PySem.Expr.Name ..) ..) _) _ _ _); refine stop_intro ?_) | ((with_reducible show wpAny _ _ (call (Value.type "range") _) _ _ _); ((rename Fr _ _ _ _ => F_z); (rename News _ _ _ _ => N_z); (with_unfolding_all refine range1_rows F_z N_z ?_); clear F_z N_z; intro h9_z tk9_z t91_z u91_z v91_z R9_z F9_z N9_z K9_z; refine stop_intro ?_)) | ((with_reducible show wpAny _ _ (setItem (Value.ref ..) (Value.int ..) _) _ _ _); refine stop_intro ?_) | ((with_reducible show wpAny _ _ (eval (PySem.Expr.Name ..) _) _ _ _); (k_here; k_dflt (refine ld (by k_asm) (by first | exact rfl | ((repeat (refine Eq.trans (if_neg (by decide)) ?_)); with_reducible assumption)) ?_; k_whole))) | ((with_reducible show UnrEnd ..); refine stop_intro ?_) | ((with_reducible show UnrEndW ..); refine stop_intro ?_) | ((with_reducible show wpAny _ _ (loadName _ _) _ _ _); (k_here; k_dflt (refine ldn (by k_asm) (by first | exact rfl | ((repeat (refine Eq.trans (if_neg (by decide)) ?_)); with_reducible assumption)) ?_; k_whole))) | ((with_reducible show LeaveK ..); first | (with_reducible ((refine leaveK_ (by k_asm) (by k_asm) ?_; intro kF_z kN_z; try dsimp only))) | ((refine leaveK_ (by k_asm) (by k_asm) ?_; intro kF_z kN_z; try dsimp only))) | walk1 | (dsimp only; walk1) | (leave1; (try dsimp only)) | fail "no step")); exact hR
    case turn =>
      clear F₁ N₁
      rintro I2 v r m2 nw h2 tk2 it ⟨x0, x1, x2, t0, t1, t2, n, xs', hx, hpl, htg, rfl, o2, u1, u2, u3, u4⟩ hc F N
      obtain ⟨c, p, tp, b, xs'', rfl, hm, hx', rfl⟩ := cross_cons hx
      have h4 := four (hpl _ (.head _))
      have hI2P := o2 _ (.head _)
      dsimp only at hI2P
      have hI2I := o2 _ (.tail _ (.head _))
      have hI2n : Off I2 news := fun p hp => o2 p (.tail _ (.tail _ hp))
      have offP := off_cons (p := (I2, it)) (Ne.symm hI2P) (off_cons (p := (I, itR (0 + ((i + 1 : Nat) : Int)) (((9 : Nat) : Int) - ((i + 1 : Nat) : Int)))) hPI hPn)
      simp only [Prod.mk.injEq] at h4
      have hm' : (c, ({ cls := .type "tuple", data := .seq #[.int p tp, .bool b] } : Obj)) ∈ news := hm
      clear hx l1
      try dsimp only
      rcases h4 with ⟨rfl, rfl⟩ | ⟨rfl, rfl⟩ | ⟨rfl, rfl⟩ | ⟨rfl, rfl⟩
      all_goals (
        (repeat' (first | (k_unfold; (try dsimp only)) | (k_end; kc_close) | ((with_reducible show wpAny _ _ (exec (Stmt.For (PySem.Expr.Tuple ..) (PySem.Expr.Name ..) ..) _) _ _ _); refine stop_intro ?_) | ((with_reducible show wpAny _ _ (call (Value.type "range") _) _ _ _); ((rename Fr _ _ _ _ => F_z); (rename News _ _ _ _ => N_z); (with_unfolding_all refine range1_rows F_z N_z ?_); clear F_z N_z; intro h9_z tk9_z t91_z u91_z v91_z R9_z F9_z N9_z K9_z; refine stop_intro ?_)) | ((with_reducible show wpAny _ _ (setItem (Value.ref ..) (Value.int ..) _) _ _ _); refine stop_intro ?_) | ((with_reducible show wpAny _ _ (eval (PySem.Expr.Name ..) _) _ _ _); (k_here; k_dflt (refine ld (by k_asm) (by first | exact rfl | ((repeat (refine Eq.trans (if_neg (by decide)) ?_)); with_reducible assumption)) ?_; k_whole))) | ((with_reducible show UnrEnd ..); refine stop_intro ?_) | ((with_reducible show UnrEndW ..); refine stop_intro ?_) | ((with_reducible show wpAny _ _ (loadName _ _) _ _ _); (k_here; k_dflt (refine ldn (by k_asm) (by first | exact rfl | ((repeat (refine Eq.trans (if_neg (by decide)) ?_)); with_reducible assumption)) ?_; k_whole))) | ((with_reducible show LeaveK ..); first | (with_reducible ((refine leaveK_ (by k_asm) (by k_asm) ?_; intro kF_z kN_z; try dsimp only))) | ((refine leaveK_ (by k_asm) (by k_asm) ?_; intro kF_z kN_z; try dsimp only))) | walk1 | (dsimp only; walk1) | (leave1; (try dsimp only)) | fail "no step"))
        rename Fr g' _ _ _ => F₂
        rename News g' _ _ _ => N₂
        refine Stop.mk (set_cut (n := n) ((I2, it) :: (I, itR (0 + ((i + 1 : Nat) : Int)) (((9 : Nat) : Int) - ((i + 1 : Nat) : Int))) :: news) F₂ N₂ (.cons x0 t0 (.cons x1 t1 (.cons x2 t2 .nil))) ?_ offP (by decide) (by simp) (by decide) ?_)
        · intro q hq
          simp only [List.mem_cons] at hq ⊢
          rcases hq with h | h | h | h <;> simp [h]
        intro h₃ F₃ N₃
        clear F₂ N₂
        dsimp only
        (repeat' (first | (k_unfold; (try dsimp only)) | (k_end; kc_close) | ((with_reducible show wpAny _ _ (exec (Stmt.For (PySem.Expr.Tuple ..) (PySem.Expr.Name ..) ..) _) _ _ _); refine stop_intro ?_) | ((with_reducible show wpAny _ _ (call (Value.type "range") _) _ _ _); ((rename Fr _ _ _ _ => F_z); (rename News _ _ _ _ => N_z); (with_unfolding_all refine range1_rows F_z N_z ?_); clear F_z N_z; intro h9_z tk9_z t91_z u91_z v91_z R9_z F9_z N9_z K9_z; refine stop_intro ?_)) | ((with_reducible show wpAny _ _ (setItem (Value.ref ..) (Value.int ..) _) _ _ _); refine stop_intro ?_) | ((with_reducible show wpAny _ _ (eval (PySem.Expr.Name ..) _) _ _ _); (k_here; k_dflt (refine ld (by k_asm) (by first | exact rfl | ((repeat (refine Eq.trans (if_neg (by decide)) ?_)); with_reducible assumption)) ?_; k_whole))) | ((with_reducible show UnrEnd ..); refine stop_intro ?_) | ((with_reducible show UnrEndW ..); refine stop_intro ?_) | ((with_reducible show wpAny _ _ (loadName _ _) _ _ _); (k_here; k_dflt (refine ldn (by k_asm) (by first | exact rfl | ((repeat (refine Eq.trans (if_neg (by decide)) ?_)); with_reducible assumption)) ?_; k_whole))) | ((with_reducible show LeaveK ..); first | (with_reducible ((refine leaveK_ (by k_asm) (by k_asm) ?_; intro kF_z kN_z; try dsimp only))) | ((refine leaveK_ (by k_asm) (by k_asm) ?_; intro kF_z kN_z; try dsimp only))) | walk1 | (dsimp only; walk1) | (leave1; (try dsimp only)) | fail "no step"))
        rename Fr g' _ _ _ => F₄
        rename News g' _ _ _ => N₄
        refine Stop.mk (ksa_set F₄ N₄ (Upd.head offP) (ints_set (.cons x0 t0 (.cons x1 t1 (.cons x2 t2 .nil))) _) (by decide) (by simp) (by decide) ?_)
        intro h₅ F₅ N₅ _ _ _
        clear F₄ N₄
        dsimp only
        (repeat' (first | (k_unfold; (try dsimp only)) | (k_end; kc_close) | ((with_reducible show wpAny _ _ (exec (Stmt.For (PySem.Expr.Tuple ..) (PySem.Expr.Name ..) ..) _) _ _ _); refine stop_intro ?_) | ((with_reducible show wpAny _ _ (call (Value.type "range") _) _ _ _); ((rename Fr _ _ _ _ => F_z); (rename News _ _ _ _ => N_z); (with_unfolding_all refine range1_rows F_z N_z ?_); clear F_z N_z; intro h9_z tk9_z t91_z u91_z v91_z R9_z F9_z N9_z K9_z; refine stop_intro ?_)) | ((with_reducible show wpAny _ _ (setItem (Value.ref ..) (Value.int ..) _) _ _ _); refine stop_intro ?_) | ((with_reducible show wpAny _ _ (eval (PySem.Expr.Name ..) _) _ _ _); (k_here; k_dflt (refine ld (by k_asm) (by first | exact rfl | ((repeat (refine Eq.trans (if_neg (by decide)) ?_)); with_reducible assumption)) ?_; k_whole))) | ((with_reducible show UnrEnd ..); refine stop_intro ?_) | ((with_reducible show UnrEndW ..); refine stop_intro ?_) | ((with_reducible show wpAny _ _ (loadName _ _) _ _ _); (k_here; k_dflt (refine ldn (by k_asm) (by first | exact rfl | ((repeat (refine Eq.trans (if_neg (by decide)) ?_)); with_reducible assumption)) ?_; k_whole))) | ((with_reducible show LeaveK ..); first | (with_reducible ((refine leaveK_ (by k_asm) (by k_asm) ?_; intro kF_z kN_z; try dsimp only))) | ((refine leaveK_ (by k_asm) (by k_asm) ?_; intro kF_z kN_z; try dsimp only))) | walk1 | (dsimp only; walk1) | (leave1; (try dsimp only)) | fail "no step"))
        rename Fr g' _ _ _ => F₆
        rename News g' _ _ _ => N₆
        refine Stop.mk (turn_end F₆ N₆ ((_, listOf ((List.set [Value.int x0 t0, .int x1 t1, .int x2 t2] _ _).set _ _).toArray n) :: (I, itR (0 + ((i + 1 : Nat) : Int)) (((9 : Nat) : Int) - ((i + 1 : Nat) : Int))) :: news) (sub_perm N₆ rfl) (off_cons (hI2P) (off_cons hI2I hI2n)) (.tail _ (.tail _ hl)) ⟨_, _, _, _, _, _, n, xs'', hx', plOk_tail hpl, ?tgt, rfl, (off_cons hI2P (off_cons hI2I hI2n)), u1, u2, u3, u4⟩)
        case tgt =>
          rw [← htg, paintF_cons]
          refine congrArg (fun z => paintF z xs'') ?_
          simp [paint, fm3])
    case done =>
      clear F₁ N₁
      rintro I2 m2 nw ⟨x0, x1, x2, t0, t1, t2, n, xs', hx, hpl, htg, rfl, o2, u1, u2, u3, u4⟩ h tk F N
      cases hx
      have htg' : (x0, x1, x2) = paintF (0, ((i / 3 : Nat) : Int), ((i % 3 : Nat) : Int)) xs := htg
      clear l1
      try dsimp only
      (repeat' (first | (k_unfold; (try dsimp only)) | (k_end; kc_close) | ((with_reducible show wpAny _ _ (exec (Stmt.For (PySem.Expr.Tuple ..) (PySem.Expr.Name ..) ..) _) _ _ _); refine stop_intro ?_) | ((with_reducible show wpAny _ _ (call (Value.type "range") _) _ _ _); ((rename Fr _ _ _ _ => F_z); (rename News _ _ _ _ => N_z); (with_unfolding_all refine range1_rows F_z N_z ?_); clear F_z N_z; intro h9_z tk9_z t91_z u91_z v91_z R9_z F9_z N9_z K9_z; refine stop_intro ?_)) | ((with_reducible show wpAny _ _ (setItem (Value.ref ..) (Value.int ..) _) _ _ _); refine stop_intro ?_) | ((with_reducible show wpAny _ _ (eval (PySem.Expr.Name ..) _) _ _ _); (k_here; k_dflt (refine ld (by k_asm) (by first | exact rfl | ((repeat (refine Eq.trans (if_neg (by decide)) ?_)); with_reducible assumption)) ?_; k_whole))) | ((with_reducible show UnrEnd ..); refine stop_intro ?_) | ((with_reducible show UnrEndW ..); refine stop_intro ?_) | ((with_reducible show wpAny _ _ (loadName _ _) _ _ _); (k_here; k_dflt (refine ldn (by k_asm) (by first | exact rfl | ((repeat (refine Eq.trans (if_neg (by decide)) ?_)); with_reducible assumption)) ?_; k_whole))) | ((with_reducible show LeaveK ..); first | (with_reducible ((refine leaveK_ (by k_asm) (by k_asm) ?_; intro kF_z kN_z; try dsimp only))) | ((refine leaveK_ (by k_asm) (by k_asm) ?_; intro kF_z kN_z; try dsimp only))) | walk1 | (dsimp only; walk1) | (leave1; (try dsimp only)) | fail "no step"))
      · rename Fr g' _ _ _ => F₃
        rename News g' _ _ _ => N₃
        rename List.cons _ _ = _ => he
        rw [w3, w4] at he
        simp only [List.cons.injEq, and_true] at he
        obtain ⟨h1, h2, h3⟩ := he
        have e : alN xs (i + 1) = alN xs i + 1 := by rw [alN_succ, ← htg', if_pos (by rw [h1, h2, h3])]
        refine Stop.mk (UnrEnd.intro F₃ N₃ news (fun q hq => ?_) oI ⟨rfl, oI, ⟨_, by rw [e]; rfl⟩, u2⟩)
        simp only [List.mem_cons] at hq ⊢
        rcases hq with h | h <;> simp [h]
      · rename Fr g' _ _ _ => F₃
        rename News g' _ _ _ => N₃
        rename ¬(List.cons _ _ = _) => he
        rw [w3, w4] at he
        have e : alN xs (i + 1) = alN xs i := by
          rw [alN_succ, ← htg', if_neg (fun h => ?_), Nat.add_zero]
          simp only [Prod.mk.injEq] at h
          exact he (by rw [h.1, h.2.1, h.2.2])
        refine Stop.mk (UnrEnd.intro F₃ N₃ news (fun q hq => ?_) oI ⟨rfl, oI, ⟨_, by rw [e]; exact u3⟩, u2⟩)
        simp only [List.mem_cons] at hq ⊢
        rcases hq with h | h <;> simp [h]
end
end Mine
set_option Elab.async false
set_option maxRecDepth 100000
set_option maxHeartbeats 4000000
set_option linter.unusedVariables false
namespace Mine
open Builtin.Int (intBits)
theorem filled_cr (P : Params) : row.prog = row.prog ∧ hd.heap_1 P = hd.heap_1 P := by
  k_fill
  exact ⟨rfl, rfl⟩
section
variable {w : World} {pr : Program} {p : Program} {loose : List Str} {mean : ExcName → Option Value} {mg mb : Str → Option Value}
  {dp un : Nat} {gd : Option (List Code)} {cn : Str} {cs : Scope} {a : Addr} {ccd : Value} {cl : List (Str × Addr)} {outer : List Env} {A₀ : Around} {base h₀ : Heap} {L : Addr} {m : Str → Option Value} {s : Shared} {Q E : Value → Shared → Prop} {news : List (Addr × Obj)}
local macro_rules | `(tactic| k_mem) => `(tactic| with_reducible first | exact List.mem_cons_self | (refine List.mem_cons_of_mem _ ?_; k_mem))
theorem c_crossings {x : Addr} {vs : List Value} {nn : Nat} {ds : List Int}
  (B : Below A₀ base outer h₀) (F : Fr h₀ L s.heap m) (X : (Mine.hd.heap_1 w.params).In h₀) (N : News h₀ L s.heap news) (T : Top p loose mean mg mb h₀) (hcs : cs.kind = .function)
  (hd : dp + 8 < recursionLimit) (hu : un + 150 < cLine) (hcl : (x, listOf vs.toArray nn) ∈ news) (hv : IntsAre vs ds) (hlen : ds.length = 10)
  (hret : ∀ (c a1 a2 : Addr) (v1 v2 : List Value) (n1 n2 : Nat) (xs : List (Int × Bool)) (h' : Heap) (tk' : Nat) (new : List (Addr × Obj)), Fr h₀ L h' m → News h₀ L h' (new ++ news) → (∀ q ∈ new, ∀ p ∈ news, p.1 ≠ q.1) → (c, tupObj [.ref a1, .ref a2]) ∈ new → (a1, listOf v1.toArray n1) ∈ new → (a2, listOf v2.toArray n2) ∈ new →
    CrossAre new v1 xs → IntsAre v2 (seatsOf xs) → 3 ≤ xs.length → xs.length ≤ 8 → (∀ x ∈ xs, x.1 = 0 ∨ x.1 = 1) → Q (.ref c) { s with heap := h', toks := tk' }) :
  wpAny (model pr w) (ktrTop dp un gd cn cs L a ccd cl outer) (call (.ref 215) [.ref x]) Q E s := by
  refine' enterH [(Str.ofString "cells", .ref x)] [] news B F X N T hcs (by omega) (fun _ _ _ h => nomatch h) ?k6 ?k7 (BindsTo.of_eq ?k9) (locs ?kB) ?c2 ?c3 ?c4 ?c5 ?_
  case k6 => k_is
  case k7 => k_is
  case k9 => exact rfl
  case kB => exact rfl
  case c2 => exact rfl
  case c3 => exact rfl
  case c4 => exact rfl
  case c5 => decide
  intro g' L' h' F' N' hrest st B' X' T' _
  have hcells : g'.get? x = some (listOf vs.toArray nn) := hrest _ hcl
  clear B F X N T
  (try dsimp only); (try k_lift B'); (try k_fold)
  (repeat' (first | (k_unfold; (try dsimp only)) | (k_end; kc_close) | ((with_reducible show wpAny _ _ (subscriptTail _ _ (Value.ref ..) (Value.int ..)) _ _ _); (k_here; (with_reducible show wpAny _ _ (subscriptTail _ _ (Value.ref _) (Value.int (Int.fmod _ _) _)) _ _ _); k_dflt first | (refine sub_refs cmpF (by exact News.isList (by k_asm) (by k_mem)) (by exact rfl) (by with_reducible assumption) (by exact y_six (by with_reducible assumption)) (by exact Int.lt_trans (Int.fmod_lt_of_pos _ (by decide)) (by decide)) ?_) | (refine kbo_sub (bs := cmpL _ _) (by k_asm) (by k_mem) (by exact .cons _ (.cons _ (.cons _ (.cons _ (.cons _ (.cons _ .nil)))))) (by with_reducible assumption) (by exact y_six (by with_reducible assumption)) (by exact Int.lt_trans (Int.fmod_lt_of_pos _ (by decide)) (by decide)) ?_))) | ((with_reducible show wpAny _ _ (subscriptTail _ _ (Value.ref ..) (Value.int ..)) _ _ _); k_dflt (refine sub_int (by exact fr_list (by k_asm) (by with_reducible assumption)) (by with_reducible assumption) (by omega) (by omega) (by omega) ?_; intro _)) | ((with_reducible show wpAny _ _ (subscriptTail _ _ (Value.ref ..) (Value.int ..)) _ _ _); (k_here; (with_reducible show wpAny _ _ (subscriptTail _ _ (Value.ref _) (Value.int (List.getD _ _ _) _)) _ _ _); k_dflt (refine KTb.item_list (by exact News.isList (by k_asm) (by k_mem)) (by with_reducible assumption) (by omega) (by omega) (by omega) ?_; intro _ _))) | ((with_reducible show wpAny _ _ (subscriptTail _ _ (Value.ref ..) (Value.int ..)) _ _ _); (k_here; (with_reducible show wpAny _ _ (subscriptTail _ _ (Value.ref _) (Value.int (Int.fmod _ _) _)) _ _ _); k_dflt first | (refine sub_refs cmpF (by exact News.isList (by k_asm) (by k_mem)) (by exact rfl) (by with_reducible assumption) (by exact y_six (by with_reducible assumption)) (by exact Int.lt_trans (Int.fmod_lt_of_pos _ (by decide)) (by decide)) ?_) | (refine kbo_sub (bs := cmpL _ _) (by k_asm) (by k_mem) (by exact .cons _ (.cons _ (.cons _ (.cons _ (.cons _ (.cons _ .nil)))))) (by with_reducible assumption) (by exact y_six (by with_reducible assumption)) (by exact Int.lt_trans (Int.fmod_lt_of_pos _ (by decide)) (by decide)) ?_))) | ((with_reducible show wpAny _ _ (subscriptTail _ _ (Value.ref ..) (Value.int ..)) _ _ _); k_dflt (refine sub_int (by exact fr_list (by k_asm) (by with_reducible assumption)) (by with_reducible assumption) (by omega) (by omega) (by omega) ?_; intro _)) | ((with_reducible show wpAny _ _ (binaryOp Operator.FloorDiv (Value.int ..) (Value.int ..)) _ _ _); first | (with_reducible (((with_reducible show wpAny _ _ (binaryOp _ (Value.int _ _) (Value.int (HPow.hPow _ _) _)) _ _ _); (refine floordiv_int (h24 (by omega)).1 ?_ (Or.inl (noPy (h24 (by omega)).2 (by decide))))))) | (((with_reducible show wpAny _ _ (binaryOp _ (Value.int _ _) (Value.int (HPow.hPow _ _) _)) _ _ _); (refine floordiv_int (h24 (by omega)).1 ?_ (Or.inl (noPy (h24 (by omega)).2 (by decide))))))) | ((with_reducible show wpAny _ _ (call (Value.type "range") _) _ _ _); ((rename Fr _ _ _ _ => F_z); (rename News _ _ _ _ => N_z); (with_unfolding_all refine range1_rows F_z N_z ?_); clear F_z N_z; intro h9_z tk9_z t91_z u91_z v91_z R9_z F9_z N9_z K9_z; refine stop_intro ?_)) | ((with_reducible show wpAny _ _ (compareOp CmpOp.NotEq (Value.ref ..) (Value.ref ..)) _ _ _); k_dflt (refine ne_strs (by exact News.isList (by k_asm) (by k_mem)) (by exact News.isList (by k_asm) (by k_mem)) (by assumption) (by assumption) (by assumption) (by assumption) (by (first | exact unit_up (by with_reducible assumption) (by decide) | ktr_units)) ?_)) | ((with_reducible show wpAny _ _ (eval (PySem.Expr.IfExp ..) _) _ _ _); first | (with_reducible (((fail_if_success (with_reducible show wpAny _ _ _ (StrQ _) _ _)); refine str_cut ?_ ?_; rotate_left; (intro _ _ _); rotate_left))) | (((fail_if_success (with_reducible show wpAny _ _ _ (StrQ _) _ _)); refine str_cut ?_ ?_; rotate_left; (intro _ _ _); rotate_left))) | ((with_reducible show wpAny _ _ (eval (PySem.Expr.Name ..) _) _ _ _); (k_here; k_dflt (refine ld (by k_asm) (by first | exact rfl | ((repeat (refine Eq.trans (if_neg (by decide)) ?_)); with_reducible assumption)) ?_; k_whole))) | ((with_reducible show wpAny _ _ (call (Value.ref ..) _) _ _ _); k_dflt (refine c_way (by k_asm) (by k_asm) (by k_asm) (by k_asm) (by k_asm) (by first | with_reducible assumption | exact rfl) (by (first | exact room_up (by with_reducible assumption) (by decide) | ktr_room)) (by (first | exact unit_up (by with_reducible assumption) (by decide) | ktr_units)) _ _ (by exact cmp_at (y_nat (by with_reducible assumption))) ?_; intro t9_z h9_z tk9_z F9_z N9_z; try dsimp only)) | ((with_reducible show wpAny _ _ (callWith _ (Value.ref ..) _ _ _) _ _ _); k_dflt (refine callWith_K (by k_asm) (by exact cmpIn _ _ (y_nat (by with_reducible assumption))) ?_; k_whole)) | ((with_reducible show wpAny _ _ (call (Value.ref ..) _) _ _ _); k_dflt (refine c_getitem (by k_asm) (by k_asm) (by k_asm) (by k_asm) (by k_asm) (by first | with_reducible assumption | exact rfl) (by (first | exact room_up (by with_reducible assumption) (by decide) | ktr_room)) (by (first | exact unit_up (by with_reducible assumption) (by decide) | ktr_units)) (by k_mem) (by with_reducible assumption) (by omega) (by omega) (by omega) ?_; intro t9_z h9_z tk9_z F9_z N9_z; try dsimp only)) | ((with_reducible show wpAny _ _ (call (Value.ref ..) _) _ _ _); k_dflt (refine c_written (by k_asm) (by k_asm) (by k_asm) (by k_asm) (by k_asm) (by first | with_reducible assumption | exact rfl) (by (first | exact room_up (by with_reducible assumption) (by decide) | ktr_room)) (by (first | exact unit_up (by with_reducible assumption) (by decide) | ktr_units)) ?_; intro c9_z a1_z a2_z a3_z vb_z vw_z vd_z bs_z ws_z n1_z n2_z n3_z h9_z tk9_z new9_z F9_z N9_z ap9_z m0_z m1_z m2_z m3_z i1_z i2_z i3_z l1_z l2_z hok_z; have N8_z := news_four N9_z m0_z m1_z m2_z m3_z; clear N9_z ap9_z m0_z m1_z m2_z m3_z; try dsimp only)) | ((with_reducible show UnrEnd ..); refine stop_intro ?_) | ((with_reducible show StrQ ..); first | (with_reducible (exact ⟨_, _, _, rfl, rfl⟩)) | (exact ⟨_, _, _, rfl, rfl⟩)) | ((with_reducible show wpAny _ _ (loadName _ _) _ _ _); (k_here; k_dflt (refine ldn (by k_asm) (by first | exact rfl | ((repeat (refine Eq.trans (if_neg (by decide)) ?_)); with_reducible assumption)) ?_; k_whole))) | ((with_reducible show LeaveH _ _ _ _ _ _ _ _); first | (with_reducible ((refine leaveH_ (by k_asm) (by k_asm) ?_; intro kF_z kN_z kA_z; try dsimp only))) | ((refine leaveH_ (by k_asm) (by k_asm) ?_; intro kF_z kN_z kA_z; try dsimp only))) | walk1 | (dsimp only; walk1) | (leave1; (try dsimp only)) | fail "no step"))
  refine Stop.mk ?_
  rename IsRange _ _ _ _ _ _ _ _ => R
  obtain ⟨n, hn, hn3, hn8⟩ : ∃ n : Nat, (3 + (ds.getD (Int.toNat 0) 0).fmod 6) = (n : Int) ∧ 3 ≤ n ∧ n ≤ 8 := by
    have h0 := Int.fmod_nonneg_of_pos (ds.getD (Int.toNat 0) 0) (by decide : (0 : Int) < 6)
    have h1 := Int.fmod_lt_of_pos (ds.getD (Int.toNat 0) 0) (by decide : (0 : Int) < 6)
    exact ⟨(3 + (ds.getD (Int.toNat 0) 0).fmod 6).toNat, by omega, by omega, by omega⟩
  rw [hn] at R
  try dsimp only at R
  rename Fr _ _ _ _ => F9
  rename News _ _ _ _ => N9
  rename _ < _ ∧ _ < _ ∧ _ < _ ∧ _ < _ ∧ _ < _ ∧ _ < _ => l3
  rename _ < _ ∧ _ < _ ∧ _ < _ ∧ _ < _ ∧ _ < _ => l2
  rename _ < _ ∧ _ < _ ∧ _ < _ ∧ _ < _ => l1
  refine cr_start N9 F9 l1 l2 ?_
  clear N9 F9 l1 l2 l3
  intro cr st a1 a2 mm N9 F9 d1 d2 d3 d4 d5 hJ0
  obtain ⟨r1, r2⟩ := range_8 hn8
  refine iter_rangeUnr (n := n) rfl R r1 r2 F9 N9 ?_
  intro I hI
  refine range_rest (CrJ I x a1 a2 cr st _ _ _ _) n ?turn ?done n 0 _ _ (by omega) (hJ0 I hI)
  case turn =>
    clear N9 F9 hJ0 R hI
    intro i m' news' t h9 tk9 hi hJ F N
    obtain ⟨vc, nc, vt, nt, xs, tl, rfl, oc, ot, oI, hx, hs, hlx, hpl, e1, e2, e3, e4, e5⟩ := hJ
    have sh := shape_of N
    have q0 : 0 ≤ (0 + (i : Int)).fmod 4 := Int.fmod_nonneg_of_pos _ (by decide)
    have q1 : (0 + (i : Int)).fmod 4 < 4 := Int.fmod_lt_of_pos _ (by decide)
    have q2 : 0 ≤ (0 + (i : Int)).fdiv 4 ∧ (0 + (i : Int)).fdiv 4 ≤ 1 := by
      rw [Int.fdiv_eq_ediv_of_nonneg _ (by decide)]; omega
    generalize hM : (fun y => if y = Str.ofString "k" then some (Value.int (0 + (i : Int)) t) else m' y) = m2 at F
    have u0 : m2 (Str.ofString "k") = some (.int (0 + (i : Int)) t) := by rw [← hM]; rfl
    replace e1 : m2 (Str.ofString "cells") = some (.ref x) := by rw [← hM]; exact e1
    replace e2 : m2 (Str.ofString "bare") = some (.ref a1) := by rw [← hM]; exact e2
    replace e3 : m2 (Str.ofString "written") = some (.ref a2) := by rw [← hM]; exact e3
    replace e4 : m2 (Str.ofString "crossings") = some (.ref cr) := by rw [← hM]; exact e4
    replace e5 : m2 (Str.ofString "seats") = some (.ref st) := by rw [← hM]; exact e5
    clear hM
    refine wpAny_execs_cons (fig_cut F N ?_ ?_)
    · (try dsimp only)
      (repeat' (first | (k_unfold; (try dsimp only)) | (k_end; kc_close) | ((with_reducible show wpAny _ _ (subscriptTail _ _ (Value.ref ..) (Value.int ..)) _ _ _); (k_here; (with_reducible show wpAny _ _ (subscriptTail _ _ (Value.ref _) (Value.int (Int.fmod _ _) _)) _ _ _); k_dflt first | (refine sub_refs cmpF (by exact News.isList (by k_asm) (by k_mem)) (by exact rfl) (by with_reducible assumption) (by exact y_six (by with_reducible assumption)) (by exact Int.lt_trans (Int.fmod_lt_of_pos _ (by decide)) (by decide)) ?_) | (refine kbo_sub (bs := cmpL _ _) (by k_asm) (by k_mem) (by exact .cons _ (.cons _ (.cons _ (.cons _ (.cons _ (.cons _ .nil)))))) (by with_reducible assumption) (by exact y_six (by with_reducible assumption)) (by exact Int.lt_trans (Int.fmod_lt_of_pos _ (by decide)) (by decide)) ?_))) | ((with_reducible show wpAny _ _ (subscriptTail _ _ (Value.ref ..) (Value.int ..)) _ _ _); k_dflt (refine sub_int (by exact fr_list (by k_asm) (by with_reducible assumption)) (by with_reducible assumption) (by omega) (by omega) (by omega) ?_; intro _)) | ((with_reducible show wpAny _ _ (subscriptTail _ _ (Value.ref ..) (Value.int ..)) _ _ _); (k_here; (with_reducible show wpAny _ _ (subscriptTail _ _ (Value.ref _) (Value.int (List.getD _ _ _) _)) _ _ _); k_dflt (refine KTb.item_list (by exact News.isList (by k_asm) (by k_mem)) (by with_reducible assumption) (by omega) (by omega) (by omega) ?_; intro _ _))) | ((with_reducible show wpAny _ _ (subscriptTail _ _ (Value.ref ..) (Value.int ..)) _ _ _); (k_here; (with_reducible show wpAny _ _ (subscriptTail _ _ (Value.ref _) (Value.int (Int.fmod _ _) _)) _ _ _); k_dflt first | (refine sub_refs cmpF (by exact News.isList (by k_asm) (by k_mem)) (by exact rfl) (by with_reducible assumption) (by exact y_six (by with_reducible assumption)) (by exact Int.lt_trans (Int.fmod_lt_of_pos _ (by decide)) (by decide)) ?_) | (refine kbo_sub (bs := cmpL _ _) (by k_asm) (by k_mem) (by exact .cons _ (.cons _ (.cons _ (.cons _ (.cons _ (.cons _ .nil)))))) (by with_reducible assumption) (by exact y_six (by with_reducible assumption)) (by exact Int.lt_trans (Int.fmod_lt_of_pos _ (by decide)) (by decide)) ?_))) | ((with_reducible show wpAny _ _ (subscriptTail _ _ (Value.ref ..) (Value.int ..)) _ _ _); k_dflt (refine sub_int (by exact fr_list (by k_asm) (by with_reducible assumption)) (by with_reducible assumption) (by omega) (by omega) (by omega) ?_; intro _)) | ((with_reducible show wpAny _ _ (binaryOp Operator.FloorDiv (Value.int ..) (Value.int ..)) _ _ _); first | (with_reducible (((with_reducible show wpAny _ _ (binaryOp _ (Value.int _ _) (Value.int (HPow.hPow _ _) _)) _ _ _); (refine floordiv_int (h24 (by omega)).1 ?_ (Or.inl (noPy (h24 (by omega)).2 (by decide))))))) | (((with_reducible show wpAny _ _ (binaryOp _ (Value.int _ _) (Value.int (HPow.hPow _ _) _)) _ _ _); (refine floordiv_int (h24 (by omega)).1 ?_ (Or.inl (noPy (h24 (by omega)).2 (by decide))))))) | ((with_reducible show wpAny _ _ (call (Value.type "range") _) _ _ _); ((rename Fr _ _ _ _ => F_z); (rename News _ _ _ _ => N_z); (with_unfolding_all refine range1_rows F_z N_z ?_); clear F_z N_z; intro h9_z tk9_z t91_z u91_z v91_z R9_z F9_z N9_z K9_z; refine stop_intro ?_)) | ((with_reducible show wpAny _ _ (compareOp CmpOp.NotEq (Value.ref ..) (Value.ref ..)) _ _ _); k_dflt (refine ne_strs (by exact News.isList (by k_asm) (by k_mem)) (by exact News.isList (by k_asm) (by k_mem)) (by assumption) (by assumption) (by assumption) (by assumption) (by (first | exact unit_up (by with_reducible assumption) (by decide) | ktr_units)) ?_)) | ((with_reducible show wpAny _ _ (eval (PySem.Expr.IfExp ..) _) _ _ _); first | (with_reducible (((fail_if_success (with_reducible show wpAny _ _ _ (StrQ _) _ _)); refine str_cut ?_ ?_; rotate_left; (intro _ _ _); rotate_left))) | (((fail_if_success (with_reducible show wpAny _ _ _ (StrQ _) _ _)); refine str_cut ?_ ?_; rotate_left; (intro _ _ _); rotate_left))) | ((with_reducible show wpAny _ _ (eval (PySem.Expr.Name ..) _) _ _ _); (k_here; k_dflt (refine ld (by k_asm) (by first | exact rfl | ((repeat (refine Eq.trans (if_neg (by decide)) ?_)); with_reducible assumption)) ?_; k_whole))) | ((with_reducible show wpAny _ _ (call (Value.ref ..) _) _ _ _); k_dflt (refine c_way (by k_asm) (by k_asm) (by k_asm) (by k_asm) (by k_asm) (by first | with_reducible assumption | exact rfl) (by (first | exact room_up (by with_reducible assumption) (by decide) | ktr_room)) (by (first | exact unit_up (by with_reducible assumption) (by decide) | ktr_units)) _ _ (by exact cmp_at (y_nat (by with_reducible assumption))) ?_; intro t9_z h9_z tk9_z F9_z N9_z; try dsimp only)) | ((with_reducible show wpAny _ _ (callWith _ (Value.ref ..) _ _ _) _ _ _); k_dflt (refine callWith_K (by k_asm) (by exact cmpIn _ _ (y_nat (by with_reducible assumption))) ?_; k_whole)) | ((with_reducible show wpAny _ _ (call (Value.ref ..) _) _ _ _); k_dflt (refine c_getitem (by k_asm) (by k_asm) (by k_asm) (by k_asm) (by k_asm) (by first | with_reducible assumption | exact rfl) (by (first | exact room_up (by with_reducible assumption) (by decide) | ktr_room)) (by (first | exact unit_up (by with_reducible assumption) (by decide) | ktr_units)) (by k_mem) (by with_reducible assumption) (by omega) (by omega) (by omega) ?_; intro t9_z h9_z tk9_z F9_z N9_z; try dsimp only)) | ((with_reducible show wpAny _ _ (call (Value.ref ..) _) _ _ _); k_dflt (refine c_written (by k_asm) (by k_asm) (by k_asm) (by k_asm) (by k_asm) (by first | with_reducible assumption | exact rfl) (by (first | exact room_up (by with_reducible assumption) (by decide) | ktr_room)) (by (first | exact unit_up (by with_reducible assumption) (by decide) | ktr_units)) ?_; intro c9_z a1_z a2_z a3_z vb_z vw_z vd_z bs_z ws_z n1_z n2_z n3_z h9_z tk9_z new9_z F9_z N9_z ap9_z m0_z m1_z m2_z m3_z i1_z i2_z i3_z l1_z l2_z hok_z; have N8_z := news_four N9_z m0_z m1_z m2_z m3_z; clear N9_z ap9_z m0_z m1_z m2_z m3_z; try dsimp only)) | ((with_reducible show UnrEnd ..); refine stop_intro ?_) | ((with_reducible show StrQ ..); first | (with_reducible (exact ⟨_, _, _, rfl, rfl⟩)) | (exact ⟨_, _, _, rfl, rfl⟩)) | ((with_reducible show wpAny _ _ (loadName _ _) _ _ _); (k_here; k_dflt (refine ldn (by k_asm) (by first | exact rfl | ((repeat (refine Eq.trans (if_neg (by decide)) ?_)); with_reducible assumption)) ?_; k_whole))) | ((with_reducible show LeaveH _ _ _ _ _ _ _ _); first | (with_reducible ((refine leaveH_ (by k_asm) (by k_asm) ?_; intro kF_z kN_z kA_z; try dsimp only))) | ((refine leaveH_ (by k_asm) (by k_asm) ?_; intro kF_z kN_z kA_z; try dsimp only))) | walk1 | (dsimp only; walk1) | (leave1; (try dsimp only)) | fail "no step"))
      exact ⟨_, _, _, _, rfl, rfl, Int.fmod_nonneg_of_pos _ (by decide), Int.fmod_lt_of_pos _ (by decide), by assumption, by assumption⟩
    · clear F N
      intro v tv h₂ tk₂ v0 v1 F₂ N₂
      (try dsimp only)
      generalize hM : (fun y => if y = Str.ofString "figure" then some (Value.int v tv) else m2 y) = m3 at F₂
      have u1 : m3 (Str.ofString "figure") = some (.int v tv) := by rw [← hM]; rfl
      replace e2 : m3 (Str.ofString "bare") = some (.ref a1) := by rw [← hM]; exact e2
      replace e1 : m3 (Str.ofString "cells") = some (.ref x) := by rw [← hM]; exact e1
      replace e3 : m3 (Str.ofString "written") = some (.ref a2) := by rw [← hM]; exact e3
      replace e4 : m3 (Str.ofString "crossings") = some (.ref cr) := by rw [← hM]; exact e4
      replace e5 : m3 (Str.ofString "seats") = some (.ref st) := by rw [← hM]; exact e5
      clear hM u0
      have p0 : 0 ≤ v.fmod 2 := Int.fmod_nonneg_of_pos _ (by decide)
      have p1 : v.fmod 2 < 2 := Int.fmod_lt_of_pos _ (by decide)
      have y0 : 0 ≤ (v.fdiv 2).fmod 6 := Int.fmod_nonneg_of_pos _ (by decide)
      have y1 : (v.fdiv 2).fmod 6 < 6 := Int.fmod_lt_of_pos _ (by decide)
      obtain ⟨sl, si⟩ := seats_in3 hpl
      have pp : v.fmod 2 = 0 ∨ v.fmod 2 = 1 := by omega
      have b1 := si _ p0 (by omega)
      have b2 := si (v.fmod 2 + 1) (by omega) (by omega)
      (repeat' (first | (k_unfold; (try dsimp only)) | (k_end; kc_close) | ((with_reducible show wpAny _ _ (subscriptTail _ _ (Value.ref ..) (Value.int ..)) _ _ _); (k_here; (with_reducible show wpAny _ _ (subscriptTail _ _ (Value.ref _) (Value.int (Int.fmod _ _) _)) _ _ _); k_dflt first | (refine sub_refs cmpF (by exact News.isList (by k_asm) (by k_mem)) (by exact rfl) (by with_reducible assumption) (by exact y_six (by with_reducible assumption)) (by exact Int.lt_trans (Int.fmod_lt_of_pos _ (by decide)) (by decide)) ?_) | (refine kbo_sub (bs := cmpL _ _) (by k_asm) (by k_mem) (by exact .cons _ (.cons _ (.cons _ (.cons _ (.cons _ (.cons _ .nil)))))) (by with_reducible assumption) (by exact y_six (by with_reducible assumption)) (by exact Int.lt_trans (Int.fmod_lt_of_pos _ (by decide)) (by decide)) ?_))) | ((with_reducible show wpAny _ _ (subscriptTail _ _ (Value.ref ..) (Value.int ..)) _ _ _); k_dflt (refine sub_int (by exact fr_list (by k_asm) (by with_reducible assumption)) (by with_reducible assumption) (by omega) (by omega) (by omega) ?_; intro _)) | ((with_reducible show wpAny _ _ (subscriptTail _ _ (Value.ref ..) (Value.int ..)) _ _ _); (k_here; (with_reducible show wpAny _ _ (subscriptTail _ _ (Value.ref _) (Value.int (List.getD _ _ _) _)) _ _ _); k_dflt (refine KTb.item_list (by exact News.isList (by k_asm) (by k_mem)) (by with_reducible assumption) (by omega) (by omega) (by omega) ?_; intro _ _))) | ((with_reducible show wpAny _ _ (subscriptTail _ _ (Value.ref ..) (Value.int ..)) _ _ _); (k_here; (with_reducible show wpAny _ _ (subscriptTail _ _ (Value.ref _) (Value.int (Int.fmod _ _) _)) _ _ _); k_dflt first | (refine sub_refs cmpF (by exact News.isList (by k_asm) (by k_mem)) (by exact rfl) (by with_reducible assumption) (by exact y_six (by with_reducible assumption)) (by exact Int.lt_trans (Int.fmod_lt_of_pos _ (by decide)) (by decide)) ?_) | (refine kbo_sub (bs := cmpL _ _) (by k_asm) (by k_mem) (by exact .cons _ (.cons _ (.cons _ (.cons _ (.cons _ (.cons _ .nil)))))) (by with_reducible assumption) (by exact y_six (by with_reducible assumption)) (by exact Int.lt_trans (Int.fmod_lt_of_pos _ (by decide)) (by decide)) ?_))) | ((with_reducible show wpAny _ _ (subscriptTail _ _ (Value.ref ..) (Value.int ..)) _ _ _); k_dflt (refine sub_int (by exact fr_list (by k_asm) (by with_reducible assumption)) (by with_reducible assumption) (by omega) (by omega) (by omega) ?_; intro _)) | ((with_reducible show wpAny _ _ (binaryOp Operator.FloorDiv (Value.int ..) (Value.int ..)) _ _ _); first | (with_reducible (((with_reducible show wpAny _ _ (binaryOp _ (Value.int _ _) (Value.int (HPow.hPow _ _) _)) _ _ _); (refine floordiv_int (h24 (by omega)).1 ?_ (Or.inl (noPy (h24 (by omega)).2 (by decide))))))) | (((with_reducible show wpAny _ _ (binaryOp _ (Value.int _ _) (Value.int (HPow.hPow _ _) _)) _ _ _); (refine floordiv_int (h24 (by omega)).1 ?_ (Or.inl (noPy (h24 (by omega)).2 (by decide))))))) | ((with_reducible show wpAny _ _ (call (Value.type "range") _) _ _ _); ((rename Fr _ _ _ _ => F_z); (rename News _ _ _ _ => N_z); (with_unfolding_all refine range1_rows F_z N_z ?_); clear F_z N_z; intro h9_z tk9_z t91_z u91_z v91_z R9_z F9_z N9_z K9_z; refine stop_intro ?_)) | ((with_reducible show wpAny _ _ (compareOp CmpOp.NotEq (Value.ref ..) (Value.ref ..)) _ _ _); k_dflt (refine ne_strs (by exact News.isList (by k_asm) (by k_mem)) (by exact News.isList (by k_asm) (by k_mem)) (by assumption) (by assumption) (by assumption) (by assumption) (by (first | exact unit_up (by with_reducible assumption) (by decide) | ktr_units)) ?_)) | ((with_reducible show wpAny _ _ (eval (PySem.Expr.IfExp ..) _) _ _ _); first | (with_reducible (((fail_if_success (with_reducible show wpAny _ _ _ (StrQ _) _ _)); refine str_cut ?_ ?_; rotate_left; (intro _ _ _); rotate_left))) | (((fail_if_success (with_reducible show wpAny _ _ _ (StrQ _) _ _)); refine str_cut ?_ ?_; rotate_left; (intro _ _ _); rotate_left))) | ((with_reducible show wpAny _ _ (eval (PySem.Expr.Name ..) _) _ _ _); (k_here; k_dflt (refine ld (by k_asm) (by first | exact rfl | ((repeat (refine Eq.trans (if_neg (by decide)) ?_)); with_reducible assumption)) ?_; k_whole))) | ((with_reducible show wpAny _ _ (call (Value.ref ..) _) _ _ _); k_dflt (refine c_way (by k_asm) (by k_asm) (by k_asm) (by k_asm) (by k_asm) (by first | with_reducible assumption | exact rfl) (by (first | exact room_up (by with_reducible assumption) (by decide) | ktr_room)) (by (first | exact unit_up (by with_reducible assumption) (by decide) | ktr_units)) _ _ (by exact cmp_at (y_nat (by with_reducible assumption))) ?_; intro t9_z h9_z tk9_z F9_z N9_z; try dsimp only)) | ((with_reducible show wpAny _ _ (callWith _ (Value.ref ..) _ _ _) _ _ _); k_dflt (refine callWith_K (by k_asm) (by exact cmpIn _ _ (y_nat (by with_reducible assumption))) ?_; k_whole)) | ((with_reducible show wpAny _ _ (call (Value.ref ..) _) _ _ _); k_dflt (refine c_getitem (by k_asm) (by k_asm) (by k_asm) (by k_asm) (by k_asm) (by first | with_reducible assumption | exact rfl) (by (first | exact room_up (by with_reducible assumption) (by decide) | ktr_room)) (by (first | exact unit_up (by with_reducible assumption) (by decide) | ktr_units)) (by k_mem) (by with_reducible assumption) (by omega) (by omega) (by omega) ?_; intro t9_z h9_z tk9_z F9_z N9_z; try dsimp only)) | ((with_reducible show wpAny _ _ (call (Value.ref ..) _) _ _ _); k_dflt (refine c_written (by k_asm) (by k_asm) (by k_asm) (by k_asm) (by k_asm) (by first | with_reducible assumption | exact rfl) (by (first | exact room_up (by with_reducible assumption) (by decide) | ktr_room)) (by (first | exact unit_up (by with_reducible assumption) (by decide) | ktr_units)) ?_; intro c9_z a1_z a2_z a3_z vb_z vw_z vd_z bs_z ws_z n1_z n2_z n3_z h9_z tk9_z new9_z F9_z N9_z ap9_z m0_z m1_z m2_z m3_z i1_z i2_z i3_z l1_z l2_z hok_z; have N8_z := news_four N9_z m0_z m1_z m2_z m3_z; clear N9_z ap9_z m0_z m1_z m2_z m3_z; try dsimp only)) | ((with_reducible show UnrEnd ..); refine stop_intro ?_) | ((with_reducible show StrQ ..); first | (with_reducible (exact ⟨_, _, _, rfl, rfl⟩)) | (exact ⟨_, _, _, rfl, rfl⟩)) | ((with_reducible show wpAny _ _ (loadName _ _) _ _ _); (k_here; k_dflt (refine ldn (by k_asm) (by first | exact rfl | ((repeat (refine Eq.trans (if_neg (by decide)) ?_)); with_reducible assumption)) ?_; k_whole))) | ((with_reducible show LeaveH _ _ _ _ _ _ _ _); first | (with_reducible ((refine leaveH_ (by k_asm) (by k_asm) ?_; intro kF_z kN_z kA_z; try dsimp only))) | ((refine leaveH_ (by k_asm) (by k_asm) ?_; intro kF_z kN_z kA_z; try dsimp only))) | walk1 | (dsimp only; walk1) | (leave1; (try dsimp only)) | fail "no step"))
      · rename (_ != _) = true => hne
        exact absurd hne (by simp)
      rename Fr g' _ _ _ => F₃
      rename News g' _ _ _ => N₃
      have hI1 := oI _ (.head _)
      have hI2 := oI _ (.tail _ (.head _))
      have hI3 := oI _ (.tail _ (.tail _ (.head _)))
      have hI4 := oI _ (.tail _ (.tail _ (.tail _ (.head _))))
      have hI5 : Off I tl := fun p hp => oI p (.tail _ (.tail _ (.tail _ (.tail _ hp))))
      refine Stop.mk (app_cut F₃ N₃ sh d1 d2 d3 oc hI1 ?_ ?_ ?_)
      · rw [List.size_toArray, hx.length, hlx]
        exact Nat.le_trans (Nat.le_of_lt hi) (Nat.le_trans hn8 (by decide))
      · exact (by (repeat (refine List.forall_mem_cons.mpr ⟨(by repeat (first | exact List.Mem.head _ | refine List.Mem.tail _ ?_)), ?_⟩)); exact fun p h => (by repeat (first | exact h | refine List.Mem.tail _ ?_)))
      intro h₄ F₄ N₄ c1 c2 c3
      clear F₃ N₃
      dsimp only
      (repeat' (first | (k_unfold; (try dsimp only)) | (k_end; kc_close) | ((with_reducible show wpAny _ _ (subscriptTail _ _ (Value.ref ..) (Value.int ..)) _ _ _); (k_here; (with_reducible show wpAny _ _ (subscriptTail _ _ (Value.ref _) (Value.int (Int.fmod _ _) _)) _ _ _); k_dflt first | (refine sub_refs cmpF (by exact News.isList (by k_asm) (by k_mem)) (by exact rfl) (by with_reducible assumption) (by exact y_six (by with_reducible assumption)) (by exact Int.lt_trans (Int.fmod_lt_of_pos _ (by decide)) (by decide)) ?_) | (refine kbo_sub (bs := cmpL _ _) (by k_asm) (by k_mem) (by exact .cons _ (.cons _ (.cons _ (.cons _ (.cons _ (.cons _ .nil)))))) (by with_reducible assumption) (by exact y_six (by with_reducible assumption)) (by exact Int.lt_trans (Int.fmod_lt_of_pos _ (by decide)) (by decide)) ?_))) | ((with_reducible show wpAny _ _ (subscriptTail _ _ (Value.ref ..) (Value.int ..)) _ _ _); k_dflt (refine sub_int (by exact fr_list (by k_asm) (by with_reducible assumption)) (by with_reducible assumption) (by omega) (by omega) (by omega) ?_; intro _)) | ((with_reducible show wpAny _ _ (subscriptTail _ _ (Value.ref ..) (Value.int ..)) _ _ _); (k_here; (with_reducible show wpAny _ _ (subscriptTail _ _ (Value.ref _) (Value.int (List.getD _ _ _) _)) _ _ _); k_dflt (refine KTb.item_list (by exact News.isList (by k_asm) (by k_mem)) (by with_reducible assumption) (by omega) (by omega) (by omega) ?_; intro _ _))) | ((with_reducible show wpAny _ _ (subscriptTail _ _ (Value.ref ..) (Value.int ..)) _ _ _); (k_here; (with_reducible show wpAny _ _ (subscriptTail _ _ (Value.ref _) (Value.int (Int.fmod _ _) _)) _ _ _); k_dflt first | (refine sub_refs cmpF (by exact News.isList (by k_asm) (by k_mem)) (by exact rfl) (by with_reducible assumption) (by exact y_six (by with_reducible assumption)) (by exact Int.lt_trans (Int.fmod_lt_of_pos _ (by decide)) (by decide)) ?_) | (refine kbo_sub (bs := cmpL _ _) (by k_asm) (by k_mem) (by exact .cons _ (.cons _ (.cons _ (.cons _ (.cons _ (.cons _ .nil)))))) (by with_reducible assumption) (by exact y_six (by with_reducible assumption)) (by exact Int.lt_trans (Int.fmod_lt_of_pos _ (by decide)) (by decide)) ?_))) | ((with_reducible show wpAny _ _ (subscriptTail _ _ (Value.ref ..) (Value.int ..)) _ _ _); k_dflt (refine sub_int (by exact fr_list (by k_asm) (by with_reducible assumption)) (by with_reducible assumption) (by omega) (by omega) (by omega) ?_; intro _)) | ((with_reducible show wpAny _ _ (binaryOp Operator.FloorDiv (Value.int ..) (Value.int ..)) _ _ _); first | (with_reducible (((with_reducible show wpAny _ _ (binaryOp _ (Value.int _ _) (Value.int (HPow.hPow _ _) _)) _ _ _); (refine floordiv_int (h24 (by omega)).1 ?_ (Or.inl (noPy (h24 (by omega)).2 (by decide))))))) | (((with_reducible show wpAny _ _ (binaryOp _ (Value.int _ _) (Value.int (HPow.hPow _ _) _)) _ _ _); (refine floordiv_int (h24 (by omega)).1 ?_ (Or.inl (noPy (h24 (by omega)).2 (by decide))))))) | ((with_reducible show wpAny _ _ (call (Value.type "range") _) _ _ _); ((rename Fr _ _ _ _ => F_z); (rename News _ _ _ _ => N_z); (with_unfolding_all refine range1_rows F_z N_z ?_); clear F_z N_z; intro h9_z tk9_z t91_z u91_z v91_z R9_z F9_z N9_z K9_z; refine stop_intro ?_)) | ((with_reducible show wpAny _ _ (compareOp CmpOp.NotEq (Value.ref ..) (Value.ref ..)) _ _ _); k_dflt (refine ne_strs (by exact News.isList (by k_asm) (by k_mem)) (by exact News.isList (by k_asm) (by k_mem)) (by assumption) (by assumption) (by assumption) (by assumption) (by (first | exact unit_up (by with_reducible assumption) (by decide) | ktr_units)) ?_)) | ((with_reducible show wpAny _ _ (eval (PySem.Expr.IfExp ..) _) _ _ _); first | (with_reducible (((fail_if_success (with_reducible show wpAny _ _ _ (StrQ _) _ _)); refine str_cut ?_ ?_; rotate_left; (intro _ _ _); rotate_left))) | (((fail_if_success (with_reducible show wpAny _ _ _ (StrQ _) _ _)); refine str_cut ?_ ?_; rotate_left; (intro _ _ _); rotate_left))) | ((with_reducible show wpAny _ _ (eval (PySem.Expr.Name ..) _) _ _ _); (k_here; k_dflt (refine ld (by k_asm) (by first | exact rfl | ((repeat (refine Eq.trans (if_neg (by decide)) ?_)); with_reducible assumption)) ?_; k_whole))) | ((with_reducible show wpAny _ _ (call (Value.ref ..) _) _ _ _); k_dflt (refine c_way (by k_asm) (by k_asm) (by k_asm) (by k_asm) (by k_asm) (by first | with_reducible assumption | exact rfl) (by (first | exact room_up (by with_reducible assumption) (by decide) | ktr_room)) (by (first | exact unit_up (by with_reducible assumption) (by decide) | ktr_units)) _ _ (by exact cmp_at (y_nat (by with_reducible assumption))) ?_; intro t9_z h9_z tk9_z F9_z N9_z; try dsimp only)) | ((with_reducible show wpAny _ _ (callWith _ (Value.ref ..) _ _ _) _ _ _); k_dflt (refine callWith_K (by k_asm) (by exact cmpIn _ _ (y_nat (by with_reducible assumption))) ?_; k_whole)) | ((with_reducible show wpAny _ _ (call (Value.ref ..) _) _ _ _); k_dflt (refine c_getitem (by k_asm) (by k_asm) (by k_asm) (by k_asm) (by k_asm) (by first | with_reducible assumption | exact rfl) (by (first | exact room_up (by with_reducible assumption) (by decide) | ktr_room)) (by (first | exact unit_up (by with_reducible assumption) (by decide) | ktr_units)) (by k_mem) (by with_reducible assumption) (by omega) (by omega) (by omega) ?_; intro t9_z h9_z tk9_z F9_z N9_z; try dsimp only)) | ((with_reducible show wpAny _ _ (call (Value.ref ..) _) _ _ _); k_dflt (refine c_written (by k_asm) (by k_asm) (by k_asm) (by k_asm) (by k_asm) (by first | with_reducible assumption | exact rfl) (by (first | exact room_up (by with_reducible assumption) (by decide) | ktr_room)) (by (first | exact unit_up (by with_reducible assumption) (by decide) | ktr_units)) ?_; intro c9_z a1_z a2_z a3_z vb_z vw_z vd_z bs_z ws_z n1_z n2_z n3_z h9_z tk9_z new9_z F9_z N9_z ap9_z m0_z m1_z m2_z m3_z i1_z i2_z i3_z l1_z l2_z hok_z; have N8_z := news_four N9_z m0_z m1_z m2_z m3_z; clear N9_z ap9_z m0_z m1_z m2_z m3_z; try dsimp only)) | ((with_reducible show UnrEnd ..); refine stop_intro ?_) | ((with_reducible show StrQ ..); first | (with_reducible (exact ⟨_, _, _, rfl, rfl⟩)) | (exact ⟨_, _, _, rfl, rfl⟩)) | ((with_reducible show wpAny _ _ (loadName _ _) _ _ _); (k_here; k_dflt (refine ldn (by k_asm) (by first | exact rfl | ((repeat (refine Eq.trans (if_neg (by decide)) ?_)); with_reducible assumption)) ?_; k_whole))) | ((with_reducible show LeaveH _ _ _ _ _ _ _ _); first | (with_reducible ((refine leaveH_ (by k_asm) (by k_asm) ?_; intro kF_z kN_z kA_z; try dsimp only))) | ((refine leaveH_ (by k_asm) (by k_asm) ?_; intro kF_z kN_z kA_z; try dsimp only))) | walk1 | (dsimp only; walk1) | (leave1; (try dsimp only)) | fail "no step"))
      refine' c_setitem ?cB ?cF ?cX ?cN ?cT ?cK ?cd ?cu (off_st d1 d4 d5 c2 hI2 ot) hs p0 (by omega) (by omega) ?_
      (case cB => k_asm); (case cF => k_asm); (case cX => k_asm); (case cN => k_asm); (case cT => k_asm); (case cK => exact rfl); (case cd => (first | exact room_up (by with_reducible assumption) (by decide) | ktr_room)); (case cu => (first | exact unit_up (by with_reducible assumption) (by decide) | ktr_units))
      intro t8 h8 tk8 F8 N8
      try dsimp only
      (repeat' (first | (k_unfold; (try dsimp only)) | (k_end; kc_close) | ((with_reducible show wpAny _ _ (subscriptTail _ _ (Value.ref ..) (Value.int ..)) _ _ _); (k_here; (with_reducible show wpAny _ _ (subscriptTail _ _ (Value.ref _) (Value.int (Int.fmod _ _) _)) _ _ _); k_dflt first | (refine sub_refs cmpF (by exact News.isList (by k_asm) (by k_mem)) (by exact rfl) (by with_reducible assumption) (by exact y_six (by with_reducible assumption)) (by exact Int.lt_trans (Int.fmod_lt_of_pos _ (by decide)) (by decide)) ?_) | (refine kbo_sub (bs := cmpL _ _) (by k_asm) (by k_mem) (by exact .cons _ (.cons _ (.cons _ (.cons _ (.cons _ (.cons _ .nil)))))) (by with_reducible assumption) (by exact y_six (by with_reducible assumption)) (by exact Int.lt_trans (Int.fmod_lt_of_pos _ (by decide)) (by decide)) ?_))) | ((with_reducible show wpAny _ _ (subscriptTail _ _ (Value.ref ..) (Value.int ..)) _ _ _); k_dflt (refine sub_int (by exact fr_list (by k_asm) (by with_reducible assumption)) (by with_reducible assumption) (by omega) (by omega) (by omega) ?_; intro _)) | ((with_reducible show wpAny _ _ (subscriptTail _ _ (Value.ref ..) (Value.int ..)) _ _ _); (k_here; (with_reducible show wpAny _ _ (subscriptTail _ _ (Value.ref _) (Value.int (List.getD _ _ _) _)) _ _ _); k_dflt (refine KTb.item_list (by exact News.isList (by k_asm) (by k_mem)) (by with_reducible assumption) (by omega) (by omega) (by omega) ?_; intro _ _))) | ((with_reducible show wpAny _ _ (subscriptTail _ _ (Value.ref ..) (Value.int ..)) _ _ _); (k_here; (with_reducible show wpAny _ _ (subscriptTail _ _ (Value.ref _) (Value.int (Int.fmod _ _) _)) _ _ _); k_dflt first | (refine sub_refs cmpF (by exact News.isList (by k_asm) (by k_mem)) (by exact rfl) (by with_reducible assumption) (by exact y_six (by with_reducible assumption)) (by exact Int.lt_trans (Int.fmod_lt_of_pos _ (by decide)) (by decide)) ?_) | (refine kbo_sub (bs := cmpL _ _) (by k_asm) (by k_mem) (by exact .cons _ (.cons _ (.cons _ (.cons _ (.cons _ (.cons _ .nil)))))) (by with_reducible assumption) (by exact y_six (by with_reducible assumption)) (by exact Int.lt_trans (Int.fmod_lt_of_pos _ (by decide)) (by decide)) ?_))) | ((with_reducible show wpAny _ _ (subscriptTail _ _ (Value.ref ..) (Value.int ..)) _ _ _); k_dflt (refine sub_int (by exact fr_list (by k_asm) (by with_reducible assumption)) (by with_reducible assumption) (by omega) (by omega) (by omega) ?_; intro _)) | ((with_reducible show wpAny _ _ (binaryOp Operator.FloorDiv (Value.int ..) (Value.int ..)) _ _ _); first | (with_reducible (((with_reducible show wpAny _ _ (binaryOp _ (Value.int _ _) (Value.int (HPow.hPow _ _) _)) _ _ _); (refine floordiv_int (h24 (by omega)).1 ?_ (Or.inl (noPy (h24 (by omega)).2 (by decide))))))) | (((with_reducible show wpAny _ _ (binaryOp _ (Value.int _ _) (Value.int (HPow.hPow _ _) _)) _ _ _); (refine floordiv_int (h24 (by omega)).1 ?_ (Or.inl (noPy (h24 (by omega)).2 (by decide))))))) | ((with_reducible show wpAny _ _ (call (Value.type "range") _) _ _ _); ((rename Fr _ _ _ _ => F_z); (rename News _ _ _ _ => N_z); (with_unfolding_all refine range1_rows F_z N_z ?_); clear F_z N_z; intro h9_z tk9_z t91_z u91_z v91_z R9_z F9_z N9_z K9_z; refine stop_intro ?_)) | ((with_reducible show wpAny _ _ (compareOp CmpOp.NotEq (Value.ref ..) (Value.ref ..)) _ _ _); k_dflt (refine ne_strs (by exact News.isList (by k_asm) (by k_mem)) (by exact News.isList (by k_asm) (by k_mem)) (by assumption) (by assumption) (by assumption) (by assumption) (by (first | exact unit_up (by with_reducible assumption) (by decide) | ktr_units)) ?_)) | ((with_reducible show wpAny _ _ (eval (PySem.Expr.IfExp ..) _) _ _ _); first | (with_reducible (((fail_if_success (with_reducible show wpAny _ _ _ (StrQ _) _ _)); refine str_cut ?_ ?_; rotate_left; (intro _ _ _); rotate_left))) | (((fail_if_success (with_reducible show wpAny _ _ _ (StrQ _) _ _)); refine str_cut ?_ ?_; rotate_left; (intro _ _ _); rotate_left))) | ((with_reducible show wpAny _ _ (eval (PySem.Expr.Name ..) _) _ _ _); (k_here; k_dflt (refine ld (by k_asm) (by first | exact rfl | ((repeat (refine Eq.trans (if_neg (by decide)) ?_)); with_reducible assumption)) ?_; k_whole))) | ((with_reducible show wpAny _ _ (call (Value.ref ..) _) _ _ _); k_dflt (refine c_way (by k_asm) (by k_asm) (by k_asm) (by k_asm) (by k_asm) (by first | with_reducible assumption | exact rfl) (by (first | exact room_up (by with_reducible assumption) (by decide) | ktr_room)) (by (first | exact unit_up (by with_reducible assumption) (by decide) | ktr_units)) _ _ (by exact cmp_at (y_nat (by with_reducible assumption))) ?_; intro t9_z h9_z tk9_z F9_z N9_z; try dsimp only)) | ((with_reducible show wpAny _ _ (callWith _ (Value.ref ..) _ _ _) _ _ _); k_dflt (refine callWith_K (by k_asm) (by exact cmpIn _ _ (y_nat (by with_reducible assumption))) ?_; k_whole)) | ((with_reducible show wpAny _ _ (call (Value.ref ..) _) _ _ _); k_dflt (refine c_getitem (by k_asm) (by k_asm) (by k_asm) (by k_asm) (by k_asm) (by first | with_reducible assumption | exact rfl) (by (first | exact room_up (by with_reducible assumption) (by decide) | ktr_room)) (by (first | exact unit_up (by with_reducible assumption) (by decide) | ktr_units)) (by k_mem) (by with_reducible assumption) (by omega) (by omega) (by omega) ?_; intro t9_z h9_z tk9_z F9_z N9_z; try dsimp only)) | ((with_reducible show wpAny _ _ (call (Value.ref ..) _) _ _ _); k_dflt (refine c_written (by k_asm) (by k_asm) (by k_asm) (by k_asm) (by k_asm) (by first | with_reducible assumption | exact rfl) (by (first | exact room_up (by with_reducible assumption) (by decide) | ktr_room)) (by (first | exact unit_up (by with_reducible assumption) (by decide) | ktr_units)) ?_; intro c9_z a1_z a2_z a3_z vb_z vw_z vd_z bs_z ws_z n1_z n2_z n3_z h9_z tk9_z new9_z F9_z N9_z ap9_z m0_z m1_z m2_z m3_z i1_z i2_z i3_z l1_z l2_z hok_z; have N8_z := news_four N9_z m0_z m1_z m2_z m3_z; clear N9_z ap9_z m0_z m1_z m2_z m3_z; try dsimp only)) | ((with_reducible show UnrEnd ..); refine stop_intro ?_) | ((with_reducible show StrQ ..); first | (with_reducible (exact ⟨_, _, _, rfl, rfl⟩)) | (exact ⟨_, _, _, rfl, rfl⟩)) | ((with_reducible show wpAny _ _ (loadName _ _) _ _ _); (k_here; k_dflt (refine ldn (by k_asm) (by first | exact rfl | ((repeat (refine Eq.trans (if_neg (by decide)) ?_)); with_reducible assumption)) ?_; k_whole))) | ((with_reducible show LeaveH _ _ _ _ _ _ _ _); first | (with_reducible ((refine leaveH_ (by k_asm) (by k_asm) ?_; intro kF_z kN_z kA_z; try dsimp only))) | ((refine leaveH_ (by k_asm) (by k_asm) ?_; intro kF_z kN_z kA_z; try dsimp only))) | walk1 | (dsimp only; walk1) | (leave1; (try dsimp only)) | fail "no step"))
      refine' c_setitem ?cB ?cF ?cX ?cN ?cT ?cK ?cd ?cu (off_st d1 d4 d5 c2 hI2 ot) (ints_set hs _) ?g3 ?g4 ?g5 ?_
      (case cB => k_asm); (case cF => k_asm); (case cX => k_asm); (case cN => k_asm); (case cT => k_asm); (case cK => exact rfl); (case cd => (first | exact room_up (by with_reducible assumption) (by decide) | ktr_room)); (case cu => (first | exact unit_up (by with_reducible assumption) (by decide) | ktr_units)); (case g3 => omega); (case g4 => rw [List.length_set]; omega); (case g5 => omega)
      intro t7 h7 tk7 F7 N7
      try dsimp only
      (repeat' (first | (k_unfold; (try dsimp only)) | (k_end; kc_close) | ((with_reducible show wpAny _ _ (subscriptTail _ _ (Value.ref ..) (Value.int ..)) _ _ _); (k_here; (with_reducible show wpAny _ _ (subscriptTail _ _ (Value.ref _) (Value.int (Int.fmod _ _) _)) _ _ _); k_dflt first | (refine sub_refs cmpF (by exact News.isList (by k_asm) (by k_mem)) (by exact rfl) (by with_reducible assumption) (by exact y_six (by with_reducible assumption)) (by exact Int.lt_trans (Int.fmod_lt_of_pos _ (by decide)) (by decide)) ?_) | (refine kbo_sub (bs := cmpL _ _) (by k_asm) (by k_mem) (by exact .cons _ (.cons _ (.cons _ (.cons _ (.cons _ (.cons _ .nil)))))) (by with_reducible assumption) (by exact y_six (by with_reducible assumption)) (by exact Int.lt_trans (Int.fmod_lt_of_pos _ (by decide)) (by decide)) ?_))) | ((with_reducible show wpAny _ _ (subscriptTail _ _ (Value.ref ..) (Value.int ..)) _ _ _); k_dflt (refine sub_int (by exact fr_list (by k_asm) (by with_reducible assumption)) (by with_reducible assumption) (by omega) (by omega) (by omega) ?_; intro _)) | ((with_reducible show wpAny _ _ (subscriptTail _ _ (Value.ref ..) (Value.int ..)) _ _ _); (k_here; (with_reducible show wpAny _ _ (subscriptTail _ _ (Value.ref _) (Value.int (List.getD _ _ _) _)) _ _ _); k_dflt (refine KTb.item_list (by exact News.isList (by k_asm) (by k_mem)) (by with_reducible assumption) (by omega) (by omega) (by omega) ?_; intro _ _))) | ((with_reducible show wpAny _ _ (subscriptTail _ _ (Value.ref ..) (Value.int ..)) _ _ _); (k_here; (with_reducible show wpAny _ _ (subscriptTail _ _ (Value.ref _) (Value.int (Int.fmod _ _) _)) _ _ _); k_dflt first | (refine sub_refs cmpF (by exact News.isList (by k_asm) (by k_mem)) (by exact rfl) (by with_reducible assumption) (by exact y_six (by with_reducible assumption)) (by exact Int.lt_trans (Int.fmod_lt_of_pos _ (by decide)) (by decide)) ?_) | (refine kbo_sub (bs := cmpL _ _) (by k_asm) (by k_mem) (by exact .cons _ (.cons _ (.cons _ (.cons _ (.cons _ (.cons _ .nil)))))) (by with_reducible assumption) (by exact y_six (by with_reducible assumption)) (by exact Int.lt_trans (Int.fmod_lt_of_pos _ (by decide)) (by decide)) ?_))) | ((with_reducible show wpAny _ _ (subscriptTail _ _ (Value.ref ..) (Value.int ..)) _ _ _); k_dflt (refine sub_int (by exact fr_list (by k_asm) (by with_reducible assumption)) (by with_reducible assumption) (by omega) (by omega) (by omega) ?_; intro _)) | ((with_reducible show wpAny _ _ (binaryOp Operator.FloorDiv (Value.int ..) (Value.int ..)) _ _ _); first | (with_reducible (((with_reducible show wpAny _ _ (binaryOp _ (Value.int _ _) (Value.int (HPow.hPow _ _) _)) _ _ _); (refine floordiv_int (h24 (by omega)).1 ?_ (Or.inl (noPy (h24 (by omega)).2 (by decide))))))) | (((with_reducible show wpAny _ _ (binaryOp _ (Value.int _ _) (Value.int (HPow.hPow _ _) _)) _ _ _); (refine floordiv_int (h24 (by omega)).1 ?_ (Or.inl (noPy (h24 (by omega)).2 (by decide))))))) | ((with_reducible show wpAny _ _ (call (Value.type "range") _) _ _ _); ((rename Fr _ _ _ _ => F_z); (rename News _ _ _ _ => N_z); (with_unfolding_all refine range1_rows F_z N_z ?_); clear F_z N_z; intro h9_z tk9_z t91_z u91_z v91_z R9_z F9_z N9_z K9_z; refine stop_intro ?_)) | ((with_reducible show wpAny _ _ (compareOp CmpOp.NotEq (Value.ref ..) (Value.ref ..)) _ _ _); k_dflt (refine ne_strs (by exact News.isList (by k_asm) (by k_mem)) (by exact News.isList (by k_asm) (by k_mem)) (by assumption) (by assumption) (by assumption) (by assumption) (by (first | exact unit_up (by with_reducible assumption) (by decide) | ktr_units)) ?_)) | ((with_reducible show wpAny _ _ (eval (PySem.Expr.IfExp ..) _) _ _ _); first | (with_reducible (((fail_if_success (with_reducible show wpAny _ _ _ (StrQ _) _ _)); refine str_cut ?_ ?_; rotate_left; (intro _ _ _); rotate_left))) | (((fail_if_success (with_reducible show wpAny _ _ _ (StrQ _) _ _)); refine str_cut ?_ ?_; rotate_left; (intro _ _ _); rotate_left))) | ((with_reducible show wpAny _ _ (eval (PySem.Expr.Name ..) _) _ _ _); (k_here; k_dflt (refine ld (by k_asm) (by first | exact rfl | ((repeat (refine Eq.trans (if_neg (by decide)) ?_)); with_reducible assumption)) ?_; k_whole))) | ((with_reducible show wpAny _ _ (call (Value.ref ..) _) _ _ _); k_dflt (refine c_way (by k_asm) (by k_asm) (by k_asm) (by k_asm) (by k_asm) (by first | with_reducible assumption | exact rfl) (by (first | exact room_up (by with_reducible assumption) (by decide) | ktr_room)) (by (first | exact unit_up (by with_reducible assumption) (by decide) | ktr_units)) _ _ (by exact cmp_at (y_nat (by with_reducible assumption))) ?_; intro t9_z h9_z tk9_z F9_z N9_z; try dsimp only)) | ((with_reducible show wpAny _ _ (callWith _ (Value.ref ..) _ _ _) _ _ _); k_dflt (refine callWith_K (by k_asm) (by exact cmpIn _ _ (y_nat (by with_reducible assumption))) ?_; k_whole)) | ((with_reducible show wpAny _ _ (call (Value.ref ..) _) _ _ _); k_dflt (refine c_getitem (by k_asm) (by k_asm) (by k_asm) (by k_asm) (by k_asm) (by first | with_reducible assumption | exact rfl) (by (first | exact room_up (by with_reducible assumption) (by decide) | ktr_room)) (by (first | exact unit_up (by with_reducible assumption) (by decide) | ktr_units)) (by k_mem) (by with_reducible assumption) (by omega) (by omega) (by omega) ?_; intro t9_z h9_z tk9_z F9_z N9_z; try dsimp only)) | ((with_reducible show wpAny _ _ (call (Value.ref ..) _) _ _ _); k_dflt (refine c_written (by k_asm) (by k_asm) (by k_asm) (by k_asm) (by k_asm) (by first | with_reducible assumption | exact rfl) (by (first | exact room_up (by with_reducible assumption) (by decide) | ktr_room)) (by (first | exact unit_up (by with_reducible assumption) (by decide) | ktr_units)) ?_; intro c9_z a1_z a2_z a3_z vb_z vw_z vd_z bs_z ws_z n1_z n2_z n3_z h9_z tk9_z new9_z F9_z N9_z ap9_z m0_z m1_z m2_z m3_z i1_z i2_z i3_z l1_z l2_z hok_z; have N8_z := news_four N9_z m0_z m1_z m2_z m3_z; clear N9_z ap9_z m0_z m1_z m2_z m3_z; try dsimp only)) | ((with_reducible show UnrEnd ..); refine stop_intro ?_) | ((with_reducible show StrQ ..); first | (with_reducible (exact ⟨_, _, _, rfl, rfl⟩)) | (exact ⟨_, _, _, rfl, rfl⟩)) | ((with_reducible show wpAny _ _ (loadName _ _) _ _ _); (k_here; k_dflt (refine ldn (by k_asm) (by first | exact rfl | ((repeat (refine Eq.trans (if_neg (by decide)) ?_)); with_reducible assumption)) ?_; k_whole))) | ((with_reducible show LeaveH _ _ _ _ _ _ _ _); first | (with_reducible ((refine leaveH_ (by k_asm) (by k_asm) ?_; intro kF_z kN_z kA_z; try dsimp only))) | ((refine leaveH_ (by k_asm) (by k_asm) ?_; intro kF_z kN_z kA_z; try dsimp only))) | walk1 | (dsimp only; walk1) | (leave1; (try dsimp only)) | fail "no step"))
      rename Fr g' _ _ _ => F₅
      rename News g' _ _ _ => N₅
      exact Stop.mk (end_cut F₅ N₅ hx (ints_set (ints_set hs _) _) hlx hpl pp c1 c2 c3 oc ot hI1 hI2 hI3 hI4 hI5 e1 e2 e3 e4 e5)
  case done =>
    clear N9 F9 hJ0 R hI
    intro m' news' hJ h9 tk9 F N
    obtain ⟨vc, nc, vt, nt, xs, tl, rfl, oc, ot, oI, hx, hs, hlx, hpl, e1, e2, e3, e4, e5⟩ := hJ
    (try dsimp only)
    (repeat' (first | (k_unfold; (try dsimp only)) | (k_end; kc_close) | ((with_reducible show wpAny _ _ (subscriptTail _ _ (Value.ref ..) (Value.int ..)) _ _ _); (k_here; (with_reducible show wpAny _ _ (subscriptTail _ _ (Value.ref _) (Value.int (Int.fmod _ _) _)) _ _ _); k_dflt first | (refine sub_refs cmpF (by exact News.isList (by k_asm) (by k_mem)) (by exact rfl) (by with_reducible assumption) (by exact y_six (by with_reducible assumption)) (by exact Int.lt_trans (Int.fmod_lt_of_pos _ (by decide)) (by decide)) ?_) | (refine kbo_sub (bs := cmpL _ _) (by k_asm) (by k_mem) (by exact .cons _ (.cons _ (.cons _ (.cons _ (.cons _ (.cons _ .nil)))))) (by with_reducible assumption) (by exact y_six (by with_reducible assumption)) (by exact Int.lt_trans (Int.fmod_lt_of_pos _ (by decide)) (by decide)) ?_))) | ((with_reducible show wpAny _ _ (subscriptTail _ _ (Value.ref ..) (Value.int ..)) _ _ _); k_dflt (refine sub_int (by exact fr_list (by k_asm) (by with_reducible assumption)) (by with_reducible assumption) (by omega) (by omega) (by omega) ?_; intro _)) | ((with_reducible show wpAny _ _ (subscriptTail _ _ (Value.ref ..) (Value.int ..)) _ _ _); (k_here; (with_reducible show wpAny _ _ (subscriptTail _ _ (Value.ref _) (Value.int (List.getD _ _ _) _)) _ _ _); k_dflt (refine KTb.item_list (by exact News.isList (by k_asm) (by k_mem)) (by with_reducible assumption) (by omega) (by omega) (by omega) ?_; intro _ _))) | ((with_reducible show wpAny _ _ (subscriptTail _ _ (Value.ref ..) (Value.int ..)) _ _ _); (k_here; (with_reducible show wpAny _ _ (subscriptTail _ _ (Value.ref _) (Value.int (Int.fmod _ _) _)) _ _ _); k_dflt first | (refine sub_refs cmpF (by exact News.isList (by k_asm) (by k_mem)) (by exact rfl) (by with_reducible assumption) (by exact y_six (by with_reducible assumption)) (by exact Int.lt_trans (Int.fmod_lt_of_pos _ (by decide)) (by decide)) ?_) | (refine kbo_sub (bs := cmpL _ _) (by k_asm) (by k_mem) (by exact .cons _ (.cons _ (.cons _ (.cons _ (.cons _ (.cons _ .nil)))))) (by with_reducible assumption) (by exact y_six (by with_reducible assumption)) (by exact Int.lt_trans (Int.fmod_lt_of_pos _ (by decide)) (by decide)) ?_))) | ((with_reducible show wpAny _ _ (subscriptTail _ _ (Value.ref ..) (Value.int ..)) _ _ _); k_dflt (refine sub_int (by exact fr_list (by k_asm) (by with_reducible assumption)) (by with_reducible assumption) (by omega) (by omega) (by omega) ?_; intro _)) | ((with_reducible show wpAny _ _ (binaryOp Operator.FloorDiv (Value.int ..) (Value.int ..)) _ _ _); first | (with_reducible (((with_reducible show wpAny _ _ (binaryOp _ (Value.int _ _) (Value.int (HPow.hPow _ _) _)) _ _ _); (refine floordiv_int (h24 (by omega)).1 ?_ (Or.inl (noPy (h24 (by omega)).2 (by decide))))))) | (((with_reducible show wpAny _ _ (binaryOp _ (Value.int _ _) (Value.int (HPow.hPow _ _) _)) _ _ _); (refine floordiv_int (h24 (by omega)).1 ?_ (Or.inl (noPy (h24 (by omega)).2 (by decide))))))) | ((with_reducible show wpAny _ _ (call (Value.type "range") _) _ _ _); ((rename Fr _ _ _ _ => F_z); (rename News _ _ _ _ => N_z); (with_unfolding_all refine range1_rows F_z N_z ?_); clear F_z N_z; intro h9_z tk9_z t91_z u91_z v91_z R9_z F9_z N9_z K9_z; refine stop_intro ?_)) | ((with_reducible show wpAny _ _ (compareOp CmpOp.NotEq (Value.ref ..) (Value.ref ..)) _ _ _); k_dflt (refine ne_strs (by exact News.isList (by k_asm) (by k_mem)) (by exact News.isList (by k_asm) (by k_mem)) (by assumption) (by assumption) (by assumption) (by assumption) (by (first | exact unit_up (by with_reducible assumption) (by decide) | ktr_units)) ?_)) | ((with_reducible show wpAny _ _ (eval (PySem.Expr.IfExp ..) _) _ _ _); first | (with_reducible (((fail_if_success (with_reducible show wpAny _ _ _ (StrQ _) _ _)); refine str_cut ?_ ?_; rotate_left; (intro _ _ _); rotate_left))) | (((fail_if_success (with_reducible show wpAny _ _ _ (StrQ _) _ _)); refine str_cut ?_ ?_; rotate_left; (intro _ _ _); rotate_left))) | ((with_reducible show wpAny _ _ (eval (PySem.Expr.Name ..) _) _ _ _); (k_here; k_dflt (refine ld (by k_asm) (by first | exact rfl | ((repeat (refine Eq.trans (if_neg (by decide)) ?_)); with_reducible assumption)) ?_; k_whole))) | ((with_reducible show wpAny _ _ (call (Value.ref ..) _) _ _ _); k_dflt (refine c_way (by k_asm) (by k_asm) (by k_asm) (by k_asm) (by k_asm) (by first | with_reducible assumption | exact rfl) (by (first | exact room_up (by with_reducible assumption) (by decide) | ktr_room)) (by (first | exact unit_up (by with_reducible assumption) (by decide) | ktr_units)) _ _ (by exact cmp_at (y_nat (by with_reducible assumption))) ?_; intro t9_z h9_z tk9_z F9_z N9_z; try dsimp only)) | ((with_reducible show wpAny _ _ (callWith _ (Value.ref ..) _ _ _) _ _ _); k_dflt (refine callWith_K (by k_asm) (by exact cmpIn _ _ (y_nat (by with_reducible assumption))) ?_; k_whole)) | ((with_reducible show wpAny _ _ (call (Value.ref ..) _) _ _ _); k_dflt (refine c_getitem (by k_asm) (by k_asm) (by k_asm) (by k_asm) (by k_asm) (by first | with_reducible assumption | exact rfl) (by (first | exact room_up (by with_reducible assumption) (by decide) | ktr_room)) (by (first | exact unit_up (by with_reducible assumption) (by decide) | ktr_units)) (by k_mem) (by with_reducible assumption) (by omega) (by omega) (by omega) ?_; intro t9_z h9_z tk9_z F9_z N9_z; try dsimp only)) | ((with_reducible show wpAny _ _ (call (Value.ref ..) _) _ _ _); k_dflt (refine c_written (by k_asm) (by k_asm) (by k_asm) (by k_asm) (by k_asm) (by first | with_reducible assumption | exact rfl) (by (first | exact room_up (by with_reducible assumption) (by decide) | ktr_room)) (by (first | exact unit_up (by with_reducible assumption) (by decide) | ktr_units)) ?_; intro c9_z a1_z a2_z a3_z vb_z vw_z vd_z bs_z ws_z n1_z n2_z n3_z h9_z tk9_z new9_z F9_z N9_z ap9_z m0_z m1_z m2_z m3_z i1_z i2_z i3_z l1_z l2_z hok_z; have N8_z := news_four N9_z m0_z m1_z m2_z m3_z; clear N9_z ap9_z m0_z m1_z m2_z m3_z; try dsimp only)) | ((with_reducible show UnrEnd ..); refine stop_intro ?_) | ((with_reducible show StrQ ..); first | (with_reducible (exact ⟨_, _, _, rfl, rfl⟩)) | (exact ⟨_, _, _, rfl, rfl⟩)) | ((with_reducible show wpAny _ _ (loadName _ _) _ _ _); (k_here; k_dflt (refine ldn (by k_asm) (by first | exact rfl | ((repeat (refine Eq.trans (if_neg (by decide)) ?_)); with_reducible assumption)) ?_; k_whole))) | ((with_reducible show LeaveH _ _ _ _ _ _ _ _); first | (with_reducible ((refine leaveH_ (by k_asm) (by k_asm) ?_; intro kF_z kN_z kA_z; try dsimp only))) | ((refine leaveH_ (by k_asm) (by k_asm) ?_; intro kF_z kN_z kA_z; try dsimp only))) | walk1 | (dsimp only; walk1) | (leave1; (try dsimp only)) | fail "no step"))
    rename Fr h₀ _ _ _ => kF
    rename News h₀ _ _ _ => kN
    refine hret _ cr st vc vt _ _ xs _ _ _ kF kN (by assumption) (by k_mem) (by k_mem) (by k_mem) (hx.mono fun p hp => ?_) hs (by omega) (by omega) hpl
    exact .tail _ (.tail _ (.tail _ (.tail _ (.tail _ hp))))
end
end Mine
set_option Elab.async false
set_option maxRecDepth 100000
set_option maxHeartbeats 4000000
namespace Mine
open Builtin.Int (intBits)

theorem fdiv_fmod_of {a b q r : Int} (h : q * b + r = a) (h0 : 0 ≤ r) (h1 : r < b) : a.fdiv b = q ∧ a.fmod b = r := by
  have hb : 0 < b := by omega
  have hm : a.fmod b = r := by
    rw [Int.fmod_eq_emod_of_nonneg a (by omega), ← h, Int.add_comm, Int.mul_comm, Int.add_mul_emod_self_left]
    exact Int.emod_eq_of_lt h0 h1
  refine ⟨?_, hm⟩
  rw [Int.fdiv_eq_ediv_of_nonneg a (by omega), ← h, Int.add_comm, Int.mul_comm, Int.add_mul_ediv_left _ _ (by omega), Int.ediv_eq_zero_of_lt h0 h1, Int.zero_add]

theorem bitOr_shift {r a3 : Int} {n : Nat} (hr : 0 ≤ r) (h3 : 0 ≤ a3) (h4 : a3 < 2 ^ n) : Builtin.bitOr (r * 2 ^ n) a3 = r * 2 ^ n + a3 := by
  obtain ⟨r, rfl⟩ := Int.eq_ofNat_of_zero_le hr
  obtain ⟨c, rfl⟩ := Int.eq_ofNat_of_zero_le h3
  have hc : c < 2 ^ n := by exact_mod_cast h4
  have h : ((r : Int) * 2 ^ n) = ((r * 2 ^ n : Nat) : Int) := by push_cast; rfl
  rw [h]
  generalize hx : r * 2 ^ n = x
  have key : Builtin.bitOr (x : Int) (c : Int) = ((x ||| c : Nat) : Int) := by
    unfold Builtin.bitOr Builtin.bitAnd Builtin.bitNot
    have e1 : decide ((0 : Int) ≤ -(x : Int) - 1) = false := decide_eq_false (by omega)
    have e2 : decide ((0 : Int) ≤ -(c : Int) - 1) = false := decide_eq_false (by omega)
    simp only [e1, e2]
    have e3 : (-(-(x : Int) - 1) - 1).toNat = x := by omega
    have e4 : (-(-(c : Int) - 1) - 1).toNat = c := by omega
    rw [e3, e4]; omega
  rw [key, ← hx, ← Nat.shiftLeft_eq, ← Nat.shiftLeft_add_eq_or_of_lt hc]
  push_cast; rfl

section
variable {w : World} {pr : Program} {p : Program} {loose : List Str} {mean : ExcName → Option Value} {mg mb : Str → Option Value}
  {dp un : Nat} {gd : Option (List Code)} {cn : Str} {cs : Scope} {a : Addr} {ccd : Value} {cl : List (Str × Addr)} {outer : List Env} {A₀ : Around} {base h₀ : Heap} {L : Addr} {m : Str → Option Value} {s : Shared} {Q E : Value → Shared → Prop} {news : List (Addr × Obj)}

theorem filled (P : Params) : row.prog = row.prog ∧ hd.heap_1 P = hd.heap_1 P := by
  k_fill
  exact ⟨rfl, rfl⟩



theorem div2 
  (B : Below A₀ base outer h₀) (F : Fr h₀ L s.heap m) (X : (Mine.hd.heap_1 w.params).In h₀) (N : News h₀ L s.heap news) (T : Top p loose mean mg mb h₀) (hcs : cs.kind = .function)
  (hd : dp + 5 < recursionLimit) (hu : un + 40 < cLine) (x y n : Int) (t1 t2 t3 : Tok) (hx : (intBits x : Int) - n ≤ 4000) (hy : 0 < y)  (hy2 : intBits y ≤ 4000)
  (hret : ∀ (t t' : Tok) (h' : Heap) (tk' : Nat) (c : Addr) (nn : Nat), Fr h₀ L h' m → News h₀ L h' ((c, { cls := .type "tuple", data := .seq #[.int (x.fdiv y) t, .int (x.fmod y) t'] nn }) :: news) → Q (.ref c) { s with heap := h', toks := tk' }) :
  wpAny (model pr w) (ktrTop dp un gd cn cs L a ccd cl outer) (call (.ref 21) [.int x t1, .int y t2, .int n t3]) Q E s := by
  refine' enter [(Str.ofString "a", .int x t1), (Str.ofString "b", .int y t2), (Str.ofString "n", .int n t3)] B F X N T hcs (by omega) ?k6 ?k7 (BindsTo.of_eq ?k9) (locs ?kB) ?c2 ?c3 ?c4 ?c5 ?_
  case k6 => k_is
  case k7 => k_is
  case k9 => exact rfl
  case kB => exact rfl
  case c2 => exact rfl
  case c3 => exact rfl
  case c4 => exact rfl
  case c5 => decide
  intro g' L' h' FG' F' N' B' X' T'
  clear B F X N T
  (try dsimp only); (try k_lift B'); (try k_fold)
  (repeat' (first | (k_unfold; (try dsimp only)) | (k_end; kc_close) | ((with_reducible show wpAny _ _ (call (Value.builtin "divmod") _) _ _ _); first | (with_reducible ((refine divmod_N (by k_asm) (by k_asm) (by omega) ?_ (Or.inl (noPy (by assumption) (by decide))); intro h_z F_z N_z))) | ((refine divmod_N (by k_asm) (by k_asm) (by omega) ?_ (Or.inl (noPy (by assumption) (by decide))); intro h_z F_z N_z))) | ((with_reducible show LeaveK ..); first | (with_reducible ((refine leaveK_ (by k_asm) (by k_asm) ?_; intro kF_z kN_z; try dsimp only))) | ((refine leaveK_ (by k_asm) (by k_asm) ?_; intro kF_z kN_z; try dsimp only))) | walk1 | (dsimp only; walk1) | (leave1; (try dsimp only)) | fail "no step"))
  exact hret _ _ _ _ _ _ (by assumption) (by assumption)

theorem fdm (a b : Int) : a.fdiv b * b + a.fmod b = a := by
  have := Int.mul_fdiv_add_fmod a b
  rw [Int.mul_comm] at this
  exact this

/-- the state at the head of the loop -/
noncomputable def At3 (g : Heap) (L : Addr) (news : List (Addr × Obj)) (s : Shared) (b a : Int) (c : Int × Int) (s' : Shared) : Prop :=
  ∃ (m' : Str → Option Value) (h' : Heap) (tk' : Nat), s' = { s with heap := h', toks := tk' } ∧ News g L h' news ∧ Fr g L h' m' ∧
    (∃ t, m' (Str.ofString "r") = some (.int c.2 t)) ∧ (∃ t, m' (Str.ofString "q") = some (.int c.1 t)) ∧ (∃ t, m' (Str.ofString "b") = some (.int b t)) ∧ c.1 * b + c.2 = a ∧ c.2 < b
noncomputable def At3End (g : Heap) (L : Addr) (news : List (Addr × Obj)) (s : Shared) (b a : Int) (c : Int × Int) (s' : Shared) : Prop := ∃ c', At3 g L news s b a c' s' ∧ (-c'.2).toNat < (-c.2).toNat
theorem at3_end {g : Heap} {L : Addr} {news : List (Addr × Obj)} {s : Shared} {b a : Int} {c : Int × Int} {q r : Int} {m' : Str → Option Value} {h' : Heap} {tk' : Nat} {t1 t2 t3 : Tok} (N : News g L h' news) (F : Fr g L h' m')
    (hr : m' (Str.ofString "r") = some (.int r t1)) (hq : m' (Str.ofString "q") = some (.int q t2)) (hb : m' (Str.ofString "b") = some (.int b t3)) (e : q * b + r = a) (hl : r < b) (hm : (-r).toNat < (-c.2).toNat) :
    ∃ c', At3 g L news s b a c' { s with heap := h', toks := tk' } ∧ (-c'.2).toNat < (-c.2).toNat := ⟨(q, r), ⟨m', h', tk', rfl, N, F, ⟨_, hr⟩, ⟨_, hq⟩, ⟨_, hb⟩, e, hl⟩, hm⟩

/-- behind the first test of _div3n2n -/
noncomputable def Cut3 (g : Heap) (L : Addr) (news : List (Addr × Obj)) (s : Shared) (a12 a3 b b1 b2 n : Int) (t1 t2 t3 t4 t5 t6 : Tok) (f : Flow) (s' : Shared) : Prop :=
  ∃ (q r : Int) (tq tr : Tok) (h' : Heap) (tk' : Nat), f = .next ∧ s' = { s with heap := h', toks := tk' } ∧ News g L h' news ∧
    Fr g L h' (fun y => if y = Str.ofString "r" then some (.int r tr) else if y = Str.ofString "q" then some (.int q tq) else List.lookup y [(Str.ofString "a12", Value.int a12 t1), (Str.ofString "a3", .int a3 t2), (Str.ofString "b", .int b t3), (Str.ofString "b1", .int b1 t4), (Str.ofString "b2", .int b2 t5), (Str.ofString "n", .int n t6)].reverse) ∧
    q * b1 + r = a12 ∧ 0 ≤ r ∧ 0 ≤ q ∧ intBits q ≤ 4100 ∧ intBits r ≤ 8200 ∧ (r < b1 ∨ q = 2 ^ n.toNat - 1)

theorem cut3_intro {g : Heap} {L : Addr} {news : List (Addr × Obj)} {s : Shared} {a12 a3 b b1 b2 n : Int} {t1 t2 t3 t4 t5 t6 : Tok} {q r : Int} {tq tr : Tok} {h' : Heap} {tk' : Nat} (N : News g L h' news)
    (F : Fr g L h' (fun y => if y = Str.ofString "r" then some (.int r tr) else if y = Str.ofString "q" then some (.int q tq) else List.lookup y [(Str.ofString "a12", Value.int a12 t1), (Str.ofString "a3", .int a3 t2), (Str.ofString "b", .int b t3), (Str.ofString "b1", .int b1 t4), (Str.ofString "b2", .int b2 t5), (Str.ofString "n", .int n t6)].reverse))
    (h1 : q * b1 + r = a12) (h2 : 0 ≤ r) (h3 : 0 ≤ q) (h4 : intBits q ≤ 4100) (h5 : intBits r ≤ 8200) (h6 : r < b1 ∨ q = 2 ^ n.toNat - 1) :
    Cut3 g L news s a12 a3 b b1 b2 n t1 t2 t3 t4 t5 t6 .next { s with heap := h', toks := tk' } := ⟨q, r, tq, tr, h', tk', rfl, rfl, N, F, h1, h2, h3, h4, h5, h6⟩

local macro_rules | `(tactic| tb_start) => `(tactic| first | assumption | (exact (by decide : intBits 1 ≤ 1)) | exact bits_pow | exact intBits_add_le (by tb_start) (by tb_start) | exact intBits_sub_le (by tb_start) (by tb_start) | exact intBits_mul_le (by tb_start) (by tb_start) | exact intBits_fdiv_le (by tb_start) | exact intBits_fmod_le (by tb_start) (by tb_start))

theorem div3
  (B : Below A₀ base outer h₀) (F : Fr h₀ L s.heap m) (X : (Mine.hd.heap_1 w.params).In h₀) (N : News h₀ L s.heap news) (T : Top p loose mean mg mb h₀) (hcs : cs.kind = .function)
  (hd : dp + 8 < recursionLimit) (hu : un + 60 < cLine) (a12 a3 b b1 b2 n : Int) (t1 t2 t3 t4 t5 t6 : Tok)
  (hn : 0 ≤ n) (hn2 : n ≤ 2000) (ha0 : 0 ≤ a12) (hab : a12 < b) (h30 : 0 ≤ a3) (h31 : a3 < 2 ^ n.toNat) (hb : b = b1 * 2 ^ n.toNat + b2) (hb1 : 0 < b1) (hb20 : 0 ≤ b2) (hb2 : b2 < 2 ^ n.toNat)
  (hz : intBits a12 ≤ 4000) (hz1 : intBits b1 ≤ 4000) (hz2 : intBits b2 ≤ 4000)
  (hret : ∀ (t t' : Tok) (h' : Heap) (tk' : Nat) (c : Addr) (nn : Nat), Fr h₀ L h' m → News h₀ L h' ((c, { cls := .type "tuple", data := .seq #[.int ((a12 * 2 ^ n.toNat + a3).fdiv b) t, .int ((a12 * 2 ^ n.toNat + a3).fmod b) t'] nn }) :: news) → Q (.ref c) { s with heap := h', toks := tk' }) :
  wpAny (model pr w) (ktrTop dp un gd cn cs L a ccd cl outer) (call (.ref 28) [.int a12 t1, .int a3 t2, .int b t3, .int b1 t4, .int b2 t5, .int n t6]) Q E s := by
  refine' enter [(Str.ofString "a12", .int a12 t1), (Str.ofString "a3", .int a3 t2), (Str.ofString "b", .int b t3), (Str.ofString "b1", .int b1 t4), (Str.ofString "b2", .int b2 t5), (Str.ofString "n", .int n t6)] B F X N T hcs (by omega) ?k6 ?k7 (BindsTo.of_eq ?k9) (locs ?kB) ?c2 ?c3 ?c4 ?c5 ?_
  case k6 => k_is
  case k7 => k_is
  case k9 => exact rfl
  case kB => exact rfl
  case c2 => exact rfl
  case c3 => exact rfl
  case c4 => exact rfl
  case c5 => decide
  intro g' L' h' FG' F' N' B' X' T'
  clear B F X N T
  have hp : (0 : Int) < 2 ^ n.toNat := Int.pow_pos (by decide)
  refine wpAny_execs_cons (wpAny_mono (Q := Cut3 g' L' news s a12 a3 b b1 b2 n t1 t2 t3 t4 t5 t6) ?_ ?_ (fun _ _ x => x))
  · (try dsimp only); (try k_lift B'); (try k_fold)
    (repeat' (first | (k_unfold; (try dsimp only)) | (k_end; kc_close) | ((with_reducible show wpAny _ _ (exec (Stmt.While (PySem.Expr.Compare ..) ..) _) _ _ _); refine stop_intro ?_) | ((with_reducible show wpAny _ _ (binaryOp Operator.Mult (Value.int ..) (Value.int ..)) _ _ _); k_dflt (refine mul_b (by tb_start) (by tb_start) (by omega) ?_)) | ((with_reducible show wpAny _ _ (binaryOp Operator.RShift (Value.int ..) (Value.int ..)) _ _ _); k_dflt (refine rshift_int (by omega) ?_)) | ((with_reducible show wpAny _ _ (binaryOp Operator.LShift (Value.int ..) (Value.int ..)) _ _ _); k_dflt (refine lshift_b (by omega) (by tb_start) (by omega) ?_)) | ((with_reducible show wpAny _ _ (eval (PySem.Expr.Name ..) _) _ _ _); (k_here; k_dflt (refine ld (by k_asm) (by assumption) ?_; k_whole))) | ((with_reducible show wpAny _ _ (call (Value.ref ..) _) _ _ _); first | (with_reducible ((refine div2 (by k_asm) (by k_asm) (by k_asm) (by k_asm) (by k_asm) (by first | assumption | exact rfl) (by (first | exact room_up (by with_reducible assumption) (by decide) | ktr_room)) (by (first | exact unit_up (by with_reducible assumption) (by decide) | ktr_units)) _ _ _ _ _ _ (by omega) (by omega) (by assumption) ?_; intro t9_z t9_z h9_z tk9_z c9_z nn9_z F9_z N9_z))) | ((refine div2 (by k_asm) (by k_asm) (by k_asm) (by k_asm) (by k_asm) (by first | assumption | exact rfl) (by (first | exact room_up (by with_reducible assumption) (by decide) | ktr_room)) (by (first | exact unit_up (by with_reducible assumption) (by decide) | ktr_units)) _ _ _ _ _ _ (by omega) (by omega) (by assumption) ?_; intro t9_z t9_z h9_z tk9_z c9_z nn9_z F9_z N9_z))) | ((with_reducible show wpAny _ _ (call (Value.builtin "divmod") _) _ _ _); first | (with_reducible ((refine divmod_N (by k_asm) (by k_asm) (by omega) ?_ (Or.inl (noPy (by assumption) (by decide))); intro h_z F_z N_z))) | ((refine divmod_N (by k_asm) (by k_asm) (by omega) ?_ (Or.inl (noPy (by assumption) (by decide))); intro h_z F_z N_z))) | ((with_reducible show wpAny _ _ (loadName _ _) _ _ _); (k_here; k_dflt (refine ldn (by k_asm) (by assumption) ?_; k_whole))) | ((with_reducible show LeaveK ..); first | (with_reducible ((refine leaveK_ (by k_asm) (by k_asm) ?_; intro kF_z kN_z; try dsimp only))) | ((refine leaveK_ (by k_asm) (by k_asm) ?_; intro kF_z kN_z; try dsimp only))) | walk1 | (dsimp only; walk1) | (leave1; (try dsimp only)) | fail "no step"))
    · rename Fr _ _ _ _ => F₁
      rename News _ _ _ _ => N₁
      rename Int.fdiv _ _ = _ => e
      have e' : b1 * 2 ^ n.toNat ≤ a12 := by
        rw [← e, Int.fdiv_eq_ediv_of_nonneg a12 (Int.le_of_lt hp)]
        exact Int.ediv_mul_le _ (by omega)
      refine cut3_intro (news_tail N₁) (fr_swap F₁) ?_ ?_ ?_ ?_ ?_ (.inr (by rw [Int.one_mul]))
      · generalize (2 : Int) ^ n.toNat = X; grind
      · omega
      · omega
      · exact bits_up (by tb_start) (by omega)
      · exact bits_up (by tb_start) (by omega)
    · rename Fr _ _ _ _ => F₁
      rename News _ _ _ _ => N₁
      refine cut3_intro (news_tail N₁) F₁ (fdm a12 b1) (fmod_lo _ hb1) ?_ ?_ ?_ (.inl (fmod_hi _ hb1))
      · rw [Int.fdiv_eq_ediv_of_nonneg a12 (by omega)]; exact Int.ediv_nonneg ha0 (by omega)
      · exact bits_up (by tb_start) (by omega)
      · exact bits_up (by tb_start) (by omega)
  · rintro f s' ⟨q, r, tq, tr, h₂, tk₂, rfl, rfl, N₂, F₂, e1, e2, e3, e4, e5, e6⟩
    dsimp only
    clear F' N'
    (try k_lift B'); (try k_fold)
    (repeat' (first | (k_unfold; (try dsimp only)) | (k_end; kc_close) | ((with_reducible show wpAny _ _ (exec (Stmt.While (PySem.Expr.Compare ..) ..) _) _ _ _); refine stop_intro ?_) | ((with_reducible show wpAny _ _ (binaryOp Operator.Mult (Value.int ..) (Value.int ..)) _ _ _); k_dflt (refine mul_b (by tb_start) (by tb_start) (by omega) ?_)) | ((with_reducible show wpAny _ _ (binaryOp Operator.RShift (Value.int ..) (Value.int ..)) _ _ _); k_dflt (refine rshift_int (by omega) ?_)) | ((with_reducible show wpAny _ _ (binaryOp Operator.LShift (Value.int ..) (Value.int ..)) _ _ _); k_dflt (refine lshift_b (by omega) (by tb_start) (by omega) ?_)) | ((with_reducible show wpAny _ _ (eval (PySem.Expr.Name ..) _) _ _ _); (k_here; k_dflt (refine ld (by k_asm) (by assumption) ?_; k_whole))) | ((with_reducible show wpAny _ _ (call (Value.ref ..) _) _ _ _); first | (with_reducible ((refine div2 (by k_asm) (by k_asm) (by k_asm) (by k_asm) (by k_asm) (by first | assumption | exact rfl) (by (first | exact room_up (by with_reducible assumption) (by decide) | ktr_room)) (by (first | exact unit_up (by with_reducible assumption) (by decide) | ktr_units)) _ _ _ _ _ _ (by omega) (by omega) (by assumption) ?_; intro t9_z t9_z h9_z tk9_z c9_z nn9_z F9_z N9_z))) | ((refine div2 (by k_asm) (by k_asm) (by k_asm) (by k_asm) (by k_asm) (by first | assumption | exact rfl) (by (first | exact room_up (by with_reducible assumption) (by decide) | ktr_room)) (by (first | exact unit_up (by with_reducible assumption) (by decide) | ktr_units)) _ _ _ _ _ _ (by omega) (by omega) (by assumption) ?_; intro t9_z t9_z h9_z tk9_z c9_z nn9_z F9_z N9_z))) | ((with_reducible show wpAny _ _ (call (Value.builtin "divmod") _) _ _ _); first | (with_reducible ((refine divmod_N (by k_asm) (by k_asm) (by omega) ?_ (Or.inl (noPy (by assumption) (by decide))); intro h_z F_z N_z))) | ((refine divmod_N (by k_asm) (by k_asm) (by omega) ?_ (Or.inl (noPy (by assumption) (by decide))); intro h_z F_z N_z))) | ((with_reducible show wpAny _ _ (loadName _ _) _ _ _); (k_here; k_dflt (refine ldn (by k_asm) (by assumption) ?_; k_whole))) | ((with_reducible show LeaveK ..); first | (with_reducible ((refine leaveK_ (by k_asm) (by k_asm) ?_; intro kF_z kN_z; try dsimp only))) | ((refine leaveK_ (by k_asm) (by k_asm) ?_; intro kF_z kN_z; try dsimp only))) | walk1 | (dsimp only; walk1) | (leave1; (try dsimp only)) | fail "no step"))
    rename Fr _ _ _ _ => F₃
    rename News _ _ _ _ => N₃
    refine Stop.mk ?_
    rw [bitOr_shift e2 h30 h31] at F₃
    have i1 : q * b + (r * 2 ^ n.toNat + a3 - q * b2) = a12 * 2 ^ n.toNat + a3 := by
      rw [hb, ← e1]; generalize (2 : Int) ^ n.toNat = X; grind
    have i2 : r * 2 ^ n.toNat + a3 - q * b2 < b := by
      have hqb : 0 ≤ q * b2 := Int.mul_nonneg e3 hb20
      rcases e6 with h | h
      · have : (r + 1) * 2 ^ n.toNat ≤ b1 * 2 ^ n.toNat := Int.mul_le_mul_of_nonneg_right (by omega) (by omega)
        rw [Int.add_mul] at this
        omega
      · have h1 : (a12 + 1) * 2 ^ n.toNat ≤ b * 2 ^ n.toNat := Int.mul_le_mul_of_nonneg_right (by omega) (by omega)
        rw [Int.add_mul] at h1
        have h2 : q * b = b * 2 ^ n.toNat - b := by rw [h]; generalize (2 : Int) ^ n.toNat = X; grind
        omega
    refine while_rule (At3 g' L' news s b (a12 * 2 ^ n.toNat + a3)) (fun c => (-c.2).toNat) (q, r * 2 ^ n.toNat + a3 - q * b2) ⟨_, _, _, rfl, N₃, F₃, ⟨_, rfl⟩, ⟨_, rfl⟩, ⟨_, rfl⟩, i1, i2⟩ ?_
    clear N₃ F₃ i1 i2 e1 e2 e3 e4 e5 e6
    rintro ⟨q', r'⟩ s' ⟨m', h', tk', rfl, N₄, F₄, ⟨tr', hr⟩, ⟨tq', hq⟩, ⟨tb', hb'⟩, i1, i2⟩
    dsimp only at *
    (repeat' (first | (k_unfold; (try dsimp only)) | (k_end; kc_close) | ((with_reducible show wpAny _ _ (exec (Stmt.While (PySem.Expr.Compare ..) ..) _) _ _ _); refine stop_intro ?_) | ((with_reducible show wpAny _ _ (binaryOp Operator.Mult (Value.int ..) (Value.int ..)) _ _ _); k_dflt (refine mul_b (by tb_start) (by tb_start) (by omega) ?_)) | ((with_reducible show wpAny _ _ (binaryOp Operator.RShift (Value.int ..) (Value.int ..)) _ _ _); k_dflt (refine rshift_int (by omega) ?_)) | ((with_reducible show wpAny _ _ (binaryOp Operator.LShift (Value.int ..) (Value.int ..)) _ _ _); k_dflt (refine lshift_b (by omega) (by tb_start) (by omega) ?_)) | ((with_reducible show wpAny _ _ (eval (PySem.Expr.Name ..) _) _ _ _); (k_here; k_dflt (refine ld (by k_asm) (by assumption) ?_; k_whole))) | ((with_reducible show wpAny _ _ (call (Value.ref ..) _) _ _ _); first | (with_reducible ((refine div2 (by k_asm) (by k_asm) (by k_asm) (by k_asm) (by k_asm) (by first | assumption | exact rfl) (by (first | exact room_up (by with_reducible assumption) (by decide) | ktr_room)) (by (first | exact unit_up (by with_reducible assumption) (by decide) | ktr_units)) _ _ _ _ _ _ (by omega) (by omega) (by assumption) ?_; intro t9_z t9_z h9_z tk9_z c9_z nn9_z F9_z N9_z))) | ((refine div2 (by k_asm) (by k_asm) (by k_asm) (by k_asm) (by k_asm) (by first | assumption | exact rfl) (by (first | exact room_up (by with_reducible assumption) (by decide) | ktr_room)) (by (first | exact unit_up (by with_reducible assumption) (by decide) | ktr_units)) _ _ _ _ _ _ (by omega) (by omega) (by assumption) ?_; intro t9_z t9_z h9_z tk9_z c9_z nn9_z F9_z N9_z))) | ((with_reducible show wpAny _ _ (call (Value.builtin "divmod") _) _ _ _); first | (with_reducible ((refine divmod_N (by k_asm) (by k_asm) (by omega) ?_ (Or.inl (noPy (by assumption) (by decide))); intro h_z F_z N_z))) | ((refine divmod_N (by k_asm) (by k_asm) (by omega) ?_ (Or.inl (noPy (by assumption) (by decide))); intro h_z F_z N_z))) | ((with_reducible show wpAny _ _ (loadName _ _) _ _ _); (k_here; k_dflt (refine ldn (by k_asm) (by assumption) ?_; k_whole))) | ((with_reducible show LeaveK ..); first | (with_reducible ((refine leaveK_ (by k_asm) (by k_asm) ?_; intro kF_z kN_z; try dsimp only))) | ((refine leaveK_ (by k_asm) (by k_asm) ?_; intro kF_z kN_z; try dsimp only))) | walk1 | (dsimp only; walk1) | (leave1; (try dsimp only)) | fail "no step"))
    · rename Fr _ _ _ _ => F₅
      rename News _ _ _ _ => N₅
      exact at3_end N₅ F₅ rfl rfl hb' (by rw [Int.sub_mul]; omega) (by omega) (by omega)
    · obtain ⟨e1, e2⟩ := fdiv_fmod_of i1 (by omega) i2
      have K := hret tq' tr' 
      rw [e1, e2] at K
      exact K _ _ _ _ (by assumption) (by assumption)
end
end Mine
set_option Elab.async false
set_option maxRecDepth 100000
set_option maxHeartbeats 4000000
set_option linter.unusedVariables false
namespace Mine
open Builtin.Int (intBits)
noncomputable def qD : Str := Str.ofString "_digits2int.<locals>.inner"
noncomputable def qI : Str := Str.ofString "_int2digits.<locals>.inner"
/-- the two tables of code and what they name -/
structure TSt (ps ps2 : Array Value) (K : List (Addr × Obj)) : Prop where
  a : TabSt posD qD ps K
  b : TabSt posI qI ps2 K
  c : Off 37 K
  d : Off 30 K
  e : ∀ p ∈ K, ∃ vs, p.2.data = .fields vs
noncomputable def NF (l : List (Addr × Obj)) : Prop := ∀ p ∈ l, ∀ ps, p.2.data ≠ .fields ps
theorem NF.nil : NF [] := fun _ h => nomatch h
theorem NF.cons {p : Addr × Obj} {l : List (Addr × Obj)} (h : ∀ ps, p.2.data ≠ .fields ps) (hl : NF l) : NF (p :: l) := by
  intro q hq
  rcases List.mem_cons.mp hq with rfl | hq
  · exact h
  · exact hl q hq
theorem nf_list {a : Addr} {vs : Array Value} {n : Nat} : ∀ ps, (a, listOf vs n).2.data ≠ .fields ps := by intro ps h; simp [W.listOf] at h
theorem nf_cell {a : Addr} {o : Obj} {v : Option Value} (e : o.data = .cell v) : ∀ ps, (a, o).2.data ≠ .fields ps := by intro ps h; rw [e] at h; cases h
theorem nf_off {g h : Heap} {L P : Addr} {ps : Array Value} {all loc : List (Addr × Obj)} (N : News g L h all) (hm : (P, tabObj ps) ∈ all) (hs : ∀ p ∈ loc, p ∈ all) (hn : NF loc) : Off P loc := by
  intro p hp e
  have h1 := (N _ hm).1
  have h2 := (N _ (hs p hp)).1
  rw [e, h1] at h2
  have h3 := congrArg Obj.data (Option.some.inj h2)
  exact hn p hp ps h3.symm
/-- what a table names can be kept by itself -/
theorem tab_keep {g h : Heap} {L P P2 : Addr} {pos pos2 : Pos} {qual qual2 : Str} {ps ps2 : Array Value} {news K2 : List (Addr × Obj)} (N : News g L h news) (t : TabSt pos qual ps news) (o : Off P news) (hm : (P2, tabObj ps2) ∈ news) (t2 : TabSt pos2 qual2 ps2 K2) :
    ∃ K, TabSt pos qual ps K ∧ Off P K ∧ Off P2 K ∧ (∀ p ∈ K, ∃ vs, p.2.data = .fields vs) ∧ ∀ p ∈ K, p ∈ news := by
  rcases t with e | ⟨c', oc, vs, t, e, hc, hd, hv⟩
  · exact ⟨[], .inl e, (fun _ h => nomatch h), (fun _ h => nomatch h), (fun _ h => nomatch h), fun _ h => nomatch h⟩
  · refine ⟨[(c', oc)], .inr ⟨c', oc, vs, t, e, .head _, hd, hv⟩, ?_, ?_, (fun p hp => ⟨vs, by rw [List.mem_singleton.mp hp]; exact hd⟩), ?_⟩
    · intro p hp; rw [List.mem_singleton.mp hp]; exact o _ hc
    · intro p hp e'
      rw [List.mem_singleton.mp hp] at e'
      have h1 := (N _ hm).1
      have h2 := (N _ hc).1
      simp only at e'
      rw [e', h1] at h2
      have h3 := congrArg Obj.data (Option.some.inj h2)
      rw [hd] at h3
      simp only [Data.fields.injEq] at h3
      subst h3
      rcases t2 with e2 | ⟨c2, oc2, vs2, t2, e2, _, _, _⟩
      · rw [e2] at hv; simp at hv
      · rw [e2] at hv; simp [rawInt] at hv
    · intro p hp; rw [List.mem_singleton.mp hp]; exact hc
theorem off_app {a : Addr} {l k : List (Addr × Obj)} (h : Off a l) (h' : Off a k) : Off a (l ++ k) := fun p hp => (List.mem_append.mp hp).elim (h p) (h' p)
theorem gen_l {g h : Heap} {L l : Addr} {vs : List Value} {ds : List Int} {n : Nat} {rest : List (Addr × Obj)} {C : Prop} (N : News g L h ((l, listOf vs.toArray n) :: rest)) (hv : IntsAre vs ds) (k : ∀ vs, IntsAre vs ds → News g L h ((l, listOf vs.toArray n) :: rest) → C) : C := k vs hv N
theorem offT {g h : Heap} {L x : Addr} {o : Obj} {ps ps2 : Array Value} {all K : List (Addr × Obj)} (N : News g L h all) (hm : (x, o) ∈ all) (hs : ∀ p ∈ (37, tabObj ps) :: (30, tabObj ps2) :: K, p ∈ all) (hn : ∀ qs, (x, o).2.data ≠ .fields qs) (S : TSt ps ps2 K) : Off x ((37, tabObj ps) :: (30, tabObj ps2) :: K) := by
  have key : ∀ p ∈ (37, tabObj ps) :: (30, tabObj ps2) :: K, ∃ vs, p.2.data = .fields vs := by
    intro p hp
    rcases List.mem_cons.mp hp with rfl | hp
    · exact ⟨_, rfl⟩
    rcases List.mem_cons.mp hp with rfl | hp
    · exact ⟨_, rfl⟩
    exact S.e p hp
  intro p hp e
  obtain ⟨vs, hv⟩ := key p hp
  have h1 := (N _ hm).1
  have h2 := (N _ (hs p hp)).1
  rw [e, h1] at h2
  have h3 := congrArg Obj.data (Option.some.inj h2)
  exact hn vs (h3.trans hv)
theorem flat_rep {α : Type} (a : α) (k : Nat) : (List.replicate k [a]).flatten = List.replicate k a := by
  induction k with
  | zero => rfl
  | succ k ih => simp [List.replicate_succ]
theorem dval_rep (w : Nat) (h : Int) (k : Nat) : dval w (List.replicate k h) = geo w h k := by
  induction k with
  | zero => rfl
  | succ k ih => simp [List.replicate_succ, dval, geo, ih]
theorem fr_same {g h : Heap} {L : Addr} {m : Str → Option Value} {x : Str} {v : Value} (F : Fr g L h m) (e : m x = some v) : Fr g L h (fun y => if y = x then some v else m y) :=
  fr_ext F fun y => by
    by_cases hy : y = x
    · subst hy; simp [e]
    · simp [hy]
theorem bits_two {x : Int} (hx : 0 < x) : intBits (2 * x) = intBits x + 1 := by
  unfold intBits
  have h1 : x ≠ 0 := by omega
  have h2 : 2 * x ≠ 0 := by omega
  have e : (2 * x).natAbs = 2 * x.natAbs := by omega
  simp only [h1, h2, beq_iff_eq, if_false, e]
  rw [Nat.log2_two_mul (by omega)]
theorem bits_lo {x : Int} (hx : 0 < x) : (2 : Int) ^ (intBits x - 1) ≤ x := by
  have e : intBits x = x.natAbs.log2 + 1 := by unfold intBits; rw [if_neg (by simp; omega)]
  rw [e, Nat.add_sub_cancel]
  have h := Nat.log2_self_le (n := x.natAbs) (by omega)
  have h2 : ((2 ^ x.natAbs.log2 : Nat) : Int) ≤ ((x.natAbs : Nat) : Int) := by exact_mod_cast h
  push_cast at h2
  omega
theorem bits_pos {x : Int} (hx : 0 < x) : 0 < intBits x := by
  unfold intBits; rw [if_neg (by simp; omega)]; omega
/-- behind the doubling -/
noncomputable def TmQ (g : Heap) (L : Addr) (news : List (Addr × Obj)) (m : Str → Option Value) (U : Int) (s : Shared) (f : Flow) (s' : Shared) : Prop :=
  ∃ (tm : Int) (t : Tok) (h : Heap) (tk : Nat), f = .next ∧ s' = { s with heap := h, toks := tk } ∧ 1 ≤ tm ∧ tm ≤ 2000000000000 ∧ intBits (U * tm) % 2 = 0 ∧ Fr g L h (fun y => if y = Str.ofString "times" then some (.int tm t) else m y) ∧ News g L h news
theorem tm_cut {prog : Program} {w : World} {A : Around} {s : Shared} {g h : Heap} {L : Addr} {m : Str → Option Value} {news : List (Addr × Obj)} (U : Int) {t : Sem Flow} {R : Flow → Shared → Prop} {E : Value → Shared → Prop}
  (F : Fr g L h m) (N : News g L h news) (h1 : wpAny (model prog w) A t (TmQ g L news m U s) E s)
  (h2 : ∀ (tm : Int) (tv : Tok) (h : Heap) (tk : Nat), 1 ≤ tm → tm ≤ 2000000000000 → intBits (U * tm) % 2 = 0 → Fr g L h (fun y => if y = Str.ofString "times" then some (.int tm tv) else m y) → News g L h news → R .next { s with heap := h, toks := tk }) : wpAny (model prog w) A t R E s := by
  refine wpAny_mono h1 ?_ fun _ _ x => x
  rintro f s' ⟨v, tv, h₂, tk₂, rfl, rfl, v0, v1, v2, F₂, N₂⟩
  exact h2 _ _ _ _ v0 v1 v2 F₂ N₂
theorem h_num {ww : Nat} {U tm b : Int} {H : Nat} (hw : 12 ≤ ww) (hw2 : ww ≤ 71) (hX : (4096 : Int) ≤ 2 ^ ww) (hUe : U = 1 + 2 ^ ww + 2 ^ ww * 2 ^ ww) (bU : intBits U ≤ 146) (tm1 : 1 ≤ tm) (tm2 : tm ≤ 2000000000000) (hb : b = U * tm) (hH : intBits b = 2 * H) :
    0 < b ∧ b < 2 ^ (2 * H) ∧ 2 ^ (2 * H - 1) ≤ b ∧ ww + 1 ≤ H ∧ H ≤ 100 := by
  have e1 : (2 : Int) ^ ww * 2 ^ ww = 2 ^ (2 * ww) := by rw [← Int.pow_add]; congr 1; omega
  have h0 : 0 < (2 : Int) ^ (2 * ww) := Int.pow_pos (by decide)
  have hU0 : 2 ^ (2 * ww) < U := by omega
  have hbU : U ≤ b := by
    have hUn : 0 ≤ U := by omega
    have := Int.mul_le_mul_of_nonneg_left tm1 hUn
    rw [hb]; omega
  have hb1 := lt_of_bits (x := b) (n := 2 * H) (by omega)
  have hb2 := bits_lo (x := b) (by omega)
  rw [hH] at hb2
  refine ⟨by omega, hb1, hb2, ?_, ?_⟩
  · by_cases h : 2 * H ≤ 2 * ww
    · have := two_pow_mono h
      omega
    · omega
  · have bt : intBits tm ≤ 41 := bits_of_lt (by omega) (by omega)
    have := intBits_mul_le bU bt
    rw [← hb] at this
    omega
theorem s_num {ww n H : Nat} (hn3 : 3 ≤ n) (hn8 : n ≤ 8) (hwH : ww + 1 ≤ H) : ∃ S : Nat, ((ww : Int) * ((n : Int) - 1) + (H : Int) - 1).fdiv (H : Int) = (S : Int) ∧ ww * (n - 1) ≤ H * S ∧ S ≤ 7 := by
  obtain ⟨k, rfl⟩ : ∃ k, n = k + 1 := ⟨n - 1, by omega⟩
  refine ⟨(ww * k + H - 1) / H, ?_, ?_, ?_⟩
  · rw [Int.fdiv_eq_ediv_of_nonneg _ (by omega)]
    have : (ww : Int) * (((k + 1 : Nat) : Int) - 1) + (H : Int) - 1 = ((ww * k + H - 1 : Nat) : Int) := by
      have e : ((k + 1 : Nat) : Int) - 1 = (k : Int) := by omega
      rw [e]
      have : 1 ≤ ww * k + H := by omega
      omega
    rw [this]; rfl
  · rw [Nat.add_sub_cancel]
    have h1 := Nat.div_add_mod (ww * k + H - 1) H
    have h2 := Nat.mod_lt (ww * k + H - 1) (show 0 < H by omega)
    omega
  · refine Nat.le_of_lt_succ ((Nat.div_lt_iff_lt_mul (by omega)).mpr ?_)
    have : ww * k ≤ H * 7 := Nat.mul_le_mul (by omega) (by omega)
    omega
/-- the number that is divided -/
theorem t_num {ww n H S : Nat} {V b e : Int} (hV0 : 0 ≤ V) (hV2 : V < 2 ^ (ww * (n - 1))) (hS : ww * (n - 1) ≤ H * S) (hH : 1 ≤ H) (hb0 : 0 < b) (hb1 : b < 2 ^ (2 * H)) (he0 : 0 ≤ e) (he1 : e < b) :
    0 ≤ V + (2 ^ H - 1) * 2 ^ (H * S) ∧ V < 2 ^ (H * S) ∧ 0 < b * (V + (2 ^ H - 1) * 2 ^ (H * S)) + e ∧ b * (V + (2 ^ H - 1) * 2 ^ (H * S)) + e < 2 ^ (H * (S + 3)) := by
  have p1 : (0 : Int) < 2 ^ (H * S) := Int.pow_pos (by decide)
  have p2 : (2 : Int) ≤ 2 ^ H := two_pow_mono hH
  have hV3 : V < 2 ^ (H * S) := Int.lt_of_lt_of_le hV2 (two_pow_mono hS)
  have c1 : (1 : Int) * 2 ^ (H * S) ≤ (2 ^ H - 1) * 2 ^ (H * S) := Int.mul_le_mul_of_nonneg_right (by omega) (by omega)
  have hW : 0 < V + (2 ^ H - 1) * 2 ^ (H * S) := by omega
  have hW2 : V + (2 ^ H - 1) * 2 ^ (H * S) + 1 ≤ 2 ^ (H * (S + 1)) := by
    rw [Nat.mul_add, Nat.mul_one, Int.pow_add]
    rw [Int.sub_mul, Int.mul_comm (2 ^ H)]
    omega
  have m1 := Int.mul_pos hb0 hW
  refine ⟨by omega, hV3, by omega, ?_⟩
  have m2 : b * (V + (2 ^ H - 1) * 2 ^ (H * S) + 1) ≤ b * 2 ^ (H * (S + 1)) := Int.mul_le_mul_of_nonneg_left hW2 (by omega)
  have m3 : b * 2 ^ (H * (S + 1)) ≤ 2 ^ (2 * H) * 2 ^ (H * (S + 1)) := Int.mul_le_mul_of_nonneg_right (by omega) (Int.le_of_lt (Int.pow_pos (by decide)))
  rw [← Int.pow_add] at m3
  have e1 : 2 * H + H * (S + 1) = H * (S + 3) := by
    rw [Nat.mul_add, Nat.mul_add]; omega
  rw [e1] at m3
  rw [Int.mul_add, Int.mul_one] at m2
  omega
/-- how many figures a number has -/
theorem cnt_num {x : Int} {H k : Nat} (hH : 0 < H) (h0 : 0 < x) (h1 : x < 2 ^ (H * k)) : ∃ c : Nat, ((intBits x : Int) + (H : Int) - 1).fdiv (H : Int) = (c : Int) ∧ 0 < c ∧ c ≤ k := by
  have b1 := bits_of_lt (Int.le_of_lt h0) h1
  have b2 := bits_pos h0
  refine ⟨(intBits x + H - 1) / H, ?_, Nat.div_pos (by omega) hH, ?_⟩
  · rw [Int.fdiv_eq_ediv_of_nonneg _ (by omega)]
    have : (intBits x : Int) + (H : Int) - 1 = ((intBits x + H - 1 : Nat) : Int) := by omega
    rw [this]; rfl
  · refine Nat.le_of_lt_succ ((Nat.div_lt_iff_lt_mul hH).mpr ?_)
    have : H * k + H = (k + 1) * H := by rw [Nat.add_mul, Nat.mul_comm]; omega
    have e : (k.succ) * H = H * k + H := this.symm
    rw [e]; omega
theorem cnt_exact {x : Int} {H k : Nat} (hH : 0 < H) (h0 : 2 ^ (H * k) ≤ x) (h1 : x < 2 ^ (H * (k + 1))) : ((intBits x : Int) + (H : Int) - 1).fdiv (H : Int) = ((k + 1 : Nat) : Int) := by
  have p : (0 : Int) < 2 ^ (H * k) := Int.pow_pos (by decide)
  obtain ⟨c, e, _, hc⟩ := cnt_num hH (by omega) h1
  rw [e]
  have : k + 1 ≤ c := by
    by_cases h : c ≤ k
    · have b2 := bits_pos (show 0 < x by omega)
      have hb : intBits x ≤ H * k := by
        have e2 : ((intBits x : Int) + (H : Int) - 1).fdiv (H : Int) = (((intBits x + H - 1) / H : Nat) : Int) := by
          rw [Int.fdiv_eq_ediv_of_nonneg _ (by omega)]
          have : (intBits x : Int) + (H : Int) - 1 = ((intBits x + H - 1 : Nat) : Int) := by omega
          rw [this]; rfl
        rw [e2] at e
        have e3 : (intBits x + H - 1) / H = c := by exact_mod_cast e
        have h1 := Nat.div_add_mod (intBits x + H - 1) H
        have h2 := Nat.mod_lt (intBits x + H - 1) hH
        rw [e3] at h1
        have h3 : H * c ≤ H * k := Nat.mul_le_mul_left _ h
        omega
      have := lt_of_bits hb
      omega
    · omega
  have : c = k + 1 := by omega
  rw [this]
theorem ne3730 : (30 : Addr) ≠ 37 := by decide
section
variable {w : World} {pr : Program} {p : Program} {loose : List Str} {mean : ExcName → Option Value} {mg mb : Str → Option Value}
  {dp un : Nat} {gd : Option (List Code)} {cn : Str} {cs : Scope} {a : Addr} {ccd : Value} {cl : List (Str × Addr)} {outer : List Env} {A₀ : Around} {base h₀ : Heap} {L : Addr} {m : Str → Option Value} {s : Shared} {Q E : Value → Shared → Prop} {news : List (Addr × Obj)}
theorem d2i_ts {ps ps2 : Array Value} {all K loc : List (Addr × Obj)} (hsub : ∀ p ∈ (37, tabObj ps) :: (30, tabObj ps2) :: (K ++ loc), p ∈ all) (S : TSt ps ps2 K) (hnf : NF loc)
  (B : Below A₀ base outer h₀) (F : Fr h₀ L s.heap m) (X : (Mine.hd.heap_1 w.params).In h₀) (N : News h₀ L s.heap all) (T : Top p loose mean mg mb h₀) (hcs : cs.kind = .function)
  (C : CodeHd h₀ 41 37)
  (hd : dp + 200 < recursionLimit) (hu : un + 2000 < cLine) (l : Addr) (n : Int) (t1 t2 t3 : Tok) (vs : List Value) (ds : List Int) (nn : Nat) (hl : (l, listOf vs.toArray nn) ∈ loc) (hv : IntsAre vs ds) (hlen : 0 < ds.length) (hlen2 : ds.length ≤ 100) (hn : 0 ≤ n) (hn2 : n ≤ 200) (hok : FigsOk n.toNat ds)
  (hret : ∀ (t : Tok) (h' : Heap) (tk' : Nat) (ps' : Array Value) (K' : List (Addr × Obj)), TSt ps' ps2 K' → Fr h₀ L h' m → News h₀ L h' ((37, tabObj ps') :: (30, tabObj ps2) :: (K' ++ loc)) → Q (.int (dval n.toNat ds) t) { s with heap := h', toks := tk' }) :
  wpAny (model pr w) (ktrTop dp un gd cn cs L a ccd cl outer) (call (.ref 42) [.ref l, .int n t1]) Q E s := by
  have o1 : Off 37 loc := nf_off N (hsub _ (.head _)) (fun p hp => hsub p (.tail _ (.tail _ (List.mem_append_right _ hp)))) hnf
  have o2 : Off 30 loc := nf_off N (hsub _ (.tail _ (.head _))) (fun p hp => hsub p (.tail _ (.tail _ (List.mem_append_right _ hp)))) hnf
  refine d2i (news := (30, tabObj ps2) :: (K ++ loc)) B F X (news_sub N hsub) T hcs C (off_cons ne3730 (off_app S.c o1)) (S.a.mono fun p hp => .tail _ (List.mem_append_left _ hp)) hd hu l n t1 t2 t3 vs ds nn (.tail _ (List.mem_append_right _ hl)) hv hlen hlen2 hn hn2 hok ?_
  intro t h' tk' ps' add F' N' of' tb'
  obtain ⟨K1, k1, k2, k3, k5, k4⟩ := tab_keep (P2 := 30) (ps2 := ps2) (pos2 := posI) (qual2 := qI) (K2 := K) (news_tail N') tb' of' (List.mem_append_right _ (.head _)) S.b
  refine hret t h' tk' ps' (K1 ++ K) ⟨k1.mono fun p hp => List.mem_append_left _ hp, S.b.mono fun p hp => List.mem_append_right _ hp, off_app k2 S.c, off_app k3 S.d, fun p hp => (List.mem_append.mp hp).elim (k5 p) (S.e p)⟩ F' (news_sub N' fun p hp => ?_)
  rcases List.mem_cons.mp hp with rfl | hp
  · exact .head _
  rcases List.mem_cons.mp hp with rfl | hp
  · exact .tail _ (List.mem_append_right _ (.head _))
  rcases List.mem_append.mp hp with hp | hp
  · rcases List.mem_append.mp hp with hp | hp
    · exact .tail _ (k4 p hp)
    · exact .tail _ (List.mem_append_right _ (.tail _ (List.mem_append_left _ hp)))
  · exact .tail _ (List.mem_append_right _ (.tail _ (List.mem_append_right _ hp)))
theorem i2d_ts {ps ps2 : Array Value} {all K loc : List (Addr × Obj)} (hsub : ∀ p ∈ (37, tabObj ps) :: (30, tabObj ps2) :: (K ++ loc), p ∈ all) (S : TSt ps ps2 K) (hnf : NF loc)
  (B : Below A₀ base outer h₀) (F : Fr h₀ L s.heap m) (X : (Mine.hd.heap_1 w.params).In h₀) (N : News h₀ L s.heap all) (T : Top p loose mean mg mb h₀) (hcs : cs.kind = .function)
  (C : CodeHd h₀ 34 30)
  (hd : dp + 200 < recursionLimit) (hu : un + 2000 < cLine) (x n : Int) (t1 t2 : Tok) (cnt : Nat) (hx : 0 < x) (hxb : intBits x ≤ 20000) (hn : 0 < n) (hn2 : n ≤ 200) (hnb : intBits n ≤ 8) (hcnt : ((intBits x : Int) + n - 1).fdiv n = (cnt : Int)) (hc0 : 0 < cnt) (hc2 : cnt ≤ 100)
  (hret : ∀ (D : Addr) (vs : List Value) (ds : List Int) (h' : Heap) (tk' : Nat) (ps' : Array Value) (K' : List (Addr × Obj)), TSt ps ps' K' → Fr h₀ L h' m → News h₀ L h' ((D, listOf vs.toArray 0) :: (37, tabObj ps) :: (30, tabObj ps') :: (K' ++ loc)) →
    IntsAre vs ds → ds.length = cnt → FigsOk n.toNat ds → dval n.toNat ds = x → Q (.ref D) { s with heap := h', toks := tk' }) :
  wpAny (model pr w) (ktrTop dp un gd cn cs L a ccd cl outer) (call (.ref 35) [.int x t1, .int n t2]) Q E s := by
  have o1 : Off 37 loc := nf_off N (hsub _ (.head _)) (fun p hp => hsub p (.tail _ (.tail _ (List.mem_append_right _ hp)))) hnf
  have o2 : Off 30 loc := nf_off N (hsub _ (.tail _ (.head _))) (fun p hp => hsub p (.tail _ (.tail _ (List.mem_append_right _ hp)))) hnf
  refine i2d (news := (37, tabObj ps) :: (K ++ loc)) B F X (news_sub N fun p hp => hsub p ?_) T hcs C (off_cons ne3730.symm (off_app S.d o2)) (S.b.mono fun p hp => .tail _ (List.mem_append_left _ hp)) hd hu x n t1 t2 cnt hx hxb hn hn2 hnb hcnt hc0 hc2 ?_
  · simp only [List.mem_cons] at hp ⊢
    rcases hp with h | h | h <;> simp [h]
  intro D vs ds h' tk' ps' add F' N' of' tb' hi hlen hfo hdv
  have N'' : News h₀ L h' (add ++ (37, tabObj ps) :: (K ++ loc)) := fun p hp => N' p (.tail _ (.tail _ hp))
  obtain ⟨K1, k1, k2, k3, k5, k4⟩ := tab_keep (P2 := 37) (ps2 := ps) (pos2 := posD) (qual2 := qD) (K2 := K) N'' tb' (fun p hp => of' p (.tail _ hp)) (List.mem_append_right _ (.head _)) S.a
  refine hret D vs ds h' tk' ps' (K1 ++ K) ⟨S.a.mono fun p hp => List.mem_append_right _ hp, k1.mono fun p hp => List.mem_append_left _ hp, off_app k3 S.c, off_app k2 S.d, fun p hp => (List.mem_append.mp hp).elim (k5 p) (S.e p)⟩ F' (news_sub N' fun p hp => ?_) hi hlen hfo hdv
  rcases List.mem_cons.mp hp with rfl | hp
  · exact .tail _ (.head _)
  rcases List.mem_cons.mp hp with rfl | hp
  · exact .tail _ (.tail _ (List.mem_append_right _ (.head _)))
  rcases List.mem_cons.mp hp with rfl | hp
  · exact .head _
  rcases List.mem_append.mp hp with hp | hp
  · rcases List.mem_append.mp hp with hp | hp
    · exact .tail _ (.tail _ (k4 p hp))
    · exact .tail _ (.tail _ (List.mem_append_right _ (.tail _ (List.mem_append_left _ hp))))
  · exact .tail _ (.tail _ (List.mem_append_right _ (.tail _ (List.mem_append_right _ hp))))
end
end Mine
set_option Elab.async false
set_option maxRecDepth 100000
set_option maxHeartbeats 4000000
set_option linter.unusedVariables false
namespace Mine
open Builtin.Int (intBits)
section
variable {prog : Program} {w : World} {A : Around} {E : Value → Shared → Prop} {s : Shared} {env : Env} {h₀ : Heap} {x : Str} {body : List Stmt} {Q : Flow → Shared → Prop}
theorem rev_rest {I : Addr} {lp : Addr × Obj} (J : List Value → (Str → Option Value) → List (Addr × Obj) → Prop)
    (turn : ∀ v r m news h tk it, J (v :: r) m news → it.cls = .type "list_reverseiterator" → Fr h₀ env.locals h (fun y => if y = x then some v else m y) → News h₀ env.locals h ((I, it) :: news) →
      wpAny (model prog w) A (execs body env) (UnrPost h₀ env.locals { s with heap := h, toks := tk } I it (fun m' n' => lp ∈ n' ∧ J r m' n') Q) E { s with heap := h, toks := tk })
    (done : ∀ m news, J [] m news → ∀ h tk, Fr h₀ env.locals h m → News h₀ env.locals h news → Q .next { s with heap := h, toks := tk }) :
    ∀ vs m news, J vs m news → RevRest prog w A E h₀ env x body Q s I lp vs m news := by
  intro vs
  induction vs with
  | nil => intro m news hJ; exact RevRest.zero (done m news hJ)
  | cons v r ih =>
    intro m news hJ
    refine RevRest.succ fun it h tk hc F N => wpAny_mono (turn v r m news h tk it hJ hc F N) (fun f s₂ p => ?_) fun _ _ e => e
    cases f with
    | ret v => exact p
    | brk => exact p
    | next =>
      obtain ⟨h', tk', m', news', e', F', N', o, hl, r'⟩ := p
      exact ⟨h', tk', m', news', e', F', N', o, hl, ih _ _ r'⟩
    | cont =>
      obtain ⟨h', tk', m', news', e', F', N', o, hl, r'⟩ := p
      exact ⟨h', tk', m', news', e', F', N', o, hl, ih _ _ r'⟩
end
/-- what the loop leaves alone -/
structure Lk (m : Str → Option Value) (b lo hi extra C U VU : Int) (H S ww : Nat) (t1 t2 t3 t4 t5 t6 t7 t8 t9 t10 : Tok) : Prop where
  b : m (Str.ofString "b") = some (.int b t1)
  lo : m (Str.ofString "low") = some (.int lo t2)
  hi : m (Str.ofString "high") = some (.int hi t3)
  ex : m (Str.ofString "extra") = some (.int extra t4)
  cr : m (Str.ofString "crown") = some (.int C t5)
  un : m (Str.ofString "under") = some (.int U t6)
  wh : m (Str.ofString "whole") = some (.int VU t7)
  h : m (Str.ofString "h") = some (.int H t8)
  sz : m (Str.ofString "size") = some (.int S t9)
  w : m (Str.ofString "w") = some (.int ww t10)
/-- the state at the head of a turn of the division -/
inductive ReJ (ds : List Int) (b lo hi extra C U VU : Int) (H S ww : Nat) (t1 t2 t3 t4 t5 t6 t7 t8 t9 t10 : Tok) (qa I : Addr) (rest0 : List (Addr × Obj)) (r : List Value) (m : Str → Option Value) (news : List (Addr × Obj)) : Prop
  | mk (es dHi qs : List Int) (R : Int) (tR : Tok) (vq : List Value) (nq : Nat) (h0' : IntsAre r es) (h1' : FigsOk H es) (h2' : es.reverse ++ dHi = ds) (h3' : dval H dHi = dval H qs.reverse * b + R) (h4' : 0 ≤ R) (h5' : R < b) (h6' : FigsOk H qs) (h7' : qs.length = dHi.length) (h8' : IntsAre vq qs) (h9' : news = (qa, listOf vq.toArray nq) :: rest0) (h10' : m (Str.ofString "rest") = some (.int R tR)) (h11' : m (Str.ofString "quotient") = some (.ref qa)) (h12' : Lk m b lo hi extra C U VU H S ww t1 t2 t3 t4 t5 t6 t7 t8 t9 t10) : ReJ ds b lo hi extra C U VU H S ww t1 t2 t3 t4 t5 t6 t7 t8 t9 t10 qa I rest0 r m news
theorem div_step {H : Nat} {b R d : Int} {qs dHi : List Int} (h : dval H dHi = dval H qs.reverse * b + R) (hR0 : 0 ≤ R) (hR1 : R < b) (hd0 : 0 ≤ d) (hd1 : d < 2 ^ H) :
    dval H (d :: dHi) = dval H (qs ++ [(R * 2 ^ H + d).fdiv b]).reverse * b + (R * 2 ^ H + d).fmod b ∧ 0 ≤ (R * 2 ^ H + d).fmod b ∧ (R * 2 ^ H + d).fmod b < b ∧ 0 ≤ (R * 2 ^ H + d).fdiv b ∧ (R * 2 ^ H + d).fdiv b < 2 ^ H := by
  have hb : 0 < b := by omega
  have e := fdm (R * 2 ^ H + d) b
  have p : (0 : Int) < 2 ^ H := Int.pow_pos (by decide)
  have m0 := Int.fmod_nonneg_of_pos (R * 2 ^ H + d) hb
  have m1 := Int.fmod_lt_of_pos (R * 2 ^ H + d) hb
  have x0 : 0 ≤ R * 2 ^ H := Int.mul_nonneg hR0 (by omega)
  have x1 : (R + 1) * 2 ^ H ≤ b * 2 ^ H := Int.mul_le_mul_of_nonneg_right (by omega) (by omega)
  rw [Int.add_mul, Int.one_mul] at x1
  refine ⟨?_, m0, m1, ?_, ?_⟩
  · rw [List.reverse_append, List.reverse_singleton, List.singleton_append, dval, dval, h]
    generalize (R * 2 ^ H + d).fdiv b = y at *
    generalize (R * 2 ^ H + d).fmod b = z at *
    generalize dval H qs.reverse = u at *
    generalize (2 : Int) ^ H = X at *
    grind
  · rw [Int.fdiv_eq_ediv_of_nonneg _ (by omega)]; exact Int.ediv_nonneg (by omega) (by omega)
  · rw [Int.fdiv_eq_ediv_of_nonneg _ (by omega)]
    exact Int.ediv_lt_of_lt_mul hb (by rw [Int.mul_comm (2 ^ H) b]; omega)
theorem div_done {H : Nat} {b R W e tot : Int} {qs ds : List Int} (h : dval H ds = dval H qs.reverse * b + R) (hR0 : 0 ≤ R) (hR1 : R < b) (he0 : 0 ≤ e) (he1 : e < b) (ht : dval H ds = tot) (hW : tot = b * W + e) : dval H qs.reverse = W ∧ R = e := by
  have h1 := fdiv_fmod_of (a := tot) (by rw [← ht]; exact h.symm) hR0 hR1
  have h2 := fdiv_fmod_of (a := tot) (b := b) (q := W) (r := e) (by rw [hW, Int.mul_comm]) he0 he1
  exact ⟨h1.1.symm.trans h2.1, h1.2.symm.trans h2.2⟩
theorem ints_rev {vs : List Value} {ns : List Int} (h : IntsAre vs ns) : IntsAre vs.reverse ns.reverse := by
  have snoc : ∀ {vs : List Value} {ns : List Int} (n : Int) (t : Tok), IntsAre vs ns → IntsAre (vs ++ [.int n t]) (ns ++ [n]) := by
    intro vs ns n t h
    induction h with
    | nil => exact .cons n t .nil
    | cons a u _ ih => exact .cons a u ih
  induction h with
  | nil => exact .nil
  | cons n t _ ih => rw [List.reverse_cons, List.reverse_cons]; exact snoc n t ih
theorem ints_snoc {vs : List Value} {ns : List Int} (n : Int) (t : Tok) (h : IntsAre vs ns) : IntsAre (vs ++ [.int n t]) (ns ++ [n]) := by
  induction h with
  | nil => exact .cons n t .nil
  | cons a u _ ih => exact .cons a u ih
section
variable {prog : Program} {w : World} {A : Around} {E : Value → Shared → Prop} {s : Shared} {Q : Value → Shared → Prop}
theorem ne_tups {a c : Addr} {x y : Int} {t1 t2 t3 t4 : Tok} (ha : IsTup s.heap a #[.int x t1, .int y t2]) (hb : IsTup s.heap c #[.int x t3, .int y t4]) (hu : A.units + 64 < cLine) (h : Q (.bool false) s) :
    wpAny (model prog w) A (compareOp .NotEq (.ref a) (.ref c)) Q E s := by
  have ca : CarriedAll [Value.int x t1, .int y t2] [.int x, .int y] := .cons (.int x t1) (.cons (.int y t2) .nil)
  have cb : CarriedAll [Value.int x t3, .int y t4] [.int x, .int y] := .cons (.int x t3) (.cons (.int y t4) .nil)
  have sh : PySem.SeqAt.shaped (.tuple [.int x, .int y]) = true := by simp [PySem.SeqAt.shaped, PyData.canLay0, PyData.canLayAll0, PyData.depth, PyData.depthAll]
  exact ne_dataH_same (reads_newDataT ha ca) (reads_newDataT hb cb) sh sh hu (by simp [PySem.SeqAt.noMix, PySem.SeqAt.noMixAll]) (by simpa [PySem.Spec.same, PySem.Spec.sameAll] using h)
end
theorem loop_start {C : Prop} {g h : Heap} {L D qa : Addr} {tup : Obj} {m : Str → Option Value} {t0 tt : Tok} {tot b lo hi extra C5 U VU : Int} {H S ww : Nat} {t1 t2 t3 t4 t5 t6 t7 t8 t9 t10 : Tok} {rest : List (Addr × Obj)} (F : Fr g L h m) (N : News g L h ((D, tup) :: (qa, listOf #[] 0) :: rest))
    (e1 : m (Str.ofString "rest") = some (.int 0 t0)) (e2 : m (Str.ofString "quotient") = some (.ref qa)) (e3 : m (Str.ofString "total") = some (.int tot tt)) (lk : Lk m b lo hi extra C5 U VU H S ww t1 t2 t3 t4 t5 t6 t7 t8 t9 t10)
    (k : ∀ (qa : Addr) (m : Str → Option Value), Fr g L h m → News g L h ((qa, listOf ([] : List Value).toArray 0) :: rest) → m (Str.ofString "rest") = some (.int 0 t0) → m (Str.ofString "quotient") = some (.ref qa) → m (Str.ofString "total") = some (.int tot tt) → Lk m b lo hi extra C5 U VU H S ww t1 t2 t3 t4 t5 t6 t7 t8 t9 t10 → C) : C :=
  k qa m F (news_tail N) e1 e2 e3 lk
theorem list_data_ne {vs : List Value} {n k : Nat} (h : vs ≠ []) : (listOf ([] : List Value).toArray n).data ≠ (listOf vs.toArray k).data := by
  intro e
  cases vs with
  | nil => exact h rfl
  | cons a r => simp [PySem.W.listOf] at e
theorem ints_cons {v : Value} {r : List Value} {es : List Int} (h : IntsAre (v :: r) es) : ∃ d t es', v = .int d t ∧ IntsAre r es' ∧ es = d :: es' := by
  cases h with | cons d t h' => exact ⟨d, t, _, rfl, h', rfl⟩
theorem offI_of {I : Addr} {it : Obj} : ∀ {l : List (Addr × Obj)}, (∀ p ∈ l, p.1 ≠ I) → OffI I it l
  | [], _ => trivial
  | _ :: _, h => ⟨.inl (h _ (.head _)), offI_of fun p hp => h p (.tail _ hp)⟩
theorem ne_data {g h : Heap} {L a b : Addr} {o o' : Obj} {all : List (Addr × Obj)} (N : News g L h all) (ha : (a, o) ∈ all) (hb : (b, o') ∈ all) (hd : o.data ≠ o'.data) : a ≠ b := by
  intro e
  have h1 := (N _ ha).1
  have h2 := (N _ hb).1
  simp only at h1 h2
  rw [e, h2] at h1
  exact hd (congrArg Obj.data (Option.some.inj h1)).symm
theorem ne_cls {g h : Heap} {L a b : Addr} {o o' : Obj} {all : List (Addr × Obj)} (N : News g L h all) (ha : (a, o) ∈ all) (hb : (b, o') ∈ all) (hd : o.cls ≠ o'.cls) : a ≠ b := by
  intro e
  have h1 := (N _ ha).1
  have h2 := (N _ hb).1
  simp only at h1 h2
  rw [e, h2] at h1
  exact hd (congrArg Obj.cls (Option.some.inj h1)).symm
theorem app_any {prog : Program} {w : World} {A : Around} {s : Shared} {E Q : Value → Shared → Prop} {g : Heap} {L D : Addr} {m : Str → Option Value} {vs : List Value} {n : Nat} {x : Value} {all : List (Addr × Obj)} (rest : List (Addr × Obj))
  (F : Fr g L s.heap m) (N : News g L s.heap all) (hm : (D, listOf vs.toArray n) ∈ all) (hs : ∀ p ∈ rest, p ∈ all) (off : Off D rest) (hsz : vs.toArray.size ≤ sizeLine)
  (h : ∀ h', Fr g L h' m → News g L h' ((D, listOf (vs ++ [x]).toArray (n + 1)) :: rest) → Q .none { s with heap := h' }) : wpAny (model prog w) A (call (.builtin "list.append") [.ref D, x]) Q E s := by
  refine append_K (hsz := hsz) F (news_sub (news := (D, listOf vs.toArray n) :: rest) N fun p hp => ?_) (Upd.head off) fun h' F' N' => h h' F' ?_
  · rcases List.mem_cons.mp hp with rfl | hp
    · exact hm
    · exact hs p hp
  · have : (vs.toArray.push x) = (vs ++ [x]).toArray := by simp
    rw [← this]; exact N'
theorem re_end {g h' : Heap} {L qa c9 I : Addr} {m : Str → Option Value} {s₁ : Shared} {tk k : Nat} {vq : List Value} {y : Int} {ty : Tok} {ot it : Obj} {rest0 : List (Addr × Obj)} {lp : Addr × Obj} {J : (Str → Option Value) → List (Addr × Obj) → Prop}
  (F : Fr g L h' m) (N : News g L h' ((qa, listOf (vq ++ [Value.int y ty]).toArray k) :: (c9, ot) :: (I, it) :: rest0)) (offI0 : Off I rest0) (hqI : qa ≠ I) (lpm : lp ∈ rest0) (j : J m ((qa, listOf (vq ++ [Value.int y ty]).toArray k) :: rest0)) :
  UnrEnd g L s₁ I it (fun m' n' => lp ∈ n' ∧ J m' n') { s₁ with heap := h', toks := tk } :=
  UnrEnd.intro F N ((qa, listOf (vq ++ [Value.int y ty]).toArray k) :: rest0) (by (repeat (refine List.forall_mem_cons.mpr ⟨(by repeat (first | exact List.Mem.head _ | refine List.Mem.tail _ ?_)), ?_⟩)); exact fun p h => (by repeat (first | exact h | refine List.Mem.tail _ ?_))) (off_cons hqI offI0) ⟨.tail _ lpm, j⟩
theorem ints_two {vs : List Value} {es : List Int} (h : IntsAre vs es) (l : es.length = 2) : ∃ a b t u, es = [a, b] ∧ vs = [.int a t, .int b u] := by
  cases h with
  | nil => cases l
  | cons a t h => cases h with
    | nil => cases l
    | cons b u h => cases h with
      | nil => exact ⟨a, b, t, u, rfl, rfl⟩
      | cons => cases l
theorem figs_rev {n : Nat} {a : List Int} (h : FigsOk n a) : FigsOk n a.reverse := fun d hd => h d (List.mem_reverse.mp hd)
theorem n21 {n : Nat} (h : 3 ≤ n) : n - 2 + 1 = n - 1 := by omega
theorem n21b {n : Nat} (h : n ≤ 8) : n - 2 + 1 ≤ 100 := by omega
theorem pred_nat {n : Nat} (h : 3 ≤ n) : ((n : Int) - 1).toNat = n - 1 := by omega
theorem len_hund {a b c S : Nat} (h1 : a = b) (h2 : b = c) (h3 : c ≤ S + 3) (h4 : S ≤ 7) : a ≤ 100 := by omega
theorem two_h {H : Nat} (h : 1 ≤ H) : H * 1 ≤ 2 * H - 1 := by omega
theorem two_h' {H : Nat} (h : 1 ≤ H) : H ≤ 2 * H - 1 := by omega
theorem two_h2 (H : Nat) : H * (1 + 1) = 2 * H := by omega
theorem ge_one {ww H : Nat} (h : ww + 1 ≤ H) : 1 ≤ H := by omega
theorem predw {n : Nat} (h : 12 ≤ n) : ((n : Int) - 1).toNat = n - 1 := pred_nat (Nat.le_trans (by decide) h)
theorem pred7n {n : Nat} (h : n ≤ 8) : n - 1 ≤ 7 := Nat.sub_le_sub_right h 1
theorem pred100n {n : Nat} (h : n ≤ 8) : n - 1 ≤ 100 := Nat.le_trans (pred7n h) (by decide)
theorem u_arith {X Y U : Int} (hX : 4096 ≤ X) (h : X ≤ Y) (hU : U = 1 + X + Y) : 0 < U ∧ U < Y * 4 := by omega
theorem u_num {ww : Nat} {U : Int} (hw2 : ww ≤ 71) (hX : (4096 : Int) ≤ 2 ^ ww) (hU : U = 1 + 2 ^ ww + 2 ^ ww * 2 ^ ww) : 0 < U ∧ intBits U ≤ 146 := by
  have e1 : (2 : Int) ^ ww * 2 ^ ww = 2 ^ (2 * ww) := by rw [← Int.pow_add, Nat.two_mul]
  have e2 : (2 : Int) ^ ww ≤ 2 ^ (2 * ww) := two_pow_mono (Nat.le_mul_of_pos_left _ (by decide))
  have e3 : (2 : Int) ^ (2 * ww + 2) = 2 ^ (2 * ww) * 4 := by rw [Int.pow_add]; rfl
  rw [e1] at hU
  obtain ⟨k1, k2⟩ := u_arith hX e2 hU
  rw [← e3] at k2
  exact ⟨k1, bits_up (bits_of_lt (Int.le_of_lt k1) k2) (Nat.le_trans (Nat.add_le_add_right (Nat.mul_le_mul_left 2 hw2) 2) (by decide))⟩
theorem odd_k {k : Nat} (e : (k : Int) % 2 = 1) : (k + 1) % 2 = 0 := by
  have h : k % 2 = 1 := Int.ofNat.inj e
  clear e
  omega
theorem even_k {k : Nat} (e : ¬ (k : Int) % 2 = 1) : k % 2 = 0 := Nat.mod_two_ne_one.mp fun h => e (congrArg Int.ofNat h)
theorem half_k {k : Nat} (e : k % 2 = 0) : k = 2 * (k / 2) := (Nat.mul_div_cancel' (Nat.dvd_of_mod_eq_zero e)).symm
theorem two_div (H : Nat) : ((2 * H : Nat) : Int) / 2 = (H : Int) := by rw [Int.natCast_mul]; exact Int.mul_ediv_cancel_left _ (by decide)
structure HFacts (H : Nat) : Prop where
  p : 0 < H
  pi : 0 < (H : Int)
  ne : (H : Int) ≠ 0
  z : (0 : Int) ≤ (H : Int)
  a : (H : Int) ≤ 200
  b : (H : Int) < 2 ^ 7
  c : (H : Int) ≤ 1000000
  d : (H : Int) ≤ 2000
  e : ((1 : Nat) : Int) + (H : Int) ≤ 1000000
  f : H ≤ 101
  g : 200 + ((H : Int).toNat + 1) ≤ 134217728
theorem h_facts {H ww : Nat} (h : ww + 1 ≤ H) (h2 : H ≤ 100) : HFacts H where
  p := ge_one h
  pi := Int.ofNat_lt.mpr (ge_one h)
  ne := fun e => Nat.ne_of_gt (ge_one h) (Int.ofNat.inj e)
  z := Int.natCast_nonneg _
  a := by omega
  b := by omega
  c := by omega
  d := by omega
  e := by omega
  f := by omega
  g := by omega
theorem c_hund {c S : Nat} (h : c ≤ S + 3) (h' : S ≤ 7) : c ≤ 100 := by omega
theorem sz_h {a b d e l c S : Nat} (h1 : a = b) (h2 : b = d) (h3 : e + 1 + d = l) (h4 : l = c) (h5 : c ≤ S + 3) (h6 : S ≤ 7) : a ≤ 100 := by
  subst h1 h2 h3 h4
  exact Nat.le_trans (Nat.le_add_left _ _) (c_hund h5 h6)
theorem hi_pos {b hi lo X : Int} (hbd : b = hi * X + lo) (f2 : 0 ≤ hi) (f1 : lo < X) (h : X ≤ b) : 0 < hi := by
  rcases Int.lt_or_eq_of_le f2 with h1 | h1
  · exact h1
  · subst h1
    rw [Int.zero_mul, Int.zero_add] at hbd
    subst hbd
    exact absurd (Int.lt_of_lt_of_le f1 h) (Int.lt_irrefl _)
theorem rev_pos {qs : List Int} {c : Nat} (h : qs.length = c) (h' : 0 < c) : 0 < qs.reverse.length := by rw [List.length_reverse, h]; exact h'
theorem rev_hund {qs : List Int} {c S : Nat} (h : qs.length = c) (h' : c ≤ S + 3) (h2 : S ≤ 7) : qs.reverse.length ≤ 100 := by rw [List.length_reverse, h]; exact c_hund h' h2
theorem sum_le {x : Int} (h : x ≤ 700) : ((101 : Nat) : Int) + x ≤ 1000000 := by omega
theorem sum_le' {x : Nat} (h : x ≤ 100 * 7) : 101 + (x + 1) ≤ 900 := by omega
end Mine
set_option Elab.async false
set_option maxRecDepth 100000
set_option maxHeartbeats 4000000
set_option linter.unusedVariables false
namespace Mine
theorem news_one {h₀ h : Heap} {L : Addr} {new news : List (Addr × Obj)} {p : Addr × Obj} (N : News h₀ L h (new ++ news)) (a : p ∈ new) : News h₀ L h (p :: news) := by
  intro x hx
  rcases List.mem_cons.mp hx with rfl | hx
  · exact N _ (List.mem_append_left _ a)
  · exact N _ (List.mem_append_right _ hx)
theorem news_three {h₀ h : Heap} {L : Addr} {new news : List (Addr × Obj)} {p q r : Addr × Obj} (N : News h₀ L h (new ++ news)) (a : p ∈ new) (b : q ∈ new) (c : r ∈ new) : News h₀ L h (p :: q :: r :: (news ++ new)) := by
  intro x hx
  simp only [List.mem_cons, List.mem_append] at hx
  rcases hx with rfl | rfl | rfl | hx | hx
  · exact N _ (List.mem_append_left _ a)
  · exact N _ (List.mem_append_left _ b)
  · exact N _ (List.mem_append_left _ c)
  · exact N _ (List.mem_append_right _ hx)
  · exact N _ (List.mem_append_left _ hx)
theorem len_small {news : List (Addr × Obj)} {vs : List Value} {xs : List (Int × Bool)} (h : CrossAre news vs xs) (h8 : xs.length ≤ 8) : ((vs.toArray.size : Nat) : Int) < 2 ^ 63 := by
  rw [List.size_toArray, h.length]; omega
section
variable {M : Model} {A : Around} {E : Value → Shared → Prop} {s : Shared} {h₀ : Heap} {L a c : Addr} {m : Str → Option Value} {cn x : Str} {cs : Scope} {ccd v : Value} {cl : List (Str × Addr)} {Q : Unit → Shared → Prop} {o : Obj} {v0 : Option Value} {all : List (Addr × Obj)}
theorem store_cell (rest : List (Addr × Obj)) (F : Fr h₀ L s.heap m) (N : News h₀ L s.heap all) (hm : (c, o) ∈ all) (hs : ∀ p ∈ rest, p ∈ all) (off : Off c rest) (hd : o.data = .cell v0) (hc : cl.lookup x = some c)
    (h : ∀ h' o', Fr h₀ L h' m → News h₀ L h' ((c, o') :: rest) → o'.data = .cell (some v) → Q () { s with heap := h' }) (hk : cs.kind = .function := by rfl) (hx : (envX cn cs L a ccd cl).kindOf x = some .cell := by rfl) :
    wpAny M A (storeName (envX cn cs L a ccd cl) x v) Q E s :=
  storeX_C F (news_sub N fun p hp => by
    rcases List.mem_cons.mp hp with rfl | hp
    · exact hm
    · exact hs p hp) hc (UpdF.head off) hd h hk hx
end
/-- the cells of the law's frame, after the crossings are made -/
theorem law_start {C : Prop} {g h : Heap} {L ce a1 a2 c9 : Addr} {m : Str → Option Value} {o1 o2 o3 o4 o5 o6 : Obj} {vc v1 v2 : List Value} {nc n1 n2 : Nat} {new : List (Addr × Obj)} {ds : List Int} {xs : List (Int × Bool)}
  (N : News g L h ((c9, tupObj [.ref a1, .ref a2]) :: (a1, listOf v1.toArray n1) :: (a2, listOf v2.toArray n2) :: (ce, listOf vc.toArray nc) :: (L + 1 + 1 + 1 + 1 + 1 + 1, o6) :: (L + 1 + 1 + 1 + 1 + 1, o5) :: (L + 1 + 1 + 1 + 1, o4) :: (L + 1 + 1 + 1, o3) :: (L + 1 + 1, o2) :: (L + 1, o1) :: (37, tabObj #[]) :: (30, tabObj #[]) :: new))
  (F : Fr g L h m) (u1 : m (Str.ofString "told") = some (.ref c9)) (u2 : m (Str.ofString "cells") = some (.ref ce))
  (d1 : o1.data = .cell none) (d2 : o2.data = .cell none) (d3 : o3.data = .cell none) (d4 : o4.data = .cell none) (d5 : o5.data = .cell none) (d6 : o6.data = .cell none)
  (ap : ∀ q ∈ new, ∀ p ∈ [(ce, listOf vc.toArray nc), (L + 1 + 1 + 1 + 1 + 1 + 1, o6), (L + 1 + 1 + 1 + 1 + 1, o5), (L + 1 + 1 + 1 + 1, o4), (L + 1 + 1 + 1, o3), (L + 1 + 1, o2), (L + 1, o1), (37, tabObj #[]), (30, tabObj #[])], p.1 ≠ q.1)
  (hx : CrossAre new v1 xs) (hs : IntsAre v2 (seatsOf xs)) (hv : IntsAre vc ds) (hp : PlOk xs) (hlo : 3 ≤ xs.length) (hhi : xs.length ≤ 8) (hds : ds.length = 10)
  (k : ∀ m ce c9 a1 a2 vc v1 v2 nc n1 n2 o1 o2 o3 o4 o5 o6 xs ds base, Fr g L h m → m (Str.ofString "told") = some (.ref c9) → m (Str.ofString "cells") = some (.ref ce) → PlOk xs → 3 ≤ xs.length → xs.length ≤ 8 → ds.length = 10 → (c9, ({ cls := .type "tuple", data := .seq #[.ref a1, .ref a2] } : Obj)) ∈ base → CrossAre base v1 xs → IntsAre v2 (seatsOf xs) → IntsAre vc ds → (ce, listOf vc.toArray nc) ∈ base → (a1, listOf v1.toArray n1) ∈ base → (a2, listOf v2.toArray n2) ∈ base → (37, tabObj #[]) ∈ base → (30, tabObj #[]) ∈ base →
    Off (L + 1) base → Off (L + 1 + 1) base → Off (L + 1 + 1 + 1) base → Off (L + 1 + 1 + 1 + 1) base → Off (L + 1 + 1 + 1 + 1 + 1) base → Off (L + 1 + 1 + 1 + 1 + 1 + 1) base →
    o1.data = .cell none → o2.data = .cell none → o3.data = .cell none → o4.data = .cell none → o5.data = .cell none → o6.data = .cell none →
    News g L h ((L + 1, o1) :: (L + 1 + 1, o2) :: (L + 1 + 1 + 1, o3) :: (L + 1 + 1 + 1 + 1, o4) :: (L + 1 + 1 + 1 + 1 + 1, o5) :: (L + 1 + 1 + 1 + 1 + 1 + 1, o6) :: base) → C) : C := by
  have key : ∀ (c : Addr) (o : Obj), (c, o) ∈ [(L + 1 + 1 + 1 + 1 + 1 + 1, o6), (L + 1 + 1 + 1 + 1 + 1, o5), (L + 1 + 1 + 1 + 1, o4), (L + 1 + 1 + 1, o3), (L + 1 + 1, o2), (L + 1, o1)] → o.data = .cell none → Off c ((c9, tupObj [.ref a1, .ref a2]) :: (ce, listOf vc.toArray nc) :: (a1, listOf v1.toArray n1) :: (a2, listOf v2.toArray n2) :: (37, tabObj #[]) :: (30, tabObj #[]) :: new) := by
    intro c o hm hd p hp e
    have hmN : (c, o) ∈ ((c9, tupObj [.ref a1, .ref a2]) :: (a1, listOf v1.toArray n1) :: (a2, listOf v2.toArray n2) :: (ce, listOf vc.toArray nc) :: (L + 1 + 1 + 1 + 1 + 1 + 1, o6) :: (L + 1 + 1 + 1 + 1 + 1, o5) :: (L + 1 + 1 + 1 + 1, o4) :: (L + 1 + 1 + 1, o3) :: (L + 1 + 1, o2) :: (L + 1, o1) :: (37, tabObj #[]) :: (30, tabObj #[]) :: new) := by
      simp only [List.mem_cons, List.not_mem_nil, or_false] at hm ⊢
      grind
    have nd : ∀ q : Addr × Obj, q ∈ ((c9, tupObj [.ref a1, .ref a2]) :: (a1, listOf v1.toArray n1) :: (a2, listOf v2.toArray n2) :: (ce, listOf vc.toArray nc) :: (L + 1 + 1 + 1 + 1 + 1 + 1, o6) :: (L + 1 + 1 + 1 + 1 + 1, o5) :: (L + 1 + 1 + 1 + 1, o4) :: (L + 1 + 1 + 1, o3) :: (L + 1 + 1, o2) :: (L + 1, o1) :: (37, tabObj #[]) :: (30, tabObj #[]) :: new) → q.2.data ≠ .cell none → q.1 ≠ c := by
      intro q hq hn e'
      have h1 := (N _ hq).1
      have h2 := (N _ hmN).1
      rw [e'] at h1
      rw [h1] at h2
      have := congrArg Obj.data (Option.some.inj h2)
      exact hn (this.trans hd)
    simp only [List.mem_cons] at hp
    rcases hp with rfl | rfl | rfl | rfl | rfl | rfl | hp
    · exact nd _ (by simp) (by simp [tupObj]) e
    · exact nd _ (by simp) (by simp [W.listOf]) e
    · exact nd _ (by simp) (by simp [W.listOf]) e
    · exact nd _ (by simp) (by simp [W.listOf]) e
    · exact nd _ (by simp) (by simp) e
    · exact nd _ (by simp) (by simp) e
    · refine ap p hp (c, o) ?_ e.symm
      simp only [List.mem_cons, List.not_mem_nil, or_false] at hm ⊢
      grind
  refine k m ce c9 a1 a2 vc v1 v2 nc n1 n2 o1 o2 o3 o4 o5 o6 xs ds ((c9, tupObj [.ref a1, .ref a2]) :: (ce, listOf vc.toArray nc) :: (a1, listOf v1.toArray n1) :: (a2, listOf v2.toArray n2) :: (37, tabObj #[]) :: (30, tabObj #[]) :: new) F u1 u2 hp hlo hhi hds (.head _) (hx.mono fun p hp => by simp [hp]) hs hv (by simp) (by simp) (by simp) (by simp) (by simp) (key _ _ (by simp) d1) (key _ _ (by simp) d2) (key _ _ (by simp) d3) (key _ _ (by simp) d4) (key _ _ (by simp) d5) (key _ _ (by simp) d6) d1 d2 d3 d4 d5 d6 (news_sub N (by (repeat (refine List.forall_mem_cons.mpr ⟨(by repeat (first | exact List.Mem.head _ | refine List.Mem.tail _ ?_)), ?_⟩)); exact fun p h => (by repeat (first | exact h | refine List.Mem.tail _ ?_))))
theorem off5 {c a1 a2 a3 a4 a5 : Addr} {o1 o2 o3 o4 o5 : Obj} {base : List (Addr × Obj)} (h1 : a1 ≠ c) (h2 : a2 ≠ c) (h3 : a3 ≠ c) (h4 : a4 ≠ c) (h5 : a5 ≠ c) (hb : Off c base) : Off c ((a1, o1) :: (a2, o2) :: (a3, o3) :: (a4, o4) :: (a5, o5) :: base) :=
  off_cons h1 (off_cons h2 (off_cons h3 (off_cons h4 (off_cons h5 hb))))
/-- the six cells stand apart -/
structure Six (L : Addr) : Prop where
  a12 : L + 1 ≠ L + 1 + 1
  a13 : L + 1 ≠ L + 1 + 1 + 1
  a14 : L + 1 ≠ L + 1 + 1 + 1 + 1
  a15 : L + 1 ≠ L + 1 + 1 + 1 + 1 + 1
  a16 : L + 1 ≠ L + 1 + 1 + 1 + 1 + 1 + 1
  a23 : L + 1 + 1 ≠ L + 1 + 1 + 1
  a24 : L + 1 + 1 ≠ L + 1 + 1 + 1 + 1
  a25 : L + 1 + 1 ≠ L + 1 + 1 + 1 + 1 + 1
  a26 : L + 1 + 1 ≠ L + 1 + 1 + 1 + 1 + 1 + 1
  a34 : L + 1 + 1 + 1 ≠ L + 1 + 1 + 1 + 1
  a35 : L + 1 + 1 + 1 ≠ L + 1 + 1 + 1 + 1 + 1
  a36 : L + 1 + 1 + 1 ≠ L + 1 + 1 + 1 + 1 + 1 + 1
  a45 : L + 1 + 1 + 1 + 1 ≠ L + 1 + 1 + 1 + 1 + 1
  a46 : L + 1 + 1 + 1 + 1 ≠ L + 1 + 1 + 1 + 1 + 1 + 1
  a56 : L + 1 + 1 + 1 + 1 + 1 ≠ L + 1 + 1 + 1 + 1 + 1 + 1
theorem six_ok (L : Addr) : Six L := by
  constructor <;> (refine neN ?_; omega)
/-- the state at the head of a turn over the crossings -/
inductive LoJ (L ce a1 a2 : Addr) (base : List (Addr × Obj)) (p1 p2 p3 o6 : Obj) (X t : Int) (R0 R1 S0 S1 : Int × Int) (I : Addr) (r : List Value) (m : Str → Option Value) (news : List (Addr × Obj)) : Prop
  | mk (rw ra rb pw pa pb : Addr) (k1 k2 k3 k4 k5 k6 : Nat) (x0 y0 x1 y1 u0 v0 u1 v1 : Int) (t1 t2 t3 t4 t5 t6 t7 t8 : Tok) (o4 o5 : Obj) (c4 c5 : Option Value) (xs' : List (Int × Bool)) (kk : Nat) (h0' : CrossAre base r xs') (h1' : PlOk xs') (h2' : rowF X (x0, y0) xs' = R0) (h3' : rowF X (x1, y1) xs' = R1) (h4' : rowF t (u0, v0) xs' = S0) (h5' : rowF t (u1, v1) xs' = S1) (h6' : (Builtin.Int.intBits x0 ≤ kk ∧ Builtin.Int.intBits y0 ≤ kk ∧ Builtin.Int.intBits x1 ≤ kk ∧ Builtin.Int.intBits y1 ≤ kk ∧ Builtin.Int.intBits u0 ≤ kk ∧ Builtin.Int.intBits v0 ≤ kk ∧ Builtin.Int.intBits u1 ≤ kk ∧ Builtin.Int.intBits v1 ≤ kk ∧ kk + 100 * xs'.length ≤ 900)) (h7' : news = (rw, listOf [Value.ref ra, .ref rb].toArray k1) :: (ra, listOf [Value.int x0 t1, .int y0 t2].toArray k2) :: (rb, listOf [Value.int x1 t3, .int y1 t4].toArray k3) :: (pw, listOf [Value.ref pa, .ref pb].toArray k4) :: (pa, listOf [Value.int u0 t5, .int v0 t6].toArray k5) :: (pb, listOf [Value.int u1 t7, .int v1 t8].toArray k6) :: (L + 1 + 1 + 1 + 1, o4) :: (L + 1 + 1 + 1 + 1 + 1, o5) :: (L + 1, p1) :: (L + 1 + 1, p2) :: (L + 1 + 1 + 1, p3) :: (L + 1 + 1 + 1 + 1 + 1 + 1, o6) :: base) (h8' : o4.data = .cell c4) (h9' : o5.data = .cell c5) (h10' : Off I news) (h11' : m (Str.ofString "rows") = some (.ref rw)) (h12' : m (Str.ofString "plain") = some (.ref pw)) (h13' : m (Str.ofString "crossings") = some (.ref a1)) (h14' : m (Str.ofString "cells") = some (.ref ce)) (h15' : m (Str.ofString "seats") = some (.ref a2)) : LoJ L ce a1 a2 base p1 p2 p3 o6 X t R0 R1 S0 S1 I r m news
theorem lo_news {g h : Heap} {L D pw pa pb rw ra rb a1 a2 a3 a4 a5 a6 : Addr} {tup b1 b2 b3 b4 b5 b6 : Obj} {v1 v2 v3 v4 v5 v6 : List Value} {base : List (Addr × Obj)}
  (N : News g L h ((D, tup) :: (pw, listOf v1.toArray 0) :: (pb, listOf v2.toArray 0) :: (pa, listOf v3.toArray 0) :: (rw, listOf v4.toArray 0) :: (rb, listOf v5.toArray 0) :: (ra, listOf v6.toArray 0) :: (a3, b3) :: (a1, b1) :: (a2, b2) :: (a4, b4) :: (a5, b5) :: (a6, b6) :: base)) :
  News g L h ((rw, listOf v4.toArray 0) :: (ra, listOf v6.toArray 0) :: (rb, listOf v5.toArray 0) :: (pw, listOf v1.toArray 0) :: (pa, listOf v3.toArray 0) :: (pb, listOf v2.toArray 0) :: (a4, b4) :: (a5, b5) :: (a1, b1) :: (a2, b2) :: (a3, b3) :: (a6, b6) :: base) :=
  news_sub N (by (repeat (refine List.forall_mem_cons.mpr ⟨(by repeat (first | exact List.Mem.head _ | refine List.Mem.tail _ ?_)), ?_⟩)); exact fun p h => (by repeat (first | exact h | refine List.Mem.tail _ ?_)))
theorem off_turn {g h : Heap} {L c I rw ra rb pw pa pb : Addr} {o it : Obj} {v : Option Value} {w1 w2 w3 w4 w5 w6 : List Value} {k1 k2 k3 k4 k5 k6 : Nat} {all X : List (Addr × Obj)} (N : News g L h all) (hc : (c, o) ∈ all) (hd : o.data = .cell v) (hI : I ≠ c)
  (hl : ∀ p ∈ [(rw, listOf w1.toArray k1), (ra, listOf w2.toArray k2), (rb, listOf w3.toArray k3), (pw, listOf w4.toArray k4), (pa, listOf w5.toArray k5), (pb, listOf w6.toArray k6)], p ∈ all) (hX : Off c X) :
  Off c ((I, it) :: (rw, listOf w1.toArray k1) :: (ra, listOf w2.toArray k2) :: (rb, listOf w3.toArray k3) :: (pw, listOf w4.toArray k4) :: (pa, listOf w5.toArray k5) :: (pb, listOf w6.toArray k6) :: X) := by
  have key : ∀ (x : Addr) (w : List Value) (k : Nat), (x, listOf w.toArray k) ∈ all → x ≠ c := fun x w k hm => ne_data N hm hc (by rw [hd]; simp [W.listOf])
  exact off_cons hI (off_cons (key rw w1 k1 (hl _ (by simp))) (off_cons (key ra w2 k2 (hl _ (by simp))) (off_cons (key rb w3 k3 (hl _ (by simp))) (off_cons (key pw w4 k4 (hl _ (by simp))) (off_cons (key pa w5 k5 (hl _ (by simp))) (off_cons (key pb w6 k6 (hl _ (by simp))) hX))))))
theorem comp_end1 {h₀ h' : Heap} {L c I C D : Addr} {m : Str → Option Value} {s₁ : Shared} {o oI oC oD : Obj} {S : List (Addr × Obj) → Prop} {rest : Value → List (Addr × Obj) → Prop} {y : Value} {tk : Nat} {news : List (Addr × Obj)}
    (F : Fr h₀ L h' m) (N : News h₀ L h' ((c, o) :: (I, oI) :: (C, oC) :: (D, oD) :: news)) (l : ∀ q ∈ (I, oI) :: (C, oC) :: (D, oD) :: news, q.1 < c) (off : LCg.Off3 I C D news) (hS : S ((c, o) :: news)) (r : rest y ((c, o) :: news)) :
    LCg.CompEnd h₀ L m s₁ I oI C oC D oD S rest y { s₁ with heap := h', toks := tk } := by
  have ne : ∀ {a b : Addr}, @LT.lt Nat _ a b → @Ne Nat b a := fun h e => by subst e; exact Nat.lt_irrefl _ h
  refine LCg.CompEnd.intro F N ((c, o) :: news) (fun p hp => ?_) ⟨⟨ne (l _ (.head _)), ne (l _ (.tail _ (.head _))), ne (l _ (.tail _ (.tail _ (.head _))))⟩, off⟩ hS r
  simp only [List.mem_cons] at hp ⊢
  rcases hp with h | h | h | h | h <;> simp [h]
theorem stepA_bits {z X x y : Int} {ov : Bool} {k : Nat} (hx : Builtin.Int.intBits x ≤ k) (hy : Builtin.Int.intBits y ≤ k) (hX : Builtin.Int.intBits X ≤ 80) : Builtin.Int.intBits (stepA z ov X x y) ≤ k + 100 ∧ Builtin.Int.intBits (stepB z ov X x y) ≤ k + 100 := by
  have a1 := intBits_mul_le hx hX
  have a2 := intBits_mul_le hy hX
  have a3 := intBits_mul_le (intBits_add_le hx hy) hX
  have a4 := intBits_neg_le a1
  have a5 := intBits_neg_le a2
  have a6 := intBits_neg_le hx
  have a7 := intBits_neg_le hy
  have a8 := intBits_add_le hx a2
  have a9 := intBits_add_le hx hy
  unfold stepA stepB
  constructor <;> split <;> split <;> omega
theorem bits_of_natAbs {x : Int} (h : x.natAbs < 2 ^ 20) : Builtin.Int.intBits x ≤ 20 := intBits_le_iff.mpr h
theorem lo_end {g h' : Heap} {L ce a1 a2 I D1 D2 c1 c2 c3 c4 y1' y2' y3' y4' y5' y6' : Addr} {base : List (Addr × Obj)} {p1 p2 p3 o6 q4 q5 o4 o5 it z1 z2 z3 z4 z5 z6 : Obj} {X t pl x0 y0 x1 y1 u0 v0 u1 v1 : Int} {ov : Bool} {R0 R1 S0 S1 : Int × Int} {r lv : List Value} {m : Str → Option Value} {s₁ : Shared} {tk ln : Nat}
  {t1 t2 t3 t4 t5 t6 t7 t8 : Tok} {v4 v5 : Value} {xs' : List (Int × Bool)} {kk : Nat}
  (F : Fr g L h' m)
  (N : News g L h' ((D2, LCg.lst [Value.ref c3, .ref c4]) :: (c4, listOf [Value.int (stepA pl ov t u1 v1) t7, .int (stepB pl ov t u1 v1) t8].toArray 0) :: (c3, listOf [Value.int (stepA pl ov t u0 v0) t5, .int (stepB pl ov t u0 v0) t6].toArray 0) ::
    (D1, LCg.lst [Value.ref c1, .ref c2]) :: (c2, listOf [Value.int (stepA pl ov X x1 y1) t3, .int (stepB pl ov X x1 y1) t4].toArray 0) :: (c1, listOf [Value.int (stepA pl ov X x0 y0) t1, .int (stepB pl ov X x0 y0) t2].toArray 0) ::
    (L + 1 + 1 + 1 + 1 + 1, q5) :: (I, it) :: (y1', z1) :: (y2', z2) :: (y3', z3) :: (y4', z4) :: (y5', z5) :: (y6', z6) :: (L + 1 + 1 + 1 + 1, q4) :: (L + 1, p1) :: (L + 1 + 1, p2) :: (L + 1 + 1 + 1, p3) :: (L + 1 + 1 + 1 + 1 + 1 + 1, o6) :: base))
  (hc : it.cls = .type "list_iterator") (oI : Off I ((y1', z1) :: (y2', z2) :: (y3', z3) :: (y4', z4) :: (y5', z5) :: (y6', z6) :: (L + 1 + 1 + 1 + 1, o4) :: (L + 1 + 1 + 1 + 1 + 1, o5) :: (L + 1, p1) :: (L + 1 + 1, p2) :: (L + 1 + 1 + 1, p3) :: (L + 1 + 1 + 1 + 1 + 1 + 1, o6) :: base))
  (hl : (a1, listOf lv.toArray ln) ∈ base) (hx : CrossAre base r xs') (hp : PlOk xs')
  (e1 : rowF X (x0, y0) ((pl, ov) :: xs') = R0) (e2 : rowF X (x1, y1) ((pl, ov) :: xs') = R1) (e3 : rowF t (u0, v0) ((pl, ov) :: xs') = S0) (e4 : rowF t (u1, v1) ((pl, ov) :: xs') = S1)
  (bX : Builtin.Int.intBits X ≤ 80) (bT : Builtin.Int.intBits t ≤ 80)
  (b1 : Builtin.Int.intBits x0 ≤ kk) (b2 : Builtin.Int.intBits y0 ≤ kk) (b3 : Builtin.Int.intBits x1 ≤ kk) (b4 : Builtin.Int.intBits y1 ≤ kk) (b5 : Builtin.Int.intBits u0 ≤ kk) (b6 : Builtin.Int.intBits v0 ≤ kk) (b7 : Builtin.Int.intBits u1 ≤ kk) (b8 : Builtin.Int.intBits v1 ≤ kk) (b9 : kk + 100 * ((pl, ov) :: xs').length ≤ 900)
  (d4 : q4.data = .cell (some v4)) (d5 : q5.data = .cell (some v5))
  (g1 : m (Str.ofString "rows") = some (.ref D1)) (g2 : m (Str.ofString "plain") = some (.ref D2)) (g3 : m (Str.ofString "crossings") = some (.ref a1)) (g4 : m (Str.ofString "cells") = some (.ref ce)) (g5 : m (Str.ofString "seats") = some (.ref a2)) :
  UnrEndW g L s₁ [(I, it)] (fun m' n' => SubL [(a1, listOf lv.toArray ln)] n' ∧ LoJ L ce a1 a2 base p1 p2 p3 o6 X t R0 R1 S0 S1 I r m' n') { s₁ with heap := h', toks := tk } := by
  have mI : (I, it) ∈ ((D2, LCg.lst [Value.ref c3, .ref c4]) :: (c4, listOf [Value.int (stepA pl ov t u1 v1) t7, .int (stepB pl ov t u1 v1) t8].toArray 0) :: (c3, listOf [Value.int (stepA pl ov t u0 v0) t5, .int (stepB pl ov t u0 v0) t6].toArray 0) ::
    (D1, LCg.lst [Value.ref c1, .ref c2]) :: (c2, listOf [Value.int (stepA pl ov X x1 y1) t3, .int (stepB pl ov X x1 y1) t4].toArray 0) :: (c1, listOf [Value.int (stepA pl ov X x0 y0) t1, .int (stepB pl ov X x0 y0) t2].toArray 0) ::
    (L + 1 + 1 + 1 + 1 + 1, q5) :: (I, it) :: (y1', z1) :: (y2', z2) :: (y3', z3) :: (y4', z4) :: (y5', z5) :: (y6', z6) :: (L + 1 + 1 + 1 + 1, q4) :: (L + 1, p1) :: (L + 1 + 1, p2) :: (L + 1 + 1 + 1, p3) :: (L + 1 + 1 + 1 + 1 + 1 + 1, o6) :: base) := .tail _ (.tail _ (.tail _ (.tail _ (.tail _ (.tail _ (.tail _ (.head _)))))))
  have nl : ∀ (x : Addr) (w : Array Value) (k : Nat), (x, listOf w k) ∈ _ → x ≠ I := fun x w k hm => ne_cls N hm mI (by rw [hc]; simp [W.listOf])
  have n1 : D2 ≠ I := nl _ _ _ (.head _)
  have n2 : c4 ≠ I := nl _ _ _ (.tail _ (.head _))
  have n3 : c3 ≠ I := nl _ _ _ (.tail _ (.tail _ (.head _)))
  have n4 : D1 ≠ I := nl _ _ _ (.tail _ (.tail _ (.tail _ (.head _))))
  have n5 : c2 ≠ I := nl _ _ _ (.tail _ (.tail _ (.tail _ (.tail _ (.head _)))))
  have n6 : c1 ≠ I := nl _ _ _ (.tail _ (.tail _ (.tail _ (.tail _ (.tail _ (.head _))))))
  have oB : ∀ p ∈ (L + 1, p1) :: (L + 1 + 1, p2) :: (L + 1 + 1 + 1, p3) :: (L + 1 + 1 + 1 + 1 + 1 + 1, o6) :: base, p.1 ≠ I := fun p hp => oI p (.tail _ (.tail _ (.tail _ (.tail _ (.tail _ (.tail _ (.tail _ (.tail _ hp))))))))
  have o4' := oI (L + 1 + 1 + 1 + 1, o4) (.tail _ (.tail _ (.tail _ (.tail _ (.tail _ (.tail _ (.head _)))))))
  have o5' := oI (L + 1 + 1 + 1 + 1 + 1, o5) (.tail _ (.tail _ (.tail _ (.tail _ (.tail _ (.tail _ (.tail _ (.head _))))))))
  have off : Off I ((D1, listOf [Value.ref c1, .ref c2].toArray 2) :: (c1, listOf [Value.int (stepA pl ov X x0 y0) t1, .int (stepB pl ov X x0 y0) t2].toArray 0) :: (c2, listOf [Value.int (stepA pl ov X x1 y1) t3, .int (stepB pl ov X x1 y1) t4].toArray 0) ::
    (D2, listOf [Value.ref c3, .ref c4].toArray 2) :: (c3, listOf [Value.int (stepA pl ov t u0 v0) t5, .int (stepB pl ov t u0 v0) t6].toArray 0) :: (c4, listOf [Value.int (stepA pl ov t u1 v1) t7, .int (stepB pl ov t u1 v1) t8].toArray 0) ::
    (L + 1 + 1 + 1 + 1, q4) :: (L + 1 + 1 + 1 + 1 + 1, q5) :: (L + 1, p1) :: (L + 1 + 1, p2) :: (L + 1 + 1 + 1, p3) :: (L + 1 + 1 + 1 + 1 + 1 + 1, o6) :: base) :=
    off_cons n4 (off_cons n6 (off_cons n5 (off_cons n1 (off_cons n3 (off_cons n2 (off_cons o4' (off_cons o5' oB)))))))
  have B1 := stepA_bits (z := pl) (ov := ov) b1 b2 bX
  have B2 := stepA_bits (z := pl) (ov := ov) b3 b4 bX
  have B3 := stepA_bits (z := pl) (ov := ov) b5 b6 bT
  have B4 := stepA_bits (z := pl) (ov := ov) b7 b8 bT
  refine turn_end F N _ (by (repeat (refine List.forall_mem_cons.mpr ⟨(by repeat (first | exact List.Mem.head _ | refine List.Mem.tail _ ?_)), ?_⟩)); exact fun p h => (by repeat (first | exact h | refine List.Mem.tail _ ?_))) off (.tail _ (.tail _ (.tail _ (.tail _ (.tail _ (.tail _ (.tail _ (.tail _ (.tail _ (.tail _ (.tail _ (.tail _ hl)))))))))))) ⟨D1, c1, c2, D2, c3, c4, 2, 0, 0, 2, 0, 0, _, _, _, _, _, _, _, _, t1, t2, t3, t4, t5, t6, t7, t8, q4, q5, some v4, some v5, xs', kk + 100, hx, hp, e1, e2, e3, e4, ⟨B1.1, B1.2, B2.1, B2.2, B3.1, B3.2, B4.1, B4.2, ?_⟩, rfl, d4, d5, off, g1, g2, g3, g4, g5⟩
  rw [List.length_cons] at b9; omega
end Mine
set_option Elab.async false
set_option maxRecDepth 100000
set_option maxHeartbeats 4000000
set_option linter.unusedVariables false
namespace Mine
section
variable {prog : Program} {w : World} {A : Around} {E : Value → Shared → Prop} {s : Shared} {h₀ : Heap} {L : Addr} {m : Str → Option Value} {env : Env}
/-- a comprehension over pairs that changes nothing, for a list of any length -/
theorem compP_rest {elt : PySem.Expr} {x x₂ : Str} {scope : Scope} {cl : List (Str × Addr)} {S : List (Addr × Obj) → Prop} {its : Array Value} {Fin : List Value → List (Addr × Obj) → Prop} {news : List (Addr × Obj)} (hS : S news) (K : List Value → List Value → Prop)
    (turn : ∀ v r ys, K (v :: r) ys → ∃ (t : Addr) (ot : Obj) (v₁ v₂ : Value) (nt : Nat) (y : Value), v = .ref t ∧ (t, ot) ∈ news ∧ ot.cls = .type "tuple" ∧ ot.data = .seq #[v₁, v₂] nt ∧ K r (ys ++ [y]) ∧
      ∀ I oI C oC D m₂ h tk (E' : Value → Shared → Prop) (Q : Value → Shared → Prop), LCg.NsObj oC m₂ → m₂ x = some v₁ → m₂ x₂ = some v₂ → Fr h₀ L h m → News h₀ L h ((I, oI) :: (C, oC) :: (D, LCg.lst ys) :: news) →
        (∀ h' tk', Fr h₀ L h' m → News h₀ L h' ((I, oI) :: (C, oC) :: (D, LCg.lst ys) :: news) → Q y { s with heap := h', toks := tk' }) →
        wpAny (model prog w) A (eval elt (compEnvC scope cl C env)) Q E' { s with heap := h, toks := tk })
    (done : ∀ ys, K [] ys → Fin ys news) :
    ∀ r i ys, r = its.toList.drop i → K r ys → LCp.CompRestP prog w A h₀ L m env elt x x₂ scope cl s S (fun i v => its[i]? = some v) Fin r.length i ys news := by
  intro r
  induction r with
  | nil => intro i ys _ hK; exact LCp.CompRestP.zero (done ys hK)
  | cons v r ih =>
    intro i ys hr hK
    refine LCp.CompRestP.succ fun v' hv' => ?_
    have hv : its[i]? = some v := by
      rw [← Array.getElem?_toList]
      have : (its.toList.drop i)[0]? = some v := by rw [← hr]; rfl
      simpa using this
    rw [hv] at hv'
    cases Option.some.inj hv'
    have hr' : r = its.toList.drop (i + 1) := by
      have := congrArg List.tail hr
      simpa [List.tail_drop] using this
    obtain ⟨t, ot, v₁, v₂, nt, y, e1, e2, e3, e4, hK', go⟩ := turn _ r ys hK
    refine ⟨t, ot, v₁, v₂, nt, e1, e2, e3, e4, fun I oI C oC D m₂ h tk E' a b c F N off ne => go I oI C oC D m₂ h tk E' _ a b c F N fun h' tk' F' N' => ?_⟩
    exact LCg.CompEnd.intro F' N' news (fun p hp => hp) off hS (ih (i + 1) _ hr' hK')
/-- a comprehension that changes nothing, for a list of any length -/
theorem comp_rest {elt : PySem.Expr} {x : Str} {scope : Scope} {cl : List (Str × Addr)} {S : List (Addr × Obj) → Prop} {its : Array Value} {Fin : List Value → List (Addr × Obj) → Prop} {news : List (Addr × Obj)} (hS : S news) (K : List Value → List Value → Prop)
    (turn : ∀ v r ys, K (v :: r) ys → ∀ I oI C oC D m₂ h tk (E' : Value → Shared → Prop) (Q : Value → Shared → Prop), LCg.NsObj oC m₂ → m₂ x = some v → Fr h₀ L h m → News h₀ L h ((I, oI) :: (C, oC) :: (D, LCg.lst ys) :: news) →
        (∀ y h' tk', K r (ys ++ [y]) → Fr h₀ L h' m → News h₀ L h' ((I, oI) :: (C, oC) :: (D, LCg.lst ys) :: news) → Q y { s with heap := h', toks := tk' }) →
        wpAny (model prog w) A (eval elt (compEnvC scope cl C env)) Q E' { s with heap := h, toks := tk })
    (done : ∀ ys, K [] ys → Fin ys news) :
    ∀ r i ys, r = its.toList.drop i → K r ys → LCg.CompRest prog w A h₀ L m env elt x scope cl s S (fun i v => its[i]? = some v) Fin r.length i ys news := by
  intro r
  induction r with
  | nil => intro i ys _ hK; exact LCg.CompRest.zero (done ys hK)
  | cons v r ih =>
    intro i ys hr hK
    refine LCg.CompRest.succ fun v' I oI C oC D m₂ h tk E' hv' a b F N off ne => ?_
    have hv : its[i]? = some v := by
      rw [← Array.getElem?_toList]
      have : (its.toList.drop i)[0]? = some v := by rw [← hr]; rfl
      simpa using this
    rw [hv] at hv'
    cases Option.some.inj hv'
    have hr' : r = its.toList.drop (i + 1) := by
      have := congrArg List.tail hr
      simpa [List.tail_drop] using this
    exact turn _ r ys hK I oI C oC D m₂ h tk E' _ a b F N fun y h' tk' hK' F' N' => LCg.CompEnd.intro F' N' news (fun p hp => hp) off hS (ih (i + 1) _ hr' hK')
end
theorem bools_snoc {vs : List Value} {bs : List Bool} {b : Bool} (h : LSm.BoolsAre vs bs) : LSm.BoolsAre (vs ++ [.bool b]) (bs ++ [b]) := by
  induction h with
  | nil => exact .cons b .nil
  | cons a _ ih => exact .cons a ih
end Mine
set_option Elab.async false
set_option maxRecDepth 100000
set_option maxHeartbeats 4000000
set_option linter.unusedVariables false
namespace Mine
open Builtin.Int (intBits)
theorem filled_fi (P : Params) : row.prog = row.prog ∧ hd.heap_1 P = hd.heap_1 P := by
  k_fill
  exact ⟨rfl, rfl⟩
section
variable {w : World} {pr : Program} {p : Program} {loose : List Str} {mean : ExcName → Option Value} {mg mb : Str → Option Value}
  {dp un : Nat} {gd : Option (List Code)} {cn : Str} {cs : Scope} {a : Addr} {ccd : Value} {cl : List (Str × Addr)} {outer : List Env} {A₀ : Around} {base h₀ : Heap} {L : Addr} {m : Str → Option Value} {s : Shared} {Q E : Value → Shared → Prop} {news : List (Addr × Obj)}

local macro_rules | `(tactic| k_mem) => `(tactic| with_reducible first | exact List.mem_cons_self | assumption | (refine List.mem_cons_of_mem _ ?_; k_mem))
local macro_rules | `(tactic| tb_start) => `(tactic| first | with_reducible assumption | with_reducible exact bits_pow | with_reducible exact intBits_add_le (by tb_start) (by tb_start) | with_reducible exact intBits_sub_le (by tb_start) (by tb_start) | with_reducible exact intBits_mul_le (by tb_start) (by tb_start))
theorem c_figures {ps ps2 : Array Value} {dvd q extra times : Int} {n ww : Nat} {t1 t2 t3 t4 t5 : Tok}
  (B : Below A₀ base outer h₀) (F : Fr h₀ L s.heap m) (X : (Mine.hd.heap_1 w.params).In h₀) (N : News h₀ L s.heap ([(37, tabObj ps), (30, tabObj ps2)] ++ news)) (T : Top p loose mean mg mb h₀) (hcs : cs.kind = .function)
  (C : CodeHd h₀ 41 37) (C2 : CodeHd h₀ 34 30) (hS : TSt ps ps2 [])
  (hap : ∀ p ∈ news, ∀ q ∈ [((37 : Addr), tabObj ps), ((30 : Addr), tabObj ps2)], p.1 ≠ q.1)
  (hd : dp + 300 < recursionLimit) (hu : un + 3000 < cLine) (hn3 : 3 ≤ n) (hn8 : n ≤ 8) (hw : 12 ≤ ww) (hw2 : ww ≤ 71) (ht1 : 1 ≤ times) (ht2 : times ≤ 1000000000000)
  (hq : dvd = q * dval ww [1, 1, 1]) (hV1 : 2 ^ (ww * (n - 2)) ≤ q + geo ww (2 ^ (ww - 1)) (n - 1)) (hV2 : q + geo ww (2 ^ (ww - 1)) (n - 1) < 2 ^ (ww * (n - 1)))
  (hret : ∀ (c : Addr) (vs : List Value) (nc : Nat) (G : List Int) (h' : Heap) (tk' : Nat) (new : List (Addr × Obj)), Fr h₀ L h' m → News h₀ L h' (new ++ news) → (∀ q ∈ new, ∀ p ∈ news, p.1 ≠ q.1) → (c, listOf vs.toArray nc) ∈ new → (∃ qs, (37, tabObj qs) ∈ new) → (∃ qs, (30, tabObj qs) ∈ new) → IntsAre vs G → G.length = n - 1 →
    FigsOk ww (G.map (· + 2 ^ (ww - 1))) → dval ww (G.map (· + 2 ^ (ww - 1))) = q + geo ww (2 ^ (ww - 1)) (n - 1) → Q (.ref c) { s with heap := h', toks := tk' }) :
  wpAny (model pr w) (ktrTop dp un gd cn cs L a ccd cl outer) (call (.ref 234) [.int dvd t1, .int n t2, .int ww t3, .int times t4, .int extra t5]) Q E s := by
  refine' enterHC [(Str.ofString "dividend", .int dvd t1), (Str.ofString "n", .int n t2), (Str.ofString "w", .int ww t3), (Str.ofString "times", .int times t4), (Str.ofString "extra", .int extra t5)] _ news B F X N T hcs (by omega) hap ?k6 ?k7 (BindsTo.of_eq ?k9) ?kB ?kD ?c2 ?c3 ?c4 ?_
  case k6 => k_is
  case k7 => k_is
  case k9 => exact rfl
  case kB => exact rfl
  case kD => decide +kernel
  case c2 => exact rfl
  case c3 => exact rfl
  case c4 => exact rfl
  intro g' L' h' tk' cells' F' N' Y' hrest st B' X' T' lt
  have C' := C.keeps st
  have C2' := C2.keeps st
  clear B F X N T C C2
  obtain ⟨o1, hE, d1⟩ := CellsAre.one Y'
  subst hE
  clear Y'
  replace d1 : o1.data = .cell none := d1
  replace F' : Fr g' L' h' (fun y => if y = Str.ofString "extra" then some (.int extra t5) else if y = Str.ofString "times" then some (.int times t4) else if y = Str.ofString "w" then some (.int ww t3) else if y = Str.ofString "n" then some (.int n t2) else if y = Str.ofString "dividend" then some (.int dvd t1) else none) := F'
  simp only [List.cons_append, List.nil_append] at N'
  have lw : (0 : Int) ≤ (ww : Int) - 1 := by omega
  have one1 : intBits 1 ≤ 1 := by decide
  have ww200 : (ww : Int) ≤ 200 := by omega
  (try dsimp only); (try k_lift B'); (try k_fold)
  (repeat' (first | (k_unfold; (try dsimp only)) | (k_end; kc_close) | ((with_reducible show wpAny _ _ (exec (Stmt.For (PySem.Expr.Name ..) (PySem.Expr.Call ..) ..) _) _ _ _); (refine stop_intro ?_)) | ((with_reducible show wpAny _ _ (callWith _ (Value.ref ..) _ _ _) _ _ _); (k_here; k_dflt (refine callWith_K (by k_asm) (by k_is) ?_; k_whole))) | ((with_reducible show wpAny _ _ (compareOp CmpOp.NotEq (Value.ref ..) (Value.ref ..)) _ _ _); k_dflt (refine ne_tups (by exact News.isTup (by k_asm) (by k_mem)) (by exact News.isTup (by k_asm) (by k_mem)) (by (first | exact unit_up (by with_reducible assumption) (by decide) | ktr_units)) ?_)) | ((with_reducible show wpAny _ _ (binaryOp Operator.Mult (Value.int ..) (Value.int ..)) _ _ _); k_dflt (refine mul_b (by tb_start) (by tb_start) (by first | with_reducible assumption | omega) ?_; try dsimp only)) | ((with_reducible show wpAny _ _ (exec (Stmt.If (PySem.Expr.Compare ..) ..) _) _ _ _); (refine stop_intro ?_)) | ((with_reducible show LeaveH _ _ _ _ _ _ Value.none _); first | (with_reducible (((rename ¬(_ = _) => hne); exfalso; apply hne; first | rfl | (rw [Int.toNat_natCast]; with_reducible assumption) | exact congrArg (· * _) (by with_reducible assumption)))) | (((rename ¬(_ = _) => hne); exfalso; apply hne; first | rfl | (rw [Int.toNat_natCast]; with_reducible assumption) | exact congrArg (· * _) (by with_reducible assumption)))) | ((with_reducible show wpAny _ _ (eval (PySem.Expr.ListComp ..) _) _ _ _); refine stop_intro ?_) | ((with_reducible show wpAny _ _ (storeName _ _ (Value.int ..)) _ _ _); ((with_reducible show wpAny _ _ (storeName _ (Str.ofString "half") _) _ _ _); refine stop_intro ?_)) | ((with_reducible show wpAny _ _ (call (Value.ref ..) _) _ _ _); ((with_reducible show wpAny _ _ (call (Value.ref 28) _) _ _ _); refine stop_intro ?_)) | ((with_reducible show wpAny _ _ (call (Value.ref ..) _) _ _ _); ((with_reducible show wpAny _ _ (call (Value.ref 35) _) _ _ _); refine stop_intro ?_)) | ((with_reducible show wpAny _ _ (call (Value.ref ..) _) _ _ _); ((with_reducible show wpAny _ _ (call (Value.ref 42) _) _ _ _); refine stop_intro ?_)) | ((with_reducible show wpAny _ _ (call (Value.builtin "list.reverse") _) _ _ _); refine stop_intro ?_) | ((with_reducible show wpAny _ _ (call (Value.builtin "list.append") _) _ _ _); refine stop_intro ?_) | ((with_reducible show wpAny _ _ (call (Value.builtin "divmod") _) _ _ _); first | (with_reducible ((refine divmod_N (by k_asm) (by k_asm) (by omega) ?_ (Or.inl (noPy (by with_reducible assumption) (by decide))); intro h_z F_z N_z))) | ((refine divmod_N (by k_asm) (by k_asm) (by omega) ?_ (Or.inl (noPy (by with_reducible assumption) (by decide))); intro h_z F_z N_z))) | ((with_reducible show wpAny _ _ (call (Value.type "reversed") _) _ _ _); refine stop_intro ?_) | ((with_reducible show wpAny _ _ (call (Value.ref ..) _) _ _ _); k_dflt ((first   | refine c_add (by k_asm) (by k_asm) (by k_asm) (by k_asm) (by k_asm) (by first | with_reducible assumption | exact rfl) (by (first | exact room_up (by with_reducible assumption) (by decide) | ktr_room)) (by (first | exact unit_up (by with_reducible assumption) (by decide) | ktr_units)) ?_   | refine c_sub (by k_asm) (by k_asm) (by k_asm) (by k_asm) (by k_asm) (by first | with_reducible assumption | exact rfl) (by (first | exact room_up (by with_reducible assumption) (by decide) | ktr_room)) (by (first | exact unit_up (by with_reducible assumption) (by decide) | ktr_units)) ?_   | (refine c_mul (by k_asm) (by k_asm) (by k_asm) (by k_asm) (by k_asm) (by first | with_reducible assumption | exact rfl) (by (first | exact room_up (by with_reducible assumption) (by decide) | ktr_room)) (by (first | exact unit_up (by with_reducible assumption) (by decide) | ktr_units)) (by tb_start) (by tb_start) (by first | with_reducible assumption | omega) ?_)   | (refine c_lshift (by k_asm) (by k_asm) (by k_asm) (by k_asm) (by k_asm) (by first | with_reducible assumption | exact rfl) (by (first | exact room_up (by with_reducible assumption) (by decide) | ktr_room)) (by (first | exact unit_up (by with_reducible assumption) (by decide) | ktr_units)) (by tb_start) (by with_reducible assumption) (by first | with_reducible assumption | omega) ?_)   | (refine c_rshift (by k_asm) (by k_asm) (by k_asm) (by k_asm) (by k_asm) (by first | with_reducible assumption | exact rfl) (by (first | exact room_up (by with_reducible assumption) (by decide) | ktr_room)) (by (first | exact unit_up (by with_reducible assumption) (by decide) | ktr_units)) (by with_reducible assumption) ?_)   | refine c_isub (by k_asm) (by k_asm) (by k_asm) (by k_asm) (by k_asm) (by first | with_reducible assumption | exact rfl) (by (first | exact room_up (by with_reducible assumption) (by decide) | ktr_room)) (by (first | exact unit_up (by with_reducible assumption) (by decide) | ktr_units)) ?_); intro t9_z h9_z tk9_z F9_z N9_z; try dsimp only)) | ((with_reducible show LCg.CompSrc _ _ _ _ _ _ _ _ _ _ _ _ _ _); refine stop_intro ?_) | ((with_reducible show UnrEnd ..); refine stop_intro ?_) | ((with_reducible show LeaveH _ _ _ _ _ _ _ _); first | (with_reducible ((refine leaveH_ (by k_asm) (by k_asm) ?_; intro kF_z kN_z kA_z; try dsimp only))) | ((refine leaveH_ (by k_asm) (by k_asm) ?_; intro kF_z kN_z kA_z; try dsimp only))) | walk1 | (dsimp only; walk1) | (leave1; (try dsimp only)) | fail "no step"))
  have hhalf : (1 * 2 ^ ((ww : Int) - 1).toNat : Int) = 2 ^ (ww - 1) := by
    rw [Int.one_mul, predw hw]
  obtain ⟨U, hU⟩ : ∃ U, U = dval ww [1, 1, 1] := ⟨_, rfl⟩
  have hX1 : (4096 : Int) ≤ 2 ^ ww := by
    have := two_pow_mono (show 12 ≤ ww from hw)
    exact this
  have hUe : U = 1 + 2 ^ ww + 2 ^ ww * 2 ^ ww := by rw [hU]; simp [dval]; grind
  rw [← hU] at hq
  rename News g' _ _ _ => N₀
  refine gen_l N₀ (.cons 1 _ (.cons 1 _ (.cons 1 _ .nil))) ?_
  clear N₀
  intro vA hvA N₁
  refine' Stop.mk (d2i_ts (loc := [(_, listOf vA.toArray 0), (L' + 1, o1)]) (K := []) ?sub hS ?nf ?cB ?cF ?cX N₁ ?cT rfl C' ?cd ?cu _ _ _ 0 0 vA [1, 1, 1] _ (.head _) hvA (by decide) (by decide) (Int.natCast_nonneg _) ww200 ?ok ?_)
  (case sub => intro p hp; simp only [List.mem_cons, List.mem_append, List.nil_append, List.not_mem_nil, or_false] at hp ⊢; grind); (case nf => exact .cons nf_list (.cons (nf_cell d1) .nil)); (case cB => k_asm); (case cF => k_asm); (case cX => k_asm); (case cT => k_asm); (case cd => (first | exact room_up (by with_reducible assumption) (by decide) | ktr_room)); (case cu => (first | exact unit_up (by with_reducible assumption) (by decide) | ktr_units))
  case ok =>
    intro d hd
    simp only [List.mem_cons, List.not_mem_nil, or_false, or_self] at hd
    rw [hd, Int.toNat_natCast]; omega
  rw [Int.toNat_natCast, ← hU]
  intro tA hA tkA psA KA SA FA NA
  clear N₁
  (try dsimp only)
  simp only [hhalf]
  (repeat' (first | (k_unfold; (try dsimp only)) | (k_end; kc_close) | ((with_reducible show wpAny _ _ (exec (Stmt.For (PySem.Expr.Name ..) (PySem.Expr.Call ..) ..) _) _ _ _); (refine stop_intro ?_)) | ((with_reducible show wpAny _ _ (callWith _ (Value.ref ..) _ _ _) _ _ _); (k_here; k_dflt (refine callWith_K (by k_asm) (by k_is) ?_; k_whole))) | ((with_reducible show wpAny _ _ (compareOp CmpOp.NotEq (Value.ref ..) (Value.ref ..)) _ _ _); k_dflt (refine ne_tups (by exact News.isTup (by k_asm) (by k_mem)) (by exact News.isTup (by k_asm) (by k_mem)) (by (first | exact unit_up (by with_reducible assumption) (by decide) | ktr_units)) ?_)) | ((with_reducible show wpAny _ _ (binaryOp Operator.Mult (Value.int ..) (Value.int ..)) _ _ _); k_dflt (refine mul_b (by tb_start) (by tb_start) (by first | with_reducible assumption | omega) ?_; try dsimp only)) | ((with_reducible show wpAny _ _ (exec (Stmt.If (PySem.Expr.Compare ..) ..) _) _ _ _); (refine stop_intro ?_)) | ((with_reducible show LeaveH _ _ _ _ _ _ Value.none _); first | (with_reducible (((rename ¬(_ = _) => hne); exfalso; apply hne; first | rfl | (rw [Int.toNat_natCast]; with_reducible assumption) | exact congrArg (· * _) (by with_reducible assumption)))) | (((rename ¬(_ = _) => hne); exfalso; apply hne; first | rfl | (rw [Int.toNat_natCast]; with_reducible assumption) | exact congrArg (· * _) (by with_reducible assumption)))) | ((with_reducible show wpAny _ _ (eval (PySem.Expr.ListComp ..) _) _ _ _); refine stop_intro ?_) | ((with_reducible show wpAny _ _ (storeName _ _ (Value.int ..)) _ _ _); ((with_reducible show wpAny _ _ (storeName _ (Str.ofString "half") _) _ _ _); refine stop_intro ?_)) | ((with_reducible show wpAny _ _ (call (Value.ref ..) _) _ _ _); ((with_reducible show wpAny _ _ (call (Value.ref 28) _) _ _ _); refine stop_intro ?_)) | ((with_reducible show wpAny _ _ (call (Value.ref ..) _) _ _ _); ((with_reducible show wpAny _ _ (call (Value.ref 35) _) _ _ _); refine stop_intro ?_)) | ((with_reducible show wpAny _ _ (call (Value.ref ..) _) _ _ _); ((with_reducible show wpAny _ _ (call (Value.ref 42) _) _ _ _); refine stop_intro ?_)) | ((with_reducible show wpAny _ _ (call (Value.builtin "list.reverse") _) _ _ _); refine stop_intro ?_) | ((with_reducible show wpAny _ _ (call (Value.builtin "list.append") _) _ _ _); refine stop_intro ?_) | ((with_reducible show wpAny _ _ (call (Value.builtin "divmod") _) _ _ _); first | (with_reducible ((refine divmod_N (by k_asm) (by k_asm) (by omega) ?_ (Or.inl (noPy (by with_reducible assumption) (by decide))); intro h_z F_z N_z))) | ((refine divmod_N (by k_asm) (by k_asm) (by omega) ?_ (Or.inl (noPy (by with_reducible assumption) (by decide))); intro h_z F_z N_z))) | ((with_reducible show wpAny _ _ (call (Value.type "reversed") _) _ _ _); refine stop_intro ?_) | ((with_reducible show wpAny _ _ (call (Value.ref ..) _) _ _ _); k_dflt ((first   | refine c_add (by k_asm) (by k_asm) (by k_asm) (by k_asm) (by k_asm) (by first | with_reducible assumption | exact rfl) (by (first | exact room_up (by with_reducible assumption) (by decide) | ktr_room)) (by (first | exact unit_up (by with_reducible assumption) (by decide) | ktr_units)) ?_   | refine c_sub (by k_asm) (by k_asm) (by k_asm) (by k_asm) (by k_asm) (by first | with_reducible assumption | exact rfl) (by (first | exact room_up (by with_reducible assumption) (by decide) | ktr_room)) (by (first | exact unit_up (by with_reducible assumption) (by decide) | ktr_units)) ?_   | (refine c_mul (by k_asm) (by k_asm) (by k_asm) (by k_asm) (by k_asm) (by first | with_reducible assumption | exact rfl) (by (first | exact room_up (by with_reducible assumption) (by decide) | ktr_room)) (by (first | exact unit_up (by with_reducible assumption) (by decide) | ktr_units)) (by tb_start) (by tb_start) (by first | with_reducible assumption | omega) ?_)   | (refine c_lshift (by k_asm) (by k_asm) (by k_asm) (by k_asm) (by k_asm) (by first | with_reducible assumption | exact rfl) (by (first | exact room_up (by with_reducible assumption) (by decide) | ktr_room)) (by (first | exact unit_up (by with_reducible assumption) (by decide) | ktr_units)) (by tb_start) (by with_reducible assumption) (by first | with_reducible assumption | omega) ?_)   | (refine c_rshift (by k_asm) (by k_asm) (by k_asm) (by k_asm) (by k_asm) (by first | with_reducible assumption | exact rfl) (by (first | exact room_up (by with_reducible assumption) (by decide) | ktr_room)) (by (first | exact unit_up (by with_reducible assumption) (by decide) | ktr_units)) (by with_reducible assumption) ?_)   | refine c_isub (by k_asm) (by k_asm) (by k_asm) (by k_asm) (by k_asm) (by first | with_reducible assumption | exact rfl) (by (first | exact room_up (by with_reducible assumption) (by decide) | ktr_room)) (by (first | exact unit_up (by with_reducible assumption) (by decide) | ktr_units)) ?_); intro t9_z h9_z tk9_z F9_z N9_z; try dsimp only)) | ((with_reducible show LCg.CompSrc _ _ _ _ _ _ _ _ _ _ _ _ _ _); refine stop_intro ?_) | ((with_reducible show UnrEnd ..); refine stop_intro ?_) | ((with_reducible show LeaveH _ _ _ _ _ _ _ _); first | (with_reducible ((refine leaveH_ (by k_asm) (by k_asm) ?_; intro kF_z kN_z kA_z; try dsimp only))) | ((refine leaveH_ (by k_asm) (by k_asm) ?_; intro kF_z kN_z kA_z; try dsimp only))) | walk1 | (dsimp only; walk1) | (leave1; (try dsimp only)) | fail "no step"))
  rename Fr g' _ _ _ => F₁
  rename News g' _ _ _ => N₁
  refine Stop.mk (storeX_C (news := (L' + 1, o1) :: (37, tabObj psA) :: (30, tabObj ps2) :: KA) F₁ (news_sub N₁ ?_) rfl (UpdF.head ?_) d1 ?_ rfl rfl)
  · intro p hp; simp only [List.mem_cons, List.mem_append, List.nil_append, List.not_mem_nil, or_false] at hp ⊢; grind
  · exact offT N₁ (by simp) (by intro p hp; simp only [List.mem_cons, List.mem_append, List.nil_append, List.not_mem_nil, or_false] at hp ⊢; grind) (nf_cell d1) SA
  clear N₁ F₁ d1
  intro h₂ o2 F₂ N₂ d2
  try dsimp only
  (repeat' (first | (k_unfold; (try dsimp only)) | (k_end; kc_close) | ((with_reducible show wpAny _ _ (exec (Stmt.For (PySem.Expr.Name ..) (PySem.Expr.Call ..) ..) _) _ _ _); (refine stop_intro ?_)) | ((with_reducible show wpAny _ _ (callWith _ (Value.ref ..) _ _ _) _ _ _); (k_here; k_dflt (refine callWith_K (by k_asm) (by k_is) ?_; k_whole))) | ((with_reducible show wpAny _ _ (compareOp CmpOp.NotEq (Value.ref ..) (Value.ref ..)) _ _ _); k_dflt (refine ne_tups (by exact News.isTup (by k_asm) (by k_mem)) (by exact News.isTup (by k_asm) (by k_mem)) (by (first | exact unit_up (by with_reducible assumption) (by decide) | ktr_units)) ?_)) | ((with_reducible show wpAny _ _ (binaryOp Operator.Mult (Value.int ..) (Value.int ..)) _ _ _); k_dflt (refine mul_b (by tb_start) (by tb_start) (by first | with_reducible assumption | omega) ?_; try dsimp only)) | ((with_reducible show wpAny _ _ (exec (Stmt.If (PySem.Expr.Compare ..) ..) _) _ _ _); (refine stop_intro ?_)) | ((with_reducible show LeaveH _ _ _ _ _ _ Value.none _); first | (with_reducible (((rename ¬(_ = _) => hne); exfalso; apply hne; first | rfl | (rw [Int.toNat_natCast]; with_reducible assumption) | exact congrArg (· * _) (by with_reducible assumption)))) | (((rename ¬(_ = _) => hne); exfalso; apply hne; first | rfl | (rw [Int.toNat_natCast]; with_reducible assumption) | exact congrArg (· * _) (by with_reducible assumption)))) | ((with_reducible show wpAny _ _ (eval (PySem.Expr.ListComp ..) _) _ _ _); refine stop_intro ?_) | ((with_reducible show wpAny _ _ (storeName _ _ (Value.int ..)) _ _ _); ((with_reducible show wpAny _ _ (storeName _ (Str.ofString "half") _) _ _ _); refine stop_intro ?_)) | ((with_reducible show wpAny _ _ (call (Value.ref ..) _) _ _ _); ((with_reducible show wpAny _ _ (call (Value.ref 28) _) _ _ _); refine stop_intro ?_)) | ((with_reducible show wpAny _ _ (call (Value.ref ..) _) _ _ _); ((with_reducible show wpAny _ _ (call (Value.ref 35) _) _ _ _); refine stop_intro ?_)) | ((with_reducible show wpAny _ _ (call (Value.ref ..) _) _ _ _); ((with_reducible show wpAny _ _ (call (Value.ref 42) _) _ _ _); refine stop_intro ?_)) | ((with_reducible show wpAny _ _ (call (Value.builtin "list.reverse") _) _ _ _); refine stop_intro ?_) | ((with_reducible show wpAny _ _ (call (Value.builtin "list.append") _) _ _ _); refine stop_intro ?_) | ((with_reducible show wpAny _ _ (call (Value.builtin "divmod") _) _ _ _); first | (with_reducible ((refine divmod_N (by k_asm) (by k_asm) (by omega) ?_ (Or.inl (noPy (by with_reducible assumption) (by decide))); intro h_z F_z N_z))) | ((refine divmod_N (by k_asm) (by k_asm) (by omega) ?_ (Or.inl (noPy (by with_reducible assumption) (by decide))); intro h_z F_z N_z))) | ((with_reducible show wpAny _ _ (call (Value.type "reversed") _) _ _ _); refine stop_intro ?_) | ((with_reducible show wpAny _ _ (call (Value.ref ..) _) _ _ _); k_dflt ((first   | refine c_add (by k_asm) (by k_asm) (by k_asm) (by k_asm) (by k_asm) (by first | with_reducible assumption | exact rfl) (by (first | exact room_up (by with_reducible assumption) (by decide) | ktr_room)) (by (first | exact unit_up (by with_reducible assumption) (by decide) | ktr_units)) ?_   | refine c_sub (by k_asm) (by k_asm) (by k_asm) (by k_asm) (by k_asm) (by first | with_reducible assumption | exact rfl) (by (first | exact room_up (by with_reducible assumption) (by decide) | ktr_room)) (by (first | exact unit_up (by with_reducible assumption) (by decide) | ktr_units)) ?_   | (refine c_mul (by k_asm) (by k_asm) (by k_asm) (by k_asm) (by k_asm) (by first | with_reducible assumption | exact rfl) (by (first | exact room_up (by with_reducible assumption) (by decide) | ktr_room)) (by (first | exact unit_up (by with_reducible assumption) (by decide) | ktr_units)) (by tb_start) (by tb_start) (by first | with_reducible assumption | omega) ?_)   | (refine c_lshift (by k_asm) (by k_asm) (by k_asm) (by k_asm) (by k_asm) (by first | with_reducible assumption | exact rfl) (by (first | exact room_up (by with_reducible assumption) (by decide) | ktr_room)) (by (first | exact unit_up (by with_reducible assumption) (by decide) | ktr_units)) (by tb_start) (by with_reducible assumption) (by first | with_reducible assumption | omega) ?_)   | (refine c_rshift (by k_asm) (by k_asm) (by k_asm) (by k_asm) (by k_asm) (by first | with_reducible assumption | exact rfl) (by (first | exact room_up (by with_reducible assumption) (by decide) | ktr_room)) (by (first | exact unit_up (by with_reducible assumption) (by decide) | ktr_units)) (by with_reducible assumption) ?_)   | refine c_isub (by k_asm) (by k_asm) (by k_asm) (by k_asm) (by k_asm) (by first | with_reducible assumption | exact rfl) (by (first | exact room_up (by with_reducible assumption) (by decide) | ktr_room)) (by (first | exact unit_up (by with_reducible assumption) (by decide) | ktr_units)) ?_); intro t9_z h9_z tk9_z F9_z N9_z; try dsimp only)) | ((with_reducible show LCg.CompSrc _ _ _ _ _ _ _ _ _ _ _ _ _ _); refine stop_intro ?_) | ((with_reducible show UnrEnd ..); refine stop_intro ?_) | ((with_reducible show LeaveH _ _ _ _ _ _ _ _); first | (with_reducible ((refine leaveH_ (by k_asm) (by k_asm) ?_; intro kF_z kN_z kA_z; try dsimp only))) | ((refine leaveH_ (by k_asm) (by k_asm) ?_; intro kF_z kN_z kA_z; try dsimp only))) | walk1 | (dsimp only; walk1) | (leave1; (try dsimp only)) | fail "no step"))
  rename News g' _ _ _ => N₀
  rename IntsAre (List.flatten _) _ => iB
  have en : ((n : Int) - 1).toNat = n - 1 := pred_nat hn3
  rw [en] at N₀ iB
  rw [flat_rep (2 ^ (ww - 1) : Int)] at iB
  refine gen_l N₀ iB ?_
  clear N₀ iB
  intro vB hvB N₁
  have hh0 : (0 : Int) ≤ 2 ^ (ww - 1) ∧ (2 : Int) ^ (ww - 1) < 2 ^ ww := by
    obtain ⟨e1, e2⟩ := half_two hw
    constructor <;> omega
  have figG : FigsOk ww (List.replicate (n - 1) (2 ^ (ww - 1))) := by
    intro d hd; rw [List.eq_of_mem_replicate hd]; exact hh0
  refine' Stop.mk (d2i_ts (loc := [(_, listOf vB.toArray 0), (L' + 1, o2)]) (K := KA) ?sub SA ?nf ?cB ?cF ?cX N₁ ?cT rfl C' ?cd ?cu _ _ _ 0 0 vB (List.replicate (n - 1) (2 ^ (ww - 1))) _ (.head _) hvB (by rw [List.length_replicate]; omega) (by rw [List.length_replicate]; exact pred100n hn8) (Int.natCast_nonneg _) ww200 (by rw [Int.toNat_natCast]; exact figG) ?_)
  (case sub => intro p hp; simp only [List.mem_cons, List.mem_append, List.not_mem_nil, or_false] at hp ⊢; grind); (case nf => exact .cons nf_list (.cons (nf_cell d2) .nil)); (case cB => k_asm); (case cF => k_asm); (case cX => k_asm); (case cT => k_asm); (case cd => (first | exact room_up (by with_reducible assumption) (by decide) | ktr_room)); (case cu => (first | exact unit_up (by with_reducible assumption) (by decide) | ktr_units))
  obtain ⟨G, hG⟩ : ∃ G, G = geo ww (2 ^ (ww - 1)) (n - 1) := ⟨_, rfl⟩
  have hGd : dval ww (List.replicate (n - 1) (2 ^ (ww - 1))) = G := by rw [hG, dval_rep]
  have bG : intBits G ≤ 568 := by
    have h1 := dval_nonneg figG
    have h2 := dval_lt figG
    rw [hGd] at h1 h2
    rw [List.length_replicate] at h2
    exact bits_up (bits_of_lt h1 h2) (Nat.le_trans (Nat.mul_le_mul hw2 (pred7n hn8)) (by decide))
  obtain ⟨hU0, bU⟩ := u_num hw2 hX1 hUe
  rw [Int.toNat_natCast, hGd]
  intro tB hB tkB psB KB SB FB NB
  clear N₁
  have N₂ : News g' L' hB ((L' + 1, o2) :: (37, tabObj psB) :: (30, tabObj ps2) :: KB) := news_sub NB (by intro p hp; simp only [List.mem_cons, List.mem_append, List.not_mem_nil, or_false] at hp ⊢; grind)
  clear NB
  try dsimp only
  (repeat' (first | (k_unfold; (try dsimp only)) | (k_end; kc_close) | ((with_reducible show wpAny _ _ (exec (Stmt.For (PySem.Expr.Name ..) (PySem.Expr.Call ..) ..) _) _ _ _); (refine stop_intro ?_)) | ((with_reducible show wpAny _ _ (callWith _ (Value.ref ..) _ _ _) _ _ _); (k_here; k_dflt (refine callWith_K (by k_asm) (by k_is) ?_; k_whole))) | ((with_reducible show wpAny _ _ (compareOp CmpOp.NotEq (Value.ref ..) (Value.ref ..)) _ _ _); k_dflt (refine ne_tups (by exact News.isTup (by k_asm) (by k_mem)) (by exact News.isTup (by k_asm) (by k_mem)) (by (first | exact unit_up (by with_reducible assumption) (by decide) | ktr_units)) ?_)) | ((with_reducible show wpAny _ _ (binaryOp Operator.Mult (Value.int ..) (Value.int ..)) _ _ _); k_dflt (refine mul_b (by tb_start) (by tb_start) (by first | with_reducible assumption | omega) ?_; try dsimp only)) | ((with_reducible show wpAny _ _ (exec (Stmt.If (PySem.Expr.Compare ..) ..) _) _ _ _); (refine stop_intro ?_)) | ((with_reducible show LeaveH _ _ _ _ _ _ Value.none _); first | (with_reducible (((rename ¬(_ = _) => hne); exfalso; apply hne; first | rfl | (rw [Int.toNat_natCast]; with_reducible assumption) | exact congrArg (· * _) (by with_reducible assumption)))) | (((rename ¬(_ = _) => hne); exfalso; apply hne; first | rfl | (rw [Int.toNat_natCast]; with_reducible assumption) | exact congrArg (· * _) (by with_reducible assumption)))) | ((with_reducible show wpAny _ _ (eval (PySem.Expr.ListComp ..) _) _ _ _); refine stop_intro ?_) | ((with_reducible show wpAny _ _ (storeName _ _ (Value.int ..)) _ _ _); ((with_reducible show wpAny _ _ (storeName _ (Str.ofString "half") _) _ _ _); refine stop_intro ?_)) | ((with_reducible show wpAny _ _ (call (Value.ref ..) _) _ _ _); ((with_reducible show wpAny _ _ (call (Value.ref 28) _) _ _ _); refine stop_intro ?_)) | ((with_reducible show wpAny _ _ (call (Value.ref ..) _) _ _ _); ((with_reducible show wpAny _ _ (call (Value.ref 35) _) _ _ _); refine stop_intro ?_)) | ((with_reducible show wpAny _ _ (call (Value.ref ..) _) _ _ _); ((with_reducible show wpAny _ _ (call (Value.ref 42) _) _ _ _); refine stop_intro ?_)) | ((with_reducible show wpAny _ _ (call (Value.builtin "list.reverse") _) _ _ _); refine stop_intro ?_) | ((with_reducible show wpAny _ _ (call (Value.builtin "list.append") _) _ _ _); refine stop_intro ?_) | ((with_reducible show wpAny _ _ (call (Value.builtin "divmod") _) _ _ _); first | (with_reducible ((refine divmod_N (by k_asm) (by k_asm) (by omega) ?_ (Or.inl (noPy (by with_reducible assumption) (by decide))); intro h_z F_z N_z))) | ((refine divmod_N (by k_asm) (by k_asm) (by omega) ?_ (Or.inl (noPy (by with_reducible assumption) (by decide))); intro h_z F_z N_z))) | ((with_reducible show wpAny _ _ (call (Value.type "reversed") _) _ _ _); refine stop_intro ?_) | ((with_reducible show wpAny _ _ (call (Value.ref ..) _) _ _ _); k_dflt ((first   | refine c_add (by k_asm) (by k_asm) (by k_asm) (by k_asm) (by k_asm) (by first | with_reducible assumption | exact rfl) (by (first | exact room_up (by with_reducible assumption) (by decide) | ktr_room)) (by (first | exact unit_up (by with_reducible assumption) (by decide) | ktr_units)) ?_   | refine c_sub (by k_asm) (by k_asm) (by k_asm) (by k_asm) (by k_asm) (by first | with_reducible assumption | exact rfl) (by (first | exact room_up (by with_reducible assumption) (by decide) | ktr_room)) (by (first | exact unit_up (by with_reducible assumption) (by decide) | ktr_units)) ?_   | (refine c_mul (by k_asm) (by k_asm) (by k_asm) (by k_asm) (by k_asm) (by first | with_reducible assumption | exact rfl) (by (first | exact room_up (by with_reducible assumption) (by decide) | ktr_room)) (by (first | exact unit_up (by with_reducible assumption) (by decide) | ktr_units)) (by tb_start) (by tb_start) (by first | with_reducible assumption | omega) ?_)   | (refine c_lshift (by k_asm) (by k_asm) (by k_asm) (by k_asm) (by k_asm) (by first | with_reducible assumption | exact rfl) (by (first | exact room_up (by with_reducible assumption) (by decide) | ktr_room)) (by (first | exact unit_up (by with_reducible assumption) (by decide) | ktr_units)) (by tb_start) (by with_reducible assumption) (by first | with_reducible assumption | omega) ?_)   | (refine c_rshift (by k_asm) (by k_asm) (by k_asm) (by k_asm) (by k_asm) (by first | with_reducible assumption | exact rfl) (by (first | exact room_up (by with_reducible assumption) (by decide) | ktr_room)) (by (first | exact unit_up (by with_reducible assumption) (by decide) | ktr_units)) (by with_reducible assumption) ?_)   | refine c_isub (by k_asm) (by k_asm) (by k_asm) (by k_asm) (by k_asm) (by first | with_reducible assumption | exact rfl) (by (first | exact room_up (by with_reducible assumption) (by decide) | ktr_room)) (by (first | exact unit_up (by with_reducible assumption) (by decide) | ktr_units)) ?_); intro t9_z h9_z tk9_z F9_z N9_z; try dsimp only)) | ((with_reducible show LCg.CompSrc _ _ _ _ _ _ _ _ _ _ _ _ _ _); refine stop_intro ?_) | ((with_reducible show UnrEnd ..); refine stop_intro ?_) | ((with_reducible show LeaveH _ _ _ _ _ _ _ _); first | (with_reducible ((refine leaveH_ (by k_asm) (by k_asm) ?_; intro kF_z kN_z kA_z; try dsimp only))) | ((refine leaveH_ (by k_asm) (by k_asm) ?_; intro kF_z kN_z kA_z; try dsimp only))) | walk1 | (dsimp only; walk1) | (leave1; (try dsimp only)) | fail "no step"))
  refine Stop.mk ?_
  rename Fr g' _ _ _ => F₃
  rename News g' _ _ _ => N₃
  obtain ⟨V, hV⟩ : ∃ V, V = q + G := ⟨_, rfl⟩
  have hwh : dvd + G * U = V * U := by rw [hq, hV, Int.add_mul]
  rw [← hG] at hV1 hV2 hret
  rw [← hV] at hV1 hV2 hret
  rw [hwh] at F₃
  refine tm_cut U F₃ N₃ ?_ ?_
  · have bt : intBits times ≤ 40 := bits_of_lt (by omega) (by omega)
    (repeat' (first | (k_unfold; (try dsimp only)) | (k_end; kc_close) | ((with_reducible show wpAny _ _ (exec (Stmt.For (PySem.Expr.Name ..) (PySem.Expr.Call ..) ..) _) _ _ _); (refine stop_intro ?_)) | ((with_reducible show wpAny _ _ (callWith _ (Value.ref ..) _ _ _) _ _ _); (k_here; k_dflt (refine callWith_K (by k_asm) (by k_is) ?_; k_whole))) | ((with_reducible show wpAny _ _ (compareOp CmpOp.NotEq (Value.ref ..) (Value.ref ..)) _ _ _); k_dflt (refine ne_tups (by exact News.isTup (by k_asm) (by k_mem)) (by exact News.isTup (by k_asm) (by k_mem)) (by (first | exact unit_up (by with_reducible assumption) (by decide) | ktr_units)) ?_)) | ((with_reducible show wpAny _ _ (binaryOp Operator.Mult (Value.int ..) (Value.int ..)) _ _ _); k_dflt (refine mul_b (by tb_start) (by tb_start) (by first | with_reducible assumption | omega) ?_; try dsimp only)) | ((with_reducible show LeaveH _ _ _ _ _ _ Value.none _); first | (with_reducible (((rename ¬(_ = _) => hne); exfalso; apply hne; first | rfl | (rw [Int.toNat_natCast]; with_reducible assumption) | exact congrArg (· * _) (by with_reducible assumption)))) | (((rename ¬(_ = _) => hne); exfalso; apply hne; first | rfl | (rw [Int.toNat_natCast]; with_reducible assumption) | exact congrArg (· * _) (by with_reducible assumption)))) | ((with_reducible show wpAny _ _ (eval (PySem.Expr.ListComp ..) _) _ _ _); refine stop_intro ?_) | ((with_reducible show wpAny _ _ (call (Value.ref ..) _) _ _ _); ((with_reducible show wpAny _ _ (call (Value.ref 28) _) _ _ _); refine stop_intro ?_)) | ((with_reducible show wpAny _ _ (call (Value.ref ..) _) _ _ _); ((with_reducible show wpAny _ _ (call (Value.ref 35) _) _ _ _); refine stop_intro ?_)) | ((with_reducible show wpAny _ _ (call (Value.ref ..) _) _ _ _); ((with_reducible show wpAny _ _ (call (Value.ref 42) _) _ _ _); refine stop_intro ?_)) | ((with_reducible show wpAny _ _ (call (Value.builtin "list.reverse") _) _ _ _); refine stop_intro ?_) | ((with_reducible show wpAny _ _ (call (Value.builtin "list.append") _) _ _ _); refine stop_intro ?_) | ((with_reducible show wpAny _ _ (call (Value.builtin "divmod") _) _ _ _); first | (with_reducible ((refine divmod_N (by k_asm) (by k_asm) (by omega) ?_ (Or.inl (noPy (by with_reducible assumption) (by decide))); intro h_z F_z N_z))) | ((refine divmod_N (by k_asm) (by k_asm) (by omega) ?_ (Or.inl (noPy (by with_reducible assumption) (by decide))); intro h_z F_z N_z))) | ((with_reducible show wpAny _ _ (call (Value.type "reversed") _) _ _ _); refine stop_intro ?_) | ((with_reducible show wpAny _ _ (call (Value.ref ..) _) _ _ _); k_dflt ((first   | refine c_add (by k_asm) (by k_asm) (by k_asm) (by k_asm) (by k_asm) (by first | with_reducible assumption | exact rfl) (by (first | exact room_up (by with_reducible assumption) (by decide) | ktr_room)) (by (first | exact unit_up (by with_reducible assumption) (by decide) | ktr_units)) ?_   | refine c_sub (by k_asm) (by k_asm) (by k_asm) (by k_asm) (by k_asm) (by first | with_reducible assumption | exact rfl) (by (first | exact room_up (by with_reducible assumption) (by decide) | ktr_room)) (by (first | exact unit_up (by with_reducible assumption) (by decide) | ktr_units)) ?_   | (refine c_mul (by k_asm) (by k_asm) (by k_asm) (by k_asm) (by k_asm) (by first | with_reducible assumption | exact rfl) (by (first | exact room_up (by with_reducible assumption) (by decide) | ktr_room)) (by (first | exact unit_up (by with_reducible assumption) (by decide) | ktr_units)) (by tb_start) (by tb_start) (by first | with_reducible assumption | omega) ?_)   | (refine c_lshift (by k_asm) (by k_asm) (by k_asm) (by k_asm) (by k_asm) (by first | with_reducible assumption | exact rfl) (by (first | exact room_up (by with_reducible assumption) (by decide) | ktr_room)) (by (first | exact unit_up (by with_reducible assumption) (by decide) | ktr_units)) (by tb_start) (by with_reducible assumption) (by first | with_reducible assumption | omega) ?_)   | (refine c_rshift (by k_asm) (by k_asm) (by k_asm) (by k_asm) (by k_asm) (by first | with_reducible assumption | exact rfl) (by (first | exact room_up (by with_reducible assumption) (by decide) | ktr_room)) (by (first | exact unit_up (by with_reducible assumption) (by decide) | ktr_units)) (by with_reducible assumption) ?_)   | refine c_isub (by k_asm) (by k_asm) (by k_asm) (by k_asm) (by k_asm) (by first | with_reducible assumption | exact rfl) (by (first | exact room_up (by with_reducible assumption) (by decide) | ktr_room)) (by (first | exact unit_up (by with_reducible assumption) (by decide) | ktr_units)) ?_); intro t9_z h9_z tk9_z F9_z N9_z; try dsimp only)) | ((with_reducible show LCg.CompSrc _ _ _ _ _ _ _ _ _ _ _ _ _ _); refine stop_intro ?_) | ((with_reducible show UnrEnd ..); refine stop_intro ?_) | ((with_reducible show LeaveH _ _ _ _ _ _ _ _); first | (with_reducible ((refine leaveH_ (by k_asm) (by k_asm) ?_; intro kF_z kN_z kA_z; try dsimp only))) | ((refine leaveH_ (by k_asm) (by k_asm) ?_; intro kF_z kN_z kA_z; try dsimp only))) | walk1 | (dsimp only; walk1) | (leave1; (try dsimp only)) | fail "no step"))
    · rename Int.fmod _ _ = _ => e
      rename Fr g' _ _ _ => F₄
      rename News g' _ _ _ => N₄
      refine ⟨2 * times, _, _, _, rfl, rfl, by omega, by omega, ?_, F₄, N₄⟩
      have hp := Int.mul_pos hU0 (show 0 < times by omega)
      have e2 : U * (2 * times) = 2 * (U * times) := by rw [← Int.mul_assoc, Int.mul_comm U 2, Int.mul_assoc]
      rw [e2, bits_two hp]
      rw [Int.fmod_eq_emod_of_nonneg _ (by decide)] at e
      exact odd_k e
    · rename ¬(Int.fmod _ _ = _) => e
      rename Fr g' _ _ _ => F₄
      rename News g' _ _ _ => N₄
      refine ⟨times, t4, _, _, rfl, rfl, ht1, by omega, ?_, fr_same F₄ rfl, N₄⟩
      rw [Int.fmod_eq_emod_of_nonneg _ (by decide)] at e
      exact even_k e
  · intro tm tv h₄ tk₄ tm1 tm2 tmE F₄ N₄
    clear F₃ N₃ ht1 ht2
    have bm : intBits tm ≤ 41 := bits_of_lt (by omega) (by omega)
    obtain ⟨b, hb⟩ : ∃ b, b = U * tm := ⟨_, rfl⟩
    obtain ⟨H, hH⟩ : ∃ H : Nat, intBits b = 2 * H := ⟨intBits b / 2, by rw [hb]; exact half_k tmE⟩
    obtain ⟨b0, b1, b2, hwH, hH2⟩ := h_num hw hw2 hX1 hUe bU tm1 tm2 hb hH
    obtain ⟨S, hS, hS1, hS2⟩ := s_num hn3 hn8 hwH
    have bb : intBits b ≤ 200 := by rw [hH]; exact Nat.mul_le_mul_left 2 hH2
    obtain ⟨hHp, hHi, hHne, hHz, hHa, hHb, hHc, hHd, hHe', hHf, hHg⟩ := h_facts hwH hH2
    have bw : intBits (ww : Int) ≤ 7 := bits_of_lt (by omega) (by omega)
    have bn : intBits ((n : Int) - 1) ≤ 3 := bits_of_lt (by omega) (by omega)
    try dsimp only
    (repeat' (first | (k_unfold; (try dsimp only)) | (k_end; kc_close) | ((with_reducible show wpAny _ _ (exec (Stmt.For (PySem.Expr.Name ..) (PySem.Expr.Call ..) ..) _) _ _ _); (refine stop_intro ?_)) | ((with_reducible show wpAny _ _ (callWith _ (Value.ref ..) _ _ _) _ _ _); (k_here; k_dflt (refine callWith_K (by k_asm) (by k_is) ?_; k_whole))) | ((with_reducible show wpAny _ _ (compareOp CmpOp.NotEq (Value.ref ..) (Value.ref ..)) _ _ _); k_dflt (refine ne_tups (by exact News.isTup (by k_asm) (by k_mem)) (by exact News.isTup (by k_asm) (by k_mem)) (by (first | exact unit_up (by with_reducible assumption) (by decide) | ktr_units)) ?_)) | ((with_reducible show wpAny _ _ (binaryOp Operator.Mult (Value.int ..) (Value.int ..)) _ _ _); k_dflt (refine mul_b (by tb_start) (by tb_start) (by first | with_reducible assumption | omega) ?_; try dsimp only)) | ((with_reducible show LeaveH _ _ _ _ _ _ Value.none _); first | (with_reducible (((rename ¬(_ = _) => hne); exfalso; apply hne; first | rfl | (rw [Int.toNat_natCast]; with_reducible assumption) | exact congrArg (· * _) (by with_reducible assumption)))) | (((rename ¬(_ = _) => hne); exfalso; apply hne; first | rfl | (rw [Int.toNat_natCast]; with_reducible assumption) | exact congrArg (· * _) (by with_reducible assumption)))) | ((with_reducible show wpAny _ _ (eval (PySem.Expr.ListComp ..) _) _ _ _); refine stop_intro ?_) | ((with_reducible show wpAny _ _ (call (Value.ref ..) _) _ _ _); ((with_reducible show wpAny _ _ (call (Value.ref 28) _) _ _ _); refine stop_intro ?_)) | ((with_reducible show wpAny _ _ (call (Value.ref ..) _) _ _ _); ((with_reducible show wpAny _ _ (call (Value.ref 35) _) _ _ _); refine stop_intro ?_)) | ((with_reducible show wpAny _ _ (call (Value.ref ..) _) _ _ _); ((with_reducible show wpAny _ _ (call (Value.ref 42) _) _ _ _); refine stop_intro ?_)) | ((with_reducible show wpAny _ _ (call (Value.builtin "list.reverse") _) _ _ _); refine stop_intro ?_) | ((with_reducible show wpAny _ _ (call (Value.builtin "list.append") _) _ _ _); refine stop_intro ?_) | ((with_reducible show wpAny _ _ (call (Value.builtin "divmod") _) _ _ _); first | (with_reducible ((refine divmod_N (by k_asm) (by k_asm) (by omega) ?_ (Or.inl (noPy (by with_reducible assumption) (by decide))); intro h_z F_z N_z))) | ((refine divmod_N (by k_asm) (by k_asm) (by omega) ?_ (Or.inl (noPy (by with_reducible assumption) (by decide))); intro h_z F_z N_z))) | ((with_reducible show wpAny _ _ (call (Value.type "reversed") _) _ _ _); refine stop_intro ?_) | ((with_reducible show wpAny _ _ (call (Value.ref ..) _) _ _ _); k_dflt ((first   | refine c_add (by k_asm) (by k_asm) (by k_asm) (by k_asm) (by k_asm) (by first | with_reducible assumption | exact rfl) (by (first | exact room_up (by with_reducible assumption) (by decide) | ktr_room)) (by (first | exact unit_up (by with_reducible assumption) (by decide) | ktr_units)) ?_   | refine c_sub (by k_asm) (by k_asm) (by k_asm) (by k_asm) (by k_asm) (by first | with_reducible assumption | exact rfl) (by (first | exact room_up (by with_reducible assumption) (by decide) | ktr_room)) (by (first | exact unit_up (by with_reducible assumption) (by decide) | ktr_units)) ?_   | (refine c_mul (by k_asm) (by k_asm) (by k_asm) (by k_asm) (by k_asm) (by first | with_reducible assumption | exact rfl) (by (first | exact room_up (by with_reducible assumption) (by decide) | ktr_room)) (by (first | exact unit_up (by with_reducible assumption) (by decide) | ktr_units)) (by tb_start) (by tb_start) (by first | with_reducible assumption | omega) ?_)   | (refine c_lshift (by k_asm) (by k_asm) (by k_asm) (by k_asm) (by k_asm) (by first | with_reducible assumption | exact rfl) (by (first | exact room_up (by with_reducible assumption) (by decide) | ktr_room)) (by (first | exact unit_up (by with_reducible assumption) (by decide) | ktr_units)) (by tb_start) (by with_reducible assumption) (by first | with_reducible assumption | omega) ?_)   | (refine c_rshift (by k_asm) (by k_asm) (by k_asm) (by k_asm) (by k_asm) (by first | with_reducible assumption | exact rfl) (by (first | exact room_up (by with_reducible assumption) (by decide) | ktr_room)) (by (first | exact unit_up (by with_reducible assumption) (by decide) | ktr_units)) (by with_reducible assumption) ?_)   | refine c_isub (by k_asm) (by k_asm) (by k_asm) (by k_asm) (by k_asm) (by first | with_reducible assumption | exact rfl) (by (first | exact room_up (by with_reducible assumption) (by decide) | ktr_room)) (by (first | exact unit_up (by with_reducible assumption) (by decide) | ktr_units)) ?_); intro t9_z h9_z tk9_z F9_z N9_z; try dsimp only)) | ((with_reducible show LCg.CompSrc _ _ _ _ _ _ _ _ _ _ _ _ _ _); refine stop_intro ?_) | ((with_reducible show UnrEnd ..); refine stop_intro ?_) | ((with_reducible show LeaveH _ _ _ _ _ _ _ _); first | (with_reducible ((refine leaveH_ (by k_asm) (by k_asm) ?_; intro kF_z kN_z kA_z; try dsimp only))) | ((refine leaveH_ (by k_asm) (by k_asm) ?_; intro kF_z kN_z kA_z; try dsimp only))) | walk1 | (dsimp only; walk1) | (leave1; (try dsimp only)) | fail "no step"))
    rename Fr g' _ _ _ => F₅
    rename News g' _ _ _ => N₅
    have hHe : ((intBits b : Nat) : Int).fdiv 2 = (H : Int) := by
      rw [hH, Int.fdiv_eq_ediv_of_nonneg _ (by decide)]; exact two_div H
    rw [← hb, hHe] at F₅
    rw [← hb, hHe]
    have bh : intBits (H : Int) ≤ 7 := bits_of_lt hHz hHb
    (repeat' (first | (k_unfold; (try dsimp only)) | (k_end; kc_close) | ((with_reducible show wpAny _ _ (exec (Stmt.For (PySem.Expr.Name ..) (PySem.Expr.Call ..) ..) _) _ _ _); (refine stop_intro ?_)) | ((with_reducible show wpAny _ _ (callWith _ (Value.ref ..) _ _ _) _ _ _); (k_here; k_dflt (refine callWith_K (by k_asm) (by k_is) ?_; k_whole))) | ((with_reducible show wpAny _ _ (compareOp CmpOp.NotEq (Value.ref ..) (Value.ref ..)) _ _ _); k_dflt (refine ne_tups (by exact News.isTup (by k_asm) (by k_mem)) (by exact News.isTup (by k_asm) (by k_mem)) (by (first | exact unit_up (by with_reducible assumption) (by decide) | ktr_units)) ?_)) | ((with_reducible show wpAny _ _ (binaryOp Operator.FloorDiv (Value.int ..) (Value.int ..)) _ _ _); (k_dflt (refine floordiv_int (by first | with_reducible assumption | omega) ?_ (Or.inl (noPy (k := 9000) (by exact bits_up (by tb_start) (by first | with_reducible assumption | omega)) (by decide)))))) | ((with_reducible show wpAny _ _ (binaryOp Operator.Mult (Value.int ..) (Value.int ..)) _ _ _); k_dflt (refine mul_b (by tb_start) (by tb_start) (by first | with_reducible assumption | omega) ?_; try dsimp only)) | ((with_reducible show LeaveH _ _ _ _ _ _ Value.none _); first | (with_reducible (((rename ¬(_ = _) => hne); exfalso; apply hne; first | rfl | (rw [Int.toNat_natCast]; with_reducible assumption) | exact congrArg (· * _) (by with_reducible assumption)))) | (((rename ¬(_ = _) => hne); exfalso; apply hne; first | rfl | (rw [Int.toNat_natCast]; with_reducible assumption) | exact congrArg (· * _) (by with_reducible assumption)))) | ((with_reducible show wpAny _ _ (eval (PySem.Expr.ListComp ..) _) _ _ _); refine stop_intro ?_) | ((with_reducible show wpAny _ _ (call (Value.ref ..) _) _ _ _); ((with_reducible show wpAny _ _ (call (Value.ref 28) _) _ _ _); refine stop_intro ?_)) | ((with_reducible show wpAny _ _ (call (Value.ref ..) _) _ _ _); ((with_reducible show wpAny _ _ (call (Value.ref 35) _) _ _ _); refine stop_intro ?_)) | ((with_reducible show wpAny _ _ (call (Value.ref ..) _) _ _ _); ((with_reducible show wpAny _ _ (call (Value.ref 42) _) _ _ _); refine stop_intro ?_)) | ((with_reducible show wpAny _ _ (call (Value.ref ..) _) _ _ _); ((with_reducible show wpAny _ _ (call (Value.ref 105) _) _ _ _); refine stop_intro ?_)) | ((with_reducible show wpAny _ _ (call (Value.builtin "list.reverse") _) _ _ _); refine stop_intro ?_) | ((with_reducible show wpAny _ _ (call (Value.builtin "list.append") _) _ _ _); refine stop_intro ?_) | ((with_reducible show wpAny _ _ (call (Value.builtin "divmod") _) _ _ _); first | (with_reducible ((refine divmod_N (by k_asm) (by k_asm) (by omega) ?_ (Or.inl (noPy (by with_reducible assumption) (by decide))); intro h_z F_z N_z))) | ((refine divmod_N (by k_asm) (by k_asm) (by omega) ?_ (Or.inl (noPy (by with_reducible assumption) (by decide))); intro h_z F_z N_z))) | ((with_reducible show wpAny _ _ (call (Value.type "reversed") _) _ _ _); refine stop_intro ?_) | ((with_reducible show wpAny _ _ (call (Value.ref ..) _) _ _ _); k_dflt ((first   | refine c_add (by k_asm) (by k_asm) (by k_asm) (by k_asm) (by k_asm) (by first | with_reducible assumption | exact rfl) (by (first | exact room_up (by with_reducible assumption) (by decide) | ktr_room)) (by (first | exact unit_up (by with_reducible assumption) (by decide) | ktr_units)) ?_   | refine c_sub (by k_asm) (by k_asm) (by k_asm) (by k_asm) (by k_asm) (by first | with_reducible assumption | exact rfl) (by (first | exact room_up (by with_reducible assumption) (by decide) | ktr_room)) (by (first | exact unit_up (by with_reducible assumption) (by decide) | ktr_units)) ?_   | (refine c_mul (by k_asm) (by k_asm) (by k_asm) (by k_asm) (by k_asm) (by first | with_reducible assumption | exact rfl) (by (first | exact room_up (by with_reducible assumption) (by decide) | ktr_room)) (by (first | exact unit_up (by with_reducible assumption) (by decide) | ktr_units)) (by tb_start) (by tb_start) (by first | with_reducible assumption | omega) ?_)   | (refine c_lshift (by k_asm) (by k_asm) (by k_asm) (by k_asm) (by k_asm) (by first | with_reducible assumption | exact rfl) (by (first | exact room_up (by with_reducible assumption) (by decide) | ktr_room)) (by (first | exact unit_up (by with_reducible assumption) (by decide) | ktr_units)) (by tb_start) (by with_reducible assumption) (by first | with_reducible assumption | omega) ?_)   | (refine c_rshift (by k_asm) (by k_asm) (by k_asm) (by k_asm) (by k_asm) (by first | with_reducible assumption | exact rfl) (by (first | exact room_up (by with_reducible assumption) (by decide) | ktr_room)) (by (first | exact unit_up (by with_reducible assumption) (by decide) | ktr_units)) (by with_reducible assumption) ?_)   | refine c_isub (by k_asm) (by k_asm) (by k_asm) (by k_asm) (by k_asm) (by first | with_reducible assumption | exact rfl) (by (first | exact room_up (by with_reducible assumption) (by decide) | ktr_room)) (by (first | exact unit_up (by with_reducible assumption) (by decide) | ktr_units)) ?_); intro t9_z h9_z tk9_z F9_z N9_z; try dsimp only)) | ((with_reducible show LCg.CompSrc _ _ _ _ _ _ _ _ _ _ _ _ _ _); refine stop_intro ?_) | ((with_reducible show UnrEnd ..); refine stop_intro ?_) | ((with_reducible show LeaveH _ _ _ _ _ _ _ _); first | (with_reducible ((refine leaveH_ (by k_asm) (by k_asm) ?_; intro kF_z kN_z kA_z; try dsimp only))) | ((refine leaveH_ (by k_asm) (by k_asm) ?_; intro kF_z kN_z kA_z; try dsimp only))) | walk1 | (dsimp only; walk1) | (leave1; (try dsimp only)) | fail "no step"))
    refine Stop.mk ?_
    rename Fr g' _ _ _ => F₆
    rename News g' _ _ _ => N₆
    have hcr : (1 * 2 ^ ((H : Int)).toNat - 1 : Int) = 2 ^ H - 1 := by rw [Int.one_mul, Int.toNat_natCast]
    rw [hS, hcr] at F₆
    have hV0 : 0 ≤ V := Int.le_trans (Int.le_of_lt (Int.pow_pos (by decide))) hV1
    have bV : intBits V ≤ 497 := bits_up (bits_of_lt hV0 hV2) (Nat.le_trans (Nat.mul_le_mul hw2 (pred7n hn8)) (by decide))
    have hHS0 : (0 : Int) ≤ (H : Int) * (S : Int) := Int.mul_nonneg hHz (Int.natCast_nonneg _)
    have hHSn : ((H : Int) * (S : Int)).toNat = H * S := by
      rw [← Int.natCast_mul, Int.toNat_natCast]
    have hHSb : H * S ≤ 100 * 7 := Nat.mul_le_mul hH2 hS2
    have hHS1 : (H : Int) * (S : Int) ≤ 700 := by
      rw [← Int.natCast_mul]
      exact Int.le_trans (Int.ofNat_le.mpr hHSb) (by decide)
    have hHS9 := sum_le hHS1
    have bS : intBits (S : Int) ≤ 3 := bits_of_lt (by omega) (by omega)
    have p2H : (2 : Int) ≤ 2 ^ H := two_pow_mono (ge_one hwH)
    have bC : intBits ((2 : Int) ^ H - 1) ≤ 101 := bits_up (bits_of_lt (n := H) (Int.le_trans (by decide) (Int.sub_le_sub_right p2H 1)) (Int.sub_lt_self _ (by decide))) hHf
    have bL : intBits (((2 : Int) ^ H - 1) * 2 ^ ((H : Int) * (S : Int)).toNat) ≤ 900 := by
      rw [hHSn]
      exact bits_up (intBits_mul_le bC (bits_pow (n := H * S))) (sum_le' hHSb)
    have bVU : intBits (V * U) ≤ 643 := intBits_mul_le bV bU
    have bn0 : b ≠ 0 := Int.ne_of_gt b0
    (repeat' (first | (k_unfold; (try dsimp only)) | (k_end; kc_close) | ((with_reducible show wpAny _ _ (exec (Stmt.For (PySem.Expr.Name ..) (PySem.Expr.Call ..) ..) _) _ _ _); (refine stop_intro ?_)) | ((with_reducible show wpAny _ _ (callWith _ (Value.ref ..) _ _ _) _ _ _); (k_here; k_dflt (refine callWith_K (by k_asm) (by k_is) ?_; k_whole))) | ((with_reducible show wpAny _ _ (compareOp CmpOp.NotEq (Value.ref ..) (Value.ref ..)) _ _ _); k_dflt (refine ne_tups (by exact News.isTup (by k_asm) (by k_mem)) (by exact News.isTup (by k_asm) (by k_mem)) (by (first | exact unit_up (by with_reducible assumption) (by decide) | ktr_units)) ?_)) | ((with_reducible show wpAny _ _ (binaryOp Operator.FloorDiv (Value.int ..) (Value.int ..)) _ _ _); (k_dflt (refine floordiv_int (by first | with_reducible assumption | omega) ?_ (Or.inl (noPy (k := 9000) (by exact bits_up (by tb_start) (by first | with_reducible assumption | omega)) (by decide)))))) | ((with_reducible show wpAny _ _ (binaryOp Operator.Mult (Value.int ..) (Value.int ..)) _ _ _); k_dflt (refine mul_b (by tb_start) (by tb_start) (by first | with_reducible assumption | omega) ?_; try dsimp only)) | ((with_reducible show LeaveH _ _ _ _ _ _ Value.none _); first | (with_reducible (((rename ¬(_ = _) => hne); exfalso; apply hne; first | rfl | (rw [Int.toNat_natCast]; with_reducible assumption) | exact congrArg (· * _) (by with_reducible assumption)))) | (((rename ¬(_ = _) => hne); exfalso; apply hne; first | rfl | (rw [Int.toNat_natCast]; with_reducible assumption) | exact congrArg (· * _) (by with_reducible assumption)))) | ((with_reducible show wpAny _ _ (eval (PySem.Expr.ListComp ..) _) _ _ _); refine stop_intro ?_) | ((with_reducible show wpAny _ _ (call (Value.ref ..) _) _ _ _); ((with_reducible show wpAny _ _ (call (Value.ref 28) _) _ _ _); refine stop_intro ?_)) | ((with_reducible show wpAny _ _ (call (Value.ref ..) _) _ _ _); ((with_reducible show wpAny _ _ (call (Value.ref 35) _) _ _ _); refine stop_intro ?_)) | ((with_reducible show wpAny _ _ (call (Value.ref ..) _) _ _ _); ((with_reducible show wpAny _ _ (call (Value.ref 42) _) _ _ _); refine stop_intro ?_)) | ((with_reducible show wpAny _ _ (call (Value.builtin "list.reverse") _) _ _ _); refine stop_intro ?_) | ((with_reducible show wpAny _ _ (call (Value.builtin "list.append") _) _ _ _); refine stop_intro ?_) | ((with_reducible show wpAny _ _ (call (Value.builtin "divmod") _) _ _ _); first | (with_reducible ((refine divmod_N (by k_asm) (by k_asm) (by omega) ?_ (Or.inl (noPy (by with_reducible assumption) (by decide))); intro h_z F_z N_z))) | ((refine divmod_N (by k_asm) (by k_asm) (by omega) ?_ (Or.inl (noPy (by with_reducible assumption) (by decide))); intro h_z F_z N_z))) | ((with_reducible show wpAny _ _ (call (Value.type "reversed") _) _ _ _); refine stop_intro ?_) | ((with_reducible show wpAny _ _ (call (Value.ref ..) _) _ _ _); k_dflt ((first   | refine c_add (by k_asm) (by k_asm) (by k_asm) (by k_asm) (by k_asm) (by first | with_reducible assumption | exact rfl) (by (first | exact room_up (by with_reducible assumption) (by decide) | ktr_room)) (by (first | exact unit_up (by with_reducible assumption) (by decide) | ktr_units)) ?_   | refine c_sub (by k_asm) (by k_asm) (by k_asm) (by k_asm) (by k_asm) (by first | with_reducible assumption | exact rfl) (by (first | exact room_up (by with_reducible assumption) (by decide) | ktr_room)) (by (first | exact unit_up (by with_reducible assumption) (by decide) | ktr_units)) ?_   | (refine c_mul (by k_asm) (by k_asm) (by k_asm) (by k_asm) (by k_asm) (by first | with_reducible assumption | exact rfl) (by (first | exact room_up (by with_reducible assumption) (by decide) | ktr_room)) (by (first | exact unit_up (by with_reducible assumption) (by decide) | ktr_units)) (by tb_start) (by tb_start) (by first | with_reducible assumption | omega) ?_)   | (refine c_lshift (by k_asm) (by k_asm) (by k_asm) (by k_asm) (by k_asm) (by first | with_reducible assumption | exact rfl) (by (first | exact room_up (by with_reducible assumption) (by decide) | ktr_room)) (by (first | exact unit_up (by with_reducible assumption) (by decide) | ktr_units)) (by tb_start) (by with_reducible assumption) (by first | with_reducible assumption | omega) ?_)   | (refine c_rshift (by k_asm) (by k_asm) (by k_asm) (by k_asm) (by k_asm) (by first | with_reducible assumption | exact rfl) (by (first | exact room_up (by with_reducible assumption) (by decide) | ktr_room)) (by (first | exact unit_up (by with_reducible assumption) (by decide) | ktr_units)) (by with_reducible assumption) ?_)   | refine c_isub (by k_asm) (by k_asm) (by k_asm) (by k_asm) (by k_asm) (by first | with_reducible assumption | exact rfl) (by (first | exact room_up (by with_reducible assumption) (by decide) | ktr_room)) (by (first | exact unit_up (by with_reducible assumption) (by decide) | ktr_units)) ?_); intro t9_z h9_z tk9_z F9_z N9_z; try dsimp only)) | ((with_reducible show LCg.CompSrc _ _ _ _ _ _ _ _ _ _ _ _ _ _); refine stop_intro ?_) | ((with_reducible show UnrEnd ..); refine stop_intro ?_) | ((with_reducible show LeaveH _ _ _ _ _ _ _ _); first | (with_reducible ((refine leaveH_ (by k_asm) (by k_asm) ?_; intro kF_z kN_z kA_z; try dsimp only))) | ((refine leaveH_ (by k_asm) (by k_asm) ?_; intro kF_z kN_z kA_z; try dsimp only))) | walk1 | (dsimp only; walk1) | (leave1; (try dsimp only)) | fail "no step"))
    rename Fr g' _ _ _ => F₇
    rename News g' _ _ _ => N₇
    obtain ⟨e, he⟩ : ∃ e, e = extra.fmod b := ⟨_, rfl⟩
    have he0 : 0 ≤ e := by rw [he]; exact Int.fmod_nonneg_of_pos _ b0
    have he1 : e < b := by rw [he]; exact Int.fmod_lt_of_pos _ b0
    obtain ⟨W, hW⟩ : ∃ W, W = V + (2 ^ H - 1) * 2 ^ (H * S) := ⟨_, rfl⟩
    obtain ⟨tot, ht⟩ : ∃ tot, tot = b * W + e := ⟨_, rfl⟩
    obtain ⟨hW0, hVS, ht0, ht1⟩ := t_num hV0 hV2 hS1 (ge_one hwH) b0 b1 he0 he1
    rw [← hW] at hW0 ht0 ht1
    rw [← ht] at ht0 ht1
    have htot : V * U * tm + extra.fmod b + (2 ^ H - 1) * 2 ^ ((H : Int) * (S : Int)).toNat * b = tot := by
      rw [ht, hW, hHSn, ← he, hb]
      generalize (2 : Int) ^ H = x1
      generalize (2 : Int) ^ (H * S) = x2
      grind
    rw [htot] at F₇
    have hc2 : ((intBits b : Int) + (H : Int) - 1).fdiv (H : Int) = ((1 + 1 : Nat) : Int) := cnt_exact (by omega) (Int.le_trans (two_pow_mono (two_h (ge_one hwH))) b2) (by rw [two_h2]; exact b1)
    refine' Stop.mk (i2d_ts (loc := [(L' + 1, o2)]) (K := KB) ?sub SB ?nf ?cB ?cF ?cX N₇ ?cT rfl C2' ?cd ?cu b (H : Int) _ _ 2 b0 (bits_up bb (by decide)) hHi hHa (bits_up bh (by decide)) hc2 (by decide) (by decide) ?_)
    (case sub => intro p hp; simp only [List.mem_cons, List.mem_append, List.not_mem_nil, or_false] at hp ⊢; grind); (case nf => exact .cons (nf_cell d2) .nil); (case cB => k_asm); (case cF => k_asm); (case cX => k_asm); (case cT => k_asm); (case cd => (first | exact room_up (by with_reducible assumption) (by decide) | ktr_room)); (case cu => (first | exact unit_up (by with_reducible assumption) (by decide) | ktr_units))
    intro D1 vs1 ds1 hC tkC psC KC SC FC NC iC lC fC dC
    clear N₇
    rw [Int.toNat_natCast] at fC dC
    obtain ⟨lo, hi, tlo, thi, rfl, rfl⟩ := ints_two iC lC
    have f1 := fC lo (.head _)
    have f2 := fC hi (.tail _ (.head _))
    have hbd : b = hi * 2 ^ H + lo := by
      rw [← dC]; simp [dval]; grind
    clear fC dC
    try dsimp only
    (repeat' (first | (k_unfold; (try dsimp only)) | (k_end; kc_close) | ((with_reducible show wpAny _ _ (exec (Stmt.For (PySem.Expr.Name ..) (PySem.Expr.Call ..) ..) _) _ _ _); (refine stop_intro ?_)) | ((with_reducible show wpAny _ _ (callWith _ (Value.ref ..) _ _ _) _ _ _); (k_here; k_dflt (refine callWith_K (by k_asm) (by k_is) ?_; k_whole))) | ((with_reducible show wpAny _ _ (compareOp CmpOp.NotEq (Value.ref ..) (Value.ref ..)) _ _ _); k_dflt (refine ne_tups (by exact News.isTup (by k_asm) (by k_mem)) (by exact News.isTup (by k_asm) (by k_mem)) (by (first | exact unit_up (by with_reducible assumption) (by decide) | ktr_units)) ?_)) | ((with_reducible show wpAny _ _ (binaryOp Operator.FloorDiv (Value.int ..) (Value.int ..)) _ _ _); (k_dflt (refine floordiv_int (by first | with_reducible assumption | omega) ?_ (Or.inl (noPy (k := 9000) (by exact bits_up (by tb_start) (by first | with_reducible assumption | omega)) (by decide)))))) | ((with_reducible show wpAny _ _ (binaryOp Operator.Mult (Value.int ..) (Value.int ..)) _ _ _); k_dflt (refine mul_b (by tb_start) (by tb_start) (by first | with_reducible assumption | omega) ?_; try dsimp only)) | ((with_reducible show LeaveH _ _ _ _ _ _ Value.none _); first | (with_reducible (((rename ¬(_ = _) => hne); exfalso; apply hne; first | rfl | (rw [Int.toNat_natCast]; with_reducible assumption) | exact congrArg (· * _) (by with_reducible assumption)))) | (((rename ¬(_ = _) => hne); exfalso; apply hne; first | rfl | (rw [Int.toNat_natCast]; with_reducible assumption) | exact congrArg (· * _) (by with_reducible assumption)))) | ((with_reducible show wpAny _ _ (eval (PySem.Expr.ListComp ..) _) _ _ _); refine stop_intro ?_) | ((with_reducible show wpAny _ _ (call (Value.ref ..) _) _ _ _); ((with_reducible show wpAny _ _ (call (Value.ref 28) _) _ _ _); refine stop_intro ?_)) | ((with_reducible show wpAny _ _ (call (Value.ref ..) _) _ _ _); ((with_reducible show wpAny _ _ (call (Value.ref 35) _) _ _ _); refine stop_intro ?_)) | ((with_reducible show wpAny _ _ (call (Value.ref ..) _) _ _ _); ((with_reducible show wpAny _ _ (call (Value.ref 42) _) _ _ _); refine stop_intro ?_)) | ((with_reducible show wpAny _ _ (call (Value.builtin "list.reverse") _) _ _ _); refine stop_intro ?_) | ((with_reducible show wpAny _ _ (call (Value.builtin "list.append") _) _ _ _); refine stop_intro ?_) | ((with_reducible show wpAny _ _ (call (Value.builtin "divmod") _) _ _ _); first | (with_reducible ((refine divmod_N (by k_asm) (by k_asm) (by omega) ?_ (Or.inl (noPy (by with_reducible assumption) (by decide))); intro h_z F_z N_z))) | ((refine divmod_N (by k_asm) (by k_asm) (by omega) ?_ (Or.inl (noPy (by with_reducible assumption) (by decide))); intro h_z F_z N_z))) | ((with_reducible show wpAny _ _ (call (Value.type "reversed") _) _ _ _); refine stop_intro ?_) | ((with_reducible show wpAny _ _ (call (Value.ref ..) _) _ _ _); k_dflt ((first   | refine c_add (by k_asm) (by k_asm) (by k_asm) (by k_asm) (by k_asm) (by first | with_reducible assumption | exact rfl) (by (first | exact room_up (by with_reducible assumption) (by decide) | ktr_room)) (by (first | exact unit_up (by with_reducible assumption) (by decide) | ktr_units)) ?_   | refine c_sub (by k_asm) (by k_asm) (by k_asm) (by k_asm) (by k_asm) (by first | with_reducible assumption | exact rfl) (by (first | exact room_up (by with_reducible assumption) (by decide) | ktr_room)) (by (first | exact unit_up (by with_reducible assumption) (by decide) | ktr_units)) ?_   | (refine c_mul (by k_asm) (by k_asm) (by k_asm) (by k_asm) (by k_asm) (by first | with_reducible assumption | exact rfl) (by (first | exact room_up (by with_reducible assumption) (by decide) | ktr_room)) (by (first | exact unit_up (by with_reducible assumption) (by decide) | ktr_units)) (by tb_start) (by tb_start) (by first | with_reducible assumption | omega) ?_)   | (refine c_lshift (by k_asm) (by k_asm) (by k_asm) (by k_asm) (by k_asm) (by first | with_reducible assumption | exact rfl) (by (first | exact room_up (by with_reducible assumption) (by decide) | ktr_room)) (by (first | exact unit_up (by with_reducible assumption) (by decide) | ktr_units)) (by tb_start) (by with_reducible assumption) (by first | with_reducible assumption | omega) ?_)   | (refine c_rshift (by k_asm) (by k_asm) (by k_asm) (by k_asm) (by k_asm) (by first | with_reducible assumption | exact rfl) (by (first | exact room_up (by with_reducible assumption) (by decide) | ktr_room)) (by (first | exact unit_up (by with_reducible assumption) (by decide) | ktr_units)) (by with_reducible assumption) ?_)   | refine c_isub (by k_asm) (by k_asm) (by k_asm) (by k_asm) (by k_asm) (by first | with_reducible assumption | exact rfl) (by (first | exact room_up (by with_reducible assumption) (by decide) | ktr_room)) (by (first | exact unit_up (by with_reducible assumption) (by decide) | ktr_units)) ?_); intro t9_z h9_z tk9_z F9_z N9_z; try dsimp only)) | ((with_reducible show LCg.CompSrc _ _ _ _ _ _ _ _ _ _ _ _ _ _); refine stop_intro ?_) | ((with_reducible show UnrEnd ..); refine stop_intro ?_) | ((with_reducible show LeaveH _ _ _ _ _ _ _ _); first | (with_reducible ((refine leaveH_ (by k_asm) (by k_asm) ?_; intro kF_z kN_z kA_z; try dsimp only))) | ((refine leaveH_ (by k_asm) (by k_asm) ?_; intro kF_z kN_z kA_z; try dsimp only))) | walk1 | (dsimp only; walk1) | (leave1; (try dsimp only)) | fail "no step"))
    rename Fr g' _ _ _ => F₈
    rename News g' _ _ _ => N₈
    refine Stop.mk (loop_start F₈ N₈ rfl rfl rfl ⟨rfl, rfl, rfl, rfl, rfl, rfl, rfl, rfl, rfl, rfl⟩ ?_)
    clear F₈ N₈
    intro qa m5 F₈ N₈ u1 u2 u3 lk
    have lk0 := lk
    obtain ⟨k1, k2, k3, k4, k5, k6, k7, k8, k9, k10⟩ := lk
    (repeat' (first | (k_unfold; (try dsimp only)) | (k_end; kc_close) | ((with_reducible show wpAny _ _ (callWith _ (Value.ref ..) _ _ _) _ _ _); (k_here; k_dflt (refine callWith_K (by k_asm) (by k_is) ?_; k_whole))) | ((with_reducible show wpAny _ _ (compareOp CmpOp.NotEq (Value.ref ..) (Value.ref ..)) _ _ _); k_dflt (refine ne_tups (by exact News.isTup (by k_asm) (by k_mem)) (by exact News.isTup (by k_asm) (by k_mem)) (by (first | exact unit_up (by with_reducible assumption) (by decide) | ktr_units)) ?_)) | ((with_reducible show wpAny _ _ (binaryOp Operator.FloorDiv (Value.int ..) (Value.int ..)) _ _ _); (k_dflt (refine floordiv_int (by first | with_reducible assumption | omega) ?_ (Or.inl (noPy (k := 9000) (by exact bits_up (by tb_start) (by first | with_reducible assumption | omega)) (by decide)))))) | ((with_reducible show wpAny _ _ (binaryOp Operator.Mult (Value.int ..) (Value.int ..)) _ _ _); k_dflt (refine mul_b (by tb_start) (by tb_start) (by first | with_reducible assumption | omega) ?_; try dsimp only)) | ((with_reducible show LeaveH _ _ _ _ _ _ Value.none _); first | (with_reducible (((rename ¬(_ = _) => hne); exfalso; apply hne; first | rfl | (rw [Int.toNat_natCast]; with_reducible assumption) | exact congrArg (· * _) (by with_reducible assumption)))) | (((rename ¬(_ = _) => hne); exfalso; apply hne; first | rfl | (rw [Int.toNat_natCast]; with_reducible assumption) | exact congrArg (· * _) (by with_reducible assumption)))) | ((with_reducible show wpAny _ _ (eval (PySem.Expr.ListComp ..) _) _ _ _); refine stop_intro ?_) | ((with_reducible show wpAny _ _ (call (Value.ref ..) _) _ _ _); ((with_reducible show wpAny _ _ (call (Value.ref 28) _) _ _ _); refine stop_intro ?_)) | ((with_reducible show wpAny _ _ (call (Value.ref ..) _) _ _ _); ((with_reducible show wpAny _ _ (call (Value.ref 35) _) _ _ _); refine stop_intro ?_)) | ((with_reducible show wpAny _ _ (call (Value.ref ..) _) _ _ _); ((with_reducible show wpAny _ _ (call (Value.ref 42) _) _ _ _); refine stop_intro ?_)) | ((with_reducible show wpAny _ _ (eval (PySem.Expr.Name ..) _) _ _ _); (k_here; k_dflt (refine nameX_L (by k_asm) (by (repeat (refine Eq.trans (if_neg (by decide)) ?_)); with_reducible first | exact if_pos rfl | assumption) ?_; k_whole))) | ((with_reducible show wpAny _ _ (call (Value.builtin "list.reverse") _) _ _ _); refine stop_intro ?_) | ((with_reducible show wpAny _ _ (call (Value.builtin "list.append") _) _ _ _); refine stop_intro ?_) | ((with_reducible show wpAny _ _ (call (Value.builtin "divmod") _) _ _ _); first | (with_reducible ((refine divmod_N (by k_asm) (by k_asm) (by omega) ?_ (Or.inl (noPy (by with_reducible assumption) (by decide))); intro h_z F_z N_z))) | ((refine divmod_N (by k_asm) (by k_asm) (by omega) ?_ (Or.inl (noPy (by with_reducible assumption) (by decide))); intro h_z F_z N_z))) | ((with_reducible show wpAny _ _ (call (Value.type "reversed") _) _ _ _); refine stop_intro ?_) | ((with_reducible show wpAny _ _ (call (Value.ref ..) _) _ _ _); k_dflt ((first   | refine c_add (by k_asm) (by k_asm) (by k_asm) (by k_asm) (by k_asm) (by first | with_reducible assumption | exact rfl) (by (first | exact room_up (by with_reducible assumption) (by decide) | ktr_room)) (by (first | exact unit_up (by with_reducible assumption) (by decide) | ktr_units)) ?_   | refine c_sub (by k_asm) (by k_asm) (by k_asm) (by k_asm) (by k_asm) (by first | with_reducible assumption | exact rfl) (by (first | exact room_up (by with_reducible assumption) (by decide) | ktr_room)) (by (first | exact unit_up (by with_reducible assumption) (by decide) | ktr_units)) ?_   | (refine c_mul (by k_asm) (by k_asm) (by k_asm) (by k_asm) (by k_asm) (by first | with_reducible assumption | exact rfl) (by (first | exact room_up (by with_reducible assumption) (by decide) | ktr_room)) (by (first | exact unit_up (by with_reducible assumption) (by decide) | ktr_units)) (by tb_start) (by tb_start) (by first | with_reducible assumption | omega) ?_)   | (refine c_lshift (by k_asm) (by k_asm) (by k_asm) (by k_asm) (by k_asm) (by first | with_reducible assumption | exact rfl) (by (first | exact room_up (by with_reducible assumption) (by decide) | ktr_room)) (by (first | exact unit_up (by with_reducible assumption) (by decide) | ktr_units)) (by tb_start) (by with_reducible assumption) (by first | with_reducible assumption | omega) ?_)   | (refine c_rshift (by k_asm) (by k_asm) (by k_asm) (by k_asm) (by k_asm) (by first | with_reducible assumption | exact rfl) (by (first | exact room_up (by with_reducible assumption) (by decide) | ktr_room)) (by (first | exact unit_up (by with_reducible assumption) (by decide) | ktr_units)) (by with_reducible assumption) ?_)   | refine c_isub (by k_asm) (by k_asm) (by k_asm) (by k_asm) (by k_asm) (by first | with_reducible assumption | exact rfl) (by (first | exact room_up (by with_reducible assumption) (by decide) | ktr_room)) (by (first | exact unit_up (by with_reducible assumption) (by decide) | ktr_units)) ?_); intro t9_z h9_z tk9_z F9_z N9_z; try dsimp only)) | ((with_reducible show LCg.CompSrc _ _ _ _ _ _ _ _ _ _ _ _ _ _); refine stop_intro ?_) | ((with_reducible show UnrEnd ..); refine stop_intro ?_) | ((with_reducible show LeaveH _ _ _ _ _ _ _ _); first | (with_reducible ((refine leaveH_ (by k_asm) (by k_asm) ?_; intro kF_z kN_z kA_z; try dsimp only))) | ((refine leaveH_ (by k_asm) (by k_asm) ?_; intro kF_z kN_z kA_z; try dsimp only))) | walk1 | (dsimp only; walk1) | (leave1; (try dsimp only)) | fail "no step"))
    rename Fr g' _ _ _ => F₉
    rename News g' _ _ _ => N₉
    have hhi : 0 < hi := by
      have h1 : (2 : Int) ^ H ≤ 2 ^ (2 * H - 1) := two_pow_mono (two_h' (ge_one hwH))
      exact hi_pos hbd f2.1 f1.2 (Int.le_trans h1 b2)
    have bt : intBits tot ≤ H * (S + 3) := bits_of_lt (Int.le_of_lt ht0) ht1
    have bt2 : H * (S + 3) ≤ 100 * 10 := Nat.mul_le_mul hH2 (Nat.add_le_add_right hS2 3)
    obtain ⟨c, hc, hc0, hc1⟩ := cnt_num hHp ht0 ht1
    refine' Stop.mk (i2d_ts (loc := [(qa, listOf ([] : List Value).toArray 0), (L' + 1, o2)]) (K := KC) ?sub SC ?nf ?cB ?cF ?cX N₉ ?cT rfl C2' ?cd ?cu tot (H : Int) _ _ c ht0 (bits_up bt (Nat.le_trans bt2 (by decide))) hHi hHa (bits_up bh (by decide)) hc hc0 (c_hund hc1 hS2) ?_)
    (case sub => intro p hp; simp only [List.mem_cons, List.mem_append, List.not_mem_nil, or_false] at hp ⊢; grind); (case nf => exact .cons nf_list (.cons (nf_cell d2) .nil)); (case cB => k_asm); (case cF => k_asm); (case cX => k_asm); (case cT => k_asm); (case cd => (first | exact room_up (by with_reducible assumption) (by decide) | ktr_room)); (case cu => (first | exact unit_up (by with_reducible assumption) (by decide) | ktr_units))
    intro D2 vs2 ds2 hE tkE psE KE SE FE NE iE lE fE dE
    clear N₉ F₉
    rw [Int.toNat_natCast] at fE dE
    have mq : (qa, listOf ([] : List Value).toArray 0) ∈ (D2, listOf vs2.toArray 0) :: (37, tabObj psB) :: (30, tabObj psE) :: (KE ++ [(qa, listOf ([] : List Value).toArray 0), (L' + 1, o2)]) := .tail _ (.tail _ (.tail _ (List.mem_append_right _ (.head _))))
    have mcl : (L' + 1, o2) ∈ (D2, listOf vs2.toArray 0) :: (37, tabObj psB) :: (30, tabObj psE) :: (KE ++ [(qa, listOf ([] : List Value).toArray 0), (L' + 1, o2)]) := .tail _ (.tail _ (.tail _ (List.mem_append_right _ (.tail _ (.head _)))))
    have hqD : qa ≠ D2 := ne_data NE mq (.head _) (list_data_ne (by
      intro h
      have h3 := iE.length
      rw [h, lE] at h3
      exact absurd (show 0 = c from h3) (Nat.ne_of_lt hc0)))
    obtain ⟨rest0, hr0⟩ : ∃ rest0, rest0 = (D2, listOf vs2.toArray 0) :: (37, tabObj psB) :: (30, tabObj psE) :: (KE ++ [(L' + 1, o2)]) := ⟨_, rfl⟩
    have offq : Off qa rest0 := by
      rw [hr0]
      have h1 := offT NE (x := qa) (o := listOf ([] : List Value).toArray 0) mq (fun p hp => by simp only [List.mem_cons, List.mem_append, List.not_mem_nil, or_false] at hp ⊢; grind) nf_list SE
      refine off_cons hqD.symm fun p hp => ?_
      simp only [List.mem_cons, List.mem_append, List.not_mem_nil, or_false] at hp
      rcases hp with h | h | h | h
      · exact h1 p (by simp [h])
      · exact h1 p (by simp [h])
      · exact h1 p (by simp [h])
      · rw [h]; exact ne_data NE mcl mq (by rw [d2]; simp [PySem.W.listOf])
    have NQ : News g' L' hE ((qa, listOf ([] : List Value).toArray 0) :: rest0) := by
      rw [hr0]
      exact news_sub NE (fun p hp => by simp only [List.mem_cons, List.mem_append, List.not_mem_nil, or_false] at hp ⊢; grind)
    have lpm : (D2, listOf vs2.toArray 0) ∈ rest0 := by rw [hr0]; exact .head _
    clear NE
    try dsimp only
    (repeat' (first | (k_unfold; (try dsimp only)) | (k_end; kc_close) | ((with_reducible show wpAny _ _ (callWith _ (Value.ref ..) _ _ _) _ _ _); (k_here; k_dflt (refine callWith_K (by k_asm) (by k_is) ?_; k_whole))) | ((with_reducible show wpAny _ _ (compareOp CmpOp.NotEq (Value.ref ..) (Value.ref ..)) _ _ _); k_dflt (refine ne_tups (by exact News.isTup (by k_asm) (by k_mem)) (by exact News.isTup (by k_asm) (by k_mem)) (by (first | exact unit_up (by with_reducible assumption) (by decide) | ktr_units)) ?_)) | ((with_reducible show wpAny _ _ (binaryOp Operator.FloorDiv (Value.int ..) (Value.int ..)) _ _ _); (k_dflt (refine floordiv_int (by first | with_reducible assumption | omega) ?_ (Or.inl (noPy (k := 9000) (by exact bits_up (by tb_start) (by first | with_reducible assumption | omega)) (by decide)))))) | ((with_reducible show wpAny _ _ (binaryOp Operator.Mult (Value.int ..) (Value.int ..)) _ _ _); k_dflt (refine mul_b (by tb_start) (by tb_start) (by first | with_reducible assumption | omega) ?_; try dsimp only)) | ((with_reducible show LeaveH _ _ _ _ _ _ Value.none _); first | (with_reducible (((rename ¬(_ = _) => hne); exfalso; apply hne; first | rfl | (rw [Int.toNat_natCast]; with_reducible assumption) | exact congrArg (· * _) (by with_reducible assumption)))) | (((rename ¬(_ = _) => hne); exfalso; apply hne; first | rfl | (rw [Int.toNat_natCast]; with_reducible assumption) | exact congrArg (· * _) (by with_reducible assumption)))) | ((with_reducible show wpAny _ _ (eval (PySem.Expr.ListComp ..) _) _ _ _); refine stop_intro ?_) | ((with_reducible show wpAny _ _ (call (Value.ref ..) _) _ _ _); ((with_reducible show wpAny _ _ (call (Value.ref 28) _) _ _ _); refine stop_intro ?_)) | ((with_reducible show wpAny _ _ (call (Value.ref ..) _) _ _ _); ((with_reducible show wpAny _ _ (call (Value.ref 35) _) _ _ _); refine stop_intro ?_)) | ((with_reducible show wpAny _ _ (call (Value.ref ..) _) _ _ _); ((with_reducible show wpAny _ _ (call (Value.ref 42) _) _ _ _); refine stop_intro ?_)) | ((with_reducible show wpAny _ _ (eval (PySem.Expr.Name ..) _) _ _ _); (k_here; k_dflt (refine nameX_L (by k_asm) (by (repeat (refine Eq.trans (if_neg (by decide)) ?_)); with_reducible first | exact if_pos rfl | assumption) ?_; k_whole))) | ((with_reducible show wpAny _ _ (call (Value.builtin "list.reverse") _) _ _ _); refine stop_intro ?_) | ((with_reducible show wpAny _ _ (call (Value.builtin "list.append") _) _ _ _); refine stop_intro ?_) | ((with_reducible show wpAny _ _ (call (Value.builtin "divmod") _) _ _ _); first | (with_reducible ((refine divmod_N (by k_asm) (by k_asm) (by omega) ?_ (Or.inl (noPy (by with_reducible assumption) (by decide))); intro h_z F_z N_z))) | ((refine divmod_N (by k_asm) (by k_asm) (by omega) ?_ (Or.inl (noPy (by with_reducible assumption) (by decide))); intro h_z F_z N_z))) | ((with_reducible show wpAny _ _ (call (Value.type "reversed") _) _ _ _); refine stop_intro ?_) | ((with_reducible show wpAny _ _ (call (Value.ref ..) _) _ _ _); k_dflt ((first   | refine c_add (by k_asm) (by k_asm) (by k_asm) (by k_asm) (by k_asm) (by first | with_reducible assumption | exact rfl) (by (first | exact room_up (by with_reducible assumption) (by decide) | ktr_room)) (by (first | exact unit_up (by with_reducible assumption) (by decide) | ktr_units)) ?_   | refine c_sub (by k_asm) (by k_asm) (by k_asm) (by k_asm) (by k_asm) (by first | with_reducible assumption | exact rfl) (by (first | exact room_up (by with_reducible assumption) (by decide) | ktr_room)) (by (first | exact unit_up (by with_reducible assumption) (by decide) | ktr_units)) ?_   | (refine c_mul (by k_asm) (by k_asm) (by k_asm) (by k_asm) (by k_asm) (by first | with_reducible assumption | exact rfl) (by (first | exact room_up (by with_reducible assumption) (by decide) | ktr_room)) (by (first | exact unit_up (by with_reducible assumption) (by decide) | ktr_units)) (by tb_start) (by tb_start) (by first | with_reducible assumption | omega) ?_)   | (refine c_lshift (by k_asm) (by k_asm) (by k_asm) (by k_asm) (by k_asm) (by first | with_reducible assumption | exact rfl) (by (first | exact room_up (by with_reducible assumption) (by decide) | ktr_room)) (by (first | exact unit_up (by with_reducible assumption) (by decide) | ktr_units)) (by tb_start) (by with_reducible assumption) (by first | with_reducible assumption | omega) ?_)   | (refine c_rshift (by k_asm) (by k_asm) (by k_asm) (by k_asm) (by k_asm) (by first | with_reducible assumption | exact rfl) (by (first | exact room_up (by with_reducible assumption) (by decide) | ktr_room)) (by (first | exact unit_up (by with_reducible assumption) (by decide) | ktr_units)) (by with_reducible assumption) ?_)   | refine c_isub (by k_asm) (by k_asm) (by k_asm) (by k_asm) (by k_asm) (by first | with_reducible assumption | exact rfl) (by (first | exact room_up (by with_reducible assumption) (by decide) | ktr_room)) (by (first | exact unit_up (by with_reducible assumption) (by decide) | ktr_units)) ?_); intro t9_z h9_z tk9_z F9_z N9_z; try dsimp only)) | ((with_reducible show LCg.CompSrc _ _ _ _ _ _ _ _ _ _ _ _ _ _); refine stop_intro ?_) | ((with_reducible show UnrEnd ..); refine stop_intro ?_) | ((with_reducible show LeaveH _ _ _ _ _ _ _ _); first | (with_reducible ((refine leaveH_ (by k_asm) (by k_asm) ?_; intro kF_z kN_z kA_z; try dsimp only))) | ((refine leaveH_ (by k_asm) (by k_asm) ?_; intro kF_z kN_z kA_z; try dsimp only))) | walk1 | (dsimp only; walk1) | (leave1; (try dsimp only)) | fail "no step"))
    refine Stop.mk (krv_reversed (by k_asm) NQ (News.isList NQ (.tail _ lpm)) ?_)
    intro I h9 F9 N9 lI
    clear NQ FE
    dsimp only
    (repeat' (first | (k_unfold; (try dsimp only)) | (k_end; kc_close) | ((with_reducible show wpAny _ _ (callWith _ (Value.ref ..) _ _ _) _ _ _); (k_here; k_dflt (refine callWith_K (by k_asm) (by k_is) ?_; k_whole))) | ((with_reducible show wpAny _ _ (compareOp CmpOp.NotEq (Value.ref ..) (Value.ref ..)) _ _ _); k_dflt (refine ne_tups (by exact News.isTup (by k_asm) (by k_mem)) (by exact News.isTup (by k_asm) (by k_mem)) (by (first | exact unit_up (by with_reducible assumption) (by decide) | ktr_units)) ?_)) | ((with_reducible show wpAny _ _ (binaryOp Operator.FloorDiv (Value.int ..) (Value.int ..)) _ _ _); (k_dflt (refine floordiv_int (by first | with_reducible assumption | omega) ?_ (Or.inl (noPy (k := 9000) (by exact bits_up (by tb_start) (by first | with_reducible assumption | omega)) (by decide)))))) | ((with_reducible show wpAny _ _ (binaryOp Operator.Mult (Value.int ..) (Value.int ..)) _ _ _); k_dflt (refine mul_b (by tb_start) (by tb_start) (by first | with_reducible assumption | omega) ?_; try dsimp only)) | ((with_reducible show LeaveH _ _ _ _ _ _ Value.none _); first | (with_reducible (((rename ¬(_ = _) => hne); exfalso; apply hne; first | rfl | (rw [Int.toNat_natCast]; with_reducible assumption) | exact congrArg (· * _) (by with_reducible assumption)))) | (((rename ¬(_ = _) => hne); exfalso; apply hne; first | rfl | (rw [Int.toNat_natCast]; with_reducible assumption) | exact congrArg (· * _) (by with_reducible assumption)))) | ((with_reducible show wpAny _ _ (eval (PySem.Expr.ListComp ..) _) _ _ _); refine stop_intro ?_) | ((with_reducible show wpAny _ _ (call (Value.ref ..) _) _ _ _); ((with_reducible show wpAny _ _ (call (Value.ref 28) _) _ _ _); refine stop_intro ?_)) | ((with_reducible show wpAny _ _ (call (Value.ref ..) _) _ _ _); ((with_reducible show wpAny _ _ (call (Value.ref 35) _) _ _ _); refine stop_intro ?_)) | ((with_reducible show wpAny _ _ (call (Value.ref ..) _) _ _ _); ((with_reducible show wpAny _ _ (call (Value.ref 42) _) _ _ _); refine stop_intro ?_)) | ((with_reducible show wpAny _ _ (eval (PySem.Expr.Name ..) _) _ _ _); (k_here; k_dflt (refine nameX_L (by k_asm) (by (repeat (refine Eq.trans (if_neg (by decide)) ?_)); with_reducible first | exact if_pos rfl | assumption) ?_; k_whole))) | ((with_reducible show wpAny _ _ (call (Value.builtin "list.reverse") _) _ _ _); refine stop_intro ?_) | ((with_reducible show wpAny _ _ (call (Value.builtin "list.append") _) _ _ _); refine stop_intro ?_) | ((with_reducible show wpAny _ _ (call (Value.builtin "divmod") _) _ _ _); first | (with_reducible ((refine divmod_N (by k_asm) (by k_asm) (by omega) ?_ (Or.inl (noPy (by with_reducible assumption) (by decide))); intro h_z F_z N_z))) | ((refine divmod_N (by k_asm) (by k_asm) (by omega) ?_ (Or.inl (noPy (by with_reducible assumption) (by decide))); intro h_z F_z N_z))) | ((with_reducible show wpAny _ _ (call (Value.type "reversed") _) _ _ _); refine stop_intro ?_) | ((with_reducible show wpAny _ _ (call (Value.ref ..) _) _ _ _); k_dflt ((first   | refine c_add (by k_asm) (by k_asm) (by k_asm) (by k_asm) (by k_asm) (by first | with_reducible assumption | exact rfl) (by (first | exact room_up (by with_reducible assumption) (by decide) | ktr_room)) (by (first | exact unit_up (by with_reducible assumption) (by decide) | ktr_units)) ?_   | refine c_sub (by k_asm) (by k_asm) (by k_asm) (by k_asm) (by k_asm) (by first | with_reducible assumption | exact rfl) (by (first | exact room_up (by with_reducible assumption) (by decide) | ktr_room)) (by (first | exact unit_up (by with_reducible assumption) (by decide) | ktr_units)) ?_   | (refine c_mul (by k_asm) (by k_asm) (by k_asm) (by k_asm) (by k_asm) (by first | with_reducible assumption | exact rfl) (by (first | exact room_up (by with_reducible assumption) (by decide) | ktr_room)) (by (first | exact unit_up (by with_reducible assumption) (by decide) | ktr_units)) (by tb_start) (by tb_start) (by first | with_reducible assumption | omega) ?_)   | (refine c_lshift (by k_asm) (by k_asm) (by k_asm) (by k_asm) (by k_asm) (by first | with_reducible assumption | exact rfl) (by (first | exact room_up (by with_reducible assumption) (by decide) | ktr_room)) (by (first | exact unit_up (by with_reducible assumption) (by decide) | ktr_units)) (by tb_start) (by with_reducible assumption) (by first | with_reducible assumption | omega) ?_)   | (refine c_rshift (by k_asm) (by k_asm) (by k_asm) (by k_asm) (by k_asm) (by first | with_reducible assumption | exact rfl) (by (first | exact room_up (by with_reducible assumption) (by decide) | ktr_room)) (by (first | exact unit_up (by with_reducible assumption) (by decide) | ktr_units)) (by with_reducible assumption) ?_)   | refine c_isub (by k_asm) (by k_asm) (by k_asm) (by k_asm) (by k_asm) (by first | with_reducible assumption | exact rfl) (by (first | exact room_up (by with_reducible assumption) (by decide) | ktr_room)) (by (first | exact unit_up (by with_reducible assumption) (by decide) | ktr_units)) ?_); intro t9_z h9_z tk9_z F9_z N9_z; try dsimp only)) | ((with_reducible show LCg.CompSrc _ _ _ _ _ _ _ _ _ _ _ _ _ _); refine stop_intro ?_) | ((with_reducible show UnrEnd ..); refine stop_intro ?_) | ((with_reducible show LeaveH _ _ _ _ _ _ _ _); first | (with_reducible ((refine leaveH_ (by k_asm) (by k_asm) ?_; intro kF_z kN_z kA_z; try dsimp only))) | ((refine leaveH_ (by k_asm) (by k_asm) ?_; intro kF_z kN_z kA_z; try dsimp only))) | walk1 | (dsimp only; walk1) | (leave1; (try dsimp only)) | fail "no step"))
    refine iter_revUnr (lo := listOf vs2.toArray 0) (n := 0) rfl F9 N9 (offI_of fun p hp => Nat.ne_of_lt (lI p hp)) (.tail _ lpm) rfl rfl ?_
    have offI : Off I ((qa, listOf ([] : List Value).toArray 0) :: rest0) := fun p hp => Nat.ne_of_lt (lI p hp)
    have hqI : qa ≠ I := offI _ (.head _)
    have offI0 : Off I rest0 := fun p hp => offI p (.tail _ hp)
    refine rev_rest (ReJ ds2 b lo hi extra _ U _ H S ww _ _ _ _ _ _ _ _ _ _ qa I rest0) ?turn ?done _ _ _ ⟨ds2.reverse, [], [], 0, _, [], 0, ints_rev iE, figs_rev fE, by simp, by simp [dval], Int.le_refl _, b0, (fun _ h => nomatch h), rfl, .nil, rfl, u1, u2, lk0⟩
    case turn =>
      clear F9 N9 lI u1 u2 u3 lk0 k1 k2 k3 k4 k5 k6 k7 k8 k9 k10
      rintro v r m1 nw h tk it ⟨es, dHi, qs, R, tR, vq, nq, iR, fes, hds, hdv, hR0, hR1, fq, lq, iq, rfl, u1, u2, ⟨k1, k2, k3, k4, k5, k6, k7, k8, k9, k10⟩⟩ hcl F N
      obtain ⟨d, td, es', rfl, iR', rfl⟩ := ints_cons iR
      have fd := fes d (.head _)
      obtain ⟨s1, s2, s3, s4, s5⟩ := div_step hdv hR0 hR1 fd.1 fd.2
      have bR : intBits R ≤ 200 := bits_up (bits_of_lt hR0 (Int.lt_trans hR1 b1)) (Nat.mul_le_mul_left 2 hH2)
      have bd : intBits d ≤ 100 := bits_up (bits_of_lt fd.1 fd.2) hH2
      have bhi : intBits hi ≤ 100 := bits_up (bits_of_lt f2.1 f2.2) hH2
      have blo : intBits lo ≤ 100 := bits_up (bits_of_lt f1.1 f1.2) hH2
      try dsimp only
      (repeat' (first | (k_unfold; (try dsimp only)) | (k_end; kc_close) | ((with_reducible show wpAny _ _ (callWith _ (Value.ref ..) _ _ _) _ _ _); (k_here; k_dflt (refine callWith_K (by k_asm) (by k_is) ?_; k_whole))) | ((with_reducible show wpAny _ _ (compareOp CmpOp.NotEq (Value.ref ..) (Value.ref ..)) _ _ _); k_dflt (refine ne_tups (by exact News.isTup (by k_asm) (by k_mem)) (by exact News.isTup (by k_asm) (by k_mem)) (by (first | exact unit_up (by with_reducible assumption) (by decide) | ktr_units)) ?_)) | ((with_reducible show wpAny _ _ (binaryOp Operator.FloorDiv (Value.int ..) (Value.int ..)) _ _ _); (k_dflt (refine floordiv_int (by first | with_reducible assumption | omega) ?_ (Or.inl (noPy (k := 9000) (by exact bits_up (by tb_start) (by first | with_reducible assumption | omega)) (by decide)))))) | ((with_reducible show wpAny _ _ (binaryOp Operator.Mult (Value.int ..) (Value.int ..)) _ _ _); k_dflt (refine mul_b (by tb_start) (by tb_start) (by first | with_reducible assumption | omega) ?_; try dsimp only)) | ((with_reducible show LeaveH _ _ _ _ _ _ Value.none _); first | (with_reducible (((rename ¬(_ = _) => hne); exfalso; apply hne; first | rfl | (rw [Int.toNat_natCast]; with_reducible assumption) | exact congrArg (· * _) (by with_reducible assumption)))) | (((rename ¬(_ = _) => hne); exfalso; apply hne; first | rfl | (rw [Int.toNat_natCast]; with_reducible assumption) | exact congrArg (· * _) (by with_reducible assumption)))) | ((with_reducible show wpAny _ _ (eval (PySem.Expr.ListComp ..) _) _ _ _); refine stop_intro ?_) | ((with_reducible show wpAny _ _ (call (Value.ref ..) _) _ _ _); ((with_reducible show wpAny _ _ (call (Value.ref 28) _) _ _ _); refine stop_intro ?_)) | ((with_reducible show wpAny _ _ (call (Value.ref ..) _) _ _ _); ((with_reducible show wpAny _ _ (call (Value.ref 35) _) _ _ _); refine stop_intro ?_)) | ((with_reducible show wpAny _ _ (call (Value.ref ..) _) _ _ _); ((with_reducible show wpAny _ _ (call (Value.ref 42) _) _ _ _); refine stop_intro ?_)) | ((with_reducible show wpAny _ _ (eval (PySem.Expr.Name ..) _) _ _ _); (k_here; k_dflt (refine nameX_L (by k_asm) (by (repeat (refine Eq.trans (if_neg (by decide)) ?_)); with_reducible first | exact if_pos rfl | assumption) ?_; k_whole))) | ((with_reducible show wpAny _ _ (call (Value.builtin "list.reverse") _) _ _ _); refine stop_intro ?_) | ((with_reducible show wpAny _ _ (call (Value.builtin "list.append") _) _ _ _); refine stop_intro ?_) | ((with_reducible show wpAny _ _ (call (Value.builtin "divmod") _) _ _ _); first | (with_reducible ((refine divmod_N (by k_asm) (by k_asm) (by omega) ?_ (Or.inl (noPy (by with_reducible assumption) (by decide))); intro h_z F_z N_z))) | ((refine divmod_N (by k_asm) (by k_asm) (by omega) ?_ (Or.inl (noPy (by with_reducible assumption) (by decide))); intro h_z F_z N_z))) | ((with_reducible show wpAny _ _ (call (Value.type "reversed") _) _ _ _); refine stop_intro ?_) | ((with_reducible show wpAny _ _ (call (Value.ref ..) _) _ _ _); k_dflt ((first   | refine c_add (by k_asm) (by k_asm) (by k_asm) (by k_asm) (by k_asm) (by first | with_reducible assumption | exact rfl) (by (first | exact room_up (by with_reducible assumption) (by decide) | ktr_room)) (by (first | exact unit_up (by with_reducible assumption) (by decide) | ktr_units)) ?_   | refine c_sub (by k_asm) (by k_asm) (by k_asm) (by k_asm) (by k_asm) (by first | with_reducible assumption | exact rfl) (by (first | exact room_up (by with_reducible assumption) (by decide) | ktr_room)) (by (first | exact unit_up (by with_reducible assumption) (by decide) | ktr_units)) ?_   | (refine c_mul (by k_asm) (by k_asm) (by k_asm) (by k_asm) (by k_asm) (by first | with_reducible assumption | exact rfl) (by (first | exact room_up (by with_reducible assumption) (by decide) | ktr_room)) (by (first | exact unit_up (by with_reducible assumption) (by decide) | ktr_units)) (by tb_start) (by tb_start) (by first | with_reducible assumption | omega) ?_)   | (refine c_lshift (by k_asm) (by k_asm) (by k_asm) (by k_asm) (by k_asm) (by first | with_reducible assumption | exact rfl) (by (first | exact room_up (by with_reducible assumption) (by decide) | ktr_room)) (by (first | exact unit_up (by with_reducible assumption) (by decide) | ktr_units)) (by tb_start) (by with_reducible assumption) (by first | with_reducible assumption | omega) ?_)   | (refine c_rshift (by k_asm) (by k_asm) (by k_asm) (by k_asm) (by k_asm) (by first | with_reducible assumption | exact rfl) (by (first | exact room_up (by with_reducible assumption) (by decide) | ktr_room)) (by (first | exact unit_up (by with_reducible assumption) (by decide) | ktr_units)) (by with_reducible assumption) ?_)   | refine c_isub (by k_asm) (by k_asm) (by k_asm) (by k_asm) (by k_asm) (by first | with_reducible assumption | exact rfl) (by (first | exact room_up (by with_reducible assumption) (by decide) | ktr_room)) (by (first | exact unit_up (by with_reducible assumption) (by decide) | ktr_units)) ?_); intro t9_z h9_z tk9_z F9_z N9_z; try dsimp only)) | ((with_reducible show LCg.CompSrc _ _ _ _ _ _ _ _ _ _ _ _ _ _); refine stop_intro ?_) | ((with_reducible show UnrEnd ..); refine stop_intro ?_) | ((with_reducible show LeaveH _ _ _ _ _ _ _ _); first | (with_reducible ((refine leaveH_ (by k_asm) (by k_asm) ?_; intro kF_z kN_z kA_z; try dsimp only))) | ((refine leaveH_ (by k_asm) (by k_asm) ?_; intro kF_z kN_z kA_z; try dsimp only))) | walk1 | (dsimp only; walk1) | (leave1; (try dsimp only)) | fail "no step"))
      refine' Stop.mk (div3 ?cB ?cF ?cX ?cN ?cT rfl ?cd ?cu _ _ _ _ _ _ _ _ _ _ _ _ hHz hHd hR0 hR1 fd.1 (by rw [Int.toNat_natCast]; exact fd.2) (by rw [Int.toNat_natCast]; exact hbd) hhi f1.1 (by rw [Int.toNat_natCast]; exact f1.2) (bits_up bR (by decide)) (bits_up bhi (by decide)) (bits_up blo (by decide)) ?_)
      (case cB => k_asm); (case cF => k_asm); (case cX => k_asm); (case cN => k_asm); (case cT => k_asm); (case cd => (first | exact room_up (by with_reducible assumption) (by decide) | ktr_room)); (case cu => (first | exact unit_up (by with_reducible assumption) (by decide) | ktr_units))
      intro t9 t9' h9 tk9 c9 nn9 F9 N9
      clear F N
      try dsimp only
      (repeat' (first | (k_unfold; (try dsimp only)) | (k_end; kc_close) | ((with_reducible show wpAny _ _ (callWith _ (Value.ref ..) _ _ _) _ _ _); (k_here; k_dflt (refine callWith_K (by k_asm) (by k_is) ?_; k_whole))) | ((with_reducible show wpAny _ _ (compareOp CmpOp.NotEq (Value.ref ..) (Value.ref ..)) _ _ _); k_dflt (refine ne_tups (by exact News.isTup (by k_asm) (by k_mem)) (by exact News.isTup (by k_asm) (by k_mem)) (by (first | exact unit_up (by with_reducible assumption) (by decide) | ktr_units)) ?_)) | ((with_reducible show wpAny _ _ (binaryOp Operator.FloorDiv (Value.int ..) (Value.int ..)) _ _ _); (k_dflt (refine floordiv_int (by first | with_reducible assumption | omega) ?_ (Or.inl (noPy (k := 9000) (by exact bits_up (by tb_start) (by first | with_reducible assumption | omega)) (by decide)))))) | ((with_reducible show wpAny _ _ (binaryOp Operator.Mult (Value.int ..) (Value.int ..)) _ _ _); k_dflt (refine mul_b (by tb_start) (by tb_start) (by first | with_reducible assumption | omega) ?_; try dsimp only)) | ((with_reducible show LeaveH _ _ _ _ _ _ Value.none _); first | (with_reducible (((rename ¬(_ = _) => hne); exfalso; apply hne; first | rfl | (rw [Int.toNat_natCast]; with_reducible assumption) | exact congrArg (· * _) (by with_reducible assumption)))) | (((rename ¬(_ = _) => hne); exfalso; apply hne; first | rfl | (rw [Int.toNat_natCast]; with_reducible assumption) | exact congrArg (· * _) (by with_reducible assumption)))) | ((with_reducible show wpAny _ _ (eval (PySem.Expr.ListComp ..) _) _ _ _); refine stop_intro ?_) | ((with_reducible show wpAny _ _ (call (Value.ref ..) _) _ _ _); ((with_reducible show wpAny _ _ (call (Value.ref 28) _) _ _ _); refine stop_intro ?_)) | ((with_reducible show wpAny _ _ (call (Value.ref ..) _) _ _ _); ((with_reducible show wpAny _ _ (call (Value.ref 35) _) _ _ _); refine stop_intro ?_)) | ((with_reducible show wpAny _ _ (call (Value.ref ..) _) _ _ _); ((with_reducible show wpAny _ _ (call (Value.ref 42) _) _ _ _); refine stop_intro ?_)) | ((with_reducible show wpAny _ _ (eval (PySem.Expr.Name ..) _) _ _ _); (k_here; k_dflt (refine nameX_L (by k_asm) (by (repeat (refine Eq.trans (if_neg (by decide)) ?_)); with_reducible first | exact if_pos rfl | assumption) ?_; k_whole))) | ((with_reducible show wpAny _ _ (call (Value.builtin "list.reverse") _) _ _ _); refine stop_intro ?_) | ((with_reducible show wpAny _ _ (call (Value.builtin "list.append") _) _ _ _); refine stop_intro ?_) | ((with_reducible show wpAny _ _ (call (Value.builtin "divmod") _) _ _ _); first | (with_reducible ((refine divmod_N (by k_asm) (by k_asm) (by omega) ?_ (Or.inl (noPy (by with_reducible assumption) (by decide))); intro h_z F_z N_z))) | ((refine divmod_N (by k_asm) (by k_asm) (by omega) ?_ (Or.inl (noPy (by with_reducible assumption) (by decide))); intro h_z F_z N_z))) | ((with_reducible show wpAny _ _ (call (Value.type "reversed") _) _ _ _); refine stop_intro ?_) | ((with_reducible show wpAny _ _ (call (Value.ref ..) _) _ _ _); k_dflt ((first   | refine c_add (by k_asm) (by k_asm) (by k_asm) (by k_asm) (by k_asm) (by first | with_reducible assumption | exact rfl) (by (first | exact room_up (by with_reducible assumption) (by decide) | ktr_room)) (by (first | exact unit_up (by with_reducible assumption) (by decide) | ktr_units)) ?_   | refine c_sub (by k_asm) (by k_asm) (by k_asm) (by k_asm) (by k_asm) (by first | with_reducible assumption | exact rfl) (by (first | exact room_up (by with_reducible assumption) (by decide) | ktr_room)) (by (first | exact unit_up (by with_reducible assumption) (by decide) | ktr_units)) ?_   | (refine c_mul (by k_asm) (by k_asm) (by k_asm) (by k_asm) (by k_asm) (by first | with_reducible assumption | exact rfl) (by (first | exact room_up (by with_reducible assumption) (by decide) | ktr_room)) (by (first | exact unit_up (by with_reducible assumption) (by decide) | ktr_units)) (by tb_start) (by tb_start) (by first | with_reducible assumption | omega) ?_)   | (refine c_lshift (by k_asm) (by k_asm) (by k_asm) (by k_asm) (by k_asm) (by first | with_reducible assumption | exact rfl) (by (first | exact room_up (by with_reducible assumption) (by decide) | ktr_room)) (by (first | exact unit_up (by with_reducible assumption) (by decide) | ktr_units)) (by tb_start) (by with_reducible assumption) (by first | with_reducible assumption | omega) ?_)   | (refine c_rshift (by k_asm) (by k_asm) (by k_asm) (by k_asm) (by k_asm) (by first | with_reducible assumption | exact rfl) (by (first | exact room_up (by with_reducible assumption) (by decide) | ktr_room)) (by (first | exact unit_up (by with_reducible assumption) (by decide) | ktr_units)) (by with_reducible assumption) ?_)   | refine c_isub (by k_asm) (by k_asm) (by k_asm) (by k_asm) (by k_asm) (by first | with_reducible assumption | exact rfl) (by (first | exact room_up (by with_reducible assumption) (by decide) | ktr_room)) (by (first | exact unit_up (by with_reducible assumption) (by decide) | ktr_units)) ?_); intro t9_z h9_z tk9_z F9_z N9_z; try dsimp only)) | ((with_reducible show LCg.CompSrc _ _ _ _ _ _ _ _ _ _ _ _ _ _); refine stop_intro ?_) | ((with_reducible show UnrEnd ..); refine stop_intro ?_) | ((with_reducible show LeaveH _ _ _ _ _ _ _ _); first | (with_reducible ((refine leaveH_ (by k_asm) (by k_asm) ?_; intro kF_z kN_z kA_z; try dsimp only))) | ((refine leaveH_ (by k_asm) (by k_asm) ?_; intro kF_z kN_z kA_z; try dsimp only))) | walk1 | (dsimp only; walk1) | (leave1; (try dsimp only)) | fail "no step"))
      rename Fr g' _ _ _ => F10
      rename News g' _ _ _ => N10
      have hcq : c9 ≠ qa := ne_cls N10 (o := { cls := .type "tuple", data := .seq #[.int ((R * 2 ^ ((H : Int)).toNat + d).fdiv b) t9, .int ((R * 2 ^ ((H : Int)).toNat + d).fmod b) t9'] nn9 }) (o' := listOf vq.toArray nq) (.tail _ (.head _)) (.tail _ (.tail _ (.tail _ (.head _)))) (by simp [PySem.W.listOf])
      refine Stop.mk (app_any ((c9, { cls := .type "tuple", data := .seq #[.int ((R * 2 ^ ((H : Int)).toNat + d).fdiv b) t9, .int ((R * 2 ^ ((H : Int)).toNat + d).fmod b) t9'] nn9 }) :: (I, it) :: rest0) F10 N10 (vs := vq) (n := nq) (.tail _ (.tail _ (.tail _ (.head _)))) ?sb (off_cons hcq (off_cons hqI.symm offq)) ?sz ?_)
      case sb =>
        intro p hp
        simp only [List.mem_cons] at hp ⊢
        rcases hp with h | h | h <;> simp [h]
      case sz =>
        have h1 := iq.length
        have h2 := congrArg List.length hds
        simp only [List.length_append, List.length_reverse, List.length_cons] at h2
        rw [List.size_toArray]
        exact Nat.le_trans (sz_h h1 lq h2 lE hc1 hS2) (by decide)
      intro h11 F11 N11
      clear F10 N10
      dsimp only
      (repeat' (first | (k_unfold; (try dsimp only)) | (k_end; kc_close) | ((with_reducible show wpAny _ _ (callWith _ (Value.ref ..) _ _ _) _ _ _); (k_here; k_dflt (refine callWith_K (by k_asm) (by k_is) ?_; k_whole))) | ((with_reducible show wpAny _ _ (compareOp CmpOp.NotEq (Value.ref ..) (Value.ref ..)) _ _ _); k_dflt (refine ne_tups (by exact News.isTup (by k_asm) (by k_mem)) (by exact News.isTup (by k_asm) (by k_mem)) (by (first | exact unit_up (by with_reducible assumption) (by decide) | ktr_units)) ?_)) | ((with_reducible show wpAny _ _ (binaryOp Operator.FloorDiv (Value.int ..) (Value.int ..)) _ _ _); (k_dflt (refine floordiv_int (by first | with_reducible assumption | omega) ?_ (Or.inl (noPy (k := 9000) (by exact bits_up (by tb_start) (by first | with_reducible assumption | omega)) (by decide)))))) | ((with_reducible show wpAny _ _ (binaryOp Operator.Mult (Value.int ..) (Value.int ..)) _ _ _); k_dflt (refine mul_b (by tb_start) (by tb_start) (by first | with_reducible assumption | omega) ?_; try dsimp only)) | ((with_reducible show LeaveH _ _ _ _ _ _ Value.none _); first | (with_reducible (((rename ¬(_ = _) => hne); exfalso; apply hne; first | rfl | (rw [Int.toNat_natCast]; with_reducible assumption) | exact congrArg (· * _) (by with_reducible assumption)))) | (((rename ¬(_ = _) => hne); exfalso; apply hne; first | rfl | (rw [Int.toNat_natCast]; with_reducible assumption) | exact congrArg (· * _) (by with_reducible assumption)))) | ((with_reducible show wpAny _ _ (eval (PySem.Expr.ListComp ..) _) _ _ _); refine stop_intro ?_) | ((with_reducible show wpAny _ _ (call (Value.ref ..) _) _ _ _); ((with_reducible show wpAny _ _ (call (Value.ref 28) _) _ _ _); refine stop_intro ?_)) | ((with_reducible show wpAny _ _ (call (Value.ref ..) _) _ _ _); ((with_reducible show wpAny _ _ (call (Value.ref 35) _) _ _ _); refine stop_intro ?_)) | ((with_reducible show wpAny _ _ (call (Value.ref ..) _) _ _ _); ((with_reducible show wpAny _ _ (call (Value.ref 42) _) _ _ _); refine stop_intro ?_)) | ((with_reducible show wpAny _ _ (eval (PySem.Expr.Name ..) _) _ _ _); (k_here; k_dflt (refine nameX_L (by k_asm) (by (repeat (refine Eq.trans (if_neg (by decide)) ?_)); with_reducible first | exact if_pos rfl | assumption) ?_; k_whole))) | ((with_reducible show wpAny _ _ (call (Value.builtin "list.reverse") _) _ _ _); refine stop_intro ?_) | ((with_reducible show wpAny _ _ (call (Value.builtin "list.append") _) _ _ _); refine stop_intro ?_) | ((with_reducible show wpAny _ _ (call (Value.builtin "divmod") _) _ _ _); first | (with_reducible ((refine divmod_N (by k_asm) (by k_asm) (by omega) ?_ (Or.inl (noPy (by with_reducible assumption) (by decide))); intro h_z F_z N_z))) | ((refine divmod_N (by k_asm) (by k_asm) (by omega) ?_ (Or.inl (noPy (by with_reducible assumption) (by decide))); intro h_z F_z N_z))) | ((with_reducible show wpAny _ _ (call (Value.type "reversed") _) _ _ _); refine stop_intro ?_) | ((with_reducible show wpAny _ _ (call (Value.ref ..) _) _ _ _); k_dflt ((first   | refine c_add (by k_asm) (by k_asm) (by k_asm) (by k_asm) (by k_asm) (by first | with_reducible assumption | exact rfl) (by (first | exact room_up (by with_reducible assumption) (by decide) | ktr_room)) (by (first | exact unit_up (by with_reducible assumption) (by decide) | ktr_units)) ?_   | refine c_sub (by k_asm) (by k_asm) (by k_asm) (by k_asm) (by k_asm) (by first | with_reducible assumption | exact rfl) (by (first | exact room_up (by with_reducible assumption) (by decide) | ktr_room)) (by (first | exact unit_up (by with_reducible assumption) (by decide) | ktr_units)) ?_   | (refine c_mul (by k_asm) (by k_asm) (by k_asm) (by k_asm) (by k_asm) (by first | with_reducible assumption | exact rfl) (by (first | exact room_up (by with_reducible assumption) (by decide) | ktr_room)) (by (first | exact unit_up (by with_reducible assumption) (by decide) | ktr_units)) (by tb_start) (by tb_start) (by first | with_reducible assumption | omega) ?_)   | (refine c_lshift (by k_asm) (by k_asm) (by k_asm) (by k_asm) (by k_asm) (by first | with_reducible assumption | exact rfl) (by (first | exact room_up (by with_reducible assumption) (by decide) | ktr_room)) (by (first | exact unit_up (by with_reducible assumption) (by decide) | ktr_units)) (by tb_start) (by with_reducible assumption) (by first | with_reducible assumption | omega) ?_)   | (refine c_rshift (by k_asm) (by k_asm) (by k_asm) (by k_asm) (by k_asm) (by first | with_reducible assumption | exact rfl) (by (first | exact room_up (by with_reducible assumption) (by decide) | ktr_room)) (by (first | exact unit_up (by with_reducible assumption) (by decide) | ktr_units)) (by with_reducible assumption) ?_)   | refine c_isub (by k_asm) (by k_asm) (by k_asm) (by k_asm) (by k_asm) (by first | with_reducible assumption | exact rfl) (by (first | exact room_up (by with_reducible assumption) (by decide) | ktr_room)) (by (first | exact unit_up (by with_reducible assumption) (by decide) | ktr_units)) ?_); intro t9_z h9_z tk9_z F9_z N9_z; try dsimp only)) | ((with_reducible show LCg.CompSrc _ _ _ _ _ _ _ _ _ _ _ _ _ _); refine stop_intro ?_) | ((with_reducible show UnrEnd ..); refine stop_intro ?_) | ((with_reducible show LeaveH _ _ _ _ _ _ _ _); first | (with_reducible ((refine leaveH_ (by k_asm) (by k_asm) ?_; intro kF_z kN_z kA_z; try dsimp only))) | ((refine leaveH_ (by k_asm) (by k_asm) ?_; intro kF_z kN_z kA_z; try dsimp only))) | walk1 | (dsimp only; walk1) | (leave1; (try dsimp only)) | fail "no step"))
      rename Fr g' _ _ _ => F12
      rename News g' _ _ _ => N12
      rw [Int.toNat_natCast] at F12 N12
      refine Stop.mk (re_end F12 N12 offI0 hqI lpm ⟨es', d :: dHi, qs ++ [(R * 2 ^ H + d).fdiv b], (R * 2 ^ H + d).fmod b, _, _, nq + 1, iR', (fun z hz => fes z (.tail _ hz)), ?_, s1, s2, s3, figs_append fq ?_, by simp [lq], ints_snoc _ _ iq, rfl, rfl, u2, ⟨k1, k2, k3, k4, k5, k6, k7, k8, k9, k10⟩⟩)
      · rw [← hds]; simp
      · intro z hz; rw [List.mem_singleton.mp hz]; exact ⟨s4, s5⟩
    case done =>
      clear F9 N9 lI u1 u2 u3 lk0 k1 k2 k3 k4 k5 k6 k7 k8 k9 k10
      rintro m1 nw ⟨es, dHi, qs, R, tR, vq, nq, iR, fes, hds, hdv, hR0, hR1, fq, lq, iq, rfl, u1, u2, ⟨k1, k2, k3, k4, k5, k6, k7, k8, k9, k10⟩⟩ h tk F N
      cases iR
      have hdd : dHi = ds2 := hds
      rw [hdd] at hdv lq
      obtain ⟨hWd, hRe⟩ := div_done hdv hR0 hR1 he0 he1 dE ht
      rw [hRe, he] at u1
      have hlq : qs.length = c := lq.trans lE
      try dsimp only
      (repeat' (first | (k_unfold; (try dsimp only)) | (k_end; kc_close) | ((with_reducible show wpAny _ _ (callWith _ (Value.ref ..) _ _ _) _ _ _); (k_here; k_dflt (refine callWith_K (by k_asm) (by k_is) ?_; k_whole))) | ((with_reducible show wpAny _ _ (compareOp CmpOp.NotEq (Value.ref ..) (Value.ref ..)) _ _ _); k_dflt (refine ne_tups (by exact News.isTup (by k_asm) (by k_mem)) (by exact News.isTup (by k_asm) (by k_mem)) (by (first | exact unit_up (by with_reducible assumption) (by decide) | ktr_units)) ?_)) | ((with_reducible show wpAny _ _ (binaryOp Operator.FloorDiv (Value.int ..) (Value.int ..)) _ _ _); (k_dflt (refine floordiv_int (by first | with_reducible assumption | omega) ?_ (Or.inl (noPy (k := 9000) (by exact bits_up (by tb_start) (by first | with_reducible assumption | omega)) (by decide)))))) | ((with_reducible show wpAny _ _ (binaryOp Operator.Mult (Value.int ..) (Value.int ..)) _ _ _); k_dflt (refine mul_b (by tb_start) (by tb_start) (by first | with_reducible assumption | omega) ?_; try dsimp only)) | ((with_reducible show LeaveH _ _ _ _ _ _ Value.none _); first | (with_reducible (((rename ¬(_ = _) => hne); exfalso; apply hne; first | rfl | (rw [Int.toNat_natCast]; with_reducible assumption) | exact congrArg (· * _) (by with_reducible assumption)))) | (((rename ¬(_ = _) => hne); exfalso; apply hne; first | rfl | (rw [Int.toNat_natCast]; with_reducible assumption) | exact congrArg (· * _) (by with_reducible assumption)))) | ((with_reducible show wpAny _ _ (eval (PySem.Expr.ListComp ..) _) _ _ _); refine stop_intro ?_) | ((with_reducible show wpAny _ _ (call (Value.ref ..) _) _ _ _); ((with_reducible show wpAny _ _ (call (Value.ref 28) _) _ _ _); refine stop_intro ?_)) | ((with_reducible show wpAny _ _ (call (Value.ref ..) _) _ _ _); ((with_reducible show wpAny _ _ (call (Value.ref 35) _) _ _ _); refine stop_intro ?_)) | ((with_reducible show wpAny _ _ (call (Value.ref ..) _) _ _ _); ((with_reducible show wpAny _ _ (call (Value.ref 42) _) _ _ _); refine stop_intro ?_)) | ((with_reducible show wpAny _ _ (eval (PySem.Expr.Name ..) _) _ _ _); (k_here; k_dflt (refine nameX_L (by k_asm) (by (repeat (refine Eq.trans (if_neg (by decide)) ?_)); with_reducible first | exact if_pos rfl | assumption) ?_; k_whole))) | ((with_reducible show wpAny _ _ (call (Value.builtin "list.reverse") _) _ _ _); refine stop_intro ?_) | ((with_reducible show wpAny _ _ (call (Value.builtin "list.append") _) _ _ _); refine stop_intro ?_) | ((with_reducible show wpAny _ _ (call (Value.builtin "divmod") _) _ _ _); first | (with_reducible ((refine divmod_N (by k_asm) (by k_asm) (by omega) ?_ (Or.inl (noPy (by with_reducible assumption) (by decide))); intro h_z F_z N_z))) | ((refine divmod_N (by k_asm) (by k_asm) (by omega) ?_ (Or.inl (noPy (by with_reducible assumption) (by decide))); intro h_z F_z N_z))) | ((with_reducible show wpAny _ _ (call (Value.type "reversed") _) _ _ _); refine stop_intro ?_) | ((with_reducible show wpAny _ _ (call (Value.ref ..) _) _ _ _); k_dflt ((first   | refine c_add (by k_asm) (by k_asm) (by k_asm) (by k_asm) (by k_asm) (by first | with_reducible assumption | exact rfl) (by (first | exact room_up (by with_reducible assumption) (by decide) | ktr_room)) (by (first | exact unit_up (by with_reducible assumption) (by decide) | ktr_units)) ?_   | refine c_sub (by k_asm) (by k_asm) (by k_asm) (by k_asm) (by k_asm) (by first | with_reducible assumption | exact rfl) (by (first | exact room_up (by with_reducible assumption) (by decide) | ktr_room)) (by (first | exact unit_up (by with_reducible assumption) (by decide) | ktr_units)) ?_   | (refine c_mul (by k_asm) (by k_asm) (by k_asm) (by k_asm) (by k_asm) (by first | with_reducible assumption | exact rfl) (by (first | exact room_up (by with_reducible assumption) (by decide) | ktr_room)) (by (first | exact unit_up (by with_reducible assumption) (by decide) | ktr_units)) (by tb_start) (by tb_start) (by first | with_reducible assumption | omega) ?_)   | (refine c_lshift (by k_asm) (by k_asm) (by k_asm) (by k_asm) (by k_asm) (by first | with_reducible assumption | exact rfl) (by (first | exact room_up (by with_reducible assumption) (by decide) | ktr_room)) (by (first | exact unit_up (by with_reducible assumption) (by decide) | ktr_units)) (by tb_start) (by with_reducible assumption) (by first | with_reducible assumption | omega) ?_)   | (refine c_rshift (by k_asm) (by k_asm) (by k_asm) (by k_asm) (by k_asm) (by first | with_reducible assumption | exact rfl) (by (first | exact room_up (by with_reducible assumption) (by decide) | ktr_room)) (by (first | exact unit_up (by with_reducible assumption) (by decide) | ktr_units)) (by with_reducible assumption) ?_)   | refine c_isub (by k_asm) (by k_asm) (by k_asm) (by k_asm) (by k_asm) (by first | with_reducible assumption | exact rfl) (by (first | exact room_up (by with_reducible assumption) (by decide) | ktr_room)) (by (first | exact unit_up (by with_reducible assumption) (by decide) | ktr_units)) ?_); intro t9_z h9_z tk9_z F9_z N9_z; try dsimp only)) | ((with_reducible show LCg.CompSrc _ _ _ _ _ _ _ _ _ _ _ _ _ _); refine stop_intro ?_) | ((with_reducible show UnrEnd ..); refine stop_intro ?_) | ((with_reducible show LeaveH _ _ _ _ _ _ _ _); first | (with_reducible ((refine leaveH_ (by k_asm) (by k_asm) ?_; intro kF_z kN_z kA_z; try dsimp only))) | ((refine leaveH_ (by k_asm) (by k_asm) ?_; intro kF_z kN_z kA_z; try dsimp only))) | walk1 | (dsimp only; walk1) | (leave1; (try dsimp only)) | fail "no step"))
      refine Stop.mk (kl_reverse F N (l := vq.reverse) (by simp) (Upd.head offq) (Nat.le_trans (len_hund iq.length hlq hc1 hS2) (by decide)) ?_)
      intro h10 F10 N10
      clear F N
      rw [hr0] at N10
      dsimp only
      have hWV : W - (2 ^ H - 1) * 2 ^ ((H : Int) * (S : Int)).toNat = V := by
        rw [hW, hHSn]; exact Int.add_sub_cancel _ _
      have bWV : intBits (W - (2 ^ H - 1) * 2 ^ ((H : Int) * (S : Int)).toNat) ≤ 497 := by rw [hWV]; exact bV
      have hsh : W.fdiv (2 ^ ((H : Int) * (S : Int)).toNat) = 2 ^ H - 1 := by
        have p1 : (0 : Int) < 2 ^ (H * S) := Int.pow_pos (by decide)
        rw [hHSn, hW]
        exact (fdiv_fmod_of (q := 2 ^ H - 1) (r := V) (Int.add_comm _ _) hV0 hVS).1
      (repeat' (first | (k_unfold; (try dsimp only)) | (k_end; kc_close) | ((with_reducible show wpAny _ _ (callWith _ (Value.ref ..) _ _ _) _ _ _); (k_here; k_dflt (refine callWith_K (by k_asm) (by k_is) ?_; k_whole))) | ((with_reducible show wpAny _ _ (compareOp CmpOp.NotEq (Value.ref ..) (Value.ref ..)) _ _ _); k_dflt (refine ne_tups (by exact News.isTup (by k_asm) (by k_mem)) (by exact News.isTup (by k_asm) (by k_mem)) (by (first | exact unit_up (by with_reducible assumption) (by decide) | ktr_units)) ?_)) | ((with_reducible show wpAny _ _ (binaryOp Operator.FloorDiv (Value.int ..) (Value.int ..)) _ _ _); (k_dflt (refine floordiv_int (by first | with_reducible assumption | omega) ?_ (Or.inl (noPy (k := 9000) (by exact bits_up (by tb_start) (by first | with_reducible assumption | omega)) (by decide)))))) | ((with_reducible show wpAny _ _ (binaryOp Operator.Mult (Value.int ..) (Value.int ..)) _ _ _); k_dflt (refine mul_b (by tb_start) (by tb_start) (by first | with_reducible assumption | omega) ?_; try dsimp only)) | ((with_reducible show LeaveH _ _ _ _ _ _ Value.none _); first | (with_reducible (((rename ¬(_ = _) => hne); exfalso; apply hne; first | rfl | (rw [Int.toNat_natCast]; with_reducible assumption) | exact congrArg (· * _) (by with_reducible assumption)))) | (((rename ¬(_ = _) => hne); exfalso; apply hne; first | rfl | (rw [Int.toNat_natCast]; with_reducible assumption) | exact congrArg (· * _) (by with_reducible assumption)))) | ((with_reducible show wpAny _ _ (eval (PySem.Expr.ListComp ..) _) _ _ _); refine stop_intro ?_) | ((with_reducible show wpAny _ _ (call (Value.ref ..) _) _ _ _); ((with_reducible show wpAny _ _ (call (Value.ref 28) _) _ _ _); refine stop_intro ?_)) | ((with_reducible show wpAny _ _ (call (Value.ref ..) _) _ _ _); ((with_reducible show wpAny _ _ (call (Value.ref 35) _) _ _ _); refine stop_intro ?_)) | ((with_reducible show wpAny _ _ (call (Value.ref ..) _) _ _ _); ((with_reducible show wpAny _ _ (call (Value.ref 42) _) _ _ _); refine stop_intro ?_)) | ((with_reducible show wpAny _ _ (eval (PySem.Expr.Name ..) _) _ _ _); (k_here; k_dflt (refine nameX_L (by k_asm) (by (repeat (refine Eq.trans (if_neg (by decide)) ?_)); with_reducible first | exact if_pos rfl | assumption) ?_; k_whole))) | ((with_reducible show wpAny _ _ (call (Value.builtin "list.reverse") _) _ _ _); refine stop_intro ?_) | ((with_reducible show wpAny _ _ (call (Value.builtin "list.append") _) _ _ _); refine stop_intro ?_) | ((with_reducible show wpAny _ _ (call (Value.builtin "divmod") _) _ _ _); first | (with_reducible ((refine divmod_N (by k_asm) (by k_asm) (by omega) ?_ (Or.inl (noPy (by with_reducible assumption) (by decide))); intro h_z F_z N_z))) | ((refine divmod_N (by k_asm) (by k_asm) (by omega) ?_ (Or.inl (noPy (by with_reducible assumption) (by decide))); intro h_z F_z N_z))) | ((with_reducible show wpAny _ _ (call (Value.type "reversed") _) _ _ _); refine stop_intro ?_) | ((with_reducible show wpAny _ _ (call (Value.ref ..) _) _ _ _); k_dflt ((first   | refine c_add (by k_asm) (by k_asm) (by k_asm) (by k_asm) (by k_asm) (by first | with_reducible assumption | exact rfl) (by (first | exact room_up (by with_reducible assumption) (by decide) | ktr_room)) (by (first | exact unit_up (by with_reducible assumption) (by decide) | ktr_units)) ?_   | refine c_sub (by k_asm) (by k_asm) (by k_asm) (by k_asm) (by k_asm) (by first | with_reducible assumption | exact rfl) (by (first | exact room_up (by with_reducible assumption) (by decide) | ktr_room)) (by (first | exact unit_up (by with_reducible assumption) (by decide) | ktr_units)) ?_   | (refine c_mul (by k_asm) (by k_asm) (by k_asm) (by k_asm) (by k_asm) (by first | with_reducible assumption | exact rfl) (by (first | exact room_up (by with_reducible assumption) (by decide) | ktr_room)) (by (first | exact unit_up (by with_reducible assumption) (by decide) | ktr_units)) (by tb_start) (by tb_start) (by first | with_reducible assumption | omega) ?_)   | (refine c_lshift (by k_asm) (by k_asm) (by k_asm) (by k_asm) (by k_asm) (by first | with_reducible assumption | exact rfl) (by (first | exact room_up (by with_reducible assumption) (by decide) | ktr_room)) (by (first | exact unit_up (by with_reducible assumption) (by decide) | ktr_units)) (by tb_start) (by with_reducible assumption) (by first | with_reducible assumption | omega) ?_)   | (refine c_rshift (by k_asm) (by k_asm) (by k_asm) (by k_asm) (by k_asm) (by first | with_reducible assumption | exact rfl) (by (first | exact room_up (by with_reducible assumption) (by decide) | ktr_room)) (by (first | exact unit_up (by with_reducible assumption) (by decide) | ktr_units)) (by with_reducible assumption) ?_)   | refine c_isub (by k_asm) (by k_asm) (by k_asm) (by k_asm) (by k_asm) (by first | with_reducible assumption | exact rfl) (by (first | exact room_up (by with_reducible assumption) (by decide) | ktr_room)) (by (first | exact unit_up (by with_reducible assumption) (by decide) | ktr_units)) ?_); intro t9_z h9_z tk9_z F9_z N9_z; try dsimp only)) | ((with_reducible show LCg.CompSrc _ _ _ _ _ _ _ _ _ _ _ _ _ _); refine stop_intro ?_) | ((with_reducible show UnrEnd ..); refine stop_intro ?_) | ((with_reducible show LeaveH _ _ _ _ _ _ _ _); first | (with_reducible ((refine leaveH_ (by k_asm) (by k_asm) ?_; intro kF_z kN_z kA_z; try dsimp only))) | ((refine leaveH_ (by k_asm) (by k_asm) ?_; intro kF_z kN_z kA_z; try dsimp only))) | walk1 | (dsimp only; walk1) | (leave1; (try dsimp only)) | fail "no step"))
      refine' Stop.mk (d2i_ts (loc := [(qa, listOf vq.reverse.toArray nq), (L' + 1, o2)]) (K := KE) ?sub SE ?nf ?cB ?cF ?cX N10 ?cT rfl C' ?cd ?cu _ _ _ 0 0 vq.reverse qs.reverse _ (.head _) (ints_rev iq) (rev_pos hlq hc0) (rev_hund hlq hc1 hS2) hHz hHa (by rw [Int.toNat_natCast]; exact figs_rev fq) ?_)
      (case sub => intro p hp; simp only [List.mem_cons, List.mem_append, List.not_mem_nil, or_false] at hp ⊢; grind); (case nf => exact .cons nf_list (.cons (nf_cell d2) .nil)); (case cB => k_asm); (case cF => k_asm); (case cX => k_asm); (case cT => k_asm); (case cd => (first | exact room_up (by with_reducible assumption) (by decide) | ktr_room)); (case cu => (first | exact unit_up (by with_reducible assumption) (by decide) | ktr_units))
      rw [Int.toNat_natCast, hWd]
      intro tF hF tkF psF KF SF FF NF
      clear N10
      try dsimp only
      (repeat' (first | (k_unfold; (try dsimp only)) | (k_end; kc_close) | ((with_reducible show wpAny _ _ (callWith _ (Value.ref ..) _ _ _) _ _ _); (k_here; k_dflt (refine callWith_K (by k_asm) (by k_is) ?_; k_whole))) | ((with_reducible show wpAny _ _ (compareOp CmpOp.NotEq (Value.ref ..) (Value.ref ..)) _ _ _); k_dflt (refine ne_tups (by exact News.isTup (by k_asm) (by k_mem)) (by exact News.isTup (by k_asm) (by k_mem)) (by (first | exact unit_up (by with_reducible assumption) (by decide) | ktr_units)) ?_)) | ((with_reducible show wpAny _ _ (binaryOp Operator.FloorDiv (Value.int ..) (Value.int ..)) _ _ _); (k_dflt (refine floordiv_int (by first | with_reducible assumption | omega) ?_ (Or.inl (noPy (k := 9000) (by exact bits_up (by tb_start) (by first | with_reducible assumption | omega)) (by decide)))))) | ((with_reducible show wpAny _ _ (binaryOp Operator.Mult (Value.int ..) (Value.int ..)) _ _ _); k_dflt (refine mul_b (by tb_start) (by tb_start) (by first | with_reducible assumption | omega) ?_; try dsimp only)) | ((with_reducible show LeaveH _ _ _ _ _ _ Value.none _); first | (with_reducible (((rename ¬(_ = _) => hne); exfalso; apply hne; first | rfl | (rw [Int.toNat_natCast]; with_reducible assumption) | exact congrArg (· * _) (by with_reducible assumption)))) | (((rename ¬(_ = _) => hne); exfalso; apply hne; first | rfl | (rw [Int.toNat_natCast]; with_reducible assumption) | exact congrArg (· * _) (by with_reducible assumption)))) | ((with_reducible show wpAny _ _ (eval (PySem.Expr.ListComp ..) _) _ _ _); refine stop_intro ?_) | ((with_reducible show wpAny _ _ (call (Value.ref ..) _) _ _ _); ((with_reducible show wpAny _ _ (call (Value.ref 28) _) _ _ _); refine stop_intro ?_)) | ((with_reducible show wpAny _ _ (call (Value.ref ..) _) _ _ _); ((with_reducible show wpAny _ _ (call (Value.ref 35) _) _ _ _); refine stop_intro ?_)) | ((with_reducible show wpAny _ _ (call (Value.ref ..) _) _ _ _); ((with_reducible show wpAny _ _ (call (Value.ref 42) _) _ _ _); refine stop_intro ?_)) | ((with_reducible show wpAny _ _ (eval (PySem.Expr.Name ..) _) _ _ _); (k_here; k_dflt (refine nameX_L (by k_asm) (by (repeat (refine Eq.trans (if_neg (by decide)) ?_)); with_reducible first | exact if_pos rfl | assumption) ?_; k_whole))) | ((with_reducible show wpAny _ _ (call (Value.builtin "list.reverse") _) _ _ _); refine stop_intro ?_) | ((with_reducible show wpAny _ _ (call (Value.builtin "list.append") _) _ _ _); refine stop_intro ?_) | ((with_reducible show wpAny _ _ (call (Value.builtin "divmod") _) _ _ _); first | (with_reducible ((refine divmod_N (by k_asm) (by k_asm) (by omega) ?_ (Or.inl (noPy (by with_reducible assumption) (by decide))); intro h_z F_z N_z))) | ((refine divmod_N (by k_asm) (by k_asm) (by omega) ?_ (Or.inl (noPy (by with_reducible assumption) (by decide))); intro h_z F_z N_z))) | ((with_reducible show wpAny _ _ (call (Value.type "reversed") _) _ _ _); refine stop_intro ?_) | ((with_reducible show wpAny _ _ (call (Value.ref ..) _) _ _ _); k_dflt ((first   | refine c_add (by k_asm) (by k_asm) (by k_asm) (by k_asm) (by k_asm) (by first | with_reducible assumption | exact rfl) (by (first | exact room_up (by with_reducible assumption) (by decide) | ktr_room)) (by (first | exact unit_up (by with_reducible assumption) (by decide) | ktr_units)) ?_   | refine c_sub (by k_asm) (by k_asm) (by k_asm) (by k_asm) (by k_asm) (by first | with_reducible assumption | exact rfl) (by (first | exact room_up (by with_reducible assumption) (by decide) | ktr_room)) (by (first | exact unit_up (by with_reducible assumption) (by decide) | ktr_units)) ?_   | (refine c_mul (by k_asm) (by k_asm) (by k_asm) (by k_asm) (by k_asm) (by first | with_reducible assumption | exact rfl) (by (first | exact room_up (by with_reducible assumption) (by decide) | ktr_room)) (by (first | exact unit_up (by with_reducible assumption) (by decide) | ktr_units)) (by tb_start) (by tb_start) (by first | with_reducible assumption | omega) ?_)   | (refine c_lshift (by k_asm) (by k_asm) (by k_asm) (by k_asm) (by k_asm) (by first | with_reducible assumption | exact rfl) (by (first | exact room_up (by with_reducible assumption) (by decide) | ktr_room)) (by (first | exact unit_up (by with_reducible assumption) (by decide) | ktr_units)) (by tb_start) (by with_reducible assumption) (by first | with_reducible assumption | omega) ?_)   | (refine c_rshift (by k_asm) (by k_asm) (by k_asm) (by k_asm) (by k_asm) (by first | with_reducible assumption | exact rfl) (by (first | exact room_up (by with_reducible assumption) (by decide) | ktr_room)) (by (first | exact unit_up (by with_reducible assumption) (by decide) | ktr_units)) (by with_reducible assumption) ?_)   | refine c_isub (by k_asm) (by k_asm) (by k_asm) (by k_asm) (by k_asm) (by first | with_reducible assumption | exact rfl) (by (first | exact room_up (by with_reducible assumption) (by decide) | ktr_room)) (by (first | exact unit_up (by with_reducible assumption) (by decide) | ktr_units)) ?_); intro t9_z h9_z tk9_z F9_z N9_z; try dsimp only)) | ((with_reducible show LCg.CompSrc _ _ _ _ _ _ _ _ _ _ _ _ _ _); refine stop_intro ?_) | ((with_reducible show UnrEnd ..); refine stop_intro ?_) | ((with_reducible show LeaveH _ _ _ _ _ _ _ _); first | (with_reducible ((refine leaveH_ (by k_asm) (by k_asm) ?_; intro kF_z kN_z kA_z; try dsimp only))) | ((refine leaveH_ (by k_asm) (by k_asm) ?_; intro kF_z kN_z kA_z; try dsimp only))) | walk1 | (dsimp only; walk1) | (leave1; (try dsimp only)) | fail "no step"))
      rename Fr g' _ _ _ => F13
      rename News g' _ _ _ => N13
      refine Stop.mk (LCg.ListComp_U (F₀ := F13) (by with_unfolding_all rfl) (by decide) (by rfl) (by decide) (by rfl) ?_)
      (repeat' (first | (k_unfold; (try dsimp only)) | (k_end; kc_close) | ((with_reducible show wpAny _ _ (callWith _ (Value.ref ..) _ _ _) _ _ _); (k_here; k_dflt (refine callWith_K (by k_asm) (by k_is) ?_; k_whole))) | ((with_reducible show wpAny _ _ (compareOp CmpOp.NotEq (Value.ref ..) (Value.ref ..)) _ _ _); k_dflt (refine ne_tups (by exact News.isTup (by k_asm) (by k_mem)) (by exact News.isTup (by k_asm) (by k_mem)) (by (first | exact unit_up (by with_reducible assumption) (by decide) | ktr_units)) ?_)) | ((with_reducible show wpAny _ _ (binaryOp Operator.FloorDiv (Value.int ..) (Value.int ..)) _ _ _); (k_dflt (refine floordiv_int (by first | with_reducible assumption | omega) ?_ (Or.inl (noPy (k := 9000) (by exact bits_up (by tb_start) (by first | with_reducible assumption | omega)) (by decide)))))) | ((with_reducible show wpAny _ _ (binaryOp Operator.Mult (Value.int ..) (Value.int ..)) _ _ _); k_dflt (refine mul_b (by tb_start) (by tb_start) (by first | with_reducible assumption | omega) ?_; try dsimp only)) | ((with_reducible show LeaveH _ _ _ _ _ _ Value.none _); first | (with_reducible (((rename ¬(_ = _) => hne); exfalso; apply hne; first | rfl | (rw [Int.toNat_natCast]; with_reducible assumption) | exact congrArg (· * _) (by with_reducible assumption)))) | (((rename ¬(_ = _) => hne); exfalso; apply hne; first | rfl | (rw [Int.toNat_natCast]; with_reducible assumption) | exact congrArg (· * _) (by with_reducible assumption)))) | ((with_reducible show wpAny _ _ (eval (PySem.Expr.ListComp ..) _) _ _ _); refine stop_intro ?_) | ((with_reducible show wpAny _ _ (call (Value.ref ..) _) _ _ _); ((with_reducible show wpAny _ _ (call (Value.ref 28) _) _ _ _); refine stop_intro ?_)) | ((with_reducible show wpAny _ _ (call (Value.ref ..) _) _ _ _); ((with_reducible show wpAny _ _ (call (Value.ref 35) _) _ _ _); refine stop_intro ?_)) | ((with_reducible show wpAny _ _ (call (Value.ref ..) _) _ _ _); ((with_reducible show wpAny _ _ (call (Value.ref 42) _) _ _ _); refine stop_intro ?_)) | ((with_reducible show wpAny _ _ (eval (PySem.Expr.Name ..) _) _ _ _); (k_here; k_dflt (refine nameX_L (by k_asm) (by (repeat (refine Eq.trans (if_neg (by decide)) ?_)); with_reducible first | exact if_pos rfl | assumption) ?_; k_whole))) | ((with_reducible show wpAny _ _ (call (Value.builtin "list.reverse") _) _ _ _); refine stop_intro ?_) | ((with_reducible show wpAny _ _ (call (Value.builtin "list.append") _) _ _ _); refine stop_intro ?_) | ((with_reducible show wpAny _ _ (call (Value.builtin "divmod") _) _ _ _); first | (with_reducible ((refine divmod_N (by k_asm) (by k_asm) (by omega) ?_ (Or.inl (noPy (by with_reducible assumption) (by decide))); intro h_z F_z N_z))) | ((refine divmod_N (by k_asm) (by k_asm) (by omega) ?_ (Or.inl (noPy (by with_reducible assumption) (by decide))); intro h_z F_z N_z))) | ((with_reducible show wpAny _ _ (call (Value.type "reversed") _) _ _ _); refine stop_intro ?_) | ((with_reducible show wpAny _ _ (call (Value.ref ..) _) _ _ _); k_dflt ((first   | refine c_add (by k_asm) (by k_asm) (by k_asm) (by k_asm) (by k_asm) (by first | with_reducible assumption | exact rfl) (by (first | exact room_up (by with_reducible assumption) (by decide) | ktr_room)) (by (first | exact unit_up (by with_reducible assumption) (by decide) | ktr_units)) ?_   | refine c_sub (by k_asm) (by k_asm) (by k_asm) (by k_asm) (by k_asm) (by first | with_reducible assumption | exact rfl) (by (first | exact room_up (by with_reducible assumption) (by decide) | ktr_room)) (by (first | exact unit_up (by with_reducible assumption) (by decide) | ktr_units)) ?_   | (refine c_mul (by k_asm) (by k_asm) (by k_asm) (by k_asm) (by k_asm) (by first | with_reducible assumption | exact rfl) (by (first | exact room_up (by with_reducible assumption) (by decide) | ktr_room)) (by (first | exact unit_up (by with_reducible assumption) (by decide) | ktr_units)) (by tb_start) (by tb_start) (by first | with_reducible assumption | omega) ?_)   | (refine c_lshift (by k_asm) (by k_asm) (by k_asm) (by k_asm) (by k_asm) (by first | with_reducible assumption | exact rfl) (by (first | exact room_up (by with_reducible assumption) (by decide) | ktr_room)) (by (first | exact unit_up (by with_reducible assumption) (by decide) | ktr_units)) (by tb_start) (by with_reducible assumption) (by first | with_reducible assumption | omega) ?_)   | (refine c_rshift (by k_asm) (by k_asm) (by k_asm) (by k_asm) (by k_asm) (by first | with_reducible assumption | exact rfl) (by (first | exact room_up (by with_reducible assumption) (by decide) | ktr_room)) (by (first | exact unit_up (by with_reducible assumption) (by decide) | ktr_units)) (by with_reducible assumption) ?_)   | refine c_isub (by k_asm) (by k_asm) (by k_asm) (by k_asm) (by k_asm) (by first | with_reducible assumption | exact rfl) (by (first | exact room_up (by with_reducible assumption) (by decide) | ktr_room)) (by (first | exact unit_up (by with_reducible assumption) (by decide) | ktr_units)) ?_); intro t9_z h9_z tk9_z F9_z N9_z; try dsimp only)) | ((with_reducible show LCg.CompSrc _ _ _ _ _ _ _ _ _ _ _ _ _ _); refine stop_intro ?_) | ((with_reducible show UnrEnd ..); refine stop_intro ?_) | ((with_reducible show LeaveH _ _ _ _ _ _ _ _); first | (with_reducible ((refine leaveH_ (by k_asm) (by k_asm) ?_; intro kF_z kN_z kA_z; try dsimp only))) | ((refine leaveH_ (by k_asm) (by k_asm) ?_; intro kF_z kN_z kA_z; try dsimp only))) | walk1 | (dsimp only; walk1) | (leave1; (try dsimp only)) | fail "no step"))
      rw [hWV] at F13 ⊢
      have hV9 : 0 < V := Int.lt_of_lt_of_le (Int.pow_pos (by decide)) hV1
      have hcw := cnt_exact (H := ww) (k := n - 2) (x := V) (by omega) hV1 (by rw [n21 hn3]; exact hV2)
      refine' Stop.mk (i2d_ts (loc := [(L' + 1, o2)]) (K := KF) ?sub SF ?nf ?cB ?cF ?cX N13 ?cT rfl C2' ?cd ?cu V (ww : Int) _ _ (n - 2 + 1) hV9 (bits_up bV (by decide)) (by omega) ww200 (bits_up bw (by decide)) hcw (Nat.succ_pos _) (n21b hn8) ?_)
      (case sub => intro p hp; simp only [List.mem_cons, List.mem_append, List.not_mem_nil, or_false] at hp ⊢; grind); (case nf => exact .cons (nf_cell d2) .nil); (case cB => k_asm); (case cF => k_asm); (case cX => k_asm); (case cT => k_asm); (case cd => (first | exact room_up (by with_reducible assumption) (by decide) | ktr_room)); (case cu => (first | exact unit_up (by with_reducible assumption) (by decide) | ktr_units))
      intro D3 vs3 ds3 hG tkG psG KG SG FG NG iG lG fG dG
      rw [Int.toNat_natCast] at fG dG
      have NG2 : News g' L' hG ((D3, listOf vs3.toArray 0) :: (L' + 1, o2) :: (37, tabObj psF) :: (30, tabObj psG) :: KG) := news_sub NG (fun p hp => by simp only [List.mem_cons, List.mem_append, List.not_mem_nil, or_false] at hp ⊢; grind)
      clear NG N13 F13
      try dsimp only
      (repeat' (first | (k_unfold; (try dsimp only)) | (k_end; kc_close) | ((with_reducible show wpAny _ _ (callWith _ (Value.ref ..) _ _ _) _ _ _); (k_here; k_dflt (refine callWith_K (by k_asm) (by k_is) ?_; k_whole))) | ((with_reducible show wpAny _ _ (compareOp CmpOp.NotEq (Value.ref ..) (Value.ref ..)) _ _ _); k_dflt (refine ne_tups (by exact News.isTup (by k_asm) (by k_mem)) (by exact News.isTup (by k_asm) (by k_mem)) (by (first | exact unit_up (by with_reducible assumption) (by decide) | ktr_units)) ?_)) | ((with_reducible show wpAny _ _ (binaryOp Operator.FloorDiv (Value.int ..) (Value.int ..)) _ _ _); (k_dflt (refine floordiv_int (by first | with_reducible assumption | omega) ?_ (Or.inl (noPy (k := 9000) (by exact bits_up (by tb_start) (by first | with_reducible assumption | omega)) (by decide)))))) | ((with_reducible show wpAny _ _ (binaryOp Operator.Mult (Value.int ..) (Value.int ..)) _ _ _); k_dflt (refine mul_b (by tb_start) (by tb_start) (by first | with_reducible assumption | omega) ?_; try dsimp only)) | ((with_reducible show LeaveH _ _ _ _ _ _ Value.none _); first | (with_reducible (((rename ¬(_ = _) => hne); exfalso; apply hne; first | rfl | (rw [Int.toNat_natCast]; with_reducible assumption) | exact congrArg (· * _) (by with_reducible assumption)))) | (((rename ¬(_ = _) => hne); exfalso; apply hne; first | rfl | (rw [Int.toNat_natCast]; with_reducible assumption) | exact congrArg (· * _) (by with_reducible assumption)))) | ((with_reducible show wpAny _ _ (eval (PySem.Expr.ListComp ..) _) _ _ _); refine stop_intro ?_) | ((with_reducible show wpAny _ _ (call (Value.ref ..) _) _ _ _); ((with_reducible show wpAny _ _ (call (Value.ref 28) _) _ _ _); refine stop_intro ?_)) | ((with_reducible show wpAny _ _ (call (Value.ref ..) _) _ _ _); ((with_reducible show wpAny _ _ (call (Value.ref 35) _) _ _ _); refine stop_intro ?_)) | ((with_reducible show wpAny _ _ (call (Value.ref ..) _) _ _ _); ((with_reducible show wpAny _ _ (call (Value.ref 42) _) _ _ _); refine stop_intro ?_)) | ((with_reducible show wpAny _ _ (eval (PySem.Expr.Name ..) _) _ _ _); (k_here; k_dflt (refine nameX_L (by k_asm) (by (repeat (refine Eq.trans (if_neg (by decide)) ?_)); with_reducible first | exact if_pos rfl | assumption) ?_; k_whole))) | ((with_reducible show wpAny _ _ (call (Value.builtin "list.reverse") _) _ _ _); refine stop_intro ?_) | ((with_reducible show wpAny _ _ (call (Value.builtin "list.append") _) _ _ _); refine stop_intro ?_) | ((with_reducible show wpAny _ _ (call (Value.builtin "divmod") _) _ _ _); first | (with_reducible ((refine divmod_N (by k_asm) (by k_asm) (by omega) ?_ (Or.inl (noPy (by with_reducible assumption) (by decide))); intro h_z F_z N_z))) | ((refine divmod_N (by k_asm) (by k_asm) (by omega) ?_ (Or.inl (noPy (by with_reducible assumption) (by decide))); intro h_z F_z N_z))) | ((with_reducible show wpAny _ _ (call (Value.type "reversed") _) _ _ _); refine stop_intro ?_) | ((with_reducible show wpAny _ _ (call (Value.ref ..) _) _ _ _); k_dflt ((first   | refine c_add (by k_asm) (by k_asm) (by k_asm) (by k_asm) (by k_asm) (by first | with_reducible assumption | exact rfl) (by (first | exact room_up (by with_reducible assumption) (by decide) | ktr_room)) (by (first | exact unit_up (by with_reducible assumption) (by decide) | ktr_units)) ?_   | refine c_sub (by k_asm) (by k_asm) (by k_asm) (by k_asm) (by k_asm) (by first | with_reducible assumption | exact rfl) (by (first | exact room_up (by with_reducible assumption) (by decide) | ktr_room)) (by (first | exact unit_up (by with_reducible assumption) (by decide) | ktr_units)) ?_   | (refine c_mul (by k_asm) (by k_asm) (by k_asm) (by k_asm) (by k_asm) (by first | with_reducible assumption | exact rfl) (by (first | exact room_up (by with_reducible assumption) (by decide) | ktr_room)) (by (first | exact unit_up (by with_reducible assumption) (by decide) | ktr_units)) (by tb_start) (by tb_start) (by first | with_reducible assumption | omega) ?_)   | (refine c_lshift (by k_asm) (by k_asm) (by k_asm) (by k_asm) (by k_asm) (by first | with_reducible assumption | exact rfl) (by (first | exact room_up (by with_reducible assumption) (by decide) | ktr_room)) (by (first | exact unit_up (by with_reducible assumption) (by decide) | ktr_units)) (by tb_start) (by with_reducible assumption) (by first | with_reducible assumption | omega) ?_)   | (refine c_rshift (by k_asm) (by k_asm) (by k_asm) (by k_asm) (by k_asm) (by first | with_reducible assumption | exact rfl) (by (first | exact room_up (by with_reducible assumption) (by decide) | ktr_room)) (by (first | exact unit_up (by with_reducible assumption) (by decide) | ktr_units)) (by with_reducible assumption) ?_)   | refine c_isub (by k_asm) (by k_asm) (by k_asm) (by k_asm) (by k_asm) (by first | with_reducible assumption | exact rfl) (by (first | exact room_up (by with_reducible assumption) (by decide) | ktr_room)) (by (first | exact unit_up (by with_reducible assumption) (by decide) | ktr_units)) ?_); intro t9_z h9_z tk9_z F9_z N9_z; try dsimp only)) | ((with_reducible show LCg.CompSrc _ _ _ _ _ _ _ _ _ _ _ _ _ _); refine stop_intro ?_) | ((with_reducible show UnrEnd ..); refine stop_intro ?_) | ((with_reducible show LeaveH _ _ _ _ _ _ _ _); first | (with_reducible ((refine leaveH_ (by k_asm) (by k_asm) ?_; intro kF_z kN_z kA_z; try dsimp only))) | ((refine leaveH_ (by k_asm) (by k_asm) ?_; intro kF_z kN_z kA_z; try dsimp only))) | walk1 | (dsimp only; walk1) | (leave1; (try dsimp only)) | fail "no step"))
      have hsz3 : vs3.toArray.size ≤ sizeLine := by rw [List.size_toArray, iG.length, lG]; exact Nat.le_trans (n21b hn8) (by decide)
      refine Stop.mk (LCg.CompSrc.ledger (its := vs3.toArray) rfl FG NG2 (.head _) hsz3 fun gg => ?_)
      refine comp_rest (its := vs3.toArray) (.inr ⟨_, (.head _), rfl, _, rfl⟩) (fun r ys => ∃ ds' pre, IntsAre r ds' ∧ pre ++ ds' = ds3 ∧ IntsAre ys (pre.map (· - 2 ^ (ww - 1)))) ?trn ?dn vs3 0 [] rfl ⟨ds3, [], iG, rfl, .nil⟩
      case trn =>
        rintro v r ys ⟨ds', pre, hi9, hpre, hys⟩ I9 oI9 C9 oC9 D9 m₂ h tk E' Q' ha hb9 F N kq
        obtain ⟨d9, td9, es9, rfl, hi9', rfl⟩ := ints_cons hi9
        clear FG NG2
        (repeat' (first | (k_unfold; (try dsimp only)) | (k_end; kc_close) | ((with_reducible show wpAny _ _ (callWith _ (Value.ref ..) _ _ _) _ _ _); (k_here; k_dflt (refine callWith_K (by k_asm) (by k_is) ?_; k_whole))) | ((with_reducible show wpAny _ _ (compareOp CmpOp.NotEq (Value.ref ..) (Value.ref ..)) _ _ _); k_dflt (refine ne_tups (by exact News.isTup (by k_asm) (by k_mem)) (by exact News.isTup (by k_asm) (by k_mem)) (by (first | exact unit_up (by with_reducible assumption) (by decide) | ktr_units)) ?_)) | ((with_reducible show wpAny _ _ (binaryOp Operator.FloorDiv (Value.int ..) (Value.int ..)) _ _ _); (k_dflt (refine floordiv_int (by first | with_reducible assumption | omega) ?_ (Or.inl (noPy (k := 9000) (by exact bits_up (by tb_start) (by first | with_reducible assumption | omega)) (by decide)))))) | ((with_reducible show wpAny _ _ (binaryOp Operator.Mult (Value.int ..) (Value.int ..)) _ _ _); k_dflt (refine mul_b (by tb_start) (by tb_start) (by first | with_reducible assumption | omega) ?_; try dsimp only)) | ((with_reducible show LeaveH _ _ _ _ _ _ Value.none _); first | (with_reducible (((rename ¬(_ = _) => hne); exfalso; apply hne; first | rfl | (rw [Int.toNat_natCast]; with_reducible assumption) | exact congrArg (· * _) (by with_reducible assumption)))) | (((rename ¬(_ = _) => hne); exfalso; apply hne; first | rfl | (rw [Int.toNat_natCast]; with_reducible assumption) | exact congrArg (· * _) (by with_reducible assumption)))) | ((with_reducible show wpAny _ _ (eval (PySem.Expr.ListComp ..) _) _ _ _); refine stop_intro ?_) | ((with_reducible show wpAny _ _ (call (Value.ref ..) _) _ _ _); ((with_reducible show wpAny _ _ (call (Value.ref 28) _) _ _ _); refine stop_intro ?_)) | ((with_reducible show wpAny _ _ (call (Value.ref ..) _) _ _ _); ((with_reducible show wpAny _ _ (call (Value.ref 35) _) _ _ _); refine stop_intro ?_)) | ((with_reducible show wpAny _ _ (call (Value.ref ..) _) _ _ _); ((with_reducible show wpAny _ _ (call (Value.ref 42) _) _ _ _); refine stop_intro ?_)) | ((with_reducible show wpAny _ _ (eval (PySem.Expr.Name ..) _) _ _ _); (k_here; k_dflt (refine nameX_L (by k_asm) (by (repeat (refine Eq.trans (if_neg (by decide)) ?_)); with_reducible first | exact if_pos rfl | assumption) ?_; k_whole))) | ((with_reducible show wpAny _ _ (call (Value.builtin "list.reverse") _) _ _ _); refine stop_intro ?_) | ((with_reducible show wpAny _ _ (call (Value.builtin "list.append") _) _ _ _); refine stop_intro ?_) | ((with_reducible show wpAny _ _ (call (Value.builtin "divmod") _) _ _ _); first | (with_reducible ((refine divmod_N (by k_asm) (by k_asm) (by omega) ?_ (Or.inl (noPy (by with_reducible assumption) (by decide))); intro h_z F_z N_z))) | ((refine divmod_N (by k_asm) (by k_asm) (by omega) ?_ (Or.inl (noPy (by with_reducible assumption) (by decide))); intro h_z F_z N_z))) | ((with_reducible show wpAny _ _ (call (Value.type "reversed") _) _ _ _); refine stop_intro ?_) | ((with_reducible show wpAny _ _ (call (Value.ref ..) _) _ _ _); k_dflt ((first   | refine c_add (by k_asm) (by k_asm) (by k_asm) (by k_asm) (by k_asm) (by first | with_reducible assumption | exact rfl) (by (first | exact room_up (by with_reducible assumption) (by decide) | ktr_room)) (by (first | exact unit_up (by with_reducible assumption) (by decide) | ktr_units)) ?_   | refine c_sub (by k_asm) (by k_asm) (by k_asm) (by k_asm) (by k_asm) (by first | with_reducible assumption | exact rfl) (by (first | exact room_up (by with_reducible assumption) (by decide) | ktr_room)) (by (first | exact unit_up (by with_reducible assumption) (by decide) | ktr_units)) ?_   | (refine c_mul (by k_asm) (by k_asm) (by k_asm) (by k_asm) (by k_asm) (by first | with_reducible assumption | exact rfl) (by (first | exact room_up (by with_reducible assumption) (by decide) | ktr_room)) (by (first | exact unit_up (by with_reducible assumption) (by decide) | ktr_units)) (by tb_start) (by tb_start) (by first | with_reducible assumption | omega) ?_)   | (refine c_lshift (by k_asm) (by k_asm) (by k_asm) (by k_asm) (by k_asm) (by first | with_reducible assumption | exact rfl) (by (first | exact room_up (by with_reducible assumption) (by decide) | ktr_room)) (by (first | exact unit_up (by with_reducible assumption) (by decide) | ktr_units)) (by tb_start) (by with_reducible assumption) (by first | with_reducible assumption | omega) ?_)   | (refine c_rshift (by k_asm) (by k_asm) (by k_asm) (by k_asm) (by k_asm) (by first | with_reducible assumption | exact rfl) (by (first | exact room_up (by with_reducible assumption) (by decide) | ktr_room)) (by (first | exact unit_up (by with_reducible assumption) (by decide) | ktr_units)) (by with_reducible assumption) ?_)   | refine c_isub (by k_asm) (by k_asm) (by k_asm) (by k_asm) (by k_asm) (by first | with_reducible assumption | exact rfl) (by (first | exact room_up (by with_reducible assumption) (by decide) | ktr_room)) (by (first | exact unit_up (by with_reducible assumption) (by decide) | ktr_units)) ?_); intro t9_z h9_z tk9_z F9_z N9_z; try dsimp only)) | ((with_reducible show LCg.CompSrc _ _ _ _ _ _ _ _ _ _ _ _ _ _); refine stop_intro ?_) | ((with_reducible show UnrEnd ..); refine stop_intro ?_) | ((with_reducible show LeaveH _ _ _ _ _ _ _ _); first | (with_reducible ((refine leaveH_ (by k_asm) (by k_asm) ?_; intro kF_z kN_z kA_z; try dsimp only))) | ((refine leaveH_ (by k_asm) (by k_asm) ?_; intro kF_z kN_z kA_z; try dsimp only))) | walk1 | (dsimp only; walk1) | (leave1; (try dsimp only)) | fail "no step"))
        exact kq _ _ _ ⟨es9, pre ++ [d9], hi9', by rw [← hpre]; simp, by rw [List.map_append]; exact ints_snoc _ _ hys⟩ (by assumption) (by assumption)
      case dn =>
        rintro ys ⟨ds', pre, hi9, hpre, hys⟩
        cases hi9
        rw [List.append_nil] at hpre
        rw [hpre] at hys
        clear FG NG2
        (repeat' (first | (k_unfold; (try dsimp only)) | (k_end; kc_close) | ((with_reducible show wpAny _ _ (callWith _ (Value.ref ..) _ _ _) _ _ _); (k_here; k_dflt (refine callWith_K (by k_asm) (by k_is) ?_; k_whole))) | ((with_reducible show wpAny _ _ (compareOp CmpOp.NotEq (Value.ref ..) (Value.ref ..)) _ _ _); k_dflt (refine ne_tups (by exact News.isTup (by k_asm) (by k_mem)) (by exact News.isTup (by k_asm) (by k_mem)) (by (first | exact unit_up (by with_reducible assumption) (by decide) | ktr_units)) ?_)) | ((with_reducible show wpAny _ _ (binaryOp Operator.FloorDiv (Value.int ..) (Value.int ..)) _ _ _); (k_dflt (refine floordiv_int (by first | with_reducible assumption | omega) ?_ (Or.inl (noPy (k := 9000) (by exact bits_up (by tb_start) (by first | with_reducible assumption | omega)) (by decide)))))) | ((with_reducible show wpAny _ _ (binaryOp Operator.Mult (Value.int ..) (Value.int ..)) _ _ _); k_dflt (refine mul_b (by tb_start) (by tb_start) (by first | with_reducible assumption | omega) ?_; try dsimp only)) | ((with_reducible show LeaveH _ _ _ _ _ _ Value.none _); first | (with_reducible (((rename ¬(_ = _) => hne); exfalso; apply hne; first | rfl | (rw [Int.toNat_natCast]; with_reducible assumption) | exact congrArg (· * _) (by with_reducible assumption)))) | (((rename ¬(_ = _) => hne); exfalso; apply hne; first | rfl | (rw [Int.toNat_natCast]; with_reducible assumption) | exact congrArg (· * _) (by with_reducible assumption)))) | ((with_reducible show wpAny _ _ (eval (PySem.Expr.ListComp ..) _) _ _ _); refine stop_intro ?_) | ((with_reducible show wpAny _ _ (call (Value.ref ..) _) _ _ _); ((with_reducible show wpAny _ _ (call (Value.ref 28) _) _ _ _); refine stop_intro ?_)) | ((with_reducible show wpAny _ _ (call (Value.ref ..) _) _ _ _); ((with_reducible show wpAny _ _ (call (Value.ref 35) _) _ _ _); refine stop_intro ?_)) | ((with_reducible show wpAny _ _ (call (Value.ref ..) _) _ _ _); ((with_reducible show wpAny _ _ (call (Value.ref 42) _) _ _ _); refine stop_intro ?_)) | ((with_reducible show wpAny _ _ (eval (PySem.Expr.Name ..) _) _ _ _); (k_here; k_dflt (refine nameX_L (by k_asm) (by (repeat (refine Eq.trans (if_neg (by decide)) ?_)); with_reducible first | exact if_pos rfl | assumption) ?_; k_whole))) | ((with_reducible show wpAny _ _ (call (Value.builtin "list.reverse") _) _ _ _); refine stop_intro ?_) | ((with_reducible show wpAny _ _ (call (Value.builtin "list.append") _) _ _ _); refine stop_intro ?_) | ((with_reducible show wpAny _ _ (call (Value.builtin "divmod") _) _ _ _); first | (with_reducible ((refine divmod_N (by k_asm) (by k_asm) (by omega) ?_ (Or.inl (noPy (by with_reducible assumption) (by decide))); intro h_z F_z N_z))) | ((refine divmod_N (by k_asm) (by k_asm) (by omega) ?_ (Or.inl (noPy (by with_reducible assumption) (by decide))); intro h_z F_z N_z))) | ((with_reducible show wpAny _ _ (call (Value.type "reversed") _) _ _ _); refine stop_intro ?_) | ((with_reducible show wpAny _ _ (call (Value.ref ..) _) _ _ _); k_dflt ((first   | refine c_add (by k_asm) (by k_asm) (by k_asm) (by k_asm) (by k_asm) (by first | with_reducible assumption | exact rfl) (by (first | exact room_up (by with_reducible assumption) (by decide) | ktr_room)) (by (first | exact unit_up (by with_reducible assumption) (by decide) | ktr_units)) ?_   | refine c_sub (by k_asm) (by k_asm) (by k_asm) (by k_asm) (by k_asm) (by first | with_reducible assumption | exact rfl) (by (first | exact room_up (by with_reducible assumption) (by decide) | ktr_room)) (by (first | exact unit_up (by with_reducible assumption) (by decide) | ktr_units)) ?_   | (refine c_mul (by k_asm) (by k_asm) (by k_asm) (by k_asm) (by k_asm) (by first | with_reducible assumption | exact rfl) (by (first | exact room_up (by with_reducible assumption) (by decide) | ktr_room)) (by (first | exact unit_up (by with_reducible assumption) (by decide) | ktr_units)) (by tb_start) (by tb_start) (by first | with_reducible assumption | omega) ?_)   | (refine c_lshift (by k_asm) (by k_asm) (by k_asm) (by k_asm) (by k_asm) (by first | with_reducible assumption | exact rfl) (by (first | exact room_up (by with_reducible assumption) (by decide) | ktr_room)) (by (first | exact unit_up (by with_reducible assumption) (by decide) | ktr_units)) (by tb_start) (by with_reducible assumption) (by first | with_reducible assumption | omega) ?_)   | (refine c_rshift (by k_asm) (by k_asm) (by k_asm) (by k_asm) (by k_asm) (by first | with_reducible assumption | exact rfl) (by (first | exact room_up (by with_reducible assumption) (by decide) | ktr_room)) (by (first | exact unit_up (by with_reducible assumption) (by decide) | ktr_units)) (by with_reducible assumption) ?_)   | refine c_isub (by k_asm) (by k_asm) (by k_asm) (by k_asm) (by k_asm) (by first | with_reducible assumption | exact rfl) (by (first | exact room_up (by with_reducible assumption) (by decide) | ktr_room)) (by (first | exact unit_up (by with_reducible assumption) (by decide) | ktr_units)) ?_); intro t9_z h9_z tk9_z F9_z N9_z; try dsimp only)) | ((with_reducible show LCg.CompSrc _ _ _ _ _ _ _ _ _ _ _ _ _ _); refine stop_intro ?_) | ((with_reducible show UnrEnd ..); refine stop_intro ?_) | ((with_reducible show LeaveH _ _ _ _ _ _ _ _); first | (with_reducible ((refine leaveH_ (by k_asm) (by k_asm) ?_; intro kF_z kN_z kA_z; try dsimp only))) | ((refine leaveH_ (by k_asm) (by k_asm) ?_; intro kF_z kN_z kA_z; try dsimp only))) | walk1 | (dsimp only; walk1) | (leave1; (try dsimp only)) | fail "no step"))
        rename Fr h₀ _ _ _ => kF
        rename News h₀ _ _ _ => kN
        have hmm : (ds3.map (· - 2 ^ (ww - 1))).map (· + 2 ^ (ww - 1)) = ds3 := by simp [Function.comp_def]
        refine hret _ ys _ (ds3.map (· - 2 ^ (ww - 1))) _ _ _ kF kN (by assumption) (.head _) ⟨_, by k_mem⟩ ⟨_, by k_mem⟩ hys (by rw [List.length_map, lG]; exact n21 hn3) (by rw [hmm]; exact fG) (by rw [hmm]; exact dG)
end
end Mine
set_option Elab.async false
set_option maxRecDepth 100000
set_option maxHeartbeats 4000000
set_option linter.unusedVariables false
namespace Mine
theorem trues_ov (xs : List (Int × Bool)) : trues (xs.map (·.2)) = ov xs := by
  induction xs with
  | nil => rfl
  | cons c r ih => simp [trues, ov, ih]
theorem ov_app (a b : List (Int × Bool)) : ov (a ++ b) = ov a + ov b := by
  induction a with
  | nil => simp [ov]
  | cons c r ih => simp [ov, ih]; omega
theorem ov_rev (xs : List (Int × Bool)) : ov xs.reverse = ov xs := by
  induction xs with
  | nil => rfl
  | cons c r ih => rw [List.reverse_cons, ov_app, ih]; simp [ov]; omega
theorem un_rev (xs : List (Int × Bool)) : un xs.reverse = xs.length - ov xs := by
  have h1 := ov_un xs.reverse
  rw [ov_rev, List.length_reverse] at h1
  omega
theorem ov_le (xs : List (Int × Bool)) : ov xs ≤ xs.length := by
  have := ov_un xs; omega
/-- the quotient times the divisor, by the rows as the law leads them -/
theorem q_rows (X : Int) (xs : List (Int × Bool)) (hp : PlOk xs) : q X 1 xs.reverse * (1 + X + X * X) = X ^ (xs.length - ov xs) - ((rowF X (1, 0) xs).1 + (rowF X (0, 1) xs).2) + (-1) ^ xs.length * X ^ ov xs := by
  have h := q_tr X xs.reverse (plOk_rev hp)
  rw [un_rev, ov_rev, List.length_reverse, ← rowF_eq, ← rowF_eq] at h
  exact h
theorem dv111 (w : Nat) : dval w [1, 1, 1] = 1 + 2 ^ w + 2 ^ w * 2 ^ w := by simp [dval]; grind
/-- the law's coefficients -/
theorem law_coefs (xs : List (Int × Bool)) (hp : PlOk xs) (h3 : 3 ≤ xs.length) (h8 : xs.length ≤ 8) : ∃ l : List Int, l.length = xs.length - 1 ∧ Small l ∧ (∀ X Y, q X Y xs.reverse = evalH l X Y) ∧ l = l.reverse.map (· * (-1) ^ xs.length) := by
  obtain ⟨l, l1, l2, l3, l4⟩ := coefs xs.reverse (plOk_rev hp) (by rw [List.length_reverse]; omega) (by rw [List.length_reverse]; omega)
  rw [List.length_reverse] at l1 l4
  exact ⟨l, l1, l2, l3, l4⟩
theorem V_bounds {w : Nat} (hw : 12 ≤ w) {l : List Int} {k : Nat} (hl : l.length = k + 2) (h : Small l) : 2 ^ (w * (k + 1)) ≤ dval w l + geo w (2 ^ (w - 1)) l.length ∧ dval w l + geo w (2 ^ (w - 1)) l.length < 2 ^ (w * (k + 2)) := by
  rw [← dval_shift]
  have f := figs_shift hw h
  have hlen : (l.map (· + 2 ^ (w - 1))).length = k + 2 := by rw [List.length_map, hl]
  constructor
  · have hne : l ≠ [] := by intro e; rw [e] at hl; simp at hl
    have e := List.dropLast_concat_getLast hne
    have hlast := h _ (List.getLast_mem hne)
    have hd : (l.dropLast.map (· + 2 ^ (w - 1))).length = k + 1 := by rw [List.length_map, List.length_dropLast, hl]; omega
    have f2 : FigsOk w (l.dropLast.map (· + 2 ^ (w - 1))) := figs_shift hw fun c hc => h c (List.dropLast_subset l hc)
    have n0 := dval_nonneg f2
    rw [← e, List.map_append, dval_append, hd]
    obtain ⟨h1, h2⟩ := half_two hw
    have p : (0 : Int) < 2 ^ (w * (k + 1)) := Int.pow_pos (by decide)
    have hd1 : (1 : Int) ≤ dval w (List.map (· + 2 ^ (w - 1)) [l.getLast hne]) := by simp [dval]; omega
    have := Int.mul_le_mul_of_nonneg_left hd1 (Int.le_of_lt p)
    omega
  · have := dval_lt f
    rw [hlen] at this
    exact this
theorem evalH_one (l : List Int) : evalH l 1 1 = l.sum := by
  induction l with
  | nil => rfl
  | cons c r ih => simp [evalH, ih, Int.one_pow]
noncomputable def evs : List Int → List Int
  | [] => []
  | [a] => [a]
  | a :: _ :: r => a :: evs r
theorem evalH_alt : ∀ l : List Int, evalH l (-1) 1 = (evs l).sum - (evs l.tail).sum
  | [] => rfl
  | [a] => by simp [evalH, evs]
  | [a, b] => by simp [evalH, evs]; omega
  | a :: b :: c :: r => by
    have h := evalH_alt (c :: r)
    simp only [evalH, List.tail_cons, evs, List.sum_cons, Int.one_pow, Int.mul_one] at h ⊢
    cases r with
    | nil => simp [evalH, evs] at h ⊢; omega
    | cons d r' => simp only [evs, List.sum_cons] at h ⊢; omega
theorem idx2 : ∀ n : Nat, n < 8 → ∀ k : Nat, k < 2 → sliceRange (sliceBounds (some (k : Int)) none (some 2) n).1 (sliceBounds (some (k : Int)) none (some 2) n).2.1 (sliceBounds (some (k : Int)) none (some 2) n).2.2 = (List.range n).filter fun i => i % 2 == k := by decide +kernel
theorem pick2 (l : List Int) (k : Nat) (hk : k < 2) (h : l.length < 8) : pickNums l (some (k : Int)) none (some 2) = ((List.range l.length).filter fun i => i % 2 == k).filterMap (l[·]?) := by
  unfold pickNums
  rw [idx2 _ h k hk]
theorem picks : ∀ l : List Int, 2 ≤ l.length → l.length ≤ 7 → pickNums l (some 0) none (some 2) = evs l ∧ pickNums l (some 1) none (some 2) = evs l.tail := by
  intro l h2 h7
  have a := pick2 l 0 (by decide) (by omega)
  have b := pick2 l 1 (by decide) (by omega)
  refine ⟨a.trans ?_, b.trans ?_⟩
  · match l, h2, h7 with
    | [a, b], _, _ => simp [List.range_succ, evs]
    | [a, b, c], _, _ => simp [List.range_succ, evs]
    | [a, b, c, d], _, _ => simp [List.range_succ, evs]
    | [a, b, c, d, e], _, _ => simp [List.range_succ, evs]
    | [a, b, c, d, e, f], _, _ => simp [List.range_succ, evs]
    | [a, b, c, d, e, f, g], _, _ => simp [List.range_succ, evs]
    | _ :: _ :: _ :: _ :: _ :: _ :: _ :: _ :: r, _, h => simp at h
  · match l, h2, h7 with
    | [a, b], _, _ => simp [List.range_succ, evs]
    | [a, b, c], _, _ => simp [List.range_succ, evs]
    | [a, b, c, d], _, _ => simp [List.range_succ, evs]
    | [a, b, c, d, e], _, _ => simp [List.range_succ, evs]
    | [a, b, c, d, e, f], _, _ => simp [List.range_succ, evs]
    | [a, b, c, d, e, f, g], _, _ => simp [List.range_succ, evs]
    | _ :: _ :: _ :: _ :: _ :: _ :: _ :: _ :: r, _, h => simp at h
theorem worth_sum (t : Int) : ∀ l : List Int, evalH l t 1 = ((rangeKs 0 l.length).map fun j => l.getD j.toNat 0 * t ^ j.toNat).sum := by
  intro l
  have key : ∀ (l : List Int), evalH l t 1 = ((List.range l.length).map fun j => l.getD j 0 * t ^ j).sum := by
    intro l
    induction l with
    | nil => rfl
    | cons c r ih =>
      rw [List.length_cons, List.range_succ_eq_map, List.map_cons, List.map_map, List.sum_cons, evalH, ih]
      have : ∀ L : List Nat, (L.map ((fun j => (c :: r).getD j 0 * t ^ j) ∘ Nat.succ)).sum = t * (L.map fun j => r.getD j 0 * t ^ j).sum := by
        intro L
        induction L with
        | nil => simp
        | cons a L ih2 =>
          simp only [List.map_cons, List.sum_cons, ih2, Function.comp_apply, List.getD_cons_succ, Nat.succ_eq_add_one, Int.pow_succ]
          grind
      rw [this]
      simp [Int.one_pow]
  rw [key]
  unfold rangeKs
  rw [List.map_map]
  congr 1
  refine List.map_congr_left fun j _ => ?_
  simp
end Mine
set_option Elab.async false
set_option maxRecDepth 100000
set_option maxHeartbeats 4000000
set_option linter.unusedVariables false
namespace Mine
theorem paintF_eq (x : Int × Int × Int) (xs : List (Int × Bool)) : paintF x xs = paintR x xs.reverse := by
  have h : ∀ ys, paintR x ys = ys.foldr (fun c r => paint c r) x := by
    intro ys; induction ys with
    | nil => rfl
    | cons c r ih => simp [paintR, ih]
  rw [h, List.foldr_reverse]; rfl
theorem alN_ways (xs : List (Int × Bool)) : alN xs 9 = (ways.filter fun p => decide (paintR (0, p.1, p.2) xs.reverse = (0, p.1, p.2))).length := by
  have e : ways = (List.range 9).map fun k => (((k / 3 : Nat) : Int), ((k % 3 : Nat) : Int)) := by decide
  rw [e, List.filter_map, List.length_map]
  unfold alN
  refine congrArg List.length (List.filter_congr fun k _ => ?_)
  simp only [Function.comp_apply, paintF_eq]
theorem odd_sign {n : Nat} (h : n % 2 = 1) : (-1 : Int) ^ n = -1 := by
  have e : n = 2 * (n / 2) + 1 := by omega
  rw [e, Int.pow_succ, Int.pow_mul]
  simp [Int.one_pow]
theorem even_sign {n : Nat} (h : n % 2 = 0) : (-1 : Int) ^ n = 1 := by
  have e : n = 2 * (n / 2) := by omega
  rw [e, Int.pow_mul]
  simp [Int.one_pow]
theorem to_nat (ww n p : Nat) (hp : p ≤ n) : ((ww : Int) * ((n : Int) - (p : Int))).toNat = ww * (n - p) ∧ ((ww : Int) * (p : Int)).toNat = ww * p := by
  constructor
  · rw [← Int.natCast_sub hp, ← Int.natCast_mul, Int.toNat_natCast]
  · rw [← Int.natCast_mul, Int.toNat_natCast]
theorem dvd_odd {ww n p : Nat} (hp : p ≤ n) (h : ((n : Int)).fmod 2 = 1) (R : Int) : 1 * 2 ^ ((ww : Int) * ((n : Int) - (p : Int))).toNat - R - 1 * 2 ^ ((ww : Int) * (p : Int)).toNat = 2 ^ (ww * (n - p)) - R + (-1) ^ n * 2 ^ (ww * p) := by
  rw [Int.fmod_eq_emod_of_nonneg _ (by decide)] at h
  obtain ⟨e1, e2⟩ := to_nat ww n p hp
  rw [e1, e2, odd_sign (by omega), Int.one_mul, Int.one_mul]
  omega
theorem dvd_even {ww n p : Nat} (hp : p ≤ n) (h : ¬ ((n : Int)).fmod 2 = 1) (R : Int) : 1 * 2 ^ ((ww : Int) * ((n : Int) - (p : Int))).toNat - R + 1 * 2 ^ ((ww : Int) * (p : Int)).toNat = 2 ^ (ww * (n - p)) - R + (-1) ^ n * 2 ^ (ww * p) := by
  rw [Int.fmod_eq_emod_of_nonneg _ (by decide)] at h
  obtain ⟨e1, e2⟩ := to_nat ww n p hp
  rw [e1, e2, even_sign (by omega), Int.one_mul, Int.one_mul]
/-- the dividend is the quotient times the divisor -/
theorem law_dvd (w : Nat) (xs : List (Int × Bool)) (hp : PlOk xs) :
  2 ^ (w * (xs.length - ov xs)) - ((rowF (2 ^ w) (1, 0) xs).1 + (rowF (2 ^ w) (0, 1) xs).2) + (-1) ^ xs.length * 2 ^ (w * ov xs) = q (2 ^ w) 1 xs.reverse * dval w [1, 1, 1] := by
  have h := q_rows (2 ^ w) xs hp
  rw [dv111, h, ← Int.pow_mul, ← Int.pow_mul]
/-- what c_figures asks of the quotient -/
theorem law_V (w : Nat) (hw : 12 ≤ w) (xs : List (Int × Bool)) (hp : PlOk xs) (h3 : 3 ≤ xs.length) (h8 : xs.length ≤ 8) :
  2 ^ (w * (xs.length - 2)) ≤ q (2 ^ w) 1 xs.reverse + geo w (2 ^ (w - 1)) (xs.length - 1) ∧ q (2 ^ w) 1 xs.reverse + geo w (2 ^ (w - 1)) (xs.length - 1) < 2 ^ (w * (xs.length - 1)) := by
  obtain ⟨l, l1, l2, l3, l4⟩ := law_coefs xs hp h3 h8
  rw [l3, evalH_dval]
  have h := V_bounds hw (l := l) (k := xs.length - 3) (by omega) l2
  rw [l1, show xs.length - 3 + 1 = xs.length - 2 by omega, show xs.length - 3 + 2 = xs.length - 1 by omega] at h
  exact h
/-- what the law asks of the figures -/
theorem law_asks (w : Nat) (hw : 12 ≤ w) (t : Int) (xs : List (Int × Bool)) (hp : PlOk xs) (h3 : 3 ≤ xs.length) (h8 : xs.length ≤ 8) (G : List Int) (hl : G.length = xs.length - 1)
  (hf : FigsOk w (G.map (· + 2 ^ (w - 1)))) (hd : dval w (G.map (· + 2 ^ (w - 1))) = q (2 ^ w) 1 xs.reverse + geo w (2 ^ (w - 1)) (xs.length - 1)) :
  G = G.reverse.map (· * (-1) ^ xs.length) ∧ G.sum = (if seatsOf xs = [1, 2, 0] ∨ seatsOf xs = [2, 0, 1] then 1 else 0) ∧
  ((alN xs 9 = 1) ↔ ¬ ((pickNums G (some 0) none (some 2)).sum - (pickNums G (some 1) none (some 2)).sum) % 3 = 0) ∧
  ((rangeKs 0 (xs.length - 1)).map fun j => G.getD j.toNat 0 * t ^ j.toNat).sum * (1 + t + t * t) = t ^ (xs.length - ov xs) - ((rowF t (1, 0) xs).1 + (rowF t (0, 1) xs).2) + (-1) ^ xs.length * t ^ ov xs ∧ Small G := by
  obtain ⟨l, l1, l2, l3, l4⟩ := law_coefs xs hp h3 h8
  rw [l3, evalH_dval] at hd
  have e : G = l := figs_are hw l2 (by rw [hl, l1]) hf (by rw [hd, l1])
  subst e
  refine ⟨l4, ?_, ?_, ?_, l2⟩
  · rw [← evalH_one, ← l3, q_one _ (plOk_rev hp), seats_rev]
  · obtain ⟨p1, p2⟩ := picks G (by omega) (by omega)
    rw [p1, p2, ← evalH_alt, ← l3, alN_ways]
    exact alike_law _ (plOk_rev hp)
  · rw [← hl, ← worth_sum, ← l3]
    exact q_rows t xs hp
end Mine
set_option Elab.async false
set_option maxRecDepth 100000
set_option maxHeartbeats 4000000
set_option linter.unusedVariables false
namespace Mine
open LCg
theorem rev_walks {prog : Program} {w : World} {A : Around} (hh : A.handled = none) (I l : Addr) (hne : l ≠ I) (vs : List Value) :
    Walks prog w A I [I, l] [I] vs.length (fun i v => vs.reverse.toArray[i]? = some v) (fun i h => i ≤ vs.length ∧ h.IsRevIter I l ((vs.length : Int) - 1 - (i : Int)) ∧ h.IsList l vs.toArray) := by
  have W := Walks.listRev (prog := prog) (w := w) hh I l hne vs.toArray
  have hlen : vs.toArray.size = vs.length := by simp
  rw [hlen] at W
  exact { sub := W.sub, frame := W.frame, done := W.done, self := W.self,
          item := fun i s Q E hi st hQ => W.item i s Q E hi st fun v h' tk hP => hQ v h' tk (by
            have hP' : vs[vs.length - 1 - i]? = some v := by simpa using hP
            have : vs.reverse[i]? = some v := by rw [List.getElem?_reverse hi]; exact hP'
            simpa using this) }
theorem rev_st {h₀ : Heap} {L I l : Addr} {vs : List Value} : ∀ i (h h' : Heap) (o : Obj) (nw : List (Addr × Obj)), (i ≤ vs.length ∧ h.IsRevIter I l ((vs.length : Int) - 1 - (i : Int)) ∧ h.IsList l vs.toArray) → h.get? I = some o → h'.get? I = some o → (∀ b o, h₀.get? b = some o → h'.get? b = some o) → News h₀ L h' nw → SrcAt h₀ l vs.toArray nw →
    (i ≤ vs.length ∧ h'.IsRevIter I l ((vs.length : Int) - 1 - (i : Int)) ∧ h'.IsList l vs.toArray) :=
  fun i h h' o nw st e e' k N S => ⟨st.1, st.2.1.at fun o' q => by rw [e] at q; cases q; exact e', S.list k N⟩
section
variable {prog : Program} {w : World} {A : Around} {E : Value → Shared → Prop} {s : Shared} {h₀ : Heap} {L : Addr} {m : Str → Option Value} {env : Env}
noncomputable def CompRev (prog : Program) (w : World) (A : Around) (h₀ : Heap) (L : Addr) (m : Str → Option Value) (env : Env) (elt : PySem.Expr) (x : Str) (scope : Scope) (cl : List (Str × Addr)) (Fin : Shared → List Value → List (Addr × Obj) → Prop) (xv : Value) (s₁ : Shared) : Prop :=
  ∃ (I ax : Addr) (vs : List Value) (n : Nat) (nw : List (Addr × Obj)), xv = .ref I ∧ A.handled = none ∧ Fr h₀ L s₁.heap m ∧ News h₀ L s₁.heap ((I, revObj ax ((vs.length : Int) - 1)) :: nw) ∧ (∀ p ∈ nw, p.1 < I) ∧ (ax, listOf vs.toArray n) ∈ nw ∧ vs.length ≤ sizeLine ∧
    ∀ s₂ : Shared, (∃ h, s₂ = { s₁ with heap := h }) → CompRest prog w A h₀ L m env elt x scope cl s₂ (SrcAt h₀ ax vs.toArray) (fun i v => vs.reverse.toArray[i]? = some v) (Fin s₂) vs.length 0 [] nw
theorem CompRev.mk' {elt : PySem.Expr} {x : Str} {scope : Scope} {cl : List (Str × Addr)} {Fin : Shared → List Value → List (Addr × Obj) → Prop} {I ax : Addr} {vs : List Value} {n : Nat} {nw : List (Addr × Obj)} {s₁ : Shared}
    (hh : A.handled = none) (F : Fr h₀ L s₁.heap m) (N : News h₀ L s₁.heap ((I, revObj ax ((vs.length : Int) - 1)) :: nw)) (lt : ∀ p ∈ nw, p.1 < I) (hm : (ax, listOf vs.toArray n) ∈ nw) (hsz : vs.length ≤ sizeLine)
    (h : ∀ g, CompRest prog w A h₀ L m env elt x scope cl { s₁ with heap := g } (SrcAt h₀ ax vs.toArray) (fun i v => vs.reverse.toArray[i]? = some v) (Fin { s₁ with heap := g }) vs.reverse.length 0 [] nw) :
    CompRev prog w A h₀ L m env elt x scope cl Fin (.ref I) s₁ := ⟨I, ax, vs, n, nw, rfl, hh, F, N, lt, hm, hsz, fun _ ⟨g, e⟩ => e ▸ (by have := h g; rw [List.length_reverse] at this; exact this)⟩
/-- a comprehension over the reverse of a list -/
theorem ListComp_R {elt iter : PySem.Expr} {x : Str} {px : Pos} {scope : Scope} {cl : List (Str × Addr)} {pos : Pos} {Q : Value → Shared → Prop} (F₀ : Fr h₀ L s.heap m)
    (hclos : closureFor scope env = pure cl) (hcell : ∀ y ∈ scope.names, y.2 ≠ .cell) (hkind : scope.kind = .function)
    (hnames : ∀ y ∈ scope.names, y.2 = .local → scope.names.lookup y.1 = some .local) (hx : scope.names.lookup x = some .local)
    (h : wpAny (model prog w) A (eval iter env) (CompRev prog w A h₀ L m env elt x scope cl (fun s₂ => FinE h₀ L m s₂ Q)) E s)
    (hs : ∀ x, foldedSetIterable iter env x = pure x := by intro _; rfl) :
    wpAny (model prog w) A (eval (.ListComp elt [⟨.Name x px, iter, [], 0⟩] scope pos) env) Q E s := by
  rw [eval_ListComp]
  refine wpAny_comprehension_free (use := none) rfl hs hclos hkind hnames (wpAny_mono h (fun xv s₁ h₁ => ?_) fun _ _ e => e)
  obtain ⟨I, ax, vs, n, nw, rfl, hh, F, N, lt, hm, hsz, R⟩ := h₁
  have hI := N _ (.head _)
  have hax := N _ (.tail _ hm)
  have hne : ax ≠ I := fun e => by
    have := lt _ hm
    rw [show (ax, listOf vs.toArray n).1 = I from e] at this
    exact Nat.lt_irrefl _ this
  have hl : s₁.heap.IsList ax vs.toArray := ⟨_, hax.1, rfl, n, rfl⟩
  have hit : s₁.heap.IsRevIter I ax ((vs.length : Int) - 1) := ⟨_, hI.1, rfl, rfl⟩
  have hN : News h₀ L s₁.heap nw := fun p hp => N p (.tail _ hp)
  refine wpAny_pyIter_revIter hit ?_
  refine block_U (rev_walks hh I ax hne vs) hsz (fun i h st => by obtain ⟨o, e, _⟩ := st.2.1; exact ⟨o, e⟩) rev_st hcell hkind hx ⟨Nat.zero_le _, by rw [Int.natCast_zero, Int.sub_zero]; exact hit, hl⟩ (fun b hb => ?_)
    F hN (Ne.symm hI.2.1) hI.2.2 (fun p hp => Nat.ne_of_lt (lt p hp)) (.inr ⟨_, hm, rfl, n, rfl⟩) (R _ ⟨s₁.heap, rfl⟩) ?_
  · rcases List.mem_cons.mp hb with rfl | hb
    · exact Heap.lt_size hI.1
    · rw [List.mem_singleton.mp hb]; exact Heap.lt_size hax.1
  · intro D C h tk m' ys news' F' N' o1 hn hC₀ hD₀ hCL hDL hCD offC fin
    refine ⟨m', hn, fun h'' hs'' => fin D h'' tk (F'.change hs'' hCL hC₀) (fun p hp => ?_) o1⟩
    refine ⟨hs''.extBut _ _ ?_ (N' p hp).1, (N' p hp).2⟩
    rcases List.mem_cons.mp hp with rfl | hp
    · exact Ne.symm hCD
    · exact offC p hp
end
end Mine
set_option Elab.async false
set_option maxRecDepth 100000
set_option maxHeartbeats 4000000
set_option linter.unusedVariables false
namespace Mine
theorem tst_empty : TSt #[] #[] [] := ⟨.inl rfl, .inl rfl, (fun _ h => nomatch h), (fun _ h => nomatch h), (fun _ h => nomatch h)⟩
/-- of a ledger, what stands apart from the two tables and from one cell -/
theorem keep_fig {g h : Heap} {L c6 : Addr} {o6 : Obj} {all : List (Addr × Obj)} (N : News g L h all) (m37 : (37, tabObj #[]) ∈ all) (m30 : (30, tabObj #[]) ∈ all) (m6 : (c6, o6) ∈ all) (d6 : o6.data = .cell none) :
    ∃ K : List (Addr × Obj), (∀ p ∈ K, p ∈ all) ∧ (∀ p ∈ K, p.1 ≠ 37 ∧ p.1 ≠ 30 ∧ p.1 ≠ c6) ∧ (∀ a o, (a, o) ∈ all → (∀ ps, o.data ≠ .fields ps) → o.data ≠ .cell none → (a, o) ∈ K) := by
  classical
  refine ⟨all.filter fun p => decide (p.1 ≠ 37 ∧ p.1 ≠ 30 ∧ p.1 ≠ c6), fun p hp => (List.mem_filter.mp hp).1, fun p hp => of_decide_eq_true (List.mem_filter.mp hp).2, fun a o hm h1 h2 => List.mem_filter.mpr ⟨hm, decide_eq_true ⟨?_, ?_, ?_⟩⟩⟩
  · exact ne_data N hm m37 (h1 _)
  · exact ne_data N hm m30 (h1 _)
  · exact ne_data N hm m6 (by rw [d6]; exact h2)
theorem cross_keep {all K : List (Addr × Obj)} (hk : ∀ a o, (a, o) ∈ all → (∀ ps, o.data ≠ .fields ps) → o.data ≠ .cell none → (a, o) ∈ K) {vs : List Value} {xs : List (Int × Bool)} (h : CrossAre all vs xs) : CrossAre K vs xs := by
  induction h with
  | nil => exact .nil
  | cons a _ ih => exact .cons (hk _ _ a (fun ps h => by simp [tupObj] at h) (by simp [tupObj])) ih
section
variable {prog : Program} {w : World} {A : Around} {E : Value → Shared → Prop} {s : Shared} {Q : Value → Shared → Prop} {value slice : PySem.Expr} {t u : Tok} {l : Addr}
theorem sub_any {vs : List Value} {x : Value} {i : Int} (hl : s.heap.IsList l vs.toArray) (h0 : 0 ≤ i) (h1 : i < 1000) (hx : vs[i.toNat]? = some x) (h : Q x s)
    (hs : subscripted slice false (.ref l) (.int i u) = operate [.ref l, .int i u] (getItem (.ref l) (.int i u)) := by with_unfolding_all rfl) :
    wpAny (model prog w) A (subscriptTail value slice (.ref l) (.int i u)) Q E s :=
  tail_any hl.typeIs slot_list_getitem.lookup (wpAny_getItem_list hl h0 (by omega) (x := x) (by simpa using hx) h) hs
end
section
variable {prog : Program} {w : World} {A : Around} {s : Shared} {h₀ : Heap} {L : Addr} {m : Str → Option Value} {env : Env}
/-- a comprehension over a range that changes nothing -/
theorem comp_range {elt : PySem.Expr} {x : Str} {scope : Scope} {cl : List (Str × Addr)} {S : List (Addr × Obj) → Prop} {a : Int} {Fin : List Value → List (Addr × Obj) → Prop} {news : List (Addr × Obj)} (hS : S news) (n : Nat) (K : Nat → List Value → Prop)
    (turn : ∀ i ys t, i < n → K i ys → ∀ I oI C oC D m₂ h tk (E' : Value → Shared → Prop) (Q : Value → Shared → Prop), LCg.NsObj oC m₂ → m₂ x = some (.int (a + (i : Int)) t) → Fr h₀ L h m → News h₀ L h ((I, oI) :: (C, oC) :: (D, LCg.lst ys) :: news) →
        (∀ y h' tk', K (i + 1) (ys ++ [y]) → Fr h₀ L h' m → News h₀ L h' ((I, oI) :: (C, oC) :: (D, LCg.lst ys) :: news) → Q y { s with heap := h', toks := tk' }) →
        wpAny (model prog w) A (eval elt (compEnvC scope cl C env)) Q E' { s with heap := h, toks := tk })
    (done : ∀ ys, K n ys → Fin ys news) :
    ∀ k i ys, i + k = n → K i ys → LCg.CompRest prog w A h₀ L m env elt x scope cl s S (fun i v => ∃ t, v = .int (a + (i : Int)) t) Fin k i ys news := by
  intro k
  induction k with
  | zero => intro i ys hi hK; cases hi; exact LCg.CompRest.zero (done ys hK)
  | succ k ih =>
    intro i ys hi hK
    refine LCg.CompRest.succ fun v I oI C oC D m₂ h tk E' hv a' b F N off ne => ?_
    obtain ⟨t, rfl⟩ := hv
    exact turn i ys t (by omega) hK I oI C oC D m₂ h tk E' _ a' b F N fun y h' tk' hK' F' N' => LCg.CompEnd.intro F' N' news (fun p hp => hp) off hS (ih (i + 1) _ (by omega) hK')
end
theorem keep_list {all K : List (Addr × Obj)} (hk : ∀ a o, (a, o) ∈ all → (∀ ps, o.data ≠ .fields ps) → o.data ≠ .cell none → (a, o) ∈ K) {a : Addr} {vs : Array Value} {n : Nat} (h : (a, listOf vs n) ∈ all) : (a, listOf vs n) ∈ K :=
  hk a _ h (fun ps h => by simp [W.listOf] at h) (by simp [W.listOf])
theorem keep_cell {all K : List (Addr × Obj)} (hk : ∀ a o, (a, o) ∈ all → (∀ ps, o.data ≠ .fields ps) → o.data ≠ .cell none → (a, o) ∈ K) {a : Addr} {o : Obj} {v : Value} (d : o.data = .cell (some v)) (h : (a, o) ∈ all) : (a, o) ∈ K :=
  hk a _ h (fun ps h => by rw [d] at h; cases h) (by rw [d]; simp)
theorem times_lo {x : Int} (h : 0 ≤ x) : 1 ≤ 1 + x := by omega
theorem times_hi {x : Int} (h : x < 10 ^ Int.toNat 12) : 1 + x ≤ 1000000000000 := by
  have e13 : (10 : Int) ^ Int.toNat 12 = 1000000000000 := by decide
  omega
section
variable {prog : Program} {w : World} {A : Around} {E : Value → Shared → Prop} {s : Shared} {a b : Addr} {xs ys : List Value} {ns : List Int} {Q : Value → Shared → Prop}
theorem ne_same (ha : s.heap.IsList a xs.toArray) (hb : s.heap.IsList b ys.toArray) (hi : IntsAre xs ns) (hj : IntsAre ys ns) (hu : A.units + 64 < cLine) (h : Q (.bool false) s) :
    wpAny (model prog w) A (compareOp .NotEq (.ref a) (.ref b)) Q E s := ke_ne_ints ha hb hi hj hu (by simpa using h)
end
theorem bits_sign (n : Nat) : Builtin.Int.intBits ((-1) ^ ((n : Int)).toNat) ≤ 1 := by
  rw [Int.toNat_natCast]
  rcases sign n with h | h <;> rw [h] <;> decide
theorem bits_small {c : Int} (h : -1034 ≤ c ∧ c ≤ 1034) : Builtin.Int.intBits c ≤ 20 := bits_of_natAbs (by omega)
/-- two ways to one number -/
noncomputable def IntQ (g : Heap) (L : Addr) (m : Str → Option Value) (news : List (Addr × Obj)) (D : Int) (s : Shared) (v : Value) (s' : Shared) : Prop :=
  ∃ (t : Tok) (h' : Heap) (tk' : Nat), v = .int D t ∧ s' = { s with heap := h', toks := tk' } ∧ Fr g L h' m ∧ News g L h' news
theorem int_is {s : Shared} {g h' : Heap} {L : Addr} {m : Str → Option Value} {news : List (Addr × Obj)} {D D' : Int} {t : Tok} {tk' : Nat} (F : Fr g L h' m) (N : News g L h' news) (e : D' = D) : IntQ g L m news D s (.int D' t) { s with heap := h', toks := tk' } :=
  ⟨t, h', tk', by rw [e], rfl, F, N⟩
theorem int_is' {s : Shared} {g h' : Heap} {L : Addr} {m : Str → Option Value} {news all : List (Addr × Obj)} {D D' : Int} {t : Tok} {tk' : Nat} (F : Fr g L h' m) (N : News g L h' all) (hs : ∀ p ∈ news, p ∈ all) (e : D' = D) : IntQ g L m news D s (.int D' t) { s with heap := h', toks := tk' } :=
  ⟨t, h', tk', by rw [e], rfl, F, news_sub N hs⟩
theorem int_cut {M : Model} {A : Around} {s : Shared} {g : Heap} {L : Addr} {m : Str → Option Value} {news : List (Addr × Obj)} (D : Int) {c : Sem Value} {Q E : Value → Shared → Prop}
  (F : Fr g L s.heap m) (N : News g L s.heap news) (h1 : wpAny M A c (IntQ g L m news D s) E s)
  (h2 : ∀ t h' tk', Fr g L h' m → News g L h' news → Q (.int D t) { s with heap := h', toks := tk' }) : wpAny M A c Q E s := by
  refine wpAny_mono h1 ?_ (fun _ _ e => e)
  rintro v s' ⟨t, h', tk', rfl, rfl, F', N'⟩
  exact h2 t h' tk' F' N'
section
variable {w : World} {pr : Program} {p : Program} {loose : List Str} {mean : ExcName → Option Value} {mg mb : Str → Option Value}
  {dp un : Nat} {gd : Option (List Code)} {cn : Str} {cs : Scope} {a : Addr} {ccd : Value} {cl : List (Str × Addr)} {outer : List Env} {A₀ : Around} {base h₀ : Heap} {L : Addr} {m : Str → Option Value} {s : Shared} {Q E : Value → Shared → Prop} {all : List (Addr × Obj)}
/-- the figures, called by the law -/
theorem fig_call {dvd extra times : Int} {n ww : Nat} {t1 t2 t3 t4 t5 : Tok} {c6 : Addr} {o6 : Obj} {xs : List (Int × Bool)}
  (B : Below A₀ base outer h₀) (F : Fr h₀ L s.heap m) (X : (Mine.hd.heap_1 w.params).In h₀) (N : News h₀ L s.heap all) (T : Top p loose mean mg mb h₀) (hcs : cs.kind = .function)
  (C : CodeHd h₀ 41 37) (C2 : CodeHd h₀ 34 30) (hd : dp + 300 < recursionLimit) (hu : un + 3000 < cLine)
  (m37 : (37, tabObj #[]) ∈ all) (m30 : (30, tabObj #[]) ∈ all) (m6 : (c6, o6) ∈ all) (d6 : o6.data = .cell none)
  (hn : n = xs.length) (hp : PlOk xs) (hn3 : 3 ≤ xs.length) (hn8 : xs.length ≤ 8) (hw : 12 ≤ ww) (hw2 : ww ≤ 71) (ht1 : 1 ≤ times) (ht2 : times ≤ 1000000000000)
  (hq : dvd = 2 ^ (ww * (xs.length - ov xs)) - ((rowF (2 ^ ww) (1, 0) xs).1 + (rowF (2 ^ ww) (0, 1) xs).2) + (-1) ^ xs.length * 2 ^ (ww * ov xs))
  (hret : ∀ (c : Addr) (vs : List Value) (nc : Nat) (G : List Int) (h' : Heap) (tk' : Nat) (K : List (Addr × Obj)), Fr h₀ L h' m → News h₀ L h' ((c6, o6) :: (c, listOf vs.toArray nc) :: K) → Off c6 ((c, listOf vs.toArray nc) :: K) →
    (∀ a o, (a, o) ∈ all → (∀ ps, o.data ≠ .fields ps) → o.data ≠ .cell none → (a, o) ∈ K) → (∃ qs, (37, tabObj qs) ∈ K) → (∃ qs, (30, tabObj qs) ∈ K) → IntsAre vs G → G.length = xs.length - 1 → FigsOk ww (G.map (· + 2 ^ (ww - 1))) → dval ww (G.map (· + 2 ^ (ww - 1))) = q (2 ^ ww) 1 xs.reverse + geo ww (2 ^ (ww - 1)) (xs.length - 1) →
    Q (.ref c) { s with heap := h', toks := tk' }) :
  wpAny (model pr w) (ktrTop dp un gd cn cs L a ccd cl outer) (call (.ref 234) [.int dvd t1, .int n t2, .int ww t3, .int times t4, .int extra t5]) Q E s := by
  obtain ⟨K, k1, k2, k3⟩ := keep_fig N m37 m30 m6 d6
  subst hn
  have hV := law_V ww hw xs hp hn3 hn8
  have NN : News h₀ L s.heap ([(37, tabObj #[]), (30, tabObj #[])] ++ ((c6, o6) :: K)) := news_sub N fun p hp => by
    simp only [List.cons_append, List.nil_append, List.mem_cons] at hp
    rcases hp with rfl | rfl | rfl | hp
    · exact m37
    · exact m30
    · exact m6
    · exact k1 p hp
  refine c_figures (news := (c6, o6) :: K) B F X NN T hcs C C2 tst_empty ?_ hd hu hn3 hn8 hw hw2 ht1 ht2 (hq.trans (law_dvd ww xs hp)) hV.1 hV.2 ?_
  · intro p hp r hr
    simp only [List.mem_cons, List.not_mem_nil, or_false] at hp hr
    have h6 : c6 ≠ 37 ∧ c6 ≠ 30 := ⟨ne_data N m6 m37 (nf_cell (a := c6) d6 _), ne_data N m6 m30 (nf_cell (a := c6) d6 _)⟩
    rcases hp with rfl | hp
    · rcases hr with rfl | rfl
      · exact h6.1
      · exact h6.2
    · rcases hr with rfl | rfl
      · exact (k2 p hp).1
      · exact (k2 p hp).2.1
  · rintro c vs nc G h' tk' new F' N' ap mc ⟨qs, mq⟩ ⟨rs, mr⟩ hi hl hf hdv
    have h6 : ∀ r ∈ new, r.1 ≠ c6 := fun r hr => (ap r hr _ (.head _)).symm
    refine hret c vs nc G h' tk' ((37, tabObj qs) :: (30, tabObj rs) :: K) F' (news_sub N' fun p hp => ?_) (off_cons (h6 _ mc) (off_cons (h6 _ mq) (off_cons (h6 _ mr) fun p hp => (k2 p hp).2.2))) (fun a o h1 h2 h3 => .tail _ (.tail _ (k3 a o h1 h2 h3))) ⟨_, .head _⟩ ⟨_, .tail _ (.head _)⟩ hi hl hf hdv
    simp only [List.mem_cons] at hp
    rcases hp with rfl | rfl | rfl | rfl | hp
    · exact List.mem_append_right _ (.head _)
    · exact List.mem_append_left _ mc
    · exact List.mem_append_left _ mq
    · exact List.mem_append_left _ mr
    · exact List.mem_append_right _ (.tail _ hp)
end
end Mine
set_option Elab.async false
set_option maxRecDepth 100000
set_option maxHeartbeats 4000000
set_option linter.unusedVariables false
namespace Mine
open Builtin.Int (intBits)
section
variable {prog : Program} {w : World} {A : Around} {E : Value → Shared → Prop} {s : Shared} {Q : Value → Shared → Prop} {t u : Tok}
theorem ne_int_same {x y : Int} (h : x = y) (k : Q (.bool false) s) : wpAny (model prog w) A (compareOp .NotEq (.int x t) (.int y u)) Q E s :=
  PySem.P.ne_int (by rw [h]; simpa using k)
theorem eq_int_same {x y : Int} (h : x = y) (k : Q (.bool true) s) : wpAny (model prog w) A (compareOp .Eq (.int x t) (.int y u)) Q E s :=
  PySem.P.eq_int (by rw [h]; simpa using k)
theorem eq_bool_diff {x y : Bool} (h : (x == y) = false) (k : Q (.bool false) s) : wpAny (model prog w) A (compareOp .Eq (.bool x) (.bool y)) Q E s :=
  eq_bool (by rw [h]; exact k)
end
theorem bits_powN {x : Int} {k : Nat} (h : intBits x ≤ k) : ∀ n : Nat, intBits (x ^ n) ≤ n * k + 1 := by
  intro n
  induction n with
  | zero => rw [Int.pow_zero]; simp; decide
  | succ n ih =>
    rw [Int.pow_succ]
    have := intBits_mul_le ih h
    exact Nat.le_trans this (by rw [Nat.succ_mul]; omega)
theorem bits_sum {k : Nat} : ∀ {l : List Int}, (∀ x ∈ l, intBits x ≤ k) → intBits l.sum ≤ k + l.length := by
  intro l
  induction l with
  | nil => intro _; exact Nat.zero_le _
  | cons a r ih =>
    intro h
    have h1 := ih fun x hx => h x (.tail _ hx)
    have h2 := h a (.head _)
    rw [List.sum_cons, List.length_cons]
    have := intBits_add_le (bits_up h2 (show k ≤ k + r.length by omega)) h1
    omega
theorem small_getD {G : List Int} (h : Small G) (j : Nat) : -1034 ≤ G.getD j 0 ∧ G.getD j 0 ≤ 1034 := by
  rw [List.getD_eq_getElem?_getD]
  cases e : G[j]? with
  | none => simp
  | some c => exact h c (List.mem_of_getElem? e)
/-- the figures' worth fits -/
theorem bits_worth {G : List Int} {t : Int} (h : Small G) (ht : intBits t ≤ 20) {n : Nat} (hn : n ≤ 7) : intBits ((rangeKs 0 n).map fun j => G.getD j.toNat 0 * t ^ j.toNat).sum ≤ 400 := by
  have key : ∀ x ∈ (rangeKs 0 n).map (fun j => G.getD j.toNat 0 * t ^ j.toNat), intBits x ≤ 300 := by
    intro x hx
    obtain ⟨j, hj, rfl⟩ := List.mem_map.mp hx
    unfold rangeKs at hj
    obtain ⟨i, hi, rfl⟩ := List.mem_map.mp hj
    have hi' : i < n := List.mem_range.mp hi
    have e : (0 + (i : Int)).toNat = i := by omega
    rw [e]
    have h1 := bits_small (small_getD h i)
    have h2 := bits_powN ht i
    have := intBits_mul_le h1 h2
    have h3 : i * 20 ≤ 7 * 20 := Nat.mul_le_mul (by omega) (Nat.le_refl _)
    omega
  have h1 := bits_sum key
  have h2 : ((rangeKs 0 n).map fun j => G.getD j.toNat 0 * t ^ j.toNat).length = n := by simp [rangeKs]
  omega
theorem range_snoc (i : Nat) (f : Int → Int) : (rangeKs 0 (i + 1)).map f = (rangeKs 0 i).map f ++ [f (0 + (i : Int))] := by
  simp [rangeKs, List.range_succ]
theorem range_pred {n : Nat} (h3 : 3 ≤ n) (h8 : n ≤ 8) : Builtin.Range.small 0 ((n : Int) - 1) 1 = true ∧ Builtin.Range.rangeSize 0 ((n : Int) - 1) 1 = ((n - 1 : Nat) : Int) := by
  have e : (n : Int) - 1 = ((n - 1 : Nat) : Int) := by omega
  rw [e]
  exact range_n _ (by omega)
theorem nat64 {t : Int} (h1 : -1000000 ≤ t) (h2 : t ≤ 1000000) : t.natAbs < 2 ^ 64 := by omega
theorem ix0 (i : Nat) : (0 : Int) ≤ 0 + (i : Int) := by omega
theorem ix1 {i n : Nat} {G : List Int} (h : i < n - 1) (l : G.length = n - 1) : 0 + (i : Int) < (G.length : Int) := by rw [l]; omega
theorem ix2 {i n : Nat} (h : i < n - 1) (h8 : n ≤ 8) : 0 + (i : Int) < 1000 := by omega
theorem ix3 {i : Nat} (h : 0 + (i : Int) < 1000) : 0 + (i : Int) ≤ 1000000 := by omega
theorem ix4 {i n : Nat} (h : i < n - 1) (h8 : n ≤ 8) : (0 + (i : Int)).toNat * 20 + 1 ≤ 200 := by omega
theorem ix5 {p n : Nat} (h : p ≤ n) (h8 : n ≤ 8) : (p : Int) ≤ 1000000 := by omega
theorem ix6 {p n : Nat} (h : p ≤ n) (h8 : n ≤ 8) : ((p : Int)).toNat * 20 + 1 ≤ 200 := by omega
theorem ix7 {p n : Nat} (h : p ≤ n) : (0 : Int) ≤ (n : Int) - (p : Int) := by omega
theorem ix8 {p n : Nat} (h8 : n ≤ 8) : (n : Int) - (p : Int) ≤ 1000000 := by omega
theorem pred_cast {n : Nat} (h : 3 ≤ n) : ((n - 1 : Nat) : Int) = (n : Int) - 1 := by omega
theorem pred63 {n : Nat} (h : n ≤ 8) : (n : Int) - 1 < 2 ^ 63 := by omega
theorem pred100 {n : Nat} (h : n ≤ 8) : n - 1 ≤ 100 := by omega
theorem pred7 {n : Nat} (h : n ≤ 8) : n - 1 ≤ 7 := by omega
theorem seat1 {l : List Int} (h : l = [1, 2, 0]) : (1 : Int) = if l = [1, 2, 0] ∨ l = [2, 0, 1] then 1 else 0 := (if_pos (.inl h)).symm
theorem seat2 {l : List Int} (h : l = [2, 0, 1]) : (1 : Int) = if l = [1, 2, 0] ∨ l = [2, 0, 1] then 1 else 0 := (if_pos (.inr h)).symm
theorem seat3 {l : List Int} (h : ¬ l = [1, 2, 0]) (h' : ¬ l = [2, 0, 1]) : (0 : Int) = if l = [1, 2, 0] ∨ l = [2, 0, 1] then 1 else 0 := (if_neg fun x => x.elim h h').symm
theorem gen_post {α : Type} {M : Model} {A : Around} {c : Sem α} {Q0 : α → Shared → Prop} {E0 : Value → Shared → Prop} {s : Shared} (h : ∀ Q : α → Shared → Prop, (∀ v s', Q0 v s' → Q v s') → wpAny M A c Q E0 s) : wpAny M A c Q0 E0 s := h Q0 fun _ _ x => x
/-- the last line of the law -/
theorem law_end {n p : Nat} {t W u0 v1 : Int} {S0 S1 : Int × Int} (hp : p ≤ n) (hW : W * (1 + t + t * t) = t ^ (n - p) - (S0.1 + S1.2) + (-1) ^ n * t ^ p) (eu : u0 = S0.1) (ev : v1 = S1.2) :
    W * (1 + t + t * t) = t ^ ((n : Int) - (p : Int)).toNat - u0 - v1 + (-1) ^ ((n : Int)).toNat * t ^ ((p : Int)).toNat := by
  have e : ((n : Int) - (p : Int)).toNat = n - p := by omega
  rw [e, Int.toNat_natCast, Int.toNat_natCast, hW, eu, ev]
  omega
theorem rule3 {a b : Int} {k : Nat} (h : (k = 1) ↔ ¬ ((a - b) % 3 = 0)) : (((a - b).fmod 3 == 0) == ((k : Int) == 1)) = false := by
  rw [Int.fmod_eq_emod_of_nonneg _ (by decide)]
  by_cases h1 : k = 1
  · have h2 := h.mp h1
    have e : ((k : Int) == 1) = true := by simp [h1]
    rw [e, beq_eq_false_iff_ne.mpr h2]; rfl
  · have h2 : (a - b) % 3 = 0 := by
      by_cases h3 : (a - b) % 3 = 0
      · exact h3
      · exact absurd (h.mpr h3) h1
    have e : ((k : Int) == 1) = false := beq_eq_false_iff_ne.mpr (by omega)
    rw [e, h2]; rfl
end Mine
set_option Elab.async false
set_option maxRecDepth 100000
set_option maxHeartbeats 4000000
set_option linter.unusedVariables false
namespace Mine
open Builtin.Int (intBits)
theorem filled_top (P : Params) : row.prog = row.prog ∧ hd.heap_1 P = hd.heap_1 P := by
  k_fill
  exact ⟨rfl, rfl⟩
local macro_rules | `(tactic| k_mem) => `(tactic| with_reducible first | exact List.mem_cons_self | (refine List.mem_cons_of_mem _ ?_; k_mem) | assumption | (refine List.mem_append_right _ ?_; k_mem))
local macro_rules | `(tactic| tb_start) => `(tactic| first | with_reducible assumption | with_reducible exact intBits_add_le (by tb_start) (by tb_start) | with_reducible exact intBits_sub_le (by tb_start) (by tb_start) | with_reducible exact intBits_mul_le (by tb_start) (by tb_start))
theorem top : row.Holds := hd (by
  k_go0
  try dsimp only
  refine gen_post fun Q9 hQ9 => ?_
  (repeat' (first | (k_unfold; (try dsimp only)) | (k_end; kc_close) | ((with_reducible show wpAny _ _ (subscriptTail _ _ (Value.ref ..) (Value.int ..)) _ _ _); k_dflt (refine sub_int (by exact News.isList (by k_asm) (by k_mem)) (by with_reducible assumption) (by omega) (by omega) (by omega) ?_; intro _)) | ((with_reducible show wpAny _ _ (callWith _ (Value.ref ..) _ _ _) _ _ _); (k_here; k_dflt (refine callWith_K (by k_asm) (by k_is) ?_; k_whole))) | ((with_reducible show wpAny _ _ (exec (Stmt.Assign ..) _) _ _ _); ((rename CrossAre _ _ _ => hcx9_z); refine stop_intro ?_)) | ((with_reducible show wpAny _ _ (call (Value.builtin "len") _) _ _ _); k_dflt (refine len_list (items := List.toArray _) (by exact News.isList (by k_asm) (by k_mem)) (by exact len_small (by with_reducible assumption) (by with_reducible assumption)) ?_)) | ((with_reducible show wpAny _ _ (call (Value.ref ..) _) _ _ _); k_dflt (refine c_cells (by k_asm) (by k_asm) (by k_asm) (by k_asm) (by k_asm) (by first | with_reducible assumption | exact rfl) (by (first | exact room_up (by with_reducible assumption) (by decide) | ktr_room)) (by (first | exact unit_up (by with_reducible assumption) (by decide) | ktr_units)) (by with_reducible assumption) (by with_reducible assumption) (by omega) ?_; intro c9_z vc9_z nc9_z ds9_z h9_z tk9_z new9_z F9_z N9_z ap9_z m9_z i9_z l9_z; have N8_z := news_one N9_z m9_z; clear N9_z m9_z ap9_z; try dsimp only)) | ((with_reducible show wpAny _ _ (call (Value.ref ..) _) _ _ _); k_dflt (refine c_crossings (by k_asm) (by k_asm) (by k_asm) (by k_asm) (by k_asm) (by first | with_reducible assumption | exact rfl) (by (first | exact room_up (by with_reducible assumption) (by decide) | ktr_room)) (by (first | exact unit_up (by with_reducible assumption) (by decide) | ktr_units)) (by k_mem) (by with_reducible assumption) (by assumption) ?_; intro c9_z a1_z a2_z v1_z v2_z n1_z n2_z xs_z h9_z tk9_z new9_z F9_z N9_z ap9_z m9_z m1_z m2_z hx9_z hs9_z hlo9_z hhi9_z hp9_z; have N8_z := news_three N9_z m9_z m1_z m2_z; clear N9_z m9_z m1_z m2_z; simp only [List.cons_append, List.nil_append] at N8_z; try dsimp only)) | ((with_reducible show UnrEndW ..); refine stop_intro ?_) | walk1 | (dsimp only; walk1) | (leave1; (try dsimp only)) | fail "no step"))

  rename Shared => s1
  rename Fr _ _ _ _ => F1
  rename News _ _ _ _ => N1
  refine Stop.mk (law_start N1 F1 rfl rfl (by assumption) (by assumption) (by assumption) (by assumption) (by assumption) (by assumption) (by assumption) (by assumption) (by assumption) (by assumption) (by assumption) (by assumption) (by assumption) (by assumption) ?_)
  clear N1 F1
  intro m ce c9 a1 a2 vc v1 v2 nc n1 n2 o1 o2 o3 o4 o5 o6 xs ds base F1 u1 u2 hp h3 h8 hds mt hx hs hv mce m1 m2 m37 m30 f1 f2 f3 f4 f5 f6 d1 d2 d3 d4 d5 d6 N1
  (repeat' (first | (k_unfold; (try dsimp only)) | (k_end; kc_close) | ((with_reducible show wpAny _ _ (exec (Stmt.For (PySem.Expr.Tuple ..) (PySem.Expr.Name ..) ..) _) _ _ _); (refine stop_intro ?_)) | ((with_reducible show wpAny _ _ (subscriptTail _ _ (Value.ref ..) (Value.int ..)) _ _ _); k_dflt (refine sub_int (by exact News.isList (by k_asm) (by k_mem)) (by with_reducible assumption) (by omega) (by omega) (by omega) ?_; intro _)) | ((with_reducible show LCg.CompSrc _ _ _ _ _ _ _ (PySem.Expr.Call ..) _ _ _ _ _ _); (k_dflt (refine LCg.CompSrc.ledger (by exact rfl) (by k_asm) (by k_asm) (by k_mem) (by exact Nat.le_of_ble_eq_true rfl) ?_; intro g_z; lcg_lit))) | ((with_reducible show wpAny _ _ (callWith _ (Value.ref ..) _ _ _) _ _ _); (k_here; k_dflt (refine callWith_K (by k_asm) (by k_is) ?_; k_whole))) | ((with_reducible show wpAny _ _ (storeName _ _ (Value.ref ..)) _ _ _); ((with_reducible show wpAny _ _ (storeName _ (Str.ofString "figures") _) _ _ _); refine stop_intro ?_)) | ((with_reducible show wpAny _ _ (storeName _ _ (Value.bool ..)) _ _ _); ((with_reducible show wpAny _ _ (storeName _ (Str.ofString "over") _) _ _ _); refine stop_intro ?_)) | ((with_reducible show wpAny _ _ (storeName _ _ (Value.int ..)) _ _ _); ((with_reducible first | show wpAny _ _ (storeName _ (Str.ofString "n") _) _ _ _ | show wpAny _ _ (storeName _ (Str.ofString "w") _) _ _ _ | show wpAny _ _ (storeName _ (Str.ofString "t") _) _ _ _ | show wpAny _ _ (storeName _ (Str.ofString "place") _) _ _ _); refine stop_intro ?_)) | ((with_reducible show wpAny _ _ (call (Value.ref ..) _) _ _ _); (k_dflt ((first | refine c_step (by k_asm) (by k_asm) (by k_asm) (by k_asm) (by k_asm) (by first | with_reducible assumption | exact rfl) (by (first | exact room_up (by with_reducible assumption) (by decide) | ktr_room)) (by (first | exact unit_up (by with_reducible assumption) (by decide) | ktr_units)) (by k_mem) (by with_reducible assumption) (by with_reducible assumption) (by first | with_reducible assumption | omega) (by omega) (by omega) ?_ | refine c_plain (by k_asm) (by k_asm) (by k_asm) (by k_asm) (by k_asm) (by first | with_reducible assumption | exact rfl) (by (first | exact room_up (by with_reducible assumption) (by decide) | ktr_room)) (by (first | exact unit_up (by with_reducible assumption) (by decide) | ktr_units)) (by k_mem) (by with_reducible assumption) (by with_reducible assumption) (by first | with_reducible assumption | omega) (by omega) ?_); intro t9_z t9_z c9_z h9_z tk9_z F9_z N9_z l9_z; try dsimp only))) | ((with_reducible show wpAny _ _ (eval (PySem.Expr.Name ..) _) _ _ _); ((fail_if_success (with_reducible show wpAny _ _ (eval _ (compEnvC _ _ _ _)) _ _ _)); k_here; k_dflt (refine nameX_L (by k_asm) (by first | exact rfl | ((repeat (refine Eq.trans (if_neg (by decide)) ?_)); with_reducible assumption)) ?_; k_whole))) | ((with_reducible show wpAny _ _ (call (Value.builtin "len") _) _ _ _); k_dflt (refine len_list (items := List.toArray _) (by exact News.isList (by k_asm) (by k_mem)) (by exact len_small (by with_reducible assumption) (by with_reducible assumption)) ?_)) | ((with_reducible show wpAny _ _ (call (Value.ref ..) _) _ _ _); k_dflt (refine c_cells (by k_asm) (by k_asm) (by k_asm) (by k_asm) (by k_asm) (by first | with_reducible assumption | exact rfl) (by (first | exact room_up (by with_reducible assumption) (by decide) | ktr_room)) (by (first | exact unit_up (by with_reducible assumption) (by decide) | ktr_units)) (by with_reducible assumption) (by with_reducible assumption) (by omega) ?_; intro c9_z vc9_z nc9_z ds9_z h9_z tk9_z new9_z F9_z N9_z ap9_z m9_z i9_z l9_z; have N8_z := news_one N9_z m9_z; clear N9_z m9_z ap9_z; try dsimp only)) | ((with_reducible show wpAny _ _ (call (Value.ref ..) _) _ _ _); k_dflt (refine c_crossings (by k_asm) (by k_asm) (by k_asm) (by k_asm) (by k_asm) (by first | with_reducible assumption | exact rfl) (by (first | exact room_up (by with_reducible assumption) (by decide) | ktr_room)) (by (first | exact unit_up (by with_reducible assumption) (by decide) | ktr_units)) (by k_mem) (by with_reducible assumption) (by assumption) ?_; intro c9_z a1_z a2_z v1_z v2_z n1_z n2_z xs_z h9_z tk9_z new9_z F9_z N9_z ap9_z m9_z m1_z m2_z hx9_z hs9_z hlo9_z hhi9_z hp9_z; have N8_z := news_three N9_z m9_z m1_z m2_z; clear N9_z m9_z m1_z m2_z; simp only [List.cons_append, List.nil_append] at N8_z; try dsimp only)) | ((with_reducible show UnrEndW ..); refine stop_intro ?_) | ((with_reducible show LCg.CompEnd ..); first | (with_reducible ((refine comp_end1 (by k_asm) (by k_asm) (by assumption) (by assumption) (by lcg_src) ?_))) | ((refine comp_end1 (by k_asm) (by k_asm) (by assumption) (by assumption) (by lcg_src) ?_))) | walk1 | (dsimp only; walk1) | (leave1; (try dsimp only)) | fail "no step"))
  have en : ((v1.toArray.size : Nat) : Int) = (xs.length : Int) := by rw [List.size_toArray, hx.length]
  obtain ⟨ww, hww, hw1, hw2⟩ : ∃ ww : Nat, 12 + (ds.getD (Int.toNat 6) 0).fmod 60 = (ww : Int) ∧ 12 ≤ ww ∧ ww ≤ 71 := by
    have h0 := Int.fmod_nonneg_of_pos (ds.getD (Int.toNat 6) 0) (by decide : (0 : Int) < 60)
    have h1 := Int.fmod_lt_of_pos (ds.getD (Int.toNat 6) 0) (by decide : (0 : Int) < 60)
    exact ⟨(12 + (ds.getD (Int.toNat 6) 0).fmod 60).toNat, by omega, by omega, by omega⟩
  obtain ⟨tt, htt, ht1, ht2⟩ : ∃ tt : Int, (ds.getD (Int.toNat 9) 0).fmod 2000001 - 1000000 = tt ∧ -1000000 ≤ tt ∧ tt ≤ 1000000 := by
    have h0 := Int.fmod_nonneg_of_pos (ds.getD (Int.toNat 9) 0) (by decide : (0 : Int) < 2000001)
    have h1 := Int.fmod_lt_of_pos (ds.getD (Int.toNat 9) 0) (by decide : (0 : Int) < 2000001)
    exact ⟨_, rfl, by omega, by omega⟩
  have sx := six_ok s1.heap.objs.size
  rename Fr _ _ _ _ => F2
  rename News _ _ _ _ => N2
  rw [en, hww, htt] at N2
  rw [en, hww, htt]
  refine Stop.mk (store_cell ((s1.heap.objs.size + 1 + 1, o2) :: (s1.heap.objs.size + 1 + 1 + 1, o3) :: (s1.heap.objs.size + 1 + 1 + 1 + 1, o4) :: (s1.heap.objs.size + 1 + 1 + 1 + 1 + 1, o5) :: (s1.heap.objs.size + 1 + 1 + 1 + 1 + 1 + 1, o6) :: base) F2 N2 (by k_mem) (by (repeat (refine List.forall_mem_cons.mpr ⟨by k_mem, ?_⟩)); exact fun p h => by k_mem) (off5 sx.a12.symm sx.a13.symm sx.a14.symm sx.a15.symm sx.a16.symm f1) d1 rfl ?_)
  clear F2 N2 d1
  intro h2 p1 F2 N2 d1
  try dsimp only
  (repeat' (first | (k_unfold; (try dsimp only)) | (k_end; kc_close) | ((with_reducible show wpAny _ _ (exec (Stmt.For (PySem.Expr.Tuple ..) (PySem.Expr.Name ..) ..) _) _ _ _); (refine stop_intro ?_)) | ((with_reducible show wpAny _ _ (subscriptTail _ _ (Value.ref ..) (Value.int ..)) _ _ _); k_dflt (refine sub_int (by exact News.isList (by k_asm) (by k_mem)) (by with_reducible assumption) (by omega) (by omega) (by omega) ?_; intro _)) | ((with_reducible show LCg.CompSrc _ _ _ _ _ _ _ (PySem.Expr.Call ..) _ _ _ _ _ _); (k_dflt (refine LCg.CompSrc.ledger (by exact rfl) (by k_asm) (by k_asm) (by k_mem) (by exact Nat.le_of_ble_eq_true rfl) ?_; intro g_z; lcg_lit))) | ((with_reducible show wpAny _ _ (callWith _ (Value.ref ..) _ _ _) _ _ _); (k_here; k_dflt (refine callWith_K (by k_asm) (by k_is) ?_; k_whole))) | ((with_reducible show wpAny _ _ (storeName _ _ (Value.ref ..)) _ _ _); ((with_reducible show wpAny _ _ (storeName _ (Str.ofString "figures") _) _ _ _); refine stop_intro ?_)) | ((with_reducible show wpAny _ _ (storeName _ _ (Value.bool ..)) _ _ _); ((with_reducible show wpAny _ _ (storeName _ (Str.ofString "over") _) _ _ _); refine stop_intro ?_)) | ((with_reducible show wpAny _ _ (storeName _ _ (Value.int ..)) _ _ _); ((with_reducible first | show wpAny _ _ (storeName _ (Str.ofString "n") _) _ _ _ | show wpAny _ _ (storeName _ (Str.ofString "w") _) _ _ _ | show wpAny _ _ (storeName _ (Str.ofString "t") _) _ _ _ | show wpAny _ _ (storeName _ (Str.ofString "place") _) _ _ _); refine stop_intro ?_)) | ((with_reducible show wpAny _ _ (call (Value.ref ..) _) _ _ _); (k_dflt ((first | refine c_step (by k_asm) (by k_asm) (by k_asm) (by k_asm) (by k_asm) (by first | with_reducible assumption | exact rfl) (by (first | exact room_up (by with_reducible assumption) (by decide) | ktr_room)) (by (first | exact unit_up (by with_reducible assumption) (by decide) | ktr_units)) (by k_mem) (by with_reducible assumption) (by with_reducible assumption) (by first | with_reducible assumption | omega) (by omega) (by omega) ?_ | refine c_plain (by k_asm) (by k_asm) (by k_asm) (by k_asm) (by k_asm) (by first | with_reducible assumption | exact rfl) (by (first | exact room_up (by with_reducible assumption) (by decide) | ktr_room)) (by (first | exact unit_up (by with_reducible assumption) (by decide) | ktr_units)) (by k_mem) (by with_reducible assumption) (by with_reducible assumption) (by first | with_reducible assumption | omega) (by omega) ?_); intro t9_z t9_z c9_z h9_z tk9_z F9_z N9_z l9_z; try dsimp only))) | ((with_reducible show wpAny _ _ (eval (PySem.Expr.Name ..) _) _ _ _); ((fail_if_success (with_reducible show wpAny _ _ (eval _ (compEnvC _ _ _ _)) _ _ _)); k_here; k_dflt (refine nameX_L (by k_asm) (by first | exact rfl | ((repeat (refine Eq.trans (if_neg (by decide)) ?_)); with_reducible assumption)) ?_; k_whole))) | ((with_reducible show wpAny _ _ (call (Value.builtin "len") _) _ _ _); k_dflt (refine len_list (items := List.toArray _) (by exact News.isList (by k_asm) (by k_mem)) (by exact len_small (by with_reducible assumption) (by with_reducible assumption)) ?_)) | ((with_reducible show wpAny _ _ (call (Value.ref ..) _) _ _ _); k_dflt (refine c_cells (by k_asm) (by k_asm) (by k_asm) (by k_asm) (by k_asm) (by first | with_reducible assumption | exact rfl) (by (first | exact room_up (by with_reducible assumption) (by decide) | ktr_room)) (by (first | exact unit_up (by with_reducible assumption) (by decide) | ktr_units)) (by with_reducible assumption) (by with_reducible assumption) (by omega) ?_; intro c9_z vc9_z nc9_z ds9_z h9_z tk9_z new9_z F9_z N9_z ap9_z m9_z i9_z l9_z; have N8_z := news_one N9_z m9_z; clear N9_z m9_z ap9_z; try dsimp only)) | ((with_reducible show wpAny _ _ (call (Value.ref ..) _) _ _ _); k_dflt (refine c_crossings (by k_asm) (by k_asm) (by k_asm) (by k_asm) (by k_asm) (by first | with_reducible assumption | exact rfl) (by (first | exact room_up (by with_reducible assumption) (by decide) | ktr_room)) (by (first | exact unit_up (by with_reducible assumption) (by decide) | ktr_units)) (by k_mem) (by with_reducible assumption) (by assumption) ?_; intro c9_z a1_z a2_z v1_z v2_z n1_z n2_z xs_z h9_z tk9_z new9_z F9_z N9_z ap9_z m9_z m1_z m2_z hx9_z hs9_z hlo9_z hhi9_z hp9_z; have N8_z := news_three N9_z m9_z m1_z m2_z; clear N9_z m9_z m1_z m2_z; simp only [List.cons_append, List.nil_append] at N8_z; try dsimp only)) | ((with_reducible show UnrEndW ..); refine stop_intro ?_) | ((with_reducible show LCg.CompEnd ..); first | (with_reducible ((refine comp_end1 (by k_asm) (by k_asm) (by assumption) (by assumption) (by lcg_src) ?_))) | ((refine comp_end1 (by k_asm) (by k_asm) (by assumption) (by assumption) (by lcg_src) ?_))) | walk1 | (dsimp only; walk1) | (leave1; (try dsimp only)) | fail "no step"))
  refine Stop.mk (store_cell ((s1.heap.objs.size + 1, p1) :: (s1.heap.objs.size + 1 + 1 + 1, o3) :: (s1.heap.objs.size + 1 + 1 + 1 + 1, o4) :: (s1.heap.objs.size + 1 + 1 + 1 + 1 + 1, o5) :: (s1.heap.objs.size + 1 + 1 + 1 + 1 + 1 + 1, o6) :: base) F2 N2 (by k_mem) (by (repeat (refine List.forall_mem_cons.mpr ⟨by k_mem, ?_⟩)); exact fun p h => by k_mem) (off5 sx.a12 sx.a23.symm sx.a24.symm sx.a25.symm sx.a26.symm f2) d2 rfl ?_)
  clear F2 N2 d2
  intro h3' p2 F2 N2 d2
  try dsimp only
  (repeat' (first | (k_unfold; (try dsimp only)) | (k_end; kc_close) | ((with_reducible show wpAny _ _ (exec (Stmt.For (PySem.Expr.Tuple ..) (PySem.Expr.Name ..) ..) _) _ _ _); (refine stop_intro ?_)) | ((with_reducible show wpAny _ _ (subscriptTail _ _ (Value.ref ..) (Value.int ..)) _ _ _); k_dflt (refine sub_int (by exact News.isList (by k_asm) (by k_mem)) (by with_reducible assumption) (by omega) (by omega) (by omega) ?_; intro _)) | ((with_reducible show LCg.CompSrc _ _ _ _ _ _ _ (PySem.Expr.Call ..) _ _ _ _ _ _); (k_dflt (refine LCg.CompSrc.ledger (by exact rfl) (by k_asm) (by k_asm) (by k_mem) (by exact Nat.le_of_ble_eq_true rfl) ?_; intro g_z; lcg_lit))) | ((with_reducible show wpAny _ _ (callWith _ (Value.ref ..) _ _ _) _ _ _); (k_here; k_dflt (refine callWith_K (by k_asm) (by k_is) ?_; k_whole))) | ((with_reducible show wpAny _ _ (storeName _ _ (Value.ref ..)) _ _ _); ((with_reducible show wpAny _ _ (storeName _ (Str.ofString "figures") _) _ _ _); refine stop_intro ?_)) | ((with_reducible show wpAny _ _ (storeName _ _ (Value.bool ..)) _ _ _); ((with_reducible show wpAny _ _ (storeName _ (Str.ofString "over") _) _ _ _); refine stop_intro ?_)) | ((with_reducible show wpAny _ _ (storeName _ _ (Value.int ..)) _ _ _); ((with_reducible first | show wpAny _ _ (storeName _ (Str.ofString "n") _) _ _ _ | show wpAny _ _ (storeName _ (Str.ofString "w") _) _ _ _ | show wpAny _ _ (storeName _ (Str.ofString "t") _) _ _ _ | show wpAny _ _ (storeName _ (Str.ofString "place") _) _ _ _); refine stop_intro ?_)) | ((with_reducible show wpAny _ _ (call (Value.ref ..) _) _ _ _); (k_dflt ((first | refine c_step (by k_asm) (by k_asm) (by k_asm) (by k_asm) (by k_asm) (by first | with_reducible assumption | exact rfl) (by (first | exact room_up (by with_reducible assumption) (by decide) | ktr_room)) (by (first | exact unit_up (by with_reducible assumption) (by decide) | ktr_units)) (by k_mem) (by with_reducible assumption) (by with_reducible assumption) (by first | with_reducible assumption | omega) (by omega) (by omega) ?_ | refine c_plain (by k_asm) (by k_asm) (by k_asm) (by k_asm) (by k_asm) (by first | with_reducible assumption | exact rfl) (by (first | exact room_up (by with_reducible assumption) (by decide) | ktr_room)) (by (first | exact unit_up (by with_reducible assumption) (by decide) | ktr_units)) (by k_mem) (by with_reducible assumption) (by with_reducible assumption) (by first | with_reducible assumption | omega) (by omega) ?_); intro t9_z t9_z c9_z h9_z tk9_z F9_z N9_z l9_z; try dsimp only))) | ((with_reducible show wpAny _ _ (eval (PySem.Expr.Name ..) _) _ _ _); ((fail_if_success (with_reducible show wpAny _ _ (eval _ (compEnvC _ _ _ _)) _ _ _)); k_here; k_dflt (refine nameX_L (by k_asm) (by first | exact rfl | ((repeat (refine Eq.trans (if_neg (by decide)) ?_)); with_reducible assumption)) ?_; k_whole))) | ((with_reducible show wpAny _ _ (call (Value.builtin "len") _) _ _ _); k_dflt (refine len_list (items := List.toArray _) (by exact News.isList (by k_asm) (by k_mem)) (by exact len_small (by with_reducible assumption) (by with_reducible assumption)) ?_)) | ((with_reducible show wpAny _ _ (call (Value.ref ..) _) _ _ _); k_dflt (refine c_cells (by k_asm) (by k_asm) (by k_asm) (by k_asm) (by k_asm) (by first | with_reducible assumption | exact rfl) (by (first | exact room_up (by with_reducible assumption) (by decide) | ktr_room)) (by (first | exact unit_up (by with_reducible assumption) (by decide) | ktr_units)) (by with_reducible assumption) (by with_reducible assumption) (by omega) ?_; intro c9_z vc9_z nc9_z ds9_z h9_z tk9_z new9_z F9_z N9_z ap9_z m9_z i9_z l9_z; have N8_z := news_one N9_z m9_z; clear N9_z m9_z ap9_z; try dsimp only)) | ((with_reducible show wpAny _ _ (call (Value.ref ..) _) _ _ _); k_dflt (refine c_crossings (by k_asm) (by k_asm) (by k_asm) (by k_asm) (by k_asm) (by first | with_reducible assumption | exact rfl) (by (first | exact room_up (by with_reducible assumption) (by decide) | ktr_room)) (by (first | exact unit_up (by with_reducible assumption) (by decide) | ktr_units)) (by k_mem) (by with_reducible assumption) (by assumption) ?_; intro c9_z a1_z a2_z v1_z v2_z n1_z n2_z xs_z h9_z tk9_z new9_z F9_z N9_z ap9_z m9_z m1_z m2_z hx9_z hs9_z hlo9_z hhi9_z hp9_z; have N8_z := news_three N9_z m9_z m1_z m2_z; clear N9_z m9_z m1_z m2_z; simp only [List.cons_append, List.nil_append] at N8_z; try dsimp only)) | ((with_reducible show UnrEndW ..); refine stop_intro ?_) | ((with_reducible show LCg.CompEnd ..); first | (with_reducible ((refine comp_end1 (by k_asm) (by k_asm) (by assumption) (by assumption) (by lcg_src) ?_))) | ((refine comp_end1 (by k_asm) (by k_asm) (by assumption) (by assumption) (by lcg_src) ?_))) | walk1 | (dsimp only; walk1) | (leave1; (try dsimp only)) | fail "no step"))
  refine Stop.mk (store_cell ((s1.heap.objs.size + 1, p1) :: (s1.heap.objs.size + 1 + 1, p2) :: (s1.heap.objs.size + 1 + 1 + 1 + 1, o4) :: (s1.heap.objs.size + 1 + 1 + 1 + 1 + 1, o5) :: (s1.heap.objs.size + 1 + 1 + 1 + 1 + 1 + 1, o6) :: base) F2 N2 (by k_mem) (by (repeat (refine List.forall_mem_cons.mpr ⟨by k_mem, ?_⟩)); exact fun p h => by k_mem) (off5 sx.a13 sx.a23 sx.a34.symm sx.a35.symm sx.a36.symm f3) d3 rfl ?_)
  clear F2 N2 d3
  intro h4 p3 F2 N2 d3
  try dsimp only
  (repeat' (first | (k_unfold; (try dsimp only)) | (k_end; kc_close) | ((with_reducible show wpAny _ _ (exec (Stmt.For (PySem.Expr.Tuple ..) (PySem.Expr.Name ..) ..) _) _ _ _); (refine stop_intro ?_)) | ((with_reducible show wpAny _ _ (subscriptTail _ _ (Value.ref ..) (Value.int ..)) _ _ _); k_dflt (refine sub_int (by exact News.isList (by k_asm) (by k_mem)) (by with_reducible assumption) (by omega) (by omega) (by omega) ?_; intro _)) | ((with_reducible show LCg.CompSrc _ _ _ _ _ _ _ (PySem.Expr.Call ..) _ _ _ _ _ _); (k_dflt (refine LCg.CompSrc.ledger (by exact rfl) (by k_asm) (by k_asm) (by k_mem) (by exact Nat.le_of_ble_eq_true rfl) ?_; intro g_z; lcg_lit))) | ((with_reducible show wpAny _ _ (callWith _ (Value.ref ..) _ _ _) _ _ _); (k_here; k_dflt (refine callWith_K (by k_asm) (by k_is) ?_; k_whole))) | ((with_reducible show wpAny _ _ (storeName _ _ (Value.ref ..)) _ _ _); ((with_reducible show wpAny _ _ (storeName _ (Str.ofString "figures") _) _ _ _); refine stop_intro ?_)) | ((with_reducible show wpAny _ _ (storeName _ _ (Value.bool ..)) _ _ _); ((with_reducible show wpAny _ _ (storeName _ (Str.ofString "over") _) _ _ _); refine stop_intro ?_)) | ((with_reducible show wpAny _ _ (storeName _ _ (Value.int ..)) _ _ _); ((with_reducible first | show wpAny _ _ (storeName _ (Str.ofString "n") _) _ _ _ | show wpAny _ _ (storeName _ (Str.ofString "w") _) _ _ _ | show wpAny _ _ (storeName _ (Str.ofString "t") _) _ _ _ | show wpAny _ _ (storeName _ (Str.ofString "place") _) _ _ _); refine stop_intro ?_)) | ((with_reducible show wpAny _ _ (call (Value.ref ..) _) _ _ _); (k_dflt ((first | refine c_step (by k_asm) (by k_asm) (by k_asm) (by k_asm) (by k_asm) (by first | with_reducible assumption | exact rfl) (by (first | exact room_up (by with_reducible assumption) (by decide) | ktr_room)) (by (first | exact unit_up (by with_reducible assumption) (by decide) | ktr_units)) (by k_mem) (by with_reducible assumption) (by with_reducible assumption) (by first | with_reducible assumption | omega) (by omega) (by omega) ?_ | refine c_plain (by k_asm) (by k_asm) (by k_asm) (by k_asm) (by k_asm) (by first | with_reducible assumption | exact rfl) (by (first | exact room_up (by with_reducible assumption) (by decide) | ktr_room)) (by (first | exact unit_up (by with_reducible assumption) (by decide) | ktr_units)) (by k_mem) (by with_reducible assumption) (by with_reducible assumption) (by first | with_reducible assumption | omega) (by omega) ?_); intro t9_z t9_z c9_z h9_z tk9_z F9_z N9_z l9_z; try dsimp only))) | ((with_reducible show wpAny _ _ (eval (PySem.Expr.Name ..) _) _ _ _); ((fail_if_success (with_reducible show wpAny _ _ (eval _ (compEnvC _ _ _ _)) _ _ _)); k_here; k_dflt (refine nameX_L (by k_asm) (by first | exact rfl | ((repeat (refine Eq.trans (if_neg (by decide)) ?_)); with_reducible assumption)) ?_; k_whole))) | ((with_reducible show wpAny _ _ (call (Value.builtin "len") _) _ _ _); k_dflt (refine len_list (items := List.toArray _) (by exact News.isList (by k_asm) (by k_mem)) (by exact len_small (by with_reducible assumption) (by with_reducible assumption)) ?_)) | ((with_reducible show wpAny _ _ (call (Value.ref ..) _) _ _ _); k_dflt (refine c_cells (by k_asm) (by k_asm) (by k_asm) (by k_asm) (by k_asm) (by first | with_reducible assumption | exact rfl) (by (first | exact room_up (by with_reducible assumption) (by decide) | ktr_room)) (by (first | exact unit_up (by with_reducible assumption) (by decide) | ktr_units)) (by with_reducible assumption) (by with_reducible assumption) (by omega) ?_; intro c9_z vc9_z nc9_z ds9_z h9_z tk9_z new9_z F9_z N9_z ap9_z m9_z i9_z l9_z; have N8_z := news_one N9_z m9_z; clear N9_z m9_z ap9_z; try dsimp only)) | ((with_reducible show wpAny _ _ (call (Value.ref ..) _) _ _ _); k_dflt (refine c_crossings (by k_asm) (by k_asm) (by k_asm) (by k_asm) (by k_asm) (by first | with_reducible assumption | exact rfl) (by (first | exact room_up (by with_reducible assumption) (by decide) | ktr_room)) (by (first | exact unit_up (by with_reducible assumption) (by decide) | ktr_units)) (by k_mem) (by with_reducible assumption) (by assumption) ?_; intro c9_z a1_z a2_z v1_z v2_z n1_z n2_z xs_z h9_z tk9_z new9_z F9_z N9_z ap9_z m9_z m1_z m2_z hx9_z hs9_z hlo9_z hhi9_z hp9_z; have N8_z := news_three N9_z m9_z m1_z m2_z; clear N9_z m9_z m1_z m2_z; simp only [List.cons_append, List.nil_append] at N8_z; try dsimp only)) | ((with_reducible show UnrEndW ..); refine stop_intro ?_) | ((with_reducible show LCg.CompEnd ..); first | (with_reducible ((refine comp_end1 (by k_asm) (by k_asm) (by assumption) (by assumption) (by lcg_src) ?_))) | ((refine comp_end1 (by k_asm) (by k_asm) (by assumption) (by assumption) (by lcg_src) ?_))) | walk1 | (dsimp only; walk1) | (leave1; (try dsimp only)) | fail "no step"))
  refine Stop.mk ?_
  rename Fr _ _ _ _ => F3
  rename News _ _ _ _ => N3
  have N4 := lo_news (v1 := [_, _]) (v2 := [_, _]) (v3 := [_, _]) (v4 := [_, _]) (v5 := [_, _]) (v6 := [_, _]) N3
  refine list_loop (vs := v1) (n := n1) (ax := a1) (LoJ s1.heap.objs.size ce a1 a2 base p1 p2 p3 o6 (2 ^ ww) tt (rowF (2 ^ ww) (1, 0) xs) (rowF (2 ^ ww) (0, 1) xs) (rowF tt (1, 0) xs) (rowF tt (0, 1) xs)) rfl F3 N4 (by k_mem) (fun R hR => ?it)
    (fun I hI => ⟨_, _, _, _, _, _, 0, 0, 0, 0, 0, 0, 1, 0, 0, 1, 1, 0, 0, 1, _, _, _, _, _, _, _, _, o4, o5, none, none, xs, 1, hx, hp, rfl, rfl, rfl, rfl, ⟨by decide, by decide, by decide, by decide, by decide, by decide, by decide, by decide, by omega⟩, rfl, d4, d5, fun p hp => Nat.ne_of_lt (hI p hp), rfl, rfl, rfl, u2, rfl⟩) ?turn ?done
  case it => (repeat' (first | (k_unfold; (try dsimp only)) | (k_end; kc_close) | ((with_reducible show wpAny _ _ (exec (Stmt.For (PySem.Expr.Tuple ..) (PySem.Expr.Name ..) ..) _) _ _ _); (refine stop_intro ?_)) | ((with_reducible show wpAny _ _ (subscriptTail _ _ (Value.ref ..) (Value.int ..)) _ _ _); k_dflt (refine sub_int (by exact News.isList (by k_asm) (by k_mem)) (by with_reducible assumption) (by omega) (by omega) (by omega) ?_; intro _)) | ((with_reducible show LCg.CompSrc _ _ _ _ _ _ _ (PySem.Expr.Call ..) _ _ _ _ _ _); (k_dflt (refine LCg.CompSrc.ledger (by exact rfl) (by k_asm) (by k_asm) (by k_mem) (by exact Nat.le_of_ble_eq_true rfl) ?_; intro g_z; lcg_lit))) | ((with_reducible show wpAny _ _ (callWith _ (Value.ref ..) _ _ _) _ _ _); (k_here; k_dflt (refine callWith_K (by k_asm) (by k_is) ?_; k_whole))) | ((with_reducible show wpAny _ _ (storeName _ _ (Value.ref ..)) _ _ _); ((with_reducible show wpAny _ _ (storeName _ (Str.ofString "figures") _) _ _ _); refine stop_intro ?_)) | ((with_reducible show wpAny _ _ (storeName _ _ (Value.bool ..)) _ _ _); ((with_reducible show wpAny _ _ (storeName _ (Str.ofString "over") _) _ _ _); refine stop_intro ?_)) | ((with_reducible show wpAny _ _ (storeName _ _ (Value.int ..)) _ _ _); ((with_reducible first | show wpAny _ _ (storeName _ (Str.ofString "n") _) _ _ _ | show wpAny _ _ (storeName _ (Str.ofString "w") _) _ _ _ | show wpAny _ _ (storeName _ (Str.ofString "t") _) _ _ _ | show wpAny _ _ (storeName _ (Str.ofString "place") _) _ _ _); refine stop_intro ?_)) | ((with_reducible show wpAny _ _ (call (Value.ref ..) _) _ _ _); (k_dflt ((first | refine c_step (by k_asm) (by k_asm) (by k_asm) (by k_asm) (by k_asm) (by first | with_reducible assumption | exact rfl) (by (first | exact room_up (by with_reducible assumption) (by decide) | ktr_room)) (by (first | exact unit_up (by with_reducible assumption) (by decide) | ktr_units)) (by k_mem) (by with_reducible assumption) (by with_reducible assumption) (by first | with_reducible assumption | omega) (by omega) (by omega) ?_ | refine c_plain (by k_asm) (by k_asm) (by k_asm) (by k_asm) (by k_asm) (by first | with_reducible assumption | exact rfl) (by (first | exact room_up (by with_reducible assumption) (by decide) | ktr_room)) (by (first | exact unit_up (by with_reducible assumption) (by decide) | ktr_units)) (by k_mem) (by with_reducible assumption) (by with_reducible assumption) (by first | with_reducible assumption | omega) (by omega) ?_); intro t9_z t9_z c9_z h9_z tk9_z F9_z N9_z l9_z; try dsimp only))) | ((with_reducible show wpAny _ _ (eval (PySem.Expr.Name ..) _) _ _ _); ((fail_if_success (with_reducible show wpAny _ _ (eval _ (compEnvC _ _ _ _)) _ _ _)); k_here; k_dflt (refine nameX_L (by k_asm) (by first | exact rfl | ((repeat (refine Eq.trans (if_neg (by decide)) ?_)); with_reducible assumption)) ?_; k_whole))) | ((with_reducible show wpAny _ _ (call (Value.builtin "len") _) _ _ _); k_dflt (refine len_list (items := List.toArray _) (by exact News.isList (by k_asm) (by k_mem)) (by exact len_small (by with_reducible assumption) (by with_reducible assumption)) ?_)) | ((with_reducible show wpAny _ _ (call (Value.ref ..) _) _ _ _); k_dflt (refine c_cells (by k_asm) (by k_asm) (by k_asm) (by k_asm) (by k_asm) (by first | with_reducible assumption | exact rfl) (by (first | exact room_up (by with_reducible assumption) (by decide) | ktr_room)) (by (first | exact unit_up (by with_reducible assumption) (by decide) | ktr_units)) (by with_reducible assumption) (by with_reducible assumption) (by omega) ?_; intro c9_z vc9_z nc9_z ds9_z h9_z tk9_z new9_z F9_z N9_z ap9_z m9_z i9_z l9_z; have N8_z := news_one N9_z m9_z; clear N9_z m9_z ap9_z; try dsimp only)) | ((with_reducible show wpAny _ _ (call (Value.ref ..) _) _ _ _); k_dflt (refine c_crossings (by k_asm) (by k_asm) (by k_asm) (by k_asm) (by k_asm) (by first | with_reducible assumption | exact rfl) (by (first | exact room_up (by with_reducible assumption) (by decide) | ktr_room)) (by (first | exact unit_up (by with_reducible assumption) (by decide) | ktr_units)) (by k_mem) (by with_reducible assumption) (by assumption) ?_; intro c9_z a1_z a2_z v1_z v2_z n1_z n2_z xs_z h9_z tk9_z new9_z F9_z N9_z ap9_z m9_z m1_z m2_z hx9_z hs9_z hlo9_z hhi9_z hp9_z; have N8_z := news_three N9_z m9_z m1_z m2_z; clear N9_z m9_z m1_z m2_z; simp only [List.cons_append, List.nil_append] at N8_z; try dsimp only)) | ((with_reducible show UnrEndW ..); refine stop_intro ?_) | ((with_reducible show LCg.CompEnd ..); first | (with_reducible ((refine comp_end1 (by k_asm) (by k_asm) (by assumption) (by assumption) (by lcg_src) ?_))) | ((refine comp_end1 (by k_asm) (by k_asm) (by assumption) (by assumption) (by lcg_src) ?_))) | walk1 | (dsimp only; walk1) | (leave1; (try dsimp only)) | fail "no step")); exact hR
  case turn =>
    clear F3 N3 N4
    rintro I v r m6 nw h5 tk5 it ⟨rw, ra, rb, pw, pa, pb, k1, k2, k3, k4, k5, k6, x0, y0, x1, y1, u0, v0, u1, v1', t1, t2, t3, t4, t5, t6, t7, t8, o4, o5, c4, c5, xs', kk, hx', hp', e1, e2, e3, e4, ⟨b1, b2, b3, b4, b5, b6, b7, b8, b9⟩, rfl, d4, d5, oI, g1, g2, g3, g4, g5⟩ hc F N
    obtain ⟨c, pl, tp, ovr, xs'', rfl, hm, hx'', rfl⟩ := cross_cons hx'
    have hm' : (c, ({ cls := .type "tuple", data := .seq #[.int pl tp, .bool ovr] } : Obj)) ∈ base := hm
    try dsimp only
    (repeat' (first | (k_unfold; (try dsimp only)) | (k_end; kc_close) | ((with_reducible show wpAny _ _ (exec (Stmt.For (PySem.Expr.Tuple ..) (PySem.Expr.Name ..) ..) _) _ _ _); (refine stop_intro ?_)) | ((with_reducible show wpAny _ _ (subscriptTail _ _ (Value.ref ..) (Value.int ..)) _ _ _); k_dflt (refine sub_int (by exact News.isList (by k_asm) (by k_mem)) (by with_reducible assumption) (by omega) (by omega) (by omega) ?_; intro _)) | ((with_reducible show LCg.CompSrc _ _ _ _ _ _ _ (PySem.Expr.Call ..) _ _ _ _ _ _); (k_dflt (refine LCg.CompSrc.ledger (by exact rfl) (by k_asm) (by k_asm) (by k_mem) (by exact Nat.le_of_ble_eq_true rfl) ?_; intro g_z; lcg_lit))) | ((with_reducible show wpAny _ _ (callWith _ (Value.ref ..) _ _ _) _ _ _); (k_here; k_dflt (refine callWith_K (by k_asm) (by k_is) ?_; k_whole))) | ((with_reducible show wpAny _ _ (storeName _ _ (Value.ref ..)) _ _ _); ((with_reducible show wpAny _ _ (storeName _ (Str.ofString "figures") _) _ _ _); refine stop_intro ?_)) | ((with_reducible show wpAny _ _ (storeName _ _ (Value.bool ..)) _ _ _); ((with_reducible show wpAny _ _ (storeName _ (Str.ofString "over") _) _ _ _); refine stop_intro ?_)) | ((with_reducible show wpAny _ _ (storeName _ _ (Value.int ..)) _ _ _); ((with_reducible first | show wpAny _ _ (storeName _ (Str.ofString "n") _) _ _ _ | show wpAny _ _ (storeName _ (Str.ofString "w") _) _ _ _ | show wpAny _ _ (storeName _ (Str.ofString "t") _) _ _ _ | show wpAny _ _ (storeName _ (Str.ofString "place") _) _ _ _); refine stop_intro ?_)) | ((with_reducible show wpAny _ _ (call (Value.ref ..) _) _ _ _); (k_dflt ((first | refine c_step (by k_asm) (by k_asm) (by k_asm) (by k_asm) (by k_asm) (by first | with_reducible assumption | exact rfl) (by (first | exact room_up (by with_reducible assumption) (by decide) | ktr_room)) (by (first | exact unit_up (by with_reducible assumption) (by decide) | ktr_units)) (by k_mem) (by with_reducible assumption) (by with_reducible assumption) (by first | with_reducible assumption | omega) (by omega) (by omega) ?_ | refine c_plain (by k_asm) (by k_asm) (by k_asm) (by k_asm) (by k_asm) (by first | with_reducible assumption | exact rfl) (by (first | exact room_up (by with_reducible assumption) (by decide) | ktr_room)) (by (first | exact unit_up (by with_reducible assumption) (by decide) | ktr_units)) (by k_mem) (by with_reducible assumption) (by with_reducible assumption) (by first | with_reducible assumption | omega) (by omega) ?_); intro t9_z t9_z c9_z h9_z tk9_z F9_z N9_z l9_z; try dsimp only))) | ((with_reducible show wpAny _ _ (eval (PySem.Expr.Name ..) _) _ _ _); ((fail_if_success (with_reducible show wpAny _ _ (eval _ (compEnvC _ _ _ _)) _ _ _)); k_here; k_dflt (refine nameX_L (by k_asm) (by first | exact rfl | ((repeat (refine Eq.trans (if_neg (by decide)) ?_)); with_reducible assumption)) ?_; k_whole))) | ((with_reducible show wpAny _ _ (call (Value.builtin "len") _) _ _ _); k_dflt (refine len_list (items := List.toArray _) (by exact News.isList (by k_asm) (by k_mem)) (by exact len_small (by with_reducible assumption) (by with_reducible assumption)) ?_)) | ((with_reducible show wpAny _ _ (call (Value.ref ..) _) _ _ _); k_dflt (refine c_cells (by k_asm) (by k_asm) (by k_asm) (by k_asm) (by k_asm) (by first | with_reducible assumption | exact rfl) (by (first | exact room_up (by with_reducible assumption) (by decide) | ktr_room)) (by (first | exact unit_up (by with_reducible assumption) (by decide) | ktr_units)) (by with_reducible assumption) (by with_reducible assumption) (by omega) ?_; intro c9_z vc9_z nc9_z ds9_z h9_z tk9_z new9_z F9_z N9_z ap9_z m9_z i9_z l9_z; have N8_z := news_one N9_z m9_z; clear N9_z m9_z ap9_z; try dsimp only)) | ((with_reducible show wpAny _ _ (call (Value.ref ..) _) _ _ _); k_dflt (refine c_crossings (by k_asm) (by k_asm) (by k_asm) (by k_asm) (by k_asm) (by first | with_reducible assumption | exact rfl) (by (first | exact room_up (by with_reducible assumption) (by decide) | ktr_room)) (by (first | exact unit_up (by with_reducible assumption) (by decide) | ktr_units)) (by k_mem) (by with_reducible assumption) (by assumption) ?_; intro c9_z a1_z a2_z v1_z v2_z n1_z n2_z xs_z h9_z tk9_z new9_z F9_z N9_z ap9_z m9_z m1_z m2_z hx9_z hs9_z hlo9_z hhi9_z hp9_z; have N8_z := news_three N9_z m9_z m1_z m2_z; clear N9_z m9_z m1_z m2_z; simp only [List.cons_append, List.nil_append] at N8_z; try dsimp only)) | ((with_reducible show UnrEndW ..); refine stop_intro ?_) | ((with_reducible show LCg.CompEnd ..); first | (with_reducible ((refine comp_end1 (by k_asm) (by k_asm) (by assumption) (by assumption) (by lcg_src) ?_))) | ((refine comp_end1 (by k_asm) (by k_asm) (by assumption) (by assumption) (by lcg_src) ?_))) | walk1 | (dsimp only; walk1) | (leave1; (try dsimp only)) | fail "no step"))
    have nI4 : I ≠ s1.heap.objs.size + 1 + 1 + 1 + 1 := (oI (s1.heap.objs.size + 1 + 1 + 1 + 1, o4) (by simp)).symm
    have nI5 : I ≠ s1.heap.objs.size + 1 + 1 + 1 + 1 + 1 := (oI (s1.heap.objs.size + 1 + 1 + 1 + 1 + 1, o5) (by simp)).symm
    rename Fr _ _ _ _ => F5
    rename News _ _ _ _ => N5
    refine Stop.mk (store_cell ((I, it) :: (rw, listOf [Value.ref ra, .ref rb].toArray k1) :: (ra, listOf [Value.int x0 t1, .int y0 t2].toArray k2) :: (rb, listOf [Value.int x1 t3, .int y1 t4].toArray k3) :: (pw, listOf [Value.ref pa, .ref pb].toArray k4) :: (pa, listOf [Value.int u0 t5, .int v0 t6].toArray k5) :: (pb, listOf [Value.int u1 t7, .int v1' t8].toArray k6) :: (s1.heap.objs.size + 1 + 1 + 1 + 1 + 1, o5) :: (s1.heap.objs.size + 1, p1) :: (s1.heap.objs.size + 1 + 1, p2) :: (s1.heap.objs.size + 1 + 1 + 1, p3) :: (s1.heap.objs.size + 1 + 1 + 1 + 1 + 1 + 1, o6) :: base) F5 N5 (o := o4) (by k_mem) (by (repeat (refine List.forall_mem_cons.mpr ⟨by k_mem, ?_⟩)); exact fun p h => by k_mem) (off_turn N5 (o := o4) (by simp) d4 nI4 (by (repeat (refine List.forall_mem_cons.mpr ⟨by k_mem, ?_⟩)); exact List.forall_mem_nil _) (off5 sx.a45.symm sx.a14 sx.a24 sx.a34 sx.a46.symm f4)) d4 rfl ?_)
    clear F5 N5 d4
    intro h6 q4 F5 N5 d4
    try dsimp only
    (repeat' (first | (k_unfold; (try dsimp only)) | (k_end; kc_close) | ((with_reducible show wpAny _ _ (exec (Stmt.For (PySem.Expr.Tuple ..) (PySem.Expr.Name ..) ..) _) _ _ _); (refine stop_intro ?_)) | ((with_reducible show wpAny _ _ (subscriptTail _ _ (Value.ref ..) (Value.int ..)) _ _ _); k_dflt (refine sub_int (by exact News.isList (by k_asm) (by k_mem)) (by with_reducible assumption) (by omega) (by omega) (by omega) ?_; intro _)) | ((with_reducible show LCg.CompSrc _ _ _ _ _ _ _ (PySem.Expr.Call ..) _ _ _ _ _ _); (k_dflt (refine LCg.CompSrc.ledger (by exact rfl) (by k_asm) (by k_asm) (by k_mem) (by exact Nat.le_of_ble_eq_true rfl) ?_; intro g_z; lcg_lit))) | ((with_reducible show wpAny _ _ (callWith _ (Value.ref ..) _ _ _) _ _ _); (k_here; k_dflt (refine callWith_K (by k_asm) (by k_is) ?_; k_whole))) | ((with_reducible show wpAny _ _ (storeName _ _ (Value.ref ..)) _ _ _); ((with_reducible show wpAny _ _ (storeName _ (Str.ofString "figures") _) _ _ _); refine stop_intro ?_)) | ((with_reducible show wpAny _ _ (storeName _ _ (Value.bool ..)) _ _ _); ((with_reducible show wpAny _ _ (storeName _ (Str.ofString "over") _) _ _ _); refine stop_intro ?_)) | ((with_reducible show wpAny _ _ (storeName _ _ (Value.int ..)) _ _ _); ((with_reducible first | show wpAny _ _ (storeName _ (Str.ofString "n") _) _ _ _ | show wpAny _ _ (storeName _ (Str.ofString "w") _) _ _ _ | show wpAny _ _ (storeName _ (Str.ofString "t") _) _ _ _ | show wpAny _ _ (storeName _ (Str.ofString "place") _) _ _ _); refine stop_intro ?_)) | ((with_reducible show wpAny _ _ (call (Value.ref ..) _) _ _ _); (k_dflt ((first | refine c_step (by k_asm) (by k_asm) (by k_asm) (by k_asm) (by k_asm) (by first | with_reducible assumption | exact rfl) (by (first | exact room_up (by with_reducible assumption) (by decide) | ktr_room)) (by (first | exact unit_up (by with_reducible assumption) (by decide) | ktr_units)) (by k_mem) (by with_reducible assumption) (by with_reducible assumption) (by first | with_reducible assumption | omega) (by omega) (by omega) ?_ | refine c_plain (by k_asm) (by k_asm) (by k_asm) (by k_asm) (by k_asm) (by first | with_reducible assumption | exact rfl) (by (first | exact room_up (by with_reducible assumption) (by decide) | ktr_room)) (by (first | exact unit_up (by with_reducible assumption) (by decide) | ktr_units)) (by k_mem) (by with_reducible assumption) (by with_reducible assumption) (by first | with_reducible assumption | omega) (by omega) ?_); intro t9_z t9_z c9_z h9_z tk9_z F9_z N9_z l9_z; try dsimp only))) | ((with_reducible show wpAny _ _ (eval (PySem.Expr.Name ..) _) _ _ _); ((fail_if_success (with_reducible show wpAny _ _ (eval _ (compEnvC _ _ _ _)) _ _ _)); k_here; k_dflt (refine nameX_L (by k_asm) (by first | exact rfl | ((repeat (refine Eq.trans (if_neg (by decide)) ?_)); with_reducible assumption)) ?_; k_whole))) | ((with_reducible show wpAny _ _ (call (Value.builtin "len") _) _ _ _); k_dflt (refine len_list (items := List.toArray _) (by exact News.isList (by k_asm) (by k_mem)) (by exact len_small (by with_reducible assumption) (by with_reducible assumption)) ?_)) | ((with_reducible show wpAny _ _ (call (Value.ref ..) _) _ _ _); k_dflt (refine c_cells (by k_asm) (by k_asm) (by k_asm) (by k_asm) (by k_asm) (by first | with_reducible assumption | exact rfl) (by (first | exact room_up (by with_reducible assumption) (by decide) | ktr_room)) (by (first | exact unit_up (by with_reducible assumption) (by decide) | ktr_units)) (by with_reducible assumption) (by with_reducible assumption) (by omega) ?_; intro c9_z vc9_z nc9_z ds9_z h9_z tk9_z new9_z F9_z N9_z ap9_z m9_z i9_z l9_z; have N8_z := news_one N9_z m9_z; clear N9_z m9_z ap9_z; try dsimp only)) | ((with_reducible show wpAny _ _ (call (Value.ref ..) _) _ _ _); k_dflt (refine c_crossings (by k_asm) (by k_asm) (by k_asm) (by k_asm) (by k_asm) (by first | with_reducible assumption | exact rfl) (by (first | exact room_up (by with_reducible assumption) (by decide) | ktr_room)) (by (first | exact unit_up (by with_reducible assumption) (by decide) | ktr_units)) (by k_mem) (by with_reducible assumption) (by assumption) ?_; intro c9_z a1_z a2_z v1_z v2_z n1_z n2_z xs_z h9_z tk9_z new9_z F9_z N9_z ap9_z m9_z m1_z m2_z hx9_z hs9_z hlo9_z hhi9_z hp9_z; have N8_z := news_three N9_z m9_z m1_z m2_z; clear N9_z m9_z m1_z m2_z; simp only [List.cons_append, List.nil_append] at N8_z; try dsimp only)) | ((with_reducible show UnrEndW ..); refine stop_intro ?_) | ((with_reducible show LCg.CompEnd ..); first | (with_reducible ((refine comp_end1 (by k_asm) (by k_asm) (by assumption) (by assumption) (by lcg_src) ?_))) | ((refine comp_end1 (by k_asm) (by k_asm) (by assumption) (by assumption) (by lcg_src) ?_))) | walk1 | (dsimp only; walk1) | (leave1; (try dsimp only)) | fail "no step"))
    rename Fr _ _ _ _ => F6
    rename News _ _ _ _ => N6
    refine Stop.mk (store_cell ((I, it) :: (rw, listOf [Value.ref ra, .ref rb].toArray k1) :: (ra, listOf [Value.int x0 t1, .int y0 t2].toArray k2) :: (rb, listOf [Value.int x1 t3, .int y1 t4].toArray k3) :: (pw, listOf [Value.ref pa, .ref pb].toArray k4) :: (pa, listOf [Value.int u0 t5, .int v0 t6].toArray k5) :: (pb, listOf [Value.int u1 t7, .int v1' t8].toArray k6) :: (s1.heap.objs.size + 1 + 1 + 1 + 1, q4) :: (s1.heap.objs.size + 1, p1) :: (s1.heap.objs.size + 1 + 1, p2) :: (s1.heap.objs.size + 1 + 1 + 1, p3) :: (s1.heap.objs.size + 1 + 1 + 1 + 1 + 1 + 1, o6) :: base) F6 N6 (o := o5) (by k_mem) (by (repeat (refine List.forall_mem_cons.mpr ⟨by k_mem, ?_⟩)); exact fun p h => by k_mem) (off_turn N6 (o := o5) (by simp) d5 nI5 (by (repeat (refine List.forall_mem_cons.mpr ⟨by k_mem, ?_⟩)); exact List.forall_mem_nil _) (off5 sx.a45 sx.a15 sx.a25 sx.a35 sx.a56.symm f5)) d5 rfl ?_)
    clear F6 N6 d5
    intro h7 q5 F6 N6 d5
    try dsimp only
    have bX : intBits ((2 : Int) ^ ((ww : Int)).toNat) ≤ 80 := bits_up (bits_pow) (by omega)
    have bT : intBits tt ≤ 80 := by
      have : intBits tt ≤ 20 := bits_of_natAbs (by omega)
      omega
    have bt9 : intBits tt ≤ 1000 := by omega
    (repeat' (first | (k_unfold; (try dsimp only)) | (k_end; kc_close) | ((with_reducible show wpAny _ _ (exec (Stmt.For (PySem.Expr.Tuple ..) (PySem.Expr.Name ..) ..) _) _ _ _); (refine stop_intro ?_)) | ((with_reducible show wpAny _ _ (subscriptTail _ _ (Value.ref ..) (Value.int ..)) _ _ _); k_dflt (refine sub_int (by exact News.isList (by k_asm) (by k_mem)) (by with_reducible assumption) (by omega) (by omega) (by omega) ?_; intro _)) | ((with_reducible show LCg.CompSrc _ _ _ _ _ _ _ (PySem.Expr.Call ..) _ _ _ _ _ _); (k_dflt (refine LCg.CompSrc.ledger (by exact rfl) (by k_asm) (by k_asm) (by k_mem) (by exact Nat.le_of_ble_eq_true rfl) ?_; intro g_z; lcg_lit))) | ((with_reducible show wpAny _ _ (callWith _ (Value.ref ..) _ _ _) _ _ _); (k_here; k_dflt (refine callWith_K (by k_asm) (by k_is) ?_; k_whole))) | ((with_reducible show wpAny _ _ (storeName _ _ (Value.ref ..)) _ _ _); ((with_reducible show wpAny _ _ (storeName _ (Str.ofString "figures") _) _ _ _); refine stop_intro ?_)) | ((with_reducible show wpAny _ _ (storeName _ _ (Value.bool ..)) _ _ _); ((with_reducible show wpAny _ _ (storeName _ (Str.ofString "over") _) _ _ _); refine stop_intro ?_)) | ((with_reducible show wpAny _ _ (storeName _ _ (Value.int ..)) _ _ _); ((with_reducible first | show wpAny _ _ (storeName _ (Str.ofString "n") _) _ _ _ | show wpAny _ _ (storeName _ (Str.ofString "w") _) _ _ _ | show wpAny _ _ (storeName _ (Str.ofString "t") _) _ _ _ | show wpAny _ _ (storeName _ (Str.ofString "place") _) _ _ _); refine stop_intro ?_)) | ((with_reducible show wpAny _ _ (call (Value.ref ..) _) _ _ _); (k_dflt ((first | refine c_step (by k_asm) (by k_asm) (by k_asm) (by k_asm) (by k_asm) (by first | with_reducible assumption | exact rfl) (by (first | exact room_up (by with_reducible assumption) (by decide) | ktr_room)) (by (first | exact unit_up (by with_reducible assumption) (by decide) | ktr_units)) (by k_mem) (by with_reducible assumption) (by with_reducible assumption) (by first | with_reducible assumption | omega) (by omega) (by omega) ?_ | refine c_plain (by k_asm) (by k_asm) (by k_asm) (by k_asm) (by k_asm) (by first | with_reducible assumption | exact rfl) (by (first | exact room_up (by with_reducible assumption) (by decide) | ktr_room)) (by (first | exact unit_up (by with_reducible assumption) (by decide) | ktr_units)) (by k_mem) (by with_reducible assumption) (by with_reducible assumption) (by first | with_reducible assumption | omega) (by omega) ?_); intro t9_z t9_z c9_z h9_z tk9_z F9_z N9_z l9_z; try dsimp only))) | ((with_reducible show wpAny _ _ (eval (PySem.Expr.Name ..) _) _ _ _); ((fail_if_success (with_reducible show wpAny _ _ (eval _ (compEnvC _ _ _ _)) _ _ _)); k_here; k_dflt (refine nameX_L (by k_asm) (by first | exact rfl | ((repeat (refine Eq.trans (if_neg (by decide)) ?_)); with_reducible assumption)) ?_; k_whole))) | ((with_reducible show wpAny _ _ (call (Value.builtin "len") _) _ _ _); k_dflt (refine len_list (items := List.toArray _) (by exact News.isList (by k_asm) (by k_mem)) (by exact len_small (by with_reducible assumption) (by with_reducible assumption)) ?_)) | ((with_reducible show wpAny _ _ (call (Value.ref ..) _) _ _ _); k_dflt (refine c_cells (by k_asm) (by k_asm) (by k_asm) (by k_asm) (by k_asm) (by first | with_reducible assumption | exact rfl) (by (first | exact room_up (by with_reducible assumption) (by decide) | ktr_room)) (by (first | exact unit_up (by with_reducible assumption) (by decide) | ktr_units)) (by with_reducible assumption) (by with_reducible assumption) (by omega) ?_; intro c9_z vc9_z nc9_z ds9_z h9_z tk9_z new9_z F9_z N9_z ap9_z m9_z i9_z l9_z; have N8_z := news_one N9_z m9_z; clear N9_z m9_z ap9_z; try dsimp only)) | ((with_reducible show wpAny _ _ (call (Value.ref ..) _) _ _ _); k_dflt (refine c_crossings (by k_asm) (by k_asm) (by k_asm) (by k_asm) (by k_asm) (by first | with_reducible assumption | exact rfl) (by (first | exact room_up (by with_reducible assumption) (by decide) | ktr_room)) (by (first | exact unit_up (by with_reducible assumption) (by decide) | ktr_units)) (by k_mem) (by with_reducible assumption) (by assumption) ?_; intro c9_z a1_z a2_z v1_z v2_z n1_z n2_z xs_z h9_z tk9_z new9_z F9_z N9_z ap9_z m9_z m1_z m2_z hx9_z hs9_z hlo9_z hhi9_z hp9_z; have N8_z := news_three N9_z m9_z m1_z m2_z; clear N9_z m9_z m1_z m2_z; simp only [List.cons_append, List.nil_append] at N8_z; try dsimp only)) | ((with_reducible show UnrEndW ..); refine stop_intro ?_) | ((with_reducible show LCg.CompEnd ..); first | (with_reducible ((refine comp_end1 (by k_asm) (by k_asm) (by assumption) (by assumption) (by lcg_src) ?_))) | ((refine comp_end1 (by k_asm) (by k_asm) (by assumption) (by assumption) (by lcg_src) ?_))) | walk1 | (dsimp only; walk1) | (leave1; (try dsimp only)) | fail "no step"))
    rename Fr _ _ _ _ => F8
    rename News _ _ _ _ => N8
    rw [Int.toNat_natCast] at N8 bX
    exact Stop.mk (lo_end F8 N8 hc oI m1 hx'' (plOk_tail hp') e1 e2 e3 e4 bX bT b1 b2 b3 b4 b5 b6 b7 b8 b9 d4 d5 rfl rfl g3 g4 g5)
  case done =>
    clear F3 N3 N4
    rintro I m6 nw ⟨rw, ra, rb, pw, pa, pb, k1, k2, k3, k4, k5, k6, x0, y0, x1, y1, u0, v0, u1, v1', t1, t2, t3, t4, t5, t6, t7, t8, o4, o5, c4, c5, xs', kk, hx', hp', e1, e2, e3, e4, ⟨b1, b2, b3, b4, b5, b6, b7, b8, b9⟩, rfl, d4, d5, oI, g1, g2, g3, g4, g5⟩ h5 tk5 F N
    cases hx'
    try dsimp only
    rename CodeHd _ 41 37 => C41
    rename CodeHd _ 34 30 => C34
    (repeat' (first | (k_unfold; (try dsimp only)) | (k_end; kc_close) | ((with_reducible show wpAny _ _ (subscriptTail _ _ (Value.ref ..) (Value.int ..)) _ _ _); (k_dflt (refine sub_any (by exact News.isList (by k_asm) (by k_mem)) (by decide) (by decide) (by exact rfl) ?_))) | ((with_reducible show wpAny _ _ (exec (Stmt.For (PySem.Expr.Tuple ..) (PySem.Expr.Name ..) ..) _) _ _ _); (refine stop_intro ?_)) | ((with_reducible show wpAny _ _ (subscriptTail _ _ (Value.ref ..) (Value.int ..)) _ _ _); (k_dflt (refine sub_any (by exact News.isList (by k_asm) (by k_mem)) (by decide) (by decide) (by exact rfl) ?_))) | ((with_reducible show wpAny _ _ (subscriptTail _ _ (Value.ref ..) (Value.int ..)) _ _ _); k_dflt (refine sub_int (by exact News.isList (by k_asm) (by k_mem)) (by with_reducible assumption) (by omega) (by omega) (by omega) ?_; intro _)) | ((with_reducible show LCg.CompSrc _ _ _ _ _ _ _ (PySem.Expr.Call ..) _ _ _ _ _ _); (k_dflt (refine LCg.CompSrc.ledger (by exact rfl) (by k_asm) (by k_asm) (by k_mem) (by exact Nat.le_of_ble_eq_true rfl) ?_; intro g_z; lcg_lit))) | ((with_reducible show wpAny _ _ (callWith _ (Value.ref ..) _ _ _) _ _ _); (k_here; k_dflt (refine callWith_K (by k_asm) (by k_is) ?_; k_whole))) | ((with_reducible show wpAny _ _ (storeName _ _ (Value.ref ..)) _ _ _); ((with_reducible show wpAny _ _ (storeName _ (Str.ofString "figures") _) _ _ _); refine stop_intro ?_)) | ((with_reducible show wpAny _ _ (storeName _ _ (Value.bool ..)) _ _ _); ((with_reducible show wpAny _ _ (storeName _ (Str.ofString "over") _) _ _ _); refine stop_intro ?_)) | ((with_reducible show wpAny _ _ (storeName _ _ (Value.int ..)) _ _ _); ((with_reducible first | show wpAny _ _ (storeName _ (Str.ofString "n") _) _ _ _ | show wpAny _ _ (storeName _ (Str.ofString "w") _) _ _ _ | show wpAny _ _ (storeName _ (Str.ofString "t") _) _ _ _ | show wpAny _ _ (storeName _ (Str.ofString "place") _) _ _ _); refine stop_intro ?_)) | ((with_reducible show wpAny _ _ (call (Value.ref ..) _) _ _ _); ((with_reducible show wpAny _ _ (call (Value.ref 234) _) _ _ _); refine stop_intro ?_)) | ((with_reducible show wpAny _ _ (eval (PySem.Expr.IfExp ..) _) _ _ _); ((fail_if_success (have : MarkN 9 := by assumption)); refine stop_intro ?_)) | ((with_reducible show wpAny _ _ (call (Value.ref ..) _) _ _ _); (k_dflt ((first | refine c_add (by k_asm) (by k_asm) (by k_asm) (by k_asm) (by k_asm) (by first | with_reducible assumption | exact rfl) (by (first | exact room_up (by with_reducible assumption) (by decide) | ktr_room)) (by (first | exact unit_up (by with_reducible assumption) (by decide) | ktr_units)) ?_ | refine c_sub (by k_asm) (by k_asm) (by k_asm) (by k_asm) (by k_asm) (by first | with_reducible assumption | exact rfl) (by (first | exact room_up (by with_reducible assumption) (by decide) | ktr_room)) (by (first | exact unit_up (by with_reducible assumption) (by decide) | ktr_units)) ?_ | (refine c_lshift (by k_asm) (by k_asm) (by k_asm) (by k_asm) (by k_asm) (by first | with_reducible assumption | exact rfl) (by (first | exact room_up (by with_reducible assumption) (by decide) | ktr_room)) (by (first | exact unit_up (by with_reducible assumption) (by decide) | ktr_units)) (by with_reducible assumption) (by with_reducible assumption) (by omega) ?_)); intro t9_z h9_z tk9_z F9_z N9_z; try dsimp only))) | ((with_reducible show wpAny _ _ (call (Value.ref ..) _) _ _ _); ((with_reducible show wpAny _ _ (call (Value.ref 133) _) _ _ _); k_dflt (refine c_count (by k_asm) (by k_asm) (by k_asm) (by k_asm) (by k_asm) (by first | with_reducible assumption | exact rfl) (by (first | exact room_up (by with_reducible assumption) (by decide) | ktr_room)) (by (first | exact unit_up (by with_reducible assumption) (by decide) | ktr_units)) (by k_mem) (by with_reducible assumption) (by with_reducible assumption) ?_; intro t9_z h9_z tk9_z F9_z N9_z; try dsimp only))) | ((with_reducible show wpAny _ _ (eval (PySem.Expr.ListComp ..) _) _ _ _); (refine stop_intro ?_)) | ((with_reducible show wpAny _ _ (call (Value.ref ..) _) _ _ _); (k_dflt ((first | refine c_step (by k_asm) (by k_asm) (by k_asm) (by k_asm) (by k_asm) (by first | with_reducible assumption | exact rfl) (by (first | exact room_up (by with_reducible assumption) (by decide) | ktr_room)) (by (first | exact unit_up (by with_reducible assumption) (by decide) | ktr_units)) (by k_mem) (by with_reducible assumption) (by with_reducible assumption) (by first | with_reducible assumption | omega) (by omega) (by omega) ?_ | refine c_plain (by k_asm) (by k_asm) (by k_asm) (by k_asm) (by k_asm) (by first | with_reducible assumption | exact rfl) (by (first | exact room_up (by with_reducible assumption) (by decide) | ktr_room)) (by (first | exact unit_up (by with_reducible assumption) (by decide) | ktr_units)) (by k_mem) (by with_reducible assumption) (by with_reducible assumption) (by first | with_reducible assumption | omega) (by omega) ?_); intro t9_z t9_z c9_z h9_z tk9_z F9_z N9_z l9_z; try dsimp only))) | ((with_reducible show wpAny _ _ (eval (PySem.Expr.Name ..) _) _ _ _); ((fail_if_success (with_reducible show wpAny _ _ (eval _ (compEnvC _ _ _ _)) _ _ _)); k_here; k_dflt (refine nameX_L (by k_asm) (by first | exact rfl | ((repeat (refine Eq.trans (if_neg (by decide)) ?_)); with_reducible assumption)) ?_; k_whole))) | ((with_reducible show wpAny _ _ (call (Value.builtin "len") _) _ _ _); k_dflt (refine len_list (items := List.toArray _) (by exact News.isList (by k_asm) (by k_mem)) (by exact len_small (by with_reducible assumption) (by with_reducible assumption)) ?_)) | ((with_reducible show wpAny _ _ (call (Value.ref ..) _) _ _ _); k_dflt (refine c_cells (by k_asm) (by k_asm) (by k_asm) (by k_asm) (by k_asm) (by first | with_reducible assumption | exact rfl) (by (first | exact room_up (by with_reducible assumption) (by decide) | ktr_room)) (by (first | exact unit_up (by with_reducible assumption) (by decide) | ktr_units)) (by with_reducible assumption) (by with_reducible assumption) (by omega) ?_; intro c9_z vc9_z nc9_z ds9_z h9_z tk9_z new9_z F9_z N9_z ap9_z m9_z i9_z l9_z; have N8_z := news_one N9_z m9_z; clear N9_z m9_z ap9_z; try dsimp only)) | ((with_reducible show wpAny _ _ (call (Value.ref ..) _) _ _ _); k_dflt (refine c_crossings (by k_asm) (by k_asm) (by k_asm) (by k_asm) (by k_asm) (by first | with_reducible assumption | exact rfl) (by (first | exact room_up (by with_reducible assumption) (by decide) | ktr_room)) (by (first | exact unit_up (by with_reducible assumption) (by decide) | ktr_units)) (by k_mem) (by with_reducible assumption) (by assumption) ?_; intro c9_z a1_z a2_z v1_z v2_z n1_z n2_z xs_z h9_z tk9_z new9_z F9_z N9_z ap9_z m9_z m1_z m2_z hx9_z hs9_z hlo9_z hhi9_z hp9_z; have N8_z := news_three N9_z m9_z m1_z m2_z; clear N9_z m9_z m1_z m2_z; simp only [List.cons_append, List.nil_append] at N8_z; try dsimp only)) | ((with_reducible show LCp.SrcLP ..); (refine stop_intro ?_)) | ((with_reducible show UnrEndW ..); refine stop_intro ?_) | ((with_reducible show LCg.CompEnd ..); first | (with_reducible ((refine comp_end1 (by k_asm) (by k_asm) (by assumption) (by assumption) (by lcg_src) ?_))) | ((refine comp_end1 (by k_asm) (by k_asm) (by assumption) (by assumption) (by lcg_src) ?_))) | walk1 | (dsimp only; walk1) | (leave1; (try dsimp only)) | fail "no step"))
    rename Fr _ _ _ _ => F9
    rename News _ _ _ _ => N9
    refine Stop.mk (LCp.ListComp_P (F₀ := F9) (by with_unfolding_all rfl) (by decide) (by rfl) (by decide) (by rfl) (by rfl) (by decide) ?_)
    (repeat' (first | (k_unfold; (try dsimp only)) | (k_end; kc_close) | ((with_reducible show wpAny _ _ (subscriptTail _ _ (Value.ref ..) (Value.int ..)) _ _ _); (k_dflt (refine sub_any (by exact News.isList (by k_asm) (by k_mem)) (by decide) (by decide) (by exact rfl) ?_))) | ((with_reducible show wpAny _ _ (exec (Stmt.For (PySem.Expr.Tuple ..) (PySem.Expr.Name ..) ..) _) _ _ _); (refine stop_intro ?_)) | ((with_reducible show wpAny _ _ (subscriptTail _ _ (Value.ref ..) (Value.int ..)) _ _ _); (k_dflt (refine sub_any (by exact News.isList (by k_asm) (by k_mem)) (by decide) (by decide) (by exact rfl) ?_))) | ((with_reducible show wpAny _ _ (subscriptTail _ _ (Value.ref ..) (Value.int ..)) _ _ _); k_dflt (refine sub_int (by exact News.isList (by k_asm) (by k_mem)) (by with_reducible assumption) (by omega) (by omega) (by omega) ?_; intro _)) | ((with_reducible show LCg.CompSrc _ _ _ _ _ _ _ (PySem.Expr.Call ..) _ _ _ _ _ _); (k_dflt (refine LCg.CompSrc.ledger (by exact rfl) (by k_asm) (by k_asm) (by k_mem) (by exact Nat.le_of_ble_eq_true rfl) ?_; intro g_z; lcg_lit))) | ((with_reducible show wpAny _ _ (callWith _ (Value.ref ..) _ _ _) _ _ _); (k_here; k_dflt (refine callWith_K (by k_asm) (by k_is) ?_; k_whole))) | ((with_reducible show wpAny _ _ (storeName _ _ (Value.ref ..)) _ _ _); ((with_reducible show wpAny _ _ (storeName _ (Str.ofString "figures") _) _ _ _); refine stop_intro ?_)) | ((with_reducible show wpAny _ _ (storeName _ _ (Value.bool ..)) _ _ _); ((with_reducible show wpAny _ _ (storeName _ (Str.ofString "over") _) _ _ _); refine stop_intro ?_)) | ((with_reducible show wpAny _ _ (storeName _ _ (Value.int ..)) _ _ _); ((with_reducible first | show wpAny _ _ (storeName _ (Str.ofString "n") _) _ _ _ | show wpAny _ _ (storeName _ (Str.ofString "w") _) _ _ _ | show wpAny _ _ (storeName _ (Str.ofString "t") _) _ _ _ | show wpAny _ _ (storeName _ (Str.ofString "place") _) _ _ _); refine stop_intro ?_)) | ((with_reducible show wpAny _ _ (call (Value.ref ..) _) _ _ _); ((with_reducible show wpAny _ _ (call (Value.ref 234) _) _ _ _); refine stop_intro ?_)) | ((with_reducible show wpAny _ _ (eval (PySem.Expr.IfExp ..) _) _ _ _); ((fail_if_success (have : MarkN 9 := by assumption)); refine stop_intro ?_)) | ((with_reducible show wpAny _ _ (call (Value.ref ..) _) _ _ _); (k_dflt ((first | refine c_add (by k_asm) (by k_asm) (by k_asm) (by k_asm) (by k_asm) (by first | with_reducible assumption | exact rfl) (by (first | exact room_up (by with_reducible assumption) (by decide) | ktr_room)) (by (first | exact unit_up (by with_reducible assumption) (by decide) | ktr_units)) ?_ | refine c_sub (by k_asm) (by k_asm) (by k_asm) (by k_asm) (by k_asm) (by first | with_reducible assumption | exact rfl) (by (first | exact room_up (by with_reducible assumption) (by decide) | ktr_room)) (by (first | exact unit_up (by with_reducible assumption) (by decide) | ktr_units)) ?_ | (refine c_lshift (by k_asm) (by k_asm) (by k_asm) (by k_asm) (by k_asm) (by first | with_reducible assumption | exact rfl) (by (first | exact room_up (by with_reducible assumption) (by decide) | ktr_room)) (by (first | exact unit_up (by with_reducible assumption) (by decide) | ktr_units)) (by with_reducible assumption) (by with_reducible assumption) (by omega) ?_)); intro t9_z h9_z tk9_z F9_z N9_z; try dsimp only))) | ((with_reducible show wpAny _ _ (call (Value.ref ..) _) _ _ _); ((with_reducible show wpAny _ _ (call (Value.ref 133) _) _ _ _); k_dflt (refine c_count (by k_asm) (by k_asm) (by k_asm) (by k_asm) (by k_asm) (by first | with_reducible assumption | exact rfl) (by (first | exact room_up (by with_reducible assumption) (by decide) | ktr_room)) (by (first | exact unit_up (by with_reducible assumption) (by decide) | ktr_units)) (by k_mem) (by with_reducible assumption) (by with_reducible assumption) ?_; intro t9_z h9_z tk9_z F9_z N9_z; try dsimp only))) | ((with_reducible show wpAny _ _ (eval (PySem.Expr.ListComp ..) _) _ _ _); (refine stop_intro ?_)) | ((with_reducible show wpAny _ _ (call (Value.ref ..) _) _ _ _); (k_dflt ((first | refine c_step (by k_asm) (by k_asm) (by k_asm) (by k_asm) (by k_asm) (by first | with_reducible assumption | exact rfl) (by (first | exact room_up (by with_reducible assumption) (by decide) | ktr_room)) (by (first | exact unit_up (by with_reducible assumption) (by decide) | ktr_units)) (by k_mem) (by with_reducible assumption) (by with_reducible assumption) (by first | with_reducible assumption | omega) (by omega) (by omega) ?_ | refine c_plain (by k_asm) (by k_asm) (by k_asm) (by k_asm) (by k_asm) (by first | with_reducible assumption | exact rfl) (by (first | exact room_up (by with_reducible assumption) (by decide) | ktr_room)) (by (first | exact unit_up (by with_reducible assumption) (by decide) | ktr_units)) (by k_mem) (by with_reducible assumption) (by with_reducible assumption) (by first | with_reducible assumption | omega) (by omega) ?_); intro t9_z t9_z c9_z h9_z tk9_z F9_z N9_z l9_z; try dsimp only))) | ((with_reducible show wpAny _ _ (eval (PySem.Expr.Name ..) _) _ _ _); ((fail_if_success (with_reducible show wpAny _ _ (eval _ (compEnvC _ _ _ _)) _ _ _)); k_here; k_dflt (refine nameX_L (by k_asm) (by first | exact rfl | ((repeat (refine Eq.trans (if_neg (by decide)) ?_)); with_reducible assumption)) ?_; k_whole))) | ((with_reducible show wpAny _ _ (call (Value.builtin "len") _) _ _ _); k_dflt (refine len_list (items := List.toArray _) (by exact News.isList (by k_asm) (by k_mem)) (by exact len_small (by with_reducible assumption) (by with_reducible assumption)) ?_)) | ((with_reducible show wpAny _ _ (call (Value.ref ..) _) _ _ _); k_dflt (refine c_cells (by k_asm) (by k_asm) (by k_asm) (by k_asm) (by k_asm) (by first | with_reducible assumption | exact rfl) (by (first | exact room_up (by with_reducible assumption) (by decide) | ktr_room)) (by (first | exact unit_up (by with_reducible assumption) (by decide) | ktr_units)) (by with_reducible assumption) (by with_reducible assumption) (by omega) ?_; intro c9_z vc9_z nc9_z ds9_z h9_z tk9_z new9_z F9_z N9_z ap9_z m9_z i9_z l9_z; have N8_z := news_one N9_z m9_z; clear N9_z m9_z ap9_z; try dsimp only)) | ((with_reducible show wpAny _ _ (call (Value.ref ..) _) _ _ _); k_dflt (refine c_crossings (by k_asm) (by k_asm) (by k_asm) (by k_asm) (by k_asm) (by first | with_reducible assumption | exact rfl) (by (first | exact room_up (by with_reducible assumption) (by decide) | ktr_room)) (by (first | exact unit_up (by with_reducible assumption) (by decide) | ktr_units)) (by k_mem) (by with_reducible assumption) (by assumption) ?_; intro c9_z a1_z a2_z v1_z v2_z n1_z n2_z xs_z h9_z tk9_z new9_z F9_z N9_z ap9_z m9_z m1_z m2_z hx9_z hs9_z hlo9_z hhi9_z hp9_z; have N8_z := news_three N9_z m9_z m1_z m2_z; clear N9_z m9_z m1_z m2_z; simp only [List.cons_append, List.nil_append] at N8_z; try dsimp only)) | ((with_reducible show LCp.SrcLP ..); (refine stop_intro ?_)) | ((with_reducible show UnrEndW ..); refine stop_intro ?_) | ((with_reducible show LCg.CompEnd ..); first | (with_reducible ((refine comp_end1 (by k_asm) (by k_asm) (by assumption) (by assumption) (by lcg_src) ?_))) | ((refine comp_end1 (by k_asm) (by k_asm) (by assumption) (by assumption) (by lcg_src) ?_))) | walk1 | (dsimp only; walk1) | (leave1; (try dsimp only)) | fail "no step"))
    have hsz : v1.toArray.size ≤ sizeLine := by rw [List.size_toArray, hx.length]; exact Nat.le_trans h8 (by decide)
    refine Stop.mk (LCp.SrcLP.ledger (its := v1.toArray) (k := n1) rfl F9 N9 (by k_mem) hsz fun g => ?_)
    refine compP_rest (its := v1.toArray) (.inr ⟨_, (by k_mem), rfl, _, rfl⟩) (fun r ys => ∃ xs' pre, CrossAre base r xs' ∧ pre ++ xs' = xs ∧ LSm.BoolsAre ys (pre.map (·.2))) ?trn ?dn v1 0 [] rfl ⟨xs, [], hx, rfl, .nil⟩
    case trn =>
      rintro v r ys ⟨xs', pre, hx', hpre, hb⟩
      obtain ⟨c, pl, tp, b, xs'', rfl, hm, hx'', rfl⟩ := cross_cons hx'
      refine ⟨c, tupObj [.int pl tp, .bool b], .int pl tp, .bool b, 0, .bool b, rfl, (by k_mem), rfl, rfl, ⟨xs'', pre ++ [(pl, b)], hx'', by rw [← hpre]; simp, by rw [List.map_append]; exact bools_snoc hb⟩, ?_⟩
      intro I oI C oC D m₂ h tk E' Q' ha hb1 hb2 F N kq
      clear F9 N9
      (repeat' (first | (k_unfold; (try dsimp only)) | (k_end; kc_close) | ((with_reducible show wpAny _ _ (subscriptTail _ _ (Value.ref ..) (Value.int ..)) _ _ _); (k_dflt (refine sub_any (by exact News.isList (by k_asm) (by k_mem)) (by decide) (by decide) (by exact rfl) ?_))) | ((with_reducible show wpAny _ _ (exec (Stmt.For (PySem.Expr.Tuple ..) (PySem.Expr.Name ..) ..) _) _ _ _); (refine stop_intro ?_)) | ((with_reducible show wpAny _ _ (subscriptTail _ _ (Value.ref ..) (Value.int ..)) _ _ _); (k_dflt (refine sub_any (by exact News.isList (by k_asm) (by k_mem)) (by decide) (by decide) (by exact rfl) ?_))) | ((with_reducible show wpAny _ _ (subscriptTail _ _ (Value.ref ..) (Value.int ..)) _ _ _); k_dflt (refine sub_int (by exact News.isList (by k_asm) (by k_mem)) (by with_reducible assumption) (by omega) (by omega) (by omega) ?_; intro _)) | ((with_reducible show LCg.CompSrc _ _ _ _ _ _ _ (PySem.Expr.Call ..) _ _ _ _ _ _); (k_dflt (refine LCg.CompSrc.ledger (by exact rfl) (by k_asm) (by k_asm) (by k_mem) (by exact Nat.le_of_ble_eq_true rfl) ?_; intro g_z; lcg_lit))) | ((with_reducible show wpAny _ _ (callWith _ (Value.ref ..) _ _ _) _ _ _); (k_here; k_dflt (refine callWith_K (by k_asm) (by k_is) ?_; k_whole))) | ((with_reducible show wpAny _ _ (storeName _ _ (Value.ref ..)) _ _ _); ((with_reducible show wpAny _ _ (storeName _ (Str.ofString "figures") _) _ _ _); refine stop_intro ?_)) | ((with_reducible show wpAny _ _ (storeName _ _ (Value.bool ..)) _ _ _); ((with_reducible show wpAny _ _ (storeName _ (Str.ofString "over") _) _ _ _); refine stop_intro ?_)) | ((with_reducible show wpAny _ _ (storeName _ _ (Value.int ..)) _ _ _); ((with_reducible first | show wpAny _ _ (storeName _ (Str.ofString "n") _) _ _ _ | show wpAny _ _ (storeName _ (Str.ofString "w") _) _ _ _ | show wpAny _ _ (storeName _ (Str.ofString "t") _) _ _ _ | show wpAny _ _ (storeName _ (Str.ofString "place") _) _ _ _); refine stop_intro ?_)) | ((with_reducible show wpAny _ _ (call (Value.ref ..) _) _ _ _); ((with_reducible show wpAny _ _ (call (Value.ref 234) _) _ _ _); refine stop_intro ?_)) | ((with_reducible show wpAny _ _ (eval (PySem.Expr.IfExp ..) _) _ _ _); ((fail_if_success (have : MarkN 9 := by assumption)); refine stop_intro ?_)) | ((with_reducible show wpAny _ _ (call (Value.ref ..) _) _ _ _); (k_dflt ((first | refine c_add (by k_asm) (by k_asm) (by k_asm) (by k_asm) (by k_asm) (by first | with_reducible assumption | exact rfl) (by (first | exact room_up (by with_reducible assumption) (by decide) | ktr_room)) (by (first | exact unit_up (by with_reducible assumption) (by decide) | ktr_units)) ?_ | refine c_sub (by k_asm) (by k_asm) (by k_asm) (by k_asm) (by k_asm) (by first | with_reducible assumption | exact rfl) (by (first | exact room_up (by with_reducible assumption) (by decide) | ktr_room)) (by (first | exact unit_up (by with_reducible assumption) (by decide) | ktr_units)) ?_ | (refine c_lshift (by k_asm) (by k_asm) (by k_asm) (by k_asm) (by k_asm) (by first | with_reducible assumption | exact rfl) (by (first | exact room_up (by with_reducible assumption) (by decide) | ktr_room)) (by (first | exact unit_up (by with_reducible assumption) (by decide) | ktr_units)) (by with_reducible assumption) (by with_reducible assumption) (by omega) ?_)); intro t9_z h9_z tk9_z F9_z N9_z; try dsimp only))) | ((with_reducible show wpAny _ _ (call (Value.ref ..) _) _ _ _); ((with_reducible show wpAny _ _ (call (Value.ref 133) _) _ _ _); k_dflt (refine c_count (by k_asm) (by k_asm) (by k_asm) (by k_asm) (by k_asm) (by first | with_reducible assumption | exact rfl) (by (first | exact room_up (by with_reducible assumption) (by decide) | ktr_room)) (by (first | exact unit_up (by with_reducible assumption) (by decide) | ktr_units)) (by k_mem) (by with_reducible assumption) (by with_reducible assumption) ?_; intro t9_z h9_z tk9_z F9_z N9_z; try dsimp only))) | ((with_reducible show wpAny _ _ (eval (PySem.Expr.ListComp ..) _) _ _ _); (refine stop_intro ?_)) | ((with_reducible show wpAny _ _ (call (Value.ref ..) _) _ _ _); (k_dflt ((first | refine c_step (by k_asm) (by k_asm) (by k_asm) (by k_asm) (by k_asm) (by first | with_reducible assumption | exact rfl) (by (first | exact room_up (by with_reducible assumption) (by decide) | ktr_room)) (by (first | exact unit_up (by with_reducible assumption) (by decide) | ktr_units)) (by k_mem) (by with_reducible assumption) (by with_reducible assumption) (by first | with_reducible assumption | omega) (by omega) (by omega) ?_ | refine c_plain (by k_asm) (by k_asm) (by k_asm) (by k_asm) (by k_asm) (by first | with_reducible assumption | exact rfl) (by (first | exact room_up (by with_reducible assumption) (by decide) | ktr_room)) (by (first | exact unit_up (by with_reducible assumption) (by decide) | ktr_units)) (by k_mem) (by with_reducible assumption) (by with_reducible assumption) (by first | with_reducible assumption | omega) (by omega) ?_); intro t9_z t9_z c9_z h9_z tk9_z F9_z N9_z l9_z; try dsimp only))) | ((with_reducible show wpAny _ _ (eval (PySem.Expr.Name ..) _) _ _ _); ((fail_if_success (with_reducible show wpAny _ _ (eval _ (compEnvC _ _ _ _)) _ _ _)); k_here; k_dflt (refine nameX_L (by k_asm) (by first | exact rfl | ((repeat (refine Eq.trans (if_neg (by decide)) ?_)); with_reducible assumption)) ?_; k_whole))) | ((with_reducible show wpAny _ _ (call (Value.builtin "len") _) _ _ _); k_dflt (refine len_list (items := List.toArray _) (by exact News.isList (by k_asm) (by k_mem)) (by exact len_small (by with_reducible assumption) (by with_reducible assumption)) ?_)) | ((with_reducible show wpAny _ _ (call (Value.ref ..) _) _ _ _); k_dflt (refine c_cells (by k_asm) (by k_asm) (by k_asm) (by k_asm) (by k_asm) (by first | with_reducible assumption | exact rfl) (by (first | exact room_up (by with_reducible assumption) (by decide) | ktr_room)) (by (first | exact unit_up (by with_reducible assumption) (by decide) | ktr_units)) (by with_reducible assumption) (by with_reducible assumption) (by omega) ?_; intro c9_z vc9_z nc9_z ds9_z h9_z tk9_z new9_z F9_z N9_z ap9_z m9_z i9_z l9_z; have N8_z := news_one N9_z m9_z; clear N9_z m9_z ap9_z; try dsimp only)) | ((with_reducible show wpAny _ _ (call (Value.ref ..) _) _ _ _); k_dflt (refine c_crossings (by k_asm) (by k_asm) (by k_asm) (by k_asm) (by k_asm) (by first | with_reducible assumption | exact rfl) (by (first | exact room_up (by with_reducible assumption) (by decide) | ktr_room)) (by (first | exact unit_up (by with_reducible assumption) (by decide) | ktr_units)) (by k_mem) (by with_reducible assumption) (by assumption) ?_; intro c9_z a1_z a2_z v1_z v2_z n1_z n2_z xs_z h9_z tk9_z new9_z F9_z N9_z ap9_z m9_z m1_z m2_z hx9_z hs9_z hlo9_z hhi9_z hp9_z; have N8_z := news_three N9_z m9_z m1_z m2_z; clear N9_z m9_z m1_z m2_z; simp only [List.cons_append, List.nil_append] at N8_z; try dsimp only)) | ((with_reducible show LCp.SrcLP ..); (refine stop_intro ?_)) | ((with_reducible show UnrEndW ..); refine stop_intro ?_) | ((with_reducible show LCg.CompEnd ..); first | (with_reducible ((refine comp_end1 (by k_asm) (by k_asm) (by assumption) (by assumption) (by lcg_src) ?_))) | ((refine comp_end1 (by k_asm) (by k_asm) (by assumption) (by assumption) (by lcg_src) ?_))) | walk1 | (dsimp only; walk1) | (leave1; (try dsimp only)) | fail "no step"))
      exact kq _ _ (by assumption) (by assumption)
    case dn =>
      rintro ys ⟨xs', pre, hx', hpre, hb⟩
      cases hx'
      rw [List.append_nil] at hpre
      rw [hpre] at hb
      clear F9 N9
      have hbl : (xs.map (·.2)).length ≤ 8 := by rw [List.length_map]; exact h8
      obtain ⟨bs, hbs⟩ : ∃ bs, bs = xs.map (·.2) := ⟨_, rfl⟩
      rw [← hbs] at hb hbl
      have hpc : trues bs = ov xs := by rw [hbs]; exact trues_ov xs
      have hpl := ov_le xs
      have hy1 : (0 : Int) ≤ (ww : Int) * ((xs.length : Int) - (trues bs : Int)) := Int.mul_nonneg (by omega) (by omega)
      have hy2 : (ww : Int) * ((xs.length : Int) - (trues bs : Int)) ≤ 71 * 8 := Int.mul_le_mul (by omega) (by omega) (by omega) (by decide)
      have hy3 : (0 : Int) ≤ (ww : Int) * (trues bs : Int) := Int.mul_nonneg (by omega) (by omega)
      have hy4 : (ww : Int) * (trues bs : Int) ≤ 71 * 8 := Int.mul_le_mul (by omega) (by omega) (by omega) (by decide)
      have one1 : intBits 1 ≤ 1 := by decide
      try (rename Dflts _ _ _ _ _ _ => hBig; clear hBig)
      try (rename CellsAre _ _ _ => hBig; clear hBig)
      try (rename Heap.CodeRec _ _ _ => hBig; clear hBig)
      (repeat' (first | (k_unfold; (try dsimp only)) | (k_end; kc_close) | ((with_reducible show wpAny _ _ (subscriptTail _ _ (Value.ref ..) (Value.int ..)) _ _ _); (k_dflt (refine sub_any (by exact News.isList (by k_asm) (by k_mem)) (by decide) (by decide) (by exact rfl) ?_))) | ((with_reducible show wpAny _ _ (exec (Stmt.For (PySem.Expr.Tuple ..) (PySem.Expr.Name ..) ..) _) _ _ _); (refine stop_intro ?_)) | ((with_reducible show wpAny _ _ (subscriptTail _ _ (Value.ref ..) (Value.int ..)) _ _ _); (k_dflt (refine sub_any (by exact News.isList (by k_asm) (by k_mem)) (by decide) (by decide) (by exact rfl) ?_))) | ((with_reducible show wpAny _ _ (subscriptTail _ _ (Value.ref ..) (Value.int ..)) _ _ _); k_dflt (refine sub_int (by exact News.isList (by k_asm) (by k_mem)) (by with_reducible assumption) (by omega) (by omega) (by omega) ?_; intro _)) | ((with_reducible show LCg.CompSrc _ _ _ _ _ _ _ (PySem.Expr.Call ..) _ _ _ _ _ _); (k_dflt (refine LCg.CompSrc.ledger (by exact rfl) (by k_asm) (by k_asm) (by k_mem) (by exact Nat.le_of_ble_eq_true rfl) ?_; intro g_z; lcg_lit))) | ((with_reducible show wpAny _ _ (callWith _ (Value.ref ..) _ _ _) _ _ _); (k_here; k_dflt (refine callWith_K (by k_asm) (by k_is) ?_; k_whole))) | ((with_reducible show wpAny _ _ (storeName _ _ (Value.ref ..)) _ _ _); ((with_reducible show wpAny _ _ (storeName _ (Str.ofString "figures") _) _ _ _); refine stop_intro ?_)) | ((with_reducible show wpAny _ _ (storeName _ _ (Value.bool ..)) _ _ _); ((with_reducible show wpAny _ _ (storeName _ (Str.ofString "over") _) _ _ _); refine stop_intro ?_)) | ((with_reducible show wpAny _ _ (storeName _ _ (Value.int ..)) _ _ _); ((with_reducible first | show wpAny _ _ (storeName _ (Str.ofString "n") _) _ _ _ | show wpAny _ _ (storeName _ (Str.ofString "w") _) _ _ _ | show wpAny _ _ (storeName _ (Str.ofString "t") _) _ _ _ | show wpAny _ _ (storeName _ (Str.ofString "place") _) _ _ _); refine stop_intro ?_)) | ((with_reducible show wpAny _ _ (call (Value.ref ..) _) _ _ _); ((with_reducible show wpAny _ _ (call (Value.ref 234) _) _ _ _); refine stop_intro ?_)) | ((with_reducible show wpAny _ _ (eval (PySem.Expr.IfExp ..) _) _ _ _); ((fail_if_success (have : MarkN 9 := by assumption)); refine stop_intro ?_)) | ((with_reducible show wpAny _ _ (call (Value.ref ..) _) _ _ _); (k_dflt ((first | refine c_add (by k_asm) (by k_asm) (by k_asm) (by k_asm) (by k_asm) (by first | with_reducible assumption | exact rfl) (by (first | exact room_up (by with_reducible assumption) (by decide) | ktr_room)) (by (first | exact unit_up (by with_reducible assumption) (by decide) | ktr_units)) ?_ | refine c_sub (by k_asm) (by k_asm) (by k_asm) (by k_asm) (by k_asm) (by first | with_reducible assumption | exact rfl) (by (first | exact room_up (by with_reducible assumption) (by decide) | ktr_room)) (by (first | exact unit_up (by with_reducible assumption) (by decide) | ktr_units)) ?_ | (refine c_lshift (by k_asm) (by k_asm) (by k_asm) (by k_asm) (by k_asm) (by first | with_reducible assumption | exact rfl) (by (first | exact room_up (by with_reducible assumption) (by decide) | ktr_room)) (by (first | exact unit_up (by with_reducible assumption) (by decide) | ktr_units)) (by with_reducible assumption) (by with_reducible assumption) (by omega) ?_)); intro t9_z h9_z tk9_z F9_z N9_z; try dsimp only))) | ((with_reducible show wpAny _ _ (call (Value.ref ..) _) _ _ _); ((with_reducible show wpAny _ _ (call (Value.ref 133) _) _ _ _); k_dflt (refine c_count (by k_asm) (by k_asm) (by k_asm) (by k_asm) (by k_asm) (by first | with_reducible assumption | exact rfl) (by (first | exact room_up (by with_reducible assumption) (by decide) | ktr_room)) (by (first | exact unit_up (by with_reducible assumption) (by decide) | ktr_units)) (by k_mem) (by with_reducible assumption) (by with_reducible assumption) ?_; intro t9_z h9_z tk9_z F9_z N9_z; try dsimp only))) | ((with_reducible show wpAny _ _ (eval (PySem.Expr.ListComp ..) _) _ _ _); (refine stop_intro ?_)) | ((with_reducible show wpAny _ _ (call (Value.ref ..) _) _ _ _); (k_dflt ((first | refine c_step (by k_asm) (by k_asm) (by k_asm) (by k_asm) (by k_asm) (by first | with_reducible assumption | exact rfl) (by (first | exact room_up (by with_reducible assumption) (by decide) | ktr_room)) (by (first | exact unit_up (by with_reducible assumption) (by decide) | ktr_units)) (by k_mem) (by with_reducible assumption) (by with_reducible assumption) (by first | with_reducible assumption | omega) (by omega) (by omega) ?_ | refine c_plain (by k_asm) (by k_asm) (by k_asm) (by k_asm) (by k_asm) (by first | with_reducible assumption | exact rfl) (by (first | exact room_up (by with_reducible assumption) (by decide) | ktr_room)) (by (first | exact unit_up (by with_reducible assumption) (by decide) | ktr_units)) (by k_mem) (by with_reducible assumption) (by with_reducible assumption) (by first | with_reducible assumption | omega) (by omega) ?_); intro t9_z t9_z c9_z h9_z tk9_z F9_z N9_z l9_z; try dsimp only))) | ((with_reducible show wpAny _ _ (eval (PySem.Expr.Name ..) _) _ _ _); ((fail_if_success (with_reducible show wpAny _ _ (eval _ (compEnvC _ _ _ _)) _ _ _)); k_here; k_dflt (refine nameX_L (by k_asm) (by first | exact rfl | ((repeat (refine Eq.trans (if_neg (by decide)) ?_)); with_reducible assumption)) ?_; k_whole))) | ((with_reducible show wpAny _ _ (call (Value.builtin "len") _) _ _ _); k_dflt (refine len_list (items := List.toArray _) (by exact News.isList (by k_asm) (by k_mem)) (by exact len_small (by with_reducible assumption) (by with_reducible assumption)) ?_)) | ((with_reducible show wpAny _ _ (call (Value.ref ..) _) _ _ _); k_dflt (refine c_cells (by k_asm) (by k_asm) (by k_asm) (by k_asm) (by k_asm) (by first | with_reducible assumption | exact rfl) (by (first | exact room_up (by with_reducible assumption) (by decide) | ktr_room)) (by (first | exact unit_up (by with_reducible assumption) (by decide) | ktr_units)) (by with_reducible assumption) (by with_reducible assumption) (by omega) ?_; intro c9_z vc9_z nc9_z ds9_z h9_z tk9_z new9_z F9_z N9_z ap9_z m9_z i9_z l9_z; have N8_z := news_one N9_z m9_z; clear N9_z m9_z ap9_z; try dsimp only)) | ((with_reducible show wpAny _ _ (call (Value.ref ..) _) _ _ _); k_dflt (refine c_crossings (by k_asm) (by k_asm) (by k_asm) (by k_asm) (by k_asm) (by first | with_reducible assumption | exact rfl) (by (first | exact room_up (by with_reducible assumption) (by decide) | ktr_room)) (by (first | exact unit_up (by with_reducible assumption) (by decide) | ktr_units)) (by k_mem) (by with_reducible assumption) (by assumption) ?_; intro c9_z a1_z a2_z v1_z v2_z n1_z n2_z xs_z h9_z tk9_z new9_z F9_z N9_z ap9_z m9_z m1_z m2_z hx9_z hs9_z hlo9_z hhi9_z hp9_z; have N8_z := news_three N9_z m9_z m1_z m2_z; clear N9_z m9_z m1_z m2_z; simp only [List.cons_append, List.nil_append] at N8_z; try dsimp only)) | ((with_reducible show LCp.SrcLP ..); (refine stop_intro ?_)) | ((with_reducible show UnrEndW ..); refine stop_intro ?_) | ((with_reducible show LCg.CompEnd ..); first | (with_reducible ((refine comp_end1 (by k_asm) (by k_asm) (by assumption) (by assumption) (by lcg_src) ?_))) | ((refine comp_end1 (by k_asm) (by k_asm) (by assumption) (by assumption) (by lcg_src) ?_))) | walk1 | (dsimp only; walk1) | (leave1; (try dsimp only)) | fail "no step"))
      rename Fr _ _ _ _ => F10
      rename News _ _ _ _ => N10
      have ex : x0 = (rowF (2 ^ ww) (1, 0) xs).1 := congrArg Prod.fst e1
      have ey : y1 = (rowF (2 ^ ww) (0, 1) xs).2 := congrArg Prod.snd e2
      refine Stop.mk (int_cut (2 ^ (ww * (xs.length - trues bs)) - (x0 + y1) + (-1) ^ xs.length * 2 ^ (ww * trues bs)) F10 N10 ?_ ?_)
      · have mk9 : MarkN 9 := ⟨⟩
        (repeat' (first | (k_unfold; (try dsimp only)) | (k_end; kc_close) | ((with_reducible show wpAny _ _ (subscriptTail _ _ (Value.ref ..) (Value.int ..)) _ _ _); (k_dflt (refine sub_any (by exact News.isList (by k_asm) (by k_mem)) (by decide) (by decide) (by exact rfl) ?_))) | ((with_reducible show wpAny _ _ (exec (Stmt.For (PySem.Expr.Tuple ..) (PySem.Expr.Name ..) ..) _) _ _ _); (refine stop_intro ?_)) | ((with_reducible show wpAny _ _ (subscriptTail _ _ (Value.ref ..) (Value.int ..)) _ _ _); (k_dflt (refine sub_any (by exact News.isList (by k_asm) (by k_mem)) (by decide) (by decide) (by exact rfl) ?_))) | ((with_reducible show wpAny _ _ (subscriptTail _ _ (Value.ref ..) (Value.int ..)) _ _ _); k_dflt (refine sub_int (by exact News.isList (by k_asm) (by k_mem)) (by with_reducible assumption) (by omega) (by omega) (by omega) ?_; intro _)) | ((with_reducible show LCg.CompSrc _ _ _ _ _ _ _ (PySem.Expr.Call ..) _ _ _ _ _ _); (k_dflt (refine LCg.CompSrc.ledger (by exact rfl) (by k_asm) (by k_asm) (by k_mem) (by exact Nat.le_of_ble_eq_true rfl) ?_; intro g_z; lcg_lit))) | ((with_reducible show wpAny _ _ (callWith _ (Value.ref ..) _ _ _) _ _ _); (k_here; k_dflt (refine callWith_K (by k_asm) (by k_is) ?_; k_whole))) | ((with_reducible show wpAny _ _ (storeName _ _ (Value.ref ..)) _ _ _); ((with_reducible show wpAny _ _ (storeName _ (Str.ofString "figures") _) _ _ _); refine stop_intro ?_)) | ((with_reducible show wpAny _ _ (storeName _ _ (Value.bool ..)) _ _ _); ((with_reducible show wpAny _ _ (storeName _ (Str.ofString "over") _) _ _ _); refine stop_intro ?_)) | ((with_reducible show wpAny _ _ (storeName _ _ (Value.int ..)) _ _ _); ((with_reducible first | show wpAny _ _ (storeName _ (Str.ofString "n") _) _ _ _ | show wpAny _ _ (storeName _ (Str.ofString "w") _) _ _ _ | show wpAny _ _ (storeName _ (Str.ofString "t") _) _ _ _ | show wpAny _ _ (storeName _ (Str.ofString "place") _) _ _ _); refine stop_intro ?_)) | ((with_reducible show wpAny _ _ (call (Value.ref ..) _) _ _ _); ((with_reducible show wpAny _ _ (call (Value.ref 234) _) _ _ _); refine stop_intro ?_)) | ((with_reducible show wpAny _ _ (eval (PySem.Expr.IfExp ..) _) _ _ _); ((fail_if_success (have : MarkN 9 := by assumption)); refine stop_intro ?_)) | ((with_reducible show wpAny _ _ (call (Value.ref ..) _) _ _ _); (k_dflt ((first | refine c_add (by k_asm) (by k_asm) (by k_asm) (by k_asm) (by k_asm) (by first | with_reducible assumption | exact rfl) (by (first | exact room_up (by with_reducible assumption) (by decide) | ktr_room)) (by (first | exact unit_up (by with_reducible assumption) (by decide) | ktr_units)) ?_ | refine c_sub (by k_asm) (by k_asm) (by k_asm) (by k_asm) (by k_asm) (by first | with_reducible assumption | exact rfl) (by (first | exact room_up (by with_reducible assumption) (by decide) | ktr_room)) (by (first | exact unit_up (by with_reducible assumption) (by decide) | ktr_units)) ?_ | (refine c_lshift (by k_asm) (by k_asm) (by k_asm) (by k_asm) (by k_asm) (by first | with_reducible assumption | exact rfl) (by (first | exact room_up (by with_reducible assumption) (by decide) | ktr_room)) (by (first | exact unit_up (by with_reducible assumption) (by decide) | ktr_units)) (by with_reducible assumption) (by with_reducible assumption) (by omega) ?_)); intro t9_z h9_z tk9_z F9_z N9_z; try dsimp only))) | ((with_reducible show wpAny _ _ (call (Value.ref ..) _) _ _ _); ((with_reducible show wpAny _ _ (call (Value.ref 133) _) _ _ _); k_dflt (refine c_count (by k_asm) (by k_asm) (by k_asm) (by k_asm) (by k_asm) (by first | with_reducible assumption | exact rfl) (by (first | exact room_up (by with_reducible assumption) (by decide) | ktr_room)) (by (first | exact unit_up (by with_reducible assumption) (by decide) | ktr_units)) (by k_mem) (by with_reducible assumption) (by with_reducible assumption) ?_; intro t9_z h9_z tk9_z F9_z N9_z; try dsimp only))) | ((with_reducible show wpAny _ _ (eval (PySem.Expr.ListComp ..) _) _ _ _); (refine stop_intro ?_)) | ((with_reducible show wpAny _ _ (call (Value.ref ..) _) _ _ _); (k_dflt ((first | refine c_step (by k_asm) (by k_asm) (by k_asm) (by k_asm) (by k_asm) (by first | with_reducible assumption | exact rfl) (by (first | exact room_up (by with_reducible assumption) (by decide) | ktr_room)) (by (first | exact unit_up (by with_reducible assumption) (by decide) | ktr_units)) (by k_mem) (by with_reducible assumption) (by with_reducible assumption) (by first | with_reducible assumption | omega) (by omega) (by omega) ?_ | refine c_plain (by k_asm) (by k_asm) (by k_asm) (by k_asm) (by k_asm) (by first | with_reducible assumption | exact rfl) (by (first | exact room_up (by with_reducible assumption) (by decide) | ktr_room)) (by (first | exact unit_up (by with_reducible assumption) (by decide) | ktr_units)) (by k_mem) (by with_reducible assumption) (by with_reducible assumption) (by first | with_reducible assumption | omega) (by omega) ?_); intro t9_z t9_z c9_z h9_z tk9_z F9_z N9_z l9_z; try dsimp only))) | ((with_reducible show wpAny _ _ (eval (PySem.Expr.Name ..) _) _ _ _); ((fail_if_success (with_reducible show wpAny _ _ (eval _ (compEnvC _ _ _ _)) _ _ _)); k_here; k_dflt (refine nameX_L (by k_asm) (by first | exact rfl | ((repeat (refine Eq.trans (if_neg (by decide)) ?_)); with_reducible assumption)) ?_; k_whole))) | ((with_reducible show wpAny _ _ (call (Value.builtin "len") _) _ _ _); k_dflt (refine len_list (items := List.toArray _) (by exact News.isList (by k_asm) (by k_mem)) (by exact len_small (by with_reducible assumption) (by with_reducible assumption)) ?_)) | ((with_reducible show wpAny _ _ (call (Value.ref ..) _) _ _ _); k_dflt (refine c_cells (by k_asm) (by k_asm) (by k_asm) (by k_asm) (by k_asm) (by first | with_reducible assumption | exact rfl) (by (first | exact room_up (by with_reducible assumption) (by decide) | ktr_room)) (by (first | exact unit_up (by with_reducible assumption) (by decide) | ktr_units)) (by with_reducible assumption) (by with_reducible assumption) (by omega) ?_; intro c9_z vc9_z nc9_z ds9_z h9_z tk9_z new9_z F9_z N9_z ap9_z m9_z i9_z l9_z; have N8_z := news_one N9_z m9_z; clear N9_z m9_z ap9_z; try dsimp only)) | ((with_reducible show wpAny _ _ (call (Value.ref ..) _) _ _ _); k_dflt (refine c_crossings (by k_asm) (by k_asm) (by k_asm) (by k_asm) (by k_asm) (by first | with_reducible assumption | exact rfl) (by (first | exact room_up (by with_reducible assumption) (by decide) | ktr_room)) (by (first | exact unit_up (by with_reducible assumption) (by decide) | ktr_units)) (by k_mem) (by with_reducible assumption) (by assumption) ?_; intro c9_z a1_z a2_z v1_z v2_z n1_z n2_z xs_z h9_z tk9_z new9_z F9_z N9_z ap9_z m9_z m1_z m2_z hx9_z hs9_z hlo9_z hhi9_z hp9_z; have N8_z := news_three N9_z m9_z m1_z m2_z; clear N9_z m9_z m1_z m2_z; simp only [List.cons_append, List.nil_append] at N8_z; try dsimp only)) | ((with_reducible show LCp.SrcLP ..); (refine stop_intro ?_)) | ((with_reducible show UnrEndW ..); refine stop_intro ?_) | ((with_reducible show LCg.CompEnd ..); first | (with_reducible ((refine comp_end1 (by k_asm) (by k_asm) (by assumption) (by assumption) (by lcg_src) ?_))) | ((refine comp_end1 (by k_asm) (by k_asm) (by assumption) (by assumption) (by lcg_src) ?_))) | walk1 | (dsimp only; walk1) | (leave1; (try dsimp only)) | fail "no step"))
        · rename Int.fmod _ _ = _ => e
          rename Fr _ _ _ _ => F11
          rename News _ _ _ _ => N11
          exact int_is F11 N11 (dvd_odd (hpc ▸ hpl) e _)
        · rename ¬(Int.fmod _ _ = _) => e
          rename Fr _ _ _ _ => F11
          rename News _ _ _ _ => N11
          exact int_is F11 N11 (dvd_even (hpc ▸ hpl) e _)
      · clear F10 N10
        intro td h7 tk7 F10 N10
        (repeat' (first | (k_unfold; (try dsimp only)) | (k_end; kc_close) | ((with_reducible show wpAny _ _ (subscriptTail _ _ (Value.ref ..) (Value.int ..)) _ _ _); (k_dflt (refine sub_any (by exact News.isList (by k_asm) (by k_mem)) (by decide) (by decide) (by exact rfl) ?_))) | ((with_reducible show wpAny _ _ (exec (Stmt.For (PySem.Expr.Tuple ..) (PySem.Expr.Name ..) ..) _) _ _ _); (refine stop_intro ?_)) | ((with_reducible show wpAny _ _ (subscriptTail _ _ (Value.ref ..) (Value.int ..)) _ _ _); (k_dflt (refine sub_any (by exact News.isList (by k_asm) (by k_mem)) (by decide) (by decide) (by exact rfl) ?_))) | ((with_reducible show wpAny _ _ (subscriptTail _ _ (Value.ref ..) (Value.int ..)) _ _ _); k_dflt (refine sub_int (by exact News.isList (by k_asm) (by k_mem)) (by with_reducible assumption) (by omega) (by omega) (by omega) ?_; intro _)) | ((with_reducible show LCg.CompSrc _ _ _ _ _ _ _ (PySem.Expr.Call ..) _ _ _ _ _ _); (k_dflt (refine LCg.CompSrc.ledger (by exact rfl) (by k_asm) (by k_asm) (by k_mem) (by exact Nat.le_of_ble_eq_true rfl) ?_; intro g_z; lcg_lit))) | ((with_reducible show wpAny _ _ (callWith _ (Value.ref ..) _ _ _) _ _ _); (k_here; k_dflt (refine callWith_K (by k_asm) (by k_is) ?_; k_whole))) | ((with_reducible show wpAny _ _ (storeName _ _ (Value.ref ..)) _ _ _); ((with_reducible show wpAny _ _ (storeName _ (Str.ofString "figures") _) _ _ _); refine stop_intro ?_)) | ((with_reducible show wpAny _ _ (storeName _ _ (Value.bool ..)) _ _ _); ((with_reducible show wpAny _ _ (storeName _ (Str.ofString "over") _) _ _ _); refine stop_intro ?_)) | ((with_reducible show wpAny _ _ (storeName _ _ (Value.int ..)) _ _ _); ((with_reducible first | show wpAny _ _ (storeName _ (Str.ofString "n") _) _ _ _ | show wpAny _ _ (storeName _ (Str.ofString "w") _) _ _ _ | show wpAny _ _ (storeName _ (Str.ofString "t") _) _ _ _ | show wpAny _ _ (storeName _ (Str.ofString "place") _) _ _ _); refine stop_intro ?_)) | ((with_reducible show wpAny _ _ (call (Value.ref ..) _) _ _ _); ((with_reducible show wpAny _ _ (call (Value.ref 234) _) _ _ _); refine stop_intro ?_)) | ((with_reducible show wpAny _ _ (eval (PySem.Expr.IfExp ..) _) _ _ _); ((fail_if_success (have : MarkN 9 := by assumption)); refine stop_intro ?_)) | ((with_reducible show wpAny _ _ (call (Value.ref ..) _) _ _ _); (k_dflt ((first | refine c_add (by k_asm) (by k_asm) (by k_asm) (by k_asm) (by k_asm) (by first | with_reducible assumption | exact rfl) (by (first | exact room_up (by with_reducible assumption) (by decide) | ktr_room)) (by (first | exact unit_up (by with_reducible assumption) (by decide) | ktr_units)) ?_ | refine c_sub (by k_asm) (by k_asm) (by k_asm) (by k_asm) (by k_asm) (by first | with_reducible assumption | exact rfl) (by (first | exact room_up (by with_reducible assumption) (by decide) | ktr_room)) (by (first | exact unit_up (by with_reducible assumption) (by decide) | ktr_units)) ?_ | (refine c_lshift (by k_asm) (by k_asm) (by k_asm) (by k_asm) (by k_asm) (by first | with_reducible assumption | exact rfl) (by (first | exact room_up (by with_reducible assumption) (by decide) | ktr_room)) (by (first | exact unit_up (by with_reducible assumption) (by decide) | ktr_units)) (by with_reducible assumption) (by with_reducible assumption) (by omega) ?_)); intro t9_z h9_z tk9_z F9_z N9_z; try dsimp only))) | ((with_reducible show wpAny _ _ (call (Value.ref ..) _) _ _ _); ((with_reducible show wpAny _ _ (call (Value.ref 133) _) _ _ _); k_dflt (refine c_count (by k_asm) (by k_asm) (by k_asm) (by k_asm) (by k_asm) (by first | with_reducible assumption | exact rfl) (by (first | exact room_up (by with_reducible assumption) (by decide) | ktr_room)) (by (first | exact unit_up (by with_reducible assumption) (by decide) | ktr_units)) (by k_mem) (by with_reducible assumption) (by with_reducible assumption) ?_; intro t9_z h9_z tk9_z F9_z N9_z; try dsimp only))) | ((with_reducible show wpAny _ _ (eval (PySem.Expr.ListComp ..) _) _ _ _); (refine stop_intro ?_)) | ((with_reducible show wpAny _ _ (call (Value.ref ..) _) _ _ _); (k_dflt ((first | refine c_step (by k_asm) (by k_asm) (by k_asm) (by k_asm) (by k_asm) (by first | with_reducible assumption | exact rfl) (by (first | exact room_up (by with_reducible assumption) (by decide) | ktr_room)) (by (first | exact unit_up (by with_reducible assumption) (by decide) | ktr_units)) (by k_mem) (by with_reducible assumption) (by with_reducible assumption) (by first | with_reducible assumption | omega) (by omega) (by omega) ?_ | refine c_plain (by k_asm) (by k_asm) (by k_asm) (by k_asm) (by k_asm) (by first | with_reducible assumption | exact rfl) (by (first | exact room_up (by with_reducible assumption) (by decide) | ktr_room)) (by (first | exact unit_up (by with_reducible assumption) (by decide) | ktr_units)) (by k_mem) (by with_reducible assumption) (by with_reducible assumption) (by first | with_reducible assumption | omega) (by omega) ?_); intro t9_z t9_z c9_z h9_z tk9_z F9_z N9_z l9_z; try dsimp only))) | ((with_reducible show wpAny _ _ (eval (PySem.Expr.Name ..) _) _ _ _); ((fail_if_success (with_reducible show wpAny _ _ (eval _ (compEnvC _ _ _ _)) _ _ _)); k_here; k_dflt (refine nameX_L (by k_asm) (by first | exact rfl | ((repeat (refine Eq.trans (if_neg (by decide)) ?_)); with_reducible assumption)) ?_; k_whole))) | ((with_reducible show wpAny _ _ (call (Value.builtin "len") _) _ _ _); k_dflt (refine len_list (items := List.toArray _) (by exact News.isList (by k_asm) (by k_mem)) (by exact len_small (by with_reducible assumption) (by with_reducible assumption)) ?_)) | ((with_reducible show wpAny _ _ (call (Value.ref ..) _) _ _ _); k_dflt (refine c_cells (by k_asm) (by k_asm) (by k_asm) (by k_asm) (by k_asm) (by first | with_reducible assumption | exact rfl) (by (first | exact room_up (by with_reducible assumption) (by decide) | ktr_room)) (by (first | exact unit_up (by with_reducible assumption) (by decide) | ktr_units)) (by with_reducible assumption) (by with_reducible assumption) (by omega) ?_; intro c9_z vc9_z nc9_z ds9_z h9_z tk9_z new9_z F9_z N9_z ap9_z m9_z i9_z l9_z; have N8_z := news_one N9_z m9_z; clear N9_z m9_z ap9_z; try dsimp only)) | ((with_reducible show wpAny _ _ (call (Value.ref ..) _) _ _ _); k_dflt (refine c_crossings (by k_asm) (by k_asm) (by k_asm) (by k_asm) (by k_asm) (by first | with_reducible assumption | exact rfl) (by (first | exact room_up (by with_reducible assumption) (by decide) | ktr_room)) (by (first | exact unit_up (by with_reducible assumption) (by decide) | ktr_units)) (by k_mem) (by with_reducible assumption) (by assumption) ?_; intro c9_z a1_z a2_z v1_z v2_z n1_z n2_z xs_z h9_z tk9_z new9_z F9_z N9_z ap9_z m9_z m1_z m2_z hx9_z hs9_z hlo9_z hhi9_z hp9_z; have N8_z := news_three N9_z m9_z m1_z m2_z; clear N9_z m9_z m1_z m2_z; simp only [List.cons_append, List.nil_append] at N8_z; try dsimp only)) | ((with_reducible show LCp.SrcLP ..); (refine stop_intro ?_)) | ((with_reducible show UnrEndW ..); refine stop_intro ?_) | ((with_reducible show LCg.CompEnd ..); first | (with_reducible ((refine comp_end1 (by k_asm) (by k_asm) (by assumption) (by assumption) (by lcg_src) ?_))) | ((refine comp_end1 (by k_asm) (by k_asm) (by assumption) (by assumption) (by lcg_src) ?_))) | walk1 | (dsimp only; walk1) | (leave1; (try dsimp only)) | fail "no step"))
        rename Fr _ _ _ _ => F11
        rename News _ _ _ _ => N11
        refine' Stop.mk (fig_call (c6 := s1.heap.objs.size + 1 + 1 + 1 + 1 + 1 + 1) (o6 := o6) (xs := xs) (n := xs.length) (ww := ww) ?cB ?cF ?cX N11 ?cT ?cK ?C ?C2 ?cd ?cu ?m37 ?m30 ?m6 d6 rfl hp h3 h8 hw1 hw2 ?t1 ?t2 ?hq ?_)
        (case cB => k_asm)
        (case cF => k_asm)
        (case cX => k_asm)
        (case cT => k_asm)
        (case cK => first | with_reducible assumption | exact rfl)
        (case C => exact C41)
        (case C2 => exact C34)
        (case cd => (first | exact room_up (by with_reducible assumption) (by decide) | ktr_room))
        (case cu => (first | exact unit_up (by with_reducible assumption) (by decide) | ktr_units))
        (case m37 => k_mem)
        (case m30 => k_mem)
        (case m6 => k_mem)
        (case hq => rw [ex, ey, hpc])
        case t1 => exact times_lo (Int.fmod_nonneg_of_pos _ (by decide))
        case t2 => exact times_hi (Int.fmod_lt_of_pos _ (by decide))
        clear F11
        rintro c vs nc G h8' tk8 K F12 N12 off6 keep ⟨qs7, m37'⟩ ⟨qs0, m30'⟩ iG lG fG dG
        obtain ⟨g1', g2', g3', g4', g5'⟩ := law_asks ww hw1 tt xs hp h3 h8 G lG fG dG
        replace g3' := rule3 g3'
        have mA : (a1, listOf v1.toArray n1) ∈ K := keep_list keep (by k_mem)
        have mS : (a2, listOf v2.toArray n2) ∈ K := keep_list keep (by k_mem)
        have mPw : (pw, listOf [Value.ref pa, .ref pb].toArray k4) ∈ K := keep_list keep (by k_mem)
        have mPa : (pa, listOf [Value.int u0 t5, .int v0 t6].toArray k5) ∈ K := keep_list keep (by k_mem)
        have mPb : (pb, listOf [Value.int u1 t7, .int v1' t8].toArray k6) ∈ K := keep_list keep (by k_mem)
        have mP1 : (s1.heap.objs.size + 1, p1) ∈ K := keep_cell keep d1 (by k_mem)
        have mP3 : (s1.heap.objs.size + 1 + 1 + 1, p3) ∈ K := keep_cell keep d3 (by k_mem)
        have hxK : CrossAre K v1 xs := cross_keep keep (CrossAre.mono (news := base) hx fun p hp => by simp only [List.mem_cons]; simp [hp])
        clear N11 keep
        try dsimp only
        (repeat' (first | (k_unfold; (try dsimp only)) | (k_end; kc_close) | ((with_reducible show wpAny _ _ (subscriptTail _ _ (Value.ref ..) (Value.int ..)) _ _ _); (k_dflt (refine sub_any (by exact News.isList (by k_asm) (by k_mem)) (by decide) (by decide) (by exact rfl) ?_))) | ((with_reducible show wpAny _ _ (exec (Stmt.For (PySem.Expr.Tuple ..) (PySem.Expr.Name ..) ..) _) _ _ _); (refine stop_intro ?_)) | ((with_reducible show wpAny _ _ (subscriptTail _ _ (Value.ref ..) (Value.int ..)) _ _ _); (k_dflt (refine sub_any (by exact News.isList (by k_asm) (by k_mem)) (by decide) (by decide) (by exact rfl) ?_))) | ((with_reducible show wpAny _ _ (subscriptTail _ _ (Value.ref ..) (Value.int ..)) _ _ _); k_dflt (refine sub_int (by exact News.isList (by k_asm) (by k_mem)) (by with_reducible assumption) (by omega) (by omega) (by omega) ?_; intro _)) | ((with_reducible show LCg.CompSrc _ _ _ _ _ _ _ (PySem.Expr.Call ..) _ _ _ _ _ _); (k_dflt (refine LCg.CompSrc.ledger (by exact rfl) (by k_asm) (by k_asm) (by k_mem) (by exact Nat.le_of_ble_eq_true rfl) ?_; intro g_z; lcg_lit))) | ((with_reducible show wpAny _ _ (callWith _ (Value.ref ..) _ _ _) _ _ _); (k_here; k_dflt (refine callWith_K (by k_asm) (by k_is) ?_; k_whole))) | ((with_reducible show wpAny _ _ (storeName _ _ (Value.ref ..)) _ _ _); ((with_reducible show wpAny _ _ (storeName _ (Str.ofString "figures") _) _ _ _); refine stop_intro ?_)) | ((with_reducible show wpAny _ _ (storeName _ _ (Value.bool ..)) _ _ _); ((with_reducible show wpAny _ _ (storeName _ (Str.ofString "over") _) _ _ _); refine stop_intro ?_)) | ((with_reducible show wpAny _ _ (storeName _ _ (Value.int ..)) _ _ _); ((with_reducible first | show wpAny _ _ (storeName _ (Str.ofString "n") _) _ _ _ | show wpAny _ _ (storeName _ (Str.ofString "w") _) _ _ _ | show wpAny _ _ (storeName _ (Str.ofString "t") _) _ _ _ | show wpAny _ _ (storeName _ (Str.ofString "place") _) _ _ _); refine stop_intro ?_)) | ((with_reducible show wpAny _ _ (call (Value.ref ..) _) _ _ _); ((with_reducible show wpAny _ _ (call (Value.ref 234) _) _ _ _); refine stop_intro ?_)) | ((with_reducible show wpAny _ _ (eval (PySem.Expr.IfExp ..) _) _ _ _); ((fail_if_success (have : MarkN 9 := by assumption)); refine stop_intro ?_)) | ((with_reducible show wpAny _ _ (call (Value.ref ..) _) _ _ _); (k_dflt ((first | refine c_add (by k_asm) (by k_asm) (by k_asm) (by k_asm) (by k_asm) (by first | with_reducible assumption | exact rfl) (by (first | exact room_up (by with_reducible assumption) (by decide) | ktr_room)) (by (first | exact unit_up (by with_reducible assumption) (by decide) | ktr_units)) ?_ | refine c_sub (by k_asm) (by k_asm) (by k_asm) (by k_asm) (by k_asm) (by first | with_reducible assumption | exact rfl) (by (first | exact room_up (by with_reducible assumption) (by decide) | ktr_room)) (by (first | exact unit_up (by with_reducible assumption) (by decide) | ktr_units)) ?_ | (refine c_lshift (by k_asm) (by k_asm) (by k_asm) (by k_asm) (by k_asm) (by first | with_reducible assumption | exact rfl) (by (first | exact room_up (by with_reducible assumption) (by decide) | ktr_room)) (by (first | exact unit_up (by with_reducible assumption) (by decide) | ktr_units)) (by with_reducible assumption) (by with_reducible assumption) (by omega) ?_)); intro t9_z h9_z tk9_z F9_z N9_z; try dsimp only))) | ((with_reducible show wpAny _ _ (call (Value.ref ..) _) _ _ _); ((with_reducible show wpAny _ _ (call (Value.ref 133) _) _ _ _); k_dflt (refine c_count (by k_asm) (by k_asm) (by k_asm) (by k_asm) (by k_asm) (by first | with_reducible assumption | exact rfl) (by (first | exact room_up (by with_reducible assumption) (by decide) | ktr_room)) (by (first | exact unit_up (by with_reducible assumption) (by decide) | ktr_units)) (by k_mem) (by with_reducible assumption) (by with_reducible assumption) ?_; intro t9_z h9_z tk9_z F9_z N9_z; try dsimp only))) | ((with_reducible show wpAny _ _ (eval (PySem.Expr.ListComp ..) _) _ _ _); (refine stop_intro ?_)) | ((with_reducible show wpAny _ _ (call (Value.ref ..) _) _ _ _); (k_dflt ((first | refine c_step (by k_asm) (by k_asm) (by k_asm) (by k_asm) (by k_asm) (by first | with_reducible assumption | exact rfl) (by (first | exact room_up (by with_reducible assumption) (by decide) | ktr_room)) (by (first | exact unit_up (by with_reducible assumption) (by decide) | ktr_units)) (by k_mem) (by with_reducible assumption) (by with_reducible assumption) (by first | with_reducible assumption | omega) (by omega) (by omega) ?_ | refine c_plain (by k_asm) (by k_asm) (by k_asm) (by k_asm) (by k_asm) (by first | with_reducible assumption | exact rfl) (by (first | exact room_up (by with_reducible assumption) (by decide) | ktr_room)) (by (first | exact unit_up (by with_reducible assumption) (by decide) | ktr_units)) (by k_mem) (by with_reducible assumption) (by with_reducible assumption) (by first | with_reducible assumption | omega) (by omega) ?_); intro t9_z t9_z c9_z h9_z tk9_z F9_z N9_z l9_z; try dsimp only))) | ((with_reducible show wpAny _ _ (eval (PySem.Expr.Name ..) _) _ _ _); ((fail_if_success (with_reducible show wpAny _ _ (eval _ (compEnvC _ _ _ _)) _ _ _)); k_here; k_dflt (refine nameX_L (by k_asm) (by first | exact rfl | ((repeat (refine Eq.trans (if_neg (by decide)) ?_)); with_reducible assumption)) ?_; k_whole))) | ((with_reducible show wpAny _ _ (call (Value.builtin "len") _) _ _ _); k_dflt (refine len_list (items := List.toArray _) (by exact News.isList (by k_asm) (by k_mem)) (by exact len_small (by with_reducible assumption) (by with_reducible assumption)) ?_)) | ((with_reducible show wpAny _ _ (call (Value.ref ..) _) _ _ _); k_dflt (refine c_cells (by k_asm) (by k_asm) (by k_asm) (by k_asm) (by k_asm) (by first | with_reducible assumption | exact rfl) (by (first | exact room_up (by with_reducible assumption) (by decide) | ktr_room)) (by (first | exact unit_up (by with_reducible assumption) (by decide) | ktr_units)) (by with_reducible assumption) (by with_reducible assumption) (by omega) ?_; intro c9_z vc9_z nc9_z ds9_z h9_z tk9_z new9_z F9_z N9_z ap9_z m9_z i9_z l9_z; have N8_z := news_one N9_z m9_z; clear N9_z m9_z ap9_z; try dsimp only)) | ((with_reducible show wpAny _ _ (call (Value.ref ..) _) _ _ _); k_dflt (refine c_crossings (by k_asm) (by k_asm) (by k_asm) (by k_asm) (by k_asm) (by first | with_reducible assumption | exact rfl) (by (first | exact room_up (by with_reducible assumption) (by decide) | ktr_room)) (by (first | exact unit_up (by with_reducible assumption) (by decide) | ktr_units)) (by k_mem) (by with_reducible assumption) (by assumption) ?_; intro c9_z a1_z a2_z v1_z v2_z n1_z n2_z xs_z h9_z tk9_z new9_z F9_z N9_z ap9_z m9_z m1_z m2_z hx9_z hs9_z hlo9_z hhi9_z hp9_z; have N8_z := news_three N9_z m9_z m1_z m2_z; clear N9_z m9_z m1_z m2_z; simp only [List.cons_append, List.nil_append] at N8_z; try dsimp only)) | ((with_reducible show LCp.SrcLP ..); (refine stop_intro ?_)) | ((with_reducible show UnrEndW ..); refine stop_intro ?_) | ((with_reducible show LCg.CompEnd ..); first | (with_reducible ((refine comp_end1 (by k_asm) (by k_asm) (by assumption) (by assumption) (by lcg_src) ?_))) | ((refine comp_end1 (by k_asm) (by k_asm) (by assumption) (by assumption) (by lcg_src) ?_))) | walk1 | (dsimp only; walk1) | (leave1; (try dsimp only)) | fail "no step"))
        rename Fr _ _ _ _ => F13
        rename News _ _ _ _ => N13
        refine Stop.mk (store_cell ((c, listOf vs.toArray nc) :: K) F13 N13 (o := o6) (by k_mem) (by (repeat (refine List.forall_mem_cons.mpr ⟨by k_mem, ?_⟩)); exact fun p h => by k_mem) off6 d6 rfl ?_)
        clear F13 N13 d6 off6
        intro h10 q6 F13 N13 d6
        have hln : ((vs.toArray.size : Nat) : Int) = (xs.length : Int) - 1 := by rw [List.size_toArray, iG.length, lG]; exact pred_cast h3
        have hlen : ((vs.toArray.size : Nat) : Int) < 2 ^ 63 := by rw [hln]; exact pred63 h8
        try dsimp only
        (repeat' (first | (k_unfold; (try dsimp only)) | (k_end; kc_close) | ((with_reducible show wpAny _ _ (subscriptTail _ _ (Value.ref ..) (Value.int ..)) _ _ _); (k_dflt (refine sub_any (by exact News.isList (by k_asm) (by k_mem)) (by decide) (by decide) (by exact rfl) ?_))) | ((with_reducible show wpAny _ _ (exec (Stmt.For (PySem.Expr.Tuple ..) (PySem.Expr.Name ..) ..) _) _ _ _); (refine stop_intro ?_)) | ((with_reducible show wpAny _ _ (subscriptTail _ _ (Value.ref ..) (Value.int ..)) _ _ _); (k_dflt (refine sub_int (by exact News.isList (by k_asm) (by k_mem)) (by with_reducible assumption) (by first | with_reducible assumption | omega) (by first | with_reducible assumption | omega) (by first | with_reducible assumption | omega) ?_; intro _))) | ((with_reducible show wpAny _ _ (subscriptTail _ _ (Value.ref ..) (Value.int ..)) _ _ _); (k_dflt (refine sub_any (by exact News.isList (by k_asm) (by k_mem)) (by decide) (by decide) (by exact rfl) ?_))) | ((with_reducible show wpAny _ _ (subscriptTail _ _ (Value.ref ..) (Value.int ..)) _ _ _); k_dflt (refine sub_int (by exact News.isList (by k_asm) (by k_mem)) (by with_reducible assumption) (by omega) (by omega) (by omega) ?_; intro _)) | ((with_reducible show wpAny _ _ (call (Value.type "range") _) _ _ _); first | (with_reducible (((rename Fr _ _ _ _ => F_z); (rename News _ _ _ _ => N_z); (with_unfolding_all refine range1_rows F_z N_z ?_); clear F_z N_z; intro h9_z tk9_z t91_z u91_z v91_z R9_z F9_z N9_z K9_z))) | (((rename Fr _ _ _ _ => F_z); (rename News _ _ _ _ => N_z); (with_unfolding_all refine range1_rows F_z N_z ?_); clear F_z N_z; intro h9_z tk9_z t91_z u91_z v91_z R9_z F9_z N9_z K9_z))) | ((with_reducible show wpAny _ _ (compareOp CmpOp.Eq (Value.bool ..) (Value.bool ..)) _ _ _); (refine stop_intro ?_)) | ((with_reducible show wpAny _ _ (compareOp CmpOp.NotEq (Value.int ..) (Value.int ..)) _ _ _); (k_dflt (refine ne_int_same (by with_reducible assumption) ?_))) | ((with_reducible show LCg.CompSrc _ _ _ _ _ _ _ (PySem.Expr.Call ..) _ _ _ _ _ _); (k_dflt (refine LCg.CompSrc.ledger (by exact rfl) (by k_asm) (by k_asm) (by k_mem) (by exact Nat.le_of_ble_eq_true rfl) ?_; intro g_z; lcg_lit))) | ((with_reducible show wpAny _ _ (compareOp CmpOp.Eq (Value.ref ..) (Value.ref ..)) _ _ _); (k_dflt (refine ke_eq_ints (by exact News.isList (by k_asm) (by k_mem)) (by exact News.isList (by k_asm) (by k_mem)) (by with_reducible assumption) (by l_ints) (by (first | exact unit_up (by with_reducible assumption) (by decide) | ktr_units)) ?_))) | ((with_reducible show wpAny _ _ (compareOp CmpOp.NotEq (Value.ref ..) (Value.ref ..)) _ _ _); (k_dflt (refine ne_same (by exact News.isList (by k_asm) (by k_mem)) (by exact News.isList (by k_asm) (by k_mem)) (by with_reducible assumption) (by with_reducible assumption) (by (first | exact unit_up (by with_reducible assumption) (by decide) | ktr_units)) ?_))) | ((with_reducible show wpAny _ _ (binaryOp Operator.Mult (Value.int ..) (Value.int ..)) _ _ _); (k_dflt (refine mul_b (by tb_start) (by tb_start) (by first | decide | omega) ?_; try dsimp only))) | ((with_reducible show wpAny _ _ (binaryOp Operator.Pow (Value.int ..) (Value.int ..)) _ _ _); (k_dflt (refine pow_int_small (by first | with_reducible assumption | omega) (by first | with_reducible assumption | omega) (by first | with_reducible assumption | decide | omega) ?_; try dsimp only))) | ((with_reducible show wpAny _ _ (callWith _ (Value.ref ..) _ _ _) _ _ _); (k_here; k_dflt (refine callWith_K (by k_asm) (by k_is) ?_; k_whole))) | ((with_reducible show LCg.CompSrc _ _ _ _ _ _ _ (PySem.Expr.BinOp ..) _ _ _ _ _ _); (refine stop_intro ?_)) | ((with_reducible show wpAny _ _ (storeName _ _ (Value.ref ..)) _ _ _); ((with_reducible show wpAny _ _ (storeName _ (Str.ofString "figures") _) _ _ _); refine stop_intro ?_)) | ((with_reducible show wpAny _ _ (storeName _ _ (Value.bool ..)) _ _ _); ((with_reducible show wpAny _ _ (storeName _ (Str.ofString "over") _) _ _ _); refine stop_intro ?_)) | ((with_reducible show wpAny _ _ (storeName _ _ (Value.int ..)) _ _ _); ((with_reducible first | show wpAny _ _ (storeName _ (Str.ofString "n") _) _ _ _ | show wpAny _ _ (storeName _ (Str.ofString "w") _) _ _ _ | show wpAny _ _ (storeName _ (Str.ofString "t") _) _ _ _ | show wpAny _ _ (storeName _ (Str.ofString "place") _) _ _ _); refine stop_intro ?_)) | ((with_reducible show wpAny _ _ (call (Value.ref ..) _) _ _ _); ((with_reducible show wpAny _ _ (call (Value.ref 241) _) _ _ _); refine stop_intro ?_)) | ((with_reducible show wpAny _ _ (call (Value.builtin "sum") _) _ _ _); (k_dflt (first | (refine sum_pick (by k_asm) (by k_asm) (by exact rfl) (by k_mem) (by with_reducible assumption) ?_; intro _ _ _ _ _; try dsimp only) | (refine LSm.sum_ints (by k_asm) (by k_asm) (by exact rfl) (by exact News.isList (by k_asm) (by k_mem)) (by with_reducible assumption) ?_; intro _ _ _ _ _; try dsimp only)))) | ((with_reducible show wpAny _ _ (call (Value.type "reversed") _) _ _ _); (refine stop_intro ?_)) | ((with_reducible show wpAny _ _ (call (Value.builtin "len") _) _ _ _); (k_dflt (refine len_list (items := List.toArray _) (by exact News.isList (by k_asm) (by k_mem)) (by with_reducible assumption) ?_))) | ((with_reducible show wpAny _ _ (call (Value.ref ..) _) _ _ _); ((with_reducible show wpAny _ _ (call (Value.ref 234) _) _ _ _); refine stop_intro ?_)) | ((with_reducible show wpAny _ _ (eval (PySem.Expr.IfExp ..) _) _ _ _); ((fail_if_success (have : MarkN 9 := by assumption)); refine stop_intro ?_)) | ((with_reducible show wpAny _ _ (call (Value.ref ..) _) _ _ _); (k_dflt ((first | refine c_add (by k_asm) (by k_asm) (by k_asm) (by k_asm) (by k_asm) (by first | with_reducible assumption | exact rfl) (by (first | exact room_up (by with_reducible assumption) (by decide) | ktr_room)) (by (first | exact unit_up (by with_reducible assumption) (by decide) | ktr_units)) ?_ | refine c_sub (by k_asm) (by k_asm) (by k_asm) (by k_asm) (by k_asm) (by first | with_reducible assumption | exact rfl) (by (first | exact room_up (by with_reducible assumption) (by decide) | ktr_room)) (by (first | exact unit_up (by with_reducible assumption) (by decide) | ktr_units)) ?_ | (refine c_lshift (by k_asm) (by k_asm) (by k_asm) (by k_asm) (by k_asm) (by first | with_reducible assumption | exact rfl) (by (first | exact room_up (by with_reducible assumption) (by decide) | ktr_room)) (by (first | exact unit_up (by with_reducible assumption) (by decide) | ktr_units)) (by with_reducible assumption) (by with_reducible assumption) (by omega) ?_)); intro t9_z h9_z tk9_z F9_z N9_z; try dsimp only))) | ((with_reducible show wpAny _ _ (call (Value.ref ..) _) _ _ _); ((with_reducible show wpAny _ _ (call (Value.ref 133) _) _ _ _); k_dflt (refine c_count (by k_asm) (by k_asm) (by k_asm) (by k_asm) (by k_asm) (by first | with_reducible assumption | exact rfl) (by (first | exact room_up (by with_reducible assumption) (by decide) | ktr_room)) (by (first | exact unit_up (by with_reducible assumption) (by decide) | ktr_units)) (by k_mem) (by with_reducible assumption) (by with_reducible assumption) ?_; intro t9_z h9_z tk9_z F9_z N9_z; try dsimp only))) | ((with_reducible show wpAny _ _ (eval (PySem.Expr.ListComp ..) _) _ _ _); (refine stop_intro ?_)) | ((with_reducible show wpAny _ _ (call (Value.ref ..) _) _ _ _); (k_dflt ((first | refine c_step (by k_asm) (by k_asm) (by k_asm) (by k_asm) (by k_asm) (by first | with_reducible assumption | exact rfl) (by (first | exact room_up (by with_reducible assumption) (by decide) | ktr_room)) (by (first | exact unit_up (by with_reducible assumption) (by decide) | ktr_units)) (by k_mem) (by with_reducible assumption) (by with_reducible assumption) (by first | with_reducible assumption | omega) (by omega) (by omega) ?_ | refine c_plain (by k_asm) (by k_asm) (by k_asm) (by k_asm) (by k_asm) (by first | with_reducible assumption | exact rfl) (by (first | exact room_up (by with_reducible assumption) (by decide) | ktr_room)) (by (first | exact unit_up (by with_reducible assumption) (by decide) | ktr_units)) (by k_mem) (by with_reducible assumption) (by with_reducible assumption) (by first | with_reducible assumption | omega) (by omega) ?_); intro t9_z t9_z c9_z h9_z tk9_z F9_z N9_z l9_z; try dsimp only))) | ((with_reducible show wpAny _ _ (eval (PySem.Expr.Name ..) _) _ _ _); ((fail_if_success (with_reducible show wpAny _ _ (eval _ (compEnvC _ _ _ _)) _ _ _)); k_here; k_dflt (refine nameX_L (by k_asm) (by first | exact rfl | ((repeat (refine Eq.trans (if_neg (by decide)) ?_)); with_reducible assumption)) ?_; k_whole))) | ((with_reducible show wpAny _ _ (call (Value.builtin "len") _) _ _ _); k_dflt (refine len_list (items := List.toArray _) (by exact News.isList (by k_asm) (by k_mem)) (by exact len_small (by with_reducible assumption) (by with_reducible assumption)) ?_)) | ((with_reducible show wpAny _ _ (call (Value.ref ..) _) _ _ _); k_dflt (refine c_cells (by k_asm) (by k_asm) (by k_asm) (by k_asm) (by k_asm) (by first | with_reducible assumption | exact rfl) (by (first | exact room_up (by with_reducible assumption) (by decide) | ktr_room)) (by (first | exact unit_up (by with_reducible assumption) (by decide) | ktr_units)) (by with_reducible assumption) (by with_reducible assumption) (by omega) ?_; intro c9_z vc9_z nc9_z ds9_z h9_z tk9_z new9_z F9_z N9_z ap9_z m9_z i9_z l9_z; have N8_z := news_one N9_z m9_z; clear N9_z m9_z ap9_z; try dsimp only)) | ((with_reducible show wpAny _ _ (call (Value.ref ..) _) _ _ _); k_dflt (refine c_crossings (by k_asm) (by k_asm) (by k_asm) (by k_asm) (by k_asm) (by first | with_reducible assumption | exact rfl) (by (first | exact room_up (by with_reducible assumption) (by decide) | ktr_room)) (by (first | exact unit_up (by with_reducible assumption) (by decide) | ktr_units)) (by k_mem) (by with_reducible assumption) (by assumption) ?_; intro c9_z a1_z a2_z v1_z v2_z n1_z n2_z xs_z h9_z tk9_z new9_z F9_z N9_z ap9_z m9_z m1_z m2_z hx9_z hs9_z hlo9_z hhi9_z hp9_z; have N8_z := news_three N9_z m9_z m1_z m2_z; clear N9_z m9_z m1_z m2_z; simp only [List.cons_append, List.nil_append] at N8_z; try dsimp only)) | ((with_reducible show LCp.SrcLP ..); (refine stop_intro ?_)) | ((with_reducible show UnrEndW ..); refine stop_intro ?_) | ((with_reducible show LCg.CompEnd ..); first | (with_reducible ((refine comp_end1 (by k_asm) (by k_asm) (by assumption) (by assumption) (by lcg_src) ?_))) | ((refine comp_end1 (by k_asm) (by k_asm) (by assumption) (by assumption) (by lcg_src) ?_))) | walk1 | (dsimp only; walk1) | (leave1; (try dsimp only)) | fail "no step"))
        rename Fr _ _ _ _ => F14
        rename News _ _ _ _ => N14
        refine Stop.mk (ListComp_R (F₀ := F14) (by with_unfolding_all rfl) (by decide) (by rfl) (by decide) (by rfl) ?_)
        (repeat' (first | (k_unfold; (try dsimp only)) | (k_end; kc_close) | ((with_reducible show wpAny _ _ (subscriptTail _ _ (Value.ref ..) (Value.int ..)) _ _ _); (k_dflt (refine sub_any (by exact News.isList (by k_asm) (by k_mem)) (by decide) (by decide) (by exact rfl) ?_))) | ((with_reducible show wpAny _ _ (exec (Stmt.For (PySem.Expr.Tuple ..) (PySem.Expr.Name ..) ..) _) _ _ _); (refine stop_intro ?_)) | ((with_reducible show wpAny _ _ (subscriptTail _ _ (Value.ref ..) (Value.int ..)) _ _ _); (k_dflt (refine sub_int (by exact News.isList (by k_asm) (by k_mem)) (by with_reducible assumption) (by first | with_reducible assumption | omega) (by first | with_reducible assumption | omega) (by first | with_reducible assumption | omega) ?_; intro _))) | ((with_reducible show wpAny _ _ (subscriptTail _ _ (Value.ref ..) (Value.int ..)) _ _ _); (k_dflt (refine sub_any (by exact News.isList (by k_asm) (by k_mem)) (by decide) (by decide) (by exact rfl) ?_))) | ((with_reducible show wpAny _ _ (subscriptTail _ _ (Value.ref ..) (Value.int ..)) _ _ _); k_dflt (refine sub_int (by exact News.isList (by k_asm) (by k_mem)) (by with_reducible assumption) (by omega) (by omega) (by omega) ?_; intro _)) | ((with_reducible show wpAny _ _ (call (Value.type "range") _) _ _ _); first | (with_reducible (((rename Fr _ _ _ _ => F_z); (rename News _ _ _ _ => N_z); (with_unfolding_all refine range1_rows F_z N_z ?_); clear F_z N_z; intro h9_z tk9_z t91_z u91_z v91_z R9_z F9_z N9_z K9_z))) | (((rename Fr _ _ _ _ => F_z); (rename News _ _ _ _ => N_z); (with_unfolding_all refine range1_rows F_z N_z ?_); clear F_z N_z; intro h9_z tk9_z t91_z u91_z v91_z R9_z F9_z N9_z K9_z))) | ((with_reducible show wpAny _ _ (compareOp CmpOp.Eq (Value.bool ..) (Value.bool ..)) _ _ _); (refine stop_intro ?_)) | ((with_reducible show wpAny _ _ (compareOp CmpOp.NotEq (Value.int ..) (Value.int ..)) _ _ _); (k_dflt (refine ne_int_same (by with_reducible assumption) ?_))) | ((with_reducible show LCg.CompSrc _ _ _ _ _ _ _ (PySem.Expr.Call ..) _ _ _ _ _ _); (k_dflt (refine LCg.CompSrc.ledger (by exact rfl) (by k_asm) (by k_asm) (by k_mem) (by exact Nat.le_of_ble_eq_true rfl) ?_; intro g_z; lcg_lit))) | ((with_reducible show wpAny _ _ (compareOp CmpOp.Eq (Value.ref ..) (Value.ref ..)) _ _ _); (k_dflt (refine ke_eq_ints (by exact News.isList (by k_asm) (by k_mem)) (by exact News.isList (by k_asm) (by k_mem)) (by with_reducible assumption) (by l_ints) (by (first | exact unit_up (by with_reducible assumption) (by decide) | ktr_units)) ?_))) | ((with_reducible show wpAny _ _ (compareOp CmpOp.NotEq (Value.ref ..) (Value.ref ..)) _ _ _); (k_dflt (refine ne_same (by exact News.isList (by k_asm) (by k_mem)) (by exact News.isList (by k_asm) (by k_mem)) (by with_reducible assumption) (by with_reducible assumption) (by (first | exact unit_up (by with_reducible assumption) (by decide) | ktr_units)) ?_))) | ((with_reducible show wpAny _ _ (binaryOp Operator.Mult (Value.int ..) (Value.int ..)) _ _ _); (k_dflt (refine mul_b (by tb_start) (by tb_start) (by first | decide | omega) ?_; try dsimp only))) | ((with_reducible show wpAny _ _ (binaryOp Operator.Pow (Value.int ..) (Value.int ..)) _ _ _); (k_dflt (refine pow_int_small (by first | with_reducible assumption | omega) (by first | with_reducible assumption | omega) (by first | with_reducible assumption | decide | omega) ?_; try dsimp only))) | ((with_reducible show wpAny _ _ (callWith _ (Value.ref ..) _ _ _) _ _ _); (k_here; k_dflt (refine callWith_K (by k_asm) (by k_is) ?_; k_whole))) | ((with_reducible show LCg.CompSrc _ _ _ _ _ _ _ (PySem.Expr.BinOp ..) _ _ _ _ _ _); (refine stop_intro ?_)) | ((with_reducible show wpAny _ _ (storeName _ _ (Value.ref ..)) _ _ _); ((with_reducible show wpAny _ _ (storeName _ (Str.ofString "figures") _) _ _ _); refine stop_intro ?_)) | ((with_reducible show wpAny _ _ (storeName _ _ (Value.bool ..)) _ _ _); ((with_reducible show wpAny _ _ (storeName _ (Str.ofString "over") _) _ _ _); refine stop_intro ?_)) | ((with_reducible show wpAny _ _ (storeName _ _ (Value.int ..)) _ _ _); ((with_reducible first | show wpAny _ _ (storeName _ (Str.ofString "n") _) _ _ _ | show wpAny _ _ (storeName _ (Str.ofString "w") _) _ _ _ | show wpAny _ _ (storeName _ (Str.ofString "t") _) _ _ _ | show wpAny _ _ (storeName _ (Str.ofString "place") _) _ _ _); refine stop_intro ?_)) | ((with_reducible show wpAny _ _ (call (Value.ref ..) _) _ _ _); ((with_reducible show wpAny _ _ (call (Value.ref 241) _) _ _ _); refine stop_intro ?_)) | ((with_reducible show wpAny _ _ (call (Value.builtin "sum") _) _ _ _); (k_dflt (first | (refine sum_pick (by k_asm) (by k_asm) (by exact rfl) (by k_mem) (by with_reducible assumption) ?_; intro _ _ _ _ _; try dsimp only) | (refine LSm.sum_ints (by k_asm) (by k_asm) (by exact rfl) (by exact News.isList (by k_asm) (by k_mem)) (by with_reducible assumption) ?_; intro _ _ _ _ _; try dsimp only)))) | ((with_reducible show wpAny _ _ (call (Value.type "reversed") _) _ _ _); (refine stop_intro ?_)) | ((with_reducible show wpAny _ _ (call (Value.builtin "len") _) _ _ _); (k_dflt (refine len_list (items := List.toArray _) (by exact News.isList (by k_asm) (by k_mem)) (by with_reducible assumption) ?_))) | ((with_reducible show wpAny _ _ (call (Value.ref ..) _) _ _ _); ((with_reducible show wpAny _ _ (call (Value.ref 234) _) _ _ _); refine stop_intro ?_)) | ((with_reducible show wpAny _ _ (eval (PySem.Expr.IfExp ..) _) _ _ _); ((fail_if_success (have : MarkN 9 := by assumption)); refine stop_intro ?_)) | ((with_reducible show wpAny _ _ (call (Value.ref ..) _) _ _ _); (k_dflt ((first | refine c_add (by k_asm) (by k_asm) (by k_asm) (by k_asm) (by k_asm) (by first | with_reducible assumption | exact rfl) (by (first | exact room_up (by with_reducible assumption) (by decide) | ktr_room)) (by (first | exact unit_up (by with_reducible assumption) (by decide) | ktr_units)) ?_ | refine c_sub (by k_asm) (by k_asm) (by k_asm) (by k_asm) (by k_asm) (by first | with_reducible assumption | exact rfl) (by (first | exact room_up (by with_reducible assumption) (by decide) | ktr_room)) (by (first | exact unit_up (by with_reducible assumption) (by decide) | ktr_units)) ?_ | (refine c_lshift (by k_asm) (by k_asm) (by k_asm) (by k_asm) (by k_asm) (by first | with_reducible assumption | exact rfl) (by (first | exact room_up (by with_reducible assumption) (by decide) | ktr_room)) (by (first | exact unit_up (by with_reducible assumption) (by decide) | ktr_units)) (by with_reducible assumption) (by with_reducible assumption) (by omega) ?_)); intro t9_z h9_z tk9_z F9_z N9_z; try dsimp only))) | ((with_reducible show wpAny _ _ (call (Value.ref ..) _) _ _ _); ((with_reducible show wpAny _ _ (call (Value.ref 133) _) _ _ _); k_dflt (refine c_count (by k_asm) (by k_asm) (by k_asm) (by k_asm) (by k_asm) (by first | with_reducible assumption | exact rfl) (by (first | exact room_up (by with_reducible assumption) (by decide) | ktr_room)) (by (first | exact unit_up (by with_reducible assumption) (by decide) | ktr_units)) (by k_mem) (by with_reducible assumption) (by with_reducible assumption) ?_; intro t9_z h9_z tk9_z F9_z N9_z; try dsimp only))) | ((with_reducible show wpAny _ _ (eval (PySem.Expr.ListComp ..) _) _ _ _); (refine stop_intro ?_)) | ((with_reducible show wpAny _ _ (call (Value.ref ..) _) _ _ _); (k_dflt ((first | refine c_step (by k_asm) (by k_asm) (by k_asm) (by k_asm) (by k_asm) (by first | with_reducible assumption | exact rfl) (by (first | exact room_up (by with_reducible assumption) (by decide) | ktr_room)) (by (first | exact unit_up (by with_reducible assumption) (by decide) | ktr_units)) (by k_mem) (by with_reducible assumption) (by with_reducible assumption) (by first | with_reducible assumption | omega) (by omega) (by omega) ?_ | refine c_plain (by k_asm) (by k_asm) (by k_asm) (by k_asm) (by k_asm) (by first | with_reducible assumption | exact rfl) (by (first | exact room_up (by with_reducible assumption) (by decide) | ktr_room)) (by (first | exact unit_up (by with_reducible assumption) (by decide) | ktr_units)) (by k_mem) (by with_reducible assumption) (by with_reducible assumption) (by first | with_reducible assumption | omega) (by omega) ?_); intro t9_z t9_z c9_z h9_z tk9_z F9_z N9_z l9_z; try dsimp only))) | ((with_reducible show wpAny _ _ (eval (PySem.Expr.Name ..) _) _ _ _); ((fail_if_success (with_reducible show wpAny _ _ (eval _ (compEnvC _ _ _ _)) _ _ _)); k_here; k_dflt (refine nameX_L (by k_asm) (by first | exact rfl | ((repeat (refine Eq.trans (if_neg (by decide)) ?_)); with_reducible assumption)) ?_; k_whole))) | ((with_reducible show wpAny _ _ (call (Value.builtin "len") _) _ _ _); k_dflt (refine len_list (items := List.toArray _) (by exact News.isList (by k_asm) (by k_mem)) (by exact len_small (by with_reducible assumption) (by with_reducible assumption)) ?_)) | ((with_reducible show wpAny _ _ (call (Value.ref ..) _) _ _ _); k_dflt (refine c_cells (by k_asm) (by k_asm) (by k_asm) (by k_asm) (by k_asm) (by first | with_reducible assumption | exact rfl) (by (first | exact room_up (by with_reducible assumption) (by decide) | ktr_room)) (by (first | exact unit_up (by with_reducible assumption) (by decide) | ktr_units)) (by with_reducible assumption) (by with_reducible assumption) (by omega) ?_; intro c9_z vc9_z nc9_z ds9_z h9_z tk9_z new9_z F9_z N9_z ap9_z m9_z i9_z l9_z; have N8_z := news_one N9_z m9_z; clear N9_z m9_z ap9_z; try dsimp only)) | ((with_reducible show wpAny _ _ (call (Value.ref ..) _) _ _ _); k_dflt (refine c_crossings (by k_asm) (by k_asm) (by k_asm) (by k_asm) (by k_asm) (by first | with_reducible assumption | exact rfl) (by (first | exact room_up (by with_reducible assumption) (by decide) | ktr_room)) (by (first | exact unit_up (by with_reducible assumption) (by decide) | ktr_units)) (by k_mem) (by with_reducible assumption) (by assumption) ?_; intro c9_z a1_z a2_z v1_z v2_z n1_z n2_z xs_z h9_z tk9_z new9_z F9_z N9_z ap9_z m9_z m1_z m2_z hx9_z hs9_z hlo9_z hhi9_z hp9_z; have N8_z := news_three N9_z m9_z m1_z m2_z; clear N9_z m9_z m1_z m2_z; simp only [List.cons_append, List.nil_append] at N8_z; try dsimp only)) | ((with_reducible show LCp.SrcLP ..); (refine stop_intro ?_)) | ((with_reducible show UnrEndW ..); refine stop_intro ?_) | ((with_reducible show LCg.CompEnd ..); first | (with_reducible ((refine comp_end1 (by k_asm) (by k_asm) (by assumption) (by assumption) (by lcg_src) ?_))) | ((refine comp_end1 (by k_asm) (by k_asm) (by assumption) (by assumption) (by lcg_src) ?_))) | walk1 | (dsimp only; walk1) | (leave1; (try dsimp only)) | fail "no step"))
        rename Fr _ _ _ _ => F15
        rename News _ _ _ _ => N15
        refine Stop.mk (krv_reversed F15 N15 (News.isList N15 (.tail _ (.head _))) ?_)
        clear F15 N15
        intro I15 h15 F15 N15 lI
        dsimp only
        have hszf : vs.length ≤ sizeLine := by rw [iG.length, lG]; exact Nat.le_trans (pred100 h8) (by decide)
        refine CompRev.mk' (vs := vs) rfl F15 N15 lI (.tail _ (.head _)) hszf fun gg => ?_
        refine comp_rest (its := vs.reverse.toArray) (.inr ⟨_, (.tail _ (.head _)), rfl, _, rfl⟩) (fun r ys => ∃ ds' pre, IntsAre r ds' ∧ pre ++ ds' = G.reverse ∧ IntsAre ys (pre.map (· * (-1) ^ xs.length))) ?trn2 ?dn2 vs.reverse 0 [] rfl ⟨G.reverse, [], ints_rev iG, rfl, .nil⟩
        case trn2 =>
          rintro v r ys ⟨ds', pre, hi9, hpre, hys⟩ I9 oI9 C9 oC9 D9 m₂ h tk E' Q' ha hb9 F N kq
          obtain ⟨d9, td9, es9, rfl, hi9', rfl⟩ := ints_cons hi9
          have b9 : intBits d9 ≤ 20 := bits_small (g5' d9 (List.mem_reverse.mp (by rw [← hpre]; simp)))
          have b10 := bits_sign xs.length
          clear F15 N15
          (repeat' (first | (k_unfold; (try dsimp only)) | (k_end; kc_close) | ((with_reducible show wpAny _ _ (subscriptTail _ _ (Value.ref ..) (Value.int ..)) _ _ _); (k_dflt (refine sub_any (by exact News.isList (by k_asm) (by k_mem)) (by decide) (by decide) (by exact rfl) ?_))) | ((with_reducible show wpAny _ _ (exec (Stmt.For (PySem.Expr.Tuple ..) (PySem.Expr.Name ..) ..) _) _ _ _); (refine stop_intro ?_)) | ((with_reducible show wpAny _ _ (subscriptTail _ _ (Value.ref ..) (Value.int ..)) _ _ _); (k_dflt (refine sub_int (by exact News.isList (by k_asm) (by k_mem)) (by with_reducible assumption) (by first | with_reducible assumption | omega) (by first | with_reducible assumption | omega) (by first | with_reducible assumption | omega) ?_; intro _))) | ((with_reducible show wpAny _ _ (subscriptTail _ _ (Value.ref ..) (Value.int ..)) _ _ _); (k_dflt (refine sub_any (by exact News.isList (by k_asm) (by k_mem)) (by decide) (by decide) (by exact rfl) ?_))) | ((with_reducible show wpAny _ _ (subscriptTail _ _ (Value.ref ..) (Value.int ..)) _ _ _); k_dflt (refine sub_int (by exact News.isList (by k_asm) (by k_mem)) (by with_reducible assumption) (by omega) (by omega) (by omega) ?_; intro _)) | ((with_reducible show wpAny _ _ (call (Value.type "range") _) _ _ _); first | (with_reducible (((rename Fr _ _ _ _ => F_z); (rename News _ _ _ _ => N_z); (with_unfolding_all refine range1_rows F_z N_z ?_); clear F_z N_z; intro h9_z tk9_z t91_z u91_z v91_z R9_z F9_z N9_z K9_z))) | (((rename Fr _ _ _ _ => F_z); (rename News _ _ _ _ => N_z); (with_unfolding_all refine range1_rows F_z N_z ?_); clear F_z N_z; intro h9_z tk9_z t91_z u91_z v91_z R9_z F9_z N9_z K9_z))) | ((with_reducible show wpAny _ _ (compareOp CmpOp.Eq (Value.bool ..) (Value.bool ..)) _ _ _); (refine stop_intro ?_)) | ((with_reducible show wpAny _ _ (compareOp CmpOp.NotEq (Value.int ..) (Value.int ..)) _ _ _); (k_dflt (refine ne_int_same (by with_reducible assumption) ?_))) | ((with_reducible show LCg.CompSrc _ _ _ _ _ _ _ (PySem.Expr.Call ..) _ _ _ _ _ _); (k_dflt (refine LCg.CompSrc.ledger (by exact rfl) (by k_asm) (by k_asm) (by k_mem) (by exact Nat.le_of_ble_eq_true rfl) ?_; intro g_z; lcg_lit))) | ((with_reducible show wpAny _ _ (compareOp CmpOp.Eq (Value.ref ..) (Value.ref ..)) _ _ _); (k_dflt (refine ke_eq_ints (by exact News.isList (by k_asm) (by k_mem)) (by exact News.isList (by k_asm) (by k_mem)) (by with_reducible assumption) (by l_ints) (by (first | exact unit_up (by with_reducible assumption) (by decide) | ktr_units)) ?_))) | ((with_reducible show wpAny _ _ (compareOp CmpOp.NotEq (Value.ref ..) (Value.ref ..)) _ _ _); (k_dflt (refine ne_same (by exact News.isList (by k_asm) (by k_mem)) (by exact News.isList (by k_asm) (by k_mem)) (by with_reducible assumption) (by with_reducible assumption) (by (first | exact unit_up (by with_reducible assumption) (by decide) | ktr_units)) ?_))) | ((with_reducible show wpAny _ _ (binaryOp Operator.Mult (Value.int ..) (Value.int ..)) _ _ _); (k_dflt (refine mul_b (by tb_start) (by tb_start) (by first | decide | omega) ?_; try dsimp only))) | ((with_reducible show wpAny _ _ (binaryOp Operator.Pow (Value.int ..) (Value.int ..)) _ _ _); (k_dflt (refine pow_int_small (by first | with_reducible assumption | omega) (by first | with_reducible assumption | omega) (by first | with_reducible assumption | decide | omega) ?_; try dsimp only))) | ((with_reducible show wpAny _ _ (callWith _ (Value.ref ..) _ _ _) _ _ _); (k_here; k_dflt (refine callWith_K (by k_asm) (by k_is) ?_; k_whole))) | ((with_reducible show LCg.CompSrc _ _ _ _ _ _ _ (PySem.Expr.BinOp ..) _ _ _ _ _ _); (refine stop_intro ?_)) | ((with_reducible show wpAny _ _ (storeName _ _ (Value.ref ..)) _ _ _); ((with_reducible show wpAny _ _ (storeName _ (Str.ofString "figures") _) _ _ _); refine stop_intro ?_)) | ((with_reducible show wpAny _ _ (storeName _ _ (Value.bool ..)) _ _ _); ((with_reducible show wpAny _ _ (storeName _ (Str.ofString "over") _) _ _ _); refine stop_intro ?_)) | ((with_reducible show wpAny _ _ (storeName _ _ (Value.int ..)) _ _ _); ((with_reducible first | show wpAny _ _ (storeName _ (Str.ofString "n") _) _ _ _ | show wpAny _ _ (storeName _ (Str.ofString "w") _) _ _ _ | show wpAny _ _ (storeName _ (Str.ofString "t") _) _ _ _ | show wpAny _ _ (storeName _ (Str.ofString "place") _) _ _ _); refine stop_intro ?_)) | ((with_reducible show wpAny _ _ (call (Value.ref ..) _) _ _ _); ((with_reducible show wpAny _ _ (call (Value.ref 241) _) _ _ _); refine stop_intro ?_)) | ((with_reducible show wpAny _ _ (call (Value.builtin "sum") _) _ _ _); (k_dflt (first | (refine sum_pick (by k_asm) (by k_asm) (by exact rfl) (by k_mem) (by with_reducible assumption) ?_; intro _ _ _ _ _; try dsimp only) | (refine LSm.sum_ints (by k_asm) (by k_asm) (by exact rfl) (by exact News.isList (by k_asm) (by k_mem)) (by with_reducible assumption) ?_; intro _ _ _ _ _; try dsimp only)))) | ((with_reducible show wpAny _ _ (call (Value.type "reversed") _) _ _ _); (refine stop_intro ?_)) | ((with_reducible show wpAny _ _ (call (Value.builtin "len") _) _ _ _); (k_dflt (refine len_list (items := List.toArray _) (by exact News.isList (by k_asm) (by k_mem)) (by with_reducible assumption) ?_))) | ((with_reducible show wpAny _ _ (call (Value.ref ..) _) _ _ _); ((with_reducible show wpAny _ _ (call (Value.ref 234) _) _ _ _); refine stop_intro ?_)) | ((with_reducible show wpAny _ _ (eval (PySem.Expr.IfExp ..) _) _ _ _); ((fail_if_success (have : MarkN 9 := by assumption)); refine stop_intro ?_)) | ((with_reducible show wpAny _ _ (call (Value.ref ..) _) _ _ _); (k_dflt ((first | refine c_add (by k_asm) (by k_asm) (by k_asm) (by k_asm) (by k_asm) (by first | with_reducible assumption | exact rfl) (by (first | exact room_up (by with_reducible assumption) (by decide) | ktr_room)) (by (first | exact unit_up (by with_reducible assumption) (by decide) | ktr_units)) ?_ | refine c_sub (by k_asm) (by k_asm) (by k_asm) (by k_asm) (by k_asm) (by first | with_reducible assumption | exact rfl) (by (first | exact room_up (by with_reducible assumption) (by decide) | ktr_room)) (by (first | exact unit_up (by with_reducible assumption) (by decide) | ktr_units)) ?_ | (refine c_lshift (by k_asm) (by k_asm) (by k_asm) (by k_asm) (by k_asm) (by first | with_reducible assumption | exact rfl) (by (first | exact room_up (by with_reducible assumption) (by decide) | ktr_room)) (by (first | exact unit_up (by with_reducible assumption) (by decide) | ktr_units)) (by with_reducible assumption) (by with_reducible assumption) (by omega) ?_)); intro t9_z h9_z tk9_z F9_z N9_z; try dsimp only))) | ((with_reducible show wpAny _ _ (call (Value.ref ..) _) _ _ _); ((with_reducible show wpAny _ _ (call (Value.ref 133) _) _ _ _); k_dflt (refine c_count (by k_asm) (by k_asm) (by k_asm) (by k_asm) (by k_asm) (by first | with_reducible assumption | exact rfl) (by (first | exact room_up (by with_reducible assumption) (by decide) | ktr_room)) (by (first | exact unit_up (by with_reducible assumption) (by decide) | ktr_units)) (by k_mem) (by with_reducible assumption) (by with_reducible assumption) ?_; intro t9_z h9_z tk9_z F9_z N9_z; try dsimp only))) | ((with_reducible show wpAny _ _ (eval (PySem.Expr.ListComp ..) _) _ _ _); (refine stop_intro ?_)) | ((with_reducible show wpAny _ _ (call (Value.ref ..) _) _ _ _); (k_dflt ((first | refine c_step (by k_asm) (by k_asm) (by k_asm) (by k_asm) (by k_asm) (by first | with_reducible assumption | exact rfl) (by (first | exact room_up (by with_reducible assumption) (by decide) | ktr_room)) (by (first | exact unit_up (by with_reducible assumption) (by decide) | ktr_units)) (by k_mem) (by with_reducible assumption) (by with_reducible assumption) (by first | with_reducible assumption | omega) (by omega) (by omega) ?_ | refine c_plain (by k_asm) (by k_asm) (by k_asm) (by k_asm) (by k_asm) (by first | with_reducible assumption | exact rfl) (by (first | exact room_up (by with_reducible assumption) (by decide) | ktr_room)) (by (first | exact unit_up (by with_reducible assumption) (by decide) | ktr_units)) (by k_mem) (by with_reducible assumption) (by with_reducible assumption) (by first | with_reducible assumption | omega) (by omega) ?_); intro t9_z t9_z c9_z h9_z tk9_z F9_z N9_z l9_z; try dsimp only))) | ((with_reducible show wpAny _ _ (eval (PySem.Expr.Name ..) _) _ _ _); ((fail_if_success (with_reducible show wpAny _ _ (eval _ (compEnvC _ _ _ _)) _ _ _)); k_here; k_dflt (refine nameX_L (by k_asm) (by first | exact rfl | ((repeat (refine Eq.trans (if_neg (by decide)) ?_)); with_reducible assumption)) ?_; k_whole))) | ((with_reducible show wpAny _ _ (call (Value.builtin "len") _) _ _ _); k_dflt (refine len_list (items := List.toArray _) (by exact News.isList (by k_asm) (by k_mem)) (by exact len_small (by with_reducible assumption) (by with_reducible assumption)) ?_)) | ((with_reducible show wpAny _ _ (call (Value.ref ..) _) _ _ _); k_dflt (refine c_cells (by k_asm) (by k_asm) (by k_asm) (by k_asm) (by k_asm) (by first | with_reducible assumption | exact rfl) (by (first | exact room_up (by with_reducible assumption) (by decide) | ktr_room)) (by (first | exact unit_up (by with_reducible assumption) (by decide) | ktr_units)) (by with_reducible assumption) (by with_reducible assumption) (by omega) ?_; intro c9_z vc9_z nc9_z ds9_z h9_z tk9_z new9_z F9_z N9_z ap9_z m9_z i9_z l9_z; have N8_z := news_one N9_z m9_z; clear N9_z m9_z ap9_z; try dsimp only)) | ((with_reducible show wpAny _ _ (call (Value.ref ..) _) _ _ _); k_dflt (refine c_crossings (by k_asm) (by k_asm) (by k_asm) (by k_asm) (by k_asm) (by first | with_reducible assumption | exact rfl) (by (first | exact room_up (by with_reducible assumption) (by decide) | ktr_room)) (by (first | exact unit_up (by with_reducible assumption) (by decide) | ktr_units)) (by k_mem) (by with_reducible assumption) (by assumption) ?_; intro c9_z a1_z a2_z v1_z v2_z n1_z n2_z xs_z h9_z tk9_z new9_z F9_z N9_z ap9_z m9_z m1_z m2_z hx9_z hs9_z hlo9_z hhi9_z hp9_z; have N8_z := news_three N9_z m9_z m1_z m2_z; clear N9_z m9_z m1_z m2_z; simp only [List.cons_append, List.nil_append] at N8_z; try dsimp only)) | ((with_reducible show LCp.SrcLP ..); (refine stop_intro ?_)) | ((with_reducible show UnrEndW ..); refine stop_intro ?_) | ((with_reducible show LCg.CompEnd ..); first | (with_reducible ((refine comp_end1 (by k_asm) (by k_asm) (by assumption) (by assumption) (by lcg_src) ?_))) | ((refine comp_end1 (by k_asm) (by k_asm) (by assumption) (by assumption) (by lcg_src) ?_))) | walk1 | (dsimp only; walk1) | (leave1; (try dsimp only)) | fail "no step"))
          exact kq _ _ _ ⟨es9, pre ++ [d9], hi9', by rw [← hpre]; simp, by rw [List.map_append]; exact ints_snoc _ _ hys⟩ (by assumption) (by assumption)
        case dn2 =>
          rintro ys ⟨ds', pre, hi9, hpre, hys⟩
          cases hi9
          rw [List.append_nil] at hpre
          rw [hpre, ← g1'] at hys
          clear F15 N15
          (repeat' (first | (k_unfold; (try dsimp only)) | (k_end; kc_close) | ((with_reducible show wpAny _ _ (subscriptTail _ _ (Value.ref ..) (Value.int ..)) _ _ _); (k_dflt (refine sub_any (by exact News.isList (by k_asm) (by k_mem)) (by decide) (by decide) (by exact rfl) ?_))) | ((with_reducible show wpAny _ _ (exec (Stmt.For (PySem.Expr.Tuple ..) (PySem.Expr.Name ..) ..) _) _ _ _); (refine stop_intro ?_)) | ((with_reducible show wpAny _ _ (subscriptTail _ _ (Value.ref ..) (Value.int ..)) _ _ _); (k_dflt (refine sub_int (by exact News.isList (by k_asm) (by k_mem)) (by with_reducible assumption) (by first | with_reducible assumption | omega) (by first | with_reducible assumption | omega) (by first | with_reducible assumption | omega) ?_; intro _))) | ((with_reducible show wpAny _ _ (subscriptTail _ _ (Value.ref ..) (Value.int ..)) _ _ _); (k_dflt (refine sub_any (by exact News.isList (by k_asm) (by k_mem)) (by decide) (by decide) (by exact rfl) ?_))) | ((with_reducible show wpAny _ _ (subscriptTail _ _ (Value.ref ..) (Value.int ..)) _ _ _); k_dflt (refine sub_int (by exact News.isList (by k_asm) (by k_mem)) (by with_reducible assumption) (by omega) (by omega) (by omega) ?_; intro _)) | ((with_reducible show wpAny _ _ (call (Value.type "range") _) _ _ _); first | (with_reducible (((rename Fr _ _ _ _ => F_z); (rename News _ _ _ _ => N_z); (with_unfolding_all refine range1_rows F_z N_z ?_); clear F_z N_z; intro h9_z tk9_z t91_z u91_z v91_z R9_z F9_z N9_z K9_z))) | (((rename Fr _ _ _ _ => F_z); (rename News _ _ _ _ => N_z); (with_unfolding_all refine range1_rows F_z N_z ?_); clear F_z N_z; intro h9_z tk9_z t91_z u91_z v91_z R9_z F9_z N9_z K9_z))) | ((with_reducible show wpAny _ _ (compareOp CmpOp.Eq (Value.bool ..) (Value.bool ..)) _ _ _); (refine stop_intro ?_)) | ((with_reducible show wpAny _ _ (compareOp CmpOp.NotEq (Value.int ..) (Value.int ..)) _ _ _); (k_dflt (refine ne_int_same (by with_reducible assumption) ?_))) | ((with_reducible show LCg.CompSrc _ _ _ _ _ _ _ (PySem.Expr.Call ..) _ _ _ _ _ _); (k_dflt (refine LCg.CompSrc.ledger (by exact rfl) (by k_asm) (by k_asm) (by k_mem) (by exact Nat.le_of_ble_eq_true rfl) ?_; intro g_z; lcg_lit))) | ((with_reducible show wpAny _ _ (compareOp CmpOp.Eq (Value.ref ..) (Value.ref ..)) _ _ _); (k_dflt (refine ke_eq_ints (by exact News.isList (by k_asm) (by k_mem)) (by exact News.isList (by k_asm) (by k_mem)) (by with_reducible assumption) (by l_ints) (by (first | exact unit_up (by with_reducible assumption) (by decide) | ktr_units)) ?_))) | ((with_reducible show wpAny _ _ (compareOp CmpOp.NotEq (Value.ref ..) (Value.ref ..)) _ _ _); (k_dflt (refine ne_same (by exact News.isList (by k_asm) (by k_mem)) (by exact News.isList (by k_asm) (by k_mem)) (by with_reducible assumption) (by with_reducible assumption) (by (first | exact unit_up (by with_reducible assumption) (by decide) | ktr_units)) ?_))) | ((with_reducible show wpAny _ _ (binaryOp Operator.Mult (Value.int ..) (Value.int ..)) _ _ _); (k_dflt (refine mul_b (by tb_start) (by tb_start) (by first | decide | omega) ?_; try dsimp only))) | ((with_reducible show wpAny _ _ (binaryOp Operator.Pow (Value.int ..) (Value.int ..)) _ _ _); (k_dflt (refine pow_int_small (by first | with_reducible assumption | omega) (by first | with_reducible assumption | omega) (by first | with_reducible assumption | decide | omega) ?_; try dsimp only))) | ((with_reducible show wpAny _ _ (callWith _ (Value.ref ..) _ _ _) _ _ _); (k_here; k_dflt (refine callWith_K (by k_asm) (by k_is) ?_; k_whole))) | ((with_reducible show LCg.CompSrc _ _ _ _ _ _ _ (PySem.Expr.BinOp ..) _ _ _ _ _ _); (refine stop_intro ?_)) | ((with_reducible show wpAny _ _ (storeName _ _ (Value.ref ..)) _ _ _); ((with_reducible show wpAny _ _ (storeName _ (Str.ofString "figures") _) _ _ _); refine stop_intro ?_)) | ((with_reducible show wpAny _ _ (storeName _ _ (Value.bool ..)) _ _ _); ((with_reducible show wpAny _ _ (storeName _ (Str.ofString "over") _) _ _ _); refine stop_intro ?_)) | ((with_reducible show wpAny _ _ (storeName _ _ (Value.int ..)) _ _ _); ((with_reducible first | show wpAny _ _ (storeName _ (Str.ofString "n") _) _ _ _ | show wpAny _ _ (storeName _ (Str.ofString "w") _) _ _ _ | show wpAny _ _ (storeName _ (Str.ofString "t") _) _ _ _ | show wpAny _ _ (storeName _ (Str.ofString "place") _) _ _ _); refine stop_intro ?_)) | ((with_reducible show wpAny _ _ (call (Value.ref ..) _) _ _ _); ((with_reducible show wpAny _ _ (call (Value.ref 241) _) _ _ _); refine stop_intro ?_)) | ((with_reducible show wpAny _ _ (call (Value.builtin "sum") _) _ _ _); (k_dflt (first | (refine sum_pick (by k_asm) (by k_asm) (by exact rfl) (by k_mem) (by with_reducible assumption) ?_; intro _ _ _ _ _; try dsimp only) | (refine LSm.sum_ints (by k_asm) (by k_asm) (by exact rfl) (by exact News.isList (by k_asm) (by k_mem)) (by with_reducible assumption) ?_; intro _ _ _ _ _; try dsimp only)))) | ((with_reducible show wpAny _ _ (call (Value.type "reversed") _) _ _ _); (refine stop_intro ?_)) | ((with_reducible show wpAny _ _ (call (Value.builtin "len") _) _ _ _); (k_dflt (refine len_list (items := List.toArray _) (by exact News.isList (by k_asm) (by k_mem)) (by with_reducible assumption) ?_))) | ((with_reducible show wpAny _ _ (call (Value.ref ..) _) _ _ _); ((with_reducible show wpAny _ _ (call (Value.ref 234) _) _ _ _); refine stop_intro ?_)) | ((with_reducible show wpAny _ _ (eval (PySem.Expr.IfExp ..) _) _ _ _); ((fail_if_success (have : MarkN 9 := by assumption)); refine stop_intro ?_)) | ((with_reducible show wpAny _ _ (call (Value.ref ..) _) _ _ _); (k_dflt ((first | refine c_add (by k_asm) (by k_asm) (by k_asm) (by k_asm) (by k_asm) (by first | with_reducible assumption | exact rfl) (by (first | exact room_up (by with_reducible assumption) (by decide) | ktr_room)) (by (first | exact unit_up (by with_reducible assumption) (by decide) | ktr_units)) ?_ | refine c_sub (by k_asm) (by k_asm) (by k_asm) (by k_asm) (by k_asm) (by first | with_reducible assumption | exact rfl) (by (first | exact room_up (by with_reducible assumption) (by decide) | ktr_room)) (by (first | exact unit_up (by with_reducible assumption) (by decide) | ktr_units)) ?_ | (refine c_lshift (by k_asm) (by k_asm) (by k_asm) (by k_asm) (by k_asm) (by first | with_reducible assumption | exact rfl) (by (first | exact room_up (by with_reducible assumption) (by decide) | ktr_room)) (by (first | exact unit_up (by with_reducible assumption) (by decide) | ktr_units)) (by with_reducible assumption) (by with_reducible assumption) (by omega) ?_)); intro t9_z h9_z tk9_z F9_z N9_z; try dsimp only))) | ((with_reducible show wpAny _ _ (call (Value.ref ..) _) _ _ _); ((with_reducible show wpAny _ _ (call (Value.ref 133) _) _ _ _); k_dflt (refine c_count (by k_asm) (by k_asm) (by k_asm) (by k_asm) (by k_asm) (by first | with_reducible assumption | exact rfl) (by (first | exact room_up (by with_reducible assumption) (by decide) | ktr_room)) (by (first | exact unit_up (by with_reducible assumption) (by decide) | ktr_units)) (by k_mem) (by with_reducible assumption) (by with_reducible assumption) ?_; intro t9_z h9_z tk9_z F9_z N9_z; try dsimp only))) | ((with_reducible show wpAny _ _ (eval (PySem.Expr.ListComp ..) _) _ _ _); (refine stop_intro ?_)) | ((with_reducible show wpAny _ _ (call (Value.ref ..) _) _ _ _); (k_dflt ((first | refine c_step (by k_asm) (by k_asm) (by k_asm) (by k_asm) (by k_asm) (by first | with_reducible assumption | exact rfl) (by (first | exact room_up (by with_reducible assumption) (by decide) | ktr_room)) (by (first | exact unit_up (by with_reducible assumption) (by decide) | ktr_units)) (by k_mem) (by with_reducible assumption) (by with_reducible assumption) (by first | with_reducible assumption | omega) (by omega) (by omega) ?_ | refine c_plain (by k_asm) (by k_asm) (by k_asm) (by k_asm) (by k_asm) (by first | with_reducible assumption | exact rfl) (by (first | exact room_up (by with_reducible assumption) (by decide) | ktr_room)) (by (first | exact unit_up (by with_reducible assumption) (by decide) | ktr_units)) (by k_mem) (by with_reducible assumption) (by with_reducible assumption) (by first | with_reducible assumption | omega) (by omega) ?_); intro t9_z t9_z c9_z h9_z tk9_z F9_z N9_z l9_z; try dsimp only))) | ((with_reducible show wpAny _ _ (eval (PySem.Expr.Name ..) _) _ _ _); ((fail_if_success (with_reducible show wpAny _ _ (eval _ (compEnvC _ _ _ _)) _ _ _)); k_here; k_dflt (refine nameX_L (by k_asm) (by first | exact rfl | ((repeat (refine Eq.trans (if_neg (by decide)) ?_)); with_reducible assumption)) ?_; k_whole))) | ((with_reducible show wpAny _ _ (call (Value.builtin "len") _) _ _ _); k_dflt (refine len_list (items := List.toArray _) (by exact News.isList (by k_asm) (by k_mem)) (by exact len_small (by with_reducible assumption) (by with_reducible assumption)) ?_)) | ((with_reducible show wpAny _ _ (call (Value.ref ..) _) _ _ _); k_dflt (refine c_cells (by k_asm) (by k_asm) (by k_asm) (by k_asm) (by k_asm) (by first | with_reducible assumption | exact rfl) (by (first | exact room_up (by with_reducible assumption) (by decide) | ktr_room)) (by (first | exact unit_up (by with_reducible assumption) (by decide) | ktr_units)) (by with_reducible assumption) (by with_reducible assumption) (by omega) ?_; intro c9_z vc9_z nc9_z ds9_z h9_z tk9_z new9_z F9_z N9_z ap9_z m9_z i9_z l9_z; have N8_z := news_one N9_z m9_z; clear N9_z m9_z ap9_z; try dsimp only)) | ((with_reducible show wpAny _ _ (call (Value.ref ..) _) _ _ _); k_dflt (refine c_crossings (by k_asm) (by k_asm) (by k_asm) (by k_asm) (by k_asm) (by first | with_reducible assumption | exact rfl) (by (first | exact room_up (by with_reducible assumption) (by decide) | ktr_room)) (by (first | exact unit_up (by with_reducible assumption) (by decide) | ktr_units)) (by k_mem) (by with_reducible assumption) (by assumption) ?_; intro c9_z a1_z a2_z v1_z v2_z n1_z n2_z xs_z h9_z tk9_z new9_z F9_z N9_z ap9_z m9_z m1_z m2_z hx9_z hs9_z hlo9_z hhi9_z hp9_z; have N8_z := news_three N9_z m9_z m1_z m2_z; clear N9_z m9_z m1_z m2_z; simp only [List.cons_append, List.nil_append] at N8_z; try dsimp only)) | ((with_reducible show LCp.SrcLP ..); (refine stop_intro ?_)) | ((with_reducible show UnrEndW ..); refine stop_intro ?_) | ((with_reducible show LCg.CompEnd ..); first | (with_reducible ((refine comp_end1 (by k_asm) (by k_asm) (by assumption) (by assumption) (by lcg_src) ?_))) | ((refine comp_end1 (by k_asm) (by k_asm) (by assumption) (by assumption) (by lcg_src) ?_))) | walk1 | (dsimp only; walk1) | (leave1; (try dsimp only)) | fail "no step"))
          rename Fr _ _ _ _ => F16
          rename News _ _ _ _ => N16
          refine Stop.mk (int_cut (if seatsOf xs = [1, 2, 0] ∨ seatsOf xs = [2, 0, 1] then 1 else 0) F16 N16 ?_ ?_)
          · have mk9 : MarkN 9 := ⟨⟩
            (repeat' (first | (k_unfold; (try dsimp only)) | (k_end; kc_close) | ((with_reducible show wpAny _ _ (subscriptTail _ _ (Value.ref ..) (Value.int ..)) _ _ _); (k_dflt (refine sub_any (by exact News.isList (by k_asm) (by k_mem)) (by decide) (by decide) (by exact rfl) ?_))) | ((with_reducible show wpAny _ _ (exec (Stmt.For (PySem.Expr.Tuple ..) (PySem.Expr.Name ..) ..) _) _ _ _); (refine stop_intro ?_)) | ((with_reducible show wpAny _ _ (subscriptTail _ _ (Value.ref ..) (Value.int ..)) _ _ _); (k_dflt (refine sub_int (by exact News.isList (by k_asm) (by k_mem)) (by with_reducible assumption) (by first | with_reducible assumption | omega) (by first | with_reducible assumption | omega) (by first | with_reducible assumption | omega) ?_; intro _))) | ((with_reducible show wpAny _ _ (subscriptTail _ _ (Value.ref ..) (Value.int ..)) _ _ _); (k_dflt (refine sub_any (by exact News.isList (by k_asm) (by k_mem)) (by decide) (by decide) (by exact rfl) ?_))) | ((with_reducible show wpAny _ _ (subscriptTail _ _ (Value.ref ..) (Value.int ..)) _ _ _); k_dflt (refine sub_int (by exact News.isList (by k_asm) (by k_mem)) (by with_reducible assumption) (by omega) (by omega) (by omega) ?_; intro _)) | ((with_reducible show wpAny _ _ (call (Value.type "range") _) _ _ _); first | (with_reducible (((rename Fr _ _ _ _ => F_z); (rename News _ _ _ _ => N_z); (with_unfolding_all refine range1_rows F_z N_z ?_); clear F_z N_z; intro h9_z tk9_z t91_z u91_z v91_z R9_z F9_z N9_z K9_z))) | (((rename Fr _ _ _ _ => F_z); (rename News _ _ _ _ => N_z); (with_unfolding_all refine range1_rows F_z N_z ?_); clear F_z N_z; intro h9_z tk9_z t91_z u91_z v91_z R9_z F9_z N9_z K9_z))) | ((with_reducible show wpAny _ _ (compareOp CmpOp.Eq (Value.bool ..) (Value.bool ..)) _ _ _); (refine stop_intro ?_)) | ((with_reducible show wpAny _ _ (compareOp CmpOp.NotEq (Value.int ..) (Value.int ..)) _ _ _); (k_dflt (refine ne_int_same (by with_reducible assumption) ?_))) | ((with_reducible show LCg.CompSrc _ _ _ _ _ _ _ (PySem.Expr.Call ..) _ _ _ _ _ _); (k_dflt (refine LCg.CompSrc.ledger (by exact rfl) (by k_asm) (by k_asm) (by k_mem) (by exact Nat.le_of_ble_eq_true rfl) ?_; intro g_z; lcg_lit))) | ((with_reducible show wpAny _ _ (compareOp CmpOp.Eq (Value.ref ..) (Value.ref ..)) _ _ _); (k_dflt (refine ke_eq_ints (by exact News.isList (by k_asm) (by k_mem)) (by exact News.isList (by k_asm) (by k_mem)) (by with_reducible assumption) (by l_ints) (by (first | exact unit_up (by with_reducible assumption) (by decide) | ktr_units)) ?_))) | ((with_reducible show wpAny _ _ (compareOp CmpOp.NotEq (Value.ref ..) (Value.ref ..)) _ _ _); (k_dflt (refine ne_same (by exact News.isList (by k_asm) (by k_mem)) (by exact News.isList (by k_asm) (by k_mem)) (by with_reducible assumption) (by with_reducible assumption) (by (first | exact unit_up (by with_reducible assumption) (by decide) | ktr_units)) ?_))) | ((with_reducible show wpAny _ _ (binaryOp Operator.Mult (Value.int ..) (Value.int ..)) _ _ _); (k_dflt (refine mul_b (by tb_start) (by tb_start) (by first | decide | omega) ?_; try dsimp only))) | ((with_reducible show wpAny _ _ (binaryOp Operator.Pow (Value.int ..) (Value.int ..)) _ _ _); (k_dflt (refine pow_int_small (by first | with_reducible assumption | omega) (by first | with_reducible assumption | omega) (by first | with_reducible assumption | decide | omega) ?_; try dsimp only))) | ((with_reducible show wpAny _ _ (callWith _ (Value.ref ..) _ _ _) _ _ _); (k_here; k_dflt (refine callWith_K (by k_asm) (by k_is) ?_; k_whole))) | ((with_reducible show LCg.CompSrc _ _ _ _ _ _ _ (PySem.Expr.BinOp ..) _ _ _ _ _ _); (refine stop_intro ?_)) | ((with_reducible show wpAny _ _ (storeName _ _ (Value.ref ..)) _ _ _); ((with_reducible show wpAny _ _ (storeName _ (Str.ofString "figures") _) _ _ _); refine stop_intro ?_)) | ((with_reducible show wpAny _ _ (storeName _ _ (Value.bool ..)) _ _ _); ((with_reducible show wpAny _ _ (storeName _ (Str.ofString "over") _) _ _ _); refine stop_intro ?_)) | ((with_reducible show wpAny _ _ (storeName _ _ (Value.int ..)) _ _ _); ((with_reducible first | show wpAny _ _ (storeName _ (Str.ofString "n") _) _ _ _ | show wpAny _ _ (storeName _ (Str.ofString "w") _) _ _ _ | show wpAny _ _ (storeName _ (Str.ofString "t") _) _ _ _ | show wpAny _ _ (storeName _ (Str.ofString "place") _) _ _ _); refine stop_intro ?_)) | ((with_reducible show wpAny _ _ (call (Value.ref ..) _) _ _ _); ((with_reducible show wpAny _ _ (call (Value.ref 241) _) _ _ _); refine stop_intro ?_)) | ((with_reducible show wpAny _ _ (call (Value.builtin "sum") _) _ _ _); (k_dflt (first | (refine sum_pick (by k_asm) (by k_asm) (by exact rfl) (by k_mem) (by with_reducible assumption) ?_; intro _ _ _ _ _; try dsimp only) | (refine LSm.sum_ints (by k_asm) (by k_asm) (by exact rfl) (by exact News.isList (by k_asm) (by k_mem)) (by with_reducible assumption) ?_; intro _ _ _ _ _; try dsimp only)))) | ((with_reducible show wpAny _ _ (call (Value.type "reversed") _) _ _ _); (refine stop_intro ?_)) | ((with_reducible show wpAny _ _ (call (Value.builtin "len") _) _ _ _); (k_dflt (refine len_list (items := List.toArray _) (by exact News.isList (by k_asm) (by k_mem)) (by with_reducible assumption) ?_))) | ((with_reducible show wpAny _ _ (call (Value.ref ..) _) _ _ _); ((with_reducible show wpAny _ _ (call (Value.ref 234) _) _ _ _); refine stop_intro ?_)) | ((with_reducible show wpAny _ _ (eval (PySem.Expr.IfExp ..) _) _ _ _); ((fail_if_success (have : MarkN 9 := by assumption)); refine stop_intro ?_)) | ((with_reducible show wpAny _ _ (call (Value.ref ..) _) _ _ _); (k_dflt ((first | refine c_add (by k_asm) (by k_asm) (by k_asm) (by k_asm) (by k_asm) (by first | with_reducible assumption | exact rfl) (by (first | exact room_up (by with_reducible assumption) (by decide) | ktr_room)) (by (first | exact unit_up (by with_reducible assumption) (by decide) | ktr_units)) ?_ | refine c_sub (by k_asm) (by k_asm) (by k_asm) (by k_asm) (by k_asm) (by first | with_reducible assumption | exact rfl) (by (first | exact room_up (by with_reducible assumption) (by decide) | ktr_room)) (by (first | exact unit_up (by with_reducible assumption) (by decide) | ktr_units)) ?_ | (refine c_lshift (by k_asm) (by k_asm) (by k_asm) (by k_asm) (by k_asm) (by first | with_reducible assumption | exact rfl) (by (first | exact room_up (by with_reducible assumption) (by decide) | ktr_room)) (by (first | exact unit_up (by with_reducible assumption) (by decide) | ktr_units)) (by with_reducible assumption) (by with_reducible assumption) (by omega) ?_)); intro t9_z h9_z tk9_z F9_z N9_z; try dsimp only))) | ((with_reducible show wpAny _ _ (call (Value.ref ..) _) _ _ _); ((with_reducible show wpAny _ _ (call (Value.ref 133) _) _ _ _); k_dflt (refine c_count (by k_asm) (by k_asm) (by k_asm) (by k_asm) (by k_asm) (by first | with_reducible assumption | exact rfl) (by (first | exact room_up (by with_reducible assumption) (by decide) | ktr_room)) (by (first | exact unit_up (by with_reducible assumption) (by decide) | ktr_units)) (by k_mem) (by with_reducible assumption) (by with_reducible assumption) ?_; intro t9_z h9_z tk9_z F9_z N9_z; try dsimp only))) | ((with_reducible show wpAny _ _ (eval (PySem.Expr.ListComp ..) _) _ _ _); (refine stop_intro ?_)) | ((with_reducible show wpAny _ _ (call (Value.ref ..) _) _ _ _); (k_dflt ((first | refine c_step (by k_asm) (by k_asm) (by k_asm) (by k_asm) (by k_asm) (by first | with_reducible assumption | exact rfl) (by (first | exact room_up (by with_reducible assumption) (by decide) | ktr_room)) (by (first | exact unit_up (by with_reducible assumption) (by decide) | ktr_units)) (by k_mem) (by with_reducible assumption) (by with_reducible assumption) (by first | with_reducible assumption | omega) (by omega) (by omega) ?_ | refine c_plain (by k_asm) (by k_asm) (by k_asm) (by k_asm) (by k_asm) (by first | with_reducible assumption | exact rfl) (by (first | exact room_up (by with_reducible assumption) (by decide) | ktr_room)) (by (first | exact unit_up (by with_reducible assumption) (by decide) | ktr_units)) (by k_mem) (by with_reducible assumption) (by with_reducible assumption) (by first | with_reducible assumption | omega) (by omega) ?_); intro t9_z t9_z c9_z h9_z tk9_z F9_z N9_z l9_z; try dsimp only))) | ((with_reducible show wpAny _ _ (eval (PySem.Expr.Name ..) _) _ _ _); ((fail_if_success (with_reducible show wpAny _ _ (eval _ (compEnvC _ _ _ _)) _ _ _)); k_here; k_dflt (refine nameX_L (by k_asm) (by first | exact rfl | ((repeat (refine Eq.trans (if_neg (by decide)) ?_)); with_reducible assumption)) ?_; k_whole))) | ((with_reducible show wpAny _ _ (call (Value.builtin "len") _) _ _ _); k_dflt (refine len_list (items := List.toArray _) (by exact News.isList (by k_asm) (by k_mem)) (by exact len_small (by with_reducible assumption) (by with_reducible assumption)) ?_)) | ((with_reducible show wpAny _ _ (call (Value.ref ..) _) _ _ _); k_dflt (refine c_cells (by k_asm) (by k_asm) (by k_asm) (by k_asm) (by k_asm) (by first | with_reducible assumption | exact rfl) (by (first | exact room_up (by with_reducible assumption) (by decide) | ktr_room)) (by (first | exact unit_up (by with_reducible assumption) (by decide) | ktr_units)) (by with_reducible assumption) (by with_reducible assumption) (by omega) ?_; intro c9_z vc9_z nc9_z ds9_z h9_z tk9_z new9_z F9_z N9_z ap9_z m9_z i9_z l9_z; have N8_z := news_one N9_z m9_z; clear N9_z m9_z ap9_z; try dsimp only)) | ((with_reducible show wpAny _ _ (call (Value.ref ..) _) _ _ _); k_dflt (refine c_crossings (by k_asm) (by k_asm) (by k_asm) (by k_asm) (by k_asm) (by first | with_reducible assumption | exact rfl) (by (first | exact room_up (by with_reducible assumption) (by decide) | ktr_room)) (by (first | exact unit_up (by with_reducible assumption) (by decide) | ktr_units)) (by k_mem) (by with_reducible assumption) (by assumption) ?_; intro c9_z a1_z a2_z v1_z v2_z n1_z n2_z xs_z h9_z tk9_z new9_z F9_z N9_z ap9_z m9_z m1_z m2_z hx9_z hs9_z hlo9_z hhi9_z hp9_z; have N8_z := news_three N9_z m9_z m1_z m2_z; clear N9_z m9_z m1_z m2_z; simp only [List.cons_append, List.nil_append] at N8_z; try dsimp only)) | ((with_reducible show LCp.SrcLP ..); (refine stop_intro ?_)) | ((with_reducible show UnrEndW ..); refine stop_intro ?_) | ((with_reducible show LCg.CompEnd ..); first | (with_reducible ((refine comp_end1 (by k_asm) (by k_asm) (by assumption) (by assumption) (by lcg_src) ?_))) | ((refine comp_end1 (by k_asm) (by k_asm) (by assumption) (by assumption) (by lcg_src) ?_))) | walk1 | (dsimp only; walk1) | (leave1; (try dsimp only)) | fail "no step"))
            all_goals (rename Fr _ _ _ _ => F17; rename News _ _ _ _ => N17)
            · exact int_is' F17 N17 (fun p hp => by k_mem) (seat1 (by assumption))
            · exact int_is' F17 N17 (fun p hp => by k_mem) (seat2 (by assumption))
            · exact int_is' F17 N17 (fun p hp => by k_mem) (seat3 (by assumption) (by assumption))
          · clear F16 N16
            intro ts h17 tk17 F16 N16
            try dsimp only
            (repeat' (first | (k_unfold; (try dsimp only)) | (k_end; kc_close) | ((with_reducible show wpAny _ _ (subscriptTail _ _ (Value.ref ..) (Value.int ..)) _ _ _); (k_dflt (refine sub_any (by exact News.isList (by k_asm) (by k_mem)) (by decide) (by decide) (by exact rfl) ?_))) | ((with_reducible show wpAny _ _ (exec (Stmt.For (PySem.Expr.Tuple ..) (PySem.Expr.Name ..) ..) _) _ _ _); (refine stop_intro ?_)) | ((with_reducible show wpAny _ _ (subscriptTail _ _ (Value.ref ..) (Value.int ..)) _ _ _); (k_dflt (refine sub_int (by exact News.isList (by k_asm) (by k_mem)) (by with_reducible assumption) (by first | with_reducible assumption | omega) (by first | with_reducible assumption | omega) (by first | with_reducible assumption | omega) ?_; intro _))) | ((with_reducible show wpAny _ _ (subscriptTail _ _ (Value.ref ..) (Value.int ..)) _ _ _); (k_dflt (refine sub_any (by exact News.isList (by k_asm) (by k_mem)) (by decide) (by decide) (by exact rfl) ?_))) | ((with_reducible show wpAny _ _ (subscriptTail _ _ (Value.ref ..) (Value.int ..)) _ _ _); k_dflt (refine sub_int (by exact News.isList (by k_asm) (by k_mem)) (by with_reducible assumption) (by omega) (by omega) (by omega) ?_; intro _)) | ((with_reducible show wpAny _ _ (call (Value.type "range") _) _ _ _); first | (with_reducible (((rename Fr _ _ _ _ => F_z); (rename News _ _ _ _ => N_z); (with_unfolding_all refine range1_rows F_z N_z ?_); clear F_z N_z; intro h9_z tk9_z t91_z u91_z v91_z R9_z F9_z N9_z K9_z))) | (((rename Fr _ _ _ _ => F_z); (rename News _ _ _ _ => N_z); (with_unfolding_all refine range1_rows F_z N_z ?_); clear F_z N_z; intro h9_z tk9_z t91_z u91_z v91_z R9_z F9_z N9_z K9_z))) | ((with_reducible show wpAny _ _ (compareOp CmpOp.Eq (Value.bool ..) (Value.bool ..)) _ _ _); (refine stop_intro ?_)) | ((with_reducible show wpAny _ _ (compareOp CmpOp.NotEq (Value.int ..) (Value.int ..)) _ _ _); (k_dflt (refine ne_int_same (by with_reducible assumption) ?_))) | ((with_reducible show LCg.CompSrc _ _ _ _ _ _ _ (PySem.Expr.Call ..) _ _ _ _ _ _); (k_dflt (refine LCg.CompSrc.ledger (by exact rfl) (by k_asm) (by k_asm) (by k_mem) (by exact Nat.le_of_ble_eq_true rfl) ?_; intro g_z; lcg_lit))) | ((with_reducible show wpAny _ _ (compareOp CmpOp.Eq (Value.ref ..) (Value.ref ..)) _ _ _); (k_dflt (refine ke_eq_ints (by exact News.isList (by k_asm) (by k_mem)) (by exact News.isList (by k_asm) (by k_mem)) (by with_reducible assumption) (by l_ints) (by (first | exact unit_up (by with_reducible assumption) (by decide) | ktr_units)) ?_))) | ((with_reducible show wpAny _ _ (compareOp CmpOp.NotEq (Value.ref ..) (Value.ref ..)) _ _ _); (k_dflt (refine ne_same (by exact News.isList (by k_asm) (by k_mem)) (by exact News.isList (by k_asm) (by k_mem)) (by with_reducible assumption) (by with_reducible assumption) (by (first | exact unit_up (by with_reducible assumption) (by decide) | ktr_units)) ?_))) | ((with_reducible show wpAny _ _ (binaryOp Operator.Mult (Value.int ..) (Value.int ..)) _ _ _); (k_dflt (refine mul_b (by tb_start) (by tb_start) (by first | decide | omega) ?_; try dsimp only))) | ((with_reducible show wpAny _ _ (binaryOp Operator.Pow (Value.int ..) (Value.int ..)) _ _ _); (k_dflt (refine pow_int_small (by first | with_reducible assumption | omega) (by first | with_reducible assumption | omega) (by first | with_reducible assumption | decide | omega) ?_; try dsimp only))) | ((with_reducible show wpAny _ _ (callWith _ (Value.ref ..) _ _ _) _ _ _); (k_here; k_dflt (refine callWith_K (by k_asm) (by k_is) ?_; k_whole))) | ((with_reducible show LCg.CompSrc _ _ _ _ _ _ _ (PySem.Expr.BinOp ..) _ _ _ _ _ _); (refine stop_intro ?_)) | ((with_reducible show wpAny _ _ (storeName _ _ (Value.ref ..)) _ _ _); ((with_reducible show wpAny _ _ (storeName _ (Str.ofString "figures") _) _ _ _); refine stop_intro ?_)) | ((with_reducible show wpAny _ _ (storeName _ _ (Value.bool ..)) _ _ _); ((with_reducible show wpAny _ _ (storeName _ (Str.ofString "over") _) _ _ _); refine stop_intro ?_)) | ((with_reducible show wpAny _ _ (storeName _ _ (Value.int ..)) _ _ _); ((with_reducible first | show wpAny _ _ (storeName _ (Str.ofString "n") _) _ _ _ | show wpAny _ _ (storeName _ (Str.ofString "w") _) _ _ _ | show wpAny _ _ (storeName _ (Str.ofString "t") _) _ _ _ | show wpAny _ _ (storeName _ (Str.ofString "place") _) _ _ _); refine stop_intro ?_)) | ((with_reducible show wpAny _ _ (call (Value.ref ..) _) _ _ _); ((with_reducible show wpAny _ _ (call (Value.ref 241) _) _ _ _); refine stop_intro ?_)) | ((with_reducible show wpAny _ _ (call (Value.builtin "sum") _) _ _ _); (k_dflt (first | (refine sum_pick (by k_asm) (by k_asm) (by exact rfl) (by k_mem) (by with_reducible assumption) ?_; intro _ _ _ _ _; try dsimp only) | (refine LSm.sum_ints (by k_asm) (by k_asm) (by exact rfl) (by exact News.isList (by k_asm) (by k_mem)) (by with_reducible assumption) ?_; intro _ _ _ _ _; try dsimp only)))) | ((with_reducible show wpAny _ _ (call (Value.type "reversed") _) _ _ _); (refine stop_intro ?_)) | ((with_reducible show wpAny _ _ (call (Value.builtin "len") _) _ _ _); (k_dflt (refine len_list (items := List.toArray _) (by exact News.isList (by k_asm) (by k_mem)) (by with_reducible assumption) ?_))) | ((with_reducible show wpAny _ _ (call (Value.ref ..) _) _ _ _); ((with_reducible show wpAny _ _ (call (Value.ref 234) _) _ _ _); refine stop_intro ?_)) | ((with_reducible show wpAny _ _ (eval (PySem.Expr.IfExp ..) _) _ _ _); ((fail_if_success (have : MarkN 9 := by assumption)); refine stop_intro ?_)) | ((with_reducible show wpAny _ _ (call (Value.ref ..) _) _ _ _); (k_dflt ((first | refine c_add (by k_asm) (by k_asm) (by k_asm) (by k_asm) (by k_asm) (by first | with_reducible assumption | exact rfl) (by (first | exact room_up (by with_reducible assumption) (by decide) | ktr_room)) (by (first | exact unit_up (by with_reducible assumption) (by decide) | ktr_units)) ?_ | refine c_sub (by k_asm) (by k_asm) (by k_asm) (by k_asm) (by k_asm) (by first | with_reducible assumption | exact rfl) (by (first | exact room_up (by with_reducible assumption) (by decide) | ktr_room)) (by (first | exact unit_up (by with_reducible assumption) (by decide) | ktr_units)) ?_ | (refine c_lshift (by k_asm) (by k_asm) (by k_asm) (by k_asm) (by k_asm) (by first | with_reducible assumption | exact rfl) (by (first | exact room_up (by with_reducible assumption) (by decide) | ktr_room)) (by (first | exact unit_up (by with_reducible assumption) (by decide) | ktr_units)) (by with_reducible assumption) (by with_reducible assumption) (by omega) ?_)); intro t9_z h9_z tk9_z F9_z N9_z; try dsimp only))) | ((with_reducible show wpAny _ _ (call (Value.ref ..) _) _ _ _); ((with_reducible show wpAny _ _ (call (Value.ref 133) _) _ _ _); k_dflt (refine c_count (by k_asm) (by k_asm) (by k_asm) (by k_asm) (by k_asm) (by first | with_reducible assumption | exact rfl) (by (first | exact room_up (by with_reducible assumption) (by decide) | ktr_room)) (by (first | exact unit_up (by with_reducible assumption) (by decide) | ktr_units)) (by k_mem) (by with_reducible assumption) (by with_reducible assumption) ?_; intro t9_z h9_z tk9_z F9_z N9_z; try dsimp only))) | ((with_reducible show wpAny _ _ (eval (PySem.Expr.ListComp ..) _) _ _ _); (refine stop_intro ?_)) | ((with_reducible show wpAny _ _ (call (Value.ref ..) _) _ _ _); (k_dflt ((first | refine c_step (by k_asm) (by k_asm) (by k_asm) (by k_asm) (by k_asm) (by first | with_reducible assumption | exact rfl) (by (first | exact room_up (by with_reducible assumption) (by decide) | ktr_room)) (by (first | exact unit_up (by with_reducible assumption) (by decide) | ktr_units)) (by k_mem) (by with_reducible assumption) (by with_reducible assumption) (by first | with_reducible assumption | omega) (by omega) (by omega) ?_ | refine c_plain (by k_asm) (by k_asm) (by k_asm) (by k_asm) (by k_asm) (by first | with_reducible assumption | exact rfl) (by (first | exact room_up (by with_reducible assumption) (by decide) | ktr_room)) (by (first | exact unit_up (by with_reducible assumption) (by decide) | ktr_units)) (by k_mem) (by with_reducible assumption) (by with_reducible assumption) (by first | with_reducible assumption | omega) (by omega) ?_); intro t9_z t9_z c9_z h9_z tk9_z F9_z N9_z l9_z; try dsimp only))) | ((with_reducible show wpAny _ _ (eval (PySem.Expr.Name ..) _) _ _ _); ((fail_if_success (with_reducible show wpAny _ _ (eval _ (compEnvC _ _ _ _)) _ _ _)); k_here; k_dflt (refine nameX_L (by k_asm) (by first | exact rfl | ((repeat (refine Eq.trans (if_neg (by decide)) ?_)); with_reducible assumption)) ?_; k_whole))) | ((with_reducible show wpAny _ _ (call (Value.builtin "len") _) _ _ _); k_dflt (refine len_list (items := List.toArray _) (by exact News.isList (by k_asm) (by k_mem)) (by exact len_small (by with_reducible assumption) (by with_reducible assumption)) ?_)) | ((with_reducible show wpAny _ _ (call (Value.ref ..) _) _ _ _); k_dflt (refine c_cells (by k_asm) (by k_asm) (by k_asm) (by k_asm) (by k_asm) (by first | with_reducible assumption | exact rfl) (by (first | exact room_up (by with_reducible assumption) (by decide) | ktr_room)) (by (first | exact unit_up (by with_reducible assumption) (by decide) | ktr_units)) (by with_reducible assumption) (by with_reducible assumption) (by omega) ?_; intro c9_z vc9_z nc9_z ds9_z h9_z tk9_z new9_z F9_z N9_z ap9_z m9_z i9_z l9_z; have N8_z := news_one N9_z m9_z; clear N9_z m9_z ap9_z; try dsimp only)) | ((with_reducible show wpAny _ _ (call (Value.ref ..) _) _ _ _); k_dflt (refine c_crossings (by k_asm) (by k_asm) (by k_asm) (by k_asm) (by k_asm) (by first | with_reducible assumption | exact rfl) (by (first | exact room_up (by with_reducible assumption) (by decide) | ktr_room)) (by (first | exact unit_up (by with_reducible assumption) (by decide) | ktr_units)) (by k_mem) (by with_reducible assumption) (by assumption) ?_; intro c9_z a1_z a2_z v1_z v2_z n1_z n2_z xs_z h9_z tk9_z new9_z F9_z N9_z ap9_z m9_z m1_z m2_z hx9_z hs9_z hlo9_z hhi9_z hp9_z; have N8_z := news_three N9_z m9_z m1_z m2_z; clear N9_z m9_z m1_z m2_z; simp only [List.cons_append, List.nil_append] at N8_z; try dsimp only)) | ((with_reducible show LCp.SrcLP ..); (refine stop_intro ?_)) | ((with_reducible show UnrEndW ..); refine stop_intro ?_) | ((with_reducible show LCg.CompEnd ..); first | (with_reducible ((refine comp_end1 (by k_asm) (by k_asm) (by assumption) (by assumption) (by lcg_src) ?_))) | ((refine comp_end1 (by k_asm) (by k_asm) (by assumption) (by assumption) (by lcg_src) ?_))) | walk1 | (dsimp only; walk1) | (leave1; (try dsimp only)) | fail "no step"))
            rename Fr _ _ _ _ => F17
            rename News _ _ _ _ => N17
            refine' Stop.mk (c_alike ?cB F17 ?cX N17 ?cT ?cK ?cd ?cu (by k_mem) (CrossAre.mono hxK (fun p hp => by k_mem)) hp ?_)
            (case cB => k_asm); (case cX => k_asm); (case cT => k_asm); (case cK => first | with_reducible assumption | exact rfl); (case cd => (first | exact room_up (by with_reducible assumption) (by decide) | ktr_room)); (case cu => (first | exact unit_up (by with_reducible assumption) (by decide) | ktr_units))
            clear F17 N17
            intro ta h18 tk18 F17 N17
            try dsimp only
            (repeat' (first | (k_unfold; (try dsimp only)) | (k_end; kc_close) | ((with_reducible show wpAny _ _ (subscriptTail _ _ (Value.ref ..) (Value.int ..)) _ _ _); (k_dflt (refine sub_any (by exact News.isList (by k_asm) (by k_mem)) (by decide) (by decide) (by exact rfl) ?_))) | ((with_reducible show wpAny _ _ (exec (Stmt.For (PySem.Expr.Tuple ..) (PySem.Expr.Name ..) ..) _) _ _ _); (refine stop_intro ?_)) | ((with_reducible show wpAny _ _ (subscriptTail _ _ (Value.ref ..) (Value.int ..)) _ _ _); (k_dflt (refine sub_int (by exact News.isList (by k_asm) (by k_mem)) (by with_reducible assumption) (by first | with_reducible assumption | omega) (by first | with_reducible assumption | omega) (by first | with_reducible assumption | omega) ?_; intro _))) | ((with_reducible show wpAny _ _ (subscriptTail _ _ (Value.ref ..) (Value.int ..)) _ _ _); (k_dflt (refine sub_any (by exact News.isList (by k_asm) (by k_mem)) (by decide) (by decide) (by exact rfl) ?_))) | ((with_reducible show wpAny _ _ (subscriptTail _ _ (Value.ref ..) (Value.int ..)) _ _ _); k_dflt (refine sub_int (by exact News.isList (by k_asm) (by k_mem)) (by with_reducible assumption) (by omega) (by omega) (by omega) ?_; intro _)) | ((with_reducible show wpAny _ _ (call (Value.type "range") _) _ _ _); first | (with_reducible (((rename Fr _ _ _ _ => F_z); (rename News _ _ _ _ => N_z); (with_unfolding_all refine range1_rows F_z N_z ?_); clear F_z N_z; intro h9_z tk9_z t91_z u91_z v91_z R9_z F9_z N9_z K9_z))) | (((rename Fr _ _ _ _ => F_z); (rename News _ _ _ _ => N_z); (with_unfolding_all refine range1_rows F_z N_z ?_); clear F_z N_z; intro h9_z tk9_z t91_z u91_z v91_z R9_z F9_z N9_z K9_z))) | ((with_reducible show wpAny _ _ (compareOp CmpOp.Eq (Value.bool ..) (Value.bool ..)) _ _ _); (refine stop_intro ?_)) | ((with_reducible show wpAny _ _ (compareOp CmpOp.NotEq (Value.int ..) (Value.int ..)) _ _ _); (k_dflt (refine ne_int_same (by with_reducible assumption) ?_))) | ((with_reducible show LCg.CompSrc _ _ _ _ _ _ _ (PySem.Expr.Call ..) _ _ _ _ _ _); (k_dflt (refine LCg.CompSrc.ledger (by exact rfl) (by k_asm) (by k_asm) (by k_mem) (by exact Nat.le_of_ble_eq_true rfl) ?_; intro g_z; lcg_lit))) | ((with_reducible show wpAny _ _ (compareOp CmpOp.Eq (Value.ref ..) (Value.ref ..)) _ _ _); (k_dflt (refine ke_eq_ints (by exact News.isList (by k_asm) (by k_mem)) (by exact News.isList (by k_asm) (by k_mem)) (by with_reducible assumption) (by l_ints) (by (first | exact unit_up (by with_reducible assumption) (by decide) | ktr_units)) ?_))) | ((with_reducible show wpAny _ _ (compareOp CmpOp.NotEq (Value.ref ..) (Value.ref ..)) _ _ _); (k_dflt (refine ne_same (by exact News.isList (by k_asm) (by k_mem)) (by exact News.isList (by k_asm) (by k_mem)) (by with_reducible assumption) (by with_reducible assumption) (by (first | exact unit_up (by with_reducible assumption) (by decide) | ktr_units)) ?_))) | ((with_reducible show wpAny _ _ (binaryOp Operator.Mult (Value.int ..) (Value.int ..)) _ _ _); (k_dflt (refine mul_b (by tb_start) (by tb_start) (by first | decide | omega) ?_; try dsimp only))) | ((with_reducible show wpAny _ _ (binaryOp Operator.Pow (Value.int ..) (Value.int ..)) _ _ _); (k_dflt (refine pow_int_small (by first | with_reducible assumption | omega) (by first | with_reducible assumption | omega) (by first | with_reducible assumption | decide | omega) ?_; try dsimp only))) | ((with_reducible show wpAny _ _ (callWith _ (Value.ref ..) _ _ _) _ _ _); (k_here; k_dflt (refine callWith_K (by k_asm) (by k_is) ?_; k_whole))) | ((with_reducible show LCg.CompSrc _ _ _ _ _ _ _ (PySem.Expr.BinOp ..) _ _ _ _ _ _); (refine stop_intro ?_)) | ((with_reducible show wpAny _ _ (storeName _ _ (Value.ref ..)) _ _ _); ((with_reducible show wpAny _ _ (storeName _ (Str.ofString "figures") _) _ _ _); refine stop_intro ?_)) | ((with_reducible show wpAny _ _ (storeName _ _ (Value.bool ..)) _ _ _); ((with_reducible show wpAny _ _ (storeName _ (Str.ofString "over") _) _ _ _); refine stop_intro ?_)) | ((with_reducible show wpAny _ _ (storeName _ _ (Value.int ..)) _ _ _); ((with_reducible first | show wpAny _ _ (storeName _ (Str.ofString "n") _) _ _ _ | show wpAny _ _ (storeName _ (Str.ofString "w") _) _ _ _ | show wpAny _ _ (storeName _ (Str.ofString "t") _) _ _ _ | show wpAny _ _ (storeName _ (Str.ofString "place") _) _ _ _); refine stop_intro ?_)) | ((with_reducible show wpAny _ _ (call (Value.ref ..) _) _ _ _); ((with_reducible show wpAny _ _ (call (Value.ref 241) _) _ _ _); refine stop_intro ?_)) | ((with_reducible show wpAny _ _ (call (Value.builtin "sum") _) _ _ _); (k_dflt (first | (refine sum_pick (by k_asm) (by k_asm) (by exact rfl) (by k_mem) (by with_reducible assumption) ?_; intro _ _ _ _ _; try dsimp only) | (refine LSm.sum_ints (by k_asm) (by k_asm) (by exact rfl) (by exact News.isList (by k_asm) (by k_mem)) (by with_reducible assumption) ?_; intro _ _ _ _ _; try dsimp only)))) | ((with_reducible show wpAny _ _ (call (Value.type "reversed") _) _ _ _); (refine stop_intro ?_)) | ((with_reducible show wpAny _ _ (call (Value.builtin "len") _) _ _ _); (k_dflt (refine len_list (items := List.toArray _) (by exact News.isList (by k_asm) (by k_mem)) (by with_reducible assumption) ?_))) | ((with_reducible show wpAny _ _ (call (Value.ref ..) _) _ _ _); ((with_reducible show wpAny _ _ (call (Value.ref 234) _) _ _ _); refine stop_intro ?_)) | ((with_reducible show wpAny _ _ (eval (PySem.Expr.IfExp ..) _) _ _ _); ((fail_if_success (have : MarkN 9 := by assumption)); refine stop_intro ?_)) | ((with_reducible show wpAny _ _ (call (Value.ref ..) _) _ _ _); (k_dflt ((first | refine c_add (by k_asm) (by k_asm) (by k_asm) (by k_asm) (by k_asm) (by first | with_reducible assumption | exact rfl) (by (first | exact room_up (by with_reducible assumption) (by decide) | ktr_room)) (by (first | exact unit_up (by with_reducible assumption) (by decide) | ktr_units)) ?_ | refine c_sub (by k_asm) (by k_asm) (by k_asm) (by k_asm) (by k_asm) (by first | with_reducible assumption | exact rfl) (by (first | exact room_up (by with_reducible assumption) (by decide) | ktr_room)) (by (first | exact unit_up (by with_reducible assumption) (by decide) | ktr_units)) ?_ | (refine c_lshift (by k_asm) (by k_asm) (by k_asm) (by k_asm) (by k_asm) (by first | with_reducible assumption | exact rfl) (by (first | exact room_up (by with_reducible assumption) (by decide) | ktr_room)) (by (first | exact unit_up (by with_reducible assumption) (by decide) | ktr_units)) (by with_reducible assumption) (by with_reducible assumption) (by omega) ?_)); intro t9_z h9_z tk9_z F9_z N9_z; try dsimp only))) | ((with_reducible show wpAny _ _ (call (Value.ref ..) _) _ _ _); ((with_reducible show wpAny _ _ (call (Value.ref 133) _) _ _ _); k_dflt (refine c_count (by k_asm) (by k_asm) (by k_asm) (by k_asm) (by k_asm) (by first | with_reducible assumption | exact rfl) (by (first | exact room_up (by with_reducible assumption) (by decide) | ktr_room)) (by (first | exact unit_up (by with_reducible assumption) (by decide) | ktr_units)) (by k_mem) (by with_reducible assumption) (by with_reducible assumption) ?_; intro t9_z h9_z tk9_z F9_z N9_z; try dsimp only))) | ((with_reducible show wpAny _ _ (eval (PySem.Expr.ListComp ..) _) _ _ _); (refine stop_intro ?_)) | ((with_reducible show wpAny _ _ (call (Value.ref ..) _) _ _ _); (k_dflt ((first | refine c_step (by k_asm) (by k_asm) (by k_asm) (by k_asm) (by k_asm) (by first | with_reducible assumption | exact rfl) (by (first | exact room_up (by with_reducible assumption) (by decide) | ktr_room)) (by (first | exact unit_up (by with_reducible assumption) (by decide) | ktr_units)) (by k_mem) (by with_reducible assumption) (by with_reducible assumption) (by first | with_reducible assumption | omega) (by omega) (by omega) ?_ | refine c_plain (by k_asm) (by k_asm) (by k_asm) (by k_asm) (by k_asm) (by first | with_reducible assumption | exact rfl) (by (first | exact room_up (by with_reducible assumption) (by decide) | ktr_room)) (by (first | exact unit_up (by with_reducible assumption) (by decide) | ktr_units)) (by k_mem) (by with_reducible assumption) (by with_reducible assumption) (by first | with_reducible assumption | omega) (by omega) ?_); intro t9_z t9_z c9_z h9_z tk9_z F9_z N9_z l9_z; try dsimp only))) | ((with_reducible show wpAny _ _ (eval (PySem.Expr.Name ..) _) _ _ _); ((fail_if_success (with_reducible show wpAny _ _ (eval _ (compEnvC _ _ _ _)) _ _ _)); k_here; k_dflt (refine nameX_L (by k_asm) (by first | exact rfl | ((repeat (refine Eq.trans (if_neg (by decide)) ?_)); with_reducible assumption)) ?_; k_whole))) | ((with_reducible show wpAny _ _ (call (Value.builtin "len") _) _ _ _); k_dflt (refine len_list (items := List.toArray _) (by exact News.isList (by k_asm) (by k_mem)) (by exact len_small (by with_reducible assumption) (by with_reducible assumption)) ?_)) | ((with_reducible show wpAny _ _ (call (Value.ref ..) _) _ _ _); k_dflt (refine c_cells (by k_asm) (by k_asm) (by k_asm) (by k_asm) (by k_asm) (by first | with_reducible assumption | exact rfl) (by (first | exact room_up (by with_reducible assumption) (by decide) | ktr_room)) (by (first | exact unit_up (by with_reducible assumption) (by decide) | ktr_units)) (by with_reducible assumption) (by with_reducible assumption) (by omega) ?_; intro c9_z vc9_z nc9_z ds9_z h9_z tk9_z new9_z F9_z N9_z ap9_z m9_z i9_z l9_z; have N8_z := news_one N9_z m9_z; clear N9_z m9_z ap9_z; try dsimp only)) | ((with_reducible show wpAny _ _ (call (Value.ref ..) _) _ _ _); k_dflt (refine c_crossings (by k_asm) (by k_asm) (by k_asm) (by k_asm) (by k_asm) (by first | with_reducible assumption | exact rfl) (by (first | exact room_up (by with_reducible assumption) (by decide) | ktr_room)) (by (first | exact unit_up (by with_reducible assumption) (by decide) | ktr_units)) (by k_mem) (by with_reducible assumption) (by assumption) ?_; intro c9_z a1_z a2_z v1_z v2_z n1_z n2_z xs_z h9_z tk9_z new9_z F9_z N9_z ap9_z m9_z m1_z m2_z hx9_z hs9_z hlo9_z hhi9_z hp9_z; have N8_z := news_three N9_z m9_z m1_z m2_z; clear N9_z m9_z m1_z m2_z; simp only [List.cons_append, List.nil_append] at N8_z; try dsimp only)) | ((with_reducible show LCp.SrcLP ..); (refine stop_intro ?_)) | ((with_reducible show UnrEndW ..); refine stop_intro ?_) | ((with_reducible show LCg.CompEnd ..); first | (with_reducible ((refine comp_end1 (by k_asm) (by k_asm) (by assumption) (by assumption) (by lcg_src) ?_))) | ((refine comp_end1 (by k_asm) (by k_asm) (by assumption) (by assumption) (by lcg_src) ?_))) | walk1 | (dsimp only; walk1) | (leave1; (try dsimp only)) | fail "no step"))
            refine Stop.mk (eq_bool_diff g3' ?_)
            (repeat' (first | (k_unfold; (try dsimp only)) | (k_end; kc_close) | ((with_reducible show wpAny _ _ (subscriptTail _ _ (Value.ref ..) (Value.int ..)) _ _ _); (k_dflt (refine sub_any (by exact News.isList (by k_asm) (by k_mem)) (by decide) (by decide) (by exact rfl) ?_))) | ((with_reducible show wpAny _ _ (exec (Stmt.For (PySem.Expr.Tuple ..) (PySem.Expr.Name ..) ..) _) _ _ _); (refine stop_intro ?_)) | ((with_reducible show wpAny _ _ (subscriptTail _ _ (Value.ref ..) (Value.int ..)) _ _ _); (k_dflt (refine sub_int (by exact News.isList (by k_asm) (by k_mem)) (by with_reducible assumption) (by first | with_reducible assumption | omega) (by first | with_reducible assumption | omega) (by first | with_reducible assumption | omega) ?_; intro _))) | ((with_reducible show wpAny _ _ (subscriptTail _ _ (Value.ref ..) (Value.int ..)) _ _ _); (k_dflt (refine sub_any (by exact News.isList (by k_asm) (by k_mem)) (by decide) (by decide) (by exact rfl) ?_))) | ((with_reducible show wpAny _ _ (subscriptTail _ _ (Value.ref ..) (Value.int ..)) _ _ _); k_dflt (refine sub_int (by exact News.isList (by k_asm) (by k_mem)) (by with_reducible assumption) (by omega) (by omega) (by omega) ?_; intro _)) | ((with_reducible show wpAny _ _ (call (Value.type "range") _) _ _ _); first | (with_reducible (((rename Fr _ _ _ _ => F_z); (rename News _ _ _ _ => N_z); (with_unfolding_all refine range1_rows F_z N_z ?_); clear F_z N_z; intro h9_z tk9_z t91_z u91_z v91_z R9_z F9_z N9_z K9_z))) | (((rename Fr _ _ _ _ => F_z); (rename News _ _ _ _ => N_z); (with_unfolding_all refine range1_rows F_z N_z ?_); clear F_z N_z; intro h9_z tk9_z t91_z u91_z v91_z R9_z F9_z N9_z K9_z))) | ((with_reducible show wpAny _ _ (compareOp CmpOp.Eq (Value.bool ..) (Value.bool ..)) _ _ _); (refine stop_intro ?_)) | ((with_reducible show wpAny _ _ (compareOp CmpOp.NotEq (Value.int ..) (Value.int ..)) _ _ _); (k_dflt (refine ne_int_same (by with_reducible assumption) ?_))) | ((with_reducible show LCg.CompSrc _ _ _ _ _ _ _ (PySem.Expr.Call ..) _ _ _ _ _ _); (k_dflt (refine LCg.CompSrc.ledger (by exact rfl) (by k_asm) (by k_asm) (by k_mem) (by exact Nat.le_of_ble_eq_true rfl) ?_; intro g_z; lcg_lit))) | ((with_reducible show wpAny _ _ (compareOp CmpOp.Eq (Value.ref ..) (Value.ref ..)) _ _ _); (k_dflt (refine ke_eq_ints (by exact News.isList (by k_asm) (by k_mem)) (by exact News.isList (by k_asm) (by k_mem)) (by with_reducible assumption) (by l_ints) (by (first | exact unit_up (by with_reducible assumption) (by decide) | ktr_units)) ?_))) | ((with_reducible show wpAny _ _ (compareOp CmpOp.NotEq (Value.ref ..) (Value.ref ..)) _ _ _); (k_dflt (refine ne_same (by exact News.isList (by k_asm) (by k_mem)) (by exact News.isList (by k_asm) (by k_mem)) (by with_reducible assumption) (by with_reducible assumption) (by (first | exact unit_up (by with_reducible assumption) (by decide) | ktr_units)) ?_))) | ((with_reducible show wpAny _ _ (binaryOp Operator.Mult (Value.int ..) (Value.int ..)) _ _ _); (k_dflt (refine mul_b (by tb_start) (by tb_start) (by first | decide | omega) ?_; try dsimp only))) | ((with_reducible show wpAny _ _ (binaryOp Operator.Pow (Value.int ..) (Value.int ..)) _ _ _); (k_dflt (refine pow_int_small (by first | with_reducible assumption | omega) (by first | with_reducible assumption | omega) (by first | with_reducible assumption | decide | omega) ?_; try dsimp only))) | ((with_reducible show wpAny _ _ (callWith _ (Value.ref ..) _ _ _) _ _ _); (k_here; k_dflt (refine callWith_K (by k_asm) (by k_is) ?_; k_whole))) | ((with_reducible show LCg.CompSrc _ _ _ _ _ _ _ (PySem.Expr.BinOp ..) _ _ _ _ _ _); (refine stop_intro ?_)) | ((with_reducible show wpAny _ _ (storeName _ _ (Value.ref ..)) _ _ _); ((with_reducible show wpAny _ _ (storeName _ (Str.ofString "figures") _) _ _ _); refine stop_intro ?_)) | ((with_reducible show wpAny _ _ (storeName _ _ (Value.bool ..)) _ _ _); ((with_reducible show wpAny _ _ (storeName _ (Str.ofString "over") _) _ _ _); refine stop_intro ?_)) | ((with_reducible show wpAny _ _ (storeName _ _ (Value.int ..)) _ _ _); ((with_reducible first | show wpAny _ _ (storeName _ (Str.ofString "n") _) _ _ _ | show wpAny _ _ (storeName _ (Str.ofString "w") _) _ _ _ | show wpAny _ _ (storeName _ (Str.ofString "t") _) _ _ _ | show wpAny _ _ (storeName _ (Str.ofString "place") _) _ _ _); refine stop_intro ?_)) | ((with_reducible show wpAny _ _ (call (Value.ref ..) _) _ _ _); ((with_reducible show wpAny _ _ (call (Value.ref 241) _) _ _ _); refine stop_intro ?_)) | ((with_reducible show wpAny _ _ (call (Value.builtin "sum") _) _ _ _); (k_dflt (first | (refine sum_pick (by k_asm) (by k_asm) (by exact rfl) (by k_mem) (by with_reducible assumption) ?_; intro _ _ _ _ _; try dsimp only) | (refine LSm.sum_ints (by k_asm) (by k_asm) (by exact rfl) (by exact News.isList (by k_asm) (by k_mem)) (by with_reducible assumption) ?_; intro _ _ _ _ _; try dsimp only)))) | ((with_reducible show wpAny _ _ (call (Value.type "reversed") _) _ _ _); (refine stop_intro ?_)) | ((with_reducible show wpAny _ _ (call (Value.builtin "len") _) _ _ _); (k_dflt (refine len_list (items := List.toArray _) (by exact News.isList (by k_asm) (by k_mem)) (by with_reducible assumption) ?_))) | ((with_reducible show wpAny _ _ (call (Value.ref ..) _) _ _ _); ((with_reducible show wpAny _ _ (call (Value.ref 234) _) _ _ _); refine stop_intro ?_)) | ((with_reducible show wpAny _ _ (eval (PySem.Expr.IfExp ..) _) _ _ _); ((fail_if_success (have : MarkN 9 := by assumption)); refine stop_intro ?_)) | ((with_reducible show wpAny _ _ (call (Value.ref ..) _) _ _ _); (k_dflt ((first | refine c_add (by k_asm) (by k_asm) (by k_asm) (by k_asm) (by k_asm) (by first | with_reducible assumption | exact rfl) (by (first | exact room_up (by with_reducible assumption) (by decide) | ktr_room)) (by (first | exact unit_up (by with_reducible assumption) (by decide) | ktr_units)) ?_ | refine c_sub (by k_asm) (by k_asm) (by k_asm) (by k_asm) (by k_asm) (by first | with_reducible assumption | exact rfl) (by (first | exact room_up (by with_reducible assumption) (by decide) | ktr_room)) (by (first | exact unit_up (by with_reducible assumption) (by decide) | ktr_units)) ?_ | (refine c_lshift (by k_asm) (by k_asm) (by k_asm) (by k_asm) (by k_asm) (by first | with_reducible assumption | exact rfl) (by (first | exact room_up (by with_reducible assumption) (by decide) | ktr_room)) (by (first | exact unit_up (by with_reducible assumption) (by decide) | ktr_units)) (by with_reducible assumption) (by with_reducible assumption) (by omega) ?_)); intro t9_z h9_z tk9_z F9_z N9_z; try dsimp only))) | ((with_reducible show wpAny _ _ (call (Value.ref ..) _) _ _ _); ((with_reducible show wpAny _ _ (call (Value.ref 133) _) _ _ _); k_dflt (refine c_count (by k_asm) (by k_asm) (by k_asm) (by k_asm) (by k_asm) (by first | with_reducible assumption | exact rfl) (by (first | exact room_up (by with_reducible assumption) (by decide) | ktr_room)) (by (first | exact unit_up (by with_reducible assumption) (by decide) | ktr_units)) (by k_mem) (by with_reducible assumption) (by with_reducible assumption) ?_; intro t9_z h9_z tk9_z F9_z N9_z; try dsimp only))) | ((with_reducible show wpAny _ _ (eval (PySem.Expr.ListComp ..) _) _ _ _); (refine stop_intro ?_)) | ((with_reducible show wpAny _ _ (call (Value.ref ..) _) _ _ _); (k_dflt ((first | refine c_step (by k_asm) (by k_asm) (by k_asm) (by k_asm) (by k_asm) (by first | with_reducible assumption | exact rfl) (by (first | exact room_up (by with_reducible assumption) (by decide) | ktr_room)) (by (first | exact unit_up (by with_reducible assumption) (by decide) | ktr_units)) (by k_mem) (by with_reducible assumption) (by with_reducible assumption) (by first | with_reducible assumption | omega) (by omega) (by omega) ?_ | refine c_plain (by k_asm) (by k_asm) (by k_asm) (by k_asm) (by k_asm) (by first | with_reducible assumption | exact rfl) (by (first | exact room_up (by with_reducible assumption) (by decide) | ktr_room)) (by (first | exact unit_up (by with_reducible assumption) (by decide) | ktr_units)) (by k_mem) (by with_reducible assumption) (by with_reducible assumption) (by first | with_reducible assumption | omega) (by omega) ?_); intro t9_z t9_z c9_z h9_z tk9_z F9_z N9_z l9_z; try dsimp only))) | ((with_reducible show wpAny _ _ (eval (PySem.Expr.Name ..) _) _ _ _); ((fail_if_success (with_reducible show wpAny _ _ (eval _ (compEnvC _ _ _ _)) _ _ _)); k_here; k_dflt (refine nameX_L (by k_asm) (by first | exact rfl | ((repeat (refine Eq.trans (if_neg (by decide)) ?_)); with_reducible assumption)) ?_; k_whole))) | ((with_reducible show wpAny _ _ (call (Value.builtin "len") _) _ _ _); k_dflt (refine len_list (items := List.toArray _) (by exact News.isList (by k_asm) (by k_mem)) (by exact len_small (by with_reducible assumption) (by with_reducible assumption)) ?_)) | ((with_reducible show wpAny _ _ (call (Value.ref ..) _) _ _ _); k_dflt (refine c_cells (by k_asm) (by k_asm) (by k_asm) (by k_asm) (by k_asm) (by first | with_reducible assumption | exact rfl) (by (first | exact room_up (by with_reducible assumption) (by decide) | ktr_room)) (by (first | exact unit_up (by with_reducible assumption) (by decide) | ktr_units)) (by with_reducible assumption) (by with_reducible assumption) (by omega) ?_; intro c9_z vc9_z nc9_z ds9_z h9_z tk9_z new9_z F9_z N9_z ap9_z m9_z i9_z l9_z; have N8_z := news_one N9_z m9_z; clear N9_z m9_z ap9_z; try dsimp only)) | ((with_reducible show wpAny _ _ (call (Value.ref ..) _) _ _ _); k_dflt (refine c_crossings (by k_asm) (by k_asm) (by k_asm) (by k_asm) (by k_asm) (by first | with_reducible assumption | exact rfl) (by (first | exact room_up (by with_reducible assumption) (by decide) | ktr_room)) (by (first | exact unit_up (by with_reducible assumption) (by decide) | ktr_units)) (by k_mem) (by with_reducible assumption) (by assumption) ?_; intro c9_z a1_z a2_z v1_z v2_z n1_z n2_z xs_z h9_z tk9_z new9_z F9_z N9_z ap9_z m9_z m1_z m2_z hx9_z hs9_z hlo9_z hhi9_z hp9_z; have N8_z := news_three N9_z m9_z m1_z m2_z; clear N9_z m9_z m1_z m2_z; simp only [List.cons_append, List.nil_append] at N8_z; try dsimp only)) | ((with_reducible show LCp.SrcLP ..); (refine stop_intro ?_)) | ((with_reducible show UnrEndW ..); refine stop_intro ?_) | ((with_reducible show LCg.CompEnd ..); first | (with_reducible ((refine comp_end1 (by k_asm) (by k_asm) (by assumption) (by assumption) (by lcg_src) ?_))) | ((refine comp_end1 (by k_asm) (by k_asm) (by assumption) (by assumption) (by lcg_src) ?_))) | walk1 | (dsimp only; walk1) | (leave1; (try dsimp only)) | fail "no step"))
            rename Fr _ _ _ _ => F17
            rename News _ _ _ _ => N17
            refine Stop.mk (LCg.ListComp_U (F₀ := F17) (by with_unfolding_all rfl) (by decide) (by rfl) (by decide) (by rfl) ?_)
            (repeat' (first | (k_unfold; (try dsimp only)) | (k_end; kc_close) | ((with_reducible show wpAny _ _ (subscriptTail _ _ (Value.ref ..) (Value.int ..)) _ _ _); (k_dflt (refine sub_any (by exact News.isList (by k_asm) (by k_mem)) (by decide) (by decide) (by exact rfl) ?_))) | ((with_reducible show wpAny _ _ (exec (Stmt.For (PySem.Expr.Tuple ..) (PySem.Expr.Name ..) ..) _) _ _ _); (refine stop_intro ?_)) | ((with_reducible show wpAny _ _ (subscriptTail _ _ (Value.ref ..) (Value.int ..)) _ _ _); (k_dflt (refine sub_int (by exact News.isList (by k_asm) (by k_mem)) (by with_reducible assumption) (by first | with_reducible assumption | omega) (by first | with_reducible assumption | omega) (by first | with_reducible assumption | omega) ?_; intro _))) | ((with_reducible show wpAny _ _ (subscriptTail _ _ (Value.ref ..) (Value.int ..)) _ _ _); (k_dflt (refine sub_any (by exact News.isList (by k_asm) (by k_mem)) (by decide) (by decide) (by exact rfl) ?_))) | ((with_reducible show wpAny _ _ (subscriptTail _ _ (Value.ref ..) (Value.int ..)) _ _ _); k_dflt (refine sub_int (by exact News.isList (by k_asm) (by k_mem)) (by with_reducible assumption) (by omega) (by omega) (by omega) ?_; intro _)) | ((with_reducible show wpAny _ _ (call (Value.type "range") _) _ _ _); first | (with_reducible (((rename Fr _ _ _ _ => F_z); (rename News _ _ _ _ => N_z); (with_unfolding_all refine range1_rows F_z N_z ?_); clear F_z N_z; intro h9_z tk9_z t91_z u91_z v91_z R9_z F9_z N9_z K9_z))) | (((rename Fr _ _ _ _ => F_z); (rename News _ _ _ _ => N_z); (with_unfolding_all refine range1_rows F_z N_z ?_); clear F_z N_z; intro h9_z tk9_z t91_z u91_z v91_z R9_z F9_z N9_z K9_z))) | ((with_reducible show wpAny _ _ (compareOp CmpOp.Eq (Value.bool ..) (Value.bool ..)) _ _ _); (refine stop_intro ?_)) | ((with_reducible show wpAny _ _ (compareOp CmpOp.NotEq (Value.int ..) (Value.int ..)) _ _ _); (k_dflt (refine ne_int_same (by with_reducible assumption) ?_))) | ((with_reducible show LCg.CompSrc _ _ _ _ _ _ _ (PySem.Expr.Call ..) _ _ _ _ _ _); (k_dflt (refine LCg.CompSrc.ledger (by exact rfl) (by k_asm) (by k_asm) (by k_mem) (by exact Nat.le_of_ble_eq_true rfl) ?_; intro g_z; lcg_lit))) | ((with_reducible show wpAny _ _ (compareOp CmpOp.Eq (Value.ref ..) (Value.ref ..)) _ _ _); (k_dflt (refine ke_eq_ints (by exact News.isList (by k_asm) (by k_mem)) (by exact News.isList (by k_asm) (by k_mem)) (by with_reducible assumption) (by l_ints) (by (first | exact unit_up (by with_reducible assumption) (by decide) | ktr_units)) ?_))) | ((with_reducible show wpAny _ _ (compareOp CmpOp.NotEq (Value.ref ..) (Value.ref ..)) _ _ _); (k_dflt (refine ne_same (by exact News.isList (by k_asm) (by k_mem)) (by exact News.isList (by k_asm) (by k_mem)) (by with_reducible assumption) (by with_reducible assumption) (by (first | exact unit_up (by with_reducible assumption) (by decide) | ktr_units)) ?_))) | ((with_reducible show wpAny _ _ (binaryOp Operator.Mult (Value.int ..) (Value.int ..)) _ _ _); (k_dflt (refine mul_b (by tb_start) (by tb_start) (by first | decide | omega) ?_; try dsimp only))) | ((with_reducible show wpAny _ _ (binaryOp Operator.Pow (Value.int ..) (Value.int ..)) _ _ _); (k_dflt (refine pow_int_small (by first | with_reducible assumption | omega) (by first | with_reducible assumption | omega) (by first | with_reducible assumption | decide | omega) ?_; try dsimp only))) | ((with_reducible show wpAny _ _ (callWith _ (Value.ref ..) _ _ _) _ _ _); (k_here; k_dflt (refine callWith_K (by k_asm) (by k_is) ?_; k_whole))) | ((with_reducible show LCg.CompSrc _ _ _ _ _ _ _ (PySem.Expr.BinOp ..) _ _ _ _ _ _); (refine stop_intro ?_)) | ((with_reducible show wpAny _ _ (storeName _ _ (Value.ref ..)) _ _ _); ((with_reducible show wpAny _ _ (storeName _ (Str.ofString "figures") _) _ _ _); refine stop_intro ?_)) | ((with_reducible show wpAny _ _ (storeName _ _ (Value.bool ..)) _ _ _); ((with_reducible show wpAny _ _ (storeName _ (Str.ofString "over") _) _ _ _); refine stop_intro ?_)) | ((with_reducible show wpAny _ _ (storeName _ _ (Value.int ..)) _ _ _); ((with_reducible first | show wpAny _ _ (storeName _ (Str.ofString "n") _) _ _ _ | show wpAny _ _ (storeName _ (Str.ofString "w") _) _ _ _ | show wpAny _ _ (storeName _ (Str.ofString "t") _) _ _ _ | show wpAny _ _ (storeName _ (Str.ofString "place") _) _ _ _); refine stop_intro ?_)) | ((with_reducible show wpAny _ _ (call (Value.ref ..) _) _ _ _); ((with_reducible show wpAny _ _ (call (Value.ref 241) _) _ _ _); refine stop_intro ?_)) | ((with_reducible show wpAny _ _ (call (Value.builtin "sum") _) _ _ _); (k_dflt (first | (refine sum_pick (by k_asm) (by k_asm) (by exact rfl) (by k_mem) (by with_reducible assumption) ?_; intro _ _ _ _ _; try dsimp only) | (refine LSm.sum_ints (by k_asm) (by k_asm) (by exact rfl) (by exact News.isList (by k_asm) (by k_mem)) (by with_reducible assumption) ?_; intro _ _ _ _ _; try dsimp only)))) | ((with_reducible show wpAny _ _ (call (Value.type "reversed") _) _ _ _); (refine stop_intro ?_)) | ((with_reducible show wpAny _ _ (call (Value.builtin "len") _) _ _ _); (k_dflt (refine len_list (items := List.toArray _) (by exact News.isList (by k_asm) (by k_mem)) (by with_reducible assumption) ?_))) | ((with_reducible show wpAny _ _ (call (Value.ref ..) _) _ _ _); ((with_reducible show wpAny _ _ (call (Value.ref 234) _) _ _ _); refine stop_intro ?_)) | ((with_reducible show wpAny _ _ (eval (PySem.Expr.IfExp ..) _) _ _ _); ((fail_if_success (have : MarkN 9 := by assumption)); refine stop_intro ?_)) | ((with_reducible show wpAny _ _ (call (Value.ref ..) _) _ _ _); (k_dflt ((first | refine c_add (by k_asm) (by k_asm) (by k_asm) (by k_asm) (by k_asm) (by first | with_reducible assumption | exact rfl) (by (first | exact room_up (by with_reducible assumption) (by decide) | ktr_room)) (by (first | exact unit_up (by with_reducible assumption) (by decide) | ktr_units)) ?_ | refine c_sub (by k_asm) (by k_asm) (by k_asm) (by k_asm) (by k_asm) (by first | with_reducible assumption | exact rfl) (by (first | exact room_up (by with_reducible assumption) (by decide) | ktr_room)) (by (first | exact unit_up (by with_reducible assumption) (by decide) | ktr_units)) ?_ | (refine c_lshift (by k_asm) (by k_asm) (by k_asm) (by k_asm) (by k_asm) (by first | with_reducible assumption | exact rfl) (by (first | exact room_up (by with_reducible assumption) (by decide) | ktr_room)) (by (first | exact unit_up (by with_reducible assumption) (by decide) | ktr_units)) (by with_reducible assumption) (by with_reducible assumption) (by omega) ?_)); intro t9_z h9_z tk9_z F9_z N9_z; try dsimp only))) | ((with_reducible show wpAny _ _ (call (Value.ref ..) _) _ _ _); ((with_reducible show wpAny _ _ (call (Value.ref 133) _) _ _ _); k_dflt (refine c_count (by k_asm) (by k_asm) (by k_asm) (by k_asm) (by k_asm) (by first | with_reducible assumption | exact rfl) (by (first | exact room_up (by with_reducible assumption) (by decide) | ktr_room)) (by (first | exact unit_up (by with_reducible assumption) (by decide) | ktr_units)) (by k_mem) (by with_reducible assumption) (by with_reducible assumption) ?_; intro t9_z h9_z tk9_z F9_z N9_z; try dsimp only))) | ((with_reducible show wpAny _ _ (eval (PySem.Expr.ListComp ..) _) _ _ _); (refine stop_intro ?_)) | ((with_reducible show wpAny _ _ (call (Value.ref ..) _) _ _ _); (k_dflt ((first | refine c_step (by k_asm) (by k_asm) (by k_asm) (by k_asm) (by k_asm) (by first | with_reducible assumption | exact rfl) (by (first | exact room_up (by with_reducible assumption) (by decide) | ktr_room)) (by (first | exact unit_up (by with_reducible assumption) (by decide) | ktr_units)) (by k_mem) (by with_reducible assumption) (by with_reducible assumption) (by first | with_reducible assumption | omega) (by omega) (by omega) ?_ | refine c_plain (by k_asm) (by k_asm) (by k_asm) (by k_asm) (by k_asm) (by first | with_reducible assumption | exact rfl) (by (first | exact room_up (by with_reducible assumption) (by decide) | ktr_room)) (by (first | exact unit_up (by with_reducible assumption) (by decide) | ktr_units)) (by k_mem) (by with_reducible assumption) (by with_reducible assumption) (by first | with_reducible assumption | omega) (by omega) ?_); intro t9_z t9_z c9_z h9_z tk9_z F9_z N9_z l9_z; try dsimp only))) | ((with_reducible show wpAny _ _ (eval (PySem.Expr.Name ..) _) _ _ _); ((fail_if_success (with_reducible show wpAny _ _ (eval _ (compEnvC _ _ _ _)) _ _ _)); k_here; k_dflt (refine nameX_L (by k_asm) (by first | exact rfl | ((repeat (refine Eq.trans (if_neg (by decide)) ?_)); with_reducible assumption)) ?_; k_whole))) | ((with_reducible show wpAny _ _ (call (Value.builtin "len") _) _ _ _); k_dflt (refine len_list (items := List.toArray _) (by exact News.isList (by k_asm) (by k_mem)) (by exact len_small (by with_reducible assumption) (by with_reducible assumption)) ?_)) | ((with_reducible show wpAny _ _ (call (Value.ref ..) _) _ _ _); k_dflt (refine c_cells (by k_asm) (by k_asm) (by k_asm) (by k_asm) (by k_asm) (by first | with_reducible assumption | exact rfl) (by (first | exact room_up (by with_reducible assumption) (by decide) | ktr_room)) (by (first | exact unit_up (by with_reducible assumption) (by decide) | ktr_units)) (by with_reducible assumption) (by with_reducible assumption) (by omega) ?_; intro c9_z vc9_z nc9_z ds9_z h9_z tk9_z new9_z F9_z N9_z ap9_z m9_z i9_z l9_z; have N8_z := news_one N9_z m9_z; clear N9_z m9_z ap9_z; try dsimp only)) | ((with_reducible show wpAny _ _ (call (Value.ref ..) _) _ _ _); k_dflt (refine c_crossings (by k_asm) (by k_asm) (by k_asm) (by k_asm) (by k_asm) (by first | with_reducible assumption | exact rfl) (by (first | exact room_up (by with_reducible assumption) (by decide) | ktr_room)) (by (first | exact unit_up (by with_reducible assumption) (by decide) | ktr_units)) (by k_mem) (by with_reducible assumption) (by assumption) ?_; intro c9_z a1_z a2_z v1_z v2_z n1_z n2_z xs_z h9_z tk9_z new9_z F9_z N9_z ap9_z m9_z m1_z m2_z hx9_z hs9_z hlo9_z hhi9_z hp9_z; have N8_z := news_three N9_z m9_z m1_z m2_z; clear N9_z m9_z m1_z m2_z; simp only [List.cons_append, List.nil_append] at N8_z; try dsimp only)) | ((with_reducible show LCp.SrcLP ..); (refine stop_intro ?_)) | ((with_reducible show UnrEndW ..); refine stop_intro ?_) | ((with_reducible show LCg.CompEnd ..); first | (with_reducible ((refine comp_end1 (by k_asm) (by k_asm) (by assumption) (by assumption) (by lcg_src) ?_))) | ((refine comp_end1 (by k_asm) (by k_asm) (by assumption) (by assumption) (by lcg_src) ?_))) | walk1 | (dsimp only; walk1) | (leave1; (try dsimp only)) | fail "no step"))
            rename Fr _ _ _ _ => F18
            rename News _ _ _ _ => N18
            rename IsRange _ _ _ _ _ _ _ _ => R18
            have bt20 : intBits tt ≤ 20 := bits_of_natAbs (by omega)
            refine Stop.mk (LCg.CompSrc.range (n := xs.length - 1) rfl F18 N18 R18 (range_pred h3 h8).1 (range_pred h3 h8).2 (Nat.le_trans (pred100 h8) (by decide)) fun g => ?_)
            refine comp_range trivial (xs.length - 1) (fun i ys => IntsAre ys ((rangeKs 0 i).map fun j => G.getD j.toNat 0 * tt ^ j.toNat)) ?trn3 ?dn3 (xs.length - 1) 0 [] (by omega) .nil
            case trn3 =>
              intro i ys t hi hys I9 oI9 C9 oC9 D9 m₂ h tk E' Q' ha hb9 F N kq
              have b11 := bits_small (small_getD g5' (0 + (i : Int)).toNat)
              have b12 : intBits (tt ^ (0 + (i : Int)).toNat) ≤ 200 := bits_up (bits_powN bt20 _) (ix4 hi h8)
              have jx0 := ix0 i
              have jx1 := ix1 hi lG
              have jx2 := ix2 hi h8
              have jx3 := ix3 jx2
              have jx4 := nat64 ht1 ht2
              clear F18 N18
              (repeat' (first | (k_unfold; (try dsimp only)) | (k_end; kc_close) | ((with_reducible show wpAny _ _ (subscriptTail _ _ (Value.ref ..) (Value.int ..)) _ _ _); (k_dflt (refine sub_any (by exact News.isList (by k_asm) (by k_mem)) (by decide) (by decide) (by exact rfl) ?_))) | ((with_reducible show wpAny _ _ (exec (Stmt.For (PySem.Expr.Tuple ..) (PySem.Expr.Name ..) ..) _) _ _ _); (refine stop_intro ?_)) | ((with_reducible show wpAny _ _ (subscriptTail _ _ (Value.ref ..) (Value.int ..)) _ _ _); (k_dflt (refine sub_int (by exact News.isList (by k_asm) (by k_mem)) (by with_reducible assumption) (by first | with_reducible assumption | omega) (by first | with_reducible assumption | omega) (by first | with_reducible assumption | omega) ?_; intro _))) | ((with_reducible show wpAny _ _ (subscriptTail _ _ (Value.ref ..) (Value.int ..)) _ _ _); (k_dflt (refine sub_any (by exact News.isList (by k_asm) (by k_mem)) (by decide) (by decide) (by exact rfl) ?_))) | ((with_reducible show wpAny _ _ (subscriptTail _ _ (Value.ref ..) (Value.int ..)) _ _ _); k_dflt (refine sub_int (by exact News.isList (by k_asm) (by k_mem)) (by with_reducible assumption) (by omega) (by omega) (by omega) ?_; intro _)) | ((with_reducible show wpAny _ _ (call (Value.type "range") _) _ _ _); first | (with_reducible (((rename Fr _ _ _ _ => F_z); (rename News _ _ _ _ => N_z); (with_unfolding_all refine range1_rows F_z N_z ?_); clear F_z N_z; intro h9_z tk9_z t91_z u91_z v91_z R9_z F9_z N9_z K9_z))) | (((rename Fr _ _ _ _ => F_z); (rename News _ _ _ _ => N_z); (with_unfolding_all refine range1_rows F_z N_z ?_); clear F_z N_z; intro h9_z tk9_z t91_z u91_z v91_z R9_z F9_z N9_z K9_z))) | ((with_reducible show wpAny _ _ (compareOp CmpOp.Eq (Value.bool ..) (Value.bool ..)) _ _ _); (refine stop_intro ?_)) | ((with_reducible show wpAny _ _ (compareOp CmpOp.NotEq (Value.int ..) (Value.int ..)) _ _ _); (k_dflt (refine ne_int_same (by with_reducible assumption) ?_))) | ((with_reducible show LCg.CompSrc _ _ _ _ _ _ _ (PySem.Expr.Call ..) _ _ _ _ _ _); (k_dflt (refine LCg.CompSrc.ledger (by exact rfl) (by k_asm) (by k_asm) (by k_mem) (by exact Nat.le_of_ble_eq_true rfl) ?_; intro g_z; lcg_lit))) | ((with_reducible show wpAny _ _ (compareOp CmpOp.Eq (Value.ref ..) (Value.ref ..)) _ _ _); (k_dflt (refine ke_eq_ints (by exact News.isList (by k_asm) (by k_mem)) (by exact News.isList (by k_asm) (by k_mem)) (by with_reducible assumption) (by l_ints) (by (first | exact unit_up (by with_reducible assumption) (by decide) | ktr_units)) ?_))) | ((with_reducible show wpAny _ _ (compareOp CmpOp.NotEq (Value.ref ..) (Value.ref ..)) _ _ _); (k_dflt (refine ne_same (by exact News.isList (by k_asm) (by k_mem)) (by exact News.isList (by k_asm) (by k_mem)) (by with_reducible assumption) (by with_reducible assumption) (by (first | exact unit_up (by with_reducible assumption) (by decide) | ktr_units)) ?_))) | ((with_reducible show wpAny _ _ (binaryOp Operator.Mult (Value.int ..) (Value.int ..)) _ _ _); (k_dflt (refine mul_b (by tb_start) (by tb_start) (by first | decide | omega) ?_; try dsimp only))) | ((with_reducible show wpAny _ _ (binaryOp Operator.Pow (Value.int ..) (Value.int ..)) _ _ _); (k_dflt (refine pow_int_small (by first | with_reducible assumption | omega) (by first | with_reducible assumption | omega) (by first | with_reducible assumption | decide | omega) ?_; try dsimp only))) | ((with_reducible show wpAny _ _ (callWith _ (Value.ref ..) _ _ _) _ _ _); (k_here; k_dflt (refine callWith_K (by k_asm) (by k_is) ?_; k_whole))) | ((with_reducible show LCg.CompSrc _ _ _ _ _ _ _ (PySem.Expr.BinOp ..) _ _ _ _ _ _); (refine stop_intro ?_)) | ((with_reducible show wpAny _ _ (storeName _ _ (Value.ref ..)) _ _ _); ((with_reducible show wpAny _ _ (storeName _ (Str.ofString "figures") _) _ _ _); refine stop_intro ?_)) | ((with_reducible show wpAny _ _ (storeName _ _ (Value.bool ..)) _ _ _); ((with_reducible show wpAny _ _ (storeName _ (Str.ofString "over") _) _ _ _); refine stop_intro ?_)) | ((with_reducible show wpAny _ _ (storeName _ _ (Value.int ..)) _ _ _); ((with_reducible first | show wpAny _ _ (storeName _ (Str.ofString "n") _) _ _ _ | show wpAny _ _ (storeName _ (Str.ofString "w") _) _ _ _ | show wpAny _ _ (storeName _ (Str.ofString "t") _) _ _ _ | show wpAny _ _ (storeName _ (Str.ofString "place") _) _ _ _); refine stop_intro ?_)) | ((with_reducible show wpAny _ _ (call (Value.ref ..) _) _ _ _); ((with_reducible show wpAny _ _ (call (Value.ref 241) _) _ _ _); refine stop_intro ?_)) | ((with_reducible show wpAny _ _ (call (Value.builtin "sum") _) _ _ _); (k_dflt (first | (refine sum_pick (by k_asm) (by k_asm) (by exact rfl) (by k_mem) (by with_reducible assumption) ?_; intro _ _ _ _ _; try dsimp only) | (refine LSm.sum_ints (by k_asm) (by k_asm) (by exact rfl) (by exact News.isList (by k_asm) (by k_mem)) (by with_reducible assumption) ?_; intro _ _ _ _ _; try dsimp only)))) | ((with_reducible show wpAny _ _ (call (Value.type "reversed") _) _ _ _); (refine stop_intro ?_)) | ((with_reducible show wpAny _ _ (call (Value.builtin "len") _) _ _ _); (k_dflt (refine len_list (items := List.toArray _) (by exact News.isList (by k_asm) (by k_mem)) (by with_reducible assumption) ?_))) | ((with_reducible show wpAny _ _ (call (Value.ref ..) _) _ _ _); ((with_reducible show wpAny _ _ (call (Value.ref 234) _) _ _ _); refine stop_intro ?_)) | ((with_reducible show wpAny _ _ (eval (PySem.Expr.IfExp ..) _) _ _ _); ((fail_if_success (have : MarkN 9 := by assumption)); refine stop_intro ?_)) | ((with_reducible show wpAny _ _ (call (Value.ref ..) _) _ _ _); (k_dflt ((first | refine c_add (by k_asm) (by k_asm) (by k_asm) (by k_asm) (by k_asm) (by first | with_reducible assumption | exact rfl) (by (first | exact room_up (by with_reducible assumption) (by decide) | ktr_room)) (by (first | exact unit_up (by with_reducible assumption) (by decide) | ktr_units)) ?_ | refine c_sub (by k_asm) (by k_asm) (by k_asm) (by k_asm) (by k_asm) (by first | with_reducible assumption | exact rfl) (by (first | exact room_up (by with_reducible assumption) (by decide) | ktr_room)) (by (first | exact unit_up (by with_reducible assumption) (by decide) | ktr_units)) ?_ | (refine c_lshift (by k_asm) (by k_asm) (by k_asm) (by k_asm) (by k_asm) (by first | with_reducible assumption | exact rfl) (by (first | exact room_up (by with_reducible assumption) (by decide) | ktr_room)) (by (first | exact unit_up (by with_reducible assumption) (by decide) | ktr_units)) (by with_reducible assumption) (by with_reducible assumption) (by omega) ?_)); intro t9_z h9_z tk9_z F9_z N9_z; try dsimp only))) | ((with_reducible show wpAny _ _ (call (Value.ref ..) _) _ _ _); ((with_reducible show wpAny _ _ (call (Value.ref 133) _) _ _ _); k_dflt (refine c_count (by k_asm) (by k_asm) (by k_asm) (by k_asm) (by k_asm) (by first | with_reducible assumption | exact rfl) (by (first | exact room_up (by with_reducible assumption) (by decide) | ktr_room)) (by (first | exact unit_up (by with_reducible assumption) (by decide) | ktr_units)) (by k_mem) (by with_reducible assumption) (by with_reducible assumption) ?_; intro t9_z h9_z tk9_z F9_z N9_z; try dsimp only))) | ((with_reducible show wpAny _ _ (eval (PySem.Expr.ListComp ..) _) _ _ _); (refine stop_intro ?_)) | ((with_reducible show wpAny _ _ (call (Value.ref ..) _) _ _ _); (k_dflt ((first | refine c_step (by k_asm) (by k_asm) (by k_asm) (by k_asm) (by k_asm) (by first | with_reducible assumption | exact rfl) (by (first | exact room_up (by with_reducible assumption) (by decide) | ktr_room)) (by (first | exact unit_up (by with_reducible assumption) (by decide) | ktr_units)) (by k_mem) (by with_reducible assumption) (by with_reducible assumption) (by first | with_reducible assumption | omega) (by omega) (by omega) ?_ | refine c_plain (by k_asm) (by k_asm) (by k_asm) (by k_asm) (by k_asm) (by first | with_reducible assumption | exact rfl) (by (first | exact room_up (by with_reducible assumption) (by decide) | ktr_room)) (by (first | exact unit_up (by with_reducible assumption) (by decide) | ktr_units)) (by k_mem) (by with_reducible assumption) (by with_reducible assumption) (by first | with_reducible assumption | omega) (by omega) ?_); intro t9_z t9_z c9_z h9_z tk9_z F9_z N9_z l9_z; try dsimp only))) | ((with_reducible show wpAny _ _ (eval (PySem.Expr.Name ..) _) _ _ _); ((fail_if_success (with_reducible show wpAny _ _ (eval _ (compEnvC _ _ _ _)) _ _ _)); k_here; k_dflt (refine nameX_L (by k_asm) (by first | exact rfl | ((repeat (refine Eq.trans (if_neg (by decide)) ?_)); with_reducible assumption)) ?_; k_whole))) | ((with_reducible show wpAny _ _ (call (Value.builtin "len") _) _ _ _); k_dflt (refine len_list (items := List.toArray _) (by exact News.isList (by k_asm) (by k_mem)) (by exact len_small (by with_reducible assumption) (by with_reducible assumption)) ?_)) | ((with_reducible show wpAny _ _ (call (Value.ref ..) _) _ _ _); k_dflt (refine c_cells (by k_asm) (by k_asm) (by k_asm) (by k_asm) (by k_asm) (by first | with_reducible assumption | exact rfl) (by (first | exact room_up (by with_reducible assumption) (by decide) | ktr_room)) (by (first | exact unit_up (by with_reducible assumption) (by decide) | ktr_units)) (by with_reducible assumption) (by with_reducible assumption) (by omega) ?_; intro c9_z vc9_z nc9_z ds9_z h9_z tk9_z new9_z F9_z N9_z ap9_z m9_z i9_z l9_z; have N8_z := news_one N9_z m9_z; clear N9_z m9_z ap9_z; try dsimp only)) | ((with_reducible show wpAny _ _ (call (Value.ref ..) _) _ _ _); k_dflt (refine c_crossings (by k_asm) (by k_asm) (by k_asm) (by k_asm) (by k_asm) (by first | with_reducible assumption | exact rfl) (by (first | exact room_up (by with_reducible assumption) (by decide) | ktr_room)) (by (first | exact unit_up (by with_reducible assumption) (by decide) | ktr_units)) (by k_mem) (by with_reducible assumption) (by assumption) ?_; intro c9_z a1_z a2_z v1_z v2_z n1_z n2_z xs_z h9_z tk9_z new9_z F9_z N9_z ap9_z m9_z m1_z m2_z hx9_z hs9_z hlo9_z hhi9_z hp9_z; have N8_z := news_three N9_z m9_z m1_z m2_z; clear N9_z m9_z m1_z m2_z; simp only [List.cons_append, List.nil_append] at N8_z; try dsimp only)) | ((with_reducible show LCp.SrcLP ..); (refine stop_intro ?_)) | ((with_reducible show UnrEndW ..); refine stop_intro ?_) | ((with_reducible show LCg.CompEnd ..); first | (with_reducible ((refine comp_end1 (by k_asm) (by k_asm) (by assumption) (by assumption) (by lcg_src) ?_))) | ((refine comp_end1 (by k_asm) (by k_asm) (by assumption) (by assumption) (by lcg_src) ?_))) | walk1 | (dsimp only; walk1) | (leave1; (try dsimp only)) | fail "no step"))
              exact kq _ _ _ (by rw [range_snoc]; exact ints_snoc _ _ hys) (by assumption) (by assumption)
            case dn3 =>
              intro ys hys
              clear F18 N18
              have bw := bits_worth g5' bt20 (pred7 h8)
              rw [← hpc] at g4'
              have eu : u0 = (rowF tt (1, 0) xs).1 := congrArg Prod.fst e3
              have ev : v1' = (rowF tt (0, 1) xs).2 := congrArg Prod.snd e4
              have bp : intBits (tt ^ ((trues bs : Nat) : Int).toNat) ≤ 200 := bits_up (bits_powN bt20 _) (ix6 (hpc ▸ hpl) h8)
              have jx0 : (0 : Int) ≤ ((trues bs : Nat) : Int) := Int.natCast_nonneg _
              have jx1 : ((trues bs : Nat) : Int) ≤ 1000000 := ix5 (hpc ▸ hpl) h8
              have jx2 : (0 : Int) ≤ (xs.length : Int) - ((trues bs : Nat) : Int) := ix7 (hpc ▸ hpl)
              have jx3 : (xs.length : Int) - ((trues bs : Nat) : Int) ≤ 1000000 := ix8 h8
              have jx4 := nat64 ht1 ht2
              have bs1 := bits_sign xs.length
              (repeat' (first | (k_unfold; (try dsimp only)) | (k_end; kc_close) | ((with_reducible show wpAny _ _ (subscriptTail _ _ (Value.ref ..) (Value.int ..)) _ _ _); (k_dflt (refine sub_any (by exact News.isList (by k_asm) (by k_mem)) (by decide) (by decide) (by exact rfl) ?_))) | ((with_reducible show wpAny _ _ (exec (Stmt.For (PySem.Expr.Tuple ..) (PySem.Expr.Name ..) ..) _) _ _ _); (refine stop_intro ?_)) | ((with_reducible show wpAny _ _ (subscriptTail _ _ (Value.ref ..) (Value.int ..)) _ _ _); (k_dflt (refine sub_int (by exact News.isList (by k_asm) (by k_mem)) (by with_reducible assumption) (by first | with_reducible assumption | omega) (by first | with_reducible assumption | omega) (by first | with_reducible assumption | omega) ?_; intro _))) | ((with_reducible show wpAny _ _ (subscriptTail _ _ (Value.ref ..) (Value.int ..)) _ _ _); (k_dflt (refine sub_any (by exact News.isList (by k_asm) (by k_mem)) (by decide) (by decide) (by exact rfl) ?_))) | ((with_reducible show wpAny _ _ (subscriptTail _ _ (Value.ref ..) (Value.int ..)) _ _ _); k_dflt (refine sub_int (by exact News.isList (by k_asm) (by k_mem)) (by with_reducible assumption) (by omega) (by omega) (by omega) ?_; intro _)) | ((with_reducible show wpAny _ _ (call (Value.type "range") _) _ _ _); first | (with_reducible (((rename Fr _ _ _ _ => F_z); (rename News _ _ _ _ => N_z); (with_unfolding_all refine range1_rows F_z N_z ?_); clear F_z N_z; intro h9_z tk9_z t91_z u91_z v91_z R9_z F9_z N9_z K9_z))) | (((rename Fr _ _ _ _ => F_z); (rename News _ _ _ _ => N_z); (with_unfolding_all refine range1_rows F_z N_z ?_); clear F_z N_z; intro h9_z tk9_z t91_z u91_z v91_z R9_z F9_z N9_z K9_z))) | ((with_reducible show wpAny _ _ (compareOp CmpOp.Eq (Value.int ..) (Value.int ..)) _ _ _); (refine stop_intro ?_)) | ((with_reducible show wpAny _ _ (compareOp CmpOp.Eq (Value.bool ..) (Value.bool ..)) _ _ _); (refine stop_intro ?_)) | ((with_reducible show wpAny _ _ (compareOp CmpOp.NotEq (Value.int ..) (Value.int ..)) _ _ _); (k_dflt (refine ne_int_same (by with_reducible assumption) ?_))) | ((with_reducible show LCg.CompSrc _ _ _ _ _ _ _ (PySem.Expr.Call ..) _ _ _ _ _ _); (k_dflt (refine LCg.CompSrc.ledger (by exact rfl) (by k_asm) (by k_asm) (by k_mem) (by exact Nat.le_of_ble_eq_true rfl) ?_; intro g_z; lcg_lit))) | ((with_reducible show wpAny _ _ (compareOp CmpOp.Eq (Value.ref ..) (Value.ref ..)) _ _ _); (k_dflt (refine ke_eq_ints (by exact News.isList (by k_asm) (by k_mem)) (by exact News.isList (by k_asm) (by k_mem)) (by with_reducible assumption) (by l_ints) (by (first | exact unit_up (by with_reducible assumption) (by decide) | ktr_units)) ?_))) | ((with_reducible show wpAny _ _ (compareOp CmpOp.NotEq (Value.ref ..) (Value.ref ..)) _ _ _); (k_dflt (refine ne_same (by exact News.isList (by k_asm) (by k_mem)) (by exact News.isList (by k_asm) (by k_mem)) (by with_reducible assumption) (by with_reducible assumption) (by (first | exact unit_up (by with_reducible assumption) (by decide) | ktr_units)) ?_))) | ((with_reducible show wpAny _ _ (binaryOp Operator.Mult (Value.int ..) (Value.int ..)) _ _ _); (k_dflt (refine mul_b (by tb_start) (by tb_start) (by first | decide | omega) ?_; try dsimp only))) | ((with_reducible show wpAny _ _ (binaryOp Operator.Pow (Value.int ..) (Value.int ..)) _ _ _); (k_dflt (refine pow_int_small (by first | with_reducible assumption | omega) (by first | with_reducible assumption | omega) (by first | with_reducible assumption | decide | omega) ?_; try dsimp only))) | ((with_reducible show wpAny _ _ (callWith _ (Value.ref ..) _ _ _) _ _ _); (k_here; k_dflt (refine callWith_K (by k_asm) (by k_is) ?_; k_whole))) | ((with_reducible show LCg.CompSrc _ _ _ _ _ _ _ (PySem.Expr.BinOp ..) _ _ _ _ _ _); (refine stop_intro ?_)) | ((with_reducible show wpAny _ _ (storeName _ _ (Value.ref ..)) _ _ _); ((with_reducible show wpAny _ _ (storeName _ (Str.ofString "figures") _) _ _ _); refine stop_intro ?_)) | ((with_reducible show wpAny _ _ (storeName _ _ (Value.bool ..)) _ _ _); ((with_reducible show wpAny _ _ (storeName _ (Str.ofString "over") _) _ _ _); refine stop_intro ?_)) | ((with_reducible show wpAny _ _ (storeName _ _ (Value.int ..)) _ _ _); ((with_reducible first | show wpAny _ _ (storeName _ (Str.ofString "n") _) _ _ _ | show wpAny _ _ (storeName _ (Str.ofString "w") _) _ _ _ | show wpAny _ _ (storeName _ (Str.ofString "t") _) _ _ _ | show wpAny _ _ (storeName _ (Str.ofString "place") _) _ _ _); refine stop_intro ?_)) | ((with_reducible show wpAny _ _ (call (Value.ref ..) _) _ _ _); ((with_reducible show wpAny _ _ (call (Value.ref 241) _) _ _ _); refine stop_intro ?_)) | ((with_reducible show wpAny _ _ (call (Value.builtin "sum") _) _ _ _); (k_dflt (first | (refine sum_pick (by k_asm) (by k_asm) (by exact rfl) (by k_mem) (by with_reducible assumption) ?_; intro _ _ _ _ _; try dsimp only) | (refine LSm.sum_ints (by k_asm) (by k_asm) (by exact rfl) (by exact News.isList (by k_asm) (by k_mem)) (by with_reducible assumption) ?_; intro _ _ _ _ _; try dsimp only)))) | ((with_reducible show wpAny _ _ (call (Value.type "reversed") _) _ _ _); (refine stop_intro ?_)) | ((with_reducible show wpAny _ _ (call (Value.builtin "len") _) _ _ _); (k_dflt (refine len_list (items := List.toArray _) (by exact News.isList (by k_asm) (by k_mem)) (by with_reducible assumption) ?_))) | ((with_reducible show wpAny _ _ (call (Value.ref ..) _) _ _ _); ((with_reducible show wpAny _ _ (call (Value.ref 234) _) _ _ _); refine stop_intro ?_)) | ((with_reducible show wpAny _ _ (eval (PySem.Expr.IfExp ..) _) _ _ _); ((fail_if_success (have : MarkN 9 := by assumption)); refine stop_intro ?_)) | ((with_reducible show wpAny _ _ (call (Value.ref ..) _) _ _ _); (k_dflt ((first | refine c_add (by k_asm) (by k_asm) (by k_asm) (by k_asm) (by k_asm) (by first | with_reducible assumption | exact rfl) (by (first | exact room_up (by with_reducible assumption) (by decide) | ktr_room)) (by (first | exact unit_up (by with_reducible assumption) (by decide) | ktr_units)) ?_ | refine c_sub (by k_asm) (by k_asm) (by k_asm) (by k_asm) (by k_asm) (by first | with_reducible assumption | exact rfl) (by (first | exact room_up (by with_reducible assumption) (by decide) | ktr_room)) (by (first | exact unit_up (by with_reducible assumption) (by decide) | ktr_units)) ?_ | (refine c_lshift (by k_asm) (by k_asm) (by k_asm) (by k_asm) (by k_asm) (by first | with_reducible assumption | exact rfl) (by (first | exact room_up (by with_reducible assumption) (by decide) | ktr_room)) (by (first | exact unit_up (by with_reducible assumption) (by decide) | ktr_units)) (by with_reducible assumption) (by with_reducible assumption) (by omega) ?_)); intro t9_z h9_z tk9_z F9_z N9_z; try dsimp only))) | ((with_reducible show wpAny _ _ (call (Value.ref ..) _) _ _ _); ((with_reducible show wpAny _ _ (call (Value.ref 133) _) _ _ _); k_dflt (refine c_count (by k_asm) (by k_asm) (by k_asm) (by k_asm) (by k_asm) (by first | with_reducible assumption | exact rfl) (by (first | exact room_up (by with_reducible assumption) (by decide) | ktr_room)) (by (first | exact unit_up (by with_reducible assumption) (by decide) | ktr_units)) (by k_mem) (by with_reducible assumption) (by with_reducible assumption) ?_; intro t9_z h9_z tk9_z F9_z N9_z; try dsimp only))) | ((with_reducible show wpAny _ _ (eval (PySem.Expr.ListComp ..) _) _ _ _); (refine stop_intro ?_)) | ((with_reducible show wpAny _ _ (call (Value.ref ..) _) _ _ _); (k_dflt ((first | refine c_step (by k_asm) (by k_asm) (by k_asm) (by k_asm) (by k_asm) (by first | with_reducible assumption | exact rfl) (by (first | exact room_up (by with_reducible assumption) (by decide) | ktr_room)) (by (first | exact unit_up (by with_reducible assumption) (by decide) | ktr_units)) (by k_mem) (by with_reducible assumption) (by with_reducible assumption) (by first | with_reducible assumption | omega) (by omega) (by omega) ?_ | refine c_plain (by k_asm) (by k_asm) (by k_asm) (by k_asm) (by k_asm) (by first | with_reducible assumption | exact rfl) (by (first | exact room_up (by with_reducible assumption) (by decide) | ktr_room)) (by (first | exact unit_up (by with_reducible assumption) (by decide) | ktr_units)) (by k_mem) (by with_reducible assumption) (by with_reducible assumption) (by first | with_reducible assumption | omega) (by omega) ?_); intro t9_z t9_z c9_z h9_z tk9_z F9_z N9_z l9_z; try dsimp only))) | ((with_reducible show wpAny _ _ (eval (PySem.Expr.Name ..) _) _ _ _); ((fail_if_success (with_reducible show wpAny _ _ (eval _ (compEnvC _ _ _ _)) _ _ _)); k_here; k_dflt (refine nameX_L (by k_asm) (by first | exact rfl | ((repeat (refine Eq.trans (if_neg (by decide)) ?_)); with_reducible assumption)) ?_; k_whole))) | ((with_reducible show wpAny _ _ (call (Value.builtin "len") _) _ _ _); k_dflt (refine len_list (items := List.toArray _) (by exact News.isList (by k_asm) (by k_mem)) (by exact len_small (by with_reducible assumption) (by with_reducible assumption)) ?_)) | ((with_reducible show wpAny _ _ (call (Value.ref ..) _) _ _ _); k_dflt (refine c_cells (by k_asm) (by k_asm) (by k_asm) (by k_asm) (by k_asm) (by first | with_reducible assumption | exact rfl) (by (first | exact room_up (by with_reducible assumption) (by decide) | ktr_room)) (by (first | exact unit_up (by with_reducible assumption) (by decide) | ktr_units)) (by with_reducible assumption) (by with_reducible assumption) (by omega) ?_; intro c9_z vc9_z nc9_z ds9_z h9_z tk9_z new9_z F9_z N9_z ap9_z m9_z i9_z l9_z; have N8_z := news_one N9_z m9_z; clear N9_z m9_z ap9_z; try dsimp only)) | ((with_reducible show wpAny _ _ (call (Value.ref ..) _) _ _ _); k_dflt (refine c_crossings (by k_asm) (by k_asm) (by k_asm) (by k_asm) (by k_asm) (by first | with_reducible assumption | exact rfl) (by (first | exact room_up (by with_reducible assumption) (by decide) | ktr_room)) (by (first | exact unit_up (by with_reducible assumption) (by decide) | ktr_units)) (by k_mem) (by with_reducible assumption) (by assumption) ?_; intro c9_z a1_z a2_z v1_z v2_z n1_z n2_z xs_z h9_z tk9_z new9_z F9_z N9_z ap9_z m9_z m1_z m2_z hx9_z hs9_z hlo9_z hhi9_z hp9_z; have N8_z := news_three N9_z m9_z m1_z m2_z; clear N9_z m9_z m1_z m2_z; simp only [List.cons_append, List.nil_append] at N8_z; try dsimp only)) | ((with_reducible show LCp.SrcLP ..); (refine stop_intro ?_)) | ((with_reducible show UnrEndW ..); refine stop_intro ?_) | ((with_reducible show LCg.CompEnd ..); first | (with_reducible ((refine comp_end1 (by k_asm) (by k_asm) (by assumption) (by assumption) (by lcg_src) ?_))) | ((refine comp_end1 (by k_asm) (by k_asm) (by assumption) (by assumption) (by lcg_src) ?_))) | walk1 | (dsimp only; walk1) | (leave1; (try dsimp only)) | fail "no step"))
              refine Stop.mk (eq_int_same (law_end (hpc ▸ hpl) g4' eu ev) ?_)
              (repeat' (first | (k_unfold; (try dsimp only)) | (k_end; kc_close) | ((with_reducible show wpAny _ _ (subscriptTail _ _ (Value.ref ..) (Value.int ..)) _ _ _); (k_dflt (refine sub_any (by exact News.isList (by k_asm) (by k_mem)) (by decide) (by decide) (by exact rfl) ?_))) | ((with_reducible show wpAny _ _ (exec (Stmt.For (PySem.Expr.Tuple ..) (PySem.Expr.Name ..) ..) _) _ _ _); (refine stop_intro ?_)) | ((with_reducible show wpAny _ _ (subscriptTail _ _ (Value.ref ..) (Value.int ..)) _ _ _); (k_dflt (refine sub_int (by exact News.isList (by k_asm) (by k_mem)) (by with_reducible assumption) (by first | with_reducible assumption | omega) (by first | with_reducible assumption | omega) (by first | with_reducible assumption | omega) ?_; intro _))) | ((with_reducible show wpAny _ _ (subscriptTail _ _ (Value.ref ..) (Value.int ..)) _ _ _); (k_dflt (refine sub_any (by exact News.isList (by k_asm) (by k_mem)) (by decide) (by decide) (by exact rfl) ?_))) | ((with_reducible show wpAny _ _ (subscriptTail _ _ (Value.ref ..) (Value.int ..)) _ _ _); k_dflt (refine sub_int (by exact News.isList (by k_asm) (by k_mem)) (by with_reducible assumption) (by omega) (by omega) (by omega) ?_; intro _)) | ((with_reducible show wpAny _ _ (call (Value.type "range") _) _ _ _); first | (with_reducible (((rename Fr _ _ _ _ => F_z); (rename News _ _ _ _ => N_z); (with_unfolding_all refine range1_rows F_z N_z ?_); clear F_z N_z; intro h9_z tk9_z t91_z u91_z v91_z R9_z F9_z N9_z K9_z))) | (((rename Fr _ _ _ _ => F_z); (rename News _ _ _ _ => N_z); (with_unfolding_all refine range1_rows F_z N_z ?_); clear F_z N_z; intro h9_z tk9_z t91_z u91_z v91_z R9_z F9_z N9_z K9_z))) | ((with_reducible show wpAny _ _ (compareOp CmpOp.Eq (Value.int ..) (Value.int ..)) _ _ _); (refine stop_intro ?_)) | ((with_reducible show wpAny _ _ (compareOp CmpOp.Eq (Value.bool ..) (Value.bool ..)) _ _ _); (refine stop_intro ?_)) | ((with_reducible show wpAny _ _ (compareOp CmpOp.NotEq (Value.int ..) (Value.int ..)) _ _ _); (k_dflt (refine ne_int_same (by with_reducible assumption) ?_))) | ((with_reducible show LCg.CompSrc _ _ _ _ _ _ _ (PySem.Expr.Call ..) _ _ _ _ _ _); (k_dflt (refine LCg.CompSrc.ledger (by exact rfl) (by k_asm) (by k_asm) (by k_mem) (by exact Nat.le_of_ble_eq_true rfl) ?_; intro g_z; lcg_lit))) | ((with_reducible show wpAny _ _ (compareOp CmpOp.Eq (Value.ref ..) (Value.ref ..)) _ _ _); (k_dflt (refine ke_eq_ints (by exact News.isList (by k_asm) (by k_mem)) (by exact News.isList (by k_asm) (by k_mem)) (by with_reducible assumption) (by l_ints) (by (first | exact unit_up (by with_reducible assumption) (by decide) | ktr_units)) ?_))) | ((with_reducible show wpAny _ _ (compareOp CmpOp.NotEq (Value.ref ..) (Value.ref ..)) _ _ _); (k_dflt (refine ne_same (by exact News.isList (by k_asm) (by k_mem)) (by exact News.isList (by k_asm) (by k_mem)) (by with_reducible assumption) (by with_reducible assumption) (by (first | exact unit_up (by with_reducible assumption) (by decide) | ktr_units)) ?_))) | ((with_reducible show wpAny _ _ (binaryOp Operator.Mult (Value.int ..) (Value.int ..)) _ _ _); (k_dflt (refine mul_b (by tb_start) (by tb_start) (by first | decide | omega) ?_; try dsimp only))) | ((with_reducible show wpAny _ _ (binaryOp Operator.Pow (Value.int ..) (Value.int ..)) _ _ _); (k_dflt (refine pow_int_small (by first | with_reducible assumption | omega) (by first | with_reducible assumption | omega) (by first | with_reducible assumption | decide | omega) ?_; try dsimp only))) | ((with_reducible show wpAny _ _ (callWith _ (Value.ref ..) _ _ _) _ _ _); (k_here; k_dflt (refine callWith_K (by k_asm) (by k_is) ?_; k_whole))) | ((with_reducible show LCg.CompSrc _ _ _ _ _ _ _ (PySem.Expr.BinOp ..) _ _ _ _ _ _); (refine stop_intro ?_)) | ((with_reducible show wpAny _ _ (storeName _ _ (Value.ref ..)) _ _ _); ((with_reducible show wpAny _ _ (storeName _ (Str.ofString "figures") _) _ _ _); refine stop_intro ?_)) | ((with_reducible show wpAny _ _ (storeName _ _ (Value.bool ..)) _ _ _); ((with_reducible show wpAny _ _ (storeName _ (Str.ofString "over") _) _ _ _); refine stop_intro ?_)) | ((with_reducible show wpAny _ _ (storeName _ _ (Value.int ..)) _ _ _); ((with_reducible first | show wpAny _ _ (storeName _ (Str.ofString "n") _) _ _ _ | show wpAny _ _ (storeName _ (Str.ofString "w") _) _ _ _ | show wpAny _ _ (storeName _ (Str.ofString "t") _) _ _ _ | show wpAny _ _ (storeName _ (Str.ofString "place") _) _ _ _); refine stop_intro ?_)) | ((with_reducible show wpAny _ _ (call (Value.ref ..) _) _ _ _); ((with_reducible show wpAny _ _ (call (Value.ref 241) _) _ _ _); refine stop_intro ?_)) | ((with_reducible show wpAny _ _ (call (Value.builtin "sum") _) _ _ _); (k_dflt (first | (refine sum_pick (by k_asm) (by k_asm) (by exact rfl) (by k_mem) (by with_reducible assumption) ?_; intro _ _ _ _ _; try dsimp only) | (refine LSm.sum_ints (by k_asm) (by k_asm) (by exact rfl) (by exact News.isList (by k_asm) (by k_mem)) (by with_reducible assumption) ?_; intro _ _ _ _ _; try dsimp only)))) | ((with_reducible show wpAny _ _ (call (Value.type "reversed") _) _ _ _); (refine stop_intro ?_)) | ((with_reducible show wpAny _ _ (call (Value.builtin "len") _) _ _ _); (k_dflt (refine len_list (items := List.toArray _) (by exact News.isList (by k_asm) (by k_mem)) (by with_reducible assumption) ?_))) | ((with_reducible show wpAny _ _ (call (Value.ref ..) _) _ _ _); ((with_reducible show wpAny _ _ (call (Value.ref 234) _) _ _ _); refine stop_intro ?_)) | ((with_reducible show wpAny _ _ (eval (PySem.Expr.IfExp ..) _) _ _ _); ((fail_if_success (have : MarkN 9 := by assumption)); refine stop_intro ?_)) | ((with_reducible show wpAny _ _ (call (Value.ref ..) _) _ _ _); (k_dflt ((first | refine c_add (by k_asm) (by k_asm) (by k_asm) (by k_asm) (by k_asm) (by first | with_reducible assumption | exact rfl) (by (first | exact room_up (by with_reducible assumption) (by decide) | ktr_room)) (by (first | exact unit_up (by with_reducible assumption) (by decide) | ktr_units)) ?_ | refine c_sub (by k_asm) (by k_asm) (by k_asm) (by k_asm) (by k_asm) (by first | with_reducible assumption | exact rfl) (by (first | exact room_up (by with_reducible assumption) (by decide) | ktr_room)) (by (first | exact unit_up (by with_reducible assumption) (by decide) | ktr_units)) ?_ | (refine c_lshift (by k_asm) (by k_asm) (by k_asm) (by k_asm) (by k_asm) (by first | with_reducible assumption | exact rfl) (by (first | exact room_up (by with_reducible assumption) (by decide) | ktr_room)) (by (first | exact unit_up (by with_reducible assumption) (by decide) | ktr_units)) (by with_reducible assumption) (by with_reducible assumption) (by omega) ?_)); intro t9_z h9_z tk9_z F9_z N9_z; try dsimp only))) | ((with_reducible show wpAny _ _ (call (Value.ref ..) _) _ _ _); ((with_reducible show wpAny _ _ (call (Value.ref 133) _) _ _ _); k_dflt (refine c_count (by k_asm) (by k_asm) (by k_asm) (by k_asm) (by k_asm) (by first | with_reducible assumption | exact rfl) (by (first | exact room_up (by with_reducible assumption) (by decide) | ktr_room)) (by (first | exact unit_up (by with_reducible assumption) (by decide) | ktr_units)) (by k_mem) (by with_reducible assumption) (by with_reducible assumption) ?_; intro t9_z h9_z tk9_z F9_z N9_z; try dsimp only))) | ((with_reducible show wpAny _ _ (eval (PySem.Expr.ListComp ..) _) _ _ _); (refine stop_intro ?_)) | ((with_reducible show wpAny _ _ (call (Value.ref ..) _) _ _ _); (k_dflt ((first | refine c_step (by k_asm) (by k_asm) (by k_asm) (by k_asm) (by k_asm) (by first | with_reducible assumption | exact rfl) (by (first | exact room_up (by with_reducible assumption) (by decide) | ktr_room)) (by (first | exact unit_up (by with_reducible assumption) (by decide) | ktr_units)) (by k_mem) (by with_reducible assumption) (by with_reducible assumption) (by first | with_reducible assumption | omega) (by omega) (by omega) ?_ | refine c_plain (by k_asm) (by k_asm) (by k_asm) (by k_asm) (by k_asm) (by first | with_reducible assumption | exact rfl) (by (first | exact room_up (by with_reducible assumption) (by decide) | ktr_room)) (by (first | exact unit_up (by with_reducible assumption) (by decide) | ktr_units)) (by k_mem) (by with_reducible assumption) (by with_reducible assumption) (by first | with_reducible assumption | omega) (by omega) ?_); intro t9_z t9_z c9_z h9_z tk9_z F9_z N9_z l9_z; try dsimp only))) | ((with_reducible show wpAny _ _ (eval (PySem.Expr.Name ..) _) _ _ _); ((fail_if_success (with_reducible show wpAny _ _ (eval _ (compEnvC _ _ _ _)) _ _ _)); k_here; k_dflt (refine nameX_L (by k_asm) (by first | exact rfl | ((repeat (refine Eq.trans (if_neg (by decide)) ?_)); with_reducible assumption)) ?_; k_whole))) | ((with_reducible show wpAny _ _ (call (Value.builtin "len") _) _ _ _); k_dflt (refine len_list (items := List.toArray _) (by exact News.isList (by k_asm) (by k_mem)) (by exact len_small (by with_reducible assumption) (by with_reducible assumption)) ?_)) | ((with_reducible show wpAny _ _ (call (Value.ref ..) _) _ _ _); k_dflt (refine c_cells (by k_asm) (by k_asm) (by k_asm) (by k_asm) (by k_asm) (by first | with_reducible assumption | exact rfl) (by (first | exact room_up (by with_reducible assumption) (by decide) | ktr_room)) (by (first | exact unit_up (by with_reducible assumption) (by decide) | ktr_units)) (by with_reducible assumption) (by with_reducible assumption) (by omega) ?_; intro c9_z vc9_z nc9_z ds9_z h9_z tk9_z new9_z F9_z N9_z ap9_z m9_z i9_z l9_z; have N8_z := news_one N9_z m9_z; clear N9_z m9_z ap9_z; try dsimp only)) | ((with_reducible show wpAny _ _ (call (Value.ref ..) _) _ _ _); k_dflt (refine c_crossings (by k_asm) (by k_asm) (by k_asm) (by k_asm) (by k_asm) (by first | with_reducible assumption | exact rfl) (by (first | exact room_up (by with_reducible assumption) (by decide) | ktr_room)) (by (first | exact unit_up (by with_reducible assumption) (by decide) | ktr_units)) (by k_mem) (by with_reducible assumption) (by assumption) ?_; intro c9_z a1_z a2_z v1_z v2_z n1_z n2_z xs_z h9_z tk9_z new9_z F9_z N9_z ap9_z m9_z m1_z m2_z hx9_z hs9_z hlo9_z hhi9_z hp9_z; have N8_z := news_three N9_z m9_z m1_z m2_z; clear N9_z m9_z m1_z m2_z; simp only [List.cons_append, List.nil_append] at N8_z; try dsimp only)) | ((with_reducible show LCp.SrcLP ..); (refine stop_intro ?_)) | ((with_reducible show UnrEndW ..); refine stop_intro ?_) | ((with_reducible show LCg.CompEnd ..); first | (with_reducible ((refine comp_end1 (by k_asm) (by k_asm) (by assumption) (by assumption) (by lcg_src) ?_))) | ((refine comp_end1 (by k_asm) (by k_asm) (by assumption) (by assumption) (by lcg_src) ?_))) | walk1 | (dsimp only; walk1) | (leave1; (try dsimp only)) | fail "no step"))
              refine hQ9 _ _ ?_
              try dsimp only
              (repeat' (first | (k_unfold; (try dsimp only)) | (k_end; kc_close) | ((with_reducible show wpAny _ _ (subscriptTail _ _ (Value.ref ..) (Value.int ..)) _ _ _); (k_dflt (refine sub_any (by exact News.isList (by k_asm) (by k_mem)) (by decide) (by decide) (by exact rfl) ?_))) | ((with_reducible show wpAny _ _ (exec (Stmt.For (PySem.Expr.Tuple ..) (PySem.Expr.Name ..) ..) _) _ _ _); (refine stop_intro ?_)) | ((with_reducible show wpAny _ _ (subscriptTail _ _ (Value.ref ..) (Value.int ..)) _ _ _); (k_dflt (refine sub_int (by exact News.isList (by k_asm) (by k_mem)) (by with_reducible assumption) (by first | with_reducible assumption | omega) (by first | with_reducible assumption | omega) (by first | with_reducible assumption | omega) ?_; intro _))) | ((with_reducible show wpAny _ _ (subscriptTail _ _ (Value.ref ..) (Value.int ..)) _ _ _); (k_dflt (refine sub_any (by exact News.isList (by k_asm) (by k_mem)) (by decide) (by decide) (by exact rfl) ?_))) | ((with_reducible show wpAny _ _ (subscriptTail _ _ (Value.ref ..) (Value.int ..)) _ _ _); k_dflt (refine sub_int (by exact News.isList (by k_asm) (by k_mem)) (by with_reducible assumption) (by omega) (by omega) (by omega) ?_; intro _)) | ((with_reducible show wpAny _ _ (call (Value.type "range") _) _ _ _); first | (with_reducible (((rename Fr _ _ _ _ => F_z); (rename News _ _ _ _ => N_z); (with_unfolding_all refine range1_rows F_z N_z ?_); clear F_z N_z; intro h9_z tk9_z t91_z u91_z v91_z R9_z F9_z N9_z K9_z))) | (((rename Fr _ _ _ _ => F_z); (rename News _ _ _ _ => N_z); (with_unfolding_all refine range1_rows F_z N_z ?_); clear F_z N_z; intro h9_z tk9_z t91_z u91_z v91_z R9_z F9_z N9_z K9_z))) | ((with_reducible show wpAny _ _ (compareOp CmpOp.Eq (Value.int ..) (Value.int ..)) _ _ _); (refine stop_intro ?_)) | ((with_reducible show wpAny _ _ (compareOp CmpOp.Eq (Value.bool ..) (Value.bool ..)) _ _ _); (refine stop_intro ?_)) | ((with_reducible show wpAny _ _ (compareOp CmpOp.NotEq (Value.int ..) (Value.int ..)) _ _ _); (k_dflt (refine ne_int_same (by with_reducible assumption) ?_))) | ((with_reducible show LCg.CompSrc _ _ _ _ _ _ _ (PySem.Expr.Call ..) _ _ _ _ _ _); (k_dflt (refine LCg.CompSrc.ledger (by exact rfl) (by k_asm) (by k_asm) (by k_mem) (by exact Nat.le_of_ble_eq_true rfl) ?_; intro g_z; lcg_lit))) | ((with_reducible show wpAny _ _ (compareOp CmpOp.Eq (Value.ref ..) (Value.ref ..)) _ _ _); (k_dflt (refine ke_eq_ints (by exact News.isList (by k_asm) (by k_mem)) (by exact News.isList (by k_asm) (by k_mem)) (by with_reducible assumption) (by l_ints) (by (first | exact unit_up (by with_reducible assumption) (by decide) | ktr_units)) ?_))) | ((with_reducible show wpAny _ _ (compareOp CmpOp.NotEq (Value.ref ..) (Value.ref ..)) _ _ _); (k_dflt (refine ne_same (by exact News.isList (by k_asm) (by k_mem)) (by exact News.isList (by k_asm) (by k_mem)) (by with_reducible assumption) (by with_reducible assumption) (by (first | exact unit_up (by with_reducible assumption) (by decide) | ktr_units)) ?_))) | ((with_reducible show wpAny _ _ (binaryOp Operator.Mult (Value.int ..) (Value.int ..)) _ _ _); (k_dflt (refine mul_b (by tb_start) (by tb_start) (by first | decide | omega) ?_; try dsimp only))) | ((with_reducible show wpAny _ _ (binaryOp Operator.Pow (Value.int ..) (Value.int ..)) _ _ _); (k_dflt (refine pow_int_small (by first | with_reducible assumption | omega) (by first | with_reducible assumption | omega) (by first | with_reducible assumption | decide | omega) ?_; try dsimp only))) | ((with_reducible show wpAny _ _ (callWith _ (Value.ref ..) _ _ _) _ _ _); (k_here; k_dflt (refine callWith_K (by k_asm) (by k_is) ?_; k_whole))) | ((with_reducible show LCg.CompSrc _ _ _ _ _ _ _ (PySem.Expr.BinOp ..) _ _ _ _ _ _); (refine stop_intro ?_)) | ((with_reducible show wpAny _ _ (storeName _ _ (Value.ref ..)) _ _ _); ((with_reducible show wpAny _ _ (storeName _ (Str.ofString "figures") _) _ _ _); refine stop_intro ?_)) | ((with_reducible show wpAny _ _ (storeName _ _ (Value.bool ..)) _ _ _); ((with_reducible show wpAny _ _ (storeName _ (Str.ofString "over") _) _ _ _); refine stop_intro ?_)) | ((with_reducible show wpAny _ _ (storeName _ _ (Value.int ..)) _ _ _); ((with_reducible first | show wpAny _ _ (storeName _ (Str.ofString "n") _) _ _ _ | show wpAny _ _ (storeName _ (Str.ofString "w") _) _ _ _ | show wpAny _ _ (storeName _ (Str.ofString "t") _) _ _ _ | show wpAny _ _ (storeName _ (Str.ofString "place") _) _ _ _); refine stop_intro ?_)) | ((with_reducible show wpAny _ _ (call (Value.ref ..) _) _ _ _); ((with_reducible show wpAny _ _ (call (Value.ref 241) _) _ _ _); refine stop_intro ?_)) | ((with_reducible show wpAny _ _ (call (Value.builtin "sum") _) _ _ _); (k_dflt (first | (refine sum_pick (by k_asm) (by k_asm) (by exact rfl) (by k_mem) (by with_reducible assumption) ?_; intro _ _ _ _ _; try dsimp only) | (refine LSm.sum_ints (by k_asm) (by k_asm) (by exact rfl) (by exact News.isList (by k_asm) (by k_mem)) (by with_reducible assumption) ?_; intro _ _ _ _ _; try dsimp only)))) | ((with_reducible show wpAny _ _ (call (Value.type "reversed") _) _ _ _); (refine stop_intro ?_)) | ((with_reducible show wpAny _ _ (call (Value.builtin "len") _) _ _ _); (k_dflt (refine len_list (items := List.toArray _) (by exact News.isList (by k_asm) (by k_mem)) (by with_reducible assumption) ?_))) | ((with_reducible show wpAny _ _ (call (Value.ref ..) _) _ _ _); ((with_reducible show wpAny _ _ (call (Value.ref 234) _) _ _ _); refine stop_intro ?_)) | ((with_reducible show wpAny _ _ (eval (PySem.Expr.IfExp ..) _) _ _ _); ((fail_if_success (have : MarkN 9 := by assumption)); refine stop_intro ?_)) | ((with_reducible show wpAny _ _ (call (Value.ref ..) _) _ _ _); (k_dflt ((first | refine c_add (by k_asm) (by k_asm) (by k_asm) (by k_asm) (by k_asm) (by first | with_reducible assumption | exact rfl) (by (first | exact room_up (by with_reducible assumption) (by decide) | ktr_room)) (by (first | exact unit_up (by with_reducible assumption) (by decide) | ktr_units)) ?_ | refine c_sub (by k_asm) (by k_asm) (by k_asm) (by k_asm) (by k_asm) (by first | with_reducible assumption | exact rfl) (by (first | exact room_up (by with_reducible assumption) (by decide) | ktr_room)) (by (first | exact unit_up (by with_reducible assumption) (by decide) | ktr_units)) ?_ | (refine c_lshift (by k_asm) (by k_asm) (by k_asm) (by k_asm) (by k_asm) (by first | with_reducible assumption | exact rfl) (by (first | exact room_up (by with_reducible assumption) (by decide) | ktr_room)) (by (first | exact unit_up (by with_reducible assumption) (by decide) | ktr_units)) (by with_reducible assumption) (by with_reducible assumption) (by omega) ?_)); intro t9_z h9_z tk9_z F9_z N9_z; try dsimp only))) | ((with_reducible show wpAny _ _ (call (Value.ref ..) _) _ _ _); ((with_reducible show wpAny _ _ (call (Value.ref 133) _) _ _ _); k_dflt (refine c_count (by k_asm) (by k_asm) (by k_asm) (by k_asm) (by k_asm) (by first | with_reducible assumption | exact rfl) (by (first | exact room_up (by with_reducible assumption) (by decide) | ktr_room)) (by (first | exact unit_up (by with_reducible assumption) (by decide) | ktr_units)) (by k_mem) (by with_reducible assumption) (by with_reducible assumption) ?_; intro t9_z h9_z tk9_z F9_z N9_z; try dsimp only))) | ((with_reducible show wpAny _ _ (eval (PySem.Expr.ListComp ..) _) _ _ _); (refine stop_intro ?_)) | ((with_reducible show wpAny _ _ (call (Value.ref ..) _) _ _ _); (k_dflt ((first | refine c_step (by k_asm) (by k_asm) (by k_asm) (by k_asm) (by k_asm) (by first | with_reducible assumption | exact rfl) (by (first | exact room_up (by with_reducible assumption) (by decide) | ktr_room)) (by (first | exact unit_up (by with_reducible assumption) (by decide) | ktr_units)) (by k_mem) (by with_reducible assumption) (by with_reducible assumption) (by first | with_reducible assumption | omega) (by omega) (by omega) ?_ | refine c_plain (by k_asm) (by k_asm) (by k_asm) (by k_asm) (by k_asm) (by first | with_reducible assumption | exact rfl) (by (first | exact room_up (by with_reducible assumption) (by decide) | ktr_room)) (by (first | exact unit_up (by with_reducible assumption) (by decide) | ktr_units)) (by k_mem) (by with_reducible assumption) (by with_reducible assumption) (by first | with_reducible assumption | omega) (by omega) ?_); intro t9_z t9_z c9_z h9_z tk9_z F9_z N9_z l9_z; try dsimp only))) | ((with_reducible show wpAny _ _ (eval (PySem.Expr.Name ..) _) _ _ _); ((fail_if_success (with_reducible show wpAny _ _ (eval _ (compEnvC _ _ _ _)) _ _ _)); k_here; k_dflt (refine nameX_L (by k_asm) (by first | exact rfl | ((repeat (refine Eq.trans (if_neg (by decide)) ?_)); with_reducible assumption)) ?_; k_whole))) | ((with_reducible show wpAny _ _ (call (Value.builtin "len") _) _ _ _); k_dflt (refine len_list (items := List.toArray _) (by exact News.isList (by k_asm) (by k_mem)) (by exact len_small (by with_reducible assumption) (by with_reducible assumption)) ?_)) | ((with_reducible show wpAny _ _ (call (Value.ref ..) _) _ _ _); k_dflt (refine c_cells (by k_asm) (by k_asm) (by k_asm) (by k_asm) (by k_asm) (by first | with_reducible assumption | exact rfl) (by (first | exact room_up (by with_reducible assumption) (by decide) | ktr_room)) (by (first | exact unit_up (by with_reducible assumption) (by decide) | ktr_units)) (by with_reducible assumption) (by with_reducible assumption) (by omega) ?_; intro c9_z vc9_z nc9_z ds9_z h9_z tk9_z new9_z F9_z N9_z ap9_z m9_z i9_z l9_z; have N8_z := news_one N9_z m9_z; clear N9_z m9_z ap9_z; try dsimp only)) | ((with_reducible show wpAny _ _ (call (Value.ref ..) _) _ _ _); k_dflt (refine c_crossings (by k_asm) (by k_asm) (by k_asm) (by k_asm) (by k_asm) (by first | with_reducible assumption | exact rfl) (by (first | exact room_up (by with_reducible assumption) (by decide) | ktr_room)) (by (first | exact unit_up (by with_reducible assumption) (by decide) | ktr_units)) (by k_mem) (by with_reducible assumption) (by assumption) ?_; intro c9_z a1_z a2_z v1_z v2_z n1_z n2_z xs_z h9_z tk9_z new9_z F9_z N9_z ap9_z m9_z m1_z m2_z hx9_z hs9_z hlo9_z hhi9_z hp9_z; have N8_z := news_three N9_z m9_z m1_z m2_z; clear N9_z m9_z m1_z m2_z; simp only [List.cons_append, List.nil_append] at N8_z; try dsimp only)) | ((with_reducible show LCp.SrcLP ..); (refine stop_intro ?_)) | ((with_reducible show UnrEndW ..); refine stop_intro ?_) | ((with_reducible show LCg.CompEnd ..); first | (with_reducible ((refine comp_end1 (by k_asm) (by k_asm) (by assumption) (by assumption) (by lcg_src) ?_))) | ((refine comp_end1 (by k_asm) (by k_asm) (by assumption) (by assumption) (by lcg_src) ?_))) | walk1 | (dsimp only; walk1) | (leave1; (try dsimp only)) | fail "no step"))
  )
end Mine
theorem PySem.Challenge.cw_xj0029_01_holds : PySem.Challenge.rw_xj0029_01.Holds := by
  exact Mine.top
