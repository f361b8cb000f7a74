import PyProof.Rows.All
import Wide.All
import OpenK.AllK
import Wide.FinOn
import Lean
import PySem.Challenge.RW_kl0477_01
set_option Elab.async false
set_option compiler.extract_closed false
namespace Mine
local macro_rules | `(tactic| omega) => `(tactic| lia)
local macro_rules | `(tactic| walk_at $s:str) => `(tactic| k_extra $(Lean.Syntax.mkStrLit ("me " ++ s.getString)))
local macro_rules | `(tactic| k_all) => `(tactic| assumption)
section
open PySem PySem.W PyProof.Rows
set_option maxRecDepth 100000
set_option maxHeartbeats 8000000
/-- the program -/
abbrev PW : Program := PySem.Challenge.pw_kl0477_01
/-- the statements that the head's view keeps -/
def view : Program := PySem.W.view PW [0,2,3,4,5,6,7,12,13,14,15,16,17,18,20,21,22,23,24,25,26,27]
def loose : List PySem.Str := [Str.ofString "_tuplegetter", Str.ofString "_ExceptionTableEntryBase", Str.ofString "_format_final_exc_line", Str.ofString "_safe_string"]
/-- the state behind the boot -/
noncomputable abbrev booted (w : World) (os : OsState) : Shared := ⟨boot_heap w.params, Array.mk [], boot_drawn, boot_toks, os⟩
/-- the head's premise by twins of the walker, its table, the text and the looks (each the same function, quicker for the kernel) -/
theorem left_boot {p p' q : Program} {loose : List PySem.Str} {Xt : Shared → Bool} {α : Type} {Yf : Shared → α} {Ya : World → α} {N : Nat} {tb} {R} {O}
    (hp : p = p') (ht : treeTable = tb) (hR : @topRun = R) (hO : @openSeen = O)
    (e : opening p = plainProg p.main.scope.names) (hN : Nat.ble 600 N = true) (f : ∀ s, fenceModules? p s = some s)
    (h : ∀ (w : World) (os : OsState), (match (booted w os).heap.isNs mainGlobals && (booted w os).gens.size == 0 with
      | true => (R tb p' w (booted w os).heap.objs.size ((booted w os).heap.nsMap mainGlobals "__annotations__") N (booted w os) (topStub p')).bind fun s₁ => match staticsOk (importedModules p'.main.body) (booted w os).heap s₁.heap && namesBound p' s₁.heap && gensDone s₁ && laidKept (booted w os).heap s₁.heap with
        | true => some s₁
        | false => none
      | false => none).map (fun s => (O q loose (importedModules p'.main.body) Xt true s, Yf s)) = some (openGood q loose, Ya w)) :
    LeftO p q loose Xt Yf Ya N := fun w => by
  subst hp ht hR hO
  obtain ⟨s, hs, hv⟩ := Option.map_eq_some_iff.mp (boot_open e hN f w)
  obtain ⟨h1, g1, d1, k1, os⟩ := s
  simp only [Prod.mk.injEq] at hv
  obtain ⟨rfl, rfl, rfl, rfl⟩ := hv
  unfold openEnds
  rw [hs]
  exact h w os
theorem said_ok : OpenLaw.wellSaid PySem.Challenge.rw_kl0477_01 = true := (congrFun PySem.W.Fast.te9446332074065402090 PySem.Challenge.rw_kl0477_01).trans (by kernel_rfl)
local macro_rules | `(tactic| o_law) => `(tactic| (refine holds_law said_ok fun said => ?_))
local macro_rules | `(tactic| o_head $H) => `(tactic| (refine holds_open (q := Mine.view) (loose := Mine.loose) (Xt := fun s => xlAt Mine.view [] s && recOk (RowW.records PySem.Challenge.rw_kl0477_01.row.toRowW) s) (XP := XL Mine.view []) (Yf := Hook.obs $H) (Ya := Hook.val $H) (YP := Hook.says $H) (N := 5674) ?hl (Hook.of $H) (Hook.keeps $H) (fun s e => xl_of s (Bool.and_eq_true_iff.mp e).1) XL.keeps (by rfl) (by rfl) (by rfl) (fun s e => recFacts_of (Bool.and_eq_true_iff.mp e).2) (by rfl) (by first | assumption | decide +kernel) (by decide +kernel) ⟨rfl, rfl, rfl, rfl, rfl, by decide +kernel⟩ ?hw ?hc; (case hl => exact left_boot rfl PySem.W.Fast.te14364793385576792824 PySem.W.Fast.te14082659384304107361 PySem.W.Fast.te4187177175401517315 (by kernel_rfl) (by decide +kernel) (fun _ => by kernel_rfl) (fun w os => by kernel_rfl))))
open_top hd for PySem.Challenge.rw_kl0477_01
end
section
open PySem PySem.W PyProof.Rows
theorem and63 (b : Int) : Builtin.bitAnd b 63 = b % 64 := bitAnd_m6 b
theorem and64 {b : Int} (h0 : 0 ≤ b) (h1 : b < 256) : Builtin.bitAnd b 64 = b / 64 % 2 * 64 := by
  obtain ⟨n, rfl⟩ := Int.eq_ofNat_of_zero_le h0
  have h : ∀ k : Fin 256, Builtin.bitAnd (k.val : Int) 64 = (k.val : Int) / 64 % 2 * 64 := by decide +kernel
  exact h ⟨n, by omega⟩
theorem bitOr_nat (a b : Nat) : Builtin.bitOr (a : Int) (b : Int) = ((a ||| b : Nat) : Int) := by
  unfold Builtin.bitOr Builtin.bitAnd Builtin.bitNot
  have h1 : decide ((0 : Int) ≤ -(a : Int) - 1) = false := decide_eq_false (by omega)
  have h2 : decide ((0 : Int) ≤ -(b : Int) - 1) = false := decide_eq_false (by omega)
  rw [h1, h2]
  have e1 : (-(-(a : Int) - 1) - 1).toNat = a := by omega
  have e2 : (-(-(b : Int) - 1) - 1).toNat = b := by omega
  simp only [e1, e2]
  omega
theorem or63 {v d : Int} (h0 : 0 ≤ v) (h1 : 0 ≤ d) (h2 : d < 64) : Builtin.bitOr (v * 64) d = v * 64 + d := by
  obtain ⟨n, rfl⟩ := Int.eq_ofNat_of_zero_le h0
  obtain ⟨k, rfl⟩ := Int.eq_ofNat_of_zero_le h1
  have hx : ((n : Int) * 64) = ((n * 64 : Nat) : Int) := by omega
  rw [hx, bitOr_nat]
  have := Nat.shiftLeft_add_eq_or_of_lt (i := 6) (b := k) (by omega) n
  rw [Nat.shiftLeft_eq] at this
  have e : n * 64 ||| k = n * 64 + k := this.symm
  rw [e]; omega
inductive VarTo (xs : List Int) : Int → Int → Nat → Int → Nat → Prop
  | stop {b v : Int} {i : Nat} : b / 64 % 2 = 0 → VarTo xs b v i v i
  | step {b b' v v' : Int} {i j : Nat} : b / 64 % 2 = 1 → xs[i]? = some b' → 0 ≤ b' → b' < 256 → VarTo xs b' (v * 64 + b' % 64) (i + 1) v' j → VarTo xs b v i v' j
theorem VarTo.le {xs : List Int} {b v v' : Int} {i j : Nat} (h : VarTo xs b v i v' j) (h0 : 0 ≤ v) : v ≤ v' := by
  induction h with
  | stop _ => exact Int.le_refl _
  | step _ _ _ _ _ ih => have := ih (by omega); omega
theorem VarTo.lt {xs : List Int} {b v v' : Int} {i j : Nat} (h : VarTo xs b v i v' j) (h1 : b / 64 % 2 = 1) : i < xs.length := by
  cases h with
  | stop h => omega
  | step _ h _ _ _ => exact (List.getElem?_eq_some_iff.mp h).1
theorem IntsAre.at {vs : List Value} {ns : List Int} (h : IntsAre vs ns) : ∀ {i : Nat} {n : Int}, ns[i]? = some n → ∃ t, vs[i]? = some (.int n t) := by
  induction h with
  | nil => intro i n e; simp at e
  | cons k t _ ih =>
    intro i n e
    cases i with
    | zero => simp at e; subst e; exact ⟨t, rfl⟩
    | succ i => exact ih (by simpa using e)
inductive VarsAt (xs : List Int) : Nat → List Int → Prop
  | nil {i : Nat} : xs[i]? = none → VarsAt xs i []
  | cons {i j : Nat} {b v : Int} {vs : List Int} : xs[i]? = some b → 0 ≤ b → b < 256 → VarTo xs b (b % 64) (i + 1) v j → v < 2 ^ 62 → VarsAt xs j vs → VarsAt xs i (v :: vs)
/-- whole rows of four, as told -/
def rows4 : List Int → List (Int × Int × Int × Int)
  | a :: b :: c :: d :: r => (a, b, c, d) :: rows4 r
  | _ => []
theorem VarTo.nonneg {xs : List Int} {b v v' : Int} {i j : Nat} (h : VarTo xs b v i v' j) (h0 : 0 ≤ v) : 0 ≤ v' := Int.le_trans h0 (h.le h0)
theorem VarsAt.nonneg {xs : List Int} {i : Nat} {vs : List Int} (h : VarsAt xs i vs) : ∀ v ∈ vs, 0 ≤ v ∧ v < 2 ^ 62 := by
  induction h with
  | nil _ => intro v hv; simp at hv
  | cons _ h0 _ h1 h2 _ ih =>
    intro v hv
    rcases List.mem_cons.mp hv with rfl | hv
    · exact ⟨h1.nonneg (by omega), h2⟩
    · exact ih v hv
theorem IntsAre.none {vs : List Value} {ns : List Int} (h : IntsAre vs ns) {i : Nat} (e : ns[i]? = .none) : vs.toArray[i]? = .none := by
  have hl := h.length
  simp at e ⊢
  omega
theorem rows4_len : ∀ ws : List Int, (rows4 ws).length ≤ ws.length
  | [] => Nat.le_refl _
  | [_] => Nat.zero_le _
  | [_, _] => Nat.zero_le _
  | [_, _, _] => Nat.zero_le _
  | a :: b :: c :: d :: r => by
    have := rows4_len r
    simp only [rows4, List.length_cons]
    omega
theorem shr1 (v : Int) : Int.fdiv v (2 ^ (1 : Int).toNat) = v / 2 := by
  show Int.fdiv v 2 = v / 2
  exact Int.fdiv_eq_ediv_of_nonneg v (by decide)
theorem odd1 (v : Int) : (v % 2 != 0) = (v % 2 == 1) := by
  rcases Int.emod_two_eq v with h | h <;> rw [h] <;> rfl
end
section
open PySem PySem.Calls PySem.Spec PySem.W PyProof.Rows
set_option maxRecDepth 100000
set_option maxHeartbeats 8000000
abbrev Led := List (Addr × Obj)
def Tell (w : World) (d u : Nat) (f : Addr) (vs : List Value) (news : Led) (Ret : Value → Led → Prop) : Prop :=
  ∀ (loose : List Str) (mean : ExcName → Option Value) (mg mb : Str → Option Value) (dp un : Nat) (gd : Option (List Code)) (cn : Str) (cs : Scope) (a : Addr) (ccd : Value) (cl : List (Str × Addr)) (outer : List Env) (A₀ : Around) (base h₀ : Heap) (L : Addr) (m : Str → Option Value) (s : Shared) (Q E : Value → Shared → Prop),
    Below A₀ base outer h₀ → Fr h₀ L s.heap m → (Mine.hd.heap_1 w.params).In h₀ → News h₀ L s.heap news → Top Mine.view loose mean mg mb h₀ → cs.kind = .function → dp + d < recursionLimit → un + u < cLine →
    (∀ r news' h' tk', Ret r news' → Fr h₀ L h' m → News h₀ L h' news' → Q r { s with heap := h', toks := tk' }) →
    wpAny (model PySem.Challenge.pw_kl0477_01 w) (ktrTop dp un gd cn cs L a ccd cl outer) (call (.ref f) vs) Q E s
/-- the walk halts where this stands -/
def Stopped (P : Prop) : Prop := P
theorem Stopped.on {P : Prop} (h : P) : Stopped P := h
theorem Stopped.out {P : Prop} (h : Stopped P) : P := h
abbrev iterObj (l : Addr) (i : Nat) : Obj := { cls := .type "list_iterator", data := .fields #[.ref l, .int i 0] }
/-- fills the part that the tactics read -/
theorem fill : (PySem.Challenge.rw_kl0477_01, Mine.hd.heap_1).1 = PySem.Challenge.rw_kl0477_01 := by
  k_fill
  rfl
section
variable {prog : Program} {w : World} {A : Around} {E : Value → Shared → Prop} {s : Shared} {h₀ : Heap} {L l it : Addr} {m : Str → Option Value} {news : Led} {g : Obj → Led} {i n : Nat} {items : Array Value} {x : Value} {Q : Value → Shared → Prop}
theorem and63_int {a : Int} {t u : Tok} (h : Q (.int (a % 64) s.toks) { s with toks := s.toks + 1 }) : wpAny (model prog w) A (binaryOp .BitAnd (.int a t) (.int 63 u)) Q E s := and_int (by rw [and63]; exact h)
theorem and1_int {a : Int} {t u : Tok} (h : Q (.int (a % 2) s.toks) { s with toks := s.toks + 1 }) : wpAny (model prog w) A (binaryOp .BitAnd (.int a t) (.int 1 u)) Q E s := and_int (by rw [bitAnd_m1]; exact h)
theorem and64_int {a : Int} {t u : Tok} (h0 : 0 ≤ a) (h1 : a < 256) (h : Q (.int (a / 64 % 2 * 64) s.toks) { s with toks := s.toks + 1 }) : wpAny (model prog w) A (binaryOp .BitAnd (.int a t) (.int 64 u)) Q E s := and_int (by rw [and64 h0 h1]; exact h)
theorem ior63_int {v d : Int} {t u : Tok} (h0 : 0 ≤ v) (h1 : 0 ≤ d) (h2 : d < 64) (h : Q (.int (v * 64 + d) s.toks) { s with toks := s.toks + 1 }) : wpAny (model prog w) A (inplaceOp .BitOr (.int (v * 64) t) (.int d u)) Q E s := ior_int (by rw [or63 h0 h1 h2]; exact h)
theorem ishl6_int {a : Int} {t u : Tok} (ha : a.natAbs < 2 ^ 64) (h : Q (.int (a * 64) s.toks) { s with toks := s.toks + 1 }) : wpAny (model prog w) A (inplaceOp .LShift (.int a t) (.int 6 u)) Q E s := ilshift_int_small (by decide) (by decide) ha h
theorem next_item (F : Fr h₀ L s.heap m) (N : News h₀ L s.heap news) (U : UpdF it (iterObj l i) news g) (hl : (l, listOf items n) ∈ news) (hx : items[i]? = some x)
    (h : ∀ h', Fr h₀ L h' m → News h₀ L h' (g (iterObj l (i + 1))) → Q x { s with heap := h' }) :
    wpAny (model prog w) A (call (.builtin "next") [.ref it]) Q E s := by
  obtain ⟨pre, post, hll, hg, a, b⟩ := U.split
  have hmem : (it, iterObj l i) ∈ news := by rw [hll]; exact List.mem_append_right _ (.head _)
  have hm := N (it, iterObj l i) hmem
  have ho := hm.1
  have hT : s.TypeIs (.ref it) "list_iterator" := ⟨_, ho, rfl⟩
  have hol := (N _ hl).1
  refine call_function_entry (by decide +kernel) (by decide +kernel) kdk_entry_next (kdk_args_next _) ?_
  unfold Builtin.«next»
  refine wpAny_bind (m := someArgs "next" 1 2 _) (wpAny_of_eq (a := [Value.ref it]) (by first | rfl | kernel_rfl!) ?_)
  dsimp only
  refine wpAny_bind (wpAny_specialOf (name := Str.ofString "__next__") hT slot_listiter_next.lookup ?_)
  refine wpAny_ite_split (fun hab => absurd hab (by decide)) (fun _ => ?_)
  refine wpAny_bind (wpAny_callSpecial?_slot (name := Str.ofString "__next__") hT slot_listiter_next
    (wpAny_call_entry slot_listiter_next hT entry_listiter_next ?_ (args_listiter_next _)))
  show wpAny _ _ (field (.ref it) 0 >>= _) _ _ s
  refine wpAny_bind (wpAny_field ho rfl (x := .ref l) rfl ?_)
  show wpAny _ _ (if (Value.ref l == Value.none) = true then _ else _) _ _ s
  rw [if_neg (show ¬ ((Value.ref l == Value.none) = true) from Bool.false_ne_true)]
  show wpAny _ _ (field (.ref it) 1 >>= _) _ _ s
  refine wpAny_bind (wpAny_field ho rfl (x := .int i 0) rfl ?_)
  show wpAny _ _ (seqItems? (.ref l) >>= _) _ _ s
  refine wpAny_bind (wpAny_seqItems hol rfl ?_)
  simp only [Int.toNat_natCast, hx]
  refine wpAny_bind (wpAny_setField ho rfl (by simp) (wpAny_pure ⟨x, rfl, wpAny_pure ⟨_, rfl, ?_⟩⟩))
  have hs : Heap.SameBut it s.heap (s.heap.update it (Obj.mapFields (·.setIfInBounds 1 (rawInt ((i : Int) + 1))))) := Heap.SameBut.update ..
  refine h _ (F.change hs hm.2.1 hm.2.2) (hg _ ▸ (show News h₀ L s.heap (pre ++ (it, iterObj l i) :: post) from hll ▸ N).setIn a b hs ?_)
  rw [Heap.get?_update_self _ ho rfl]
  rfl
end
section
variable {prog : Program} {w : World} {A : Around} {E : Value → Shared → Prop} {s : Shared} {h₀ : Heap} {L : Addr} {env : Env} {Q : Flow → Shared → Prop}
theorem while_on {σ : Type} {test : PySem.Expr} {body : List Stmt} {pos : Pos} {m₀ : Str → Option Value} {news : Led} (Ld : σ → Led) (ps : σ → List (Str × Value)) (P : σ → Prop) (μ : σ → Nat)
    (F : Fr h₀ L s.heap m₀) (N : News h₀ L s.heap news) (init : ∃ c₀, (∀ p ∈ ps c₀, m₀ p.1 = some p.2) ∧ (∀ p ∈ Ld c₀, p ∈ news) ∧ P c₀)
    (turn : ∀ (c : σ) h tk, P c → Fr h₀ L h (kstB m₀ (ps c)) → News h₀ L h (Ld c) →
      wpAny (model prog w) A (isTrue test env (eval test env)) (fun b s₂ =>
        if b = true then wpAny (model prog w) A (execs body env) (KswPost h₀ L s Ld ps (fun _ => True) [] m₀ P μ Q c) E s₂ else Q .next s₂) E { s with heap := h, toks := tk })
    (hE : PassesOwn (model prog w) A env E := by passes_own) :
    wpAny (model prog w) A (exec (.While test body [] pos) env) Q E s :=
  let ⟨c₀, hk, hl, hp⟩ := init
  ksw_while Ld ps (fun _ => True) [] P μ c₀ F (fun p h => N p (hl p h)) trivial hk hp (fun c _ h tk _ hP F N => turn c h tk hP F N) hE
theorem while_onS {σ : Type} {test : PySem.Expr} {body : List Stmt} {pos : Pos} {m₀ : Str → Option Value} {news : Led} (Ld : σ → Led) (ps : σ → List (Str × Value)) (stored : List Str) (P : σ → Prop) (μ : σ → Nat)
    (F : Fr h₀ L s.heap m₀) (N : News h₀ L s.heap news) (init : ∃ c₀, (∀ p ∈ ps c₀, m₀ p.1 = some p.2) ∧ (∀ p ∈ Ld c₀, p ∈ news) ∧ P c₀)
    (turn : ∀ (c : σ) (u : Str → Option Value) h tk, P c → Fr h₀ L h (kstB (fun z => if stored.contains z then u z else m₀ z) (ps c)) → News h₀ L h (Ld c) →
      wpAny (model prog w) A (isTrue test env (eval test env)) (fun b s₂ =>
        if b = true then wpAny (model prog w) A (execs body env) (KswPost h₀ L s Ld ps (fun _ => True) stored m₀ P μ Q c) E s₂ else Q .next s₂) E { s with heap := h, toks := tk })
    (hE : PassesOwn (model prog w) A env E := by passes_own) :
    wpAny (model prog w) A (exec (.While test body [] pos) env) Q E s :=
  let ⟨c₀, hk, hl, hp⟩ := init
  ksw_while Ld ps (fun _ => True) stored P μ c₀ F (fun p h => N p (hl p h)) trivial hk hp (fun c u h tk _ hP F N => turn c u h tk hP F N) hE
end
end
section
open PySem PySem.Calls PySem.Spec PySem.W PyProof.Rows
set_option maxRecDepth 100000
set_option maxHeartbeats 8000000
def LeaveT (fs : List Addr) (A₀ : Around) (base : Heap) (outer : List Env) (K : Frag) (p : Program) (loose : List Str) (mean : ExcName → Option Value) (mg mb : Str → Option Value) (h₀ : Heap) (L : Addr) (m : Str → Option Value) (g : Heap) (R : Result → Shared → Prop) (v : Value) (s' : Shared) : Prop :=
  ∃ g' L' m' news', KtsTurn fs g g' ∧ Fr g' L' s'.heap m' ∧ News g' L' s'.heap news' ∧ ∀ h₀', KtsTurn (outer.filterMap (·.frame)) h₀ h₀' → Fr h₀' L s'.heap m → News h₀' L s'.heap news' → Below A₀ base outer h₀' → K.In h₀' → Top p loose mean mg mb h₀' →
    KtsDicts (outer.filterMap (·.frame)) h₀' → R (.ok (.ret v)) s'
section
variable {prog : Program} {w : World} {A₀ A : Around} {s : Shared} {base h₀ : Heap} {outer : List Env} {L : Addr} {m : Str → Option Value} {env : Env} {news : List (Addr × Obj)} {K : Frag} {p : Program} {loose : List Str} {mean : ExcName → Option Value} {mg mb : Str → Option Value}
  {R : Result → Shared → Prop} {name qual : Str} {params : Arguments} {body : List Stmt} {scope : Scope} {dV kV doc pm cdv ct oc : Value} {an od : Option Addr} {osl : Array (Option Value)} {f : Addr} {args : Args} {binds : List (Str × Value)}
theorem kts_memX {b : Addr} (hf : env.frame = some L) (hm : b ∈ (env :: outer).filterMap (·.frame)) : b = L ∨ b ∈ outer.filterMap (·.frame) := by
  obtain ⟨e, he, hb⟩ := List.mem_filterMap.mp hm
  rcases List.mem_cons.mp he with rfl | he
  · exact .inl (Option.some.inj (hb.symm.trans hf))
  · exact .inr (List.mem_filterMap.mpr ⟨e, he, hb⟩)
theorem groundT (B : Below A₀ base outer h₀) (F : Fr h₀ L s.heap m) (N : News h₀ L s.heap news) (XB : K.In base) (TB : Top p loose mean mg mb base) (D : KtsDicts (outer.filterMap (·.frame)) h₀)
    (hA : A.frames = some (env :: outer)) (hf : env.frame = some L) (hke : env.scope.kind = .function) :
    Fr h₀ L (hideAll s.heap (news.map (·.1))) m ∧ Below A base (env :: outer) (hideAll s.heap (news.map (·.1))) ∧ h₀.StaysIn (hideAll s.heap (news.map (·.1))) ∧ KtsDicts ((env :: outer).filterMap (·.frame)) (hideAll s.heap (news.map (·.1))) ∧
      ∀ v s', LeaveT ((env :: outer).filterMap (·.frame)) A₀ base outer K p loose mean mg mb h₀ L m (hideAll s.heap (news.map (·.1))) R v s' → R (.ok (.ret v)) s' := by
  obtain ⟨FG, BG, st, _⟩ := groundX (R := R) B F N hA hf hke
  obtain ⟨oL, es, ep, hLg, hLd, hLk, hLf⟩ := FG.ns
  refine ⟨FG, BG, st, fun b hb => ?_, fun v s' hl => ?_⟩
  · rcases kts_memX hf hb with rfl | hb
    · exact ⟨oL, es, ep, hLg, hLd⟩
    · obtain ⟨o, es', n', ho', hd'⟩ := D b hb
      exact ⟨o, es', n', st b o ho', hd'⟩
  · obtain ⟨g', L', m', news', T', F', N', k⟩ := hl
    have nL₀ : h₀.get? L = none := kts_self F
    obtain ⟨sl, hs⟩ := T'.up hLg
    obtain ⟨T₁, S₁⟩ := kts_turn_at (h := s'.heap) (fs := outer.filterMap (·.frame)) (g := h₀)
      (fun b hb => by
        obtain ⟨_, o, ho', _⟩ := B.frames.mem hb
        exact ⟨o, ho'⟩)
      (fun b o e nmem => F'.keep b o (T'.other b o (st b o e) (fun q => by
        rcases kts_memX hf q with z | z
        · rw [z, nL₀] at e
          cases e
        · exact nmem z)))
      (fun b o e hm => by
        obtain ⟨sl', hs'⟩ := T'.up (st b o e)
        exact ⟨sl', F'.keep _ _ hs'⟩)
    have B₃ : Below A₀ base outer (ktsHeap s'.heap (outer.filterMap (·.frame)) h₀) := ⟨B.stack, fun b o e => T₁.other b o (B.stays b o e) (fun hm => by
      rw [(B.frames.mem hm).1] at e
      cases e), B.frames.of_keeps fun b o e _ => by
      obtain ⟨sl', hs'⟩ := T₁.up e
      exact ⟨_, hs', rfl⟩⟩
    refine k _ T₁ ⟨⟨_, es, ep, F'.keep _ _ hs, hLd, hLk, hLf⟩, S₁, by rw [T₁.size]; exact F.above⟩ (fun p hp => ⟨(N' p hp).1, fun q => ?_, ?_⟩) B₃ (XB.keeps B₃.stays) (TB.keeps B₃.stays) (D.turn T₁)
    · have := (N' p hp).2.2; rw [q, hs] at this; cases this
    · refine T₁.none_ _ ?_
      cases q : h₀.get? p.1 with
      | none => rfl
      | some o =>
        obtain ⟨sl', hs'⟩ := T'.up (st _ _ q)
        have := (N' p hp).2.2
        rw [hs'] at this
        cases this
/-- a def without cells, entered where an exception may be caught below -/
theorem code_T (B : Below A₀ base outer h₀) (F : Fr h₀ L s.heap m) (X₀ : K.In h₀) (N : News h₀ L s.heap news) (T : Top p loose mean mg mb h₀) (XB : K.In base) (TB : Top p loose mean mg mb base) (D : KtsDicts (outer.filterMap (·.frame)) h₀)
    (hA : A.frames = some (env :: outer)) (hf : env.frame = some L) (hke : env.scope.kind = .function)
    (ho : K.lookup f = some ⟨oc, od, .func (fnOf name qual params body scope dV kV doc pm an cdv ct), osl⟩) (hcd : codeIn K cdv qual = true) (hroom : A.depth < recursionLimit)
    (hbind : BindsTo s (fnOf name qual params body scope dV kV doc pm an cdv ct) args binds) (hloc : ∀ y ∈ binds, scope.names.lookup y.1 = some .local)
    (h : ∀ g L' h₁, Fr h₀ L g m → Fr g L' h₁ (fun y => binds.reverse.lookup y) → News g L' h₁ news → Below A base (env :: outer) g → K.In g → Top p loose mean mg mb g → KtsDicts ((env :: outer).filterMap (·.frame)) g → (∀ p ∈ news, p.1 < L') →
      wpAny (model prog w) (A.deeper (envOf qual scope L' f cdv)) (execs body (envOf qual scope L' f cdv))
        (fun fl s' => LeaveT ((env :: outer).filterMap (·.frame)) A₀ base outer K p loose mean mg mb h₀ L m g R (match fl with | .ret v => v | _ => .none) s')
        (fun e s' => wpAny (model prog w) (A.deeper (envOf qual scope L' f cdv)) (leaving (envOf qual scope L' f cdv) e) (fun _ s'' => R (.error e) s'') (fun e' s'' => R (.error e') s'') s')
        { s with heap := h₁, toks := s.toks + binds.length })
    (hco : scope.isCoroutine = false) (hgen : scope.isGenerator = false) (hk : scope.kind = .function)
    (hcell : ∀ x ∈ scope.names, x.2 ≠ .cell) : codeAny (model prog w) A (.call (.ref f) args) R s := by
  have X := X₀.keeps F.keep
  obtain ⟨FG, BG, st, DG, lv⟩ := groundT (R := R) B F N XB TB D hA hf hke
  refine codeAny_call_def (fd := fnOf name qual params body scope dV kV doc pm an cdv ct) (body := body) (binds := binds) hroom (X _ _ ho) rfl (T.nolimit.keeps F.keep) (codeRec_of X hcd) rfl hbind hcell hloc (fun h₁ hns hk₁ => ?_) hco hgen hk
  exact wpAny_mono (h _ s.heap.objs.size h₁ FG ⟨hns, fun b o e => hk₁ b o (of_hideAll _ e), Nat.le_of_eq (hideAll_size _ _)⟩
    (fun p hp => ⟨hk₁ _ _ (N p hp).1, Nat.ne_of_lt (Heap.lt_size (N p hp).1), hideAll_none _ (List.mem_map_of_mem hp)⟩) BG (X₀.keeps st) (T.keeps st) DG (fun p hp => Heap.lt_size (N p hp).1)) (fun fl s' hl => lv _ _ hl) fun _ _ y => y
theorem callT_cells (B : Below A₀ base outer h₀) (F : Fr h₀ L s.heap m) (X₀ : K.In h₀) (N : News h₀ L s.heap news) (T : Top p loose mean mg mb h₀) (XB : K.In base) (TB : Top p loose mean mg mb base) (D : KtsDicts (outer.filterMap (·.frame)) h₀)
    (hA : A.frames = some (env :: outer)) (hf : env.frame = some L) (hke : env.scope.kind = .function)
    (ho : K.lookup f = some ⟨oc, od, .func (fnOf name qual params body scope dV kV doc pm an cdv ct), osl⟩) (hcd : codeIn K cdv qual = true) (hroom : A.depth < recursionLimit)
    (hbind : BindsTo s (fnOf name qual params body scope dV kV doc pm an cdv ct) args binds) (hkind : (binds.all fun y => scope.names.lookup y.1 == some .local || scope.names.lookup y.1 == some .cell) = true)
    (hnd : ((cellsFrom 0 scope.names []).map (·.1)).Nodup)
    (h : ∀ g L' h₁ tk cells, Fr h₀ L g m → Fr g L' h₁ (bindL (envOfC qual scope L' f cdv).kindOf binds fun _ => none) → News g L' h₁ (cells ++ news) →
      CellsAre (bindC (envOfC qual scope L' f cdv).kindOf binds fun _ => none) (cellsFrom (L' + 1) scope.names []) cells → Below A base (env :: outer) g → K.In g → Top p loose mean mg mb g → KtsDicts ((env :: outer).filterMap (·.frame)) g → (∀ p ∈ news, p.1 < L') →
      wpAny (model prog w) (A.deeper (envOfC qual scope L' f cdv)) (execs body (envOfC qual scope L' f cdv))
        (fun fl s' => LeaveT ((env :: outer).filterMap (·.frame)) A₀ base outer K p loose mean mg mb h₀ L m g R (match fl with | .ret v => v | _ => .none) s')
        (fun e s' => wpAny (model prog w) (A.deeper (envOfC qual scope L' f cdv)) (leaving (envOfC qual scope L' f cdv) e) (fun _ s'' => R (.error e) s'') (fun e' s'' => R (.error e') s'') s')
        { s with heap := h₁, toks := tk })
    (hco : scope.isCoroutine = false) (hgen : scope.isGenerator = false) (hk : scope.kind = .function) : codeAny (model prog w) A (.call (.ref f) args) R s := by
  have X := X₀.keeps F.keep
  obtain ⟨FG, BG, st, DG, lv⟩ := groundT (R := R) B F N XB TB D hA hf hke
  refine codeAny_call_function hroom (X _ _ ho) rfl hco hgen rfl (codeRec_of X hcd) (hbind _ _ _ _ ?_)
  refine wpAny_newFunctionEnv_cells hk (kindsX hkind _) fun env' he s' x => ?_
  subst he
  refine ⟨(T.nolimit.keeps F.keep).keeps x.toInCall.keep, codeAny_func ?_⟩
  obtain ⟨h₁, tk, rfl, _⟩ := x.done
  have hk₁ := x.toInCall.keep
  obtain ⟨cells, NC, Y⟩ := Cl.news (h₀ := s.heap) (Nat.le_refl _) fun n c hm => ⟨x.cell n c (lookup_of_mem_nodup (cellsFrom_names scope.names 0 (s.heap.objs.size + 1) [] [] rfl ▸ hnd) hm), x.above n c hm⟩
  refine wpAny_mono (h _ s.heap.objs.size h₁ tk cells FG ⟨x.toInCall.ns, fun b o e => hk₁ b o (of_hideAll _ e), Nat.le_of_eq (hideAll_size _ _)⟩ (fun p hp => ?_) Y BG (X₀.keeps st) (T.keeps st) DG (fun p hp => Heap.lt_size (N p hp).1)) (fun fl s' hl => lv _ _ hl) fun _ _ y => y
  rcases List.mem_append.mp hp with hp | hp
  · refine ⟨(NC p hp).1, (NC p hp).2.1, ?_⟩
    cases q : (hideAll s.heap (news.map (·.1))).get? p.1 with
    | none => rfl
    | some o => have := of_hideAll _ q; rw [(NC p hp).2.2] at this; cases this
  · exact ⟨hk₁ _ _ (N p hp).1, Nat.ne_of_lt (Heap.lt_size (N p hp).1), hideAll_none _ (List.mem_map_of_mem hp)⟩
end
end
section
open PySem PySem.Calls PySem.Spec PySem.W PyProof.Rows
set_option maxRecDepth 100000
set_option maxHeartbeats 8000000
theorem rsPV : True := by
  w_top off
  k_with_none
  trivial
theorem fillOne : (PySem.Challenge.rw_kl0477_01, Mine.hd.heap_1).1 = PySem.Challenge.rw_kl0477_01 := by
  k_fill
  rfl
local macro_rules | `(tactic| walk_at "call builtin:next") => `(tactic| (k_here; (with_reducible show wpAny _ _ (call (Value.builtin "next") [Value.ref _]) _ _ _); k_dflt (refine' next_item ?F ?N ?U ?p ?x ?_; (case F => k_asm); (case N => k_asm); (case U => k_updF); (case p => k_mem); (case x => assumption); intro h' F' N'; (try dsimp only at N'))))
theorem kw1 : True := by
  k_with "me exec" => (k_here; (with_reducible show wpAny _ _ (exec (Stmt.While _ _ _ _) _) _ _ _); refine Stopped.out ?_)
  trivial
local macro_rules | `(tactic| walk_at "binaryOp BitAnd int int") => `(tactic| first | with_reducible refine and63_int ?_ | with_reducible refine and1_int ?_ | (with_reducible refine and64_int (by first | assumption | omega) (by first | assumption | omega) ?_))
local macro_rules | `(tactic| walk_at "inplaceOp LShift int int") => `(tactic| ((with_reducible refine ishl6_int ?ha ?_); (case ha => omega)))
local macro_rules | `(tactic| walk_at "inplaceOp BitOr int int") => `(tactic| ((with_reducible refine ior63_int ?ha ?hb ?hc ?_); (case ha => omega); (case hb => omega); (case hc => omega)))
structure PvS where
  b : Int
  v : Int
  i : Nat
  t1 : Tok
  t2 : Tok
theorem pv (w : World) (it l : Addr) (vs : List Value) (xs : List Int) (hI : IntsAre vs xs) (n i j : Nat) (b v : Int) (hx : xs[i]? = some b) (hb1 : 0 ≤ b) (hb2 : b < 256) (hv : VarTo xs b (b % 64) (i + 1) v j) (hv2 : v < 2 ^ 62) (Tl : Led) (hl : ∀ p ∈ Tl, p.1 ≠ it) (hil : @LT.lt Nat _ l it) :
    Tell w 1 8 185 [.ref it] ((it, iterObj l i) :: (l, listOf vs.toArray n) :: Tl) (fun r news' => ∃ t, r = .int v t ∧ news' = ((it, iterObj l j) :: (l, listOf vs.toArray n) :: Tl)) := by
  intro loose mean mg mb dp un gd cn cs a ccd cl outer A₀ base h₀ L m s Q E B F X N T hk hd hu hret
  obtain ⟨tb, hb⟩ := IntsAre.at hI hx
  have hb : vs.toArray[i]? = some (.int b tb) := by simpa using hb
  refine wpAny_call ?_
  k_dflt cell_enter
  k_steps
  refine Stopped.on ?_
  refine' while_on (σ := PvS) (fun c => (it, iterObj l c.i) :: (l, listOf vs.toArray n) :: Tl) (fun c => [(Str.ofString "val", .int c.v c.t1), (Str.ofString "b", .int c.b c.t2)]) (fun c => VarTo xs c.b c.v c.i v j ∧ 0 ≤ c.b ∧ c.b < 256 ∧ 0 ≤ c.v) (fun c => xs.length - c.i) ?F ?N ?init ?turn ?hE
  case F => k_asm
  case N => k_asm
  case init => exact ⟨⟨_, _, _, _, _⟩, List.forall_mem_cons.mpr ⟨rfl, List.forall_mem_cons.mpr ⟨rfl, List.forall_mem_nil _⟩⟩, fun _ h => h, hv, hb1, hb2, by dsimp only; omega⟩
  case hE => passes_own
  case turn =>
    intro c h tk hP F1 N1
    obtain ⟨cb, cv, ci, ct1, ct2⟩ := c
    dsimp only [kstB] at hP F1 N1 ⊢
    obtain ⟨hP1, hP2, hP3, hP4⟩ := hP
    have hle := VarTo.le hP1 hP4
    k_steps
    · cases hP1 with
      | stop h0 => exfalso; omega
      | @step _ b' _ _ _ _ h1 hx2 hb3 hb4 hv3 =>
        obtain ⟨tb2, hb5⟩ := IntsAre.at hI hx2
        have hb5 : vs.toArray[ci]? = some (.int b' tb2) := by simpa using hb5
        have hlt := (List.getElem?_eq_some_iff.mp hx2).1
        clear hle
        have hle := VarTo.le hv3 (by omega)
        k_steps
        exact ksw_end ⟨_, _, _, _, _⟩ (by k_asm) (by k_asm) (fun _ h => h) trivial (List.forall_mem_cons.mpr ⟨rfl, List.forall_mem_cons.mpr ⟨rfl, List.forall_mem_nil _⟩⟩) (by ksw_same) ⟨hv3, hb3, hb4, by dsimp only; omega⟩ (by dsimp only; omega)
    · cases hP1 with
      | stop h0 => exact hret _ _ _ _ ⟨_, rfl, rfl⟩ (by k_asm) (by k_asm)
      | step h1 => exfalso; omega
end
section
open PySem PySem.Calls PySem.Spec PySem.W PyProof.Rows
set_option maxRecDepth 100000
set_option maxHeartbeats 8000000
theorem rsPV2 : True := by
  w_top off
  k_with_none
  trivial
abbrev spentObj (i : Nat) : Obj := { cls := .type "list_iterator", data := .fields #[.none, .int i 0] }
section
variable {prog : Program} {w : World} {A : Around} {E : Value → Shared → Prop} {s : Shared} {h₀ : Heap} {L l it : Addr} {m : Str → Option Value} {news : Led} {g : Obj → Led} {i n : Nat} {items : Array Value} {Q : Value → Shared → Prop}
theorem next_stop (hh : A.handled = none) (F : Fr h₀ L s.heap m) (N : News h₀ L s.heap news) (U : UpdF it (iterObj l i) news g) (hl : (l, listOf items n) ∈ news) (hx : items[i]? = none)
    (h : ∀ h1 h' e, Fr h₀ L h1 m → News h₀ L h1 (g (spentObj i)) → Heap.MadeExcOf h1 h' e (.type "StopIteration") [] → E (.ref e) { s with heap := h' }) :
    wpAny (model prog w) A (call (.builtin "next") [.ref it]) Q E s := by
  obtain ⟨pre, post, hll, hg, a, b⟩ := U.split
  have hmem : (it, iterObj l i) ∈ news := by rw [hll]; exact List.mem_append_right _ (.head _)
  have hm := N (it, iterObj l i) hmem
  have ho := hm.1
  have hT : s.TypeIs (.ref it) "list_iterator" := ⟨_, ho, rfl⟩
  have hol := (N _ hl).1
  refine call_function_entry (by decide +kernel) (by decide +kernel) kdk_entry_next (kdk_args_next _) ?_
  unfold Builtin.«next»
  refine wpAny_bind (m := someArgs "next" 1 2 _) (wpAny_of_eq (a := [Value.ref it]) (by first | rfl | kernel_rfl!) ?_)
  dsimp only
  refine wpAny_bind (wpAny_specialOf (name := Str.ofString "__next__") hT slot_listiter_next.lookup ?_)
  refine wpAny_ite_split (fun hab => absurd hab (by decide)) (fun _ => ?_)
  refine wpAny_bind (wpAny_callSpecial?_slot (name := Str.ofString "__next__") hT slot_listiter_next
    (wpAny_call_entry slot_listiter_next hT entry_listiter_next ?_ (args_listiter_next _)))
  show wpAny _ _ (field (.ref it) 0 >>= _) _ _ s
  refine wpAny_bind (wpAny_field ho rfl (x := .ref l) rfl ?_)
  show wpAny _ _ (if (Value.ref l == Value.none) = true then _ else _) _ _ s
  rw [if_neg (show ¬ ((Value.ref l == Value.none) = true) from Bool.false_ne_true)]
  show wpAny _ _ (field (.ref it) 1 >>= _) _ _ s
  refine wpAny_bind (wpAny_field ho rfl (x := .int i 0) rfl ?_)
  show wpAny _ _ (seqItems? (.ref l) >>= _) _ _ s
  refine wpAny_bind (wpAny_seqItems hol rfl ?_)
  simp only [Int.toNat_natCast, hx]
  refine wpAny_bind (wpAny_rule (wpAny_bind (wpAny_setField ho rfl (by simp) ?_)))
  show wpAny _ _ (newExc (.type "StopIteration") [] >>= _) _ _ _
  refine wpAny_bind ?_
  simp only [newExc, newTuple]
  refine wpAny_bind (wpAny_newObj_type ?_ (by size_fits))
  refine wpAny_bind (m := firstArgMember _ _) (wpAny_of_eq (a := Value.none) (by first | rfl | (simp only [firstArgMember]; rfl)) ?_)
  refine wpAny_newObj_type ?_ (by size_fits)
  simp only [raiseNew]
  refine wpAny_bind (wpAny_handled ?_)
  first | rw [show A.in1.handled = none from hh] | rw [hh]
  refine wpAny_bind (wpAny_pure (wpAny_throw ?_))
  have hs : Heap.SameBut it s.heap (s.heap.update it (Obj.mapFields (·.setIfInBounds 0 Value.none))) := Heap.SameBut.update ..
  have hz : (s.heap.update it (Obj.mapFields (·.setIfInBounds 0 Value.none))).get? it = some (spentObj i) := by
    rw [Heap.get?_update_self _ ho rfl]
    rfl
  refine h (s.heap.update it (Obj.mapFields (·.setIfInBounds 0 Value.none))) _ _ (F.change hs hm.2.1 hm.2.2) (hg _ ▸ (show News h₀ L s.heap (pre ++ (it, iterObj l i) :: post) from hll ▸ N).setIn a b hs hz) ?_
  refine ⟨fun b o e => Heap.get?_push_of_some _ (Heap.get?_push_of_some _ e), ?_, _, Heap.get?_push_size _ rfl, ?_, ?_⟩
  · rw [Heap.size_push]
    exact Heap.get?_none_of_le (Nat.le_succ _)
  · exact Heap.get?_none_of_le (Nat.le_refl _)
  · exact Heap.get?_push_of_some _ (Heap.get?_push_size _ rfl)
end
/-- the exception that flies out of a call of `_parse_varint`, in its caller's terms -/
def TellStop (w : World) (d u : Nat) (f : Addr) (vs : List Value) (news news' : Led) : Prop :=
  ∀ (loose : List Str) (mean : ExcName → Option Value) (mg mb : Str → Option Value) (dp un : Nat) (gd : Option (List Code)) (cn : Str) (cs : Scope) (a : Addr) (ccd : Value) (cl : List (Str × Addr)) (outer : List Env) (A₀ : Around) (base h₀ : Heap) (L : Addr) (m : Str → Option Value) (s : Shared) (Q E : Value → Shared → Prop),
    Below A₀ base outer h₀ → Fr h₀ L s.heap m → (Mine.hd.heap_1 w.params).In h₀ → News h₀ L s.heap news → Top Mine.view loose mean mg mb h₀ → cs.kind = .function → dp + d < recursionLimit → un + u < cLine →
    (∀ e t h' tk' G, Fr h₀ L G m → RaisedS base G (envX cn cs L a ccd cl :: outer) e (.type "StopIteration") t [] news' h' → G.UpToSlots h' → E (.ref e) { s with heap := h', toks := tk' }) →
    wpAny (model PySem.Challenge.pw_kl0477_01 w) (ktrTop dp un gd cn cs L a ccd cl outer) (call (.ref f) vs) Q E s
theorem kw2 : True := by
  k_with "me call builtin:next" => (k_here; (with_reducible show wpAny _ _ (call (Value.builtin "next") [Value.ref _]) _ _ _); refine Stopped.out ?_)
  trivial
theorem pv_stop (w : World) (it l : Addr) (vs : List Value) (n i : Nat) (hx : vs.toArray[i]? = none) (Tl : Led) (hl : ∀ p ∈ Tl, p.1 ≠ it) (hil : @LT.lt Nat _ l it) :
    TellStop w 1 8 185 [.ref it] ((it, iterObj l i) :: (l, listOf vs.toArray n) :: Tl) ((it, spentObj i) :: (l, listOf vs.toArray n) :: Tl) := by
  intro loose mean mg mb dp un gd cn cs a ccd cl outer A₀ base h₀ L m s Q E B F X N T hk hd hu hret
  refine wpAny_call ?_
  k_dflt cell_enter
  k_steps
  refine Stopped.on ?_
  refine' next_stop ?zh ?zF ?zN ?zU ?zp hx ?_
  case zh => rfl
  case zF => k_asm
  case zN => k_asm
  case zU => k_updF
  case zp => k_mem
  intro h1 h2 e F1 N1 M1
  try dsimp only at N1
  refine leave_raiseS (by k_asm) M1 F1 N1 (fun h' t R _ U => hret _ _ _ _ _ (by k_asm) R U)
end
section
open PySem PySem.Calls PySem.Spec PySem.W PyProof.Rows Builtin Builtin.ObjectAttr Builtin.Getset_descriptor
set_option maxRecDepth 100000
set_option maxHeartbeats 8000000
section
variable {prog : Program} {w : World} {A : Around} {s : Shared} {R : Result → Shared → Prop} {h : Heap}
theorem ete_madeBy (X : (Mine.hd.heap_1 w.params).In h) : Looks (model prog w) h (Bind.madeBy (.ref 175)) none := Looks.of_peek X (by kernel_rfl)
theorem ete_mro (X : (Mine.hd.heap_1 w.params).In h) : Looks (model prog w) h (mroOf (.ref 175)) [.ref 175, .ref 162, .type "tuple", .type "object"] := Looks.of_peek X (by kernel_rfl)
theorem ete_init (X : (Mine.hd.heap_1 w.params).In h) : Looks (model prog w) h (typeLookup (.ref 175) "__init__") (some (.builtin "object.__init__")) := Looks.of_peek X (by kernel_rfl)
theorem ete_self (X : (Mine.hd.heap_1 w.params).In h) : Looks (model prog w) h (isSubtype (.ref 175) (.ref 175)) true := Looks.of_peek X (by kernel_rfl)
theorem ete_tup (X : (Mine.hd.heap_1 w.params).In h) : Looks (model prog w) h (isSubtype (.ref 175) (.type "tuple")) true := Looks.of_peek X (by kernel_rfl)
theorem ete_obj (X : (Mine.hd.heap_1 w.params).In h) : Looks (model prog w) h (isSubtype (.ref 175) (.type "object")) true := Looks.of_peek X (by kernel_rfl)
theorem ete_call (X : (Mine.hd.heap_1 w.params).In h) : Looks (model prog w) h (specialOf (.ref 175) "__call__") (some (.builtin "type.__call__")) := Looks.of_peek X (by kernel_rfl)
theorem ete_typ (X : (Mine.hd.heap_1 w.params).In h) : Looks (model prog w) h (isInstance (.ref 175) (.type "type")) true := Looks.of_peek X (by kernel_rfl)
theorem ete_isType (X : (Mine.hd.heap_1 w.params).In h) : Looks (model prog w) h (isType (.ref 175)) true := Looks.of_peek X (by kernel_rfl)
theorem ete_here (X : (Mine.hd.heap_1 w.params).In h) : Looks (model prog w) h (Bind.madeHere "tuple.__new__" (.ref 175)) () := Looks.of_peek X (by kernel_rfl)
end

theorem oi_args2 (a b : Value) (r : List Value) : argsOk "object.__init__" ⟨a :: b :: r, []⟩ := by unfold argsOk; kernel_rfl
def EteBack (w : World) (R : Result → Shared → Prop) (r : Result) (s' : Shared) : Prop := match r with
  | .ok (.ret v) => ∃ x o, v = .ref x ∧ (Mine.hd.heap_1 w.params).In s'.heap ∧ s'.heap.get? x = some o ∧ o.cls = .ref 175 ∧ R (.ok (.ret v)) s'
  | .ok _ => False
  | .error e => R (.error e) s'
section
variable {prog : Program} {w : World} {A : Around} {s : Shared} {R : Result → Shared → Prop} {h₀ : Heap} {L : Addr} {m : Str → Option Value}
theorem ete_core {r1 : Value} {rest : List Value} (F : Fr h₀ L s.heap m) (X₀ : (Mine.hd.heap_1 w.params).In h₀)
    (hq : codeAny (model prog w) (A.under (.builtin "type.__call__" ⟨.ref 175 :: r1 :: rest, []⟩)) (.call (.ref 103) ⟨.ref 175 :: r1 :: rest, []⟩) (EteBack w R) { s with toks := s.toks + 1 }) :
    codeAny (model prog w) A (.call (.ref 175) ⟨r1 :: rest, []⟩) R s := by
  have X := X₀.keeps F.keep
  obtain ⟨hh, g, d, t, os⟩ := s
  dsimp only at X
  obtain ⟨oc, od, cd, sl, hC⟩ : ∃ oc od cd sl, (Mine.hd.heap_1 w.params).lookup 175 = some ⟨oc, od, .cls cd, sl⟩ := ⟨_, _, _, _, by k_is⟩
  have hC' := X _ _ hC
  have k1 := ete_call (prog := prog) X
  have k2 := ete_mro (prog := prog) X
  have k3 := ete_madeBy (prog := prog) X
  refine codeAny_of_tree ?_
  show wpAny _ _ (callAny (.ref 175) _) _ _ _
  refine nd_load hC' ?_
  show wpAny _ _ (callAny.viaDunder (.ref 175) _) _ _ _
  unfold callAny.viaDunder
  refine wpAny_bind (k1.at ?_)
  dsimp only
  rw [tc_bind]
  refine wpAny_bind (wpAny_pure (wpAny_bind (wpAny_pure ?_)))
  refine wpAny_pure (a := Fin.again (.call (.builtin "type.__call__") ⟨.ref 175 :: r1 :: rest, []⟩)) (And.intro rfl ?_)
  refine codeAny_call_builtin_at (Code.quiet_builtin _ (by decide +kernel)) entry_typeCall (check_slot tc_kind tc_split (ete_typ X) (tc_args _ _ _) ?_)
  unfold Builtin.«type.__call__»
  repeat (first | simp only [List.isEmpty, Bool.false_eq_true, if_false] | ((fail_if_success (with_reducible show wpAny _ _ (getAttr _ _ _) _ _ _)); lk))
  refine cls_sm (F := F) X₀ (mc := .type "type") (C := 175) (p := 163) (f := .ref 103) (rest := []) (by k_is) (by k_is) (by k_is) (by k_is) (by k_handed) ?_
  refine wpAny_bind (wpAny_holding (wpAny_call (codeAny_mono hq fun r s' z => ?_)))
  rcases r with e | (v | _ | _ | _) <;> first | exact z.elim | exact z | skip
  obtain ⟨x, o, rfl, X', ho, hcl, z⟩ := z
  obtain ⟨hh', g', d', t', os'⟩ := s'
  dsimp only at X' ho
  have t1 : Looks (model prog w) hh' (typeOf (.ref x)) (.ref 175) := by rw [← hcl]; exact (Looks.ld ho).andThen .now
  have s1 := ete_self (prog := prog) X'
  have i1 := ete_init (prog := prog) X'
  have m1 := ete_madeBy (prog := prog) X'
  have b1 : Looks (model prog w) hh' (bindSpecial (.builtin "object.__init__") (.ref x)) (.builtin "object.__init__", [.ref x]) := Looks.of_pure (oi_bind (.ref x))
  have o1 : Looks (model prog w) hh' (isInstance (.ref x) (.type "object")) true := t1.andThen (ete_obj (prog := prog) X')
  unfold isInstance callSpecial? specialOf
  repeat (first | ((fail_if_success (with_reducible show wpAny _ _ (call _ _ _) _ _ _)); lk))
  refine wpAny_call (codeAny_call_builtin oi_plain entry_oi (check_slot oi_kind oi_split o1 (oi_args2 _ _ _) ?_))
  unfold Builtin.«object.__init__»
  repeat lk
  exact z
end
end
section
open PySem PySem.Calls PySem.Spec PySem.W PyProof.Rows Builtin Builtin.ObjectAttr Builtin.Getset_descriptor
set_option maxRecDepth 100000
set_option maxHeartbeats 8000000
abbrev eteObj (dx : Addr) (vs : List Value) : Obj := { cls := .ref 175, dict := some dx, data := .seq vs.toArray }
section
variable {prog : Program} {w : World} {A : Around} {s : Shared} {E : Value → Shared → Prop} {h₀ : Heap} {L : Addr} {m : Str → Option Value} {news : Led} {Q : Value → Shared → Prop} {h : Heap}
theorem ete_check (X : (Mine.hd.heap_1 w.params).In h) (v : Value) : Looks (model prog w) h (checkBuiltinCall "tuple.__new__" ⟨[.ref 175, v], []⟩) () := Looks.of_peek X (by kernel_rfl)
theorem tuple_new_ete {D : Addr} {vs : List Value} {o : Obj} {n : Nat} (F : Fr h₀ L s.heap m) (X₀ : (Mine.hd.heap_1 w.params).In h₀) (N : News h₀ L s.heap news) (ho : s.heap.get? D = some o) (hc : o.cls = .type "tuple") (hd : o.data = .seq vs.toArray n) (hsz : vs.length ≤ sizeLine)
    (hQ : ∀ x dx h', Fr h₀ L h' m → News h₀ L h' ((x, eteObj dx vs) :: (dx, dictOf [] 0) :: news) → (∀ p ∈ news, p.1 < dx) → @LT.lt Nat _ dx x → Q (.ref x) { s with heap := h' }) :
    wpAny (model prog w) A (call (.builtin "tuple.__new__") [.ref 175, .ref D]) Q E s := by
  have X := X₀.keeps F.keep
  obtain ⟨hh, g, d, t, os⟩ := s
  dsimp only at X ho
  obtain ⟨oc, od, cd, sl, hC, hdel⟩ : ∃ oc od cd sl, (Mine.hd.heap_1 w.params).lookup 175 = some ⟨oc, od, .cls cd, sl⟩ ∧ cd.hasDel = false := ⟨_, _, _, _, by k_is, rfl⟩
  have hC' := X _ _ hC
  have k0 := ete_check (prog := prog) X (.ref D)
  have k1 := ete_isType (prog := prog) X
  have k2 := ete_tup (prog := prog) X
  have k3 := ete_here (prog := prog) X
  have k4 := ete_init (prog := prog) X
  refine wpAny_call (codeAny_call_builtin PySem.F.plain_tuple_new PySem.F.entry_tuple_new (k0.here ?_))
  unfold Builtin.«tuple.__new__»
  refine wpAny_bind (k1.here ?_)
  simp only [Bool.not_true, Bool.false_eq_true, if_false]
  refine wpAny_bind (k2.here ?_)
  simp only [Bool.not_true, Bool.false_eq_true, if_false]
  repeat (first | ((fail_if_success (with_reducible show wpAny _ _ (collect _) _ _ _)); lk))
  refine wpAny_collect_seq D (.inr rfl) ho hc hd (fun h' hk => ?_) (by simpa using hsz)
  refine wpAny_bind (wpAny_pure ?_)
  rw [show vs.toArray.toList.toArray = vs.toArray from by simp]
  refine wpAny_bind (wpAny_alloc (wpAny_bind ?_))
  unfold newObj
  dsimp only
  rw [if_neg (by rw [List.size_toArray]; omega)]
  unfold newObjAsIs classHasDel
  refine wpAny_bind (wpAny_alloc (wpAny_bind (wpAny_bind (wpAny_load (Heap.get?_push_of_some _ (Heap.get?_push_of_some _ (hk _ _ hC'))) (wpAny_pure ?_)))))
  rw [hdel]
  refine wpAny_pure (wpAny_pure ?_)
  have F' : Fr h₀ L h' m := F.keeps hk
  have N' : News h₀ L h' news := fun p hp => ⟨hk _ _ (N p hp).1, (N p hp).2.1, (N p hp).2.2⟩
  have N2 := (N'.push F' (dictOf [] 0)).push (F'.push _) (eteObj h'.objs.size vs)
  exact hQ _ h'.objs.size _ ((F'.push _).push _) N2 (fun p hp => Heap.lt_size (N' p hp).1) (by show h'.objs.size < _; rw [Heap.size_push]; exact Nat.lt_succ_self _)
end
end
section
open PySem PySem.Calls PySem.Spec PySem.W PyProof.Rows Builtin
set_option maxRecDepth 100000
set_option maxHeartbeats 8000000
theorem rsET2 : True := by
  w_top off
  k_with_none
  trivial
local macro_rules | `(tactic| walk_at "getMethod type:tuple") => `(tactic| (k_here; k_dflt (refine' method_type ?F ?X ?t ?hs ?e ?hh ?_; (case F => k_asm); (case X => k_asm); (case t => first | rfl | kernel_rfl); (case hs => decide +kernel); (case e => k_is); (case hh => rfl))))
theorem kw3 : True := by
  k_with "me call builtin:tuple.__new__" => (k_here; refine Stopped.out ?_)
  trivial
theorem ete_tell (w : World) (v1 v2 v3 v4 v5 : Value) (T : Led) :
    Tell w 3 24 175 [v1, v2, v3, v4, v5] T (fun r news' => ∃ x dx tx o, r = .ref x ∧ news' = ((x, eteObj dx [v1, v2, v3, v4, v5]) :: (dx, dictOf [] 0) :: (tx, o) :: T) ∧ (∀ p ∈ T, p.1 < tx) ∧ @LT.lt Nat _ tx dx ∧ @LT.lt Nat _ dx x) := by
  intro loose mean mg mb dp un gd cn cs a ccd cl outer A₀ base h₀ L m s Q E B F X N T hk hd hu hret
  refine wpAny_call (ete_core F X ?_)
  k_dflt cell_enter
  k_steps
  refine Stopped.on ?_
  rename_i D h5 F5 N5 l5
  refine tuple_new_ete F5 (by k_asm) N5 (N5 _ (.head _)).1 rfl rfl (by rw [sizeLine_eq]; simp) ?_
  intro x dx h6 F6 N6 l6 l7
  k_steps
  rename_i kF kN _ _
  exact ⟨x, _, rfl, X.keeps kF.keep, (kN _ (.head _)).1, rfl, hret _ _ _ _ ⟨x, dx, D, _, rfl, rfl, l5, l6 _ (.head _), l7⟩ kF kN⟩
end
section
open PySem PySem.Calls PySem.Spec PySem.W PyProof.Rows
set_option maxRecDepth 100000
set_option maxHeartbeats 8000000
theorem rsPX : True := by
  w_top off
  k_with_none
  trivial
section
variable {prog : Program} {w : World} {A : Around} {E : Value → Shared → Prop} {s : Shared} {h₀ : Heap} {L l : Addr} {m : Str → Option Value} {news : Led} {n : Nat} {items : Array Value} {Q : Value → Shared → Prop}
theorem iter_list (F : Fr h₀ L s.heap m) (N : News h₀ L s.heap news) (hl : (l, listOf items n) ∈ news)
    (h : ∀ it h', Fr h₀ L h' m → News h₀ L h' ((it, iterObj l 0) :: news) → (∀ p ∈ news, p.1 < it) → Q (.ref it) { s with heap := h' }) :
    wpAny (model prog w) A (call (.builtin "iter") [.ref l]) Q E s := by
  have hL : s.heap.IsList l items := ⟨_, (N _ hl).1, rfl, n, rfl⟩
  refine call_function_entry (by decide +kernel) (by decide +kernel) kdk_entry_iter (kdk_args_iter _) ?_
  unfold Builtin.«iter»
  refine wpAny_bind (m := someArgs "iter" 1 2 _) (wpAny_of_eq (a := [Value.ref l]) (by first | rfl | kernel_rfl!) ?_)
  show wpAny _ _ (pyIter (.ref l) >>= _) _ _ _
  refine wpAny_bind (wpAny_pyIter_list hL ?_)
  exact wpAny_pure ⟨_, rfl, h _ _ (F.push _) (News.push F N _ rfl) (fun q hq => Heap.lt_size (N q hq).1)⟩
end
section
variable {w : World} {d u : Nat} {f : Addr} {vs : List Value} {news : Led} {Ret : Value → Led → Prop} {loose : List Str} {mean : ExcName → Option Value} {mg mb : Str → Option Value} {dp un : Nat} {gd : Option (List Code)} {cn : Str} {cs : Scope} {a : Addr} {ccd : Value} {cl : List (Str × Addr)} {outer : List Env} {A₀ : Around} {base h₀ : Heap} {L : Addr} {m : Str → Option Value} {s : Shared} {Q E : Value → Shared → Prop} {all : Led}
theorem tell_use (C : Tell w d u f vs news Ret) (B : Below A₀ base outer h₀) (F : Fr h₀ L s.heap m) (X : (Mine.hd.heap_1 w.params).In h₀) (N : News h₀ L s.heap all) (hn : ∀ p ∈ news, p ∈ all) (T : Top Mine.view loose mean mg mb h₀) (hk : cs.kind = .function) (hd : dp + d < recursionLimit) (hu : un + u < cLine)
    (ret : ∀ r news' h' tk', Ret r news' → Fr h₀ L h' m → News h₀ L h' news' → Q r { s with heap := h', toks := tk' }) :
    wpAny (model PySem.Challenge.pw_kl0477_01 w) (ktrTop dp un gd cn cs L a ccd cl outer) (call (.ref f) vs) Q E s :=
  C _ _ _ _ _ _ _ _ _ _ _ _ _ _ _ _ _ _ _ _ _ B F X (fun p hp => N p (hn p hp)) T hk hd hu ret
theorem stop_use {news' : Led} (C : TellStop w d u f vs news news') (B : Below A₀ base outer h₀) (F : Fr h₀ L s.heap m) (X : (Mine.hd.heap_1 w.params).In h₀) (N : News h₀ L s.heap all) (hn : ∀ p ∈ news, p ∈ all) (T : Top Mine.view loose mean mg mb h₀) (hk : cs.kind = .function) (hd : dp + d < recursionLimit) (hu : un + u < cLine)
    (ret : ∀ e t h' tk' G, Fr h₀ L G m → RaisedS base G (envX cn cs L a ccd cl :: outer) e (.type "StopIteration") t [] news' h' → G.UpToSlots h' → E (.ref e) { s with heap := h', toks := tk' }) :
    wpAny (model PySem.Challenge.pw_kl0477_01 w) (ktrTop dp un gd cn cs L a ccd cl outer) (call (.ref f) vs) Q E s :=
  C _ _ _ _ _ _ _ _ _ _ _ _ _ _ _ _ _ _ _ _ _ B F X (fun p hp => N p (hn p hp)) T hk hd hu ret
end
theorem grab_env {M : Model} {A : Around} {E : Value → Shared → Prop} {s : Shared} {Q : Flow → Shared → Prop} {b : List Stmt} {env : Env} (h : ∀ env', env' = env → wpAny M A (execs b env) Q E s) : wpAny M A (execs b env) Q E s := h env rfl
/-- a contract of a call below which an exception may be caught: the frames below may be marked -/
def TellT (w : World) (d u : Nat) (f : Addr) (vs : List Value) (news : Led) (Ret : Value → Led → Prop) : Prop :=
  ∀ (loose : List Str) (mean : ExcName → Option Value) (mg mb : Str → Option Value) (dp un : Nat) (gd : Option (List Code)) (cn : Str) (cs : Scope) (a : Addr) (ccd : Value) (cl : List (Str × Addr)) (outer : List Env) (A₀ : Around) (base h₀ : Heap) (L : Addr) (m : Str → Option Value) (s : Shared) (Q E : Value → Shared → Prop),
    Below A₀ base outer h₀ → Fr h₀ L s.heap m → (Mine.hd.heap_1 w.params).In h₀ → News h₀ L s.heap news → Top Mine.view loose mean mg mb h₀ → (Mine.hd.heap_1 w.params).In base → Top Mine.view loose mean mg mb base → KtsDicts (outer.filterMap (·.frame)) h₀ → cs.kind = .function → dp + d < recursionLimit → un + u < cLine →
    (∀ r news' h' tk' h₀', Ret r news' → KtsTurn (outer.filterMap (·.frame)) h₀ h₀' → Below A₀ base outer h₀' → Fr h₀' L h' m → (Mine.hd.heap_1 w.params).In h₀' → News h₀' L h' news' → Top Mine.view loose mean mg mb h₀' → KtsDicts (outer.filterMap (·.frame)) h₀' → Q r { s with heap := h', toks := tk' }) →
    wpAny (model PySem.Challenge.pw_kl0477_01 w) (ktrTop dp un gd cn cs L a ccd cl outer) (call (.ref f) vs) Q E s
theorem kw4 : True := by
  k_with "me exec" => (k_here; (with_reducible show wpAny _ _ (exec (Stmt.While _ _ _ _) _) _ _ _); refine Stopped.out ?_)
  k_with "me exec Try" => (k_here; refine Stopped.out ?_)
  trivial
local macro_rules | `(tactic| walk_at "call builtin:iter") => `(tactic| (k_here; k_dflt (refine' iter_list ?F ?N ?p ?_; (case F => k_asm); (case N => k_asm); (case p => k_mem)); intro it' h' F' N' l1; (try k_lt l1)))
local macro_rules | `(tactic| ktr_rel) => `(tactic| (refine' code_T ?k1 ?k2 ?k3 ?k4 ?k5 ?kXB ?kTB ?kD ?kA ?kF ?kK ?k6 ?k7 ?k8 ?k9 ?kB ?_ ?c2 ?c3 ?c4 ?c5; (case kA => exact rfl); (case kF => exact rfl); (case kK => assumption); (case k1 => k_asm); (case k2 => k_asm); (case k3 => k_asm); (case k4 => k_asm); (case k5 => k_asm); (case kXB => k_asm); (case kTB => k_asm); (case kD => k_asm); (case k6 => k_is); (case k7 => k_is); (case k8 => ktr_room); (case k9 => exact BindsTo.of_eq rfl); (case c5 => decide); (case kB => exact locs rfl); (case c2 => exact rfl); (case c3 => exact rfl); (case c4 => exact rfl); k_whole; intro g' L' h' FG' F' N' B' X' T' D' l1; (try dsimp only); (try k_fold)))
local macro_rules | `(tactic| walk_at "binaryOp BitAnd int int") => `(tactic| first | with_reducible refine and63_int ?_ | with_reducible refine and1_int ?_ | (with_reducible refine and64_int (by first | assumption | omega) (by first | assumption | omega) ?_))
theorem kw5 : True := by
  k_with "me call ref" => (k_here; (with_reducible show wpAny _ _ (call (Value.ref _) _) _ _ _); refine Stopped.out ?_)
  k_with "me call builtin:list.append" => (k_here; refine Stopped.out ?_)
  trivial
inductive EtesIn (news : Led) : List Value → List (Int × Int × Int × Int) → Prop
  | nil : EtesIn news [] []
  | cons {x dx : Addr} {a b c d : Int} {t1 t2 t3 t4 : Tok} {vs : List Value} {es : List (Int × Int × Int × Int)} :
      (x, eteObj dx [.int (a * 2) t1, .int (a * 2 + b * 2) t2, .int (c * 2) t3, .int (d / 2) t4, .bool (d % 2 == 1)]) ∈ news → EtesIn news vs es → EtesIn news (.ref x :: vs) ((a, b, c, d) :: es)
theorem EtesIn.mono {news news' : Led} {vs : List Value} {es : List (Int × Int × Int × Int)} (h : EtesIn news vs es) (hs : ∀ p ∈ news, p ∈ news') : EtesIn news' vs es := by
  induction h with
  | nil => exact .nil
  | cons hm _ ih => exact .cons (hs _ hm) ih
theorem EtesIn.append {news : Led} {vs ws : List Value} {es fs : List (Int × Int × Int × Int)} (h : EtesIn news vs es) (k : EtesIn news ws fs) : EtesIn news (vs ++ ws) (es ++ fs) := by
  induction h with
  | nil => exact k
  | cons hm _ ih => exact .cons hm ih
theorem EtesIn.length {news : Led} {vs : List Value} {es : List (Int × Int × Int × Int)} (h : EtesIn news vs es) : vs.length = es.length := by
  induction h with
  | nil => rfl
  | cons _ _ ih => simp [ih]
structure PxS where
  refs : List Value
  es : List (Int × Int × Int × Int)
  rest : List Int
  i : Nat
  New : Led
  ne : Nat
def PxRet (T : Led) (es : List (Int × Int × Int × Int)) (r : Value) (news' : Led) : Prop :=
  ∃ en refs ne New, r = .ref en ∧ news' = (en, listOf refs.toArray ne) :: (New ++ T) ∧ EtesIn New refs es ∧ (∀ p ∈ T, p.1 < en) ∧ (∀ p ∈ New, en < p.1)
theorem pxt (w : World) (co dx l : Addr) (kh : Int) (kt : Tok) (vs : List Value) (xs : List Int) (hI : IntsAre vs xs) (n : Nat) (ws : List Int) (hW : VarsAt xs 0 ws) (hws : ws.length ≤ 1000) (T : Led) (h1 : (co, instObj 81 dx) ∈ T) (h2 : (dx, dictOf [⟨kh, .str (Str.ofString "co_exceptiontable") kt, .ref l⟩] 1) ∈ T) (h3 : (l, listOf vs.toArray n) ∈ T) :
    TellT w 5 40 192 [.ref co] T (PxRet T (rows4 ws)) := by
  intro loose mean mg mb dp un gd cn cs a ccd cl outer A₀ base h₀ L m s Q E B F X N Tp XB TB D hk hd hu hret
  refine wpAny_call ?_
  k_dflt ktr_rel
  k_steps
  rename_i g L' _ FG BG XG TG DG lG _ it _ l1a _ _ en _ l1b _ F9 N9
  obtain ⟨l2, l3⟩ := l1b
  have hTen : ∀ p ∈ T, p.1 < en := ktn_ltOf l3
  refine Stopped.on ?_
  refine wpAny_Try_except ?_
  refine grab_env (fun env9 he9 => ?_)
  k_fold
  have hcatch : ∀ (m' : Str → Option Value) (e t : Addr) (h' : Heap) (tk' : Nat) (G : Heap) (refs : List Value) (es : List (Int × Int × Int × Int)) (New : Led) (ne : Nat) (io : Obj), m' (Str.ofString "entries") = some (.ref en) → rows4 ws = es → EtesIn New refs es → (∀ p ∈ New, en < p.1) →
      Fr g L' G m' → RaisedS base G (env9 :: envX cn cs L a ccd cl :: outer) e (.type "StopIteration") t [] ((it, io) :: (l, listOf vs.toArray n) :: (en, listOf refs.toArray ne) :: (New ++ T)) h' → G.UpToSlots h' → ek (.ref e) { s with heap := h', toks := tk' } := by
    intro m' e t h' tk' G refs es New ne io hm hes hEt hNew FG' R U
    subst he9
    refine caught_S0 (T' := "StopIteration") R FG' BG U XB TB DG KtsTurn.refl (by k_is) (by boot_by_name) (by decide) (by rw [isSubtype_type]; kernel_rfl) (by rw [isSubtype_type]; kernel_rfl) owsi_facts.sub ?_
    intro h5 g5 n5 T5 F5 _ _ N5 B5 X5 P5 D5
    k_steps
    refine ld F5 hm ?_
    k_steps
    show LeaveT _ _ _ _ _ _ _ _ _ _ _ _ _ _ _ _ _
    exact ⟨g5, L', m', (en, listOf refs.toArray ne) :: (New ++ T), T5, F5, fun p hp => N5 p (.tail _ (.tail _ hp)), fun h₀' kT kF kN kB kX kP kD =>
      hret _ _ _ _ h₀' ⟨en, refs, ne, New, rfl, rfl, hes ▸ hEt, hTen, hNew⟩ kT kB kF kX kN kP kD⟩
  clear hret
  k_steps
  refine Stopped.on ?_
  refine' while_onS (σ := PxS) (fun c => (it, iterObj l c.i) :: (en, listOf c.refs.toArray c.ne) :: (c.New ++ T)) (fun c => []) [Str.ofString "start", Str.ofString "length", Str.ofString "end", Str.ofString "target", Str.ofString "dl", Str.ofString "depth", Str.ofString "lasti"]
    (fun c => VarsAt xs c.i c.rest ∧ rows4 ws = c.es ++ rows4 c.rest ∧ EtesIn c.New c.refs c.es ∧ ∀ p ∈ c.New, en < p.1) (fun c => c.rest.length) F9 N9 ?init ?turn ?hE
  case init => exact ⟨⟨[], [], ws, 0, [], 0⟩, List.forall_mem_nil _, fun p hp => by
    rcases List.mem_cons.mp hp with rfl | hp
    · exact .tail _ (.head _)
    rcases List.mem_cons.mp hp with rfl | hp
    · exact .head _
    · exact .tail _ (.tail _ hp), hW, rfl, .nil, List.forall_mem_nil _⟩
  case hE => passes_own
  case turn =>
    intro c u h tk hP F1 N1
    obtain ⟨refs, es, rest, i, New, ne⟩ := c
    dsimp only [kstB] at hP F1 N1
    obtain ⟨hV, hR, hEt, hNew⟩ := hP
    have hoff : ∀ p ∈ (en, listOf refs.toArray ne) :: (New ++ T), p.1 ≠ it := fun p hp => by
      rcases List.mem_cons.mp hp with rfl | hp
      · exact Nat.ne_of_gt l2
      rcases List.mem_append.mp hp with hp | hp
      · exact Nat.ne_of_gt (Nat.lt_trans l2 (hNew p hp))
      · exact Nat.ne_of_lt (l1a p hp)
    have hil : @LT.lt Nat _ l it := l1a _ h3
    have hin : ∀ io, ∀ p ∈ (it, io) :: (l, listOf vs.toArray n) :: (en, listOf refs.toArray ne) :: (New ++ T), p ∈ (it, io) :: (en, listOf refs.toArray ne) :: (New ++ T) := fun io p hp => by
      rcases List.mem_cons.mp hp with rfl | hp
      · exact .head _
      rcases List.mem_cons.mp hp with rfl | hp
      · exact .tail _ (.tail _ (List.mem_append_right _ h3))
      · exact .tail _ hp
    k_steps
    refine Stopped.on ?_
    cases hV with
    | nil hx =>
      exact stop_use (pv_stop w it l vs n _ (IntsAre.none hI hx) _ hoff hil) BG (by k_asm) XG (by k_asm) (hin _) TG rfl (by ktr_room) (by ktr_units) (fun e t h' tk' G FG' R U => hcatch _ e t h' tk' G refs es New ne (spentObj _) rfl (by rw [hR]; simp [rows4]) hEt hNew FG' (by rw [he9]; exact R) U)
    | @cons _ j1 b1 v1 _ hx h0 h1 hv hv2 hV =>
      have hp1 := hv.nonneg (by omega)
      refine tell_use (pv w it l vs xs hI n _ _ _ _ hx h0 h1 hv hv2 _ hoff hil) BG (by k_asm) XG (by k_asm) (hin _) TG rfl (by ktr_room) (by ktr_units) ?_
      rintro r news' h' tk' ⟨t1, rfl, rfl⟩ F2 N2
      clear hx h0 h1 hv
      k_steps
      refine Stopped.on ?_
      cases hV with
      | nil hx =>
        exact stop_use (pv_stop w it l vs n _ (IntsAre.none hI hx) _ hoff hil) BG (by k_asm) XG (by k_asm) (fun p hp => hp) TG rfl (by ktr_room) (by ktr_units) (fun e t h' tk' G FG' R U => hcatch _ e t h' tk' G refs es New ne (spentObj _) rfl (by rw [hR]; simp [rows4]) hEt hNew FG' (by rw [he9]; exact R) U)
      | @cons _ j2 b2 v2 _ hx h0 h1 hv hv2 hV =>
        have hp2 := hv.nonneg (by omega)
        refine tell_use (pv w it l vs xs hI n _ _ _ _ hx h0 h1 hv hv2 _ hoff hil) BG (by k_asm) XG (by k_asm) (fun p hp => hp) TG rfl (by ktr_room) (by ktr_units) ?_
        rintro r news' h' tk' ⟨t2, rfl, rfl⟩ F2 N2
        clear hx h0 h1 hv
        k_steps
        refine Stopped.on ?_
        cases hV with
        | nil hx =>
          exact stop_use (pv_stop w it l vs n _ (IntsAre.none hI hx) _ hoff hil) BG (by k_asm) XG (by k_asm) (fun p hp => hp) TG rfl (by ktr_room) (by ktr_units) (fun e t h' tk' G FG' R U => hcatch _ e t h' tk' G refs es New ne (spentObj _) rfl (by rw [hR]; simp [rows4]) hEt hNew FG' (by rw [he9]; exact R) U)
        | @cons _ j3 b3 v3 _ hx h0 h1 hv hv2 hV =>
          have hp3 := hv.nonneg (by omega)
          refine tell_use (pv w it l vs xs hI n _ _ _ _ hx h0 h1 hv hv2 _ hoff hil) BG (by k_asm) XG (by k_asm) (fun p hp => hp) TG rfl (by ktr_room) (by ktr_units) ?_
          rintro r news' h' tk' ⟨t3, rfl, rfl⟩ F2 N2
          clear hx h0 h1 hv
          k_steps
          refine Stopped.on ?_
          cases hV with
          | nil hx =>
            exact stop_use (pv_stop w it l vs n _ (IntsAre.none hI hx) _ hoff hil) BG (by k_asm) XG (by k_asm) (fun p hp => hp) TG rfl (by ktr_room) (by ktr_units) (fun e t h' tk' G FG' R U => hcatch _ e t h' tk' G refs es New ne (spentObj _) rfl (by rw [hR]; simp [rows4]) hEt hNew FG' (by rw [he9]; exact R) U)
          | @cons _ j4 b4 v4 vs_1 hx h0 h1 hv hv2 hV =>
            have hp4 := hv.nonneg (by omega)
            refine tell_use (pv w it l vs xs hI n _ _ _ _ hx h0 h1 hv hv2 _ hoff hil) BG (by k_asm) XG (by k_asm) (fun p hp => hp) TG rfl (by ktr_room) (by ktr_units) ?_
            rintro r news' h' tk' ⟨t4, rfl, rfl⟩ F2 N2
            clear hx h0 h1 hv
            k_steps
            refine Stopped.on ?_
            rw [shr1, odd1]
            refine tell_use (ete_tell w _ _ _ _ _ _) BG (by k_asm) XG (by k_asm) (fun p hp => hp) TG rfl (by ktr_room) (by ktr_units) ?_
            rintro r news' h' tk' ⟨x, dx', tx, o, rfl, rfl, lx1, lx2, lx3⟩ F3 N3
            k_steps
            refine Stopped.on ?_
            have hlx : en < x := Nat.lt_trans (Nat.lt_trans (lx1 _ (.tail _ (.tail _ (.head _)))) lx2) lx3
            obtain ⟨q1, q2, q3, q4, N4⟩ : ∃ q1 q2 q3 q4, News g L' h' ((en, listOf refs.toArray ne) :: (it, iterObj l j4) :: (x, eteObj dx' [.int (v1 * 2) q1, .int (v1 * 2 + v2 * 2) q2, .int (v3 * 2) q3, .int (v4 / 2) q4, .bool (v4 % 2 == 1)]) :: (New ++ T)) := ⟨_, _, _, _, fun p hp => by
              rcases List.mem_cons.mp hp with rfl | hp
              · exact N3 _ (.tail _ (.tail _ (.tail _ (.tail _ (.tail _ (.head _))))))
              rcases List.mem_cons.mp hp with rfl | hp
              · exact N3 _ (.tail _ (.tail _ (.tail _ (.head _))))
              rcases List.mem_cons.mp hp with rfl | hp
              · exact N3 _ (.head _)
              · exact N3 _ (.tail _ (.tail _ (.tail _ (.tail _ (.tail _ (.tail _ hp))))))⟩
            have hes : rows4 ws = (es ++ [(v1, v2, v3, v4)]) ++ rows4 vs_1 := by rw [hR]; simp [rows4]
            have hlen := rows4_len ws
            have hlen2 := congrArg List.length hes
            simp only [List.length_append, List.length_cons, List.length_nil] at hlen2
            have hrl := hEt.length
            refine append_K (by k_asm) N4 (Upd.head fun p hp => ?_) ?_ (by rw [List.size_toArray, sizeLine_eq]; omega)
            · rcases List.mem_cons.mp hp with rfl | hp
              · exact Nat.ne_of_lt l2
              rcases List.mem_cons.mp hp with rfl | hp
              · exact Nat.ne_of_gt hlx
              rcases List.mem_append.mp hp with hp | hp
              · exact Nat.ne_of_gt (hNew p hp)
              · exact Nat.ne_of_lt (hTen p hp)
            · intro h5 F5 N5
              k_steps
              refine ksw_end ⟨refs ++ [.ref x], es ++ [(v1, v2, v3, v4)], vs_1, j4, (x, eteObj dx' [.int (v1 * 2) q1, .int (v1 * 2 + v2 * 2) q2, .int (v3 * 2) q3, .int (v4 / 2) q4, .bool (v4 % 2 == 1)]) :: New, ne + 1⟩ F5 N5 (fun p hp => ?_) trivial (List.forall_mem_nil _) (by ksw_same) ⟨hV, hes, (hEt.mono fun p hp => .tail _ hp).append (.cons (.head _) .nil), fun p hp => ?_⟩ (by dsimp only; simp only [List.length_cons]; omega)
              · dsimp only at hp
                rcases List.mem_cons.mp hp with rfl | hp
                · exact .tail _ (.head _)
                rcases List.mem_cons.mp hp with rfl | hp
                · simp
                · exact .tail _ (.tail _ hp)
              · rcases List.mem_cons.mp hp with rfl | hp
                · exact hlx
                · exact hNew p hp
end
section
open PySem PySem.Calls PySem.Spec PySem.W PyProof.Rows
set_option maxRecDepth 100000
set_option maxHeartbeats 8000000
theorem rsLE : True := by
  w_top off
  k_with_none
  trivial
section
variable {w : World} {d u : Nat} {f : Addr} {vs : List Value} {news : Led} {Ret : Value → Led → Prop} {loose : List Str} {mean : ExcName → Option Value} {mg mb : Str → Option Value} {dp un : Nat} {gd : Option (List Code)} {cn : Str} {cs : Scope} {a : Addr} {ccd : Value} {cl : List (Str × Addr)} {outer : List Env} {A₀ : Around} {base h₀ : Heap} {L : Addr} {m : Str → Option Value} {s : Shared} {Q E : Value → Shared → Prop} {all : Led}
theorem tellT_use (C : TellT w d u f vs news Ret) (B : Below A₀ base outer h₀) (F : Fr h₀ L s.heap m) (X : (Mine.hd.heap_1 w.params).In h₀) (N : News h₀ L s.heap all) (hn : ∀ p ∈ news, p ∈ all) (T : Top Mine.view loose mean mg mb h₀) (XB : (Mine.hd.heap_1 w.params).In base) (TB : Top Mine.view loose mean mg mb base) (D : KtsDicts (outer.filterMap (·.frame)) h₀) (hk : cs.kind = .function) (hd : dp + d < recursionLimit) (hu : un + u < cLine)
    (ret : ∀ r news' h' tk' h₀', Ret r news' → KtsTurn (outer.filterMap (·.frame)) h₀ h₀' → Below A₀ base outer h₀' → Fr h₀' L h' m → (Mine.hd.heap_1 w.params).In h₀' → News h₀' L h' news' → Top Mine.view loose mean mg mb h₀' → KtsDicts (outer.filterMap (·.frame)) h₀' → Q r { s with heap := h', toks := tk' }) :
    wpAny (model PySem.Challenge.pw_kl0477_01 w) (ktrTop dp un gd cn cs L a ccd cl outer) (call (.ref f) vs) Q E s :=
  C _ _ _ _ _ _ _ _ _ _ _ _ _ _ _ _ _ _ _ _ _ B F X (fun p hp => N p (hn p hp)) T XB TB D hk hd hu ret
end
local macro_rules | `(tactic| ktr_rel) => `(tactic| (refine' code_T ?k1 ?k2 ?k3 ?k4 ?k5 ?kXB ?kTB ?kD ?kA ?kF ?kK ?k6 ?k7 ?k8 ?k9 ?kB ?_ ?c2 ?c3 ?c4 ?c5; (case kA => exact rfl); (case kF => exact rfl); (case kK => assumption); (case k1 => k_asm); (case k2 => k_asm); (case k3 => k_asm); (case k4 => k_asm); (case k5 => k_asm); (case kXB => k_asm); (case kTB => k_asm); (case kD => k_asm); (case k6 => k_is); (case k7 => k_is); (case k8 => ktr_room); (case k9 => exact BindsTo.of_eq rfl); (case c5 => decide); (case kB => exact locs rfl); (case c2 => exact rfl); (case c3 => exact rfl); (case c4 => exact rfl); k_whole; intro g' L' h' FG' F' N' B' X' T' D' l1; (try dsimp only); (try k_fold)))
theorem kw6 : True := by
  k_with "me call ref" => (k_here; (with_reducible show wpAny _ _ (call (Value.ref 192) _) _ _ _); refine Stopped.out ?_)
  trivial
theorem les (w : World) (l : Addr) (vs : List Value) (xs : List Int) (hI : IntsAre vs xs) (n : Nat) (ws : List Int) (hW : VarsAt xs 0 ws) (hws : ws.length ≤ 1000) (T : Led) (h3 : (l, listOf vs.toArray n) ∈ T) :
    TellT w 6 48 271 [.ref l] T (PxRet T (rows4 ws)) := by
  intro loose mean mg mb dp un gd cn cs a ccd cl outer A₀ base h₀ L m s Q E B F X N Tp XB TB D hk hd hu hret
  refine wpAny_call ?_
  k_dflt ktr_rel
  k_steps
  rename_i g L' _ FG BG XG TG DG lG co dx _ lT ldx _ _ F9 N9
  refine Stopped.on ?_
  refine tellT_use (pxt w co dx l _ _ vs xs hI n ws hW hws _ (.head _) (.tail _ (.head _)) (.tail _ (.tail _ h3))) BG F9 XG N9 (fun p hp => hp) TG XB TB DG rfl (by ktr_room) (by ktr_units) ?_
  rintro r news' h' tk' g2 ⟨en, refs, ne, New, rfl, rfl, hEt, hT, hNew⟩ T2 B2 F2 X2 N2 P2 D2
  show LeaveT _ _ _ _ _ _ _ _ _ _ _ _ _ _ _ _ _
  exact ⟨g2, L', _, (en, listOf refs.toArray ne) :: (New ++ T), T2, F2, fun p hp => N2 p (by
      rcases List.mem_cons.mp hp with rfl | hp
      · exact .head _
      rcases List.mem_append.mp hp with hp | hp
      · exact .tail _ (List.mem_append_left _ hp)
      · exact .tail _ (List.mem_append_right _ (.tail _ (.tail _ hp)))), fun h₀' kT kF kN kB kX kP kD =>
    hret _ _ _ _ h₀' ⟨en, refs, ne, New, rfl, rfl, hEt, fun p hp => hT p (.tail _ (.tail _ hp)), hNew⟩ kT kB kF kX kN kP kD⟩
end
section
open PySem PySem.W PyProof.Rows
/-- the flagged figures of a number, the greatest first -/
def encR (n : Int) : List Int := if 63 < n then encR (n / 64) ++ [n / 64 % 64 + 64] else []
termination_by n.toNat
decreasing_by omega
def enc (n : Int) : List Int := encR n ++ [n % 64]
theorem encR_big {n : Int} (h : 63 < n) : encR n = encR (n / 64) ++ [n / 64 % 64 + 64] := by rw [encR, if_pos h]
theorem encR_small {n : Int} (h : ¬ 63 < n) : encR n = [] := by rw [encR, if_neg h]
def mark128 : List Int → List Int
  | [] => []
  | b :: r => (b + 128) :: r
def octs (ns : List Int) : List Int := mark128 (ns.flatMap enc)
theorem encR_len (n : Int) : ∀ k : Nat, n < 64 ^ (k + 1) → (encR n).length ≤ k := by
  intro k
  induction k generalizing n with
  | zero => intro h; rw [encR_small (by omega)]; exact Nat.le_refl _
  | succ k ih =>
    intro h
    by_cases h63 : 63 < n
    · rw [encR_big h63, List.length_append]
      have : n / 64 < 64 ^ (k + 1) := by
        have e : (64 : Int) ^ (k + 1 + 1) = 64 ^ (k + 1) * 64 := by rw [Int.pow_succ]
        rw [e] at h
        omega
      have := ih _ this
      simp only [List.length_cons, List.length_nil]
      omega
    · rw [encR_small h63]; exact Nat.zero_le _
theorem enc_len {n : Int} (h : n < 2 ^ 60) : (enc n).length ≤ 10 := by
  have := encR_len n 9 (by omega)
  simp only [enc, List.length_append, List.length_cons, List.length_nil]
  omega
theorem enc_ne (n : Int) : enc n ≠ [] := by simp [enc]
/-- the octets from i up to k are the flagged figures of m -/
inductive Flag (xs : List Int) (i : Nat) : Int → Nat → Prop
  | one {m b : Int} : 0 ≤ m → m < 64 → xs[i]? = some b → 0 ≤ b → b < 256 → b % 128 = m + 64 → Flag xs i m (i + 1)
  | more {m b : Int} {k : Nat} : 64 ≤ m → Flag xs i (m / 64) k → xs[k]? = some b → 0 ≤ b → b < 256 → b % 128 = m % 64 + 64 → Flag xs i m (k + 1)
theorem Flag.read {xs : List Int} {i : Nat} {m : Int} {k : Nat} (h : Flag xs i m k) : ∃ b0, xs[i]? = some b0 ∧ 0 ≤ b0 ∧ b0 < 256 ∧ 0 ≤ m ∧ ∀ (v : Int) (j : Nat), (∀ b, b / 64 % 2 = 1 → VarTo xs b m k v j) → VarTo xs b0 (b0 % 64) (i + 1) v j := by
  induction h with
  | @one m b h0 h1 hx hb0 hb1 hb =>
    refine ⟨b, hx, hb0, hb1, h0, fun v j k => ?_⟩
    have e : b % 64 = m := by omega
    rw [e]
    exact k b (by omega)
  | @more m b k hm _ hx hb0 hb1 hb ih =>
    obtain ⟨b0, h1, h2, h3, h4, h5⟩ := ih
    refine ⟨b0, h1, h2, h3, by omega, fun v j hk => h5 v j fun b' hb' => ?_⟩
    refine .step hb' hx hb0 hb1 ?_
    have e : m / 64 * 64 + b % 64 = m := by omega
    rw [e]
    exact hk b (by omega)
theorem encR_flag (n : Int) (h63 : 63 < n) : ∀ (xs : List Int) (i : Nat), (∀ t x, (encR n)[t]? = some x → ∃ b, xs[i + t]? = some b ∧ 0 ≤ b ∧ b < 256 ∧ b % 128 = x) → Flag xs i (n / 64) (i + (encR n).length) := by
  have main : ∀ (f : Nat) (n : Int), n.toNat ≤ f → 63 < n → ∀ (xs : List Int) (i : Nat), (∀ t x, (encR n)[t]? = some x → ∃ b, xs[i + t]? = some b ∧ 0 ≤ b ∧ b < 256 ∧ b % 128 = x) → Flag xs i (n / 64) (i + (encR n).length) := by
    intro f
    induction f with
    | zero => intro n h1 h2; omega
    | succ f ih =>
      intro n hf h63 xs i hx
      by_cases h2 : 63 < n / 64
      · have hr := ih (n / 64) (by omega) h2 xs i fun t x ht => hx t x (by
          rw [encR_big h63, List.getElem?_append_left (List.getElem?_eq_some_iff.mp ht).1]; exact ht)
        obtain ⟨b, hb, hb0, hb1, hb2⟩ := hx (encR (n / 64)).length (n / 64 % 64 + 64) (by rw [encR_big h63]; simp)
        rw [encR_big h63, List.length_append]
        exact .more (by omega) hr hb hb0 hb1 hb2
      · obtain ⟨b, hb, hb0, hb1, hb2⟩ := hx 0 (n / 64 % 64 + 64) (by rw [encR_big h63, encR_small h2]; rfl)
        rw [encR_big h63, encR_small h2]
        exact .one (by omega) (by omega) hb hb0 hb1 (by omega)
  exact main n.toNat n (Nat.le_refl _) h63
theorem enc_read (n : Int) (hn : 0 ≤ n) (xs : List Int) (i : Nat) (hx : ∀ t x, (enc n)[t]? = some x → ∃ b, xs[i + t]? = some b ∧ 0 ≤ b ∧ b < 256 ∧ b % 128 = x) :
    ∃ b0, xs[i]? = some b0 ∧ 0 ≤ b0 ∧ b0 < 256 ∧ VarTo xs b0 (b0 % 64) (i + 1) n (i + (enc n).length) := by
  have hl : (enc n).length = (encR n).length + 1 := by simp [enc]
  obtain ⟨b, hb, hb0, hb1, hb2⟩ := hx (encR n).length (n % 64) (by simp [enc])
  by_cases h63 : 63 < n
  · have F := encR_flag n h63 xs i fun t x ht => hx t x (by rw [enc, List.getElem?_append_left (List.getElem?_eq_some_iff.mp ht).1]; exact ht)
    obtain ⟨b0, h1, h2, h3, h4, h5⟩ := F.read
    refine ⟨b0, h1, h2, h3, h5 _ _ fun b' hb' => ?_⟩
    refine .step hb' hb hb0 hb1 ?_
    have e : n / 64 * 64 + b % 64 = n := by omega
    rw [e, hl]
    exact .stop (by omega)
  · have he : encR n = [] := encR_small h63
    rw [he] at hb hl
    simp only [List.length_nil, Nat.add_zero, Nat.zero_add] at hb hl
    refine ⟨b, hb, hb0, hb1, ?_⟩
    rw [hl]
    have e : b % 64 = n := by omega
    rw [e]
    exact .stop (by omega)
theorem encR_range (n : Int) : ∀ x ∈ encR n, 0 ≤ x ∧ x < 128 := by
  have main : ∀ (f : Nat) (n : Int), n.toNat ≤ f → ∀ x ∈ encR n, 0 ≤ x ∧ x < 128 := by
    intro f
    induction f with
    | zero => intro n h1 x hx; rw [encR_small (by omega)] at hx; simp at hx
    | succ f ih =>
      intro n hf x hx
      by_cases h63 : 63 < n
      · rw [encR_big h63] at hx
        rcases List.mem_append.mp hx with hx | hx
        · exact ih (n / 64) (by omega) x hx
        · simp at hx; omega
      · rw [encR_small h63] at hx; simp at hx
  exact main n.toNat n (Nat.le_refl _)
theorem enc_range (n : Int) : ∀ x ∈ enc n, 0 ≤ x ∧ x < 128 := by
  intro x hx
  rcases List.mem_append.mp hx with hx | hx
  · exact encR_range n x hx
  · simp at hx; omega
theorem vars_of (xs : List Int) : ∀ (ns : List Int) (i : Nat), (∀ n ∈ ns, 0 ≤ n ∧ n < 2 ^ 60) → (∀ t x, (ns.flatMap enc)[t]? = some x → ∃ b, xs[i + t]? = some b ∧ 0 ≤ b ∧ b < 256 ∧ b % 128 = x) → xs.length = i + (ns.flatMap enc).length → VarsAt xs i ns
  | [], i, _, _, hl => .nil (by simp at hl; simp [hl])
  | n :: ns, i, hn, hx, hl => by
    simp only [List.flatMap_cons, List.length_append] at hl
    obtain ⟨b0, h1, h2, h3, h4⟩ := enc_read n (hn n (.head _)).1 xs i fun t x ht => hx t x (by
      rw [List.flatMap_cons, List.getElem?_append_left (List.getElem?_eq_some_iff.mp ht).1]; exact ht)
    refine .cons h1 h2 h3 h4 ?_ (vars_of xs ns _ (fun m hm => hn m (.tail _ hm)) (fun t x ht => ?_) (by omega))
    · have := (hn n (.head _)).2
      omega
    · have := hx ((enc n).length + t) x (by rw [List.flatMap_cons, List.getElem?_append_right (by omega)]; rw [Nat.add_sub_cancel_left]; exact ht)
      rw [Nat.add_assoc]
      exact this
theorem mark128_len (l : List Int) : (mark128 l).length = l.length := by cases l <;> rfl
theorem octs_vars (ns : List Int) (hn : ∀ n ∈ ns, 0 ≤ n ∧ n < 2 ^ 60) : VarsAt (octs ns) 0 ns := by
  refine vars_of _ ns 0 hn (fun t x ht => ?_) (by rw [octs, mark128_len, Nat.zero_add])
  have hr : 0 ≤ x ∧ x < 128 := by
    have hm := List.mem_of_getElem? ht
    obtain ⟨n, _, hx⟩ := List.mem_flatMap.mp hm
    exact enc_range n x hx
  rw [Nat.zero_add]
  unfold octs
  cases hl : ns.flatMap enc with
  | nil => rw [hl] at ht; simp at ht
  | cons a r =>
    rw [hl] at ht
    cases t with
    | zero => simp at ht; subst ht; exact ⟨a + 128, rfl, by omega, by omega, by omega⟩
    | succ t => simp at ht; exact ⟨x, by simpa [mark128] using ht, by omega, by omega, by omega⟩
end
section
open PySem PySem.Calls PySem.Spec PySem.W PyProof.Rows
set_option maxRecDepth 100000
set_option maxHeartbeats 8000000
theorem rsLO : True := by
  w_top off
  k_with_none
  trivial
local macro_rules | `(tactic| walk_at "none such") => `(tactic| trivial)
theorem kw7 : True := by
  k_with "me pyIter ref" => (k_here; refine Stopped.out ?_)
  k_with "me exec" => (k_here; (with_reducible show wpAny _ _ (exec (Stmt.While _ _ _ _) _) _ _ _); refine Stopped.out ?_)
  trivial
structure LoS where
  os : List Value
  xs : List Int
  no : Nat
structure LfS where
  cur : Int
  t : Tok
  fs : List Value
  ys : List Int
  nf : Nat
def OctRet (T : Led) (os : List Int) (r : Value) (news' : Led) : Prop :=
  ∃ ol vs n, r = .ref ol ∧ news' = (ol, listOf vs.toArray n) :: T ∧ IntsAre vs os ∧ ∀ p ∈ T, p.1 < ol
theorem lo (w : World) (nl : Addr) (vs : List Value) (ns : List Int) (hI : IntsAre vs ns) (hns : ∀ n ∈ ns, 0 ≤ n ∧ n < 2 ^ 60) (hne : ns ≠ []) (hlen : ns.length ≤ 10) (n : Nat) (T : Led) (h3 : (nl, listOf vs.toArray n) ∈ T) :
    Tell w 1 8 264 [.ref nl] T (OctRet T (octs ns)) := by
  intro loose mean mg mb dp un gd cn cs a ccd cl outer A₀ base h₀ L m s Q E B F X N Tp hk hd hu hret
  refine wpAny_call ?_
  k_dflt cell_enter
  k_steps
  refine Stopped.on ?_
  rename_i g L' _ FG BG XG TG ol _ lT _ F9 N9
  rename IntsAre _ _ => hI
  refine' kst_listL (σ := LoS) (fun c => (ol, listOf c.os.toArray c.no) :: T) (fun _ => []) (fun _ => True) [Str.ofString "figures"] (fun pre c => IntsAre c.os c.xs ∧ c.xs = pre.flatMap enc) ⟨[], [], 0⟩ ?zh (fun _ => .tail _ h3) hI F9 N9 trivial (List.forall_mem_nil _) ⟨.nil, rfl⟩ ?zt ?zd
  case zh => rfl
  case zt =>
    rintro ⟨os, xs, no⟩ pre post n1 t1 u h1 tk1 own hsplit hmem hoff _ ⟨hO, hX⟩ F1 N1
    dsimp only [kstB] at hO hX F1 N1 ⊢
    k_steps
    rename_i fl _ _ _ lfl _ F2 N2
    refine Stopped.on ?_
    have hfl : ∀ p ∈ ((ol, listOf os.toArray no) :: T ++ own), p.1 ≠ fl := fun p hp => Nat.ne_of_lt (lfl p hp)
    have hn1 := hns n1 hmem
    have hol : ∀ p ∈ T ++ own, p.1 ≠ ol := fun p hp => by
      rcases List.mem_append.mp hp with hp | hp
      · exact Nat.ne_of_lt (lT p hp)
      · exact hoff p hp ol (List.Mem.head _)
    have hel := enc_len hn1.2
    refine' while_onS (σ := LfS) (fun c => (fl, listOf c.fs.toArray c.nf) :: ((ol, listOf os.toArray no) :: T ++ own)) (fun c => [(Str.ofString "number", .int c.cur c.t)]) []
      (fun c => IntsAre c.fs c.ys ∧ encR c.cur ++ c.ys.reverse = enc n1 ∧ 0 ≤ c.cur ∧ c.cur < 2 ^ 60) (fun c => c.cur.toNat) F2 N2 ?xinit ?xturn ?xE
    case xinit => exact ⟨⟨_, _, _, [n1 % 64], _⟩, List.forall_mem_cons.mpr ⟨rfl, List.forall_mem_nil _⟩, fun _ h => h, by rw [Int.fmod_eq_emod_of_nonneg _ (by decide)]; exact .cons _ _ .nil, by simp [enc], hn1.1, hn1.2⟩
    case xE => passes_own
    case xturn =>
      rintro ⟨cur, ct, fs, ys, nf⟩ u2 h2 tk2 ⟨hf1, hf2, hf3, hf4⟩ F3 N3
      dsimp only [kstB] at hf1 hf2 hf3 hf4 F3 N3 ⊢
      have hfl2 : fs.length ≤ 10 := by
        have := congrArg List.length hf2
        rw [hf1.length]
        simp only [List.length_append, List.length_reverse] at this
        omega
      k_steps
      · rw [Int.fdiv_eq_ediv_of_nonneg _ (by decide), Int.fmod_eq_emod_of_nonneg _ (by decide)] at *
        have hb := encR_big (n := cur) (by assumption)
        simp only [List.push_toArray] at *
        rename News _ _ _ _ => N7
        exact ksw_end ⟨cur / 64, _, fs ++ [.int (cur / 64 % 64 + 64) _], ys ++ [cur / 64 % 64 + 64], nf + 1⟩ (by k_asm) N7 (fun _ h => h) trivial (List.forall_mem_cons.mpr ⟨rfl, List.forall_mem_nil _⟩) (by ksw_same) ⟨hf1.append (.cons _ _ .nil), by rw [← hf2, hb]; simp, by dsimp only; omega, by dsimp only; omega⟩ (by dsimp only; omega)
      · rename IntsAre _ (List.reverse ys) => hR'
        rename_i D' ws' _ F7 N7 _ lD
        have hys : ys.reverse = enc n1 := by rw [← hf2, encR_small (by assumption)]; rfl
        have hosl : os.length ≤ 100 := by
          rw [hO.length, hX]
          have h1 : ∀ l : List Int, (∀ n ∈ l, n < 2 ^ 60) → (l.flatMap enc).length ≤ 10 * l.length := by
            intro l
            induction l with
            | nil => intro _; exact Nat.zero_le _
            | cons a l ih =>
              intro h
              have h2 := ih fun n hn => h n (.tail _ hn)
              have h3 := enc_len (h a (.head _))
              simp only [List.flatMap_cons, List.length_append, List.length_cons]
              omega
          have h2 := h1 pre fun n hn => (hns n (by rw [hsplit]; exact List.mem_append_left _ hn)).2
          have h3 := congrArg List.length hsplit
          simp only [List.length_append, List.length_cons] at h3
          omega
        have hwl : ws'.length = (enc n1).length := by rw [hR'.length, hys]
        have hwp : 0 < (enc n1).length := by simp [enc]
        have hsz : ((os.toArray).isEmpty = false → True) := fun _ => trivial
        have hN7 : News g L' _ ((ol, listOf os.toArray no) :: (D', listOf ws'.toArray 0) :: (fl, listOf fs.toArray nf) :: (T ++ own)) := fun p hp => by
          rcases List.mem_cons.mp hp with rfl | hp
          · exact N7 _ (.tail _ (.tail _ (.head _)))
          rcases List.mem_cons.mp hp with rfl | hp
          · exact N7 _ (.head _)
          rcases List.mem_cons.mp hp with rfl | hp
          · exact N7 _ (.tail _ (.head _))
          · exact N7 _ (.tail _ (.tail _ (.tail _ hp)))
        refine kl_extend (l := os ++ ws') F7 hN7 (.tail _ (.head _)) rfl (by rw [List.toList_toArray]; omega) (Upd.head fun p hp => ?_) ?_ ?_ ?_ ?_
        · rcases List.mem_cons.mp hp with rfl | hp
          · exact Nat.ne_of_gt (Nat.lt_trans (lfl _ (.head _)) lD.1)
          rcases List.mem_cons.mp hp with rfl | hp
          · exact Nat.ne_of_gt (lfl _ (.head _))
          · exact hol p hp
        · intro h
          simp only [Bool.and_eq_true, Builtin.List.listTooLong, decide_eq_true_eq, List.size_toArray, sizeLine_eq] at h
          omega
        · rw [List.toList_toArray, sizeLine_eq]; omega
        · rw [List.size_toArray, List.size_toArray, sizeLine_eq]; omega
        · intro h8 F8 N8
          k_steps
          exact kst_end ⟨os ++ ws', xs ++ ys.reverse, no + 1⟩ F8 N8 (fun p hp => by
            rcases List.mem_cons.mp hp with rfl | hp
            · exact .head _
            · exact .tail _ (.tail _ (.tail _ (List.mem_append_left _ hp)))) (fun p hp => .tail _ (.tail _ (.tail _ (List.mem_append_right _ hp)))) rfl trivial (List.forall_mem_nil _) (by kst_same) ⟨hO.append hR', by rw [hX, hys]; simp⟩
  case zd =>
    rintro ⟨os, xs, no⟩ u h1 tk1 _ ⟨hO, hX⟩ F1 N1
    dsimp only [kstB] at hO hX F1 N1 ⊢
    obtain ⟨n0, nr, rfl⟩ := List.exists_cons_of_ne_nil hne
    obtain ⟨b0, br, hb⟩ := List.exists_cons_of_ne_nil (enc_ne n0)
    have hX2 : xs = b0 :: (br ++ nr.flatMap enc) := by rw [hX, List.flatMap_cons, hb]; rfl
    have hM : octs (n0 :: nr) = (b0 + 128) :: (br ++ nr.flatMap enc) := by rw [octs, ← hX, hX2]; rfl
    rw [hX2] at hO
    cases hO
    rename_i tb0 vs0 hO
    k_steps
    have hO2 : ∀ t, IntsAre (Value.int (b0 + 128) t :: vs0) (octs (n0 :: nr)) := fun t => hM ▸ IntsAre.cons _ _ hO
    exact hret _ _ _ _ ⟨ol, _, _, rfl, rfl, hO2 _, lT⟩ (by k_asm) (by k_asm)
end
section
open PySem PySem.Calls PySem.Spec PySem.W PyProof.Rows
set_option maxRecDepth 100000
set_option maxHeartbeats 8000000
theorem rsLR : True := by
  w_top off
  k_with_none
  trivial
theorem kw8 : True := by
  k_with "me call ref" => (k_here; (with_reducible show wpAny _ _ (call (Value.ref 264) _) _ _ _); refine Stopped.out ?_)
  trivial
local macro_rules | `(tactic| ktr_rel) => `(tactic| (refine' code_defC ?k1 ?k2 ?k3 ?k4 ?k5 ?kA ?kF ?kK ?k6 ?k7 ?k8 ?k9 ?kB ?kD ?_ ?c2 ?c3 ?c4; (case kA => exact rfl); (case kF => exact rfl); (case kK => assumption); (case k1 => k_asm); (case k2 => k_asm); (case k3 => k_asm); (case k4 => k_asm); (case k5 => k_asm); (case k6 => k_is); (case k7 => k_is); (case k8 => ktr_room); (case k9 => exact BindsTo.of_eq rfl); (case kB => exact rfl); (case kD => decide +kernel); (case c2 => exact rfl); (case c3 => exact rfl); (case c4 => exact rfl); k_whole; intro g' L' h' tk' cells' FG' F' N' Y' B' X' T' l1; k_cells Y'; (try simp only [List.cons_append, List.nil_append] at N'); (try dsimp only); (try k_lift B'); (try k_fold)))
theorem off1_mem {D : Addr} : ∀ {l : Led}, LCg.Off1 D l → ∀ p ∈ l, p.1 ≠ D
  | [], _, _, h => nomatch h
  | _ :: _, x, p, h => by
    rcases List.mem_cons.mp h with rfl | h
    · exact x.1
    · exact off1_mem x.2 p h
local macro_rules | `(tactic| walk_at "CompEnd") => `(tactic| (refine LCg.CompEnd.intro (by assumption) (by assumption) _ (fun p hp => hp) (by assumption) (by lcg_src) ?_))
local macro_rules | `(tactic| walk_at "FinA") => `(tactic| ((unfold LCg.FinA); intro D' h' tk' F' N' o1'; have o2' := off1_mem o1'; (try simp only [LCg.Off1, and_true] at o1'); (try simp only [List.nil_append, List.cons_append] at N'); (try dsimp only)))
local macro_rules | `(tactic| walk_at "call builtin:list.append") => `(tactic| (k_here; (refine append_K (by k_asm) (by k_asm) (Upd.head (by assumption)) ?_); intro h' F' N'; (try dsimp only at N')))
local macro_rules | `(tactic| walk_at "CompSrc") => `(tactic| (k_here; k_dflt ((refine LCg.CompSrc.ledger (by rfl) (by k_asm) (by k_asm) (by k_mem) (by first | size_fits | exact Nat.le_of_ble_eq_true rfl) ?_); intro g'; lcg_lit)))
theorem execs_append (a b : List Stmt) (env : Env) : execs (a ++ b) env = (do match ← execs a env with | .next => execs b env | f => pure f) := by
  induction a with
  | nil => rfl
  | cons x a ih =>
    show execs (x :: (a ++ b)) env = (do match ← execs (x :: a) env with | .next => execs b env | f => pure f)
    rw [execs_cons, execs_cons, ih, bind_assoc]
    congr 1
    funext f
    cases f <;> rfl
def Cut (P : Shared → Prop) (f : Flow) (s : Shared) : Prop := f = .next ∧ P s
theorem Cut.of {P : Shared → Prop} {s : Shared} (h : P s) : Cut P .next s := ⟨rfl, h⟩
theorem execs_cut (n : Nat) {M : Model} {A : Around} {E : Value → Shared → Prop} {Q : Flow → Shared → Prop} {s : Shared} {env : Env} {body : List Stmt} (P : Shared → Prop)
    (h : wpAny M A (execs (body.take n) env) (Cut P) E s) (k : ∀ s', P s' → wpAny M A (execs (body.drop n) env) Q E s') : wpAny M A (execs body env) Q E s := by
  rw [← List.take_append_drop n body, execs_append]
  refine wpAny_bind (wpAny_mono h (fun f s' hf => ?_) fun _ _ x => x)
  obtain ⟨rfl, hP⟩ := hf
  exact k s' hP
theorem execs_cutO (n : Nat) {M : Model} {A : Around} {E : Value → Shared → Prop} {Q : Flow → Shared → Prop} {s : Shared} {env : Env} {body : List Stmt} (P : Shared → Prop)
    (h : ∀ PP : Shared → Prop, (∀ s', P s' → PP s') → wpAny M A (execs (body.take n) env) (Cut PP) E s) (k : ∀ s', P s' → wpAny M A (execs (body.drop n) env) Q E s') : wpAny M A (execs body env) Q E s :=
  execs_cut n P (h P fun _ x => x) k
abbrev at4 (x0 x1 x2 x3 k : Int) : Int := [x0, x1, x2, x3].getD k.toNat 0
def negMark (x : Int) : Int := if x < 0 then 1 else 0
theorem negMark_neg {x : Int} (h : x < 0) : negMark x = 1 := if_pos h
theorem negMark_pos {x : Int} (h : ¬ x < 0) : negMark x = 0 := if_neg h
def rowNs (x0 x1 x2 x3 p : Int) : List Int :=
  (if p = 0 then [x1, x2, x0] else if p = 1 then [x0, x2, x1] else [x0, x1, x2]) ++ [2 * (if x3 < 0 then -x3 else x3) + negMark x3]
theorem rowNs_range {x0 x1 x2 x3 p : Int} (h0 : 0 ≤ x0 ∧ x0 < 2 ^ 58) (h1 : 0 ≤ x1 ∧ x1 < 2 ^ 58) (h2 : 0 ≤ x2 ∧ x2 < 2 ^ 58) (h4 : -(2 ^ 58) < x3 ∧ x3 < 2 ^ 58) : ∀ n ∈ rowNs x0 x1 x2 x3 p, 0 ≤ n ∧ n < 2 ^ 60 := by
  have hl : 0 ≤ 2 * (if x3 < 0 then -x3 else x3) + negMark x3 ∧ 2 * (if x3 < 0 then -x3 else x3) + negMark x3 < 2 ^ 60 := by
    by_cases h : x3 < 0
    · rw [if_pos h, negMark_neg h]; omega
    · rw [if_neg h, negMark_pos h]; omega
  intro n hn
  rcases List.mem_append.mp hn with hn | hn
  · have : n = x0 ∨ n = x1 ∨ n = x2 := by
      split at hn
      · simp at hn; omega
      · split at hn <;> (simp at hn; omega)
    omega
  · rw [List.mem_singleton.mp hn]; exact hl
theorem rowNs_ne {x0 x1 x2 x3 p : Int} : rowNs x0 x1 x2 x3 p ≠ [] := by simp [rowNs]
theorem rowNs_len {x0 x1 x2 x3 p : Int} : (rowNs x0 x1 x2 x3 p).length ≤ 10 := by
  unfold rowNs
  split
  · simp
  · split <;> simp
theorem lrow (w : World) (fa : Addr) (x0 x1 x2 x3 : Int) (t0 t1 t2 t3 pt : Tok) (n : Nat) (p : Int) (hp : p = 0 ∨ p = 1 ∨ p = 2 ∨ p = 3) (h0 : 0 ≤ x0 ∧ x0 < 2 ^ 58) (h1 : 0 ≤ x1 ∧ x1 < 2 ^ 58) (h2 : 0 ≤ x2 ∧ x2 < 2 ^ 58) (h4 : -(2 ^ 58) < x3 ∧ x3 < 2 ^ 58) (T : Led) (h3 : (fa, listOf #[.int x0 t0, .int x1 t1, .int x2 t2, .int x3 t3] n) ∈ T) :
    Tell w 4 40 276 [.ref fa, .int p pt] T (OctRet T (octs (rowNs x0 x1 x2 x3 p))) := by
  intro loose mean mg mb dp un gd cn cs a ccd cl outer A₀ base h₀ L m s Q E B F X N Tp hk hd hu hret
  replace N : News h₀ L s.heap ((fa, listOf #[.int x0 t0, .int x1 t1, .int x2 t2, .int x3 t3] n) :: T) := fun p hp => by
    rcases List.mem_cons.mp hp with rfl | hp
    · exact N _ h3
    · exact N p hp
  refine wpAny_call ?_
  k_dflt ktr_rel
  rename_i g L' hh1 tk1 FG F1 BG XG TG lT o1 o2 d1 d2 N1
  obtain ⟨m0, hm0, F1⟩ : ∃ m0, (_ : Str → Option Value) = m0 ∧ Fr g L' hh1 m0 := ⟨_, rfl, F1⟩
  refine execs_cutO 2 (fun s' => ∃ h' tk' D k0 k1 k2 a0 a1 a2 nn, s' = { s with heap := h', toks := tk' } ∧ Fr g L' h' (fun z => if z = Str.ofString "order" then some (.ref D) else m0 z) ∧
    News g L' h' ((D, listOf #[.int k0 a0, .int k1 a1, .int k2 a2] nn) :: (L' + 1 + 1, o1) :: (L' + 1, o2) :: (fa, listOf #[.int x0 t0, .int x1 t1, .int x2 t2, .int x3 t3] n) :: T) ∧
    (0 ≤ k0 ∧ k0 < 4 ∧ 0 ≤ k1 ∧ k1 < 4 ∧ 0 ≤ k2 ∧ k2 < 4) ∧ rowNs x0 x1 x2 x3 p = [at4 x0 x1 x2 x3 k0, at4 x0 x1 x2 x3 k1, at4 x0 x1 x2 x3 k2, 2 * (if x3 < 0 then -x3 else x3) + negMark x3]) ?_ ?_
  · intro PP hPP
    subst hm0
    clear hret
    simp only [List.take_succ_cons, List.take_zero]
    rcases hp with rfl | rfl | rfl | rfl
    · k_steps
      exact Cut.of (hPP _ ⟨_, _, _, _, _, _, _, _, _, _, rfl, by k_asm, by k_asm, by decide, rfl⟩)
    · k_steps
      exact Cut.of (hPP _ ⟨_, _, _, _, _, _, _, _, _, _, rfl, by k_asm, by k_asm, by decide, rfl⟩)
    · k_steps
      exact Cut.of (hPP _ ⟨_, _, _, _, _, _, _, _, _, _, rfl, by k_asm, by k_asm, by decide, rfl⟩)
    · k_steps
      exact Cut.of (hPP _ ⟨_, _, _, _, _, _, _, _, _, _, rfl, by k_asm, by k_asm, by decide, rfl⟩)
  rintro s' ⟨h2', tk2, D, k0, k1, k2, a0, a1, a2, nn, rfl, F2, N2, hb, hr⟩
  simp only [List.drop_succ_cons, List.drop_zero]
  obtain ⟨hb0, hb1, hb2, hb3, hb4, hb5⟩ := hb
  refine execs_cutO 2 (fun s' => ∃ h' tk' mt, s' = { s with heap := h', toks := tk' } ∧ Fr g L' h' (fun y => if y = Str.ofString "mark" then some (.int (negMark x3) mt) else if y = Str.ofString "order" then some (.ref D) else m0 y) ∧
    News g L' h' ((D, listOf #[.int k0 a0, .int k1 a1, .int k2 a2] nn) :: (L' + 1 + 1, o1) :: (L' + 1, o2) :: (fa, listOf #[.int x0 t0, .int x1 t1, .int x2 t2, .int x3 t3] n) :: T)) ?_ ?_
  · intro PP hPP
    subst hm0
    clear hret
    simp only [List.take_succ_cons, List.take_zero]
    have hmark : ∀ (h' : Heap) (t : Tok) (z : Int) (mm : Str → Option Value), z = negMark x3 → Fr g L' h' (fun y => if y = Str.ofString "mark" then some (.int z t) else if y = Str.ofString "mark" then some (.int 0 tk2) else if y = Str.ofString "order" then some (.ref D) else mm y) → Fr g L' h' (fun y => if y = Str.ofString "mark" then some (.int (negMark x3) t) else if y = Str.ofString "order" then some (.ref D) else mm y) := fun h' t z mm hz F => by
      subst hz
      refine (funext fun y => ?_ : (fun y => if y = Str.ofString "mark" then some (Value.int (negMark x3) t) else if y = Str.ofString "order" then some (Value.ref D) else mm y) = fun y => if y = Str.ofString "mark" then some (Value.int (negMark x3) t) else if y = Str.ofString "mark" then some (Value.int 0 tk2) else if y = Str.ofString "order" then some (Value.ref D) else mm y) ▸ F
      by_cases hy : y = Str.ofString "mark"
      · rw [if_pos hy, if_pos hy]
      · rw [if_neg hy, if_neg hy, if_neg hy]
    k_steps
    · have hx : x3 < 0 := by assumption
      rename Fr _ _ _ _ => F9
      exact Cut.of (hPP _ ⟨_, _, _, rfl, hmark _ _ _ _ (negMark_neg hx).symm F9, by k_asm⟩)
    · have hx : ¬ x3 < 0 := by assumption
      rename Fr _ _ _ _ => F9
      exact Cut.of (hPP _ ⟨_, _, _, rfl, (negMark_pos hx).symm ▸ F9, by k_asm⟩)
  clear N2 F2
  rintro s' ⟨h3', tk3, mt, rfl, F3, N3⟩
  simp only [List.drop_succ_cons, List.drop_zero]
  subst hm0
  k_steps
  refine Stopped.on ?_
  rename Fr _ _ _ _ => F9
  rename News _ _ _ _ => N9
  refine tell_use (lo w _ _ (rowNs x0 x1 x2 x3 p) ?qqI (rowNs_range h0 h1 h2 h4) rowNs_ne rowNs_len _ _ (.head _)) BG F9 XG N9 (fun p hp => hp) TG rfl (by ktr_room) (by ktr_units) ?_
  case qqI =>
    rw [hr]
    exact .cons _ _ (.cons _ _ (.cons _ _ (.cons _ _ .nil)))
  rintro r news' h' tk' ⟨ol, vs, n', rfl, rfl, hO, lO⟩ F5 N5
  k_steps
  rename News _ _ _ _ => N8
  exact hret _ _ _ _ ⟨ol, _, _, rfl, rfl, hO, fun p hp => lO p (by simp [hp])⟩ (by k_asm) (fun p hp => N8 p (by rcases List.mem_cons.mp hp with rfl | hp; exact .head _; simp [hp]))
end
section
open PySem PySem.Calls PySem.Spec PySem.W PyProof.Rows Builtin
set_option maxRecDepth 100000
set_option maxHeartbeats 8000000
theorem ti_kind : builtinKind "tuple.__iter__" = some .slot := by decide +kernel
theorem ti_split : splitId "tuple.__iter__" = some ("tuple", "__iter__") := by decide +kernel
/-- the items at t, whatever its class -/
def SeqAt (h : Heap) (t : Addr) (items : Array Value) : Prop := ∃ o n, h.get? t = some o ∧ o.data = .seq items n
theorem SeqAt.but {h h' : Heap} {t it : Addr} {items : Array Value} (x : SeqAt h t items) (hs : Heap.ExtBut it h h') (ht : t ≠ it) : SeqAt h' t items :=
  let ⟨o, n, a, b⟩ := x
  ⟨o, n, hs t o ht a, b⟩
section
variable {prog : Program} {w : World} {A : Around} {E : Value → Shared → Prop} {s : Shared} {h : Heap} {it t : Addr} {items : Array Value}
theorem ete_iterLook (X : (Mine.hd.heap_1 w.params).In h) : Looks (model prog w) h (typeLookup (.ref 175) "__iter__") (some (.builtin "tuple.__iter__")) := Looks.of_peek X (by kernel_rfl)
theorem tup_step {i : Nat} {x : Value} {Q : Option Value → Shared → Prop} (hit : IsTupIter s.heap it t i) (ht : SeqAt s.heap t items) (hx : items[i]? = some x)
    (hQ : ∀ h', IsTupIter h' it t (i + 1) → Heap.SameBut it s.heap h' → Q (some x) { s with heap := h' }) : wpAny (model prog w) A (pyNext (.ref it)) Q E s := by
  have hty := hit.typeIs
  obtain ⟨o, ho, hc, hd⟩ := hit
  obtain ⟨ot, n, hot, hdt⟩ := ht
  unfold pyNext
  refine wpAny_bind (wpAny_attempt (wpAny_callSpecial?_slot (name := Str.ofString "__next__") hty slot_tupleiter_next
    (wpAny_call_entry slot_tupleiter_next hty entry_tupleiter_next ?_ (args_tupleiter_next _))))
  show wpAny _ _ (field (.ref it) 0 >>= _) _ _ s
  refine wpAny_bind (wpAny_field ho hd (x := .ref t) rfl ?_)
  show wpAny _ _ (if (Value.ref t == Value.none) = true then _ else _) _ _ s
  rw [if_neg (show ¬ ((Value.ref t == Value.none) = true) from Bool.false_ne_true)]
  show wpAny _ _ (field (.ref it) 1 >>= _) _ _ s
  refine wpAny_bind (wpAny_field ho hd (x := .int i 0) rfl ?_)
  show wpAny _ _ (seqItems? (.ref t) >>= _) _ _ s
  refine wpAny_bind (wpAny_seqItems hot hdt ?_)
  simp only [Int.toNat_natCast, hx]
  refine wpAny_bind (wpAny_setField ho hd (by simp) (wpAny_pure ⟨x, rfl, wpAny_pure (hQ _ ⟨_, Heap.get?_update_self _ ho (Obj.isFreed_of_fields (Obj.data_mapFields hd _)), (Obj.cls_mapFields ..).trans hc, ?_⟩ (Heap.SameBut.update ..))⟩))
  rw [Obj.data_mapFields hd]
  simp [rawInt]
theorem tup_over {i : Nat} {Q : Option Value → Shared → Prop} (hh : A.handled = none) (hit : IsTupIter s.heap it t i) (ht : SeqAt s.heap t items) (hx : items[i]? = none)
    (hQ : ∀ h', Heap.ExtBut it s.heap h' → Q none { s with heap := h' }) : wpAny (model prog w) A (pyNext (.ref it)) Q E s := by
  have hty := hit.typeIs
  obtain ⟨o, ho, hc, hd⟩ := hit
  obtain ⟨ot, n, hot, hdt⟩ := ht
  unfold pyNext
  refine wpAny_bind (wpAny_attempt (wpAny_callSpecial?_slot (name := Str.ofString "__next__") hty slot_tupleiter_next
    (wpAny_call_entry slot_tupleiter_next hty entry_tupleiter_next ?_ (args_tupleiter_next _))))
  show wpAny _ _ (field (.ref it) 0 >>= _) _ _ s
  refine wpAny_bind (wpAny_field ho hd (x := .ref t) rfl ?_)
  show wpAny _ _ (if (Value.ref t == Value.none) = true then _ else _) _ _ s
  rw [if_neg (show ¬ ((Value.ref t == Value.none) = true) from Bool.false_ne_true)]
  show wpAny _ _ (field (.ref it) 1 >>= _) _ _ s
  refine wpAny_bind (wpAny_field ho hd (x := .int i 0) rfl ?_)
  show wpAny _ _ (seqItems? (.ref t) >>= _) _ _ s
  refine wpAny_bind (wpAny_seqItems hot hdt ?_)
  simp only [Int.toNat_natCast, hx]
  refine wpAny_bind (wpAny_rule (wpAny_bind (wpAny_setField ho hd (by simp) ?_)))
  show wpAny _ _ (newExc (.type "StopIteration") [] >>= _) _ _ _
  refine wpAny_bind ?_
  simp only [newExc, newTuple]
  refine wpAny_bind (wpAny_newObj_type ?_ (by size_fits))
  refine wpAny_bind (m := firstArgMember _ _) (wpAny_of_eq (a := Value.none) (by first | rfl | (simp only [firstArgMember]; rfl)) ?_)
  refine wpAny_newObj_type ?_ (by size_fits)
  simp only [raiseNew]
  refine wpAny_bind (wpAny_handled ?_)
  first | rw [show A.in1.handled = none from hh] | rw [hh]
  refine wpAny_bind (wpAny_pure (wpAny_throw ?_))
  refine wpAny_bind (wpAny_isInstance (T := "StopIteration") (b := true) ⟨_, Heap.get?_push_size _ rfl, rfl⟩ isSubtype_stop ?_)
  exact wpAny_pure (hQ _ (((Heap.SameBut.update ..).extBut.push _).push _))
theorem tup_draw (hne : t ≠ it) : ∀ (n i : Nat) (s : Shared) (Q : List Value → Shared → Prop), IsTupIter s.heap it t i → SeqAt s.heap t items → i + n = items.size →
    (∀ h', IsTupIter h' it t items.size → Heap.SameBut it s.heap h' → Q (items.toList.drop i) { s with heap := h' }) → wpAny (model prog w) A (draw (.ref it) n) Q E s
  | 0, i, s, Q, hit, _, hi, hQ => by
    have e : i = items.size := by omega
    subst e
    have hz := hQ s.heap hit (Heap.SameBut.refl ..)
    rw [List.drop_of_length_le (by simp)] at hz
    exact wpAny_pure hz
  | n + 1, i, s, Q, hit, ht, hi, hQ => by
    have hlt : i < items.size := by omega
    show wpAny _ _ (pyNext (.ref it) >>= _) Q E s
    refine wpAny_bind (tup_step hit ht (x := items[i]) (by simp [hlt]) fun h₁ hit₁ hs₁ => ?_)
    refine wpAny_bind (wpAny_holding (tup_draw hne n (i + 1) _ _ hit₁ (ht.but hs₁.extBut hne) (by omega) fun h₂ hit₂ hs₂ => wpAny_pure ?_))
    have hz := hQ h₂ hit₂ (hs₁.trans hs₂)
    rw [List.drop_eq_getElem_cons (by simpa using hlt)] at hz
    simpa using hz
end
section
variable {prog : Program} {w : World} {A : Around} {E : Value → Shared → Prop} {s : Shared} {h₀ : Heap} {L x dx : Addr} {m : Str → Option Value} {news : Led} {vs : List Value}
theorem ete_iter {Q : Value → Shared → Prop} (X₀ : (Mine.hd.heap_1 w.params).In h₀) (F : Fr h₀ L s.heap m) (hx : s.heap.get? x = some (eteObj dx vs))
    (hQ : Q (.ref s.heap.objs.size) { s with heap := s.heap.push { cls := .type "tuple_iterator", data := .fields #[.ref x, .int 0 0] } }) : wpAny (model prog w) A (pyIter (.ref x)) Q E s := by
  have X := X₀.keeps F.keep
  obtain ⟨hh, g, d, tk, os⟩ := s
  dsimp only at X hx
  have t1 : Looks (model prog w) hh (typeOf (.ref x)) (.ref 175) := (Looks.ld hx).andThen .now
  have i1 := ete_iterLook (prog := prog) X
  have l1 : Looks (model prog w) hh (specialOf (.ref x) "__iter__") (some (.builtin "tuple.__iter__")) := t1.andThen i1
  have u1 : Looks (model prog w) hh (isInstance (.ref x) (.type "tuple")) true := t1.andThen (ete_tup (prog := prog) X)
  have fin : wpAny (model prog w) A (call (.builtin "tuple.__iter__") [.ref x]) (fun v s' => v = .ref hh.objs.size ∧ s' = ⟨hh.push { cls := .type "tuple_iterator", data := .fields #[.ref x, .int 0 0] }, g, d, tk, os⟩) E ⟨hh, g, d, tk, os⟩ := by
    refine wpAny_call (codeAny_call_builtin slot_tuple_iter.plain entry_tuple_iter (check_slot ti_kind ti_split u1 (args_tuple_iter _) ?_))
    show wpAny _ _ (do ret (← newFields "tuple_iterator" [.ref x, rawInt 0])) _ _ _
    exact wpAny_bind (wpAny_newObj_type (wpAny_pure ⟨rfl, rfl⟩))
  unfold pyIter
  refine wpAny_bind (l1.here ?_)
  show wpAny _ A (callSpecialIfBoundUnlessNone? (.ref x) "__iter__" _ >>= _) _ _ _
  refine wpAny_bind ?_
  simp only [callSpecialIfBoundUnlessNone?, bindSpecialIfBound?]
  refine wpAny_holding (wpAny_bind (wpAny_bind (l1.here ?_)))
  simp only [slot_tuple_iter.bind]
  have rest : ∀ (refuse : Sem Value), wpAny (model prog w) A (if (Value.builtin "tuple.__iter__" == Value.none) = true then (refuse >>= fun v => pure (some v)) else (call (.builtin "tuple.__iter__") [.ref x] >>= fun v => pure (some v)))
      (fun a s' => a = some (.ref hh.objs.size) ∧ s' = ⟨hh.push { cls := .type "tuple_iterator", data := .fields #[.ref x, .int 0 0] }, g, d, tk, os⟩) E ⟨hh, g, d, tk, os⟩ := fun refuse => by
    rw [if_neg (show ¬ ((Value.builtin "tuple.__iter__" == Value.none) = true) from Bool.false_ne_true)]
    exact wpAny_bind (wpAny_mono fin (fun v s' h' => by obtain ⟨rfl, rfl⟩ := h'; exact wpAny_pure ⟨rfl, rfl⟩) fun _ _ h' => h')
  refine wpAny_bind (wpAny_askSetting (wpAny_ite ?_))
  split
  · refine wpAny_bind (wpAny_pure (wpAny_pure (wpAny_mono (rest _) (fun a s' h' => ?_) fun _ _ h' => h')))
    obtain ⟨rfl, rfl⟩ := h'
    exact wpAny_bind (wpAny_specialOf (T := "tuple_iterator") ⟨_, Heap.get?_push_size _ rfl, rfl⟩ slot_tupleiter_next.lookup (wpAny_pure hQ))
  · refine wpAny_tryCatch (wpAny_bind (wpAny_pure (wpAny_pure (wpAny_mono (rest _) (fun a s' h' => ?_) fun _ _ h' => h'))))
    obtain ⟨rfl, rfl⟩ := h'
    exact wpAny_bind (wpAny_specialOf (T := "tuple_iterator") ⟨_, Heap.get?_push_size _ rfl, rfl⟩ slot_tupleiter_next.lookup (wpAny_pure hQ))
theorem ete_items {Q : List Value → Shared → Prop} (X₀ : (Mine.hd.heap_1 w.params).In h₀) (F : Fr h₀ L s.heap m) (N : News h₀ L s.heap news) (hx : (x, eteObj dx vs) ∈ news) (hh : A.handled = none)
    (hQ : ∀ h', Fr h₀ L h' m → News h₀ L h' news → Q vs { s with heap := h' }) : wpAny (model prog w) A (unpackItems (.ref x) vs.length none) Q E s := by
  have hx := (N _ hx).1
  have hlt : x ≠ s.heap.objs.size := Nat.ne_of_lt (Heap.lt_size hx)
  have X := X₀.keeps F.keep
  have t1 : Looks (model prog w) s.heap (typeOf (.ref x)) (.ref 175) := (Looks.ld hx).andThen .now
  have i1 := ete_iterLook (prog := prog) X
  have l1 : Looks (model prog w) s.heap (specialOf (.ref x) "__iter__") (some (.builtin "tuple.__iter__")) := t1.andThen i1
  unfold unpackItems
  refine wpAny_bind ?_
  unfold notIterableAtAll
  refine wpAny_bind (l1.here (wpAny_pure ?_))
  simp only [Bool.false_eq_true, if_false]
  refine wpAny_bind (wpAny_holding (ete_iter X₀ F hx ?_))
  have hs : SeqAt (s.heap.push { cls := .type "tuple_iterator", data := .fields #[.ref x, .int 0 0] }) x vs.toArray := ⟨_, _, Heap.get?_push_of_some _ hx, rfl⟩
  refine wpAny_bind (wpAny_holding (tup_draw hlt vs.length 0 _ _ ⟨_, Heap.get?_push_size _ rfl, rfl, rfl⟩ hs (by simp) fun h₁ hit₁ hs₁ => ?_))
  rw [List.drop_zero, List.toList_toArray, if_neg (by simp)]
  refine wpAny_bind (wpAny_holding (tup_over hh hit₁ (hs.but hs₁.extBut hlt) (by simp) fun h₂ he₂ => ?_))
  simp only [Option.isSome_none, Bool.false_eq_true, if_false]
  have he : Heap.ExtBut s.heap.objs.size s.heap h₂ := fun b o hb e => he₂ b o hb (hs₁.extBut b o hb (Heap.get?_push_of_some _ e))
  exact wpAny_pure (hQ h₂ (F.extBut he (Nat.le_refl _)) (N.extBut he (Nat.le_refl _)))
theorem ete_assign {env : Env} {elts : List PySem.Expr} {k : _} {pos : Pos} {Q : Unit → Shared → Prop} (X₀ : (Mine.hd.heap_1 w.params).In h₀) (F : Fr h₀ L s.heap m) (N : News h₀ L s.heap news) (hx : (x, eteObj dx vs) ∈ news) (hh : A.handled = none)
    (hn : (assignEach elts env).length = vs.length) (hstar : (assignEach elts env).findIdx? (·.1) = none)
    (h : ∀ h', Fr h₀ L h' m → News h₀ L h' news → wpAny (model prog w) A (assignInOrder ((assignEach elts env).map (·.2)) vs) Q E { s with heap := h' }) :
    wpAny (model prog w) A (assign (.Tuple elts k pos) env (.ref x)) Q E s := by
  rw [assign_Tuple]
  refine wpAny_bind (wpAny_standAt ?_)
  unfold unpack
  rw [hstar, hn]
  exact wpAny_bind (wpAny_holding (ete_items X₀ F N hx hh h))
end
end
section
open PySem PySem.Calls PySem.Spec PySem.W PyProof.Rows
set_option maxRecDepth 100000
set_option maxHeartbeats 8000000
theorem rsOP : True := by
  w_top off
  k_with_none
  trivial
abbrev IntRet (T : Led) (v : Int) (r : Value) (news' : Led) : Prop := (∃ t, r = .int v t) ∧ news' = T
section
variable {w : World} {d u : Nat} {f : Addr} {vs : List Value} {news : Led} {Ret : Value → Led → Prop} {loose : List Str} {mean : ExcName → Option Value} {mg mb : Str → Option Value} {dp un : Nat} {gd : Option (List Code)} {cn : Str} {cs : Scope} {a : Addr} {ccd : Value} {cl : List (Str × Addr)} {outer : List Env} {A₀ : Around} {base h₀ : Heap} {L : Addr} {m : Str → Option Value} {s : Shared} {Q E : Value → Shared → Prop}
theorem tell_useF (C : Tell w d u f vs news Ret) (F : Fr h₀ L s.heap m) (N : News h₀ L s.heap news) (B : Below A₀ base outer h₀) (X : (Mine.hd.heap_1 w.params).In h₀) (T : Top Mine.view loose mean mg mb h₀) (hk : cs.kind = .function) (hd : dp + d < recursionLimit) (hu : un + u < cLine)
    (ret : ∀ r news' h' tk', Ret r news' → Fr h₀ L h' m → News h₀ L h' news' → Q r { s with heap := h', toks := tk' }) :
    wpAny (model PySem.Challenge.pw_kl0477_01 w) (ktrTop dp un gd cn cs L a ccd cl outer) (call (.ref f) vs) Q E s :=
  C _ _ _ _ _ _ _ _ _ _ _ _ _ _ _ _ _ _ _ _ _ B F X N T hk hd hu ret
theorem tell_int {v : Int} (C : Tell w d u f vs news (IntRet news v)) (F : Fr h₀ L s.heap m) (N : News h₀ L s.heap news) (B : Below A₀ base outer h₀) (X : (Mine.hd.heap_1 w.params).In h₀) (T : Top Mine.view loose mean mg mb h₀) (hk : cs.kind = .function) (hd : dp + d < recursionLimit) (hu : un + u < cLine)
    (ret : ∀ t h' tk', Fr h₀ L h' m → News h₀ L h' news → Q (.int v t) { s with heap := h', toks := tk' }) :
    wpAny (model PySem.Challenge.pw_kl0477_01 w) (ktrTop dp un gd cn cs L a ccd cl outer) (call (.ref f) vs) Q E s :=
  tell_useF C F N B X T hk hd hu fun _ _ h' tk' hr F' N' => by
    obtain ⟨⟨t, rfl⟩, rfl⟩ := hr
    exact ret t h' tk' F' N'
theorem tell_bool {v : Bool} (C : Tell w d u f vs news (fun r news' => r = .bool v ∧ news' = news)) (F : Fr h₀ L s.heap m) (N : News h₀ L s.heap news) (B : Below A₀ base outer h₀) (X : (Mine.hd.heap_1 w.params).In h₀) (T : Top Mine.view loose mean mg mb h₀) (hk : cs.kind = .function) (hd : dp + d < recursionLimit) (hu : un + u < cLine)
    (ret : ∀ h' tk', Fr h₀ L h' m → News h₀ L h' news → Q (.bool v) { s with heap := h', toks := tk' }) :
    wpAny (model PySem.Challenge.pw_kl0477_01 w) (ktrTop dp un gd cn cs L a ccd cl outer) (call (.ref f) vs) Q E s :=
  tell_useF C F N B X T hk hd hu fun _ _ h' tk' hr F' N' => by
    obtain ⟨rfl, rfl⟩ := hr
    exact ret h' tk' F' N'
end
theorem op_neg (w : World) (x : Int) (t : Tok) (T : Led) : Tell w 1 8 243 [.int x t] T (IntRet T (-x)) := by
  intro loose mean mg mb dp un gd cn cs a ccd cl outer A₀ base h₀ L m s Q E B F X N Tp hk hd hu hret
  refine wpAny_call ?_
  k_dflt cell_enter
  k_steps
  exact hret _ _ _ _ ⟨⟨_, rfl⟩, rfl⟩ (by k_asm) (by k_asm)
theorem op_add (w : World) (x y : Int) (t u : Tok) (T : Led) : Tell w 1 8 222 [.int x t, .int y u] T (IntRet T (x + y)) := by
  intro loose mean mg mb dp un gd cn cs a ccd cl outer A₀ base h₀ L m s Q E B F X N Tp hk hd hu hret
  refine wpAny_call ?_
  k_dflt cell_enter
  k_steps
  exact hret _ _ _ _ ⟨⟨_, rfl⟩, rfl⟩ (by k_asm) (by k_asm)
theorem op_sub (w : World) (x y : Int) (t u : Tok) (T : Led) : Tell w 1 8 250 [.int x t, .int y u] T (IntRet T (x - y)) := by
  intro loose mean mg mb dp un gd cn cs a ccd cl outer A₀ base h₀ L m s Q E B F X N Tp hk hd hu hret
  refine wpAny_call ?_
  k_dflt cell_enter
  k_steps
  exact hret _ _ _ _ ⟨⟨_, rfl⟩, rfl⟩ (by k_asm) (by k_asm)
theorem op_mul (w : World) (x y : Int) (t u : Tok) (T : Led) (hx : -(2 ^ 62) < x) (hx2 : x < 2 ^ 62) : Tell w 1 8 236 [.int x t, .int y u] T (IntRet T (x * y)) := by
  intro loose mean mg mb dp un gd cn cs a ccd cl outer A₀ base h₀ L m s Q E B F X N Tp hk hd hu hret
  refine wpAny_call ?_
  k_dflt cell_enter
  k_steps
  exact hret _ _ _ _ ⟨⟨_, rfl⟩, rfl⟩ (by k_asm) (by k_asm)
theorem op_fdiv (w : World) (x y : Int) (t u : Tok) (T : Led) (hy : 0 < y) (hyb : y < 1000) : Tell w 1 8 229 [.int x t, .int y u] T (IntRet T (x / y)) := by
  intro loose mean mg mb dp un gd cn cs a ccd cl outer A₀ base h₀ L m s Q E B F X N Tp hk hd hu hret
  have hy2 : y ≠ 0 := by omega
  refine wpAny_call ?_
  k_dflt cell_enter
  k_steps
  rw [Int.fdiv_eq_ediv_of_nonneg _ (by omega)]
  exact hret _ _ _ _ ⟨⟨_, rfl⟩, rfl⟩ (by k_asm) (by k_asm)
theorem op_gt (w : World) (x y : Int) (t u : Tok) (T : Led) : Tell w 1 8 215 [.int x t, .int y u] T (fun r news' => r = .bool (decide (x > y)) ∧ news' = T) := by
  intro loose mean mg mb dp un gd cn cs a ccd cl outer A₀ base h₀ L m s Q E B F X N Tp hk hd hu hret
  refine wpAny_call ?_
  k_dflt cell_enter
  k_steps
  exact hret _ _ _ _ ⟨rfl, rfl⟩ (by k_asm) (by k_asm)
end
section
open PySem PySem.Calls PySem.Spec PySem.W PyProof.Rows
set_option maxRecDepth 100000
set_option maxHeartbeats 8000000
theorem rsLX : True := by
  w_top off
  k_with_none
  trivial
local macro_rules | `(tactic| walk_at "none such") => `(tactic| trivial)
local macro_rules | `(tactic| ktr_rel) => `(tactic| (refine' code_T ?k1 ?k2 ?k3 ?k4 ?k5 ?kXB ?kTB ?kD ?kA ?kF ?kK ?k6 ?k7 ?k8 ?k9 ?kB ?_ ?c2 ?c3 ?c4 ?c5; (case kA => exact rfl); (case kF => exact rfl); (case kK => assumption); (case k1 => k_asm); (case k2 => k_asm); (case k3 => k_asm); (case k4 => k_asm); (case k5 => k_asm); (case kXB => k_asm); (case kTB => k_asm); (case kD => k_asm); (case k6 => k_is); (case k7 => k_is); (case k8 => ktr_room); (case k9 => exact BindsTo.of_eq rfl); (case c5 => decide); (case kB => exact locs rfl); (case c2 => exact rfl); (case c3 => exact rfl); (case c4 => exact rfl); k_whole; intro g' L' h' FG' F' N' B' X' T' D' l1; (try dsimp only); (try k_fold)))
theorem kw9 : True := by
  k_with "me call ref" => (k_here; (with_reducible show wpAny _ _ (call (Value.ref 276) _) _ _ _); refine Stopped.out ?_)
  k_with "me call ref" => (k_here; (with_reducible show wpAny _ _ (call (Value.ref 271) _) _ _ _); refine Stopped.out ?_)
  k_with "me call ref" => (k_here; (with_reducible show wpAny _ _ (call (Value.ref 243) _) _ _ _); (refine tell_int (op_neg _ _ _ _) (by k_asm) (by k_asm) (by k_asm) (by k_asm) (by k_asm) rfl (by ktr_room) (by ktr_units) ?_); intro _ _ _ _ _; (try dsimp only); (try k_sweep))
  k_with "me call ref" => (k_here; (with_reducible show wpAny _ _ (call (Value.ref 222) _) _ _ _); (refine tell_int (op_add _ _ _ _ _ _) (by k_asm) (by k_asm) (by k_asm) (by k_asm) (by k_asm) rfl (by ktr_room) (by ktr_units) ?_); intro _ _ _ _ _; (try dsimp only); (try k_sweep))
  k_with "me call ref" => (k_here; (with_reducible show wpAny _ _ (call (Value.ref 250) _) _ _ _); (refine tell_int (op_sub _ _ _ _ _ _) (by k_asm) (by k_asm) (by k_asm) (by k_asm) (by k_asm) rfl (by ktr_room) (by ktr_units) ?_); intro _ _ _ _ _; (try dsimp only); (try k_sweep))
  k_with "me call ref" => (k_here; (with_reducible show wpAny _ _ (call (Value.ref 236) _) _ _ _); (refine tell_int (op_mul _ _ _ _ _ _ (by omega) (by omega)) (by k_asm) (by k_asm) (by k_asm) (by k_asm) (by k_asm) rfl (by ktr_room) (by ktr_units) ?_); intro _ _ _ _ _; (try dsimp only); (try k_sweep))
  k_with "me call ref" => (k_here; (with_reducible show wpAny _ _ (call (Value.ref 229) _) _ _ _); (refine tell_int (op_fdiv _ _ _ _ _ _ (by omega) (by omega)) (by k_asm) (by k_asm) (by k_asm) (by k_asm) (by k_asm) rfl (by ktr_room) (by ktr_units) ?_); intro _ _ _ _ _; (try dsimp only); (try k_sweep))
  k_with "me assign Tuple" => (k_here; refine Stopped.out ?_)
  trivial
def dOf (x3 : Int) : Int := 2 * (if x3 < 0 then -x3 else x3) + negMark x3
def exch (x0 x1 x2 x3 p : Int) : List Int :=
  if p = 0 then [2 * x1 + 2 * x2 + 2 * x3 - x0, x1, x2, x3] else if p = 1 then [x0, 2 * x0 + 2 * x2 + 2 * x3 - x1, x2, x3] else if p = 2 then [x0, x1, 2 * x0 + 2 * x1 + 2 * x3 - x2, x3] else [x0, x1, x2, 2 * x0 + 2 * x1 + 2 * x2 - x3]
theorem rowNs_abc (x0 x1 x2 x3 p : Int) (hp : p = 0 ∨ p = 1 ∨ p = 2 ∨ p = 3) : ∃ a b c, rowNs x0 x1 x2 x3 p = [a, b, c, dOf x3] ∧ (p = 0 ∧ a = x1 ∧ b = x2 ∧ c = x0 ∨ p = 1 ∧ a = x0 ∧ b = x2 ∧ c = x1 ∨ p = 2 ∧ a = x0 ∧ b = x1 ∧ c = x2 ∨ p = 3 ∧ a = x0 ∧ b = x1 ∧ c = x2) := by
  rcases hp with rfl | rfl | rfl | rfl
  · exact ⟨x1, x2, x0, rfl, by simp⟩
  · exact ⟨x0, x2, x1, rfl, by simp⟩
  · exact ⟨x0, x1, x2, rfl, by simp⟩
  · exact ⟨x0, x1, x2, rfl, by simp⟩
theorem fr_drop4 {g h : Heap} {L : Addr} {n1 n2 n3 n4 : Str} {v1 v2 v3 v4 v5 : Option Value} {r : Str → Option Value} (F : Fr g L h (fun y => if y = n1 then v1 else if y = n2 then v2 else if y = n3 then v3 else if y = n4 then v4 else if y = n4 then v5 else r y)) :
    Fr g L h (fun y => if y = n1 then v1 else if y = n2 then v2 else if y = n3 then v3 else if y = n4 then v4 else r y) := by
  refine (funext fun y => ?_ : (fun y => if y = n1 then v1 else if y = n2 then v2 else if y = n3 then v3 else if y = n4 then v4 else r y) = fun y => if y = n1 then v1 else if y = n2 then v2 else if y = n3 then v3 else if y = n4 then v4 else if y = n4 then v5 else r y) ▸ F
  by_cases hy : y = n4
  · simp only [if_pos hy]
  · simp only [if_neg hy]
theorem lx (w : World) (fa : Addr) (x0 x1 x2 x3 : Int) (t0 t1 t2 t3 pt : Tok) (n : Nat) (p : Int) (hp : p = 0 ∨ p = 1 ∨ p = 2 ∨ p = 3) (h0 : 0 ≤ x0 ∧ x0 < 2 ^ 58) (h1 : 0 ≤ x1 ∧ x1 < 2 ^ 58) (h2 : 0 ≤ x2 ∧ x2 < 2 ^ 58) (h4 : -(2 ^ 58) < x3 ∧ x3 < 2 ^ 58) (T : Led) (h3 : (fa, listOf #[.int x0 t0, .int x1 t1, .int x2 t2, .int x3 t3] n) ∈ T) :
    TellT w 8 70 283 [.ref fa, .int p pt] T (OctRet T (exch x0 x1 x2 x3 p)) := by
  intro loose mean mg mb dp un gd cn cs a ccd cl outer A₀ base h₀ L m s Q E B F X N Tp XB TB D hk hd hu hret
  obtain ⟨a0, b0, c0, hr, hab⟩ := rowNs_abc x0 x1 x2 x3 p hp
  refine wpAny_call ?_
  k_dflt ktr_rel
  rename_i g L' hh1 FG F1 N1 BG XG TG DG lG
  obtain ⟨m0, hm0, F1⟩ : ∃ m0, (_ : Str → Option Value) = m0 ∧ Fr g L' hh1 m0 := ⟨_, rfl, F1⟩
  refine execs_cutO 6 (fun s' => ∃ g2 h' tk', ∃ (z : Int) (bb : Bool), ∃ q1 q2 q3 q4 q5 q6 q7 q8, s' = { s with heap := h', toks := tk' } ∧ KtsTurn ((envX cn cs L a ccd cl :: outer).filterMap (·.frame)) g g2 ∧ Below (ktrTop dp un gd cn cs L a ccd cl outer) base (envX cn cs L a ccd cl :: outer) g2 ∧
    Fr g2 L' h' (fun y => if y = Str.ofString "third" then some (.int c0 q1) else if y = Str.ofString "second" then some (.int b0 q2) else if y = Str.ofString "first" then some (.int a0 q3) else if y = Str.ofString "around" then some (.int x3 q4) else if y = Str.ofString "lasti" then some (.bool bb) else if y = Str.ofString "depth" then some (.int z q5) else if y = Str.ofString "target" then some (.int (c0 * 2) q6) else if y = Str.ofString "end" then some (.int (a0 * 2 + b0 * 2) q7) else if y = Str.ofString "start" then some (.int (a0 * 2) q8) else m0 y) ∧
    (Mine.hd.heap_1 w.params).In g2 ∧ News g2 L' h' T ∧ Top Mine.view loose mean mg mb g2 ∧ KtsDicts ((envX cn cs L a ccd cl :: outer).filterMap (·.frame)) g2) ?_ ?_
  · intro PP hPP
    subst hm0
    clear hret
    simp only [List.take_succ_cons, List.take_zero]
    k_steps
    refine Stopped.on ?_
    rename Fr _ L' _ _ => F9
    rename News _ L' _ _ => N9
    refine tell_use (lrow w fa x0 x1 x2 x3 t0 t1 t2 t3 _ n p hp h0 h1 h2 h4 T h3) BG F9 XG N9 (fun p hp => hp) TG rfl (by ktr_room) (by ktr_units) ?_
    rintro r news' h' tk' ⟨ol, vs, n', rfl, rfl, hO, lO⟩ F2 N2
    k_steps
    refine Stopped.on ?_
    refine tellT_use (les w ol vs _ hO n' _ (octs_vars _ (rowNs_range h0 h1 h2 h4)) (by have := @rowNs_len x0 x1 x2 x3 p; omega) _ (.head _)) BG F2 XG N2 (fun p hp => hp) TG XB TB DG rfl (by ktr_room) (by ktr_units) ?_
    rintro r news' h' tk' g2 ⟨en, refs, ne, New, rfl, rfl, hEt, hT, hNew⟩ T2 B2 F3 X2 N3 P2 D2
    rw [hr] at hEt
    simp only [rows4] at hEt
    cases hEt
    rename_i x dx q1 q2 q3 q4 vs0 hx hE0
    cases hE0
    have N4 : News g2 L' h' ((en, listOf #[.ref x] ne) :: (x, eteObj dx [.int (a0 * 2) q1, .int (a0 * 2 + b0 * 2) q2, .int (c0 * 2) q3, .int (dOf x3 / 2) q4, .bool (dOf x3 % 2 == 1)]) :: T) := fun p hp => by
      rcases List.mem_cons.mp hp with rfl | hp
      · exact N3 _ (.head _)
      rcases List.mem_cons.mp hp with rfl | hp
      · exact N3 _ (.tail _ (List.mem_append_left _ hx))
      · exact N3 _ (.tail _ (List.mem_append_right _ (.tail _ hp)))
    clear F9 N9 F2 N2 N3 hO lO N F1
    k_steps
    refine Stopped.on ?_
    rename Fr g2 _ _ _ => F5
    rename News g2 _ _ _ => N5
    refine ete_assign X2 F5 N5 (.tail _ (.head _)) rfl rfl rfl ?_
    intro h6 F6 N6
    clear F5 N5
    have e1 : a0 * 2 / 2 = a0 := by omega
    have e2 : (a0 * 2 + b0 * 2 - a0 * 2) / 2 = b0 := by omega
    have e3 : c0 * 2 / 2 = c0 := by omega
    k_steps
    · rename (_ == true) = true => hb
      have hx : x3 < 0 := by
        false_or_by_contra
        rename_i hx
        rw [dOf, if_neg hx, negMark_pos hx] at hb
        have : (2 * x3 + 0) % 2 = 0 := by omega
        rw [this] at hb
        exact absurd hb (by decide)
      have e4 : -(dOf x3 / 2) = x3 := by rw [dOf, if_pos hx, negMark_neg hx]; omega
      rename Fr g2 _ _ _ => F5
      rename News g2 _ _ _ => N5
      rw [e1, e2, e3, e4] at F5
      exact Cut.of (hPP _ ⟨g2, _, _, _, _, _, _, _, _, _, _, _, _, rfl, T2, B2, fr_drop4 F5, X2, fun p hp => N5 p (.tail _ (.tail _ hp)), P2, D2⟩)
    · rename (_ == true) = false => hb
      have hx : ¬ x3 < 0 := by
        intro hx
        rw [dOf, if_pos hx, negMark_neg hx] at hb
        have : (2 * -x3 + 1) % 2 = 1 := by omega
        rw [this] at hb
        exact absurd hb (by decide)
      have e4 : dOf x3 / 2 = x3 := by rw [dOf, if_neg hx, negMark_pos hx]; omega
      rename Fr g2 _ _ _ => F5
      rename News g2 _ _ _ => N5
      rw [e1, e2, e3, e4] at F5
      exact Cut.of (hPP _ ⟨g2, _, _, _, _, _, _, _, _, _, _, _, _, rfl, T2, B2, F5, X2, fun p hp => N5 p (.tail _ (.tail _ hp)), P2, D2⟩)
  rintro s' ⟨g2, h2', tk2, z, bb, q1, q2, q3, q4, q5, q6, q7, q8, rfl, T2, B2, F2, X2, N2, P2, D2⟩
  simp only [List.drop_succ_cons, List.drop_zero]
  subst hm0
  have hend : ∀ (rl : Addr) (ws : List Value) (nn : Nat) (h' : Heap) (tk' : Nat) (m' : Str → Option Value) (New : Led), IntsAre ws (exch x0 x1 x2 x3 p) → Fr g2 L' h' m' → News g2 L' h' New → (rl, listOf ws.toArray nn) ∈ New → (∀ p ∈ T, p ∈ New) → (∀ p ∈ T, p.1 < rl) → qk (.ret (.ref rl)) { s with heap := h', toks := tk' } := fun rl ws nn h' tk' m' New hI F' N' hm hs hl => by
    show LeaveT _ _ _ _ _ _ _ _ _ _ _ _ _ _ _ _ _
    exact ⟨g2, L', _, (rl, listOf ws.toArray nn) :: T, T2, F', fun p hp => N' p (by
      rcases List.mem_cons.mp hp with rfl | hp
      · exact hm
      · exact hs _ hp), fun h₀' kT kF kN kB kX kP kD => hret _ _ _ _ h₀' ⟨rl, ws, nn, rfl, rfl, hI, hl⟩ kT kB kF kX kN kP kD⟩
  clear_value qk
  clear hret FG F1 N1 N T2
  rcases hab with ⟨rfl, rfl, rfl, rfl⟩ | ⟨rfl, rfl, rfl, rfl⟩ | ⟨rfl, rfl, rfl, rfl⟩ | ⟨rfl, rfl, rfl, rfl⟩
  · have hI : ∀ q1 q2 q3 q4, IntsAre [.int (a0 * 2 + b0 * 2 + 2 * x3 - c0) q1, .int (a0) q2, .int (b0) q3, .int (x3) q4] (exch c0 a0 b0 x3 0) := fun _ _ _ _ => by
      have e : exch c0 a0 b0 x3 0 = [a0 * 2 + b0 * 2 + 2 * x3 - c0, a0, b0, x3] := by simp [exch]; omega
      rw [e]
      exact .cons _ _ (.cons _ _ (.cons _ _ (.cons _ _ .nil)))
    k_steps
    rename Fr g2 _ _ _ => F5
    rename News g2 _ _ _ => N5
    rename (_ ∧ _ ∧ AllLt _ T) => hl
    exact hend _ _ _ _ _ _ _ (hI _ _ _ _) F5 N5 (.head _) (fun p hp => .tail _ (.tail _ (.tail _ hp))) (ktn_ltOf hl.2.2)
  · have hI : ∀ q1 q2 q3 q4, IntsAre [.int (a0) q1, .int (a0 * 2 + b0 * 2 + 2 * x3 - c0) q2, .int (b0) q3, .int (x3) q4] (exch a0 c0 b0 x3 1) := fun _ _ _ _ => by
      have e : exch a0 c0 b0 x3 1 = [a0, a0 * 2 + b0 * 2 + 2 * x3 - c0, b0, x3] := by simp [exch]; omega
      rw [e]
      exact .cons _ _ (.cons _ _ (.cons _ _ (.cons _ _ .nil)))
    k_steps
    rename Fr g2 _ _ _ => F5
    rename News g2 _ _ _ => N5
    rename (_ ∧ _ ∧ AllLt _ T) => hl
    exact hend _ _ _ _ _ _ _ (hI _ _ _ _) F5 N5 (.head _) (fun p hp => .tail _ (.tail _ (.tail _ hp))) (ktn_ltOf hl.2.2)
  · have hI : ∀ q1 q2 q3 q4, IntsAre [.int (a0) q1, .int (b0) q2, .int (a0 * 2 + b0 * 2 + 2 * x3 - c0) q3, .int (x3) q4] (exch a0 b0 c0 x3 2) := fun _ _ _ _ => by
      have e : exch a0 b0 c0 x3 2 = [a0, b0, a0 * 2 + b0 * 2 + 2 * x3 - c0, x3] := by simp [exch]; omega
      rw [e]
      exact .cons _ _ (.cons _ _ (.cons _ _ (.cons _ _ .nil)))
    k_steps
    rename Fr g2 _ _ _ => F5
    rename News g2 _ _ _ => N5
    rename (_ ∧ _ ∧ AllLt _ T) => hl
    exact hend _ _ _ _ _ _ _ (hI _ _ _ _) F5 N5 (.head _) (fun p hp => .tail _ (.tail _ (.tail _ hp))) (ktn_ltOf hl.2.2)
  · have hI : ∀ q1 q2 q3 q4, IntsAre [.int (a0) q1, .int (b0) q2, .int (c0) q3, .int (a0 * 2 + b0 * 2 + c0 * 2 - x3) q4] (exch a0 b0 c0 x3 3) := fun _ _ _ _ => by
      have e : exch a0 b0 c0 x3 3 = [a0, b0, c0, a0 * 2 + b0 * 2 + c0 * 2 - x3] := by simp [exch]; omega
      rw [e]
      exact .cons _ _ (.cons _ _ (.cons _ _ (.cons _ _ .nil)))
    k_steps
    rename Fr g2 _ _ _ => F5
    rename News g2 _ _ _ => N5
    rename (∀ p ∈ T, p.1 < _) => hl
    exact hend _ _ _ _ _ _ _ (hI _ _ _ _) F5 N5 (.head _) (fun p hp => .tail _ hp) hl
end
section
open PySem PySem.W PyProof.Rows
structure Q4 where
  a : Int
  b : Int
  c : Int
  d : Int
def Q4.sum (q : Q4) : Int := q.a + q.b + q.c + q.d
def Q4.at (q : Q4) (k : Int) : Int := at4 q.a q.b q.c q.d k
def Q4.grow (q : Q4) (l : List Int) (k : Int) : List Int := if 2 * q.at k > q.sum then l ++ [k] else l
def Q4.highs (q : Q4) : List Int := (rangeKs 0 4).foldl q.grow []
def Q4.Ok (q : Q4) : Prop := (0 ≤ q.a ∧ q.a < 2 ^ 58) ∧ (0 ≤ q.b ∧ q.b < 2 ^ 58) ∧ (0 ≤ q.c ∧ q.c < 2 ^ 58) ∧ -(2 ^ 58) < q.d ∧ q.d < 2 ^ 58
def Q4.l (q : Q4) : List Int := [q.a, q.b, q.c, q.d]
def Q4.ex (q : Q4) (p : Int) : Q4 :=
  if p = 0 then ⟨2 * q.b + 2 * q.c + 2 * q.d - q.a, q.b, q.c, q.d⟩ else if p = 1 then ⟨q.a, 2 * q.a + 2 * q.c + 2 * q.d - q.b, q.c, q.d⟩
  else if p = 2 then ⟨q.a, q.b, 2 * q.a + 2 * q.b + 2 * q.d - q.c, q.d⟩ else ⟨q.a, q.b, q.c, 2 * q.a + 2 * q.b + 2 * q.c - q.d⟩
theorem Q4.ex_l (q : Q4) (p : Int) : exch q.a q.b q.c q.d p = (q.ex p).l := by
  unfold exch Q4.ex Q4.l
  by_cases h0 : p = 0
  · simp only [if_pos h0]
  by_cases h1 : p = 1
  · simp only [if_neg h0, if_pos h1]
  by_cases h2 : p = 2
  · simp only [if_neg h0, if_neg h1, if_pos h2]
  · simp only [if_neg h0, if_neg h1, if_neg h2]
theorem Q4.grows (q : Q4) : KPfGrows q.grow := fun l k => by
  unfold Q4.grow
  split
  · simp
  · omega
/-- the way down from q is way, and ends at r -/
inductive Down : Q4 → List Int → Q4 → Prop
  | stop {q : Q4} : q.Ok → q.highs = [] → Down q [] q
  | step {q : Q4} {p : Int} {way : List Int} {r : Q4} : q.Ok → (p = 0 ∨ p = 1 ∨ p = 2 ∨ p = 3) → q.highs = [p] → Down (q.ex p) way r → Down q (p :: way) r
theorem Down.ok {q r : Q4} {way : List Int} (h : Down q way r) : q.Ok := by
  cases h <;> assumption
theorem ints4 {vs : List Value} {q : Q4} (h : IntsAre vs q.l) : ∃ t0 t1 t2 t3, vs = [.int q.a t0, .int q.b t1, .int q.c t2, .int q.d t3] := by
  unfold Q4.l at h
  cases h with | cons _ t0 h => cases h with | cons _ t1 h => cases h with | cons _ t2 h => cases h with | cons _ t3 h => cases h; exact ⟨t0, t1, t2, t3, rfl⟩
end
section
open PySem PySem.Calls PySem.Spec PySem.W PyProof.Rows
set_option maxRecDepth 100000
set_option maxHeartbeats 8000000
/-- the end of a turn of a loop at which the ground may have moved -/
def TEnd {σ : Type} (s : Shared) (L I : Addr) (oI : Obj) (G : Heap → Prop) (Ld : σ → Led) (ps : σ → List (Str × Value)) (x : Str) (stored : List Str) (m₀ : Str → Option Value) (P : σ → Prop) (s₂ : Shared) : Prop :=
  ∃ c g h tk m, s₂ = { s with heap := h, toks := tk } ∧ G g ∧ Fr g L h m ∧ News g L h ((I, oI) :: Ld c) ∧ (∀ p ∈ Ld c, p.1 ≠ I) ∧ (∀ p ∈ ps c, m p.1 = some p.2) ∧ (∀ z, z ≠ x → (∀ p ∈ ps c, z ≠ p.1) → stored.contains z = false → m z = m₀ z) ∧ P c
def TPost {σ : Type} (s : Shared) (L I : Addr) (oI : Obj) (G : Heap → Prop) (Ld : σ → Led) (ps : σ → List (Str × Value)) (x : Str) (stored : List Str) (m₀ : Str → Option Value) (P : σ → Prop) (Q : Flow → Shared → Prop) (f : Flow) (s₂ : Shared) : Prop :=
  match f with
  | .ret v => Q (.ret v) s₂
  | .brk => Q .next s₂
  | _ => TEnd s L I oI G Ld ps x stored m₀ P s₂
theorem TPost.ret {σ : Type} {s s₂ : Shared} {L I : Addr} {oI : Obj} {G : Heap → Prop} {Ld : σ → Led} {ps : σ → List (Str × Value)} {x : Str} {stored : List Str} {m₀ : Str → Option Value} {P : σ → Prop} {Q : Flow → Shared → Prop} {v : Value} (h : Q (.ret v) s₂) : TPost s L I oI G Ld ps x stored m₀ P Q (.ret v) s₂ := h
theorem TPost.next {σ : Type} {s s₂ : Shared} {L I : Addr} {oI : Obj} {G : Heap → Prop} {Ld : σ → Led} {ps : σ → List (Str × Value)} {x : Str} {stored : List Str} {m₀ : Str → Option Value} {P : σ → Prop} {Q : Flow → Shared → Prop} (h : TEnd s L I oI G Ld ps x stored m₀ P s₂) : TPost s L I oI G Ld ps x stored m₀ P Q .next s₂ := h
section
variable {prog : Program} {w : World} {A : Around} {E : Value → Shared → Prop} {s : Shared} {env : Env} {Q : Flow → Shared → Prop}
def ForAt (prog : Program) (w : World) (A : Around) (env : Env) (x : Str) (px : Pos) (body : List Stmt) (Q : Flow → Shared → Prop) (E : Value → Shared → Prop) (it : Value) (s₂ : Shared) : Prop :=
  codeAny (model prog w) A (.forLoop (.Name x px) it body [] env) (fun r s' => match r with | .ok f => Q f s' | .error e => cameBackBy (model prog w) A env E e s') s₂
theorem for_T {x : Str} {px pos : Pos} {iter : PySem.Expr} {body : List Stmt}
    (h : wpAny (model prog w) A (eval iter env) (fun xv s₁ => wpAny (model prog w) A (pyIter xv) (fun it s₂ => ForAt prog w A env x px body Q E it s₂) E s₁) E s)
    (hs : ∀ x, foldedSetIterable iter env x = pure x := by intro _; rfl) : wpAny (model prog w) A (exec (.For (.Name x px) iter body [] pos) env) Q E s := wpAny_For h hs
theorem loop_T {σ : Type} {x : Str} {px : Pos} {body : List Stmt} {I : Addr} {fp : List Addr} {n : Nat} {Pv : Nat → Value → Prop} {St : Nat → Heap → Prop} {m₀ : Str → Option Value} {g₀ : Heap} (Ld : σ → Led) (ps : σ → List (Str × Value)) (stored : List Str) (P : Nat → σ → Prop) (G : Heap → Prop) (c₀ : σ)
    (W : Walks prog w A I fp [I] n Pv St) (hIo : ∀ i h, St i h → ∃ o, h.get? I = some o) (hfp : ∀ b ∈ fp, b ≠ I → ∀ c, ∃ o, (b, o) ∈ Ld c ∧ ∀ c', (b, o) ∈ Ld c') (hx : env.kindOf x = some .local)
    (hp : (env.scope.kind == .class || (env.scope.kind == .module && env.locals != env.globals)) = false) (hst : St 0 s.heap) (hG : G g₀) (F : Fr g₀ env.locals s.heap m₀) (hI₀ : g₀.get? I = none) (hIL : I ≠ env.locals)
    (N : News g₀ env.locals s.heap (Ld c₀)) (off : ∀ p ∈ Ld c₀, p.1 ≠ I) (hk : ∀ p ∈ ps c₀, m₀ p.1 = some p.2) (hP : P 0 c₀)
    (turn : ∀ i c g v h tk oI (u : Str → Option Value), i < n → Pv i v → G g → P i c → (∀ p ∈ Ld c, p.1 ≠ I) → Fr g env.locals h (fun y => if y = x then some v else kstB (fun z => if stored.contains z then u z else m₀ z) (ps c) y) → News g env.locals h ((I, oI) :: Ld c) →
      wpAny (model prog w) A (execs body env) (TPost s env.locals I oI G Ld ps x stored m₀ (P (i + 1)) Q) E { s with heap := h, toks := tk })
    (done : ∀ c g h tk (u : Str → Option Value), G g → P n c → Fr g env.locals h (fun y => if y = x then u y else kstB (fun z => if stored.contains z then u z else m₀ z) (ps c) y) → News g env.locals h (Ld c) → Q .next { s with heap := h, toks := tk })
    (hE : PassesOwn (model prog w) A env E := by passes_own) : ForAt prog w A env x px body Q E (.ref I) s := by
  obtain ⟨oI₀, hoI₀⟩ := hIo _ _ hst
  refine codeAny_forLoop
    (fun k s' => ∃ i c g h tk m oI, s' = { s with heap := h, toks := tk } ∧ St i h ∧ G g ∧ Fr g env.locals h m ∧ News g env.locals h ((I, oI) :: Ld c) ∧ (∀ p ∈ Ld c, p.1 ≠ I) ∧ (∀ p ∈ ps c, m p.1 = some p.2) ∧ (∀ z, z ≠ x → (∀ p ∈ ps c, z ≠ p.1) → stored.contains z = false → m z = m₀ z) ∧ P i c ∧ i ≤ n ∧ k = n + 1 - i) ?_ (n + 1)
    ⟨0, c₀, g₀, s.heap, s.toks, m₀, oI₀, rfl, hst, hG, F, fun p hp => ?_, off, hk, fun _ _ _ _ => rfl, hP, Nat.zero_le _, rfl⟩
  · rintro k s' ⟨i, c, g, h, tk, m, oI, rfl, hst', hG', F', N', off', hk', hr', hP', hi, rfl⟩
    have nI : g.get? I = none := (N' _ (.head _)).2.2
    have next : ∀ h₁ : Heap, (∀ b o, b ∉ [I] → h.get? b = some o → h₁.get? b = some o) → Fr g env.locals h₁ m ∧ News g env.locals h₁ (Ld c) := fun h₁ hk₁ =>
      ⟨⟨F'.ns.at' fun o e => hk₁ _ o (by simpa using Ne.symm hIL) e, fun b o e => hk₁ b o (fun hb => by rw [List.mem_singleton.mp hb, nI] at e; cases e) (F'.keep b o e), F'.above⟩,
        fun p hp => ⟨hk₁ _ _ (by simpa using off' p hp) (N' p (.tail _ hp)).1, (N' p (.tail _ hp)).2⟩⟩
    by_cases hlt : i < n
    · refine W.item i _ _ _ hlt hst' fun v h₁ tk₁ hPv hst₁ hk₁ => ?_
      obtain ⟨F₁, N₁⟩ := next h₁ hk₁
      obtain ⟨o₁, ho₁⟩ := hIo _ _ hst₁
      refine wpAny_assign_Name (wpAny_storeName_local hx F₁.ns (fun h₂ hn₂ hs₂ => ?_) hp)
      have F₂ := F₁.set hn₂ hs₂
      have N₂ : News g env.locals h₂ ((I, o₁) :: Ld c) := fun p hp => by
        rcases List.mem_cons.mp hp with rfl | hp
        · exact ⟨(hs₂.2 I hIL).trans ho₁, hIL, nI⟩
        · exact (N₁.set hs₂) p hp
      have hst₂ : St (i + 1) h₂ := W.frame _ _ _ hst₁ fun b hb o e => by
        refine (hs₂.2 b fun q => ?_).trans e
        by_cases hbI : b = I
        · exact hIL (hbI ▸ q)
        · obtain ⟨o', ho', _⟩ := hfp b hb hbI c
          exact (N₁ _ ho').2.1 q
      refine wpAny_passesOwn hE (wpAny_mono (turn i c g v h₂ _ o₁ m hlt hPv hG' hP' off' (kst_fr hk' hr' F₂) N₂) (fun f s₃ h₃ => ?_) fun _ _ e => e)
      have fin : TEnd s env.locals I o₁ G Ld ps x stored m₀ (P (i + 1)) s₃ → ∃ k', k' < n + 1 - i ∧ ∃ i c g h tk m oI, s₃ = { s with heap := h, toks := tk } ∧ St i h ∧ G g ∧ Fr g env.locals h m ∧ News g env.locals h ((I, oI) :: Ld c) ∧ (∀ p ∈ Ld c, p.1 ≠ I) ∧ (∀ p ∈ ps c, m p.1 = some p.2) ∧ (∀ z, z ≠ x → (∀ p ∈ ps c, z ≠ p.1) → stored.contains z = false → m z = m₀ z) ∧ P i c ∧ i ≤ n ∧ k' = n + 1 - i := by
        rintro ⟨c₃, g₃, hh₃, tk₃, m₃, rfl, hG₃, F₃, N₃, off₃, hk₃, hr₃, hP₃⟩
        refine ⟨n + 1 - (i + 1), by omega, i + 1, c₃, g₃, hh₃, tk₃, m₃, o₁, rfl, ?_, hG₃, F₃, N₃, off₃, hk₃, hr₃, hP₃, hlt, rfl⟩
        refine W.frame _ _ _ hst₂ fun b hb o e => ?_
        by_cases hbI : b = I
        · subst hbI
          rw [(N₂ _ (.head _)).1] at e
          exact (Option.some.inj e) ▸ (N₃ _ (.head _)).1
        · obtain ⟨o', ho', hall⟩ := hfp b hb hbI c
          rw [(N₂ _ (.tail _ ho')).1] at e
          exact (Option.some.inj e) ▸ (N₃ _ (.tail _ (hall c₃))).1
      cases f with
      | ret v => exact h₃
      | brk => exact h₃
      | next => exact fin h₃
      | cont => exact fin h₃
    · have hin : i = n := by omega
      subst hin
      refine W.done _ _ _ hst' fun h₁ tk₁ hk₁ => wpAny_execs_nil ?_
      obtain ⟨F₁, N₁⟩ := next h₁ hk₁
      exact done c g h₁ tk₁ m hG' hP' (kst_frOut hk' hr' F₁) N₁
  · rcases List.mem_cons.mp hp with rfl | hp
    · exact ⟨hoI₀, hIL, hI₀⟩
    · exact N p hp
end
end
section
open PySem PySem.Calls PySem.Spec PySem.W PyProof.Rows
set_option maxRecDepth 100000
set_option maxHeartbeats 8000000
theorem rsLD : True := by
  w_top off
  k_with_none
  trivial
local macro_rules | `(tactic| ktr_rel) => `(tactic| (refine' callT_cells ?k1 ?k2 ?k3 ?k4 ?k5 ?kXB ?kTB ?kD0 ?kA ?kF ?kK ?k6 ?k7 ?k8 ?k9 ?kB ?kD ?_ ?c2 ?c3 ?c4; (case kA => exact rfl); (case kF => exact rfl); (case kK => assumption); (case k1 => k_asm); (case k2 => k_asm); (case k3 => k_asm); (case k4 => k_asm); (case k5 => k_asm); (case kXB => k_asm); (case kTB => k_asm); (case kD0 => k_asm); (case k6 => k_is); (case k7 => k_is); (case k8 => ktr_room); (case k9 => exact BindsTo.of_eq rfl); (case kB => exact rfl); (case kD => decide +kernel); (case c2 => exact rfl); (case c3 => exact rfl); (case c4 => exact rfl); k_whole; intro g' L' h' tk' cells' FG' F' N' Y' B' X' T' D' l1; k_cells Y'; (try simp only [List.cons_append, List.nil_append] at N'); (try dsimp only); (try k_fold)))
theorem kw10 : True := by
  k_with "me exec For Name Call cons nil" => (k_here; refine Stopped.out ?_)
  k_with "me pyIter ref" => (k_here; refine Stopped.out ?_)
  k_with "me call ref" => (k_here; (with_reducible show wpAny _ _ (call (Value.ref 236) _) _ _ _); (refine tell_int (op_mul _ _ _ _ _ _ (by omega) (by omega)) (by k_asm) (by k_asm) (by k_asm) (by k_asm) (by k_asm) rfl (by ktr_room) (by ktr_units) ?_); intro _ _ _ _ _; (try dsimp only); (try k_sweep))
  k_with "me call ref" => (k_here; (with_reducible show wpAny _ _ (call (Value.ref 215) _) _ _ _); (refine tell_bool (op_gt _ _ _ _ _ _) (by k_asm) (by k_asm) (by k_asm) (by k_asm) (by k_asm) rfl (by ktr_room) (by ktr_units) ?_); intro _ _ _ _; (try dsimp only); (try k_sweep))
  k_with "me CompSrcT" => (k_here; refine Stopped.out ?_)
  k_with "me call ref" => (k_here; (with_reducible show wpAny _ _ (call (Value.ref 283) _) _ _ _); refine Stopped.out ?_)
  trivial
local macro_rules | `(tactic| walk_at "CompEnd") => `(tactic| (refine LCg.CompEnd.intro (by assumption) (by assumption) _ (fun p hp => hp) (by assumption) (by lcg_src) ?_))
local macro_rules | `(tactic| walk_at "FinA") => `(tactic| ((unfold LCg.FinA); intro D' h' tk' F' N' o1'; have o2' := off1_mem o1'; (try simp only [LCg.Off1, and_true] at o1'); (try simp only [List.nil_append, List.cons_append] at N'); (try dsimp only)))
theorem kw11 : True := by
  k_with "me call builtin:list.append" => (k_here; refine Stopped.out ?_)
  k_with "me KCiEl" => (refine Stopped.out ?_)
  k_with "me KCiNo" => (refine Stopped.out ?_)
  trivial
structure LdS where
  q : Q4
  fl : Addr
  t0 : Tok
  t1 : Tok
  t2 : Tok
  t3 : Tok
  nf : Nat
  ws : List Value
  done : List Int
  rest : List Int
  nw : Nat
  co : Obj
def PairRet (T : Led) (q : Q4) (way : List Int) (r : Value) (news' : Led) : Prop :=
  ∃ pl fl wl vs ws n1 n2 n3, r = .ref pl ∧ news' = (pl, listOf #[.ref fl, .ref wl] n1) :: (fl, listOf vs.toArray n2) :: (wl, listOf ws.toArray n3) :: T ∧ IntsAre vs q.l ∧ IntsAre ws way
theorem ld (w : World) (fa : Addr) (q r : Q4) (way : List Int) (hD : Down q way r) (hway : way.length < 600) (t0 t1 t2 t3 : Tok) (n : Nat) (T : Led) (h3 : (fa, listOf #[.int q.a t0, .int q.b t1, .int q.c t2, .int q.d t3] n) ∈ T) :
    TellT w 12 110 288 [.ref fa] T (PairRet T r way) := by
  intro loose mean mg mb dp un gd cn cs a ccd cl outer A₀ base h₀ L m s Q E B F X N Tp XB TB D hk hd hu hret
  refine wpAny_call ?_
  k_dflt ktr_rel
  rename_i g L' hh1 tk1 FG F1 BG XG TG DG lT o1 d1 N1
  have d2 : o1.data = .cell (some (.ref fa)) := d1
  clear d1
  k_steps
  refine Stopped.on ?_
  refine for_T ?_
  k_steps
  refine Stopped.on ?_
  rename Fr g _ _ _ => F2
  rename News g _ _ _ => N2
  rename IsRange _ _ _ _ _ _ _ _ => hR
  rename_i wl _ lW _ _ _ hh2 tk2 _ _ _ hkeep
  refine wpAny_pyIter_range hR (by decide) ?_
  have hin : News g L' hh2 ((L' + 1, o1) :: (wl, listOf #[] 0) :: (fa, listOf #[.int q.a t0, .int q.b t1, .int q.c t2, .int q.d t3] n) :: T) := fun p hp => N2 p (by
    rcases List.mem_cons.mp hp with rfl | hp
    · exact .tail _ (.head _)
    rcases List.mem_cons.mp hp with rfl | hp
    · exact .head _
    rcases List.mem_cons.mp hp with rfl | hp
    · exact .tail _ (.tail _ h3)
    · exact .tail _ (.tail _ hp))
  refine loop_T (σ := LdS) (fun c => (L' + 1, c.co) :: (wl, listOf c.ws.toArray c.nw) :: (c.fl, listOf #[.int c.q.a c.t0, .int c.q.b c.t1, .int c.q.c c.t2, .int c.q.d c.t3] c.nf) :: T) (fun _ => []) [Str.ofString "high"]
    (fun i c => Down c.q c.rest r ∧ IntsAre c.ws c.done ∧ way = c.done ++ c.rest ∧ c.done.length = i ∧ c.co.data = .cell (some (.ref c.fl)) ∧ ∀ p ∈ (c.fl, listOf #[.int c.q.a c.t0, .int c.q.b c.t1, .int c.q.c c.t2, .int c.q.d c.t3] c.nf) :: T, p.1 ≠ wl ∧ p.1 ≠ L' + 1)
    (fun g' => KtsTurn ((envX cn cs L a ccd cl :: outer).filterMap (·.frame)) g g' ∧ Below (ktrTop dp un gd cn cs L a ccd cl outer) base (envX cn cs L a ccd cl :: outer) g' ∧ (Mine.hd.heap_1 w.params).In g' ∧ Top Mine.view loose mean mg mb g' ∧ KtsDicts ((envX cn cs L a ccd cl :: outer).filterMap (·.frame)) g')
    ⟨q, fa, t0, t1, t2, t3, n, [], [], way, 0, o1⟩ (Walks.range rfl _ 0 1 600) ?q1 ?q2 rfl rfl ?q3 ⟨KtsTurn.refl, BG, XG, TG, DG⟩ (F2.push _) ?q4 ?q5 ?q6 ?q7 (List.forall_mem_nil _) ?q8 ?q9 ?q10
  case q1 => exact fun i h hst => ⟨_, hst⟩
  case q2 => exact fun b hb hne => absurd (List.mem_singleton.mp hb) hne
  case q3 => exact Heap.get?_push_size _ rfl
  case q4 => exact next_is_new F2
  case q5 => exact fun h => absurd F2.ns.lt (h ▸ Nat.lt_irrefl _)
  case q6 => exact fun p hp => ⟨Heap.get?_push_of_some _ (hin p hp).1, (hin p hp).2⟩
  case q7 => exact fun p hp => Nat.ne_of_lt (Heap.lt_size (hin p hp).1)
  case q8 =>
    refine ⟨hD, .nil, rfl, rfl, d2, fun p hp => ?_⟩
    have hpT : p ∈ T := by
      rcases List.mem_cons.mp hp with rfl | hp
      · exact h3
      · exact hp
    exact ⟨Nat.ne_of_lt (ktn_ltOf lW.2 p hpT), Nat.ne_of_lt (Nat.lt_succ_of_lt (lT p hpT))⟩
  case q9 =>
    intro i c g2 v h2 tk2 oI u hi hv hG hP hoff F3 N3
    obtain ⟨T3, B3, X3, P3, D3⟩ := hG
    obtain ⟨⟨qa, qb, qc, qd⟩, fl, t0, t1, t2, t3, nf, ws, done, rest, nw, co⟩ := c
    obtain ⟨tv, rfl⟩ := hv
    dsimp only [kstB] at hP hoff F3 N3 ⊢
    obtain ⟨hDn, hIw, hway2, hlen, hc1, hne⟩ := hP
    k_steps
    refine Stopped.on ?_
    rename IsRange _ _ 0 4 _ _ _ _ => hR4
    rename Fr g2 _ _ _ => F9
    rename News g2 _ _ _ => N9
    refine LCt.CompSrcT.range rfl F9 N9 hR4 (by decide) rfl (Nat.le_of_ble_eq_true rfl) ?_
    intro g'
    refine kci_range (Q4.grow ⟨qa, qb, qc, qd⟩) ?r1 ?r2 (Q4.grows _)
    case r1 =>
      intro k' t' I' oI' C' oC' D' m' ys' l' h' tk' E' hlo hhi hI' hC' hx' F' N' off' ne' hMark'
      have hhi : k' < 4 := by simpa using hhi
      clear hret hR4 F9 N9 hR F2 N2
      k_steps
      · refine Stopped.on ?_
        rename (_ > _) => hgt
        have hgt : 2 * Q4.at ⟨qa, qb, qc, qd⟩ k' > Q4.sum ⟨qa, qb, qc, qd⟩ := by
          show 2 * [qa, qb, qc, qd].getD k'.toNat 0 > qa + qb + qc + qd
          omega
        exact kci_el (if_pos hgt) rfl rfl
      · refine Stopped.on ?_
        rename ¬ (_ > _) => hgt
        have hgt : ¬ 2 * Q4.at ⟨qa, qb, qc, qd⟩ k' > Q4.sum ⟨qa, qb, qc, qd⟩ := by
          show ¬ 2 * [qa, qb, qc, qd].getD k'.toNat 0 > qa + qb + qc + qd
          omega
        exact kci_no (if_neg hgt) rfl
    case r2 =>
      intro ys hys hyl
      have hys : IntsAre ys (Q4.highs ⟨qa, qb, qc, qd⟩) := hys
      clear hR4 F9 N9 hR F2 N2
      cases hDn with
      | stop hok hh =>
        rw [hh] at hys
        cases hys
        k_steps
        rename Fr g2 _ _ _ => F9
        rename News g2 _ _ _ => N9
        refine TPost.ret ?_
        show LeaveT _ _ _ _ _ _ _ _ _ _ _ _ _ _ _ _ _
        rename_i pl _ _
        exact ⟨g2, L', _, (pl, listOf #[.ref fl, .ref wl] 0) :: (fl, listOf #[.int qa t0, .int qb t1, .int qc t2, .int qd t3] nf) :: (wl, listOf ws.toArray nw) :: T, T3, F9, fun p hp => N9 p (by
          rcases List.mem_cons.mp hp with rfl | hp
          · exact .head _
          rcases List.mem_cons.mp hp with rfl | hp
          · exact .tail _ (.tail _ (.tail _ (.tail _ (.tail _ (.tail _ (.head _))))))
          rcases List.mem_cons.mp hp with rfl | hp
          · exact .tail _ (.tail _ (.tail _ (.tail _ (.tail _ (.head _)))))
          · exact .tail _ (.tail _ (.tail _ (.tail _ (.tail _ (.tail _ (.tail _ hp))))))), fun h₀' kT kF kN kB kX kP kD =>
          hret _ _ _ _ h₀' ⟨pl, fl, wl, _, _, _, _, _, rfl, rfl, .cons _ _ (.cons _ _ (.cons _ _ (.cons _ _ .nil))), by rw [hway2, List.append_nil]; exact hIw⟩ kT kB kF kX kN kP kD⟩
      | @step _ p rest _ hok hp hh hDn =>
        rw [hh] at hys
        cases hys
        rename_i tp ys2 hys
        cases hys
        clear hret hys hyl
        k_steps
        all_goals try (rename decide ([p] = []) = true => hz; exfalso; simp at hz; done)
        refine Stopped.on ?_
        rename Fr g2 _ _ _ => F9
        rename News g2 _ _ _ => N9
        refine tellT_use (lx w fl qa qb qc qd t0 t1 t2 t3 _ nf _ hp hok.1 hok.2.1 hok.2.2.1 hok.2.2.2 _ (.tail _ (.tail _ (.tail _ (.tail _ (.tail _ (.head _))))))) B3 F9 X3 N9 (fun p hp => hp) P3 XB TB D3 rfl (by ktr_room) (by ktr_units) ?_
        rintro r2 news' h' tk' g3 ⟨ol, vs, n', rfl, rfl, hO, lO⟩ T4 B4 F5 X4 N5 P4 D4
        rename_i DD _ _ _ oo2 ll _ ll1 _
        have hO2 : IntsAre vs (Q4.ex ⟨qa, qb, qc, qd⟩ p).l := Q4.ex_l ⟨qa, qb, qc, qd⟩ p ▸ hO
        obtain ⟨s0, s1, s2, s3, rfl⟩ := ints4 hO2
        have lwl : @LT.lt Nat _ wl ol := lO (wl, listOf ws.toArray nw) (.tail _ (.tail _ (.tail _ (.tail _ (.head _)))))
        have lco : @LT.lt Nat _ (L' + 1) ol := lO (L' + 1, co) (.tail _ (.tail _ (.tail _ (.head _))))
        have lI : @LT.lt Nat _ hh2.objs.size ol := lO (hh2.objs.size, oI) (.tail _ (.tail _ (.head _)))
        have lDD : @LT.lt Nat _ DD ol := lO (DD, LCg.lst [.int p tp]) (.tail _ (.head _))
        have hIw2 : wl ≠ hh2.objs.size := hoff (wl, listOf ws.toArray nw) (.tail _ (.head _))
        have hIc : L' + 1 ≠ hh2.objs.size := hoff (L' + 1, co) (.head _)
        have hDw : wl ≠ DD := oo2 (wl, listOf ws.toArray nw) (.tail _ (.tail _ (.head _)))
        have hDc : L' + 1 ≠ DD := oo2 (L' + 1, co) (.tail _ (.head _))
        have N6 : News g3 L' h' ([] ++ (L' + 1, co) :: (hh2.objs.size, oI) :: (wl, listOf ws.toArray nw) :: (DD, LCg.lst [.int p tp]) :: (ol, listOf #[.int (Q4.ex ⟨qa, qb, qc, qd⟩ p).a s0, .int (Q4.ex ⟨qa, qb, qc, qd⟩ p).b s1, .int (Q4.ex ⟨qa, qb, qc, qd⟩ p).c s2, .int (Q4.ex ⟨qa, qb, qc, qd⟩ p).d s3] n') :: T) := fun x hx => N5 x (by
          rw [List.nil_append] at hx
          rcases List.mem_cons.mp hx with rfl | hx
          · exact .tail _ (.tail _ (.tail _ (.tail _ (.head _))))
          rcases List.mem_cons.mp hx with rfl | hx
          · exact .tail _ (.tail _ (.tail _ (.head _)))
          rcases List.mem_cons.mp hx with rfl | hx
          · exact .tail _ (.tail _ (.tail _ (.tail _ (.tail _ (.head _)))))
          rcases List.mem_cons.mp hx with rfl | hx
          · exact .tail _ (.tail _ (.head _))
          rcases List.mem_cons.mp hx with rfl | hx
          · exact .head _
          · exact .tail _ (.tail _ (.tail _ (.tail _ (.tail _ (.tail _ (.tail _ hx)))))))
        clear N5 F9 N9 hO hO2 lO
        k_steps
        rename Fr g3 _ _ _ => F6
        refine stCN (own := []) F6 N6 rfl hc1 (List.forall_mem_nil _) (fun x hx => ?_) ?_
        · rcases List.mem_cons.mp hx with rfl | hx
          · exact hIc.symm
          rcases List.mem_cons.mp hx with rfl | hx
          · exact Nat.ne_of_gt lW.1
          rcases List.mem_cons.mp hx with rfl | hx
          · exact hDc.symm
          rcases List.mem_cons.mp hx with rfl | hx
          · exact Nat.ne_of_gt lco
          · exact (hne x (.tail _ hx)).2
        intro h7 co2 F7 N7 hco2
        rw [List.nil_append] at N7
        clear F6 N6
        k_steps
        refine Stopped.on ?_
        rename Fr g3 _ _ _ => F8
        rename News g3 _ _ _ => N8
        have N9 : News g3 L' _ ((wl, listOf ws.toArray nw) :: (L' + 1, co2) :: (hh2.objs.size, oI) :: (ol, listOf #[.int (Q4.ex ⟨qa, qb, qc, qd⟩ p).a s0, .int (Q4.ex ⟨qa, qb, qc, qd⟩ p).b s1, .int (Q4.ex ⟨qa, qb, qc, qd⟩ p).c s2, .int (Q4.ex ⟨qa, qb, qc, qd⟩ p).d s3] n') :: T) := fun x hx => N8 x (by
          rcases List.mem_cons.mp hx with rfl | hx
          · exact .tail _ (.tail _ (.head _))
          rcases List.mem_cons.mp hx with rfl | hx
          · exact .head _
          rcases List.mem_cons.mp hx with rfl | hx
          · exact .tail _ (.head _)
          rcases List.mem_cons.mp hx with rfl | hx
          · exact .tail _ (.tail _ (.tail _ (.tail _ (.head _))))
          · exact .tail _ (.tail _ (.tail _ (.tail _ (.tail _ hx)))))
        have hwl : ws.length ≤ 600 := by
          rw [hIw.length]
          have := congrArg List.length hway2
          simp only [List.length_append, List.length_cons] at this
          omega
        refine append_K F8 N9 (Upd.head fun x hx => ?_) ?_ (by rw [List.size_toArray, sizeLine_eq]; omega)
        · rcases List.mem_cons.mp hx with rfl | hx
          · exact Nat.ne_of_lt lW.1
          rcases List.mem_cons.mp hx with rfl | hx
          · exact hIw2.symm
          rcases List.mem_cons.mp hx with rfl | hx
          · exact Nat.ne_of_gt lwl
          · exact (hne x (.tail _ hx)).1
        intro h9 F9 N10
        rw [List.push_toArray] at N10
        obtain ⟨tq, N10⟩ : ∃ tq, News g3 L' h9 ((wl, listOf (ws ++ [Value.int p tq]).toArray (nw + 1)) :: (L' + 1, co2) :: (hh2.objs.size, oI) :: (ol, listOf #[.int (Q4.ex ⟨qa, qb, qc, qd⟩ p).a s0, .int (Q4.ex ⟨qa, qb, qc, qd⟩ p).b s1, .int (Q4.ex ⟨qa, qb, qc, qd⟩ p).c s2, .int (Q4.ex ⟨qa, qb, qc, qd⟩ p).d s3] n') :: T) := ⟨_, N10⟩
        clear N9 N8 F8
        k_steps
        rename News g3 _ _ _ => Nq
        refine TPost.next ⟨⟨Q4.ex ⟨qa, qb, qc, qd⟩ p, ol, s0, s1, s2, s3, n', ws ++ [.int p tq], done ++ [p], rest, nw + 1, co2⟩, g3, _, _, _, rfl, ⟨T3.trans T4, B4, X4, P4, D4⟩, by k_asm, fun x hx => Nq x ?_, fun x hx => ?_, List.forall_mem_nil _, by kst_same, hDn, hIw.append (.cons _ _ .nil), by rw [hway2]; simp, by simp [hlen], hco2, fun x hx => ?_⟩
        · rcases List.mem_cons.mp hx with rfl | hx
          · exact .tail _ (.tail _ (.head _))
          rcases List.mem_cons.mp hx with rfl | hx
          · exact .tail _ (.head _)
          rcases List.mem_cons.mp hx with rfl | hx
          · exact .head _
          rcases List.mem_cons.mp hx with rfl | hx
          · exact .tail _ (.tail _ (.tail _ (.head _)))
          · exact .tail _ (.tail _ (.tail _ (.tail _ hx)))
        · rcases List.mem_cons.mp hx with rfl | hx
          · exact hIc
          rcases List.mem_cons.mp hx with rfl | hx
          · exact hIw2
          rcases List.mem_cons.mp hx with rfl | hx
          · exact Nat.ne_of_gt lI
          · exact hoff x (.tail _ (.tail _ (.tail _ hx)))
        · rcases List.mem_cons.mp hx with rfl | hx
          · exact ⟨Nat.ne_of_gt lwl, Nat.ne_of_gt lco⟩
          · exact hne x (.tail _ hx)
  case q10 =>
    rintro c g2 h2 tk2 u hG ⟨hDn, hIw, hway2, hlen, hc1, hne⟩ F3 N3
    exfalso
    have := congrArg List.length hway2
    rw [List.length_append] at this
    omega
end
section
open PySem PySem.Calls PySem.Spec PySem.W PyProof.Rows
set_option maxRecDepth 100000
set_option maxHeartbeats 8000000
section
variable {prog : Program} {w : World} {A : Around} {E : Value → Shared → Prop} {s : Shared} {env : Env} {Q : Flow → Shared → Prop}
def ForAtG (prog : Program) (w : World) (A : Around) (env : Env) (target : PySem.Expr) (body : List Stmt) (Q : Flow → Shared → Prop) (E : Value → Shared → Prop) (it : Value) (s₂ : Shared) : Prop :=
  codeAny (model prog w) A (.forLoop target it body [] env) (fun r s' => match r with | .ok f => Q f s' | .error e => cameBackBy (model prog w) A env E e s') s₂
theorem for_G {target : PySem.Expr} {pos : Pos} {iter : PySem.Expr} {body : List Stmt}
    (h : wpAny (model prog w) A (eval iter env) (fun xv s₁ => wpAny (model prog w) A (pyIter xv) (fun it s₂ => ForAtG prog w A env target body Q E it s₂) E s₁) E s)
    (hs : ∀ x, foldedSetIterable iter env x = pure x := by intro _; rfl) : wpAny (model prog w) A (exec (.For target iter body [] pos) env) Q E s := wpAny_For h hs
theorem loop_G {σ : Type} {x : Str} {target : PySem.Expr} {body : List Stmt} {I : Addr} {fp : List Addr} {n : Nat} {Pv : Nat → Value → Prop} {St : Nat → Heap → Prop} {m₀ : Str → Option Value} {g₀ : Heap} (Ld : σ → Led) (ps : σ → List (Str × Value)) (stored : List Str) (P : Nat → σ → Prop) (G : Heap → Prop) (c₀ : σ)
    (W : Walks prog w A I fp [I] n Pv St) (hgo : ∀ i v (s : Shared) (Q : Unit → Shared → Prop) (E : Value → Shared → Prop), St i s.heap → Q () s → wpAny (model prog w) A (letOwnedTupleGo target (.ref I) v) Q E s)
    (hIo : ∀ i h, St i h → ∃ o, h.get? I = some o) (hfp : ∀ b ∈ fp, b ≠ I → ∀ c, ∃ o, (b, o) ∈ Ld c ∧ ∀ c', (b, o) ∈ Ld c') (hxs : stored.contains x = true)
    (hst : St 0 s.heap) (hG : G g₀) (F : Fr g₀ env.locals s.heap m₀) (hI₀ : g₀.get? I = none) (hIL : I ≠ env.locals)
    (N : News g₀ env.locals s.heap (Ld c₀)) (off : ∀ p ∈ Ld c₀, p.1 ≠ I) (hk : ∀ p ∈ ps c₀, m₀ p.1 = some p.2) (hP : P 0 c₀)
    (turn : ∀ i c g v h tk oI (u : Str → Option Value), i < n → Pv i v → G g → P i c → (∀ p ∈ Ld c, p.1 ≠ I) → Fr g env.locals h (kstB (fun z => if stored.contains z then u z else m₀ z) (ps c)) → News g env.locals h ((I, oI) :: Ld c) →
      wpAny (model prog w) A (assign target env v) (fun _ s₃ => wpAny (model prog w) A (execs body env) (TPost s env.locals I oI G Ld ps x stored m₀ (P (i + 1)) Q) E s₃) E { s with heap := h, toks := tk })
    (done : ∀ c g h tk (u : Str → Option Value), G g → P n c → Fr g env.locals h (kstB (fun z => if stored.contains z then u z else m₀ z) (ps c)) → News g env.locals h (Ld c) → Q .next { s with heap := h, toks := tk })
    (hE : PassesOwn (model prog w) A env E := by passes_own) : ForAtG prog w A env target body Q E (.ref I) s := by
  obtain ⟨oI₀, hoI₀⟩ := hIo _ _ hst
  have hz : ∀ {ps : List (Str × Value)} {m : Str → Option Value}, (∀ z, z ≠ x → (∀ p ∈ ps, z ≠ p.1) → stored.contains z = false → m z = m₀ z) → ∀ z, (∀ p ∈ ps, z ≠ p.1) → stored.contains z = false → m z = m₀ z := fun h z h1 h2 =>
    h z (fun e => by rw [e, hxs] at h2; cases h2) h1 h2
  refine codeAny_forLoop_any
    (fun k s' => ∃ i c g h tk m oI, s' = { s with heap := h, toks := tk } ∧ St i h ∧ G g ∧ Fr g env.locals h m ∧ News g env.locals h ((I, oI) :: Ld c) ∧ (∀ p ∈ Ld c, p.1 ≠ I) ∧ (∀ p ∈ ps c, m p.1 = some p.2) ∧ (∀ z, z ≠ x → (∀ p ∈ ps c, z ≠ p.1) → stored.contains z = false → m z = m₀ z) ∧ P i c ∧ i ≤ n ∧ k = n + 1 - i) ?_ (n + 1)
    ⟨0, c₀, g₀, s.heap, s.toks, m₀, oI₀, rfl, hst, hG, F, fun p hp => ?_, off, hk, fun _ _ _ _ => rfl, hP, Nat.zero_le _, rfl⟩
  · rintro k s' ⟨i, c, g, h, tk, m, oI, rfl, hst', hG', F', N', off', hk', hr', hP', hi, rfl⟩
    have nI : g.get? I = none := (N' _ (.head _)).2.2
    have next : ∀ h₁ : Heap, (∀ b o, b ∉ [I] → h.get? b = some o → h₁.get? b = some o) → Fr g env.locals h₁ m ∧ News g env.locals h₁ (Ld c) := fun h₁ hk₁ =>
      ⟨⟨F'.ns.at' fun o e => hk₁ _ o (by simpa using Ne.symm hIL) e, fun b o e => hk₁ b o (fun hb => by rw [List.mem_singleton.mp hb, nI] at e; cases e) (F'.keep b o e), F'.above⟩,
        fun p hp => ⟨hk₁ _ _ (by simpa using off' p hp) (N' p (.tail _ hp)).1, (N' p (.tail _ hp)).2⟩⟩
    by_cases hlt : i < n
    · refine W.item i _ _ _ hlt hst' fun v h₁ tk₁ hPv hst₁ hk₁ => ?_
      obtain ⟨F₁, N₁⟩ := next h₁ hk₁
      obtain ⟨o₁, ho₁⟩ := hIo _ _ hst₁
      refine hgo _ _ _ _ _ hst₁ ?_
      have N₂ : News g env.locals h₁ ((I, o₁) :: Ld c) := fun p hp => by
        rcases List.mem_cons.mp hp with rfl | hp
        · exact ⟨ho₁, hIL, nI⟩
        · exact N₁ p hp
      have fin : ∀ s₃, TEnd s env.locals I o₁ G Ld ps x stored m₀ (P (i + 1)) s₃ → ∃ k', k' < n + 1 - i ∧ ∃ i c g h tk m oI, s₃ = { s with heap := h, toks := tk } ∧ St i h ∧ G g ∧ Fr g env.locals h m ∧ News g env.locals h ((I, oI) :: Ld c) ∧ (∀ p ∈ Ld c, p.1 ≠ I) ∧ (∀ p ∈ ps c, m p.1 = some p.2) ∧ (∀ z, z ≠ x → (∀ p ∈ ps c, z ≠ p.1) → stored.contains z = false → m z = m₀ z) ∧ P i c ∧ i ≤ n ∧ k' = n + 1 - i := by
        rintro s₃ ⟨c₃, g₃, hh₃, tk₃, m₃, rfl, hG₃, F₃, N₃, off₃, hk₃, hr₃, hP₃⟩
        refine ⟨n + 1 - (i + 1), by omega, i + 1, c₃, g₃, hh₃, tk₃, m₃, o₁, rfl, ?_, hG₃, F₃, N₃, off₃, hk₃, hr₃, hP₃, hlt, rfl⟩
        refine W.frame _ _ _ hst₁ fun b hb o e => ?_
        by_cases hbI : b = I
        · subst hbI
          rw [(N₂ _ (.head _)).1] at e
          exact (Option.some.inj e) ▸ (N₃ _ (.head _)).1
        · obtain ⟨o', ho', hall⟩ := hfp b hb hbI c
          rw [(N₂ _ (.tail _ ho')).1] at e
          exact (Option.some.inj e) ▸ (N₃ _ (.tail _ (hall c₃))).1
      have tn := turn i c g v h₁ tk₁ o₁ m hlt hPv hG' hP' off' (ksw_fr hk' (hz hr') F₁) N₂
      refine wpAny_passesOwn hE (wpAny_mono tn (fun _ s₂ h₂ => wpAny_passesOwn hE (wpAny_mono h₂ (fun f s₃ h₃ => ?_) fun _ _ e => e)) fun _ _ e => e)
      cases f with
      | ret v => exact h₃
      | brk => exact h₃
      | next => exact fin _ h₃
      | cont => exact fin _ h₃
    · have hin : i = n := by omega
      subst hin
      refine W.done _ _ _ hst' fun h₁ tk₁ hk₁ => wpAny_execs_nil ?_
      obtain ⟨F₁, N₁⟩ := next h₁ hk₁
      exact done c g h₁ tk₁ m hG' hP' (ksw_fr hk' (hz hr') F₁) N₁
  · rcases List.mem_cons.mp hp with rfl | hp
    · exact ⟨hoI₀, hIL, hI₀⟩
    · exact N p hp
end
end
section
open PySem PySem.Calls PySem.Spec PySem.W PyProof.Rows
set_option maxRecDepth 100000
set_option maxHeartbeats 8000000
theorem rsRD : True := by
  w_top off
  k_with_none
  trivial
local macro_rules | `(tactic| walk_at "none such") => `(tactic| trivial)
theorem kw12 : True := by
  k_with "me call ref" => (k_here; (with_reducible show wpAny _ _ (call (Value.ref 250) _) _ _ _); (refine tell_int (op_sub _ _ _ _ _ _) (by k_asm) (by k_asm) (by k_asm) (by k_asm) (by k_asm) rfl (by ktr_room) (by ktr_units) ?_); intro _ _ _ _ _; (try dsimp only); (try k_sweep))
  k_with "me call ref" => (k_here; (with_reducible show wpAny _ _ (call (Value.ref 236) _) _ _ _); (refine tell_int (op_mul _ _ _ _ _ _ (by omega) (by omega)) (by k_asm) (by k_asm) (by k_asm) (by k_asm) (by k_asm) rfl (by ktr_room) (by ktr_units) ?_); intro _ _ _ _ _; (try dsimp only); (try k_sweep))
  k_with "me call ref" => (k_here; (with_reducible show wpAny _ _ (call (Value.ref 229) _) _ _ _); (refine tell_int (op_fdiv _ _ _ _ _ _ (by omega) (by omega)) (by k_asm) (by k_asm) (by k_asm) (by k_asm) (by k_asm) rfl (by ktr_room) (by ktr_units) ?_); intro _ _ _ _ _; (try dsimp only); (try k_sweep))
  k_with "me exec For Tuple Name cons nil" => (k_here; refine Stopped.out ?_)
  k_with "me pyIter ref" => (k_here; refine Stopped.out ?_)
  k_with "me CompSrcT" => (k_here; refine Stopped.out ?_)
  k_with "me call builtin:list.extend" => (k_here; refine Stopped.out ?_)
  trivial
local macro_rules | `(tactic| walk_at "CompEnd") => `(tactic| (refine LCg.CompEnd.intro (by assumption) (by assumption) _ (fun p hp => hp) (by assumption) (by lcg_src) ?_))
local macro_rules | `(tactic| walk_at "FinE") => `(tactic| ((unfold LCg.FinE); intro D' h' tk' F' N' o1'; (try simp only [List.nil_append, List.cons_append] at N'); (try dsimp only)))
theorem kw13 : True := by
  k_with "me KCiEl" => (refine Stopped.out ?_)
  k_with "me KCiNo" => (refine Stopped.out ?_)
  trivial
def rdGrow (l : List Int) (k : Int) : List Int := if k > 63 then l ++ [k / 64 - 33] else l
def readOne (e : Int × Int × Int × Int) : List Int := [e.1, e.2.1, e.2.2.1, 2 * (e.2.2.2 / 2)].foldl rdGrow []
theorem rdGrows : KPfGrows rdGrow := fun l k => by
  unfold rdGrow
  split
  · simp
  · omega
theorem EtesIn.at {news : Led} {vs : List Value} {es : List (Int × Int × Int × Int)} (h : EtesIn news vs es) : ∀ {i : Nat} {v : Value}, vs[i]? = some v → ∃ x dx a b c d t1 t2 t3 t4, v = .ref x ∧ es[i]? = some (a, b, c, d) ∧ (x, eteObj dx [.int (a * 2) t1, .int (a * 2 + b * 2) t2, .int (c * 2) t3, .int (d / 2) t4, .bool (d % 2 == 1)]) ∈ news := by
  induction h with
  | nil => intro i v e; simp at e
  | @cons x dx a b c d t1 t2 t3 t4 vs es hm _ ih =>
    intro i v e
    cases i with
    | zero => simp at e; subst e; exact ⟨x, dx, a, b, c, d, t1, t2, t3, t4, rfl, rfl, hm⟩
    | succ i => exact ih (by simpa using e)
theorem news_pull4 {g h : Heap} {L : Addr} {a b c d : Addr × Obj} {T : Led} (N : News g L h (a :: b :: c :: d :: T)) : News g L h (d :: a :: c :: T) := fun x hx => N x (by
  rcases List.mem_cons.mp hx with rfl | hx
  · exact .tail _ (.tail _ (.tail _ (.head _)))
  rcases List.mem_cons.mp hx with rfl | hx
  · exact .head _
  rcases List.mem_cons.mp hx with rfl | hx
  · exact .tail _ (.tail _ (.head _))
  · exact .tail _ (.tail _ (.tail _ (.tail _ hx))))
structure RdS where
  vs : List Value
  xs : List Int
  n : Nat
theorem lrd (w : World) (en : Addr) (refs : List Value) (es : List (Int × Int × Int × Int)) (ne : Nat) (hne : ∀ e ∈ es, readOne e ≠ []) (hlen : es.length ≤ 100) (T : Led) (hE : EtesIn T refs es) (h3 : (en, listOf refs.toArray ne) ∈ T) :
    Tell w 4 40 300 [.ref en] T (OctRet T (es.flatMap readOne)) := by
  intro loose mean mg mb dp un gd cn cs a ccd cl outer A₀ base h₀ L m s Q E B F X N Tp hk hd hu hret
  refine wpAny_call ?_
  k_dflt cell_enter
  k_steps
  refine Stopped.on ?_
  refine for_G ?_
  k_steps
  refine Stopped.on ?_
  rename_i g L' _ FG BG XG TG pl _ lT _ F9 N9
  have hl : Heap.IsList _ en refs.toArray := ⟨_, (N9 _ (.tail _ h3)).1, rfl, ne, rfl⟩
  refine wpAny_pyIter_list hl ?_
  have hsz : refs.length = es.length := hE.length
  refine loop_G (σ := RdS) (x := Str.ofString "start") (fun c => (pl, listOf c.vs.toArray c.n) :: T) (fun _ => []) [Str.ofString "start", Str.ofString "end", Str.ofString "target", Str.ofString "depth", Str.ofString "lasti", Str.ofString "numbers"]
    (fun i c => IntsAre c.vs c.xs ∧ c.xs = (es.take i).flatMap readOne) (fun g' => g' = g) ⟨[], [], 0⟩
    (Walks.list rfl _ en (Nat.ne_of_lt (Heap.lt_size (N9 _ (.tail _ h3)).1)) refs.toArray) (fun i v s Q E st q => letGo_listiter st.1 q) (fun i h st => ⟨_, st.1.choose_spec.1⟩) ?q1 rfl ?q2 rfl (F9.push _) ?q3 ?q4 ?q5 ?q6 (List.forall_mem_nil _) ?q7 ?q8 ?q9
  case q1 =>
    intro b hb hI c
    have e : b = en := by simpa [hI] using hb
    subst e
    exact ⟨_, .tail _ h3, fun c' => .tail _ h3⟩
  case q2 => exact ⟨⟨_, Heap.get?_push_size _ rfl, rfl, rfl⟩, hl.at fun o e => Heap.get?_push_of_some _ e⟩
  case q3 => exact next_is_new F9
  case q4 => exact fun h => absurd F9.ns.lt (h ▸ Nat.lt_irrefl _)
  case q5 => exact fun p hp => ⟨Heap.get?_push_of_some _ (N9 p hp).1, (N9 p hp).2⟩
  case q6 => exact fun p hp => Nat.ne_of_lt (Heap.lt_size (N9 p hp).1)
  case q7 => exact ⟨.nil, rfl⟩
  case q8 =>
    rintro i ⟨vs, xs, n⟩ g2 v h2 tk2 oI u hi hv rfl ⟨hI, hX⟩ hoff F3 N3
    dsimp only [kstB] at hI hX F3 N3 ⊢
    obtain ⟨x, dx, a, b, c, d, t1, t2, t3, t4, rfl, hes, hx⟩ := hE.at (i := i) (v := v) (by simpa using hv)
    refine ete_assign XG F3 N3 (.tail _ (.tail _ hx)) rfl rfl rfl ?_
    intro h6 F6 N6
    clear F3 N3 hret F9 N9
    have e1 : a * 2 / 2 = a := by omega
    have e2 : (a * 2 + b * 2 - a * 2) / 2 = b := by omega
    have e3 : c * 2 / 2 = c := by omega
    k_steps
    refine Stopped.on ?_
    rename Fr g2 L' _ _ => F7
    rename News g2 L' _ _ => N7
    rw [e1, e2, e3] at N7
    refine LCt.CompSrcT.ledger rfl F7 N7 (.head _) (by rw [sizeLine_eq]; simp) ?_
    intro g'
    refine kci_list rdGrow (ns := [a, b, c, 2 * (d / 2)]) (.cons _ _ (.cons _ _ (.cons _ _ (.cons _ _ .nil)))) ?r1 ?r2 rdGrows
    case r1 =>
      intro k' t' I' oI' C' oC' D' m' ys' l' h' tk' E' hk' hI' hC' hx' F' N' off' ne' hMark'
      k_steps
      · refine Stopped.on ?_
        rename (_ > _) => hgt
        exact kci_el (if_pos hgt) rfl rfl
      · refine Stopped.on ?_
        rename ¬ (_ > _) => hgt
        exact kci_no (if_neg hgt) rfl
    case r2 =>
      intro ys hys hyl
      have hys : IntsAre ys (readOne (a, b, c, d)) := hys
      clear F7 N7
      k_steps
      refine Stopped.on ?_
      rename_i DD _ _ F8 N8 o8
      have N9 := news_pull4 N8
      have hD1 : pl ≠ DD := off1_mem o8 (pl, listOf vs.toArray n) (.tail _ (.tail _ (.head _)))
      have hne1 : 0 < (readOne (a, b, c, d)).length := List.length_pos_iff.mpr (hne _ (List.mem_of_getElem? hes))
      have hrl : (readOne (a, b, c, d)).length ≤ 4 := by
        have h9 := kpf_len rdGrows [a, b, c, 2 * (d / 2)] []
        simp only [List.length_nil, List.length_cons, Nat.zero_add] at h9
        exact h9
      have hyl2 := hys.length
      have hvl : vs.length ≤ 400 := by
        rw [hI.length, hX]
        have h1 : ∀ l : List (Int × Int × Int × Int), (l.flatMap readOne).length ≤ 4 * l.length := by
          intro l
          induction l with
          | nil => exact Nat.zero_le _
          | cons e l ih =>
            have h2 := kpf_len rdGrows [e.1, e.2.1, e.2.2.1, 2 * (e.2.2.2 / 2)] []
            simp only [List.length_nil, List.length_cons, Nat.zero_add] at h2
            have h3 : (readOne e).length ≤ 4 := h2
            simp only [List.flatMap_cons, List.length_append, List.length_cons]
            omega
        have h2 := h1 (es.take i)
        have h3 : (es.take i).length ≤ es.length := by rw [List.length_take]; omega
        omega
      refine kl_extend (l := vs ++ ys) F8 N9 (.tail _ (.head _)) rfl (by rw [List.toList_toArray]; omega) (Upd.head fun x hx => ?_) ?_ ?_ ?_ ?_
      · rcases List.mem_cons.mp hx with rfl | hx
        · exact hD1.symm
        rcases List.mem_cons.mp hx with rfl | hx
        · exact (hoff (pl, listOf vs.toArray n) (.head _)).symm
        · exact Nat.ne_of_lt (lT x hx)
      · intro h
        simp only [Bool.and_eq_true, Builtin.List.listTooLong, decide_eq_true_eq, List.size_toArray, sizeLine_eq] at h
        omega
      · rw [List.toList_toArray, sizeLine_eq]; omega
      · rw [List.size_toArray, List.size_toArray, sizeLine_eq]; omega
      · intro h8 F10 N10
        clear N9 N8 F8
        k_steps
        rename Fr g2 L' _ _ => F11
        rename News g2 L' _ _ => N11
        refine TPost.next ⟨⟨vs ++ ys, xs ++ readOne (a, b, c, d), n + 1⟩, g2, _, _, _, rfl, rfl, F11, fun x hx => N11 x ?_, fun x hx => ?_, List.forall_mem_nil _, by kst_same, hI.append hys, ?_⟩
        · rcases List.mem_cons.mp hx with rfl | hx
          · exact .tail _ (.tail _ (.head _))
          rcases List.mem_cons.mp hx with rfl | hx
          · exact .head _
          · exact .tail _ (.tail _ (.tail _ hx))
        · rcases List.mem_cons.mp hx with rfl | hx
          · exact hoff (pl, listOf vs.toArray n) (.head _)
          · exact hoff x (.tail _ hx)
        · show xs ++ readOne (a, b, c, d) = (es.take (i + 1)).flatMap readOne
          rw [hX, List.take_add_one, hes]
          simp
  case q9 =>
    rintro ⟨vs, xs, n⟩ g2 h2 tk2 u rfl ⟨hI, hX⟩ F3 N3
    dsimp only [kstB] at hI hX F3 N3 ⊢
    k_steps
    have hts : es.take refs.toArray.size = es := List.take_of_length_le (by rw [List.size_toArray, hsz]; exact Nat.le_refl _)
    rw [hts] at hX
    exact hret _ _ _ _ ⟨pl, _, _, rfl, rfl, hX ▸ hI, lT⟩ (by k_asm) (by k_asm)
end
section
open PySem PySem.Calls PySem.Spec PySem.W PyProof.Rows
set_option maxRecDepth 100000
set_option maxHeartbeats 8000000
theorem rsSS : True := by
  w_top off
  k_with_none
  trivial
theorem kw14 : True := by
  k_with "me exec Try" => (k_here; refine Stopped.out ?_)
  trivial
local macro_rules | `(tactic| ktr_rel) => `(tactic| (refine' code_def ?k1 ?k2 ?k3 ?k4 ?k5 ?kA ?kF ?kK ?k6 ?k7 ?k8 ?k9 ?kB ?_ ?c2 ?c3 ?c4 ?c5; (case kA => exact rfl); (case kF => exact rfl); (case kK => assumption); (case k1 => k_asm); (case k2 => k_asm); (case k3 => k_asm); (case k4 => k_asm); (case k5 => k_asm); (case k6 => k_is); (case k7 => k_is); (case k8 => ktr_room); (case k9 => exact binds_K (by k_in) rfl (by k_is) rfl rfl rfl); (case c5 => decide); (case kB => exact locs rfl); (case c2 => exact rfl); (case c3 => exact rfl); (case c4 => exact rfl); k_whole; intro g' L' h' FG' F' N' B' X' T'; (try dsimp only); (try k_lift B'); (try k_fold)))
theorem ss_str (w : World) (x y : Str) (t u : Tok) (T : Led) : Tell w 2 20 208 [.str x t, .str y u] T (fun r news' => (∃ t', r = .str x t') ∧ news' = T) := by
  intro loose mean mg mb dp un gd cn cs a ccd cl outer A₀ base h₀ L m s Q E B F X N Tp hk hd hu hret
  refine wpAny_call ?_
  k_dflt ktr_rel
  k_steps
  refine Stopped.on ?_
  refine wpAny_Try_except ?_
  k_steps
  exact hret _ _ _ _ ⟨⟨_, rfl⟩, rfl⟩ (by k_asm) (by k_asm)
theorem ss_none (w : World) (y : Str) (u : Tok) (T : Led) : Tell w 2 20 208 [.none, .str y u] T (fun r news' => (∃ t', r = .str (Str.ofString "None") t') ∧ news' = T) := by
  intro loose mean mg mb dp un gd cn cs a ccd cl outer A₀ base h₀ L m s Q E B F X N Tp hk hd hu hret
  refine wpAny_call ?_
  k_dflt ktr_rel
  k_steps
  refine Stopped.on ?_
  refine wpAny_Try_except ?_
  k_steps
  exact hret _ _ _ _ ⟨⟨_, rfl⟩, rfl⟩ (by k_asm) (by k_asm)
end
section
open PySem PySem.Calls PySem.Spec PySem.W PyProof.Rows
set_option maxRecDepth 100000
set_option maxHeartbeats 8000000
theorem rsFM : True := by
  w_top off
  k_with_none
  trivial
local macro_rules | `(tactic| walk_at "none such") => `(tactic| trivial)
/-- as `Tell`, with keyword arguments -/
def TellA (w : World) (d u : Nat) (f : Addr) (vs : List Value) (kw : List (Str × Value)) (news : Led) (Ret : Value → Led → Prop) : Prop :=
  ∀ (loose : List Str) (mean : ExcName → Option Value) (mg mb : Str → Option Value) (dp un : Nat) (gd : Option (List Code)) (cn : Str) (cs : Scope) (a : Addr) (ccd : Value) (cl : List (Str × Addr)) (outer : List Env) (A₀ : Around) (base h₀ : Heap) (L : Addr) (m : Str → Option Value) (s : Shared) (Q E : Value → Shared → Prop),
    Below A₀ base outer h₀ → Fr h₀ L s.heap m → (Mine.hd.heap_1 w.params).In h₀ → News h₀ L s.heap news → Top Mine.view loose mean mg mb h₀ → cs.kind = .function → dp + d < recursionLimit → un + u < cLine →
    (∀ r news' h' tk', Ret r news' → Fr h₀ L h' m → News h₀ L h' news' → Q r { s with heap := h', toks := tk' }) →
    wpAny (model PySem.Challenge.pw_kl0477_01 w) (ktrTop dp un gd cn cs L a ccd cl outer) (call (.ref f) vs kw) Q E s
def fmtL (e : Str) (x : Option Str) (z : Str) : Str :=
  match x with
  | none => Str.empty ++ e ++ z
  | some x => if (x.length : Int) = 0 then Str.empty ++ e ++ z else Str.empty ++ e ++ Str.ofString ": " ++ x ++ z
section
variable {w : World} {d u : Nat} {f : Addr} {vs : List Value} {news : Led} {loose : List Str} {mean : ExcName → Option Value} {mg mb : Str → Option Value} {dp un : Nat} {gd : Option (List Code)} {cn : Str} {cs : Scope} {a : Addr} {ccd : Value} {cl : List (Str × Addr)} {outer : List Env} {A₀ : Around} {base h₀ : Heap} {L : Addr} {m : Str → Option Value} {s : Shared} {Q E : Value → Shared → Prop}
theorem tell_str {v : Str} (C : Tell w d u f vs news (fun r news' => (∃ t, r = .str v t) ∧ news' = news)) (F : Fr h₀ L s.heap m) (N : News h₀ L s.heap news) (B : Below A₀ base outer h₀) (X : (Mine.hd.heap_1 w.params).In h₀) (T : Top Mine.view loose mean mg mb h₀) (hk : cs.kind = .function) (hd : dp + d < recursionLimit) (hu : un + u < cLine)
    (ret : ∀ t h' tk', Fr h₀ L h' m → News h₀ L h' news → Q (.str v t) { s with heap := h', toks := tk' }) :
    wpAny (model PySem.Challenge.pw_kl0477_01 w) (ktrTop dp un gd cn cs L a ccd cl outer) (call (.ref f) vs) Q E s :=
  tell_useF C F N B X T hk hd hu fun _ _ h' tk' hr F' N' => by
    obtain ⟨⟨t, rfl⟩, rfl⟩ := hr
    exact ret t h' tk' F' N'
theorem tellA_str {v : Str} {kw : List (Str × Value)} (C : TellA w d u f vs kw news (fun r news' => (∃ t, r = .str v t) ∧ news' = news)) (F : Fr h₀ L s.heap m) (N : News h₀ L s.heap news) (B : Below A₀ base outer h₀) (X : (Mine.hd.heap_1 w.params).In h₀) (T : Top Mine.view loose mean mg mb h₀) (hk : cs.kind = .function) (hd : dp + d < recursionLimit) (hu : un + u < cLine)
    (ret : ∀ t h' tk', Fr h₀ L h' m → News h₀ L h' news → Q (.str v t) { s with heap := h', toks := tk' }) :
    wpAny (model PySem.Challenge.pw_kl0477_01 w) (ktrTop dp un gd cn cs L a ccd cl outer) (call (.ref f) vs kw) Q E s :=
  C _ _ _ _ _ _ _ _ _ _ _ _ _ _ _ _ _ _ _ _ _ B F X N T hk hd hu fun _ _ h' tk' hr F' N' => by
    obtain ⟨⟨t, rfl⟩, rfl⟩ := hr
    exact ret t h' tk' F' N'
end
theorem kw15 : True := by
  k_with "me call ref" => (k_here; (with_reducible show wpAny _ _ (call (Value.ref 208) [Value.str _ _, _]) _ _ _); (refine tell_str (ss_str _ _ _ _ _ _) (by k_asm) (by k_asm) (by k_asm) (by k_asm) (by k_asm) rfl (by ktr_room) (by ktr_units) ?_); intro _ _ _ _ _; (try dsimp only); (try k_sweep))
  k_with "me call ref" => (k_here; (with_reducible show wpAny _ _ (call (Value.ref 208) [Value.none, _]) _ _ _); (refine tell_str (ss_none _ _ _ _) (by k_asm) (by k_asm) (by k_asm) (by k_asm) (by k_asm) rfl (by ktr_room) (by ktr_units) ?_); intro _ _ _ _ _; (try dsimp only); (try k_sweep))
  trivial
local macro_rules | `(tactic| ktr_rel) => `(tactic| (refine' code_def ?k1 ?k2 ?k3 ?k4 ?k5 ?kA ?kF ?kK ?k6 ?k7 ?k8 ?k9 ?kB ?_ ?c2 ?c3 ?c4 ?c5; (case kA => exact rfl); (case kF => exact rfl); (case kK => assumption); (case k1 => k_asm); (case k2 => k_asm); (case k3 => k_asm); (case k4 => k_asm); (case k5 => k_asm); (case k6 => k_is); (case k7 => k_is); (case k8 => ktr_room); (case k9 => (refine' kp_binds ?kx ?ke; (case kx => k_in); (case ke => exact fun _ => rfl))); (case c5 => decide); (case kB => exact locs rfl); (case c2 => exact rfl); (case c3 => exact rfl); (case c4 => exact rfl); k_whole; intro g' L' h' FG' F' N' B' X' T'; (try dsimp only); (try k_lift B'); (try k_fold)))
theorem fm_str (w : World) (e x : Str) (t u : Tok) (he : e.length ≤ 10) (hx : x.length ≤ 1000) (T : Led) : Tell w 4 40 200 [.str e t, .str x u] T (fun r news' => (∃ t', r = .str (fmtL e (some x) (Str.ofString "\n")) t') ∧ news' = T) := by
  intro loose mean mg mb dp un gd cn cs a ccd cl outer A₀ base h₀ L m s Q E B F X N Tp hk hd hu hret
  refine wpAny_call ?_
  k_dflt ktr_rel
  k_steps
  · rename ((x.length : Int) ≠ 0) => hz
    have hr : fmtL e (some x) (Str.ofString "\n") = Str.empty ++ e ++ Str.ofString ": " ++ x ++ Str.ofString "\n" := if_neg hz
    rw [hr] at hret
    exact hret _ _ _ _ ⟨⟨_, rfl⟩, rfl⟩ (by k_asm) (by k_asm)
  · rename ((x.length : Int) = 0) => hz
    have hr : fmtL e (some x) (Str.ofString "\n") = Str.empty ++ e ++ Str.ofString "\n" := if_pos hz
    rw [hr] at hret
    exact hret _ _ _ _ ⟨⟨_, rfl⟩, rfl⟩ (by k_asm) (by k_asm)
theorem fm_none (w : World) (e : Str) (t : Tok) (he : e.length ≤ 10) (T : Led) : Tell w 4 40 200 [.str e t, .none] T (fun r news' => (∃ t', r = .str (fmtL e (none) (Str.ofString "\n")) t') ∧ news' = T) := by
  intro loose mean mg mb dp un gd cn cs a ccd cl outer A₀ base h₀ L m s Q E B F X N Tp hk hd hu hret
  refine wpAny_call ?_
  k_dflt ktr_rel
  k_steps
  exact hret _ _ _ _ ⟨⟨_, rfl⟩, rfl⟩ (by k_asm) (by k_asm)
theorem fmk_str (w : World) (e x : Str) (t u : Tok) (he : e.length ≤ 10) (hx : x.length ≤ 1000) (T : Led) : TellA w 4 40 200 [.str e t, .str x u] [(Str.ofString "insert_final_newline", .bool false)] T (fun r news' => (∃ t', r = .str (fmtL e (some x) (Str.ofString "")) t') ∧ news' = T) := by
  intro loose mean mg mb dp un gd cn cs a ccd cl outer A₀ base h₀ L m s Q E B F X N Tp hk hd hu hret
  refine wpAny_call ?_
  k_dflt ktr_rel
  k_steps
  · rename ((x.length : Int) ≠ 0) => hz
    have hr : fmtL e (some x) (Str.ofString "") = Str.empty ++ e ++ Str.ofString ": " ++ x ++ Str.ofString "" := if_neg hz
    rw [hr] at hret
    exact hret _ _ _ _ ⟨⟨_, rfl⟩, rfl⟩ (by k_asm) (by k_asm)
  · rename ((x.length : Int) = 0) => hz
    have hr : fmtL e (some x) (Str.ofString "") = Str.empty ++ e ++ Str.ofString "" := if_pos hz
    rw [hr] at hret
    exact hret _ _ _ _ ⟨⟨_, rfl⟩, rfl⟩ (by k_asm) (by k_asm)
theorem fmk_none (w : World) (e : Str) (t : Tok) (he : e.length ≤ 10) (T : Led) : TellA w 4 40 200 [.str e t, .none] [(Str.ofString "insert_final_newline", .bool false)] T (fun r news' => (∃ t', r = .str (fmtL e (none) (Str.ofString "")) t') ∧ news' = T) := by
  intro loose mean mg mb dp un gd cn cs a ccd cl outer A₀ base h₀ L m s Q E B F X N Tp hk hd hu hret
  refine wpAny_call ?_
  k_dflt ktr_rel
  k_steps
  exact hret _ _ _ _ ⟨⟨_, rfl⟩, rfl⟩ (by k_asm) (by k_asm)
end
section
open PySem PySem.Calls PySem.Spec PySem.W PyProof.Rows
set_option maxRecDepth 100000
set_option maxHeartbeats 8000000
theorem ha_lk : typeLookup (.type "str") "__getitem__" = pure (some (.builtin "str.__getitem__")) := F.slot_str_getitem.lookup
theorem ha_ty : typeOf (.builtin "str.__getitem__") = pure (.type "wrapper_descriptor") := by kernel_rfl
theorem ha_get : Slot "wrapper_descriptor" "__get__" "wrapper_descriptor.__get__" :=
  .of (owner := "wrapper_descriptor") (n := "__get__") (by rw [typeLookup_type, builtinLookup_eq_fast]; kernel_rfl) (by decide +kernel) (by decide +kernel) (by decide +kernel)
    (by first | exact .inl (by decide +kernel) | exact .inr (by decide +kernel)) (by rw [isSubtype_type]; kernel_rfl)
theorem ha_set : typeLookup (.type "wrapper_descriptor") "__set__" = pure none := by rw [typeLookup_type, builtinLookup_eq_fast]; kernel_rfl
theorem ha_del : typeLookup (.type "wrapper_descriptor") "__delete__" = pure none := by rw [typeLookup_type, builtinLookup_eq_fast]; kernel_rfl
theorem ha_entry : entryFor table "wrapper_descriptor.__get__" = some Builtin.«wrapper_descriptor.__get__» := entryFor_of_tree (by kernel_rfl)
theorem ha_args (a b c : Value) : argsOk "wrapper_descriptor.__get__" ⟨[a, b, c], []⟩ := by unfold argsOk; kernel_rfl
theorem ha_owner : (".".intercalate ("str.__getitem__".cutAt '.').dropLast) = "str" := by
  have e0 : "str.__getitem__".cutAt '.' = ["str", "__getitem__"] := by first | rfl | decide +kernel
  rw [e0]; decide +kernel
theorem ha_sub : isSubtype (.type "str") (.type (".".intercalate ("str.__getitem__".cutAt '.').dropLast)) = pure true := by
  rw [ha_owner, isSubtype_type]; kernel_rfl
section
variable {prog : Program} {w : World} {A : Around} {E : Value → Shared → Prop} {h : Heap} {g : Array GenState} {d : Drawn} {t : Nat} {os : OsState} {x : Str} {u : Tok}
abbrev mwObj (x : Str) (u : Tok) : Obj := { cls := .type "method-wrapper", data := .fields #[.builtin "str.__getitem__", .str x u] }
theorem ha_getc {R : Result → Shared → Prop} (hq : R (.ok (.ret (.ref h.objs.size))) ⟨h.push (mwObj x u), g, d, t, os⟩) :
    codeAny (model prog w) A (.call (.builtin "wrapper_descriptor.__get__") ⟨[.builtin "str.__getitem__", .str x u, .type "str"], []⟩) R ⟨h, g, d, t, os⟩ := by
  have hT : (⟨h, g, d, t, os⟩ : Shared).TypeIs (.str x u) "str" := rfl
  have hT5 : (⟨h, g, d, t, os⟩ : Shared).TypeIs (.builtin "str.__getitem__") "wrapper_descriptor" := ha_ty
  have f8 := ha_sub
  refine codeAny_call_builtin ha_get.plain ha_entry (ha_get.check _ _ _ _ _ _ _ _ hT5 (ha_args _ _ _) ?_)
  repeat (any_goals (first | assumption | wp_step))
theorem ha_entryc {tk : Tok} {Q : Fin → Shared → Prop} (hq : Q (.done (.ret (.ref h.objs.size))) ⟨h.push (mwObj x u), g, d, t, os⟩) :
    wpAny (model prog w) A (Builtin.«object.__getattribute__» ⟨[.str x u, .str "__getitem__" tk], []⟩) Q E ⟨h, g, d, t, os⟩ := by
  have hT : (⟨h, g, d, t, os⟩ : Shared).TypeIs (.str x u) "str" := rfl
  have hT5 : (⟨h, g, d, t, os⟩ : Shared).TypeIs (.builtin "str.__getitem__") "wrapper_descriptor" := ha_ty
  have f4 := ha_lk
  have f5 := ha_ty
  have f6 := ha_get.lookup
  have f7 := ha_set
  have f9 := ha_del
  repeat (any_goals (first | assumption | wp_step))
  refine ha_getc ?_
  repeat (any_goals (first | assumption | wp_step))
theorem ha_callc {tk : Tok} {R : Result → Shared → Prop} (hq : R (.ok (.ret (.ref h.objs.size))) ⟨h.push (mwObj x u), g, d, t, os⟩) :
    codeAny (model prog w) A (.call (.builtin "object.__getattribute__") ⟨[.str x u, .str "__getitem__" tk], []⟩) R ⟨h, g, d, t, os⟩ :=
  codeAny_call_builtin F.slot_str_getattribute.plain F.entry_object_getattribute (F.slot_str_getattribute.check _ _ _ _ _ _ _ _ (show (⟨h, g, d, t, os⟩ : Shared).TypeIs (.str x u) "str" from rfl) (F.args_object_getattribute_2 _ _) (ha_entryc hq))
theorem ha_by {tk : Tok} {Q : Value → Shared → Prop} (hq : Q (.ref h.objs.size) ⟨h.push (mwObj x u), g, d, t, os⟩) : wpAny (model prog w) A (getAttrBy (.str x u) (.str "__getitem__" tk) false) Q E ⟨h, g, d, t, os⟩ := by
  have hT : (⟨h, g, d, t, os⟩ : Shared).TypeIs (.str x u) "str" := rfl
  have f2 := F.slot_str_getattribute.lookup
  have f3 := F.slot_str_getattribute.bind (.str x u)
  repeat (any_goals (first | assumption | wp_step))
  refine ha_callc ?_
  repeat (any_goals (first | assumption | wp_step))
theorem ha_kind : builtinKind "hasattr" = none := by decide +kernel
theorem ha_plain : plainId "hasattr" = true := by decide +kernel
theorem ha_entryh : entryFor table "hasattr" = some Builtin.«hasattr» := entryFor_of_tree (by kernel_rfl)
theorem ha_argsh (a b : Value) : argsOk "hasattr" ⟨[a, b], []⟩ := by unfold argsOk; kernel_rfl
theorem has_str {tk : Tok} {Q : Value → Shared → Prop} (hq : Q (.bool true) ⟨h.push (mwObj x u), g, d, t, os⟩) : wpAny (model prog w) A (call (.builtin "hasattr") [.str x u, .str "__getitem__" tk]) Q E ⟨h, g, d, t, os⟩ := by
  refine call_function_entry ha_kind ha_plain ha_entryh (ha_argsh _ _) ?_
  unfold Builtin.«hasattr»
  refine wpAny_bind (wpAny_of_eq (a := [Value.str x u, Value.str "__getitem__" tk]) (by first | rfl | kernel_rfl) ?_)
  dsimp only
  refine wpAny_bind (wpAny_of_eq (a := ()) (by first | rfl | kernel_rfl) ?_)
  have hT : (⟨h, g, d, t, os⟩ : Shared).TypeIs (.str x u) "str" := rfl
  have f4 := ha_lk
  have f2 := F.slot_str_getattribute.lookup
  unfold getAttrBy?
  repeat (any_goals (first | assumption | with_reducible apply ha_by | wp_step))
  exact ⟨_, rfl, hq⟩
end
section
variable {prog : Program} {w : World} {A : Around} {E : Value → Shared → Prop} {s : Shared} {h₀ : Heap} {L : Addr} {m : Str → Option Value} {news : Led} {Q : Value → Shared → Prop} {x : Str} {u tk : Tok}
theorem has_strN (F : Fr h₀ L s.heap m) (N : News h₀ L s.heap news) (h : ∀ h', Fr h₀ L h' m → News h₀ L h' news → Q (.bool true) { s with heap := h' }) :
    wpAny (model prog w) A (call (.builtin "hasattr") [.str x u, .str "__getitem__" tk]) Q E s := by
  obtain ⟨hh, g, d, t, os⟩ := s
  exact has_str (h _ (F.push _) fun p hp => ⟨Heap.get?_push_of_some _ (N p hp).1, (N p hp).2⟩)
end
end
section
open PySem PySem.Calls PySem.Spec PySem.W PyProof.Rows
set_option maxRecDepth 100000
set_option maxHeartbeats 8000000
theorem rsCO : True := by
  w_top off
  k_with_none
  trivial
local macro_rules | `(tactic| walk_at "none such") => `(tactic| trivial)
local macro_rules | `(tactic| walk_at "call builtin:hasattr") => `(tactic| (k_here; (refine has_strN (by k_asm) (by k_asm) ?_); intro h' F' N'; (try k_sweep)))
theorem co_str (w : World) (x y : Str) (t u : Tok) (hx : x.length ≤ 100000) (hy : y.length ≤ 100000) (T : Led) : Tell w 3 30 257 [.str x t, .str y u] T (fun r news' => (∃ t', r = .str (x ++ y) t') ∧ news' = T) := by
  intro loose mean mg mb dp un gd cn cs a ccd cl outer A₀ base h₀ L m s Q E B F X N Tp hk hd hu hret
  refine wpAny_call ?_
  k_dflt cell_enter
  k_steps
  exact hret _ _ _ _ ⟨⟨_, rfl⟩, rfl⟩ (by k_asm) (by k_asm)
end
section
open PySem PySem.W PyProof.Rows
def optV (x : Option Str) (t : Tok) : Value :=
  match x with
  | none => .none
  | some x => .str x t
abbrev abcd (p : Int) : Str := PySem.Txt.item (Str.ofString "abcd") p
def wrStep (r : Option Str) (p : Int) : Option Str := some (fmtL (abcd p) r (Str.ofString ""))
theorem len_app (x y : Str) : (x ++ y).length = x.length + y.length := by
  show (x.cps ++ y.cps).size = _
  simp [Str.length]
theorem s_colon : (Str.ofString ": ").length = 2 := by decide +kernel
theorem s_nl : (Str.ofString "\n").length = 1 := by decide +kernel
theorem s_emp : (Str.ofString "").length = 0 := by decide +kernel
theorem fmtL_some_len (e x z : Str) : (fmtL e (some x) z).length ≤ e.length + 2 + x.length + z.length := by
  have h0 : Str.empty.length = 0 := rfl
  have h1 := s_colon
  unfold fmtL
  simp only
  split <;> simp only [len_app, h0, h1] <;> omega
theorem fmtL_none_len (e z : Str) : (fmtL e none z).length ≤ e.length + z.length := by
  have h0 : Str.empty.length = 0 := rfl
  unfold fmtL
  simp only [len_app, h0]
  omega
theorem fmtL_emp (e z : Str) : fmtL e (some (Str.ofString "")) z = fmtL e none z := by
  unfold fmtL
  simp only
  exact if_pos (by rw [s_emp]; rfl)
theorem wr_emp (e z : Str) (rx : Option Str) (h : rx = none ∨ rx = some (Str.ofString "")) : ∀ ps : List Int, fmtL e (ps.foldl wrStep rx) z = fmtL e (ps.foldl wrStep none) z
  | [] => by
    rcases h with rfl | rfl
    · rfl
    · exact fmtL_emp e z
  | p :: ps => by
    rcases h with rfl | rfl
    · rfl
    · have : wrStep (some (Str.ofString "")) p = wrStep none p := congrArg some (fmtL_emp _ _)
      rw [List.foldl_cons, List.foldl_cons, this]
/-- the line that begins at letter k -/
def lineAt (ns : List Int) (k : Nat) : Str := fmtL (abcd (ns.getD k 0)) (((ns.drop (k + 1)).take 2).reverse.foldl wrStep none) (Str.ofString "\n")
/-- the first i lines -/
def lines (ns : List Int) : Nat → Str
  | 0 => Str.ofString ""
  | i + 1 => lines ns i ++ lineAt ns (i * 3)
def written (ns : List Int) : Str := lines ns ((ns.length + 2) / 3)
/-- the codes of a line -/
def lineL : List Int → List Nat
  | [] => [10]
  | [p] => [97 + p.toNat, 10]
  | p :: q :: r => (97 + p.toNat) :: 58 :: 32 :: lineL (q :: r)
theorem abcd_cps {p : Int} (h : 0 ≤ p ∧ p < 4) : abcd p = ⟨#[97 + p.toNat]⟩ := by
  have : p = 0 ∨ p = 1 ∨ p = 2 ∨ p = 3 := by omega
  rcases this with rfl | rfl | rfl | rfl <;> decide +kernel
theorem app_cps (x y : Str) : (x ++ y).cps = x.cps ++ y.cps := rfl
theorem c_colon : (Str.ofString ": ").cps = #[58, 32] := by decide +kernel
theorem c_nl : (Str.ofString "\n").cps = #[10] := by decide +kernel
theorem c_emp : (Str.ofString "").cps = #[] := by decide +kernel
theorem fmtL_none_cps (e z : Str) : (fmtL e none z).cps = e.cps ++ z.cps := by
  show (Str.empty.cps ++ e.cps) ++ z.cps = _
  show (#[] ++ e.cps) ++ z.cps = _
  simp
theorem fmtL_some_cps (e x z : Str) (h : x.cps.size ≠ 0) : (fmtL e (some x) z).cps = e.cps ++ #[58, 32] ++ x.cps ++ z.cps := by
  have h2 : ¬ (x.length : Int) = 0 := by unfold Str.length; omega
  have : fmtL e (some x) z = Str.empty ++ e ++ Str.ofString ": " ++ x ++ z := if_neg h2
  rw [this, app_cps, app_cps, app_cps, app_cps, c_colon]
  show ((#[] ++ e.cps) ++ #[58, 32] ++ x.cps) ++ z.cps = _
  simp
abbrev Let4 (p : Int) : Prop := 0 ≤ p ∧ p < 4
theorem lineAt_codes (ns : List Int) (hn : ∀ n ∈ ns, Let4 n) (k : Nat) (hk : k < ns.length) : (lineAt ns k).cps.toList = lineL ((ns.drop k).take 3) := by
  have hd : ns.drop k = ns[k] :: ns.drop (k + 1) := (List.drop_eq_getElem_cons hk)
  have hg : ns.getD k 0 = ns[k] := by simp [hk]
  have h0 : Let4 ns[k] := hn _ (List.getElem_mem hk)
  have hm : ∀ n ∈ ns.drop (k + 1), Let4 n := fun n h => hn n (List.mem_of_mem_drop h)
  unfold lineAt
  rw [hg, hd]
  generalize ns[k] = p at *
  generalize ns.drop (k + 1) = r at *
  match r, hm with
  | [], _ =>
    show (fmtL (abcd p) none (Str.ofString "\n")).cps.toList = _
    rw [fmtL_none_cps, abcd_cps h0, c_nl]
    rfl
  | [q], hm =>
    have hq := hm q (.head _)
    show (fmtL (abcd p) (some (fmtL (abcd q) none (Str.ofString ""))) (Str.ofString "\n")).cps.toList = _
    have e : (fmtL (abcd q) none (Str.ofString "")).cps = #[97 + q.toNat] := by rw [fmtL_none_cps, abcd_cps hq, c_emp]; rfl
    rw [fmtL_some_cps _ _ _ (by rw [e]; exact Nat.succ_ne_zero 0), e, abcd_cps h0, c_nl]
    rfl
  | q :: s :: _, hm =>
    have hq := hm q (.head _)
    have hs := hm s (.tail _ (.head _))
    show (fmtL (abcd p) (some (fmtL (abcd q) (some (fmtL (abcd s) none (Str.ofString ""))) (Str.ofString ""))) (Str.ofString "\n")).cps.toList = _
    have e : (fmtL (abcd s) none (Str.ofString "")).cps = #[97 + s.toNat] := by rw [fmtL_none_cps, abcd_cps hs, c_emp]; rfl
    have e2 : (fmtL (abcd q) (some (fmtL (abcd s) none (Str.ofString ""))) (Str.ofString "")).cps = #[97 + q.toNat, 58, 32, 97 + s.toNat] := by
      rw [fmtL_some_cps _ _ _ (by rw [e]; exact Nat.succ_ne_zero 0), e, abcd_cps hq, c_emp]; rfl
    rw [fmtL_some_cps _ _ _ (by rw [e2]; exact Nat.succ_ne_zero 3), e2, abcd_cps h0, c_nl]
    rfl
/-- the codes of the first i lines -/
def codes (ns : List Int) : Nat → List Nat
  | 0 => []
  | i + 1 => codes ns i ++ lineL ((ns.drop (i * 3)).take 3)
theorem lines_codes (ns : List Int) (hn : ∀ n ∈ ns, Let4 n) : ∀ i, i * 3 < ns.length + 3 → (lines ns i).cps.toList = codes ns i
  | 0, _ => by
    show (Str.ofString "").cps.toList = []
    rw [c_emp]
  | i + 1, h => by
    show (lines ns i ++ lineAt ns (i * 3)).cps.toList = codes ns i ++ _
    rw [app_cps, Array.toList_append, lines_codes ns hn i (by omega), lineAt_codes ns hn _ (by omega)]
theorem written_codes (ns : List Int) (hn : ∀ n ∈ ns, Let4 n) : (written ns).cps.toList = codes ns ((ns.length + 2) / 3) :=
  lines_codes ns hn _ (by omega)
theorem str_ext {x y : Str} (h : x.cps.toList = y.cps.toList) : x = y := by
  cases x; cases y
  simp only at h
  congr 1
  exact Array.toList_inj.mp h
end
section
open PySem PySem.Calls PySem.Spec PySem.W PyProof.Rows
set_option maxRecDepth 100000
set_option maxHeartbeats 8000000
theorem rsWR : True := by
  w_top off
  k_with_none
  trivial
theorem kw16 : True := by
  k_with "me exec For Name Call cons nil" => (k_here; refine Stopped.out ?_)
  k_with "me exec For" => (k_here; refine Stopped.out ?_)
  k_with "me pyIter ref" => (k_here; refine Stopped.out ?_)
  k_with "me call ref" => (k_here; (with_reducible show wpAny _ _ (call (Value.ref 200) _ _) _ _ _); refine Stopped.out ?_)
  k_with "me call ref" => (k_here; (with_reducible show wpAny _ _ (call (Value.ref 257) _ _) _ _ _); refine Stopped.out ?_)
  trivial
theorem wr_small {k : Nat} (h : k ≤ 1000) : Builtin.Range.small 0 (k : Int) 3 = true := by
  have hh : ∀ j : Fin 1001, Builtin.Range.small 0 ((j.val : Nat) : Int) 3 = true := by decide +kernel
  exact hh ⟨k, by omega⟩
theorem wr_size (k : Nat) : Builtin.Range.rangeSize 0 (k : Int) 3 = (((k + 2) / 3 : Nat) : Int) := by
  unfold Builtin.Range.rangeSize
  simp only [show ((3 : Int) > 0) = True from eq_true (by decide), if_true]
  split <;> omega
theorem fr_drop1 {g h : Heap} {L : Addr} {n1 : Str} {v1 v2 : Option Value} {r : Str → Option Value} (F : Fr g L h (fun y => if y = n1 then v1 else if y = n1 then v2 else r y)) : Fr g L h (fun y => if y = n1 then v1 else r y) := by
  refine (funext fun y => ?_ : (fun y => if y = n1 then v1 else r y) = fun y => if y = n1 then v1 else if y = n1 then v2 else r y) ▸ F
  by_cases hy : y = n1
  · simp only [if_pos hy]
  · simp only [if_neg hy]
structure WrS where
  x : Str
  t : Tok
theorem wr_two {rs ns : List Int} {i : Nat} (h : rs = (List.take (min (0 + (i : Int) * 3 + 3).toNat ns.length - (0 + (i : Int) * 3 + 1).toNat) (List.drop (0 + (i : Int) * 3 + 1).toNat ns)).reverse) : rs.length ≤ 2 := by
  have e1 : (0 + (i : Int) * 3 + 1).toNat = i * 3 + 1 := by omega
  have e2 : (0 + (i : Int) * 3 + 3).toNat = i * 3 + 1 + 2 := by omega
  rw [h, e1, e2, List.length_reverse]
  exact Nat.le_trans (List.length_take_le _ _) (Nat.sub_le_of_le_add (Nat.le_trans (Nat.min_le_left _ _) (Nat.le_of_eq (Nat.add_comm _ _))))
theorem wr_take (ns : List Int) (i : Nat) (h : i * 3 < ns.length) : List.take (min (i * 3 + 3) ns.length - (i * 3 + 1)) (List.drop (i * 3 + 1) ns) = List.take 2 (List.drop (i * 3 + 1) ns) := by
  by_cases hc : i * 3 + 3 ≤ ns.length
  · rw [Nat.min_eq_left hc, show i * 3 + 3 - (i * 3 + 1) = 2 from Nat.add_sub_add_left (i * 3) 3 1]
  · have hl : (List.drop (i * 3 + 1) ns).length ≤ 1 := by rw [List.length_drop]; omega
    rw [Nat.min_eq_right (by omega), List.take_of_length_le (by rw [List.length_drop]; exact Nat.le_refl _), List.take_of_length_le (Nat.le_trans hl (by decide))]
theorem lwr (w : World) (wl : Addr) (vs : List Value) (ns : List Int) (hI : IntsAre vs ns) (hns : ∀ n ∈ ns, 0 ≤ n ∧ n < 4) (hlen : ns.length ≤ 1000) (n : Nat) (T : Led) (h3 : (wl, listOf vs.toArray n) ∈ T) :
    Tell w 8 80 295 [.ref wl] T (fun r news' => (∃ t, r = .str (written ns) t) ∧ news' = T) := by
  intro loose mean mg mb dp un gd cn cs a ccd cl outer A₀ base h₀ L m s Q E B F X N Tp hk hd hu hret
  have hvl := hI.length
  replace N : News h₀ L s.heap ((wl, listOf vs.toArray n) :: T) := fun p hp => by
    rcases List.mem_cons.mp hp with rfl | hp
    · exact N _ h3
    · exact N p hp
  refine wpAny_call ?_
  k_dflt cell_enter
  rename_i g L' hh0 FG F1 N1 BG XG TG
  k_steps
  refine Stopped.on ?_
  refine for_T ?_
  k_steps
  refine Stopped.on ?_
  rename Fr _ _ _ _ => F2
  rename IsRange _ _ _ _ _ _ _ _ => hR
  rename News _ _ _ _ => N2
  rename_i _ _ _ hh2 _ _ _ _ _
  refine wpAny_pyIter_range hR (wr_small hlen) ?_
  refine loop_T (σ := WrS) (fun _ => (wl, listOf vs.toArray n) :: T) (fun c => [(Str.ofString "text", .str c.x c.t)]) [Str.ofString "rest", Str.ofString "place"]
    (fun i c => c.x = lines ns i ∧ c.x.length ≤ 20 * i) (fun g' => g' = _) ⟨_, _⟩
    (Walks.range rfl _ 0 3 ((ns.length + 2) / 3)) (fun i h st => ⟨_, st⟩) ?q1 rfl rfl ?q2 rfl (F2.push _) ?q3 ?q4 ?q5 ?q6 (List.forall_mem_cons.mpr ⟨rfl, List.forall_mem_nil _⟩) ?q7 ?q8 ?q9
  case q1 => exact fun b hb hne => absurd (List.mem_singleton.mp hb) hne
  case q8 =>
    rintro i ⟨x, xt⟩ g2 v h2 tk2 oI u hi hv rfl hP hoff F3 N3
    obtain ⟨tv, rfl⟩ := hv
    dsimp only [kstB] at hP F3 N3 ⊢
    have hi2 : i * 3 < ns.length := by omega
    obtain ⟨m1, hm1, F3⟩ : ∃ m1, (_ : Str → Option Value) = m1 ∧ Fr g2 L' h2 m1 := ⟨_, rfl, F3⟩
    refine execs_cutO 2 (fun s' => ∃ h' tk' rx rt, s' = { s with heap := h', toks := tk' } ∧ (rx = none ∨ rx = some (Str.ofString "")) ∧ Fr g2 L' h' (fun y => if y = Str.ofString "rest" then some (optV rx rt) else m1 y) ∧ News g2 L' h' ((hh2.objs.size, oI) :: (wl, listOf vs.toArray n) :: T)) ?_ ?_
    · intro PP hPP
      subst hm1
      clear hret
      simp only [List.take_succ_cons, List.take_zero]
      k_steps
      · rename Fr g2 L' _ _ => F5
        rename News g2 _ _ _ => N5
        exact Cut.of (hPP _ ⟨_, _, some (Str.ofString ""), _, rfl, .inr rfl, fr_drop1 F5, N5⟩)
      · rename Fr g2 L' _ _ => F5
        rename News g2 _ _ _ => N5
        exact Cut.of (hPP _ ⟨_, _, none, 0, rfl, .inl rfl, F5, N5⟩)
    rintro s' ⟨h3', tk3, rx, rt, rfl, hrx, F4, N4⟩
    simp only [List.drop_succ_cons, List.drop_zero]
    subst hm1
    k_steps
    refine Stopped.on ?_
    refine For_invV g2 rfl rfl ?_
    k_steps
    refine Stopped.on ?_
    rename IntsAre _ (List.reverse _) => hIr
    rename Fr g2 L' _ _ => F5
    rename News g2 L' _ _ => N5
    generalize hrs : List.reverse _ = rs at hIr
    have hrl : rs.length ≤ 2 := wr_two hrs.symm
    have hrs2 : ∀ p ∈ rs, 0 ≤ p ∧ p < 4 := by
      subst hrs
      exact fun p hp => hns p (List.mem_of_mem_drop (List.mem_of_mem_take (List.mem_reverse.mp hp)))
    refine' kst_listL (σ := Option Str × Tok) (fun c => (_, listOf _ 0) :: ((hh2.objs.size, oI) :: (wl, listOf vs.toArray n) :: T)) (fun c => [(Str.ofString "rest", optV c.1 c.2)]) (fun _ => True) [] (fun pre c => c.1 = pre.foldl wrStep rx ∧ ∀ z, c.1 = some z → z.length ≤ 3 * pre.length) (rx, rt) ?zq1 (fun _ => .head _) hIr F5 (fun p hp => N5 p ?zq2) trivial ?zq3 ?zq4 ?zq5 ?zq6
    case zq5 =>
      rintro ⟨x1, xt1⟩ pre post n1 t1 u1 h1 tk1 own hsplit hmem hoff1 _ ⟨hx1, hx2⟩ F6 N6
      dsimp only [kstB] at hx1 hx2 F6 N6 ⊢
      have hb0 : 0 ≤ n1 := (hrs2 n1 hmem).1
      have hb1 : n1 < 4 := (hrs2 n1 hmem).2
      k_steps
      refine Stopped.on ?_
      rename Fr g2 _ _ _ => F7
      rename News g2 _ _ _ => N7
      rename (_ = 1) => hl1
      have hpl : pre.length ≤ 2 := by
        have e1 := congrArg List.length hsplit
        rw [List.length_append, List.length_cons] at e1
        exact Nat.le_trans (Nat.le_of_lt_succ (by rw [Nat.lt_succ_iff]; exact Nat.le_trans (Nat.le_add_right _ _) (Nat.le_of_eq e1.symm))) hrl
      have hC : ∀ tq T, TellA w 4 40 200 [.str (abcd n1) tq, optV x1 xt1] [(Str.ofString "insert_final_newline", .bool false)] T (fun r news' => (∃ t', r = .str (fmtL (abcd n1) x1 (Str.ofString "")) t') ∧ news' = T) := fun tq T => by
        cases x1 with
        | none => exact fmk_none w (abcd n1) tq (by rw [show (abcd n1).length = 1 from hl1]; omega) T
        | some z => exact fmk_str w (abcd n1) z tq xt1 (by rw [show (abcd n1).length = 1 from hl1]; omega) (by have := hx2 z rfl; omega) T
      refine tellA_str (hC _ _) F7 N7 BG XG TG rfl (by ktr_room) (by ktr_units) ?_
      intro t9 h9 tk9 F9 N9
      k_steps
      rename Fr g2 L' _ _ => F10
      rename News g2 L' _ _ => N10
      exact kst_end (some (fmtL (abcd n1) x1 (Str.ofString "")), t9) F10 N10 (fun p hp => List.mem_append_left _ hp) (fun p hp => List.mem_append_right _ hp) rfl trivial (List.forall_mem_cons.mpr ⟨rfl, List.forall_mem_nil _⟩) (by kst_same) ⟨by rw [List.foldl_append, ← hx1]; rfl, fun z hz => by
        cases hz
        have h3 := s_emp
        have h4 : (abcd n1).length = 1 := hl1
        rw [List.length_append, List.length_singleton]
        cases x1 with
        | none =>
          have := fmtL_none_len (abcd n1) (Str.ofString "")
          omega
        | some y =>
          have := fmtL_some_len (abcd n1) y (Str.ofString "")
          have := hx2 y rfl
          omega⟩
    case zq1 => rfl
    case zq2 =>
      rcases List.mem_cons.mp hp with rfl | hp
      · exact .head _
      · exact .tail _ (.tail _ hp)
    case zq3 => exact List.forall_mem_cons.mpr ⟨rfl, List.forall_mem_nil _⟩
    case zq4 =>
      refine ⟨rfl, fun z hz => ?_⟩
      rcases hrx with rfl | rfl
      · cases hz
      · cases hz
        exact Nat.le_of_eq s_emp
    case zq6 =>
      rintro ⟨x2, xt2⟩ u2 h6 tk6 _ ⟨hx3, hx4⟩ F8 N8
      dsimp only [kstB] at hx3 hx4 F8 N8 ⊢
      have hk0 : (0 : Int) ≤ 0 + (i : Int) * 3 := by omega
      have hk1 : 0 + (i : Int) * 3 < ns.length := by omega
      replace N8 : News g2 L' h6 ((wl, listOf vs.toArray n) :: (hh2.objs.size, oI) :: T) := fun p hp => N8 p (by
        rcases List.mem_cons.mp hp with rfl | hp
        · exact .tail _ (.tail _ (.head _))
        rcases List.mem_cons.mp hp with rfl | hp
        · exact .tail _ (.head _)
        · exact .tail _ (.tail _ (.tail _ hp)))
      clear N5 hIr F5 N3 F3 N
      have hkk : (0 + (i : Int) * 3).toNat = i * 3 := by omega
      have hbb : Let4 (ns.getD (0 + (i : Int) * 3).toNat 0) := by
        rw [hkk, List.getD_eq_getElem?_getD, List.getElem?_eq_getElem hi2]
        exact hns _ (List.getElem_mem hi2)
      have hb0 := hbb.1
      have hb1 := hbb.2
      k_steps
      refine Stopped.on ?_
      rename Fr g2 _ _ _ => F9
      rename News g2 _ _ _ => N9
      rename (_ = 1) => hl1
      have hl2 : (abcd (ns.getD (0 + (i : Int) * 3).toNat 0)).length = 1 := hl1
      have hC : ∀ tq T, Tell w 4 40 200 [.str (abcd (ns.getD (0 + (i : Int) * 3).toNat 0)) tq, optV x2 xt2] T (fun r news' => (∃ t', r = .str (fmtL (abcd (ns.getD (0 + (i : Int) * 3).toNat 0)) x2 (Str.ofString "\n")) t') ∧ news' = T) := fun tq T => by
        cases x2 with
        | none => exact fm_none w _ tq (by rw [hl2]; omega) T
        | some z => exact fm_str w _ z tq xt2 (by rw [hl2]; omega) (by have := hx4 z rfl; omega) T
      have hln : fmtL (abcd (ns.getD (0 + (i : Int) * 3).toNat 0)) x2 (Str.ofString "\n") = lineAt ns (i * 3) := by
        rw [hx3, wr_emp _ _ rx hrx, hkk, ← hrs]
        unfold lineAt
        have e1 : (0 + (i : Int) * 3 + 1).toNat = i * 3 + 1 := by omega
        have e2 : (0 + (i : Int) * 3 + 3).toNat = i * 3 + 3 := by omega
        rw [e1, e2]
        congr 3
        exact wr_take ns i hi2
      have hlen2 : (lineAt ns (i * 3)).length ≤ 12 := by
        rw [← hln]
        have h4 := s_nl
        cases x2 with
        | none =>
          have := fmtL_none_len (abcd (ns.getD (0 + (i : Int) * 3).toNat 0)) (Str.ofString "\n")
          omega
        | some y =>
          have := fmtL_some_len (abcd (ns.getD (0 + (i : Int) * 3).toNat 0)) y (Str.ofString "\n")
          have := hx4 y rfl
          omega
      rw [hln] at hC
      refine tell_str (hC _ _) F9 N9 BG XG TG rfl (by ktr_room) (by ktr_units) ?_
      intro t9 h9 tk9 F10 N10
      k_steps
      refine Stopped.on ?_
      rename Fr g2 _ _ _ => F11
      rename News g2 _ _ _ => N11
      refine tell_str (co_str w _ _ _ _ (by have := hP.2; omega) (by omega) _) F11 N11 BG XG TG rfl (by ktr_room) (by ktr_units) ?_
      intro t10 h10 tk10 F12 N12
      k_steps
      rename Fr g2 _ _ _ => F13
      rename News g2 _ _ _ => N13
      refine TPost.next ⟨⟨x ++ lineAt ns (i * 3), t10⟩, g2, _, _, _, rfl, rfl, F13, (fun p hp => N13 p ?zp1), hoff, List.forall_mem_cons.mpr ⟨rfl, List.forall_mem_nil _⟩, by kst_same, ?zp2⟩
      case zp2 => exact ⟨by rw [hP.1]; rfl, by rw [len_app]; have := hP.2; omega⟩
      case zp1 =>
        rcases List.mem_cons.mp hp with rfl | hp
        · exact .tail _ (.head _)
        rcases List.mem_cons.mp hp with rfl | hp
        · exact .head _
        · exact .tail _ (.tail _ hp)
  case q2 => 
    show IsRangeIter _ _ _ _ _
    rw [wr_size]
    simpa using Heap.get?_push_size _ rfl
  case q3 => exact next_is_new F2
  case q4 => exact fun h => absurd F2.ns.lt (h ▸ Nat.lt_irrefl _)
  case q5 => exact fun p hp => ⟨Heap.get?_push_of_some _ (N2 p hp).1, (N2 p hp).2⟩
  case q6 => exact fun p hp => Nat.ne_of_lt (Heap.lt_size (N2 p hp).1)
  case q7 => exact ⟨rfl, Nat.le_of_eq s_emp⟩
  case q9 =>
    rintro ⟨x, xt⟩ g2 h2 tk2 u rfl ⟨hP, hP2⟩ F3 N3
    dsimp only [kstB] at hP hP2 F3 N3 ⊢
    k_steps
    rename Fr h₀ _ _ _ => FZ
    rename News h₀ _ _ _ => NZ
    exact hret _ _ _ _ ⟨⟨_, by rw [hP]; rfl⟩, rfl⟩ FZ (fun p hp => NZ p (.tail _ hp))
end
section
open PySem PySem.W PyProof.Rows
def des (x y z w : Int) : Prop := (x + y + z + w) * (x + y + z + w) = 2 * (x * x + y * y + z * z + w * w) ∧ 0 ≤ x + y + z + w
theorem sq_nonneg (x : Int) : 0 ≤ x * x := by
  rcases Int.le_total 0 x with h | h
  · exact Int.mul_nonneg h h
  · exact Int.mul_nonneg_of_nonpos_of_nonpos h h
theorem des_pair {x y z w : Int} (h : des x y z w) : 0 ≤ x + y ∧ 0 ≤ z + w := by
  obtain ⟨h, hs⟩ := h
  have e : 2 * ((x + y) * (z + w)) = (x - y) * (x - y) + (z - w) * (z - w) := by grind
  have h1 := sq_nonneg (x - y)
  have h2 := sq_nonneg (z - w)
  have key : ∀ u v : Int, 0 ≤ u * v → 0 ≤ u + v → 0 ≤ u := by
    intro u v h1 h2
    by_cases hu : 0 ≤ u
    · exact hu
    · have : u * v < 0 := Int.mul_neg_of_neg_of_pos (by omega) (by omega)
      omega
  exact ⟨key _ (z + w) (by omega) (by omega), key _ (x + y) (by rw [Int.mul_comm]; omega) (by omega)⟩
theorem sq_zero {x : Int} (h : x * x = 0) : x = 0 := by
  rcases Int.mul_eq_zero.mp h with h | h <;> exact h
theorem des_ex {x y z w : Int} (h : des x y z w) : des (2 * y + 2 * z + 2 * w - x) y z w := by
  obtain ⟨h, hs⟩ := h
  refine ⟨by grind, ?_⟩
  have e : (x + y + z + w) * (2 * y + 2 * z + 2 * w - x + y + z + w) = 2 * ((y + z + w) * (y + z + w)) + 2 * (y * y + z * z + w * w) := by grind
  have h1 := sq_nonneg (y + z + w)
  have h2 := sq_nonneg y
  have h3 := sq_nonneg z
  have h4 := sq_nonneg w
  have h5 := sq_nonneg x
  by_cases hn : 0 ≤ 2 * y + 2 * z + 2 * w - x + y + z + w
  · exact hn
  · by_cases h0 : x + y + z + w = 0
    · rw [h0] at h
      have := sq_zero (x := x) (by omega)
      have := sq_zero (x := y) (by omega)
      have := sq_zero (x := z) (by omega)
      have := sq_zero (x := w) (by omega)
      omega
    · have := Int.mul_neg_of_pos_of_neg (a := x + y + z + w) (b := 2 * y + 2 * z + 2 * w - x + y + z + w) (by omega) (by omega)
      omega
theorem des_rot {x y z w : Int} (h : des x y z w) : des y x z w := by
  obtain ⟨h, hs⟩ := h
  exact ⟨by grind, by omega⟩
theorem des_rot2 {x y z w : Int} (h : des x y z w) : des z w x y := by
  obtain ⟨h, hs⟩ := h
  exact ⟨by grind, by omega⟩
theorem des_rot3 {x y z w : Int} (h : des x y z w) : des x z y w := by
  obtain ⟨h, hs⟩ := h
  exact ⟨by grind, by omega⟩
def Q4.Des (q : Q4) : Prop := des q.a q.b q.c q.d
theorem Q4.Des.pairs {q : Q4} (h : q.Des) : (0 ≤ q.a + q.b ∧ 0 ≤ q.c + q.d) ∧ (0 ≤ q.a + q.c ∧ 0 ≤ q.b + q.d) ∧ (0 ≤ q.b + q.c ∧ 0 ≤ q.a + q.d) := by
  have h1 : des q.a q.b q.c q.d := h
  have h2 := des_rot3 h1
  have h3 := des_rot3 (des_rot h1)
  exact ⟨des_pair h1, des_pair h2, des_pair h3⟩
abbrev Is4 (p : Int) : Prop := p = 0 ∨ p = 1 ∨ p = 2 ∨ p = 3
theorem i40 : Is4 0 := .inl rfl
theorem i41 : Is4 1 := .inr (.inl rfl)
theorem i42 : Is4 2 := .inr (.inr (.inl rfl))
theorem i43 : Is4 3 := .inr (.inr (.inr rfl))
theorem Q4.ex0 (q : Q4) : q.ex 0 = ⟨2 * q.b + 2 * q.c + 2 * q.d - q.a, q.b, q.c, q.d⟩ := rfl
theorem Q4.ex1 (q : Q4) : q.ex 1 = ⟨q.a, 2 * q.a + 2 * q.c + 2 * q.d - q.b, q.c, q.d⟩ := rfl
theorem Q4.ex2 (q : Q4) : q.ex 2 = ⟨q.a, q.b, 2 * q.a + 2 * q.b + 2 * q.d - q.c, q.d⟩ := rfl
theorem Q4.ex3 (q : Q4) : q.ex 3 = ⟨q.a, q.b, q.c, 2 * q.a + 2 * q.b + 2 * q.c - q.d⟩ := rfl
theorem Q4.at0 (q : Q4) : q.at 0 = q.a := rfl
theorem Q4.at1 (q : Q4) : q.at 1 = q.b := rfl
theorem Q4.at2 (q : Q4) : q.at 2 = q.c := rfl
theorem Q4.at3 (q : Q4) : q.at 3 = q.d := rfl
theorem Q4.Des.ex {q : Q4} (h : q.Des) {p : Int} (hp : Is4 p) : (q.ex p).Des := by
  have h1 : des q.a q.b q.c q.d := h
  rcases hp with rfl | rfl | rfl | rfl
  · rw [Q4.ex0]; exact des_ex h1
  · rw [Q4.ex1]; exact des_rot (des_ex (des_rot h1))
  · rw [Q4.ex2]
    have := des_ex (des_rot2 h1)
    rw [show 2 * q.d + 2 * q.a + 2 * q.b - q.c = 2 * q.a + 2 * q.b + 2 * q.d - q.c by omega] at this
    exact des_rot2 this
  · rw [Q4.ex3]
    have := des_ex (des_rot (des_rot2 h1))
    rw [show 2 * q.c + 2 * q.a + 2 * q.b - q.d = 2 * q.a + 2 * q.b + 2 * q.c - q.d by omega] at this
    exact des_rot2 (des_rot this)
theorem Q4.ex_ex (q : Q4) {p : Int} (hp : Is4 p) : (q.ex p).ex p = q := by
  obtain ⟨a, b, c, d⟩ := q
  rcases hp with rfl | rfl | rfl | rfl
  · simp only [Q4.ex0]; congr 1; omega
  · simp only [Q4.ex1]; congr 1; omega
  · simp only [Q4.ex2]; congr 1; omega
  · simp only [Q4.ex3]; congr 1; omega
theorem Q4.highs_eq (q : Q4) : q.highs = [0, 1, 2, 3].foldl q.grow [] := rfl
theorem Q4.highs_nil {q : Q4} : q.highs = [] ↔ ∀ p, Is4 p → ¬ 2 * q.at p > q.sum := by
  rw [Q4.highs_eq]
  simp only [List.foldl_cons, List.foldl_nil, Q4.grow]
  constructor
  · intro h p hp hc
    rcases hp with rfl | rfl | rfl | rfl
    all_goals
      rw [if_pos hc] at h
      revert h
      repeat' split
      all_goals simp
  · intro h
    rw [if_neg (h 0 i40), if_neg (h 1 i41), if_neg (h 2 i42), if_neg (h 3 i43)]
theorem Q4.highs_one {q : Q4} {p : Int} (hp : Is4 p) (h : 2 * q.at p > q.sum) (ho : ∀ r, Is4 r → r ≠ p → ¬ 2 * q.at r > q.sum) : q.highs = [p] := by
  rw [Q4.highs_eq]
  simp only [List.foldl_cons, List.foldl_nil, Q4.grow]
  rcases hp with rfl | rfl | rfl | rfl
  · rw [if_pos h, if_neg (ho 1 i41 (by decide)), if_neg (ho 2 i42 (by decide)), if_neg (ho 3 i43 (by decide))]; rfl
  · rw [if_neg (ho 0 i40 (by decide)), if_pos h, if_neg (ho 2 i42 (by decide)), if_neg (ho 3 i43 (by decide))]; rfl
  · rw [if_neg (ho 0 i40 (by decide)), if_neg (ho 1 i41 (by decide)), if_pos h, if_neg (ho 3 i43 (by decide))]; rfl
  · rw [if_neg (ho 0 i40 (by decide)), if_neg (ho 1 i41 (by decide)), if_neg (ho 2 i42 (by decide)), if_pos h]; rfl
theorem Q4.highs_mem {q : Q4} {p : Int} (hp : Is4 p) (h : q.highs = [p]) : 2 * q.at p > q.sum := by
  by_cases hc : 2 * q.at p > q.sum
  · exact hc
  · rw [Q4.highs_eq] at h
    simp only [List.foldl_cons, List.foldl_nil, Q4.grow] at h
    rcases hp with rfl | rfl | rfl | rfl
    all_goals
      rw [if_neg hc] at h
      revert h
      repeat' split
      all_goals simp
/-- of a Descartes quadruple at most one is high -/
theorem Q4.Des.one {q : Q4} (h : q.Des) {p r : Int} (hp : Is4 p) (hr : Is4 r) (hne : p ≠ r) (hh : 2 * q.at p > q.sum) : 2 * q.at r < q.sum := by
  obtain ⟨⟨h1, h2⟩, ⟨h3, h4⟩, h5, h6⟩ := h.pairs
  unfold Q4.sum at *
  rcases hp with rfl | rfl | rfl | rfl <;> rcases hr with rfl | rfl | rfl | rfl <;> simp only [Q4.at0, Q4.at1, Q4.at2, Q4.at3] at * <;> omega
theorem Q4.Des.highs_one {q : Q4} (h : q.Des) {p : Int} (hp : Is4 p) (hh : 2 * q.at p > q.sum) : q.highs = [p] :=
  Q4.highs_one hp hh fun r hr hne => by
    have := h.one hp hr (Ne.symm hne) hh
    omega
/-- exchanged at a place that is not high, it is high there -/
theorem Q4.ex_high {q : Q4} {p : Int} (hp : Is4 p) (h : 2 * q.at p < q.sum) : 2 * (q.ex p).at p > (q.ex p).sum := by
  unfold Q4.sum at *
  rcases hp with rfl | rfl | rfl | rfl
  · rw [Q4.ex0]; simp only [Q4.at0] at *; omega
  · rw [Q4.ex1]; simp only [Q4.at1] at *; omega
  · rw [Q4.ex2]; simp only [Q4.at2] at *; omega
  · rw [Q4.ex3]; simp only [Q4.at3] at *; omega
theorem Q4.ex_same {q : Q4} {p : Int} (hp : Is4 p) (h : 2 * q.at p = q.sum) : q.ex p = q := by
  obtain ⟨a, b, c, d⟩ := q
  unfold Q4.sum at h
  rcases hp with rfl | rfl | rfl | rfl
  · simp only [Q4.ex0, Q4.at0] at *; congr 1; omega
  · simp only [Q4.ex1, Q4.at1] at *; congr 1; omega
  · simp only [Q4.ex2, Q4.at2] at *; congr 1; omega
  · simp only [Q4.ex3, Q4.at3] at *; congr 1; omega
/-- bounds -/
def Q4.Bd (M : Int) (q : Q4) : Prop := (-M ≤ q.a ∧ q.a ≤ M) ∧ (-M ≤ q.b ∧ q.b ≤ M) ∧ (-M ≤ q.c ∧ q.c ≤ M) ∧ -M ≤ q.d ∧ q.d ≤ M
theorem bd_num {x y z w M : Int} (hx : -M ≤ x ∧ x ≤ M) (hy : -M ≤ y ∧ y ≤ M) (hz : -M ≤ z ∧ z ≤ M) (hw : -M ≤ w ∧ w ≤ M) : -(7 * M) ≤ 2 * y + 2 * z + 2 * w - x ∧ 2 * y + 2 * z + 2 * w - x ≤ 7 * M := by omega
theorem bd_mono {x M : Int} (hx : -M ≤ x ∧ x ≤ M) (hM : 0 ≤ M) : -(7 * M) ≤ x ∧ x ≤ 7 * M := by omega
theorem Q4.Bd.ex {M : Int} {q : Q4} (h : q.Bd M) {p : Int} (hp : Is4 p) (hM : 0 ≤ M) : (q.ex p).Bd (7 * M) := by
  obtain ⟨h1, h2, h3, h4⟩ := h
  rcases hp with rfl | rfl | rfl | rfl
  · exact ⟨bd_num h1 h2 h3 h4, bd_mono h2 hM, bd_mono h3 hM, bd_mono h4 hM⟩
  · exact ⟨bd_mono h1 hM, bd_num h2 h1 h3 h4, bd_mono h3 hM, bd_mono h4 hM⟩
  · exact ⟨bd_mono h1 hM, bd_mono h2 hM, bd_num h3 h1 h2 h4, bd_mono h4 hM⟩
  · exact ⟨bd_mono h1 hM, bd_mono h2 hM, bd_mono h3 hM, bd_num h4 h1 h2 h3⟩
/-- the way back, a place further -/
def stepW (root : Q4) (way : List Int) (p : Int) : List Int :=
  match way with
  | h :: t => if h = p then t else p :: h :: t
  | [] => if 2 * root.at p = root.sum then [] else [p]
theorem stepW_len (root : Q4) (way : List Int) (p : Int) : (stepW root way p).length ≤ way.length + 1 := by
  unfold stepW
  split <;> split <;> simp only [List.length_cons, List.length_nil] <;> omega
theorem ok_num {x y z w : Int} (hl : 2 * x < x + y + z + w) (hS : 0 ≤ x + y + z + w) : 0 ≤ 2 * y + 2 * z + 2 * w - x := by omega
theorem ok_lt {v M : Int} (h : -(7 * M) ≤ v ∧ v ≤ 7 * M) (hM : 7 * M < 2 ^ 58) : -(2 ^ 58) < v ∧ v < 2 ^ 58 := by omega
theorem Q4.ex_ok {q : Q4} (h : q.Ok) {p : Int} (hp : Is4 p) (hl : 2 * q.at p < q.sum) {M : Int} (hB : q.Bd M) (hM : 0 ≤ M) (hM2 : 7 * M < 2 ^ 58) (hS : 0 ≤ q.sum) : (q.ex p).Ok := by
  obtain ⟨b1, b2, b3, b4⟩ := hB.ex hp hM
  obtain ⟨h1, h2, h3, h4⟩ := h
  unfold Q4.sum at hl hS
  rcases hp with rfl | rfl | rfl | rfl
  · exact ⟨⟨ok_num hl hS, (ok_lt b1 hM2).2⟩, h2, h3, h4⟩
  · have e : q.b + q.a + q.c + q.d = q.a + q.b + q.c + q.d := by omega
    exact ⟨h1, ⟨ok_num (by rw [e]; exact hl) (by rw [e]; exact hS), (ok_lt b2 hM2).2⟩, h3, h4⟩
  · have e : q.c + q.a + q.b + q.d = q.a + q.b + q.c + q.d := by omega
    exact ⟨h1, h2, ⟨ok_num (by rw [e]; exact hl) (by rw [e]; exact hS), (ok_lt b3 hM2).2⟩, h4⟩
  · exact ⟨h1, h2, h3, ok_lt b4 hM2⟩
theorem Down.stepped {q root : Q4} {way : List Int} (hD : Down q way root) (hq : q.Des) {p : Int} (hp : Is4 p) {M : Int} (hB : q.Bd M) (hM : 0 ≤ M) (hM2 : 7 * M < 2 ^ 58) : Down (q.ex p) (stepW root way p) root := by
  have push : 2 * q.at p < q.sum → Down (q.ex p) (p :: way) root := fun hl =>
    .step (Q4.ex_ok hD.ok hp hl hB hM hM2 hq.2) hp ((hq.ex hp).highs_one hp (Q4.ex_high hp hl)) (by rw [Q4.ex_ex _ hp]; exact hD)
  cases hD with
  | stop ok hn =>
    unfold stepW
    have := Q4.highs_nil.mp hn p hp
    by_cases e : 2 * q.at p = q.sum
    · simp only [if_pos e]
      rw [Q4.ex_same hp e]
      exact .stop ok hn
    · simp only [if_neg e]
      exact push (by omega)
  | @step _ h t _ ok hh hn hd =>
    unfold stepW
    by_cases e : h = p
    · subst e
      simp only [if_true]
      exact hd
    · simp only [if_neg e]
      exact push (hq.one hh hp e (Q4.highs_mem hh hn))
/-- the way back, all letters gone -/
theorem Down.gone {root : Q4} : ∀ (ps : List Int) (q : Q4) (way : List Int) (M : Int), Down q way root → q.Des → (∀ p ∈ ps, Is4 p) → q.Bd M → 0 ≤ M → 7 ^ ps.length * M < 2 ^ 58 →
    Down (ps.foldl Q4.ex q) (ps.foldl (stepW root) way) root
  | [], _, _, _, hD, _, _, _, _, _ => hD
  | p :: ps, q, way, M, hD, hq, hp, hB, hM, hM2 => by
    have h1 : (7 : Int) ^ (ps.length + 1) * M = 7 ^ ps.length * (7 * M) := by rw [Int.pow_succ, Int.mul_assoc]
    have h2 : (1 : Int) ≤ 7 ^ ps.length := by
      have := Int.pow_pos (n := 7) (m := ps.length) (by decide)
      omega
    rw [List.length_cons, h1] at hM2
    have h3 : 1 * (7 * M) ≤ 7 ^ ps.length * (7 * M) := Int.mul_le_mul_of_nonneg_right h2 (by omega)
    have hp4 := hp p (.head _)
    exact Down.gone ps (q.ex p) (stepW root way p) (7 * M) (hD.stepped hq hp4 hB hM (by omega)) (hq.ex hp4) (fun r hr => hp r (.tail _ hr)) (hB.ex hp4 hM) (by omega) hM2
theorem stepW_lens (root : Q4) : ∀ (ps way : List Int), (ps.foldl (stepW root) way).length ≤ way.length + ps.length
  | [], way => Nat.le_refl _
  | p :: ps, way => by
    have h1 := stepW_lens root ps (stepW root way p)
    have h2 := stepW_len root way p
    simp only [List.foldl_cons, List.length_cons]
    omega
/-- times k -/
def Q4.sc (k : Int) (q : Q4) : Q4 := ⟨k * q.a, k * q.b, k * q.c, k * q.d⟩
theorem Q4.sc_sum (k : Int) (q : Q4) : (q.sc k).sum = k * q.sum := by
  unfold Q4.sum Q4.sc
  simp only [Int.mul_add]
theorem Q4.sc_at (k : Int) (q : Q4) {p : Int} (hp : Is4 p) : (q.sc k).at p = k * q.at p := by
  rcases hp with rfl | rfl | rfl | rfl <;> rfl
theorem Q4.sc_ex (k : Int) (q : Q4) {p : Int} (hp : Is4 p) : (q.sc k).ex p = (q.ex p).sc k := by
  obtain ⟨a, b, c, d⟩ := q
  unfold Q4.sc
  rcases hp with rfl | rfl | rfl | rfl
  · simp only [Q4.ex0]; congr 1; grind
  · simp only [Q4.ex1]; congr 1; grind
  · simp only [Q4.ex2]; congr 1; grind
  · simp only [Q4.ex3]; congr 1; grind
theorem Q4.sc_high {k : Int} (hk : 0 < k) (q : Q4) {p : Int} (hp : Is4 p) : 2 * (q.sc k).at p > (q.sc k).sum ↔ 2 * q.at p > q.sum := by
  rw [Q4.sc_at k q hp, Q4.sc_sum]
  have e : 2 * (k * q.at p) = k * (2 * q.at p) := by grind
  rw [e]
  exact Int.mul_lt_mul_left hk
theorem Q4.Des.sc {k : Int} (hk : 0 < k) {q : Q4} (h : q.Des) : (q.sc k).Des := by
  obtain ⟨h1, h2⟩ := h
  unfold Q4.Des des Q4.sc
  simp only
  refine ⟨by grind, ?_⟩
  rw [← Int.mul_add, ← Int.mul_add, ← Int.mul_add]
  exact Int.mul_nonneg (by omega) h2
def Q4.Start (q : Q4) : Prop := 0 ≤ q.a ∧ 0 ≤ q.b ∧ 0 ≤ q.c ∧ q.d ≤ 0
theorem Q4.Start.bd {q : Q4} (h : q.Start) (hd : q.Des) : q.Bd q.sum := by
  obtain ⟨⟨h1, h2⟩, ⟨h3, h4⟩, h5, h6⟩ := hd.pairs
  obtain ⟨h7, h8, h9, h10⟩ := h
  unfold Q4.Bd Q4.sum
  omega
theorem sc_le {k x M : Int} (hk : 0 < k) (h : x ≤ M) : k * x ≤ k * M := Int.mul_le_mul_of_nonneg_left h (by omega)
theorem Q4.Bd.sc {k M : Int} (hk : 0 < k) {q : Q4} (h : q.Bd M) : (q.sc k).Bd (k * M) := by
  obtain ⟨⟨h1, h2⟩, ⟨h3, h4⟩, ⟨h5, h6⟩, h7, h8⟩ := h
  unfold Q4.Bd Q4.sc
  simp only
  have e : -(k * M) = k * (-M) := by grind
  rw [e]
  exact ⟨⟨sc_le hk h1, sc_le hk h2⟩, ⟨sc_le hk h3, sc_le hk h4⟩, ⟨sc_le hk h5, sc_le hk h6⟩, sc_le hk h7, sc_le hk h8⟩
theorem Q4.Start.ok {k : Int} (hk : 0 < k) (hk2 : k ≤ 1000) {q : Q4} (h : q.Start) (hd : q.Des) (hs : q.sum ≤ 1000) : (q.sc k).Ok := by
  have hb := (h.bd hd).sc hk
  obtain ⟨h7, h8, h9, h10⟩ := h
  have h0 : k * q.sum ≤ 1000 * 1000 := Int.mul_le_mul hk2 hs hd.2 (by decide)
  have a0 : 0 ≤ k * q.a := Int.mul_nonneg (by omega) h7
  have b0 : 0 ≤ k * q.b := Int.mul_nonneg (by omega) h8
  have c0 : 0 ≤ k * q.c := Int.mul_nonneg (by omega) h9
  unfold Q4.Bd at hb
  unfold Q4.Ok
  unfold Q4.sc at *
  simp only at *
  omega
/-- the way down from the start: it ends -/
theorem down_start {k : Int} (hk : 0 < k) (hk2 : k ≤ 1000) : ∀ (N : Nat) (g : Q4), g.Start → g.Des → g.sum ≤ N → N ≤ 1000 → ∃ way r, Down (g.sc k) way r ∧ way.length ≤ N
  | N, g, hS, hD, hN, hN2 => by
    have ok := hS.ok hk hk2 hD (by omega)
    by_cases hx : ∃ p, Is4 p ∧ 2 * g.at p > g.sum
    · obtain ⟨p, hp, hh⟩ := hx
      have hD' := hD.ex hp
      have hh' := (Q4.sc_high hk g hp).mpr hh
      have h1 := ((hD.sc hk).highs_one hp hh')
      have hs0 := hD.2
      have hs1 := hD'.2
      have hSx : (g.ex p).Start ∧ (g.ex p).sum < g.sum := by
        obtain ⟨⟨q1, q2⟩, ⟨q3, q4⟩, q5, q6⟩ := hD'.pairs
        obtain ⟨h7, h8, h9, h10⟩ := hS
        unfold Q4.Start
        unfold Q4.sum at *
        rcases hp with rfl | rfl | rfl | rfl
        · rw [Q4.ex0] at *; simp only [Q4.at0] at *; omega
        · rw [Q4.ex1] at *; simp only [Q4.at1] at *; omega
        · rw [Q4.ex2] at *; simp only [Q4.at2] at *; omega
        · rw [Q4.ex3] at *; simp only [Q4.at3] at *; omega
      have hs2 : 0 ≤ (g.ex p).sum := hs1
      match N, hN, hN2 with
      | 0, hN, _ => omega
      | N + 1, hN, hN2 =>
        obtain ⟨way, r, hd, hl⟩ := down_start hk hk2 N (g.ex p) hSx.1 hD' (by omega) (by omega)
        exact ⟨p :: way, r, .step ok hp h1 (by rw [Q4.sc_ex k g hp]; exact hd), by simp only [List.length_cons]; omega⟩
    · exact ⟨[], _, .stop ok (Q4.highs_nil.mpr fun p hp hc => hx ⟨p, hp, (Q4.sc_high hk g hp).mp hc⟩), Nat.zero_le _⟩
/-- the four of the law, their scale apart -/
def gOf (a b c d : Int) : Q4 :=
  ⟨a * a + b * b + ((a * d - b * c).natAbs : Int), c * c + d * d + ((a * d - b * c).natAbs : Int), (a - c) * (a - c) + (b - d) * (b - d) + ((a * d - b * c).natAbs : Int), -((a * d - b * c).natAbs : Int)⟩
theorem natAbs_sq (x : Int) : (x.natAbs : Int) * (x.natAbs : Int) = x * x := Int.natAbs_mul_self' x
theorem gOf_des (a b c d : Int) : (gOf a b c d).Des := by
  have e := natAbs_sq (a * d - b * c)
  have h0 : (0 : Int) ≤ ((a * d - b * c).natAbs : Int) := Int.natCast_nonneg _
  unfold Q4.Des des gOf
  simp only
  generalize ((a * d - b * c).natAbs : Int) = D at e h0
  have h1 := sq_nonneg a
  have h2 := sq_nonneg b
  have h3 := sq_nonneg c
  have h4 := sq_nonneg d
  have h5 := sq_nonneg (a - c)
  have h6 := sq_nonneg (b - d)
  exact ⟨by grind, by omega⟩
theorem gOf_start (a b c d : Int) : (gOf a b c d).Start := by
  have h0 : (0 : Int) ≤ ((a * d - b * c).natAbs : Int) := Int.natCast_nonneg _
  unfold Q4.Start gOf
  simp only
  have h1 := sq_nonneg a
  have h2 := sq_nonneg b
  have h3 := sq_nonneg c
  have h4 := sq_nonneg d
  have h5 := sq_nonneg (a - c)
  have h6 := sq_nonneg (b - d)
  omega
theorem sq_le {x M : Int} (h1 : -M ≤ x) (h2 : x ≤ M) : x * x ≤ M * M := by
  have h := Int.mul_nonneg (a := M - x) (b := M + x) (by omega) (by omega)
  have e : (M - x) * (M + x) = M * M - x * x := by grind
  omega
abbrev In6 (x : Int) : Prop := -6 ≤ x ∧ x ≤ 6
theorem area_le {a b c d : Int} (ha : In6 a) (hb : In6 b) (hc : In6 c) (hd : In6 d) : ((a * d - b * c).natAbs : Int) ≤ 72 := by
  have h1 := sq_nonneg (a + d)
  have h2 := sq_nonneg (a - d)
  have h3 := sq_nonneg (b + c)
  have h4 := sq_nonneg (b - c)
  have e1 : (a + d) * (a + d) = a * a + d * d + 2 * (a * d) := by grind
  have e2 : (a - d) * (a - d) = a * a + d * d - 2 * (a * d) := by grind
  have e3 : (b + c) * (b + c) = b * b + c * c + 2 * (b * c) := by grind
  have e4 : (b - c) * (b - c) = b * b + c * c - 2 * (b * c) := by grind
  have a2 := sq_le ha.1 ha.2
  have b2 := sq_le hb.1 hb.2
  have c2 := sq_le hc.1 hc.2
  have d2 := sq_le hd.1 hd.2
  omega
theorem gOf_sum {a b c d : Int} (ha : In6 a) (hb : In6 b) (hc : In6 c) (hd : In6 d) : (gOf a b c d).sum ≤ 576 := by
  have hA := area_le ha hb hc hd
  have a2 := sq_le ha.1 ha.2
  have b2 := sq_le hb.1 hb.2
  have c2 := sq_le hc.1 hc.2
  have d2 := sq_le hd.1 hd.2
  have e1 := sq_le (x := a - c) (M := 12) (by omega) (by omega)
  have e2 := sq_le (x := b - d) (M := 12) (by omega) (by omega)
  unfold Q4.sum gOf
  simp only
  omega
/-- the first way down -/
theorem law_down {a b c d k : Int} (ha : In6 a) (hb : In6 b) (hc : In6 c) (hd : In6 d) (hk : 0 < k) (hk2 : k ≤ 1000) :
    ∃ way r, Down ((gOf a b c d).sc k) way r ∧ way.length ≤ 576 :=
  down_start hk hk2 576 _ (gOf_start a b c d) (gOf_des a b c d) (gOf_sum ha hb hc hd) (by decide)
/-- the second way down -/
theorem law_again {a b c d k : Int} (ha : In6 a) (hb : In6 b) (hc : In6 c) (hd : In6 d) (hk : 0 < k) (hk2 : k ≤ 1000) {way : List Int} {r : Q4} (hD : Down ((gOf a b c d).sc k) way r)
    (ps : List Int) (hp : ∀ p ∈ ps, Is4 p) (hl : ps.length ≤ 8) : Down (ps.foldl Q4.ex ((gOf a b c d).sc k)) (ps.foldl (stepW r) way) r := by
  have hg := gOf_des a b c d
  have hs := gOf_sum ha hb hc hd
  have hB := ((gOf_start a b c d).bd hg).sc hk
  have h0 : k * (gOf a b c d).sum ≤ 1000 * 576 := Int.mul_le_mul hk2 hs hg.2 (by decide)
  have h00 : 0 ≤ k * (gOf a b c d).sum := Int.mul_nonneg (by omega) hg.2
  refine Down.gone ps _ way _ hD (hg.sc hk) hp hB h00 ?_
  have h7 : (7 : Int) ^ ps.length ≤ 7 ^ 8 := by
    have : ∀ j : Fin 9, (7 : Int) ^ j.val ≤ 7 ^ 8 := by decide
    exact this ⟨ps.length, by omega⟩
  have : (7 : Int) ^ ps.length * (k * (gOf a b c d).sum) ≤ 7 ^ 8 * (1000 * 576) := Int.mul_le_mul h7 h0 h00 (by decide)
  omega
end
section
open PySem PySem.Calls PySem.Spec PySem.W PyProof.Rows
set_option maxRecDepth 100000
section
variable {prog : Program} {w : World} {A : Around} {E : Value → Shared → Prop} {R : Result → Shared → Prop} {s : Shared} {env : Env}
/-- the loop of a list comprehension with any target -/
theorem comp_loop {elt target iter : PySem.Expr} {scope : Scope} {pos : Pos} {it acc : Value} (I : Nat → Shared → Prop)
    (turn : ∀ n s, I n s → wpAny (model prog w) A (pyNext it) (fun r s₁ => match r with
      | none => R (.ok .next) s₁
      | some v => wpAny (model prog w) A (letOwnedTupleGo target it v) (fun _ s₂ => wpAny (model prog w) A (assign target env v) (fun _ s₃ => wpAny (model prog w) A (eval elt env) (fun x s₄ =>
          wpAny (model prog w) A (call (.builtin "list.append") [acc, x]) (fun _ s₅ => ∃ m, m < n ∧ I m s₅) (notedBy (model prog w) A env fun e s' => R (.error e) s') s₄)
          (notedBy (model prog w) A env fun e s' => R (.error e) s') s₃) (notedBy (model prog w) A env fun e s' => R (.error e) s') s₂) (notedBy (model prog w) A env fun e s' => R (.error e) s') s₁) (notedBy (model prog w) A env fun e s' => R (.error e) s') s)
    (n : Nat) (h : I n s) : codeAny (model prog w) A (.compLoop (.ListComp elt [⟨target, iter, [], 0⟩] scope pos) 0 it acc env) R s := by
  refine codeAny_loop rfl I (fun n s hI => ?_) n h
  show wpAny _ _ ((compTurn (.ListComp elt [⟨target, iter, [], 0⟩] scope pos) 0 it acc env).onRaise (fun x => do noteFrame x env; theTreesLotGoes x)) _ _ s
  refine wpAny_noted ?_
  rw [compTurn_list1]
  refine wpAny_bind (wpAny_standAt (wpAny_bind (wpAny_mono (turn n s hI) (fun r s₁ h₁ => ?_) fun _ _ h' => h')))
  cases r with
  | none => exact wpAny_pure h₁
  | some v =>
    exact wpAny_bind (wpAny_mono h₁ (fun _ s₂ h₂ => wpAny_bind (wpAny_mono h₂ (fun _ s₃ h₃ => wpAny_bind (wpAny_bind (wpAny_mono h₃ (fun x s₄ h₄ => wpAny_bind (wpAny_mono h₄
      (fun _ s₅ h₅ => wpAny_pure (wpAny_pure ⟨rfl, h₅⟩)) fun _ _ h' => h')) fun _ _ h' => h'))) fun _ _ h' => h')) fun _ _ h' => h')
/-- the end of the one turn -/
def OneEnd (s₁ : Shared) (h₀ : Heap) (L C I D : Addr) (oI : Obj) (y : Str) (m : Str → Option Value) (nw : Led) (Q : Flow → Shared → Prop) (z : Value) (s₃ : Shared) : Prop :=
  ∃ h' tk' m' extra, s₃ = { s₁ with heap := h', toks := tk' } ∧ Fr s₁.heap C h' m' ∧ News s₁.heap C h' ((I, oI) :: (D, LCg.lst []) :: extra) ∧ (∀ p ∈ extra, p.1 ≠ I ∧ p.1 ≠ D) ∧
    ∀ h'' tk'', Fr h₀ L h'' (fun u => if u = y then some (.ref D) else m u) → News h₀ L h'' ((D, LCg.lst [z]) :: (extra ++ nw)) → Q .next { s₁ with heap := h'', toks := tk'' }
/-- the source of one item -/
def OneSrc (prog : Program) (w : World) (A : Around) (env : Env) (elt target : PySem.Expr) (scope : Scope) (cl : List (Str × Addr)) (h₀ : Heap) (L : Addr) (y : Str) (m : Str → Option Value) (Q : Flow → Shared → Prop) (xv : Value) (s₁ : Shared) : Prop :=
  ∃ ax v n₀ news, xv = .ref ax ∧ A.handled = none ∧ Fr h₀ L s₁.heap m ∧ News h₀ L s₁.heap ((ax, listOf #[v] n₀) :: news) ∧
      ∀ (C I D : Addr) (oI : Obj) h tk (E' : Value → Shared → Prop), Fr s₁.heap C h (fun x => ([] : List (Str × Value)).reverse.lookup x) → News s₁.heap C h [(I, oI), (D, LCg.lst [])] → I ≠ D →
        wpAny (model prog w) A (assign target (compEnvC scope cl C env) v) (fun _ s₂ => wpAny (model prog w) A (eval elt (compEnvC scope cl C env)) (OneEnd s₁ h₀ L C I D oI y m ((ax, listOf #[v] n₀) :: news) Q) E' s₂) E' { s₁ with heap := h, toks := tk }
/-- a comprehension over a list of one item, with any target -/
theorem comp_one {elt target iter : PySem.Expr} {y : Str} {py : Pos} {scope : Scope} {cl : List (Str × Addr)} {pos spos : Pos} {Q : Flow → Shared → Prop} {h₀ : Heap} {L : Addr} {m : Str → Option Value} (_F : Fr h₀ L s.heap m) (hLe : env.locals = L)
    (hsw : swapsWith (.ListComp elt [⟨target, iter, [], 0⟩] scope pos) (some (.Name y py)) spos.line env = pure true)
    (hclos : closureFor scope env = pure cl) (hcell : ∀ z ∈ scope.names, z.2 ≠ .cell) (hkind : scope.kind = .function)
    (hnames : ∀ z ∈ scope.names, z.2 = .local → scope.names.lookup z.1 = some .local)
    (hy : env.kindOf y = some .local) (hp : (env.scope.kind == .class || (env.scope.kind == .module && env.locals != env.globals)) = false)
    (h : wpAny (model prog w) A (eval iter env) (OneSrc prog w A env elt target scope cl h₀ L y m Q) E s)
    (hs : ∀ x, foldedSetIterable iter env x = pure x := by intro _; rfl) :
    wpAny (model prog w) A (exec (.Assign [.Name y py] (.ListComp elt [⟨target, iter, [], 0⟩] scope pos) spos) env) Q E s := by
  subst hLe
  rw [exec_Assign_Name_used _ _ _ _ hsw]
  refine wpAny_bind (wpAny_standAt (wpAny_bind ?_))
  show wpAny _ A (do let _ ← comprehension (.ListComp elt [⟨target, iter, [], 0⟩] scope pos) scope env _ (newList []) false (eval iter env) (some (assign (.Name y py) env))) _ _ s
  refine wpAny_bind (wpAny_mono (wpAny_comprehension_free (use := some (assign (.Name y py) env)) (Q := fun _ s' => Q .next s') rfl hs hclos hkind hnames
    (wpAny_mono h (fun xv s₁ h₁ => ?_) fun _ _ e => e)) (fun _ s' hq => wpAny_pure (wpAny_pure hq)) fun _ _ e => e)
  obtain ⟨ax, v, n₀, news, rfl, hh, F, N, turn⟩ := h₁
  have hax := (N _ (.head _)).1
  have haxlt : ax < s₁.heap.objs.size := Heap.lt_size hax
  have hl : s₁.heap.IsList ax #[v] := ⟨_, hax, rfl, n₀, rfl⟩
  have hLlt : env.locals < s₁.heap.objs.size := F.ns.lt
  refine wpAny_pyIter_list hl ?_
  -- the iterator, the list, the frame
  obtain ⟨I, hI⟩ : ∃ I, I = s₁.heap.objs.size := ⟨_, rfl⟩
  rw [← hI]
  obtain ⟨H1, hH1⟩ : ∃ H1, H1 = s₁.heap.push { cls := .type "list_iterator", data := .fields #[.ref ax, .int 0 0] } := ⟨_, rfl⟩
  rw [← hH1]
  have s1 : H1.objs.size = I + 1 := by rw [hH1, Heap.size_push, hI]
  have k1 : ∀ b o, s₁.heap.get? b = some o → H1.get? b = some o := fun b o e => by rw [hH1]; exact Heap.get?_push_of_some _ e
  have gI : H1.get? I = some { cls := .type "list_iterator", data := .fields #[.ref ax, .int 0 0] } := by rw [hH1, hI]; exact Heap.get?_push_size _ rfl
  refine wpAny_newObj_type (wpAny_newFunctionEnv hcell (by intro y hy; simp at hy) (fun h₁ hns₁ hsb₁ => ?_) hkind)
  dsimp only at hns₁ hsb₁ ⊢
  obtain ⟨D, hD⟩ : ∃ D, D = H1.objs.size := ⟨_, rfl⟩
  rw [← hD]
  obtain ⟨H2, hH2⟩ : ∃ H2, H2 = H1.push { cls := .type "list", dict := none, data := .seq ([] : List Value).toArray } := ⟨_, rfl⟩
  rw [← hH2] at hns₁ hsb₁ ⊢
  obtain ⟨C, hC⟩ : ∃ C, C = H2.objs.size := ⟨_, rfl⟩
  rw [← hC] at hns₁ hsb₁ ⊢
  have s2 : C = D + 1 := by rw [hC, hH2, Heap.size_push, hD]
  have s3 : D = I + 1 := by rw [hD, s1]
  have hID : I ≠ D := by omega
  have hIC : I ≠ C := by omega
  have hDC : D ≠ C := by omega
  have k2 : ∀ b o, H1.get? b = some o → h₁.get? b = some o := fun b o e => by
    have hlt : @LT.lt Nat _ b H1.objs.size := Heap.lt_size e
    refine hsb₁.extBut b o (by rw [← hD] at hlt; exact Nat.ne_of_lt (by omega)) (Heap.get?_push_of_some _ ?_)
    rw [hH2]; exact Heap.get?_push_of_some _ e
  have gD : h₁.get? D = some (LCg.lst []) := hsb₁.extBut _ _ hDC (Heap.get?_push_of_some _ (by rw [hH2, hD]; exact Heap.get?_push_size _ rfl))
  have fresh : ∀ a, s₁.heap.objs.size ≤ a → s₁.heap.get? a = none := fun a ha => Heap.get?_none_of_le ha
  have fI : s₁.heap.get? I = none := fresh _ (by omega)
  have fD : s₁.heap.get? D = none := fresh _ (by omega)
  have fC : s₁.heap.get? C = none := fresh _ (by omega)
  have FC : Fr s₁.heap C h₁ (fun x => ([] : List (Str × Value)).reverse.lookup x) := ⟨hns₁, fun b o e => k2 b o (k1 b o e), by rw [s2, s3, hI]; exact Nat.le_succ_of_le (Nat.le_succ _)⟩
  have W := Walks.list (prog := prog) (w := w) (A := A) hh I ax (Nat.ne_of_lt (by rw [hI]; exact haxlt)) #[v]
  have ne0 : ∀ {b o}, s₁.heap.get? b = some o → b ≠ I ∧ b ≠ D ∧ b ≠ C := fun {b o} e => by
    have this : @LT.lt Nat _ b s₁.heap.objs.size := Heap.lt_size e
    rw [← hI] at this
    exact ⟨Nat.ne_of_lt this, Nat.ne_of_lt (by omega), Nat.ne_of_lt (by omega)⟩
  have loop : codeAny (model prog w) A (.compLoop (.ListComp elt [⟨target, iter, [], 0⟩] scope pos) 0 (.ref I) (.ref D) (compEnvC scope cl C env)) (compPost (model prog w) A E (some (assign (.Name y py) env)) (fun _ s' => Q .next s') (.ref D) C)
      { s₁ with heap := h₁, toks := s₁.toks + ([] : List (Str × Value)).length } := by
    refine comp_loop (fun k s' => k = 2 ∧ s' = { s₁ with heap := h₁, toks := s₁.toks + ([] : List (Str × Value)).length } ∨ k = 1 ∧ ∃ z h' tk' m' extra, s' = { s₁ with heap := h', toks := tk' } ∧ h'.IsListIter I ax 1 ∧ Fr s₁.heap C h' m' ∧ h'.get? D = some (LCg.lst [z]) ∧ News s₁.heap C h' extra ∧ (∀ p ∈ extra, p.1 ≠ I ∧ p.1 ≠ D) ∧
      ∀ h'' tk'', Fr h₀ env.locals h'' (fun u => if u = y then some (.ref D) else m u) → News h₀ env.locals h'' ((D, LCg.lst [z]) :: (extra ++ (ax, listOf #[v] n₀) :: news)) → Q .next { s₁ with heap := h'', toks := tk'' }) ?_ 2 (.inl ⟨rfl, rfl⟩)
    rintro k s' (⟨rfl, rfl⟩ | ⟨rfl, z, h', tk', m', extra, rfl, hit, Fc, gz, Nx, off, fin⟩)
    · refine W.item 0 _ _ _ (Nat.zero_lt_succ 0) ⟨⟨_, k2 _ _ gI, rfl, rfl⟩, ⟨_, k2 _ _ (k1 _ _ hax), rfl, n₀, rfl⟩⟩ fun v' h₂ tk₂ hv hst hk => ?_
      obtain rfl : v = v' := by simpa using hv
      have F₂ : Fr s₁.heap C h₂ (fun x => ([] : List (Str × Value)).reverse.lookup x) := ⟨FC.ns.at' fun o e => hk _ o (by simpa using Ne.symm hIC) e, fun b o e => hk b o (by simpa using (ne0 e).1) (FC.keep b o e), FC.above⟩
      obtain ⟨oI, goI, hoI⟩ := hst.1
      refine letGo_listiter hst.1 ?_
      have N₂ : News s₁.heap C h₂ [(I, oI), (D, LCg.lst [])] := fun p hp => by
        rcases List.mem_cons.mp hp with rfl | hp
        · exact ⟨goI, hIC, fI⟩
        · obtain rfl := List.mem_singleton.mp hp
          exact ⟨hk _ _ (by simpa using Ne.symm hID) gD, hDC, fD⟩
      refine wpAny_mono (turn C I D oI h₂ tk₂ _ F₂ N₂ hID) (fun _ s₂ h₂ => wpAny_mono h₂ (fun z s₃ h₃ => ?_) fun _ _ e => e) fun _ _ e => e
      obtain ⟨h', tk', m', extra, rfl, F₃, N₃, off, fin⟩ := h₃
      refine append_at (N₃ _ (.tail _ (.head _))).1 fun h₄ hs₄ g₄ => ?_
      have gi4 : h₄.get? I = some oI := hs₄.extBut _ _ hID (N₃ _ (.head _)).1
      refine ⟨1, by decide, .inr ⟨rfl, z, h₄, tk', m', extra, rfl, ⟨_, gi4, hoI⟩, F₃.change hs₄ hDC fD, g₄, fun p hp => ?_, off, fin⟩⟩
      exact ⟨hs₄.extBut _ _ (off p hp).2 (N₃ p (.tail _ (.tail _ hp))).1, (N₃ p (.tail _ (.tail _ hp))).2⟩
    · refine W.done _ _ _ ⟨hit, ⟨_, Fc.keep _ _ hax, rfl, n₀, rfl⟩⟩ fun h₂ tk₂ hk => ?_
      show wpAny _ _ (assign (.Name y py) env (.ref D)) _ _ _
      have keep : ∀ b o, s₁.heap.get? b = some o → h₂.get? b = some o := fun b o e => hk b o (by simpa using (ne0 e).1) (Fc.keep b o e)
      obtain ⟨oL, goL⟩ : ∃ o, s₁.heap.get? env.locals = some o := by
        cases e : s₁.heap.get? env.locals with
        | none => obtain ⟨o, _, _, ho, _⟩ := F.ns; rw [e] at ho; cases ho
        | some o => exact ⟨o, rfl⟩
      have nsL : h₂.Ns env.locals m := F.ns.at' fun o e => keep _ o e
      have nsC : h₂.Ns C m' := Fc.ns.at' fun o e => hk _ o (by simpa using Ne.symm hIC) e
      have zero : ∀ {b : Addr}, s₁.heap.get? b = none → h₀.get? b = none := fun {b} e => by
        cases e' : h₀.get? b with
        | none => rfl
        | some o => have := F.keep _ _ e'; rw [e] at this; cases this
      have neL : ∀ {b : Addr}, s₁.heap.get? b = none → b ≠ env.locals := fun {b} e q => by rw [q, goL] at e; cases e
      refine wpAny_assign_Name (wpAny_storeName_local hy nsL (fun h₃ hn₃ hs₃ => ?_) hp)
      refine ⟨m', nsC.sameBut hs₃ (neL fC), fun h₄ hs₄ => ?_⟩
      refine fin h₄ _ ⟨hn₃.sameBut hs₄ (Ne.symm (neL fC)), fun b o e => ?_, F.above⟩ fun p hp => ?_
      · have e1 := F.keep b o e
        exact hs₄.extBut _ _ (ne0 e1).2.2 (hs₃.extBut _ _ (fun q => by rw [q, Heap.get?_none_of_le F.above] at e; cases e) (keep _ _ e1))
      · have far : ∀ {b o}, h₂.get? b = some o → b ≠ C → b ≠ env.locals → h₄.get? b = some o := fun {b o} e c l => hs₄.extBut _ _ c (hs₃.extBut _ _ l e)
        rcases List.mem_cons.mp hp with rfl | hp
        · exact ⟨far (hk _ _ (by simpa using Ne.symm hID) gz) hDC (neL fD), neL fD, zero fD⟩
        rcases List.mem_append.mp hp with hp | hp
        · have z := Nx p hp
          exact ⟨far (hk _ _ (by simpa using (off p hp).1) z.1) z.2.1 (neL z.2.2), neL z.2.2, zero z.2.2⟩
        · have z := N p hp
          exact ⟨far (keep _ _ z.1) (ne0 z.1).2.2 z.2.1, z.2.1, z.2.2⟩
  exact codeAny_compStart_list loop (W.self 0 _ _ _ ⟨⟨_, k2 _ _ gI, rfl, rfl⟩, ⟨_, k2 _ _ (k1 _ _ hax), rfl, n₀, rfl⟩⟩ loop)
end
section
variable {prog : Program} {w : World} {A : Around} {E : Value → Shared → Prop} {s : Shared} {h₀ : Heap} {L x dx : Addr} {m : Str → Option Value} {news : Led} {vs : List Value}
theorem ete_itemsG {Q : List Value → Shared → Prop} (X₀ : (Mine.hd.heap_1 w.params).In h₀) (F : Fr h₀ L s.heap m) (N : News h₀ L s.heap news) (hx : s.heap.get? x = some (eteObj dx vs)) (hh : A.handled = none)
    (hQ : ∀ h', Fr h₀ L h' m → News h₀ L h' news → Q vs { s with heap := h' }) : wpAny (model prog w) A (unpackItems (.ref x) vs.length none) Q E s := by
  have hlt : x ≠ s.heap.objs.size := Nat.ne_of_lt (Heap.lt_size hx)
  have X := X₀.keeps F.keep
  have t1 : Looks (model prog w) s.heap (typeOf (.ref x)) (.ref 175) := (Looks.ld hx).andThen .now
  have i1 := ete_iterLook (prog := prog) X
  have l1 : Looks (model prog w) s.heap (specialOf (.ref x) "__iter__") (some (.builtin "tuple.__iter__")) := t1.andThen i1
  unfold unpackItems
  refine wpAny_bind ?_
  unfold notIterableAtAll
  refine wpAny_bind (l1.here (wpAny_pure ?_))
  simp only [Bool.false_eq_true, if_false]
  refine wpAny_bind (wpAny_holding (ete_iter X₀ F hx ?_))
  have hs : SeqAt (s.heap.push { cls := .type "tuple_iterator", data := .fields #[.ref x, .int 0 0] }) x vs.toArray := ⟨_, _, Heap.get?_push_of_some _ hx, rfl⟩
  refine wpAny_bind (wpAny_holding (tup_draw hlt vs.length 0 _ _ ⟨_, Heap.get?_push_size _ rfl, rfl, rfl⟩ hs (by simp) fun h₁ hit₁ hs₁ => ?_))
  rw [List.drop_zero, List.toList_toArray, if_neg (by simp)]
  refine wpAny_bind (wpAny_holding (tup_over hh hit₁ (hs.but hs₁.extBut hlt) (by simp) fun h₂ he₂ => ?_))
  simp only [Option.isSome_none, Bool.false_eq_true, if_false]
  have he : Heap.ExtBut s.heap.objs.size s.heap h₂ := fun b o hb e => he₂ b o hb (hs₁.extBut b o hb (Heap.get?_push_of_some _ e))
  exact wpAny_pure (hQ h₂ (F.extBut he (Nat.le_refl _)) (N.extBut he (Nat.le_refl _)))
theorem ete_assignG {env : Env} {elts : List PySem.Expr} {k : _} {pos : Pos} {Q : Unit → Shared → Prop} (X₀ : (Mine.hd.heap_1 w.params).In h₀) (F : Fr h₀ L s.heap m) (N : News h₀ L s.heap news) (hx : s.heap.get? x = some (eteObj dx vs)) (hh : A.handled = none)
    (hn : (assignEach elts env).length = vs.length) (hstar : (assignEach elts env).findIdx? (·.1) = none)
    (h : ∀ h', Fr h₀ L h' m → News h₀ L h' news → wpAny (model prog w) A (assignInOrder ((assignEach elts env).map (·.2)) vs) Q E { s with heap := h' }) :
    wpAny (model prog w) A (assign (.Tuple elts k pos) env (.ref x)) Q E s := by
  rw [assign_Tuple]
  refine wpAny_bind (wpAny_standAt ?_)
  unfold unpack
  rw [hstar, hn]
  exact wpAny_bind (wpAny_holding (ete_itemsG X₀ F N hx hh h))
theorem store_comp {env : Env} {scope : Scope} {cl : List (Str × Addr)} {C : Addr} {n : Str} {v : Value} {Q : Unit → Shared → Prop} (F : Fr h₀ C s.heap m) (N : News h₀ C s.heap news) (hk : (compEnvC scope cl C env).kindOf n = some .local) (hp : ((compEnvC scope cl C env).scope.kind == .class || ((compEnvC scope cl C env).scope.kind == .module && (compEnvC scope cl C env).locals != (compEnvC scope cl C env).globals)) = false)
    (h : ∀ h', Fr h₀ C h' (fun y => if y = n then some v else m y) → News h₀ C h' news → Q () { s with heap := h', toks := s.toks + 1 }) : wpAny (model prog w) A (storeName (compEnvC scope cl C env) n v) Q E s :=
  wpAny_storeName_local hk F.ns (fun h' hn hs => h h' (F.set hn hs) (N.set hs)) hp
theorem load_comp {env : Env} {scope : Scope} {cl : List (Str × Addr)} {C : Addr} {n : Str} {pos : Pos} {v : Value} {Q : Value → Shared → Prop} (F : Fr h₀ C s.heap m) (hs : (compEnvC scope cl C env).scope.kind = .function) (hk : (compEnvC scope cl C env).kindOf n = some .local) (hm : m n = some v) (hd : (n == ("__debug__" : Str)) = false)
    (h : Q v s) : wpAny (model prog w) A (eval (.Name n pos) (compEnvC scope cl C env)) Q E s :=
  wpAny_Name (wpAny_loadName_local hs hk F.ns hm h) hd
theorem turn_nil_fr {g g2 h : Heap} (T : KtsTurn [] g g2) (F : Fr g2 L h m) : Fr g L h m := ⟨F.ns, fun b o e => F.keep b o (T.other b o e (fun hb => nomatch hb)), by rw [← T.size]; exact F.above⟩
theorem turn_nil_news {g g2 h : Heap} (T : KtsTurn [] g g2) (N : News g2 L h news) : News g L h news := fun p hp => ⟨(N p hp).1, (N p hp).2.1, by
  cases e : g.get? p.1 with
  | none => rfl
  | some o => have := T.other _ o e (fun hb => nomatch hb); rw [(N p hp).2.2] at this; cases this⟩
end
end
section
open PySem PySem.Calls PySem.Spec PySem.W PyProof.Rows
set_option maxRecDepth 100000
section
variable {prog : Program} {w : World} {A : Around} {E : Value → Shared → Prop} {s : Shared} {env : Env} {h₀ : Heap} {L : Addr} {m : Str → Option Value}
def StrSrc (prog : Program) (w : World) (A : Around) (h₀ : Heap) (L : Addr) (m : Str → Option Value) (env : Env) (elt : PySem.Expr) (x : Str) (scope : Scope) (cl : List (Str × Addr)) (Q : Value → Shared → Prop) (xv : Value) (s₁ : Shared) : Prop :=
  ∃ txt t news, xv = .str txt t ∧ A.handled = none ∧ Fr h₀ L s₁.heap m ∧ News h₀ L s₁.heap news ∧ txt.cps.size ≤ sizeLine ∧ txt.cps.all (· < 128) = true ∧
    ∀ g, LCg.CompRest prog w A h₀ L m env elt x scope cl { s₁ with heap := g } (fun _ => True) (SignAt txt) (LCg.FinE h₀ L m { s₁ with heap := g } Q) txt.cps.size 0 [] news
theorem comp_str {elt iter : PySem.Expr} {x : Str} {px : Pos} {scope : Scope} {cl : List (Str × Addr)} {pos : Pos} {Q : Value → Shared → Prop} (_F₀ : Fr h₀ L s.heap m)
    (hclos : closureFor scope env = pure cl) (hcell : ∀ y ∈ scope.names, y.2 ≠ .cell) (hkind : scope.kind = .function)
    (hnames : ∀ y ∈ scope.names, y.2 = .local → scope.names.lookup y.1 = some .local) (hx : scope.names.lookup x = some .local)
    (h : wpAny (model prog w) A (eval iter env) (StrSrc prog w A h₀ L m env elt x scope cl Q) E s)
    (hs : ∀ x, foldedSetIterable iter env x = pure x := by intro _; rfl) :
    wpAny (model prog w) A (eval (.ListComp elt [⟨.Name x px, iter, [], 0⟩] scope pos) env) Q E s := by
  rw [eval_ListComp]
  refine wpAny_comprehension_free (use := none) rfl hs hclos hkind hnames (wpAny_mono h (fun xv s₁ h₁ => ?_) fun _ _ e => e)
  obtain ⟨txt, t, news, rfl, hh, F, N, hsz, hasc, R⟩ := h₁
  refine wpAny_pyIter_ascii hasc ?_
  refine LCg.block_U (S := fun _ => True) (Walks.strAscii hh s₁.heap.objs.size txt t) hsz (fun i h st => by obtain ⟨o, e, _⟩ := st; exact ⟨o, e⟩)
    (fun i h h' o nw st e e' _ _ _ => by obtain ⟨o', q, r⟩ := st; rw [e] at q; cases q; exact ⟨o, e', r⟩) hcell hkind hx ⟨_, Heap.get?_push_size _ rfl, rfl, rfl⟩ (fun b hb => ?_)
    (F.keeps fun _ _ e => Heap.get?_push_of_some _ e) (N.grown fun _ _ e => Heap.get?_push_of_some _ e) (Nat.ne_of_lt F.ns.lt) (next_is_new F) (fun p hp => Nat.ne_of_lt (Heap.lt_size (N p hp).1)) trivial (R _) ?_
  · rw [List.mem_singleton.mp hb]
    show s₁.heap.objs.size < (s₁.heap.push _).objs.size
    rw [Heap.size_push]; exact Nat.lt_succ_self _
  · intro D C h tk m' ys news' F' N' o1 hn hC₀ hD₀ hCL hDL hCD offC fin
    refine ⟨m', hn, fun h'' hs'' => fin D h'' tk (F'.change hs'' hCL hC₀) (fun p hp => ?_) o1⟩
    refine ⟨hs''.extBut _ _ ?_ (N' p hp).1, (N' p hp).2⟩
    rcases List.mem_cons.mp hp with rfl | hp
    · exact Ne.symm hCD
    · exact offC p hp
/-- one sign's element: an int -/
def SignEl (c : Nat) (nw : Led) (y : Value) (nw' : Led) : Prop := nw' = nw ∧ ∃ t, y = .int (c : Int) t
theorem ints_snoc {y : Int} {t : Tok} : ∀ {vs : List Value} {ys : List Int}, IntsAre vs ys → IntsAre (vs ++ [.int y t]) (ys ++ [y])
  | _, _, .nil => .cons y t .nil
  | _, _, .cons z u r => .cons z u (ints_snoc r)
theorem str_rest {elt : PySem.Expr} {x : Str} {scope : Scope} {cl : List (Str × Addr)} {S : Led → Prop} {Fin : List Value → Led → Prop} {news : Led} (txt : Str)
    (turn : ∀ c u I oI C oC D m₂ ys h tk (E' : Value → Shared → Prop), c ∈ txt.cps.toList → LCg.NsObj oC m₂ → m₂ x = some (.str ⟨#[c]⟩ u) → Fr h₀ L h m → News h₀ L h ((I, oI) :: (C, oC) :: (D, LCg.lst ys) :: news) → LCg.Off3 I C D news → ((@Ne Nat I C) ∧ (@Ne Nat I D) ∧ (@Ne Nat C D)) →
      wpAny (model prog w) A (eval elt (compEnvC scope cl C env)) (LCg.CompEnd h₀ L m { s with heap := h, toks := tk } I oI C oC D (LCg.lst ys) S (SignEl c news)) E' { s with heap := h, toks := tk })
    (fin : ∀ ys, IntsAre ys (txt.cps.toList.map fun (c : Nat) => (c : Int)) → Fin ys news) :
    LCg.CompRest prog w A h₀ L m env elt x scope cl s S (SignAt txt) Fin txt.cps.size 0 [] news := by
  have key : ∀ (j i : Nat) (ys : List Value), i + j = txt.cps.size → IntsAre ys ((txt.cps.toList.take i).map fun (c : Nat) => (c : Int)) → LCg.CompRest prog w A h₀ L m env elt x scope cl s S (SignAt txt) Fin j i ys news := by
    intro j
    induction j with
    | zero =>
      intro i ys hi hy
      have e : txt.cps.toList.take i = txt.cps.toList := List.take_of_length_le (by rw [Array.length_toList]; omega)
      rw [e] at hy
      exact LCg.CompRest.zero (fin ys hy)
    | succ j ih =>
      intro i ys hi hy
      refine LCg.CompRest.succ fun v I oI C oC D m₂ h tk E' hP hC hx F N off ne => ?_
      obtain ⟨c, u, hc, rfl⟩ := hP
      have hc2 : txt.cps.toList[i]? = some c := by rw [Array.getElem?_toList]; exact hc
      refine wpAny_mono (turn c u I oI C oC D m₂ ys h tk E' (List.mem_of_getElem? hc2) hC hx F N off ne) (fun y s₄ h₄ => ?_) fun _ _ e => e
      obtain ⟨h', tk', news', rfl, F', N', off', hS', rfl, t, rfl⟩ := h₄
      refine ⟨h', tk', _, rfl, F', N', off', hS', ih (i + 1) _ (by omega) ?_⟩
      have e : txt.cps.toList.take (i + 1) = txt.cps.toList.take i ++ [c] := by rw [List.take_add_one, hc2]; rfl
      rw [e, List.map_append]
      exact ints_snoc hy
  exact key _ 0 [] (by omega) .nil
end
end
section
open PySem PySem.Calls PySem.Spec PySem.W PyProof.Rows
set_option maxRecDepth 100000
section
variable {prog : Program} {w : World} {A : Around} {E : Value → Shared → Prop} {s : Shared} {env : Env} {h₀ : Heap} {L : Addr} {m : Str → Option Value}
def RngSrc (prog : Program) (w : World) (A : Around) (h₀ : Heap) (L : Addr) (m : Str → Option Value) (env : Env) (elt : PySem.Expr) (x : Str) (scope : Scope) (cl : List (Str × Addr)) (Q : Value → Shared → Prop) (xv : Value) (s₁ : Shared) : Prop :=
  ∃ r b c n t u v news, xv = .ref r ∧ A.handled = none ∧ Fr h₀ L s₁.heap m ∧ News h₀ L s₁.heap news ∧ IsRange s₁.heap r 0 b c t u v ∧ Builtin.Range.small 0 b c = true ∧ Builtin.Range.rangeSize 0 b c = ((n : Nat) : Int) ∧ n ≤ sizeLine ∧
    ∀ g, LCg.CompRest prog w A h₀ L m env elt x scope cl { s₁ with heap := g } (fun _ => True) (fun i v => ∃ t, v = .int (0 + (i : Int) * c) t) (LCg.FinE h₀ L m { s₁ with heap := g } Q) n 0 [] news
theorem comp_rng {elt iter : PySem.Expr} {x : Str} {px : Pos} {scope : Scope} {cl : List (Str × Addr)} {pos : Pos} {Q : Value → Shared → Prop} (_F₀ : Fr h₀ L s.heap m)
    (hclos : closureFor scope env = pure cl) (hcell : ∀ y ∈ scope.names, y.2 ≠ .cell) (hkind : scope.kind = .function)
    (hnames : ∀ y ∈ scope.names, y.2 = .local → scope.names.lookup y.1 = some .local) (hx : scope.names.lookup x = some .local)
    (h : wpAny (model prog w) A (eval iter env) (RngSrc prog w A h₀ L m env elt x scope cl Q) E s)
    (hs : ∀ x, foldedSetIterable iter env x = pure x := by intro _; rfl) :
    wpAny (model prog w) A (eval (.ListComp elt [⟨.Name x px, iter, [], 0⟩] scope pos) env) Q E s := by
  rw [eval_ListComp]
  refine wpAny_comprehension_free (use := none) rfl hs hclos hkind hnames (wpAny_mono h (fun xv s₁ h₁ => ?_) fun _ _ e => e)
  obtain ⟨r, b, c, n, t, u, v, news, rfl, hh, F, N, hr, hsm, hn, hsz, R⟩ := h₁
  refine wpAny_pyIter_range hr hsm ?_
  refine LCg.block_U (S := fun _ => True) (Walks.range hh s₁.heap.objs.size 0 c n) hsz (fun i h st => ⟨_, st⟩)
    (fun i h h' o nw st e e' _ _ _ => by
      have st' : h.get? s₁.heap.objs.size = some _ := st
      show h'.get? s₁.heap.objs.size = some _
      rw [e', ← e]; exact st') hcell hkind hx (by show IsRangeIter _ _ _ _ _; rw [hn]; simpa using Heap.get?_push_size _ rfl) (fun b hb => ?_)
    (F.keeps fun _ _ e => Heap.get?_push_of_some _ e) (N.grown fun _ _ e => Heap.get?_push_of_some _ e) (Nat.ne_of_lt F.ns.lt) (next_is_new F) (fun p hp => Nat.ne_of_lt (Heap.lt_size (N p hp).1)) trivial (R _) ?_
  · rw [List.mem_singleton.mp hb]
    show s₁.heap.objs.size < (s₁.heap.push _).objs.size
    rw [Heap.size_push]; exact Nat.lt_succ_self _
  · intro D C h tk m' ys news' F' N' o1 hn hC₀ hD₀ hCL hDL hCD offC fin
    refine ⟨m', hn, fun h'' hs'' => fin D h'' tk (F'.change hs'' hCL hC₀) (fun p hp => ?_) o1⟩
    refine ⟨hs''.extBut _ _ ?_ (N' p hp).1, (N' p hp).2⟩
    rcases List.mem_cons.mp hp with rfl | hp
    · exact Ne.symm hCD
    · exact offC p hp
theorem strs_snoc {y : Str} {t : Tok} : ∀ {vs : List Value} {ys : List Str}, StrsAre vs ys → StrsAre (vs ++ [.str y t]) (ys ++ [y])
  | _, _, .nil => .cons y t .nil
  | _, _, .cons z u r => .cons z u (strs_snoc r)
def TextEl (x : Str) (nw : Led) (y : Value) (nw' : Led) : Prop := nw' = nw ∧ ∃ t, y = .str x t
theorem rng_rest {elt : PySem.Expr} {x : Str} {scope : Scope} {cl : List (Str × Addr)} {S : Led → Prop} {Fin : List Value → Led → Prop} {news : Led} (n : Nat) (c : Int) (f : Nat → Str)
    (turn : ∀ i t I oI C oC D m₂ ys h tk (E' : Value → Shared → Prop), i < n → LCg.NsObj oC m₂ → m₂ x = some (.int (0 + (i : Int) * c) t) → Fr h₀ L h m → News h₀ L h ((I, oI) :: (C, oC) :: (D, LCg.lst ys) :: news) → LCg.Off3 I C D news → ((@Ne Nat I C) ∧ (@Ne Nat I D) ∧ (@Ne Nat C D)) →
      wpAny (model prog w) A (eval elt (compEnvC scope cl C env)) (LCg.CompEnd h₀ L m { s with heap := h, toks := tk } I oI C oC D (LCg.lst ys) S (TextEl (f i) news)) E' { s with heap := h, toks := tk })
    (fin : ∀ ys, StrsAre ys ((List.range n).map f) → Fin ys news) :
    LCg.CompRest prog w A h₀ L m env elt x scope cl s S (fun i v => ∃ t, v = .int (0 + (i : Int) * c) t) Fin n 0 [] news := by
  have key : ∀ (j i : Nat) (ys : List Value), i + j = n → StrsAre ys ((List.range i).map f) → LCg.CompRest prog w A h₀ L m env elt x scope cl s S (fun i v => ∃ t, v = .int (0 + (i : Int) * c) t) Fin j i ys news := by
    intro j
    induction j with
    | zero =>
      intro i ys hi hy
      have e : i = n := by omega
      subst e
      exact LCg.CompRest.zero (fin ys hy)
    | succ j ih =>
      intro i ys hi hy
      refine LCg.CompRest.succ fun v I oI C oC D m₂ h tk E' hP hC hx F N off ne => ?_
      obtain ⟨t, rfl⟩ := hP
      refine wpAny_mono (turn i t I oI C oC D m₂ ys h tk E' (by omega) hC hx F N off ne) (fun y s₄ h₄ => ?_) fun _ _ e => e
      obtain ⟨h', tk', news', rfl, F', N', off', hS', rfl, t, rfl⟩ := h₄
      refine ⟨h', tk', _, rfl, F', N', off', hS', ih (i + 1) _ (by omega) ?_⟩
      rw [List.range_succ, List.map_append]
      exact strs_snoc hy
  exact key n 0 [] (by omega) .nil
end
end
section
open PySem PySem.W PyProof.Rows
def cint (l : List Nat) : List Int := l.map fun (c : Nat) => (c : Int)
/-- the number that a letter p and the octet e after it tell -/
def numOf (p e : Int) : Int := (33 + p) * 64 + e
theorem vars_letter {xs : List Int} {i : Nat} {p e : Int} {vs : List Int} (hp : Let4 p) (h1 : xs[i]? = some ((97 + p.toNat : Nat) : Int)) (h2 : xs[i + 1]? = some e) (he : 0 ≤ e ∧ e < 64) (hv : VarsAt xs (i + 2) vs) : VarsAt xs i (numOf p e :: vs) := by
  have hp0 := hp.1
  have hp1 := hp.2
  have e1 : ((97 + p.toNat : Nat) : Int) = 97 + p := by omega
  rw [e1] at h1
  refine .cons h1 (by omega) (by omega) (.step (by omega) h2 (by omega) (by omega) ?_) (by unfold numOf; omega) hv
  have e2 : (97 + p) % 64 * 64 + e % 64 = numOf p e := by unfold numOf; omega
  rw [e2]
  exact .stop (by omega)
theorem vars_space {xs : List Int} {i : Nat} {vs : List Int} (h1 : xs[i]? = some 32) (hv : VarsAt xs (i + 1) vs) : VarsAt xs i (32 :: vs) :=
  .cons h1 (by decide) (by decide) (.stop (by decide)) (by decide) hv
theorem rd_num {l : List Int} {p e : Int} (hp : Let4 p) (he : 0 ≤ e ∧ e < 64) : rdGrow l (numOf p e) = l ++ [p] := by
  have hp0 := hp.1
  have hp1 := hp.2
  unfold rdGrow numOf
  rw [if_pos (by omega)]
  congr 2
  omega
theorem rd_num2 {l : List Int} {p e : Int} (hp : Let4 p) (he : 0 ≤ e ∧ e < 64) : rdGrow l (2 * (numOf p e / 2)) = l ++ [p] := by
  have hp0 := hp.1
  have hp1 := hp.2
  unfold rdGrow numOf
  rw [if_pos (by omega)]
  congr 2
  omega
theorem rd_sp {l : List Int} : rdGrow l 32 = l := if_neg (by decide)
theorem rd_sp2 {l : List Int} : rdGrow l (2 * (32 / 2)) = l := if_neg (by decide)
def goneL (ws : List Int) : List Int := if ws.length = 8 then ws.take 7 else ws.take 5
def endsOf (ws : List Int) : Int := if ws.length = 6 then 10 else if ws.length = 7 then 11 else 13
theorem c58 : (0 : Int) ≤ 58 ∧ (58 : Int) < 64 := by decide
theorem c10 : (0 : Int) ≤ 10 ∧ (10 : Int) < 64 := by decide
theorem len6 {ws : List Int} (h : ws.length = 6) : ∃ a b c d e f, ws = [a, b, c, d, e, f] := by
  match ws, h with
  | [a, b, c, d, e, f], _ => exact ⟨a, b, c, d, e, f, rfl⟩
theorem len7 {ws : List Int} (h : ws.length = 7) : ∃ a b c d e f g, ws = [a, b, c, d, e, f, g] := by
  cases ws with
  | nil => cases h
  | cons a r =>
    obtain ⟨b, c, d, e, f, g, rfl⟩ := len6 (ws := r) (by simpa using h)
    exact ⟨a, b, c, d, e, f, g, rfl⟩
theorem len8 {ws : List Int} (h : ws.length = 8) : ∃ a b c d e f g k, ws = [a, b, c, d, e, f, g, k] := by
  cases ws with
  | nil => cases h
  | cons a r =>
    obtain ⟨b, c, d, e, f, g, k, rfl⟩ := len7 (ws := r) (by simpa using h)
    exact ⟨a, b, c, d, e, f, g, k, rfl⟩
theorem text_law (ws : List Int) (h4 : ∀ x ∈ ws, Let4 x) (h6 : 6 ≤ ws.length) (h8 : ws.length ≤ 8) :
    ∃ nums, VarsAt (cint (written ws).cps.toList) 0 nums ∧ nums.length ≤ 1000 ∧ ((rows4 nums).length : Int) = endsOf ws / 4 ∧ (∀ e ∈ rows4 nums, readOne e ≠ []) ∧ (rows4 nums).flatMap readOne = goneL ws := by
  have hlen : ws.length = 6 ∨ ws.length = 7 ∨ ws.length = 8 := by omega
  rw [written_codes ws h4]
  rcases hlen with hl | hl | hl
  · obtain ⟨a, b, c, d, e, f, rfl⟩ := len6 hl
    · have hcs : codes [a, b, c, d, e, f] (([a, b, c, d, e, f].length + 2) / 3) = [97 + a.toNat, 58, 32, 97 + b.toNat, 58, 32, 97 + c.toNat, 10, 97 + d.toNat, 58, 32, 97 + e.toNat, 58, 32, 97 + f.toNat, 10] := by simp [codes, lineL]
      rw [hcs]
      have ha := h4 a (by simp)
      have hb := h4 b (by simp)
      have hc := h4 c (by simp)
      have hd := h4 d (by simp)
      have he := h4 e (by simp)
      have hf := h4 f (by simp)
      refine ⟨[numOf a 58, 32, numOf b 58, 32, numOf c 10, numOf d 58, 32, numOf e 58, 32, numOf f 10], ?_, Nat.le_of_ble_eq_true rfl, rfl, ?_, ?_⟩
      · exact vars_letter ha rfl rfl c58 (vars_space rfl (vars_letter hb rfl rfl c58 (vars_space rfl (vars_letter hc rfl rfl c10 (vars_letter hd rfl rfl c58 (vars_space rfl (vars_letter he rfl rfl c58 (vars_space rfl (vars_letter hf rfl rfl c10 (.nil rfl))))))))))
      · simp only [rows4, List.forall_mem_cons, readOne, List.foldl_cons, List.foldl_nil, rd_num ha c58, rd_num hb c58, rd_sp, rd_sp2, rd_num hc c10, rd_num hd c58, rd_num2 he c58]
        simp
      · simp only [rows4, List.flatMap_cons, List.flatMap_nil, readOne, List.foldl_cons, List.foldl_nil, rd_num ha c58, rd_num hb c58, rd_sp, rd_sp2, rd_num hc c10, rd_num hd c58, rd_num2 he c58]
        rfl
  · obtain ⟨a, b, c, d, e, f, g, rfl⟩ := len7 hl
    · have hcs : codes [a, b, c, d, e, f, g] (([a, b, c, d, e, f, g].length + 2) / 3) = [97 + a.toNat, 58, 32, 97 + b.toNat, 58, 32, 97 + c.toNat, 10, 97 + d.toNat, 58, 32, 97 + e.toNat, 58, 32, 97 + f.toNat, 10, 97 + g.toNat, 10] := by simp [codes, lineL]
      rw [hcs]
      have ha := h4 a (by simp)
      have hb := h4 b (by simp)
      have hc := h4 c (by simp)
      have hd := h4 d (by simp)
      have he := h4 e (by simp)
      have hf := h4 f (by simp)
      have hg := h4 g (by simp)
      refine ⟨[numOf a 58, 32, numOf b 58, 32, numOf c 10, numOf d 58, 32, numOf e 58, 32, numOf f 10, numOf g 10], ?_, Nat.le_of_ble_eq_true rfl, rfl, ?_, ?_⟩
      · exact vars_letter ha rfl rfl c58 (vars_space rfl (vars_letter hb rfl rfl c58 (vars_space rfl (vars_letter hc rfl rfl c10 (vars_letter hd rfl rfl c58 (vars_space rfl (vars_letter he rfl rfl c58 (vars_space rfl (vars_letter hf rfl rfl c10 (vars_letter hg rfl rfl c10 (.nil rfl)))))))))))
      · simp only [rows4, List.forall_mem_cons, readOne, List.foldl_cons, List.foldl_nil, rd_num ha c58, rd_num hb c58, rd_sp, rd_sp2, rd_num hc c10, rd_num hd c58, rd_num2 he c58]
        simp
      · simp only [rows4, List.flatMap_cons, List.flatMap_nil, readOne, List.foldl_cons, List.foldl_nil, rd_num ha c58, rd_num hb c58, rd_sp, rd_sp2, rd_num hc c10, rd_num hd c58, rd_num2 he c58]
        rfl
  · obtain ⟨a, b, c, d, e, f, g, k, rfl⟩ := len8 hl
    · have hcs : codes [a, b, c, d, e, f, g, k] (([a, b, c, d, e, f, g, k].length + 2) / 3) = [97 + a.toNat, 58, 32, 97 + b.toNat, 58, 32, 97 + c.toNat, 10, 97 + d.toNat, 58, 32, 97 + e.toNat, 58, 32, 97 + f.toNat, 10, 97 + g.toNat, 58, 32, 97 + k.toNat, 10] := by simp [codes, lineL]
      rw [hcs]
      have ha := h4 a (by simp)
      have hb := h4 b (by simp)
      have hc := h4 c (by simp)
      have hd := h4 d (by simp)
      have he := h4 e (by simp)
      have hf := h4 f (by simp)
      have hg := h4 g (by simp)
      have hk := h4 k (by simp)
      refine ⟨[numOf a 58, 32, numOf b 58, 32, numOf c 10, numOf d 58, 32, numOf e 58, 32, numOf f 10, numOf g 58, 32, numOf k 10], ?_, Nat.le_of_ble_eq_true rfl, rfl, ?_, ?_⟩
      · exact vars_letter ha rfl rfl c58 (vars_space rfl (vars_letter hb rfl rfl c58 (vars_space rfl (vars_letter hc rfl rfl c10 (vars_letter hd rfl rfl c58 (vars_space rfl (vars_letter he rfl rfl c58 (vars_space rfl (vars_letter hf rfl rfl c10 (vars_letter hg rfl rfl c58 (vars_space rfl (vars_letter hk rfl rfl c10 (.nil rfl)))))))))))))
      · simp only [rows4, List.forall_mem_cons, readOne, List.foldl_cons, List.foldl_nil, rd_num ha c58, rd_num hb c58, rd_sp, rd_sp2, rd_num hc c10, rd_num hd c58, rd_num he c58, rd_num2 he c58, rd_num hf c10, rd_num hg c58]
        simp
      · simp only [rows4, List.flatMap_cons, List.flatMap_nil, readOne, List.foldl_cons, List.foldl_nil, rd_num ha c58, rd_num hb c58, rd_sp, rd_sp2, rd_num hc c10, rd_num hd c58, rd_num he c58, rd_num2 he c58, rd_num hf c10, rd_num hg c58]
        rfl
theorem text_ascii (ws : List Int) (h4 : ∀ x ∈ ws, Let4 x) (h6 : 6 ≤ ws.length) (h8 : ws.length ≤ 8) : (written ws).cps.all (· < 128) = true ∧ (written ws).cps.size ≤ 100 := by
  have hlen : ws.length = 6 ∨ ws.length = 7 ∨ ws.length = 8 := by omega
  rw [← Array.all_toList, ← Array.length_toList, written_codes ws h4]
  have ha : ∀ p, Let4 p → decide (97 + p.toNat < 128) = true := fun p hp => by
    have := hp.1
    have := hp.2
    exact decide_eq_true (by omega)
  rcases hlen with hl | hl | hl
  · obtain ⟨a, b, c, d, e, f, rfl⟩ := len6 hl
    · have hcs : codes [a, b, c, d, e, f] (([a, b, c, d, e, f].length + 2) / 3) = [97 + a.toNat, 58, 32, 97 + b.toNat, 58, 32, 97 + c.toNat, 10, 97 + d.toNat, 58, 32, 97 + e.toNat, 58, 32, 97 + f.toNat, 10] := by simp [codes, lineL]
      rw [hcs]
      refine ⟨?_, Nat.le_of_ble_eq_true rfl⟩
      simp only [List.all_cons, List.all_nil, ha a (h4 a (by simp)), ha b (h4 b (by simp)), ha c (h4 c (by simp)), ha d (h4 d (by simp)), ha e (h4 e (by simp)), ha f (h4 f (by simp)), List.length_cons, List.length_nil]
      simp
  · obtain ⟨a, b, c, d, e, f, g, rfl⟩ := len7 hl
    · have hcs : codes [a, b, c, d, e, f, g] (([a, b, c, d, e, f, g].length + 2) / 3) = [97 + a.toNat, 58, 32, 97 + b.toNat, 58, 32, 97 + c.toNat, 10, 97 + d.toNat, 58, 32, 97 + e.toNat, 58, 32, 97 + f.toNat, 10, 97 + g.toNat, 10] := by simp [codes, lineL]
      rw [hcs]
      refine ⟨?_, Nat.le_of_ble_eq_true rfl⟩
      simp only [List.all_cons, List.all_nil, ha a (h4 a (by simp)), ha b (h4 b (by simp)), ha c (h4 c (by simp)), ha d (h4 d (by simp)), ha e (h4 e (by simp)), ha f (h4 f (by simp)), ha g (h4 g (by simp)), List.length_cons, List.length_nil]
      simp
  · obtain ⟨a, b, c, d, e, f, g, k, rfl⟩ := len8 hl
    · have hcs : codes [a, b, c, d, e, f, g, k] (([a, b, c, d, e, f, g, k].length + 2) / 3) = [97 + a.toNat, 58, 32, 97 + b.toNat, 58, 32, 97 + c.toNat, 10, 97 + d.toNat, 58, 32, 97 + e.toNat, 58, 32, 97 + f.toNat, 10, 97 + g.toNat, 58, 32, 97 + k.toNat, 10] := by simp [codes, lineL]
      rw [hcs]
      refine ⟨?_, Nat.le_of_ble_eq_true rfl⟩
      simp only [List.all_cons, List.all_nil, ha a (h4 a (by simp)), ha b (h4 b (by simp)), ha c (h4 c (by simp)), ha d (h4 d (by simp)), ha e (h4 e (by simp)), ha f (h4 f (by simp)), ha g (h4 g (by simp)), ha k (h4 k (by simp)), List.length_cons, List.length_nil]
      simp
end
section
open PySem PySem.W PyProof.Rows
theorem join_line : ∀ (l : List Int), l ≠ [] → (∀ x ∈ l, Let4 x) → (Str.join (Str.ofString ": ") (l.map fun k => abcd k) ++ Str.ofString "\n").cps.toList = lineL l
  | [], h, _ => absurd rfl h
  | [p], _, h4 => by
    show (abcd p ++ Str.ofString "\n").cps.toList = _
    rw [app_cps, abcd_cps (h4 p (.head _)), c_nl]
    rfl
  | p :: q :: r, _, h4 => by
    have ih := join_line (q :: r) (List.cons_ne_nil _ _) (fun x hx => h4 x (.tail _ hx))
    show ((abcd p ++ Str.ofString ": " ++ Str.join (Str.ofString ": ") ((q :: r).map fun k => abcd k)) ++ Str.ofString "\n").cps.toList = _
    rw [app_cps] at ih
    rw [app_cps, app_cps, app_cps, abcd_cps (h4 p (.head _)), c_colon, lineL, ← ih]
    simp
theorem join_none : ∀ (xs : List Str), (Str.join (Str.ofString "") xs).cps.toList = xs.flatMap fun x => x.cps.toList
  | [] => rfl
  | [x] => by simp [Str.join]
  | x :: y :: r => by
    show (x ++ Str.ofString "" ++ Str.join (Str.ofString "") (y :: r)).cps.toList = _
    rw [app_cps, app_cps, c_emp]
    have ih := join_none (y :: r)
    rw [List.flatMap_cons, ← ih]
    simp
theorem codes_flat (ns : List Int) : ∀ n, codes ns n = (List.range n).flatMap fun i => lineL ((ns.drop (i * 3)).take 3)
  | 0 => rfl
  | n + 1 => by
    show codes ns n ++ _ = _
    rw [codes_flat ns n, List.range_succ, List.flatMap_append]
    simp
theorem plain_law (back : List Int) (h4 : ∀ x ∈ back, Let4 x) (f : Nat → Str) (hf : ∀ i, i < (back.length + 2) / 3 → (f i).cps.toList = lineL ((back.drop (i * 3)).take 3)) :
    Str.join (Str.ofString "") ((List.range ((back.length + 2) / 3)).map f) = written back := by
  refine str_ext ?_
  rw [join_none, written_codes back h4, codes_flat, List.flatMap_map]
  have key : ∀ n, n ≤ (back.length + 2) / 3 → ((List.range n).flatMap fun i => (f i).cps.toList) = (List.range n).flatMap fun i => lineL ((back.drop (i * 3)).take 3) := by
    intro n
    induction n with
    | zero => intro _; rfl
    | succ n ih =>
      intro hn
      rw [List.range_succ, List.flatMap_append, List.flatMap_append, ih (by omega)]
      congr 1
      simp [hf n (by omega)]
  exact key _ (Nat.le_refl _)
/-- the line that the plain joining writes -/
def plainLine (back : List Int) (i : Nat) : Str := Str.join (Str.ofString ": ") (((back.drop (i * 3)).take 3).map fun k => abcd k) ++ Str.ofString "\n"
theorem plain_eq (back : List Int) (h4 : ∀ x ∈ back, Let4 x) : Str.join (Str.ofString "") ((List.range ((back.length + 2) / 3)).map (plainLine back)) = written back :=
  plain_law back h4 _ fun i hi => join_line _ (by
    intro e
    have := congrArg List.length e
    rw [List.length_take, List.length_drop, List.length_nil] at this
    omega) fun x hx => h4 x (List.mem_of_mem_drop (List.mem_of_mem_take hx))
theorem strs_values : ∀ {vs : List Value} {ss : List Str}, StrsAre vs ss → ∃ l, vs = strValues l ∧ l.map (·.1) = ss
  | _, _, .nil => ⟨[], rfl, rfl⟩
  | _, _, .cons y t h => by
    obtain ⟨l, rfl, rfl⟩ := strs_values h
    exact ⟨(y, t) :: l, rfl, rfl⟩
theorem StrsAre.dropM : ∀ {vs : List Value} {ss : List Str} (k : Nat), StrsAre vs ss → StrsAre (vs.drop k) (ss.drop k)
  | _, _, 0, h => h
  | _, _, _ + 1, .nil => .nil
  | _, _, k + 1, .cons _ _ h => StrsAre.dropM k h
theorem StrsAre.takeM : ∀ {vs : List Value} {ss : List Str} (k : Nat), StrsAre vs ss → StrsAre (vs.take k) (ss.take k)
  | _, _, 0, _ => .nil
  | _, _, _ + 1, .nil => .nil
  | _, _, k + 1, .cons y t h => .cons y t (StrsAre.takeM k h)
theorem StrsAre.lenM : ∀ {vs : List Value} {ss : List Str}, StrsAre vs ss → vs.length = ss.length
  | _, _, .nil => rfl
  | _, _, .cons _ _ h => congrArg (· + 1) (StrsAre.lenM h)
theorem plainLine_len (back : List Int) (h4 : ∀ x ∈ back, Let4 x) (i : Nat) (hi : i < (back.length + 2) / 3) : (plainLine back i).length ≤ 10 := by
  have e := join_line ((back.drop (i * 3)).take 3) (by
    intro e
    have := congrArg List.length e
    rw [List.length_take, List.length_drop, List.length_nil] at this
    omega) fun x hx => h4 x (List.mem_of_mem_drop (List.mem_of_mem_take hx))
  have e2 : (plainLine back i).cps.toList.length = (lineL ((back.drop (i * 3)).take 3)).length := congrArg List.length e
  have hl : ((back.drop (i * 3)).take 3).length ≤ 3 := by rw [List.length_take]; omega
  have h3 : ∀ l : List Int, l.length ≤ 3 → (lineL l).length ≤ 10 := by
    intro l hl
    match l, hl with
    | [], _ => exact Nat.le_of_ble_eq_true rfl
    | [_], _ => exact Nat.le_of_ble_eq_true rfl
    | [_, _], _ => exact Nat.le_of_ble_eq_true rfl
    | [_, _, _], _ => exact Nat.le_of_ble_eq_true rfl
  have := h3 _ hl
  rw [Array.length_toList] at e2
  show (plainLine back i).cps.size ≤ 10
  omega
end
section
open PySem PySem.Calls PySem.Spec PySem.W PyProof.Rows
set_option maxRecDepth 100000
theorem strs_lenM {vs : List Value} {ss : List Str} (h : StrsAre vs ss) : vs.length = ss.length := StrsAre.lenM h
theorem pick_run3 (vs : List Value) {x y : Int} (h : 0 ≤ x) (h2 : 0 ≤ y) : slicePick vs.toArray (some x) (some y) none = ((vs.drop x.toNat).take (min y.toNat vs.length - x.toNat)).toArray := by
  have e : sliceBounds (some x) (some y) none vs.toArray.size = (((min x.toNat vs.toArray.size : Nat) : Int), ((min y.toNat vs.toArray.size : Nat) : Int), 1) := by
    simp only [sliceBounds, Option.getD_none, show (1 : Int) > 0 by decide, if_true, if_neg (show ¬ (x < 0) by omega), if_neg (show ¬ (y < 0) by omega)]
    congr 1
    · omega
    · congr 1
      omega
  rw [kmk_pick_nat _ e]
  show ((vs.drop (min x.toNat vs.toArray.size)).take (min y.toNat vs.toArray.size - min x.toNat vs.toArray.size)).toArray = _
  rw [List.size_toArray, kmk_drop_min]
  by_cases hx : x.toNat ≤ vs.length
  · rw [Nat.min_eq_left hx]
  · rw [List.drop_of_length_le (by omega)]
    simp
theorem pick3 (vs : List Value) (i : Nat) (hi : i * 3 < vs.length) : slicePick vs.toArray (some (0 + (i : Int) * 3)) (some (0 + (i : Int) * 3 + 3)) none = ((vs.drop (i * 3)).take 3).toArray := by
  rw [pick_run3 _ (by omega) (by omega)]
  have e1 : (0 + (i : Int) * 3).toNat = i * 3 := by omega
  have e2 : (0 + (i : Int) * 3 + 3).toNat = i * 3 + 3 := by omega
  rw [e1, e2]
  congr 1
  refine List.take_eq_take_iff.mpr ?_
  rw [List.length_drop]
  omega
theorem line_sum (l : List Int) (h4 : ∀ x ∈ l, Let4 x) : ((l.map fun k => abcd k).map (·.length)).sum = l.length := by
  induction l with
  | nil => rfl
  | cons p r ih =>
    have e : (abcd p).length = 1 := by rw [abcd_cps (h4 p (.head _))]; rfl
    simp only [List.map_cons, List.sum_cons, List.length_cons]
    rw [ih fun x hx => h4 x (.tail _ hx), e]
    omega
theorem line_ok (back : List Int) (h4 : ∀ x ∈ back, Let4 x) (i : Nat) : JoinOk (Str.ofString ": ") (((back.drop (i * 3)).take 3).map fun k => abcd k) = true := by
  refine joinOk_of ?_
  rw [line_sum _ fun x hx => h4 x (List.mem_of_mem_drop (List.mem_of_mem_take hx)), s_colon, List.length_map]
  have : ((back.drop (i * 3)).take 3).length ≤ 3 := by rw [List.length_take]; omega
  omega
theorem plain_ok (back : List Int) (h4 : ∀ x ∈ back, Let4 x) (hl : back.length ≤ 1000) : JoinOk (Str.ofString "") ((List.range ((back.length + 2) / 3)).map (plainLine back)) = true := by
  refine joinOk_of ?_
  rw [s_emp]
  have h : ∀ n, n ≤ (back.length + 2) / 3 → (((List.range n).map (plainLine back)).map (·.length)).sum ≤ 10 * n := by
    intro n
    induction n with
    | zero => intro _; exact Nat.le_refl _
    | succ n ih =>
      intro hn
      rw [List.range_succ, List.map_append, List.map_append, List.sum_append]
      have h1 := ih (by omega)
      have h2 := plainLine_len back h4 n (by omega)
      simp only [List.map_cons, List.map_nil, List.sum_cons, List.sum_nil]
      omega
  have := h _ (Nat.le_refl _)
  omega
section
variable {prog : Program} {w : World} {A : Around} {E : Value → Shared → Prop} {s : Shared} {h₀ : Heap} {L D : Addr} {nw : Led} {vs : List Value} {ss : List Str} {sep : Str} {n : Nat}
theorem join_call {t : Tok} {Q : Value → Shared → Prop} (N : News h₀ L s.heap nw) (hm : (D, listOf vs.toArray n) ∈ nw) (hS : StrsAre vs ss) (hok : JoinOk sep ss = true)
    (h : ∀ t' k, Q (.str (Str.join sep ss) t') { s with toks := k }) : wpAny (model prog w) A (call (.builtin "str.join") [.str sep t, .ref D]) Q E s := by
  obtain ⟨l, rfl, hl⟩ := strs_values hS
  exact SC.join ⟨_, (N _ hm).1, rfl, n, rfl⟩ hl hok (fun t' k => by rw [show Txt.join sep ss = Str.join sep ss from PySem.StrLaws.glued_eq_join _ _]; exact h t' k)
end
end
section
open PySem PySem.Calls PySem.Spec PySem.W PyProof.Rows
set_option compiler.extract_closed false
set_option maxRecDepth 100000
set_option maxHeartbeats 8000000
theorem rsMA : True := by
  w_top off
  k_with_none
  trivial
local macro_rules | `(tactic| k_qdec) => `(tactic| decide +kernel)
local macro_rules | `(tactic| walk_at "subscriptTail BinOp") => `(tactic| (k_here; (refine kba_turn (value' := PySem.Expr.Name (PySem.Str.ofString "_") ⟨0, 0, 0, 0⟩) (fun _ => rfl) ?_)))
theorem execs_cutM (n : Nat) {M : Model} {A : Around} {E : Value → Shared → Prop} {Q : Flow → Shared → Prop} {s : Shared} {env : Env} {body : List Stmt} (P : Shared → Prop)
    (h : ∀ PP : Shared → Prop, (∀ s', P s' → PP s') → wpAny M A (execs (body.take n) env) (Cut PP) E s) (k : ∀ s', P s' → wpAny M A (execs (body.drop n) env) Q E s') : wpAny M A (execs body env) Q E s :=
  execs_cut n P (h P fun _ x => x) k
theorem cells_five (xs : List Int) (h : xs.length ≤ 63) : ∃ c0 c1 c2 c3 c4 rest, (xs ++ [5, 2, 12, 7, 0, 3, 0, 0, 1, 2, 3]).take 13 = c0 :: c1 :: c2 :: c3 :: c4 :: rest ∧ 6 ≤ rest.length ∧ rest.length ≤ 8 := by
  have hl : ((xs ++ [5, 2, 12, 7, 0, 3, 0, 0, 1, 2, 3]).take 13).length = min 13 (xs.length + 11) := by simp
  generalize (xs ++ [5, 2, 12, 7, 0, 3, 0, 0, 1, 2, 3]).take 13 = ys at hl
  match ys, hl with
  | c0 :: c1 :: c2 :: c3 :: c4 :: rest, hl => exact ⟨c0, c1, c2, c3, c4, rest, rfl, by simp only [List.length_cons] at hl; omega, by simp only [List.length_cons] at hl; omega⟩
  | [], hl => simp only [List.length_nil] at hl; omega
  | [_], hl => simp only [List.length_cons, List.length_nil] at hl; omega
  | [_, _], hl => simp only [List.length_cons, List.length_nil] at hl; omega
  | [_, _, _], hl => simp only [List.length_cons, List.length_nil] at hl; omega
  | [_, _, _, _], hl => simp only [List.length_cons, List.length_nil] at hl; omega
theorem fr_front {g h : Heap} {L : Addr} {m : Str → Option Value} (ps : List (Str × Value)) (F : Fr g L h m) (hk : ∀ p ∈ ps, m p.1 = some p.2) : Fr g L h (kstB m ps) := by
  refine (funext fun y => ?_ : m = kstB m ps) ▸ F
  exact (kstB_eq hk fun _ => rfl).symm
theorem fr_frontE {g h : Heap} {L : Addr} {m : Str → Option Value} (ps : List (Str × Value)) (F : Fr g L h m) (hk : ∀ p ∈ ps, m p.1 = some p.2) : ∃ m', Fr g L h (kstB m' ps) := ⟨m, fr_front ps F hk⟩
theorem fm13 (x : Int) : x.fmod 13 = x % 13 := Int.fmod_eq_emod_of_nonneg _ (by decide)
theorem ints4l {vs : List Value} {a b c d : Int} (h : IntsAre vs [a, b, c, d]) : ∃ t0 t1 t2 t3, vs = [.int a t0, .int b t1, .int c t2, .int d t3] := ints4 (q := ⟨a, b, c, d⟩) h
theorem kw17 : True := by
  k_with "me call ref" => (k_here; (with_reducible show wpAny _ _ (call (Value.ref 236) _) _ _ _); k_dflt (refine tell_int (op_mul _ _ _ _ _ _ (by omega) (by omega)) (by k_asm) (by k_asm) (by k_asm) (by k_asm) (by k_asm) rfl (by ktr_room) (by ktr_units) ?_); intro _ _ _ _ _; (try dsimp only); (try k_sweep))
  trivial
theorem news_hd (k : Nat) {g h : Heap} {L : Addr} {x : Addr × Obj} {l : Led} (N : News g L h (x :: l)) : News g L h (x :: l.drop k) := fun p hp => N p (by
  rcases List.mem_cons.mp hp with rfl | hp
  · exact .head _
  · exact .tail _ (List.mem_of_mem_drop hp))
theorem isq (x : Int) : x ^ 2 = x * x := by rw [Int.pow_succ, Int.pow_succ, Int.pow_zero, Int.one_mul]
theorem kw18 : True := by
  k_with "me call ref" => (k_here; (with_reducible show wpAny _ _ (call (Value.ref 276) _) _ _ _); refine Stopped.out ?_)
  k_with "me call ref" => (k_here; (with_reducible show wpAny _ _ (call (Value.ref 271) _) _ _ _); refine Stopped.out ?_)
  k_with "me exec Assign cons ListComp" => (k_here; (with_reducible show wpAny _ _ (exec (Stmt.Assign _ (PySem.Expr.ListComp _ [⟨PySem.Expr.Tuple _ _ _, _, _, _⟩] _ _) _) _) _ _ _); refine Stopped.out ?_)
  trivial
local macro_rules | `(tactic| walk_at "storeName") => `(tactic| (k_here; (with_reducible show wpAny _ _ (storeName (compEnvC _ _ _ _) _ _) _ _ _); (refine store_comp (by k_asm) (by k_asm) (by rfl) (by rfl) ?_); intro h' F' N'; (try k_sweep)))
local macro_rules | `(tactic| walk_at "eval Name") => `(tactic| (k_here; (with_reducible show wpAny _ _ (eval (PySem.Expr.Name _ _) (compEnvC _ _ _ _)) _ _ _); (with_reducible rename Fr _ _ _ _ => kF); k_dflt (refine load_comp kF (by rfl) (by rfl) (by rfl) (by decide) ?_)))
theorem news_rot3 {g h : Heap} {L : Addr} {x y z : Addr × Obj} (N : News g L h [x, y, z]) : News g L h [y, z, x] := fun p hp => N p (by
  rcases List.mem_cons.mp hp with rfl | hp
  · exact .tail _ (.head _)
  rcases List.mem_cons.mp hp with rfl | hp
  · exact .tail _ (.tail _ (.head _))
  · obtain rfl := List.mem_singleton.mp hp
    exact .head _)
theorem dOf_half {ks A : Int} (hk : 0 < ks) (hA : 0 ≤ A) : dOf (-(ks * A)) / 2 = ks * A := by
  have h0 : 0 ≤ ks * A := Int.mul_nonneg (by omega) hA
  unfold dOf
  by_cases h : -(ks * A) < 0
  · rw [if_pos h, negMark_neg h]; omega
  · rw [if_neg h, negMark_pos h]; omega
theorem dOf_odd {ks A : Int} (hk : 0 < ks) (hA : 0 ≤ A) : (dOf (-(ks * A)) % 2 == 1) = decide (A > 0) := by
  unfold dOf
  by_cases h : A > 0
  · have h0 : 0 < ks * A := Int.mul_pos hk h
    have h1 : -(ks * A) < 0 := by omega
    rw [if_pos h1, negMark_neg h1, decide_eq_true h]
    have : (2 * - -(ks * A) + 1) % 2 = 1 := by omega
    rw [this]; rfl
  · have : A = 0 := by omega
    subst this
    simp [negMark]
theorem news_apart {g h : Heap} {L x c : Addr} {its : Array Value} {n : Nat} {o : Obj} {v : Option Value} {nw : Led} (N : News g L h nw) (hx : (x, listOf its n) ∈ nw) (hc : (c, o) ∈ nw) (hd : o.data = .cell v) : x ≠ c := by
  rintro rfl
  have h1 := (N _ hx).1
  have h2 := (N _ hc).1
  rw [h1] at h2
  cases h2
  cases hd
theorem fm4 (x : Int) : x.fmod 4 = x % 4 := Int.fmod_eq_emod_of_nonneg _ (by decide)
theorem news_sub {g h : Heap} {L : Addr} {l l' : Led} (N : News g L h l) (hs : ∀ p ∈ l', p ∈ l) : News g L h l' := fun p hp => N p (hs p hp)
theorem fd3 (x : Int) : x.fdiv 3 = x / 3 := Int.fdiv_eq_ediv_of_nonneg _ (by decide)
theorem fmm3 (x : Int) : x.fmod 3 = x % 3 := Int.fmod_eq_emod_of_nonneg _ (by decide)
theorem cell_int {o : Obj} {x y : Int} {t : Tok} (h : o.data = .cell (some (.int x t))) (e : x = y) : o.data = .cell (some (.int y t)) := e ▸ h
theorem kw19 : True := by
  k_with "me call ref" => (k_here; (with_reducible show wpAny _ _ (call (Value.ref 295) _) _ _ _); refine Stopped.out ?_)
  k_with "me eval ListComp" => (k_here; (with_reducible show wpAny _ _ (eval (PySem.Expr.ListComp _ [⟨_, PySem.Expr.Call (PySem.Expr.Name _ _) [PySem.Expr.Name _ _] _ _, _, _⟩] _ _) _) _ _ _); refine Stopped.out ?_)
  k_with "me call builtin:len" => (k_here; (have hh9 : True := by (with_reducible rename EtesIn _ _ _ => etX); exact trivial); clear hh9; refine Stopped.out ?_)
  trivial
theorem fd4 (x : Int) : x.fdiv 4 = x / 4 := Int.fdiv_eq_ediv_of_nonneg _ (by decide)
theorem kw20 : True := by
  k_with "me call ref" => (k_here; (with_reducible show wpAny _ _ (call (Value.ref 288) _) _ _ _); refine Stopped.out ?_)
  k_with "me exec For" => (k_here; refine Stopped.out ?_)
  k_with "me CompSrcT" => (k_here; refine Stopped.out ?_)
  k_with "me KCiEl" => (refine Stopped.out ?_)
  k_with "me KCiNo" => (refine Stopped.out ?_)
  trivial
def goneGrow (ws : List Int) (en : Int) (l : List Int) (k : Int) : List Int := if 5 * (k / 3) + 2 * (k % 3) < en / 4 * 4 then l ++ [ws.getD k.toNat 0] else l
theorem goneGrows (ws : List Int) (en : Int) : KPfGrows (goneGrow ws en) := fun l k => by
  unfold goneGrow
  split
  · simp
  · omega
theorem gone_fold (ws : List Int) (h6 : 6 ≤ ws.length) (h8 : ws.length ≤ 8) : (rangeKs 0 ws.length).foldl (goneGrow ws (endsOf ws)) [] = goneL ws := by
  have hlen : ws.length = 6 ∨ ws.length = 7 ∨ ws.length = 8 := by omega
  rcases hlen with hl | hl | hl
  · obtain ⟨a, b, c, d, e, f, rfl⟩ := len6 hl
    · have e1 : endsOf [a, b, c, d, e, f] = 10 := rfl
      have e2 : rangeKs 0 [a, b, c, d, e, f].length = [0, 1, 2, 3, 4, 5] := rfl
      rw [e1, e2]
      simp [goneGrow, goneL]
  · obtain ⟨a, b, c, d, e, f, g, rfl⟩ := len7 hl
    · have e1 : endsOf [a, b, c, d, e, f, g] = 11 := rfl
      have e2 : rangeKs 0 [a, b, c, d, e, f, g].length = [0, 1, 2, 3, 4, 5, 6] := rfl
      rw [e1, e2]
      simp [goneGrow, goneL]
  · obtain ⟨a, b, c, d, e, f, g, k, rfl⟩ := len8 hl
    · have e1 : endsOf [a, b, c, d, e, f, g, k] = 13 := rfl
      have e2 : rangeKs 0 [a, b, c, d, e, f, g, k].length = [0, 1, 2, 3, 4, 5, 6, 7] := rfl
      rw [e1, e2]
      simp [goneGrow, goneL]
theorem small1 {k : Nat} (h : k ≤ 1000) : Builtin.Range.small 0 (k : Int) 1 = true := by
  have hh : ∀ j : Fin 1001, Builtin.Range.small 0 ((j.val : Nat) : Int) 1 = true := by decide +kernel
  exact hh ⟨k, by omega⟩
structure StS where
  vs : List Value
  n : Nat
theorem kw21 : True := by
  k_with "me eval ListComp" => (k_here; (with_reducible show wpAny _ _ (eval (PySem.Expr.ListComp _ [⟨_, _, _ :: _, _⟩] _ _) _) _ _ _); refine Stopped.out ?_)
  k_with "me pyIter ref" => (k_here; refine Stopped.out ?_)
  trivial
theorem rs1 (k : Nat) : Builtin.Range.rangeSize 0 (k : Int) 1 = ((k : Nat) : Int) := by
  unfold Builtin.Range.rangeSize
  simp only [show ((1 : Int) > 0) = True from eq_true (by decide), if_true]
  split <;> omega
local macro_rules | `(tactic| walk_at "call builtin:list.append") => `(tactic| (k_here; (refine append_K (by k_asm) (by k_asm) (Upd.head (by assumption)) ?_); intro h' F' N'; (try dsimp only at N')))
theorem Down.last {q r : Q4} {way : List Int} (h : Down q way r) : r.Ok := by
  induction h with
  | stop ok _ => exact ok
  | step _ _ _ _ ih => exact ih
theorem ints_unsnoc : ∀ {xs : List Int} {vs : List Value} {x : Int}, IntsAre vs (xs ++ [x]) → ∃ us t, vs = us ++ [.int x t] ∧ IntsAre us xs
  | [], _, x, h => by
    cases h with | cons _ t h => cases h; exact ⟨[], t, rfl, .nil⟩
  | y :: ys, _, x, h => by
    cases h with
    | cons _ t h =>
      obtain ⟨us, u, rfl, hu⟩ := ints_unsnoc h
      exact ⟨_ :: us, u, rfl, .cons _ _ hu⟩
local macro_rules | `(tactic| walk_at "ite") => `(tactic| (k_here; (with_reducible rename ¬ (decide _ = true) => hb9); rw [if_neg hb9]))
theorem kw22 : True := by
  k_with "me call ref" => (k_here; (with_reducible show wpAny _ _ (call (Value.ref 283) _) _ _ _); refine Stopped.out ?_)
  k_with "me call ref" => (k_here; (with_reducible show wpAny _ _ (call (Value.ref 300) _) _ _ _); refine Stopped.out ?_)
  trivial
structure LgS where
  q : Q4
  fl : Addr
  t0 : Tok
  t1 : Tok
  t2 : Tok
  t3 : Tok
  n : Nat
theorem kw23 : True := by
  k_with "me exec For Name Call cons nil" => (k_here; refine Stopped.out ?_)
  trivial
def StrMark : Prop := True
theorem kw24 : True := by
  k_with "me eval ListComp" => (k_here; (have hh9 : StrMark := by with_reducible assumption); clear hh9; refine Stopped.out ?_)
  trivial
local macro_rules | `(tactic| walk_at "exec Assign cons ListComp") => `(tactic| (k_here; (with_reducible rename StrMark => sm9); refine wpAny_Assign_Name ?_))
theorem kw25 : True := by
  k_with "me CompSrc" => (k_here; (have hh9 : StrMark := by with_reducible assumption); clear hh9; refine Stopped.out ?_)
  trivial
theorem Down.lets {q r : Q4} {way : List Int} (h : Down q way r) : ∀ x ∈ way, Let4 x := by
  induction h with
  | stop _ _ => intro x hx; exact absurd hx List.not_mem_nil
  | step _ hp _ _ ih =>
    intro x hx
    rcases List.mem_cons.mp hx with rfl | hx
    · unfold Let4; omega
    · exact ih x hx
theorem kw26 : True := by
  k_with "me call builtin:len" => (k_here; (have hh9 : StrMark := by with_reducible assumption); clear hh9; refine Stopped.out ?_)
  k_with "me call builtin:str.join" => (k_here; (have hh9 : StrMark := by with_reducible assumption); clear hh9; refine Stopped.out ?_)
  k_with "me subscriptTail" => (k_here; (have hh9 : StrMark := by with_reducible assumption); clear hh9; (with_reducible show wpAny _ _ (subscriptTail _ (PySem.Expr.Slice _ _ none _) (Value.ref _) (Value.ref _)) _ _ _); refine Stopped.out ?_)
  k_with "me subscriptTail Name Slice ref ref" => (k_here; (have hh9 : StrMark := by with_reducible assumption); clear hh9; (with_reducible show wpAny _ _ (subscriptTail _ (PySem.Expr.Slice _ _ none _) (Value.ref _) (Value.ref _)) _ _ _); refine Stopped.out ?_)
  trivial
theorem law0 : PySem.Challenge.rw_kl0477_01.Holds := by
  refine hd ?_
  w_strict
  k_go0
  k_fold
  rename_i w s0 s1 mg mb G Y fa o pm doc ho hg KX X V GL Tp B TE TW ww wo M wa1 wa2 hcd script hs hlay0 hLy hr0 hl2 as1 as2 sl vs as3 hL ra w1 r0 hI hr hc1 hc2 K0 hD h1 tk1 F o3 o2 o1 d3 d2 d1 N0 X0
  clear Y G ho V B TE M hcd TW hs hlay0 hLy hr0 hl2 ra w1 r0 hr hD X0 GL
  obtain ⟨L, hL0⟩ : ∃ L, L = s1.heap.objs.size := ⟨_, rfl⟩
  rw [← hL0] at F d1 d2 d3 N0 ⊢
  obtain ⟨m0, hm0, FF⟩ : ∃ m1, (_ : Str → Option Value) = m1 ∧ Fr s1.heap L h1 m1 := ⟨_, rfl, F⟩
  clear F
  rename Fr _ _ _ _ => F
  obtain ⟨c0, c1, c2, c3, c4, rest, hce, hr6, hr8⟩ := cells_five script (by omega)
  refine execs_cutM 1 (fun s' => ∃ h' tk' cl cvs n' m, s' = { s1 with heap := h', toks := tk' } ∧ Fr s1.heap L h' (kstB m [(Str.ofString "cells", .ref cl)]) ∧ News s1.heap L h' ((cl, listOf cvs.toArray n') :: (L + 3, o3) :: (L + 2, o2) :: (L + 1, o1) :: []) ∧ IntsAre cvs (c0 :: c1 :: c2 :: c3 :: c4 :: rest) ∧ L + 3 < cl) ?_ ?_
  · intro PP hPP
    subst hm0
    clear d1 d2 d3
    simp only [List.take_succ_cons, List.take_zero]
    k_steps
    rename IntsAre _ (List.take _ _) => hC
    rename Fr s1.heap _ _ _ => F9
    rename News s1.heap _ _ _ => N9
    rw [hce] at hC
    obtain ⟨mm, F10⟩ := fr_frontE [(Str.ofString "cells", _)] F9 (List.forall_mem_cons.mpr ⟨rfl, List.forall_mem_nil _⟩)
    refine Cut.of (hPP _ ⟨_, _, _, _, 0, _, rfl, F10, ?_, hC, by omega⟩)
    intro p hp
    rcases List.mem_cons.mp hp with rfl | hp
    · exact N9 _ (.head _)
    · exact N9 _ (.tail _ (.tail _ (.tail _ (.tail _ hp))))
  clear F hm0 N0 hL hI hce m0
  replace K0 : Below callerA s1.heap [] s1.heap := K0
  rintro s' ⟨h2, tk2, cl, cvs, n2, m2, rfl, F, N, hC, hlc⟩
  dsimp only [kstB] at F
  simp only [List.drop_succ_cons, List.drop_zero]
  obtain ⟨a, ha⟩ : ∃ a, a = c0 % 13 - 6 := ⟨_, rfl⟩
  obtain ⟨b, hb⟩ : ∃ b, b = c1 % 13 - 6 := ⟨_, rfl⟩
  obtain ⟨c, hc⟩ : ∃ c, c = c2 % 13 - 6 := ⟨_, rfl⟩
  obtain ⟨d, hdd⟩ : ∃ d, d = c3 % 13 - 6 := ⟨_, rfl⟩
  obtain ⟨ks, hks⟩ : ∃ ks, ks = c4 % 1000 + 1 := ⟨_, rfl⟩
  have ha6 : In6 a := by unfold In6; omega
  have hb6 : In6 b := by unfold In6; omega
  have hc6 : In6 c := by unfold In6; omega
  have hd6 : In6 d := by unfold In6; omega
  have hk1 : 0 < ks := by omega
  have hk2 : ks ≤ 1000 := by omega
  refine execs_cutM 3 (fun s' => ∃ h' tk' m ta tb tc td tA tk, s' = { s1 with heap := h', toks := tk' } ∧ Fr s1.heap L h' (kstB m [(Str.ofString "cells", .ref cl), (Str.ofString "a", .int a ta), (Str.ofString "b", .int b tb), (Str.ofString "c", .int c tc), (Str.ofString "d", .int d td), (Str.ofString "area", .int ((a * d - b * c).natAbs : Int) tA), (Str.ofString "scale", .int ks tk)]) ∧
    News s1.heap L h' ((cl, listOf cvs.toArray n2) :: (L + 3, o3) :: (L + 2, o2) :: (L + 1, o1) :: [])) ?_ ?_
  · intro PP hPP
    clear d1 d2 d3
    simp only [List.take_succ_cons, List.take_zero]
    k_steps
    rename IntsAre _ (List.map _ _) => hM
    simp only [List.take_succ_cons, List.take_zero, List.map_cons, List.map_nil, fm13] at hM
    rw [← ha, ← hb, ← hc, ← hdd] at hM
    obtain ⟨u0, u1, u2, u3, rfl⟩ := ints4l hM
    k_steps
    rename Fr s1.heap _ _ _ => F9
    rename News s1.heap _ _ _ => N9
    have eA : (if a * d - b * c < 0 then -(a * d - b * c) else a * d - b * c) = ((a * d - b * c).natAbs : Int) := by split <;> omega
    have eK : Int.fmod ((c0 :: c1 :: c2 :: c3 :: c4 :: rest).getD (Int.toNat 4) 0) 1000 + 1 = ks := by
      rw [Int.fmod_eq_emod_of_nonneg _ (by decide), hks]; rfl
    rw [eA, eK] at F9
    refine Cut.of (hPP _ ⟨_, _, _, _, _, _, _, _, _, rfl, fr_front [(Str.ofString "cells", _), (Str.ofString "a", _), (Str.ofString "b", _), (Str.ofString "c", _), (Str.ofString "d", _), (Str.ofString "area", _), (Str.ofString "scale", _)] F9 (by repeat' (first | exact List.forall_mem_nil _ | refine List.forall_mem_cons.mpr ⟨rfl, ?_⟩)), fun p hp => N9 p (.tail _ (.tail _ hp))⟩)
  clear F N
  rintro s' ⟨h3, tk3, m3, ta, tb, tc, td, tA, tk, rfl, F, N⟩
  dsimp only [kstB] at F
  simp only [List.drop_succ_cons, List.drop_zero]
  obtain ⟨A, hA⟩ : ∃ A, A = ((a * d - b * c).natAbs : Int) := ⟨_, rfl⟩
  rw [← hA] at F
  have hAL : A ≤ 72 := hA ▸ area_le ha6 hb6 hc6 hd6
  have hA0 : 0 ≤ A := by omega
  refine execs_cutM 2 (fun s' => ∃ h' tk' fl n' m t0 t1 t2 t3, s' = { s1 with heap := h', toks := tk' } ∧ Fr s1.heap L h' (kstB m [(Str.ofString "four", .ref fl), (Str.ofString "cells", .ref cl), (Str.ofString "area", .int A tA), (Str.ofString "scale", .int ks tk)]) ∧
    News s1.heap L h' ((fl, listOf #[.int ((gOf a b c d).sc ks).a t0, .int ((gOf a b c d).sc ks).b t1, .int ((gOf a b c d).sc ks).c t2, .int ((gOf a b c d).sc ks).d t3] n') :: (cl, listOf cvs.toArray n2) :: (L + 3, o3) :: (L + 2, o2) :: (L + 1, o1) :: [])) ?_ ?_
  · intro PP hPP
    clear d1 d2 d3
    have hs0 : -(2 ^ 62) < ks := by omega
    have hs1 : ks < 2 ^ 62 := by omega
    simp only [List.take_succ_cons, List.take_zero]
    k_steps
    rename Fr s1.heap _ _ _ => F9
    rename News s1.heap _ _ _ => N9
    obtain ⟨mm, F10⟩ := fr_frontE [(Str.ofString "four", _), (Str.ofString "cells", _), (Str.ofString "area", _), (Str.ofString "scale", _)] F9 (by repeat' (first | exact List.forall_mem_nil _ | refine List.forall_mem_cons.mpr ⟨rfl, ?_⟩))
    have e1 : ((gOf a b c d).sc ks).a = ks * (a * a + b * b + A) := by rw [hA]; rfl
    have e2 : ((gOf a b c d).sc ks).b = ks * (c * c + d * d + A) := by rw [hA]; rfl
    have e3 : ((gOf a b c d).sc ks).c = ks * ((a - c) ^ (2 : Int).toNat + (b - d) ^ (2 : Int).toNat + A) := by
      show ks * ((a - c) * (a - c) + (b - d) * (b - d) + ((a * d - b * c).natAbs : Int)) = ks * ((a - c) ^ 2 + (b - d) ^ 2 + A)
      rw [hA, isq, isq]
    have e4 : ((gOf a b c d).sc ks).d = -ks * A := by
      show ks * (-((a * d - b * c).natAbs : Int)) = -ks * A
      rw [hA, Int.neg_mul, Int.mul_neg]
    rw [← e1, ← e2, ← e3, ← e4] at N9
    exact Cut.of (hPP _ ⟨_, _, _, 0, mm, _, _, _, _, rfl, F10, news_hd 2 N9⟩)
  clear F N
  rintro s' ⟨h4, tk4, fl, n4, m4, t0, t1, t2, t3, rfl, F, N⟩
  dsimp only [kstB] at F
  simp only [List.drop_succ_cons, List.drop_zero]
  obtain ⟨q, hq⟩ : ∃ q, q = (gOf a b c d).sc ks := ⟨_, rfl⟩
  rw [← hq] at N
  have hqS := (gOf_start a b c d).ok hk1 hk2 (gOf_des a b c d) (by have := gOf_sum ha6 hb6 hc6 hd6; omega)
  rw [← hq] at hqS
  have D0 : KtsDicts [] s1.heap := fun _ hb => nomatch hb
  refine execs_cutM 3 (fun s' => ∃ h' tk' m, s' = { s1 with heap := h', toks := tk' } ∧ Fr s1.heap L h' (kstB m [(Str.ofString "four", .ref fl), (Str.ofString "cells", .ref cl)]) ∧
    News s1.heap L h' ((fl, listOf #[.int q.a t0, .int q.b t1, .int q.c t2, .int q.d t3] n4) :: (cl, listOf cvs.toArray n2) :: (L + 3, o3) :: (L + 2, o2) :: (L + 1, o1) :: [])) ?_ ?_
  · intro PP hPP
    clear d1 d2 d3
    simp only [List.take_succ_cons, List.take_zero]
    have hx0 := hqS.1
    have hx1 := hqS.2.1
    have hx2 := hqS.2.2.1
    have hx3 := hqS.2.2.2
    k_steps
    refine Stopped.on ?_
    refine comp_one F (by rfl) (by with_unfolding_all rfl) (by with_unfolding_all rfl) (by decide) (by rfl) (by decide) (by rfl) (by rfl) ?_
    k_steps
    refine Stopped.on ?_
    rename Fr s1.heap L _ _ => F9
    rename News s1.heap L _ _ => N9
    refine tell_use (lrow w fl q.a q.b q.c q.d t0 t1 t2 t3 _ n4 3 (.inr (.inr (.inr rfl))) hx0 hx1 hx2 hx3 _ (.head _)) K0 F9 KX N9 (fun p hp => hp) Tp rfl (by ktr_room) (by ktr_units) ?_
    rintro r news' h' tk' ⟨ol, vs1, n', rfl, rfl, hO, lO⟩ F2 N2
    k_steps
    refine Stopped.on ?_
    refine tellT_use (les w ol vs1 _ hO n' _ (octs_vars _ (rowNs_range hx0 hx1 hx2 hx3)) (by have := @rowNs_len q.a q.b q.c q.d 3; omega) _ (.head _)) K0 F2 KX N2 (fun p hp => hp) Tp KX Tp D0 rfl (by ktr_room) (by ktr_units) ?_
    rintro r news' h' tk' g2 ⟨en, refs, ne, New, rfl, rfl, hEt, hT, hNew⟩ T2 B2 F3 X2 N3 P2 D2
    replace F3 := turn_nil_fr T2 F3
    replace N3 := turn_nil_news T2 N3
    have hrow : rows4 (rowNs q.a q.b q.c q.d 3) = [(q.a, q.b, q.c, dOf q.d)] := rfl
    rw [hrow] at hEt
    cases hEt
    rename_i x dx q1 q2 q3 q4 vs0 hx hE0
    cases hE0
    replace N4 : News s1.heap L h' ((en, listOf #[.ref x] ne) :: (x, eteObj dx [.int (q.a * 2) q1, .int (q.a * 2 + q.b * 2) q2, .int (q.c * 2) q3, .int (dOf q.d / 2) q4, .bool (dOf q.d % 2 == 1)]) :: (fl, listOf #[.int q.a t0, .int q.b t1, .int q.c t2, .int q.d t3] n4) :: (cl, listOf cvs.toArray n2) :: (L + 3, o3) :: (L + 2, o2) :: (L + 1, o1) :: []) := fun p hp => by
      rcases List.mem_cons.mp hp with rfl | hp
      · exact N3 _ (.head _)
      rcases List.mem_cons.mp hp with rfl | hp
      · exact N3 _ (.tail _ (List.mem_append_left _ hx))
      · exact N3 _ (.tail _ (List.mem_append_right _ (.tail _ hp)))
    have eqd : q.d = -(ks * A) := by
      rw [hq, hA]
      show ks * (-((a * d - b * c).natAbs : Int)) = -(ks * ((a * d - b * c).natAbs : Int))
      rw [Int.mul_neg]
    rw [eqd, dOf_half hk1 hA0, dOf_odd hk1 hA0, Int.mul_comm q.a 2, Int.mul_comm q.b 2, Int.mul_comm q.c 2, ← eqd] at N4
    clear F9 N9 F2 N2 N3 hO lO hT hNew hx
    refine ⟨en, .ref x, ne, _, rfl, rfl, F3, N4, ?_⟩
    intro C I D oI h7 tk7 E' FC NC hID
    refine ete_assignG (KX.keeps F3.keep) FC NC (FC.keep _ _ (N4 _ (.tail _ (.head _))).1) rfl rfl rfl ?_
    intro h8 F8 N8
    clear FC NC
    k_steps
    rename Fr h' C _ _ => F11
    rename News h' C _ _ => N11
    rename (_ ∧ _) => hl1
    refine ⟨_, _, _, _, rfl, F11, news_rot3 N11, List.forall_mem_cons.mpr ⟨⟨Ne.symm (Nat.ne_of_lt hl1.1), Ne.symm (Nat.ne_of_lt hl1.2)⟩, List.forall_mem_nil _⟩, ?_⟩
    intro h12 tk12 F12 N12
    clear F11 N11 F3 N4
    simp only [List.cons_append, List.nil_append] at N12
    dsimp only
    k_steps
    all_goals first
      | (rename (_ != _) = true => hb
         exfalso
         simp at hb)
      | (rename (_ && _) = false => hb
         exfalso
         simp at hb)
      | (rename Fr s1.heap _ _ _ => F13
         rename News s1.heap _ _ _ => N13
         obtain ⟨mm, F14⟩ := fr_frontE [(Str.ofString "four", _), (Str.ofString "cells", _)] F13 (by repeat' (first | exact List.forall_mem_nil _ | refine List.forall_mem_cons.mpr ⟨rfl, ?_⟩))
         exact Cut.of (hPP _ ⟨_, _, mm, rfl, F14, fun p hp => N13 p (.tail _ (.tail _ (.tail _ (.tail _ (.tail _ (.tail _ hp))))))⟩))
  clear F N
  rintro s' ⟨h5, tk5, m5, rfl, F, N⟩
  dsimp only [kstB] at F
  simp only [List.drop_succ_cons, List.drop_zero]
  obtain ⟨way, root, hDown, hwl⟩ := law_down ha6 hb6 hc6 hd6 hk1 hk2
  rw [← hq] at hDown
  have hAllG : ∀ gs : List Int, (∀ p ∈ gs, Is4 p) → gs.length ≤ 8 → ∀ i, Down ((gs.take i).foldl Q4.ex q) ((gs.take i).foldl (stepW root) way) root := fun gs hg hl i => by
    have hD2 := hDown
    rw [hq] at hD2 ⊢
    exact law_again ha6 hb6 hc6 hd6 hk1 hk2 hD2 _ (fun p hp => hg p (List.mem_of_mem_take hp)) (by rw [List.length_take]; omega)
  clear hqS hq hAL hA0 hA ha hb hc hdd hks ha6 hb6 hc6 hd6 hk1 hk2 hlc hc1 hc2 X
  have hf1 : fl ≠ L + 1 := news_apart N (.head _) (.tail _ (.tail _ (.tail _ (.tail _ (.head _))))) (show o1.data = .cell none from d1)
  have hf2 : fl ≠ L + 2 := news_apart N (.head _) (.tail _ (.tail _ (.tail _ (.head _)))) (show o2.data = .cell none from d2)
  obtain ⟨ofl, hofl⟩ : ∃ o, o = listOf #[.int q.a t0, .int q.b t1, .int q.c t2, .int q.d t3] n4 := ⟨_, rfl⟩
  rw [← hofl] at N
  have h31 : L + 3 ≠ L + 1 := by omega
  have h21 : L + 2 ≠ L + 1 := by omega
  have h32 : L + 3 ≠ L + 2 := by omega
  have d1 : o1.data = .cell none := d1
  have d2 : o2.data = .cell none := d2
  have d3 : o3.data = .cell none := d3
  obtain ⟨ws, hws⟩ : ∃ ws, ws = rest.map (· % 4) := ⟨_, rfl⟩
  have hw6 : 6 ≤ ws.length := by rw [hws, List.length_map]; exact hr6
  have hw8 : ws.length ≤ 8 := by rw [hws, List.length_map]; exact hr8
  have hw4 : ∀ x ∈ ws, Let4 x := fun x hx => by
    rw [hws] at hx
    obtain ⟨y, _, rfl⟩ := List.mem_map.mp hx
    show 0 ≤ y % 4 ∧ y % 4 < 4
    omega
  obtain ⟨en, hen⟩ : ∃ en : Int, en = if ws.length = 6 then 10 else if ws.length = 7 then 11 else 13 := ⟨_, rfl⟩
  refine execs_cutM 2 (fun s' => ∃ h' tk' m wl wvs nw p1 p2 te, s' = { s1 with heap := h', toks := tk' } ∧ Fr s1.heap L h' (kstB m [(Str.ofString "four", .ref fl)]) ∧
    News s1.heap L h' ((wl, listOf wvs.toArray nw) :: (fl, ofl) :: (L + 3, o3) :: (L + 2, p2) :: (L + 1, p1) :: []) ∧ p1.data = .cell (some (.ref wl)) ∧ p2.data = .cell (some (.int en te)) ∧ IntsAre wvs ws) ?_ ?_
  · intro PP hPP
    clear K0
    simp only [List.take_succ_cons, List.take_zero]
    k_steps
    rename IntsAre _ (List.map _ _) => hW
    simp only [List.drop_succ_cons, List.drop_zero, fm4] at hW
    rw [← hws] at hW
    rename Fr s1.heap _ _ _ => F9
    rename News s1.heap _ _ _ => N9
    rename_i D9 h9 _ _
    replace N9 := news_sub (l' := [(L + 1, o1), (D9, LCg.lst ys), (fl, ofl), (L + 3, o3), (L + 2, o2)]) N9 (List.forall_mem_cons.mpr ⟨.tail _ (.tail _ (.tail _ (.tail _ (.tail _ (.tail _ (.head _)))))), List.forall_mem_cons.mpr ⟨.head _, List.forall_mem_cons.mpr ⟨.tail _ (.tail _ (.head _)), List.forall_mem_cons.mpr ⟨.tail _ (.tail _ (.tail _ (.tail _ (.head _)))), List.forall_mem_cons.mpr ⟨.tail _ (.tail _ (.tail _ (.tail _ (.tail _ (.head _))))), List.forall_mem_nil _⟩⟩⟩⟩⟩)
    have hD1 : D9 ≠ L + 1 := news_apart N9 (.tail _ (.head _)) (.head _) d1
    refine stCN (own := []) F9 N9 rfl d1 (List.forall_mem_nil _) (List.forall_mem_cons.mpr ⟨hD1, List.forall_mem_cons.mpr ⟨hf1, List.forall_mem_cons.mpr ⟨h31, List.forall_mem_cons.mpr ⟨h21, List.forall_mem_nil _⟩⟩⟩⟩) ?_
    intro h7 p1 F7 N7 hp1
    rw [List.nil_append] at N7
    clear F9 N9
    have hD2 : D9 ≠ L + 2 := news_apart N7 (.tail _ (.head _)) (.tail _ (.tail _ (.tail _ (.tail _ (.head _))))) d2
    clear hD1 hf1 d1 d3
    k_steps
    all_goals
      rename Fr s1.heap _ _ _ => F9
      rename News s1.heap _ _ _ => N9
      rename (Int.fmod _ 3 = _) => hm3
      simp only [fmm3] at hm3
      rename (Obj.data _ = Data.cell (some (Value.int _ _))) => hp2
      obtain ⟨mm, F10⟩ := fr_frontE [(Str.ofString "four", _)] F9 (List.forall_mem_cons.mpr ⟨rfl, List.forall_mem_nil _⟩)
      refine Cut.of (hPP _ ⟨_, _, mm, D9, _, _, p1, _, _, rfl, F10, news_sub N9 (List.forall_mem_cons.mpr ⟨.tail _ (.tail _ (.head _)), List.forall_mem_cons.mpr ⟨.tail _ (.tail _ (.tail _ (.head _))), List.forall_mem_cons.mpr ⟨.tail _ (.tail _ (.tail _ (.tail _ (.head _)))), List.forall_mem_cons.mpr ⟨.tail _ (.tail _ (.tail _ (.tail _ (.tail _ (.head _))))), List.forall_mem_cons.mpr ⟨.tail _ (.head _), List.forall_mem_nil _⟩⟩⟩⟩⟩), hp1, cell_int hp2 ?_, hW⟩)
      rw [hen, fd3]
      split
      · omega
      split <;> omega
  clear F N d1 d2
  rintro s' ⟨h6, tk6, m6, wl, wvs, nw, p1, p2, te, rfl, F, N, d1, d2, hW⟩
  dsimp only [kstB] at F
  simp only [List.drop_succ_cons, List.drop_zero]
  clear hC hr6 hr8 h21
  have hec : en = endsOf ws := hen
  obtain ⟨nums, hV, hnl, hrl, hrne, hrg⟩ := text_law ws hw4 hw6 hw8
  obtain ⟨hasc, hsz⟩ := text_ascii ws hw4 hw6 hw8
  obtain ⟨es, hes⟩ : ∃ es, es = rows4 nums := ⟨_, rfl⟩
  rw [← hes] at hrl hrne hrg
  have hel : es.length ≤ 3 := by
    have : endsOf ws ≤ 13 := by unfold endsOf; split; decide; split <;> decide
    omega
  refine execs_cutM 2 (fun s' => ∃ h' tk' m ea refs ne New, s' = { s1 with heap := h', toks := tk' } ∧ Fr s1.heap L h' (kstB m [(Str.ofString "four", .ref fl), (Str.ofString "entries", .ref ea)]) ∧ EtesIn New refs es ∧
    News s1.heap L h' ((ea, listOf refs.toArray ne) :: (wl, listOf wvs.toArray nw) :: (fl, ofl) :: (L + 3, o3) :: (L + 2, p2) :: (L + 1, p1) :: New)) ?_ ?_
  · intro PP hPP
    clear d3
    simp only [List.take_succ_cons, List.take_zero]
    k_steps
    refine Stopped.on ?_
    rename Fr s1.heap L _ _ => F8
    refine comp_str F8 (by with_unfolding_all rfl) (by decide) (by rfl) (by decide) (by rfl) ?_
    k_steps
    refine Stopped.on ?_
    rename Fr s1.heap L _ _ => F9
    rename News s1.heap L _ _ => N9
    refine tell_str (lwr w wl wvs ws hW hw4 (by omega) nw _ (.head _)) F9 N9 K0 KX Tp rfl (by ktr_room) (by ktr_units) ?_
    intro t9 h9 tk9 F10 N10
    clear F9 N9
    refine ⟨_, _, _, rfl, rfl, F10, N10, Nat.le_trans hsz (by rw [PySem.sizeLine_eq]; omega), hasc, fun g => str_rest _ ?xturn ?xfin⟩
    case xturn =>
      intro c u I oI C oC D m₂ ys h tk E' hc hC hx F' N' off ne
      clear F10 N10
      k_steps
      exact LCg.CompEnd.intro F' N' _ (fun p hp => hp) off trivial ⟨rfl, _, rfl⟩
    case xfin =>
      intro ys hys
      unfold LCg.FinE
      intro D h11 tk11 F11 N11 off11
      dsimp only
      clear F10 N10
      k_steps
      refine Stopped.on ?_
      refine tellT_use (les w D ys _ hys ys.length nums hV hnl _ (.head _)) K0 F11 KX N11 (fun p hp => hp) Tp KX Tp D0 rfl (by ktr_room) (by ktr_units) ?_
      rintro r news' h' tk' g2 ⟨ea, refs, ne, New, rfl, rfl, hEt, hT, hNew⟩ T2 B2 F3 X2 N3 P2 D2
      replace F3 := turn_nil_fr T2 F3
      replace N3 := turn_nil_news T2 N3
      rw [← hes] at hEt
      have hrlen := hEt.length
      replace N3 : News s1.heap L h' ((ea, listOf refs.toArray ne) :: (wl, listOf wvs.toArray nw) :: (fl, ofl) :: (L + 3, o3) :: (L + 2, p2) :: (L + 1, p1) :: New) := fun p hp => by
        rcases List.mem_cons.mp hp with rfl | hp
        · exact N3 _ (.head _)
        refine N3 p (.tail _ (List.mem_append.mpr ?_))
        rcases List.mem_cons.mp hp with rfl | hp
        · exact .inr (.tail _ (.head _))
        rcases List.mem_cons.mp hp with rfl | hp
        · exact .inr (.tail _ (.tail _ (.head _)))
        rcases List.mem_cons.mp hp with rfl | hp
        · exact .inr (.tail _ (.tail _ (.tail _ (.head _))))
        rcases List.mem_cons.mp hp with rfl | hp
        · exact .inr (.tail _ (.tail _ (.tail _ (.tail _ (.head _)))))
        rcases List.mem_cons.mp hp with rfl | hp
        · exact .inr (.tail _ (.tail _ (.tail _ (.tail _ (.tail _ (.head _))))))
        · exact .inl hp
      clear F11 N11 hT hNew T2 B2 X2 P2 D2
      k_steps
      refine Stopped.on ?_
      rename EtesIn _ _ _ => hEt
      rename Fr s1.heap _ _ _ => F12
      rename News s1.heap _ _ _ => N12
      refine kst_len N12 (.head _) hrlen (by omega) ?_
      k_steps
      all_goals first
        | (rename (_ ≠ Int.fdiv _ _) => hb
           rw [fd4, hec] at hb
           exact absurd hrl hb)
        | (rename Fr s1.heap _ _ _ => F13
           rename News s1.heap _ _ _ => N13
           obtain ⟨mm, F14⟩ := fr_frontE [(Str.ofString "four", _), (Str.ofString "entries", _)] F13 (by repeat' (first | exact List.forall_mem_nil _ | refine List.forall_mem_cons.mpr ⟨rfl, ?_⟩))
           exact Cut.of (hPP _ ⟨_, _, mm, ea, refs, ne, New, rfl, F14, hEt, N13⟩))
  clear F N hasc hsz
  rintro s' ⟨h7, tk7, m7, ea, refs, ne, New, rfl, F, hEt, N⟩
  dsimp only [kstB] at F
  simp only [List.drop_succ_cons, List.drop_zero]
  refine execs_cutM 2 (fun s' => ∃ h' tk' m rl rvs nr sl svs nsl, s' = { s1 with heap := h', toks := tk' } ∧ Fr s1.heap L h' (kstB m [(Str.ofString "four", .ref fl), (Str.ofString "entries", .ref ea), (Str.ofString "root", .ref rl), (Str.ofString "stack", .ref sl)]) ∧
    IntsAre rvs root.l ∧ IntsAre svs way.reverse ∧
    News s1.heap L h' ((sl, listOf svs.toArray nsl) :: (rl, listOf rvs.toArray nr) :: (fl, ofl) :: (wl, listOf wvs.toArray nw) :: (ea, listOf refs.toArray ne) :: (L + 3, o3) :: (L + 2, p2) :: (L + 1, p1) :: New) ∧ ∀ p ∈ (rl, listOf rvs.toArray nr) :: (fl, ofl) :: (wl, listOf wvs.toArray nw) :: (ea, listOf refs.toArray ne) :: (L + 3, o3) :: (L + 2, p2) :: (L + 1, p1) :: New, p.1 ≠ sl) ?_ ?_
  · intro PP hPP
    subst hofl
    clear d1 d2 d3 hW
    simp only [List.take_succ_cons, List.take_zero]
    k_steps
    refine Stopped.on ?_
    rename Fr s1.heap L _ _ => F8
    rename News s1.heap L _ _ => N8
    refine tellT_use (ld w fl q root way hDown (by omega) t0 t1 t2 t3 n4 _ (.tail _ (.tail _ (.head _)))) K0 F8 KX N8 (fun p hp => hp) Tp KX Tp D0 rfl (by ktr_room) (by ktr_units) ?_
    rintro r news' h' tk' g2 ⟨pl, rl, wyl, rvs, yvs, n1, nr, n3, rfl, rfl, hR, hY⟩ T2 B2 F3 X2 N3 P2 D2
    replace F3 := turn_nil_fr T2 F3
    replace N3 := turn_nil_news T2 N3
    clear F8 N8 T2 B2 X2 P2 D2
    k_steps
    rename (_ ∧ _) => l1
    have l2 := ktn_ltOf (l := (pl, listOf #[.ref rl, .ref wyl] n1) :: (rl, listOf rvs.toArray nr) :: (wyl, listOf yvs.toArray n3) :: (ea, listOf refs.toArray ne) :: (wl, listOf wvs.toArray nw) :: (fl, listOf #[.int q.a t0, .int q.b t1, .int q.c t2, .int q.d t3] n4) :: (L + 3, o3) :: (L + 2, p2) :: (L + 1, p1) :: New) l1
    rename IntsAre _ (List.reverse _) => hS
    rename Fr s1.heap _ _ _ => F13
    rename News s1.heap _ _ _ => N13
    obtain ⟨mm, F14⟩ := fr_frontE [(Str.ofString "four", _), (Str.ofString "entries", _), (Str.ofString "root", _), (Str.ofString "stack", _)] F13 (by repeat' (first | exact List.forall_mem_nil _ | refine List.forall_mem_cons.mpr ⟨rfl, ?_⟩))
    exact Cut.of (hPP _ ⟨_, _, mm, rl, rvs, nr, _, _, 0, rfl, F14, hR, hS, news_sub N13 (List.forall_mem_cons.mpr ⟨.head _, List.forall_mem_cons.mpr ⟨.tail _ (.tail _ (.head _)), List.forall_mem_cons.mpr ⟨.tail _ (.tail _ (.tail _ (.tail _ (.tail _ (.tail _ (.head _)))))), List.forall_mem_cons.mpr ⟨.tail _ (.tail _ (.tail _ (.tail _ (.tail _ (.head _))))), List.forall_mem_cons.mpr ⟨.tail _ (.tail _ (.tail _ (.tail _ (.head _)))), List.forall_mem_cons.mpr ⟨.tail _ (.tail _ (.tail _ (.tail _ (.tail _ (.tail _ (.tail _ (.head _))))))), List.forall_mem_cons.mpr ⟨.tail _ (.tail _ (.tail _ (.tail _ (.tail _ (.tail _ (.tail _ (.tail _ (.head _)))))))), List.forall_mem_cons.mpr ⟨.tail _ (.tail _ (.tail _ (.tail _ (.tail _ (.tail _ (.tail _ (.tail _ (.tail _ (.head _))))))))), (fun p hp => (.tail _ (.tail _ (.tail _ (.tail _ (.tail _ (.tail _ (.tail _ (.tail _ (.tail _ (.tail _ hp)))))))))))⟩⟩⟩⟩⟩⟩⟩⟩), fun p hp => Nat.ne_of_lt (l2 p ((List.forall_mem_cons.mpr ⟨.tail _ (.head _), List.forall_mem_cons.mpr ⟨.tail _ (.tail _ (.tail _ (.tail _ (.tail _ (.head _))))), List.forall_mem_cons.mpr ⟨.tail _ (.tail _ (.tail _ (.tail _ (.head _)))), List.forall_mem_cons.mpr ⟨.tail _ (.tail _ (.tail _ (.head _))), List.forall_mem_cons.mpr ⟨.tail _ (.tail _ (.tail _ (.tail _ (.tail _ (.tail _ (.head _)))))), List.forall_mem_cons.mpr ⟨.tail _ (.tail _ (.tail _ (.tail _ (.tail _ (.tail _ (.tail _ (.head _))))))), List.forall_mem_cons.mpr ⟨.tail _ (.tail _ (.tail _ (.tail _ (.tail _ (.tail _ (.tail _ (.tail _ (.head _)))))))), (fun p hp => (.tail _ (.tail _ (.tail _ (.tail _ (.tail _ (.tail _ (.tail _ (.tail _ (.tail _ hp))))))))))⟩⟩⟩⟩⟩⟩⟩) p hp))⟩)
  clear F N
  rintro s' ⟨h8, tk8, m8, rl, rvs, nr, sl, svs, nsl, rfl, F, hR, hS, N, hso⟩
  dsimp only [kstB] at F
  simp only [List.drop_succ_cons, List.drop_zero]
  refine execs_cutM 1 (fun s' => ∃ h' tk' m svs nsl, s' = { s1 with heap := h', toks := tk' } ∧ Fr s1.heap L h' (kstB m [(Str.ofString "four", .ref fl), (Str.ofString "entries", .ref ea), (Str.ofString "root", .ref rl), (Str.ofString "stack", .ref sl)]) ∧
    IntsAre svs ((goneL ws).foldl (stepW root) way).reverse ∧
    News s1.heap L h' ((sl, listOf svs.toArray nsl) :: (rl, listOf rvs.toArray nr) :: (fl, ofl) :: (wl, listOf wvs.toArray nw) :: (ea, listOf refs.toArray ne) :: (L + 3, o3) :: (L + 2, p2) :: (L + 1, p1) :: New)) ?_ ?_
  · intro PP hPP
    clear d3 hEt
    subst hL0
    have hgf := gone_fold ws hw6 hw8
    rw [← hec] at hgf
    have hsm := small1 (k := ws.length) (by omega)
    have hszl : ws.length ≤ sizeLine := by rw [PySem.sizeLine_eq]; omega
    have hg8 : (goneL ws).length ≤ 8 := by unfold goneL; split <;> rw [List.length_take] <;> omega
    have hg4 : ∀ x ∈ goneL ws, Let4 x := fun x hx => hw4 x (by unfold goneL at hx; split at hx <;> exact List.mem_of_mem_take hx)
    have hw9 : ws.length ≤ 1000 := by omega
    clear hw6 hw8 hrl hel hV hnl hrne hrg hen hec
    simp only [List.take_succ_cons, List.take_zero]
    k_steps
    refine Stopped.on ?_
    refine For_invV s1.heap rfl rfl ?_
    k_steps
    refine Stopped.on ?_
    rename Fr s1.heap _ _ _ => F8
    refine LCt.ListComp_T F8 (by with_unfolding_all rfl) (by decide) (by rfl) (by decide) (by rfl) ?_
    k_steps
    refine Stopped.on ?_
    rename IsRange _ _ 0 _ _ _ _ _ => hR4
    rename Fr s1.heap _ _ _ => F9
    rename News s1.heap _ _ _ => N9
    refine LCt.CompSrcT.range rfl F9 N9 hR4 hsm (rs1 _) hszl ?_
    intro g'
    refine kci_range (goneGrow ws en) ?xr1 ?xr2 (goneGrows ws en)
    case xr1 =>
      intro k' t' I' oI' C' oC' D' m' ys' l' h' tk' E' hlo hhi hI' hC' hx' F' N' off' ne' hMark'
      have hhi : k' < ws.length := by simpa using hhi
      clear hR4 F9 N9
      k_steps
      · rename (_ < Int.fdiv _ _ * _) => hgt
        simp only [fd3, fmm3, fd4] at hgt
        refine LCg.CompEnd.intro F' N' _ (fun p hp => hp) off' trivial ?_
        exact kci_el (if_pos hgt) rfl rfl
      · rename ¬ (_ < Int.fdiv _ _ * _) => hgt
        simp only [fd3, fmm3, fd4] at hgt
        refine LCg.CompEnd.intro F' N' _ (fun p hp => hp) off' trivial ?_
        exact kci_no (if_neg hgt) rfl
    case xr2 =>
      intro ys hys hyl
      have hys : IntsAre ys (goneL ws) := by rw [← hgf]; exact hys
      clear hR4 F9 N9
      k_steps
      refine Stopped.on ?_
      rename Fr s1.heap _ _ _ => F10
      rename News s1.heap _ _ _ => N10
      rename (_ ∧ _) => ho1
      rename_i D10 _ _
      obtain ⟨ra, rb, rc, rd, rfl⟩ := ints4 hR
      have hDs : D10 ≠ sl := fun e => ho1.1 e.symm
      have hsd : ∀ p ∈ (D10, LCg.lst ys) :: (rl, listOf #[.int root.a ra, .int root.b rb, .int root.c rc, .int root.d rd] nr) :: (fl, ofl) :: (wl, listOf wvs.toArray nw) :: (ea, listOf refs.toArray ne) :: (s1.heap.objs.size + 3, o3) :: (s1.heap.objs.size + 2, p2) :: (s1.heap.objs.size + 1, p1) :: New, p.1 ≠ sl := List.forall_mem_cons.mpr ⟨hDs, hso⟩
      refine' kst_listL (σ := StS) (fun c => (sl, listOf c.vs.toArray c.n) :: (D10, LCg.lst ys) :: (rl, listOf #[.int root.a ra, .int root.b rb, .int root.c rc, .int root.d rd] nr) :: (fl, ofl) :: (wl, listOf wvs.toArray nw) :: (ea, listOf refs.toArray ne) :: (s1.heap.objs.size + 3, o3) :: (s1.heap.objs.size + 2, p2) :: (s1.heap.objs.size + 1, p1) :: New) (fun _ => []) (fun _ => True) [] (fun pre c => IntsAre c.vs (pre.foldl (stepW root) way).reverse) ⟨svs, nsl⟩ ?zr1 (fun _ => .tail _ (.head _)) hys F10 (news_sub N10 (List.forall_mem_cons.mpr ⟨.tail _ (.head _), List.forall_mem_cons.mpr ⟨.head _, List.forall_mem_cons.mpr ⟨.tail _ (.tail _ (.head _)), List.forall_mem_cons.mpr ⟨.tail _ (.tail _ (.tail _ (.head _))), List.forall_mem_cons.mpr ⟨.tail _ (.tail _ (.tail _ (.tail _ (.head _)))), List.forall_mem_cons.mpr ⟨.tail _ (.tail _ (.tail _ (.tail _ (.tail _ (.head _))))), List.forall_mem_cons.mpr ⟨.tail _ (.tail _ (.tail _ (.tail _ (.tail _ (.tail _ (.head _)))))), List.forall_mem_cons.mpr ⟨.tail _ (.tail _ (.tail _ (.tail _ (.tail _ (.tail _ (.tail _ (.head _))))))), List.forall_mem_cons.mpr ⟨.tail _ (.tail _ (.tail _ (.tail _ (.tail _ (.tail _ (.tail _ (.tail _ (.head _)))))))), (fun p hp => (.tail _ (.tail _ (.tail _ (.tail _ (.tail _ (.tail _ (.tail _ (.tail _ (.tail _ hp))))))))))⟩⟩⟩⟩⟩⟩⟩⟩⟩)) trivial (List.forall_mem_nil _) hS ?zr5 ?zr6
      case zr1 => rfl
      case zr5 =>
        rintro ⟨vs2, n2'⟩ pre post k1 kt u1 h12 tk12 own hsplit hmem hoff1 _ hP F11 N11
        dsimp only [kstB] at hP F11 N11 ⊢
        have hk4 := hg4 k1 hmem
        have hk0 : 0 ≤ k1 := hk4.1
        have hk9 : k1 < 4 := hk4.2
        have hst : ∀ p ∈ (D10, LCg.lst ys) :: (rl, listOf #[.int root.a ra, .int root.b rb, .int root.c rc, .int root.d rd] nr) :: (fl, ofl) :: (wl, listOf wvs.toArray nw) :: (ea, listOf refs.toArray ne) :: (s1.heap.objs.size + 3, o3) :: (s1.heap.objs.size + 2, p2) :: (s1.heap.objs.size + 1, p1) :: (New ++ own), p.1 ≠ sl := fun p hp => by
          have hp : p ∈ ((D10, LCg.lst ys) :: (rl, listOf #[.int root.a ra, .int root.b rb, .int root.c rc, .int root.d rd] nr) :: (fl, ofl) :: (wl, listOf wvs.toArray nw) :: (ea, listOf refs.toArray ne) :: (s1.heap.objs.size + 3, o3) :: (s1.heap.objs.size + 2, p2) :: (s1.heap.objs.size + 1, p1) :: New) ++ own := hp
          rcases List.mem_append.mp hp with hp | hp
          · exact hsd p hp
          · exact hoff1 p hp sl (List.Mem.head _)
        simp only [List.cons_append] at N11
        clear F10 N10 hys hsd hso ho1 hoff1 hgf hsm hszl hR hW
        have hrO := hDown.last
        unfold Q4.Ok at hrO
        obtain ⟨W, hW9⟩ : ∃ W, W = pre.foldl (stepW root) way := ⟨_, rfl⟩
        rw [← hW9] at hP
        cases W with
        | nil =>
          rw [List.reverse_nil] at hP
          cases hP
          k_steps
          · rename (2 * _ ≠ _) => hne
            have hstep : (pre ++ [k1]).foldl (stepW root) way = [k1] := by
              rw [List.foldl_append, ← hW9]
              refine if_neg (fun e => hne ?_)
              have e : 2 * [root.a, root.b, root.c, root.d].getD k1.toNat 0 = root.a + root.b + root.c + root.d := e
              omega
            rename Fr s1.heap _ _ _ => F12
            rename News s1.heap _ _ _ => N12
            exact kst_end ⟨[.int k1 kt], n2' + 1⟩ F12 N12 (List.forall_mem_cons.mpr ⟨.tail _ (.tail _ (.head _)), List.forall_mem_cons.mpr ⟨.tail _ (.tail _ (.tail _ (.head _))), List.forall_mem_cons.mpr ⟨.tail _ (.tail _ (.tail _ (.tail _ (.head _)))), List.forall_mem_cons.mpr ⟨.tail _ (.tail _ (.tail _ (.tail _ (.tail _ (.head _))))), List.forall_mem_cons.mpr ⟨.tail _ (.tail _ (.tail _ (.tail _ (.tail _ (.tail _ (.head _)))))), List.forall_mem_cons.mpr ⟨.tail _ (.tail _ (.tail _ (.tail _ (.tail _ (.tail _ (.tail _ (.head _))))))), List.forall_mem_cons.mpr ⟨.tail _ (.tail _ (.tail _ (.tail _ (.tail _ (.tail _ (.tail _ (.tail _ (.head _)))))))), List.forall_mem_cons.mpr ⟨.tail _ (.tail _ (.tail _ (.tail _ (.tail _ (.tail _ (.tail _ (.tail _ (.tail _ (.head _))))))))), List.forall_mem_cons.mpr ⟨.tail _ (.tail _ (.tail _ (.tail _ (.tail _ (.tail _ (.tail _ (.tail _ (.tail _ (.tail _ (.head _)))))))))), (fun p hp => (.tail _ (.tail _ (.tail _ (.tail _ (.tail _ (.tail _ (.tail _ (.tail _ (.tail _ (.tail _ (.tail _ (List.mem_append_left _ hp)))))))))))))⟩⟩⟩⟩⟩⟩⟩⟩⟩) (fun p hp => (.tail _ (.tail _ (.tail _ (.tail _ (.tail _ (.tail _ (.tail _ (.tail _ (.tail _ (.tail _ (.tail _ (List.mem_append_right _ hp))))))))))))) rfl trivial (List.forall_mem_nil _) (by kst_same) (by rw [hstep]; exact .cons _ _ .nil)
          · rename (2 * _ = _) => hne
            have hstep : (pre ++ [k1]).foldl (stepW root) way = [] := by
              rw [List.foldl_append, ← hW9]
              refine if_pos ?_
              show 2 * [root.a, root.b, root.c, root.d].getD k1.toNat 0 = root.a + root.b + root.c + root.d
              omega
            rename Fr s1.heap _ _ _ => F12
            rename News s1.heap _ _ _ => N12
            exact kst_end ⟨[], n2'⟩ F12 N12 (List.forall_mem_cons.mpr ⟨.tail _ (.tail _ (.head _)), List.forall_mem_cons.mpr ⟨.tail _ (.tail _ (.tail _ (.head _))), List.forall_mem_cons.mpr ⟨.tail _ (.tail _ (.tail _ (.tail _ (.head _)))), List.forall_mem_cons.mpr ⟨.tail _ (.tail _ (.tail _ (.tail _ (.tail _ (.head _))))), List.forall_mem_cons.mpr ⟨.tail _ (.tail _ (.tail _ (.tail _ (.tail _ (.tail _ (.head _)))))), List.forall_mem_cons.mpr ⟨.tail _ (.tail _ (.tail _ (.tail _ (.tail _ (.tail _ (.tail _ (.head _))))))), List.forall_mem_cons.mpr ⟨.tail _ (.tail _ (.tail _ (.tail _ (.tail _ (.tail _ (.tail _ (.tail _ (.head _)))))))), List.forall_mem_cons.mpr ⟨.tail _ (.tail _ (.tail _ (.tail _ (.tail _ (.tail _ (.tail _ (.tail _ (.tail _ (.head _))))))))), List.forall_mem_cons.mpr ⟨.tail _ (.tail _ (.tail _ (.tail _ (.tail _ (.tail _ (.tail _ (.tail _ (.tail _ (.tail _ (.head _)))))))))), (fun p hp => (.tail _ (.tail _ (.tail _ (.tail _ (.tail _ (.tail _ (.tail _ (.tail _ (.tail _ (.tail _ (.tail _ (List.mem_append_left _ hp)))))))))))))⟩⟩⟩⟩⟩⟩⟩⟩⟩) (fun p hp => (.tail _ (.tail _ (.tail _ (.tail _ (.tail _ (.tail _ (.tail _ (.tail _ (.tail _ (.tail _ (.tail _ (List.mem_append_right _ hp))))))))))))) rfl trivial (List.forall_mem_nil _) (by kst_same) (by rw [hstep]; exact .nil)
        | cons h0 W =>
          rw [List.reverse_cons] at hP
          obtain ⟨us, ut, rfl, hU⟩ := ints_unsnoc hP
          have hsz9 : (us ++ [Value.int h0 ut]).length ≤ sizeLine := by
            have e1 := hP.length
            have e2 := stepW_lens root pre way
            rw [← hW9] at e2
            have e3 := congrArg List.length hsplit
            rw [e1, PySem.sizeLine_eq]
            simp only [List.length_append, List.length_cons, List.length_nil, List.length_reverse] at e2 e3 ⊢
            omega
          have hb0 : ¬ (decide (W.reverse ++ [h0] = []) = true) := by simp
          k_steps
          · rename h0 = k1 => hek
            have hstep : (pre ++ [k1]).foldl (stepW root) way = W := by
              rw [List.foldl_append, ← hW9]
              exact if_pos hek
            dsimp only
            rename Fr s1.heap _ _ _ => F12
            rename News s1.heap _ _ _ => N12
            replace N12 := news_sub (l' := (sl, listOf (us ++ [Value.int h0 ut]).toArray n2') :: (D10, LCg.lst ys) :: (rl, listOf #[.int root.a ra, .int root.b rb, .int root.c rc, .int root.d rd] nr) :: (fl, ofl) :: (wl, listOf wvs.toArray nw) :: (ea, listOf refs.toArray ne) :: (s1.heap.objs.size + 3, o3) :: (s1.heap.objs.size + 2, p2) :: (s1.heap.objs.size + 1, p1) :: (New ++ own)) N12 (List.forall_mem_cons.mpr ⟨.tail _ (.head _), List.forall_mem_cons.mpr ⟨.tail _ (.tail _ (.head _)), List.forall_mem_cons.mpr ⟨.tail _ (.tail _ (.tail _ (.head _))), List.forall_mem_cons.mpr ⟨.tail _ (.tail _ (.tail _ (.tail _ (.head _)))), List.forall_mem_cons.mpr ⟨.tail _ (.tail _ (.tail _ (.tail _ (.tail _ (.head _))))), List.forall_mem_cons.mpr ⟨.tail _ (.tail _ (.tail _ (.tail _ (.tail _ (.tail _ (.head _)))))), List.forall_mem_cons.mpr ⟨.tail _ (.tail _ (.tail _ (.tail _ (.tail _ (.tail _ (.tail _ (.head _))))))), List.forall_mem_cons.mpr ⟨.tail _ (.tail _ (.tail _ (.tail _ (.tail _ (.tail _ (.tail _ (.tail _ (.head _)))))))), List.forall_mem_cons.mpr ⟨.tail _ (.tail _ (.tail _ (.tail _ (.tail _ (.tail _ (.tail _ (.tail _ (.tail _ (.head _))))))))), (fun p hp => (.tail _ (.tail _ (.tail _ (.tail _ (.tail _ (.tail _ (.tail _ (.tail _ (.tail _ (.tail _ hp)))))))))))⟩⟩⟩⟩⟩⟩⟩⟩⟩)
            refine kl_pop F12 N12 (show kl_last (us ++ [Value.int h0 ut]) = _ from kpa_last _ _) (Upd.head hst) hsz9 ?_
            intro h13 F13 N13
            clear F12 N12
            k_steps
            rename Fr s1.heap _ _ _ => F12
            rename News s1.heap _ _ _ => N12
            exact kst_end ⟨us, n2' + 1⟩ F12 N12 (List.forall_mem_cons.mpr ⟨.head _, List.forall_mem_cons.mpr ⟨.tail _ (.head _), List.forall_mem_cons.mpr ⟨.tail _ (.tail _ (.head _)), List.forall_mem_cons.mpr ⟨.tail _ (.tail _ (.tail _ (.head _))), List.forall_mem_cons.mpr ⟨.tail _ (.tail _ (.tail _ (.tail _ (.head _)))), List.forall_mem_cons.mpr ⟨.tail _ (.tail _ (.tail _ (.tail _ (.tail _ (.head _))))), List.forall_mem_cons.mpr ⟨.tail _ (.tail _ (.tail _ (.tail _ (.tail _ (.tail _ (.head _)))))), List.forall_mem_cons.mpr ⟨.tail _ (.tail _ (.tail _ (.tail _ (.tail _ (.tail _ (.tail _ (.head _))))))), List.forall_mem_cons.mpr ⟨.tail _ (.tail _ (.tail _ (.tail _ (.tail _ (.tail _ (.tail _ (.tail _ (.head _)))))))), (fun p hp => (.tail _ (.tail _ (.tail _ (.tail _ (.tail _ (.tail _ (.tail _ (.tail _ (.tail _ (List.mem_append_left _ hp)))))))))))⟩⟩⟩⟩⟩⟩⟩⟩⟩) (fun p hp => (.tail _ (.tail _ (.tail _ (.tail _ (.tail _ (.tail _ (.tail _ (.tail _ (.tail _ (List.mem_append_right _ hp))))))))))) rfl trivial (List.forall_mem_nil _) (by kst_same) (by rw [hstep]; exact hU)
          · rename h0 ≠ k1 => hek
            have hstep : (pre ++ [k1]).foldl (stepW root) way = k1 :: h0 :: W := by
              rw [List.foldl_append, ← hW9]
              exact if_neg hek
            rename Fr s1.heap _ _ _ => F12
            rename News s1.heap _ _ _ => N12
            rw [List.push_toArray] at N12
            exact kst_end ⟨us ++ [Value.int h0 ut] ++ [Value.int k1 kt], n2' + 1⟩ F12 N12 (List.forall_mem_cons.mpr ⟨.tail _ (.tail _ (.head _)), List.forall_mem_cons.mpr ⟨.tail _ (.tail _ (.tail _ (.head _))), List.forall_mem_cons.mpr ⟨.tail _ (.tail _ (.tail _ (.tail _ (.head _)))), List.forall_mem_cons.mpr ⟨.tail _ (.tail _ (.tail _ (.tail _ (.tail _ (.head _))))), List.forall_mem_cons.mpr ⟨.tail _ (.tail _ (.tail _ (.tail _ (.tail _ (.tail _ (.head _)))))), List.forall_mem_cons.mpr ⟨.tail _ (.tail _ (.tail _ (.tail _ (.tail _ (.tail _ (.tail _ (.head _))))))), List.forall_mem_cons.mpr ⟨.tail _ (.tail _ (.tail _ (.tail _ (.tail _ (.tail _ (.tail _ (.tail _ (.head _)))))))), List.forall_mem_cons.mpr ⟨.tail _ (.tail _ (.tail _ (.tail _ (.tail _ (.tail _ (.tail _ (.tail _ (.tail _ (.head _))))))))), List.forall_mem_cons.mpr ⟨.tail _ (.tail _ (.tail _ (.tail _ (.tail _ (.tail _ (.tail _ (.tail _ (.tail _ (.tail _ (.head _)))))))))), (fun p hp => (.tail _ (.tail _ (.tail _ (.tail _ (.tail _ (.tail _ (.tail _ (.tail _ (.tail _ (.tail _ (.tail _ (List.mem_append_left _ hp)))))))))))))⟩⟩⟩⟩⟩⟩⟩⟩⟩) (fun p hp => (.tail _ (.tail _ (.tail _ (.tail _ (.tail _ (.tail _ (.tail _ (.tail _ (.tail _ (.tail _ (.tail _ (List.mem_append_right _ hp))))))))))))) rfl trivial (List.forall_mem_nil _) (by kst_same) (by rw [hstep, List.reverse_cons, List.reverse_cons]; exact ints_snoc hP)
      case zr6 =>
        rintro ⟨vs2, n2'⟩ u1 h12 tk12 _ hP F11 N11
        dsimp only [kstB] at hP F11 N11 ⊢
        k_steps
        obtain ⟨mm, F14⟩ := fr_frontE [(Str.ofString "four", _), (Str.ofString "entries", _), (Str.ofString "root", _), (Str.ofString "stack", _)] F11 (by repeat' (first | exact List.forall_mem_nil _ | refine List.forall_mem_cons.mpr ⟨rfl, ?_⟩))
        exact Cut.of (hPP _ ⟨_, _, mm, vs2, n2', rfl, F14, hP, news_sub N11 (List.forall_mem_cons.mpr ⟨.head _, List.forall_mem_cons.mpr ⟨.tail _ (.tail _ (.head _)), List.forall_mem_cons.mpr ⟨.tail _ (.tail _ (.tail _ (.head _))), List.forall_mem_cons.mpr ⟨.tail _ (.tail _ (.tail _ (.tail _ (.head _)))), List.forall_mem_cons.mpr ⟨.tail _ (.tail _ (.tail _ (.tail _ (.tail _ (.head _))))), List.forall_mem_cons.mpr ⟨.tail _ (.tail _ (.tail _ (.tail _ (.tail _ (.tail _ (.head _)))))), List.forall_mem_cons.mpr ⟨.tail _ (.tail _ (.tail _ (.tail _ (.tail _ (.tail _ (.tail _ (.head _))))))), List.forall_mem_cons.mpr ⟨.tail _ (.tail _ (.tail _ (.tail _ (.tail _ (.tail _ (.tail _ (.tail _ (.head _)))))))), (fun p hp => (.tail _ (.tail _ (.tail _ (.tail _ (.tail _ (.tail _ (.tail _ (.tail _ (.tail _ hp))))))))))⟩⟩⟩⟩⟩⟩⟩⟩)⟩)
  clear F N hS hso svs nsl
  rintro s' ⟨h9, tk9, m9, svs, nsl, rfl, F, hS, N⟩
  dsimp only [kstB] at F
  simp only [List.drop_succ_cons, List.drop_zero]
  obtain ⟨gs, hgs⟩ : ∃ gs, gs = goneL ws := ⟨_, rfl⟩
  have hg8 : gs.length ≤ 8 := by rw [hgs]; unfold goneL; split <;> rw [List.length_take] <;> omega
  have hg4 : ∀ x ∈ gs, Is4 x := fun x hx => by
    have := hw4 x (by rw [hgs] at hx; unfold goneL at hx; split at hx <;> exact List.mem_of_mem_take hx)
    have h1 := this.1
    have h2 := this.2
    unfold Is4
    omega
  have hAll := hAllG gs hg4 hg8
  rw [← hgs] at hS hrg
  refine execs_cutM 1 (fun s' => ∃ h' tk' m fl n4 t0 t1 t2 t3, s' = { s1 with heap := h', toks := tk' } ∧ Fr s1.heap L h' (kstB m [(Str.ofString "four", .ref fl), (Str.ofString "root", .ref rl), (Str.ofString "stack", .ref sl)]) ∧
    News s1.heap L h' ((fl, listOf #[.int (gs.foldl Q4.ex q).a t0, .int (gs.foldl Q4.ex q).b t1, .int (gs.foldl Q4.ex q).c t2, .int (gs.foldl Q4.ex q).d t3] n4) :: (sl, listOf svs.toArray nsl) :: (rl, listOf rvs.toArray nr) :: (L + 3, o3) :: (L + 2, p2) :: (L + 1, p1) :: [])) ?_ ?_
  · intro PP hPP
    subst hofl
    clear d1 d2 d3 hW hw6 hw8 hrl hV hnl hen hec
    subst hL0
    simp only [List.take_succ_cons, List.take_zero]
    k_steps
    refine Stopped.on ?_
    refine for_T ?_
    k_steps
    refine Stopped.on ?_
    rename Fr s1.heap _ _ _ => F8
    rename News s1.heap _ _ _ => N8
    refine tell_use (lrd w ea refs es ne hrne (by omega) _ (hEt.mono (fun p hp => .tail _ (.tail _ (.tail _ (.tail _ (.tail _ (.tail _ (.tail _ (.tail _ hp))))))))) (.tail _ (.tail _ (.tail _ (.tail _ (.head _)))))) K0 F8 KX N8 (fun p hp => hp) Tp rfl (by ktr_room) (by ktr_units) ?_
    rintro r news' h' tk' ⟨ol, vs1, n', rfl, rfl, hO, lO⟩ F2 N2
    rw [hrg] at hO
    replace N2 := news_sub (l' := [(fl, listOf #[.int q.a t0, .int q.b t1, .int q.c t2, .int q.d t3] n4), (ol, listOf vs1.toArray n'), (sl, listOf svs.toArray nsl), (rl, listOf rvs.toArray nr), (s1.heap.objs.size + 3, o3), (s1.heap.objs.size + 2, p2), (s1.heap.objs.size + 1, p1)]) N2 (List.forall_mem_cons.mpr ⟨.tail _ (.tail _ (.tail _ (.head _))), List.forall_mem_cons.mpr ⟨.head _, List.forall_mem_cons.mpr ⟨.tail _ (.head _), List.forall_mem_cons.mpr ⟨.tail _ (.tail _ (.head _)), List.forall_mem_cons.mpr ⟨.tail _ (.tail _ (.tail _ (.tail _ (.tail _ (.tail _ (.head _)))))), List.forall_mem_cons.mpr ⟨.tail _ (.tail _ (.tail _ (.tail _ (.tail _ (.tail _ (.tail _ (.head _))))))), List.forall_mem_cons.mpr ⟨.tail _ (.tail _ (.tail _ (.tail _ (.tail _ (.tail _ (.tail _ (.tail _ (.head _)))))))), List.forall_mem_nil _⟩⟩⟩⟩⟩⟩⟩)
    have hl : Heap.IsList h' ol vs1.toArray := ⟨_, (N2 _ (.tail _ (.head _))).1, rfl, n', rfl⟩
    have hvl := hO.length
    clear F8 N8 lO
    refine wpAny_pyIter_list hl ?_
    refine loop_T (σ := LgS) (fun c => [(c.fl, listOf #[.int c.q.a c.t0, .int c.q.b c.t1, .int c.q.c c.t2, .int c.q.d c.t3] c.n), (ol, listOf vs1.toArray n'), (sl, listOf svs.toArray nsl), (rl, listOf rvs.toArray nr), (s1.heap.objs.size + 3, o3), (s1.heap.objs.size + 2, p2), (s1.heap.objs.size + 1, p1)]) (fun c => [(Str.ofString "four", .ref c.fl)]) []
      (fun i c => c.q = (gs.take i).foldl Q4.ex q) (fun g' => g' = s1.heap) ⟨q, fl, t0, t1, t2, t3, n4⟩
      (Walks.list rfl _ ol (Nat.ne_of_lt (Heap.lt_size (N2 _ (.tail _ (.head _))).1)) vs1.toArray) (fun i h st => ⟨_, st.1.choose_spec.1⟩) ?zq1 rfl rfl ?zq2 rfl (F2.push _) ?zq3 ?zq4 ?zq5 ?zq6 (List.forall_mem_cons.mpr ⟨rfl, List.forall_mem_nil _⟩) rfl ?zq8 ?zq9
    case zq1 =>
      intro b hb hI c
      have e : b = ol := by simpa [hI] using hb
      subst e
      exact ⟨_, .tail _ (.head _), fun c' => .tail _ (.head _)⟩
    case zq2 => exact ⟨⟨_, Heap.get?_push_size _ rfl, rfl, rfl⟩, hl.at fun o e => Heap.get?_push_of_some _ e⟩
    case zq3 => exact next_is_new F2
    case zq4 => exact fun h => absurd F2.ns.lt (h ▸ Nat.lt_irrefl _)
    case zq5 => exact fun p hp => ⟨Heap.get?_push_of_some _ (N2 p hp).1, (N2 p hp).2⟩
    case zq6 => exact fun p hp => Nat.ne_of_lt (Heap.lt_size (N2 p hp).1)
    case zq8 =>
      rintro i ⟨qc, flc, c0', c1', c2', c3', nc⟩ g v h tk oI u hi hPv rfl hP hoff F N
      dsimp only [kstB] at hP hoff F N ⊢
      have hi2 : i < gs.length := by rw [← hvl]; simpa using hi
      obtain ⟨kt, hkt⟩ := Mine.IntsAre.at hO (List.getElem?_eq_getElem hi2)
      have hPv2 : vs1.toArray[i]? = some v := hPv
      obtain rfl : v = .int gs[i] kt := by
        rw [List.getElem?_toArray, hkt] at hPv2
        exact (Option.some.inj hPv2).symm
      have hDi := hAll i
      rw [← hP] at hDi
      have hok := hDi.ok
      have hk4 := hg4 _ (List.getElem_mem hi2)
      clear F2 N2 hl
      k_steps
      refine Stopped.on ?_
      rename Fr s1.heap _ _ _ => F8
      rename News s1.heap _ _ _ => N8
      refine tellT_use (lx w flc qc.a qc.b qc.c qc.d c0' c1' c2' c3' _ nc gs[i] hk4 hok.1 hok.2.1 hok.2.2.1 hok.2.2.2 _ (.tail _ (.head _))) K0 F8 KX N8 (fun p hp => hp) Tp KX Tp D0 rfl (by ktr_room) (by ktr_units) ?_
      rintro r news' h14 tk14 g2 ⟨fl2, vs2, n2', rfl, rfl, hO2, lO2⟩ T2 B2 F3 X2 N3 P2 D2
      replace F3 := turn_nil_fr T2 F3
      replace N3 := turn_nil_news T2 N3
      rw [Q4.ex_l qc gs[i]] at hO2
      obtain ⟨u0, u1, u2, u3, rfl⟩ := ints4 hO2
      have hne : fl2 ≠ h'.objs.size := Ne.symm (Nat.ne_of_lt (lO2 _ (.head _)))
      clear F8 N8 T2 B2 X2 P2 D2
      k_steps
      rename Fr s1.heap _ _ _ => F9
      rename News s1.heap _ _ _ => N9
      refine TPost.next ⟨⟨qc.ex gs[i], fl2, u0, u1, u2, u3, n2'⟩, s1.heap, _, _, _, rfl, rfl, F9, news_sub N9 (List.forall_mem_cons.mpr ⟨.tail _ (.head _), List.forall_mem_cons.mpr ⟨.head _, List.forall_mem_cons.mpr ⟨.tail _ (.tail _ (.tail _ (.head _))), List.forall_mem_cons.mpr ⟨.tail _ (.tail _ (.tail _ (.tail _ (.head _)))), List.forall_mem_cons.mpr ⟨.tail _ (.tail _ (.tail _ (.tail _ (.tail _ (.head _))))), List.forall_mem_cons.mpr ⟨.tail _ (.tail _ (.tail _ (.tail _ (.tail _ (.tail _ (.head _)))))), List.forall_mem_cons.mpr ⟨.tail _ (.tail _ (.tail _ (.tail _ (.tail _ (.tail _ (.tail _ (.head _))))))), List.forall_mem_cons.mpr ⟨.tail _ (.tail _ (.tail _ (.tail _ (.tail _ (.tail _ (.tail _ (.tail _ (.head _)))))))), List.forall_mem_nil _⟩⟩⟩⟩⟩⟩⟩⟩), List.forall_mem_cons.mpr ⟨hne, fun p hp => hoff p (.tail _ hp)⟩, List.forall_mem_cons.mpr ⟨rfl, List.forall_mem_nil _⟩, by kst_same, ?_⟩
      show qc.ex gs[i] = (gs.take (i + 1)).foldl Q4.ex q
      rw [List.take_add_one, List.getElem?_eq_getElem hi2, List.foldl_append, ← hP]
      rfl
    case zq9 =>
      rintro ⟨qc, flc, c0', c1', c2', c3', nc⟩ g h tk u rfl hP F N
      dsimp only [kstB] at hP F N ⊢
      clear F2 N2 hl
      k_steps
      have e1 : (gs.take vs1.toArray.size).foldl Q4.ex q = gs.foldl Q4.ex q := by
        rw [List.take_of_length_le]
        rw [List.size_toArray, hvl]
        exact Nat.le_refl _
      rw [e1] at hP
      subst hP
      obtain ⟨mm, F14⟩ := fr_frontE [(Str.ofString "four", _), (Str.ofString "root", _), (Str.ofString "stack", _)] F (by repeat' (first | exact List.forall_mem_nil _ | refine List.forall_mem_cons.mpr ⟨rfl, ?_⟩))
      exact Cut.of (hPP _ ⟨_, _, mm, flc, nc, _, _, _, _, rfl, F14, news_sub N (List.forall_mem_cons.mpr ⟨.head _, List.forall_mem_cons.mpr ⟨.tail _ (.tail _ (.head _)), List.forall_mem_cons.mpr ⟨.tail _ (.tail _ (.tail _ (.head _))), List.forall_mem_cons.mpr ⟨.tail _ (.tail _ (.tail _ (.tail _ (.head _)))), List.forall_mem_cons.mpr ⟨.tail _ (.tail _ (.tail _ (.tail _ (.tail _ (.head _))))), List.forall_mem_cons.mpr ⟨.tail _ (.tail _ (.tail _ (.tail _ (.tail _ (.tail _ (.head _)))))), List.forall_mem_nil _⟩⟩⟩⟩⟩⟩)⟩)
  clear F N hofl ofl hEt hw6 hw8 hrl hel hV hnl hen hec hrne
  rintro s' ⟨h10, tk10, m10, fl2, n42, t20, t21, t22, t23, rfl, F, N⟩
  dsimp only [kstB] at F
  simp only [List.drop_succ_cons, List.drop_zero]
  have hDl := hAll gs.length
  rw [List.take_length] at hDl
  obtain ⟨q2, hq2⟩ : ∃ q2, q2 = gs.foldl Q4.ex q := ⟨_, rfl⟩
  obtain ⟨back, hback⟩ : ∃ back, back = gs.foldl (stepW root) way := ⟨_, rfl⟩
  rw [← hback] at hS
  rw [← hq2] at N
  rw [← hq2, ← hback] at hDl
  have hbl : back.length ≤ 584 := by
    have := stepW_lens root gs way
    rw [← hback] at this
    omega
  refine execs_cutM 1 (fun s' => ∃ h' tk' m al avs na bl bvs nb, s' = { s1 with heap := h', toks := tk' } ∧ Fr s1.heap L h' (kstB m [(Str.ofString "root", .ref rl), (Str.ofString "stack", .ref sl), (Str.ofString "again", .ref al), (Str.ofString "back", .ref bl)]) ∧ IntsAre avs root.l ∧ IntsAre bvs back ∧
    News s1.heap L h' ((sl, listOf svs.toArray nsl) :: (rl, listOf rvs.toArray nr) :: (al, listOf avs.toArray na) :: (bl, listOf bvs.toArray nb) :: (L + 3, o3) :: (L + 2, p2) :: (L + 1, p1) :: [])) ?_ ?_
  · intro PP hPP
    clear d1 d2 d3 hW
    simp only [List.take_succ_cons, List.take_zero]
    k_steps
    refine Stopped.on ?_
    rename Fr s1.heap L _ _ => F8
    rename News s1.heap L _ _ => N8
    refine tellT_use (ld w fl2 q2 root back hDl (by omega) t20 t21 t22 t23 n42 _ (.head _)) K0 F8 KX N8 (fun p hp => hp) Tp KX Tp D0 rfl (by ktr_room) (by ktr_units) ?_
    rintro r news' h' tk' g2 ⟨pl, al, bl, avs, bvs, n1, na, nb, rfl, rfl, hAv, hBv⟩ T2 B2 F3 X2 N3 P2 D2
    replace F3 := turn_nil_fr T2 F3
    replace N3 := turn_nil_news T2 N3
    clear F8 N8 T2 B2 X2 P2 D2
    k_steps
    rename Fr s1.heap _ _ _ => F13
    rename News s1.heap _ _ _ => N13
    obtain ⟨mm, F14⟩ := fr_frontE [(Str.ofString "root", _), (Str.ofString "stack", _), (Str.ofString "again", _), (Str.ofString "back", _)] F13 (by repeat' (first | exact List.forall_mem_nil _ | refine List.forall_mem_cons.mpr ⟨rfl, ?_⟩))
    exact Cut.of (hPP _ ⟨_, _, mm, al, avs, na, bl, bvs, nb, rfl, F14, hAv, hBv, news_sub N13 (List.forall_mem_cons.mpr ⟨.tail _ (.tail _ (.tail _ (.tail _ (.head _)))), List.forall_mem_cons.mpr ⟨.tail _ (.tail _ (.tail _ (.tail _ (.tail _ (.head _))))), List.forall_mem_cons.mpr ⟨.tail _ (.head _), List.forall_mem_cons.mpr ⟨.tail _ (.tail _ (.head _)), List.forall_mem_cons.mpr ⟨.tail _ (.tail _ (.tail _ (.tail _ (.tail _ (.tail _ (.head _)))))), List.forall_mem_cons.mpr ⟨.tail _ (.tail _ (.tail _ (.tail _ (.tail _ (.tail _ (.tail _ (.head _))))))), List.forall_mem_cons.mpr ⟨.tail _ (.tail _ (.tail _ (.tail _ (.tail _ (.tail _ (.tail _ (.tail _ (.head _)))))))), List.forall_mem_nil _⟩⟩⟩⟩⟩⟩⟩)⟩)
  have hb4 : ∀ x ∈ back, Let4 x := hDl.lets
  clear F N hDl
  rintro s' ⟨h11, tk11, m11, al, avs, na, bl, bvs, nb, rfl, F, hAv, hBv, N⟩
  dsimp only [kstB] at F
  simp only [List.drop_succ_cons, List.drop_zero]
  refine execs_cutM 1 (fun s' => ∃ h' tk' m ll lvs nl p3, s' = { s1 with heap := h', toks := tk' } ∧ Fr s1.heap L h' (kstB m [(Str.ofString "root", .ref rl), (Str.ofString "again", .ref al), (Str.ofString "back", .ref bl)]) ∧ p3.data = .cell (some (.ref ll)) ∧ StrsAre lvs (back.map fun k => abcd k) ∧
    News s1.heap L h' ((ll, listOf lvs.toArray nl) :: (rl, listOf rvs.toArray nr) :: (al, listOf avs.toArray na) :: (bl, listOf bvs.toArray nb) :: (L + 3, p3) :: (L + 2, p2) :: (L + 1, p1) :: [])) ?_ ?_
  · intro PP hPP
    have sm : StrMark := trivial
    simp only [List.take_succ_cons, List.take_zero]
    k_steps
    refine Stopped.on ?_
    rename Fr s1.heap _ _ _ => F8
    refine LCg.ListComp_U F8 (by with_unfolding_all rfl) (by decide) (by rfl) (by decide) (by rfl) ?_
    k_steps
    refine Stopped.on ?_
    rename Fr s1.heap _ _ _ => F9
    rename News s1.heap _ _ _ => N9
    rename IntsAre _ (List.reverse (List.reverse _)) => hRR
    rw [List.reverse_reverse] at hRR
    have hrl := hRR.length
    refine LCg.CompSrc.ledger rfl F9 N9 (.head _) (by rw [List.size_toArray, hrl, PySem.sizeLine_eq]; omega) (fun g => kct_list (fun k => abcd k) hRR ?xt ?xf)
    case xt =>
      intro k t I oI C oC D m₂ ys h tk E' hk hC hx F' N' off ne hMark
      have hk0 := (hb4 k hk).1
      have hk9 := (hb4 k hk).2
      clear F9 N9
      k_steps
      exact LCg.CompEnd.intro F' N' _ (fun p hp => hp) off (.inr ⟨_, .head _, rfl, _, rfl⟩) (kct_el rfl rfl rfl)
    case xf =>
      unfold KPfDone
      intro ys hys hyl
      have hST := hys.strsOf
      unfold LCg.FinE
      intro D h12 tk12 F12 N12 off12
      dsimp only
      clear F9 N9
      k_steps
      rename Fr s1.heap _ _ _ => F13
      rename News s1.heap _ _ _ => N13
      replace N13 := news_sub (l' := [(L + 3, o3), (D, LCg.lst ys), (rl, listOf rvs.toArray nr), (al, listOf avs.toArray na), (bl, listOf bvs.toArray nb), (L + 2, p2), (L + 1, p1)]) N13 (List.forall_mem_cons.mpr ⟨.tail _ (.tail _ (.tail _ (.tail _ (.tail _ (.tail _ (.head _)))))), List.forall_mem_cons.mpr ⟨.head _, List.forall_mem_cons.mpr ⟨.tail _ (.tail _ (.tail _ (.head _))), List.forall_mem_cons.mpr ⟨.tail _ (.tail _ (.tail _ (.tail _ (.head _)))), List.forall_mem_cons.mpr ⟨.tail _ (.tail _ (.tail _ (.tail _ (.tail _ (.head _))))), List.forall_mem_cons.mpr ⟨.tail _ (.tail _ (.tail _ (.tail _ (.tail _ (.tail _ (.tail _ (.head _))))))), List.forall_mem_cons.mpr ⟨.tail _ (.tail _ (.tail _ (.tail _ (.tail _ (.tail _ (.tail _ (.tail _ (.head _)))))))), List.forall_mem_nil _⟩⟩⟩⟩⟩⟩⟩)
      refine stCN (own := []) F13 N13 rfl d3 (List.forall_mem_nil _) (List.forall_mem_cons.mpr ⟨news_apart N13 (.tail _ (.head _)) (.head _) d3, List.forall_mem_cons.mpr ⟨news_apart N13 (.tail _ (.tail _ (.head _))) (.head _) d3, List.forall_mem_cons.mpr ⟨news_apart N13 (.tail _ (.tail _ (.tail _ (.head _)))) (.head _) d3, List.forall_mem_cons.mpr ⟨news_apart N13 (.tail _ (.tail _ (.tail _ (.tail _ (.head _))))) (.head _) d3, List.forall_mem_cons.mpr ⟨Ne.symm h32, List.forall_mem_cons.mpr ⟨Ne.symm h31, List.forall_mem_nil _⟩⟩⟩⟩⟩⟩) ?_
      intro h14 p3 F14 N14 hp3
      rw [List.nil_append] at N14
      clear F13 N13
      k_steps
      rename Fr s1.heap _ _ _ => F13
      rename News s1.heap _ _ _ => N13
      obtain ⟨mm, F15⟩ := fr_frontE [(Str.ofString "root", _), (Str.ofString "again", _), (Str.ofString "back", _)] F13 (by repeat' (first | exact List.forall_mem_nil _ | refine List.forall_mem_cons.mpr ⟨rfl, ?_⟩))
      exact Cut.of (hPP _ ⟨_, _, mm, D, ys, _, p3, rfl, F15, hp3, hST, news_sub N13 (List.forall_mem_cons.mpr ⟨.tail _ (.head _), List.forall_mem_cons.mpr ⟨.tail _ (.tail _ (.head _)), List.forall_mem_cons.mpr ⟨.tail _ (.tail _ (.tail _ (.head _))), List.forall_mem_cons.mpr ⟨.tail _ (.tail _ (.tail _ (.tail _ (.head _)))), List.forall_mem_cons.mpr ⟨.head _, List.forall_mem_cons.mpr ⟨.tail _ (.tail _ (.tail _ (.tail _ (.tail _ (.head _))))), List.forall_mem_cons.mpr ⟨.tail _ (.tail _ (.tail _ (.tail _ (.tail _ (.tail _ (.head _)))))), List.forall_mem_nil _⟩⟩⟩⟩⟩⟩⟩)⟩)
  clear F N hS
  rintro s' ⟨h12, tk12, m12, ll, lvs, nl, p3, rfl, F, d3, hLt, N⟩
  dsimp only [kstB] at F
  simp only [List.drop_succ_cons, List.drop_zero]
  have hbl2 : back.length ≤ 1000 := by omega
  refine execs_cutM 1 (fun s' => ∃ h' tk' m tp, s' = { s1 with heap := h', toks := tk' } ∧ Fr s1.heap L h' (kstB m [(Str.ofString "root", .ref rl), (Str.ofString "again", .ref al), (Str.ofString "back", .ref bl), (Str.ofString "plain", .str (written back) tp)]) ∧
    News s1.heap L h' ((rl, listOf rvs.toArray nr) :: (al, listOf avs.toArray na) :: (bl, listOf bvs.toArray nb) :: [])) ?_ ?_
  · intro PP hPP
    have sm : StrMark := trivial
    simp only [List.take_succ_cons, List.take_zero]
    k_steps
    refine Stopped.on ?_
    rename Fr s1.heap _ _ _ => F8
    refine comp_rng F8 (by with_unfolding_all rfl) (by decide) (by rfl) (by decide) (by rfl) ?_
    k_steps
    refine Stopped.on ?_
    rename Fr s1.heap _ _ _ => F9
    rename News s1.heap _ _ _ => N9
    have hll : lvs.length = back.length := by rw [strs_lenM hLt, List.length_map]
    refine kst_len N9 (.head _) hll (by omega) ?_
    k_steps
    rename IsRange _ _ _ _ _ _ _ _ => hR12
    rename Fr s1.heap _ _ _ => F10
    rename News s1.heap _ _ _ => N10
    refine ⟨_, _, 3, (back.length + 2) / 3, _, _, _, _, rfl, rfl, F10, N10, hR12, wr_small hbl2, wr_size _, by rw [PySem.sizeLine_eq]; omega, fun g => rng_rest _ 3 (plainLine back) ?xt ?xf⟩
    case xt =>
      intro i t I oI C oC D m₂ ys h tk E' hi hC hx F' N' off ne
      clear F10 N10
      k_steps
      refine Stopped.on ?_
      refine' kmk_slice ?yF ?yN ?yl ?yp ?yq ?_ ?ys ?yt ?yz
      case yF => k_asm
      case yN => k_asm
      case yl => exact ⟨_, (N' _ (.tail _ (.tail _ (.tail _ (.head _))))).1, rfl, nl, rfl⟩
      case yp => kmk_part
      case yq => kmk_part
      case ys => with_unfolding_all rfl
      case yt => kmk_pure
      case yz => rw [List.size_toArray, hll, PySem.sizeLine_eq]; omega
      intro D2 h20 F20 N20 l20
      rw [pick3 lvs i (by omega)] at N20
      have hS20 : StrsAre ((lvs.drop (i * 3)).take 3) (((back.drop (i * 3)).take 3).map fun k => abcd k) := by
        rw [List.map_take, List.map_drop]
        exact StrsAre.takeM 3 (StrsAre.dropM (i * 3) hLt)
      clear F' N'
      k_steps
      refine Stopped.on ?_
      rename News s1.heap _ _ _ => N21
      refine join_call N21 (.head _) hS20 (line_ok back hb4 i) ?_
      intro t21 k21
      have hpl := plainLine_len back hb4 i hi
      have hpl2 : (Str.join (Str.ofString ": ") (((back.drop (i * 3)).take 3).map fun k => abcd k)).length ≤ 10 := by
        unfold plainLine at hpl
        rw [len_app] at hpl
        omega
      k_steps
      exact LCg.CompEnd.intro F20 N21 _ (fun p hp => .tail _ hp) off trivial ⟨rfl, _, rfl⟩
    case xf =>
      intro ys hys
      unfold LCg.FinE
      intro D h13 tk13 F12 N12 off12
      dsimp only
      clear F10 N10
      k_steps
      refine Stopped.on ?_
      refine join_call N12 (.head _) hys (plain_ok back hb4 hbl2) ?_
      intro t21 k21
      rw [plain_eq back hb4]
      k_steps
      rename Fr s1.heap _ _ _ => F13
      rename News s1.heap _ _ _ => N13
      obtain ⟨mm, F14⟩ := fr_frontE [(Str.ofString "root", _), (Str.ofString "again", _), (Str.ofString "back", _), (Str.ofString "plain", _)] F13 (by repeat' (first | exact List.forall_mem_nil _ | refine List.forall_mem_cons.mpr ⟨rfl, ?_⟩))
      exact Cut.of (hPP _ ⟨_, _, mm, _, rfl, F14, news_sub N13 (List.forall_mem_cons.mpr ⟨.tail _ (.tail _ (.head _)), List.forall_mem_cons.mpr ⟨.tail _ (.tail _ (.tail _ (.head _))), List.forall_mem_cons.mpr ⟨.tail _ (.tail _ (.tail _ (.tail _ (.head _)))), List.forall_mem_nil _⟩⟩⟩)⟩)
  clear F N
  rintro s' ⟨h13, tk13, m13, tp, rfl, F, N⟩
  dsimp only [kstB] at F
  simp only [List.drop_succ_cons, List.drop_zero]
  obtain ⟨ra, rb, rc, rd, rfl⟩ := ints4 hR
  obtain ⟨aa, ab, ac, ad, rfl⟩ := ints4 hAv
  clear hR hAv d1 d2 d3 hW hLt
  k_steps
  refine Stopped.on ?_
  refine tell_str (lwr w bl bvs back hBv hb4 (by omega) nb _ (.tail _ (.tail _ (.head _)))) F N K0 KX Tp rfl (by ktr_room) (by ktr_units) ?_
  intro t99 h99 tk99 F99 N99
  k_steps
end
end Mine
theorem PySem.Challenge.cw_kl0477_01_holds : PySem.Challenge.rw_kl0477_01.Holds := by
  exact Mine.law0
