import PyProof.Rows.All
import Wide.All
import OpenK.AllK
import Wide.FinOn
import Lean
import PySem.Challenge.RW_wj0034_01
open PySem PySem.W PySem.Spec PySem.Calls PyProof.Rows
set_option Elab.async false
set_option maxRecDepth 100000
set_option maxHeartbeats 0
set_option compiler.extract_closed false
namespace Mine
noncomputable def pick (l : List Stmt) : List Stmt := match l with
  | [a0, _, a2, a3, a4, a5, _, a7, a8, a9, a10, a11, a12, a13, _, a15, _, a17, _, a19, a20, a21, a22, a23] => [a0, a2, a3, a4, a5, a7, a8, a9, a10, a11, a12, a13, a15, a17, a19, a20, a21, a22, a23]
  | _ => []
@[reducible] noncomputable def rhsOf {α : Type} {a b : α} (_ : a = b) : α := b
noncomputable def viewBody : List Stmt := by
  have h : pick PySem.Challenge.rw_wj0034_01.prog.main.body = pick PySem.Challenge.rw_wj0034_01.prog.main.body := rfl
  conv at h => rhs; whnf
  exact rhsOf h
@[reducible] noncomputable def view : Program := { PySem.Challenge.rw_wj0034_01.prog with main := { PySem.Challenge.rw_wj0034_01.prog.main with body := viewBody } }
theorem said_ok : PySem.Challenge.rw_wj0034_01.wellSaid = true := by
  first
  | (rw [PySem.W.Fast.te9446332074065402090]; kernel_rfl)
  | kernel_rfl
local macro_rules | `(tactic| o_head $H) => `(tactic| (refine holds_open (q := Mine.view) (loose := []) (Xt := fun s => xlAt Mine.view [] s && recOk (RowW.records (OpenRow.toRowW (OpenLaw.row PySem.Challenge.rw_wj0034_01))) s) (XP := XL Mine.view []) (Yf := Hook.obs $H) (Ya := Hook.val $H) (YP := Hook.says $H) (N := 3042) ?hl (Hook.of $H) (Hook.keeps $H) (fun s e => xl_of s (Bool.and_eq_true_iff.mp e).1) XL.keeps (by rfl) (by rfl) (by rfl) (fun s e => recFacts_of (Bool.and_eq_true_iff.mp e).2) (by rfl) (by first | assumption | decide +kernel) (by decide +kernel) ⟨rfl, rfl, rfl, rfl, rfl, by decide +kernel⟩ ?hw ?hc; (case hl => intro w; (try rw [PySem.W.Fast.te14364793385576792824]); (try rw [PySem.W.Fast.te4187177175401517315]); (try (unfold openEnds fencedOpening topFrom; rw [PySem.W.Fast.te10274390034422433532, PySem.W.Fast.te1435165496053646825, PySem.W.Fast.te14289696077712309145, PySem.W.Fast.te14082659384304107361, PySem.W.Fast.te8920871248978507458, PySem.W.Fast.te5923862056798008813])); kernel_rfl)))
local macro_rules | `(tactic| o_law) => `(tactic| refine holds_law said_ok fun said => ?_)
open_top hd for PySem.Challenge.rw_wj0034_01

theorem fill : (PySem.Challenge.rw_wj0034_01 = PySem.Challenge.rw_wj0034_01) ∧ (hd.heap_1 = hd.heap_1) := by
  k_fill
  w_top off
  exact ⟨rfl, rfl⟩

theorem room1 {u c a b l : Nat} (h : u + c < l) (e : a + b ≤ c) : u + a + b < l := by omega
theorem room2 {u c b l : Nat} (h : u + c < l) (e : b ≤ c) : u + b < l := by omega
theorem room0 {u c l : Nat} (h : u + c < l) : u < l := Nat.lt_of_le_of_lt (Nat.le_add_right _ _) h
noncomputable def Hold (P : Prop) : Prop := P
theorem Hold.mk {P : Prop} (h : Hold P) : P := h
theorem Hold.out {P : Prop} (h : P) : Hold P := h

noncomputable def Con (prog : Program) (w : World) (f : Addr) (vs : List Value) (c cu : Nat) (news : List (Addr × Obj)) (post : Value → List (Addr × Obj) → Prop) : Prop :=
  ∀ (p : Program) (loose : List Str) (mean : ExcName → Option Value) (mg mb : Str → Option Value) (dp un : Nat) (gd : Option (List Code)) (cn : Str) (cs : Scope) (a : Addr) (ccd : Value) (cl : List (Str × Addr)) (outer : List Env) (A₀ : Around) (base h₀ : Heap) (L : Addr) (m : Str → Option Value) (s : Shared)
    (Q E : Value → Shared → Prop),
    Below A₀ base outer h₀ → Fr h₀ L s.heap m → (hd.heap_1 w.params).In h₀ → News h₀ L s.heap news → Top p loose mean mg mb h₀ → cs.kind = .function → dp + c < recursionLimit → un + cu < cLine →
    (∀ r news' h' tk', post r news' → Fr h₀ L h' m → News h₀ L h' news' → Q r { s with heap := h', toks := tk' }) →
    wpAny (model prog w) (ktrTop dp un gd cn cs L a ccd cl outer) (call (.ref f) vs) Q E s

theorem Con.use {prog : Program} {w : World} {f : Addr} {vs : List Value} {c cu : Nat} {news : List (Addr × Obj)} {post : Value → List (Addr × Obj) → Prop} (C : Con prog w f vs c cu news post)
    {p : Program} {loose : List Str} {mean : ExcName → Option Value} {mg mb : Str → Option Value} {dp un : Nat} {gd : Option (List Code)} {cn : Str} {cs : Scope} {a : Addr} {ccd : Value} {cl : List (Str × Addr)} {outer : List Env} {A₀ : Around} {base h₀ : Heap} {L : Addr} {m : Str → Option Value} {s : Shared}
    {Q E : Value → Shared → Prop} (B : Below A₀ base outer h₀) (F : Fr h₀ L s.heap m) (X : (hd.heap_1 w.params).In h₀) (N : News h₀ L s.heap news) (T : Top p loose mean mg mb h₀) (hk : cs.kind = .function) (hdp : dp + c < recursionLimit) (hun : un + cu < cLine)
    (h : ∀ r news' h' tk', post r news' → Fr h₀ L h' m → News h₀ L h' news' → Q r { s with heap := h', toks := tk' }) :
    wpAny (model prog w) (ktrTop dp un gd cn cs L a ccd cl outer) (call (.ref f) vs) Q E s :=
  C p loose mean mg mb dp un gd cn cs a ccd cl outer A₀ base h₀ L m s Q E B F X N T hk hdp hun h

theorem allLt_ne {d e : Addr} : ∀ {l : List (Addr × Obj)}, AllLt d l → @LE.le Nat _ d e → ∀ p ∈ l, p.1 ≠ e
  | [], _, _, _, hp => (nomatch hp)
  | q :: r, h, hd, p, hp => by
    rcases List.mem_cons.mp hp with rfl | hp
    · exact Nat.ne_of_lt (Nat.lt_of_lt_of_le h.1 hd)
    · exact allLt_ne h.2 hd p hp
theorem allLt_all {d : Addr} : ∀ {l : List (Addr × Obj)}, AllLt d l → ∀ p ∈ l, p.1 < d
  | [], _, _, hp => (nomatch hp)
  | q :: r, h, p, hp => by
    rcases List.mem_cons.mp hp with rfl | hp
    · exact h.1
    · exact allLt_all h.2 p hp

noncomputable def q81 : Str := Str.ofString "_int2digits.<locals>.inner"
noncomputable def q88 : Str := Str.ofString "_digits2int.<locals>.inner"
noncomputable def TabS (P line col : Nat) (qual : Str) (l : List (Addr × Obj)) : Prop :=
  l = [(P, tabObj #[])] ∨ ∃ (c' : Addr) (oc : Obj) (vs : Array Value) (t : Tok), l = [(P, tabObj #[rawInt line, rawInt col, .ref c']), (c', oc)] ∧ oc.data = .fields vs ∧ vs[1]? = some (.str qual t) ∧ @LT.lt Nat _ P c'
noncomputable def TabOk (P line col : Nat) (qual : Str) (T T' rest : List (Addr × Obj)) : Prop := TabS P line col qual T' ∧ ∀ p ∈ T', p.1 = P ∨ p ∈ T ∨ ∀ x ∈ rest, @LT.lt Nat _ x.1 p.1

theorem nswap {h₀ h : Heap} {L : Addr} {a b : Addr × Obj} {r : List (Addr × Obj)} (N : News h₀ L h (a :: b :: r)) : News h₀ L h (b :: a :: r) := fun p hp => N p (by
  simp only [List.mem_cons] at hp ⊢
  rcases hp with h | h | h <;> simp [h])
theorem nrot2 {h₀ h : Heap} {L : Addr} {a b c : Addr × Obj} {r : List (Addr × Obj)} (N : News h₀ L h (a :: b :: c :: r)) : News h₀ L h (c :: a :: b :: r) := fun p hp => N p (by
  simp only [List.mem_cons] at hp ⊢
  rcases hp with h | h | h | h <;> simp [h])
theorem fin88_first {h₀ h : Heap} {L c' : Addr} {oc : Obj} {a1 a4 a5 a6 : Addr × Obj} {rest : List (Addr × Obj)} {P : Addr} {A B : Value} (N : News h₀ L h (a1 :: (c', oc) :: a4 :: a5 :: a6 :: (P, tabObj (#[] ++ #[A, B, .ref c'])) :: rest)) :
    News h₀ L h ([(P, tabObj #[A, B, .ref c']), (c', oc)] ++ rest) := fun p hp => N p (by
  rw [show (#[] ++ #[A, B, .ref c'] : Array Value) = #[A, B, .ref c'] from by simp]
  simp only [List.mem_cons, List.cons_append, List.nil_append] at hp ⊢
  rcases hp with h | h | h <;> simp [h])
theorem fin88_hit {h₀ h : Heap} {L : Addr} {a1 a4 a5 a6 a7 a8 : Addr × Obj} {rest : List (Addr × Obj)} (N : News h₀ L h (a1 :: a4 :: a5 :: a6 :: a7 :: a8 :: rest)) :
    News h₀ L h ([a7, a8] ++ rest) := fun p hp => N p (by
  simp only [List.mem_cons, List.cons_append, List.nil_append] at hp ⊢
  rcases hp with h | h | h <;> simp [h])
theorem ints_replicate (k : Nat) (v : Int) (t : Tok) : IntsAre (List.replicate k (Value.int v t)) (List.replicate k v) := by
  induction k with
  | zero => exact .nil
  | succ k ih => exact .cons v t ih

noncomputable abbrev tup2 (x y : Value) : Obj := { cls := .type "tuple", data := .seq #[x, y] }

section
variable {prog : Program} {w : World} {A : Around} {E : Value → Shared → Prop} {s : Shared} {h₀ : Heap} {L : Addr} {m : Str → Option Value} {news : List (Addr × Obj)}
theorem divmod_K {a b : Int} {t u : Tok} {Q : Value → Shared → Prop} (F : Fr h₀ L s.heap m) (N : News h₀ L s.heap news) (hb : b ≠ 0) (hs : b.natAbs < 1073741824)
    (h : ∀ q h' t1 t2 tk', Fr h₀ L h' m → News h₀ L h' ((q, tup2 (.int (a.fdiv b) t1) (.int (a.fmod b) t2)) :: news) → (∀ p ∈ news, p.1 < q) → Q (.ref q) { s with heap := h', toks := tk' }) :
    wpAny (model prog w) A (call (.builtin "divmod") [.int a t, .int b u]) Q E s :=
  divmod_N F N hb (fun h' F' N' => h _ h' _ _ _ F' N' fun p hp => Heap.lt_size (N p hp).1) (.inl (PyProof.noPylong_small hs))
theorem mul_G {a b : Int} {t u : Tok} {Q : Value → Shared → Prop} (ha : -9223372036854775808 ≤ a ∧ a < 9223372036854775808) (h : ∀ v tk, v = a * b → Q (.int v tk) { s with toks := tk + 1 }) :
    wpAny (model prog w) A (binaryOp .Mult (.int a t) (.int b u)) Q E s :=
  mul_int (h _ s.toks rfl) (IntMulOk.of_left (intBits_le_64 (by omega) (by omega)))
theorem rshift_G {a n : Int} {t u : Tok} {Q : Value → Shared → Prop} (hn : 0 ≤ n) (h : ∀ v tk, v = a.fdiv (2 ^ n.toNat) → Q (.int v tk) { s with toks := tk + 1 }) :
    wpAny (model prog w) A (binaryOp .RShift (.int a t) (.int n u)) Q E s := rshift_int hn (h _ s.toks rfl)
theorem lshift_G {a n : Int} {t u : Tok} {Q : Value → Shared → Prop} (hn : 0 ≤ n) (hsz : (Builtin.Int.intBits a : Int) + n ≤ 2 ^ 27) (h : ∀ v tk, v = a * 2 ^ n.toNat → Q (.int v tk) { s with toks := tk + 1 }) :
    wpAny (model prog w) A (binaryOp .LShift (.int a t) (.int n u)) Q E s := lshift_int hn hsz (h _ s.toks rfl)
theorem xor_G {a b : Int} {t u : Tok} {Q : Value → Shared → Prop} (h : ∀ v tk, v = Builtin.bitXor a b → Q (.int v tk) { s with toks := tk + 1 }) :
    wpAny (model prog w) A (binaryOp .BitXor (.int a t) (.int b u)) Q E s := xor_int (h _ s.toks rfl)
theorem len_K {l : Addr} {items : List Value} {n : Nat} {Q : Value → Shared → Prop} (N : News h₀ L s.heap news) (hm : (l, listOf items.toArray n) ∈ news) (hfit : items.length < 1000000)
    (h : ∀ t tk, Q (.int items.length t) { s with toks := tk }) : wpAny (model prog w) A (call (.builtin "len") [.ref l]) Q E s := by
  have e : (List.toArray items).size = items.length := List.size_toArray ..
  exact call_len_list (PySem.IsL.isList (n := n) (N _ hm).1) (by rw [e]; omega) (by rw [e]; exact h _ _)
theorem truthy_K {l : Addr} {items : List Value} {n : Nat} {Q : Bool → Shared → Prop} (N : News h₀ L s.heap news) (hm : (l, listOf items.toArray n) ∈ news) (hfit : items.length < 1000000)
    (h : ∀ tk, Q (decide (items ≠ [])) { s with toks := tk }) : wpAny (model prog w) A (truthy (.ref l)) Q E s := by
  refine wpAny_truthy_list (PySem.IsL.isList (n := n) (N _ hm).1) (by rw [List.size_toArray]; omega) ?_
  have e : (!(items.toArray).isEmpty) = decide (items ≠ []) := by cases items <;> simp
  rw [e]
  exact h _
theorem rep_fold {α : Type} (v : α) : ∀ (k : Nat) (acc : List α), List.foldl (fun x1 x2 => x1 ++ x2) acc.toArray (List.replicate k #[v]) = (acc ++ List.replicate k v).toArray
  | 0, acc => by simp
  | k + 1, acc => by
    rw [List.replicate_succ, List.foldl_cons, show (acc.toArray ++ #[v]) = (acc ++ [v]).toArray from by simp, rep_fold v k (acc ++ [v]), List.replicate_succ, List.append_assoc]
    rfl
theorem mulRep_K {l : Addr} {v : Value} {x : Int} {u : Tok} {Q : Value → Shared → Prop} (F : Fr h₀ L s.heap m) (N : News h₀ L s.heap news) (hm : (l, listOf #[v] 0) ∈ news) (h0 : 0 ≤ x) (hx : x ≤ 10000)
    (h : ∀ q h', Fr h₀ L h' m → News h₀ L h' ((q, listOf (List.replicate x.toNat v).toArray 0) :: news) → (∀ p ∈ news, p.1 < q) → Q (.ref q) { s with heap := h' }) :
    wpAny (model prog w) A (binaryOp .Mult (.ref l) (.int x u)) Q E s := by
  refine mul_list F N (N _ hm).1 (by omega) (by omega) (by simp; omega) fun h' F' N' => ?_
  refine h _ h' F' ?_ fun p hp => Heap.lt_size (N p hp).1
  have e := rep_fold v x.toNat []
  simp only [List.nil_append] at e
  have e2 : (List.foldl (fun x1 x2 => x1 ++ x2) #[] (List.replicate (if (#[v] : Array Value).isEmpty = true then 0 else x.toNat) #[v])) = (List.replicate x.toNat v).toArray := by
    rw [show (#[v] : Array Value).isEmpty = false from rfl]
    simpa using e
  rw [e2] at N'
  exact N'
end
local macro_rules | `(tactic| k_mem) => `(tactic| first | with_reducible assumption | exact List.Mem.head _ | (refine' List.mem_cons_of_mem _ ?_; k_mem))
local macro_rules | `(tactic| ktr_units) => `(tactic| first | exact room1 (by assumption) (by decide) | exact room2 (by assumption) (by decide))
local macro_rules | `(tactic| ktr_room) => `(tactic| first | exact room1 (by assumption) (by decide) | exact room2 (by assumption) (by decide) | exact room0 (by assumption))
local macro_rules | `(tactic| k_room) => `(tactic| ktr_room)
local macro_rules | `(tactic| w_left) => `(tactic| first | exact Nat.le_refl _ | omega)
local macro_rules | `(tactic| k_all) => `(tactic| ((fail_if_success (refine' List.forall_mem_cons.mpr ?_)); first | assumption | ((repeat (with_reducible rename And _ _ => hc; first | exact allLt_ne hc.2 (by w_left) | exact allLt_ne hc.2.2 (by w_left) | exact allLt_ne hc.2.2.2 (by w_left) | exact allLt_ne hc.2.2.2.2 (by w_left) | exact allLt_ne hc.2.2.2.2.2 (by w_left) | exact allLt_ne hc.2.2.2.2.2.2 (by w_left) | exact allLt_ne hc.2.2.2.2.2.2.2 (by w_left) | exact allLt_ne hc.2.2.2.2.2.2.2.2 (by w_left) | clear hc)); (repeat (with_reducible rename AllLt _ _ => hc; first | exact allLt_ne hc (by w_left) | clear hc)); done)))
local macro_rules | `(tactic| walk_at "execs cons") => `(tactic| with_reducible refine wpAny_execs_cons ?_)
local macro_rules | `(tactic| walk_at "execs nil") => `(tactic| with_reducible refine wpAny_execs_nil ?_)
local macro_rules | `(tactic| walk_at "eval Name") => `(tactic| (k_here; k_dflt (first
  | (refine' nameX_L ?F ?v ?_ ?a ?b; (case a => exact rfl); (case b => exact rfl); (case F => k_asm); (case v => first | exact rfl | assumption); k_whole)
  | (refine' nameX_K ?F ?X ?T ?e ?_ ?a ?b; (case a => exact rfl); (case b => exact rfl); (case F => k_asm); (case X => k_asm); (case T => k_asm); (case e => k_is); k_whole)
  | (refine' nameX_B ?F ?X ?T ?e ?v ?n ?_ ?a ?b; (case a => exact rfl); (case b => exact rfl); (case F => k_asm); (case X => k_asm); (case T => k_asm); (case e => k_is); (case v => boot_fast); (case n => decide); k_whole)
  | (refine' nameX_F ?N ?c ?m ?d ?_ ?a ?b; (case a => exact rfl); (case b => exact rfl); (case N => k_asm); (case c => rfl); (case m => k_mem); (case d => k_asm); k_whole)
  | (refine' nameX_C ?N ?c ?m ?d ?_ ?a ?b; (case a => exact rfl); (case b => exact rfl); (case N => k_asm); (case c => rfl); (case m => k_mem); (case d => k_asm); k_whole))))
local macro_rules | `(tactic| walk_at "exec If") => `(tactic| with_reducible refine wpAny_If ?_)
local macro_rules | `(tactic| k_steps) => `(tactic| repeat' ((fail_if_success (with_reducible show Hold _)); first | (k_unfold; (try dsimp only)) | (k_end; dsimp only; (with_reducible show Hold _)) | (k_end; wrow_close) | walk1 | (dsimp only; walk1) | (leave1; walk_say "STEP leave1"; try dsimp only) | fail "no step"))
local macro_rules | `(tactic| walk_at "loadName") => `(tactic| (k_here; k_dflt (refine' ldn ?F ?v ?_ ?a ?b; (case a => exact rfl); (case b => exact rfl); (case F => k_asm); (case v => first | exact rfl | assumption); k_whole)))
section
theorem rs_MDefs : True := by
  w_top off
  trivial
@[reducible] noncomputable def defBody : Stmt → List Stmt
  | .FunctionDef _ _ b _ _ _ _ _ _ _ => b
  | _ => []
@[reducible] noncomputable def defArgs : Stmt → Arguments
  | .FunctionDef _ a _ _ _ _ _ _ _ _ => a
  | _ => default
@[reducible] noncomputable def defScope : Stmt → Scope
  | .FunctionDef _ _ _ _ _ _ s _ _ _ => s
  | _ => default
noncomputable def topSt (i : Nat) : Stmt := PySem.Challenge.pw_wj0034_01.main.body.getD i default
noncomputable def inner1St : { st : Stmt // st = (defBody (topSt 10)).getD 1 default } := by
  have h : (defBody (topSt 10)).getD 1 default = (defBody (topSt 10)).getD 1 default := rfl
  conv at h => rhs; whnf
  exact ⟨_, h.symm⟩
noncomputable def inner2St : { st : Stmt // st = (defBody (topSt 11)).getD 0 default } := by
  have h : (defBody (topSt 11)).getD 0 default = (defBody (topSt 11)).getD 0 default := rfl
  conv at h => rhs; whnf
  exact ⟨_, h.symm⟩
noncomputable def lexSt : { st : Stmt // st = (defBody (topSt 19)).getD 2 default } := by
  have h : (defBody (topSt 19)).getD 2 default = (defBody (topSt 19)).getD 2 default := rfl
  conv at h => rhs; whnf
  exact ⟨_, h.symm⟩

end
section
theorem rs_MNum : True := by
  w_top off
  trivial
section
theorem half_fact {v x : Int} (h : v = x.fdiv (2 ^ (1 : Int).toNat)) : 2 * v ≤ x ∧ x < 2 * v + 2 := by
  subst h
  rw [show (2 ^ (1 : Int).toNat : Int) = 2 from rfl, Int.fdiv_eq_ediv_of_nonneg _ (by decide)]
  omega
theorem two_pos (k : Nat) : (0 : Int) < 2 ^ k := Int.pow_pos (by decide)
theorem shr_fact {v x : Int} {k : Nat} (h : v = x.fdiv (2 ^ k)) (hx : 0 ≤ x) : 0 ≤ v ∧ v ≤ x := by
  subst h
  rw [Int.fdiv_eq_ediv_of_nonneg _ (Int.le_of_lt (two_pos k))]
  exact ⟨Int.ediv_nonneg hx (Int.le_of_lt (two_pos k)), Int.ediv_le_self _ hx⟩
theorem mul_fact {v a b : Int} (h : v = a * b) (ha : 0 ≤ a) (hb : 0 ≤ b) (ha2 : a ≤ 1000) (hb2 : b ≤ 1000) : 0 ≤ v ∧ v ≤ 1000000 := by
  subst h
  refine ⟨Int.mul_nonneg ha hb, ?_⟩
  calc a * b ≤ 1000 * 1000 := Int.mul_le_mul ha2 hb2 hb (by decide)
    _ = 1000000 := by decide
theorem bits_fact {v : Int} (h0 : 0 ≤ v) (h1 : v < 1152921504606846976) : (Builtin.Int.intBits v : Int) ≤ 64 := by
  exact Int.ofNat_le.mpr (intBits_le_64 (by omega) (by omega))

theorem nat_and_high (x k : Nat) : x &&& (x / 2 ^ k * 2 ^ k) = x / 2 ^ k * 2 ^ k := by
  rw [← Nat.shiftRight_eq_div_pow, ← Nat.shiftLeft_eq]
  apply Nat.eq_of_testBit_eq
  intro i
  rw [Nat.testBit_and, Nat.testBit_shiftLeft, Nat.testBit_shiftRight]
  by_cases h : k ≤ i
  · simp [h]
  · simp [h]
theorem xor_split {x : Int} {k : Nat} (hx : 0 ≤ x) : Builtin.bitXor x (x.fdiv (2 ^ k) * 2 ^ k) = x % (2 ^ k) := by
  have hp := two_pos k
  rw [Int.fdiv_eq_ediv_of_nonneg _ (Int.le_of_lt hp)]
  have hy : 0 ≤ x / 2 ^ k * 2 ^ k := Int.mul_nonneg (Int.ediv_nonneg hx (Int.le_of_lt hp)) (Int.le_of_lt hp)
  rw [bitXor_and, bitAnd_pp hx hy]
  obtain ⟨n, rfl⟩ := Int.eq_ofNat_of_zero_le hx
  have e : ((n : Int) / 2 ^ k * 2 ^ k) = ((n / 2 ^ k * 2 ^ k : Nat) : Int) := by simp
  rw [e]
  have e2 : (n : Int).toNat &&& ((n / 2 ^ k * 2 ^ k : Nat) : Int).toNat = n / 2 ^ k * 2 ^ k := by
    rw [Int.toNat_natCast, Int.toNat_natCast, nat_and_high]
  rw [e2]
  have e3 : (n : Int) % 2 ^ k = ((n % 2 ^ k : Nat) : Int) := by simp
  rw [e3]
  have := Nat.div_add_mod n (2 ^ k)
  rw [Nat.mul_comm] at this
  omega

noncomputable def digs (B : Int) (x : Int) : Nat → List Int
  | 0 => []
  | k + 1 => (x % B) :: digs B (x / B) k
theorem digs_length (B : Int) : ∀ (k : Nat) (x : Int), (digs B x k).length = k
  | 0, _ => rfl
  | k + 1, x => by rw [digs, List.length_cons, digs_length B k]
theorem digs_add {B : Int} (hB : 0 < B) : ∀ (a b : Nat) (x : Int), digs B x (a + b) = digs B (x % B ^ a) a ++ digs B (x / B ^ a) b
  | 0, b, x => by rw [Nat.zero_add]; simp [digs]
  | a + 1, b, x => by
    have hBa : (0 : Int) < B ^ a := Int.pow_pos hB
    rw [show a + 1 + b = (a + b) + 1 from by omega, digs, digs, digs_add hB a b]
    have e1 : x % B ^ (a + 1) % B = x % B := by rw [Int.pow_succ, Int.mul_comm]; exact Int.emod_emod_of_dvd x (Int.dvd_mul_right B (B ^ a))
    have e2 : x % B ^ (a + 1) / B = x / B % B ^ a := by
      rw [Int.pow_succ, Int.mul_comm]
      rw [Int.emod_def, Int.emod_def, Int.ediv_ediv_of_nonneg (Int.le_of_lt hB), Int.mul_assoc, Int.sub_mul_ediv_left _ _ (Int.ne_of_gt hB)]
    have e3 : x / B ^ (a + 1) = x / B / B ^ a := by rw [Int.pow_succ, Int.mul_comm, Int.ediv_ediv_of_nonneg (Int.le_of_lt hB)]
    rw [e1, e2, e3]
    rfl
theorem pow_eq {sh d n : Int} (h : sh = d * n) (hd : 0 ≤ d) (hn : 0 ≤ n) : (2 : Int) ^ sh.toNat = (2 ^ n.toNat) ^ d.toNat := by
  rw [← Int.pow_mul, h]
  congr 1
  obtain ⟨a, rfl⟩ := Int.eq_ofNat_of_zero_le hd
  obtain ⟨b, rfl⟩ := Int.eq_ofNat_of_zero_le hn
  rw [← Int.natCast_mul, Int.toNat_natCast, Int.toNat_natCast, Int.toNat_natCast, Nat.mul_comm]
theorem step_facts {x l r mid sh up lo n : Int} (hn : 0 ≤ n) (hx0 : 0 ≤ x) (h1 : l ≤ mid) (h2 : mid ≤ r) (hsh : sh = (mid - l) * n) (hup : up = x.fdiv (2 ^ sh.toNat)) (hlo : lo = Builtin.bitXor x (up * 2 ^ sh.toNat)) (hx : x < (2 ^ n.toNat) ^ (r - l).toNat) :
    lo = x % (2 ^ n.toNat) ^ (mid - l).toNat ∧ up = x / (2 ^ n.toNat) ^ (mid - l).toNat ∧ 0 ≤ lo ∧ lo ≤ x ∧ lo < (2 ^ n.toNat) ^ (mid - l).toNat ∧ 0 ≤ up ∧ up ≤ x ∧ up < (2 ^ n.toNat) ^ (r - mid).toNat := by
  have hB : (0 : Int) < 2 ^ n.toNat := two_pos _
  have hpe := pow_eq hsh (by omega) hn
  have hP : (0 : Int) < (2 ^ n.toNat) ^ (mid - l).toNat := Int.pow_pos hB
  have elo : lo = x % (2 ^ n.toNat) ^ (mid - l).toNat := by rw [hlo, hup, xor_split hx0, hpe]
  have eup : up = x / (2 ^ n.toNat) ^ (mid - l).toNat := by rw [hup, Int.fdiv_eq_ediv_of_nonneg _ (Int.le_of_lt (two_pos _)), hpe]
  refine ⟨elo, eup, ?_, ?_, ?_, ?_, ?_, ?_⟩
  · rw [elo]; exact Int.emod_nonneg _ (Int.ne_of_gt hP)
  · rw [elo]
    have a1 := Int.mul_ediv_add_emod x ((2 ^ n.toNat) ^ (mid - l).toNat)
    have a2 : 0 ≤ (2 ^ n.toNat) ^ (mid - l).toNat * (x / (2 ^ n.toNat) ^ (mid - l).toNat) := Int.mul_nonneg (Int.le_of_lt hP) (Int.ediv_nonneg hx0 (Int.le_of_lt hP))
    omega
  · rw [elo]; exact Int.emod_lt_of_pos _ hP
  · rw [eup]; exact Int.ediv_nonneg hx0 (Int.le_of_lt hP)
  · rw [eup]; exact Int.ediv_le_self _ hx0
  · rw [eup]
    refine Int.ediv_lt_of_lt_mul hP ?_
    rw [← Int.pow_add, show (r - mid).toNat + (mid - l).toNat = (r - l).toNat from by omega]
    exact hx
noncomputable def valB (B : Int) : List Int → Int
  | [] => 0
  | d :: ds => d + B * valB B ds
theorem valB_append (B : Int) : ∀ (xs ys : List Int), valB B (xs ++ ys) = valB B xs + B ^ xs.length * valB B ys
  | [], ys => by simp [valB]
  | x :: xs, ys => by
    rw [List.cons_append, valB, valB, valB_append B xs ys, List.length_cons, Int.pow_succ, Int.mul_add, ← Int.mul_assoc, Int.mul_comm B (B ^ xs.length)]
    omega
theorem valB_bound {B : Int} (hB : 0 < B) : ∀ (xs : List Int), (∀ d ∈ xs, 0 ≤ d ∧ d < B) → 0 ≤ valB B xs ∧ valB B xs < B ^ xs.length
  | [], _ => ⟨Int.le_refl _, by simp [valB]⟩
  | x :: xs, h => by
    obtain ⟨h1, h2⟩ := h x (.head _)
    obtain ⟨i1, i2⟩ := valB_bound hB xs fun d hd => h d (.tail _ hd)
    rw [valB, List.length_cons, Int.pow_succ]
    refine ⟨Int.add_nonneg h1 (Int.mul_nonneg (Int.le_of_lt hB) i1), ?_⟩
    have : B * valB B xs ≤ B * (B ^ xs.length - 1) := Int.mul_le_mul_of_nonneg_left (by omega) (Int.le_of_lt hB)
    rw [Int.mul_sub, Int.mul_one] at this
    rw [Int.mul_comm (B ^ xs.length) B]
    omega
noncomputable def slc (ns : List Int) (l r : Int) : List Int := (ns.drop l.toNat).take (r - l).toNat
theorem slc_one {ns : List Int} {l r : Int} (hl : 0 ≤ l) (h : l + 1 = r) (hr : r ≤ ns.length) {B : Int} : valB B (slc ns l r) = ns.getD l.toNat 0 := by
  subst h
  unfold slc
  rw [show (l + 1 - l).toNat = 1 from by omega]
  have hlt : l.toNat < ns.length := by omega
  rw [List.drop_eq_getElem_cons hlt, List.take_succ_cons, List.take_zero, List.getD_eq_getElem?_getD, List.getElem?_eq_getElem hlt]
  simp [valB]
theorem slc_split {ns : List Int} {l mid r : Int} (hl : 0 ≤ l) (h1 : l ≤ mid) (h2 : mid ≤ r) (hr : r ≤ ns.length) : slc ns l r = slc ns l mid ++ slc ns mid r := by
  unfold slc
  rw [show (r - l).toNat = (mid - l).toNat + (r - mid).toNat from by omega, List.take_add, List.drop_drop, show l.toNat + (mid - l).toNat = mid.toNat from by omega]
theorem slc_length {ns : List Int} {l r : Int} (hl : 0 ≤ l) (h2 : l ≤ r) (hr : r ≤ ns.length) : (slc ns l r).length = (r - l).toNat := by
  unfold slc
  rw [List.length_take, List.length_drop]
  omega
theorem slc_mem {ns : List Int} {l r : Int} {d : Int} (h : d ∈ slc ns l r) : d ∈ ns := List.mem_of_mem_drop (List.mem_of_mem_take h)
theorem slc_all {ns : List Int} : slc ns 0 ns.length = ns := by
  unfold slc
  simp
theorem slc_val {ns : List Int} {l mid r sh n : Int} (hn : 0 ≤ n) (hl : 0 ≤ l) (h1 : l ≤ mid) (h2 : mid ≤ r) (hr : r ≤ ns.length) (hsh : sh = (mid - l) * n) :
    valB (2 ^ n.toNat) (slc ns mid r) * 2 ^ sh.toNat + valB (2 ^ n.toNat) (slc ns l mid) = valB (2 ^ n.toNat) (slc ns l r) := by
  rw [slc_split hl h1 h2 hr, valB_append, slc_length hl h1 (by omega), pow_eq hsh (by omega) hn, Int.mul_comm ((2 ^ n.toNat) ^ (mid - l).toNat)]
  omega
theorem intBits_lt {v : Int} {k : Nat} (h0 : 0 ≤ v) (h : v < 2 ^ k) : Builtin.Int.intBits v ≤ k := by
  unfold Builtin.Int.intBits
  split
  · exact Nat.zero_le _
  · rename_i hz
    have hz' : v.natAbs ≠ 0 := by simpa using hz
    have : v.natAbs < 2 ^ k := by
      have e : ((v.natAbs : Nat) : Int) < ((2 ^ k : Nat) : Int) := by rw [Int.natAbs_of_nonneg h0]; simpa using h
      exact Int.ofNat_lt.mp e
    have := (Nat.log2_lt hz').mpr this
    omega
theorem slc_bits {ns : List Int} {l r n : Int} (hn : 0 ≤ n) (hn2 : n ≤ 100) (hl : 0 ≤ l) (h1 : l ≤ r) (hr : r ≤ ns.length) (hlen : ns.length < 100) (hd : ∀ d ∈ ns, 0 ≤ d ∧ d < 2 ^ n.toNat) : (Builtin.Int.intBits (valB (2 ^ n.toNat) (slc ns l r)) : Int) ≤ 10000 := by
  obtain ⟨b1, b2⟩ := valB_bound (two_pos n.toNat) (slc ns l r) fun d h => hd d (slc_mem h)
  rw [slc_length hl h1 hr, ← Int.pow_mul] at b2
  have := intBits_lt b1 b2
  have e : n.toNat * (r - l).toNat ≤ 100 * 100 := Nat.mul_le_mul (by omega) (by omega)
  omega
theorem shl_ok {a n : Int} (h0 : 0 ≤ a) (h1 : a < 1152921504606846976) (hn : n ≤ 1000000) : (Builtin.Int.intBits a : Int) + n ≤ 2 ^ 27 := by
  have := bits_fact h0 h1
  omega
theorem bits_pos {b : Int} (hb : 1 ≤ b) : (1 : Int) ≤ (Builtin.Int.intBits b : Int) := by
  unfold Builtin.Int.intBits
  split
  · rename_i h
    have : b = 0 := by simpa using h
    omega
  · omega
theorem bits_30 {b : Int} (hb : 1 ≤ b) (hbs : b < 1073741824) : (Builtin.Int.intBits b : Int) ≤ 30 := by
  have := intBits_lt (v := b) (k := 30) (by omega) (by omega)
  omega
theorem lt_bits {a : Int} (ha : 0 ≤ a) : a < 2 ^ (Builtin.Int.intBits a) := by
  unfold Builtin.Int.intBits
  split
  · rename_i h
    have : a = 0 := by simpa using h
    subst this
    decide
  · have h := Nat.lt_log2_self (n := a.natAbs)
    have e : ((a.natAbs : Nat) : Int) < ((2 ^ (a.natAbs.log2 + 1) : Nat) : Int) := Int.ofNat_lt.mpr h
    rw [Int.natAbs_of_nonneg ha] at e
    simpa using e
theorem digits_bounds {a n : Int} (hn : 1 ≤ n) (hn2 : n ≤ 100) (ha : 0 ≤ a) (has : a < 1152921504606846976) :
    (0 : Int) ≤ (↑(Builtin.Int.intBits a) + n - 1).fdiv n ∧ (↑(Builtin.Int.intBits a) + n - 1).fdiv n ≤ (64 : Int) ∧ (a ≠ 0 → 1 ≤ (↑(Builtin.Int.intBits a) + n - 1).fdiv n) ∧ a < (2 ^ n.toNat) ^ ((↑(Builtin.Int.intBits a) + n - 1).fdiv n).toNat := by
  have hb := bits_fact ha has
  rw [Int.fdiv_eq_ediv_of_nonneg _ (by omega)]
  have hn0 : 0 < n := by omega
  have h0 : 0 ≤ (↑(Builtin.Int.intBits a) + n - 1) / n := Int.ediv_nonneg (by omega) (by omega)
  have hmul : (Builtin.Int.intBits a : Int) ≤ n * ((↑(Builtin.Int.intBits a) + n - 1) / n) := by
    have := Int.mul_ediv_add_emod (↑(Builtin.Int.intBits a) + n - 1) n
    have := Int.emod_lt_of_pos (↑(Builtin.Int.intBits a) + n - 1) hn0
    omega
  refine ⟨h0, ?_, ?_, ?_⟩
  · have : (↑(Builtin.Int.intBits a) + n - 1) / n < 65 := by
      refine Int.ediv_lt_of_lt_mul hn0 ?_
      omega
    omega
  · intro hne
    have := bits_pos (b := a) (by omega)
    exact (Int.le_ediv_iff_mul_le hn0).mpr (by omega)
  · refine Int.lt_of_lt_of_le (lt_bits ha) ?_
    rw [← Int.pow_mul]
    have h1 : Builtin.Int.intBits a ≤ n.toNat * ((↑(Builtin.Int.intBits a) + n - 1) / n).toNat := by
      obtain ⟨k, hk⟩ := Int.eq_ofNat_of_zero_le h0
      obtain ⟨j, rfl⟩ := Int.eq_ofNat_of_zero_le (show 0 ≤ n by omega)
      rw [hk] at hmul ⊢
      simp only [Int.toNat_natCast]
      exact_mod_cast hmul
    have h := Nat.pow_le_pow_right (n := 2) (by decide) h1
    exact_mod_cast h
end

end
section
theorem rs_MLoop : True := by
  w_top off
  trivial
section
variable {prog : Program} {w : World} {A : Around} {E : Value → Shared → Prop} {s : Shared} {env : Env} {h₀ : Heap} {x : Str} {body : List Stmt} {Q : Flow → Shared → Prop}
theorem unrPost_mono {L I : Addr} {s₁ : Shared} {it : Obj} {R R' : (Str → Option Value) → List (Addr × Obj) → Prop} {f : Flow} {s₂ : Shared} (hR : ∀ m n, R m n → R' m n) (h : UnrPost h₀ L s₁ I it R Q f s₂) : UnrPost h₀ L s₁ I it R' Q f s₂ := by
  cases f with
  | ret v => exact h
  | brk => exact h
  | next => obtain ⟨h', tk, m', news', e, F, N, o, r⟩ := h; exact ⟨h', tk, m', news', e, F, N, o, hR _ _ r⟩
  | cont => obtain ⟨h', tk, m', news', e, F, N, o, r⟩ := h; exact ⟨h', tk, m', news', e, F, N, o, hR _ _ r⟩
theorem revRest_ind {I : Addr} {lp : Addr × Obj} (J : List Value → (Str → Option Value) → List (Addr × Obj) → Prop)
    (step : ∀ v r m news (it : Obj) h tk, J (v :: r) m news → it.cls = .type "list_reverseiterator" → Fr h₀ env.locals h (fun y => if y = x then some v else m y) → News h₀ env.locals h ((I, it) :: news) →
      wpAny (model prog w) A (execs body env) (UnrPost h₀ env.locals { s with heap := h, toks := tk } I it (fun m' n' => lp ∈ n' ∧ J r m' n') Q) E { s with heap := h, toks := tk })
    (done : ∀ m news h tk, J [] m news → Fr h₀ env.locals h m → News h₀ env.locals h news → Q .next { s with heap := h, toks := tk }) :
    ∀ r m news, J r m news → RevRest prog w A E h₀ env x body Q s I lp r m news
  | [], m, news, hJ => fun h tk F N => done m news h tk hJ F N
  | v :: r, m, news, hJ => fun it h tk hc F N =>
    wpAny_mono (step v r m news it h tk hJ hc F N) (fun _ _ hp => unrPost_mono (fun m' n' hh => ⟨hh.1, revRest_ind J step done r m' n' hh.2⟩) hp) fun _ _ e => e
theorem listRest_ind {I : Addr} {lp : Addr × Obj} (J : List Value → (Str → Option Value) → List (Addr × Obj) → Prop)
    (step : ∀ v r m news (it : Obj) h tk, J (v :: r) m news → it.cls = .type "list_iterator" → Fr h₀ env.locals h (fun y => if y = x then some v else m y) → News h₀ env.locals h ((I, it) :: news) →
      wpAny (model prog w) A (execs body env) (UnrPost h₀ env.locals { s with heap := h, toks := tk } I it (fun m' n' => lp ∈ n' ∧ J r m' n') Q) E { s with heap := h, toks := tk })
    (done : ∀ m news h tk, J [] m news → Fr h₀ env.locals h m → News h₀ env.locals h news → Q .next { s with heap := h, toks := tk }) :
    ∀ r m news, J r m news → ListRest prog w A E h₀ env x body Q s I lp r m news
  | [], m, news, hJ => fun h tk F N => done m news h tk hJ F N
  | v :: r, m, news, hJ => fun it h tk hc F N =>
    wpAny_mono (step v r m news it h tk hJ hc F N) (fun _ _ hp => unrPost_mono (fun m' n' hh => ⟨hh.1, listRest_ind J step done r m' n' hh.2⟩) hp) fun _ _ e => e
theorem offI_of {I : Addr} {it : Obj} : ∀ {l : List (Addr × Obj)}, (∀ p ∈ l, p.1 ≠ I) → OffI I it l
  | [], _ => trivial
  | p :: r, h => ⟨.inl (h p (.head _)), offI_of fun q hq => h q (.tail _ hq)⟩
end
theorem ints_reverse {vs : List Value} {ns : List Int} (h : IntsAre vs ns) : IntsAre vs.reverse ns.reverse := by
  have app : ∀ {a b : List Value} {x y : List Int}, IntsAre a x → IntsAre b y → IntsAre (a ++ b) (x ++ y) := by
    intro a b x y ha hb
    induction ha with
    | nil => exact hb
    | cons i t _ ih => exact .cons i t ih
  induction h with
  | nil => exact .nil
  | cons i t _ ih => rw [List.reverse_cons, List.reverse_cons]; exact app ih (.cons i t .nil)
theorem ints_append {a b : List Value} {x y : List Int} (ha : IntsAre a x) (hb : IntsAre b y) : IntsAre (a ++ b) (x ++ y) := by
  induction ha with
  | nil => exact hb
  | cons i t _ ih => exact .cons i t ih
theorem ints_inv {v : Value} {r : List Value} {ns : List Int} (h : IntsAre (v :: r) ns) : ∃ i t ns', v = .int i t ∧ ns = i :: ns' ∧ IntsAre r ns' := by
  cases h with
  | cons i t h => exact ⟨i, t, _, rfl, rfl, h⟩
theorem ints_nil {ns : List Int} (h : IntsAre [] ns) : ns = [] := by cases h; rfl
noncomputable def hornB (B : Int) (V : Int) (rs : List Int) : Int := rs.foldl (fun V d => V * B + d) V
theorem hornB_rev (B : Int) (ds : List Int) : hornB B 0 ds.reverse = valB B ds := by
  unfold hornB
  induction ds with
  | nil => rfl
  | cons d ds ih =>
    rw [List.reverse_cons, List.foldl_append, ih, valB]
    simp only [List.foldl_cons, List.foldl_nil]
    rw [Int.mul_comm]
    omega
theorem valB_digs {B : Int} (hB : 0 < B) : ∀ (k : Nat) (x : Int), 0 ≤ x → x < B ^ k → valB B (digs B x k) = x
  | 0, x, h0, h1 => by
    rw [Int.pow_zero] at h1
    show (0 : Int) = x
    omega
  | k + 1, x, h0, h1 => by
    rw [digs, valB, valB_digs hB k (x / B) (Int.ediv_nonneg h0 (Int.le_of_lt hB)) (Int.ediv_lt_of_lt_mul hB (by rw [Int.pow_succ] at h1; exact h1))]
    have := Int.mul_ediv_add_emod x B
    omega
theorem digs_range {B : Int} (hB : 0 < B) : ∀ (k : Nat) (x : Int), ∀ d ∈ digs B x k, 0 ≤ d ∧ d < B
  | 0, _, _, h => (nomatch h)
  | k + 1, x, d, h => by
    rw [digs] at h
    rcases List.mem_cons.mp h with rfl | h
    · exact ⟨Int.emod_nonneg _ (Int.ne_of_gt hB), Int.emod_lt_of_pos _ hB⟩
    · exact digs_range hB k _ d h
/-- one turn of the long division -/
theorem turn_facts {B b V d q r : Int} (hB : 0 < B) (hb : 0 < b) (hV : 0 ≤ V) (hd : 0 ≤ d ∧ d < B) (hq : q = (V % b * B + d).fdiv b) (hr : r = (V % b * B + d).fmod b) :
    r = (V * B + d) % b ∧ q + B * (V / b) = (V * B + d) / b ∧ 0 ≤ q ∧ q < B ∧ 0 ≤ V * B + d := by
  rw [Int.fdiv_eq_ediv_of_nonneg _ (Int.le_of_lt hb)] at hq
  rw [Int.fmod_eq_emod_of_nonneg _ (Int.le_of_lt hb)] at hr
  have hm0 := Int.emod_nonneg V (Int.ne_of_gt hb)
  have hm1 := Int.emod_lt_of_pos V hb
  have e : V * B + d = (V % b * B + d) + b * (V / b * B) := by
    have := Int.mul_ediv_add_emod V b
    have h2 : V * B = (b * (V / b) + V % b) * B := by rw [this]
    rw [h2, Int.add_mul, Int.mul_assoc]
    omega
  have n0 : 0 ≤ V % b * B + d := Int.add_nonneg (Int.mul_nonneg hm0 (Int.le_of_lt hB)) hd.1
  refine ⟨?_, ?_, ?_, ?_, ?_⟩
  · rw [hr, e, Int.add_mul_emod_self_left]
  · rw [hq, e, Int.add_mul_ediv_left _ _ (Int.ne_of_gt hb), Int.mul_comm B]
  · rw [hq]; exact Int.ediv_nonneg n0 (Int.le_of_lt hb)
  · rw [hq]
    refine Int.ediv_lt_of_lt_mul hb ?_
    have h1 : V % b * B ≤ (b - 1) * B := Int.mul_le_mul_of_nonneg_right (by omega) (Int.le_of_lt hB)
    rw [Int.sub_mul, Int.one_mul] at h1
    rw [Int.mul_comm B b]
    omega
  · exact Int.add_nonneg (Int.mul_nonneg hV (Int.le_of_lt hB)) hd.1

noncomputable def Tabs (T1 T2 rest : List (Addr × Obj)) : Prop := TabS 81 59 4 q81 T1 ∧ TabS 88 74 4 q88 T2 ∧ (∀ p ∈ T1, p.1 ≠ 88) ∧ (∀ p ∈ T2, p.1 ≠ 81) ∧ ∀ p ∈ T1 ++ T2, ∀ x ∈ rest, p.1 ≠ x.1
theorem TabS.has {P line col : Nat} {qual : Str} {T : List (Addr × Obj)} (h : TabS P line col qual T) : ∃ o, (P, o) ∈ T := by
  rcases h with rfl | ⟨c', oc, vs, t, rfl, _⟩
  · exact ⟨_, .head _⟩
  · exact ⟨_, .head _⟩
theorem Tabs.ne81 {T1 T2 rest : List (Addr × Obj)} (h : Tabs T1 T2 rest) : ∀ p ∈ T2 ++ rest, p.1 ≠ 81 := fun p hp => by
  obtain ⟨a, b, c, d, e⟩ := h
  obtain ⟨o, ho⟩ := a.has
  rcases List.mem_append.mp hp with hp | hp
  · exact d p hp
  · exact fun q => e (81, o) (List.mem_append_left _ ho) p hp q.symm
theorem Tabs.ne88 {T1 T2 rest : List (Addr × Obj)} (h : Tabs T1 T2 rest) : ∀ p ∈ T1 ++ rest, p.1 ≠ 88 := fun p hp => by
  obtain ⟨a, b, c, d, e⟩ := h
  obtain ⟨o, ho⟩ := b.has
  rcases List.mem_append.mp hp with hp | hp
  · exact c p hp
  · exact fun q => e (88, o) (List.mem_append_right _ ho) p hp q.symm
theorem Tabs.step1 {T1 T1' T2 rest : List (Addr × Obj)} (h : Tabs T1 T2 rest) (k : TabOk 81 59 4 q81 T1 T1' (T2 ++ rest)) : Tabs T1' T2 rest := by
  have hn := h.ne81
  obtain ⟨a, b, c, d, e⟩ := h
  obtain ⟨o, ho⟩ := b.has
  refine ⟨k.1, b, fun p hp => ?_, d, fun p hp x hx => ?_⟩
  · rcases k.2 p hp with q | q | q
    · rw [q]; decide
    · exact c p q
    · exact Nat.ne_of_gt (q _ (List.mem_append_left _ ho))
  · rcases List.mem_append.mp hp with hp | hp
    · rcases k.2 p hp with q | q | q
      · rw [q]; exact (hn x (List.mem_append_right _ hx)).symm
      · exact e p (List.mem_append_left _ q) x hx
      · exact Nat.ne_of_gt (q _ (List.mem_append_right _ hx))
    · exact e p (List.mem_append_right _ hp) x hx
theorem Tabs.step2 {T1 T2 T2' rest R : List (Addr × Obj)} (h : Tabs T1 T2 rest) (k : TabOk 88 74 4 q88 T2 T2' R) (h1 : ∀ p ∈ T1 ++ rest, p ∈ R) : Tabs T1 T2' rest := by
  have hn := h.ne88
  obtain ⟨a, b, c, d, e⟩ := h
  obtain ⟨o, ho⟩ := a.has
  refine ⟨a, k.1, c, fun p hp => ?_, fun p hp x hx => ?_⟩
  · rcases k.2 p hp with q | q | q
    · rw [q]; decide
    · exact d p q
    · exact Nat.ne_of_gt (Nat.lt_of_le_of_lt (Nat.le_refl _) (q _ (h1 _ (List.mem_append_left _ ho))))
  · rcases List.mem_append.mp hp with hp | hp
    · exact e p (List.mem_append_left _ hp) x hx
    · rcases k.2 p hp with q | q | q
      · rw [q]; exact (hn x (List.mem_append_right _ hx)).symm
      · exact e p (List.mem_append_right _ q) x hx
      · exact Nat.ne_of_gt (q _ (h1 _ (List.mem_append_right _ hx)))
theorem allLt_app {d : Addr} : ∀ {l : List (Addr × Obj)}, (∀ p ∈ l, @LT.lt Nat _ p.1 d) → AllLt d l
  | [], _ => trivial
  | p :: _, h => ⟨h p (.head _), allLt_app fun q hq => h q (.tail _ hq)⟩

end
section
theorem rs_C1 : True := by
  w_top off
  trivial
section
local macro_rules | `(tactic| walk_at "call builtin:divmod") => `(tactic| ((with_reducible show wpAny _ _ (call (Value.builtin "divmod") [Value.int _ _, Value.int _ _]) _ _ _); refine' divmod_K ?F ?N ?a ?b ?_; (case F => k_asm); (case N => k_asm); (case a => first | assumption | omega); (case b => first | assumption | omega); intro q' h' t1' t2' tk' F' N' l1))
theorem div2n1n (prog : Program) (w : World) (a b n : Int) (ta tb tn : Tok) (news : List (Addr × Obj)) (hb : b ≠ 0) (hbs : b.natAbs < 1073741824) (hn : 0 ≤ n) (ha : (Builtin.Int.intBits a : Int) < 4000) :
    Con prog w 72 [.int a ta, .int b tb, .int n tn] 1 8 news (fun r news' => ∃ q t1 t2, r = .ref q ∧ news' = (q, tup2 (.int (Int.fdiv a b) t1) (.int (Int.fmod a b) t2)) :: news ∧ ∀ p ∈ news, p.1 < q) := by
  intro p loose mean mg mb dp un gd cn cs fa ccd cl outer A₀ base h₀ L m s Q E B F X N T hk hdp hun hret
  refine wpAny_call ?_
  k_dflt ktr_enter
  k_steps
  exact hret _ _ _ _ ⟨_, _, _, rfl, rfl, by assumption⟩ (by k_asm) (by k_asm)
end

end
section
theorem rs_C3 : True := by
  w_top off
  trivial
section
theorem set_spec {B x l r : Int} {ns : List Int} (hl : 0 ≤ l) (h : l + 1 = r) (hr : r ≤ ns.length) (hx0 : 0 ≤ x) (hx : x < B ^ (r - l).toNat) : ns.set l.toNat x = ns.take l.toNat ++ digs B x (r - l).toNat ++ ns.drop r.toNat := by
  subst h
  rw [show (l + 1 - l).toNat = 1 from by omega] at hx ⊢
  rw [show (l + 1).toNat = l.toNat + 1 from by omega]
  simp only [digs]
  rw [Int.pow_one] at hx
  rw [Int.emod_eq_of_lt hx0 hx, List.set_eq_take_append_cons_drop, if_pos (by omega)]
  simp
theorem comb_spec {B x l mid r lo up : Int} {ns ns1 : List Int} (hB : 0 < B) (hl : 0 ≤ l) (h1 : l ≤ mid) (h2 : mid ≤ r) (hr : r ≤ ns.length) (hlo : lo = x % B ^ (mid - l).toNat) (hup : up = x / B ^ (mid - l).toNat)
    (e1 : ns1 = ns.take l.toNat ++ digs B lo (mid - l).toNat ++ ns.drop mid.toNat) :
    ns1.take mid.toNat ++ digs B up (r - mid).toNat ++ ns1.drop r.toNat = ns.take l.toNat ++ digs B x (r - l).toNat ++ ns.drop r.toNat := by
  have a1 : (ns.take l.toNat).length = l.toNat := by rw [List.length_take]; omega
  have a2 : (digs B lo (mid - l).toNat).length = (mid - l).toNat := digs_length ..
  have a3 : (ns.take l.toNat ++ digs B lo (mid - l).toNat).length = mid.toNat := by rw [List.length_append, a1, a2]; omega
  have t : ns1.take mid.toNat = ns.take l.toNat ++ digs B lo (mid - l).toNat := by rw [e1, ← a3, List.take_left']; rfl
  have d : ns1.drop r.toNat = ns.drop r.toNat := by
    rw [e1, show r.toNat = mid.toNat + (r.toNat - mid.toNat) from by omega, ← List.drop_drop, ← a3, List.drop_left', List.drop_drop, a3]; rfl
  rw [t, d, hlo, hup, List.append_assoc (ns.take l.toNat), ← digs_add hB, show (mid - l).toNat + (r - mid).toNat = (r - l).toNat from by omega]

theorem mid_facts {l r v : Int} (h : 2 * v ≤ l + r ∧ l + r < 2 * v + 2) (h1 : l < r) (h2 : l + 1 ≠ r) : l < v ∧ v < r := by omega
theorem length_spec {ns ds : List Int} {l mid : Int} (hl : 0 ≤ l) (h1 : l ≤ mid) (h2 : mid ≤ ns.length) (hd : ds.length = (mid - l).toNat) : (ns.take l.toNat ++ ds ++ ns.drop mid.toNat).length = ns.length := by
  simp only [List.length_append, List.length_take, List.length_drop, hd]
  omega
local macro_rules | `(tactic| walk_at "call ref") => `(tactic| (kn_here; (with_reducible show wpAny _ _ (call (Value.ref _) [Value.int _ _, Value.int _ _, Value.int _ _]) _ _ _); refine Hold.mk ?_))
local macro_rules | `(tactic| walk_at "binaryOp Mult int int") => `(tactic| ((with_reducible refine mul_G ?a ?_); (case a => omega); intro v tk hv; have hv2 := mul_fact hv (by omega) (by omega) (by omega) (by omega)))
local macro_rules | `(tactic| walk_at "binaryOp RShift int int") => `(tactic| ((with_reducible refine rshift_G ?a ?_); (case a => omega); intro v tk hv; first | have hv2 := half_fact hv | have hv2 := shr_fact hv (by assumption)))
local macro_rules | `(tactic| walk_at "binaryOp LShift int int") => `(tactic| ((with_reducible refine lshift_G ?a ?b ?_); (case a => omega); (case b => exact shl_ok (by omega) (by omega) (by omega)); intro v tk hv))
local macro_rules | `(tactic| walk_at "binaryOp BitXor int int") => `(tactic| ((with_reducible refine xor_G ?_); intro v tk hv))
theorem inner1 (prog : Program) (w : World) (n : Int) (tn : Tok) (dl f c' cn ci ca : Addr) (rest : List (Addr × Obj)) (qual : Str) (doc pm ctv : Value) (oc on oi oa : Obj) (vs : Array Value) (t : Tok)
    (hn : 1 ≤ n) (hn2 : n ≤ 100) 
    (hf : (f, fnMade (Str.ofString "inner") qual (defArgs inner1St.1) (defBody inner1St.1) (defScope inner1St.1) [(Str.ofString "n", cn), (Str.ofString "inner", ci), (Str.ofString "a_digits", ca)] doc pm c' ctv) ∈ rest)
    (hc : (c', oc) ∈ rest) (hc1 : oc.data = .fields vs) (hc2 : vs[1]? = some (.str qual t))
    (hcn : (cn, on) ∈ rest) (hcn1 : on.data = .cell (some (.int n tn)))
    (hci : (ci, oi) ∈ rest) (hci1 : oi.data = .cell (some (.ref f)))
    (hca : (ca, oa) ∈ rest) (hca1 : oa.data = .cell (some (.ref dl)))
    (hne : ∀ p ∈ rest, p.1 ≠ dl) : ∀ (k : Nat) (x l r : Int) (tx tl tr : Tok) (items : List Value) (ns : List Int), IntsAre items ns → 0 ≤ l → l < r → r ≤ ns.length → r - l ≤ k → 0 ≤ x → x < 1152921504606846976 → x < (2 ^ n.toNat) ^ (r - l).toNat → ns.length < 100 →
    Con prog w f [.int x tx, .int l tl, .int r tr] k (8 * k) ((dl, listOf items.toArray 0) :: rest) (fun v new => v = .none ∧ ∃ items', new = (dl, listOf items'.toArray 0) :: rest ∧ IntsAre items' (ns.take l.toNat ++ digs (2 ^ n.toNat) x (r - l).toNat ++ ns.drop r.toNat)) := by
  intro k
  induction k with
  | zero => intros; omega
  | succ k ih =>
  intro x l r tx tl tr items ns hi hl hlr hr hk hx0 hxs hx hlen
  intro p loose mean mg mb dp un gd cn' cs fa ccd cl outer A₀ base h₀ L m s Q E B F X N T hkk hdp hun hret
  have C81 := codeHd_of_K (K := hd.heap_1 w.params) (c := 85) (P := 81) (by assumption) (by kernel_rfl)
  refine wpAny_call ?_
  k_dflt (refine' code_nest ?k1 ?k2 ?k3 ?k4 ?k5 ?kA ?kF ?kK ?k6 ?k7 ?k8 ?k9 ?kB ?_ ?c2 ?c3 ?c4 ?c5; (case kA => exact rfl); (case kF => exact rfl); (case kK => assumption); (case k1 => k_asm); (case k2 => k_asm); (case k3 => k_asm); (case k4 => k_asm); (case k5 => k_asm); (case k6 => exact List.mem_cons_of_mem _ hf); (case k7 => exact codeRec_news (by k_asm) (List.mem_cons_of_mem _ hc) (by assumption) (by assumption)); (case k8 => ktr_room); (case k9 => exact BindsTo.of_eq rfl); (case c5 => decide); (case kB => exact locs rfl); (case c2 => exact rfl); (case c3 => exact rfl); (case c4 => exact rfl); k_whole; intro g' L' h' FG' F' N' B' X' T'; (try dsimp only); (try k_fold))
  dsimp only [inner1St, defScope, defBody, defArgs]
  k_steps
  · refine hret _ _ _ _ ⟨rfl, _, rfl, ?_⟩ (by k_asm) (by k_asm)
    rw [← set_spec hl (by assumption) hr hx0 hx]
    assumption
  · refine Hold.out ?_
    rename _ = Int.fdiv (l + r) _ => hmid
    rename 2 * _ ≤ l + r ∧ _ => hmid2
    rename _ = (_ - l) * n => hsh
    rename _ = Int.fdiv x _ => hup
    rename _ = Builtin.bitXor _ _ => hlo
    rename _ = _ * 2 ^ _ => hsl
    rw [hsl] at hlo
    have hfa := step_facts (r := r) (by omega) hx0 (by omega) (by omega) hsh hup hlo hx
    obtain ⟨hA, hB⟩ := mid_facts hmid2 hlr (by assumption)
    obtain ⟨elo, eup, f1, f2, f3, f4, f5, f6⟩ := hfa
    k_dflt (refine' Con.use (ih _ l _ _ _ _ items ns hi hl ?p1 ?p2 ?p3 f1 ?p5 f3 hlen) ?B ?F ?X ?N ?T ?hk ?d ?u ?_)
    case p1 => omega
    case p2 => omega
    case p3 => omega
    case p5 => omega
    case B => k_asm
    case F => k_asm
    case X => k_asm
    case N => k_asm
    case T => k_asm
    case hk => rfl
    case d => ktr_room
    case u => ktr_units
    intro r9 new9 h9 tk9 hp9 F9 N9
    obtain ⟨rfl, items9, rfl, hi9⟩ := hp9
    k_steps
    refine Hold.out ?_
    have hlen1 := fun lo => length_spec hl (Int.le_of_lt hA) (Int.le_trans (Int.le_of_lt hB) hr) (digs_length (2 ^ n.toNat) _ lo)
    k_dflt (refine' Con.use (ih _ _ r _ _ _ items9 _ hi9 ?p1 ?p2 ?p3 ?p4 f4 ?p5 f6 ?p7) ?B ?F ?X ?N ?T ?hk ?d ?u ?_)
    case p1 => omega
    case p2 => omega
    case p3 => rw [hlen1]; exact hr
    case p4 => omega
    case p5 => omega
    case p7 => rw [hlen1]; exact hlen
    case B => k_asm
    case F => k_asm
    case X => k_asm
    case N => k_asm
    case T => k_asm
    case hk => rfl
    case d => ktr_room
    case u => ktr_units
    intro r8 new8 h8 tk8 hp8 F8 N8
    obtain ⟨rfl, items8, rfl, hi8⟩ := hp8
    rw [comb_spec (two_pos _) hl (by omega) (by omega) hr elo eup rfl] at hi8
    k_steps
    exact hret _ _ _ _ ⟨rfl, _, rfl, hi8⟩ (by k_asm) (by k_asm)
end

end
section
theorem rs_C2 : True := by
  w_top off
  trivial
section
theorem fin_first {h₀ h : Heap} {L c' : Addr} {oc : Obj} {a0 a1 a3 a4 a5 a6 : Addr × Obj} {rest : List (Addr × Obj)} {P : Addr} {A B : Value} (N : News h₀ L h (a0 :: a1 :: (c', oc) :: a3 :: a4 :: a5 :: a6 :: (P, tabObj (#[] ++ #[A, B, .ref c'])) :: rest)) :
    News h₀ L h (a0 :: ([(P, tabObj #[A, B, .ref c']), (c', oc)] ++ rest)) := fun p hp => N p (by
  rw [show (#[] ++ #[A, B, .ref c'] : Array Value) = #[A, B, .ref c'] from by simp]
  simp only [List.mem_cons, List.cons_append, List.nil_append] at hp ⊢
  rcases hp with h | h | h | h <;> simp [h])
theorem fin_hit {h₀ h : Heap} {L : Addr} {a0 a1 a3 a4 a5 a6 a7 a8 : Addr × Obj} {rest : List (Addr × Obj)} (N : News h₀ L h (a0 :: a1 :: a3 :: a4 :: a5 :: a6 :: a7 :: a8 :: rest)) :
    News h₀ L h (a0 :: ([a7, a8] ++ rest)) := fun p hp => N p (by
  simp only [List.mem_cons, List.cons_append, List.nil_append] at hp ⊢
  rcases hp with h | h | h | h <;> simp [h])
theorem digits_end {B a D : Int} {m : Nat} {v : Value} {x : Int} : (List.take (Int.toNat 0) (List.replicate m x) ++ digs B a ((((List.replicate m v).length : Nat) : Int) - 0).toNat ++ List.drop ((((List.replicate m v).length : Nat) : Int)).toNat (List.replicate m x)) = digs B a m := by
  rw [List.length_replicate, show ((m : Int) - 0).toNat = m from by omega, show (m : Int).toNat = m from by omega, List.drop_eq_nil_of_le (by simp)]
  simp
theorem digits_zero {B a n : Int} {t : Tok} (ha : a = 0) (hn : 1 ≤ n) : IntsAre (List.replicate ((↑(Builtin.Int.intBits a) + n - 1).fdiv n).toNat (Value.int 0 t)) (digs B a ((↑(Builtin.Int.intBits a) + n - 1).fdiv n).toNat) := by
  have h0 : ((↑(Builtin.Int.intBits a) + n - 1).fdiv n).toNat = 0 := by
    rw [ha, show Builtin.Int.intBits 0 = 0 from rfl, Int.fdiv_eq_ediv_of_nonneg _ (by omega), Int.ediv_eq_zero_of_lt (by omega) (by omega)]
    rfl
  rw [h0]
  exact .nil
local macro_rules | `(tactic| tb_start) => `(tactic| (intro p hp; simp only [List.mem_cons, List.not_mem_nil, or_false] at hp; rcases hp with hp9 | hp9; (subst hp9; exact Or.inl (Eq.refl _)); (subst hp9; exact Or.inr (Or.inr (by (repeat (with_reducible rename And _ _ => hc; cases hc)); apply allLt_all; assumption)))))
local macro_rules | `(tactic| tb_rel) => `(tactic| (refine ⟨?_, ?_⟩; ((repeat (with_reducible rename And _ _ => hc; cases hc)); apply allLt_all; assumption); (intro p hp; simp only [List.mem_cons, List.not_mem_nil, or_false] at hp; rcases hp with hp9 | hp9; (subst hp9; k_ne); (subst hp9; k_ne))))
local macro_rules | `(tactic| walk_at "call builtin:len") => `(tactic| ((with_reducible show wpAny _ _ (call (Value.builtin "len") [Value.ref _]) _ _ _); (k_dflt (refine' len_K ?N ?m ?f ?_; (case N => k_asm); (case m => k_mem); (case f => (simp only [List.length_replicate]; omega))); intro t' tk')))
local macro_rules | `(tactic| walk_at "call ref") => `(tactic| (kn_here; (with_reducible show wpAny _ _ (call (Value.ref _) [Value.int _ _, Value.int _ _, Value.int _ _]) _ _ _); refine Hold.mk ?_))
local macro_rules | `(tactic| walk_at "binaryOp Mult ref int") => `(tactic| ((with_reducible show wpAny _ _ (binaryOp Operator.Mult (Value.ref _) (Value.int _ _)) _ _ _); (k_dflt (refine' mulRep_K ?F ?N ?m ?a ?b ?_; (case F => k_asm); (case N => k_asm); (case m => k_mem); (case a => omega); (case b => omega)); intro q' h' F' N' l1; (try k_lt l1))))
theorem int2digits (prog : Program) (w : World) (a n : Int) (ta tn : Tok) (T rest : List (Addr × Obj)) (hT : TabS 81 59 4 q81 T) (hr : ∀ p ∈ rest, p.1 ≠ 81) (hn : 1 ≤ n) (hn2 : n ≤ 100) (ha : 0 ≤ a) (has : a < 1152921504606846976) :
    Con prog w 86 [.int a ta, .int n tn] 100 1000 (T ++ rest) (fun v new => ∃ q items T', v = .ref q ∧ new = (q, listOf items.toArray 0) :: (T' ++ rest) ∧ TabOk 81 59 4 q81 T T' rest ∧ IntsAre items (digs (2 ^ n.toNat) a ((Builtin.Int.intBits a + n - 1).fdiv n).toNat) ∧ (∀ p ∈ rest, @LT.lt Nat _ p.1 q) ∧ ∀ p ∈ T', p.1 ≠ q) := by
  intro p loose mean mg mb dp un gd cn cs fa ccd cl outer A₀ base h₀ L m s Q E B F X N T9 hk hdp hun hret
  obtain ⟨hD0, hD1, hD2, hD3⟩ := digits_bounds hn hn2 ha has
  have hba := bits_fact ha has
  refine wpAny_call ?_
  k_dflt (refine' code_defC ?k1 ?k2 ?k3 ?k4 ?k5 ?kA ?kF ?kK ?k6 ?k7 ?k8 ?k9 ?kB ?kD ?_ ?c2 ?c3 ?c4; (case kA => exact rfl); (case kF => exact rfl); (case kK => assumption); (case k1 => k_asm); (case k2 => k_asm); (case k3 => k_asm); (case k4 => k_asm); (case k5 => k_asm); (case k6 => k_is); (case k7 => k_is); (case k8 => ktr_room); (case k9 => exact BindsTo.of_eq rfl); (case kB => exact rfl); (case kD => decide +kernel); (case c2 => exact rfl); (case c3 => exact rfl); (case c4 => exact rfl); k_whole; intro g' L' h' tk' cells' FG' F' N' Y' B' X' T' l1; k_cells Y'; (try simp only [List.cons_append, List.nil_append] at N'); (try dsimp only))
  have C81 := codeHd_of_K (K := hd.heap_1 w.params) (c := 85) (P := 81) (by assumption) (by kernel_rfl)
  have hq : ∀ L', qualnameIn (envOfC (Str.ofString "_int2digits") (defScope (topSt 10)) L' 86 (Value.ref 85)) (Str.ofString "inner") (Str.ofString "inner") = q81 := fun _ => rfl
  rcases hT with rfl | ⟨c', oc, vs, t, rfl, hc1, hc2, hc3⟩
  · simp only [List.cons_append, List.nil_append] at N' l1
    k_lt l1
    show wpAny _ _ _ _ _ _
    k_fold
    k_steps
    · refine Hold.out ?_
      rename _ ≠ (0 : Int) => ha0
      rename _ = Data.fields _ => hd1
      rename _ = some (Value.str _ _) => hd2
      rename News g' _ _ _ => N9
      have hD2 := hD2 ha0
      k_dflt (refine' Con.use (inner1 prog w n tn _ _ _ _ _ _ _ _ _ _ _ _ _ _ _ _ _ hn hn2 ?hf ?hc hd1 hd2 ?hcn ?hcn1 ?hci ?hci1 ?hca ?hca1 ?hne 64 a 0 _ _ _ _ _ _ (ints_replicate _ 0 _) ?p1 ?p2 ?p3 ?p4 ha has ?p5 ?p6) ?B ?F ?X (nrot2 N9) ?T ?hk ?zd ?zu ?_)
      case hf => exact List.Mem.head _
      case hc => k_mem
      case hcn => k_mem
      case hcn1 => assumption
      case hci => k_mem
      case hci1 => assumption
      case hca => k_mem
      case hca1 => assumption
      case hne => k_all
      case p1 => omega
      case p2 => simp only [List.length_replicate]; omega
      case p3 => simp only [List.length_replicate]; omega
      case p4 => simp only [List.length_replicate]; omega
      case p5 => simp only [List.length_replicate]; rw [show ((((↑(Builtin.Int.intBits a) + n - 1).fdiv n).toNat : Int) - 0).toNat = ((↑(Builtin.Int.intBits a) + n - 1).fdiv n).toNat from by omega]; exact hD3
      case p6 => simp only [List.length_replicate]; omega
      case B => k_asm
      case F => k_asm
      case X => k_asm
      case T => k_asm
      case hk => rfl
      case zd => ktr_room
      case zu => ktr_units
      intro r8 new8 h8 tk8 hp8 F8 N8
      obtain ⟨rfl, items8, rfl, hi8⟩ := hp8
      rw [digits_end] at hi8
      k_steps
      rename News h₀ L _ _ => kN
      refine hret _ _ _ _ ⟨_, _, _, rfl, rfl, ⟨.inr ⟨_, _, _, _, rfl, hd1, hd2, ?o⟩, ?w⟩, hi8, ?lt⟩ (by k_asm) (fin_first kN)
      case o => omega
      case w => tb_start
      case lt => tb_rel
      all_goals exact (0 : Int)
    · rename (a : Int) = 0 => ha0
      rename _ = Data.fields _ => hd1
      rename _ = some (Value.str _ _) => hd2
      rename News h₀ L _ _ => kN
      refine hret _ _ _ _ ⟨_, _, _, rfl, rfl, ⟨.inr ⟨_, _, _, _, rfl, hd1, hd2, ?o⟩, ?w⟩, digits_zero ha0 hn, ?lt⟩ (by k_asm) (fin_first (nrot2 kN))
      case o => omega
      case w => tb_start
      case lt => tb_rel
  · simp only [List.cons_append, List.nil_append] at N' l1
    k_lt l1
    show wpAny _ _ _ _ _ _
    k_fold
    k_steps
    · refine Hold.out ?_
      rename _ ≠ (0 : Int) => ha0
      rename News g' _ _ _ => N9
      have hD2 := hD2 ha0
      k_dflt (refine' Con.use (inner1 prog w n tn _ _ _ _ _ _ _ _ _ _ _ _ _ _ _ _ _ hn hn2 ?hf ?hc hc1 hc2 ?hcn ?hcn1 ?hci ?hci1 ?hca ?hca1 ?hne 64 a 0 _ _ _ _ _ _ (ints_replicate _ 0 _) ?p1 ?p2 ?p3 ?p4 ha has ?p5 ?p6) ?B ?F ?X (nswap N9) ?T ?hk ?zd ?zu ?_)
      case hf => exact List.Mem.head _
      case hc => k_mem
      case hcn => k_mem
      case hcn1 => assumption
      case hci => k_mem
      case hci1 => assumption
      case hca => k_mem
      case hca1 => assumption
      case hne => k_all
      case p1 => omega
      case p2 => simp only [List.length_replicate]; omega
      case p3 => simp only [List.length_replicate]; omega
      case p4 => simp only [List.length_replicate]; omega
      case p5 => simp only [List.length_replicate]; rw [show ((((↑(Builtin.Int.intBits a) + n - 1).fdiv n).toNat : Int) - 0).toNat = ((↑(Builtin.Int.intBits a) + n - 1).fdiv n).toNat from by omega]; exact hD3
      case p6 => simp only [List.length_replicate]; omega
      case B => k_asm
      case F => k_asm
      case X => k_asm
      case T => k_asm
      case hk => rfl
      case zd => ktr_room
      case zu => ktr_units
      intro r8 new8 h8 tk8 hp8 F8 N8
      obtain ⟨rfl, items8, rfl, hi8⟩ := hp8
      rw [digits_end] at hi8
      k_steps
      rename News h₀ L _ _ => kN
      refine hret _ _ _ _ ⟨_, _, _, rfl, rfl, ⟨.inr ⟨_, _, _, _, rfl, hc1, hc2, hc3⟩, ?w⟩, hi8, ?lt⟩ (by k_asm) (fin_hit kN)
      case w => exact fun p hp => .inr (.inl hp)
      case lt => tb_rel
      all_goals exact (0 : Int)
    · rename (a : Int) = 0 => ha0
      rename News h₀ L _ _ => kN
      refine hret _ _ _ _ ⟨_, _, _, rfl, rfl, ⟨.inr ⟨_, _, _, _, rfl, hc1, hc2, hc3⟩, ?w⟩, digits_zero ha0 hn, ?lt⟩ (by k_asm) (fin_hit (nswap kN))
      case w => exact fun p hp => .inr (.inl hp)
      case lt => tb_rel
end

end
section
theorem rs_C4 : True := by
  w_top off
  trivial
section
local macro_rules | `(tactic| walk_at "call ref") => `(tactic| (kn_here; (with_reducible show wpAny _ _ (call (Value.ref _) [Value.int _ _, Value.int _ _]) _ _ _); refine Hold.mk ?_))
local macro_rules | `(tactic| walk_at "binaryOp Mult int int") => `(tactic| ((with_reducible refine mul_G ?a ?_); (case a => omega); intro v tk hv; have hv2 := mul_fact hv (by omega) (by omega) (by omega) (by omega)))
local macro_rules | `(tactic| walk_at "binaryOp RShift int int") => `(tactic| ((with_reducible refine rshift_G ?a ?_); (case a => omega); intro v tk hv; have hv2 := half_fact hv))
local macro_rules | `(tactic| walk_at "binaryOp LShift int int") => `(tactic| ((with_reducible refine lshift_G ?a ?b ?_); (case a => omega); (case b => omega); intro v tk hv))
theorem inner2 (prog : Program) (w : World) (n : Int) (tn : Tok) (dl f c' cn ci ca : Addr) (rest : List (Addr × Obj)) (qual : Str) (doc pm ctv : Value) (oc on oi oa : Obj) (vs : Array Value) (t : Tok) (items : List Value) (ep : Nat) (ns : List Int)
    (hn : 1 ≤ n) (hn2 : n ≤ 100)
    (hf : (f, fnMade (Str.ofString "inner") qual (defArgs inner2St.1) (defBody inner2St.1) (defScope inner2St.1) [(Str.ofString "n", cn), (Str.ofString "inner", ci), (Str.ofString "digits", ca)] doc pm c' ctv) ∈ rest)
    (hc : (c', oc) ∈ rest) (hc1 : oc.data = .fields vs) (hc2 : vs[1]? = some (.str qual t))
    (hcn : (cn, on) ∈ rest) (hcn1 : on.data = .cell (some (.int n tn)))
    (hci : (ci, oi) ∈ rest) (hci1 : oi.data = .cell (some (.ref f)))
    (hca : (ca, oa) ∈ rest) (hca1 : oa.data = .cell (some (.ref dl)))
    (hdl : (dl, listOf items.toArray ep) ∈ rest) (hi : IntsAre items ns) (hdg : ∀ d ∈ ns, 0 ≤ d ∧ d < 2 ^ n.toNat) (hlen : ns.length < 100) : ∀ (k : Nat) (l r : Int) (tl tr : Tok), 0 ≤ l → l < r → r ≤ ns.length → r - l ≤ k →
    Con prog w f [.int l tl, .int r tr] k (8 * k) rest (fun v new => new = rest ∧ ∃ t, v = .int (valB (2 ^ n.toNat) (slc ns l r)) t) := by
  intro k
  induction k with
  | zero => intros; omega
  | succ k ih =>
  intro l r tl tr hl hlr hr hk
  intro p loose mean mg mb dp un gd cn' cs fa ccd cl outer A₀ base h₀ L m s Q E B F X N T hkk hdp hun hret
  have C81 := codeHd_of_K (K := hd.heap_1 w.params) (c := 92) (P := 88) (by assumption) (by kernel_rfl)
  refine wpAny_call ?_
  k_dflt (refine' code_nest ?k1 ?k2 ?k3 ?k4 ?k5 ?kA ?kF ?kK ?k6 ?k7 ?k8 ?k9 ?kB ?_ ?c2 ?c3 ?c4 ?c5; (case kA => exact rfl); (case kF => exact rfl); (case kK => assumption); (case k1 => k_asm); (case k2 => k_asm); (case k3 => k_asm); (case k4 => k_asm); (case k5 => k_asm); (case k6 => exact hf); (case k7 => exact codeRec_news (by k_asm) hc (by assumption) (by assumption)); (case k8 => ktr_room); (case k9 => exact BindsTo.of_eq rfl); (case c5 => decide); (case kB => exact locs rfl); (case c2 => exact rfl); (case c3 => exact rfl); (case c4 => exact rfl); k_whole; intro g' L' h' FG' F' N' B' X' T'; (try dsimp only); (try k_fold))
  dsimp only [inner2St, defScope, defBody, defArgs]
  k_steps
  · exact hret _ _ _ _ ⟨rfl, ktn_int (slc_one hl (by assumption) hr).symm⟩ (by k_asm) (by k_asm)
  · refine Hold.out ?_
    rename _ = Int.fdiv (l + r) _ => hmid
    rename 2 * _ ≤ l + r ∧ _ => hmid2
    rename _ = (_ - l) * n => hsh
    obtain ⟨hA, hB⟩ := mid_facts hmid2 hlr (by assumption)
    k_dflt (refine' Con.use (ih _ r _ _ ?p1 hB hr ?p3) ?zB ?zF ?zX ?zN ?zT ?zhk ?zd ?zu ?_)
    case p1 => omega
    case p3 => omega
    case zB => k_asm
    case zF => k_asm
    case zX => k_asm
    case zN => k_asm
    case zT => k_asm
    case zhk => rfl
    case zd => ktr_room
    case zu => ktr_units
    intro r9 new9 h9 tk9 hp9 F9 N9
    obtain ⟨rfl, t9, rfl⟩ := hp9
    have hb1 := slc_bits (n := n) (by omega) hn2 (Int.le_trans hl (Int.le_of_lt hA)) (Int.le_of_lt hB) hr hlen hdg
    k_steps
    refine Hold.out ?_
    k_dflt (refine' Con.use (ih l _ _ _ hl hA ?p1 ?p3) ?zB ?zF ?zX ?zN ?zT ?zhk ?zd ?zu ?_)
    case p1 => omega
    case p3 => omega
    case zB => k_asm
    case zF => k_asm
    case zX => k_asm
    case zN => k_asm
    case zT => k_asm
    case zhk => rfl
    case zd => ktr_room
    case zu => ktr_units
    intro r8 new8 h8 tk8 hp8 F8 N8
    obtain ⟨rfl, t8, rfl⟩ := hp8
    rename _ = valB _ _ * _ => hv9
    k_steps
    refine hret _ _ _ _ ⟨rfl, ktn_int ?_⟩ (by k_asm) (by k_asm)
    rw [hv9, slc_val (by omega) hl (Int.le_of_lt hA) (Int.le_of_lt hB) hr hsh]
end

end
section
theorem rs_C5 : True := by
  w_top off
  trivial
section
local macro_rules | `(tactic| walk_at "call builtin:len") => `(tactic| ((with_reducible show wpAny _ _ (call (Value.builtin "len") [Value.ref _]) _ _ _); (k_dflt (refine' len_K ?N ?m ?f ?_; (case N => k_asm); (case m => k_mem); (case f => omega))); intro t' tk'))
local macro_rules | `(tactic| walk_at "truthy ref") => `(tactic| ((with_reducible show wpAny _ _ (truthy (Value.ref _)) _ _ _); (k_dflt (refine' truthy_K ?N ?m ?f ?_; (case N => k_asm); (case m => k_mem); (case f => omega))); intro tk'))
local macro_rules | `(tactic| walk_at "call ref") => `(tactic| (kn_here; (with_reducible show wpAny _ _ (call (Value.ref _) [Value.int _ _, Value.int _ _]) _ _ _); refine Hold.mk ?_))
local macro_rules | `(tactic| tb_start) => `(tactic| (intro p hp; simp only [List.mem_cons, List.not_mem_nil, or_false] at hp; rcases hp with hp9 | hp9; (subst hp9; exact Or.inl (Eq.refl _)); (subst hp9; exact Or.inr (Or.inr (by (repeat (with_reducible rename And _ _ => hc; cases hc)); apply allLt_all; assumption)))))
theorem hpos_of {items : List Value} {ns : List Int} (hi : IntsAre items ns) (h : items ≠ []) : 0 < ns.length := by
  rw [← hi.length]; exact List.length_pos_iff.mpr h
theorem val_nil {items : List Value} {ns : List Int} {B : Int} {t : Tok} (hi : IntsAre items ns) (h : ¬ items ≠ []) : Value.int 0 t = Value.int (valB B ns) t := by
  have e : items = [] := Classical.byContradiction h
  have : ns.length = 0 := by rw [← hi.length, e]; rfl
  rw [List.eq_nil_of_length_eq_zero this]
  rfl
theorem digits2int (prog : Program) (w : World) (n : Int) (dl : Addr) (items : List Value) (ep : Nat) (ns : List Int) (tn : Tok) (T rest : List (Addr × Obj)) (hT : TabS 88 74 4 q88 T) (hr : ∀ p ∈ rest, p.1 ≠ 88) (hn : 1 ≤ n) (hn2 : n ≤ 100)
    (hdl : (dl, listOf items.toArray ep) ∈ rest) (hi : IntsAre items ns) (hdg : ∀ d ∈ ns, 0 ≤ d ∧ d < 2 ^ n.toNat) (hlen : ns.length < 100) :
    Con prog w 93 [.ref dl, .int n tn] 200 2000 (T ++ rest) (fun v new => ∃ t T', v = .int (valB (2 ^ n.toNat) ns) t ∧ new = T' ++ rest ∧ TabOk 88 74 4 q88 T T' rest) := by
  intro p loose mean mg mb dp un gd cn cs fa ccd cl outer A₀ base h₀ L m s Q E B F X N T9 hk hdp hun hret
  have hilen : items.length = ns.length := hi.length
  have hev : ns ≠ [] → 0 < ns.length := fun h => List.length_pos_iff.mpr h
  refine wpAny_call ?_
  k_dflt (refine' code_defC ?k1 ?k2 ?k3 ?k4 ?k5 ?kA ?kF ?kK ?k6 ?k7 ?k8 ?k9 ?kB ?kD ?_ ?c2 ?c3 ?c4; (case kA => exact rfl); (case kF => exact rfl); (case kK => assumption); (case k1 => k_asm); (case k2 => k_asm); (case k3 => k_asm); (case k4 => k_asm); (case k5 => k_asm); (case k6 => k_is); (case k7 => k_is); (case k8 => ktr_room); (case k9 => exact BindsTo.of_eq rfl); (case kB => exact rfl); (case kD => decide +kernel); (case c2 => exact rfl); (case c3 => exact rfl); (case c4 => exact rfl); k_whole; intro g' L' h' tk' cells' FG' F' N' Y' B' X' T' l1; k_cells Y'; (try simp only [List.cons_append, List.nil_append] at N'); (try dsimp only))
  have C81 := codeHd_of_K (K := hd.heap_1 w.params) (c := 92) (P := 88) (by assumption) (by kernel_rfl)
  rcases hT with rfl | ⟨c', oc, vs, t, rfl, hc1, hc2, hc3⟩
  · simp only [List.cons_append, List.nil_append] at N' l1
    k_lt l1
    show wpAny _ _ _ _ _ _
    k_fold
    k_steps
    · rename _ = Data.fields _ => hd1
      rename _ = some (Value.str _ _) => hd2
      refine Hold.out ?_
      rename News g' _ _ _ => N9
      rename items ≠ [] => hne
      have hpos := hpos_of hi hne
      k_dflt (refine' Con.use (inner2 prog w n tn _ _ _ _ _ _ _ _ _ _ _ _ _ _ _ _ _ items ep ns hn hn2 ?hf ?hc hd1 hd2 ?hcn ?hcn1 ?hci ?hci1 ?hca ?hca1 ?hdl hi hdg hlen 100 0 _ _ _ ?p1 ?p2 ?p3 ?p4) ?zB ?zF ?zX N9 ?zT ?zhk ?zd ?zu ?_)
      case hf => exact List.Mem.head _
      case hc => k_mem
      case hcn => k_mem
      case hcn1 => assumption
      case hci => k_mem
      case hci1 => assumption
      case hca => k_mem
      case hca1 => assumption
      case hdl => k_mem
      case p1 => omega
      case p2 => omega
      case p3 => omega
      case p4 => omega
      case zB => k_asm
      case zF => k_asm
      case zX => k_asm
      case zT => k_asm
      case zhk => rfl
      case zd => ktr_room
      case zu => ktr_units
      intro r8 new8 h8 tk8 hp8 F8 N8
      obtain ⟨rfl, t8, rfl⟩ := hp8
      rw [hilen, slc_all]
      k_steps
      rename News h₀ L _ _ => kN
      refine hret _ _ _ _ ⟨_, _, rfl, rfl, ⟨.inr ⟨_, _, _, _, rfl, hd1, hd2, ?o⟩, ?w⟩⟩ (by k_asm) (fin88_first kN)
      case o => omega
      case w => tb_start
    · rename _ = Data.fields _ => hd1
      rename _ = some (Value.str _ _) => hd2
      rename News h₀ L _ _ => kN
      rename ¬ items ≠ [] => hne
      refine hret _ _ _ _ ⟨_, _, val_nil hi hne, rfl, ⟨.inr ⟨_, _, _, _, rfl, hd1, hd2, ?o⟩, ?w⟩⟩ (by k_asm) (fin88_first kN)
      case o => omega
      case w => tb_start
  · simp only [List.cons_append, List.nil_append] at N' l1
    k_lt l1
    show wpAny _ _ _ _ _ _
    k_fold
    k_steps
    · refine Hold.out ?_
      rename News g' _ _ _ => N9
      rename items ≠ [] => hne
      have hpos := hpos_of hi hne
      k_dflt (refine' Con.use (inner2 prog w n tn _ _ _ _ _ _ _ _ _ _ _ _ _ _ _ _ _ items ep ns hn hn2 ?hf ?hc hc1 hc2 ?hcn ?hcn1 ?hci ?hci1 ?hca ?hca1 ?hdl hi hdg hlen 100 0 _ _ _ ?p1 ?p2 ?p3 ?p4) ?zB ?zF ?zX N9 ?zT ?zhk ?zd ?zu ?_)
      case hf => exact List.Mem.head _
      case hc => k_mem
      case hcn => k_mem
      case hcn1 => assumption
      case hci => k_mem
      case hci1 => assumption
      case hca => k_mem
      case hca1 => assumption
      case hdl => k_mem
      case p1 => omega
      case p2 => omega
      case p3 => omega
      case p4 => omega
      case zB => k_asm
      case zF => k_asm
      case zX => k_asm
      case zT => k_asm
      case zhk => rfl
      case zd => ktr_room
      case zu => ktr_units
      intro r8 new8 h8 tk8 hp8 F8 N8
      obtain ⟨rfl, t8, rfl⟩ := hp8
      rw [hilen, slc_all]
      k_steps
      rename News h₀ L _ _ => kN
      refine hret _ _ _ _ ⟨_, _, rfl, rfl, ⟨.inr ⟨_, _, _, _, rfl, hc1, hc2, hc3⟩, ?w⟩⟩ (by k_asm) (fin88_hit kN)
      case w => exact fun p hp => .inr (.inl hp)
    · rename News h₀ L _ _ => kN
      rename ¬ items ≠ [] => hne
      refine hret _ _ _ _ ⟨_, _, val_nil hi hne, rfl, ⟨.inr ⟨_, _, _, _, rfl, hc1, hc2, hc3⟩, ?w⟩⟩ (by k_asm) (fin88_hit kN)
      case w => exact fun p hp => .inr (.inl hp)
end

end
section
theorem rs_C6 : True := by
  w_top off
  trivial
inductive DmI (a b : Int) (ql da : Addr) (items : List Value) (XX : List (Addr × Obj)) (r : List Value) (m : Str → Option Value) (news : List (Addr × Obj)) : Prop
  | mk (rs : List Int) (V rr : Int) (tr tn tb' : Tok) (qi : List Value) (qs : List Int) (ep : Nat) (e1 : IntsAre r rs) (e2 : (∀ d ∈ rs, 0 ≤ d ∧ d < 2 ^ (Builtin.Int.intBits b : Int).toNat)) (e3 : 0 ≤ V) (e4 : rr = V % b) (e5 : hornB (2 ^ (Builtin.Int.intBits b : Int).toNat) V rs = a) (e6 : IntsAre qi qs) (e7 : (∀ d ∈ qs, 0 ≤ d ∧ d < 2 ^ (Builtin.Int.intBits b : Int).toNat)) (e8 : valB (2 ^ (Builtin.Int.intBits b : Int).toNat) qs.reverse = V / b) (e9 : m (Str.ofString "n") = some (.int (Builtin.Int.intBits b : Int) tn)) (e10 : m (Str.ofString "b") = some (.int b tb')) (e11 : m (Str.ofString "r") = some (.int rr tr)) (e12 : m (Str.ofString "q_digits") = some (.ref ql)) (e13 : qs.length + rs.length < 100) (e14 : news = (ql, listOf qi.toArray ep) :: (da, listOf items.toArray 0) :: XX)
section
local macro_rules | `(tactic| walk_at "call ref") => `(tactic| ((with_reducible first | show wpAny _ _ (call (Value.ref 86) _) _ _ _ | show wpAny _ _ (call (Value.ref 72) _) _ _ _ | show wpAny _ _ (call (Value.ref 93) _) _ _ _); refine Hold.mk ?_))
local macro_rules | `(tactic| walk_at "pyIter ref") => `(tactic| (refine Hold.mk ?_))
theorem turn_bits {rr b nb d v : Int} (h0 : 0 ≤ rr) (h1 : rr < b) (hb : b < 1073741824) (hn : 0 ≤ nb) (hn2 : nb ≤ 30) (hd : 0 ≤ d ∧ d < 2 ^ nb.toNat) (hv : v = rr * 2 ^ nb.toNat) : 0 ≤ v + d ∧ (Builtin.Int.intBits (v + d) : Int) < 4000 := by
  have hB : (0 : Int) < 2 ^ nb.toNat := two_pos _
  have hv0 : 0 ≤ v := by rw [hv]; exact Int.mul_nonneg h0 (Int.le_of_lt hB)
  have hB2 : (2 : Int) ^ nb.toNat ≤ 2 ^ 30 := by
    have h := Nat.pow_le_pow_right (n := 2) (by decide) (show nb.toNat ≤ 30 by omega)
    exact_mod_cast h
  have hv1 : v ≤ 1073741824 * 2 ^ 30 := by
    rw [hv]
    calc rr * 2 ^ nb.toNat ≤ 1073741824 * 2 ^ nb.toNat := Int.mul_le_mul_of_nonneg_right (by omega) (Int.le_of_lt hB)
      _ ≤ 1073741824 * 2 ^ 30 := Int.mul_le_mul_of_nonneg_left hB2 (by decide)
  have := intBits_lt (v := v + d) (k := 64) (by omega) (by omega)
  exact ⟨by omega, by omega⟩
local macro_rules | `(tactic| walk_at "call builtin:list.reverse") => `(tactic| ((with_reducible show wpAny _ _ (call (Value.builtin _) [Value.ref _]) _ _ _); k_dflt (refine' kl_reverse ?F ?N ?e ?U ?z ?_; (case F => k_asm); (case N => k_asm); (case U => k_upd); (case e => exact congrArg List.reverse (List.toList_toArray ..)); (case z => (rw [sizeLine_eq]; (try simp only [List.toList_toArray]); omega))); intro h' F' N'))
local macro_rules | `(tactic| walk_at "UnrEnd") => `(tactic| (refine Hold.mk ?_))
local macro_rules | `(tactic| walk_at "binaryOp LShift int int") => `(tactic| ((with_reducible refine lshift_G ?a ?b ?_); (case a => omega); (case b => exact shl_ok (by omega) (by omega) (by omega)); intro v tk hv))
theorem divmod_pos (prog : Program) (w : World) (a b : Int) (ta tb : Tok) (T1 T2 rest : List (Addr × Obj)) (hT : Tabs T1 T2 rest)
    (ha : 0 ≤ a) (has : a < 1152921504606846976) (hb : 1 ≤ b) (hbs : b < 1073741824) :
    Con prog w 100 [.int a ta, .int b tb] 300 3000 (T1 ++ (T2 ++ rest)) (fun v new => ∃ r t1 t2 T1' T2', v = .ref r ∧ new = (r, tup2 (.int (a / b) t1) (.int (a % b) t2)) :: (T1' ++ (T2' ++ rest)) ∧ Tabs T1' T2' rest ∧ (∀ p ∈ T1' ++ T2', p.1 ≠ r) ∧ ∀ p ∈ rest, @LT.lt Nat _ p.1 r) := by
  intro p loose mean mg mb dp un gd cn cs fa ccd cl outer A₀ base h₀ L m s Q E B F X N T9 hk hdp hun hret
  refine wpAny_call ?_
  k_dflt ktr_enter
  k_steps
  refine Hold.out ?_
  have hn1 := bits_pos hb
  have hn2 := bits_30 hb hbs
  k_dflt (refine' Con.use (int2digits prog w a (Builtin.Int.intBits b : Int) _ _ T1 (T2 ++ rest) hT.1 ?hr hn1 (by omega) ha has) ?zB ?zF ?zX ?zN ?zT ?zhk ?zd ?zu ?_)
  case hr => exact hT.ne81
  case zB => k_asm
  case zF => k_asm
  case zX => k_asm
  case zN => k_asm
  case zT => k_asm
  case zhk => rfl
  case zd => ktr_room
  case zu => ktr_units
  intro r9 new9 h9 tk9 hp9 F9 N9
  obtain ⟨da, items, T1', rfl, rfl, hT1', hi9, hlt, hne9⟩ := hp9
  generalize hXE : T1' ++ (T2 ++ rest) = XX at N9
  have hTb := hT.step1 hT1'
  k_steps
  refine Hold.out ?_
  have hB : (0 : Int) < 2 ^ (Builtin.Int.intBits b : Int).toNat := two_pos _
  rename_i ql hA lA hB' DD hC FF NN lB
  k_dflt (refine' iter_revUnr (lo := listOf items.toArray 0) (vs := items) (n := 0) rfl ?rF ?rN ?rO ?rM rfl rfl ?_)
  case rF => k_asm
  case rN => k_asm
  case rO => refine offI_of ?_; k_all
  case rM => k_mem
  refine revRest_ind (DmI a b ql da items XX) ?step ?done _ _ _ ?init
  case init =>
    refine ⟨_, 0, 0, _, _, _, [], [], 0, ints_reverse hi9, fun d hd => digs_range hB _ _ d (List.mem_reverse.mp hd), Int.le_refl _, (Int.zero_emod b).symm, ?i1, .nil, fun _ h => (nomatch h), (Int.zero_ediv b).symm, rfl, rfl, rfl, rfl, ?i2, rfl⟩
    case i1 => rw [hornB_rev, valB_digs hB _ _ ha (digits_bounds hn1 (by omega) ha has).2.2.2]
    case i2 =>
      have := (digits_bounds hn1 (by omega) ha has).2.1
      rw [List.length_reverse, digs_length, List.length_nil]
      omega
  case step =>
    rintro v r m news it h tk ⟨rs, V, rr, tr, tn, tb', qi, qs, ep, h1, h2, h3, h4, h5, h6, h7, h8, m1, m2, m3, m4, h9, rfl⟩ hcls F N
    obtain ⟨d, td, rs', rfl, rfl, h1'⟩ := ints_inv h1
    have hd := h2 d (.head _)
    have hrr0 : 0 ≤ rr := by rw [h4]; exact Int.emod_nonneg _ (by omega)
    have hrr1 : rr < b := by rw [h4]; exact Int.emod_lt_of_pos _ (by omega)
    k_steps
    refine Hold.out ?_
    rename_i vv tkv hv
    have htb := turn_bits hrr0 hrr1 hbs (by omega) hn2 hd hv
    rw [h4] at hv
    have htf := turn_facts (V := V) (d := d) hB (show 0 < b by omega) h3 hd rfl rfl
    rw [← hv] at htf
    k_dflt (refine' Con.use (div2n1n prog w _ b _ _ _ _ _ ?q1 ?q2 ?q3 htb.2) ?zB ?zF ?zX ?zN ?zT ?zhk ?zd ?zu ?_)
    case q1 => omega
    case q2 => omega
    case q3 => omega
    case zB => k_asm
    case zF => k_asm
    case zX => k_asm
    case zN => k_asm
    case zT => k_asm
    case zhk => rfl
    case zd => ktr_room
    case zu => ktr_units
    intro r8 new8 h8' tk8 hp8 F8 N8
    obtain ⟨q8, t8, u8, rfl, rfl, l8⟩ := hp8
    k_lt l8
    obtain ⟨f1, f2, f3, f4, f5⟩ := htf
    k_steps
    refine Hold.out ?_
    rename News _ _ _ ((q8, _) :: _) => N7
    simp only [List.push_toArray] at N7
    refine UnrEnd.intro (by k_asm) N7 ((ql, listOf (qi ++ [Value.int ((vv + d).fdiv b) t8]).toArray (ep + 1)) :: (da, listOf items.toArray 0) :: XX) ?sub ?off ⟨List.Mem.tail _ (List.Mem.head _), rs', V * 2 ^ (Builtin.Int.intBits b : Int).toNat + d, (vv + d).fmod b, u8, tn, tb', qi ++ [Value.int ((vv + d).fdiv b) t8], qs ++ [(vv + d).fdiv b], ep + 1, h1', fun e he => h2 e (.tail _ he), f5, f1, h5, ints_append h6 (.cons _ _ .nil), ?r1, ?r2, ?r3, ?r4, rfl, ?r5, ?r6, rfl⟩
    case sub =>
      intro p hp
      simp only [List.mem_cons] at hp ⊢
      rcases hp with hp | hp | hp | hp <;> simp [hp]
    case off => k_all
    case r1 =>
      intro e he
      rcases List.mem_append.mp he with he | he
      · exact h7 e he
      · rw [List.mem_singleton.mp he]; exact ⟨f3, f4⟩
    case r2 => rw [List.reverse_append, List.reverse_singleton, List.singleton_append, valB, h8]; exact f2
    case r3 => assumption
    case r4 => assumption
    case r5 => assumption
    case r6 => simp only [List.length_append, List.length_cons, List.length_nil] at h9 ⊢; omega
  case done =>
    rintro m news h tk ⟨rs, V, rr, tr, tn, tb', qi, qs, ep, h1, h2, h3, h4, h5, h6, h7, h8, m1, m2, m3, m4, h9, rfl⟩ F N
    have hrs := ints_nil h1
    subst hrs
    have hVa : V = a := h5
    have hqil : qi.length < 100 := by rw [h6.length]; simp only [List.length_nil] at h9; omega
    dsimp only
    k_steps
    refine Hold.out ?_
    rename News _ _ _ ((ql, _) :: _) => N5
    rw [← hXE] at N5 lA
    have hql := allLt_all lA.2
    obtain ⟨o88, ho88⟩ := hTb.2.1.has
    have h88 : @LT.lt Nat _ 88 ql := hql _ (List.mem_append_right _ (List.mem_append_left _ ho88))
    have h88d : @LT.lt Nat _ 88 da := hlt _ (List.mem_append_left _ ho88)
    k_dflt (refine' Con.use (digits2int prog w (Builtin.Int.intBits b : Int) ql qi.reverse ep qs.reverse _ T2 ((ql, listOf qi.reverse.toArray ep) :: (da, listOf items.toArray 0) :: (T1' ++ rest)) hTb.2.1 ?q1 hn1 ?q2 (List.Mem.head _) (ints_reverse h6) ?q3 ?q4) ?zB ?zF ?zX ?zN ?zT ?zhk ?zd ?zu ?_)
    case q1 =>
      intro p hp
      rcases List.mem_cons.mp hp with rfl | hp
      · exact Nat.ne_of_gt h88
      · rcases List.mem_cons.mp hp with rfl | hp
        · exact Nat.ne_of_gt h88d
        · exact hTb.ne88 p hp
    case q2 => omega
    case q3 => exact fun e he => h7 e (List.mem_reverse.mp he)
    case q4 => rw [List.length_reverse]; simp only [List.length_nil] at h9; omega
    case zN =>
      intro p hp
      refine N5 p ?_
      simp only [List.mem_append, List.mem_cons] at hp ⊢
      rcases hp with h | h | h | h | h <;> simp [h]
    case zB => k_asm
    case zF => k_asm
    case zX => k_asm
    case zT => k_asm
    case zhk => rfl
    case zd => ktr_room
    case zu => ktr_units
    intro r8 new8 h8' tk8 hp8 F8 N8
    obtain ⟨t8, T2', rfl, rfl, hT2'⟩ := hp8
    rw [h8, hVa]
    rw [hVa] at h4
    subst h4
    k_steps
    rename_i lD kF kN kT kX
    refine hret _ _ _ _ ⟨_, t8, tr, T1', T2', rfl, rfl, hTb.step2 hT2' ?s1, ?s2, ?s3⟩ (by k_asm) ?s4
    case s1 => exact fun p hp => .tail _ (.tail _ hp)
    case s2 =>
      intro p hp
      refine Nat.ne_of_lt (lD p ?_)
      simp only [List.mem_append, List.mem_cons] at hp ⊢
      rcases hp with h | h <;> simp [h]
    case s3 =>
      intro p hp
      refine lD p ?_
      simp only [List.mem_append, List.mem_cons]
      simp [hp]
    case s4 =>
      intro p hp
      refine kN p ?_
      simp only [List.mem_append, List.mem_cons] at hp ⊢
      rcases hp with h | h | h | h <;> simp [h]
end

end
section
theorem rs_C7 : True := by
  w_top off
  trivial
noncomputable def DM (rest : List (Addr × Obj)) (x y : Int) (v : Value) (new : List (Addr × Obj)) : Prop :=
  ∃ r t1 t2 T1' T2', v = .ref r ∧ new = (r, tup2 (.int x t1) (.int y t2)) :: (T1' ++ (T2' ++ rest)) ∧ Tabs T1' T2' rest ∧ (∀ p ∈ T1' ++ T2', p.1 ≠ r) ∧ ∀ p ∈ rest, @LT.lt Nat _ p.1 r
theorem ndrop2 {h₀ h : Heap} {L : Addr} {a b : Addr × Obj} {r : List (Addr × Obj)} (N : News h₀ L h (a :: b :: r)) : News h₀ L h (a :: r) := fun p hp => N p (by
  rcases List.mem_cons.mp hp with h | h
  · exact h ▸ List.Mem.head _
  · exact List.Mem.tail _ (List.Mem.tail _ h))
theorem DM.mk {rest : List (Addr × Obj)} {x y : Int} {r : Addr} {T1' T2' : List (Addr × Obj)} (t1 t2 : Tok) (h1 : Tabs T1' T2' rest) (h2 : ∀ p ∈ T1' ++ T2', p.1 ≠ r) (h3 : ∀ p ∈ rest, @LT.lt Nat _ p.1 r) : DM rest x y (.ref r) ((r, tup2 (.int x t1) (.int y t2)) :: (T1' ++ (T2' ++ rest))) :=
  ⟨r, t1, t2, T1', T2', rfl, rfl, h1, h2, h3⟩
section
local macro_rules | `(tactic| walk_at "call ref") => `(tactic| ((with_reducible show wpAny _ _ (call (Value.ref 100) _) _ _ _); refine Hold.mk ?_))
theorem int_divmod0 (prog : Program) (w : World) (a b : Int) (ta tb : Tok) (T1 T2 rest : List (Addr × Obj)) (hT : Tabs T1 T2 rest)
    (ha : 0 ≤ a) (has : a < 1152921504606846976) (hb : 1 ≤ b) (hbs : b < 1073741824) :
    Con prog w 107 [.int a ta, .int b tb] 310 3100 (T1 ++ (T2 ++ rest)) (DM rest (a / b) (a % b)) := by
  intro p loose mean mg mb dp un gd cn cs fa ccd cl outer A₀ base h₀ L m s Q E B F X N T9 hk hdp hun hret
  refine wpAny_call ?_
  k_dflt ktr_enter
  have hb0 : b ≠ 0 := by omega
  k_steps
  · omega
  refine Hold.out ?_
  k_dflt (refine' Con.use (divmod_pos prog w a b _ _ T1 T2 rest hT ha has hb hbs) ?zB ?zF ?zX ?zN ?zT ?zhk ?zd ?zu ?_)
  case zB => k_asm
  case zF => k_asm
  case zX => k_asm
  case zN => k_asm
  case zT => k_asm
  case zhk => rfl
  case zd => ktr_room
  case zu => ktr_units
  intro r8 new8 h8' tk8 hp8 F8 N8
  obtain ⟨r, t1, t2, T1', T2', rfl, rfl, h1, h2, h3⟩ := hp8
  k_steps
  exact hret _ _ _ _ (DM.mk t1 t2 h1 h2 h3) (by k_asm) (by k_asm)
end
section
local macro_rules | `(tactic| walk_at "call ref") => `(tactic| ((with_reducible show wpAny _ _ (call (Value.ref 107) _) _ _ _); refine Hold.mk ?_))
theorem not_facts {a b : Int} (hb : 0 < b) : Builtin.bitNot (Builtin.bitNot a / b) = a / b ∧ b + Builtin.bitNot (Builtin.bitNot a % b) = a % b := by
  have e : ∀ x, Builtin.bitNot x = -x - 1 := fun x => by
    unfold Builtin.bitNot; omega
  rw [e, e, e]
  have h1 := Int.mul_ediv_add_emod (-a - 1) b
  have h2 := Int.emod_nonneg (-a - 1) (Int.ne_of_gt hb)
  have h3 := Int.emod_lt_of_pos (-a - 1) hb
  generalize (-a - 1) % b = r at h1 h2 h3 ⊢
  generalize (-a - 1) / b = q at h1 ⊢
  have key : a = (b - r - 1) + b * (-q - 1) := by
    rw [Int.mul_sub, Int.mul_neg]
    omega
  have hr : (b - r - 1) / b = 0 := Int.ediv_eq_zero_of_lt (by omega) (by omega)
  constructor
  · rw [key, Int.add_mul_ediv_left _ _ (Int.ne_of_gt hb), hr]
    omega
  · rw [key, Int.add_mul_emod_self_left, Int.emod_eq_of_lt (by omega) (by omega)]
    omega
local macro_rules | `(tactic| walk_at "pad 3") => `(tactic| skip)
theorem int_divmodN (prog : Program) (w : World) (a b : Int) (ta tb : Tok) (T1 T2 rest : List (Addr × Obj)) (hT : Tabs T1 T2 rest)
    (ha : a < 0) (has : -1152921504606846976 < a) (hb : 1 ≤ b) (hbs : b < 1073741824) :
    Con prog w 107 [.int a ta, .int b tb] 320 3200 (T1 ++ (T2 ++ rest)) (DM rest (a / b) (a % b)) := by
  intro p loose mean mg mb dp un gd cn cs fa ccd cl outer A₀ base h₀ L m s Q E B F X N T9 hk hdp hun hret
  refine wpAny_call ?_
  k_dflt ktr_enter
  have hb0 : b ≠ 0 := by omega
  k_steps
  · omega
  refine Hold.out ?_
  have hn : Builtin.bitNot a = -a - 1 := by unfold Builtin.bitNot; omega
  k_dflt (refine' Con.use (int_divmod0 prog w (Builtin.bitNot a) b _ _ T1 T2 rest hT (by omega) (by omega) hb hbs) ?zB ?zF ?zX ?zN ?zT ?zhk ?zd ?zu ?_)
  case zB => k_asm
  case zF => k_asm
  case zX => k_asm
  case zN => k_asm
  case zT => k_asm
  case zhk => rfl
  case zd => ktr_room
  case zu => ktr_units
  intro r8 new8 h8' tk8 hp8 F8 N8
  obtain ⟨r, t1, t2, T1', T2', rfl, rfl, h1, h2, h3⟩ := hp8
  have hf := not_facts (a := a) (b := b) (by omega)
  k_steps
  rename_i l1 kF kN kT kX
  rw [hf.1, hf.2] at kN
  exact hret _ _ _ _ (DM.mk _ _ h1 (fun p hp => Nat.ne_of_lt (allLt_all l1.2 p (by simp only [List.mem_append] at hp ⊢; rcases hp with h | h <;> simp [h]))) (fun p hp => allLt_all l1.2 p (by simp only [List.mem_append]; simp [hp]))) (by k_asm) (ndrop2 kN)
/-- int_divmod: floor division -/
theorem int_divmod (prog : Program) (w : World) (a b : Int) (ta tb : Tok) (T1 T2 rest : List (Addr × Obj)) (hT : Tabs T1 T2 rest)
    (has : -1152921504606846976 < a ∧ a < 1152921504606846976) (hb : 1 ≤ b) (hbs : b < 1073741824) :
    Con prog w 107 [.int a ta, .int b tb] 320 3200 (T1 ++ (T2 ++ rest)) (DM rest (a / b) (a % b)) := by
  by_cases ha : a < 0
  · exact int_divmodN prog w a b ta tb T1 T2 rest hT ha has.1 hb hbs
  · intro p loose mean mg mb dp un gd cn cs fa ccd cl outer A₀ base h₀ L m s Q E B F X N T9 hk hdp hun hret
    exact int_divmod0 prog w a b ta tb T1 T2 rest hT (by omega) has.2 hb hbs p loose mean mg mb dp un gd cn cs fa ccd cl outer A₀ base h₀ L m s Q E B F X N T9 hk (by omega) (by omega) hret
end

end
section
theorem rs_C8 : True := by
  w_top off
  trivial
section
variable {prog : Program} {w : World} {A : Around} {E : Value → Shared → Prop} {env : Env} {test : PySem.Expr} {body orelse : List Stmt} {Q : Flow → Shared → Prop}
noncomputable def WInd (J : Nat → Shared → Prop) (n : Nat) (Q : Flow → Shared → Prop) (f : Flow) (s : Shared) : Prop := match f with
  | .next => ∃ n', n' < n ∧ J n' s
  | .cont => ∃ n', n' < n ∧ J n' s
  | .brk => Q .next s
  | .ret v => Q (.ret v) s
theorem WInd.next {J : Nat → Shared → Prop} {n : Nat} {s : Shared} (n' : Nat) (h : n' < n) (j : J n' s) : WInd J n Q .next s := ⟨n', h, j⟩
theorem whl_ind (hE : PassesOwn (model prog w) A env E) (J : Nat → Shared → Prop)
    (step : ∀ n s, J n s → wpAny (model prog w) A (isTrue test env (eval test env)) (fun b s₂ => if b = true then wpAny (model prog w) A (execs body env) (fun f s₃ => Hold (WInd J n Q f s₃)) E s₂ else wpAny (model prog w) A (execs orelse env) Q E s₂) E s) :
    ∀ n s, J n s → WhlRest prog w A E env test body orelse Q 0 s := by
  have all : ∀ k n, n < k → ∀ s, J n s → WhlRest prog w A E env test body orelse Q 0 s := by
    intro k
    induction k with
    | zero => intro n h; exact absurd h (Nat.not_lt_zero _)
    | succ k ih =>
      intro n hn s hJ
      refine whl_turn (k := 0) hE (wpAny_mono (step n s hJ) (fun b s₂ h₂ => ?_) fun _ _ e => e)
      cases b with
      | false => exact WhlIf.no rfl ((if_neg Bool.false_ne_true).mp h₂)
      | true =>
        have h₂ := (if_pos (rfl : true = true)).mp h₂
        refine WhlIf.yes rfl (wpAny_mono h₂ (fun f s₃ h₃ => ?_) fun _ _ e => e)
        cases f with
        | next => obtain ⟨n', hn', hJ'⟩ := h₃; exact ih n' (Nat.lt_of_lt_of_le hn' (Nat.le_of_lt_succ hn)) _ hJ'
        | cont => obtain ⟨n', hn', hJ'⟩ := h₃; exact ih n' (Nat.lt_of_lt_of_le hn' (Nat.le_of_lt_succ hn)) _ hJ'
        | brk => exact h₃
        | ret v => exact h₃
  exact fun n => all (n + 1) n (Nat.lt_succ_self n)
theorem whl_go {pos : Pos} {s : Shared} (hE : PassesOwn (model prog w) A env E) (J : Nat → Shared → Prop) (n : Nat)
    (init : J n s)
    (step : ∀ n s, J n s → wpAny (model prog w) A (isTrue test env (eval test env)) (fun b s₂ => if b = true then wpAny (model prog w) A (execs body env) (fun f s₃ => Hold (WInd J n Q f s₃)) E s₂ else wpAny (model prog w) A (execs orelse env) Q E s₂) E s) :
    wpAny (model prog w) A (exec (.While test body orelse pos) env) Q E s := whl_start 0 (whl_ind hE J step n s init)
end
section
local macro_rules | `(tactic| walk_at "call ref") => `(tactic| ((with_reducible show wpAny _ _ (call (Value.ref 107) _) _ _ _); refine Hold.mk ?_))
local macro_rules | `(tactic| walk_at "exec While") => `(tactic| (refine Hold.mk ?_))
local macro_rules | `(tactic| walk_at "exec While Compare") => `(tactic| (refine Hold.mk ?_))
local macro_rules | `(tactic| walk_at "exec While Compare cons nil") => `(tactic| (refine Hold.mk ?_))
/-- what holds between the turns of Euclid's way -/
noncomputable def EuI (p m hi lo tu ot : Int) : Prop := 1 ≤ hi ∧ hi < 65536 ∧ 1 ≤ lo ∧ lo < 65536 ∧ (m ∣ tu * p - hi) ∧ (m ∣ ot * p - lo) ∧ Int.gcd hi lo = 1 ∧ (tu.natAbs : Int) * lo + ot.natAbs * hi ≤ m
theorem EuI.init {p m : Int} (hp : 1 ≤ p ∧ p < 65536) (hm : 2 ≤ m ∧ m < 65536) (hg : Int.gcd p m = 1) : EuI p m p m 1 0 := by
  refine ⟨hp.1, hp.2, by omega, hm.2, ⟨0, by omega⟩, ⟨-1, by omega⟩, hg, ?_⟩
  simp
theorem EuI.step {p m hi lo tu ot : Int} (h : EuI p m hi lo tu ot) (hl : 1 < lo) : EuI p m lo (hi % lo) ot (tu - hi / lo * ot) ∧ (hi % lo).toNat < lo.toNat := by
  obtain ⟨e1, e2, e3, e4, e5, e6, e7, e8⟩ := h
  have hd := Int.mul_ediv_add_emod hi lo
  have h0 := Int.emod_nonneg hi (show lo ≠ 0 by omega)
  have h1 := Int.emod_lt_of_pos hi (show 0 < lo by omega)
  have hq := Int.ediv_nonneg (show 0 ≤ hi by omega) (show 0 ≤ lo by omega)
  have hg : Int.gcd lo (hi % lo) = 1 := by rw [Int.emod_def, Int.gcd_sub_mul_left_right, Int.gcd_comm]; exact e7
  have hne : hi % lo ≠ 0 := by
    intro h
    rw [h, Int.gcd_zero_right] at hg
    omega
  refine ⟨⟨e3, e4, by omega, by omega, e6, ?_, hg, ?_⟩, by omega⟩
  · obtain ⟨x, hx⟩ := e5
    obtain ⟨y, hy⟩ := e6
    refine ⟨x - hi / lo * y, ?_⟩
    rw [Int.mul_sub, ← hx, Int.sub_mul, show m * (hi / lo * y) = hi / lo * (m * y) from by rw [Int.mul_left_comm], ← hy, Int.mul_sub, Int.mul_assoc, Int.mul_comm (hi / lo) lo]
    omega
  · have hb : ((tu - hi / lo * ot).natAbs : Int) ≤ tu.natAbs + hi / lo * ot.natAbs := by
      have h2 : (tu - hi / lo * ot).natAbs ≤ tu.natAbs + (hi / lo * ot).natAbs := Int.natAbs_sub_le ..
      have h3 : ((hi / lo * ot).natAbs : Int) = hi / lo * ot.natAbs := by rw [Int.natAbs_mul]; simp [Int.natAbs_of_nonneg hq]
      omega
    have h4 : ((tu - hi / lo * ot).natAbs : Int) * lo ≤ (tu.natAbs + hi / lo * ot.natAbs) * lo := Int.mul_le_mul_of_nonneg_right hb (by omega)
    have h5 : (tu.natAbs + hi / lo * ot.natAbs) * lo = tu.natAbs * lo + ot.natAbs * (lo * (hi / lo)) := by
      rw [Int.add_mul, Int.mul_comm (hi / lo) (ot.natAbs : Int), Int.mul_assoc, Int.mul_comm (hi / lo) lo]
    have h6 : (ot.natAbs : Int) * (hi % lo) = ot.natAbs * hi - ot.natAbs * (lo * (hi / lo)) := by
      rw [← Int.mul_sub]
      congr 1
      omega
    omega
theorem EuI.last {p m hi lo tu ot : Int} (h : EuI p m hi lo tu ot) (hl : ¬ 1 < lo) : m ∣ ot * p - 1 ∧ ot.natAbs < 65536 + m.natAbs := by
  obtain ⟨e1, e2, e3, e4, e5, e6, e7, e8⟩ := h
  have : lo = 1 := by omega
  subst this
  refine ⟨e6, ?_⟩
  have h2 : (ot.natAbs : Int) * 1 ≤ ot.natAbs * hi := Int.mul_le_mul_of_nonneg_left e1 (by omega)
  omega
theorem both_facts {f p s m ot N : Int} (hp : 1 ≤ p) (hm : 2 ≤ m) (h : m ∣ ot * p - 1) (hN : N = f + p * ((s - f) * ot % m)) : N % p = f % p ∧ N % m = s % m ∧ f ≤ N ∧ N < f + p * m := by
  subst hN
  have h0 := Int.emod_nonneg ((s - f) * ot) (show m ≠ 0 by omega)
  have h1 := Int.emod_lt_of_pos ((s - f) * ot) (show 0 < m by omega)
  have hd := Int.mul_ediv_add_emod ((s - f) * ot) m
  refine ⟨Int.add_mul_emod_self_left .., ?_, ?_, ?_⟩
  · apply Int.emod_eq_emod_iff_emod_sub_eq_zero.mpr
    apply Int.emod_eq_zero_of_dvd
    obtain ⟨c, hc⟩ := h
    refine ⟨(s - f) * c - p * ((s - f) * ot / m), ?_⟩
    have e1 : (s - f) * ot % m = (s - f) * ot - m * ((s - f) * ot / m) := by omega
    rw [e1, Int.mul_sub, Int.mul_sub, show m * ((s - f) * c) = (s - f) * (m * c) from Int.mul_left_comm .., ← hc, show m * (p * ((s - f) * ot / m)) = p * (m * ((s - f) * ot / m)) from Int.mul_left_comm .., Int.mul_sub, show p * ((s - f) * ot) = (s - f) * (ot * p) from by rw [Int.mul_left_comm, Int.mul_comm p ot]]
    omega
  · have := Int.mul_nonneg (show 0 ≤ p by omega) h0
    omega
  · have : p * ((s - f) * ot % m) < p * m := Int.mul_lt_mul_of_pos_left h1 (by omega)
    omega
theorem arg_bound {s f m ot v : Int} (hs : 0 ≤ s ∧ s < 65536) (hf : 0 ≤ f ∧ f < 65536) (hm : 2 ≤ m ∧ m < 65536) (ho : ot.natAbs < 65536 + m.natAbs) (hv : v = (s - f) * ot) : -1152921504606846976 < v ∧ v < 1152921504606846976 := by
  have h : v.natAbs ≤ 65536 * 131072 := by
    rw [hv, Int.natAbs_mul]
    exact Nat.mul_le_mul (by omega) (by omega)
  omega
local macro_rules | `(tactic| walk_at "binaryOp Mult int int") => `(tactic| ((with_reducible refine mul_G ?a ?_); (case a => omega); intro v tk hv))
inductive LbI (f p s m : Int) (rest : List (Addr × Obj)) (g : Heap) (L' : Addr) (st : Shared) (n : Nat) (s' : Shared) : Prop
  | mk (hi lo tu ot : Int) (t1 t2 t3 t4 t5 t6 t7 t8 : Tok) (mp : Str → Option Value) (h : Heap) (tk : Nat) (T1 T2 : List (Addr × Obj)) (e1 : s' = { st with heap := h, toks := tk }) (e2 : Tabs T1 T2 rest) (e3 : Fr g L' h mp) (e4 : News g L' h (T1 ++ (T2 ++ rest))) (e5 : mp (Str.ofString "first") = some (.int f t1)) (e6 : mp (Str.ofString "product") = some (.int p t2)) (e7 : mp (Str.ofString "share") = some (.int s t3)) (e8 : mp (Str.ofString "modulus") = some (.int m t4)) (e9 : mp (Str.ofString "high") = some (.int hi t5)) (e10 : mp (Str.ofString "low") = some (.int lo t6)) (e11 : mp (Str.ofString "turns") = some (.int tu t7)) (e12 : mp (Str.ofString "others") = some (.int ot t8)) (e13 : n = lo.toNat) (e14 : EuI p m hi lo tu ot)
theorem whl_goR {prog : Program} {w : World} {A : Around} {E : Value → Shared → Prop} {env : Env} {test : PySem.Expr} {body orelse : List Stmt} {Q : Flow → Shared → Prop} {pos : Pos} {s : Shared} (hE : PassesOwn (model prog w) A env E) (J : Nat → Shared → Prop) (n : Nat)
    (init : J n s)
    (step : ∀ n s, J n s → ∀ (R : Flow → Shared → Prop) (O : Shared → Prop), (∀ f s, WInd J n Q f s → R f s) → (∀ s, wpAny (model prog w) A (execs orelse env) Q E s → O s) → wpAny (model prog w) A (isTrue test env (eval test env)) (fun b s₂ => if b = true then wpAny (model prog w) A (execs body env) (fun f s₃ => Hold (R f s₃)) E s₂ else Hold (O s₂)) E s) :
    wpAny (model prog w) A (exec (.While test body orelse pos) env) Q E s :=
  whl_go hE J n init fun n s j => step n s j (WInd J n Q) (fun s => wpAny (model prog w) A (execs orelse env) Q E s) (fun _ _ h => h) (fun _ h => h)
theorem law_both (prog : Program) (w : World) (f p s m : Int) (tf tp ts tm : Tok) (x1 x2 : Addr) (T1 T2 rest : List (Addr × Obj)) (hT : Tabs T1 T2 rest)
    (h1 : (x1, tup2 (.int f tf) (.int p tp)) ∈ rest) (h2 : (x2, tup2 (.int s ts) (.int m tm)) ∈ rest)
    (hp : 1 ≤ p ∧ p < 65536) (hm : 2 ≤ m ∧ m < 65536) (hg : Int.gcd p m = 1) (hf : 0 ≤ f ∧ f < 65536) (hs : 0 ≤ s ∧ s < 65536) :
    Con prog w 182 [.ref x1, .ref x2] 330 3300 (T1 ++ (T2 ++ rest)) (fun v new => ∃ N, DM rest N (p * m) v new ∧ N % p = f % p ∧ N % m = s % m ∧ f ≤ N ∧ N < f + p * m) := by
  intro p' loose mean mg mb dp un gd cn cs fa ccd cl outer A₀ base h₀ L mm st Q E B F X N T9 hk hdp hun hret
  have hx : ∀ T1 T2 : List (Addr × Obj), (x1, tup2 (.int f tf) (.int p tp)) ∈ T1 ++ (T2 ++ rest) ∧ (x2, tup2 (.int s ts) (.int m tm)) ∈ T1 ++ (T2 ++ rest) := fun T1 T2 => ⟨List.mem_append_right _ (List.mem_append_right _ h1), List.mem_append_right _ (List.mem_append_right _ h2)⟩
  obtain ⟨hx1, hx2⟩ := hx T1 T2
  refine wpAny_call ?_
  k_dflt ktr_enter
  rename_i g L' h' FG F' N' B' X' T'
  k_steps
  refine Hold.out ?_
  rename Fr g L' _ _ => F1
  rename News g L' _ _ => N1
  k_dflt (refine' whl_goR ?hE (LbI f p s m rest g L' st) m.toNat ?init ?step)
  case hE => first | passes_own | with_unfolding_all passes_own
  case init => exact ⟨p, m, 1, 0, _, _, _, _, _, _, _, _, _, _, _, T1, T2, rfl, hT, F1, fun q hq => N1 q (.tail _ hq), rfl, rfl, rfl, rfl, rfl, rfl, rfl, rfl, rfl, EuI.init hp hm hg⟩
  case step =>
    rintro n s' ⟨hi, lo, tu, ot, t1, t2, t3, t4, t5, t6, t7, t8, mp, h, tk, T1, T2, rfl, hT, F2, N2, m1, m2, m3, m4, m5, m6, m7, m8, hn, eu⟩ Ra Oa hRa hOa
    have eu' := eu
    obtain ⟨e1, e2, e3, e4, e5, e6, e7, e8⟩ := eu'
    k_steps
    · refine Hold.out ?_
      have hlo1 : 1 < lo := by assumption
      have hq0 := Int.ediv_nonneg (show 0 ≤ hi by omega) (show 0 ≤ lo by omega)
      have hq1 := Int.ediv_le_self (b := lo) (show 0 ≤ hi by omega)
      obtain ⟨eu2, hlt⟩ := eu.step hlo1
      k_dflt (refine' Con.use (int_divmod prog w hi lo _ _ T1 T2 rest hT (by omega) e3 (by omega)) ?zB ?zF ?zX ?zN ?zT ?zhk ?zd ?zu ?_)
      case zB => k_asm
      case zF => k_asm
      case zX => k_asm
      case zN => k_asm
      case zT => k_asm
      case zhk => rfl
      case zd => ktr_room
      case zu => ktr_units
      intro r8 new8 h8' tk8 hp8 F8 N8
      obtain ⟨r, u1, u2, T1', T2', rfl, rfl, d1, d2, d3⟩ := hp8
      k_steps
      rename Fr g L' _ _ => F9
      rename News g L' _ _ => N9
      rename _ = hi / lo * ot => hv9
      subst hv9
      refine Hold.out (hRa _ _ ?_)
      refine WInd.next _ (hn ▸ hlt) ?_
      exact ⟨lo, hi % lo, ot, tu - hi / lo * ot, t1, t2, t3, t4, _, _, _, _, _, _, _, T1', T2', rfl, d1, F9, fun q hq => N9 q (.tail _ (.tail _ hq)), m1, m2, m3, m4, rfl, rfl, rfl, rfl, rfl, eu2⟩
    · refine Hold.out (hOa _ ?_)
      k_steps
      refine Hold.out ?_
      obtain ⟨hd, hob⟩ := eu.last (by assumption)
      rename _ = (s - f) * ot => hv9
      have hb9 := arg_bound hs hf hm hob hv9
      k_dflt (refine' Con.use (int_divmod prog w _ m _ _ T1 T2 rest hT hb9 (by omega) (by omega)) ?zB ?zF ?zX ?zN ?zT ?zhk ?zd ?zu ?_)
      case zB => k_asm
      case zF => k_asm
      case zX => k_asm
      case zN => k_asm
      case zT => k_asm
      case zhk => rfl
      case zd => ktr_room
      case zu => ktr_units
      intro r8 new8 h8' tk8 hp8 F8 N8
      obtain ⟨r, u1, u2, T1', T2', rfl, rfl, d1, d2, d3⟩ := hp8
      k_steps
      rename _ = p * m => hv7
      rename _ = p * (_ % _) => hv8
      rw [hv9] at hv8
      have hbf := both_facts (f := f) (s := s) hp.1 hm.1 hd rfl
      rw [← hv8] at hbf
      subst hv7
      rename _ ∧ AllLt _ _ => l7
      rename News h₀ L _ _ => kN
      exact hret _ _ _ _ ⟨_, DM.mk _ _ d1 (fun p hp => Nat.ne_of_lt (allLt_all l7.2 p (by simp only [List.mem_append] at hp ⊢; rcases hp with h | h <;> simp [h]))) (fun p hp => allLt_all l7.2 p (by simp only [List.mem_append]; simp [hp])), hbf⟩ (by k_asm) (ndrop2 kN)
end

end
section
theorem rs_C9 : True := by
  w_top off
  trivial
local macro_rules | `(tactic| walk_at "pad 1.0") => `(tactic| skip)
section
local macro_rules | `(tactic| walk_at "exec While") => `(tactic| (refine Hold.mk ?_))
local macro_rules | `(tactic| walk_at "exec While Name") => `(tactic| (refine Hold.mk ?_))
local macro_rules | `(tactic| walk_at "exec While Name cons nil") => `(tactic| (refine Hold.mk ?_))
local macro_rules | `(tactic| walk_at "call builtin:divmod") => `(tactic| ((with_reducible show wpAny _ _ (call (Value.builtin "divmod") [Value.int _ _, Value.int _ _]) _ _ _); refine Hold.mk ?_))
local macro_rules | `(tactic| walk_at "subscriptTail") => `(tactic| ((with_reducible show wpAny _ _ (subscriptTail _ _ (Value.bytes _ _) _) _ _ _); refine Hold.mk ?_))
section
variable {prog : Program} {w : World} {A : Around} {E : Value → Shared → Prop} {s : Shared} {h₀ : Heap} {L : Addr} {m : Str → Option Value} {news : List (Addr × Obj)} {Q : Value → Shared → Prop}
theorem divmod_16 {a : Nat} {t u : Tok} (F : Fr h₀ L s.heap m) (N : News h₀ L s.heap news)
    (h : ∀ q h' t1 t2 tk', Fr h₀ L h' m → News h₀ L h' ((q, tup2 (.int ((a / 16 : Nat) : Int) t1) (.int ((a % 16 : Nat) : Int) t2)) :: news) → (∀ p ∈ news, p.1 < q) → Q (.ref q) { s with heap := h', toks := tk' }) :
    wpAny (model prog w) A (call (.builtin "divmod") [.int (a : Int) t, .int 16 u]) Q E s :=
  divmod_K F N (by decide) (by decide) fun q h' t1 t2 tk' F' N' l => h q h' t1 t2 tk' F' (by
    rw [Int.fdiv_eq_ediv_of_nonneg _ (by decide), Int.fmod_eq_emod_of_nonneg _ (by decide)] at N'
    exact_mod_cast N') l
theorem ap_picked : ∀ k : Nat, k < 16 → KBy.picked #[65, 66, 67, 68, 69, 70, 71, 72, 73, 74, 75, 76, 77, 78, 79, 80] (some (k : Int)) (some ((k : Int) + 1)) = #[UInt8.ofNat (65 + k)] := by decide +kernel
theorem ap_slice {value slice : PySem.Expr} {t u v : Tok} {k : Nat} (hF : Fr h₀ L s.heap m) (hN : News h₀ L s.heap news) (hk : k < 16)
    (h : ∀ h' t' tk, Fr h₀ L h' m → News h₀ L h' news → Q (.bytes #[UInt8.ofNat (65 + k)] t') { s with heap := h', toks := tk })
    (hs : subscripted slice false (.bytes #[65, 66, 67, 68, 69, 70, 71, 72, 73, 74, 75, 76, 77, 78, 79, 80] t) (.ref s.heap.objs.size) = operate [.ref s.heap.objs.size, .bytes #[65, 66, 67, 68, 69, 70, 71, 72, 73, 74, 75, 76, 77, 78, 79, 80] t] (getItem (.bytes #[65, 66, 67, 68, 69, 70, 71, 72, 73, 74, 75, 76, 77, 78, 79, 80] t) (.ref s.heap.objs.size)) := by with_unfolding_all rfl)
    (ht : ∀ r, letTemporaryGo value (.bytes #[65, 66, 67, 68, 69, 70, 71, 72, 73, 74, 75, 76, 77, 78, 79, 80] t) r = pure () := by intro _; with_unfolding_all rfl) :
    wpAny (model prog w) A (subscriptTail value slice (.bytes #[65, 66, 67, 68, 69, 70, 71, 72, 73, 74, 75, 76, 77, 78, 79, 80] t) (.ref s.heap.objs.size)) Q E { s with heap := s.heap.push { cls := .type "slice", data := .fields #[.int (k : Int) u, .int ((k : Int) + 1) v, .none] } } :=
  KBc.slice_K hF hN rfl (.int _ _) (.int _ _) (by decide) (fun h' t' tk F' N' _ => by
    have := h h' t' tk F' N'
    rw [← ap_picked k hk] at this
    exact this) hs ht
end
noncomputable def apB : Nat → Nat → List UInt8
  | 0, _ => []
  | f + 1, n => if n = 0 then [] else apB f (n / 16) ++ [UInt8.ofNat (65 + n % 16)]
theorem int2ap (prog : Program) (w : World) (n : Nat) (tn : Tok) (news : List (Addr × Obj)) (hn : n < 1048576) :
    Con prog w 114 [.int n tn] 10 100 news (fun v new => new = news ∧ ∃ b t, v = .bytes b t ∧ b.toList = apB 5 n) := by
  intro p' loose mean mg mb dp un gd cn cs fa ccd cl outer A₀ base h₀ L mm st Q E B F X N T9 hk hdp hun hret
  refine wpAny_call ?_
  k_dflt ktr_enter
  rename_i g L' h' FG F' N' B' X' T'
  k_steps
  refine Hold.out ?_
  rename Fr g L' _ _ => F1
  rename News g L' _ _ => N1
  k_dflt (refine' whl_go ?hE (fun k s' => ∃ (x : Nat) (b : Array UInt8) (f : Nat) (t1 t2 t3 : Tok) (mp : Str → Option Value) (h : Heap) (tk : Nat), s' = { st with heap := h, toks := tk } ∧ Fr g L' h mp ∧ News g L' h news ∧
    mp (Str.ofString "num") = some (.int x t1) ∧ mp (Str.ofString "val") = some (.bytes b t2) ∧ mp (Str.ofString "AP") = some (.bytes #[65, 66, 67, 68, 69, 70, 71, 72, 73, 74, 75, 76, 77, 78, 79, 80] t3) ∧
    k = x ∧ x < 16 ^ f ∧ f ≤ 5 ∧ b.size + f ≤ 5 ∧ apB f x ++ b.toList = apB 5 n) n ?init ?step)
  case hE => first | passes_own | with_unfolding_all passes_own
  case init =>
    have e : (if (n : Int) < 0 then -(n : Int) else n) = n := if_neg (by omega)
    rw [e] at F1
    exact ⟨n, #[], 5, _, _, _, _, _, _, rfl, F1, N1, rfl, rfl, rfl, rfl, by omega, by omega, by decide, by simp⟩
  case step =>
    rintro k s' ⟨x, b, f, t1, t2, t3, mp, h, tk, rfl, F2, N2, m1, m2, m3, rfl, hx, hf, hb, he⟩
    k_steps
    refine Hold.out ?_
    k_dflt (refine' divmod_16 ?F ?N ?_)
    case F => k_asm
    case N => k_asm
    intro q9 h9 t8 t9 tk9 F9 N9 l9
    k_steps
    refine Hold.out ?_
    k_dflt (refine' ap_slice ?F ?N (Nat.mod_lt k (by decide)) ?_ (by with_unfolding_all rfl) (by intro _; with_unfolding_all rfl))
    case F => k_asm
    case N => k_asm
    intro h7 t7 tk7 F7 N7
    k_steps
    k_dflt (refine' KBy.add_bytes ?z ?_)
    case z => show 1 + b.size ≤ 16777216; omega
    intro t6 tk6
    k_steps
    · refine Hold.out ?_
      rename Fr g L' _ _ => F5
      rename News g L' _ _ => N5
      have hk0 : k ≠ 0 := by omega
      obtain ⟨f', rfl⟩ : ∃ f', f = f' + 1 := ⟨f - 1, by
        rcases f with _ | f
        · rw [Nat.pow_zero] at hx; omega
        · rfl⟩
      refine ⟨k / 16, Nat.div_lt_self (by omega) (by decide), k / 16, _, f', _, _, _, _, _, _, rfl, F5, fun p hp => N5 p (.tail _ hp), rfl, rfl, m3, rfl, ?_, by omega, ?_, ?_⟩
      · rw [Nat.pow_succ] at hx; exact Nat.div_lt_of_lt_mul (by rw [Nat.mul_comm]; exact hx)
      · rw [Array.size_append]; show 1 + b.size + f' ≤ 5; omega
      · rw [Array.toList_append, ← he, apB, if_neg hk0, List.append_assoc]
    · have hk0 : k = 0 := by omega
      subst hk0
      have e : b.toList = apB 5 n := by
        rw [← he]
        cases f <;> simp [apB]
      exact hret _ _ _ _ ⟨rfl, _, _, rfl, e⟩ (by k_asm) (by k_asm)
end

end
section
theorem rs_MStr : True := by
  w_top off
  trivial
section
inductive ChrsAre : List Value → List Nat → Prop
  | nil : ChrsAre [] []
  | cons {c : Nat} {t : Tok} {vs : List Value} {cs : List Nat} (h : ChrsAre vs cs) : ChrsAre (.str ⟨#[c]⟩ t :: vs) (c :: cs)
theorem ChrsAre.inv {vs : List Value} {c : Nat} {cs : List Nat} (h : ChrsAre vs (c :: cs)) : ∃ t vs', vs = Value.str ⟨#[c]⟩ t :: vs' ∧ ChrsAre vs' cs := by
  cases h with
  | cons h => exact ⟨_, _, rfl, h⟩
theorem ChrsAre.length {vs : List Value} {cs : List Nat} (h : ChrsAre vs cs) : vs.length = cs.length := by
  induction h with
  | nil => rfl
  | cons _ ih => simp [ih]
theorem ChrsAre.of_get : ∀ {vs : List Value} {cs : List Nat}, vs.length = cs.length → (∀ (j : Nat) (v : Value), vs[j]? = some v → ∃ c u, cs[j]? = some c ∧ v = Value.str ⟨#[c]⟩ u) → ChrsAre vs cs
  | [], [], _, _ => .nil
  | v :: vs, c :: cs, hl, h => by
    obtain ⟨c', u, hc, rfl⟩ := h 0 v rfl
    obtain rfl : c = c' := by simpa using hc
    exact .cons (ChrsAre.of_get (by simpa using hl) fun j v hj => h (j + 1) v (by simpa using hj))
  | [], _ :: _, hl, _ => by simp at hl
  | _ :: _, [], hl, _ => by simp at hl
variable {prog : Program} {w : World} {A : Around} {E : Value → Shared → Prop} {s : Shared} {h₀ : Heap} {L : Addr} {m : Str → Option Value} {news : List (Addr × Obj)} {Q : Value → Shared → Prop}
theorem listStr_K {x : Str} {t : Tok} (F : Fr h₀ L s.heap m) (N : News h₀ L s.heap news) (hh : A.handled = none) (hn : x.cps.size ≤ 16777216)
    (h : ∀ q h' tk items ep, Fr h₀ L h' m → News h₀ L h' ((q, listOf items.toArray ep) :: news) → (∀ p ∈ news, p.1 < q) → ChrsAre items x.cps.toList → Q (.ref q) { s with heap := h', toks := tk }) :
    wpAny (model prog w) A (call (.type "list") [.str x t]) Q E s := by
  refine call_list_str hh x t (fun h' tk acc' c' hk hS' hacc => ?_) (by rw [sizeLine_eq]; exact hn)
  have hN := news_pushed F N hk hS' rfl
  refine h _ h' tk acc'.toList c' (F.keeps hk) (by simpa using hN) (fun q hq => Heap.lt_size (N q hq).1) (ChrsAre.of_get (by simp [hacc.1]) fun j v hj => ?_)
  obtain ⟨c, u, hc, hv⟩ := hacc.2 j v (by simpa using hj)
  exact ⟨c, u, by simpa using hc, hv⟩
end

end
section
theorem rs_MLex : True := by
  w_top off
  trivial
section
/-- the lexer's objects: the chars' list, the lexer's dict and itself, the stream's, the pushback lists, the reader with its code and its cell -/
structure LexV where
  lf : Addr
  ld : Addr
  lx : Addr
  pb : Addr
  x2 : Addr
  d2 : Addr
  pb2 : Addr
  f : Addr
  c : Addr
  ce : Addr
  oc : Obj
  oce : Obj
  vs : Array Value
  qual : Str
  t : Tok
  doc : Value
  pm : Value
  ct : Value
  k1 : Tok
  k2 : Tok
  k3 : Tok
  k4 : Tok
  k5 : Tok
  u1 : Tok
  u2 : Tok
  u3 : Tok
  u4 : Tok
  u5 : Tok
  u6 : Tok
  u7 : Tok
  hlf : @LT.lt Nat _ lf ld
noncomputable abbrev LexV.dict (V : LexV) (w : World) (n : Int) (tn : Tok) : Obj := dictOf [⟨PyData.keyHash w.params "lineno", .str "lineno" V.k1, .int n tn⟩, ⟨PyData.keyHash w.params "instream", .str "instream" V.k2, .ref V.x2⟩, ⟨PyData.keyHash w.params "whitespace", .str "whitespace" V.k3, .str "\n\t\x0d " V.k4⟩, ⟨PyData.keyHash w.params "pushback", .str "pushback" V.k5, .ref V.pb⟩] 4
noncomputable abbrev LexV.dict2 (V : LexV) (w : World) : Obj := dictOf [⟨PyData.keyHash w.params "lineno", .str "lineno" V.u1, .int 1 V.u2⟩, ⟨PyData.keyHash w.params "instream", .str "instream" V.u3, .none⟩, ⟨PyData.keyHash w.params "whitespace", .str "whitespace" V.u4, .str "\n\t\x0d " V.u5⟩, ⟨PyData.keyHash w.params "pushback", .str "pushback" V.u6, .ref V.pb2⟩, ⟨PyData.keyHash w.params "read", .str "read" V.u7, .ref V.f⟩] 5
noncomputable abbrev LexV.fn (V : LexV) : Obj := fnMade (Str.ofString "_law_next") V.qual (defArgs lexSt.1) (defBody lexSt.1) (defScope lexSt.1) [(Str.ofString "left", V.ce)] V.doc V.pm V.c V.ct
structure LexR (V : LexV) (w : World) (rest : List (Addr × Obj)) : Prop where
  hlx : (V.lx, instObj 152 V.ld) ∈ rest
  hpb : (V.pb, listOf #[] 0) ∈ rest
  hx2 : (V.x2, instObj 152 V.d2) ∈ rest
  hd2 : (V.d2, V.dict2 w) ∈ rest
  hf : (V.f, V.fn) ∈ rest
  hc : (V.c, V.oc) ∈ rest
  hc1 : V.oc.data = .fields V.vs
  hc2 : V.vs[1]? = some (.str V.qual V.t)
  hce : (V.ce, V.oce) ∈ rest
  hce1 : V.oce.data = .cell (some (.ref V.lf))
  n1 : ∀ p ∈ rest, p.1 ≠ V.lf
  n2 : ∀ p ∈ rest, p.1 ≠ V.ld
end

end
section
theorem rs_MCit : True := by
  w_top off
  trivial
section
variable {prog : Program} {w : World} {A : Around} {E : Value → Shared → Prop} {s : Shared} {h₀ : Heap} {L : Addr} {m : Str → Option Value} {news : List (Addr × Obj)}
/-- the iterator that iter(f, '') makes -/
noncomputable abbrev ciObj (mq : Addr) (ts : Tok) : Obj := { cls := .type "callable_iterator", data := .fields #[.ref mq, .str (Str.ofString "") ts, .bool false] }
noncomputable def FnAt (q : Addr) (h : Heap) : Prop := ∃ oc od fd sl, h.get? q = some ⟨oc, od, .func fd, sl⟩
theorem ci_args2 (a b : Value) : argsOk "iter" ⟨[a, b], []⟩ := by unfold argsOk; kernel_rfl
theorem ci_method_call : ∃ r, typeLookup (.type "method") "__call__" = pure (some r) := ⟨.builtin "method.__call__", by rw [typeLookup_type, builtinLookup_eq_fast]; kernel_rfl⟩
theorem ci_owner : Manifest.owners.lookup (String.ofList ['r', 'o', 't', 'a', 'r', 'e', 't', 'i', '_', 'e', 'l', 'b', 'a', 'l', 'l', 'a', 'c'].reverse) = some Manifest.sig_callable_iterator := by kernel_rfl
theorem ci_slot_iter : Slot "callable_iterator" "__iter__" "callable_iterator.__iter__" :=
  .of (owner := "callable_iterator") (n := "__iter__") (by rw [typeLookup_type, builtinLookup_eq_fast]; kernel_rfl) (by decide +kernel) (by decide +kernel) (by decide +kernel)
    (by first | exact .inl (by decide +kernel) | exact .inr (by decide +kernel)) (by rw [isSubtype_type]; kernel_rfl)
theorem ci_slot_next : Slot "callable_iterator" "__next__" "callable_iterator.__next__" :=
  .of (owner := "callable_iterator") (n := "__next__") (by rw [typeLookup_type, builtinLookup_eq_fast]; kernel_rfl) (by decide +kernel) (by decide +kernel) (by decide +kernel)
    (by first | exact .inl (by decide +kernel) | exact .inr (by decide +kernel)) (by rw [isSubtype_type]; kernel_rfl)
theorem ci_entry_iter : entryFor table "callable_iterator.__iter__" = some Builtin.«dict_keyiterator.__iter__» :=
  entryFor_alias (id' := "dict_keyiterator.__iter__") (by kernel_rfl) (by first | rfl | decide +kernel | (unfold String.splitOn; simp +decide [String.splitOnAux])) (by decide +kernel) (by kernel_rfl)
theorem ci_entry_next : entryFor table "callable_iterator.__next__" = some Builtin.«callable_iterator.__next__» := entryFor_of_fast (by kernel_rfl)
theorem ci_args_iter (a : Value) : argsOk "callable_iterator.__iter__" ⟨[a], []⟩ := by
  unfold argsOk; rw [signature?_of (id := "callable_iterator.__iter__") (n := ['_', '_', 'r', 'e', 't', 'i', '_', '_']) (o := ['r', 'o', 't', 'a', 'r', 'e', 't', 'i', '_', 'e', 'l', 'b', 'a', 'l', 'l', 'a', 'c']) (by kernel_rfl) ci_owner]; kernel_rfl
theorem ci_args_next (a : Value) : argsOk "callable_iterator.__next__" ⟨[a], []⟩ := by
  unfold argsOk; rw [signature?_of (id := "callable_iterator.__next__") (n := ['_', '_', 't', 'x', 'e', 'n', '_', '_']) (o := ['r', 'o', 't', 'a', 'r', 'e', 't', 'i', '_', 'e', 'l', 'b', 'a', 'l', 'l', 'a', 'c']) (by kernel_rfl) ci_owner]; kernel_rfl
theorem callBorrowed_of {f : Value} {pos : List Value} {Q : Value → Shared → Prop} (hc : codeAny (model prog w) A (.call f ⟨pos, []⟩) (fun r s' => match r with | .ok (.ret v) => Q v s' | .ok _ => False | .error e => E e s') s) :
    wpAny (model prog w) A (callBorrowed f pos) Q E s := fun Γ p hΓ => by
  unfold callBorrowed
  rw [Sem.wp_call]
  refine wpCode_mono (fun r s' h' => ?_) (hc _ p rfl (hΓ.enter _ none p (by intro x; cases x)))
  cases r with
  | error e => exact h'
  | ok f => cases f <;> first | exact h' | exact h'.elim
theorem ci_make {mq : Addr} {fv self : Value} {ts : Tok} {Q : Value → Shared → Prop} (F : Fr h₀ L s.heap m) (N : News h₀ L s.heap news) (hm : (mq, methodObj fv self) ∈ news)
    (h : ∀ it h', Fr h₀ L h' m → News h₀ L h' ((it, ciObj mq ts) :: news) → (∀ p ∈ news, p.1 < it) → Q (.ref it) { s with heap := h' }) :
    wpAny (model prog w) A (call (.builtin "iter") [.ref mq, .str (Str.ofString "") ts]) Q E s := by
  obtain ⟨r, hr⟩ := ci_method_call
  refine call_function_entry (by decide +kernel) (by decide +kernel) kdk_entry_iter (ci_args2 _ _) ?_
  unfold Builtin.«iter»
  refine wpAny_bind (m := someArgs "iter" 1 2 _) (wpAny_of_eq (a := [Value.ref mq, .str (Str.ofString "") ts]) (by first | rfl | kernel_rfl!) ?_)
  dsimp only
  refine wpAny_bind (wpAny_specialOf (T := "method") ⟨_, (N _ hm).1, rfl⟩ hr ?_)
  simp only [Option.isNone_some, Bool.false_eq_true, if_false]
  refine wpAny_bind (wpAny_rule ?_)
  exact wpAny_bind (wpAny_newObj_type (wpAny_pure ⟨_, rfl, h _ _ (F.push _) (News.push F N _ rfl) fun q hq => Heap.lt_size (N q hq).1⟩) (by size_fits))
theorem ci_iter {mq it : Addr} {ts : Tok} {Q : Value → Shared → Prop} (hi : s.heap.get? it = some (ciObj mq ts)) (h : Q (.ref it) s) : wpAny (model prog w) A (pyIter (.ref it)) Q E s := by
  have hT : s.TypeIs (.ref it) "callable_iterator" := ⟨_, hi, rfl⟩
  refine wpAny_pyIter_slot hT ci_slot_iter (wpAny_call_entry ci_slot_iter hT ci_entry_iter ?_ (ci_args_iter _))
  show wpAny _ _ (ret (.ref it)) _ _ s
  exact wpAny_pure ⟨_, rfl, "callable_iterator", _, hT, ci_slot_next.lookup, h⟩
theorem ci_ne {c : Nat} : decide (Str.ofString "" = (⟨#[c]⟩ : Str)) = false := by
  rw [decide_eq_false_iff_not]
  intro h
  have := congrArg (fun x : Str => x.cps.size) h
  exact absurd this (by show ¬ (0 = 1); decide)
theorem ci_next {mq it f lx : Addr} {ts : Tok} {Q : Option Value → Shared → Prop} (hi : s.heap.get? it = some (ciObj mq ts)) (hm : s.heap.get? mq = some (methodObj (.ref f) (.ref lx))) (hf : FnAt f s.heap)
    (h : codeAny (model prog w) A.in1 (.call (.ref f) ⟨[.ref lx], []⟩) (fun r s' => match r with | .ok (.ret v) => (∃ c t, v = Value.str ⟨#[c]⟩ t) ∧ s'.heap.get? it = some (ciObj mq ts) ∧ Q (some v) s' | _ => False) s) :
    wpAny (model prog w) A (pyNext (.ref it)) Q E s := by
  have hT : s.TypeIs (.ref it) "callable_iterator" := ⟨_, hi, rfl⟩
  obtain ⟨oc, od, fd, sl, hf⟩ := hf
  unfold pyNext
  refine wpAny_bind (wpAny_attempt (wpAny_callSpecial?_slot (name := Str.ofString "__next__") hT ci_slot_next
    (wpAny_call_entry ci_slot_next hT ci_entry_next ?_ (ci_args_next _))))
  unfold Builtin.«callable_iterator.__next__»
  refine wpAny_bind (wpAny_of_eq (a := (Value.ref it, [])) rfl ?_)
  dsimp only
  refine wpAny_bind (wpAny_field hi rfl (x := .bool false) rfl ?_)
  rw [if_neg (by decide)]
  refine wpAny_bind (wpAny_field hi rfl (x := .ref mq) rfl ?_)
  refine wpAny_bind (wpAny_attempt ?_)
  unfold callOutOfASlot
  refine wpAny_bind ?_
  unfold borrowsExactly
  dsimp only
  refine wpAny_bind (wpAny_load hm ?_)
  dsimp only
  rw [if_pos (by decide)]
  simp only [Array.getD_eq_getD_getElem?, List.getElem?_toArray, List.getElem?_cons_zero, Option.getD_some]
  refine wpAny_bind (wpAny_load hf (wpAny_pure ?_))
  rw [if_pos rfl]
  refine callBorrowed_of (method_call hm (codeAny_mono h fun r s' hr => ?_))
  match r, hr with
  | .ok (.ret v), ⟨⟨c, t, hv⟩, hi', hq⟩ =>
    subst hv
    dsimp only
    refine wpAny_bind (wpAny_field hi' rfl (x := .bool false) rfl ?_)
    rw [if_neg (by decide)]
    refine wpAny_bind (wpAny_field hi' rfl (x := .str (Str.ofString "") ts) rfl ?_)
    refine wpAny_bind (wpAny_holding (wpAny_eqBool_str ?_))
    rw [ci_ne]
    simp only [Bool.not_false, if_true]
    exact wpAny_bind (wpAny_pure (wpAny_pure ⟨_, rfl, wpAny_pure hq⟩))
end

end
section
theorem rs_MTok : True := by
  w_top off
  trivial
section
variable {prog : Program} {w : World} {A : Around} {E : Value → Shared → Prop} {s : Shared} {env : Env}
theorem for_go {v : Str} {px pos : Pos} {iter : PySem.Expr} {body : List Stmt} {it : Addr} {Q : Flow → Shared → Prop} (hE : PassesOwn (model prog w) A env E) (hs : ∀ x, foldedSetIterable iter env x = pure x) (J : Nat → Shared → Prop) (n : Nat)
    (init : wpAny (model prog w) A (eval iter env) (fun x s₁ => wpAny (model prog w) A (pyIter x) (fun i s₂ => Hold (i = .ref it ∧ J n s₂)) E s₁) E s)
    (step : ∀ n s, J n s → wpAny (model prog w) A (pyNext (.ref it)) (fun r s₁ => match r with | none => Q .next s₁ | some y => wpAny (model prog w) A (storeName env v y) (fun _ s₂ => wpAny (model prog w) A (execs body env) (fun f s₃ => Hold (WInd J n Q f s₃)) E s₂) E s₁) E s) :
    wpAny (model prog w) A (exec (.For (.Name v px) iter body [] pos) env) Q E s := by
  refine wpAny_For (wpAny_mono init (fun xv s₁ h₁ => wpAny_mono h₁ (fun i s₂ h₂ => ?_) fun _ _ z => z) fun _ _ z => z) hs
  obtain ⟨rfl, h₂⟩ := h₂
  refine codeAny_forLoop (R := fun r s' => match r with | .ok f => Q f s' | .error e => cameBackBy (model prog w) A env E e s') J (fun k s' hk => ?_) n h₂
  refine wpAny_passesOwn hE (wpAny_mono (step k s' hk) (fun r s₁ hr => ?_) fun _ _ z => z)
  cases r with
  | none => exact wpAny_execs_nil hr
  | some y =>
    refine wpAny_passesOwn hE (wpAny_assign_Name (wpAny_mono hr (fun _ s₂ h₂ => ?_) fun _ _ z => z))
    refine wpAny_passesOwn hE (wpAny_mono h₂ (fun f s₃ h₃ => ?_) fun _ _ z => z)
    cases f with
    | next => exact h₃
    | cont => exact h₃
    | brk => exact h₃
    | ret _ => exact h₃
noncomputable def ws (c : Nat) : Bool := c == 10 || c == 9 || c == 13 || c == 32
theorem eq1_yes {k : Nat} {x : Str} {t u : Tok} {Q : Value → Shared → Prop} (e : x = ⟨#[k]⟩) (h : Q (.bool true) s) : wpAny (model prog w) A (compareOp .Eq (.str ⟨#[k]⟩ t) (.str x u)) Q E s := by
  subst e
  exact eq_str (by rw [show ((⟨#[k]⟩ : Str) == ⟨#[k]⟩) = true from by simp]; exact h)
theorem eq1_no {c k : Nat} {x : Str} {t u : Tok} {Q : Value → Shared → Prop} (e : x = ⟨#[k]⟩) (hne : c ≠ k) (h : Q (.bool false) s) : wpAny (model prog w) A (compareOp .Eq (.str ⟨#[c]⟩ t) (.str x u)) Q E s := by
  subst e
  have e : ((⟨#[c]⟩ : Str) == ⟨#[k]⟩) = false := by
    rw [beq_eq_false_iff_ne]
    intro h
    simp at h
    exact hne h
  refine eq_str ?_
  rw [e]
  exact h
theorem ws_found (c : Nat) : (!(Builtin.Str.occurrences (Str.ofString "\n\t\r ") ⟨#[c]⟩ 0 (Str.ofString "\n\t\r ").length 1).isEmpty) = ws c := by
  rw [StrLaws.found_one, show (Str.ofString "\n\t\r ").cps.toList = [10, 9, 13, 32] from by decide +kernel]
  unfold ws
  rw [Bool.eq_iff_iff]
  simp [or_assoc]
theorem in1_ws {c : Nat} {t u : Tok} {b : Bool} {Q : Value → Shared → Prop} (e : ws c = b) (h : Q (.bool b) s) : wpAny (model prog w) A (compareOp .In (.str ⟨#[c]⟩ u) (.str (Str.ofString "\n\t\r ") t)) Q E s := by
  refine in_str ?_
  rw [ws_found, e]
  exact h
theorem iadd1 {x : Str} {c : Nat} {t u : Tok} {Q : Value → Shared → Prop} (hz : x.cps.size < 1000000) (h : ∀ y t' tk, y.cps.toList = x.cps.toList ++ [c] → Q (.str y t') { s with toks := tk }) :
    wpAny (model prog w) A (inplaceOp .Add (.str x t) (.str ⟨#[c]⟩ u)) Q E s :=
  iadd_str (fun t' tk => h _ t' tk (by rw [Str.cps_append]; simp)) (by rw [sizeLine_eq]; show x.cps.size + 1 ≤ 16777216; omega)
/-- a quoted token's rest: what stands in the text, what it says, what is left -/
inductive QTok : List Nat → List Nat → List Nat → Prop
  | stop (r : List Nat) : QTok (34 :: r) [] r
  | esc (c : Nat) {cs t r : List Nat} (h : QTok cs t r) : QTok (92 :: c :: cs) (c :: t) r
  | plain (c : Nat) {cs t r : List Nat} (h1 : c ≠ 34) (h2 : c ≠ 92) (h : QTok cs t r) : QTok (c :: cs) (c :: t) r
/-- a plain token's rest -/
inductive UTok : List Nat → List Nat → List Nat → Prop
  | stop (c : Nat) (r : List Nat) (h : ws c = true) : UTok (c :: r) [] r
  | plain (c : Nat) {cs t r : List Nat} (h1 : ws c = false) (h2 : c ≠ 92) (h : UTok cs t r) : UTok (c :: cs) (c :: t) r
/-- a token -/
inductive GTok : List Nat → List Nat → List Nat → Prop
  | skip (c : Nat) {cs t r : List Nat} (h1 : ws c = true) (h : GTok cs t r) : GTok (c :: cs) t r
  | quoted {cs t r : List Nat} (h : QTok cs t r) : GTok (34 :: cs) t r
  | plain (c : Nat) {cs t r : List Nat} (h1 : ws c = false) (h2 : c ≠ 34) (h3 : c ≠ 92) (h : UTok cs t r) : GTok (c :: cs) (c :: t) r
end

end
section
theorem rs_C10 : True := by
  w_top off
  trivial
noncomputable def ConC (prog : Program) (w : World) (f : Addr) (vs : List Value) (c cu : Nat) (news : List (Addr × Obj)) (post : Value → List (Addr × Obj) → Prop) : Prop :=
  ∀ (p : Program) (loose : List Str) (mean : ExcName → Option Value) (mg mb : Str → Option Value) (dp un : Nat) (gd : Option (List Code)) (cn : Str) (cs : Scope) (a : Addr) (ccd : Value) (cl : List (Str × Addr)) (outer : List Env) (A₀ : Around) (base h₀ : Heap) (L : Addr) (m : Str → Option Value) (s : Shared)
    (R : Result → Shared → Prop),
    Below A₀ base outer h₀ → Fr h₀ L s.heap m → (hd.heap_1 w.params).In h₀ → News h₀ L s.heap news → Top p loose mean mg mb h₀ → cs.kind = .function → dp + c < recursionLimit → un + cu < cLine →
    (∀ r news' h' tk', post r news' → Fr h₀ L h' m → News h₀ L h' news' → R (.ok (.ret r)) { s with heap := h', toks := tk' }) →
    codeAny (model prog w) (ktrTop dp un gd cn cs L a ccd cl outer) (.call (.ref f) ⟨vs, []⟩) R s
theorem ConC.con {prog : Program} {w : World} {f : Addr} {vs : List Value} {c cu : Nat} {news : List (Addr × Obj)} {post : Value → List (Addr × Obj) → Prop} (C : ConC prog w f vs c cu news post) : Con prog w f vs c cu news post :=
  fun p loose mean mg mb dp un gd cn cs a ccd cl outer A₀ base h₀ L m s Q E B F X N T hk hdp hun h =>
    wpAny_call (C p loose mean mg mb dp un gd cn cs a ccd cl outer A₀ base h₀ L m s _ B F X N T hk hdp hun h)
section
variable {prog : Program} {w : World} {A : Around} {E : Value → Shared → Prop} {s : Shared} {h₀ : Heap} {L : Addr} {m : Str → Option Value} {news : List (Addr × Obj)}
theorem truthy_cons {l : Addr} {v : Value} {items : List Value} {n : Nat} {Q : Bool → Shared → Prop} (N : News h₀ L s.heap news) (hm : (l, listOf (v :: items).toArray n) ∈ news) (hfit : items.length < 100000)
    (h : ∀ tk, Q true { s with toks := tk }) : wpAny (model prog w) A (truthy (.ref l)) Q E s := by
  refine truthy_K N hm (by rw [List.length_cons]; omega) fun tk => ?_
  have e : decide (v :: items ≠ []) = true := by simp
  rw [e]
  exact h tk
theorem pop0_K {D : Addr} {y : Value} {items : List Value} {n : Nat} {u : Tok} {news' : List (Addr × Obj)} {Q : Value → Shared → Prop} (F : Fr h₀ L s.heap m) (N : News h₀ L s.heap news)
    (U : Upd D (listOf (y :: items).toArray n) (listOf items.toArray (n + 1)) news news') (hfit : items.length < 100000)
    (h : ∀ h', Fr h₀ L h' m → News h₀ L h' news' → Q y { s with heap := h' }) : wpAny (model prog w) A (call (.builtin "list.pop") [.ref D, .int 0 u]) Q E s :=
  kl_popAt (its := (y :: items).toArray) (k := 0) (p := []) (q := items) F N (by decide) (by simp [seqIndex?]) rfl U (by rw [sizeLine_eq]; simp only [List.toList_toArray, List.length_cons]; omega) h
end
section
local macro_rules | `(tactic| walk_at "truthy ref") => `(tactic| ((with_reducible show wpAny _ _ (truthy (Value.ref _)) _ _ _); (k_dflt (refine' truthy_cons ?N ?m ?f ?_; (case N => k_asm); (case m => k_mem); (case f => omega))); intro tk'))
local macro_rules | `(tactic| walk_at "call builtin:list.pop") => `(tactic| ((with_reducible show wpAny _ _ (call (Value.builtin _) [Value.ref _, Value.int _ _]) _ _ _); (k_dflt (refine' pop0_K ?F ?N ?U ?z ?_; (case F => k_asm); (case N => k_asm); (case U => k_upd); (case z => omega))); intro h' F' N'))
theorem law_next (prog : Program) (w : World) (V : LexV) (rest : List (Addr × Obj)) (R : LexR V w rest) (c : Nat) (tc : Tok) (items : List Value) (ep : Nat) (od : Obj) (sz : Int) (ts : Tok) (hz : items.length < 100000) :
    Con prog w V.f [.int sz ts] 3 20 ((V.lf, listOf (Value.str ⟨#[c]⟩ tc :: items).toArray ep) :: (V.ld, od) :: rest) (fun v new => v = .str ⟨#[c]⟩ tc ∧ ∃ ep', new = (V.lf, listOf items.toArray ep') :: (V.ld, od) :: rest) := by
  obtain ⟨hlx, hpb, hx2, hd2, hf, hc, hc1, hc2, hce, hce1, n1, n2⟩ := R
  obtain ⟨lf, ld, lx, pb, x2, d2, pb2, f, cc, ce, oc, oce, vs, qual, t, doc, pm, ct, k1, k2, k3, k4, k5, u1, u2, u3, u4, u5, u6, u7, hlf⟩ := V
  dsimp only [LexV.dict, LexV.dict2, LexV.fn] at *
  intro p loose mean mg mb dp un gd cn cs fa ccd cl outer A₀ base h₀ L m s Q E B F X N T hkk hdp hun hret
  have C81 := codeHd_of_K (K := hd.heap_1 w.params) (c := 162) (P := 158) (by assumption) (by kernel_rfl)
  refine wpAny_call ?_
  k_dflt (refine' code_nest ?k1 ?k2 ?k3 ?k4 ?k5 ?kA ?kF ?kK ?k6 ?k7 ?k8 ?k9 ?kB ?_ ?c2 ?c3 ?c4 ?c5; (case kA => exact rfl); (case kF => exact rfl); (case kK => assumption); (case k1 => k_asm); (case k2 => k_asm); (case k3 => k_asm); (case k4 => k_asm); (case k5 => k_asm); (case k6 => exact List.mem_cons_of_mem _ (List.mem_cons_of_mem _ hf)); (case k7 => exact codeRec_news (by k_asm) (List.mem_cons_of_mem _ (List.mem_cons_of_mem _ hc)) (by assumption) (by assumption)); (case k8 => ktr_room); (case k9 => exact BindsTo.of_eq rfl); (case c5 => decide); (case kB => exact locs rfl); (case c2 => exact rfl); (case c3 => exact rfl); (case c4 => exact rfl); k_whole; intro g' L' h' FG' F' N' B' X' T'; (try dsimp only); (try k_fold))
  dsimp only [lexSt, defScope, defBody, defArgs]
  k_steps
  exact hret _ _ _ _ ⟨rfl, _, rfl⟩ (by k_asm) (by k_asm)
end
section
local macro_rules | `(tactic| walk_at "call ref") => `(tactic| (kn_here; (with_reducible show wpAny _ _ (call (Value.ref _) [Value.int _ _]) _ _ _); refine Hold.mk ?_))
theorem read_charC (prog : Program) (w : World) (V : LexV) (rest : List (Addr × Obj)) (R : LexR V w rest) (c : Nat) (tc : Tok) (items : List Value) (ep : Nat) (k : Int) (tk : Tok) (hz : items.length < 100000) :
    ConC prog w 135 [.ref V.lx] 5 50 ((V.lf, listOf (Value.str ⟨#[c]⟩ tc :: items).toArray ep) :: (V.ld, V.dict w k tk) :: rest) (fun v new => v = .str ⟨#[c]⟩ tc ∧ ∃ k' tk' ep', new = (V.lf, listOf items.toArray ep') :: (V.ld, V.dict w k' tk') :: rest) := by
  have R' := R
  obtain ⟨hlx, hpb, hx2, hd2, hf, hc, hc1, hc2, hce, hce1, n1, n2⟩ := R
  have LN := fun od sz ts => law_next prog w V rest R' c tc items ep od sz ts hz
  obtain ⟨lf, ld, lx, pb, x2, d2, pb2, f, cc, ce, oc, oce, vs, qual, t, doc, pm, ct, k1, k2, k3, k4, k5, u1, u2, u3, u4, u5, u6, u7, hlf⟩ := V
  dsimp only [LexV.dict, LexV.dict2, LexV.fn] at *
  intro p' loose mean mg mb dp un gd cn cs fa ccd cl outer A₀ base h₀ L mm st R9 B F X N T9 hk hdp hun hret
  k_dflt ktr_enter
  rename_i g L' h' FG F' N' B' X' T'
  have C81 := codeHd_of_K (K := hd.heap_1 w.params) (c := 162) (P := 158) X' (by kernel_rfl)
  k_steps
  refine Hold.out ?_
  k_dflt (refine' Con.use (LN _ 1 _) ?zB ?zF ?zX ?zN ?zT ?zhk ?zd ?zu ?_)
  case zB => k_asm
  case zF => k_asm
  case zX => k_asm
  case zN => k_asm
  case zT => k_asm
  case zhk => rfl
  case zd => ktr_room
  case zu => ktr_units
  intro r9 new9 h9 tk9 hp9 F9 N9
  obtain ⟨rfl, ep', rfl⟩ := hp9
  k_steps
  all_goals exact hret _ _ _ _ ⟨rfl, _, _, _, rfl⟩ (by k_asm) (by k_asm)
theorem read_char (prog : Program) (w : World) (V : LexV) (rest : List (Addr × Obj)) (R : LexR V w rest) (c : Nat) (tc : Tok) (items : List Value) (ep : Nat) (k : Int) (tk : Tok) (hz : items.length < 100000) :
    Con prog w 135 [.ref V.lx] 5 50 ((V.lf, listOf (Value.str ⟨#[c]⟩ tc :: items).toArray ep) :: (V.ld, V.dict w k tk) :: rest) (fun v new => v = .str ⟨#[c]⟩ tc ∧ ∃ k' tk' ep', new = (V.lf, listOf items.toArray ep') :: (V.ld, V.dict w k' tk') :: rest) := (read_charC prog w V rest R c tc items ep k tk hz).con
end

end
section
theorem rs_C11 : True := by
  w_top off
  trivial
inductive GtA (w : World) (V : LexV) (rest : List (Addr × Obj)) (g : Heap) (L' it mq : Addr) (st : Shared) (t r : List Nat) (n : Nat) (s' : Shared) : Prop
  | mk (cs : List Nat) (items : List Value) (ep : Nat) (k : Int) (tk ts tt : Tok) (mp : Str → Option Value) (h : Heap) (tks : Nat) (e1 : s' = { st with heap := h, toks := tks }) (e2 : Fr g L' h mp) (e3 : News g L' h ((V.lf, listOf items.toArray ep) :: (V.ld, V.dict w k tk) :: (it, ciObj mq ts) :: (mq, methodObj (.ref 135) (.ref V.lx)) :: rest))
    (e4 : ChrsAre items cs) (e5 : items.length < 100000) (e6 : GTok cs t r) (e7 : mp (Str.ofString "token") = some (.str ⟨#[]⟩ tt)) (e8 : mp (Str.ofString "self") = some (.ref V.lx)) (e9 : mp (Str.ofString "fiter") = some (.ref it)) (e10 : n = cs.length)
inductive GtB (w : World) (V : LexV) (rest : List (Addr × Obj)) (g : Heap) (L' it mq : Addr) (st : Shared) (P : List Nat → List Nat → List Nat → Prop) (t r : List Nat) (n : Nat) (s' : Shared) : Prop
  | mk (cs : List Nat) (tr : List Nat) (y : Str) (items : List Value) (ep : Nat) (k : Int) (tk ts tt : Tok) (mp : Str → Option Value) (h : Heap) (tks : Nat) (e1 : s' = { st with heap := h, toks := tks }) (e2 : Fr g L' h mp) (e3 : News g L' h ((V.lf, listOf items.toArray ep) :: (V.ld, V.dict w k tk) :: (it, ciObj mq ts) :: (mq, methodObj (.ref 135) (.ref V.lx)) :: rest))
    (e4 : ChrsAre items cs) (e5 : items.length < 100000) (e6 : P cs tr r) (e7 : y.cps.toList ++ tr = t) (e8 : mp (Str.ofString "token") = some (.str y tt)) (e9 : mp (Str.ofString "self") = some (.ref V.lx)) (e10 : mp (Str.ofString "fiter") = some (.ref it)) (e11 : n = cs.length)
section
variable {prog : Program} {w : World} {A : Around} {E : Value → Shared → Prop} {s : Shared} {h₀ : Heap} {L : Addr} {m : Str → Option Value} {news : List (Addr × Obj)}
theorem for_goR {env : Env} {v : Str} {px pos : Pos} {iter : PySem.Expr} {body : List Stmt} {it : Addr} {Q : Flow → Shared → Prop} (hE : PassesOwn (model prog w) A env E) (hs : ∀ x, foldedSetIterable iter env x = pure x) (J : Nat → Shared → Prop) (n : Nat)
    (init : wpAny (model prog w) A (eval iter env) (fun x s₁ => wpAny (model prog w) A (pyIter x) (fun i s₂ => Hold (i = .ref it ∧ J n s₂)) E s₁) E s)
    (step : ∀ n s, J n s → ∀ (Qn : Shared → Prop) (R : Flow → Shared → Prop), (∀ s, Q .next s → Qn s) → (∀ f s, WInd J n Q f s → R f s) → wpAny (model prog w) A (pyNext (.ref it)) (fun r s₁ => match r with | none => Qn s₁ | some y => wpAny (model prog w) A (storeName env v y) (fun _ s₂ => wpAny (model prog w) A (execs body env) (fun f s₃ => Hold (R f s₃)) E s₂) E s₁) E s) :
    wpAny (model prog w) A (exec (.For (.Name v px) iter body [] pos) env) Q E s :=
  for_go hE hs J n init fun n s j => step n s j (Q .next) (WInd J n Q) (fun _ h => h) (fun _ _ h => h)
theorem WInd.cont {J : Nat → Shared → Prop} {n : Nat} {Q : Flow → Shared → Prop} {s : Shared} (n' : Nat) (h : n' < n) (j : J n' s) : WInd J n Q .cont s := ⟨n', h, j⟩
theorem truthy_nil {l : Addr} {n : Nat} {Q : Bool → Shared → Prop} (N : News h₀ L s.heap news) (hm : (l, listOf #[] n) ∈ news)
    (h : ∀ tk, Q false { s with toks := tk }) : wpAny (model prog w) A (truthy (.ref l)) Q E s := by
  refine truthy_K (items := []) N hm (by decide) fun tk => ?_
  have e : decide (([] : List Value) ≠ []) = false := by simp
  rw [e]
  exact h tk
theorem LexR.cons2 {V : LexV} {w : World} {rest : List (Addr × Obj)} {a b : Addr × Obj} (R : LexR V w rest) (h1 : a.1 ≠ V.lf) (h2 : a.1 ≠ V.ld) (h3 : b.1 ≠ V.lf) (h4 : b.1 ≠ V.ld) : LexR V w (a :: b :: rest) := by
  obtain ⟨hlx, hpb, hx2, hd2, hf, hc, hc1, hc2, hce, hce1, n1, n2⟩ := R
  refine ⟨.tail _ (.tail _ hlx), .tail _ (.tail _ hpb), .tail _ (.tail _ hx2), .tail _ (.tail _ hd2), .tail _ (.tail _ hf), .tail _ (.tail _ hc), hc1, hc2, .tail _ (.tail _ hce), hce1, ?_, ?_⟩
  · intro p hp
    rcases List.mem_cons.mp hp with rfl | hp
    · exact h1
    · rcases List.mem_cons.mp hp with rfl | hp
      · exact h3
      · exact n1 p hp
  · intro p hp
    rcases List.mem_cons.mp hp with rfl | hp
    · exact h2
    · rcases List.mem_cons.mp hp with rfl | hp
      · exact h4
      · exact n2 p hp
theorem ConC.use {prog : Program} {w : World} {f : Addr} {vs : List Value} {c cu : Nat} {news : List (Addr × Obj)} {post : Value → List (Addr × Obj) → Prop} (C : ConC prog w f vs c cu news post)
    {p : Program} {loose : List Str} {mean : ExcName → Option Value} {mg mb : Str → Option Value} {dp un : Nat} {gd : Option (List Code)} {cn : Str} {cs : Scope} {a : Addr} {ccd : Value} {cl : List (Str × Addr)} {outer : List Env} {A₀ : Around} {base h₀ : Heap} {L : Addr} {m : Str → Option Value} {s : Shared}
    {R : Result → Shared → Prop} (B : Below A₀ base outer h₀) (F : Fr h₀ L s.heap m) (X : (hd.heap_1 w.params).In h₀) (N : News h₀ L s.heap news) (T : Top p loose mean mg mb h₀) (hk : cs.kind = .function) (hdp : dp + c < recursionLimit) (hun : un + cu < cLine)
    (h : ∀ r news' h' tk', post r news' → Fr h₀ L h' m → News h₀ L h' news' → R (.ok (.ret r)) { s with heap := h', toks := tk' }) :
    codeAny (model prog w) (ktrTop dp un gd cn cs L a ccd cl outer) (.call (.ref f) ⟨vs, []⟩) R s :=
  C p loose mean mg mb dp un gd cn cs a ccd cl outer A₀ base h₀ L m s R B F X N T hk hdp hun h
theorem FnAt.of_K {K : Frag} {h : Heap} {q : Addr} {oc : Value} {od : Option Addr} {fd : FuncData} {sl : Array (Option Value)} (X : K.In h) (e : K.lookup q = some ⟨oc, od, .func fd, sl⟩) : FnAt q h := ⟨oc, od, fd, sl, X _ _ e⟩
theorem lex_drop {a b c d : Addr × Obj} {r : List (Addr × Obj)} {h : Heap} (N : News h₀ L h (a :: b :: c :: d :: r)) : News h₀ L h (a :: b :: r) := fun p hp => N p (by
  simp only [List.mem_cons] at hp ⊢
  rcases hp with h | h | h <;> simp [h])
theorem str_of_list {y : Str} {t : List Nat} (h : y.cps.toList = t) : y = ⟨t.toArray⟩ := by
  subst h
  cases y
  simp
theorem QTok.len {cs t r : List Nat} (h : QTok cs t r) : t.length ≤ cs.length := by
  induction h with
  | stop r => simp
  | esc c _ ih => simp only [List.length_cons]; omega
  | plain c _ _ _ ih => simp only [List.length_cons]; omega
theorem UTok.len {cs t r : List Nat} (h : UTok cs t r) : t.length ≤ cs.length := by
  induction h with
  | stop c r _ => simp
  | plain c _ _ _ ih => simp only [List.length_cons]; omega
theorem GTok.len {cs t r : List Nat} (h : GTok cs t r) : t.length ≤ cs.length := by
  induction h with
  | skip c _ _ ih => simp only [List.length_cons]; omega
  | quoted h => have := h.len; simp only [List.length_cons]; omega
  | plain c _ _ _ h => have := h.len; simp only [List.length_cons]; omega
theorem size_of_app {y : Str} {a t : List Nat} (h : y.cps.toList ++ a = t) (ht : t.length < 100000) : y.cps.size < 1000000 := by
  have := congrArg List.length h
  rw [List.length_append, Array.length_toList] at this
  omega
theorem lex_order {a b c d : Addr × Obj} {r : List (Addr × Obj)} {h : Heap} (N : News h₀ L h (a :: b :: c :: d :: r)) : News h₀ L h (c :: d :: a :: b :: r) := fun p hp => N p (by
  simp only [List.mem_cons] at hp ⊢
  rcases hp with h | h | h | h | h <;> simp [h])
end
section
local macro_rules | `(tactic| walk_at "exec For") => `(tactic| (refine Hold.mk ?_))
local macro_rules | `(tactic| walk_at "exec For Name Name cons nil") => `(tactic| (refine Hold.mk ?_))
local macro_rules | `(tactic| walk_at "call builtin:iter") => `(tactic| (refine Hold.mk ?_))
local macro_rules | `(tactic| walk_at "truthy ref") => `(tactic| ((with_reducible show wpAny _ _ (truthy (Value.ref _)) _ _ _); (k_dflt (refine' truthy_nil ?N ?m ?_; (case N => k_asm); (case m => k_mem))); intro tk'))
local macro_rules | `(tactic| walk_at "compareOp In str str") => `(tactic| (k_dflt (refine' in1_ws ?e ?_; (case e => assumption))))
local macro_rules | `(tactic| walk_at "compareOp Eq str str") => `(tactic| (first
  | (with_reducible refine eq1_no (k := 34) ?e ?n ?_; (case e => decide +kernel); (case n => first | assumption | decide))
  | (with_reducible refine eq1_no (k := 92) ?e ?n ?_; (case e => decide +kernel); (case n => first | assumption | decide))
  | (with_reducible refine eq1_yes (k := 34) ?e ?_; (case e => decide +kernel))
  | (with_reducible refine eq1_yes (k := 92) ?e ?_; (case e => decide +kernel))))
local macro_rules | `(tactic| walk_at "inplaceOp Add str str") => `(tactic| (k_dflt (refine' iadd1 ?z ?_; (case z => first | assumption | decide)); intro y' t' tk' hyy))
local macro_rules | `(tactic| walk_at "call ref") => `(tactic| ((with_reducible show wpAny _ _ (call (Value.ref 135) _) _ _ _); refine Hold.mk ?_))
theorem get_token (prog : Program) (w : World) (V : LexV) (rest : List (Addr × Obj)) (R : LexR V w rest) (cs t r : List Nat) (G : GTok cs t r) (items : List Value) (ep : Nat) (k : Int) (tk : Tok) (hi : ChrsAre items cs) (hz : items.length < 100000) :
    Con prog w 142 [.ref V.lx] 20 200 ((V.lf, listOf items.toArray ep) :: (V.ld, V.dict w k tk) :: rest) (fun v new => ∃ tv items' k' tk' ep', v = .str ⟨t.toArray⟩ tv ∧ ChrsAre items' r ∧ new = (V.lf, listOf items'.toArray ep') :: (V.ld, V.dict w k' tk') :: rest) := by
  have R' := R
  obtain ⟨hlx, hpb, hx2, hd2, hf, hc, hc1, hc2, hce, hce1, n1, n2⟩ := R
  have RC := fun rest R c tc items ep k tk hz => read_charC prog w V rest R c tc items ep k tk hz
  have RD := fun rest R c tc items ep k tk hz => read_char prog w V rest R c tc items ep k tk hz
  have hlf := V.hlf
  have ht : t.length < 100000 := by have := G.len; have := hi.length; omega
  have h34 : ws 34 = false := rfl
  dsimp only [LexV.dict, LexV.dict2, LexV.fn] at hd2 hf ⊢
  intro p' loose mean mg mb dp un gd cn cs' fa ccd cl outer A₀ base h₀ L mm st Q E B F X N T9 hk hdp hun hret
  refine wpAny_call ?_
  k_dflt ktr_enter
  rename_i g L' h' FG F' N' B' X' T'
  k_steps
  refine Hold.out ?_
  k_dflt (refine' ci_make ?F ?N ?m ?_)
  case F => k_asm
  case N => k_asm
  case m => exact List.Mem.head _
  rename_i mq hq Fq Nq lq
  intro it h9 F9 N9 l9
  k_lt l9
  have R2 := fun x : Obj => LexR.cons2 (a := (it, x)) (b := (mq, methodObj (.ref 135) (.ref V.lx))) R' (Nat.ne_of_gt l9.2.1) (Nat.ne_of_gt l9.2.2.1) (Nat.ne_of_gt lq.1) (Nat.ne_of_gt lq.2.1)
  have N8 := lex_order N9
  clear N9 Nq
  k_steps
  refine Hold.out ?_
  rename Fr g L' _ _ => F7
  rename News g L' _ _ => N7
  k_dflt (refine' for_goR (it := it) ?hE ?hs (GtA w V rest g L' it mq st t r) cs.length ?init ?step)
  case hE => first | passes_own | with_unfolding_all passes_own
  case hs => intro _; rfl
  case init =>
    k_steps
    k_dflt (refine' ci_iter (mq := mq) ?i ?_)
    case i => exact N7.get (.tail _ (.tail _ (.head _)))
    exact ⟨rfl, cs, items, ep, k, tk, _, _, _, _, _, rfl, F7, N7, hi, hz, G, rfl, rfl, rfl, rfl⟩
  case step =>
    rintro n s' ⟨cs, items, ep, k, tk, ts, tt, mp, h, tks, rfl, F6, N6, hi, hz, G, m1, m2, m3, rfl⟩ Qa Ra hQa hRa
    dsimp only [LexV.dict] at N6
    cases G with
    | skip c h1 G =>
      rename_i cs
      obtain ⟨tc, items, rfl, hi2⟩ := hi.inv
      k_dflt (refine' ci_next (f := 135) (lx := V.lx) (N6.get (.tail _ (.tail _ (.head _)))) (N6.get (.tail _ (.tail _ (.tail _ (.head _))))) ?fn ?_)
      case fn => exact FnAt.of_K (Frag.In.keeps X' F6.keep) (by k_is)
      have hz' : items.length < 100000 := by simp only [List.length_cons] at hz; omega
      k_dflt (refine' ConC.use (RC _ (R2 _) c tc items ep k tk hz') ?zB ?zF ?zX ?zN ?zT ?zhk ?zd ?zu ?_)
      case zB => k_asm
      case zF => k_asm
      case zX => k_asm
      case zN => k_asm
      case zT => k_asm
      case zhk => rfl
      case zd => ktr_room
      case zu => ktr_units
      intro r9 new9 h9 tk9 hp9 F9 N9
      obtain ⟨rfl, k', tk', ep', rfl⟩ := hp9
      dsimp only [LexV.dict] at N9
      refine ⟨⟨_, _, rfl⟩, N9.get (.tail _ (.tail _ (.head _))), ?_⟩
      dsimp only
      k_steps
      rename Fr g L' _ _ => F7
      rename News g L' _ _ => N7
      refine Hold.out (hRa _ _ ?_)
      refine WInd.cont cs.length (Nat.lt_succ_self _) ?_
      exact ⟨cs, items, ep', k', tk', ts, tt, _, _, _, rfl, F7, N7, hi2, hz', G, m1, m2, m3, rfl⟩
    | quoted G =>
      rename_i cs
      obtain ⟨tc, items, rfl, hi2⟩ := hi.inv
      k_dflt (refine' ci_next (f := 135) (lx := V.lx) (N6.get (.tail _ (.tail _ (.head _)))) (N6.get (.tail _ (.tail _ (.tail _ (.head _))))) ?fn ?_)
      case fn => exact FnAt.of_K (Frag.In.keeps X' F6.keep) (by k_is)
      have hz' : items.length < 100000 := by simp only [List.length_cons] at hz; omega
      k_dflt (refine' ConC.use (RC _ (R2 _) 34 tc items ep k tk hz') ?zB ?zF ?zX ?zN ?zT ?zhk ?zd ?zu ?_)
      case zB => k_asm
      case zF => k_asm
      case zX => k_asm
      case zN => k_asm
      case zT => k_asm
      case zhk => rfl
      case zd => ktr_room
      case zu => ktr_units
      intro r9 new9 h9 tk9 hp9 F9 N9
      obtain ⟨rfl, k', tk', ep', rfl⟩ := hp9
      dsimp only [LexV.dict] at N9
      refine ⟨⟨_, _, rfl⟩, N9.get (.tail _ (.tail _ (.head _))), ?_⟩
      dsimp only
      k_steps
      refine Hold.out ?_
      rename Fr g L' _ _ => F7
      rename News g L' _ _ => N7
      k_dflt (refine' for_goR (it := it) ?hE ?hs (GtB w V rest g L' it mq st QTok t r) cs.length ?init ?step)
      case hE => first | passes_own | with_unfolding_all passes_own
      case hs => intro _; rfl
      case init =>
        k_steps
        k_dflt (refine' ci_iter (mq := mq) ?i ?_)
        case i => exact N7.get (.tail _ (.tail _ (.head _)))
        exact ⟨rfl, cs, _, ⟨#[]⟩, items, ep', k', tk', _, _, _, _, _, rfl, F7, N7, hi2, hz', G, rfl, m1, m2, m3, rfl⟩
      case step =>
        rintro n s' ⟨cs, tr, y, items, ep, k, tk, ts, tt, mp, h, tks, rfl, F6, N6, hi, hz, G, hy, m1, m2, m3, rfl⟩ Qb Rb hQb hRb
        dsimp only [LexV.dict] at N6
        have hys := size_of_app hy ht
        cases G with
        | stop =>
          obtain ⟨tc, items, rfl, hi2⟩ := hi.inv
          k_dflt (refine' ci_next (f := 135) (lx := V.lx) (N6.get (.tail _ (.tail _ (.head _)))) (N6.get (.tail _ (.tail _ (.tail _ (.head _))))) ?fn ?_)
          case fn => exact FnAt.of_K (Frag.In.keeps X' F6.keep) (by k_is)
          have hz' : items.length < 100000 := by simp only [List.length_cons] at hz; omega
          k_dflt (refine' ConC.use (RC _ (R2 _) 34 tc items ep k tk hz') ?zB ?zF ?zX ?zN ?zT ?zhk ?zd ?zu ?_)
          case zB => k_asm
          case zF => k_asm
          case zX => k_asm
          case zN => k_asm
          case zT => k_asm
          case zhk => rfl
          case zd => ktr_room
          case zu => ktr_units
          intro r9 new9 h9 tk9 hp9 F9 N9
          obtain ⟨rfl, k', tk', ep', rfl⟩ := hp9
          dsimp only [LexV.dict] at N9
          refine ⟨⟨_, _, rfl⟩, N9.get (.tail _ (.tail _ (.head _))), ?_⟩
          dsimp only
          k_steps

          refine Hold.out (hRb _ _ ?_)
          dsimp only [WInd]
          refine Hold.out (hRa _ _ ?_)
          dsimp only [WInd]
          k_steps
          rename Fr h₀ L _ _ => F7
          rename News h₀ L _ _ => N7
          rw [List.append_nil] at hy
          obtain rfl := str_of_list hy
          exact hret _ _ _ _ ⟨_, items, k', tk', ep', rfl, hi2, rfl⟩ F7 (lex_drop N7)
        | esc c G =>
          rename_i cs tr
          obtain ⟨tc0, items, rfl, hi0⟩ := hi.inv
          obtain ⟨tc, items, rfl, hi2⟩ := hi0.inv
          k_dflt (refine' ci_next (f := 135) (lx := V.lx) (N6.get (.tail _ (.tail _ (.head _)))) (N6.get (.tail _ (.tail _ (.tail _ (.head _))))) ?fn ?_)
          case fn => exact FnAt.of_K (Frag.In.keeps X' F6.keep) (by k_is)
          have hz0 : (Value.str ⟨#[c]⟩ tc :: items).length < 100000 := by simp only [List.length_cons] at hz ⊢; omega
          have hz' : items.length < 100000 := by simp only [List.length_cons] at hz; omega
          k_dflt (refine' ConC.use (RC _ (R2 _) 92 tc0 (Value.str ⟨#[c]⟩ tc :: items) ep k tk hz0) ?zB ?zF ?zX ?zN ?zT ?zhk ?zd ?zu ?_)
          case zB => k_asm
          case zF => k_asm
          case zX => k_asm
          case zN => k_asm
          case zT => k_asm
          case zhk => rfl
          case zd => ktr_room
          case zu => ktr_units
          intro r9 new9 h9 tk9 hp9 F9 N9
          obtain ⟨rfl, k', tk', ep', rfl⟩ := hp9
          dsimp only [LexV.dict] at N9
          refine ⟨⟨_, _, rfl⟩, N9.get (.tail _ (.tail _ (.head _))), ?_⟩
          dsimp only
          k_steps
          refine Hold.out ?_
          k_dflt (refine' Con.use (RD _ (R2 _) c tc items _ _ _ hz') ?zB ?zF ?zX ?zN ?zT ?zhk ?zd ?zu ?_)
          case zB => k_asm
          case zF => k_asm
          case zX => k_asm
          case zN => k_asm
          case zT => k_asm
          case zhk => rfl
          case zd => ktr_room
          case zu => ktr_units
          intro r8 new8 h8 tk8 hp8 F8 N8
          obtain ⟨rfl, k', tk', ep', rfl⟩ := hp8
          dsimp only [LexV.dict] at N8
          k_steps
          rename Fr g L' _ _ => F7
          rename News g L' _ _ => N7
          rename _ = y.cps.toList ++ _ => hyy
          refine Hold.out (hRb _ _ ?_)
          first | refine WInd.next cs.length (Nat.lt_succ_of_lt (Nat.lt_succ_self _)) ?_ | refine WInd.cont cs.length (Nat.lt_succ_of_lt (Nat.lt_succ_self _)) ?_
          exact ⟨cs, _, _, items, ep', k', tk', ts, _, _, _, _, rfl, F7, N7, hi2, hz', G, by rw [hyy, List.append_assoc]; exact hy, rfl, m2, m3, rfl⟩
        | plain c h1 h2 G =>
          rename_i cs tr
          obtain ⟨tc, items, rfl, hi2⟩ := hi.inv
          k_dflt (refine' ci_next (f := 135) (lx := V.lx) (N6.get (.tail _ (.tail _ (.head _)))) (N6.get (.tail _ (.tail _ (.tail _ (.head _))))) ?fn ?_)
          case fn => exact FnAt.of_K (Frag.In.keeps X' F6.keep) (by k_is)
          have hz' : items.length < 100000 := by simp only [List.length_cons] at hz; omega
          k_dflt (refine' ConC.use (RC _ (R2 _) c tc items ep k tk hz') ?zB ?zF ?zX ?zN ?zT ?zhk ?zd ?zu ?_)
          case zB => k_asm
          case zF => k_asm
          case zX => k_asm
          case zN => k_asm
          case zT => k_asm
          case zhk => rfl
          case zd => ktr_room
          case zu => ktr_units
          intro r9 new9 h9 tk9 hp9 F9 N9
          obtain ⟨rfl, k', tk', ep', rfl⟩ := hp9
          dsimp only [LexV.dict] at N9
          refine ⟨⟨_, _, rfl⟩, N9.get (.tail _ (.tail _ (.head _))), ?_⟩
          dsimp only
          k_steps

          rename Fr g L' _ _ => F7
          rename News g L' _ _ => N7
          rename _ = y.cps.toList ++ _ => hyy
          refine Hold.out (hRb _ _ ?_)
          first | refine WInd.next cs.length (Nat.lt_succ_self _) ?_ | refine WInd.cont cs.length (Nat.lt_succ_self _) ?_
          exact ⟨cs, _, _, items, ep', k', tk', ts, _, _, _, _, rfl, F7, N7, hi2, hz', G, by rw [hyy, List.append_assoc]; exact hy, rfl, m2, m3, rfl⟩
    | @plain c cs t1 _ h1 h2 h3 G =>
      obtain ⟨tc, items, rfl, hi2⟩ := hi.inv
      k_dflt (refine' ci_next (f := 135) (lx := V.lx) (N6.get (.tail _ (.tail _ (.head _)))) (N6.get (.tail _ (.tail _ (.tail _ (.head _))))) ?fn ?_)
      case fn => exact FnAt.of_K (Frag.In.keeps X' F6.keep) (by k_is)
      have hz' : items.length < 100000 := by simp only [List.length_cons] at hz; omega
      k_dflt (refine' ConC.use (RC _ (R2 _) c tc items ep k tk hz') ?zB ?zF ?zX ?zN ?zT ?zhk ?zd ?zu ?_)
      case zB => k_asm
      case zF => k_asm
      case zX => k_asm
      case zN => k_asm
      case zT => k_asm
      case zhk => rfl
      case zd => ktr_room
      case zu => ktr_units
      intro r9 new9 h9 tk9 hp9 F9 N9
      obtain ⟨rfl, k', tk', ep', rfl⟩ := hp9
      dsimp only [LexV.dict] at N9
      refine ⟨⟨_, _, rfl⟩, N9.get (.tail _ (.tail _ (.head _))), ?_⟩
      dsimp only
      k_steps
      refine Hold.out ?_
      rename _ = Array.toList _ ++ [c] => hyy
      rename Fr g L' _ _ => F7
      rename News g L' _ _ => N7
      k_dflt (refine' for_goR (it := it) ?hE ?hs (GtB w V rest g L' it mq st UTok (c :: t1) r) cs.length ?init ?step)
      case hE => first | passes_own | with_unfolding_all passes_own
      case hs => intro _; rfl
      case init =>
        k_steps
        k_dflt (refine' ci_iter (mq := mq) ?i ?_)
        case i => exact N7.get (.tail _ (.tail _ (.head _)))
        exact ⟨rfl, cs, t1, _, items, ep', k', tk', _, _, _, _, _, rfl, F7, N7, hi2, hz', G, by simp [hyy], rfl, m2, m3, rfl⟩
      case step =>
        rintro n s' ⟨cs, tr, y, items, ep, k, tk, ts, tt, mp, h, tks, rfl, F6, N6, hi, hz, G, hy, m1, m2, m3, rfl⟩ Qb Rb hQb hRb
        dsimp only [LexV.dict] at N6
        have hys := size_of_app hy ht
        cases G with
        | stop c _ hws =>
          obtain ⟨tc, items, rfl, hi2⟩ := hi.inv
          k_dflt (refine' ci_next (f := 135) (lx := V.lx) (N6.get (.tail _ (.tail _ (.head _)))) (N6.get (.tail _ (.tail _ (.tail _ (.head _))))) ?fn ?_)
          case fn => exact FnAt.of_K (Frag.In.keeps X' F6.keep) (by k_is)
          have hz' : items.length < 100000 := by simp only [List.length_cons] at hz; omega
          k_dflt (refine' ConC.use (RC _ (R2 _) c tc items ep k tk hz') ?zB ?zF ?zX ?zN ?zT ?zhk ?zd ?zu ?_)
          case zB => k_asm
          case zF => k_asm
          case zX => k_asm
          case zN => k_asm
          case zT => k_asm
          case zhk => rfl
          case zd => ktr_room
          case zu => ktr_units
          intro r9 new9 h9 tk9 hp9 F9 N9
          obtain ⟨rfl, k', tk', ep', rfl⟩ := hp9
          dsimp only [LexV.dict] at N9
          refine ⟨⟨_, _, rfl⟩, N9.get (.tail _ (.tail _ (.head _))), ?_⟩
          dsimp only
          k_steps

          refine Hold.out (hRb _ _ ?_)
          dsimp only [WInd]
          refine Hold.out (hRa _ _ ?_)
          dsimp only [WInd]
          k_steps
          rename Fr h₀ L _ _ => F7
          rename News h₀ L _ _ => N7
          rw [List.append_nil] at hy
          obtain rfl := str_of_list hy
          exact hret _ _ _ _ ⟨_, items, k', tk', ep', rfl, hi2, rfl⟩ F7 (lex_drop N7)
        | plain c h1 h2 G =>
          rename_i cs tr
          obtain ⟨tc, items, rfl, hi2⟩ := hi.inv
          k_dflt (refine' ci_next (f := 135) (lx := V.lx) (N6.get (.tail _ (.tail _ (.head _)))) (N6.get (.tail _ (.tail _ (.tail _ (.head _))))) ?fn ?_)
          case fn => exact FnAt.of_K (Frag.In.keeps X' F6.keep) (by k_is)
          have hz' : items.length < 100000 := by simp only [List.length_cons] at hz; omega
          k_dflt (refine' ConC.use (RC _ (R2 _) c tc items ep k tk hz') ?zB ?zF ?zX ?zN ?zT ?zhk ?zd ?zu ?_)
          case zB => k_asm
          case zF => k_asm
          case zX => k_asm
          case zN => k_asm
          case zT => k_asm
          case zhk => rfl
          case zd => ktr_room
          case zu => ktr_units
          intro r9 new9 h9 tk9 hp9 F9 N9
          obtain ⟨rfl, k', tk', ep', rfl⟩ := hp9
          dsimp only [LexV.dict] at N9
          refine ⟨⟨_, _, rfl⟩, N9.get (.tail _ (.tail _ (.head _))), ?_⟩
          dsimp only
          k_steps

          rename Fr g L' _ _ => F7
          rename News g L' _ _ => N7
          rename _ = y.cps.toList ++ _ => hyy
          refine Hold.out (hRb _ _ ?_)
          first | refine WInd.next cs.length (Nat.lt_succ_self _) ?_ | refine WInd.cont cs.length (Nat.lt_succ_self _) ?_
          exact ⟨cs, _, _, items, ep', k', tk', ts, _, _, _, _, rfl, F7, N7, hi2, hz', G, by rw [hyy, List.append_assoc]; exact hy, rfl, m2, m3, rfl⟩
end

end
section
theorem rs_C12 : True := by
  w_top off
  trivial
section
noncomputable def LexNew (w : World) (x : List Nat) (rest : List (Addr × Obj)) (v : Value) (new : List (Addr × Obj)) : Prop :=
  ∃ (V : LexV) (items : List Value) (ep : Nat) (k : Int) (tk : Tok) (rest' : List (Addr × Obj)), v = .ref V.lx ∧ ChrsAre items x ∧ LexR V w rest' ∧ new = (V.lf, listOf items.toArray ep) :: (V.ld, V.dict w k tk) :: rest' ∧ (∀ p ∈ rest, p ∈ rest') ∧ ∃ ps, (158, tabObj ps) ∈ rest'
theorem lexer_fin {w : World} {x : List Nat} {h₀ h : Heap} {L lf ld lx pb x2 d2 pb2 f c ce : Addr} {oc oce : Obj} {ps : Array Value} {vs : Array Value} {qual : Str} {t : Tok} {doc pm ct : Value} {k1 k2 k3 k4 k5 u1 u2 u3 u4 u5 u6 u7 tk : Tok} {k : Int} {items : List Value} {ep : Nat} {rest : List (Addr × Obj)}
    (N : News h₀ L h ((pb, listOf #[] 0) :: (lx, instObj 152 ld) :: (ld, dictOf [⟨PyData.keyHash w.params "lineno", .str "lineno" k1, .int k tk⟩, ⟨PyData.keyHash w.params "instream", .str "instream" k2, .ref x2⟩, ⟨PyData.keyHash w.params "whitespace", .str "whitespace" k3, .str "\n\t\x0d " k4⟩, ⟨PyData.keyHash w.params "pushback", .str "pushback" k5, .ref pb⟩] 4) ::
      (f, fnMade (Str.ofString "_law_next") qual (defArgs lexSt.1) (defBody lexSt.1) (defScope lexSt.1) [(Str.ofString "left", ce)] doc pm c ct) :: (c, oc) :: (pb2, listOf #[] 0) :: (x2, instObj 152 d2) ::
      (d2, dictOf [⟨PyData.keyHash w.params "lineno", .str "lineno" u1, .int 1 u2⟩, ⟨PyData.keyHash w.params "instream", .str "instream" u3, .none⟩, ⟨PyData.keyHash w.params "whitespace", .str "whitespace" u4, .str "\n\t\x0d " u5⟩, ⟨PyData.keyHash w.params "pushback", .str "pushback" u6, .ref pb2⟩, ⟨PyData.keyHash w.params "read", .str "read" u7, .ref f⟩] 5) ::
      (lf, listOf items.toArray ep) :: (ce, oce) :: (158, tabObj ps) :: rest))
    (hc1 : oc.data = .fields vs) (hc2 : vs[1]? = some (.str qual t)) (hce1 : oce.data = .cell (some (.ref lf))) (hch : ChrsAre items x)
    (h1 : @LT.lt Nat _ lf ld) (h2 : @LT.lt Nat _ ld pb) (h3 : @LT.lt Nat _ ld lx) (h4 : @LT.lt Nat _ f ld) (h5 : @LT.lt Nat _ c ld) (h6 : @LT.lt Nat _ pb2 ld) (h7 : @LT.lt Nat _ x2 ld) (h8 : @LT.lt Nat _ d2 ld) (h9 : @LT.lt Nat _ ce lf) (h10 : @LT.lt Nat _ 158 lf)
    (h11 : @LT.lt Nat _ lf f) (h12 : @LT.lt Nat _ lf c) (h13 : @LT.lt Nat _ lf pb2) (h14 : @LT.lt Nat _ lf x2) (h15 : @LT.lt Nat _ lf d2) (ha : AllLt lf rest) :
    ∃ new, LexNew w x rest (.ref lx) new ∧ News h₀ L h new := by
  refine ⟨_, ⟨⟨lf, ld, lx, pb, x2, d2, pb2, f, c, ce, oc, oce, vs, qual, t, doc, pm, ct, k1, k2, k3, k4, k5, u1, u2, u3, u4, u5, u6, u7, h1⟩, items, ep, k, tk,
    (pb, listOf #[] 0) :: (lx, instObj 152 ld) :: (f, fnMade (Str.ofString "_law_next") qual (defArgs lexSt.1) (defBody lexSt.1) (defScope lexSt.1) [(Str.ofString "left", ce)] doc pm c ct) :: (c, oc) :: (pb2, listOf #[] 0) :: (x2, instObj 152 d2) ::
      (d2, dictOf [⟨PyData.keyHash w.params "lineno", .str "lineno" u1, .int 1 u2⟩, ⟨PyData.keyHash w.params "instream", .str "instream" u3, .none⟩, ⟨PyData.keyHash w.params "whitespace", .str "whitespace" u4, .str "\n\t\x0d " u5⟩, ⟨PyData.keyHash w.params "pushback", .str "pushback" u6, .ref pb2⟩, ⟨PyData.keyHash w.params "read", .str "read" u7, .ref f⟩] 5) ::
      (ce, oce) :: (158, tabObj ps) :: rest, rfl, hch, ?_, rfl, fun p hp => by simp [hp], ps, .tail _ (.tail _ (.tail _ (.tail _ (.tail _ (.tail _ (.tail _ (.tail _ (.head _))))))))⟩, fun p hp => N p ?_⟩
  · refine ⟨?_, ?_, ?_, ?_, ?_, ?_, hc1, hc2, ?_, hce1, ?_, ?_⟩
    · exact .tail _ (.head _)
    · exact .head _
    · exact .tail _ (.tail _ (.tail _ (.tail _ (.tail _ (.head _)))))
    · exact .tail _ (.tail _ (.tail _ (.tail _ (.tail _ (.tail _ (.head _))))))
    · exact .tail _ (.tail _ (.head _))
    · exact .tail _ (.tail _ (.tail _ (.head _)))
    · exact .tail _ (.tail _ (.tail _ (.tail _ (.tail _ (.tail _ (.tail _ (.head _)))))))
    · intro p hp
      simp only [List.mem_cons] at hp
      rcases hp with rfl | rfl | rfl | rfl | rfl | rfl | rfl | rfl | rfl | hp
      · exact Nat.ne_of_gt (Nat.lt_trans h1 h2)
      · exact Nat.ne_of_gt (Nat.lt_trans h1 h3)
      · exact Nat.ne_of_gt h11
      · exact Nat.ne_of_gt h12
      · exact Nat.ne_of_gt h13
      · exact Nat.ne_of_gt h14
      · exact Nat.ne_of_gt h15
      · exact Nat.ne_of_lt h9
      · exact Nat.ne_of_lt h10
      · exact Nat.ne_of_lt (allLt_all ha p hp)
    · intro p hp
      simp only [List.mem_cons] at hp
      rcases hp with rfl | rfl | rfl | rfl | rfl | rfl | rfl | rfl | rfl | hp
      · exact Nat.ne_of_gt h2
      · exact Nat.ne_of_gt h3
      · exact Nat.ne_of_lt h4
      · exact Nat.ne_of_lt h5
      · exact Nat.ne_of_lt h6
      · exact Nat.ne_of_lt h7
      · exact Nat.ne_of_lt h8
      · exact Nat.ne_of_lt (Nat.lt_trans h9 h1)
      · exact Nat.ne_of_lt (Nat.lt_trans h10 h1)
      · exact Nat.ne_of_lt (Nat.lt_trans (allLt_all ha p hp) h1)
  · simp only [List.mem_cons] at hp ⊢
    rcases hp with h | h | h | h | h | h | h | h | h | h | h <;> simp [h]
end
section
local macro_rules | `(tactic| walk_at "call type:list") => `(tactic| (refine Hold.mk ?_))
theorem law_lexer (prog : Program) (w : World) (x : Str) (tx : Tok) (rest : List (Addr × Obj)) (hr : ∀ p ∈ rest, p.1 ≠ 158) (hx : x.cps.size ≤ 1000) :
    Con prog w 163 [.str x tx] 10 100 ((158, tabObj #[]) :: rest) (LexNew w x.cps.toList rest) := by
  intro p' loose mean mg mb dp un gd cn cs fa ccd cl outer A₀ base h₀ L mm st Q E B F X N T9 hk hdp hun hret
  refine wpAny_call ?_
  k_dflt (refine' code_defC ?k1 ?k2 ?k3 ?k4 ?k5 ?kA ?kF ?kK ?k6 ?k7 ?k8 ?k9 ?kB ?kD ?_ ?c2 ?c3 ?c4; (case kA => exact rfl); (case kF => exact rfl); (case kK => assumption); (case k1 => k_asm); (case k2 => k_asm); (case k3 => k_asm); (case k4 => k_asm); (case k5 => k_asm); (case k6 => k_is); (case k7 => k_is); (case k8 => ktr_room); (case k9 => exact BindsTo.of_eq rfl); (case kB => exact rfl); (case kD => decide +kernel); (case c2 => exact rfl); (case c3 => exact rfl); (case c4 => exact rfl); k_whole; intro g' L' h' tk' cells' FG' F' N' Y' B' X' T' l1; k_cells Y'; (try simp only [List.cons_append, List.nil_append] at N'); (try dsimp only))
  have C81 := codeHd_of_K (K := hd.heap_1 w.params) (c := 162) (P := 158) (by assumption) (by kernel_rfl)
  show wpAny _ _ _ _ _ _
  k_fold
  k_steps
  refine Hold.out ?_
  k_dflt (refine' listStr_K ?F ?N ?hh ?hn ?_)
  case F => k_asm
  case N => k_asm
  case hh => rfl
  case hn => omega
  intro q9 h9 tk9 items ep F9 N9 l9 hch
  k_lt l1
  k_lt l9
  k_steps
  rename Fr h₀ L _ _ => kF
  rename News h₀ L _ _ => kN
  rename _ = Data.fields _ => hd1
  rename _ = some (Value.str _ _) => hd2
  rename _ = Data.cell (some (Value.ref q9)) => hd3
  obtain ⟨new, hn1, hn2⟩ := lexer_fin kN hd1 hd2 hd3 hch (by omega) (by omega) (by omega) (by omega) (by omega) (by omega) (by omega) (by omega) (by omega) (by omega) (by omega) (by omega) (by omega) (by omega) (by omega) l9.2.2
  exact hret _ _ _ _ hn1 kF hn2
end

end
section
theorem rs_C13 : True := by
  w_top off
  trivial
section
variable {prog : Program} {w : World} {A : Around} {E : Value → Shared → Prop} {s : Shared} {h₀ : Heap} {L : Addr} {m : Str → Option Value} {news : List (Addr × Obj)} {Q : Value → Shared → Prop} {x y z : Str} {t u : Tok} {i j v : Int}
theorem find_V (e : Txt.find x y = v) (h : ∀ t' tk, Q (.int v t') { s with toks := tk }) : wpAny (model prog w) A (call (.builtin "str.find") [.str x t, .str y u]) Q E s := by
  subst e; exact SC.find (h _ _)
theorem find3_V {r : Tok} (e : Txt.find3 x y i = v) (h : ∀ t' tk, Q (.int v t') { s with toks := tk }) : wpAny (model prog w) A (call (.builtin "str.find") [.str x t, .str y u, .int i r]) Q E s := by
  subst e; exact SC.find3 (h _ _)
theorem ne_V {b : Bool} (e : (x != y) = b) (h : Q (.bool b) s) : wpAny (model prog w) A (compareOp .NotEq (.str x t) (.str y u)) Q E s := by
  subst e; exact ne_str h
theorem item_V {value slice : PySem.Expr} (e : Txt.item x i = y) (h0 : 0 ≤ i) (h1 : i < (x.length : Int)) (h2 : i < 1000) (h : ∀ t' tk, Q (.str y t') { s with toks := tk })
    (hs : subscripted slice false (.str x t) (.int i u) = operate [.str x t, .int i u] (getItem (.str x t) (.int i u))) (ht : ∀ r, letTemporaryGo value (.str x t) r = pure ()) :
    wpAny (model prog w) A (subscriptTail value slice (.str x t) (.int i u)) Q E s := by
  subst e
  exact item_str (fitsSsize_of (N := 9223372036854775808) (by omega) (by omega) (Int.le_refl _)) (by omega) h1 (fun _ => h _ _) hs ht
theorem slice_ns_V {value slice : PySem.Expr} {uj : Tok} (F : Fr h₀ L s.heap m) (N : News h₀ L s.heap news) (e : Txt.slice x none (some j) = y) (hx : x.length ≤ 1000) (h : ∀ h' t' k, Fr h₀ L h' m → News h₀ L h' news → Q (.str y t') { s with heap := h', toks := k })
    (hs : subscripted slice false (.str x t) (.ref s.heap.objs.size) = operate [.ref s.heap.objs.size, .str x t] (getItem (.str x t) (.ref s.heap.objs.size))) (ht : ∀ r, letTemporaryGo value (.str x t) r = pure ()) :
    wpAny (model prog w) A (subscriptTail value slice (.str x t) (.ref s.heap.objs.size)) Q E { s with heap := s.heap.push { cls := .type "slice", data := .fields #[.none, .int j uj, .none] } } := by
  subst e
  exact slice_strN_ns F N h hs ht (by rw [sizeLine_eq]; omega)
theorem slice_ss_V {value slice : PySem.Expr} {ui uj : Tok} (F : Fr h₀ L s.heap m) (N : News h₀ L s.heap news) (e : Txt.slice x (some i) (some j) = y) (hx : x.length ≤ 1000) (h : ∀ h' t' k, Fr h₀ L h' m → News h₀ L h' news → Q (.str y t') { s with heap := h', toks := k })
    (hs : subscripted slice false (.str x t) (.ref s.heap.objs.size) = operate [.ref s.heap.objs.size, .str x t] (getItem (.str x t) (.ref s.heap.objs.size))) (ht : ∀ r, letTemporaryGo value (.str x t) r = pure ()) :
    wpAny (model prog w) A (subscriptTail value slice (.str x t) (.ref s.heap.objs.size)) Q E { s with heap := s.heap.push { cls := .type "slice", data := .fields #[.int i ui, .int j uj, .none] } } := by
  subst e
  exact slice_strN_ss F N h hs ht (by rw [sizeLine_eq]; omega)
theorem split_V {p0 p1 p2 p3 p4 : Str} (F : Fr h₀ L s.heap m) (N : News h₀ L s.heap news) (hy : (y.length == 0) = false) (hx : x.length ≤ 1000) (e : Txt.split x y = [p0, p1, p2, p3, p4])
    (h : ∀ D h' k t0 t1 t2 t3 t4, Fr h₀ L h' m → News h₀ L h' ((D, listOf #[.str p0 t0, .str p1 t1, .str p2 t2, .str p3 t3, .str p4 t4] 0) :: news) → (∀ p ∈ news, p.1 < D) → Q (.ref D) { s with heap := h', toks := k }) :
    wpAny (model prog w) A (call (.builtin "str.split") [.str x t, .str y u]) Q E s := by
  refine KSpl.split1 F N hy (fun D l h' k e' _ F' N' hl => ?_) (by rw [sizeLine_eq]; omega)
  rw [e] at e'
  obtain ⟨⟨a0, b0⟩, l0, rfl, rfl, q0⟩ := List.map_eq_cons_iff.mp e'
  obtain ⟨⟨a1, b1⟩, l1, rfl, rfl, q1⟩ := List.map_eq_cons_iff.mp q0
  obtain ⟨⟨a2, b2⟩, l2, rfl, rfl, q2⟩ := List.map_eq_cons_iff.mp q1
  obtain ⟨⟨a3, b3⟩, l3, rfl, rfl, q3⟩ := List.map_eq_cons_iff.mp q2
  obtain ⟨⟨a4, b4⟩, l4, rfl, rfl, q4⟩ := List.map_eq_cons_iff.mp q3
  obtain rfl := List.map_eq_nil_iff.mp q4
  exact h D h' k b0 b1 b2 b3 b4 F' N' hl
/-- what parse229 asks of a reply -/
structure RepOk (x : Str) (md : Int) (left right : Int) (sg mid d p0 p1 p2 p4 : Str) : Prop where
  e1 : Txt.slice x none (some 3) = Str.ofString "229"
  e2 : Txt.find x (Str.ofString "(") = left
  e3 : Txt.find3 x (Str.ofString ")") (left + 1) = right
  e4 : Txt.item x (left + 1) = sg
  e5 : Txt.item x (right - 1) = sg
  e6 : Txt.slice x (some (left + 1)) (some right) = mid
  e7 : Txt.split mid sg = [p0, p1, p2, d, p4]
  e8 : PySem.intText? d = some md
  h1 : 0 ≤ left
  h2 : left + 1 < right
  h3 : right < (x.length : Int)
  h4 : x.length ≤ 100
  h5 : mid.length ≤ 100
  h6 : d.length ≤ 100
  h7 : (sg.length == 0) = false
end
section
local macro_rules | `(tactic| walk_at "call builtin:str.find") => `(tactic| (k_dflt (first
  | ((with_reducible show wpAny _ _ (call (Value.builtin "str.find") [Value.str _ _, Value.str _ _]) _ _ _); refine' find_V ?e ?_; (case e => assumption))
  | (refine' find3_V ?e ?_; (case e => assumption)))); intro t' tk')
local macro_rules | `(tactic| walk_at "subscriptTail Name BinOp str int") => `(tactic| (k_dflt ((with_reducible show wpAny _ _ (subscriptTail _ _ (Value.str _ _) (Value.int _ _)) _ _ _); (refine' item_V ?e ?a ?b ?c ?_ (by with_unfolding_all rfl) (by intro _; with_unfolding_all rfl); (case e => assumption); (case a => omega); (case b => omega); (case c => omega)); intro t' tk')))
local macro_rules | `(tactic| walk_at "subscriptTail Name Slice str ref") => `(tactic| (k_dflt (first
  | ((with_reducible show wpAny _ _ (subscriptTail _ (PySem.Expr.Slice none _ _ _) (Value.str _ _) (Value.ref _)) _ _ _); (refine' slice_ns_V ?F ?N ?e ?z ?_ (by with_unfolding_all rfl) (by intro _; with_unfolding_all rfl); (case F => k_asm); (case N => k_asm); (case e => assumption); (case z => omega)); intro h' t' tk' F' N')
  | ((with_reducible show wpAny _ _ (subscriptTail _ (PySem.Expr.Slice (some _) _ _ _) (Value.str _ _) (Value.ref _)) _ _ _); (refine' slice_ss_V ?F ?N ?e ?z ?_ (by with_unfolding_all rfl) (by intro _; with_unfolding_all rfl); (case F => k_asm); (case N => k_asm); (case e => assumption); (case z => omega)); intro h' t' tk' F' N'))))
local macro_rules | `(tactic| walk_at "compareOp NotEq str str") => `(tactic| (refine ne_V (b := false) ?e ?_; (case e => simp)))
local macro_rules | `(tactic| walk_at "call builtin:str.split") => `(tactic| (k_dflt (refine' split_V ?F ?N ?y ?x ?e ?_; (case F => k_asm); (case N => k_asm); (case y => assumption); (case x => omega); (case e => assumption)); intro D' h' k' t0' t1' t2' t3' t4' F' N' l1))
local macro_rules | `(tactic| walk_at "call type:int") => `(tactic| ((with_reducible show wpAny _ _ (call (Value.type "int") [Value.str _ _]) _ _ _); k_dflt (refine' KIN.call_text ?e ?z ?_; (case e => assumption); (case z => omega))))
theorem parse229 (prog : Program) (w : World) (x : Str) (tx : Tok) (md left right : Int) (sg mid d p0 p1 p2 p4 : Str) (R : RepOk x md left right sg mid d p0 p1 p2 p4) (pa : Addr) (host : Value) (th : Tok) (rest : List (Addr × Obj)) (hp : (pa, tup2 host (.int 21 th)) ∈ rest) :
    Con prog w 65 [.str x tx, .ref pa] 10 100 rest (fun v new => ∃ r tm, v = .ref r ∧ new = (r, tup2 host (.int md tm)) :: rest ∧ ∀ p ∈ rest, @LT.lt Nat _ p.1 r) := by
  obtain ⟨e1, e2, e3, e4, e5, e6, e7, e8, h1, h2, h3, h4, h5, h6, h7⟩ := R
  intro p' loose mean mg mb dp un gd cn cs fa ccd cl outer A₀ base h₀ L mm st Q E B F X N T9 hk hdp hun hret
  refine wpAny_call ?_
  k_dflt ktr_enter
  rename_i g L' h' FG F' N' B' X' T'
  k_steps
  rename _ ∧ AllLt _ _ => l9
  rename News h₀ L _ _ => kN
  exact hret _ _ _ _ ⟨_, _, rfl, rfl, allLt_all l9.2⟩ (by k_asm) (ndrop2 kN)
end

end
section
theorem rs_C14 : True := by
  w_top off
  trivial
section
variable {prog : Program} {w : World} {A : Around} {E : Value → Shared → Prop} {s : Shared} {Q : Value → Shared → Prop} {x y z r : Str} {t u v : Tok}
open PySem.Builtin PySem.Builtin.Str in
theorem replace_V (e : Txt.replace x y z = r) (hu : u ≠ 0) (hv : v ≠ 0) (huv : u ≠ v) (hyz : (y == z) = false) (hx : x.length ≤ 1000) (hz : z.length ≤ 14) (h : ∀ t' k, s.toks ≤ k → Q (.str r t') { s with toks := k }) :
    wpAny (model prog w) A (call (.builtin "str.replace") [.str x t, .str y u, .str z v]) Q E s := by
  have h9 : (x.length + 1) * z.length ≤ 1001 * 14 := Nat.mul_le_mul (by omega) hz
  have hb : x.length + (x.length + 1) * z.length ≤ 16777216 := by omega
  have hl : tooLong (x.length + (occurrences x y 0 x.length (x.length + 1)).length * z.length) = false := by
    have h1 := StrLaws.occ_length_le x y 0 x.length (x.length + 1)
    have h2 : (occurrences x y 0 x.length (x.length + 1)).length * z.length ≤ (x.length + 1) * z.length := Nat.mul_le_mul_right _ h1
    unfold tooLong
    rw [sizeLine_eq]
    exact decide_eq_false (by omega)
  refine call_gives PySem.F.slot_str_replace (typeIs_str _ _ _) PySem.F.entry_str_replace (PySem.F.args_str_replace_3 _ _ _)
    (gives_str_replace x y z t u v fun _ => ⟨by simp [hu, hv], by simp [huv], hyz, hl⟩) ?_
  unfold Txt.replace at e
  by_cases hc : ((occurrences x y 0 x.length (x.length + 1)).isEmpty || (y.length == 0 && z.length == 0)) = true
  · rw [if_pos hc] at e ⊢
    subst e
    exact h t s.toks (Nat.le_refl _)
  · rw [if_neg hc] at e ⊢
    have hf := fits_replaced y hb
    rw [e] at hf ⊢
    exact ⟨hf, h _ _ (Nat.le_succ _)⟩
theorem addS (hx : x.length + y.length ≤ 100000) (h : ∀ t' k, Q (.str (x ++ y) t') { s with toks := k }) : wpAny (model prog w) A (binaryOp .Add (.str x t) (.str y u)) Q E s :=
  add_str h (by rw [sizeLine_eq]; omega)
end
section
local macro_rules | `(tactic| walk_at "call builtin:str.replace") => `(tactic| (refine Hold.mk ?_))
local macro_rules | `(tactic| walk_at "binaryOp Add str str") => `(tactic| (k_dflt (refine' addS ?z ?_; (case z => (try simp only [Str.length_append]); (try simp only [show (Str.ofString "\"").length = 1 from by decide +kernel]); omega)); intro t' tk'))
theorem law_quoted (prog : Program) (w : World) (x y z : Str) (tx : Tok) (news : List (Addr × Obj)) (e1 : Txt.replace x (Str.ofString "\\") (Str.ofString "\\\\") = y) (e2 : Txt.replace y (Str.ofString "\"") (Str.ofString "\\\"") = z) (hx : x.length ≤ 100) (hy : y.length ≤ 100) (hz : z.length ≤ 100) :
    Con prog w 170 [.str x tx] 5 50 news (fun v new => new = news ∧ ∃ t', v = .str ((Str.ofString "\"" ++ z) ++ Str.ofString "\"") t') := by
  intro p' loose mean mg mb dp un gd cn cs fa ccd cl outer A₀ base h₀ L mm st Q E B F X N T9 hk hdp hun hret
  refine wpAny_call ?_
  k_dflt ktr_enter
  rename_i g L' h' FG F' N' B' X' T'
  k_steps
  refine Hold.out ?_
  k_dflt (refine' replace_V e1 ?u ?v ?w ?y ?x ?z ?_)
  case u => exact Nat.succ_ne_zero _
  case v => exact Nat.succ_ne_zero _
  case w => exact Nat.ne_of_lt (Nat.lt_succ_self _)
  case y => decide +kernel
  case x => omega
  case z => decide +kernel
  intro t1 tk1 htk1
  k_steps
  refine Hold.out ?_
  k_dflt (refine' replace_V e2 ?u ?v ?w ?y ?x ?z ?_)
  case u => exact Nat.ne_of_gt (Nat.lt_of_lt_of_le (Nat.succ_pos _) htk1)
  case v => exact Nat.succ_ne_zero _
  case w => exact Nat.ne_of_lt (Nat.lt_succ_self _)
  case y => decide +kernel
  case x => omega
  case z => decide +kernel
  intro t2 tk2 htk2
  k_steps
  exact hret _ _ _ _ ⟨rfl, _, rfl⟩ (by k_asm) (by k_asm)
end

end
section
theorem rs_MLaw : True := by
  w_top off
  trivial
section
noncomputable def lawSt : { st : Stmt // st = topSt 23 } := by
  have h : topSt 23 = topSt 23 := rfl
  conv at h => rhs; whnf
  exact ⟨_, h.symm⟩
noncomputable def lawBody : { l : List Stmt // l = defBody lawSt.1 } := by
  have h : defBody lawSt.1 = defBody lawSt.1 := rfl
  conv at h => rhs; whnf
  exact ⟨_, h.symm⟩
noncomputable def lawScope : { l : Scope // l = defScope lawSt.1 } := by
  have h : defScope lawSt.1 = defScope lawSt.1 := rfl
  conv at h => rhs; whnf
  exact ⟨_, h.symm⟩
end

end
section
theorem rs_MComp : True := by
  w_top off
  trivial
section
open PyProof.Rows.LCg
variable {prog : Program} {w : World} {A : Around} {E : Value → Shared → Prop} {s : Shared} {h₀ : Heap} {L : Addr} {m : Str → Option Value} {news : List (Addr × Obj)} {env : Env}
theorem dc_loop {kx vx target iter : PySem.Expr} {scope : Scope} {pos : Pos} {it : Value} {D : Addr} {env : Env} {R : Result → Shared → Prop} (I : Nat → Shared → Prop)
    (turn : ∀ n s, I n s → wpAny (model prog w) A (pyNext it) (fun r s₁ => match r with
      | none => R (.ok .next) s₁
      | some v => wpAny (model prog w) A (letOwnedTupleGo target it v) (fun _ s₀ => wpAny (model prog w) A (assign target env v) (fun _ s₂ =>
          wpAny (model prog w) A (eval kx env) (fun kv s₃ => wpAny (model prog w) A (eval vx env) (fun vv s₄ =>
            wpAny (model prog w) A (dictSet D kv vv) (fun _ s₅ => ∃ m, m < n ∧ I m s₅) (notedBy (model prog w) A env fun e s' => R (.error e) s') s₄) (notedBy (model prog w) A env fun e s' => R (.error e) s') s₃) (notedBy (model prog w) A env fun e s' => R (.error e) s') s₂)
          (notedBy (model prog w) A env fun e s' => R (.error e) s') s₀) (notedBy (model prog w) A env fun e s' => R (.error e) s') s₁) (notedBy (model prog w) A env fun e s' => R (.error e) s') s)
    (n : Nat) (h : I n s) : codeAny (model prog w) A (.compLoop (.DictComp kx vx [⟨target, iter, [], 0⟩] scope pos) 0 it (.ref D) env) R s := by
  refine codeAny_loop rfl I (fun n s hI => ?_) n h
  show wpAny _ A ((compTurn (.DictComp kx vx [⟨target, iter, [], 0⟩] scope pos) 0 it (.ref D) env).onRaise (fun x => do noteFrame x env; theTreesLotGoes x)) _ _ s
  refine wpAny_noted ?_
  rw [compTurn_dict]
  refine wpAny_bind (wpAny_standAt (wpAny_bind (wpAny_mono (turn n s hI) (fun r s₁ h₁ => ?_) fun _ _ h' => h')))
  cases r with
  | none => exact wpAny_pure h₁
  | some v =>
    refine wpAny_bind (wpAny_mono h₁ (fun _ s₀ h₀' => ?_) fun _ _ h' => h')
    refine wpAny_bind (wpAny_mono h₀' (fun _ s₂ h₂ => ?_) fun _ _ h' => h')
    refine wpAny_bind (wpAny_tests_nil ?_)
    show wpAny _ A ((do
          let kv ← eval kx env
          let vv ← holding [kv] (eval vx env)
          standAt { kx.pos with endLine := vx.pos.endLine, endCol := vx.pos.endCol }
          holding [kv, vv] (dictSet D kv vv)) >>= fun _ => again (.compLoop (.DictComp kx vx [⟨target, iter, [], 0⟩] scope pos) 0 it (.ref D) env)) _ _ s₂
    exact wpAny_bind (wpAny_bind (wpAny_mono h₂ (fun kv s₃ h₃ => wpAny_bind (wpAny_holding (wpAny_mono h₃ (fun vv s₄ h₄ => wpAny_bind (wpAny_standAt (wpAny_holding (wpAny_mono h₄ (fun _ s₅ h₅ => wpAny_pure ⟨rfl, h₅⟩) fun _ _ h' => h')))) fun _ _ h' => h'))) fun _ _ h' => h'))
/-- what a dict comprehension has stored -/
inductive DAcc (K : Nat → Str) (P : Nat → Value → List (Addr × Obj) → Prop) : Nat → List (Str × Value) → List (Addr × Obj) → Prop
  | zero : DAcc K P 0 [] []
  | succ {i : Nat} {kvs : List (Str × Value)} {nw new1 : List (Addr × Obj)} {vv : Value} (h : DAcc K P i kvs nw) (p : P i vv new1) : DAcc K P (i + 1) (kvs ++ [(K i, vv)]) (new1 ++ nw)
theorem DAcc.len {K : Nat → Str} {P : Nat → Value → List (Addr × Obj) → Prop} {i : Nat} {kvs : List (Str × Value)} {nw : List (Addr × Obj)} (h : DAcc K P i kvs nw) : kvs.length = i := by
  induction h with
  | zero => rfl
  | succ _ _ ih => rw [List.length_append, List.length_singleton, ih]
theorem DAcc.keys {K : Nat → Str} {P : Nat → Value → List (Addr × Obj) → Prop} {i : Nat} {kvs : List (Str × Value)} {nw : List (Addr × Obj)} (h : DAcc K P i kvs nw) : ∀ k ∈ kvs.map (·.1), ∃ j, j < i ∧ k = K j := by
  induction h with
  | zero => intro k hk; cases hk
  | succ _ _ ih =>
    intro k hk
    rw [List.map_append, List.mem_append] at hk
    rcases hk with hk | hk
    · obtain ⟨j, hj, e⟩ := ih k hk
      exact ⟨j, Nat.lt_succ_of_lt hj, e⟩
    · simp only [List.map_cons, List.map_nil, List.mem_singleton] at hk
      exact ⟨_, Nat.lt_succ_self _, hk⟩
inductive DcI (prog : Program) (w : World) (s₂ : Shared) (h₀ : Heap) (L : Addr) (m : Str → Option Value) (news : List (Addr × Obj)) (K : Nat → Str) (P : Nat → Value → List (Addr × Obj) → Prop) (z TI TO i1 i2 l1 l2 DD CC : Addr) (xs ys : List Value) (n : Nat) (k : Nat) (s' : Shared) : Prop
  | mk (h' : Heap) (tk : Nat) (i : Nat) (kvs : List (Str × Value)) (nw : List (Addr × Obj)) (m' : Str → Option Value) (oD : Obj) (e1 : s' = { s₂ with heap := h', toks := tk }) (e2 : i ≤ n) (e3 : k = n + 1 - i) (e4 : (IsZip h' z TI TO .none ∧ IsPair h' TI (.ref i1) (.ref i2) ∧ (∃ a b, IsPair h' TO a b) ∧ h'.IsListIter i1 l1 i ∧ h'.IsListIter i2 l2 i ∧ h'.IsList l1 xs.toArray ∧ h'.IsList l2 ys.toArray)) (e5 : Fr h₀ L h' m) (e6 : h'.Ns CC m') (e7 : h'.get? DD = some oD) (e8 : oD.IsDictOf (strKind prog w) kvs) (e9 : DAcc K P i kvs nw) (e10 : News h₀ L h' (nw ++ news)) (e11 : (∀ p ∈ nw ++ news, p.1 ≠ CC ∧ p.1 ≠ DD ∧ ∀ b ∈ [z, TI, TO, i1, i2], p.1 ≠ b))
theorem dcz_block {kx vx iter : PySem.Expr} {a b : Str} {pa pb tp : Pos} {kk : Nat} {scope : Scope} {cl : List (Str × Addr)} {pos : Pos} {s₂ : Shared} {z TI TO i1 i2 l1 l2 : Addr} {o1 o2 : Obj} {xs ys : List Value} {n : Nat} {RR : Value → Addr → Result → Shared → Prop}
    {K : Nat → Str} {P : Nat → Value → List (Addr × Obj) → Prop}
    (hh : A.handled = none) (D0 : ZipApart z TI TO i1 i2 l1 l2) (hbig : sysModules < h₀.objs.size) (hn : n ≤ 1000) (hxn : xs.length = n) (hyn : ys.length = n)
    (hst : IsZip s₂.heap z TI TO .none ∧ IsPair s₂.heap TI (.ref i1) (.ref i2) ∧ (∃ a b, IsPair s₂.heap TO a b) ∧ s₂.heap.IsListIter i1 l1 0 ∧ s₂.heap.IsListIter i2 l2 0 ∧ s₂.heap.IsList l1 xs.toArray ∧ s₂.heap.IsList l2 ys.toArray)
    (hcell : ∀ y ∈ scope.names, y.2 ≠ .cell) (hkind : scope.kind = .function) (hxa : scope.names.lookup a = some .local) (hxb : scope.names.lookup b = some .local) (hab : ¬ a = b)
    (F : Fr h₀ L s₂.heap m) (N : News h₀ L s₂.heap news) (hm1 : (l1, o1) ∈ news) (hm2 : (l2, o2) ∈ news) (hZ : ∀ b ∈ [z, TI, TO, i1, i2], b < s₂.heap.objs.size ∧ b ≠ L ∧ h₀.get? b = none ∧ ∀ p ∈ news, p.1 ≠ b)
    (hK : ∀ i j, i < j → j < n → K i ≠ K j)
    (turn : ∀ (i : Nat) (x y : Value) (C : Addr) (m₂ : Str → Option Value) (oC : Obj) (h : Heap) (tk : Nat) (nw rest : List (Addr × Obj)) (E' : Value → Shared → Prop), i < n → xs[i]? = some x → ys[i]? = some y → NsObj oC m₂ → m₂ a = some x → m₂ b = some y → Fr h₀ L h m → News h₀ L h ((C, oC) :: rest) → (∀ p ∈ nw ++ news, p ∈ rest) →
      wpAny (model prog w) A (eval kx (compEnvC scope cl C env)) (fun kv s₃ => wpAny (model prog w) A (eval vx (compEnvC scope cl C env)) (fun vv s₄ => Hold (∃ h4 tk4 new1, s₄ = { s₂ with heap := h4, toks := tk4 } ∧ Fr h₀ L h4 m ∧ News h₀ L h4 (new1 ++ ((C, oC) :: rest)) ∧ (∀ p ∈ new1, ∀ q ∈ (C, oC) :: rest, q.1 ≠ p.1) ∧ (strKind prog w).is (K i) kv = true ∧ P i vv new1)) E' s₃) E' { s₂ with heap := h, toks := tk })
    (hRR : ∀ D C h tk m' oD kvs nw, Fr h₀ L h m → News h₀ L h ((D, oD) :: (nw ++ news)) → oD.IsDictOf (strKind prog w) kvs → DAcc K P n kvs nw → h.Ns C m' → h₀.get? C = none → C ≠ L → (∀ p ∈ (D, oD) :: (nw ++ news), p.1 ≠ C) → (∀ p ∈ nw ++ news, p.1 ≠ D) → (D == sysModules) = false → RR (.ref D) C (.ok .next) { s₂ with heap := h, toks := tk }) :
    wpAny (model prog w) A newDict (fun acc s₃ => wpAny (model prog w) A (newFunctionEnv scope env.globals cl [] env.qual none .none (some env)) (fun cenv s₄ =>
      codeAny (model prog w) A (.compStart (.DictComp kx vx [⟨.Tuple [.Name a pa, .Name b pb] kk tp, iter, [], 0⟩] scope pos) 0 (.ref z) acc { cenv with scope := relabel scope env }) (RR acc cenv.locals) s₄) E s₃) E s₂ := by
  have W := KTurns.ofWalksU (elts := [.Name a pa, .Name b pb]) (k := kk) (pos := tp) (WalksT.zip2 (prog := prog) (w := w) hh z TI TO i1 i2 l1 l2 D0 xs.toArray ys.toArray).toU
  have hmin : min xs.toArray.size ys.toArray.size = n := by rw [List.size_toArray, List.size_toArray, hxn, hyn]; exact Nat.min_self n
  rw [hmin] at W
  refine wpAny_newObj_type (wpAny_newFunctionEnv hcell (by intro y hy; simp at hy) (fun h₁ hns₁ hsb₁ => ?_) hkind)
  dsimp only at hns₁ hsb₁ ⊢
  have hnew : (s₂.heap.push { cls := .type "dict", dict := none, data := .dict #[] }).DictOf (strKind prog w) s₂.heap.objs.size [] := Heap.DictOf.new s₂.heap
  generalize hH2 : s₂.heap.push { cls := .type "dict", dict := none, data := .dict #[] } = H2 at hns₁ hsb₁ hnew ⊢
  have hC : H2.objs.size = s₂.heap.objs.size + 1 := by rw [← hH2, Heap.size_push]
  have hDC : s₂.heap.objs.size ≠ H2.objs.size := by rw [hC]; exact Nat.ne_of_lt (Nat.lt_succ_self _)
  have below : ∀ b, b < s₂.heap.objs.size → b ≠ H2.objs.size ∧ b ≠ s₂.heap.objs.size := fun b hb => ⟨by rw [hC]; exact Nat.ne_of_lt (Nat.lt_succ_of_lt hb), Nat.ne_of_lt hb⟩
  have old : ∀ b o, s₂.heap.get? b = some o → h₁.get? b = some o := fun b o e => hsb₁.extBut b o (below b (Heap.lt_size e)).1 (Heap.get?_push_of_some _ (hH2 ▸ Heap.get?_push_of_some _ e))
  have hacc : h₁.DictOf (strKind prog w) s₂.heap.objs.size [] := hnew.at fun o e => hsb₁.extBut _ _ hDC (Heap.get?_push_of_some _ e)
  obtain ⟨oD₀, hD₁, hDd⟩ := Heap.dictOf_iff.mp hacc
  have fresh : ∀ a, s₂.heap.objs.size ≤ a → s₂.heap.get? a = none := fun a ha => by
    cases e : s₂.heap.get? a with
    | none => rfl
    | some o' => exact absurd (Heap.lt_size e) (Nat.not_lt.mpr ha)
  have fresh₀ : ∀ a, s₂.heap.objs.size ≤ a → h₀.get? a = none := fun a ha => by
    cases e : h₀.get? a with
    | none => rfl
    | some o' => have := F.keep a o' e; rw [fresh a ha] at this; cases this
  have hD₀ : h₀.get? s₂.heap.objs.size = none := fresh₀ _ (Nat.le_refl _)
  have hC₀ : h₀.get? H2.objs.size = none := fresh₀ _ (by rw [hC]; exact Nat.le_succ _)
  have hLlt : L < s₂.heap.objs.size := F.ns.lt
  have hDL : s₂.heap.objs.size ≠ L := Ne.symm (below L hLlt).2
  have hCL : H2.objs.size ≠ L := Ne.symm (below L hLlt).1
  have hDm : (s₂.heap.objs.size == sysModules) = false := F.notModules hbig
  have hl1 : l1 < s₂.heap.objs.size := Heap.lt_size (N _ hm1).1
  have hl2 : l2 < s₂.heap.objs.size := Heap.lt_size (N _ hm2).1
  have hfp : ∀ b ∈ [z, TI, TO, i1, i2, l1, l2], b < s₂.heap.objs.size := fun b hb => by
    simp only [List.mem_cons, List.not_mem_nil, or_false] at hb
    rcases hb with rfl | rfl | rfl | rfl | rfl | rfl | rfl
    · exact (hZ _ (by simp)).1
    · exact (hZ _ (by simp)).1
    · exact (hZ _ (by simp)).1
    · exact (hZ _ (by simp)).1
    · exact (hZ _ (by simp)).1
    · exact hl1
    · exact hl2
  have hst₁ := W.frame 0 _ h₁ hst fun b _ o e => old b o e
  have loop : ∀ s₃ : Shared, s₃ = { s₂ with heap := h₁, toks := s₂.toks + ([] : List (Str × Value)).length } →
      codeAny (model prog w) A (.compLoop (.DictComp kx vx [⟨.Tuple [.Name a pa, .Name b pb] kk tp, iter, [], 0⟩] scope pos) 0 (.ref z) (.ref s₂.heap.objs.size) (compEnvC scope cl H2.objs.size env))
        (RR (.ref s₂.heap.objs.size) H2.objs.size) s₃ := by
    rintro s₃ rfl
    refine dc_loop
      (DcI prog w s₂ h₀ L m news K P z TI TO i1 i2 l1 l2 s₂.heap.objs.size H2.objs.size xs ys n) ?_ (n + 1)
      ⟨h₁, _, 0, [], [], _, oD₀, rfl, Nat.zero_le _, rfl, hst₁, F.keeps old, hns₁, hD₁, hDd, .zero, N.grown old, fun p hp => ⟨(below _ (Heap.lt_size (N p hp).1)).1, (below _ (Heap.lt_size (N p hp).1)).2, fun b hb => (hZ b hb).2.2.2 p hp⟩⟩
    rintro k s' ⟨h', tk, i, kvs, nw, m', oD, rfl, hi, rfl, hst', F', hn', hD', hDk, hA', N', off'⟩
    by_cases hlt : i < n
    · refine W.item i _ _ _ hlt hst' fun v h₂ tk₂ hMd hk₂ => ?_
      refine W.go i v _ _ _ hMd fun h₃ hP hst₃ hk₃ => ?_
      obtain ⟨T, vals, rfl, ⟨x, y, hx, hy, rfl⟩, hT⟩ := hP
      have hwr : ∀ c, c ∉ [z, TI, TO, i1, i2] → c ∉ [z, TO, i1, i2] := fun c hc h => hc (by
        simp only [List.mem_cons, List.not_mem_nil, or_false] at h ⊢
        rcases h with h | h | h | h <;> simp [h])
      have up₃ : ∀ c o, c ∉ [z, TI, TO, i1, i2] → h'.get? c = some o → h₃.get? c = some o := fun c o hc e => hk₃ c o (hwr c hc) (hk₂ c o (hwr c hc) e)
      have hCz : H2.objs.size ∉ [z, TI, TO, i1, i2] := fun hb => (below _ ((hZ _ hb).1)).1 rfl
      have hDz : s₂.heap.objs.size ∉ [z, TI, TO, i1, i2] := fun hb => (below _ ((hZ _ hb).1)).2 rfl
      have hLz : L ∉ [z, TI, TO, i1, i2] := fun hb => (hZ _ hb).2.1 rfl
      refine kcp_assign (env := compEnvC scope cl H2.objs.size env) hh hT (lookup_relabel_local hxa) (lookup_relabel_local hxb) (by simp [compEnvC, relabel, hkind]) (hn'.at' fun o e => up₃ _ o hCz e) fun h₄ tk₄ hn₄ hs₄ => ?_
      have up : ∀ c o, c ∉ [z, TI, TO, i1, i2] → c ≠ H2.objs.size → h'.get? c = some o → h₄.get? c = some o := fun c o h1 h2 e => hs₄ c o h2 (up₃ c o h1 e)
      have hst₄ := W.frame (i + 1) h₃ h₄ hst₃ fun b hb o e => hs₄ b o (below b (hfp b hb)).1 e
      obtain ⟨oC, heC, hoC⟩ := ns_obj hn₄
      have F₄ : Fr h₀ L h₄ m := ⟨F'.ns.at' fun o e => up _ o hLz (Ne.symm hCL) e, fun c o e => up c o (fun q => by rw [(hZ _ q).2.2.1] at e; cases e) (fun q => by rw [q, hC₀] at e; cases e) (F'.keep c o e), F'.above⟩
      have hzs : ∃ Z : List (Addr × Obj), Z.map (·.1) = [z, TI, TO, i1, i2] ∧ ∀ p ∈ Z, h₄.get? p.1 = some p.2 := by
        obtain ⟨a1, a2, ⟨_, _, a3⟩, ⟨q4, a4, _⟩, ⟨q5, a5, _⟩, _⟩ := hst₄
        obtain ⟨q1, a1⟩ : ∃ o, h₄.get? z = some o := ⟨_, a1⟩
        obtain ⟨q2, a2⟩ : ∃ o, h₄.get? TI = some o := ⟨_, a2⟩
        obtain ⟨q3, a3⟩ : ∃ o, h₄.get? TO = some o := ⟨_, a3⟩
        refine ⟨[(z, q1), (TI, q2), (TO, q3), (i1, q4), (i2, q5)], rfl, fun p hp => ?_⟩
        simp only [List.mem_cons, List.not_mem_nil, or_false] at hp
        rcases hp with rfl | rfl | rfl | rfl | rfl
        · exact a1
        · exact a2
        · exact a3
        · exact a4
        · exact a5
      obtain ⟨Z, hZm, hZg⟩ := hzs
      have hZin : ∀ p ∈ Z, p.1 ∈ [z, TI, TO, i1, i2] := fun p hp => hZm ▸ List.mem_map_of_mem hp
      have hD₄ : h₄.get? s₂.heap.objs.size = some oD := up _ _ hDz hDC hD'
      have N₄ : News h₀ L h₄ ((H2.objs.size, oC) :: (Z ++ (s₂.heap.objs.size, oD) :: (nw ++ news))) := fun q hq => by
        rcases List.mem_cons.mp hq with rfl | hq
        · exact ⟨heC, hCL, hC₀⟩
        · rcases List.mem_append.mp hq with hq | hq
          · have := hZ _ (hZin q hq)
            exact ⟨hZg q hq, this.2.1, this.2.2.1⟩
          · rcases List.mem_cons.mp hq with rfl | hq
            · exact ⟨hD₄, hDL, hD₀⟩
            · have o3 := off' q hq
              exact ⟨up _ _ (fun hb => o3.2.2 _ hb rfl) o3.1 (N' q hq).1, (N' q hq).2⟩
      refine wpAny_mono (turn i x y H2.objs.size _ oC h₄ tk₄ nw (Z ++ (s₂.heap.objs.size, oD) :: (nw ++ news)) _ hlt (by simpa using hx) (by simpa using hy) hoC (by simp [hab]) (by simp) F₄ N₄ (fun p hp => List.mem_append_right _ (List.mem_cons_of_mem _ hp)))
        (fun kv s₅ h₅ => wpAny_mono h₅ (fun vv s₆ h₆ => ?_) fun _ _ e => e) fun _ _ e => e
      obtain ⟨h6, tk6, new1, rfl, F₆, N₆, ap₆, hkey, hPv⟩ := h₆
      have zC := (N₆ (H2.objs.size, oC) (List.mem_append_right _ List.mem_cons_self)).1
      have zD := (N₆ (s₂.heap.objs.size, oD) (List.mem_append_right _ (List.mem_cons_of_mem _ (List.mem_append_right _ List.mem_cons_self)))).1
      have zZ : ∀ p ∈ Z, h6.get? p.1 = some p.2 := fun p hp => (N₆ p (List.mem_append_right _ (List.mem_cons_of_mem _ (List.mem_append_left _ hp)))).1
      have zN : ∀ p ∈ nw ++ news, h6.get? p.1 = some p.2 := fun p hp => (N₆ p (List.mem_append_right _ (List.mem_cons_of_mem _ (List.mem_append_right _ (List.mem_cons_of_mem _ hp))))).1
      have same : ∀ b ∈ [z, TI, TO, i1, i2, l1, l2], ∀ o, h₄.get? b = some o → h6.get? b = some o := fun b hb o e => by
        have inZ : ∀ c, c ∈ [z, TI, TO, i1, i2] → ∀ o, h₄.get? c = some o → h6.get? c = some o := fun c hc o e => by
          rw [← hZm] at hc
          obtain ⟨p, hp, rfl⟩ := List.mem_map.mp hc
          rw [zZ p hp, ← hZg p hp, e]
        have inN : ∀ c oc, (c, oc) ∈ news → ∀ o, h₄.get? c = some o → h6.get? c = some o := fun c oc hc o e => by
          have e1 := (N₄ (c, oc) (List.mem_cons_of_mem _ (List.mem_append_right _ (List.mem_cons_of_mem _ (List.mem_append_right _ hc))))).1
          rw [zN (c, oc) (List.mem_append_right _ hc), ← e, e1]
        simp only [List.mem_cons, List.not_mem_nil, or_false] at hb
        rcases hb with rfl | rfl | rfl | rfl | rfl | rfl | rfl
        · exact inZ _ (by simp) o e
        · exact inZ _ (by simp) o e
        · exact inZ _ (by simp) o e
        · exact inZ _ (by simp) o e
        · exact inZ _ (by simp) o e
        · exact inN _ _ hm1 o e
        · exact inN _ _ hm2 o e
      have hst₆ := W.frame (i + 1) h₄ h6 hst₄ same
      refine wpAny_dictSet_pairs (hsz := by rw [hA'.len, sizeLine_eq]; omega) hkey (Heap.dictOf_iff.mpr ⟨oD, zD, hDk⟩) fun h7 hl7 hs7 => ?_
      obtain ⟨oD', hD7, hDk7⟩ := Heap.dictOf_iff.mp hl7
      have hst₇ := W.frame (i + 1) h6 h7 hst₆ fun b hb o e => hs7.extBut b o (below b (hfp b hb)).2 e
      have hput : stored kvs (K i) vv = kvs ++ [(K i, vv)] := stored_absent (valueAt_none_of_not_mem fun hm => by
        obtain ⟨j, hj, e⟩ := hA'.keys _ hm
        exact hK j i hj hlt e.symm) vv
      rw [hput] at hDk7
      have offN : ∀ p ∈ (new1 ++ nw) ++ news, p.1 ≠ H2.objs.size ∧ p.1 ≠ s₂.heap.objs.size ∧ ∀ b ∈ [z, TI, TO, i1, i2], p.1 ≠ b := fun p hp => by
        rw [List.append_assoc] at hp
        rcases List.mem_append.mp hp with hp | hp
        · refine ⟨(ap₆ p hp _ List.mem_cons_self).symm, (ap₆ p hp _ (List.mem_cons_of_mem _ (List.mem_append_right _ List.mem_cons_self))).symm, fun b hb => ?_⟩
          rw [← hZm] at hb
          obtain ⟨q, hq, rfl⟩ := List.mem_map.mp hb
          exact (ap₆ p hp q (List.mem_cons_of_mem _ (List.mem_append_left _ hq))).symm
        · exact off' p hp
      refine ⟨n + 1 - (i + 1), by omega, h7, _, i + 1, kvs ++ [(K i, vv)], new1 ++ nw, _, oD', rfl, hlt, rfl, hst₇, F₆.change hs7 hDL hD₀, (hoC.ns zC).sameBut hs7 (Ne.symm hDC), hD7, hDk7, .succ hA' hPv, fun p hp => ?_, offN⟩
      have hg : h6.get? p.1 = some p.2 ∧ p.1 ≠ L ∧ h₀.get? p.1 = none := by
        rw [List.append_assoc] at hp
        rcases List.mem_append.mp hp with hp | hp
        · exact N₆ p (List.mem_append_left _ hp)
        · exact N₆ p (List.mem_append_right _ (List.mem_cons_of_mem _ (List.mem_append_right _ (List.mem_cons_of_mem _ hp))))
      exact ⟨hs7.extBut _ _ (offN p hp).2.1 hg.1, hg.2⟩
    · have hin : i = n := Nat.le_antisymm hi (Nat.not_lt.mp hlt)
      subst hin
      refine W.done _ _ _ hst' fun h₂ tk₂ hk₂ => ?_
      have hwr : ∀ c, c ∉ [z, TI, TO, i1, i2] → c ∉ [z, TO, i1, i2] := fun c hc h => hc (by
        simp only [List.mem_cons, List.not_mem_nil, or_false] at h ⊢
        rcases h with h | h | h | h <;> simp [h])
      have hCz : H2.objs.size ∉ [z, TI, TO, i1, i2] := fun hb => (below _ ((hZ _ hb).1)).1 rfl
      have hDz : s₂.heap.objs.size ∉ [z, TI, TO, i1, i2] := fun hb => (below _ ((hZ _ hb).1)).2 rfl
      have hLz : L ∉ [z, TI, TO, i1, i2] := fun hb => (hZ _ hb).2.1 rfl
      refine hRR _ _ h₂ tk₂ _ oD kvs nw ⟨F'.ns.at' fun o e => hk₂ _ o (hwr _ hLz) e, fun c o e => hk₂ c o (hwr _ fun q => by rw [(hZ _ q).2.2.1] at e; cases e) (F'.keep c o e), F'.above⟩ (fun p hp => ?_) hDk hA' (hn'.at' fun o e => hk₂ _ o (hwr _ hCz) e) hC₀ hCL (fun p hp => ?_) (fun p hp => (off' p hp).2.1) hDm
      · rcases List.mem_cons.mp hp with rfl | hp
        · exact ⟨hk₂ _ _ (hwr _ hDz) hD', hDL, hD₀⟩
        · exact ⟨hk₂ _ _ (hwr _ fun hb => (off' p hp).2.2 _ hb rfl) (N' p hp).1, (N' p hp).2⟩
      · rcases List.mem_cons.mp hp with rfl | hp
        · exact hDC
        · exact (off' p hp).1
  exact codeAny_compStart_dict (loop _ rfl) (wpAny_pyIter_zip hst₁.1 (loop _ rfl))
end

end
section
theorem rs_MComp2 : True := by
  w_top off
  trivial
section
open PyProof.Rows.LCg
variable {prog : Program} {w : World} {A : Around} {E : Value → Shared → Prop} {s : Shared} {h₀ : Heap} {L : Addr} {m : Str → Option Value} {news : List (Addr × Obj)}
theorem zip_K {l1 l2 : Addr} {xs ys : List Value} {n1 n2 : Nat} {Q : Value → Shared → Prop} (F : Fr h₀ L s.heap m) (N : News h₀ L s.heap news) (hm1 : (l1, listOf xs.toArray n1) ∈ news) (hm2 : (l2, listOf ys.toArray n2) ∈ news)
    (h : ∀ z TI TO i1 i2 h', ZipApart z TI TO i1 i2 l1 l2 → (IsZip h' z TI TO .none ∧ IsPair h' TI (.ref i1) (.ref i2) ∧ (∃ a b, IsPair h' TO a b) ∧ h'.IsListIter i1 l1 0 ∧ h'.IsListIter i2 l2 0 ∧ h'.IsList l1 xs.toArray ∧ h'.IsList l2 ys.toArray) →
      Fr h₀ L h' m → News h₀ L h' news → (∀ b ∈ [z, TI, TO, i1, i2], b < h'.objs.size ∧ b ≠ L ∧ h₀.get? b = none ∧ ∀ p ∈ news, p.1 ≠ b) → Q (.ref z) { s with heap := h' }) :
    wpAny (model prog w) A (call (.type "zip") [.ref l1, .ref l2]) Q E s := by
  have hax1 := N _ hm1
  have hax2 := N _ hm2
  have hl1 : s.heap.IsList l1 xs.toArray := ⟨_, hax1.1, rfl, n1, rfl⟩
  have hl2 : s.heap.IsList l2 ys.toArray := ⟨_, hax2.1, rfl, n2, rfl⟩
  have hlt1 : l1 < s.heap.objs.size := Heap.lt_size hax1.1
  have hlt2 : l2 < s.heap.objs.size := Heap.lt_size hax2.1
  refine call_zip_2 hl1 hl2 fun h' hz hTI hTO hi1 hi2 hsz hk => ?_
  refine h _ _ _ _ _ h' (ktu_apart _ _ _ hlt1 hlt2) ⟨hz, hTI, ⟨_, _, hTO⟩, hi1, hi2, hl1.at fun o e => hk _ o e, hl2.at fun o e => hk _ o e⟩ (F.keeps hk) (N.grown hk) fun b hb => ?_
  have hge : s.heap.objs.size ≤ b ∧ b < s.heap.objs.size + 5 := by
    simp only [List.mem_cons, List.not_mem_nil, or_false] at hb
    rcases hb with rfl | rfl | rfl | rfl | rfl <;> constructor <;> first | exact Nat.le_add_right _ _ | exact Nat.le_refl _ | exact Nat.add_lt_add_left (by decide) _ | exact Nat.lt_add_of_pos_right (by decide)
  refine ⟨by rw [hsz]; exact hge.2, fun e => absurd F.ns.lt (Nat.not_lt.mpr (e ▸ hge.1)), ?_, fun p hp e => absurd (Heap.lt_size (N p hp).1) (Nat.not_lt.mpr (e ▸ hge.1))⟩
  cases e : h₀.get? b with
  | none => rfl
  | some o => exact absurd (Heap.lt_size (F.keep _ _ e)) (Nat.not_lt.mpr hge.1)
/-- what a comprehension over zip wants to know -/
structure DcZ (prog : Program) (w : World) (A : Around) (h₀ : Heap) (L : Addr) (m : Str → Option Value) (env : Env) (kx vx : PySem.Expr) (a b : Str) (scope : Scope) (cl : List (Str × Addr)) (K : Nat → Str) (P : Nat → Value → List (Addr × Obj) → Prop) (Fin : Addr → Shared → Prop) (xs ys : List Value) (news : List (Addr × Obj)) (xv : Value) (s₂ : Shared) : Prop where
  ex : ∃ z TI TO i1 i2 l1 l2 o1 o2, xv = .ref z ∧ ZipApart z TI TO i1 i2 l1 l2 ∧
    (IsZip s₂.heap z TI TO .none ∧ IsPair s₂.heap TI (.ref i1) (.ref i2) ∧ (∃ a b, IsPair s₂.heap TO a b) ∧ s₂.heap.IsListIter i1 l1 0 ∧ s₂.heap.IsListIter i2 l2 0 ∧ s₂.heap.IsList l1 xs.toArray ∧ s₂.heap.IsList l2 ys.toArray) ∧
    (l1, o1) ∈ news ∧ (l2, o2) ∈ news ∧ ∀ b ∈ [z, TI, TO, i1, i2], b < s₂.heap.objs.size ∧ b ≠ L ∧ h₀.get? b = none ∧ ∀ p ∈ news, p.1 ≠ b
  len : ys.length = xs.length ∧ xs.length ≤ 1000
  F : Fr h₀ L s₂.heap m
  N : News h₀ L s₂.heap news
  hK : ∀ i j, i < j → j < xs.length → K i ≠ K j
  turn : ∀ (i : Nat) (x y : Value) (C : Addr) (m₂ : Str → Option Value) (oC : Obj) (h : Heap) (tk : Nat) (nw rest : List (Addr × Obj)) (E' : Value → Shared → Prop), i < xs.length → xs[i]? = some x → ys[i]? = some y → NsObj oC m₂ → m₂ a = some x → m₂ b = some y → Fr h₀ L h m → News h₀ L h ((C, oC) :: rest) → (∀ p ∈ nw ++ news, p ∈ rest) →
      wpAny (model prog w) A (eval kx (compEnvC scope cl C env)) (fun kv s₃ => wpAny (model prog w) A (eval vx (compEnvC scope cl C env)) (fun vv s₄ => Hold (∃ h4 tk4 new1, s₄ = { s₂ with heap := h4, toks := tk4 } ∧ Fr h₀ L h4 m ∧ News h₀ L h4 (new1 ++ ((C, oC) :: rest)) ∧ (∀ p ∈ new1, ∀ q ∈ (C, oC) :: rest, q.1 ≠ p.1) ∧ (strKind prog w).is (K i) kv = true ∧ P i vv new1)) E' s₃) E' { s₂ with heap := h, toks := tk }
theorem dcz_eval {kx vx iter : PySem.Expr} {a b : Str} {pa pb tp : Pos} {kk : Nat} {scope : Scope} {cl : List (Str × Addr)} {pos : Pos} {K : Nat → Str} {P : Nat → Value → List (Addr × Obj) → Prop} {env : Env} {xs ys : List Value} {Q : Value → Shared → Prop}
    (hh : A.handled = none) (hbig : sysModules < h₀.objs.size)
    (hclos : closureFor scope env = pure cl) (hcell : ∀ y ∈ scope.names, y.2 ≠ .cell) (hkind : scope.kind = .function) (hnames : ∀ z ∈ scope.names, z.2 = .local → scope.names.lookup z.1 = some .local) (hxa : scope.names.lookup a = some .local) (hxb : scope.names.lookup b = some .local) (hab : ¬ a = b)
    (hs : ∀ x, foldedSetIterable iter env x = pure x)
    (h : wpAny (model prog w) A (eval iter env) (fun xv s₁ => Hold (DcZ prog w A h₀ L m env kx vx a b scope cl K P (fun _ _ => True) xs ys news xv s₁ ∧ ∀ D h tk oD kvs nw, Fr h₀ L h m → News h₀ L h ((D, oD) :: (nw ++ news)) → oD.IsDictOf (strKind prog w) kvs → DAcc K P xs.length kvs nw → (∀ p ∈ nw ++ news, p.1 ≠ D) → (D == sysModules) = false → Q (.ref D) { s₁ with heap := h, toks := tk })) E s) :
    wpAny (model prog w) A (eval (.DictComp kx vx [⟨.Tuple [.Name a pa, .Name b pb] kk tp, iter, [], 0⟩] scope pos) env) Q E s := by
  rw [arm_eval_DictComp]
  refine wpAny_comprehension_free (use := none) rfl hs hclos hkind hnames (wpAny_mono h (fun xv s₁ h₁ => ?_) fun _ _ e => e)
  obtain ⟨Z, fin⟩ := h₁
  obtain ⟨⟨z, TI, TO, i1, i2, l1, l2, o1, o2, rfl, D0, hst, hm1, hm2, hZ⟩, hlen, F, N, hK, turn⟩ := Z
  refine wpAny_pyIter_zip hst.1 (dcz_block (RR := fun acc C => compPost (model prog w) A E none Q acc C) (n := xs.length) hh D0 hbig hlen.2 rfl hlen.1 hst hcell hkind hxa hxb hab F N hm1 hm2 hZ hK turn ?_)
  intro D C h' tk m' oD kvs nw F' N' hD hA hn hC₀ hCL offC offD lo
  exact ⟨m', hn, fun h'' hs'' => fin D h'' tk oD kvs nw (F'.change hs'' hCL hC₀) (fun p hp => ⟨hs''.extBut _ _ (offC p hp) (N' p hp).1, (N' p hp).2⟩) hD hA offD lo⟩
theorem dcz_Assign {kx vx iter : PySem.Expr} {a b y : Str} {pa pb tp py : Pos} {kk : Nat} {scope : Scope} {cl : List (Str × Addr)} {pos spos : Pos} {K : Nat → Str} {P : Nat → Value → List (Addr × Obj) → Prop} {nm : Str} {sc : Scope} {fa : Addr} {cd : Value} {ccl : List (Str × Addr)} {xs ys : List Value} {Q : Flow → Shared → Prop}
    (hsw : swapsWith (.DictComp kx vx [⟨.Tuple [.Name a pa, .Name b pb] kk tp, iter, [], 0⟩] scope pos) (some (.Name y py)) spos.line (envX nm sc L fa cd ccl) = pure true)
    (hh : A.handled = none) (hbig : sysModules < h₀.objs.size)
    (hclos : closureFor scope (envX nm sc L fa cd ccl) = pure cl) (hcell : ∀ y ∈ scope.names, y.2 ≠ .cell) (hkind : scope.kind = .function) (hnames : ∀ z ∈ scope.names, z.2 = .local → scope.names.lookup z.1 = some .local) (hxa : scope.names.lookup a = some .local) (hxb : scope.names.lookup b = some .local) (hab : ¬ a = b)
    (hs : ∀ x, foldedSetIterable iter (envX nm sc L fa cd ccl) x = pure x) (hy1 : sc.kind = .function) (hy : (envX nm sc L fa cd ccl).kindOf y = some .local)
    (h : wpAny (model prog w) A (eval iter (envX nm sc L fa cd ccl)) (fun xv s₁ => Hold (DcZ prog w A h₀ L m (envX nm sc L fa cd ccl) kx vx a b scope cl K P (fun _ _ => True) xs ys news xv s₁ ∧ ∀ D h tk oD kvs nw, Fr h₀ L h (fun z => if z = y then some (.ref D) else m z) → News h₀ L h ((D, oD) :: (nw ++ news)) → oD.IsDictOf (strKind prog w) kvs → DAcc K P xs.length kvs nw → (∀ p ∈ nw ++ news, p.1 ≠ D) → (D == sysModules) = false → Q .next { s₁ with heap := h, toks := tk })) E s) :
    wpAny (model prog w) A (exec (.Assign [.Name y py] (.DictComp kx vx [⟨.Tuple [.Name a pa, .Name b pb] kk tp, iter, [], 0⟩] scope pos) spos) (envX nm sc L fa cd ccl)) Q E s := by
  rw [exec_Assign_Name_used _ _ _ _ hsw]
  refine wpAny_bind (wpAny_standAt (wpAny_bind ?_))
  show wpAny _ A (do let _ ← comprehension (.DictComp kx vx [⟨.Tuple [.Name a pa, .Name b pb] kk tp, iter, [], 0⟩] scope pos) scope (envX nm sc L fa cd ccl) _ newDict false (eval iter (envX nm sc L fa cd ccl)) (some (assign (.Name y py) (envX nm sc L fa cd ccl)))) _ _ s
  refine wpAny_bind (wpAny_mono (wpAny_comprehension_free (use := some (assign (.Name y py) (envX nm sc L fa cd ccl))) (Q := fun _ s' => Q .next s') rfl hs hclos hkind hnames
    (wpAny_mono h (fun xv s₁ h₁ => ?_) fun _ _ e => e)) (fun _ s' hq => wpAny_pure (wpAny_pure hq)) fun _ _ e => e)
  obtain ⟨Z, fin⟩ := h₁
  obtain ⟨⟨z, TI, TO, i1, i2, l1, l2, o1, o2, rfl, D0, hst, hm1, hm2, hZ⟩, hlen, F, N, hK, turn⟩ := Z
  refine wpAny_pyIter_zip hst.1 (dcz_block (RR := fun acc C => compPost (model prog w) A E (some (assign (.Name y py) (envX nm sc L fa cd ccl))) (fun _ s' => Q .next s') acc C) (n := xs.length) hh D0 hbig hlen.2 rfl hlen.1 hst hcell hkind hxa hxb hab F N hm1 hm2 hZ hK turn ?_)
  intro D C h' tk m' oD kvs nw F' N' hD hA hn hC₀ hCL offC offD lo
  show wpAny (model prog w) A (assign (.Name y py) (envX nm sc L fa cd ccl) (.ref D)) _ E _
  obtain ⟨oC, heC, hoC⟩ := ns_obj hn
  have N'' : News h₀ L h' ((C, oC) :: (D, oD) :: (nw ++ news)) := fun p hp => by
    rcases List.mem_cons.mp hp with rfl | hp
    · exact ⟨heC, hCL, hC₀⟩
    · exact N' p hp
  refine wpAny_assign_Name (storeX_L F' N'' ?_ hy1 hy)
  intro h2 F2 N2
  have hC2 := (N2 (C, oC) (.head _)).1
  exact ⟨m', hoC.ns hC2, fun h'' hs'' => fin D h'' _ oD kvs nw (F2.change hs'' hCL hC₀) (fun p hp => ⟨hs''.extBut _ _ (offC p hp) (N2 p (.tail _ hp)).1, (N2 p (.tail _ hp)).2⟩) hD hA offD lo⟩
end

end
section
theorem rs_MIter : True := by
  w_top off
  trivial
section
open PyProof.Rows.LCg
variable {prog : Program} {w : World} {A : Around} {E : Value → Shared → Prop} {s : Shared} {h₀ : Heap} {L : Addr} {m : Str → Option Value} {news : List (Addr × Obj)} {I : Addr} {oI : Obj}
theorem it_same {h h' : Heap} {oI' : Obj} (F : Fr h₀ L h m) (N : News h₀ L h ((I, oI) :: news)) (off : ∀ p ∈ news, p.1 ≠ I) (hs : Heap.SameBut I h h') (ho : h'.get? I = some oI') : Fr h₀ L h' m ∧ News h₀ L h' ((I, oI') :: news) :=
  ⟨F.change hs (N _ (.head _)).2.1 (N _ (.head _)).2.2, N.setHead off hs ho⟩
theorem it_ext {h h' : Heap} (F : Fr h₀ L h m) (N : News h₀ L h ((I, oI) :: news)) (off : ∀ p ∈ news, p.1 ≠ I) (he : Heap.ExtBut I h h') : Fr h₀ L h' m ∧ News h₀ L h' news := by
  have hI := N _ (.head _)
  exact ⟨fr_but F (fun b o hb e => he b o (by simpa using hb) e) (Ne.symm hI.2.1) hI.2.2, fun p hp => ⟨he _ _ (off p hp) (N p (.tail _ hp)).1, (N p (.tail _ hp)).2⟩⟩
section
variable {K : Type} [DecidableEq K] {knd : KeyKind prog w K} {kvs : List (K × Value)} {d : Addr} {o : Obj} {i ep : Nat} {k : K} {x : Value}
theorem dk_start {Q : Value → Shared → Prop} (F : Fr h₀ L s.heap m) (N : News h₀ L s.heap news) (hp : (d, o) ∈ news) (ha : KdkAt knd o kvs ep) (lo : (d == sysModules) = false)
    (h : ∀ I oI h', Fr h₀ L h' m → News h₀ L h' ((I, oI) :: news) → (∀ p ∈ news, p.1 < I) → KdkIter oI d 0 kvs.length ep → Q (.ref I) { s with heap := h' }) : wpAny (model prog w) A (pyIter (.ref d)) Q E s := by
  refine wpAny_pyIter_dict lo (ha.dictAt (N _ hp).1) ?_
  exact h _ _ _ (F.push _) (News.push F N _ rfl) (fun q hq => Heap.lt_size (N q hq).1) ⟨rfl, rfl⟩
theorem dk_item {Q : Option Value → Shared → Prop} (F : Fr h₀ L s.heap m) (N : News h₀ L s.heap ((I, oI) :: news)) (off : ∀ p ∈ news, p.1 ≠ I) (hI : KdkIter oI d i kvs.length ep) (hp : (d, o) ∈ news) (ha : KdkAt knd o kvs ep) (hx : kvs[i]? = some (k, x))
    (h : ∀ key oI' h', knd.is k key = true → Fr h₀ L h' m → News h₀ L h' ((I, oI') :: news) → KdkIter oI' d (i + 1) kvs.length ep → Q (some key) { s with heap := h' }) : wpAny (model prog w) A (pyNext (.ref I)) Q E s := by
  refine wpAny_pyNext_dict_item (hI.at (N _ (.head _)).1) (ha.dictAt (N _ (.tail _ hp)).1) hx fun key h' hk hit hs => ?_
  obtain ⟨oI', ho', hc', hd'⟩ := hit
  obtain ⟨F', N'⟩ := it_same F N off hs ho'
  exact h key oI' h' hk F' N' ⟨hc', hd'⟩
theorem dk_end {Q : Option Value → Shared → Prop} (hh : A.handled = none) (F : Fr h₀ L s.heap m) (N : News h₀ L s.heap ((I, oI) :: news)) (off : ∀ p ∈ news, p.1 ≠ I) (hI : KdkIter oI d i kvs.length ep) (hp : (d, o) ∈ news) (ha : KdkAt knd o kvs ep) (hx : kvs[i]? = none)
    (h : ∀ h', Fr h₀ L h' m → News h₀ L h' news → Q none { s with heap := h' }) : wpAny (model prog w) A (pyNext (.ref I)) Q E s := by
  refine wpAny_pyNext_dict_end hh (hI.at (N _ (.head _)).1) (ha.dictAt (N _ (.tail _ hp)).1) hx fun h' he => ?_
  obtain ⟨F', N'⟩ := it_ext F N off he
  exact h h' F' N'
end
section
noncomputable def SIter (o : Obj) (x : Str) (t : Tok) (i : Nat) : Prop := o.cls = .type "str_ascii_iterator" ∧ o.data = .fields #[.str x t, .int i 0]
variable {x : Str} {t : Tok} {i c : Nat}
theorem si_start {Q : Value → Shared → Prop} (F : Fr h₀ L s.heap m) (N : News h₀ L s.heap news) (hx : x.cps.all (· < 128) = true)
    (h : ∀ I oI h', Fr h₀ L h' m → News h₀ L h' ((I, oI) :: news) → (∀ p ∈ news, p.1 < I) → SIter oI x t 0 → Q (.ref I) { s with heap := h' }) : wpAny (model prog w) A (pyIter (.str x t)) Q E s := by
  refine wpAny_pyIter_ascii hx ?_
  exact h _ _ _ (F.push _) (News.push F N _ rfl) (fun q hq => Heap.lt_size (N q hq).1) ⟨rfl, rfl⟩
theorem si_item {Q : Option Value → Shared → Prop} (F : Fr h₀ L s.heap m) (N : News h₀ L s.heap ((I, oI) :: news)) (off : ∀ p ∈ news, p.1 ≠ I) (hI : SIter oI x t i) (hx : x.cps[i]? = some c)
    (h : ∀ oI' h' tk u, Fr h₀ L h' m → News h₀ L h' ((I, oI') :: news) → SIter oI' x t (i + 1) → Q (some (.str ⟨#[c]⟩ u)) { s with heap := h', toks := tk }) : wpAny (model prog w) A (pyNext (.ref I)) Q E s := by
  refine wpAny_pyNext_ascii_item ⟨oI, (N _ (.head _)).1, hI.1, hI.2⟩ hx fun h' hit hs => ?_
  obtain ⟨oI', ho', hc', hd'⟩ := hit
  obtain ⟨F', N'⟩ := it_same F N off hs ho'
  exact h oI' h' _ _ F' N' ⟨hc', hd'⟩
theorem si_end {Q : Option Value → Shared → Prop} (hh : A.handled = none) (F : Fr h₀ L s.heap m) (N : News h₀ L s.heap ((I, oI) :: news)) (off : ∀ p ∈ news, p.1 ≠ I) (hI : SIter oI x t i) (hx : x.cps[i]? = none)
    (h : ∀ h', Fr h₀ L h' m → News h₀ L h' news → Q none { s with heap := h' }) : wpAny (model prog w) A (pyNext (.ref I)) Q E s := by
  refine wpAny_pyNext_ascii_end hh ⟨oI, (N _ (.head _)).1, hI.1, hI.2⟩ hx fun h' he => ?_
  obtain ⟨F', N'⟩ := it_ext F N off he
  exact h h' F' N'
end
section
noncomputable abbrev riObj (x left step : Int) : Obj := { cls := .type "range_iterator", dict := none, data := .fields #[rawInt x, rawInt left, rawInt step], slots := #[] }
variable {x left step : Int}
theorem ri_item {Q : Option Value → Shared → Prop} (F : Fr h₀ L s.heap m) (N : News h₀ L s.heap ((I, riObj x left step) :: news)) (off : ∀ p ∈ news, p.1 ≠ I) (hl : 0 < left)
    (h : ∀ h' tk u, Fr h₀ L h' m → News h₀ L h' ((I, riObj (x + step) (left - 1) step) :: news) → Q (some (.int x u)) { s with heap := h', toks := tk }) : wpAny (model prog w) A (pyNext (.ref I)) Q E s := by
  refine wpAny_pyNext_range_item (N _ (.head _)).1 hl fun h' hit hs => ?_
  obtain ⟨F', N'⟩ := it_same F N off hs hit
  exact h h' _ _ F' N'
theorem ri_end {Q : Option Value → Shared → Prop} (hh : A.handled = none) (F : Fr h₀ L s.heap m) (N : News h₀ L s.heap ((I, riObj x left step) :: news)) (off : ∀ p ∈ news, p.1 ≠ I) (hl : left ≤ 0)
    (h : ∀ h', Fr h₀ L h' m → News h₀ L h' news → Q none { s with heap := h' }) : wpAny (model prog w) A (pyNext (.ref I)) Q E s := by
  refine wpAny_pyNext_range_end hh (N _ (.head _)).1 hl fun h' he => ?_
  obtain ⟨F', N'⟩ := it_ext F N off he
  exact h h' F' N'
end
theorem for_go2 {env : Env} {v : Str} {px pos : Pos} {iter : PySem.Expr} {body : List Stmt} {Q : Flow → Shared → Prop} (hE : PassesOwn (model prog w) A env E) (hs : ∀ x, foldedSetIterable iter env x = pure x) (J : Addr → Nat → Shared → Prop)
    (init : wpAny (model prog w) A (eval iter env) (fun x s₁ => wpAny (model prog w) A (pyIter x) (fun i s₂ => Hold (∃ it n, i = .ref it ∧ J it n s₂)) E s₁) E s)
    (step : ∀ it n s, J it n s → wpAny (model prog w) A (pyNext (.ref it)) (fun r s₁ => match r with | none => Q .next s₁ | some y => wpAny (model prog w) A (storeName env v y) (fun _ s₂ => wpAny (model prog w) A (execs body env) (fun f s₃ => Hold (WInd (J it) n Q f s₃)) E s₂) E s₁) E s) :
    wpAny (model prog w) A (exec (.For (.Name v px) iter body [] pos) env) Q E s := by
  refine wpAny_For (wpAny_mono init (fun xv s₁ h₁ => wpAny_mono h₁ (fun i s₂ h₂ => ?_) fun _ _ z => z) fun _ _ z => z) hs
  obtain ⟨it, n, rfl, h₂⟩ := h₂
  refine codeAny_forLoop (R := fun r s' => match r with | .ok f => Q f s' | .error e => cameBackBy (model prog w) A env E e s') (J it) (fun k s' hk => ?_) n h₂
  refine wpAny_passesOwn hE (wpAny_mono (step it k s' hk) (fun r s₁ hr => ?_) fun _ _ z => z)
  cases r with
  | none => exact wpAny_execs_nil hr
  | some y =>
    refine wpAny_passesOwn hE (wpAny_assign_Name (wpAny_mono hr (fun _ s₂ h₂ => ?_) fun _ _ z => z))
    refine wpAny_passesOwn hE (wpAny_mono h₂ (fun f s₃ h₃ => ?_) fun _ _ z => z)
    cases f with
    | next => exact h₃
    | cont => exact h₃
    | brk => exact h₃
    | ret _ => exact h₃
theorem li_item {vs : List Value} {l : Addr} {i : Int} {u : Tok} {x : Value} {value slice : PySem.Expr} {Q : Value → Shared → Prop} (hl : s.heap.IsList l vs.toArray) (h0 : 0 ≤ i) (hf : i < 1000) (e : vs[i.toNat]? = some x) (h : Q x s)
    (hs : subscripted slice false (.ref l) (.int i u) = operate [.ref l, .int i u] (getItem (.ref l) (.int i u)) := by with_unfolding_all rfl) :
    wpAny (model prog w) A (subscriptTail value slice (.ref l) (.int i u)) Q E s :=
  tail_any hl.typeIs slot_list_getitem.lookup (wpAny_getItem_list hl h0 (Int.lt_trans hf (by decide)) (x := x) (by simpa using e) h) hs
end

end
section
theorem rs_L11 : True := by
  w_top off
  trivial
section
noncomputable abbrev lawCl (c1 c2 c3 c4 : Addr) : List (Str × Addr) := [(Str.ofString "shares", c1), (Str.ofString "sign", c2), (Str.ofString "secret", c3), (Str.ofString "low", c4)]
noncomputable def part11 : { st : Stmt // st = lawBody.1.getD 11 default } := by
  have h : lawBody.1.getD 11 default = lawBody.1.getD 11 default := rfl
  conv at h => rhs; whnf
  exact ⟨_, h.symm⟩
theorem DAcc.four {K : Nat → Str} {P : Nat → Value → List (Addr × Obj) → Prop} {kvs : List (Str × Value)} {nw : List (Addr × Obj)} (h : DAcc K P 4 kvs nw) :
    ∃ v0 v1 v2 v3 n0 n1 n2 n3, P 0 v0 n0 ∧ P 1 v1 n1 ∧ P 2 v2 n2 ∧ P 3 v3 n3 ∧ kvs = [(K 0, v0), (K 1, v1), (K 2, v2), (K 3, v3)] ∧ nw = n3 ++ (n2 ++ (n1 ++ (n0 ++ []))) := by
  cases h with
  | succ h p3 =>
    cases h with
    | succ h p2 =>
      cases h with
      | succ h p1 =>
        cases h with
        | succ h p0 =>
          cases h
          exact ⟨_, _, _, _, _, _, _, _, p0, p1, p2, p3, rfl, rfl⟩
noncomputable def nm4 (i : Nat) : Str := match i with | 0 => Str.ofString "a" | 1 => Str.ofString "b c" | 2 => Str.ofString "d\"" | _ => Str.ofString "\\e"
noncomputable def SgOk (sg : Str) : Prop := sg = Str.ofString "|" ∨ sg = Str.ofString "!" ∨ sg = Str.ofString "#" ∨ sg = Str.ofString "~"
noncomputable def MdOk (m : Int) : Prop := m = 7 ∨ m = 8 ∨ m = 9 ∨ m = 11 ∨ m = 13 ∨ m = 17
noncomputable def repT (sg : Str) (m : Int) : Str := Str.ofString "229 Ready (" ++ Txt.mul sg 3 ++ Str.ofString (toString m) ++ sg ++ Str.ofString ")"
theorem SgOk.len {sg : Str} (h : SgOk sg) : sg.length = 1 ∧ (Txt.mul sg 3).length = 3 := by
  rcases h with rfl | rfl | rfl | rfl <;> decide +kernel
theorem MdOk.len {m : Int} (h : MdOk m) : (Str.ofString (toString m)).length ≤ 3 ∧ 0 ≤ m ∧ m ≤ 100 := by
  rcases h with rfl | rfl | rfl | rfl | rfl | rfl <;> decide +kernel
theorem nm4_ne : ∀ i j : Nat, i < j → j < 4 → nm4 i ≠ nm4 j := by
  have : ∀ j : Nat, j < 4 → ∀ i : Nat, i < j → nm4 i ≠ nm4 j := by decide +kernel
  exact fun i j h1 h2 => this j h2 i h1
local macro_rules | `(tactic| walk_at "call type:zip") => `(tactic| (refine Hold.mk ?_))
local macro_rules | `(tactic| walk_at "exec Assign cons DictComp") => `(tactic| (refine Hold.mk ?_))
noncomputable def md4 (m0 m1 m2 m3 : Int) (i : Nat) : Int := match i with | 0 => m0 | 1 => m1 | 2 => m2 | _ => m3
theorem pick4 {n0 n1 n2 n3 t0 t1 t2 t3 : Tok} {m0 m1 m2 m3 : Int} {i : Nat} {x y : Value} (hi : i < 4) (b0 : MdOk m0) (b1 : MdOk m1) (b2 : MdOk m2) (b3 : MdOk m3)
    (hx : [Value.str (Str.ofString "a") n0, .str (Str.ofString "b c") n1, .str (Str.ofString "d\"") n2, .str (Str.ofString "\\e") n3][i]? = some x) (hy : [Value.int m0 t0, .int m1 t1, .int m2 t2, .int m3 t3][i]? = some y) :
    ∃ mi ti tx, y = Value.int mi ti ∧ x = Value.str (nm4 i) tx ∧ mi = md4 m0 m1 m2 m3 i ∧ MdOk mi := by
  have : i = 0 ∨ i = 1 ∨ i = 2 ∨ i = 3 := by omega
  rcases this with rfl | rfl | rfl | rfl
  · cases hx; cases hy; exact ⟨_, _, _, rfl, rfl, rfl, b0⟩
  · cases hx; cases hy; exact ⟨_, _, _, rfl, rfl, rfl, b1⟩
  · cases hx; cases hy; exact ⟨_, _, _, rfl, rfl, rfl, b2⟩
  · cases hx; cases hy; exact ⟨_, _, _, rfl, rfl, rfl, b3⟩
local macro_rules | `(tactic| walk_at "binaryOp Add str str") => `(tactic| (k_dflt (refine' addS ?z ?_; (case z => (simp only [Str.length_append]; omega))); intro t' tk'))
theorem law11 (prog : Program) (w : World) (p : Program) (loose : List Str) (mean : ExcName → Option Value) (mg mb : Str → Option Value) (dp un : Nat) (gd : Option (List Code)) (fa : Addr) (cd : Value) (outer : List Env) (A₀ : Around) (base h₀ : Heap) (L c1 c2 c3 c4 : Addr) (m : Str → Option Value) (s : Shared)
    (Q : Flow → Shared → Prop) (E : Value → Shared → Prop) (B : Below A₀ base outer h₀) (F : Fr h₀ L s.heap m) (X : (hd.heap_1 w.params).In h₀) (rest : List (Addr × Obj)) (N : News h₀ L s.heap rest) (T : Top p loose mean mg mb h₀) (hdp : dp + 400 < recursionLimit) (hun : un + 4000 < cLine)
    (nl ml : Addr) (n0 n1 n2 n3 t0 t1 t2 t3 tg : Tok) (m0 m1 m2 m3 : Int) (sg : Str) (os : Obj)
    (v1 : m (Str.ofString "names") = some (.ref nl)) (v2 : m (Str.ofString "moduli") = some (.ref ml)) (g1 : (nl, listOf #[.str (Str.ofString "a") n0, .str (Str.ofString "b c") n1, .str (Str.ofString "d\"") n2, .str (Str.ofString "\\e") n3] 0) ∈ rest) (g2 : (ml, listOf #[.int m0 t0, .int m1 t1, .int m2 t2, .int m3 t3] 2) ∈ rest) (g3 : (c2, os) ∈ rest) (g4 : os.data = .cell (some (.str sg tg)))
    (b0 : MdOk m0) (b1 : MdOk m1) (b2 : MdOk m2) (b3 : MdOk m3) (hsg : SgOk sg) 
    (hret : ∀ D h tk oD u0 u1 u2 u3, Fr h₀ L h (fun z => if z = Str.ofString "replies" then some (.ref D) else m z) → News h₀ L h ((D, oD) :: rest) → oD.IsDictOf (strKind prog w) [(nm4 0, .str (repT sg m0) u0), (nm4 1, .str (repT sg m1) u1), (nm4 2, .str (repT sg m2) u2), (nm4 3, .str (repT sg m3) u3)] → (∀ p ∈ rest, p.1 ≠ D) → (D == sysModules) = false → Q .next { s with heap := h, toks := tk }) :
    wpAny (model prog w) (ktrTop dp un gd (Str.ofString "law") lawScope.1 L fa cd (lawCl c1 c2 c3 c4) outer) (exec part11.1 (envX (Str.ofString "law") lawScope.1 L fa cd (lawCl c1 c2 c3 c4))) Q E s := by
  dsimp only [part11, lawScope, lawCl]
  k_dflt (refine' dcz_Assign (m := m) (h₀ := h₀) (news := rest) (K := nm4) (P := fun i vv new1 => new1 = [] ∧ ∃ t, vv = Value.str (repT sg (md4 m0 m1 m2 m3 i)) t) (xs := [.str (Str.ofString "a") n0, .str (Str.ofString "b c") n1, .str (Str.ofString "d\"") n2, .str (Str.ofString "\\e") n3]) (ys := [.int m0 t0, .int m1 t1, .int m2 t2, .int m3 t3]) ?sw rfl (modules_low T.nolimit) ?clos ?cell ?kind ?names ?xa ?xb ?ab ?hs ?y1 ?y2 ?h)
  case sw => with_unfolding_all rfl
  case clos => with_unfolding_all rfl
  case cell => decide
  case kind => rfl
  case names => decide
  case xa => rfl
  case xb => rfl
  case ab => decide
  case hs => intro _; rfl
  case y1 => rfl
  case y2 => rfl
  case h =>
    k_steps
    refine Hold.out ?_
    k_dflt (refine' zip_K (n1 := 0) (n2 := 2) F N g1 g2 ?_)
    intro z TI TO i1 i2 h' D0 zf F' N' hZ
    refine Hold.out ⟨⟨⟨z, TI, TO, i1, i2, _, _, _, _, rfl, D0, zf, g1, g2, hZ⟩, ⟨rfl, by show 4 ≤ 1000; decide⟩, F', N', nm4_ne, ?_⟩, ?_⟩
    · intro i x y C mm oC h tk nw rs E' hi hx hy hoC hxa hxb Fh Nh hsub
      obtain ⟨hsl, hsm⟩ := hsg.len
      have hq1 : (Str.ofString "229 Ready (").length = 11 := by decide +kernel
      have hq2 : (Str.ofString ")").length = 1 := by decide +kernel
      obtain ⟨mi, ti, tx, rfl, rfl, hmi, hmk⟩ := pick4 (n0 := n0) (n1 := n1) (n2 := n2) (n3 := n3) hi b0 b1 b2 b3 hx hy
      obtain ⟨hml, hm1, hm2⟩ := hmk.len
      have g3' : (c2, os) ∈ rs := hsub _ (List.mem_append_right _ g3)
      k_steps
      exact Hold.out ⟨_, _, [], rfl, Fh, Nh, fun _ hp => (nomatch hp), strKind_is prog w _ _, rfl, _, by rw [← hmi]; rfl⟩
    · intro D h tk oD kvs nw Fh Nh hD hA offD lo
      obtain ⟨w0, w1, w2, w3, x0, x1, x2, x3, ⟨rfl, u0, rfl⟩, ⟨rfl, u1, rfl⟩, ⟨rfl, u2, rfl⟩, ⟨rfl, u3, rfl⟩, rfl, rfl⟩ := DAcc.four hA
      exact hret D h tk oD u0 u1 u2 u3 Fh Nh hD offD lo
end

end
section
theorem rs_C15 : True := by
  w_top off
  trivial
section
theorem QTok.len2 {cs t r : List Nat} (h : QTok cs t r) : r.length ≤ cs.length := by
  induction h with
  | stop r => exact Nat.le_succ _
  | esc c h ih => exact Nat.le_trans ih (Nat.le_succ_of_le (Nat.le_succ _))
  | plain c h1 h2 h ih => exact Nat.le_succ_of_le ih
theorem UTok.len2 {cs t r : List Nat} (h : UTok cs t r) : r.length ≤ cs.length := by
  induction h with
  | stop c r h => exact Nat.le_succ _
  | plain c h1 h2 h ih => exact Nat.le_succ_of_le ih
theorem GTok.len2 {cs t r : List Nat} (h : GTok cs t r) : r.length ≤ cs.length := by
  induction h with
  | skip c h1 h ih => exact Nat.le_succ_of_le ih
  | quoted h => exact Nat.le_succ_of_le h.len2
  | plain c h1 h2 h3 h => exact Nat.le_succ_of_le h.len2
noncomputable def machineL : List Nat := [109, 97, 99, 104, 105, 110, 101]
noncomputable def passwordL : List Nat := [112, 97, 115, 115, 119, 111, 114, 100]
/-- the lots of tokens that are left from the i-th on -/
inductive Lots (A B : Nat → List Nat) : Nat → List Nat → Prop
  | done (cs : List Nat) : Lots A B 4 cs
  | turn {i : Nat} {cs r0 r1 r2 r3 : List Nat} (hi : i < 4) (g0 : GTok cs machineL r0) (g1 : GTok r0 (A i) r1) (g2 : GTok r1 passwordL r2) (g3 : GTok r2 (B i) r3) (h : Lots A B (i + 1) r3) : Lots A B i cs
theorem Lots.inv {A B : Nat → List Nat} {i : Nat} {cs : List Nat} (h : Lots A B i cs) (hi : i < 4) : ∃ r0 r1 r2 r3, GTok cs machineL r0 ∧ GTok r0 (A i) r1 ∧ GTok r1 passwordL r2 ∧ GTok r2 (B i) r3 ∧ Lots A B (i + 1) r3 := by
  cases h with
  | done => exact absurd hi (Nat.lt_irrefl _)
  | turn _ a b c d e => exact ⟨_, _, _, _, a, b, c, d, e⟩
local macro_rules | `(tactic| walk_at "call ref") => `(tactic| ((with_reducible first | show wpAny _ _ (call (Value.ref 142) _) _ _ _ | show wpAny _ _ (call (Value.ref 65) _) _ _ _); refine Hold.mk ?_))
local macro_rules | `(tactic| walk_at "CompSrc") => `(tactic| (refine Hold.mk ?_))
local macro_rules | `(tactic| walk_at "exec For") => `(tactic| (refine Hold.mk ?_))
local macro_rules | `(tactic| walk_at "exec For Name Name cons nil") => `(tactic| (refine Hold.mk ?_))
local macro_rules | `(tactic| walk_at "subscriptTail Name Constant ref int") => `(tactic| (k_dflt ((with_reducible show wpAny _ _ (subscriptTail _ _ (Value.ref _) (Value.int _ _)) _ _ _); (refine' li_item ?l ?z ?f ?e ?_ ?hs; (case l => exact News.isList (by k_asm) (by k_mem)); (case z => decide); (case f => decide); (case e => exact rfl); (case hs => with_unfolding_all rfl)))))
theorem lot_order {h₀ h : Heap} {L : Addr} {a b c d e : Addr × Obj} {r : List (Addr × Obj)} (N : News h₀ L h (a :: b :: c :: d :: e :: r)) : News h₀ L h (a :: b :: d :: e :: ([] ++ (c :: r))) := fun p hp => N p (by
  simp only [List.mem_cons, List.nil_append] at hp ⊢
  rcases hp with h | h | h | h | h | h <;> simp [h])
theorem lot_order2 {h₀ h : Heap} {L : Addr} {a b c d : Addr × Obj} {r : List (Addr × Obj)} (N : News h₀ L h (a :: b :: c :: d :: r)) : News h₀ L h (c :: d :: a :: b :: r) := fun p hp => N p (by
  simp only [List.mem_cons] at hp ⊢
  rcases hp with h | h | h | h | h <;> simp [h])
theorem lot_order3 {h₀ h : Heap} {L : Addr} {a b c d e f g i : Addr × Obj} {r : List (Addr × Obj)} (N : News h₀ L h (a :: b :: c :: d :: e :: f :: g :: i :: r)) : News h₀ L h (i :: a :: g :: e :: f :: r) := fun p hp => N p (by
  simp only [List.mem_cons] at hp ⊢
  rcases hp with h | h | h | h | h | h <;> simp [h])
theorem lot_order4 {h₀ h : Heap} {L : Addr} {a b c d e : Addr × Obj} {r r' : List (Addr × Obj)} (N : News h₀ L h (a :: b :: c :: d :: e :: (r ++ r'))) : News h₀ L h (c :: a :: d :: e :: (([b] ++ r) ++ r')) := fun p hp => N p (by
  simp only [List.mem_cons, List.mem_append, List.not_mem_nil, or_false] at hp ⊢
  rcases hp with h | h | h | h | (h | h) | h <;> simp [h])
theorem lot_order5 {h₀ h : Heap} {L : Addr} {a b c d : Addr × Obj} {r r' : List (Addr × Obj)} (N : News h₀ L h (a :: b :: c :: (r ++ d :: r'))) : News h₀ L h (a :: b :: c :: (r ++ r')) := fun p hp => N p (by
  simp only [List.mem_cons, List.mem_append] at hp ⊢
  rcases hp with h | h | h | h | h <;> simp [h])
theorem comp_order {h₀ h : Heap} {L : Addr} {a b c d e : Addr × Obj} {r : List (Addr × Obj)} (N : News h₀ L h (a :: b :: c :: d :: e :: r)) : News h₀ L h (d :: e :: a :: b :: c :: r) := fun p hp => N p (by
  simp only [List.mem_cons] at hp ⊢
  rcases hp with h | h | h | h | h | h <;> simp [h])
theorem comp_sub {a b c d e : Addr × Obj} {r : List (Addr × Obj)} : ∀ p ∈ a :: b :: c :: d :: e :: r, p ∈ d :: e :: a :: b :: c :: r := fun p hp => by
  simp only [List.mem_cons] at hp ⊢
  rcases hp with h | h | h | h | h | h <;> simp [h]
theorem LexR.of {V : LexV} {w : World} {rest X : List (Addr × Obj)} (R : LexR V w rest) (h : ∀ p ∈ rest, p ∈ X) (h1 : ∀ p ∈ X, p.1 ≠ V.lf) (h2 : ∀ p ∈ X, p.1 ≠ V.ld) : LexR V w X := by
  obtain ⟨hlx, hpb, hx2, hd2, hf, hc, hc1, hc2, hce, hce1, n1, n2⟩ := R
  exact ⟨h _ hlx, h _ hpb, h _ hx2, h _ hd2, h _ hf, h _ hc, hc1, hc2, h _ hce, hce1, h1, h2⟩
theorem LexR.comp {V : LexV} {w : World} {X : List (Addr × Obj)} (R : LexR V w X) {I C D : Addr} {oI oC oD o1 o2 : Obj} (off : LCg.Off3 I C D ((V.lf, o1) :: (V.ld, o2) :: X)) : LexR V w ((I, oI) :: (C, oC) :: (D, oD) :: X) := by
  refine R.of (fun p hp => .tail _ (.tail _ (.tail _ hp))) ?_ ?_
  · intro p hp
    simp only [List.mem_cons] at hp
    rcases hp with rfl | rfl | rfl | hp
    · exact (off.1.1).symm
    · exact (off.1.2.1).symm
    · exact (off.1.2.2).symm
    · exact R.n1 p hp
  · intro p hp
    simp only [List.mem_cons] at hp
    rcases hp with rfl | rfl | rfl | hp
    · exact (off.2.1.1).symm
    · exact (off.2.1.2.1).symm
    · exact (off.2.1.2.2).symm
    · exact R.n2 p hp
noncomputable def lval (l : List Nat) : Int := l.foldl (fun (a : Int) (c : Nat) => a * 16 + (c : Int) - 65) 0
theorem all_ascii {x : Str} (h : ∀ c ∈ x.cps.toList, 65 ≤ c ∧ c < 81) : x.cps.all (· < 128) = true := by
  rw [← Array.all_toList, List.all_eq_true]
  intro c hc
  exact decide_eq_true (by have := h c hc; omega)
theorem lval_take {l : List Nat} {j : Nat} (hj : j < l.length) : lval (l.take (j + 1)) = lval (l.take j) * 16 + (l[j] : Int) - 65 := by
  unfold lval
  rw [List.take_succ_eq_append_getElem hj, List.foldl_append]
  rfl
theorem lval_bound {l : List Nat} (h : ∀ c ∈ l, 65 ≤ c ∧ c < 81) : ∀ j, j ≤ l.length → 0 ≤ lval (l.take j) ∧ lval (l.take j) < (16 : Int) ^ j
  | 0, _ => by rw [List.take_zero]; exact ⟨Int.le_refl _, by decide⟩
  | j + 1, hj => by
    have hj' : j < l.length := hj
    obtain ⟨a, b⟩ := lval_bound h j (Nat.le_of_lt hj')
    have := h _ (List.getElem_mem hj')
    rw [lval_take hj']
    refine ⟨by omega, ?_⟩
    have e : (16 : Int) ^ (j + 1) = 16 ^ j * 16 := Int.pow_succ ..
    omega
theorem lval_step {l : List Nat} (h : ∀ c ∈ l, 65 ≤ c ∧ c < 81) (h5 : l.length ≤ 5) {j : Nat} (hj : j < l.length) : 0 ≤ lval (l.take j) ∧ lval (l.take j) < 1048576 ∧ lval (l.take j) * 16 + (l[j] : Int) - 65 = lval (l.take (j + 1)) := by
  obtain ⟨a, b⟩ := lval_bound h j (Nat.le_of_lt hj)
  refine ⟨a, Int.lt_of_lt_of_le b ?_, (lval_take hj).symm⟩
  have : (16 : Int) ^ j ≤ 16 ^ 5 := by
    have : j = 0 ∨ j = 1 ∨ j = 2 ∨ j = 3 ∨ j = 4 := by omega
    rcases this with rfl | rfl | rfl | rfl | rfl <;> decide
  exact this
inductive LsA (prog : Program) (w : World) (V : LexV) (rest : List (Addr × Obj)) (A B : Nat → Str) (SV MD : Nat → Int) (g' : Heap) (L' sd rd : Addr) (oc : Obj) (kl : Nat) (ep9 : Nat) (st : Shared) (I : Addr) (n : Nat) (s' : Shared) : Prop
  | mk (i : Nat) (cs : List Nat) (items : List Value) (ep : Nat) (k : Int) (tk : Tok) (so oI : Obj) (kvs9 : List (Str × Value)) (tups : List (Addr × Obj)) (mp : Str → Option Value) (h : Heap) (tks : Nat) (e1 : s' = { st with heap := h, toks := tks }) (e2 : n = 4 - i) (e3 : i ≤ 4) (e4 : Fr g' L' h mp)
    (e5 : News g' L' h ((I, oI) :: (sd, so) :: (V.lf, listOf items.toArray ep) :: (V.ld, V.dict w k tk) :: (tups ++ ((L' + 1, oc) :: rest)))) (e6 : KdkIter oI rd i kl ep9) (e7 : so.IsDictOf (strKind prog w) kvs9) (e8 : DAcc A (fun i vv new1 => ∃ x t1 t2, vv = Value.ref x ∧ new1 = [(x, tup2 (.int (SV i) t1) (.int (MD i) t2))]) i kvs9 tups) (e9 : ChrsAre items cs) (e10 : items.length < 100000) (e11 : Lots (fun i => (A i).cps.toList) (fun i => (B i).cps.toList) i cs)
    (e12 : mp (Str.ofString "shares") = some (.ref sd)) (e13 : mp (Str.ofString "replies") = some (.ref rd)) (e14 : ∀ p ∈ tups, @LT.lt Nat _ sd p.1 ∧ p.1 ≠ I) (e15 : @LT.lt Nat _ sd I)
inductive LsB (w : World) (V : LexV) (XX : List (Addr × Obj)) (x y : Str) (g' : Heap) (L' sd rd wl I : Addr) (oI' so : Obj) (items : List Value) (ep : Nat) (k : Int) (tk tv0 tv1 tv2 tv3 : Tok) (st : Shared) (I2 : Addr) (n : Nat) (s' : Shared) : Prop
  | mk (j : Nat) (acc : Int) (ta : Tok) (oI2 : Obj) (mp : Str → Option Value) (h : Heap) (tks : Nat) (e1 : s' = { st with heap := h, toks := tks }) (e2 : n = y.cps.toList.length - j) (e3 : j ≤ y.cps.toList.length) (e4 : Fr g' L' h mp)
    (e5 : News g' L' h ((I2, oI2) :: (wl, LCg.lst [.str ⟨machineL.toArray⟩ tv0, .str x tv1, .str ⟨passwordL.toArray⟩ tv2, .str y tv3]) :: (V.lf, listOf items.toArray ep) :: (V.ld, V.dict w k tk) :: (I, oI') :: (sd, so) :: XX)) (e6 : SIter oI2 y tv3 j) (e7 : acc = lval (y.cps.toList.take j))
    (e8 : mp (Str.ofString "share") = some (.int acc ta)) (e9 : mp (Str.ofString "words") = some (.ref wl)) (e10 : mp (Str.ofString "shares") = some (.ref sd)) (e11 : mp (Str.ofString "replies") = some (.ref rd))
    (e12 : ∀ p ∈ (wl, LCg.lst [.str ⟨machineL.toArray⟩ tv0, .str x tv1, .str ⟨passwordL.toArray⟩ tv2, .str y tv3]) :: (V.lf, listOf items.toArray ep) :: (V.ld, V.dict w k tk) :: (I, oI') :: (sd, so) :: XX, p.1 ≠ I2)
theorem for_go2R {prog : Program} {w : World} {A : Around} {E : Value → Shared → Prop} {s : Shared} {env : Env} {v : Str} {px pos : Pos} {iter : PySem.Expr} {body : List Stmt} {Q : Flow → Shared → Prop} (hE : PassesOwn (model prog w) A env E) (hs : ∀ x, foldedSetIterable iter env x = pure x) (J : Addr → Nat → Shared → Prop)
    (init : wpAny (model prog w) A (eval iter env) (fun x s₁ => wpAny (model prog w) A (pyIter x) (fun i s₂ => Hold (∃ it n, i = .ref it ∧ J it n s₂)) E s₁) E s)
    (step : ∀ it n s, J it n s → ∀ (Qn : Shared → Prop) (R : Flow → Shared → Prop), (∀ s, Q .next s → Qn s) → (∀ f s, WInd (J it) n Q f s → R f s) → wpAny (model prog w) A (pyNext (.ref it)) (fun r s₁ => match r with | none => Qn s₁ | some y => wpAny (model prog w) A (storeName env v y) (fun _ s₂ => wpAny (model prog w) A (execs body env) (fun f s₃ => Hold (R f s₃)) E s₂) E s₁) E s) :
    wpAny (model prog w) A (exec (.For (.Name v px) iter body [] pos) env) Q E s :=
  for_go2 hE hs J init fun it n s j => step it n s j (Q .next) (WInd (J it) n Q) (fun _ h => h) (fun _ _ h => h)
theorem law_shares (prog : Program) (w : World) (V : LexV) (rest : List (Addr × Obj)) (R : LexR V w rest) (A : Nat → Str) (B : Nat → Str) (SV MD : Nat → Int) (cs : List Nat) (Lt : Lots (fun i => (A i).cps.toList) (fun i => (B i).cps.toList) 0 cs) (items : List Value) (ep : Nat) (k : Int) (tk : Tok) (hi : ChrsAre items cs) (hz : items.length < 100000)
    (rd : Addr) (ro : Obj) (kvs : List (Str × Value)) (hrd : (rd, ro) ∈ rest) (hro : ro.IsDictOf (strKind prog w) kvs) (lo : (rd == sysModules) = false) (hk4 : kvs.length = 4) (hrep : ∀ i, i < 4 → ∃ x u left right sg mid d p0 p1 p2 p4, valueAt kvs (A i) = some (.str x u) ∧ RepOk x (MD i) left right sg mid d p0 p1 p2 p4) (hinj : ∀ i j, i < j → j < 4 → A i ≠ A j) (hB : ∀ i, i < 4 → (∀ c ∈ (B i).cps.toList, 65 ≤ c ∧ c < 81) ∧ (B i).cps.toList.length ≤ 5 ∧ lval (B i).cps.toList = SV i) :
    Con prog w 175 [.ref V.lx, .ref rd] 100 1000 ((V.lf, listOf items.toArray ep) :: (V.ld, V.dict w k tk) :: rest) (fun v new => ∃ (sd : Addr) (so : Obj) (kvs9 : List (Str × Value)) (tups : List (Addr × Obj)) (items : List Value) (k : Int) (tk : Tok) (ep : Nat), v = .ref sd ∧ new = (sd, so) :: (V.lf, listOf items.toArray ep) :: (V.ld, V.dict w k tk) :: (tups ++ rest) ∧ so.IsDictOf (strKind prog w) kvs9 ∧ DAcc A (fun i vv new1 => ∃ x t1 t2, vv = Value.ref x ∧ new1 = [(x, tup2 (.int (SV i) t1) (.int (MD i) t2))]) 4 kvs9 tups ∧ (sd == sysModules) = false ∧ (∀ p ∈ rest, @LT.lt Nat _ p.1 sd) ∧ (∀ p ∈ tups, @LT.lt Nat _ sd p.1)) := by
  have R' := R
  obtain ⟨hlx, hpb, hx2, hd2, hf, hc, hc1, hc2, hce, hce1, n1, n2⟩ := R
  have hlf := V.hlf
  obtain ⟨ep9, hka⟩ := KdkAt.of hro
  intro p' loose mean mg mb dp un gd cn cs' fa ccd cl outer A₀ base h₀ L mm st Q E Bb F X N T9 hk hdp hun hret
  refine wpAny_call ?_
  k_dflt (refine' code_defC ?k1 ?k2 ?k3 ?k4 ?k5 ?kA ?kF ?kK ?k6 ?k7 ?k8 ?k9 ?kB ?kD ?_ ?c2 ?c3 ?c4; (case kA => exact rfl); (case kF => exact rfl); (case kK => assumption); (case k1 => k_asm); (case k2 => k_asm); (case k3 => k_asm); (case k4 => k_asm); (case k5 => k_asm); (case k6 => k_is); (case k7 => k_is); (case k8 => ktr_room); (case k9 => exact BindsTo.of_eq rfl); (case kB => exact rfl); (case kD => decide +kernel); (case c2 => exact rfl); (case c3 => exact rfl); (case c4 => exact rfl); k_whole; intro g' L' h' tk' cells' FG' F' N' Y' B' X' T' l1; k_cells Y'; (try simp only [List.cons_append, List.nil_append] at N'); (try dsimp only))
  show wpAny _ _ _ _ _ _
  k_fold
  k_lt l1
  k_steps
  refine Hold.out ?_
  rename _ = Data.cell _ => hcl
  rename News g' L' _ _ => N7
  rename Fr g' L' _ _ => F7
  rename Obj.IsDictOf (strKind prog w) _ [] => hs0
  rename _ ∧ _ ∧ _ ∧ AllLt _ rest => l7
  rename_i oc sd x2 so lo7 fs7 x6 fi7 x8
  have hcl : oc.data = Data.cell (some (Value.ref V.lx)) := hcl
  have K7 : ∀ (it : Addr) (n : Nat) (s' : Shared), Prop := fun _ _ _ => True
  clear K7
  k_dflt (refine' for_go2R ?hE ?hs (LsA prog w V rest A B SV MD g' L' sd rd oc kvs.length ep9 st) ?init ?step)
  case hE => first | passes_own | with_unfolding_all passes_own
  case hs => intro _; rfl
  case init =>
    k_steps
    k_dflt (refine' dk_start F7 N7 ?m hka lo ?_)
    case m => k_mem
    intro I oI h9 F9 N9 l9 hI9
    k_lt l9
    exact Hold.out ⟨I, 4, rfl, 0, cs, items, ep, k, tk, so, oI, [], [], _, _, _, rfl, rfl, by decide, F9, lot_order N9, hI9, hs0, .zero, hi, hz, Lt, rfl, rfl, fun _ hp => (nomatch hp), l9.1⟩
  case step =>
    rintro I n s' ⟨i, cs, items, ep, k, tk, so, oI, kvs9, tups, mp, h, tks, rfl, rfl, hi4, F6, N6, hI6, hso, hacc, hch, hz, Lt, v1, v2, htu, hsI⟩ Qa Ra hQa hRa
    have hlt7 : @LT.lt Nat _ V.lf sd ∧ @LT.lt Nat _ V.ld sd ∧ AllLt sd rest ∧ @LT.lt Nat _ (L' + 1) sd := ⟨l7.2.1, l7.2.2.1, l7.2.2.2, l7.1⟩
    generalize hXX : tups ++ (L' + 1, oc) :: rest = XX at N6
    have hcellX : (L' + 1, oc) ∈ XX := hXX ▸ List.mem_append_right _ (.head _)
    have hsubX : ∀ p ∈ rest, p ∈ XX := fun p hp => hXX ▸ List.mem_append_right _ (.tail _ hp)
    have hrdX : (rd, ro) ∈ XX := hsubX _ hrd
    have hlxX : (V.lx, instObj 152 V.ld) ∈ XX := hsubX _ hlx
    have hapX : ∀ p ∈ XX, p.1 ≠ sd ∧ p.1 ≠ I ∧ p.1 ≠ V.lf ∧ p.1 ≠ V.ld := by
      intro p hp
      rw [← hXX] at hp
      rcases List.mem_append.mp hp with hp | hp
      · have := htu p hp
        exact ⟨Nat.ne_of_gt this.1, this.2, Nat.ne_of_gt (Nat.lt_trans hlt7.1 this.1), Nat.ne_of_gt (Nat.lt_trans hlt7.2.1 this.1)⟩
      · rcases List.mem_cons.mp hp with rfl | hp
        · exact ⟨Nat.ne_of_lt hlt7.2.2.2, Nat.ne_of_lt (Nat.lt_trans hlt7.2.2.2 hsI), Nat.ne_of_gt (Nat.lt_succ_of_lt l1.1), Nat.ne_of_gt (Nat.lt_succ_of_lt l1.2.1)⟩
        · have := allLt_all hlt7.2.2.1 p hp
          exact ⟨Nat.ne_of_lt this, Nat.ne_of_lt (Nat.lt_trans this hsI), n1 p hp, n2 p hp⟩
    have hXs : ∀ p ∈ XX, p.1 ≠ sd := fun p hp => (hapX p hp).1
    have hXI : ∀ p ∈ XX, p.1 ≠ I := fun p hp => (hapX p hp).2.1
    have hXf : ∀ p ∈ XX, p.1 ≠ V.lf := fun p hp => (hapX p hp).2.2.1
    have hXd : ∀ p ∈ XX, p.1 ≠ V.ld := fun p hp => (hapX p hp).2.2.2
    by_cases hlt : i < 4
    · obtain ⟨kx, hkx⟩ : ∃ kx, kvs[i]? = some kx := ⟨_, List.getElem?_eq_getElem (by omega)⟩
      k_dflt (refine' dk_item F6 N6 ?off hI6 ?hp hka (k := kx.1) (x := kx.2) hkx ?_)
      case off => k_all
      case hp => k_mem
      intro key oI' h8 hkey F8 N8 hI8
      dsimp only
      obtain ⟨r0, r1, r2, r3, q0, q1, q2, q3, Lt'⟩ := Lt.inv hlt
      have RX : LexR V w ((I, oI') :: (sd, so) :: XX) := R'.of (fun p hp => .tail _ (.tail _ (hsubX p hp))) (fun p hp => by
        rcases List.mem_cons.mp hp with rfl | hp
        · exact Nat.ne_of_gt (Nat.lt_trans hlt7.1 hsI)
        · rcases List.mem_cons.mp hp with rfl | hp
          · exact Nat.ne_of_gt hlt7.1
          · exact hXf p hp) (fun p hp => by
        rcases List.mem_cons.mp hp with rfl | hp
        · exact Nat.ne_of_gt (Nat.lt_trans hlt7.2.1 hsI)
        · rcases List.mem_cons.mp hp with rfl | hp
          · exact Nat.ne_of_gt hlt7.2.1
          · exact hXd p hp)
      have N8' := lot_order2 N8
      clear N8
      k_steps
      refine Hold.out ?_
      rename News g' L' _ ((V.lf, _) :: _) => N5
      rename Fr g' L' _ _ => F5
      rename IsRange _ _ _ _ _ _ _ _ => hr5
      k_dflt (refine' LCg.CompSrc.range rfl F5 N5 hr5 ?sm rfl ?sz ?_)
      case sm => decide
      case sz => exact Nat.le_of_ble_eq_true rfl
      intro g5
      refine LCg.CompRest.succ ?_
      rintro v9 I9 oI9 C9 oC9 D9 m9 h9 tk9 E9 hv9 hC9 hx9 F9 N9 off9 ne9
      have RX9 := fun oD9 : Obj => RX.comp (oI := oI9) (oC := oC9) (oD := oD9) off9
      have N9' := comp_order N9
      dsimp only [LexV.dict] at N9'
      k_steps
      refine Hold.out ?_
      k_dflt (refine' Con.use (get_token prog w V _ (RX9 _) _ _ _ q0 _ _ _ _ hch hz) ?zB ?zF ?zX ?zN ?zT ?zhk ?zd ?zu ?_)
      case zB => k_asm
      case zF => k_asm
      case zX => k_asm
      case zN => k_asm
      case zT => k_asm
      case zhk => rfl
      case zd => ktr_room
      case zu => ktr_units
      have e0 := hch.length
      have z0 := hz
      intro rr newr hr tkr hpr Fr9 Nr9
      obtain ⟨tv0, items, k, tk, ep, rfl, hch, rfl⟩ := hpr
      dsimp only
      refine LCg.CompEnd.intro Fr9 Nr9 ((V.lf, listOf items.toArray ep) :: (V.ld, V.dict w k tk) :: (I, oI') :: (sd, so) :: XX) comp_sub ⟨off9.1, off9.2.1, off9.2.2⟩ trivial ?_
      have hz : items.length < 100000 := by have e1 := hch.length; have e2 := (q0).len2; omega
      refine LCg.CompRest.succ ?_
      rintro v9 I9 oI9 C9 oC9 D9 m9 h9 tk9 E9 hv9 hC9 hx9 F9 N9 off9 ne9
      have RX9 := fun oD9 : Obj => RX.comp (oI := oI9) (oC := oC9) (oD := oD9) off9
      have N9' := comp_order N9
      dsimp only [LexV.dict] at N9'
      k_steps
      refine Hold.out ?_
      k_dflt (refine' Con.use (get_token prog w V _ (RX9 _) _ _ _ q1 _ _ _ _ hch hz) ?zB ?zF ?zX ?zN ?zT ?zhk ?zd ?zu ?_)
      case zB => k_asm
      case zF => k_asm
      case zX => k_asm
      case zN => k_asm
      case zT => k_asm
      case zhk => rfl
      case zd => ktr_room
      case zu => ktr_units
      have e0 := hch.length
      have z0 := hz
      intro rr newr hr tkr hpr Fr9 Nr9
      obtain ⟨tv1, items, k, tk, ep, rfl, hch, rfl⟩ := hpr
      dsimp only
      refine LCg.CompEnd.intro Fr9 Nr9 ((V.lf, listOf items.toArray ep) :: (V.ld, V.dict w k tk) :: (I, oI') :: (sd, so) :: XX) comp_sub ⟨off9.1, off9.2.1, off9.2.2⟩ trivial ?_
      have hz : items.length < 100000 := by have e1 := hch.length; have e2 := (q1).len2; omega
      refine LCg.CompRest.succ ?_
      rintro v9 I9 oI9 C9 oC9 D9 m9 h9 tk9 E9 hv9 hC9 hx9 F9 N9 off9 ne9
      have RX9 := fun oD9 : Obj => RX.comp (oI := oI9) (oC := oC9) (oD := oD9) off9
      have N9' := comp_order N9
      dsimp only [LexV.dict] at N9'
      k_steps
      refine Hold.out ?_
      k_dflt (refine' Con.use (get_token prog w V _ (RX9 _) _ _ _ q2 _ _ _ _ hch hz) ?zB ?zF ?zX ?zN ?zT ?zhk ?zd ?zu ?_)
      case zB => k_asm
      case zF => k_asm
      case zX => k_asm
      case zN => k_asm
      case zT => k_asm
      case zhk => rfl
      case zd => ktr_room
      case zu => ktr_units
      have e0 := hch.length
      have z0 := hz
      intro rr newr hr tkr hpr Fr9 Nr9
      obtain ⟨tv2, items, k, tk, ep, rfl, hch, rfl⟩ := hpr
      dsimp only
      refine LCg.CompEnd.intro Fr9 Nr9 ((V.lf, listOf items.toArray ep) :: (V.ld, V.dict w k tk) :: (I, oI') :: (sd, so) :: XX) comp_sub ⟨off9.1, off9.2.1, off9.2.2⟩ trivial ?_
      have hz : items.length < 100000 := by have e1 := hch.length; have e2 := (q2).len2; omega
      refine LCg.CompRest.succ ?_
      rintro v9 I9 oI9 C9 oC9 D9 m9 h9 tk9 E9 hv9 hC9 hx9 F9 N9 off9 ne9
      have RX9 := fun oD9 : Obj => RX.comp (oI := oI9) (oC := oC9) (oD := oD9) off9
      have N9' := comp_order N9
      dsimp only [LexV.dict] at N9'
      k_steps
      refine Hold.out ?_
      k_dflt (refine' Con.use (get_token prog w V _ (RX9 _) _ _ _ q3 _ _ _ _ hch hz) ?zB ?zF ?zX ?zN ?zT ?zhk ?zd ?zu ?_)
      case zB => k_asm
      case zF => k_asm
      case zX => k_asm
      case zN => k_asm
      case zT => k_asm
      case zhk => rfl
      case zd => ktr_room
      case zu => ktr_units
      have e0 := hch.length
      have z0 := hz
      intro rr newr hr tkr hpr Fr9 Nr9
      obtain ⟨tv3, items, k, tk, ep, rfl, hch, rfl⟩ := hpr
      dsimp only
      refine LCg.CompEnd.intro Fr9 Nr9 ((V.lf, listOf items.toArray ep) :: (V.ld, V.dict w k tk) :: (I, oI') :: (sd, so) :: XX) comp_sub ⟨off9.1, off9.2.1, off9.2.2⟩ trivial ?_
      have hz : items.length < 100000 := by have e1 := hch.length; have e2 := (q3).len2; omega
      k_steps
      refine Hold.out ?_
      rename Fr g' L' _ _ => F1
      rename News g' L' _ ((_, LCg.lst _) :: _) => N1
      simp only [Array.toArray_toList] at N1
      rename_i wl wh0 wtk woff hw1
      obtain ⟨hBa, hBl, hBv⟩ := hB i hlt
      k_dflt (refine' for_go2R ?hE ?hs (LsB w V XX (A i) (B i) g' L' sd rd wl I oI' so items ep k tk tv0 tv1 tv2 tv3 st) ?init2 ?step2)
      case hE => first | passes_own | with_unfolding_all passes_own
      case hs => intro _; rfl
      case init2 =>
        k_steps
        k_dflt (refine' si_start (x := B i) F1 N1 (all_ascii hBa) ?_)
        intro I2 oI2 h9 F9 N9 l9 hI9
        exact Hold.out ⟨I2, _, rfl, 0, 0, _, oI2, _, _, _, rfl, rfl, Nat.zero_le _, F9, N9, hI9, rfl, rfl, rfl, v1, v2, fun p hp => Nat.ne_of_lt (l9 p hp)⟩
      case step2 =>
        rintro I2 n s' ⟨j, acc, ta, oI2, mp2, h2, tks2, rfl, rfl, hj, F2, N2, hI2, rfl, u1, u2, u3, u4, hoff2⟩ Qb Rb hQb hRb
        by_cases hlt2 : j < (B i).cps.toList.length
        · have hc : (B i).cps[j]? = some ((B i).cps.toList[j]) := by simp
          obtain ⟨hc1, hc2⟩ := hBa _ (List.getElem_mem hlt2)
          obtain ⟨ha1, ha2, ha3⟩ := lval_step hBa hBl hlt2
          k_dflt (refine' si_item F2 N2 hoff2 hI2 hc ?_)
          intro oI3 h3 tk3 u5 F3 N3 hI3
          generalize lval (List.take j (B i).cps.toList) = acc at *
          generalize (B i).cps.toList[j] = cj at *
          dsimp only
          k_steps
          rename Fr g' L' _ _ => F4
          rename News g' L' _ _ => N4
          refine Hold.out (hRb _ _ ?_)
          refine WInd.next _ (Nat.sub_lt_sub_left hlt2 (Nat.lt_succ_self _)) ?_
          exact ⟨j + 1, _, _, oI3, _, _, _, rfl, rfl, hlt2, F4, N4, hI3, ha3, rfl, u2, u3, u4, hoff2⟩
        · k_dflt (refine' si_end rfl F2 N2 hoff2 hI2 ?hx ?_)
          case hx => simp; simp at hlt2; omega
          intro h3 F3 N3
          dsimp only
          refine hQb _ ?_
          dsimp only
          have hjl : j = (B i).cps.toList.length := by omega
          subst hjl
          rw [List.take_length, hBv] at u1
          obtain ⟨xr, ur, l0, r0', sg, mid, dd, p0, p1, p2, p4, hval, hrok⟩ := hrep i hlt
          k_steps
          k_dflt (refine' kda_item (o := ro) (kvs := kvs) N3 ?hp hro (strKind_is prog w _ _) hval ?_ (by with_unfolding_all rfl) (by intro _; with_unfolding_all rfl))
          case hp => k_mem
          k_steps
          refine Hold.out ?_
          k_dflt (refine' Con.use (parse229 prog w _ _ _ _ _ _ _ _ _ _ _ _ hrok _ _ _ _ (List.Mem.head _)) ?zB ?zF ?zX ?zN ?zT ?zhk ?zd ?zu ?_)
          case zB => k_asm
          case zF => k_asm
          case zX => k_asm
          case zN => k_asm
          case zT => k_asm
          case zhk => rfl
          case zd => ktr_room
          case zu => ktr_units
          intro rr newr hr tkr hpr Fr9 Nr9
          obtain ⟨rp, tm, rfl, rfl, hrp⟩ := hpr
          dsimp only
          k_steps
          rename Fr g' L' _ _ => F4
          rename News g' L' _ _ => N4
          rename _ ∧ _ ∧ _ ∧ _ ∧ _ ∧ _ ∧ _ ∧ AllLt _ XX => lD
          have N5 := lot_order3 N4
          k_dflt (refine' kda_set F4 N5 (UpdF.head ?U) hso (strKind_is prog w _ _) ?z ?_)
          case U =>
            intro p hp
            simp only [List.mem_cons] at hp
            rcases hp with rfl | rfl | rfl | rfl | hp
            · exact Nat.ne_of_gt lD.2.2.2.2.2.2.1
            · exact Nat.ne_of_gt hsI
            · exact Nat.ne_of_lt hlt7.1
            · exact Nat.ne_of_lt hlt7.2.1
            · exact hXs p hp
          case z => rw [sizeLine_eq, hacc.len]; omega
          intro h5 so5 F5 N6 hso5
          rw [stored_absent (valueAt_none_of_not_mem fun hm => by
            obtain ⟨j, hj, e⟩ := hacc.keys _ hm
            exact hinj j i hj hlt e.symm)] at hso5
          k_steps
          refine Hold.out (hRa _ _ ?_)
          refine WInd.next (4 - (i + 1)) (by omega) ?_
          refine ⟨i + 1, r3, items, ep, k, tk, so5, oI', _, _, _, _, _, rfl, rfl, hlt, F5, lot_order4 (hXX ▸ N6), hI8, hso5, .succ hacc ⟨_, _, _, rfl, rfl⟩, hch, hz, Lt', u3, u4, ?_, hsI⟩
          intro p hp
          rcases List.mem_cons.mp hp with rfl | hp
          · exact ⟨lD.2.2.2.2.2.2.1, Nat.ne_of_gt lD.2.2.2.2.2.1⟩
          · exact htu p hp
    · have hi : i = 4 := by omega
      subst hi
      k_dflt (refine' dk_end rfl F6 N6 ?off hI6 ?hp hka ?hx ?_)
      case off => k_all
      case hp => k_mem
      case hx => exact List.getElem?_eq_none (by omega)
      intro h8 F8 N8
      dsimp only
      refine hQa _ ?_
      dsimp only
      k_steps
      rename News h₀ L _ _ => kN
      refine hret _ _ _ _ ⟨sd, so, kvs9, tups, items, k, tk, ep, rfl, rfl, hso, hacc, lo7, allLt_all l7.2.2.2, fun p hp => (htu p hp).1⟩ (by k_asm) ?_
      exact lot_order5 (hXX ▸ kN)
end

end
section
theorem rs_MFacts : True := by
  w_top off
  trivial
theorem rep_ok (sg : Str) (m : Int) (hs : SgOk sg) (hm : MdOk m) : ∃ left right mid d p0 p1 p2 p4, RepOk (repT sg m) m left right sg mid d p0 p1 p2 p4 := by
  rcases hm with rfl | rfl | rfl | rfl | rfl | rfl
  · rcases hs with rfl | rfl | rfl | rfl <;> exact ⟨10, 16, _, Str.ofString "7", Str.ofString "", Str.ofString "", Str.ofString "", Str.ofString "", by constructor <;> first | rfl | decide +kernel⟩
  · rcases hs with rfl | rfl | rfl | rfl <;> exact ⟨10, 16, _, Str.ofString "8", Str.ofString "", Str.ofString "", Str.ofString "", Str.ofString "", by constructor <;> first | rfl | decide +kernel⟩
  · rcases hs with rfl | rfl | rfl | rfl <;> exact ⟨10, 16, _, Str.ofString "9", Str.ofString "", Str.ofString "", Str.ofString "", Str.ofString "", by constructor <;> first | rfl | decide +kernel⟩
  · rcases hs with rfl | rfl | rfl | rfl <;> exact ⟨10, 17, _, Str.ofString "11", Str.ofString "", Str.ofString "", Str.ofString "", Str.ofString "", by constructor <;> first | rfl | decide +kernel⟩
  · rcases hs with rfl | rfl | rfl | rfl <;> exact ⟨10, 17, _, Str.ofString "13", Str.ofString "", Str.ofString "", Str.ofString "", Str.ofString "", by constructor <;> first | rfl | decide +kernel⟩
  · rcases hs with rfl | rfl | rfl | rfl <;> exact ⟨10, 17, _, Str.ofString "17", Str.ofString "", Str.ofString "", Str.ofString "", Str.ofString "", by constructor <;> first | rfl | decide +kernel⟩

end
section
theorem rs_MDec : True := by
  w_top off
  trivial
section
open PySem.Builtin
theorem find_ascii {b : Array UInt8} {p c : Nat} (h : (b.getD p 0).toNat = c) (hc : c < 128) : _codecs.utf8Decoder.find true b p = .text [c] (p + 1) := by
  have e : Bytes.utf8At b p = (.char c, p + 1) := by
    unfold Bytes.utf8At
    rw [h]
    exact if_pos hc
  unfold _codecs.utf8Decoder
  dsimp only
  rw [e]
  rfl
theorem run_3 {id : String} {b : Array UInt8} {c0 c1 c2 : Nat} (hb : b.size = 3) (h0 : (b.getD 0 0).toNat = c0) (h1 : (b.getD 1 0).toNat = c1) (h2 : (b.getD 2 0).toNat = c2) (k0 : c0 < 128) (k1 : c1 < 128) (k2 : c2 < 128) :
    _codecs.runDecoder id _codecs.utf8Decoder none true b 0 [] = pure (#[c0, c1, c2], 3) := by
  unfold _codecs.runDecoder
  simp only [hb, Std.Legacy.Range.forIn_eq_forIn_range']
  simp [find_ascii h0 k0, find_ascii h1 k1, find_ascii h2 k2, List.range', sizeLine_eq]
theorem run_2 {id : String} {b : Array UInt8} {c0 c1 : Nat} (hb : b.size = 2) (h0 : (b.getD 0 0).toNat = c0) (h1 : (b.getD 1 0).toNat = c1) (k0 : c0 < 128) (k1 : c1 < 128) :
    _codecs.runDecoder id _codecs.utf8Decoder none true b 0 [] = pure (#[c0, c1], 2) := by
  unfold _codecs.runDecoder
  simp only [hb, Std.Legacy.Range.forIn_eq_forIn_range']
  simp [find_ascii h0 k0, find_ascii h1 k1, List.range', sizeLine_eq]
theorem run_1 {id : String} {b : Array UInt8} {c0 : Nat} (hb : b.size = 1) (h0 : (b.getD 0 0).toNat = c0) (k0 : c0 < 128) :
    _codecs.runDecoder id _codecs.utf8Decoder none true b 0 [] = pure (#[c0], 1) := by
  unfold _codecs.runDecoder
  simp only [hb, Std.Legacy.Range.forIn_eq_forIn_range']
  simp [find_ascii h0 k0, List.range', sizeLine_eq]
end
section
open PySem.Builtin
variable {prog : Program} {w : World} {A : Around} {E : Value → Shared → Prop} {s : Shared}
theorem entry_empty {t : Tok} : «bytes.decode» ⟨[.bytes #[] t], []⟩ = (rule "bytes.decode.empty" >>= fun _ => retStr Str.empty >>= fun r => pure r) := by kernel_rfl
theorem meets_empty {t : Tok} : Meets («bytes.decode» ⟨[.bytes #[] t], []⟩) (fun _ R s => ∀ t' k, R (.ok (.ret (.str Str.empty t'))) { s with toks := k }) := by
  refine .of_wp fun prog w A R s h => ?_
  rw [entry_empty]
  exact wpAny_bind (wpAny_rule (wpAny_bind (wpAny_bind (wpAny_mkStr (wpAny_pure (wpAny_pure ⟨_, rfl, h _ _⟩)) (by decide)))))
/-- the text of a number's letters -/
noncomputable def apS (n : Nat) : Str := ⟨((apB 5 n).map UInt8.toNat).toArray⟩
theorem apB_shape {n : Nat} (hn : n < 4096) : apB 5 n = [] ∧ n = 0 ∨ (∃ a, a < 16 ∧ apB 5 n = [UInt8.ofNat (65 + a)]) ∨ (∃ a b, a < 16 ∧ b < 16 ∧ apB 5 n = [UInt8.ofNat (65 + a), UInt8.ofNat (65 + b)]) ∨ ∃ a b c, a < 16 ∧ b < 16 ∧ c < 16 ∧ apB 5 n = [UInt8.ofNat (65 + a), UInt8.ofNat (65 + b), UInt8.ofNat (65 + c)] := by
  unfold apB
  by_cases h0 : n = 0
  · exact .inl ⟨if_pos h0, h0⟩
  rw [if_neg h0]
  unfold apB
  by_cases h1 : n / 16 = 0
  · rw [if_pos h1]
    exact .inr (.inl ⟨n % 16, Nat.mod_lt _ (by decide), rfl⟩)
  rw [if_neg h1]
  unfold apB
  by_cases h2 : n / 16 / 16 = 0
  · rw [if_pos h2]
    exact .inr (.inr (.inl ⟨n / 16 % 16, n % 16, Nat.mod_lt _ (by decide), Nat.mod_lt _ (by decide), rfl⟩))
  rw [if_neg h2]
  have h3 : n / 16 / 16 / 16 = 0 := by omega
  unfold apB
  rw [if_pos h3]
  exact .inr (.inr (.inr ⟨n / 16 / 16 % 16, n / 16 % 16, n % 16, Nat.mod_lt _ (by decide), Nat.mod_lt _ (by decide), Nat.mod_lt _ (by decide), rfl⟩))
theorem letter_nat {a : Nat} (h : a < 16) : (UInt8.ofNat (65 + a)).toNat = 65 + a := by
  rw [UInt8.toNat_ofNat']
  omega
theorem decode_ap {n : Nat} {b : Array UInt8} {t : Tok} {Q : Value → Shared → Prop} (hn : n < 4096) (hb : b.toList = apB 5 n) (h : ∀ t' k, Q (.str (apS n) t') { s with toks := k }) :
    wpAny (model prog w) A (call (.builtin "bytes.decode") [.bytes b t]) Q E s := by
  have hb' : b = (apB 5 n).toArray := by rw [← hb]
  subst hb'
  unfold apS at h
  rcases apB_shape hn with ⟨e, -⟩ | ⟨a, ha, e⟩ | ⟨a, c, ha, hc, e⟩ | ⟨a, c, d, ha, hc, hd, e⟩
  · rw [e] at h ⊢
    exact call_meets FB.slot_bytes_decode (typeIs_bytes _ _ _) FB.entry_bytes_decode (FB.args_bytes_decode_1 _) meets_empty h
  · rw [e] at h ⊢
    refine KBd.decode (x := ⟨#[(UInt8.ofNat (65 + a)).toNat]⟩) (fun id => run_1 rfl rfl ?_) (Nat.le_of_ble_eq_true rfl) h
    rw [letter_nat ha]; omega
  · rw [e] at h ⊢
    refine KBd.decode (x := ⟨#[(UInt8.ofNat (65 + a)).toNat, (UInt8.ofNat (65 + c)).toNat]⟩) (fun id => run_2 rfl rfl rfl ?_ ?_) (Nat.le_of_ble_eq_true rfl) h
    · rw [letter_nat ha]; omega
    · rw [letter_nat hc]; omega
  · rw [e] at h ⊢
    refine KBd.decode (x := ⟨#[(UInt8.ofNat (65 + a)).toNat, (UInt8.ofNat (65 + c)).toNat, (UInt8.ofNat (65 + d)).toNat]⟩) (fun id => run_3 rfl rfl rfl rfl ?_ ?_ ?_) (Nat.le_of_ble_eq_true rfl) h
    · rw [letter_nat ha]; omega
    · rw [letter_nat hc]; omega
    · rw [letter_nat hd]; omega
end

end
section
theorem rs_MQt : True := by
  w_top off
  trivial
section
noncomputable def m8 : List Nat := [109, 97, 99, 104, 105, 110, 101, 32]
noncomputable def p10 : List Nat := [32, 112, 97, 115, 115, 119, 111, 114, 100, 32]
/-- one line of the netrc text: the quoted name's letters, the word's letters -/
noncomputable def lineL (z b : List Nat) : List Nat := m8 ++ (34 :: (z ++ (34 :: (p10 ++ (34 :: (b ++ [34, 10]))))))
noncomputable def textL (q b : Nat → List Nat) : List Nat := lineL (q 0) (b 0) ++ (lineL (q 1) (b 1) ++ (lineL (q 2) (b 2) ++ lineL (q 3) (b 3)))
/-- the names with a backslash ahead of each quote and backslash -/
noncomputable def qn4 (i : Nat) : List Nat := match i with | 0 => [97] | 1 => [98, 32, 99] | 2 => [100, 92, 34] | _ => [92, 92, 101]
theorem four_cases {P : Nat → Prop} (h0 : P 0) (h1 : P 1) (h2 : P 2) (h3 : P 3) : ∀ i, i < 4 → P i := by
  intro i hi
  have : i = 0 ∨ i = 1 ∨ i = 2 ∨ i = 3 := by omega
  rcases this with rfl | rfl | rfl | rfl
  · exact h0
  · exact h1
  · exact h2
  · exact h3
theorem qtok_nm4 {i : Nat} (hi : i < 4) : ∀ X, QTok (qn4 i ++ 34 :: X) (nm4 i).cps.toList X := by
  refine four_cases (P := fun i => ∀ X, QTok (qn4 i ++ 34 :: X) (nm4 i).cps.toList X) ?_ ?_ ?_ ?_ i hi
  · intro X
    rw [show (nm4 0).cps.toList = [97] from by decide +kernel]
    exact .plain _ (by decide) (by decide) (.stop _)
  · intro X
    rw [show (nm4 1).cps.toList = [98, 32, 99] from by decide +kernel]
    exact .plain _ (by decide) (by decide) (.plain _ (by decide) (by decide) (.plain _ (by decide) (by decide) (.stop _)))
  · intro X
    rw [show (nm4 2).cps.toList = [100, 34] from by decide +kernel]
    exact .plain _ (by decide) (by decide) (.esc _ (.stop _))
  · intro X
    rw [show (nm4 3).cps.toList = [92, 101] from by decide +kernel]
    exact .esc _ (.plain _ (by decide) (by decide) (.stop _))
theorem qtok_plain {X : List Nat} : ∀ {l : List Nat}, (∀ c ∈ l, c ≠ 34 ∧ c ≠ 92) → QTok (l ++ 34 :: X) l X
  | [], _ => .stop _
  | c :: l, h => .plain _ (h c (.head _)).1 (h c (.head _)).2 (qtok_plain fun c hc => h c (.tail _ hc))
theorem Lots.skip {A B : Nat → List Nat} {i : Nat} {cs : List Nat} (h : Lots A B i cs) : Lots A B i (10 :: cs) := by
  cases h with
  | done => exact .done _
  | turn hi g0 g1 g2 g3 h => exact .turn hi (.skip _ (by decide) g0) g1 g2 g3 h
theorem tok_machine (X : List Nat) : GTok (m8 ++ X) machineL X := by
  unfold m8 machineL
  refine .plain _ (by decide) (by decide) (by decide) ?_
  refine .plain _ (by decide) (by decide) ?_
  refine .plain _ (by decide) (by decide) ?_
  refine .plain _ (by decide) (by decide) ?_
  refine .plain _ (by decide) (by decide) ?_
  refine .plain _ (by decide) (by decide) ?_
  refine .plain _ (by decide) (by decide) ?_
  exact .stop _ _ (by decide)
theorem tok_password (X : List Nat) : GTok (p10 ++ X) passwordL X := by
  unfold p10 passwordL
  refine .skip _ (by decide) ?_
  refine .plain _ (by decide) (by decide) (by decide) ?_
  refine .plain _ (by decide) (by decide) ?_
  refine .plain _ (by decide) (by decide) ?_
  refine .plain _ (by decide) (by decide) ?_
  refine .plain _ (by decide) (by decide) ?_
  refine .plain _ (by decide) (by decide) ?_
  refine .plain _ (by decide) (by decide) ?_
  refine .plain _ (by decide) (by decide) ?_
  exact .stop _ _ (by decide)
theorem lots_line {A B : Nat → List Nat} {i : Nat} {q X : List Nat} (hi : i < 4) (hq : ∀ X, QTok (q ++ 34 :: X) (A i) X) (hb : ∀ c ∈ B i, c ≠ 34 ∧ c ≠ 92) (h : Lots A B (i + 1) X) : Lots A B i (lineL q (B i) ++ X) := by
  have e : lineL q (B i) ++ X = m8 ++ (34 :: (q ++ (34 :: (p10 ++ (34 :: (B i ++ (34 :: (10 :: X)))))))) := by
    simp only [lineL, List.append_assoc, List.cons_append, List.nil_append]
  rw [e]
  exact .turn hi (tok_machine _) (.quoted (hq _)) (tok_password _) (.quoted (qtok_plain hb)) h.skip
theorem lots_text {A B : Nat → List Nat} {q : Nat → List Nat} (hq : ∀ i, i < 4 → ∀ X, QTok (q i ++ 34 :: X) (A i) X) (hb : ∀ i, i < 4 → ∀ c ∈ B i, c ≠ 34 ∧ c ≠ 92) : Lots A B 0 (textL q B) := by
  have e : textL q B = lineL (q 0) (B 0) ++ (lineL (q 1) (B 1) ++ (lineL (q 2) (B 2) ++ (lineL (q 3) (B 3) ++ []))) := by rw [List.append_nil]; rfl
  rw [e]
  exact lots_line (by decide) (hq 0 (by decide)) (hb 0 (by decide)) (lots_line (by decide) (hq 1 (by decide)) (hb 1 (by decide)) (lots_line (by decide) (hq 2 (by decide)) (hb 2 (by decide)) (lots_line (by decide) (hq 3 (by decide)) (hb 3 (by decide)) (.done _))))
theorem quote_nm4 {i : Nat} (hi : i < 4) : ∃ y z, Txt.replace (nm4 i) (Str.ofString "\\") (Str.ofString "\\\\") = y ∧ Txt.replace y (Str.ofString "\"") (Str.ofString "\\\"") = z ∧ (nm4 i).length ≤ 3 ∧ y.length ≤ 3 ∧ z.length ≤ 3 ∧ z.cps.toList = qn4 i := by
  refine four_cases (P := fun i => ∃ y z, Txt.replace (nm4 i) (Str.ofString "\\") (Str.ofString "\\\\") = y ∧ Txt.replace y (Str.ofString "\"") (Str.ofString "\\\"") = z ∧ (nm4 i).length ≤ 3 ∧ y.length ≤ 3 ∧ z.length ≤ 3 ∧ z.cps.toList = qn4 i) ?_ ?_ ?_ ?_ i hi
  · exact ⟨_, _, rfl, rfl, by decide +kernel⟩
  · exact ⟨_, _, rfl, rfl, by decide +kernel⟩
  · exact ⟨_, _, rfl, rfl, by decide +kernel⟩
  · exact ⟨_, _, rfl, rfl, by decide +kernel⟩
theorem quote_word : ∀ n, n < 17 → Txt.replace (apS n) (Str.ofString "\\") (Str.ofString "\\\\") = apS n ∧ Txt.replace (apS n) (Str.ofString "\"") (Str.ofString "\\\"") = apS n ∧ (apS n).length ≤ 2 := by decide +kernel
theorem word_letters : ∀ n, n < 17 → (∀ c ∈ (apS n).cps.toList, 65 ≤ c ∧ c < 81) ∧ (apS n).cps.toList.length ≤ 5 ∧ lval (apS n).cps.toList = (n : Int) := by decide +kernel
end

end
section
theorem rs_L0 : True := by
  w_top off
  trivial
section
theorem ndrop4 {h₀ h : Heap} {L : Addr} {a b c d : Addr × Obj} {r : List (Addr × Obj)} (N : News h₀ L h (a :: b :: c :: d :: r)) : News h₀ L h (a :: r) := fun p hp => N p (by
  rcases List.mem_cons.mp hp with rfl | hp
  · exact .head _
  · exact .tail _ (.tail _ (.tail _ (.tail _ hp))))
theorem slice_beyond {k : Int} {t0 t1 t2 : Tok} (hk : 3 ≤ k) : (slicePick #[Value.int 9 t0, .int 50 t1, .int 6 t2] (some k) none none).toList = [] := by
  have q := kmk_from (vs := [Value.int 9 t0, .int 50 t1, .int 6 t2]) (ns := [9, 50, 6]) (.cons 9 t0 (.cons 50 t1 (.cons 6 t2 .nil))) (x := k) (by omega)
  rw [List.drop_eq_nil_of_le (by show 3 ≤ _; omega)] at q
  exact List.eq_nil_of_length_eq_zero q.length
local macro_rules | `(tactic| walk_at "call builtin:len") => `(tactic| (k_here; (with_reducible show wpAny _ _ (call (Value.builtin "len") [Value.ref _]) _ _ _); k_dflt (refine' len_list ?a ?b ?_; (case a => exact Fr.lst (by k_asm) (by assumption)); (case b => simp only [List.size_toArray, List.length_cons]; omega))))
local macro_rules | `(tactic| walk_at "subscriptTail Name Slice ref ref") => `(tactic| ((with_reducible show wpAny _ _ (subscriptTail _ (PySem.Expr.Slice (some _) none none _) (Value.ref _) (Value.ref _)) _ _ _); k_dflt (refine' kmk_slice_lit (zs := []) ?F ?N ?l ?p ?q ?e ?_ ?s ?t ?z; (case F => k_asm); (case N => k_asm); (case l => kmk_list); (case p => exact IsPart.int _ _); (case q => exact IsPart.none); (case e => exact slice_beyond (by simp only [List.size_toArray, List.length_cons]; omega)); (case s => with_unfolding_all rfl); (case t => intro _; with_unfolding_all rfl); (case z => exact Nat.le_of_ble_eq_true rfl)); intro D' h' F' N' l1; k_lt l1))
noncomputable def part0 : { st : Stmt // st = lawBody.1.getD 0 default } := by
  have h : lawBody.1.getD 0 default = lawBody.1.getD 0 default := rfl
  conv at h => rhs; whnf
  exact ⟨_, h.symm⟩
theorem law0 {prog : Program} {w : World} {p : Program} {loose : List Str} {mean : ExcName → Option Value} {mg mb : Str → Option Value} {dp un : Nat} {gd : Option (List Code)} {fa : Addr} {cd : Value} {outer : List Env} {A₀ : Around} {base h₀ : Heap} {L c1 c2 c3 c4 ml : Addr} {t0 t1 t2 t3 t4 t5 : Tok} {a b c d x : Int} {oc : Obj} {m : Str → Option Value} {s : Shared}
    {Q : Flow → Shared → Prop} {E : Value → Shared → Prop} (B : Below A₀ base outer h₀) (F : Fr h₀ L s.heap m) (X : (hd.heap_1 w.params).In h₀) {rest : List (Addr × Obj)} (N : News h₀ L s.heap (rest)) (T : Top p loose mean mg mb h₀) (hdp : dp + 400 < recursionLimit) (hun : un + 4000 < cLine) (hE9 : PassesOwn (model prog w) (ktrTop dp un gd (Str.ofString "law") lawScope.1 L fa cd (lawCl c1 c2 c3 c4) outer) (envX (Str.ofString "law") lawScope.1 L fa cd (lawCl c1 c2 c3 c4)) E)
    (sc : Addr) (items : List Value) (ns : List Int) (hl : h₀.IsList sc items.toArray) (hI : IntsAre items ns) (hlen : ns.length ≤ 63) (v0 : m (Str.ofString "script") = some (.ref sc)) (hret : ∀ nu h tk n0 n1 n2 t0 t1 t2 e, Fr h₀ L h (fun z => if z = Str.ofString "numbers" then some (.ref nu) else m z) → News h₀ L h ((nu, listOf #[.int n0 t0, .int n1 t1, .int n2 t2] e) :: rest) → (∀ p ∈ rest, p.1 ≠ nu) → Q .next { s with heap := h, toks := tk }) :
    wpAny (model prog w) (ktrTop dp un gd (Str.ofString "law") lawScope.1 L fa cd (lawCl c1 c2 c3 c4) outer) (exec part0.1 (envX (Str.ofString "law") lawScope.1 L fa cd (lawCl c1 c2 c3 c4))) Q E s := by
  dsimp only [part0, lawScope, lawCl]
  have hlv := hI.length
  cases hI with
  | nil =>
    k_steps
    rename Fr h₀ L _ _ => F1
    rename News h₀ L _ _ => N1
    rename _ ∧ _ ∧ _ ∧ AllLt _ rest => l9
    exact hret _ _ _ _ _ _ _ _ _ _ F1 (ndrop4 N1) fun p hp => Nat.ne_of_lt (allLt_all l9.2.2.2 p hp)
  | cons n0 t0 hI =>
    cases hI with
    | nil =>
      k_steps
      rename Fr h₀ L _ _ => F1
      rename News h₀ L _ _ => N1
      rename _ ∧ _ ∧ _ ∧ AllLt _ rest => l9
      exact hret _ _ _ _ _ _ _ _ _ _ F1 (ndrop4 N1) fun p hp => Nat.ne_of_lt (allLt_all l9.2.2.2 p hp)
    | cons n1 t1 hI =>
      cases hI with
      | nil =>
        k_steps
        rename Fr h₀ L _ _ => F1
        rename News h₀ L _ _ => N1
        rename _ ∧ _ ∧ _ ∧ AllLt _ rest => l9
        exact hret _ _ _ _ _ _ _ _ _ _ F1 (ndrop4 N1) fun p hp => Nat.ne_of_lt (allLt_all l9.2.2.2 p hp)
      | cons n2 t2 hI =>
        simp only [List.length_cons] at hlv hlen
        k_steps
        rename Fr h₀ L _ _ => F1
        rename News h₀ L _ _ => N1
        rename _ ∧ _ ∧ _ ∧ AllLt _ rest => l9
        exact hret _ _ _ _ _ _ _ _ _ _ F1 (ndrop4 N1) fun p hp => Nat.ne_of_lt (allLt_all l9.2.2.2 p hp)
end

end
section
local macro_rules | `(tactic| walk_at "subscriptTail Name Constant ref int") => `(tactic| (k_dflt ((with_reducible show wpAny _ _ (subscriptTail _ _ (Value.ref _) (Value.int _ _)) _ _ _); (refine' li_item ?l ?z ?f ?e ?_ ?hs; (case l => exact News.isList (by k_asm) (by k_mem)); (case z => decide); (case f => decide); (case e => exact rfl); (case hs => with_unfolding_all rfl)))))
section
theorem rs_L1 : True := by
  w_top off
  trivial
section
noncomputable def sixL : List Int := [7, 8, 9, 11, 13, 17]
noncomputable def fives : List (List Int) := (List.range 6).map fun k => sixL.eraseIdx k
noncomputable def modsL : List (List Int) := fives.flatMap fun l => (List.range 5).map fun k => l.eraseIdx k
local macro_rules | `(tactic| walk_at "call builtin:list.pop") => `(tactic| (refine Hold.mk ?_))
section
variable {prog : Program} {w : World} {A : Around} {E : Value → Shared → Prop} {s : Shared} {h₀ : Heap} {L : Addr} {m : Str → Option Value} {rest : List (Addr × Obj)} {Q : Value → Shared → Prop}
theorem pop_six {ml : Addr} {n : Nat} {x : Int} {u t0 t1 t2 t3 t4 t5 : Tok} (F : Fr h₀ L s.heap m) (N : News h₀ L s.heap ((ml, listOf #[.int 7 t0, .int 8 t1, .int 9 t2, .int 11 t3, .int 13 t4, .int 17 t5] n) :: rest)) (hne : ∀ p ∈ rest, p.1 ≠ ml) (h0 : 0 ≤ x) (h6 : x < 6)
    (h : ∀ y h' a b c d e ta tb tc td te, [a, b, c, d, e] ∈ fives → Fr h₀ L h' m → News h₀ L h' ((ml, listOf #[.int a ta, .int b tb, .int c tc, .int d td, .int e te] (n + 1)) :: rest) → Q y { s with heap := h' }) : wpAny (model prog w) A (call (.builtin "list.pop") [.ref ml, .int x u]) Q E s := by
  have : x = 0 ∨ x = 1 ∨ x = 2 ∨ x = 3 ∨ x = 4 ∨ x = 5 := by omega
  rcases this with rfl | rfl | rfl | rfl | rfl | rfl
  · exact kl_popAt (k := 0) F N (by decide) rfl rfl (Upd.head hne) (by rw [sizeLine_eq]; exact Nat.le_of_ble_eq_true rfl) fun h' F' N' => h _ h' _ _ _ _ _ _ _ _ _ _ (by decide) F' N'
  · exact kl_popAt (k := 1) F N (by decide) rfl rfl (Upd.head hne) (by rw [sizeLine_eq]; exact Nat.le_of_ble_eq_true rfl) fun h' F' N' => h _ h' _ _ _ _ _ _ _ _ _ _ (by decide) F' N'
  · exact kl_popAt (k := 2) F N (by decide) rfl rfl (Upd.head hne) (by rw [sizeLine_eq]; exact Nat.le_of_ble_eq_true rfl) fun h' F' N' => h _ h' _ _ _ _ _ _ _ _ _ _ (by decide) F' N'
  · exact kl_popAt (k := 3) F N (by decide) rfl rfl (Upd.head hne) (by rw [sizeLine_eq]; exact Nat.le_of_ble_eq_true rfl) fun h' F' N' => h _ h' _ _ _ _ _ _ _ _ _ _ (by decide) F' N'
  · exact kl_popAt (k := 4) F N (by decide) rfl rfl (Upd.head hne) (by rw [sizeLine_eq]; exact Nat.le_of_ble_eq_true rfl) fun h' F' N' => h _ h' _ _ _ _ _ _ _ _ _ _ (by decide) F' N'
  · exact kl_popAt (k := 5) F N (by decide) rfl rfl (Upd.head hne) (by rw [sizeLine_eq]; exact Nat.le_of_ble_eq_true rfl) fun h' F' N' => h _ h' _ _ _ _ _ _ _ _ _ _ (by decide) F' N'
theorem fives_mods : ∀ l ∈ fives, ∀ k, k < 5 → l.eraseIdx k ∈ modsL := by decide
theorem pop_five {ml : Addr} {n : Nat} {x : Int} {a b c d e : Int} {u t0 t1 t2 t3 t4 : Tok} (hf : [a, b, c, d, e] ∈ fives) (F : Fr h₀ L s.heap m) (N : News h₀ L s.heap ((ml, listOf #[.int a t0, .int b t1, .int c t2, .int d t3, .int e t4] n) :: rest)) (hne : ∀ p ∈ rest, p.1 ≠ ml) (h0 : 0 ≤ x) (h6 : x < 5)
    (h : ∀ y h' a b c d ta tb tc td, [a, b, c, d] ∈ modsL → Fr h₀ L h' m → News h₀ L h' ((ml, listOf #[.int a ta, .int b tb, .int c tc, .int d td] (n + 1)) :: rest) → Q y { s with heap := h' }) : wpAny (model prog w) A (call (.builtin "list.pop") [.ref ml, .int x u]) Q E s := by
  have : x = 0 ∨ x = 1 ∨ x = 2 ∨ x = 3 ∨ x = 4 := by omega
  rcases this with rfl | rfl | rfl | rfl | rfl
  · exact kl_popAt (k := 0) F N (by decide) rfl rfl (Upd.head hne) (by rw [sizeLine_eq]; exact Nat.le_of_ble_eq_true rfl) fun h' F' N' => h _ h' _ _ _ _ _ _ _ _ (fives_mods _ hf 0 (by decide)) F' N'
  · exact kl_popAt (k := 1) F N (by decide) rfl rfl (Upd.head hne) (by rw [sizeLine_eq]; exact Nat.le_of_ble_eq_true rfl) fun h' F' N' => h _ h' _ _ _ _ _ _ _ _ (fives_mods _ hf 1 (by decide)) F' N'
  · exact kl_popAt (k := 2) F N (by decide) rfl rfl (Upd.head hne) (by rw [sizeLine_eq]; exact Nat.le_of_ble_eq_true rfl) fun h' F' N' => h _ h' _ _ _ _ _ _ _ _ (fives_mods _ hf 2 (by decide)) F' N'
  · exact kl_popAt (k := 3) F N (by decide) rfl rfl (Upd.head hne) (by rw [sizeLine_eq]; exact Nat.le_of_ble_eq_true rfl) fun h' F' N' => h _ h' _ _ _ _ _ _ _ _ (fives_mods _ hf 3 (by decide)) F' N'
  · exact kl_popAt (k := 4) F N (by decide) rfl rfl (Upd.head hne) (by rw [sizeLine_eq]; exact Nat.le_of_ble_eq_true rfl) fun h' F' N' => h _ h' _ _ _ _ _ _ _ _ (fives_mods _ hf 4 (by decide)) F' N'
end
noncomputable def part1 : { st : Stmt // st = lawBody.1.getD 1 default } := by
  have h : lawBody.1.getD 1 default = lawBody.1.getD 1 default := rfl
  conv at h => rhs; whnf
  exact ⟨_, h.symm⟩
local macro_rules | `(tactic| walk_at "pad 4") => `(tactic| skip)
theorem law1 {prog : Program} {w : World} {p : Program} {loose : List Str} {mean : ExcName → Option Value} {mg mb : Str → Option Value} {dp un : Nat} {gd : Option (List Code)} {fa : Addr} {cd : Value} {outer : List Env} {A₀ : Around} {base h₀ : Heap} {L c1 c2 c3 c4 ml : Addr} {t0 t1 t2 t3 t4 t5 : Tok} {a b c d x : Int} {oc : Obj} {m : Str → Option Value} {s : Shared}
    {Q : Flow → Shared → Prop} {E : Value → Shared → Prop} (B : Below A₀ base outer h₀) (F : Fr h₀ L s.heap m) (X : (hd.heap_1 w.params).In h₀) {rest : List (Addr × Obj)} (N : News h₀ L s.heap (rest)) (T : Top p loose mean mg mb h₀) (hdp : dp + 400 < recursionLimit) (hun : un + 4000 < cLine) (hE9 : PassesOwn (model prog w) (ktrTop dp un gd (Str.ofString "law") lawScope.1 L fa cd (lawCl c1 c2 c3 c4) outer) (envX (Str.ofString "law") lawScope.1 L fa cd (lawCl c1 c2 c3 c4)) E)
    (hret : ∀ ml h tk t0 t1 t2 t3 t4 t5, Fr h₀ L h (fun z => if z = Str.ofString "moduli" then some (.ref ml) else m z) → News h₀ L h ((ml, listOf #[.int 7 t0, .int 8 t1, .int 9 t2, .int 11 t3, .int 13 t4, .int 17 t5] 0) :: rest) → (∀ p ∈ rest, p.1 ≠ ml) → Q .next { s with heap := h, toks := tk }) :
    wpAny (model prog w) (ktrTop dp un gd (Str.ofString "law") lawScope.1 L fa cd (lawCl c1 c2 c3 c4) outer) (exec part1.1 (envX (Str.ofString "law") lawScope.1 L fa cd (lawCl c1 c2 c3 c4))) Q E s := by
  dsimp only [part1, lawScope, lawCl]
  k_steps
  rename Fr h₀ L _ _ => F1
  rename News h₀ L _ _ => N1
  exact hret _ _ _ _ _ _ _ _ _ F1 N1 (by k_all)
noncomputable def part2 : { st : Stmt // st = lawBody.1.getD 2 default } := by
  have h : lawBody.1.getD 2 default = lawBody.1.getD 2 default := rfl
  conv at h => rhs; whnf
  exact ⟨_, h.symm⟩
theorem law2 {prog : Program} {w : World} {p : Program} {loose : List Str} {mean : ExcName → Option Value} {mg mb : Str → Option Value} {dp un : Nat} {gd : Option (List Code)} {fa : Addr} {cd : Value} {outer : List Env} {A₀ : Around} {base h₀ : Heap} {L c1 c2 c3 c4 ml : Addr} {t0 t1 t2 t3 t4 t5 : Tok} {a b c d x : Int} {oc : Obj} {m : Str → Option Value} {s : Shared}
    {Q : Flow → Shared → Prop} {E : Value → Shared → Prop} (B : Below A₀ base outer h₀) (F : Fr h₀ L s.heap m) (X : (hd.heap_1 w.params).In h₀) {rest : List (Addr × Obj)} (N : News h₀ L s.heap ((ml, listOf #[.int 7 t0, .int 8 t1, .int 9 t2, .int 11 t3, .int 13 t4, .int 17 t5] 0) :: rest)) (T : Top p loose mean mg mb h₀) (hdp : dp + 400 < recursionLimit) (hun : un + 4000 < cLine) (hE9 : PassesOwn (model prog w) (ktrTop dp un gd (Str.ofString "law") lawScope.1 L fa cd (lawCl c1 c2 c3 c4) outer) (envX (Str.ofString "law") lawScope.1 L fa cd (lawCl c1 c2 c3 c4)) E)
    (nu : Addr) (n0 n1 n2 : Int) (k0 k1 k2 : Tok) (e : Nat) (hne : ∀ p ∈ rest, p.1 ≠ ml) (g1 : (nu, listOf #[.int n0 k0, .int n1 k1, .int n2 k2] e) ∈ rest) (v1 : m (Str.ofString "numbers") = some (.ref nu)) (v2 : m (Str.ofString "moduli") = some (.ref ml)) (hret : ∀ h tk a b c d e ta tb tc td te, [a, b, c, d, e] ∈ fives → Fr h₀ L h m → News h₀ L h ((ml, listOf #[.int a ta, .int b tb, .int c tc, .int d td, .int e te] 1) :: rest) → Q .next { s with heap := h, toks := tk }) :
    wpAny (model prog w) (ktrTop dp un gd (Str.ofString "law") lawScope.1 L fa cd (lawCl c1 c2 c3 c4) outer) (exec part2.1 (envX (Str.ofString "law") lawScope.1 L fa cd (lawCl c1 c2 c3 c4))) Q E s := by
  dsimp only [part2, lawScope, lawCl]
  k_steps
  refine Hold.out ?_
  have e0 : n0.fmod 6 = n0 % 6 := Int.fmod_eq_emod_of_nonneg _ (by decide)
  k_dflt (refine' pop_six ?F ?N hne (by omega) (by omega) ?_)
  case F => k_asm
  case N => k_asm
  intro y h' a b c d e ta tb tc td te hf F1 N1
  dsimp only
  k_steps
  exact hret _ _ _ _ _ _ _ _ _ _ _ _ hf F1 N1
noncomputable def part3 : { st : Stmt // st = lawBody.1.getD 3 default } := by
  have h : lawBody.1.getD 3 default = lawBody.1.getD 3 default := rfl
  conv at h => rhs; whnf
  exact ⟨_, h.symm⟩
theorem law3 {prog : Program} {w : World} {p : Program} {loose : List Str} {mean : ExcName → Option Value} {mg mb : Str → Option Value} {dp un : Nat} {gd : Option (List Code)} {fa : Addr} {cd : Value} {outer : List Env} {A₀ : Around} {base h₀ : Heap} {L c1 c2 c3 c4 ml : Addr} {t0 t1 t2 t3 t4 t5 : Tok} {a b c d x : Int} {oc : Obj} {m : Str → Option Value} {s : Shared}
    {Q : Flow → Shared → Prop} {E : Value → Shared → Prop} (B : Below A₀ base outer h₀) (F : Fr h₀ L s.heap m) (X : (hd.heap_1 w.params).In h₀) {rest : List (Addr × Obj)} (N : News h₀ L s.heap ((ml, listOf #[.int a t0, .int b t1, .int c t2, .int d t3, .int x t4] 1) :: rest)) (T : Top p loose mean mg mb h₀) (hdp : dp + 400 < recursionLimit) (hun : un + 4000 < cLine) (hE9 : PassesOwn (model prog w) (ktrTop dp un gd (Str.ofString "law") lawScope.1 L fa cd (lawCl c1 c2 c3 c4) outer) (envX (Str.ofString "law") lawScope.1 L fa cd (lawCl c1 c2 c3 c4)) E)
    (hf : [a, b, c, d, x] ∈ fives) (nu : Addr) (n0 n1 n2 : Int) (k0 k1 k2 : Tok) (e : Nat) (hne : ∀ p ∈ rest, p.1 ≠ ml) (g1 : (nu, listOf #[.int n0 k0, .int n1 k1, .int n2 k2] e) ∈ rest) (v1 : m (Str.ofString "numbers") = some (.ref nu)) (v2 : m (Str.ofString "moduli") = some (.ref ml)) (hret : ∀ h tk a b c d ta tb tc td, [a, b, c, d] ∈ modsL → Fr h₀ L h m → News h₀ L h ((ml, listOf #[.int a ta, .int b tb, .int c tc, .int d td] 2) :: rest) → Q .next { s with heap := h, toks := tk }) :
    wpAny (model prog w) (ktrTop dp un gd (Str.ofString "law") lawScope.1 L fa cd (lawCl c1 c2 c3 c4) outer) (exec part3.1 (envX (Str.ofString "law") lawScope.1 L fa cd (lawCl c1 c2 c3 c4))) Q E s := by
  dsimp only [part3, lawScope, lawCl]
  k_steps
  refine Hold.out ?_
  have e0 : (n0.fdiv 6).fmod 5 = (n0.fdiv 6) % 5 := Int.fmod_eq_emod_of_nonneg _ (by decide)
  k_dflt (refine' pop_five hf ?F ?N hne (by omega) (by omega) ?_)
  case F => k_asm
  case N => k_asm
  intro y h' a b c d ta tb tc td hf F1 N1
  dsimp only
  k_steps
  exact hret _ _ _ _ _ _ _ _ _ _ hf F1 N1
end

end
section
theorem rs_L2 : True := by
  w_top off
  trivial
local macro_rules | `(tactic| walk_at "pad 2.0") => `(tactic| skip)
section
local macro_rules | `(tactic| walk_at "subscriptTail Constant BinOp str int") => `(tactic| (refine Hold.mk ?_))
noncomputable def decMd (m : Int) : Decidable (MdOk m) := by unfold MdOk; infer_instance
/-- what holds of the four moduli -/
noncomputable def ModsP (l : List Int) : Prop := match l with
  | [a, b, c, d] => 7 ≤ a ∧ a < b ∧ b < c ∧ c < d ∧ d ≤ 17 ∧ (0 ≤ a * b ∧ a * b < 200) ∧ (a * b * c < 2000 ∧ 3 * (c * d) + 1 < a * b * c ∧ 0 < c * d ∧ c * d < 300) ∧ (MdOk a ∧ MdOk b ∧ MdOk c ∧ MdOk d) ∧ (Int.gcd a b = 1 ∧ Int.gcd a c = 1 ∧ Int.gcd a d = 1 ∧ Int.gcd b c = 1 ∧ Int.gcd b d = 1 ∧ Int.gcd c d = 1)
  | _ => False
noncomputable def decMods (l : List Int) : Decidable (ModsP l) := by have := decMd; unfold ModsP; split <;> infer_instance
theorem mods_all : ∀ l ∈ modsL, ModsP l := @of_decide_eq_true _ (@List.decidableBAll _ _ decMods _) (by kernel_rfl)
theorem mods_of {a b c d : Int} (h : [a, b, c, d] ∈ modsL) : 7 ≤ a ∧ a < b ∧ b < c ∧ c < d ∧ d ≤ 17 ∧ (0 ≤ a * b ∧ a * b < 200) ∧ (a * b * c < 2000 ∧ 3 * (c * d) + 1 < a * b * c ∧ 0 < c * d ∧ c * d < 300) ∧ (MdOk a ∧ MdOk b ∧ MdOk c ∧ MdOk d) ∧ (Int.gcd a b = 1 ∧ Int.gcd a c = 1 ∧ Int.gcd a d = 1 ∧ Int.gcd b c = 1 ∧ Int.gcd b d = 1 ∧ Int.gcd c d = 1) := mods_all _ h
theorem sign_ok (n : Int) : SgOk (Txt.item "|!#~" ((n.fdiv 4).fmod 4)) := by
  have e : (n.fdiv 4).fmod 4 = (n.fdiv 4) % 4 := Int.fmod_eq_emod_of_nonneg _ (by decide)
  have : (n.fdiv 4).fmod 4 = 0 ∨ (n.fdiv 4).fmod 4 = 1 ∨ (n.fdiv 4).fmod 4 = 2 ∨ (n.fdiv 4).fmod 4 = 3 := by omega
  rcases this with h | h | h | h <;> rw [h]
  · exact .inl rfl
  · exact .inr (.inl rfl)
  · exact .inr (.inr (.inl rfl))
  · exact .inr (.inr (.inr rfl))
noncomputable def part4 : { st : Stmt // st = lawBody.1.getD 4 default } := by
  have h : lawBody.1.getD 4 default = lawBody.1.getD 4 default := rfl
  conv at h => rhs; whnf
  exact ⟨_, h.symm⟩
local macro_rules | `(tactic| walk_at "pad 5") => `(tactic| skip)
theorem law4 {prog : Program} {w : World} {p : Program} {loose : List Str} {mean : ExcName → Option Value} {mg mb : Str → Option Value} {dp un : Nat} {gd : Option (List Code)} {fa : Addr} {cd : Value} {outer : List Env} {A₀ : Around} {base h₀ : Heap} {L c1 c2 c3 c4 ml : Addr} {t0 t1 t2 t3 t4 t5 : Tok} {a b c d x : Int} {oc : Obj} {m : Str → Option Value} {s : Shared}
    {Q : Flow → Shared → Prop} {E : Value → Shared → Prop} (B : Below A₀ base outer h₀) (F : Fr h₀ L s.heap m) (X : (hd.heap_1 w.params).In h₀) {rest : List (Addr × Obj)} (N : News h₀ L s.heap ((c4, oc) :: rest)) (T : Top p loose mean mg mb h₀) (hdp : dp + 400 < recursionLimit) (hun : un + 4000 < cLine) (hE9 : PassesOwn (model prog w) (ktrTop dp un gd (Str.ofString "law") lawScope.1 L fa cd (lawCl c1 c2 c3 c4) outer) (envX (Str.ofString "law") lawScope.1 L fa cd (lawCl c1 c2 c3 c4)) E)
    (hne : ∀ p ∈ rest, p.1 ≠ c4) (hoc : oc.data = .cell none) (g2 : (ml, listOf #[.int a t0, .int b t1, .int c t2, .int d t3] 2) ∈ rest) (v2 : m (Str.ofString "moduli") = some (.ref ml)) (hM : [a, b, c, d] ∈ modsL) (hret : ∀ h tk o t, o.data = .cell (some (.int (c * d) t)) → Fr h₀ L h m → News h₀ L h ((c4, o) :: rest) → Q .next { s with heap := h, toks := tk }) :
    wpAny (model prog w) (ktrTop dp un gd (Str.ofString "law") lawScope.1 L fa cd (lawCl c1 c2 c3 c4) outer) (exec part4.1 (envX (Str.ofString "law") lawScope.1 L fa cd (lawCl c1 c2 c3 c4))) Q E s := by
  dsimp only [part4, lawScope, lawCl]
  obtain ⟨q1, q2, q3, q4, q5, -⟩ := mods_of hM
  k_steps
  rename Fr h₀ L _ _ => F1
  rename News h₀ L _ _ => N1
  rename Obj.data _ = _ => d1
  exact hret _ _ _ _ d1 F1 N1
noncomputable def part5 : { st : Stmt // st = lawBody.1.getD 5 default } := by
  have h : lawBody.1.getD 5 default = lawBody.1.getD 5 default := rfl
  conv at h => rhs; whnf
  exact ⟨_, h.symm⟩
theorem law5 {prog : Program} {w : World} {p : Program} {loose : List Str} {mean : ExcName → Option Value} {mg mb : Str → Option Value} {dp un : Nat} {gd : Option (List Code)} {fa : Addr} {cd : Value} {outer : List Env} {A₀ : Around} {base h₀ : Heap} {L c1 c2 c3 c4 ml : Addr} {t0 t1 t2 t3 t4 t5 : Tok} {a b c d x : Int} {oc : Obj} {m : Str → Option Value} {s : Shared}
    {Q : Flow → Shared → Prop} {E : Value → Shared → Prop} (B : Below A₀ base outer h₀) (F : Fr h₀ L s.heap m) (X : (hd.heap_1 w.params).In h₀) {rest : List (Addr × Obj)} (N : News h₀ L s.heap (rest)) (T : Top p loose mean mg mb h₀) (hdp : dp + 400 < recursionLimit) (hun : un + 4000 < cLine) (hE9 : PassesOwn (model prog w) (ktrTop dp un gd (Str.ofString "law") lawScope.1 L fa cd (lawCl c1 c2 c3 c4) outer) (envX (Str.ofString "law") lawScope.1 L fa cd (lawCl c1 c2 c3 c4)) E)
    (g2 : (ml, listOf #[.int a t0, .int b t1, .int c t2, .int d t3] 2) ∈ rest) (v2 : m (Str.ofString "moduli") = some (.ref ml)) (hM : [a, b, c, d] ∈ modsL) (hret : ∀ h tk t, Fr h₀ L h (fun z => if z = Str.ofString "high" then some (.int (a * b * c) t) else m z) → News h₀ L h rest → Q .next { s with heap := h, toks := tk }) :
    wpAny (model prog w) (ktrTop dp un gd (Str.ofString "law") lawScope.1 L fa cd (lawCl c1 c2 c3 c4) outer) (exec part5.1 (envX (Str.ofString "law") lawScope.1 L fa cd (lawCl c1 c2 c3 c4))) Q E s := by
  dsimp only [part5, lawScope, lawCl]
  obtain ⟨q1, q2, q3, q4, q5, q6, -⟩ := mods_of hM
  k_steps
  rename Fr h₀ L _ _ => F1
  rename News h₀ L _ _ => N1
  exact hret _ _ _ F1 N1
noncomputable def part6 : { st : Stmt // st = lawBody.1.getD 6 default } := by
  have h : lawBody.1.getD 6 default = lawBody.1.getD 6 default := rfl
  conv at h => rhs; whnf
  exact ⟨_, h.symm⟩
theorem law6 {prog : Program} {w : World} {p : Program} {loose : List Str} {mean : ExcName → Option Value} {mg mb : Str → Option Value} {dp un : Nat} {gd : Option (List Code)} {fa : Addr} {cd : Value} {outer : List Env} {A₀ : Around} {base h₀ : Heap} {L c1 c2 c3 c4 ml : Addr} {t0 t1 t2 t3 t4 t5 : Tok} {a b c d x : Int} {oc : Obj} {m : Str → Option Value} {s : Shared}
    {Q : Flow → Shared → Prop} {E : Value → Shared → Prop} (B : Below A₀ base outer h₀) (F : Fr h₀ L s.heap m) (X : (hd.heap_1 w.params).In h₀) {rest : List (Addr × Obj)} (N : News h₀ L s.heap ((c3, oc) :: rest)) (T : Top p loose mean mg mb h₀) (hdp : dp + 400 < recursionLimit) (hun : un + 4000 < cLine) (hE9 : PassesOwn (model prog w) (ktrTop dp un gd (Str.ofString "law") lawScope.1 L fa cd (lawCl c1 c2 c3 c4) outer) (envX (Str.ofString "law") lawScope.1 L fa cd (lawCl c1 c2 c3 c4)) E)
    (lo hi : Int) (ol : Obj) (hne : ∀ p ∈ rest, p.1 ≠ c3) (hoc : oc.data = .cell none) (g4 : (c4, ol) ∈ rest) (hol : ol.data = .cell (some (.int lo t0))) (vh : m (Str.ofString "high") = some (.int hi t1)) (nu : Addr) (n0 n1 n2 : Int) (k0 k1 k2 : Tok) (e : Nat) (g1 : (nu, listOf #[.int n0 k0, .int n1 k1, .int n2 k2] e) ∈ rest) (v1 : m (Str.ofString "numbers") = some (.ref nu)) (hpos : 0 < hi - lo - 1) (hlo : 0 < lo) (hhi : hi < 5000) (hret : ∀ h tk o t, o.data = .cell (some (.int (lo + 1 + n1 % (hi - lo - 1)) t)) → Fr h₀ L h m → News h₀ L h ((c3, o) :: rest) → Q .next { s with heap := h, toks := tk }) :
    wpAny (model prog w) (ktrTop dp un gd (Str.ofString "law") lawScope.1 L fa cd (lawCl c1 c2 c3 c4) outer) (exec part6.1 (envX (Str.ofString "law") lawScope.1 L fa cd (lawCl c1 c2 c3 c4))) Q E s := by
  dsimp only [part6, lawScope, lawCl]
  k_steps
  rename Fr h₀ L _ _ => F1
  rename News h₀ L _ _ => N1
  rename Obj.data _ = _ => d1
  rw [Int.fmod_eq_emod_of_nonneg _ (Int.le_of_lt hpos)] at d1
  exact hret _ _ _ _ d1 F1 N1
noncomputable def part7 : { st : Stmt // st = lawBody.1.getD 7 default } := by
  have h : lawBody.1.getD 7 default = lawBody.1.getD 7 default := rfl
  conv at h => rhs; whnf
  exact ⟨_, h.symm⟩
theorem law7 {prog : Program} {w : World} {p : Program} {loose : List Str} {mean : ExcName → Option Value} {mg mb : Str → Option Value} {dp un : Nat} {gd : Option (List Code)} {fa : Addr} {cd : Value} {outer : List Env} {A₀ : Around} {base h₀ : Heap} {L c1 c2 c3 c4 ml : Addr} {t0 t1 t2 t3 t4 t5 : Tok} {a b c d x : Int} {oc : Obj} {m : Str → Option Value} {s : Shared}
    {Q : Flow → Shared → Prop} {E : Value → Shared → Prop} (B : Below A₀ base outer h₀) (F : Fr h₀ L s.heap m) (X : (hd.heap_1 w.params).In h₀) {rest : List (Addr × Obj)} (N : News h₀ L s.heap (rest)) (T : Top p loose mean mg mb h₀) (hdp : dp + 400 < recursionLimit) (hun : un + 4000 < cLine) (hE9 : PassesOwn (model prog w) (ktrTop dp un gd (Str.ofString "law") lawScope.1 L fa cd (lawCl c1 c2 c3 c4) outer) (envX (Str.ofString "law") lawScope.1 L fa cd (lawCl c1 c2 c3 c4)) E)
    (hret : ∀ nl h tk t0 t1 t2 t3, Fr h₀ L h (fun z => if z = Str.ofString "names" then some (.ref nl) else m z) → News h₀ L h ((nl, listOf #[.str (Str.ofString "a") t0, .str (Str.ofString "b c") t1, .str (Str.ofString "d\"") t2, .str (Str.ofString "\\e") t3] 0) :: rest) → (∀ p ∈ rest, p.1 ≠ nl) → Q .next { s with heap := h, toks := tk }) :
    wpAny (model prog w) (ktrTop dp un gd (Str.ofString "law") lawScope.1 L fa cd (lawCl c1 c2 c3 c4) outer) (exec part7.1 (envX (Str.ofString "law") lawScope.1 L fa cd (lawCl c1 c2 c3 c4))) Q E s := by
  dsimp only [part7, lawScope, lawCl]
  k_steps
  rename Fr h₀ L _ _ => F1
  rename News h₀ L _ _ => N1
  exact hret _ _ _ _ _ _ _ F1 N1 (by k_all)
noncomputable def part8 : { st : Stmt // st = lawBody.1.getD 8 default } := by
  have h : lawBody.1.getD 8 default = lawBody.1.getD 8 default := rfl
  conv at h => rhs; whnf
  exact ⟨_, h.symm⟩
theorem law8 {prog : Program} {w : World} {p : Program} {loose : List Str} {mean : ExcName → Option Value} {mg mb : Str → Option Value} {dp un : Nat} {gd : Option (List Code)} {fa : Addr} {cd : Value} {outer : List Env} {A₀ : Around} {base h₀ : Heap} {L c1 c2 c3 c4 ml : Addr} {t0 t1 t2 t3 t4 t5 : Tok} {a b c d x : Int} {oc : Obj} {m : Str → Option Value} {s : Shared}
    {Q : Flow → Shared → Prop} {E : Value → Shared → Prop} (B : Below A₀ base outer h₀) (F : Fr h₀ L s.heap m) (X : (hd.heap_1 w.params).In h₀) {rest : List (Addr × Obj)} (N : News h₀ L s.heap ((c2, oc) :: rest)) (T : Top p loose mean mg mb h₀) (hdp : dp + 400 < recursionLimit) (hun : un + 4000 < cLine) (hE9 : PassesOwn (model prog w) (ktrTop dp un gd (Str.ofString "law") lawScope.1 L fa cd (lawCl c1 c2 c3 c4) outer) (envX (Str.ofString "law") lawScope.1 L fa cd (lawCl c1 c2 c3 c4)) E)
    (hne : ∀ p ∈ rest, p.1 ≠ c2) (hoc : oc.data = .cell none) (nu : Addr) (n0 n1 n2 : Int) (k0 k1 k2 : Tok) (e : Nat) (g1 : (nu, listOf #[.int n0 k0, .int n1 k1, .int n2 k2] e) ∈ rest) (v1 : m (Str.ofString "numbers") = some (.ref nu)) (hret : ∀ h tk o sg t, SgOk sg → o.data = .cell (some (.str sg t)) → Fr h₀ L h m → News h₀ L h ((c2, o) :: rest) → Q .next { s with heap := h, toks := tk }) :
    wpAny (model prog w) (ktrTop dp un gd (Str.ofString "law") lawScope.1 L fa cd (lawCl c1 c2 c3 c4) outer) (exec part8.1 (envX (Str.ofString "law") lawScope.1 L fa cd (lawCl c1 c2 c3 c4))) Q E s := by
  dsimp only [part8, lawScope, lawCl]
  k_steps
  rename Fr h₀ L _ _ => F1
  rename News h₀ L _ _ => N1
  rename Obj.data _ = _ => d1
  exact hret _ _ _ _ _ (sign_ok _) d1 F1 N1
end

end
section
theorem rs_L10 : True := by
  w_top off
  trivial
section
local macro_rules | `(tactic| walk_at "subscriptTail Name Name ref int") => `(tactic| (refine Hold.mk ?_))
local macro_rules | `(tactic| walk_at "exec For") => `(tactic| (refine Hold.mk ?_))
local macro_rules | `(tactic| walk_at "exec For Name Call cons nil") => `(tactic| (refine Hold.mk ?_))
local macro_rules | `(tactic| walk_at "call ref") => `(tactic| (refine Hold.mk ?_))
local macro_rules | `(tactic| walk_at "call builtin:bytes.decode") => `(tactic| (refine Hold.mk ?_))
local macro_rules | `(tactic| walk_at "binaryOp Add str str") => `(tactic| (k_dflt (refine' addS ?z ?_; (case z => (simp only [Str.length_append]; omega))); intro t' tk'))
local macro_rules | `(tactic| walk_at "inplaceOp Add str str") => `(tactic| (refine Hold.mk ?_))
/-- the texts of the first j lines -/
noncomputable def textP (q b : Nat → List Nat) : Nat → List Nat
  | 0 => []
  | j + 1 => textP q b j ++ lineL (q j) (b j)
theorem textP_four (q b : Nat → List Nat) : textP q b 4 = textL q b := by
  simp only [textP, textL, List.nil_append, List.append_nil, List.append_assoc]
theorem textP_succ (q b : Nat → List Nat) (j : Nat) : textP q b (j + 1) = textP q b j ++ lineL (q j) (b j) := rfl
theorem pick_md {t0 t1 t2 t3 : Tok} {a b c d : Int} {i : Nat} (hi : i < 4) : ∃ t, [Value.int a t0, .int b t1, .int c t2, .int d t3][((i : Nat) : Int).toNat]? = some (.int (md4 a b c d i) t) := by
  have : i = 0 ∨ i = 1 ∨ i = 2 ∨ i = 3 := by omega
  rcases this with rfl | rfl | rfl | rfl <;> exact ⟨_, rfl⟩
theorem pick_nm {u0 u1 u2 u3 : Tok} {i : Nat} (hi : i < 4) : ∃ t, [Value.str (Str.ofString "a") u0, .str (Str.ofString "b c") u1, .str (Str.ofString "d\"") u2, .str (Str.ofString "\\e") u3][((i : Nat) : Int).toNat]? = some (.str (nm4 i) t) := by
  have : i = 0 ∨ i = 1 ∨ i = 2 ∨ i = 3 := by omega
  rcases this with rfl | rfl | rfl | rfl <;> exact ⟨_, rfl⟩
theorem md4_le {a b c d : Int} {i : Nat} (hM : [a, b, c, d] ∈ modsL) (hi : i < 4) : 7 ≤ md4 a b c d i ∧ md4 a b c d i ≤ 17 := by
  obtain ⟨q1, q2, q3, q4, q5, -⟩ := mods_of hM
  have : i = 0 ∨ i = 1 ∨ i = 2 ∨ i = 3 := by omega
  rcases this with rfl | rfl | rfl | rfl
  · show 7 ≤ a ∧ a ≤ 17; omega
  · show 7 ≤ b ∧ b ≤ 17; omega
  · show 7 ≤ c ∧ c ≤ 17; omega
  · show 7 ≤ d ∧ d ≤ 17; omega
theorem line_text {x z b : Str} : (x ++ (((Str.ofString "machine " ++ (Str.ofString "\"" ++ z ++ Str.ofString "\"")) ++ Str.ofString " password ") ++ (Str.ofString "\"" ++ b ++ Str.ofString "\"") ++ Str.ofString "\n")).cps.toList = x.cps.toList ++ lineL z.cps.toList b.cps.toList := by
  have a1 : (Str.ofString "machine ").cps.toList = m8 := by decide +kernel
  have a2 : (Str.ofString "\"").cps.toList = [34] := by decide +kernel
  have a3 : (Str.ofString " password ").cps.toList = p10 := by decide +kernel
  have a4 : (Str.ofString "\n").cps.toList = [10] := by decide +kernel
  simp only [Str.cps_append, Array.toList_append, a1, a2, a3, a4, lineL, List.append_assoc, List.cons_append, List.nil_append]
theorem line_len {x z b : Str} {n : Nat} (hx : x.cps.size ≤ n) (hz : z.length ≤ 3) (hb : b.length ≤ 2) : (x ++ (((Str.ofString "machine " ++ (Str.ofString "\"" ++ z ++ Str.ofString "\"")) ++ Str.ofString " password ") ++ (Str.ofString "\"" ++ b ++ Str.ofString "\"") ++ Str.ofString "\n")).length ≤ n + 29 := by
  have a1 : (Str.ofString "machine ").length = 8 := by decide +kernel
  have a2 : (Str.ofString "\"").length = 1 := by decide +kernel
  have a3 : (Str.ofString " password ").length = 10 := by decide +kernel
  have a4 : (Str.ofString "\n").length = 1 := by decide +kernel
  have hx' : x.length ≤ n := hx
  simp only [Str.length_append, a1, a2, a3, a4]
  omega
noncomputable def part9 : { st : Stmt // st = lawBody.1.getD 9 default } := by
  have h : lawBody.1.getD 9 default = lawBody.1.getD 9 default := rfl
  conv at h => rhs; whnf
  exact ⟨_, h.symm⟩
theorem law9 {prog : Program} {w : World} {p : Program} {loose : List Str} {mean : ExcName → Option Value} {mg mb : Str → Option Value} {dp un : Nat} {gd : Option (List Code)} {fa : Addr} {cd : Value} {outer : List Env} {A₀ : Around} {base h₀ : Heap} {L c1 c2 c3 c4 ml : Addr} {t0 t1 t2 t3 t4 t5 : Tok} {a b c d x : Int} {oc : Obj} {m : Str → Option Value} {s : Shared}
    {Q : Flow → Shared → Prop} {E : Value → Shared → Prop} (B : Below A₀ base outer h₀) (F : Fr h₀ L s.heap m) (X : (hd.heap_1 w.params).In h₀) {rest : List (Addr × Obj)} (N : News h₀ L s.heap (rest)) (T : Top p loose mean mg mb h₀) (hdp : dp + 400 < recursionLimit) (hun : un + 4000 < cLine) (hE9 : PassesOwn (model prog w) (ktrTop dp un gd (Str.ofString "law") lawScope.1 L fa cd (lawCl c1 c2 c3 c4) outer) (envX (Str.ofString "law") lawScope.1 L fa cd (lawCl c1 c2 c3 c4)) E)
    (hret : ∀ h tk t, Fr h₀ L h (fun z => if z = Str.ofString "text" then some (.str (Str.ofString "") t) else m z) → News h₀ L h rest → Q .next { s with heap := h, toks := tk }) :
    wpAny (model prog w) (ktrTop dp un gd (Str.ofString "law") lawScope.1 L fa cd (lawCl c1 c2 c3 c4) outer) (exec part9.1 (envX (Str.ofString "law") lawScope.1 L fa cd (lawCl c1 c2 c3 c4))) Q E s := by
  dsimp only [part9, lawScope, lawCl]
  k_steps
  rename Fr h₀ L _ _ => F1
  rename News h₀ L _ _ => N1
  exact hret _ _ _ F1 N1
inductive TxI (h₀ : Heap) (L : Addr) (rest : List (Addr × Obj)) (s : Shared) (m : Str → Option Value) (r : Nat) (S a b c d : Int) (I : Addr) (n : Nat) (s' : Shared) : Prop
  | mk (j : Nat) (txt : Str) (tt : Tok) (mp : Str → Option Value) (h : Heap) (tks : Nat) (e1 : s' = { s with heap := h, toks := tks }) (e2 : n = 4 - j) (e3 : j ≤ 4) (e4 : Fr h₀ L h mp) (e5 : News h₀ L h ((I, riObj (j : Int) (4 - (j : Int)) 1) :: rest)) (e6 : (∀ p ∈ rest, p.1 ≠ I)) (e7 : txt.cps.toList = textP (fun j => qn4 ((j + r) % 4)) (fun j => (apS ((S % md4 a b c d ((j + r) % 4)).toNat)).cps.toList) j) (e8 : txt.cps.size ≤ 100 * j) (e9 : mp (Str.ofString "text") = some (.str txt tt)) (e10 : (∀ y, y ≠ Str.ofString "k" → y ≠ Str.ofString "place" → y ≠ Str.ofString "word" → y ≠ Str.ofString "text" → mp y = m y))
noncomputable def part10 : { st : Stmt // st = lawBody.1.getD 10 default } := by
  have h : lawBody.1.getD 10 default = lawBody.1.getD 10 default := rfl
  conv at h => rhs; whnf
  exact ⟨_, h.symm⟩
theorem law10 {prog : Program} {w : World} {p : Program} {loose : List Str} {mean : ExcName → Option Value} {mg mb : Str → Option Value} {dp un : Nat} {gd : Option (List Code)} {fa : Addr} {cd : Value} {outer : List Env} {A₀ : Around} {base h₀ : Heap} {L c1 c2 c3 c4 ml : Addr} {t0 t1 t2 t3 t4 t5 : Tok} {a b c d x : Int} {oc : Obj} {m : Str → Option Value} {s : Shared}
    {Q : Flow → Shared → Prop} {E : Value → Shared → Prop} (B : Below A₀ base outer h₀) (F : Fr h₀ L s.heap m) (X : (hd.heap_1 w.params).In h₀) {rest : List (Addr × Obj)} (N : News h₀ L s.heap (rest)) (T : Top p loose mean mg mb h₀) (hdp : dp + 400 < recursionLimit) (hun : un + 4000 < cLine) (hE9 : PassesOwn (model prog w) (ktrTop dp un gd (Str.ofString "law") lawScope.1 L fa cd (lawCl c1 c2 c3 c4) outer) (envX (Str.ofString "law") lawScope.1 L fa cd (lawCl c1 c2 c3 c4)) E)
    (nu nl : Addr) (n0 n1 n2 : Int) (k0 k1 k2 tx u0 u1 u2 u3 ts : Tok) (e : Nat) (os : Obj) (S : Int) (g1 : (nu, listOf #[.int n0 k0, .int n1 k1, .int n2 k2] e) ∈ rest) (g2 : (ml, listOf #[.int a t0, .int b t1, .int c t2, .int d t3] 2) ∈ rest) (g3 : (nl, listOf #[.str (Str.ofString "a") u0, .str (Str.ofString "b c") u1, .str (Str.ofString "d\"") u2, .str (Str.ofString "\\e") u3] 0) ∈ rest) (g4 : (c3, os) ∈ rest) (hos : os.data = .cell (some (.int S ts))) (hM : [a, b, c, d] ∈ modsL) (hS : 0 ≤ S) (hS2 : S < 4096) (r : Nat) (hr : n2 % 4 = r) (v1 : m (Str.ofString "numbers") = some (.ref nu)) (v2 : m (Str.ofString "moduli") = some (.ref ml)) (v3 : m (Str.ofString "names") = some (.ref nl)) (v4 : m (Str.ofString "text") = some (.str (Str.ofString "") tx)) (hret : ∀ h tk mp txt t, txt.cps.toList = textL (fun j => qn4 ((j + r) % 4)) (fun j => (apS ((S % md4 a b c d ((j + r) % 4)).toNat)).cps.toList) → mp (Str.ofString "text") = some (.str txt t) → (∀ y, y ≠ Str.ofString "k" → y ≠ Str.ofString "place" → y ≠ Str.ofString "word" → y ≠ Str.ofString "text" → mp y = m y) → Fr h₀ L h mp → News h₀ L h rest → Q .next { s with heap := h, toks := tk }) :
    wpAny (model prog w) (ktrTop dp un gd (Str.ofString "law") lawScope.1 L fa cd (lawCl c1 c2 c3 c4) outer) (exec part10.1 (envX (Str.ofString "law") lawScope.1 L fa cd (lawCl c1 c2 c3 c4))) Q E s := by
  dsimp only [part10, lawScope, lawCl]
  k_steps
  refine Hold.out ?_
  k_dflt (refine' for_go2R ?hE ?hs (TxI h₀ L rest s m r S a b c d) ?init ?step)
  case hE => exact hE9
  case hs => intro _; rfl
  case init =>
    k_steps
    rename IsRange _ _ _ _ _ _ _ _ => hr5
    rename Fr h₀ L _ _ => F5
    rename News h₀ L _ _ => N5
    refine wpAny_pyIter_range hr5 (by decide) ?_
    exact Hold.out ⟨_, _, rfl, 0, _, _, _, _, _, rfl, rfl, by decide, F5.push _, News.push F5 N5 _ rfl, fun p hp => Nat.ne_of_lt (Heap.lt_size (N5 p hp).1), by rfl, by decide, v4, fun _ _ _ _ _ => rfl⟩
  case step =>
    rintro I n s' ⟨j, txt, tt, mp, h, tks, rfl, rfl, hj, F6, N6, hI, htx, hsz, w4, hmp⟩ Qa Ra hQa hRa
    by_cases hlt : j < 4
    · k_dflt (refine' ri_item F6 N6 hI ?hl ?_)
      case hl => omega
      intro h8 tk8 u8 F8 N8
      have w1 := (hmp (Str.ofString "numbers") (by decide) (by decide) (by decide) (by decide)).trans v1
      have w2 := (hmp (Str.ofString "moduli") (by decide) (by decide) (by decide) (by decide)).trans v2
      have w3 := (hmp (Str.ofString "names") (by decide) (by decide) (by decide) (by decide)).trans v3
      dsimp only
      k_steps
      rename Fr h₀ L _ _ => F1
      rename News h₀ L _ _ => N1
      have hpl : ((j : Int) + n2).fmod 4 = (((j + r) % 4 : Nat) : Int) := by
        rw [Int.fmod_eq_emod_of_nonneg _ (by decide)]; omega
      rw [hpl] at F1
      refine Hold.out ?_
      rw [hpl]
      have hi4 : (j + r) % 4 < 4 := Nat.mod_lt _ (by decide)
      have hlast := textP_succ (fun j => qn4 ((j + r) % 4)) (fun j => (apS ((S % md4 a b c d ((j + r) % 4)).toNat)).cps.toList) j
      rw [← htx] at hlast
      generalize (j + r) % 4 = i at hi4 hlast F1 ⊢
      obtain ⟨tM, eM⟩ := pick_md (t0 := t0) (t1 := t1) (t2 := t2) (t3 := t3) (a := a) (b := b) (c := c) (d := d) hi4
      obtain ⟨tN, eN⟩ := pick_nm (u0 := u0) (u1 := u1) (u2 := u2) (u3 := u3) hi4
      obtain ⟨hM7, hM17⟩ := md4_le hM hi4
      generalize md4 a b c d i = M at hM7 hM17 eM hlast ⊢
      have hSM : S.fmod M = (((S % M).toNat : Nat) : Int) := by
        rw [Int.fmod_eq_emod_of_nonneg _ (by omega), Int.toNat_of_nonneg (Int.emod_nonneg _ (by omega))]
      have hSb : (S % M).toNat < 17 := by
        have := Int.emod_lt_of_pos S (show 0 < M by omega)
        omega
      generalize (S % M).toNat = nn at hSM hSb hlast
      k_dflt (refine' li_item (News.isList N1 (.tail _ g2)) ?z ?f eM ?_ ?hs)
      case z => exact Int.natCast_nonneg _
      case f => omega
      case hs => with_unfolding_all rfl
      k_steps
      rw [hSM]
      refine Hold.out ?_
      k_dflt (refine' Con.use (int2ap prog w nn _ _ (by omega)) ?zB ?zF ?zX ?zN ?zT ?zhk ?zd ?zu ?_)
      case zB => k_asm
      case zF => k_asm
      case zX => k_asm
      case zN => k_asm
      case zT => k_asm
      case zhk => rfl
      case zd => ktr_room
      case zu => ktr_units
      intro r9 new9 h9 tk9 hp9 F9 N9
      obtain ⟨rfl, bb, tb, rfl, hb⟩ := hp9
      dsimp only
      k_steps
      refine Hold.out ?_
      refine decode_ap (by omega) hb ?_
      intro t7 tk7
      dsimp only
      k_steps
      rotate_right 1
      rename Fr h₀ L _ _ => F2
      rename News h₀ L _ _ => N2
      refine Hold.out ?_
      k_dflt (refine' li_item (News.isList N2 (.tail _ g3)) ?z ?f eN ?_ ?hs)
      case z => exact Int.natCast_nonneg _
      case f => omega
      case hs => with_unfolding_all rfl
      obtain ⟨qy, qz, qe1, qe2, ql1, ql2, ql3, qe3⟩ := quote_nm4 hi4
      obtain ⟨we1, we2, wl⟩ := quote_word nn hSb
      have a1 : (Str.ofString "machine ").length = 8 := by decide +kernel
      have a2 : (Str.ofString "\"").length = 1 := by decide +kernel
      have a3 : (Str.ofString " password ").length = 10 := by decide +kernel
      have a4 : (Str.ofString "\n").length = 1 := by decide +kernel
      k_steps
      refine Hold.out ?_
      k_dflt (refine' Con.use (law_quoted prog w _ _ _ _ _ qe1 qe2 (by omega) (by omega) (by omega)) ?zB ?zF ?zX ?zN ?zT ?zhk ?zd ?zu ?_)
      case zB => k_asm
      case zF => k_asm
      case zX => k_asm
      case zN => k_asm
      case zT => k_asm
      case zhk => rfl
      case zd => ktr_room
      case zu => ktr_units
      intro r9 new9 h9 tk9 hp9 F9 N9
      obtain ⟨rfl, ty, rfl⟩ := hp9
      dsimp only
      k_steps
      refine Hold.out ?_
      k_dflt (refine' Con.use (law_quoted prog w _ _ _ _ _ we1 we2 (by omega) (by omega) (by omega)) ?zB ?zF ?zX ?zN ?zT ?zhk ?zd ?zu ?_)
      case zB => k_asm
      case zF => k_asm
      case zX => k_asm
      case zN => k_asm
      case zT => k_asm
      case zhk => rfl
      case zd => ktr_room
      case zu => ktr_units
      intro r9 new9 h9 tk9 hp9 F9 N9
      obtain ⟨rfl, tz, rfl⟩ := hp9
      dsimp only
      k_steps
      refine Hold.out ?_
      have hsz' : txt.length ≤ 100 * j := hsz
      refine iadd_str (fun t9 tk9 => ?_) ?sz
      case sz =>
        rw [sizeLine_eq]
        simp only [Str.length_append, a1, a2, a3, a4]
        omega
      k_steps
      rename Fr h₀ L _ _ => F3
      rename News h₀ L _ _ => N3
      refine Hold.out (hRa _ _ ?_)
      refine WInd.next (4 - (j + 1)) (by omega) ?_
      refine ⟨j + 1, _, _, _, _, _, rfl, rfl, hlt, F3, ?n, hI, (line_text (x := txt) (z := qz) (b := apS nn)).trans ?t, ?z, rfl, ?m⟩
      case n =>
        have e1 : (4 : Int) - ((j + 1 : Nat) : Int) = 4 - (j : Int) - 1 := by omega
        rw [e1]
        exact N3
      case t => rw [qe3]; exact hlast.symm
      case z => exact Nat.le_trans (line_len (x := txt) (z := qz) (b := apS nn) hsz ql3 wl) (by omega)
      case m =>
        intro y y1 y2 y3 y4
        simp only [if_neg y1, if_neg y2, if_neg y3, if_neg y4]
        exact hmp y y1 y2 y3 y4
      all_goals first | exact Str.empty | exact (0 : Nat) | exact Value.none
    · have hj4 : j = 4 := by omega
      subst hj4
      k_dflt (refine' ri_end rfl F6 N6 hI (by decide) ?_)
      intro h8 F8 N8
      exact hQa _ (hret _ _ _ _ _ (htx.trans (textP_four _ _)) w4 hmp F8 N8)
end

end
end
section
theorem rs_L12 : True := by
  w_top off
  trivial
section
local macro_rules | `(tactic| walk_at "call ref") => `(tactic| (refine Hold.mk ?_))
local macro_rules | `(tactic| walk_at "storeName") => `(tactic| (refine Hold.mk ?_))
theorem nm4_inj {i j : Nat} (hi : i < 4) (hj : j < 4) (h : i ≠ j) : nm4 i ≠ nm4 j := by
  rcases Nat.lt_or_gt_of_ne h with h | h
  · exact nm4_ne i j h hj
  · exact fun e => nm4_ne j i h hi e.symm
theorem reply_at {sg : Str} {a b c d : Int} {w0 w1 w2 w3 : Tok} {i : Nat} (hi : i < 4) : ∃ u, valueAt [(nm4 0, Value.str (repT sg a) w0), (nm4 1, .str (repT sg b) w1), (nm4 2, .str (repT sg c) w2), (nm4 3, .str (repT sg d) w3)] (nm4 i) = some (.str (repT sg (md4 a b c d i)) u) := by
  have : i = 0 ∨ i = 1 ∨ i = 2 ∨ i = 3 := by omega
  rcases this with rfl | rfl | rfl | rfl <;> exact ⟨_, rfl⟩
theorem md4_ok {a b c d : Int} {i : Nat} (hM : [a, b, c, d] ∈ modsL) (hi : i < 4) : MdOk (md4 a b c d i) := by
  obtain ⟨-, -, -, -, -, -, -, ⟨q1, q2, q3, q4⟩, -⟩ := mods_of hM
  have : i = 0 ∨ i = 1 ∨ i = 2 ∨ i = 3 := by omega
  rcases this with rfl | rfl | rfl | rfl
  · exact q1
  · exact q2
  · exact q3
  · exact q4
theorem share_nat {S : Int} {a b c d : Int} {i : Nat} (hM : [a, b, c, d] ∈ modsL) (hi : i < 4) : (S % md4 a b c d i).toNat < 17 ∧ (((S % md4 a b c d i).toNat : Nat) : Int) = S % md4 a b c d i := by
  obtain ⟨h1, h2⟩ := md4_le hM hi
  have h3 := Int.emod_lt_of_pos S (show 0 < md4 a b c d i by omega)
  have h4 := Int.emod_nonneg S (show md4 a b c d i ≠ 0 by omega)
  omega
noncomputable def part12 : { st : Stmt // st = lawBody.1.getD 12 default } := by
  have h : lawBody.1.getD 12 default = lawBody.1.getD 12 default := rfl
  conv at h => rhs; whnf
  exact ⟨_, h.symm⟩
theorem law12 {prog : Program} {w : World} {p : Program} {loose : List Str} {mean : ExcName → Option Value} {mg mb : Str → Option Value} {dp un : Nat} {gd : Option (List Code)} {fa : Addr} {cd : Value} {outer : List Env} {A₀ : Around} {base h₀ : Heap} {L c1 c2 c3 c4 ml : Addr} {t0 t1 t2 t3 t4 t5 : Tok} {a b c d x : Int} {oc : Obj} {m : Str → Option Value} {s : Shared}
    {Q : Flow → Shared → Prop} {E : Value → Shared → Prop} (B : Below A₀ base outer h₀) (F : Fr h₀ L s.heap m) (X : (hd.heap_1 w.params).In h₀) {rest : List (Addr × Obj)} (N : News h₀ L s.heap ((158, tabObj #[]) :: (c1, oc) :: rest)) (T : Top p loose mean mg mb h₀) (hdp : dp + 400 < recursionLimit) (hun : un + 4000 < cLine) (hE9 : PassesOwn (model prog w) (ktrTop dp un gd (Str.ofString "law") lawScope.1 L fa cd (lawCl c1 c2 c3 c4) outer) (envX (Str.ofString "law") lawScope.1 L fa cd (lawCl c1 c2 c3 c4)) E)
    (hoc : oc.data = .cell none) (rd : Addr) (ro : Obj) (txt : Str) (tx : Tok) (sg : Str) (w0 w1 w2 w3 : Tok) (r : Nat) (S : Int) (hM : [a, b, c, d] ∈ modsL) (hsg : SgOk sg) (hrd : (rd, ro) ∈ rest) (hro : ro.IsDictOf (strKind prog w) [(nm4 0, .str (repT sg a) w0), (nm4 1, .str (repT sg b) w1), (nm4 2, .str (repT sg c) w2), (nm4 3, .str (repT sg d) w3)]) (lo : (rd == sysModules) = false) (v1 : m (Str.ofString "text") = some (.str txt tx)) (v2 : m (Str.ofString "replies") = some (.ref rd)) (htx : txt.cps.toList = textL (fun j => qn4 ((j + r) % 4)) (fun j => (apS ((S % md4 a b c d ((j + r) % 4)).toNat)).cps.toList)) (hx : txt.cps.size ≤ 1000) (hne : ∀ p ∈ (c1, oc) :: rest, p.1 ≠ 158) (hne1 : ∀ p ∈ rest, p.1 ≠ c1) (hret : ∀ h tk o1 sd so kvs9 tups ps, o1.data = .cell (some (.ref sd)) → Fr h₀ L h m → News h₀ L h ((c1, o1) :: (sd, so) :: (158, tabObj ps) :: (tups ++ rest)) → so.IsDictOf (strKind prog w) kvs9 → DAcc (fun j => nm4 ((j + r) % 4)) (fun i vv new1 => ∃ x t1 t2, vv = Value.ref x ∧ new1 = [(x, tup2 (.int (S % md4 a b c d ((i + r) % 4)) t1) (.int (md4 a b c d ((i + r) % 4)) t2))]) 4 kvs9 tups → (sd == sysModules) = false → Q .next { s with heap := h, toks := tk }) :
    wpAny (model prog w) (ktrTop dp un gd (Str.ofString "law") lawScope.1 L fa cd (lawCl c1 c2 c3 c4) outer) (exec part12.1 (envX (Str.ofString "law") lawScope.1 L fa cd (lawCl c1 c2 c3 c4))) Q E s := by
  dsimp only [part12, lawScope, lawCl]
  have mod4 : ∀ j : Nat, (j + r) % 4 < 4 := fun j => Nat.mod_lt _ (by decide)
  k_steps
  refine Hold.out ?_
  k_dflt (refine' Con.use (law_lexer prog w txt tx _ hne hx) ?zB ?zF ?zX ?zN ?zT ?zhk ?zd ?zu ?_)
  case zB => k_asm
  case zF => k_asm
  case zX => k_asm
  case zN => k_asm
  case zT => k_asm
  case zhk => rfl
  case zd => ktr_room
  case zu => ktr_units
  intro r9 new9 h9 tk9 hp9 F9 N9
  obtain ⟨V, items, ep, k, tk, rest', rfl, hch, RX, rfl, hsub, ps, hps⟩ := hp9
  try dsimp only
  k_steps
  refine Hold.out ?_
  have Lt : Lots (fun i => (nm4 ((i + r) % 4)).cps.toList) (fun i => (apS ((S % md4 a b c d ((i + r) % 4)).toNat)).cps.toList) 0 txt.cps.toList := by
    rw [htx]
    refine lots_text (fun i hi X => qtok_nm4 (mod4 i) X) (fun i hi c hc => ?_)
    have q := (word_letters _ (share_nat (S := S) hM (mod4 i)).1).1 c hc
    omega
  have hz : items.length < 100000 := by
    rw [hch.length, Array.length_toList]
    omega
  k_dflt (refine' Con.use (law_shares prog w V rest' RX (fun j => nm4 ((j + r) % 4)) (fun j => apS ((S % md4 a b c d ((j + r) % 4)).toNat)) (fun j => S % md4 a b c d ((j + r) % 4)) (fun j => md4 a b c d ((j + r) % 4)) _ Lt items ep k tk hch hz rd ro _ (hsub _ (.tail _ hrd)) hro lo rfl ?hrep ?hinj ?hB) ?zB ?zF ?zX ?zN ?zT ?zhk ?zd ?zu ?_)
  case zB => k_asm
  case zF => k_asm
  case zX => k_asm
  case zN => k_asm
  case zT => k_asm
  case zhk => rfl
  case zd => ktr_room
  case zu => ktr_units
  case hrep =>
    intro i hi
    obtain ⟨u, hu⟩ := reply_at (sg := sg) (a := a) (b := b) (c := c) (d := d) (w0 := w0) (w1 := w1) (w2 := w2) (w3 := w3) (mod4 i)
    obtain ⟨left, right, mid, dd, p0, p1, p2, p4, ho⟩ := rep_ok sg _ hsg (md4_ok hM (mod4 i))
    exact ⟨_, u, left, right, sg, mid, dd, p0, p1, p2, p4, hu, ho⟩
  case hinj => exact fun i j hij hj => nm4_inj (mod4 i) (mod4 j) (by omega)
  case hB =>
    intro i hi
    obtain ⟨q1, q2, q3⟩ := word_letters _ (share_nat (S := S) hM (mod4 i)).1
    exact ⟨q1, q2, q3.trans (share_nat hM (mod4 i)).2⟩
  intro r9 new9 h9 tk9 hp9 F9 N9
  obtain ⟨sd, so, kvs9, tups, items', k', tk', ep', rfl, rfl, hso, hacc, lo9, l1, l2⟩ := hp9
  try dsimp only
  k_steps
  refine Hold.out ?_
  have hc1 : (c1, oc) ∈ rest' := hsub _ (.head _)
  have N10 : News h₀ L h9 ((c1, oc) :: (sd, so) :: (158, tabObj ps) :: (tups ++ rest)) := fun p hp => N9 p (by
    simp only [List.mem_cons, List.mem_append] at hp ⊢
    rcases hp with rfl | rfl | rfl | hp | hp
    · exact .inr (.inr (.inr (.inr hc1)))
    · exact .inl rfl
    · exact .inr (.inr (.inr (.inr hps)))
    · exact .inr (.inr (.inr (.inl hp)))
    · exact .inr (.inr (.inr (.inr (hsub _ (.tail _ hp))))))
  have hcs : @LT.lt Nat _ c1 sd := l1 _ hc1
  k_dflt (refine' storeX_C F9 N10 ?c (UpdF.head ?U) hoc ?_ ?a ?b)
  case a => rfl
  case b => rfl
  case c => rfl
  case U =>
    intro p hp
    simp only [List.mem_cons, List.mem_append] at hp
    rcases hp with rfl | rfl | hp | hp
    · exact Nat.ne_of_gt hcs
    · exact (hne _ (.head _)).symm
    · exact Nat.ne_of_gt (Nat.lt_trans hcs (l2 p hp))
    · exact hne1 p hp
  intro h' o' F' N' d'
  k_steps
  exact hret _ _ _ _ _ _ _ _ d' F' N' hso hacc lo9
end

end
section
theorem rs_L13 : True := by
  w_top off
  trivial
section
local macro_rules | `(tactic| walk_at "call type:zip") => `(tactic| (refine Hold.mk ?_))
local macro_rules | `(tactic| walk_at "eval DictComp") => `(tactic| (refine Hold.mk ?_))
local macro_rules | `(tactic| walk_at "compareOp NotEq ref ref") => `(tactic| (refine Hold.mk ?_))
theorem tup_eq {A : Around} {s : Shared} {x y : Addr} {f p : Int} {t1 t2 u1 u2 : Tok} (hx : s.heap.get? x = some (tup2 (.int f t1) (.int p t2))) (hy : s.heap.get? y = some (tup2 (.int f u1) (.int p u2))) (hu : A.in1.units + 64 < cLine) : SeqAt.EqAt A.in1 s (.ref x) (.ref y) true := by
  have q := keq_at (A := A) (Reads.tuple hx rfl rfl (.cons (.int f t1) (.cons (.int p t2) .nil))) (Reads.tuple hy rfl rfl (.cons (.int f u1) (.cons (.int p u2) .nil))) rfl rfl hu
  have e : PyData.eqv (.tuple [.int f, .int p]) (.tuple [.int f, .int p]) = true := by simp [PyData.eqv, PyData.eqvAll]
  rw [e] at q
  exact q
noncomputable def part13 : { st : Stmt // st = lawBody.1.getD 13 default } := by
  have h : lawBody.1.getD 13 default = lawBody.1.getD 13 default := rfl
  conv at h => rhs; whnf
  exact ⟨_, h.symm⟩
theorem law13 {prog : Program} {w : World} {p : Program} {loose : List Str} {mean : ExcName → Option Value} {mg mb : Str → Option Value} {dp un : Nat} {gd : Option (List Code)} {fa : Addr} {cd : Value} {outer : List Env} {A₀ : Around} {base h₀ : Heap} {L c1 c2 c3 c4 ml : Addr} {t0 t1 t2 t3 t4 t5 : Tok} {a b c d x : Int} {oc : Obj} {m : Str → Option Value} {s : Shared}
    {Q : Flow → Shared → Prop} {E : Value → Shared → Prop} (B : Below A₀ base outer h₀) (F : Fr h₀ L s.heap m) (X : (hd.heap_1 w.params).In h₀) {rest : List (Addr × Obj)} (N : News h₀ L s.heap (rest)) (T : Top p loose mean mg mb h₀) (hdp : dp + 400 < recursionLimit) (hun : un + 4000 < cLine) (hE9 : PassesOwn (model prog w) (ktrTop dp un gd (Str.ofString "law") lawScope.1 L fa cd (lawCl c1 c2 c3 c4) outer) (envX (Str.ofString "law") lawScope.1 L fa cd (lawCl c1 c2 c3 c4)) E)
    (nl sd : Addr) (so o1 os : Obj) (kvs9 : List (Str × Value)) (tups : List (Addr × Obj)) (S : Int) (u0 u1 u2 u3 ts : Tok) (r : Nat) (hM : [a, b, c, d] ∈ modsL) (v1 : m (Str.ofString "names") = some (.ref nl)) (v2 : m (Str.ofString "moduli") = some (.ref ml)) (g1 : (nl, listOf #[.str (Str.ofString "a") u0, .str (Str.ofString "b c") u1, .str (Str.ofString "d\"") u2, .str (Str.ofString "\\e") u3] 0) ∈ rest) (g2 : (ml, listOf #[.int a t0, .int b t1, .int c t2, .int d t3] 2) ∈ rest) (g3 : (c1, o1) ∈ rest) (ho1 : o1.data = .cell (some (.ref sd))) (g4 : (c3, os) ∈ rest) (hos : os.data = .cell (some (.int S ts))) (g5 : (sd, so) ∈ rest) (hso : so.IsDictOf (strKind prog w) kvs9) (hta : ∀ p ∈ tups, p ∈ rest) (hacc : DAcc (fun j => nm4 ((j + r) % 4)) (fun i vv new1 => ∃ x t1 t2, vv = Value.ref x ∧ new1 = [(x, tup2 (.int (S % md4 a b c d ((i + r) % 4)) t1) (.int (md4 a b c d ((i + r) % 4)) t2))]) 4 kvs9 tups) (lo : (sd == sysModules) = false) (hret : ∀ h tk, Fr h₀ L h m → News h₀ L h rest → Q .next { s with heap := h, toks := tk }) :
    wpAny (model prog w) (ktrTop dp un gd (Str.ofString "law") lawScope.1 L fa cd (lawCl c1 c2 c3 c4) outer) (exec part13.1 (envX (Str.ofString "law") lawScope.1 L fa cd (lawCl c1 c2 c3 c4))) Q E s := by
  dsimp only [part13, lawScope, lawCl]
  k_steps
  refine Hold.out ?_
  k_dflt (refine' dcz_eval (m := m) (h₀ := h₀) (L := L) (news := rest) (K := nm4) (P := fun i vv new1 => ∃ x t1 t2, vv = Value.ref x ∧ new1 = [(x, tup2 (.int (S % md4 a b c d i) t1) (.int (md4 a b c d i) t2))]) (xs := [.str (Str.ofString "a") u0, .str (Str.ofString "b c") u1, .str (Str.ofString "d\"") u2, .str (Str.ofString "\\e") u3]) (ys := [.int a t0, .int b t1, .int c t2, .int d t3]) rfl (modules_low T.nolimit) ?clos ?cell ?kind ?names ?xa ?xb ?ab ?hs ?h)
  case clos => with_unfolding_all rfl
  case cell => decide
  case kind => rfl
  case names => decide
  case xa => rfl
  case xb => rfl
  case ab => decide
  case hs => intro _; rfl
  case h =>
    k_steps
    refine Hold.out ?_
    k_dflt (refine' zip_K (n1 := 0) (n2 := 2) F N g1 g2 ?_)
    intro z TI TO i1 i2 h' D0 zf F' N' hZ
    refine Hold.out ⟨⟨⟨z, TI, TO, i1, i2, _, _, _, _, rfl, D0, zf, g1, g2, hZ⟩, ⟨rfl, by show 4 ≤ 1000; decide⟩, F', N', nm4_ne, ?_⟩, ?_⟩
    · intro i x y C mm oC h tk nw rs E' hi hx hy hoC hxa hxb Fh Nh hsub
      obtain ⟨q1, q2, q3, q4⟩ := (mods_of hM).2.2.2.2.2.2.2.1
      obtain ⟨mi, ti, tx, rfl, rfl, hmi, hmk⟩ := pick4 (n0 := u0) (n1 := u1) (n2 := u2) (n3 := u3) hi q1 q2 q3 q4 hx hy
      have g4' : (c3, os) ∈ rs := hsub _ (List.mem_append_right _ g4)
      obtain ⟨h7, h17⟩ := md4_le hM hi
      rw [← hmi] at h7 h17
      k_steps
      rename Fr h₀ L _ _ => F1
      rename News h₀ L _ _ => N1
      rename _ ∧ AllLt _ rs => l9
      rw [Int.fmod_eq_emod_of_nonneg _ (by omega)] at N1
      subst hmi
      refine Hold.out ⟨_, _, [(_, _)], rfl, F1, N1, ?_, strKind_is prog w _ _, _, _, _, rfl, rfl⟩
      intro p hp q hq
      obtain rfl := List.mem_singleton.mp hp
      rcases List.mem_cons.mp hq with rfl | hq
      · exact Nat.ne_of_lt l9.1
      · exact Nat.ne_of_lt (allLt_all l9.2 _ hq)
    · intro D h tk oD kvs nw Fh Nh hD hA offD lo2
      obtain ⟨v0, v1', v2', v3, n0, n1, n2, n3, ⟨x0, s0, r0, rfl, rfl⟩, ⟨x1, s1, r1, rfl, rfl⟩, ⟨x2, s2, r2, rfl, rfl⟩, ⟨x3, s3, r3, rfl, rfl⟩, rfl, rfl⟩ := DAcc.four hacc
      obtain ⟨w0, w1, w2, w3, n0, n1, n2, n3, ⟨y0, z0, q0, rfl, rfl⟩, ⟨y1, z1, q1, rfl, rfl⟩, ⟨y2, z2, q2, rfl, rfl⟩, ⟨y3, z3, q3, rfl, rfl⟩, rfl, rfl⟩ := DAcc.four hA
      have hyy : ∀ k, k < 4 → ∃ y t1 t2, valueAt [(nm4 0, Value.ref y0), (nm4 1, .ref y1), (nm4 2, .ref y2), (nm4 3, .ref y3)] (nm4 k) = some (.ref y) ∧ h.get? y = some (tup2 (.int (S % md4 a b c d k) t1) (.int (md4 a b c d k) t2)) := by
        intro k hk
        have : k = 0 ∨ k = 1 ∨ k = 2 ∨ k = 3 := by omega
        rcases this with rfl | rfl | rfl | rfl
        · exact ⟨y0, _, _, rfl, (Nh (y0, _) (by simp; exact .inr (.inr (.inr (.inr (.inl ⟨rfl, rfl⟩))))) ).1⟩
        · exact ⟨y1, _, _, rfl, (Nh (y1, _) (by simp; exact .inr (.inr (.inr (.inl ⟨rfl, rfl⟩)))) ).1⟩
        · exact ⟨y2, _, _, rfl, (Nh (y2, _) (by simp; exact .inr (.inr (.inl ⟨rfl, rfl⟩))) ).1⟩
        · exact ⟨y3, _, _, rfl, (Nh (y3, _) (by simp; exact .inr (.inl ⟨rfl, rfl⟩)) ).1⟩
      have hxx : ∀ p ∈ [(x3, tup2 (.int (S % md4 a b c d ((3 + r) % 4)) s3) (.int (md4 a b c d ((3 + r) % 4)) r3)), (x2, tup2 (.int (S % md4 a b c d ((2 + r) % 4)) s2) (.int (md4 a b c d ((2 + r) % 4)) r2)), (x1, tup2 (.int (S % md4 a b c d ((1 + r) % 4)) s1) (.int (md4 a b c d ((1 + r) % 4)) r1)), (x0, tup2 (.int (S % md4 a b c d ((0 + r) % 4)) s0) (.int (md4 a b c d ((0 + r) % 4)) r0))], h.get? p.1 = some p.2 := fun p hp => (Nh p (.tail _ (List.mem_append_right _ (hta p hp)))).1
      have hit : ∀ (i : Nat) (x : Addr) (t1 t2 : Tok) (rr : List (Str × Value)), h.get? x = some (tup2 (.int (S % md4 a b c d ((i + r) % 4)) t1) (.int (md4 a b c d ((i + r) % 4)) t2)) → KeqHits (ktrTop dp un gd (Str.ofString "law") lawScope.1 L fa cd (lawCl c1 c2 c3 c4) outer).in1 { s with heap := h, toks := tk } [(nm4 0, Value.ref y0), (nm4 1, .ref y1), (nm4 2, .ref y2), (nm4 3, .ref y3)] rr true → KeqHits (ktrTop dp un gd (Str.ofString "law") lawScope.1 L fa cd (lawCl c1 c2 c3 c4) outer).in1 { s with heap := h, toks := tk } [(nm4 0, Value.ref y0), (nm4 1, .ref y1), (nm4 2, .ref y2), (nm4 3, .ref y3)] ((nm4 ((i + r) % 4), .ref x) :: rr) true := by
        intro i x t1 t2 rr hx hr
        obtain ⟨y, u1, u2, hv, hy⟩ := hyy ((i + r) % 4) (Nat.mod_lt _ (by decide))
        exact KeqHits.hit (e := true) (b := true) hv (tup_eq hx hy (by ktr_units)) hr
      k_dflt (refine' keq_ne (r := true) (knd := strKind prog w) lo lo2 ?da ?db ?hu (fun _ => ?hits) ?_)
      case da => exact kda_dict Nh (.tail _ (List.mem_append_right _ g5)) hso
      case db => exact kda_dict Nh (.head _) hD
      case hu => ktr_units
      case hits => exact hit 0 x0 _ _ _ (hxx _ (.tail _ (.tail _ (.tail _ (.head _))))) (hit 1 x1 _ _ _ (hxx _ (.tail _ (.tail _ (.head _)))) (hit 2 x2 _ _ _ (hxx _ (.tail _ (.head _))) (hit 3 x3 _ _ _ (hxx _ (.head _)) .nil)))
      have N7 : News h₀ L h rest := fun p hp => Nh p (.tail _ (List.mem_append_right _ hp))
      clear Nh
      dsimp only
      change wpAny _ _ (truthy (Value.bool false)) _ _ _
      k_steps
      exact hret _ _ Fh N7
end

end
section
theorem rs_L15 : True := by
  w_top off
  trivial
section
local macro_rules | `(tactic| walk_at "call builtin:str.lstrip") => `(tactic| (refine Hold.mk ?_))
local macro_rules | `(tactic| walk_at "call builtin:str.join") => `(tactic| (refine Hold.mk ?_))
local macro_rules | `(tactic| walk_at "CompSrc") => `(tactic| (refine Hold.mk ?_))
local macro_rules | `(tactic| walk_at "subscriptTail Name Name ref str") => `(tactic| (k_dflt (refine' kda_item (knd := PySem.strKind _ _) ?N ?m ?d (strKind_is _ _ _ _) ?v ?_ (by with_unfolding_all rfl) (by intro _; with_unfolding_all rfl); (case N => k_asm); (case m => k_mem); (case d => k_asm); (case v => with_reducible assumption))))
theorem off1_all {D : Addr} : ∀ {l : List (Addr × Obj)}, LCg.Off1 D l → ∀ p ∈ l, p.1 ≠ D
  | [], _, _, hp => nomatch hp
  | q :: r, h, p, hp => by
    rcases List.mem_cons.mp hp with rfl | hp
    · exact h.1
    · exact off1_all h.2 p hp
noncomputable def part15 : { st : Stmt // st = lawBody.1.getD 15 default } := by
  have h : lawBody.1.getD 15 default = lawBody.1.getD 15 default := rfl
  conv at h => rhs; whnf
  exact ⟨_, h.symm⟩
theorem law15 {prog : Program} {w : World} {p : Program} {loose : List Str} {mean : ExcName → Option Value} {mg mb : Str → Option Value} {dp un : Nat} {gd : Option (List Code)} {fa : Addr} {cd : Value} {outer : List Env} {A₀ : Around} {base h₀ : Heap} {L c1 c2 c3 c4 ml : Addr} {t0 t1 t2 t3 t4 t5 : Tok} {a b c d x : Int} {oc : Obj} {m : Str → Option Value} {s : Shared}
    {Q : Flow → Shared → Prop} {E : Value → Shared → Prop} (B : Below A₀ base outer h₀) (F : Fr h₀ L s.heap m) (X : (hd.heap_1 w.params).In h₀) {rest : List (Addr × Obj)} (N : News h₀ L s.heap (rest)) (T : Top p loose mean mg mb h₀) (hdp : dp + 400 < recursionLimit) (hun : un + 4000 < cLine) (hE9 : PassesOwn (model prog w) (ktrTop dp un gd (Str.ofString "law") lawScope.1 L fa cd (lawCl c1 c2 c3 c4) outer) (envX (Str.ofString "law") lawScope.1 L fa cd (lawCl c1 c2 c3 c4)) E)
    (nl sd : Addr) (so o1 : Obj) (kvs9 : List (Str × Value)) (u0 u1 u2 u3 : Tok) (v1 : m (Str.ofString "names") = some (.ref nl)) (g1 : (nl, listOf #[.str (Str.ofString "a") u0, .str (Str.ofString "b c") u1, .str (Str.ofString "d\"") u2, .str (Str.ofString "\\e") u3] 0) ∈ rest) (g3 : (c1, o1) ∈ rest) (ho1 : o1.data = .cell (some (.ref sd))) (g5 : (sd, so) ∈ rest) (hso : so.IsDictOf (strKind prog w) kvs9) (x0 x1 x2 x3 : Addr) (hv0 : valueAt kvs9 (Str.ofString "a") = some (.ref x0)) (hv1 : valueAt kvs9 (Str.ofString "b c") = some (.ref x1)) (hv2 : valueAt kvs9 (Str.ofString "d\"") = some (.ref x2)) (hv3 : valueAt kvs9 (Str.ofString "\\e") = some (.ref x3)) (hret : ∀ h tk hl, Fr h₀ L h (fun z => if z = Str.ofString "hosts" then some (.ref hl) else m z) → News h₀ L h ((hl, LCg.lst [.ref x0, .ref x1, .ref x2, .ref x3]) :: rest) → (∀ p ∈ rest, p.1 ≠ hl) → Q .next { s with heap := h, toks := tk }) :
    wpAny (model prog w) (ktrTop dp un gd (Str.ofString "law") lawScope.1 L fa cd (lawCl c1 c2 c3 c4) outer) (exec part15.1 (envX (Str.ofString "law") lawScope.1 L fa cd (lawCl c1 c2 c3 c4))) Q E s := by
  dsimp only [part15, lawScope, lawCl]
  k_steps
  refine Hold.out ?_
  k_dflt (refine' LCg.CompSrc.ledger rfl F N g1 ?sz ?_)
  case sz => exact Nat.le_of_ble_eq_true rfl
  intro g5
  refine LCg.CompRest.succ ?_
  rintro v9 I9 oI9 C9 oC9 D9 m9 h9 tk9 E9 hv9 hC9 hx9 F9 N9 off9 ne9
  obtain rfl : Value.str (Str.ofString "a") u0 = v9 := Option.some.inj (show some (Value.str (Str.ofString "a") u0) = some v9 from hv9)
  k_steps
  refine LCg.CompEnd.intro F9 N9 rest ?sub off9 ?src ?_
  case sub => exact fun p hp => hp
  case src => exact Or.inr ⟨_, g1, rfl, _, rfl⟩
  refine LCg.CompRest.succ ?_
  rintro v9 I9 oI9 C9 oC9 D9 m9 h9 tk9 E9 hv9 hC9 hx9 F9 N9 off9 ne9
  obtain rfl : Value.str (Str.ofString "b c") u1 = v9 := Option.some.inj (show some (Value.str (Str.ofString "b c") u1) = some v9 from hv9)
  k_steps
  refine LCg.CompEnd.intro F9 N9 rest ?sub off9 ?src ?_
  case sub => exact fun p hp => hp
  case src => exact Or.inr ⟨_, g1, rfl, _, rfl⟩
  refine LCg.CompRest.succ ?_
  rintro v9 I9 oI9 C9 oC9 D9 m9 h9 tk9 E9 hv9 hC9 hx9 F9 N9 off9 ne9
  obtain rfl : Value.str (Str.ofString "d\"") u2 = v9 := Option.some.inj (show some (Value.str (Str.ofString "d\"") u2) = some v9 from hv9)
  k_steps
  refine LCg.CompEnd.intro F9 N9 rest ?sub off9 ?src ?_
  case sub => exact fun p hp => hp
  case src => exact Or.inr ⟨_, g1, rfl, _, rfl⟩
  refine LCg.CompRest.succ ?_
  rintro v9 I9 oI9 C9 oC9 D9 m9 h9 tk9 E9 hv9 hC9 hx9 F9 N9 off9 ne9
  obtain rfl : Value.str (Str.ofString "\\e") u3 = v9 := Option.some.inj (show some (Value.str (Str.ofString "\\e") u3) = some v9 from hv9)
  k_steps
  refine LCg.CompEnd.intro F9 N9 rest ?sub off9 ?src ?_
  case sub => exact fun p hp => hp
  case src => exact Or.inr ⟨_, g1, rfl, _, rfl⟩
  k_steps
  rename Fr h₀ L _ _ => F8
  rename News h₀ L _ _ => N8
  rename LCg.Off1 _ rest => o8
  have o9 := off1_all o8
  exact hret _ _ _ F8 N8 o9
end

end
section
theorem rs_MRan : True := by
  w_top off
  trivial
section
open PyProof.Rows.LCg
variable {prog : Program} {w : World} {A : Around} {env : Env} {E : Value → Shared → Prop} {s : Shared} {h₀ : Heap} {L : Addr} {m : Str → Option Value}
theorem rng_walks {I : Addr} (hh : A.handled = none) (a c : Int) (n : Nat) : Walks prog w A I [I] [I] n (fun i v => ∃ t, v = .int (a + (i : Int) * c) t) (fun i h => IsRangeIter h I (a + (i : Nat) * c) ((n : Int) - (i : Nat)) c) :=
  let W := (Walks.range (prog := prog) (w := w) hh I a c n)
  { sub := W.sub, frame := W.frame, done := W.done, self := W.self, item := fun i s Q E hi st hQ => W.item i s Q E hi st fun v h' tk hP => hQ v h' tk hP }
theorem rng_eval {elt iter : PySem.Expr} {x : Str} {px : Pos} {scope : Scope} {cl : List (Str × Addr)} {pos : Pos} {Q : Value → Shared → Prop}
    (hclos : closureFor scope env = pure cl) (hcell : ∀ y ∈ scope.names, y.2 ≠ .cell) (hkind : scope.kind = .function)
    (hnames : ∀ y ∈ scope.names, y.2 = .local → scope.names.lookup y.1 = some .local) (hx : scope.names.lookup x = some .local)
    (h : wpAny (model prog w) A (eval iter env) (fun xv s₁ => Hold (∃ r a b c t u v n news, xv = Value.ref r ∧ A.handled = none ∧ Fr h₀ L s₁.heap m ∧ News h₀ L s₁.heap news ∧ IsRange s₁.heap r a b c t u v ∧ Builtin.Range.small a b c = true ∧ Builtin.Range.rangeSize a b c = ((n : Nat) : Int) ∧ n ≤ sizeLine ∧
      ∀ g, CompRest prog w A h₀ L m env elt x scope cl { s₁ with heap := g } (fun _ => True) (fun i v => ∃ t, v = .int (a + (i : Int) * c) t) (FinE h₀ L m { s₁ with heap := g } Q) n 0 [] news)) E s)
    (hs : ∀ x, foldedSetIterable iter env x = pure x) :
    wpAny (model prog w) A (eval (.ListComp elt [⟨.Name x px, iter, [], 0⟩] scope pos) env) Q E s := by
  rw [eval_ListComp]
  refine wpAny_comprehension_free (use := none) rfl hs hclos hkind hnames (wpAny_mono h (fun xv s₁ h₁ => ?_) fun _ _ e => e)
  obtain ⟨r, a, b, c, t, u, v, n, news, rfl, hh, F, N, hr, hsm, hn, hsz, R⟩ := h₁
  refine wpAny_pyIter_range hr hsm ?_
  refine block_U (rng_walks hh a c n) hsz (fun i h st => ⟨_, st⟩) (fun i h h' o nw st e e' _ _ _ => ?_) hcell hkind hx (by show IsRangeIter _ _ _ _ _; rw [hn]; simpa using Heap.get?_push_size _ rfl) (fun b hb => ?_)
    (F.keeps fun _ _ e => Heap.get?_push_of_some _ e) (N.grown fun _ _ e => Heap.get?_push_of_some _ e) (Nat.ne_of_lt F.ns.lt) (next_is_new F) (fun p hp => Nat.ne_of_lt (Heap.lt_size (N p hp).1)) trivial (R _) ?_
  · have st' : h.get? _ = some _ := st
    show h'.get? _ = some _
    rw [e', ← e]; exact st'
  · rw [List.mem_singleton.mp hb]
    show s₁.heap.objs.size < (s₁.heap.push _).objs.size
    rw [Heap.size_push]; exact Nat.lt_succ_self _
  · intro D C h tk m' ys news' F' N' o1 hn hC₀ hD₀ hCL hDL hCD offC fin
    refine ⟨m', hn, fun h'' hs'' => fin D h'' tk (F'.change hs'' hCL hC₀) (fun p hp => ?_) o1⟩
    refine ⟨hs''.extBut _ _ ?_ (N' p hp).1, (N' p hp).2⟩
    rcases List.mem_cons.mp hp with rfl | hp
    · exact Ne.symm hCD
    · exact offC p hp
theorem rngT_eval {ct elt iter : PySem.Expr} {x : Str} {px : Pos} {scope : Scope} {cl : List (Str × Addr)} {pos : Pos} {Q : Value → Shared → Prop}
    (hclos : closureFor scope env = pure cl) (hcell : ∀ y ∈ scope.names, y.2 ≠ .cell) (hkind : scope.kind = .function)
    (hnames : ∀ y ∈ scope.names, y.2 = .local → scope.names.lookup y.1 = some .local) (hx : scope.names.lookup x = some .local)
    (h : wpAny (model prog w) A (eval iter env) (fun xv s₁ => Hold (∃ r a b c t u v n news, xv = Value.ref r ∧ A.handled = none ∧ Fr h₀ L s₁.heap m ∧ News h₀ L s₁.heap news ∧ IsRange s₁.heap r a b c t u v ∧ Builtin.Range.small a b c = true ∧ Builtin.Range.rangeSize a b c = ((n : Nat) : Int) ∧ n ≤ sizeLine ∧
      ∀ g, LCt.CompRestT prog w A h₀ L m env ct elt x scope cl { s₁ with heap := g } (fun _ => True) (fun i v => ∃ t, v = .int (a + (i : Int) * c) t) (FinE h₀ L m { s₁ with heap := g } Q) n 0 [] news)) E s)
    (hs : ∀ x, foldedSetIterable iter env x = pure x) :
    wpAny (model prog w) A (eval (.ListComp elt [⟨.Name x px, iter, [ct], 0⟩] scope pos) env) Q E s := by
  rw [eval_ListComp]
  refine wpAny_comprehension_free (use := none) rfl hs hclos hkind hnames (wpAny_mono h (fun xv s₁ h₁ => ?_) fun _ _ e => e)
  obtain ⟨r, a, b, c, t, u, v, n, news, rfl, hh, F, N, hr, hsm, hn, hsz, R⟩ := h₁
  refine wpAny_pyIter_range hr hsm ?_
  refine LCt.block_T (rng_walks hh a c n) hsz (fun i h st => ⟨_, st⟩) (fun i h h' o nw st e e' _ _ _ => ?_) hcell hkind hx (by show IsRangeIter _ _ _ _ _; rw [hn]; simpa using Heap.get?_push_size _ rfl) (fun b hb => ?_)
    (F.keeps fun _ _ e => Heap.get?_push_of_some _ e) (N.grown fun _ _ e => Heap.get?_push_of_some _ e) (Nat.ne_of_lt F.ns.lt) (next_is_new F) (fun p hp => Nat.ne_of_lt (Heap.lt_size (N p hp).1)) trivial (R _) ?_
  · have st' : h.get? _ = some _ := st
    show h'.get? _ = some _
    rw [e', ← e]; exact st'
  · rw [List.mem_singleton.mp hb]
    show s₁.heap.objs.size < (s₁.heap.push _).objs.size
    rw [Heap.size_push]; exact Nat.lt_succ_self _
  · intro D C h tk m' ys news' F' N' o1 hn hC₀ hD₀ hCL hDL hCD offC fin
    refine ⟨m', hn, fun h'' hs'' => fin D h'' tk (F'.change hs'' hCL hC₀) (fun p hp => ?_) o1⟩
    refine ⟨hs''.extBut _ _ ?_ (N' p hp).1, (N' p hp).2⟩
    rcases List.mem_cons.mp hp with rfl | hp
    · exact Ne.symm hCD
    · exact offC p hp
end

end
section
theorem rs_MCrt : True := by
  w_top off
  trivial
section
theorem mul_dvd_gcd {m n x : Int} (h1 : m ∣ x) (h2 : n ∣ x) (hg : Int.gcd m n = 1) : m * n ∣ x := by
  rw [← Int.natAbs_dvd_natAbs, Int.natAbs_mul]
  exact Nat.Coprime.mul_dvd_of_dvd_of_dvd hg (Int.natAbs_dvd_natAbs.mpr h1) (Int.natAbs_dvd_natAbs.mpr h2)
theorem crt_eq {N S m n : Int} (hg : Int.gcd m n = 1) (h1 : N % m = S % m) (h2 : N % n = S % n) : N % (m * n) = S % (m * n) := by
  apply Int.emod_eq_emod_iff_emod_sub_eq_zero.mpr
  apply Int.emod_eq_zero_of_dvd
  exact mul_dvd_gcd (Int.dvd_of_emod_eq_zero (Int.emod_eq_emod_iff_emod_sub_eq_zero.mp h1)) (Int.dvd_of_emod_eq_zero (Int.emod_eq_emod_iff_emod_sub_eq_zero.mp h2)) hg
/-- a number below F + P * k that is F modulo P lies below P * k -/
theorem below_mul {F N P k : Int} (hP : 0 < P) (hF : F < P) (h : N % P = F % P) (hN : N < F + P * k) : N < P * k := by
  have hd : P ∣ N - F := Int.dvd_of_emod_eq_zero (Int.emod_eq_emod_iff_emod_sub_eq_zero.mp h)
  obtain ⟨q, hq⟩ := hd
  have hlt : P * q < P * k := by omega
  have hqk : q < k := Int.lt_of_mul_lt_mul_left hlt (Int.le_of_lt hP)
  have : P * q ≤ P * (k - 1) := Int.mul_le_mul_of_nonneg_left (by omega) (Int.le_of_lt hP)
  rw [Int.mul_sub, Int.mul_one] at this
  omega
theorem pair_facts {m n S N : Int} (hm : 0 < m) (hn : 0 < n) (hg : Int.gcd m n = 1) (h1 : N % m = S % m % m) (h2 : N % n = S % n % n) (h3 : S % m ≤ N) (h4 : N < S % m + m * n) :
    N % (m * n) = S % (m * n) ∧ 0 ≤ N ∧ N < m * n := by
  have e0 := Int.emod_nonneg S (show m ≠ 0 by omega)
  refine ⟨crt_eq hg (by rw [h1, Int.emod_emod]) (by rw [h2, Int.emod_emod]), by omega, ?_⟩
  exact below_mul hm (Int.emod_lt_of_pos S hm) h1 h4
theorem three_facts {P k S N M : Int} (hP : 0 < P) (hk : 0 < k) (hg : Int.gcd P k = 1) (hN : 0 ≤ N) (hNP : N < P) (hNS : N % P = S % P) (h1 : M % P = N % P) (h2 : M % k = S % k % k) (h3 : N ≤ M) (h4 : M < N + P * k) (hS : 0 ≤ S) (hSP : S < P * k) : M = S := by
  have e := crt_eq hg (h1.trans hNS) (by rw [h2, Int.emod_emod])
  have hlt := below_mul hP hNP h1 h4
  rw [Int.emod_eq_of_lt (by omega) hlt, Int.emod_eq_of_lt hS hSP] at e
  exact e
/-- the left numbers: the two ranges -/
theorem left_facts {P S N low high least : Int} (hP : 0 < P) (hPl : P ≤ low) (hNS : N % P = S % P) (hl : least = low + 1 + (N - low - 1) % P) (hh : 3 * low + 1 < high) (hh2 : high < 5000) :
    ∃ k0 n1 : Nat, least = S % P + (k0 : Int) * P ∧ low < least ∧ least ≤ low + P ∧ least < high ∧ 2 ≤ n1 ∧ k0 + n1 ≤ 5000 ∧
      (high - least - 1) / P + 1 = (n1 : Int) ∧ (high - S % P - 1) / P + 1 = ((k0 + n1 : Nat) : Int) ∧ S % P < high ∧ 0 ≤ S % P ∧ S % P < P := by
  have t0 := Int.emod_nonneg S (show P ≠ 0 by omega)
  have t1 := Int.emod_lt_of_pos S hP
  have r0 := Int.emod_nonneg (N - low - 1) (show P ≠ 0 by omega)
  have r1 := Int.emod_lt_of_pos (N - low - 1) hP
  have hd : P ∣ least - S % P := by
    apply Int.dvd_of_emod_eq_zero
    apply Int.emod_eq_emod_iff_emod_sub_eq_zero.mp
    rw [hl, Int.emod_emod, ← hNS, Int.add_emod, Int.emod_emod, ← Int.add_emod]
    congr 1
    omega
  obtain ⟨q, hq⟩ := hd
  have hq0 : 0 < q := by
    apply Int.pos_of_mul_pos_right (a := P) (b := q) ?_ hP
    omega
  obtain ⟨k0, rfl⟩ := Int.eq_ofNat_of_zero_le (Int.le_of_lt hq0)
  have e1 : least = S % P + (k0 : Int) * P := by rw [Int.mul_comm]; omega
  have d0 : 0 ≤ (high - least - 1) / P := Int.ediv_nonneg (by omega) (by omega)
  have d1 : 1 ≤ (high - least - 1) / P := (Int.le_ediv_iff_mul_le hP).mpr (by omega)
  have e2 : (high - S % P - 1) / P = (high - least - 1) / P + (k0 : Int) := by
    rw [show high - S % P - 1 = (high - least - 1) + (k0 : Int) * P by omega, Int.add_mul_ediv_right _ _ (by omega)]
  have d2 : (high - S % P - 1) / P ≤ high - S % P - 1 := Int.ediv_le_self _ (by omega)
  refine ⟨k0, ((high - least - 1) / P + 1).toNat, e1, by omega, by omega, by omega, by omega, by omega, by omega, by omega, by omega, t0, t1⟩
/-- which of the numbers are above low -/
theorem above_iff {P t low least : Int} {k0 i : Nat} (hP : 0 < P) (e : least = t + (k0 : Int) * P) (h1 : low < least) (h2 : least ≤ low + P) : (k0 ≤ i → low < t + (i : Int) * P ∧ t + (i : Int) * P = least + ((i - k0 : Nat) : Int) * P) ∧ (i < k0 → t + (i : Int) * P ≤ low) := by
  refine ⟨fun h => ?_, fun h => ?_⟩
  · have : ((i - k0 : Nat) : Int) = (i : Int) - k0 := by omega
    have hm : (k0 : Int) * P ≤ (i : Int) * P := Int.mul_le_mul_of_nonneg_right (by omega) (Int.le_of_lt hP)
    rw [this, Int.sub_mul]
    omega
  · have hm : (i : Int) * P ≤ ((k0 : Int) - 1) * P := Int.mul_le_mul_of_nonneg_right (by omega) (Int.le_of_lt hP)
    rw [Int.sub_mul, Int.one_mul] at hm
    omega
end

end
section
theorem rs_MMd : True := by
  w_top off
  trivial
section
noncomputable def PairP (l : List Int) : Prop := match l with
  | [a, b, c, d] => ∀ j, j < 4 → ∀ i, i < j → Int.gcd (md4 a b c d i) (md4 a b c d j) = 1 ∧ md4 a b c d i * md4 a b c d j ≤ c * d ∧ 0 < md4 a b c d i * md4 a b c d j ∧ md4 a b c d i * md4 a b c d j < 300
  | _ => False
noncomputable def decPair (l : List Int) : Decidable (PairP l) := by unfold PairP; split <;> infer_instance
theorem pair_all : ∀ l ∈ modsL, PairP l := @of_decide_eq_true _ (@List.decidableBAll _ _ decPair _) (by kernel_rfl)
theorem md_pair {a b c d : Int} {i j : Nat} (hM : [a, b, c, d] ∈ modsL) (hij : i < j) (hj : j < 4) : Int.gcd (md4 a b c d i) (md4 a b c d j) = 1 ∧ md4 a b c d i * md4 a b c d j ≤ c * d ∧ 0 < md4 a b c d i * md4 a b c d j ∧ md4 a b c d i * md4 a b c d j < 300 := pair_all _ hM j hj i hij
noncomputable def ThreeP (l : List Int) : Prop := match l with
  | [a, b, c, d] => ∀ k, k < 4 → ∀ j, j < k → ∀ i, i < j → Int.gcd (md4 a b c d i * md4 a b c d j) (md4 a b c d k) = 1 ∧ a * b * c ≤ md4 a b c d i * md4 a b c d j * md4 a b c d k
  | _ => False
noncomputable def decThree (l : List Int) : Decidable (ThreeP l) := by unfold ThreeP; split <;> infer_instance
theorem three_all : ∀ l ∈ modsL, ThreeP l := @of_decide_eq_true _ (@List.decidableBAll _ _ decThree _) (by kernel_rfl)
theorem md_three {a b c d : Int} {i j k : Nat} (hM : [a, b, c, d] ∈ modsL) (hij : i < j) (hjk : j < k) (hk : k < 4) : Int.gcd (md4 a b c d i * md4 a b c d j) (md4 a b c d k) = 1 ∧ a * b * c ≤ md4 a b c d i * md4 a b c d j * md4 a b c d k := three_all _ hM k hk j hjk i hij
noncomputable def ad4 (x0 x1 x2 x3 : Addr) (i : Nat) : Addr := match i with | 0 => x0 | 1 => x1 | 2 => x2 | _ => x3
theorem pick_ad {x0 x1 x2 x3 : Addr} {i : Nat} (hi : i < 4) : [Value.ref x0, .ref x1, .ref x2, .ref x3][((i : Nat) : Int).toNat]? = some (.ref (ad4 x0 x1 x2 x3 i)) :=
  four_cases (P := fun i => [Value.ref x0, .ref x1, .ref x2, .ref x3][((i : Nat) : Int).toNat]? = some (.ref (ad4 x0 x1 x2 x3 i))) rfl rfl rfl rfl i hi
theorem rng_k {j : Nat} (hj : j < 4) : Builtin.Range.small ((j : Int) + 1) 4 1 = true ∧ Builtin.Range.rangeSize ((j : Int) + 1) 4 1 = 4 - ((j + 1 : Nat) : Int) :=
  four_cases (P := fun j => Builtin.Range.small ((j : Int) + 1) 4 1 = true ∧ Builtin.Range.rangeSize ((j : Int) + 1) 4 1 = 4 - ((j + 1 : Nat) : Int)) (by decide) (by decide) (by decide) (by decide) j hj
theorem rng_i {j : Nat} (hj : j < 4) : Builtin.Range.small 0 (j : Int) 1 = true ∧ Builtin.Range.rangeSize 0 (j : Int) 1 = (j : Int) - ((0 : Nat) : Int) :=
  four_cases (P := fun j => Builtin.Range.small 0 (j : Int) 1 = true ∧ Builtin.Range.rangeSize 0 (j : Int) 1 = (j : Int) - ((0 : Nat) : Int)) (by decide) (by decide) (by decide) (by decide) j hj
theorem Tabs.cons {T1 T2 rest : List (Addr × Obj)} {x : Addr × Obj} (h : Tabs T1 T2 rest) (hx : ∀ p ∈ T1 ++ T2, p.1 ≠ x.1) : Tabs T1 T2 (x :: rest) := by
  obtain ⟨a, b, c, d, e⟩ := h
  refine ⟨a, b, c, d, fun p hp y hy => ?_⟩
  rcases List.mem_cons.mp hy with rfl | hy
  · exact hx p hp
  · exact e p hp y hy
theorem Tabs.sub {T1 T2 rest rest' : List (Addr × Obj)} (h : Tabs T1 T2 rest') (hs : ∀ p ∈ rest, p ∈ rest') : Tabs T1 T2 rest := by
  obtain ⟨a, b, c, d, e⟩ := h
  exact ⟨a, b, c, d, fun p hp y hy => e p hp y (hs y hy)⟩
theorem mem_R {T1 T2 rest : List (Addr × Obj)} {x : Addr × Obj} (h : x ∈ rest) : x ∈ T1 ++ (T2 ++ rest) := List.mem_append_right _ (List.mem_append_right _ h)
theorem Tabs.apart {T1 T2 rest : List (Addr × Obj)} {x : Addr × Obj} (h : Tabs T1 T2 rest) (hx : x ∈ rest) : ∀ p ∈ T1 ++ T2, p.1 ≠ x.1 := fun p hp => h.2.2.2.2 p hp x hx
theorem nin1 {h₀ h : Heap} {L : Addr} {a : Addr × Obj} {T1 T2 rest : List (Addr × Obj)} (N : News h₀ L h (a :: (T1 ++ (T2 ++ rest)))) : News h₀ L h (T1 ++ (T2 ++ (a :: rest))) := fun p hp => N p (by
  simp only [List.mem_cons, List.mem_append] at hp ⊢
  rcases hp with h | h | h | h <;> simp [h])
theorem nin2 {h₀ h : Heap} {L : Addr} {a b : Addr × Obj} {T1 T2 rest : List (Addr × Obj)} (N : News h₀ L h (a :: b :: (T1 ++ (T2 ++ rest)))) : News h₀ L h (T1 ++ (T2 ++ (a :: b :: rest))) := fun p hp => N p (by
  simp only [List.mem_cons, List.mem_append] at hp ⊢
  rcases hp with h | h | h | h | h <;> simp [h])
theorem nout1 {h₀ h : Heap} {L : Addr} {a : Addr × Obj} {T1 T2 rest : List (Addr × Obj)} (N : News h₀ L h (T1 ++ (T2 ++ (a :: rest)))) : News h₀ L h (a :: (T1 ++ (T2 ++ rest))) := fun p hp => N p (by
  simp only [List.mem_cons, List.mem_append] at hp ⊢
  rcases hp with h | h | h | h <;> simp [h])
theorem ndrop1 {h₀ h : Heap} {L : Addr} {a : Addr × Obj} {rest : List (Addr × Obj)} (N : News h₀ L h (a :: rest)) : News h₀ L h rest := fun p hp => N p (.tail _ hp)
theorem ex_fr {h₀ h : Heap} {L : Addr} {m : Str → Option Value} (F : Fr h₀ L h m) : ∃ mm, mm = m ∧ Fr h₀ L h mm := ⟨m, rfl, F⟩
@[reducible] noncomputable def forBody : Stmt → List Stmt
  | .For _ _ b _ _ => b
  | _ => []
noncomputable def part16 : { st : Stmt // st = lawBody.1.getD 16 default } := by
  have h : lawBody.1.getD 16 default = lawBody.1.getD 16 default := rfl
  conv at h => rhs; whnf
  exact ⟨_, h.symm⟩
noncomputable def part16i : { st : Stmt // st = (forBody part16.1).getD 0 default } := by
  have h : (forBody part16.1).getD 0 default = (forBody part16.1).getD 0 default := rfl
  conv at h => rhs; whnf
  exact ⟨_, h.symm⟩
noncomputable def part16k : { st : Stmt // st = (forBody part16i.1).getD 4 default } := by
  have h : (forBody part16i.1).getD 4 default = (forBody part16i.1).getD 4 default := rfl
  conv at h => rhs; whnf
  exact ⟨_, h.symm⟩
end

end
section
theorem rs_L16k : True := by
  w_top off
  trivial
section
local macro_rules | `(tactic| walk_at "exec For") => `(tactic| (refine Hold.mk ?_))
local macro_rules | `(tactic| walk_at "exec For Name Call cons nil") => `(tactic| (refine Hold.mk ?_))
local macro_rules | `(tactic| walk_at "call ref") => `(tactic| (refine Hold.mk ?_))
local macro_rules | `(tactic| walk_at "call builtin:bytes.decode") => `(tactic| (refine Hold.mk ?_))
local macro_rules | `(tactic| walk_at "subscriptTail Name Name ref int") => `(tactic| (refine Hold.mk ?_))
inductive InI (h₀ : Heap) (L : Addr) (rest : List (Addr × Obj)) (s : Shared) (m : Str → Option Value) (j : Nat) (I : Addr) (n : Nat) (s' : Shared) : Prop
  | mk (k : Nat) (T1 T2 : List (Addr × Obj)) (mp : Str → Option Value) (h : Heap) (tks : Nat) (e1 : s' = { s with heap := h, toks := tks }) (e2 : n = 4 - k) (e3 : j < k) (e4 : k ≤ 4) (e5 : Tabs T1 T2 ((I, riObj (k : Int) (4 - (k : Int)) 1) :: rest)) (e6 : (∀ p ∈ rest, p.1 ≠ I)) (e7 : Fr h₀ L h mp) (e8 : News h₀ L h ((I, riObj (k : Int) (4 - (k : Int)) 1) :: (T1 ++ (T2 ++ rest)))) (e9 : (∀ y, y ≠ Str.ofString "k" → y ≠ Str.ofString "found" → mp y = m y))
theorem law16k {prog : Program} {w : World} {p : Program} {loose : List Str} {mean : ExcName → Option Value} {mg mb : Str → Option Value} {dp un : Nat} {gd : Option (List Code)} {fa : Addr} {cd : Value} {outer : List Env} {A₀ : Around} {base h₀ : Heap} {L c1 c2 c3 c4 : Addr} {a b c d : Int} {m : Str → Option Value} {s : Shared}
    {Q : Flow → Shared → Prop} {E : Value → Shared → Prop} (B : Below A₀ base outer h₀) (F : Fr h₀ L s.heap m) (X : (hd.heap_1 w.params).In h₀) {T1 T2 rest : List (Addr × Obj)} (N : News h₀ L s.heap (T1 ++ (T2 ++ rest))) (T : Top p loose mean mg mb h₀) (hdp : dp + 400 < recursionLimit) (hun : un + 4000 < cLine) (hE9 : PassesOwn (model prog w) (ktrTop dp un gd (Str.ofString "law") lawScope.1 L fa cd (lawCl c1 c2 c3 c4) outer) (envX (Str.ofString "law") lawScope.1 L fa cd (lawCl c1 c2 c3 c4)) E)
    (hT : Tabs T1 T2 rest) (i j sn : Nat) (hij : i < j) (hj : j < 4) (hM : [a, b, c, d] ∈ modsL) (Nn : Int) (tN tP tj tl ts : Tok) (x0 x1 x2 x3 hl : Addr) (os : Obj) (v1 : m (Str.ofString "number") = some (.int Nn tN)) (v2 : m (Str.ofString "product") = some (.int (md4 a b c d i * md4 a b c d j) tP)) (v3 : m (Str.ofString "hosts") = some (.ref hl)) (v4 : m (Str.ofString "letters") = some (.str (apS sn) tl)) (v5 : m (Str.ofString "j") = some (.int (j : Int) tj)) (g1 : (hl, LCg.lst [.ref x0, .ref x1, .ref x2, .ref x3]) ∈ rest) (g2 : (c3, os) ∈ rest) (hos : os.data = .cell (some (.int (sn : Int) ts))) (gx : ∀ k, k < 4 → ∃ t1 t2, (ad4 x0 x1 x2 x3 k, tup2 (.int ((sn : Int) % md4 a b c d k) t1) (.int (md4 a b c d k) t2)) ∈ rest) (hS2 : (sn : Int) < a * b * c) (hN : 0 ≤ Nn) (hN2 : Nn < md4 a b c d i * md4 a b c d j) (hNS : Nn % (md4 a b c d i * md4 a b c d j) = (sn : Int) % (md4 a b c d i * md4 a b c d j)) (hret : ∀ h tk mp T1' T2', (∀ y, y ≠ Str.ofString "k" → y ≠ Str.ofString "found" → mp y = m y) → Tabs T1' T2' rest → Fr h₀ L h mp → News h₀ L h (T1' ++ (T2' ++ rest)) → Q .next { s with heap := h, toks := tk }) :
    wpAny (model prog w) (ktrTop dp un gd (Str.ofString "law") lawScope.1 L fa cd (lawCl c1 c2 c3 c4) outer) (exec part16k.1 (envX (Str.ofString "law") lawScope.1 L fa cd (lawCl c1 c2 c3 c4))) Q E s := by
  dsimp only [part16k, lawScope, lawCl]
  obtain ⟨mg1, mg2, mg3, mg4⟩ := md_pair hM hij hj
  generalize hP : md4 a b c d i * md4 a b c d j = P at *
  have hsn : sn < 2000 := by
    obtain ⟨-, -, -, -, -, -, ⟨q1, -⟩, -⟩ := mods_of hM
    omega
  k_steps
  refine Hold.out ?_
  k_dflt (refine' for_go2R ?hE ?hs (InI h₀ L rest s m j) ?init ?step)
  case hE => exact hE9
  case hs => intro _; rfl
  case init =>
    k_steps
    rename IsRange _ _ _ _ _ _ _ _ => hr5
    rename Fr h₀ L _ _ => F5
    rename News h₀ L _ _ => N5
    refine wpAny_pyIter_range hr5 (rng_k hj).1 ?_
    rw [(rng_k hj).2]
    have e1 : (j : Int) + 1 = ((j + 1 : Nat) : Int) := by omega
    rw [e1]
    have hI := fun p hp => Nat.ne_of_lt (Heap.lt_size (N5 p hp).1)
    exact Hold.out ⟨_, _, rfl, j + 1, T1, T2, _, _, _, rfl, rfl, Nat.lt_succ_self _, hj, hT.cons (fun p hp => hI p (by rcases List.mem_append.mp hp with q | q <;> simp [q])), fun p hp => hI p (mem_R hp), F5.push _, News.push F5 N5 _ rfl, fun _ _ _ => rfl⟩
  case step =>
    rintro I n s' ⟨k, T1, T2, mp, h, tks, rfl, rfl, hjk, hk4, hT6, hI, F6, N6, hmp⟩ Qa Ra hQa hRa
    have hoff : ∀ p ∈ T1 ++ (T2 ++ rest), p.1 ≠ I := by
      intro p hp
      have q := hT6.apart (.head _) p
      simp only [List.mem_append] at hp q
      rcases hp with hp | hp | hp
      · exact q (.inl hp)
      · exact q (.inr hp)
      · exact hI p hp
    by_cases hlt : k < 4
    · k_dflt (refine' ri_item F6 N6 hoff ?hl ?_)
      case hl => omega
      intro h8 tk8 u8 F8 N8
      have w1 := (hmp (Str.ofString "number") (by decide) (by decide)).trans v1
      have w2 := (hmp (Str.ofString "product") (by decide) (by decide)).trans v2
      have w3 := (hmp (Str.ofString "hosts") (by decide) (by decide)).trans v3
      have w4 := (hmp (Str.ofString "letters") (by decide) (by decide)).trans v4
      obtain ⟨ta, tb, gk⟩ := gx k hlt
      have m1 := mem_R (T1 := T1) (T2 := T2) g1
      have m2 := mem_R (T1 := T1) (T2 := T2) g2
      dsimp only
      k_steps
      refine Hold.out ?_
      rename Fr h₀ L _ _ => F1
      rename News h₀ L _ _ => N1
      k_dflt (refine' li_item (News.isList N1 (.tail _ (.tail _ m1))) ?z ?f (pick_ad hlt) ?_ ?hs)
      case z => exact Int.natCast_nonneg _
      case f => omega
      case hs => with_unfolding_all rfl
      k_steps
      refine Hold.out ?_
      rename Fr h₀ L _ _ => F2
      rename News h₀ L _ _ => N2
      rename _ ∧ AllLt _ _ => l9
      rename Addr => D
      have l9' : ∀ p ∈ T1 ++ (T2 ++ rest), @LT.lt Nat _ p.1 D := allLt_all l9.2
      obtain ⟨q7, q17⟩ := md4_le hM hlt
      obtain ⟨z1, z2⟩ := md_three hM hij hjk hlt
      rw [hP] at z1 z2
      have y0 := Int.emod_nonneg (sn : Int) (show md4 a b c d k ≠ 0 by omega)
      have y1 := Int.emod_lt_of_pos (sn : Int) (show 0 < md4 a b c d k by omega)
      have e1 : (k : Int) + 1 = ((k + 1 : Nat) : Int) := by omega
      have e2 : (4 : Int) - (k : Int) - 1 = 4 - ((k + 1 : Nat) : Int) := by omega
      rw [e1, e2] at N2
      have hI6 : ∀ p ∈ T1 ++ T2, p.1 ≠ I := hT6.apart (.head _)
      have hD6 : ∀ p ∈ T1 ++ T2, p.1 ≠ D := fun p hp => Nat.ne_of_lt (l9' p (by rcases List.mem_append.mp hp with q | q <;> simp [q]))
      have hTT : Tabs T1 T2 ((D, tup2 (.int Nn tN) (.int P tP)) :: (I, riObj ((k + 1 : Nat) : Int) (4 - ((k + 1 : Nat) : Int)) 1) :: rest) := Tabs.cons (Tabs.cons (hT6.sub fun p hp => .tail _ hp) hI6) hD6
      k_dflt (refine' Con.use (law_both prog w Nn P ((sn : Int) % md4 a b c d k) (md4 a b c d k) tN tP ta tb D _ T1 T2 _ hTT (.head _) (.tail _ (.tail _ gk)) (by omega) (by omega) z1 (by omega) (by omega)) ?zB ?zF ?zX ?zN ?zT ?zhk ?zd ?zu ?_)
      case zB => k_asm
      case zF => k_asm
      case zX => k_asm
      case zN => exact nin2 N2
      case zT => k_asm
      case zhk => rfl
      case zd => ktr_room
      case zu => ktr_units
      intro r9 new9 h9 tk9 hp9 F9 N9
      obtain ⟨M, ⟨r, u1, u2, T1', T2', rfl, rfl, d1, d2, d3⟩, e3, e4, e5, e6⟩ := hp9
      have hMS : M = (sn : Int) := three_facts mg3 (by omega) z1 hN hN2 hNS e3 e4 e5 e6 (Int.natCast_nonneg _) (by omega)
      have g1' := mem_R (T1 := T1') (T2 := T2') (.tail (D, tup2 (.int Nn tN) (.int P tP)) (.tail (I, riObj ((k + 1 : Nat) : Int) (4 - ((k + 1 : Nat) : Int)) 1) g1))
      have g2' := mem_R (T1 := T1') (T2 := T2') (.tail (D, tup2 (.int Nn tN) (.int P tP)) (.tail (I, riObj ((k + 1 : Nat) : Int) (4 - ((k + 1 : Nat) : Int)) 1) g2))
      rw [hMS] at N9
      dsimp only
      k_steps
      · omega
      refine Hold.out ?_
      k_dflt (refine' Con.use (int2ap prog w sn _ _ (by omega)) ?zB ?zF ?zX ?zN ?zT ?zhk ?zd ?zu ?_)
      case zB => k_asm
      case zF => k_asm
      case zX => k_asm
      case zN => k_asm
      case zT => k_asm
      case zhk => rfl
      case zd => ktr_room
      case zu => ktr_units
      intro r8 new8 h8' tk8' hp8 F8' N8'
      obtain ⟨rfl, bb, tbb, rfl, hb⟩ := hp8
      dsimp only
      k_steps
      refine Hold.out ?_
      refine decode_ap (by omega) hb ?_
      intro t7 tk7
      dsimp only
      k_steps
      · exact absurd (‹_› : (apS sn != apS sn) = true) (by simp)
      · rename Fr h₀ L _ _ => F3
        rename News h₀ L _ _ => N3
        have N4 := nout1 (ndrop1 (nout1 (ndrop1 N3)))
        refine Hold.out (hRa _ _ ?_)
        refine WInd.next (4 - (k + 1)) (by omega) ?_
        refine ⟨k + 1, T1', T2', _, _, _, rfl, rfl, by omega, by omega, d1.sub fun p hp => .tail _ hp, hI, F3, N4, ?m⟩
        case m =>
          intro y y1 y2
          simp only [if_neg y1, if_neg y2]
          exact hmp y y1 y2
    · k_dflt (refine' ri_end rfl F6 N6 hoff (by omega) ?_)
      intro h8 F8 N8
      exact hQa _ (hret _ _ _ _ _ hmp (hT6.sub fun p hp => .tail _ hp) F8 N8)
end

end
section
theorem rs_MLst : True := by
  w_top off
  trivial
section
open PyProof.Rows.LCg
variable {prog : Program} {w : World} {A : Around} {E : Value → Shared → Prop} {s : Shared} {h₀ : Heap} {L : Addr} {m : Str → Option Value} {news : List (Addr × Obj)} {env : Env}
theorem ints_of_get : ∀ {vs : List Value} {ns : List Int}, vs.length = ns.length → (∀ (j : Nat) (v : Value), vs[j]? = some v → ∃ k t, ns[j]? = some k ∧ v = Value.int k t) → IntsAre vs ns
  | [], [], _, _ => .nil
  | v :: vs, n :: ns, hl, h => by
    obtain ⟨n', t, hn, rfl⟩ := h 0 v rfl
    obtain rfl : n = n' := by simpa using hn
    exact .cons n t (ints_of_get (by simpa using hl) fun j v hj => h (j + 1) v (by simpa using hj))
  | [], _ :: _, hl, _ => by simp at hl
  | _ :: _, [], hl, _ => by simp at hl
theorem list_rng_K {r : Addr} {a b c : Int} {t₀ u₀ v₀ : Tok} {n : Nat} {Q : Value → Shared → Prop} (hh : A.handled = none) (F : Fr h₀ L s.heap m) (N : News h₀ L s.heap news) (hr : IsRange s.heap r a b c t₀ u₀ v₀) (hsmall : Builtin.Range.small a b c = true) (hn : Builtin.Range.rangeSize a b c = (n : Int)) (hz : n ≤ 2 ^ 24)
    (h : ∀ D us ep h' tk, Fr h₀ L h' m → News h₀ L h' ((D, listOf (List.toArray us) ep) :: news) → (∀ p ∈ news, p.1 < D) → IntsAre us (rangeInts a c n) → Q (.ref D) { s with heap := h', toks := tk }) :
    wpAny (model prog w) A (call (.type "list") [.ref r]) Q E s := by
  refine call_list_range hh hr hsmall hn hz fun h' tk acc c' hk hD hI => ?_
  have hD' : h'.get? s.heap.objs.size = some (listOf (List.toArray acc.toList) c') := by
    rw [Array.toArray_toList]
    exact hD
  refine h _ acc.toList c' h' tk (F.keeps hk) (news_pushed F N hk hD' rfl) (fun p hp => Heap.lt_size (N p hp).1) (ints_of_get (by rw [Array.length_toList, rangeInts_length]; exact hI.1) fun j v hj => ?_)
  obtain ⟨t, ht⟩ := hI.2 j v (by rw [← hj, Array.getElem?_toList])
  have hlt : j < n := by
    have := (List.getElem?_eq_some_iff.mp hj).1
    rw [Array.length_toList, hI.1] at this
    exact this
  exact ⟨_, t, rangeInts_get hlt, ht⟩
theorem small_fact {a b c : Int} (ha : 0 ≤ a ∧ a < 10000) (hb : 0 ≤ b ∧ b < 10000) (hc : 0 < c ∧ c < 10000) : Builtin.Range.small a b c = true := by
  have hs : 0 ≤ Builtin.Range.rangeSize a b c ∧ Builtin.Range.rangeSize a b c ≤ 10000 := by
    unfold Builtin.Range.rangeSize
    rw [if_pos hc.1]
    split
    · have h1 : 0 ≤ (b - a - 1) / c := Int.ediv_nonneg (by omega) (by omega)
      have h2 : (b - a - 1) / c ≤ b - a - 1 := Int.ediv_le_self _ (by omega)
      omega
    · omega
  unfold Builtin.Range.small Builtin.Range.rangeFitsLong
  generalize Builtin.Range.rangeSize a b c = z at *
  simp only [if_pos hc.1, Bool.and_eq_true, Bool.or_eq_true, decide_eq_true_eq, beq_iff_eq]
  omega
theorem size_fact {a b c : Int} {n : Nat} (hc : 0 < c) (hab : a < b) (h : (b - a - 1) / c + 1 = (n : Int)) : Builtin.Range.rangeSize a b c = (n : Int) := by
  unfold Builtin.Range.rangeSize
  rw [if_pos hc, if_pos hab, h]
/-- what a filter over a range takes in its first i turns -/
noncomputable def selL (p : Nat → Bool) (val : Nat → Int) (i : Nat) : List Int := ((List.range i).filter p).map val
theorem selL_yes {p : Nat → Bool} {val : Nat → Int} {i : Nat} (h : p i = true) : selL p val (i + 1) = selL p val i ++ [val i] := by
  unfold selL
  rw [List.range_succ, List.filter_append, List.map_append]
  simp [h]
theorem selL_no {p : Nat → Bool} {val : Nat → Int} {i : Nat} (h : p i = false) : selL p val (i + 1) = selL p val i := by
  unfold selL
  rw [List.range_succ, List.filter_append, List.map_append]
  simp [h]
theorem sel_left {P t low least : Int} {k0 n1 : Nat} (hP : 0 < P) (e : least = t + (k0 : Int) * P) (h1 : low < least) (h2 : least ≤ low + P) : selL (fun i => decide (low < t + (i : Int) * P)) (fun i => t + (i : Int) * P) (k0 + n1) = rangeInts least P n1 := by
  have A0 : ∀ i, i ≤ k0 → selL (fun i => decide (low < t + (i : Int) * P)) (fun i => t + (i : Int) * P) i = [] := by
    intro i
    induction i with
    | zero => intro _; rfl
    | succ i ih =>
      intro hi
      have := (above_iff (i := i) hP e h1 h2).2 hi
      rw [selL_no (decide_eq_false (by omega)), ih (by omega)]
  induction n1 with
  | zero => rw [Nat.add_zero, A0 k0 (Nat.le_refl _)]; rfl
  | succ n1 ih =>
    obtain ⟨q1, q2⟩ := (above_iff (i := k0 + n1) hP e h1 h2).1 (Nat.le_add_right _ _)
    rw [← Nat.add_assoc, selL_yes (decide_eq_true q1), ih, q2]
    unfold rangeInts
    rw [List.range_succ, List.map_append, Nat.add_sub_cancel_left]
    rfl
theorem filt_rest {ct elt : PySem.Expr} {x : Str} {scope : Scope} {cl : List (Str × Addr)} {Fin : List Value → List (Addr × Obj) → Prop} {n : Nat} (p : Nat → Bool) (val : Nat → Int)
    (test : ∀ i t I oI C oC D ys m₂ h tk (E' : Value → Shared → Prop), NsObj oC m₂ → m₂ x = some (.int (val i) t) → Fr h₀ L h m → News h₀ L h ((I, oI) :: (C, oC) :: (D, lst ys) :: news) → 
      wpAny (model prog w) A (isTrue ct (compEnvC scope cl C env) (eval ct (compEnvC scope cl C env))) (fun ok s' => Hold (ok = p i ∧ ∃ h' tk', s' = { s with heap := h', toks := tk' } ∧ Fr h₀ L h' m ∧ News h₀ L h' ((I, oI) :: (C, oC) :: (D, lst ys) :: news))) E' { s with heap := h, toks := tk })
    (elem : ∀ i t I oI C oC D ys m₂ h tk (E' : Value → Shared → Prop), NsObj oC m₂ → m₂ x = some (.int (val i) t) → Fr h₀ L h m → News h₀ L h ((I, oI) :: (C, oC) :: (D, lst ys) :: news) → 
      wpAny (model prog w) A (eval elt (compEnvC scope cl C env)) (fun y s' => Hold (y = .int (val i) t ∧ ∃ h' tk', s' = { s with heap := h', toks := tk' } ∧ Fr h₀ L h' m ∧ News h₀ L h' ((I, oI) :: (C, oC) :: (D, lst ys) :: news))) E' { s with heap := h, toks := tk })
    (fin : ∀ ys, IntsAre ys (selL p val n) → Fin ys news) :
    LCt.CompRestT prog w A h₀ L m env ct elt x scope cl s (fun _ => True) (fun i v => ∃ t, v = .int (val i) t) Fin n 0 [] news := by
  have all : ∀ k i ys, i + k = n → IntsAre ys (selL p val i) → LCt.CompRestT prog w A h₀ L m env ct elt x scope cl s (fun _ => True) (fun i v => ∃ t, v = .int (val i) t) Fin k i ys news := by
    intro k
    induction k with
    | zero =>
      intro i ys hi hy
      rw [Nat.add_zero] at hi
      subst hi
      exact LCt.CompRestT.zero (fin ys hy)
    | succ k ih =>
      intro i ys hi hy
      refine LCt.CompRestT.succ ?_
      rintro v I oI C oC D m₂ h tk E' ⟨t, rfl⟩ hC hx F N off ne
      refine wpAny_mono (test i t I oI C oC D ys m₂ h tk E' hC hx F N) (fun ok s' h' => ?_) fun _ _ e => e
      obtain ⟨rfl, h', tk', rfl, F', N'⟩ := h'
      cases hp : p i with
      | true =>
        simp only [if_true]
        refine wpAny_mono (elem i t I oI C oC D ys m₂ h' tk' E' hC hx F' N') (fun y s' h'' => ?_) fun _ _ e => e
        obtain ⟨rfl, h'', tk'', rfl, F'', N''⟩ := h''
        exact ⟨h'', tk'', news, rfl, F'', N'', off, trivial, ih (i + 1) _ (by omega) (by rw [selL_yes hp]; exact ints_append hy (.cons _ _ .nil))⟩
      | false =>
        simp only [Bool.false_eq_true, if_false]
        exact ⟨h', tk', news, rfl, F', N', off, trivial, ih (i + 1) _ (by omega) (by rw [selL_no hp]; exact hy)⟩
  exact all n 0 [] (Nat.zero_add n) .nil
end

end
section
theorem rs_L16i : True := by
  w_top off
  trivial
section
open PyProof.Rows.LCg
local macro_rules | `(tactic| walk_at "exec For") => `(tactic| (refine Hold.mk ?_))
local macro_rules | `(tactic| walk_at "exec For Name Call cons nil") => `(tactic| (refine Hold.mk ?_))
local macro_rules | `(tactic| walk_at "call ref") => `(tactic| (refine Hold.mk ?_))
local macro_rules | `(tactic| walk_at "call type:list") => `(tactic| (refine Hold.mk ?_))
local macro_rules | `(tactic| walk_at "call builtin:len") => `(tactic| (refine Hold.mk ?_))
local macro_rules | `(tactic| walk_at "eval ListComp") => `(tactic| (refine Hold.mk ?_))
local macro_rules | `(tactic| walk_at "compareOp NotEq ref ref") => `(tactic| (refine Hold.mk ?_))
local macro_rules | `(tactic| walk_at "call type:range") => `(tactic| ((with_reducible show wpAny _ _ (call _ [_, _, _]) _ _ _); refine Hold.mk ?_))
local macro_rules | `(tactic| walk_at "subscriptTail Name Name ref int") => `(tactic| (refine Hold.mk ?_))
inductive MiI (h₀ : Heap) (L : Addr) (rest : List (Addr × Obj)) (s : Shared) (m : Str → Option Value) (j : Nat) (I : Addr) (n : Nat) (s' : Shared) : Prop
  | mk (i : Nat) (T1 T2 : List (Addr × Obj)) (mp : Str → Option Value) (h : Heap) (tks : Nat) (e1 : s' = { s with heap := h, toks := tks }) (e2 : n = j - i) (e3 : i ≤ j) (e4 : Tabs T1 T2 ((I, riObj (i : Int) ((j : Int) - (i : Int)) 1) :: rest)) (e5 : (∀ p ∈ rest, p.1 ≠ I)) (e6 : Fr h₀ L h mp) (e7 : News h₀ L h ((I, riObj (i : Int) ((j : Int) - (i : Int)) 1) :: (T1 ++ (T2 ++ rest)))) (e8 : (∀ y, y ≠ Str.ofString "i" → y ≠ Str.ofString "number" → y ≠ Str.ofString "product" → y ≠ Str.ofString "least" → y ≠ Str.ofString "left" → y ≠ Str.ofString "k" → y ≠ Str.ofString "found" → mp y = m y))
theorem law16i {prog : Program} {w : World} {p : Program} {loose : List Str} {mean : ExcName → Option Value} {mg mb : Str → Option Value} {dp un : Nat} {gd : Option (List Code)} {fa : Addr} {cd : Value} {outer : List Env} {A₀ : Around} {base h₀ : Heap} {L c1 c2 c3 c4 : Addr} {a b c d : Int} {m : Str → Option Value} {s : Shared}
    {Q : Flow → Shared → Prop} {E : Value → Shared → Prop} (B : Below A₀ base outer h₀) (F : Fr h₀ L s.heap m) (X : (hd.heap_1 w.params).In h₀) {T1 T2 rest : List (Addr × Obj)} (N : News h₀ L s.heap (T1 ++ (T2 ++ rest))) (T : Top p loose mean mg mb h₀) (hdp : dp + 400 < recursionLimit) (hun : un + 4000 < cLine) (hE9 : PassesOwn (model prog w) (ktrTop dp un gd (Str.ofString "law") lawScope.1 L fa cd (lawCl c1 c2 c3 c4) outer) (envX (Str.ofString "law") lawScope.1 L fa cd (lawCl c1 c2 c3 c4)) E)
    (hT : Tabs T1 T2 rest) (j sn : Nat) (hj : j < 4) (hM : [a, b, c, d] ∈ modsL) (tj tl ts th to : Tok) (x0 x1 x2 x3 hl : Addr) (os ol : Obj) (v3 : m (Str.ofString "hosts") = some (.ref hl)) (v4 : m (Str.ofString "letters") = some (.str (apS sn) tl)) (v5 : m (Str.ofString "j") = some (.int (j : Int) tj)) (v6 : m (Str.ofString "high") = some (.int (a * b * c) th)) (g1 : (hl, LCg.lst [.ref x0, .ref x1, .ref x2, .ref x3]) ∈ rest) (g2 : (c3, os) ∈ rest) (hos : os.data = .cell (some (.int (sn : Int) ts))) (g3 : (c4, ol) ∈ rest) (hol : ol.data = .cell (some (.int (c * d) to))) (gx : ∀ k, k < 4 → ∃ t1 t2, (ad4 x0 x1 x2 x3 k, tup2 (.int ((sn : Int) % md4 a b c d k) t1) (.int (md4 a b c d k) t2)) ∈ rest) (hS2 : (sn : Int) < a * b * c) (hret : ∀ h tk mp T1' T2', (∀ y, y ≠ Str.ofString "i" → y ≠ Str.ofString "number" → y ≠ Str.ofString "product" → y ≠ Str.ofString "least" → y ≠ Str.ofString "left" → y ≠ Str.ofString "k" → y ≠ Str.ofString "found" → mp y = m y) → Tabs T1' T2' rest → Fr h₀ L h mp → News h₀ L h (T1' ++ (T2' ++ rest)) → Q .next { s with heap := h, toks := tk }) :
    wpAny (model prog w) (ktrTop dp un gd (Str.ofString "law") lawScope.1 L fa cd (lawCl c1 c2 c3 c4) outer) (exec part16i.1 (envX (Str.ofString "law") lawScope.1 L fa cd (lawCl c1 c2 c3 c4))) Q E s := by
  dsimp only [part16i, lawScope, lawCl]
  have hab : a * b * c < 2000 ∧ 3 * (c * d) + 1 < a * b * c ∧ 0 < c * d ∧ c * d < 300 := (mods_of hM).2.2.2.2.2.2.1
  have hsn : sn < 2000 := by omega
  k_steps
  refine Hold.out ?_
  k_dflt (refine' for_go2R ?hE ?hs (MiI h₀ L rest s m j) ?init ?step)
  case hE => exact hE9
  case hs => intro _; rfl
  case init =>
    k_steps
    rename IsRange _ _ _ _ _ _ _ _ => hr5
    rename Fr h₀ L _ _ => F5
    rename News h₀ L _ _ => N5
    refine wpAny_pyIter_range hr5 (rng_i hj).1 ?_
    rw [(rng_i hj).2]
    have hI := fun p hp => Nat.ne_of_lt (Heap.lt_size (N5 p hp).1)
    exact Hold.out ⟨_, _, rfl, 0, T1, T2, _, _, _, rfl, rfl, Nat.zero_le _, hT.cons (fun p hp => hI p (by rcases List.mem_append.mp hp with q | q <;> simp [q])), fun p hp => hI p (mem_R hp), F5.push _, News.push F5 N5 _ rfl, fun _ _ _ _ _ _ _ _ => rfl⟩
  case step =>
    rintro I n s' ⟨i, T1, T2, mp, h, tks, rfl, rfl, hij, hT6, hI, F6, N6, hmp⟩ Qa Ra hQa hRa
    have hoff : ∀ p ∈ T1 ++ (T2 ++ rest), p.1 ≠ I := by
      intro p hp
      have q := hT6.apart (.head _) p
      simp only [List.mem_append] at hp q
      rcases hp with hp | hp | hp
      · exact q (.inl hp)
      · exact q (.inr hp)
      · exact hI p hp
    by_cases hlt : i < j
    · k_dflt (refine' ri_item F6 N6 hoff ?hl ?_)
      case hl => omega
      intro h8 tk8 u8 F8 N8
      have w3 := (hmp (Str.ofString "hosts") (by decide) (by decide) (by decide) (by decide) (by decide) (by decide) (by decide)).trans v3
      have w4 := (hmp (Str.ofString "letters") (by decide) (by decide) (by decide) (by decide) (by decide) (by decide) (by decide)).trans v4
      have w5 := (hmp (Str.ofString "j") (by decide) (by decide) (by decide) (by decide) (by decide) (by decide) (by decide)).trans v5
      have w6 := (hmp (Str.ofString "high") (by decide) (by decide) (by decide) (by decide) (by decide) (by decide) (by decide)).trans v6
      have hi4 : i < 4 := Nat.lt_trans hlt hj
      obtain ⟨ta, tb, gi⟩ := gx i hi4
      obtain ⟨tc, td, gj⟩ := gx j hj
      have m1 := mem_R (T1 := T1) (T2 := T2) g1
      have e1 : (i : Int) + 1 = ((i + 1 : Nat) : Int) := by omega
      have e2 : (j : Int) - (i : Int) - 1 = (j : Int) - ((i + 1 : Nat) : Int) := by omega
      rw [e1, e2] at N8
      dsimp only
      k_steps
      refine Hold.out ?_
      rename Fr h₀ L _ _ => F1
      rename News h₀ L _ _ => N1
      k_dflt (refine' li_item (News.isList N1 (.tail _ m1)) ?z ?f (pick_ad hi4) ?_ ?hs)
      case z => exact Int.natCast_nonneg _
      case f => omega
      case hs => with_unfolding_all rfl
      k_steps
      refine Hold.out ?_
      k_dflt (refine' li_item (News.isList N1 (.tail _ m1)) ?z ?f (pick_ad hj) ?_ ?hs)
      case z => exact Int.natCast_nonneg _
      case f => omega
      case hs => with_unfolding_all rfl
      k_steps
      refine Hold.out ?_
      obtain ⟨p7, p17⟩ := md4_le hM hi4
      obtain ⟨q7, q17⟩ := md4_le hM hj
      obtain ⟨z1, z2, z3, z4⟩ := md_pair hM hlt hj
      have w0 := Int.emod_nonneg (sn : Int) (show md4 a b c d i ≠ 0 by omega)
      have w1 := Int.emod_lt_of_pos (sn : Int) (show 0 < md4 a b c d i by omega)
      have y0 := Int.emod_nonneg (sn : Int) (show md4 a b c d j ≠ 0 by omega)
      have y1 := Int.emod_lt_of_pos (sn : Int) (show 0 < md4 a b c d j by omega)
      have hI6 : ∀ p ∈ T1 ++ T2, p.1 ≠ I := hT6.apart (.head _)
      have hTT : Tabs T1 T2 ((I, riObj ((i + 1 : Nat) : Int) ((j : Int) - ((i + 1 : Nat) : Int)) 1) :: rest) := Tabs.cons (hT6.sub fun p hp => .tail _ hp) hI6
      k_dflt (refine' Con.use (law_both prog w _ _ _ _ ta tb tc td _ _ T1 T2 _ hTT (.tail _ gi) (.tail _ gj) (by omega) (by omega) z1 (by omega) (by omega)) ?zB ?zF ?zX ?zN ?zT ?zhk ?zd ?zu ?_)
      case zB => k_asm
      case zF => k_asm
      case zX => k_asm
      case zN => exact nin1 N1
      case zT => k_asm
      case zhk => rfl
      case zd => ktr_room
      case zu => ktr_units
      intro r9 new9 h9 tk9 hp9 F9 N9
      obtain ⟨M, ⟨r, u1, u2, T1', T2', rfl, rfl, d1, d2, d3⟩, e3, e4, e5, e6⟩ := hp9
      obtain ⟨f1, f2, f3⟩ := pair_facts (by omega) (by omega) z1 e3 e4 e5 e6
      clear e3 e4 e5 e6
      dsimp only
      k_steps
      refine Hold.out ?_
      generalize hP : md4 a b c d i * md4 a b c d j = P at *
      rename Fr h₀ L _ _ => F2
      rename News h₀ L _ _ => N2
      k_dflt (refine' Con.use (int_divmod prog w _ P _ _ T1' T2' _ d1 (by omega) (by omega) (by omega)) ?zB ?zF ?zX ?zN ?zT ?zhk ?zd ?zu ?_)
      case zB => k_asm
      case zF => k_asm
      case zX => k_asm
      case zN => exact ndrop1 N2
      case zT => k_asm
      case zhk => rfl
      case zd => ktr_room
      case zu => ktr_units
      intro r8 new8 h8' tk8' hp8 F8' N8'
      obtain ⟨r2, u3, u4, T1'', T2'', rfl, rfl, d4, d5, d6⟩ := hp8
      clear N2 F2
      obtain ⟨k0, n1, k1, k2, k3, k4, k5, k6, k7, k8, k9, k10, k11⟩ := left_facts (P := P) (S := (sn : Int)) (N := M) (low := c * d) (high := a * b * c) (least := c * d + 1 + (M - c * d - 1) % P) (by omega) (by omega) f1 rfl (by omega) (by omega)
      dsimp only
      k_steps
      refine Hold.out ?_
      generalize hlst : c * d + 1 + (M - c * d - 1) % P = lst at *
      rename Fr h₀ L _ _ => F3
      rename News h₀ L _ _ => N3
      k_dflt (refine' range3_rows F3 N3 ?hc ?_ ?hp)
      case hc => omega
      case hp => exact Or.inl (PyProof.noPylong_small (by omega))
      intro hA tkA ta1 ta2 ta3 hrA FA NA hkA
      dsimp only
      k_steps
      refine Hold.out ?_
      k_dflt (refine' list_rng_K rfl FA NA hrA ?sm (size_fact (by omega) k4 k7) ?hz ?_)
      case sm => exact small_fact (by omega) (by omega) (by omega)
      case hz => omega
      intro D us ep hB tkB FB NB lB hus
      have hlen : us.length = n1 := by rw [hus.length, rangeInts_length]
      dsimp only
      k_steps
      refine Hold.out ?_
      rename Fr h₀ L _ _ => F4
      rename News h₀ L _ _ => N4
      k_dflt (refine' len_K N4 (.head _) ?hf ?_)
      case hf => omega
      intro tL tkL
      rw [hlen]
      dsimp only
      k_steps
      refine Hold.out ?_
      rename Fr h₀ L _ _ => F5
      rename News h₀ L _ _ => N5
      obtain ⟨mm, hmm, FM⟩ := ex_fr F5
      clear F5
      have r1 : mm (Str.ofString "left") = some (.ref D) := (congrFun hmm _).trans rfl
      have r2' : mm (Str.ofString "high") = some (.int (a * b * c) th) := (congrFun hmm _).trans w6
      have r3 : mm (Str.ofString "product") = some (.int P u2) := (congrFun hmm _).trans rfl
      have m4 : (c4, ol) ∈ T1'' ++ (T2'' ++ ((I, riObj ((i + 1 : Nat) : Int) ((j : Int) - ((i + 1 : Nat) : Int)) 1) :: rest)) := mem_R (.tail _ g3)
      have m5 : (c3, os) ∈ T1'' ++ (T2'' ++ ((I, riObj ((i + 1 : Nat) : Int) ((j : Int) - ((i + 1 : Nat) : Int)) 1) :: rest)) := mem_R (.tail _ g2)
      k_dflt (refine' rngT_eval (m := mm) (h₀ := h₀) (L := L) ?clos ?cell ?kind ?names ?xa ?h ?hs)
      case clos => with_unfolding_all rfl
      case cell => decide
      case kind => rfl
      case names => decide
      case xa => rfl
      case hs => intro _; rfl
      case h =>
        k_steps
        refine Hold.out ?_
        rw [Int.fmod_eq_emod_of_nonneg _ (Int.le_of_lt z3)]
        rename Fr h₀ L _ _ => F6
        rename News h₀ L _ _ => N6
        k_dflt (refine' range3_rows F6 N6 ?hc ?_ ?hp)
        case hc => omega
        case hp => exact Or.inl (PyProof.noPylong_small (by omega))
        intro hA' tkA' tb1 tb2 tb3 hrA' FA' NA' hkA'
        refine Hold.out ⟨_, _, _, _, _, _, _, k0 + n1, _, by first | rfl | trivial, by first | rfl | trivial, FA', NA', hrA', ?sm, size_fact (by omega) k9 k8, ?sz, ?_⟩
        case sm => exact small_fact (by omega) (by omega) (by omega)
        case sz => rw [sizeLine_eq]; omega
        intro g7
        refine filt_rest (fun i => decide (c * d < (sn : Int) % P + (i : Int) * P)) (fun i => (sn : Int) % P + (i : Int) * P) ?test ?elem ?fin
        case test =>
          intro i7 t7 I7 oI7 C7 oC7 D7 ys7 m7 h7 tk7 E7 hC7 hx7 F7 N7
          k_steps
          rename Fr h₀ L _ _ => F8
          rename News h₀ L _ _ => N8
          exact Hold.out ⟨rfl, _, _, rfl, F8, N8⟩
        case elem =>
          intro i7 t7 I7 oI7 C7 oC7 D7 ys7 m7 h7 tk7 E7 hC7 hx7 F7 N7
          k_steps
          rename Fr h₀ L _ _ => F8
          rename News h₀ L _ _ => N8
          exact Hold.out ⟨rfl, _, _, rfl, F8, N8⟩
        case fin =>
          intro ys hys D7 h7 tk7 F7 N7 o7
          rw [sel_left z3 k1 k2 k3] at hys
          k_dflt (refine' ne_intsK (News.isList N7 (.tail _ (.head _))) hus (News.isList N7 (.head _)) hys ?hu ?_)
          case hu => ktr_units
          rw [decide_eq_true (rfl : rangeInts lst P n1 = rangeInts lst P n1)]
          dsimp only [Bool.not_true]
          k_steps
          refine Hold.out ?_
          rename Fr h₀ L _ _ => F9
          rename News h₀ L _ _ => N9
          have N10 := ndrop1 (ndrop1 (ndrop1 N9))
          k_dflt (refine' law16k (m := mm) ?zB F9 ?zX N10 ?zT hdp hun hE9 d4 i j sn hlt hj hM M u1 u2 tj tl ts x0 x1 x2 x3 hl os ((congrFun hmm _).trans rfl) (hP.symm ▸ r3) ((congrFun hmm _).trans w3) ((congrFun hmm _).trans w4) ((congrFun hmm _).trans w5) (.tail _ g1) (.tail _ g2) hos ?gx hS2 f2 (hP.symm ▸ f3) (hP.symm ▸ f1) ?_)
          case zB => k_asm
          case zX => k_asm
          case zT => k_asm
          case gx =>
            intro k hk
            obtain ⟨t1, t2, h⟩ := gx k hk
            exact ⟨t1, t2, .tail _ h⟩
          intro h6 tk6 mp6 T1' T2' hmp6 d7 F11 N11
          dsimp only
          k_steps
          refine Hold.out (hRa _ _ ?_)
          refine WInd.next (j - (i + 1)) (by omega) ?_
          refine ⟨i + 1, T1', T2', _, _, _, rfl, rfl, by omega, d7, hI, F11, nout1 N11, ?m⟩
          case m =>
            intro y y1 y2 y3 y4 y5 y6 y7
            rw [hmp6 y y6 y7, hmm]
            simp only [if_neg y1, if_neg y2, if_neg y3, if_neg y4, if_neg y5]
            exact hmp y y1 y2 y3 y4 y5 y6 y7
    · have hij4 : i = j := by omega
      subst hij4
      k_dflt (refine' ri_end rfl F6 N6 hoff (by omega) ?_)
      intro h8 F8 N8
      exact hQa _ (hret _ _ _ _ _ hmp (hT6.sub fun p hp => .tail _ hp) F8 N8)
end

end
section
theorem rs_L16 : True := by
  w_top off
  trivial
section
local macro_rules | `(tactic| walk_at "exec For") => `(tactic| (refine Hold.mk ?_))
local macro_rules | `(tactic| walk_at "exec For Name Call cons nil") => `(tactic| (refine Hold.mk ?_))
inductive OuI (h₀ : Heap) (L : Addr) (rest : List (Addr × Obj)) (s : Shared) (hl : Addr) (sn : Nat) (tl th : Tok) (a b c : Int) (I : Addr) (n : Nat) (s' : Shared) : Prop
  | mk (j : Nat) (T1 T2 : List (Addr × Obj)) (mp : Str → Option Value) (h : Heap) (tks : Nat) (e1 : s' = { s with heap := h, toks := tks }) (e2 : n = 4 - j) (e3 : j ≤ 4) (e4 : Tabs T1 T2 ((I, riObj (j : Int) (4 - (j : Int)) 1) :: rest)) (e5 : (∀ p ∈ rest, p.1 ≠ I)) (e6 : Fr h₀ L h mp) (e7 : News h₀ L h ((I, riObj (j : Int) (4 - (j : Int)) 1) :: (T1 ++ (T2 ++ rest)))) (e8 : mp (Str.ofString "hosts") = some (.ref hl)) (e9 : mp (Str.ofString "letters") = some (.str (apS sn) tl)) (e10 : mp (Str.ofString "high") = some (.int (a * b * c) th))
theorem law16 {prog : Program} {w : World} {p : Program} {loose : List Str} {mean : ExcName → Option Value} {mg mb : Str → Option Value} {dp un : Nat} {gd : Option (List Code)} {fa : Addr} {cd : Value} {outer : List Env} {A₀ : Around} {base h₀ : Heap} {L c1 c2 c3 c4 : Addr} {a b c d : Int} {m : Str → Option Value} {s : Shared}
    {Q : Flow → Shared → Prop} {E : Value → Shared → Prop} (B : Below A₀ base outer h₀) (F : Fr h₀ L s.heap m) (X : (hd.heap_1 w.params).In h₀) {T1 T2 rest : List (Addr × Obj)} (N : News h₀ L s.heap (T1 ++ (T2 ++ rest))) (T : Top p loose mean mg mb h₀) (hdp : dp + 400 < recursionLimit) (hun : un + 4000 < cLine) (hE9 : PassesOwn (model prog w) (ktrTop dp un gd (Str.ofString "law") lawScope.1 L fa cd (lawCl c1 c2 c3 c4) outer) (envX (Str.ofString "law") lawScope.1 L fa cd (lawCl c1 c2 c3 c4)) E)
    (hT : Tabs T1 T2 rest) (sn : Nat) (hM : [a, b, c, d] ∈ modsL) (tl ts th to : Tok) (x0 x1 x2 x3 hl : Addr) (os ol : Obj) (v3 : m (Str.ofString "hosts") = some (.ref hl)) (v4 : m (Str.ofString "letters") = some (.str (apS sn) tl)) (v6 : m (Str.ofString "high") = some (.int (a * b * c) th)) (g1 : (hl, LCg.lst [.ref x0, .ref x1, .ref x2, .ref x3]) ∈ rest) (g2 : (c3, os) ∈ rest) (hos : os.data = .cell (some (.int (sn : Int) ts))) (g3 : (c4, ol) ∈ rest) (hol : ol.data = .cell (some (.int (c * d) to))) (gx : ∀ k, k < 4 → ∃ t1 t2, (ad4 x0 x1 x2 x3 k, tup2 (.int ((sn : Int) % md4 a b c d k) t1) (.int (md4 a b c d k) t2)) ∈ rest) (hS2 : (sn : Int) < a * b * c) (hret : ∀ h tk mp T1' T2', Tabs T1' T2' rest → Fr h₀ L h mp → News h₀ L h (T1' ++ (T2' ++ rest)) → Q .next { s with heap := h, toks := tk }) :
    wpAny (model prog w) (ktrTop dp un gd (Str.ofString "law") lawScope.1 L fa cd (lawCl c1 c2 c3 c4) outer) (exec part16.1 (envX (Str.ofString "law") lawScope.1 L fa cd (lawCl c1 c2 c3 c4))) Q E s := by
  dsimp only [part16, lawScope, lawCl]
  k_steps
  refine Hold.out ?_
  k_dflt (refine' for_go2R ?hE ?hs (OuI h₀ L rest s hl sn tl th a b c) ?init ?step)
  case hE => exact hE9
  case hs => intro _; rfl
  case init =>
    k_steps
    rename IsRange _ _ _ _ _ _ _ _ => hr5
    rename Fr h₀ L _ _ => F5
    rename News h₀ L _ _ => N5
    refine wpAny_pyIter_range hr5 (by decide) ?_
    have hI := fun p hp => Nat.ne_of_lt (Heap.lt_size (N5 p hp).1)
    exact Hold.out ⟨_, _, rfl, 0, T1, T2, _, _, _, rfl, rfl, Nat.zero_le _, hT.cons (fun p hp => hI p (by rcases List.mem_append.mp hp with q | q <;> simp [q])), fun p hp => hI p (mem_R hp), F5.push _, News.push F5 N5 _ rfl, v3, v4, v6⟩
  case step =>
    rintro I n s' ⟨j, T1, T2, mp, h, tks, rfl, rfl, hij, hT6, hI, F6, N6, w3, w4, w6⟩ Qa Ra hQa hRa
    have hoff : ∀ p ∈ T1 ++ (T2 ++ rest), p.1 ≠ I := by
      intro p hp
      have q := hT6.apart (.head _) p
      simp only [List.mem_append] at hp q
      rcases hp with hp | hp | hp
      · exact q (.inl hp)
      · exact q (.inr hp)
      · exact hI p hp
    by_cases hlt : j < 4
    · k_dflt (refine' ri_item F6 N6 hoff ?hl ?_)
      case hl => omega
      intro h8 tk8 u8 F8 N8
      have e1 : (j : Int) + 1 = ((j + 1 : Nat) : Int) := by omega
      have e2 : (4 : Int) - (j : Int) - 1 = 4 - ((j + 1 : Nat) : Int) := by omega
      rw [e1, e2] at N8
      dsimp only
      k_steps
      refine Hold.out ?_
      rename Fr h₀ L _ _ => F1
      rename News h₀ L _ _ => N1
      have hI6 : ∀ p ∈ T1 ++ T2, p.1 ≠ I := hT6.apart (.head _)
      have hTT : Tabs T1 T2 ((I, riObj ((j + 1 : Nat) : Int) (4 - ((j + 1 : Nat) : Int)) 1) :: rest) := Tabs.cons (hT6.sub fun p hp => .tail _ hp) hI6
      k_dflt (refine' law16i ?zB F1 ?zX (nin1 N1) ?zT hdp hun hE9 hTT j sn hlt hM _ tl ts th to x0 x1 x2 x3 hl os ol w3 w4 rfl w6 (.tail _ g1) (.tail _ g2) hos (.tail _ g3) hol ?gx hS2 ?_)
      case zB => k_asm
      case zX => k_asm
      case zT => k_asm
      case gx =>
        intro k hk
        obtain ⟨t1, t2, h⟩ := gx k hk
        exact ⟨t1, t2, .tail _ h⟩
      intro h6 tk6 mp6 T1' T2' hmp6 d7 F11 N11
      dsimp only
      k_steps
      refine Hold.out (hRa _ _ ?_)
      refine WInd.next (4 - (j + 1)) (by omega) ?_
      refine ⟨j + 1, T1', T2', _, _, _, rfl, rfl, hlt, d7, hI, F11, nout1 N11, ?w3, ?w4, ?w6⟩
      case w3 => exact (hmp6 (Str.ofString "hosts") (by decide) (by decide) (by decide) (by decide) (by decide) (by decide) (by decide)).trans w3
      case w4 => exact (hmp6 (Str.ofString "letters") (by decide) (by decide) (by decide) (by decide) (by decide) (by decide) (by decide)).trans w4
      case w6 => exact (hmp6 (Str.ofString "high") (by decide) (by decide) (by decide) (by decide) (by decide) (by decide) (by decide)).trans w6
    · k_dflt (refine' ri_end rfl F6 N6 hoff (by omega) ?_)
      intro h8 F8 N8
      exact hQa _ (hret _ _ _ _ _ (hT6.sub fun p hp => .tail _ hp) F8 N8)
end

end
section
theorem rs_MLet : True := by
  w_top off
  trivial
section
noncomputable def tx4 (n : Nat) : Str := ⟨#[65 + n / 4096 % 16, 65 + n / 256 % 16, 65 + n / 16 % 16, 65 + n % 16]⟩
theorem lstrip_A (l : List Nat) : Txt.lstripChars ⟨l.toArray⟩ (Str.ofString "A") = ⟨(l.dropWhile (· == 65)).toArray⟩ := by
  have hA : (Str.ofString "A").cps = #[65] := by decide +kernel
  unfold Txt.lstripChars
  rw [PyProof.Rows.stripBy_eq, hA]
  unfold stripLo stripHi Builtin.Str.strSub
  have hg : (#[65] : Array Nat).contains = fun c => c == 65 := by
    funext c
    rw [Bool.eq_iff_iff]
    simp
  rw [hg, if_pos rfl, if_neg (by decide)]
  have hd : l.drop (l.takeWhile (fun c => c == 65)).length = l.dropWhile (fun c => c == 65) := by
    conv => lhs; arg 2; rw [← List.takeWhile_append_dropWhile (p := fun c => c == 65) (l := l)]
    rw [List.drop_left]
  have hz : (⟨l.toArray⟩ : Str).length = l.length := rfl
  rw [hz]
  congr 1
  simp only [List.extract_toArray, List.extract_eq_take_drop]
  rw [hd, List.take_of_length_le]
  rw [← hd, List.length_drop]
  exact Nat.le_refl _
theorem strip_all {n : Nat} (hn : n < 2000) : Txt.lstripChars (tx4 n) (Str.ofString "A") = apS n := by
  have h3 : n / 4096 % 16 = 0 := by omega
  have e : tx4 n = ⟨[65, 65 + n / 256 % 16, 65 + n / 16 % 16, 65 + n % 16].toArray⟩ := by unfold tx4; rw [h3]
  rw [e, lstrip_A]
  unfold apS
  congr 2
  have q0 : (65 + n % 16) % 256 = 65 + n % 16 := by omega
  have q1 : (65 + n / 16 % 16) % 256 = 65 + n / 16 % 16 := by omega
  have q2 : (65 + n / 16 / 16 % 16) % 256 = 65 + n / 16 / 16 % 16 := by omega
  have d2 : n / 256 = n / 16 / 16 := by omega
  have d3 : n / 16 / 16 / 16 = 0 := by omega
  rw [d2]
  by_cases h0 : n = 0
  · subst h0
    decide
  by_cases h1 : n / 16 = 0
  · have a0 : n % 16 ≠ 0 := by omega
    simp [apB, h0, h1, a0, q0]
  by_cases h2 : n / 16 / 16 = 0
  · have a1 : n / 16 % 16 ≠ 0 := by omega
    simp [apB, h0, h1, h2, a1, q0, q1]
  have a2 : n / 16 / 16 % 16 ≠ 0 := by omega
  simp [apB, h0, h1, h2, d3, a2, q0, q1, q2]
theorem item_letter : ∀ v, v < 16 → Txt.item "ABCDEFGHIJKLMNOP" ((v : Nat) : Int) = ⟨#[65 + v]⟩ := by decide +kernel
theorem letter_at {n k q : Nat} (hq : 16 ^ k = q) : Txt.item "ABCDEFGHIJKLMNOP" (((n : Int).fdiv (16 ^ Int.toNat (k : Int))).fmod 16) = ⟨#[65 + n / q % 16]⟩ := by
  have hp : (0 : Int) ≤ 16 ^ k := Int.le_of_lt (Int.pow_pos (by decide))
  have e : ((n : Int).fdiv (16 ^ Int.toNat (k : Int))).fmod 16 = ((n / q % 16 : Nat) : Int) := by
    rw [Int.toNat_natCast, Int.fmod_eq_emod_of_nonneg _ (by decide), Int.fdiv_eq_ediv_of_nonneg _ hp]
    subst hq
    push_cast
    rfl
  rw [e]
  exact item_letter _ (Nat.mod_lt _ (by decide))
theorem join_4 {prog : Program} {w : World} {A : Around} {E : Value → Shared → Prop} {s : Shared} {Q : Value → Shared → Prop} {D : Addr} {a b c d : Nat} {t t0 t1 t2 t3 : Tok} (hl : s.heap.IsList D [Value.str ⟨#[a]⟩ t0, .str ⟨#[b]⟩ t1, .str ⟨#[c]⟩ t2, .str ⟨#[d]⟩ t3].toArray)
    (h : ∀ t' k, Q (.str ⟨#[a, b, c, d]⟩ t') { s with toks := k }) : wpAny (model prog w) A (call (.builtin "str.join") [.str (Str.ofString "") t, .ref D]) Q E s :=
  PySem.SC.join (l := [((⟨#[a]⟩ : Str), t0), ((⟨#[b]⟩ : Str), t1), ((⟨#[c]⟩ : Str), t2), ((⟨#[d]⟩ : Str), t3)]) (texts := [⟨#[a]⟩, ⟨#[b]⟩, ⟨#[c]⟩, ⟨#[d]⟩]) hl rfl rfl h
theorem join_four {a b c d : Nat} : Txt.join (Str.ofString "") [⟨#[a]⟩, ⟨#[b]⟩, ⟨#[c]⟩, ⟨#[d]⟩] = ⟨#[a, b, c, d]⟩ := by rfl
end

end
section
theorem rs_L14 : True := by
  w_top off
  trivial
section
local macro_rules | `(tactic| walk_at "eval ListComp") => `(tactic| (refine Hold.mk ?_))
local macro_rules | `(tactic| walk_at "call builtin:str.lstrip") => `(tactic| (refine Hold.mk ?_))
local macro_rules | `(tactic| walk_at "call builtin:str.join") => `(tactic| (refine Hold.mk ?_))
theorem ltr3 {n : Nat} : Txt.item "ABCDEFGHIJKLMNOP" (((n : Int).fdiv (16 ^ Int.toNat 3)).fmod 16) = ⟨#[65 + n / 4096 % 16]⟩ := letter_at (k := 3) (by decide)
theorem ltr2 {n : Nat} : Txt.item "ABCDEFGHIJKLMNOP" (((n : Int).fdiv (16 ^ Int.toNat 2)).fmod 16) = ⟨#[65 + n / 256 % 16]⟩ := letter_at (k := 2) (by decide)
theorem ltr1 {n : Nat} : Txt.item "ABCDEFGHIJKLMNOP" (((n : Int).fdiv (16 ^ Int.toNat 1)).fmod 16) = ⟨#[65 + n / 16 % 16]⟩ := letter_at (k := 1) (by decide)
theorem ltr0 {n : Nat} : Txt.item "ABCDEFGHIJKLMNOP" (((n : Int).fdiv (16 ^ Int.toNat 0)).fmod 16) = ⟨#[65 + n % 16]⟩ := by
  rw [show n % 16 = n / 1 % 16 by rw [Nat.div_one]]
  exact letter_at (k := 0) (by decide)
noncomputable def part14 : { st : Stmt // st = lawBody.1.getD 14 default } := by
  have h : lawBody.1.getD 14 default = lawBody.1.getD 14 default := rfl
  conv at h => rhs; whnf
  exact ⟨_, h.symm⟩
theorem law14 {prog : Program} {w : World} {p : Program} {loose : List Str} {mean : ExcName → Option Value} {mg mb : Str → Option Value} {dp un : Nat} {gd : Option (List Code)} {fa : Addr} {cd : Value} {outer : List Env} {A₀ : Around} {base h₀ : Heap} {L c1 c2 c3 c4 ml : Addr} {t0 t1 t2 t3 t4 t5 : Tok} {a b c d x : Int} {oc : Obj} {m : Str → Option Value} {s : Shared}
    {Q : Flow → Shared → Prop} {E : Value → Shared → Prop} (B : Below A₀ base outer h₀) (F : Fr h₀ L s.heap m) (X : (hd.heap_1 w.params).In h₀) {rest : List (Addr × Obj)} (N : News h₀ L s.heap (rest)) (T : Top p loose mean mg mb h₀) (hdp : dp + 400 < recursionLimit) (hun : un + 4000 < cLine) (hE9 : PassesOwn (model prog w) (ktrTop dp un gd (Str.ofString "law") lawScope.1 L fa cd (lawCl c1 c2 c3 c4) outer) (envX (Str.ofString "law") lawScope.1 L fa cd (lawCl c1 c2 c3 c4)) E)
    (os : Obj) (sn : Nat) (ts : Tok) (g4 : (c3, os) ∈ rest) (hos : os.data = .cell (some (.int (sn : Int) ts))) (hS2 : sn < 2000) (hret : ∀ h tk t, Fr h₀ L h (fun z => if z = Str.ofString "letters" then some (.str (apS sn) t) else m z) → News h₀ L h rest → Q .next { s with heap := h, toks := tk }) :
    wpAny (model prog w) (ktrTop dp un gd (Str.ofString "law") lawScope.1 L fa cd (lawCl c1 c2 c3 c4) outer) (exec part14.1 (envX (Str.ofString "law") lawScope.1 L fa cd (lawCl c1 c2 c3 c4))) Q E s := by
  dsimp only [part14, lawScope, lawCl]
  k_steps
  refine Hold.out ?_
  k_dflt (refine' rng_eval (m := m) (h₀ := h₀) (L := L) ?clos ?cell ?kind ?names ?xa ?h ?hs)
  case clos => with_unfolding_all rfl
  case cell => decide
  case kind => rfl
  case names => decide
  case xa => rfl
  case hs => intro _; rfl
  k_steps
  rename Fr h₀ L _ _ => F5
  rename News h₀ L _ _ => N5
  rename IsRange _ _ _ _ _ _ _ _ => hr5
  refine Hold.out ⟨_, 3, -1, -1, _, _, _, 4, _, by first | rfl | trivial, by first | rfl | trivial, F5, N5, hr5, by first | decide | trivial, by first | decide | trivial, by first | exact Nat.le_of_ble_eq_true rfl | trivial, ?_⟩
  intro g5
  refine LCg.CompRest.succ ?_
  rintro v9 I9 oI9 C9 oC9 D9 m9 h9 tk9 E9 ⟨t9, rfl⟩ hC9 hx9 F9 N9 off9 ne9
  rw [show ((3 : Int) + ((0 : Nat) : Int) * (-1)) = 3 from by decide] at hx9
  k_steps
  rw [ltr3]
  rename Fr h₀ L _ _ => F8
  rename News h₀ L _ _ => N8
  refine LCg.CompEnd.intro F8 N8 rest ?sub off9 trivial ?_
  case sub => exact fun p hp => hp
  clear F8 N8 hC9 hx9 off9 ne9
  refine LCg.CompRest.succ ?_
  rintro v9 I9 oI9 C9 oC9 D9 m9 h9 tk9 E9 ⟨t9, rfl⟩ hC9 hx9 F9 N9 off9 ne9
  rw [show ((3 : Int) + ((1 : Nat) : Int) * (-1)) = 2 from by decide] at hx9
  k_steps
  rw [ltr2]
  rename Fr h₀ L _ _ => F8
  rename News h₀ L _ _ => N8
  refine LCg.CompEnd.intro F8 N8 rest ?sub off9 trivial ?_
  case sub => exact fun p hp => hp
  clear F8 N8 hC9 hx9 off9 ne9
  refine LCg.CompRest.succ ?_
  rintro v9 I9 oI9 C9 oC9 D9 m9 h9 tk9 E9 ⟨t9, rfl⟩ hC9 hx9 F9 N9 off9 ne9
  rw [show ((3 : Int) + ((2 : Nat) : Int) * (-1)) = 1 from by decide] at hx9
  k_steps
  rw [ltr1]
  rename Fr h₀ L _ _ => F8
  rename News h₀ L _ _ => N8
  refine LCg.CompEnd.intro F8 N8 rest ?sub off9 trivial ?_
  case sub => exact fun p hp => hp
  clear F8 N8 hC9 hx9 off9 ne9
  refine LCg.CompRest.succ ?_
  rintro v9 I9 oI9 C9 oC9 D9 m9 h9 tk9 E9 ⟨t9, rfl⟩ hC9 hx9 F9 N9 off9 ne9
  rw [show ((3 : Int) + ((3 : Nat) : Int) * (-1)) = 0 from by decide] at hx9
  k_steps
  rw [ltr0]
  rename Fr h₀ L _ _ => F8
  rename News h₀ L _ _ => N8
  refine LCg.CompEnd.intro F8 N8 rest ?sub off9 trivial ?_
  case sub => exact fun p hp => hp
  clear F8 N8 hC9 hx9 off9 ne9
  k_steps
  refine Hold.out ?_
  rename Fr h₀ L _ _ => F7
  rename News h₀ L _ _ => N7
  k_dflt (refine' join_4 (News.isList N7 (.head _)) ?_)
  intro t1 k1
  rw [show (⟨#[65 + sn / 4096 % 16, 65 + sn / 256 % 16, 65 + sn / 16 % 16, 65 + sn % 16]⟩ : Str) = tx4 sn from rfl]
  k_steps
  refine Hold.out ?_
  k_dflt (refine' PySem.SC.lstripChars ?_ ?hsz)
  case hsz => exact Nat.le_of_ble_eq_true rfl
  intro t2 k2
  rw [strip_all hS2]
  k_steps
  rename Fr h₀ L _ _ => F6
  rename News h₀ L _ _ => N6
  exact hret _ _ _ F6 (ndrop1 N6)
end

end
section
theorem rs_LAll : True := by
  w_top off
  trivial
section
theorem hosts_of {S : Int} {a b c d : Int} {r : Nat} {kvs9 : List (Str × Value)} {tups : List (Addr × Obj)} (hr : r < 4)
    (hacc : DAcc (fun j => nm4 ((j + r) % 4)) (fun i vv new1 => ∃ x t1 t2, vv = Value.ref x ∧ new1 = [(x, tup2 (.int (S % md4 a b c d ((i + r) % 4)) t1) (.int (md4 a b c d ((i + r) % 4)) t2))]) 4 kvs9 tups) :
    ∃ y0 y1 y2 y3, valueAt kvs9 (Str.ofString "a") = some (.ref y0) ∧ valueAt kvs9 (Str.ofString "b c") = some (.ref y1) ∧ valueAt kvs9 (Str.ofString "d\"") = some (.ref y2) ∧ valueAt kvs9 (Str.ofString "\\e") = some (.ref y3) ∧ (∀ p ∈ tups, ∃ u v, p.2 = tup2 u v) ∧
      ∀ k, k < 4 → ∃ t1 t2, (ad4 y0 y1 y2 y3 k, tup2 (.int (S % md4 a b c d k) t1) (.int (md4 a b c d k) t2)) ∈ tups := by
  obtain ⟨v0, v1, v2, v3, n0, n1, n2, n3, ⟨x0, s0, r0, rfl, rfl⟩, ⟨x1, s1, r1, rfl, rfl⟩, ⟨x2, s2, r2, rfl, rfl⟩, ⟨x3, s3, r3, rfl, rfl⟩, rfl, rfl⟩ := DAcc.four hacc
  have hk : ∀ p ∈ [(x3, tup2 (.int (S % md4 a b c d ((3 + r) % 4)) s3) (.int (md4 a b c d ((3 + r) % 4)) r3))] ++ ([(x2, tup2 (.int (S % md4 a b c d ((2 + r) % 4)) s2) (.int (md4 a b c d ((2 + r) % 4)) r2))] ++ ([(x1, tup2 (.int (S % md4 a b c d ((1 + r) % 4)) s1) (.int (md4 a b c d ((1 + r) % 4)) r1))] ++ ([(x0, tup2 (.int (S % md4 a b c d ((0 + r) % 4)) s0) (.int (md4 a b c d ((0 + r) % 4)) r0))] ++ []))), ∃ u v, p.2 = tup2 u v := by
    intro p hp
    simp only [List.mem_append, List.mem_singleton, List.not_mem_nil, or_false] at hp
    rcases hp with rfl | rfl | rfl | rfl <;> exact ⟨_, _, rfl⟩
  have : r = 0 ∨ r = 1 ∨ r = 2 ∨ r = 3 := by omega
  rcases this with rfl | rfl | rfl | rfl
  · exact ⟨x0, x1, x2, x3, rfl, rfl, rfl, rfl, hk, four_cases ⟨_, _, .tail _ (.tail _ (.tail _ (.head _)))⟩ ⟨_, _, .tail _ (.tail _ (.head _))⟩ ⟨_, _, .tail _ (.head _)⟩ ⟨_, _, .head _⟩⟩
  · exact ⟨x3, x0, x1, x2, rfl, rfl, rfl, rfl, hk, four_cases ⟨_, _, .head _⟩ ⟨_, _, .tail _ (.tail _ (.tail _ (.head _)))⟩ ⟨_, _, .tail _ (.tail _ (.head _))⟩ ⟨_, _, .tail _ (.head _)⟩⟩
  · exact ⟨x2, x3, x0, x1, rfl, rfl, rfl, rfl, hk, four_cases ⟨_, _, .tail _ (.head _)⟩ ⟨_, _, .head _⟩ ⟨_, _, .tail _ (.tail _ (.tail _ (.head _)))⟩ ⟨_, _, .tail _ (.tail _ (.head _))⟩⟩
  · exact ⟨x1, x2, x3, x0, rfl, rfl, rfl, rfl, hk, four_cases ⟨_, _, .tail _ (.tail _ (.head _))⟩ ⟨_, _, .tail _ (.head _)⟩ ⟨_, _, .head _⟩ ⟨_, _, .tail _ (.tail _ (.tail _ (.head _)))⟩⟩
theorem nsub {h₀ h : Heap} {L : Addr} {l l' : List (Addr × Obj)} (N : News h₀ L h l) (hs : ∀ p ∈ l', p ∈ l) : News h₀ L h l' := fun p hp => N p (hs p hp)
theorem pull5 {h₀ h : Heap} {L : Addr} {a b c d e x : Addr × Obj} {l : List (Addr × Obj)} (N : News h₀ L h (a :: b :: c :: d :: e :: x :: l)) : News h₀ L h (x :: a :: b :: c :: d :: e :: l) := fun p hp => N p (by
  simp only [List.mem_cons] at hp ⊢
  rcases hp with h | h | h | h | h | h | h <;> simp [h])
theorem pull6 {h₀ h : Heap} {L : Addr} {a b c d e f x : Addr × Obj} {l : List (Addr × Obj)} (N : News h₀ L h (a :: b :: c :: d :: e :: f :: x :: l)) : News h₀ L h (x :: a :: b :: c :: d :: e :: f :: l) := fun p hp => N p (by
  simp only [List.mem_cons] at hp ⊢
  rcases hp with h | h | h | h | h | h | h | h <;> simp [h])
theorem pull7 {h₀ h : Heap} {L : Addr} {a b c d e f g x : Addr × Obj} {l : List (Addr × Obj)} (N : News h₀ L h (a :: b :: c :: d :: e :: f :: g :: x :: l)) : News h₀ L h (x :: a :: b :: c :: d :: e :: f :: g :: l) := fun p hp => N p (by
  simp only [List.mem_cons] at hp ⊢
  rcases hp with h | h | h | h | h | h | h | h | h <;> simp [h])
theorem pull8 {h₀ h : Heap} {L : Addr} {a b c d e f g k x : Addr × Obj} {l : List (Addr × Obj)} (N : News h₀ L h (a :: b :: c :: d :: e :: f :: g :: k :: x :: l)) : News h₀ L h (x :: a :: b :: c :: d :: e :: f :: g :: k :: l) := fun p hp => N p (by
  simp only [List.mem_cons] at hp ⊢
  rcases hp with h | h | h | h | h | h | h | h | h | h <;> simp [h])
theorem text_len {q b : Nat → List Nat} (hq : ∀ i, i < 4 → (q i).length ≤ 3) (hb : ∀ i, i < 4 → (b i).length ≤ 5) : (textL q b).length ≤ 1000 := by
  have l8 : m8.length = 8 := rfl
  have l10 : p10.length = 10 := rfl
  have q0 := hq 0 (by decide)
  have q1 := hq 1 (by decide)
  have q2 := hq 2 (by decide)
  have q3 := hq 3 (by decide)
  have b0 := hb 0 (by decide)
  have b1 := hb 1 (by decide)
  have b2 := hb 2 (by decide)
  have b3 := hb 3 (by decide)
  simp only [textL, lineL, List.length_append, List.length_cons, List.length_nil, l8, l10]
  omega
theorem qn4_len {i : Nat} (hi : i < 4) : (qn4 i).length ≤ 3 := four_cases (P := fun i => (qn4 i).length ≤ 3) (by decide) (by decide) (by decide) (by decide) i hi
noncomputable def part17 : { st : Stmt // st = lawBody.1.getD 17 default } := by
  have h : lawBody.1.getD 17 default = lawBody.1.getD 17 default := rfl
  conv at h => rhs; whnf
  exact ⟨_, h.symm⟩
theorem law_parts : lawBody.1 = [part0.1, part1.1, part2.1, part3.1, part4.1, part5.1, part6.1, part7.1, part8.1, part9.1, part10.1, part11.1, part12.1, part13.1, part14.1, part15.1, part16.1, part17.1] := by rfl
theorem tab_ne_tup {h₀ h : Heap} {L : Addr} {l : List (Addr × Obj)} {P x : Addr} {ps : Array Value} {u v : Value} (N : News h₀ L h l) (hP : (P, tabObj ps) ∈ l) (hx : (x, tup2 u v) ∈ l) : P ≠ x := by
  intro e
  subst e
  have h1 := (N _ hP).1.symm.trans (N _ hx).1
  have h2 := congrArg (fun o : Option Obj => o.map (·.cls)) h1
  exact absurd h2 (by simp)
theorem fin_led {h₀ h : Heap} {L : Addr} {x0 x1 x2 x3 y0 y1 y2 y3 y4 y5 y6 : Addr × Obj} {tups : List (Addr × Obj)} (N : News h₀ L h (x0 :: x1 :: x2 :: x3 :: (tups ++ (y0 :: y1 :: y2 :: y3 :: y4 :: y5 :: y6 :: (88, tabObj #[]) :: (81, tabObj #[]) :: [])))) (htup : ∀ p ∈ tups, ∃ u v, p.2 = tup2 u v) :
    (∀ x ∈ tups, (81 : Addr) ≠ x.1 ∧ (88 : Addr) ≠ x.1) ∧ News h₀ L h ([(81, tabObj #[])] ++ ([(88, tabObj #[])] ++ (x3 :: x0 :: y3 :: y4 :: tups))) := by
  have m88 : ((88 : Addr), tabObj #[]) ∈ x0 :: x1 :: x2 :: x3 :: (tups ++ (y0 :: y1 :: y2 :: y3 :: y4 :: y5 :: y6 :: (88, tabObj #[]) :: (81, tabObj #[]) :: [])) := .tail _ (.tail _ (.tail _ (.tail _ (List.mem_append_right _ (.tail _ (.tail _ (.tail _ (.tail _ (.tail _ (.tail _ (.tail _ (.head _))))))))))))
  have m81 : ((81 : Addr), tabObj #[]) ∈ x0 :: x1 :: x2 :: x3 :: (tups ++ (y0 :: y1 :: y2 :: y3 :: y4 :: y5 :: y6 :: (88, tabObj #[]) :: (81, tabObj #[]) :: [])) := .tail _ (.tail _ (.tail _ (.tail _ (List.mem_append_right _ (.tail _ (.tail _ (.tail _ (.tail _ (.tail _ (.tail _ (.tail _ (.tail _ (.head _)))))))))))))
  refine ⟨fun x hx => ?_, nsub N ?_⟩
  · obtain ⟨u, v, e9⟩ := htup x hx
    have hx' : (x.1, tup2 u v) ∈ x0 :: x1 :: x2 :: x3 :: (tups ++ (y0 :: y1 :: y2 :: y3 :: y4 :: y5 :: y6 :: (88, tabObj #[]) :: (81, tabObj #[]) :: [])) := .tail _ (.tail _ (.tail _ (.tail _ (List.mem_append_left _ (e9 ▸ hx)))))
    exact ⟨tab_ne_tup N m81 hx', tab_ne_tup N m88 hx'⟩
  · simp only [List.cons_append, List.nil_append]
    exact List.forall_mem_cons.mpr ⟨m81, List.forall_mem_cons.mpr ⟨m88, List.forall_mem_cons.mpr ⟨.tail _ (.tail _ (.tail _ (.head _))), List.forall_mem_cons.mpr ⟨.head _, List.forall_mem_cons.mpr ⟨.tail _ (.tail _ (.tail _ (.tail _ (List.mem_append_right _ (.tail _ (.tail _ (.tail _ (.head _)))))))), List.forall_mem_cons.mpr ⟨.tail _ (.tail _ (.tail _ (.tail _ (List.mem_append_right _ (.tail _ (.tail _ (.tail _ (.tail _ (.head _))))))))), fun p hp => .tail _ (.tail _ (.tail _ (.tail _ (List.mem_append_left _ hp))))⟩⟩⟩⟩⟩⟩
end

end
section
theorem rs_LJoin : True := by
  w_top off
  trivial
section
open PySem in
theorem law_all {prog : Program} {w : World} {p : Program} {loose : List Str} {mean : ExcName → Option Value} {mg mb : Str → Option Value} {dp un : Nat} {gd : Option (List Code)} {fa : Addr} {cd : Value} {outer : List Env} {A₀ : Around} {base h₀ : Heap} {L c1 c2 c3 c4 : Addr} {m : Str → Option Value} {s : Shared}
    {Q : Flow → Shared → Prop} {E : Value → Shared → Prop} (B : Below A₀ base outer h₀) (F : Fr h₀ L s.heap m) (X : (hd.heap_1 w.params).In h₀) {o1 o2 o3 o4 : Obj} (N : News h₀ L s.heap [(c1, o1), (c2, o2), (c3, o3), (c4, o4), (158, tabObj #[]), (88, tabObj #[]), (81, tabObj #[])]) (T : Top p loose mean mg mb h₀) (hdp : dp + 400 < recursionLimit) (hun : un + 4000 < cLine) (hE9 : PassesOwn (model prog w) (ktrTop dp un gd (Str.ofString "law") lawScope.1 L fa cd (lawCl c1 c2 c3 c4) outer) (envX (Str.ofString "law") lawScope.1 L fa cd (lawCl c1 c2 c3 c4)) E)
    (ho1 : o1.data = .cell none) (ho2 : o2.data = .cell none) (ho3 : o3.data = .cell none) (ho4 : o4.data = .cell none) (hc : @LT.lt Nat _ 158 c4 ∧ @LT.lt Nat _ c4 c3 ∧ @LT.lt Nat _ c3 c2 ∧ @LT.lt Nat _ c2 c1)
    (sc : Addr) (items : List Value) (ns : List Int) (hl : h₀.IsList sc items.toArray) (hI : IntsAre items ns) (hlen : ns.length ≤ 63) (v0 : m (Str.ofString "script") = some (.ref sc))
    (hret : ∀ h tk mp ps T1 T2 rest, Fr h₀ L h mp → News h₀ L h (T1 ++ (T2 ++ ((158, tabObj ps) :: rest))) → TabS 81 59 4 q81 T1 → TabS 88 74 4 q88 T2 → wpAny (model prog w) (ktrTop dp un gd (Str.ofString "law") lawScope.1 L fa cd (lawCl c1 c2 c3 c4) outer) (execs [part17.1] (envX (Str.ofString "law") lawScope.1 L fa cd (lawCl c1 c2 c3 c4))) Q E { s with heap := h, toks := tk }) :
    wpAny (model prog w) (ktrTop dp un gd (Str.ofString "law") lawScope.1 L fa cd (lawCl c1 c2 c3 c4) outer) (execs lawBody.1 (envX (Str.ofString "law") lawScope.1 L fa cd (lawCl c1 c2 c3 c4))) Q E s := by
  rw [law_parts]
  obtain ⟨l1, l2, l3, l4⟩ := hc
  have e34 : c3 ≠ c4 := Nat.ne_of_gt l2
  have e23 : c2 ≠ c3 := Nat.ne_of_gt l3
  have e12 : c1 ≠ c2 := Nat.ne_of_gt l4
  have e24 : c2 ≠ c4 := Nat.ne_of_gt (Nat.lt_trans l2 l3)
  have e13 : c1 ≠ c3 := Nat.ne_of_gt (Nat.lt_trans l3 l4)
  have e14 : c1 ≠ c4 := Nat.ne_of_gt (Nat.lt_trans l2 (Nat.lt_trans l3 l4))
  have a4 : c4 ≠ (158 : Addr) := Nat.ne_of_gt l1
  have a3 : c3 ≠ (158 : Addr) := Nat.ne_of_gt (Nat.lt_trans l1 l2)
  have a2 : c2 ≠ (158 : Addr) := Nat.ne_of_gt (Nat.lt_trans l1 (Nat.lt_trans l2 l3))
  have a1 : c1 ≠ (158 : Addr) := Nat.ne_of_gt (Nat.lt_trans l1 (Nat.lt_trans l2 (Nat.lt_trans l3 l4)))
  have far : ∀ k : Nat, k < 158 → c4 ≠ k ∧ c3 ≠ k ∧ c2 ≠ k ∧ c1 ≠ k := fun k hk => ⟨Nat.ne_of_gt (Nat.lt_trans hk l1), Nat.ne_of_gt (Nat.lt_trans hk (Nat.lt_trans l1 l2)), Nat.ne_of_gt (Nat.lt_trans hk (Nat.lt_trans l1 (Nat.lt_trans l2 l3))), Nat.ne_of_gt (Nat.lt_trans hk (Nat.lt_trans l1 (Nat.lt_trans l2 (Nat.lt_trans l3 l4))))⟩
  obtain ⟨a84, a83, a82, a81⟩ : c4 ≠ (88 : Addr) ∧ c3 ≠ (88 : Addr) ∧ c2 ≠ (88 : Addr) ∧ c1 ≠ (88 : Addr) := far 88 (by decide)
  obtain ⟨b84, b83, b82, b81⟩ : c4 ≠ (81 : Addr) ∧ c3 ≠ (81 : Addr) ∧ c2 ≠ (81 : Addr) ∧ c1 ≠ (81 : Addr) := far 81 (by decide)
  clear far
  have nq1 : (158 : Addr) ≠ 88 := by decide
  have nq2 : (158 : Addr) ≠ 81 := by decide
  have nq3 : (88 : Addr) ≠ 81 := by decide
  -- numbers
  refine' wpAny_execs_cons (law0 B F X N T hdp hun hE9 sc items ns hl hI hlen v0 ?_)
  all_goals (first | exact (0 : Int) | exact (0 : Tok) | exact (0 : Addr) | exact o1 | skip)
  intro nu h tk n0 n1 n2 k0 k1 k2 e F1 N1 hnu
  dsimp only
  -- moduli
  refine' wpAny_execs_cons (law1 B F1 X N1 T hdp hun hE9 ?_)
  all_goals (first | exact (0 : Int) | exact (0 : Tok) | exact (0 : Addr) | exact o1 | skip)
  intro ml h tk t0 t1 t2 t3 t4 t5 F2 N2 hml
  dsimp only
  -- the two that are left out
  refine' wpAny_execs_cons (law2 B F2 X N2 T hdp hun hE9 nu n0 n1 n2 k0 k1 k2 e hml (.head _) rfl rfl ?_)
  all_goals (first | exact (0 : Int) | exact (0 : Tok) | exact (0 : Addr) | exact o1 | skip)
  intro h tk a b c d x ta tb tc td te hf F3 N3
  dsimp only
  refine' wpAny_execs_cons (law3 B F3 X N3 T hdp hun hE9 hf nu n0 n1 n2 k0 k1 k2 e hml (.head _) rfl rfl ?_)
  all_goals (first | exact (0 : Int) | exact (0 : Tok) | exact (0 : Addr) | exact o1 | skip)
  intro h tk a b c d ta tb tc td hM F4 N4
  dsimp only
  have hab : a * b * c < 2000 ∧ 3 * (c * d) + 1 < a * b * c ∧ 0 < c * d ∧ c * d < 300 := (mods_of hM).2.2.2.2.2.2.1
  -- low
  have hc4n : c4 ≠ nu := hnu _ (.tail _ (.tail _ (.tail _ (.head _))))
  have hc3n : c3 ≠ nu := hnu _ (.tail _ (.tail _ (.head _)))
  have hc2n : c2 ≠ nu := hnu _ (.tail _ (.head _))
  have hc1n : c1 ≠ nu := hnu _ (.head _)
  have h158n : (158 : Addr) ≠ nu := hnu (158, tabObj #[]) (.tail _ (.tail _ (.tail _ (.tail _ (.head _)))))
  have hc4m : c4 ≠ ml := hml _ (.tail _ (.tail _ (.tail _ (.tail _ (.head _)))))
  have hc3m : c3 ≠ ml := hml _ (.tail _ (.tail _ (.tail _ (.head _))))
  have hc2m : c2 ≠ ml := hml _ (.tail _ (.tail _ (.head _)))
  have hc1m : c1 ≠ ml := hml _ (.tail _ (.head _))
  have h158m : (158 : Addr) ≠ ml := hml (158, tabObj #[]) (.tail _ (.tail _ (.tail _ (.tail _ (.tail _ (.head _))))))
  clear hnu hml
  refine' wpAny_execs_cons (law4 B F4 X (pull5 N4) T hdp hun hE9 (by (repeat' (first | exact List.forall_mem_nil _ | refine List.forall_mem_cons.mpr ⟨?_, ?_⟩)) <;> (dsimp only) <;> first | assumption | exact Ne.symm (by assumption) | exact neN (by omega)) ho4 (.head _) rfl hM ?_)
  all_goals (first | exact (0 : Int) | exact (0 : Tok) | exact (0 : Addr) | exact o1 | skip)
  intro h tk o4' to hd4 F5 N5
  dsimp only
  -- high
  refine' wpAny_execs_cons (law5 B F5 X N5 T hdp hun hE9 (.tail _ (.head _)) rfl hM ?_)
  all_goals (first | exact (0 : Int) | exact (0 : Tok) | exact (0 : Addr) | exact o1 | skip)
  intro h tk th F6 N6
  dsimp only
  -- secret
  refine' wpAny_execs_cons (law6 B F6 X (pull5 N6) T hdp hun hE9 (c * d) (a * b * c) o4' (by (repeat' (first | exact List.forall_mem_nil _ | refine List.forall_mem_cons.mpr ⟨?_, ?_⟩)) <;> (dsimp only) <;> first | assumption | exact Ne.symm (by assumption) | exact neN (by omega)) ho3 (.head _) hd4 rfl nu n0 n1 n2 k0 k1 k2 e (.tail _ (.tail _ (.head _))) rfl (by omega) (by omega) (by omega) ?_)
  all_goals (first | exact (0 : Int) | exact (0 : Tok) | exact (0 : Addr) | exact o1 | skip)
  intro h tk o3' ts hd3 F7 N7
  dsimp only
  have hs0 := Int.emod_nonneg n1 (show a * b * c - c * d - 1 ≠ 0 by omega)
  have hs1 := Int.emod_lt_of_pos n1 (show 0 < a * b * c - c * d - 1 by omega)
  obtain ⟨sn, hsn⟩ := Int.eq_ofNat_of_zero_le (show 0 ≤ c * d + 1 + n1 % (a * b * c - c * d - 1) by omega)
  rw [hsn] at hd3
  have hS2 : (sn : Int) < a * b * c := by omega
  clear hs0 hs1
  -- names
  refine' wpAny_execs_cons (law7 B F7 X N7 T hdp hun hE9 ?_)
  all_goals (first | exact (0 : Int) | exact (0 : Tok) | exact (0 : Addr) | exact o1 | skip)
  intro nl h tk u0 u1 u2 u3 F8 N8 hnl
  dsimp only
  have hc2l : c2 ≠ nl := hnl _ (.tail _ (.tail _ (.tail _ (.tail _ (.tail _ (.head _))))))
  have hc1l : c1 ≠ nl := hnl _ (.tail _ (.tail _ (.tail _ (.tail _ (.head _)))))
  have h158l : (158 : Addr) ≠ nl := hnl (158, tabObj #[]) (.tail _ (.tail _ (.tail _ (.tail _ (.tail _ (.tail _ (.head _)))))))
  clear hnl
  -- sign
  refine' wpAny_execs_cons (law8 B F8 X (pull6 N8) T hdp hun hE9 (by (repeat' (first | exact List.forall_mem_nil _ | refine List.forall_mem_cons.mpr ⟨?_, ?_⟩)) <;> (dsimp only) <;> first | assumption | exact Ne.symm (by assumption) | exact neN (by omega)) ho2 nu n0 n1 n2 k0 k1 k2 e (.tail _ (.tail _ (.tail _ (.tail _ (.head _))))) rfl ?_)
  all_goals (first | exact (0 : Int) | exact (0 : Tok) | exact (0 : Addr) | exact o1 | skip)
  intro h tk o2' sg tg hsg hd2 F9 N9
  dsimp only
  -- text
  refine' wpAny_execs_cons (law9 B F9 X N9 T hdp hun hE9 ?_)
  all_goals (first | exact (0 : Int) | exact (0 : Tok) | exact (0 : Addr) | exact o1 | skip)
  intro h tk tx F10 N10
  dsimp only
  have hr : n2 % 4 = ((n2 % 4).toNat : Int) := (Int.toNat_of_nonneg (Int.emod_nonneg _ (by decide))).symm
  have hr4 : (n2 % 4).toNat < 4 := by omega
  generalize (n2 % 4).toNat = r at hr hr4
  refine' wpAny_execs_cons (law10 B F10 X N10 T hdp hun hE9 nu nl n0 n1 n2 k0 k1 k2 tx u0 u1 u2 u3 ts e o3' (sn : Int) (.tail _ (.tail _ (.tail _ (.tail _ (.tail _ (.head _)))))) (.tail _ (.tail _ (.tail _ (.tail _ (.head _))))) (.tail _ (.head _)) (.tail _ (.tail _ (.head _))) hd3 hM (by omega) (by omega) r hr rfl rfl rfl rfl ?_)
  all_goals (first | exact (0 : Int) | exact (0 : Tok) | exact (0 : Addr) | exact o1 | skip)
  intro h tk mp txt tt htx w0 hmp F11 N11
  dsimp only
  have wn : mp (Str.ofString "names") = some (.ref nl) := (hmp _ (by decide) (by decide) (by decide) (by decide)).trans rfl
  have wm : mp (Str.ofString "moduli") = some (.ref ml) := (hmp _ (by decide) (by decide) (by decide) (by decide)).trans rfl
  have wh : mp (Str.ofString "high") = some (.int (a * b * c) th) := (hmp _ (by decide) (by decide) (by decide) (by decide)).trans rfl
  obtain ⟨b0, b1, b2, b3⟩ := (mods_of hM).2.2.2.2.2.2.2.1
  clear hmp
  -- replies
  refine' wpAny_execs_cons (law11 prog w p loose mean mg mb dp un gd fa cd outer A₀ base h₀ L c1 c2 c3 c4 _ _ _ _ B F11 X _ N11 T hdp hun nl ml u0 u1 u2 u3 ta tb tc td tg a b c d sg o2' wn wm (.tail _ (.head _)) (.tail _ (.tail _ (.tail _ (.tail _ (.head _))))) (.head _) hd2 b0 b1 b2 b3 hsg ?_)
  all_goals (first | exact (0 : Int) | exact (0 : Tok) | exact (0 : Addr) | exact o1 | skip)
  intro D h tk oD y0 y1 y2 y3 F12 N12 hro hD lo
  dsimp only
  have hc1D : c1 ≠ D := hD _ (.tail _ (.tail _ (.tail _ (.tail _ (.tail _ (.tail _ (.head _)))))))
  have h158D : (158 : Addr) ≠ D := hD (158, tabObj #[]) (.tail _ (.tail _ (.tail _ (.tail _ (.tail _ (.tail _ (.tail _ (.head _))))))))
  clear hD
  -- shares
  have mod4 : ∀ j : Nat, (j + r) % 4 < 4 := fun j => Nat.mod_lt _ (by decide)
  refine' wpAny_execs_cons (law12 B F12 X (pull8 (pull7 N12)) T hdp hun hE9 ho1 D oD txt tt sg y0 y1 y2 y3 r (sn : Int) hM hsg (.head _) hro lo w0 rfl htx ?hx (by (repeat' (first | exact List.forall_mem_nil _ | refine List.forall_mem_cons.mpr ⟨?_, ?_⟩)) <;> (dsimp only) <;> first | assumption | exact Ne.symm (by assumption) | exact neN (by omega)) (by (repeat' (first | exact List.forall_mem_nil _ | refine List.forall_mem_cons.mpr ⟨?_, ?_⟩)) <;> (dsimp only) <;> first | assumption | exact Ne.symm (by assumption) | exact neN (by omega)) ?_)
  all_goals (first | exact (0 : Int) | exact (0 : Tok) | exact (0 : Addr) | exact o1 | skip)
  case hx =>
    rw [← Array.length_toList, htx]
    exact text_len (fun i _ => qn4_len (mod4 i)) fun i _ => (word_letters _ (share_nat (S := (sn : Int)) hM (mod4 i)).1).2.1
  intro h tk o1' sd so kvs9 tups ps hd1 F13 N13 hso hacc lo9
  dsimp only
  obtain ⟨q0, q1, q2, q3, hv0, hv1, hv2, hv3, htup, gx⟩ := hosts_of hr4 hacc
  refine' wpAny_execs_cons (law13 B F13 X N13 T hdp hun hE9 nl sd so o1' o3' kvs9 tups (sn : Int) u0 u1 u2 u3 ts r hM wn wm (.tail _ (.tail _ (.tail _ (List.mem_append_right _ (.tail _ (.tail _ (.head _))))))) (.tail _ (.tail _ (.tail _ (List.mem_append_right _ (.tail _ (.tail _ (.tail _ (.tail _ (.tail _ (.head _)))))))))) (.head _) hd1 (.tail _ (.tail _ (.tail _ (List.mem_append_right _ (.tail _ (.tail _ (.tail _ (.head _)))))))) hd3 (.tail _ (.head _)) hso (fun p hp => .tail _ (.tail _ (.tail _ (List.mem_append_left _ hp)))) hacc lo9 ?_)
  all_goals (first | exact (0 : Int) | exact (0 : Tok) | exact (0 : Addr) | exact o1 | skip)
  intro h tk F14 N14
  dsimp only
  refine' wpAny_execs_cons (law14 B F14 X N14 T hdp hun hE9 o3' sn ts (.tail _ (.tail _ (.tail _ (List.mem_append_right _ (.tail _ (.tail _ (.tail _ (.head _)))))))) hd3 (by omega) ?_)
  all_goals (first | exact (0 : Int) | exact (0 : Tok) | exact (0 : Addr) | exact o1 | skip)
  intro h tk tl F15 N15
  dsimp only
  refine' wpAny_execs_cons (law15 B F15 X N15 T hdp hun hE9 nl sd so o1' kvs9 u0 u1 u2 u3 wn (.tail _ (.tail _ (.tail _ (List.mem_append_right _ (.tail _ (.tail _ (.head _))))))) (.head _) hd1 (.tail _ (.head _)) hso q0 q1 q2 q3 hv0 hv1 hv2 hv3 ?_)
  all_goals (first | exact (0 : Int) | exact (0 : Tok) | exact (0 : Addr) | exact o1 | skip)
  intro h tk hl9 F16 N16 hhl
  dsimp only
  have h88 := hhl (88, tabObj #[]) (.tail _ (.tail _ (.tail _ (List.mem_append_right _ (.tail _ (.tail _ (.tail _ (.tail _ (.tail _ (.tail _ (.tail _ (.head _))))))))))))
  have h81 := hhl (81, tabObj #[]) (.tail _ (.tail _ (.tail _ (List.mem_append_right _ (.tail _ (.tail _ (.tail _ (.tail _ (.tail _ (.tail _ (.tail _ (.tail _ (.head _)))))))))))))
  obtain ⟨hTt, N17⟩ := fin_led N16 htup
  have hT : Tabs [(81, tabObj #[])] [(88, tabObj #[])] ((158, tabObj ps) :: (hl9, LCg.lst [.ref q0, .ref q1, .ref q2, .ref q3]) :: (c3, o3') :: (c4, o4') :: tups) := by
    refine ⟨.inl rfl, .inl rfl, ?_, ?_, ?_⟩
    · intro p hp
      rw [List.mem_singleton.mp hp]
      exact neN (by omega)
    · intro p hp
      rw [List.mem_singleton.mp hp]
      exact neN (by omega)
    · intro p hp x hx
      simp only [List.cons_append, List.nil_append, List.mem_cons, List.not_mem_nil, or_false] at hp hx
      rcases hp with rfl | rfl <;> rcases hx with rfl | rfl | rfl | rfl | hx <;> first | assumption | exact (hTt _ hx).1 | exact (hTt _ hx).2 | exact neN (by dsimp only; omega)
  refine' wpAny_execs_cons (law16 B F16 X N17 T hdp hun hE9 hT sn hM tl ts th to q0 q1 q2 q3 hl9 o3' o4' rfl rfl wh (.tail _ (.head _)) (.tail _ (.tail _ (.head _))) hd3 (.tail _ (.tail _ (.tail _ (.head _)))) hd4 (fun k hk => by obtain ⟨t1, t2, h⟩ := gx k hk; exact ⟨t1, t2, .tail _ (.tail _ (.tail _ (.tail _ h)))⟩) hS2 ?_)
  all_goals (first | exact (0 : Int) | exact (0 : Tok) | exact (0 : Addr) | exact o1 | skip)
  intro h tk mp9 T1 T2 hT9 F18 N18
  dsimp only
  exact hret _ _ _ _ _ _ _ F18 N18 hT9.1 hT9.2.1
end

end
section
theorem rs_LTop : True := by
  w_top off
  trivial
theorem top : PySem.Challenge.rw_wj0034_01.Holds := by
  refine hd ?_
  k_go0
  (all_goals try k_fold)
  rename Below _ _ _ _ => K9
  rename Fr _ _ _ _ => F9
  rename News _ _ _ _ => N9
  rename Frag.In _ _ => X9
  rename Top _ _ _ _ _ _ => T9
  rename _ ∧ _ ∧ _ => l9
  rename IntsAre _ _ => I9
  rename Heap.IsList (ghostOf _ _) _ _ => L9
  k_dflt (refine' law_all K9 F9 X9 N9 T9 ?hdp ?hun ?hE9 ?ho1 ?ho2 ?ho3 ?ho4 ?hc _ _ _ L9 I9 ?hlen ?v0 ?hret)
  case hdp => decide
  case hun => decide
  case hc => obtain ⟨l1, -⟩ := l9; exact ⟨Nat.lt_succ_of_lt l1, Nat.lt_succ_self _, Nat.lt_succ_self _, Nat.lt_succ_self _⟩
  case hlen => omega
  case hE9 => first | passes_own | with_unfolding_all passes_own
  case v0 => rfl
  case ho1 => rename Obj.data _ = Data.cell (bindC _ _ _ (Str.ofString "shares")) => y1; exact y1
  case ho2 => rename Obj.data _ = Data.cell (bindC _ _ _ (Str.ofString "sign")) => y1; exact y1
  case ho3 => rename Obj.data _ = Data.cell (bindC _ _ _ (Str.ofString "secret")) => y1; exact y1
  case ho4 => rename Obj.data _ = Data.cell (bindC _ _ _ (Str.ofString "low")) => y1; exact y1
  case hret =>
    intro h tk mp ps T1 T2 rest F N hT1 hT2
    dsimp only [part17]
    refine wpAny_execs_cons ?_
    walk1
    (try dsimp only)
    walk1
    (try dsimp only)
    refine ⟨?_, ?g⟩
    case g =>
      obtain ⟨q1, h1⟩ : ∃ q, ((81 : Addr), tabObj q) ∈ T1 := by
        rcases hT1 with rfl | ⟨c', oc, vs, t, rfl, -⟩
        · exact ⟨_, .head _⟩
        · exact ⟨_, .head _⟩
      obtain ⟨q2, h2⟩ : ∃ q, ((88 : Addr), tabObj q) ∈ T2 := by
        rcases hT2 with rfl | ⟨c', oc, vs, t, rfl, -⟩
        · exact ⟨_, .head _⟩
        · exact ⟨_, .head _⟩
      exact ⟨GrownAt.of N (mem_R (.head _)), GrownAt.of N (List.mem_append_right _ (List.mem_append_left _ h2)), GrownAt.of N (List.mem_append_left _ h1), trivial⟩
    wrow_close

end
end Mine
theorem PySem.Challenge.cw_wj0034_01_holds : PySem.Challenge.rw_wj0034_01.Holds := by
  exact Mine.top
