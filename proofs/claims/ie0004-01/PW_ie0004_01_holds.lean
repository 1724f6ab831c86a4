import PyProof.Rows.All
import Wide.All
import OpenK.AllK
import Wide.FinOn
import PySem.Challenge.RW_ie0004_01
set_option Elab.async false
open PySem PySem.W PyProof.Rows
set_option maxRecDepth 100000 in
set_option maxHeartbeats 8000000 in
open_top hd for PySem.Challenge.rw_ie0004_01
section
open PySem PySem.W PyProof.Rows PySem.Spec PySem.Calls
namespace Mine
local macro_rules | `(tactic| walk_at "none of these") => `(tactic| fail)
abbrev PR : Program := PySem.Challenge.rw_ie0004_01.row.toRowW.prog
abbrev tup2 (x y : Value) (c : Nat) : Obj := { cls := .type "tuple", data := .seq #[x, y] c }
set_option maxRecDepth 100000 in
set_option maxHeartbeats 8000000 in
theorem div2n1n_c (w : World) {p : Program} {loose : List Str} {mean : ExcName → Option Value} {mg mb : Str → Option Value} (a b n : Int) (ta tb tn : Tok) (hb : 0 < b) (hb2 : b < 1000) (hbits : ((Builtin.Int.intBits a : Nat) : Int) - n ≤ 4000)
    {dp un : Nat} {gd : Option (List Code)} {cn : Str} {cs : Scope} {aL : Addr} {ccd : Value} {cl : List (Str × Addr)} {outer : List Env} {A₀ : Around} {base h₀ : Heap} {L : Addr} {m : Str → Option Value} {s : Shared} {Q E : Value → Shared → Prop} {news : List (Addr × Obj)}
    (B : Below A₀ base outer h₀) (F : Fr h₀ L s.heap m) (X : (hd.heap_39 w.params).In h₀) (N : News h₀ L s.heap news) (T : Top p loose mean mg mb h₀) (hk : cs.kind = .function) (hd : dp + 1 < recursionLimit) (hu : un + 8 < cLine)
    (hret : ∀ D t1 t2 c h' tk', Fr h₀ L h' m → News h₀ L h' ((D, tup2 (.int (Int.fdiv a b) t1) (.int (Int.fmod a b) t2) c) :: news) → (∀ p ∈ news, p.1 < D) → Q (.ref D) { s with heap := h', toks := tk' }) :
    wpAny (model PySem.Challenge.rw_ie0004_01.row.toRowW.prog w) (ktrTop dp un gd cn cs L aL ccd cl outer) (call (.ref 48) [.int a ta, .int b tb, .int n tn]) Q E s := by
  w_top off
  revert X; k_fill; intro X
  refine wpAny_call ?_
  k_dflt cell_enter
  k_steps
  all_goals (rename News _ _ _ news => NN; exact hret _ _ _ _ _ _ (by assumption) (by assumption) (fun p hp => Heap.lt_size (NN p hp).1))
end Mine
end
section
open PySem PySem.W PyProof.Rows
namespace Mine
/-- the k digits of x to the base 2^n, the lowest first -/
def dg (n : Nat) : Nat → Nat → List Int
  | 0, _ => []
  | k + 1, x => ((x % 2 ^ n : Nat) : Int) :: dg n k (x / 2 ^ n)
theorem dg_length (n : Nat) : ∀ k x, (dg n k x).length = k
  | 0, _ => rfl
  | k + 1, x => by rw [dg, List.length_cons, dg_length]
theorem dg_one {n x : Nat} (h : x < 2 ^ n) : dg n 1 x = [(x : Int)] := by
  simp [dg, Nat.mod_eq_of_lt h]
theorem dg_split (n : Nat) : ∀ i j x, dg n (i + j) x = dg n i (x % 2 ^ (n * i)) ++ dg n j (x / 2 ^ (n * i))
  | 0, j, x => by simp [dg]
  | i + 1, j, x => by
    have e : i + 1 + j = (i + j) + 1 := by omega
    have p : 2 ^ (n * (i + 1)) = 2 ^ n * 2 ^ (n * i) := by rw [Nat.mul_succ, Nat.add_comm, Nat.pow_add]
    rw [e, dg, dg_split n i j, dg, List.cons_append, p, Nat.mod_mul_right_div_self, Nat.mod_mul_right_mod, Nat.div_div_eq_div_mul]
theorem and_shift (X s : Nat) : X &&& (X / 2 ^ s * 2 ^ s) = X / 2 ^ s * 2 ^ s := by
  apply Nat.eq_of_testBit_eq
  intro i
  rw [Nat.testBit_and, Nat.testBit_mul_two_pow, Nat.testBit_div_two_pow]
  by_cases h : s ≤ i
  · simp [h]
  · simp [h]
theorem xor_low (X s : Nat) : Builtin.bitXor (X : Int) (((X / 2 ^ s : Nat) : Int) * 2 ^ s) = ((X % 2 ^ s : Nat) : Int) := by
  have e : (((X / 2 ^ s : Nat) : Int) * 2 ^ s) = ((X / 2 ^ s * 2 ^ s : Nat) : Int) := by push_cast; rfl
  rw [bitXor_and, e]
  have a : Builtin.bitAnd (X : Int) ((X / 2 ^ s * 2 ^ s : Nat) : Int) = ((X / 2 ^ s * 2 ^ s : Nat) : Int) := by
    unfold Builtin.bitAnd
    simp only [Int.natCast_nonneg, decide_true, Int.toNat_natCast]
    rw [and_shift]
  rw [a]
  have := Nat.div_add_mod X (2 ^ s)
  rw [Nat.mul_comm] at this
  omega
theorem fdiv_pow (X s : Nat) : Int.fdiv (X : Int) (2 ^ s) = ((X / 2 ^ s : Nat) : Int) := by
  rw [Int.fdiv_eq_ediv_of_nonneg _ (by exact Int.le_of_lt (Int.pow_pos (by decide)))]
  push_cast
  rfl
theorem take_dg_drop {ns : List Int} {n lo mid hi x : Nat} (h1 : lo ≤ mid) (h2 : mid ≤ hi) (h3 : hi ≤ ns.length) :
    let a := ns.take lo ++ dg n (mid - lo) (x % 2 ^ (n * (mid - lo))) ++ ns.drop mid
    a.take mid ++ dg n (hi - mid) (x / 2 ^ (n * (mid - lo))) ++ a.drop hi = ns.take lo ++ dg n (hi - lo) x ++ ns.drop hi := by
  intro a
  have e : hi - lo = (mid - lo) + (hi - mid) := by omega
  have l1 : (ns.take lo ++ dg n (mid - lo) (x % 2 ^ (n * (mid - lo)))).length = mid := by
    rw [List.length_append, dg_length, List.length_take]; omega
  have ta : a.take mid = ns.take lo ++ dg n (mid - lo) (x % 2 ^ (n * (mid - lo))) := by
    show List.take mid (List.take lo ns ++ dg n (mid - lo) (x % 2 ^ (n * (mid - lo))) ++ List.drop mid ns) = _
    rw [List.take_append, l1, Nat.sub_self, List.take_zero, List.append_nil, List.take_of_length_le (Nat.le_of_eq l1)]
  have da : a.drop hi = ns.drop hi := by
    show List.drop hi (List.take lo ns ++ dg n (mid - lo) (x % 2 ^ (n * (mid - lo))) ++ List.drop mid ns) = _
    rw [List.drop_append, l1, List.drop_of_length_le (by omega), List.nil_append, List.drop_drop]
    congr 1; omega
  rw [ta, da, e, dg_split]
  simp only [List.append_assoc]
theorem seg_length {ns : List Int} {n lo mid y : Nat} (h1 : lo ≤ mid) (h3 : mid ≤ ns.length) : (ns.take lo ++ dg n (mid - lo) y ++ ns.drop mid).length = ns.length := by
  simp only [List.length_append, List.length_take, List.length_drop, dg_length]; omega
theorem set_seg {ns : List Int} {n lo hi x : Nat} (h1 : lo + 1 = hi) (h3 : hi ≤ ns.length) (h : x < 2 ^ (n * (hi - lo))) : ns.take lo ++ dg n (hi - lo) x ++ ns.drop hi = ns.set lo (x : Int) := by
  subst h1
  have e : lo + 1 - lo = 1 := by omega
  rw [e] at h ⊢
  rw [dg_one (by simpa using h), List.set_eq_take_append_cons_drop, if_pos (by omega)]
  simp
theorem low_lt (x n k : Nat) : x % 2 ^ (n * k) < 2 ^ (n * k) := Nat.mod_lt _ (Nat.two_pow_pos _)
theorem up_lt {x n i j : Nat} (h : x < 2 ^ (n * (i + j))) : x / 2 ^ (n * i) < 2 ^ (n * j) := by
  rw [Nat.div_lt_iff_lt_mul (Nat.two_pow_pos _), ← Nat.pow_add]
  rwa [Nat.mul_add, Nat.add_comm] at h
theorem ints_rep (t : Tok) : ∀ k : Nat, IntsAre (List.replicate k (Value.int 0 t)) (List.replicate k 0)
  | 0 => .nil
  | k + 1 => .cons 0 t (ints_rep t k)
theorem dg_zero (n : Nat) : ∀ k : Nat, dg n k 0 = List.replicate k 0
  | 0 => rfl
  | k + 1 => by rw [dg, List.replicate_succ, Nat.zero_mod, Nat.zero_div, dg_zero]; rfl
theorem seg_all (n k a : Nat) : (List.replicate k (0 : Int)).take 0 ++ dg n (k - 0) a ++ (List.replicate k (0 : Int)).drop k = dg n k a := by
  simp
theorem pos_of {a n k : Nat} (h : a < 2 ^ (n * k)) (ha : a ≠ 0) : 0 < k := by
  cases k with
  | zero => simp at h; exact absurd h ha
  | succ k => exact Nat.succ_pos k
theorem nat_bound {v : Int} {j : Nat} (h0 : 0 ≤ v) (h1 : v < 2 ^ j) (hj : j ≤ 60) : v.natAbs < 2 ^ 64 := by
  have e : (2 : Int) ^ j ≤ 2 ^ 60 := by
    have := Nat.pow_le_pow_right (n := 2) (by decide) hj
    exact_mod_cast this
  omega
theorem comb_bound {v1 v2 : Int} {n lo mid hi s : Nat} (hs : s = n * (mid - lo)) (h1 : lo ≤ mid) (h2 : mid ≤ hi) (a0 : 0 ≤ v1) (a1 : v1 < 2 ^ (n * (hi - mid))) (b0 : 0 ≤ v2) (b1 : v2 < 2 ^ (n * (mid - lo))) :
    0 ≤ v1 * 2 ^ s + v2 ∧ v1 * 2 ^ s + v2 < 2 ^ (n * (hi - lo)) := by
  subst hs
  have e : (2 : Int) ^ (n * (hi - lo)) = 2 ^ (n * (hi - mid)) * 2 ^ (n * (mid - lo)) := by
    rw [← Int.pow_add, ← Nat.mul_add]; congr 2; omega
  have p : (0 : Int) < 2 ^ (n * (mid - lo)) := Int.pow_pos (by decide)
  rw [e]
  generalize (2 : Int) ^ (n * (mid - lo)) = x at *
  generalize (2 : Int) ^ (n * (hi - mid)) = y at *
  have h3 : v1 * x ≤ (y - 1) * x := Int.mul_le_mul_of_nonneg_right (by omega) (by omega)
  have h4 : 0 ≤ v1 * x := Int.mul_nonneg a0 (by omega)
  rw [Int.sub_mul, Int.one_mul] at h3
  omega
theorem getD_bound {ns : List Int} {n lo hi : Nat} (h : ∀ d ∈ ns, 0 ≤ d ∧ d < 2 ^ n) (h1 : lo + 1 = hi) (h2 : hi ≤ ns.length) : 0 ≤ ns.getD lo 0 ∧ ns.getD lo 0 < 2 ^ (n * (hi - lo)) := by
  subst h1
  have e : lo + 1 - lo = 1 := by omega
  rw [e, Nat.mul_one, List.getD_eq_getElem?_getD, List.getElem?_eq_getElem (by omega), Option.getD_some]
  exact h _ (List.getElem_mem _)
end Mine
end
section
open PySem PySem.W PyProof.Rows PySem.Spec PySem.Calls
namespace Mine
local macro_rules | `(tactic| walk_at "none of these") => `(tactic| fail)
structure TailLt (d : Nat) (news : List (Addr × Obj)) : Prop where
  lt : ∀ p ∈ news, (p.1 : Nat) < d
structure TailOff (d : Nat) (news : List (Addr × Obj)) : Prop where
  off : ∀ p ∈ news, p.1 ≠ d
theorem tail_ne {news : List (Addr × Obj)} {d c : Nat} (h : TailLt d news) (hc : d ≤ c) : ∀ p ∈ news, p.1 ≠ c := fun p hp => Nat.ne_of_lt (Nat.lt_of_lt_of_le (h.lt p hp) hc)
/-- the parts of the def that stands as statement j of the def that is statement i of the text -/
def innerParts (i j : Nat) : Option (Arguments × List Stmt × Scope) := match PySem.Challenge.rw_ie0004_01.row.toRowW.prog.main.body[i]? with
  | some (.FunctionDef _ _ b _ _ _ _ _ _ _) => (match b[j]? with
    | some (.FunctionDef _ ps b' _ _ _ sc _ _ _) => some (ps, b', sc)
    | _ => none)
  | _ => none
/-- inner(x, L, R) writes the digits of x into the places L .. R of the list -/
def Inner1 (w : World) (p : Program) (loose : List Str) (mean : ExcName → Option Value) (mg mb : Str → Option Value) (base : Heap) (n : Nat) (f D : Addr) (led : List Value → List (Addr × Obj)) (sz : Nat) : Prop :=
  ∀ (x lo hi : Nat) (X Lo Hi : Int) (tx tl th : Tok) (ws : List Value) (ns : List Int), X = (x : Int) → Lo = (lo : Int) → Hi = (hi : Int) → hi - lo ≤ sz → lo < hi → hi ≤ ns.length → ns.length ≤ 64 → x < 2 ^ (n * (hi - lo)) → x < 2 ^ 60 → IntsAre ws ns →
  ∀ (dp un : Nat) (gd : Option (List Code)) (cn : Str) (cs : Scope) (aL : Addr) (ccd : Value) (cl : List (Str × Addr)) (outer : List Env) (A₀ : Around) (h₀ : Heap) (L : Addr) (m : Str → Option Value) (s : Shared) (Q E : Value → Shared → Prop),
    Below A₀ base outer h₀ → Fr h₀ L s.heap m → (hd.heap_39 w.params).In h₀ → News h₀ L s.heap (led ws) → Top p loose mean mg mb h₀ → cs.kind = .function → dp + sz + 1 < recursionLimit →
    (∀ ws' h' tk', IntsAre ws' (ns.take lo ++ dg n (hi - lo) x ++ ns.drop hi) → Fr h₀ L h' m → News h₀ L h' (led ws') → Q .none { s with heap := h', toks := tk' }) →
    wpAny (model PySem.Challenge.rw_ie0004_01.row.toRowW.prog w) (ktrTop dp un gd cn cs L aL ccd cl outer) (call (.ref f) [.int X tx, .int Lo tl, .int Hi th]) Q E s
theorem inner1_ind {w : World} {p : Program} {loose : List Str} {mean : ExcName → Option Value} {mg mb : Str → Option Value} {base : Heap} {n : Nat} {f D : Addr} {led : List Value → List (Addr × Obj)}
    (step : ∀ sz, Inner1 w p loose mean mg mb base n f D led sz → Inner1 w p loose mean mg mb base n f D led (sz + 1)) : ∀ sz, Inner1 w p loose mean mg mb base n f D led sz
  | 0 => by intro x lo hi X Lo Hi tx tl th ws ns _ _ _ h1 h2; omega
  | sz + 1 => step sz (inner1_ind step sz)
theorem two_one : (2 : Int) ^ Int.toNat 1 = 2 := by decide
theorem mid_eq (lo hi : Nat) : Int.fdiv ((lo : Int) + (hi : Int)) (2 ^ Int.toNat 1) = (((lo + hi) / 2 : Nat) : Int) := by
  rw [two_one, Int.fdiv_eq_ediv_of_nonneg _ (by decide)]; omega

theorem inner1_use {w : World} {p : Program} {loose : List Str} {mean : ExcName → Option Value} {mg mb : Str → Option Value} {base : Heap} {n : Nat} {f D : Addr} {led : List Value → List (Addr × Obj)} {sz : Nat} (h : Inner1 w p loose mean mg mb base n f D led sz)
  {x lo hi : Nat} {X Lo Hi : Int} {tx tl th : Tok} {ws : List Value} {ns : List Int} (hX : X = (x : Int)) (hLo : Lo = (lo : Int)) (hHi : Hi = (hi : Int)) (h1 : hi - lo ≤ sz) (h2 : lo < hi) (h3 : hi ≤ ns.length) (h4 : ns.length ≤ 64) (h5 : x < 2 ^ (n * (hi - lo))) (h6 : x < 2 ^ 60) (hI : IntsAre ws ns)
  {dp un : Nat} {gd : Option (List Code)} {cn : Str} {cs : Scope} {aL : Addr} {ccd : Value} {cl : List (Str × Addr)} {outer : List Env} {A₀ : Around} {h₀ : Heap} {L : Addr} {m : Str → Option Value} {s : Shared} {Q E : Value → Shared → Prop}
    (B : Below A₀ base outer h₀) (F : Fr h₀ L s.heap m) (X0 : (hd.heap_39 w.params).In h₀) (N : News h₀ L s.heap (led ws)) (T : Top p loose mean mg mb h₀) (hk : cs.kind = .function) (hd : dp + sz + 1 < recursionLimit)
    (ret : ∀ ws' h' tk', IntsAre ws' (ns.take lo ++ dg n (hi - lo) x ++ ns.drop hi) → Fr h₀ L h' m → News h₀ L h' (led ws') → Q .none { s with heap := h', toks := tk' }) :
    wpAny (model PySem.Challenge.rw_ie0004_01.row.toRowW.prog w) (ktrTop dp un gd cn cs L aL ccd cl outer) (call (.ref f) [.int X tx, .int Lo tl, .int Hi th]) Q E s :=
  h _ _ _ _ _ _ _ _ _ _ _ hX hLo hHi h1 h2 h3 h4 h5 h6 hI _ _ _ _ _ _ _ _ _ _ _ _ _ _ _ _ B F X0 N T hk hd ret
local macro_rules | `(tactic| k_all) => `(tactic| exact TailOff.off (by assumption))
local macro_rules | `(tactic| walk_at "binaryOp LShift int int") => `(tactic| ((with_reducible refine lshift_int_small ?a ?b ?c ?_); (case a => assumption); (case b => assumption); (case c => assumption)))
local macro_rules | `(tactic| walk_at "binaryOp RShift int int") => `(tactic| ((with_reducible refine rshift_int ?a ?_); (case a => assumption)))
local macro_rules | `(tactic| walk_at "call ref") => `(tactic| (k_here; k_dflt (refine' inner1_use ?IH ?hX ?hLo ?hHi ?h1 ?h2 ?h3 ?h4 ?h5 ?h6 ?hI ?B ?F ?X ?N ?T ?hk ?hd ?_; (case IH => assumption); (case hX => assumption); (case hLo => first | assumption | exact rfl); (case hHi => first | assumption | exact rfl); (case B => k_asm); (case F => k_asm); (case X => k_asm); (case T => k_asm); (case N => k_asm); (case hI => with_reducible assumption); (case hk => first | exact rfl | assumption); (case hd => ktr_room); (case h1 => omega); (case h2 => omega); (case h3 => first | omega | (rw [seg_length (by omega) (by omega)]; omega)); (case h4 => first | omega | (rw [seg_length (by omega) (by omega)]; omega)); (case h5 => assumption); (case h6 => assumption); k_whole); intro ws9 h9 tk9 hI9 F9 N9))
set_option maxRecDepth 100000 in
set_option maxHeartbeats 8000000 in
theorem inner1_c {w : World} {p : Program} {loose : List Str} {mean : ExcName → Option Value} {mg mb : Str → Option Value} {base : Heap} {name qual : Str} {params : Arguments} {body : List Stmt} {scope : Scope}
    (hP : innerParts 8 1 = some (params, body, scope)) {n : Nat} {f c' cA cI cN D : Addr} {doc pm ct : Value} {oc oA oI oN : Obj} {vs : Array Value} {t tn : Tok} {ep : Nat} {rest : List (Addr × Obj)} (hn : 0 < n) (hn2 : n < 100)
    (d1 : oc.data = .fields vs) (d2 : vs[1]? = some (.str qual t)) (dA : oA.data = .cell (some (.ref D))) (dI : oI.data = .cell (some (.ref f))) (dN : oN.data = .cell (some (.int (n : Int) tn))) (C : CodeHd base 61 57)
    (e1 : @Ne Nat f D) (e2 : @Ne Nat c' D) (e3 : @Ne Nat cA D) (e4 : @Ne Nat cI D) (e5 : @Ne Nat cN D) (hoff : TailOff D rest) :
    ∀ sz, Inner1 w p loose mean mg mb base n f D (fun ws => (D, W.listOf ws.toArray ep) :: (f, fnMade name qual params body scope [(Str.ofString "n", cN), (Str.ofString "inner", cI), (Str.ofString "a_digits", cA)] doc pm c' ct) :: (c', oc) :: (cA, oA) :: (cI, oI) :: (cN, oN) :: rest) sz := by
  w_top off
  conv at hP => lhs; whnf
  injection hP with hP; injection hP with hP1 hP; injection hP with hP2 hP3
  subst hP1 hP2 hP3
  refine inner1_ind fun sz IH => ?_
  intro x lo hi X Lo Hi tx tl th ws ns hX hLo hHi hsz hlt hhi hlen hx hx60 hI dp un gd cn cs aL ccd cl outer A₀ h₀ L m s Q E B F X0 N T hk hd hret
  subst hX hLo hHi
  revert X0; k_fill; intro X0
  refine wpAny_call ?_
  k_dflt (refine' code_nest ?k1 ?k2 ?k3 ?k4 ?k5 ?kA ?kF ?kK ?k6 ?k7 ?k8 ?k9 ?kB ?_ ?c2 ?c3 ?c4 ?c5; (case kA => exact rfl); (case kF => exact rfl); (case kK => assumption); (case k1 => k_asm); (case k2 => k_asm); (case k3 => k_asm); (case k4 => k_asm); (case k5 => k_asm); (case k6 => k_mem); (case k7 => exact codeRec_news (by k_asm) (by k_mem) (by assumption) (by assumption)); (case k8 => ktr_room); (case k9 => exact BindsTo.of_eq rfl); (case c5 => decide); (case kB => exact locs rfl); (case c2 => exact rfl); (case c3 => exact rfl); (case c4 => exact rfl); k_whole)
  intro g1 L1 h1 FG1 F1 N1 B1 X1 T1
  try dsimp only
  k_lift B1
  try k_fold
  have hmid := mid_eq lo hi
  have hraw : (Int.fdiv ((lo : Int) + (hi : Int)) (2 ^ Int.toNat 1) - (lo : Int)) * (n : Int) = ((n * ((lo + hi) / 2 - lo) : Nat) : Int) := by
    rw [hmid, Int.natCast_mul, Int.natCast_sub (by omega), Int.mul_comm]
  have hb : n * ((lo + hi) / 2 - lo) ≤ 100 * 64 := Nat.mul_le_mul (by omega) (by omega)
  have hs0 : 0 ≤ (Int.fdiv ((lo : Int) + (hi : Int)) (2 ^ Int.toNat 1) - (lo : Int)) * (n : Int) := by rw [hraw]; omega
  have hs1 : (Int.fdiv ((lo : Int) + (hi : Int)) (2 ^ Int.toNat 1) - (lo : Int)) * (n : Int) ≤ 1000000 := by rw [hraw]; omega
  have hup : Int.fdiv (x : Int) (2 ^ Int.toNat ((Int.fdiv ((lo : Int) + (hi : Int)) (2 ^ Int.toNat 1) - (lo : Int)) * (n : Int))) = ((x / 2 ^ (n * ((lo + hi) / 2 - lo)) : Nat) : Int) := by
    rw [hraw, Int.toNat_natCast, fdiv_pow]
  have hxl : x / 2 ^ (n * ((lo + hi) / 2 - lo)) ≤ x := Nat.div_le_self _ _
  have hupb : (Int.fdiv (x : Int) (2 ^ Int.toNat ((Int.fdiv ((lo : Int) + (hi : Int)) (2 ^ Int.toNat 1) - (lo : Int)) * (n : Int)))).natAbs < 2 ^ 64 := by rw [hup, Int.natAbs_natCast]; omega
  have hlow : Builtin.bitXor (x : Int) (Int.fdiv (x : Int) (2 ^ Int.toNat ((Int.fdiv ((lo : Int) + (hi : Int)) (2 ^ Int.toNat 1) - (lo : Int)) * (n : Int))) * 2 ^ Int.toNat ((Int.fdiv ((lo : Int) + (hi : Int)) (2 ^ Int.toNat 1) - (lo : Int)) * (n : Int))) = ((x % 2 ^ (n * ((lo + hi) / 2 - lo)) : Nat) : Int) := by
    rw [hup, hraw, Int.toNat_natCast, xor_low]
  have hlo5 := low_lt x n ((lo + hi) / 2 - lo)
  have hup5 : x / 2 ^ (n * ((lo + hi) / 2 - lo)) < 2 ^ (n * (hi - (lo + hi) / 2)) := up_lt (by rwa [show (lo + hi) / 2 - lo + (hi - (lo + hi) / 2) = hi - lo by omega])
  have hlo6 : x % 2 ^ (n * ((lo + hi) / 2 - lo)) < 2 ^ 60 := Nat.lt_of_le_of_lt (Nat.mod_le _ _) hx60
  have hup6 : x / 2 ^ (n * ((lo + hi) / 2 - lo)) < 2 ^ 60 := Nat.lt_of_le_of_lt hxl hx60
  k_steps
  · refine hret _ _ _ ?_ (by assumption) (by assumption)
    rw [set_seg (by omega) hhi hx]
    have e : Int.toNat (lo : Int) = lo := Int.toNat_natCast lo
    rw [e] at *
    assumption
  · refine hret _ _ _ ?_ (by assumption) (by assumption)
    rw [← take_dg_drop (mid := (lo + hi) / 2) (by omega) (by omega) hhi]
    assumption
theorem inner1_call {w : World} {p : Program} {loose : List Str} {mean : ExcName → Option Value} {mg mb : Str → Option Value} {base : Heap} {name qual : Str} {params : Arguments} {body : List Stmt} {scope : Scope}
    {n : Nat} {f c' cA cI cN D : Addr} {doc pm ct : Value} {oc oA oI oN : Obj} {vs : Array Value} {t tn : Tok} {ep : Nat} {led : List (Addr × Obj)} {g : Obj → List (Addr × Obj)} {sz x lo hi : Nat} {X Lo Hi : Int} {tx tl th : Tok} {ws : List Value} {ns : List Int}
    {dp un : Nat} {gd : Option (List Code)} {cn : Str} {cs : Scope} {aL : Addr} {ccd : Value} {cl : List (Str × Addr)} {outer : List Env} {A₀ : Around} {h₀ : Heap} {L : Addr} {m : Str → Option Value} {s : Shared} {Q E : Value → Shared → Prop}
    (hf : (f, fnMade name qual params body scope [(Str.ofString "n", cN), (Str.ofString "inner", cI), (Str.ofString "a_digits", cA)] doc pm c' ct) ∈ led) (hc : (c', oc) ∈ led) (hA : (cA, oA) ∈ led) (hI : (cI, oI) ∈ led) (hN : (cN, oN) ∈ led)
    (dA : oA.data = .cell (some (.ref D))) (dI : oI.data = .cell (some (.ref f))) (dN : oN.data = .cell (some (.int (n : Int) tn))) (d1 : oc.data = .fields vs) (d2 : vs[1]? = some (.str qual t)) (hP : innerParts 8 1 = some (params, body, scope))
    (U : UpdF D (W.listOf ws.toArray ep) led g) (e1 : @Ne Nat f D) (e2 : @Ne Nat c' D) (e3 : @Ne Nat cA D) (e4 : @Ne Nat cI D) (e5 : @Ne Nat cN D) (hn : 0 < n) (hn2 : n < 100) (C : CodeHd base 61 57)
    (hX : X = (x : Int)) (hLo : Lo = (lo : Int)) (hHi : Hi = (hi : Int)) (h1 : hi - lo ≤ sz) (h2 : lo < hi) (hIs : IntsAre ws ns) (h3 : hi ≤ ns.length) (h4 : ns.length ≤ 64) (h5 : x < 2 ^ (n * (hi - lo))) (h6 : x < 2 ^ 60)
    (B : Below A₀ base outer h₀) (F : Fr h₀ L s.heap m) (X0 : (hd.heap_39 w.params).In h₀) (N : News h₀ L s.heap led) (T : Top p loose mean mg mb h₀) (hk : cs.kind = .function) (hd : dp + sz + 1 < recursionLimit)
    (ret : ∀ ws' h' tk', IntsAre ws' (ns.take lo ++ dg n (hi - lo) x ++ ns.drop hi) → Fr h₀ L h' m → News h₀ L h' (g (W.listOf ws'.toArray ep)) → Q .none { s with heap := h', toks := tk' }) :
    wpAny (model PySem.Challenge.rw_ie0004_01.row.toRowW.prog w) (ktrTop dp un gd cn cs L aL ccd cl outer) (call (.ref f) [.int X tx, .int Lo tl, .int Hi th]) Q E s := by
  obtain ⟨pre, post, rfl, hg, a1, a2⟩ := U.split
  have hoff : TailOff D (pre ++ post) := ⟨fun q hq => (List.mem_append.mp hq).elim (a1 q) (a2 q)⟩
  refine inner1_use (inner1_c (name := name) (doc := doc) (pm := pm) (ct := ct) (ep := ep) hP hn hn2 d1 d2 dA dI dN C e1 e2 e3 e4 e5 hoff sz) hX hLo hHi h1 h2 h3 h4 h5 h6 hIs B F X0 (fun q hq => N q ?_) T hk hd fun ws' h' tk' i' F' N' => ret ws' h' tk' i' F' (fun q hq => N' q ?_)
  · simp only [List.mem_cons, List.mem_append] at hq ⊢
    rcases hq with rfl | rfl | rfl | rfl | rfl | rfl | hq | hq
    · exact .inr (.inl rfl)
    · simpa using hf
    · simpa using hc
    · simpa using hA
    · simpa using hI
    · simpa using hN
    · exact .inl hq
    · exact .inr (.inr hq)
  · rw [hg] at hq
    simp only [List.mem_cons, List.mem_append] at hq ⊢
    rcases hq with hq | rfl | hq
    · simp [hq]
    · exact .inl rfl
    · simp [hq]
end Mine
end
section
open PySem PySem.W PyProof.Rows PySem.Spec PySem.Calls
namespace Mine
local macro_rules | `(tactic| walk_at "none of these") => `(tactic| fail)
local macro_rules | `(tactic| walk_at "none of these") => `(tactic| fail)
/-- a table of code objects: empty, or it holds the one of the inner def -/
inductive TabS (P : Addr) (ln cl : Nat) (qual : Str) : List (Addr × Obj) → Prop
  | fresh : TabS P ln cl qual [(P, tabObj #[])]
  | made (c' : Addr) (oc : Obj) (vs : Array Value) (t : Tok) : oc.data = .fields vs → vs[1]? = some (.str qual t) → @Ne Nat c' P → TabS P ln cl qual [(P, tabObj #[rawInt ln, rawInt cl, .ref c']), (c', oc)]
def Apart (a b : List (Addr × Obj)) : Prop := ∀ p ∈ a, ∀ q ∈ b, @Ne Nat p.1 q.1
def Stop (P : Prop) : Prop := P
theorem stop_of {P : Prop} (h : Stop P) : P := h
abbrev Q1 : Str := (Str.ofString "_int2digits" ++ ".<locals>.") ++ Str.ofString "inner"
theorem apart_made {P c D : Addr} {oP oc oD : Obj} {news : List (Addr × Obj)} (h1 : @Ne Nat P D) (h2 : @Ne Nat c D) (o1 : ∀ q ∈ news, @Ne Nat q.1 P) (o2 : ∀ q ∈ news, @Ne Nat q.1 c) : Apart [(P, oP), (c, oc)] ((D, oD) :: news) := by
  intro p hp q hq
  rcases List.mem_cons.mp hp with rfl | hp
  · rcases List.mem_cons.mp hq with rfl | hq
    · exact h1
    · exact Ne.symm (o1 q hq)
  · rcases List.mem_singleton.mp hp with rfl
    rcases List.mem_cons.mp hq with rfl | hq
    · exact h2
    · exact Ne.symm (o2 q hq)
theorem mem_sub {q a b c : Addr × Obj} {l r : List (Addr × Obj)} (hq : q ∈ a :: ([b, c] ++ l)) (ha : a ∈ r) (hb : b ∈ r) (hc : c ∈ r) (hl : ∀ x ∈ l, x ∈ r) : q ∈ r := by
  simp only [List.cons_append, List.nil_append, List.mem_cons] at hq
  rcases hq with rfl | rfl | rfl | hq
  · exact ha
  · exact hb
  · exact hc
  · exact hl q hq
local macro_rules | `(tactic| k_all) => `(tactic| exact TailOff.off (by assumption))
local macro_rules | `(tactic| k_all) => `(tactic| exact tail_ne (by assumption) (by omega))
theorem mul_rep {prog : Program} {w : World} {A : Around} {E : Value → Shared → Prop} {s : Shared} {h₀ : Heap} {L : Addr} {m : Str → Option Value} {news : List (Addr × Obj)} {l : Addr} {v : Value} {x : Int} {u : Tok} {Q : Value → Shared → Prop} {k : Nat}
    (hx : x = (k : Int)) (hk : k ≤ 256) (Fm : Fr h₀ L s.heap m) (N : News h₀ L s.heap news) (hl : s.heap.IsList l [v].toArray)
    (h : ∀ D h', Fr h₀ L h' m → News h₀ L h' ((D, W.listOf (List.replicate k v).toArray 0) :: news) → (∀ p ∈ news, p.1 < D) → Q (.ref D) { s with heap := h' }) : wpAny (model prog w) A (binaryOp .Mult (.ref l) (.int x u)) Q E s := by
  subst hx
  refine KMa.mul Fm N hl (by omega) (by omega) (by simpa using hk) (ws := List.replicate k v) ?_ h
  simp only [Int.toNat_natCast]
  clear h hk
  induction k with
  | zero => rfl
  | succ k ih => rw [List.replicate_succ, List.flatten_cons, ih, List.replicate_succ]; rfl
theorem len_led {prog : Program} {w : World} {A : Around} {E : Value → Shared → Prop} {s : Shared} {h₀ : Heap} {L : Addr} {news : List (Addr × Obj)} {l : Addr} {vs : List Value} {e : Nat} {Q : Value → Shared → Prop} {k : Nat}
    (N : News h₀ L s.heap news) (hm : (l, W.listOf vs.toArray e) ∈ news) (hv : vs.length = k) (hk : k ≤ 2 ^ 20) (h : Q (.int k (s.toks + 1)) { s with toks := s.toks + 1 + 1 }) : wpAny (model prog w) A (call (.builtin "len") [.ref l]) Q E s := by
  subst hv
  refine len_list (PySem.IsL.isList (n := e) (N _ hm).1) (by rw [List.size_toArray]; omega) ?_
  rw [List.size_toArray]; exact h
local macro_rules | `(tactic| walk_at "binaryOp Mult ref int") => `(tactic| (k_here; (with_reducible show wpAny _ _ (binaryOp Operator.Mult (Value.ref _) (Value.int _ _)) _ _ _); k_dflt (refine' mul_rep ?x ?k ?F ?N ?l ?_; (case x => assumption); (case k => omega); (case F => k_asm); (case N => k_asm); (case l => is_list); k_whole); intro D' h' F' N' l1; (try k_lt l1); (try k_sweep)))
local macro_rules | `(tactic| walk_at "call builtin:len") => `(tactic| (k_here; (with_reducible show wpAny _ _ (call (Value.builtin "len") [Value.ref _]) _ _ _); k_dflt (refine' len_led ?N ?m ?v ?k ?_; (case N => k_asm); (case m => k_mem); (case v => exact List.length_replicate); (case k => omega); k_whole)))
theorem zero_cast : (0 : Int) = ((0 : Nat) : Int) := rfl
local macro_rules | `(tactic| walk_at "call ref") => `(tactic| (k_here; (with_reducible show wpAny _ _ (call (Value.ref _) _) _ _ _); k_dflt (refine' inner1_call ?hf ?hc ?hA ?hI ?hN ?dA ?dI ?dN ?d1 ?d2 ?hP ?U ?e1 ?e2 ?e3 ?e4 ?e5 ?hn ?hn2 ?C ?hX ?hLo ?hHi ?h1 ?h2 ?hIs ?h3 ?h4 ?h5 ?h6 ?B ?F ?X0 ?N ?T ?hk ?hd ?_; (case B => k_asm); (case F => k_asm); (case X0 => k_asm); (case N => k_asm); (case T => k_asm); (case hf => k_mem); (case hP => exact rfl); (case hc => k_mem); (case hA => k_mem); (case hI => k_mem); (case hN => k_mem); (case dA => assumption); (case dI => assumption); (case dN => assumption); (case d1 => assumption); (case d2 => assumption); (case U => k_updF); (case e1 => omega); (case e2 => omega); (case e3 => omega); (case e4 => omega); (case e5 => omega); (case hn => assumption); (case hn2 => assumption); (case C => assumption); (case hX => exact rfl); (case hLo => exact zero_cast); (case hHi => exact rfl); (case h1 => exact Nat.le_refl _); (case h2 => exact pos_of (by assumption) (by omega)); (case hIs => exact ints_rep _ _); (case h3 => simp); (case h4 => (rw [List.length_replicate]; omega)); (case h5 => assumption); (case h6 => assumption); (case hk => exact rfl); (case hd => ktr_room); k_whole); intro ws9 h9 tk9 hI9 F9 N9; (try dsimp only at N9)))
set_option maxRecDepth 100000 in
set_option maxHeartbeats 8000000 in
theorem int2digits_c (w : World) {p : Program} {loose : List Str} {mean : ExcName → Option Value} {mg mb : Str → Option Value} (a n k : Nat) (ta tn : Tok) (ha2 : a < 2 ^ 60) (hn : 0 < n) (hn2 : n < 100) (hkk : Int.fdiv (((Builtin.Int.intBits (a : Int) : Nat) : Int) + (n : Int) - 1) (n : Int) = (k : Int)) (hk2 : k ≤ 64) (hak : a < 2 ^ (n * k))
    {dp un : Nat} {gd : Option (List Code)} {cn : Str} {cs : Scope} {aL : Addr} {ccd : Value} {cl : List (Str × Addr)} {outer : List Env} {A₀ : Around} {base h₀ : Heap} {L : Addr} {m : Str → Option Value} {s : Shared} {Q E : Value → Shared → Prop} {tabs news : List (Addr × Obj)}
    (ht : TabS 57 79 4 Q1 tabs) (hap : Apart tabs news)
    (B : Below A₀ base outer h₀) (F : Fr h₀ L s.heap m) (X : (hd.heap_39 w.params).In h₀) (N : News h₀ L s.heap (tabs ++ news)) (T : Top p loose mean mg mb h₀) (C : CodeHd base 61 57) (hk : cs.kind = .function) (hd : dp + 70 < recursionLimit)
    (hret : ∀ D ws e tabs' h' tk', TabS 57 79 4 Q1 tabs' → IntsAre ws (dg n k a) → Fr h₀ L h' m → News h₀ L h' ((D, W.listOf ws.toArray e) :: (tabs' ++ news)) → (∀ p ∈ news, p.1 < D) → Apart tabs' ((D, W.listOf ws.toArray e) :: news) → Q (.ref D) { s with heap := h', toks := tk' }) :
    wpAny (model PySem.Challenge.rw_ie0004_01.row.toRowW.prog w) (ktrTop dp un gd cn cs L aL ccd cl outer) (call (.ref 62) [.int (a : Int) ta, .int (n : Int) tn]) Q E s := by
  w_top off
  revert X; k_fill; intro X
  have hoff : TailOff 57 news := by
    refine ⟨fun q hq e => ?_⟩
    rcases ht with _ | ⟨c0, oc0, vs0, t0, d10, d20, ne0⟩
    · exact hap _ (.head _) q hq e.symm
    · exact hap _ (.head _) q hq e.symm
  rcases ht with _ | ⟨c0, oc0, vs0, t0, d10, d20, ne0⟩
  all_goals (
    simp only [List.cons_append, List.nil_append] at N
    refine wpAny_call ?_
    k_dflt (refine' code_defC ?k1 ?k2 ?k3 ?k4 ?k5 ?kA ?kF ?kK ?k6 ?k7 ?k8 ?k9 ?kB ?kD ?_ ?c2 ?c3 ?c4; (case kA => exact rfl); (case kF => exact rfl); (case kK => first | exact rfl | assumption); (case k1 => k_asm); (case k2 => k_asm); (case k3 => k_asm); (case k4 => k_asm); (case k5 => k_asm); (case k6 => k_is); (case k7 => k_is); (case k8 => first | k_room | ktr_room); (case k9 => exact BindsTo.of_eq rfl); (case kB => exact rfl); (case kD => decide +kernel); (case c2 => exact rfl); (case c3 => exact rfl); (case c4 => exact rfl); k_whole)
    intro g1 L1 h1 tk1 cells1 FG1 F1 N1 Y1 B1 X1 T1 l1
    have hnl : TailLt L1 news := ⟨fun p hp => l1 p (by simp [hp])⟩
    k_lt l1
    k_cells Y1
    (try simp only [List.cons_append, List.nil_append] at N1)
    try dsimp only
    k_lift B1
    try k_fold
    k_steps)
  · rename_i DD _ ltD _ _ _ ff cc occ vss tt _ _ _ _ dd1 dd2 ltc ltf _ _ _ _ _ hne ws9 h9 tk9 hI9 _ _ kF kN _ _
    rw [seg_all] at hI9
    refine hret DD ws9 _ [(57, tabObj #[rawInt (79 : Nat), rawInt (4 : Nat), .ref cc]), (cc, occ)] h9 _ (TabS.made cc occ vss tt dd1 dd2 (by omega)) hI9 kF (fun q hq => kN q (mem_sub hq (by k_mem) (by k_mem) (by k_mem) fun x hx => by simp [hx])) (fun q hq => Nat.lt_of_lt_of_le (hnl.lt q hq) (by omega)) (apart_made (by omega) (by omega) hoff.off (tail_ne hnl (by omega)))
  · rename_i DD _ ltD _ _ _ ff cc occ vss tt _ _ _ _ dd1 dd2 ltc ltf _ _ _ _ _ hne kF kN _ _
    have e : a = 0 := by omega
    subst e
    refine hret DD (List.replicate k (Value.int 0 tk1)) _ [(57, tabObj #[rawInt (79 : Nat), rawInt (4 : Nat), .ref cc]), (cc, occ)] _ _ (TabS.made cc occ vss tt dd1 dd2 (by omega)) (by rw [dg_zero]; exact ints_rep tk1 k) kF (fun q hq => kN q (mem_sub hq (by k_mem) (by k_mem) (by k_mem) fun x hx => by simp [hx])) (fun q hq => Nat.lt_of_lt_of_le (hnl.lt q hq) (by omega)) (apart_made (by omega) (by omega) hoff.off (tail_ne hnl (by omega)))
  · rename_i DD _ ltD _ _ _ ff _ _ _ _ ltf _ _ _ _ _ hne ws9 h9 tk9 hI9 _ _ kF kN _ _
    rw [seg_all] at hI9
    refine hret DD ws9 _ [(57, tabObj #[rawInt (79 : Nat), rawInt (4 : Nat), .ref c0]), (c0, oc0)] h9 _ (TabS.made c0 oc0 vs0 t0 d10 d20 ne0) hI9 kF (fun q hq => kN q (mem_sub hq (by k_mem) (by k_mem) (by k_mem) fun x hx => by simp [hx])) (fun q hq => Nat.lt_of_lt_of_le (hnl.lt q hq) (by omega)) (apart_made (by omega) (by omega) hoff.off fun q hq => Ne.symm (hap _ (.tail _ (.head _)) q hq))
  · rename_i DD _ ltD _ _ _ ff _ _ _ _ ltf _ _ _ _ _ hne kF kN _ _
    have e : a = 0 := by omega
    subst e
    refine hret DD (List.replicate k (Value.int 0 tk1)) _ [(57, tabObj #[rawInt (79 : Nat), rawInt (4 : Nat), .ref c0]), (c0, oc0)] _ _ (TabS.made c0 oc0 vs0 t0 d10 d20 ne0) (by rw [dg_zero]; exact ints_rep tk1 k) kF (fun q hq => kN q (mem_sub hq (by k_mem) (by k_mem) (by k_mem) fun x hx => by simp [hx])) (fun q hq => Nat.lt_of_lt_of_le (hnl.lt q hq) (by omega)) (apart_made (by omega) (by omega) hoff.off fun q hq => Ne.symm (hap _ (.tail _ (.head _)) q hq))
end Mine
end
section
open PySem PySem.W PyProof.Rows PySem.Spec PySem.Calls
namespace Mine
local macro_rules | `(tactic| walk_at "none of these") => `(tactic| fail)
/-- inner(L, R) of _digits2int: an int below 2^(n (R - L)) -/
def Inner2 (w : World) (p : Program) (loose : List Str) (mean : ExcName → Option Value) (mg mb : Str → Option Value) (base : Heap) (n len : Nat) (f : Addr) (led : List (Addr × Obj)) (sz : Nat) : Prop :=
  ∀ (lo hi : Nat) (Lo Hi : Int) (tl th : Tok), Lo = (lo : Int) → Hi = (hi : Int) → hi - lo ≤ sz → lo < hi → hi ≤ len →
  ∀ (dp un : Nat) (gd : Option (List Code)) (cn : Str) (cs : Scope) (aL : Addr) (ccd : Value) (cl : List (Str × Addr)) (outer : List Env) (A₀ : Around) (h₀ : Heap) (L : Addr) (m : Str → Option Value) (s : Shared) (Q E : Value → Shared → Prop),
    Below A₀ base outer h₀ → Fr h₀ L s.heap m → (hd.heap_39 w.params).In h₀ → News h₀ L s.heap led → Top p loose mean mg mb h₀ → cs.kind = .function → dp + sz + 1 < recursionLimit →
    (∀ v t h' tk', 0 ≤ v → v < 2 ^ (n * (hi - lo)) → Fr h₀ L h' m → News h₀ L h' led → Q (.int v t) { s with heap := h', toks := tk' }) →
    wpAny (model PySem.Challenge.rw_ie0004_01.row.toRowW.prog w) (ktrTop dp un gd cn cs L aL ccd cl outer) (call (.ref f) [.int Lo tl, .int Hi th]) Q E s
section
variable {w : World} {p : Program} {loose : List Str} {mean : ExcName → Option Value} {mg mb : Str → Option Value} {base : Heap} {n len : Nat} {f : Addr} {led : List (Addr × Obj)}
theorem inner2_ind (step : ∀ sz, Inner2 w p loose mean mg mb base n len f led sz → Inner2 w p loose mean mg mb base n len f led (sz + 1)) : ∀ sz, Inner2 w p loose mean mg mb base n len f led sz
  | 0 => by intro lo hi Lo Hi tl th _ _ h1 h2; omega
  | sz + 1 => step sz (inner2_ind step sz)
theorem inner2_use {sz : Nat} (h : Inner2 w p loose mean mg mb base n len f led sz)
  {lo hi : Nat} {Lo Hi : Int} {tl th : Tok} (hLo : Lo = (lo : Int)) (hHi : Hi = (hi : Int)) (h1 : hi - lo ≤ sz) (h2 : lo < hi) (h3 : hi ≤ len)
  {dp un : Nat} {gd : Option (List Code)} {cn : Str} {cs : Scope} {aL : Addr} {ccd : Value} {cl : List (Str × Addr)} {outer : List Env} {A₀ : Around} {h₀ : Heap} {L : Addr} {m : Str → Option Value} {s : Shared} {Q E : Value → Shared → Prop}
    (B : Below A₀ base outer h₀) (F : Fr h₀ L s.heap m) (X0 : (hd.heap_39 w.params).In h₀) (N : News h₀ L s.heap led) (T : Top p loose mean mg mb h₀) (hk : cs.kind = .function) (hd : dp + sz + 1 < recursionLimit)
    (ret : ∀ v t h' tk', 0 ≤ v → v < 2 ^ (n * (hi - lo)) → Fr h₀ L h' m → News h₀ L h' led → Q (.int v t) { s with heap := h', toks := tk' }) :
    wpAny (model PySem.Challenge.rw_ie0004_01.row.toRowW.prog w) (ktrTop dp un gd cn cs L aL ccd cl outer) (call (.ref f) [.int Lo tl, .int Hi th]) Q E s :=
  h _ _ _ _ _ _ hLo hHi h1 h2 h3 _ _ _ _ _ _ _ _ _ _ _ _ _ _ _ _ B F X0 N T hk hd ret
end
local macro_rules | `(tactic| walk_at "binaryOp LShift int int") => `(tactic| ((with_reducible refine lshift_int_small ?a ?b ?c ?_); (case a => assumption); (case b => assumption); (case c => exact nat_bound (by assumption) (by assumption) (by assumption))))
local macro_rules | `(tactic| walk_at "call ref") => `(tactic| (k_here; k_dflt (refine' inner2_use ?IH ?hLo ?hHi ?h1 ?h2 ?h3 ?B ?F ?X ?N ?T ?hk ?hd ?_; (case IH => assumption); (case hLo => first | assumption | exact rfl); (case hHi => first | assumption | exact rfl); (case B => k_asm); (case F => k_asm); (case X => k_asm); (case T => k_asm); (case N => k_asm); (case hk => first | exact rfl | assumption); (case hd => ktr_room); (case h1 => omega); (case h2 => omega); (case h3 => omega); k_whole); intro v9 t9 h9 tk9 hv0 hv1 F9 N9))
set_option maxRecDepth 100000 in
set_option maxHeartbeats 8000000 in
theorem inner2_c {w : World} {p : Program} {loose : List Str} {mean : ExcName → Option Value} {mg mb : Str → Option Value} {base : Heap} {name qual : Str} {params : Arguments} {body : List Stmt} {scope : Scope}
    (hP : innerParts 9 0 = some (params, body, scope)) {n : Nat} {f c' cA cI cN D : Addr} {doc pm ct : Value} {oc oA oI oN : Obj} {vs : Array Value} {t tn : Tok} {ep : Nat} {rest : List (Addr × Obj)} (hn : 0 < n) (hn2 : n < 100)
    (d1 : oc.data = .fields vs) (d2 : vs[1]? = some (.str qual t)) (dA : oA.data = .cell (some (.ref D))) (dI : oI.data = .cell (some (.ref f))) (dN : oN.data = .cell (some (.int (n : Int) tn))) (C : CodeHd base 68 64)
    {ws : List Value} {ns : List Int} (hI : IntsAre ws ns) (hdig : ∀ d ∈ ns, 0 ≤ d ∧ d < 2 ^ n) (hb : n * ns.length ≤ 60) (hlen : ns.length ≤ 64) :
    ∀ sz, Inner2 w p loose mean mg mb base n ns.length f ((D, W.listOf ws.toArray ep) :: (f, fnMade name qual params body scope [(Str.ofString "n", cN), (Str.ofString "inner", cI), (Str.ofString "digits", cA)] doc pm c' ct) :: (c', oc) :: (cA, oA) :: (cI, oI) :: (cN, oN) :: rest) sz := by
  w_top off
  conv at hP => lhs; whnf
  injection hP with hP; injection hP with hP1 hP; injection hP with hP2 hP3
  subst hP1 hP2 hP3
  refine inner2_ind fun sz IH => ?_
  intro lo hi Lo Hi tl th hLo hHi hsz hlt hhi dp un gd cn cs aL ccd cl outer A₀ h₀ L m s Q E B F X0 N T hk hd hret
  subst hLo hHi
  revert X0; k_fill; intro X0
  refine wpAny_call ?_
  k_dflt (refine' code_nest ?k1 ?k2 ?k3 ?k4 ?k5 ?kA ?kF ?kK ?k6 ?k7 ?k8 ?k9 ?kB ?_ ?c2 ?c3 ?c4 ?c5; (case kA => exact rfl); (case kF => exact rfl); (case kK => assumption); (case k1 => k_asm); (case k2 => k_asm); (case k3 => k_asm); (case k4 => k_asm); (case k5 => k_asm); (case k6 => k_mem); (case k7 => exact codeRec_news (by k_asm) (by k_mem) (by assumption) (by assumption)); (case k8 => ktr_room); (case k9 => exact BindsTo.of_eq rfl); (case c5 => decide); (case kB => exact locs rfl); (case c2 => exact rfl); (case c3 => exact rfl); (case c4 => exact rfl); k_whole)
  intro g1 L1 h1 FG1 F1 N1 B1 X1 T1
  try dsimp only
  k_lift B1
  try k_fold
  have hmid := mid_eq lo hi
  have hraw : (Int.fdiv ((lo : Int) + (hi : Int)) (2 ^ Int.toNat 1) - (lo : Int)) * (n : Int) = ((n * ((lo + hi) / 2 - lo) : Nat) : Int) := by
    rw [hmid, Int.natCast_mul, Int.natCast_sub (by omega), Int.mul_comm]
  have hb1 : n * (hi - (lo + hi) / 2) ≤ 60 := Nat.le_trans (Nat.mul_le_mul_left n (by omega)) hb
  have hb2 : n * ((lo + hi) / 2 - lo) ≤ 60 := Nat.le_trans (Nat.mul_le_mul_left n (by omega)) hb
  have hs0 : 0 ≤ (Int.fdiv ((lo : Int) + (hi : Int)) (2 ^ Int.toNat 1) - (lo : Int)) * (n : Int) := by rw [hraw]; omega
  have hs1 : (Int.fdiv ((lo : Int) + (hi : Int)) (2 ^ Int.toNat 1) - (lo : Int)) * (n : Int) ≤ 1000000 := by rw [hraw]; omega
  have key : ∀ v1 v2 : Int, 0 ≤ v1 → v1 < 2 ^ (n * (hi - (lo + hi) / 2)) → 0 ≤ v2 → v2 < 2 ^ (n * ((lo + hi) / 2 - lo)) →
      0 ≤ v1 * 2 ^ Int.toNat ((Int.fdiv ((lo : Int) + (hi : Int)) (2 ^ Int.toNat 1) - (lo : Int)) * (n : Int)) + v2 ∧ v1 * 2 ^ Int.toNat ((Int.fdiv ((lo : Int) + (hi : Int)) (2 ^ Int.toNat 1) - (lo : Int)) * (n : Int)) + v2 < 2 ^ (n * (hi - lo)) := by
    intro v1 v2 a0 a1 b0 b1
    exact comb_bound (by rw [hraw, Int.toNat_natCast]) (by omega) (by omega) a0 a1 b0 b1
  k_steps
  · have e : Int.toNat (lo : Int) = lo := Int.toNat_natCast lo
    have gb := getD_bound (lo := lo) (hi := hi) hdig (by omega) hhi
    rw [← e] at gb
    simp only [e] at gb ⊢
    exact hret _ _ _ _ gb.1 gb.2 (by assumption) (by assumption)
  · exact hret _ _ _ _ (key _ _ (by assumption) (by assumption) (by assumption) (by assumption)).1 (key _ _ (by assumption) (by assumption) (by assumption) (by assumption)).2 (by assumption) (by assumption)
theorem inner2_call {w : World} {p : Program} {loose : List Str} {mean : ExcName → Option Value} {mg mb : Str → Option Value} {base : Heap} {name qual : Str} {params : Arguments} {body : List Stmt} {scope : Scope}
    {n k : Nat} {f c' cA cI cN D : Addr} {doc pm ct : Value} {oc oA oI oN : Obj} {vs : Array Value} {t tn : Tok} {ep : Nat} {led : List (Addr × Obj)} {Lo Hi : Int} {tl th : Tok} {ws : List Value} {ns : List Int}
    {dp un : Nat} {gd : Option (List Code)} {cn : Str} {cs : Scope} {aL : Addr} {ccd : Value} {cl : List (Str × Addr)} {outer : List Env} {A₀ : Around} {h₀ : Heap} {L : Addr} {m : Str → Option Value} {s : Shared} {Q E : Value → Shared → Prop}
    (hf : (f, fnMade name qual params body scope [(Str.ofString "n", cN), (Str.ofString "inner", cI), (Str.ofString "digits", cA)] doc pm c' ct) ∈ led) (hc : (c', oc) ∈ led) (hA : (cA, oA) ∈ led) (hI : (cI, oI) ∈ led) (hN : (cN, oN) ∈ led)
    (dA : oA.data = .cell (some (.ref D))) (dI : oI.data = .cell (some (.ref f))) (dN : oN.data = .cell (some (.int (n : Int) tn))) (d1 : oc.data = .fields vs) (d2 : vs[1]? = some (.str qual t)) (hP : innerParts 9 0 = some (params, body, scope))
    (hD : (D, W.listOf ws.toArray ep) ∈ led) (hn : 0 < n) (hn2 : n < 100) (C : CodeHd base 68 64)
    (hLo : Lo = 0) (hHi : Hi = (k : Int)) (hIs : IntsAre ws ns) (h3 : ns.length = k) (h4 : 0 < k) (h5 : k ≤ 64) (h6 : n * k ≤ 60) (hdig : ∀ d ∈ ns, 0 ≤ d ∧ d < 2 ^ n)
    (B : Below A₀ base outer h₀) (F : Fr h₀ L s.heap m) (X0 : (hd.heap_39 w.params).In h₀) (N : News h₀ L s.heap led) (T : Top p loose mean mg mb h₀) (hk : cs.kind = .function) (hd : dp + k + 1 < recursionLimit)
    (ret : ∀ v t h' tk', Fr h₀ L h' m → News h₀ L h' led → Q (.int v t) { s with heap := h', toks := tk' }) :
    wpAny (model PySem.Challenge.rw_ie0004_01.row.toRowW.prog w) (ktrTop dp un gd cn cs L aL ccd cl outer) (call (.ref f) [.int Lo tl, .int Hi th]) Q E s := by
  subst h3
  refine inner2_use (lo := 0) (hi := ns.length) (inner2_c (name := name) (c' := c') (cA := cA) (cI := cI) (cN := cN) (doc := doc) (pm := pm) (ct := ct) (ep := ep) (rest := led) hP hn hn2 d1 d2 dA dI dN C hIs hdig h6 h5 ns.length) hLo hHi (by omega) h4 (Nat.le_refl _) B F X0 (fun q hq => N q ?_) T hk hd fun v t h' tk' _ _ F' N' => ret v t h' tk' F' (fun q hq => N' q ?_)
  · simp only [List.mem_cons] at hq
    rcases hq with rfl | rfl | rfl | rfl | rfl | rfl | hq
    · exact hD
    · exact hf
    · exact hc
    · exact hA
    · exact hI
    · exact hN
    · exact hq
  · simp only [List.mem_cons]
    simp [hq]
end Mine
end
section
open PySem PySem.W PyProof.Rows PySem.Spec PySem.Calls
namespace Mine
local macro_rules | `(tactic| walk_at "none of these") => `(tactic| fail)
local macro_rules | `(tactic| walk_at "none of these") => `(tactic| fail)
abbrev Q2 : Str := (Str.ofString "_digits2int" ++ ".<locals>.") ++ Str.ofString "inner"
theorem mem_sub2 {q a b c : Addr × Obj} {l r : List (Addr × Obj)} (hq : q ∈ [b, c] ++ a :: l) (ha : a ∈ r) (hb : b ∈ r) (hc : c ∈ r) (hl : ∀ x ∈ l, x ∈ r) : q ∈ r := by
  simp only [List.cons_append, List.nil_append, List.mem_cons] at hq
  rcases hq with rfl | rfl | rfl | hq
  · exact hb
  · exact hc
  · exact ha
  · exact hl q hq
local macro_rules | `(tactic| k_all) => `(tactic| exact TailOff.off (by assumption))
local macro_rules | `(tactic| k_all) => `(tactic| exact tail_ne (by assumption) (by omega))
local macro_rules | `(tactic| walk_at "call builtin:len") => `(tactic| (k_here; (with_reducible show wpAny _ _ (call (Value.builtin "len") [Value.ref _]) _ _ _); k_dflt (refine' len_led ?N ?m ?v ?k ?_; (case N => k_asm); (case m => k_mem); (case v => assumption); (case k => omega); k_whole)))
local macro_rules | `(tactic| walk_at "call ref") => `(tactic| (k_here; (with_reducible show wpAny _ _ (call (Value.ref _) _) _ _ _); k_dflt (refine' inner2_call ?hf ?hc ?hA ?hI ?hN ?dA ?dI ?dN ?d1 ?d2 ?hP ?hD ?hn ?hn2 ?C ?hLo ?hHi ?hIs ?h3 ?h4 ?h5 ?h6 ?hdig ?B ?F ?X0 ?N ?T ?hk ?hd ?_; (case B => k_asm); (case F => k_asm); (case X0 => k_asm); (case N => k_asm); (case T => k_asm); (case hf => k_mem); (case hP => exact rfl); (case hc => k_mem); (case hA => k_mem); (case hI => k_mem); (case hN => k_mem); (case dA => assumption); (case dI => assumption); (case dN => assumption); (case d1 => assumption); (case d2 => assumption); (case hD => k_mem); (case hn => assumption); (case hn2 => assumption); (case C => assumption); (case hLo => exact rfl); (case hHi => exact rfl); (case hIs => assumption); (case h3 => assumption); (case h4 => omega); (case h5 => omega); (case h6 => assumption); (case hdig => assumption); (case hk => exact rfl); (case hd => ktr_room); k_whole); intro v9 t9 h9 tk9 F9 N9))
set_option maxRecDepth 100000 in
set_option maxHeartbeats 8000000 in
theorem digits2int_c (w : World) {p : Program} {loose : List Str} {mean : ExcName → Option Value} {mg mb : Str → Option Value} (n k : Nat) (tn : Tok) (hn : 0 < n) (hn2 : n < 100) (hk2 : n * k ≤ 60) (hk3 : k ≤ 64) {D : Addr} {ws : List Value} {ns : List Int} {e : Nat} (hI : IntsAre ws ns) (hlen : ns.length = k) (hlen2 : ws.length = k) (hdig : ∀ d ∈ ns, 0 ≤ d ∧ d < 2 ^ n)
    {dp un : Nat} {gd : Option (List Code)} {cn : Str} {cs : Scope} {aL : Addr} {ccd : Value} {cl : List (Str × Addr)} {outer : List Env} {A₀ : Around} {base h₀ : Heap} {L : Addr} {m : Str → Option Value} {s : Shared} {Q E : Value → Shared → Prop} {tabs news : List (Addr × Obj)}
    (ht : TabS 64 94 4 Q2 tabs) (hap : Apart tabs ((D, W.listOf ws.toArray e) :: news))
    (B : Below A₀ base outer h₀) (F : Fr h₀ L s.heap m) (X : (hd.heap_39 w.params).In h₀) (N : News h₀ L s.heap (tabs ++ (D, W.listOf ws.toArray e) :: news)) (T : Top p loose mean mg mb h₀) (C : CodeHd base 68 64) (hk : cs.kind = .function) (hd : dp + 70 < recursionLimit)
    (hret : ∀ v t tabs' h' tk', TabS 64 94 4 Q2 tabs' → Fr h₀ L h' m → News h₀ L h' (tabs' ++ (D, W.listOf ws.toArray e) :: news) → Apart tabs' ((D, W.listOf ws.toArray e) :: news) → Q (.int v t) { s with heap := h', toks := tk' }) :
    wpAny (model PySem.Challenge.rw_ie0004_01.row.toRowW.prog w) (ktrTop dp un gd cn cs L aL ccd cl outer) (call (.ref 69) [.ref D, .int (n : Int) tn]) Q E s := by
  w_top off
  revert X; k_fill; intro X
  have hoff : TailOff 64 news := by
    refine ⟨fun q hq e => ?_⟩
    rcases ht with _ | ⟨c0, oc0, vs0, t0, d10, d20, ne0⟩
    · exact hap _ (.head _) q (.tail _ hq) e.symm
    · exact hap _ (.head _) q (.tail _ hq) e.symm
  have hD : @Ne Nat D 64 := by
    intro e
    rcases ht with _ | ⟨c0, oc0, vs0, t0, d10, d20, ne0⟩
    · exact hap _ (.head _) _ (.head _) e.symm
    · exact hap _ (.head _) _ (.head _) e.symm
  rcases ht with _ | ⟨c0, oc0, vs0, t0, d10, d20, ne0⟩
  all_goals (
    simp only [List.cons_append, List.nil_append] at N
    refine wpAny_call ?_
    k_dflt (refine' code_defC ?k1 ?k2 ?k3 ?k4 ?k5 ?kA ?kF ?kK ?k6 ?k7 ?k8 ?k9 ?kB ?kD ?_ ?c2 ?c3 ?c4; (case kA => exact rfl); (case kF => exact rfl); (case kK => first | exact rfl | assumption); (case k1 => k_asm); (case k2 => k_asm); (case k3 => k_asm); (case k4 => k_asm); (case k5 => k_asm); (case k6 => k_is); (case k7 => k_is); (case k8 => first | k_room | ktr_room); (case k9 => exact BindsTo.of_eq rfl); (case kB => exact rfl); (case kD => decide +kernel); (case c2 => exact rfl); (case c3 => exact rfl); (case c4 => exact rfl); k_whole)
    intro g1 L1 h1 tk1 cells1 FG1 F1 N1 Y1 B1 X1 T1 l1
    have hnl : TailLt L1 news := ⟨fun p hp => l1 p (by simp [hp])⟩
    k_lt l1
    k_cells Y1
    (try simp only [List.cons_append, List.nil_append] at N1)
    try dsimp only
    k_lift B1
    try k_fold
    k_steps)
  · rename_i ff cc occ vss tt _ _ _ _ dd1 dd2 ltc ltf _ _ _ _ _ hne v9 t9 h9 tk9 _ _ kF kN _ _
    exact hret v9 t9 [(64, tabObj #[rawInt (94 : Nat), rawInt (4 : Nat), .ref cc]), (cc, occ)] h9 _ (TabS.made cc occ vss tt dd1 dd2 (by omega)) kF (fun q hq => kN q (mem_sub2 hq (by k_mem) (by k_mem) (by k_mem) fun x hx => by simp [hx])) (apart_made (Ne.symm hD) (by omega) hoff.off (tail_ne hnl (by omega)))
  · rename_i ff cc occ vss tt _ _ _ _ dd1 dd2 ltc ltf _ _ _ _ _ hne kF kN _ _
    exact hret _ _ [(64, tabObj #[rawInt (94 : Nat), rawInt (4 : Nat), .ref cc]), (cc, occ)] _ _ (TabS.made cc occ vss tt dd1 dd2 (by omega)) kF (fun q hq => kN q (mem_sub2 hq (by k_mem) (by k_mem) (by k_mem) fun x hx => by simp [hx])) (apart_made (Ne.symm hD) (by omega) hoff.off (tail_ne hnl (by omega)))
  · rename_i ff _ _ _ _ ltf _ _ _ _ _ hne v9 t9 h9 tk9 _ _ kF kN _ _
    exact hret v9 t9 [(64, tabObj #[rawInt (94 : Nat), rawInt (4 : Nat), .ref c0]), (c0, oc0)] h9 _ (TabS.made c0 oc0 vs0 t0 d10 d20 ne0) kF (fun q hq => kN q (mem_sub2 hq (by k_mem) (by k_mem) (by k_mem) fun x hx => by simp [hx])) hap
  · rename_i ff _ _ _ _ ltf _ _ _ _ _ hne kF kN _ _
    exact hret _ _ [(64, tabObj #[rawInt (94 : Nat), rawInt (4 : Nat), .ref c0]), (c0, oc0)] _ _ (TabS.made c0 oc0 vs0 t0 d10 d20 ne0) kF (fun q hq => kN q (mem_sub2 hq (by k_mem) (by k_mem) (by k_mem) fun x hx => by simp [hx])) hap
theorem digits2int_use {w : World} {p : Program} {loose : List Str} {mean : ExcName → Option Value} {mg mb : Str → Option Value} {n k : Nat} {tn : Tok} {D : Addr} {ws : List Value} {ns : List Int} {e : Nat}
    {dp un : Nat} {gd : Option (List Code)} {cn : Str} {cs : Scope} {aL : Addr} {ccd : Value} {cl : List (Str × Addr)} {outer : List Env} {A₀ : Around} {base h₀ : Heap} {L : Addr} {m : Str → Option Value} {s : Shared} {Q E : Value → Shared → Prop} {tabs led keep : List (Addr × Obj)}
    (hD : (D, W.listOf ws.toArray e) ∈ led) (hI : IntsAre ws ns) (hn : 0 < n) (hn2 : n < 100) (hk2 : n * k ≤ 60) (hk3 : k ≤ 64) (hlen : ns.length = k) (hdig : ∀ d ∈ ns, 0 ≤ d ∧ d < 2 ^ n)
    (ht : TabS 64 94 4 Q2 tabs) (hap : Apart tabs ((D, W.listOf ws.toArray e) :: keep)) (hs1 : ∀ p ∈ tabs, p ∈ led) (hs2 : ∀ p ∈ keep, p ∈ led)
    (B : Below A₀ base outer h₀) (F : Fr h₀ L s.heap m) (X : (hd.heap_39 w.params).In h₀) (N : News h₀ L s.heap led) (T : Top p loose mean mg mb h₀) (C : CodeHd base 68 64) (hk : cs.kind = .function) (hd : dp + 70 < recursionLimit)
    (hret : ∀ v t tabs' h' tk', TabS 64 94 4 Q2 tabs' → Fr h₀ L h' m → News h₀ L h' (tabs' ++ (D, W.listOf ws.toArray e) :: keep) → Apart tabs' ((D, W.listOf ws.toArray e) :: keep) → Q (.int v t) { s with heap := h', toks := tk' }) :
    wpAny (model PySem.Challenge.rw_ie0004_01.row.toRowW.prog w) (ktrTop dp un gd cn cs L aL ccd cl outer) (call (.ref 69) [.ref D, .int (n : Int) tn]) Q E s :=
  digits2int_c w n k tn hn hn2 hk2 hk3 hI hlen (hI.length.trans hlen) hdig ht hap B F X (fun q hq => N q (by
    rcases List.mem_append.mp hq with hq | hq
    · exact hs1 q hq
    · rcases List.mem_cons.mp hq with rfl | hq
      · exact hD
      · exact hs2 q hq)) T C hk hd hret
end Mine
end
section
open PySem PySem.W PyProof.Rows
namespace Mine
theorem bits_range {b : Nat} (hb : 1 < b) (hb2 : b < 8) : 1 < Builtin.Int.intBits (b : Int) ∧ Builtin.Int.intBits (b : Int) < 4 := by
  have : ∀ b : Nat, b < 8 → 1 < b → 1 < Builtin.Int.intBits (b : Int) ∧ Builtin.Int.intBits (b : Int) < 4 := by decide
  exact this b hb2 hb
theorem bits_lt {b : Nat} (hb : 1 < b) (hb2 : b < 8) : b < 2 ^ Builtin.Int.intBits (b : Int) ∧ 2 ^ Builtin.Int.intBits (b : Int) ≤ 8 := by
  have : ∀ b : Nat, b < 8 → 1 < b → b < 2 ^ Builtin.Int.intBits (b : Int) ∧ 2 ^ Builtin.Int.intBits (b : Int) ≤ 8 := by decide
  exact this b hb2 hb
theorem fm_rng {b : Nat} (x : Int) (hb : 1 < b) : 0 ≤ Int.fmod x (b : Int) ∧ Int.fmod x (b : Int) < b :=
  ⟨Int.fmod_nonneg_of_pos x (by omega), Int.fmod_lt_of_pos x (by omega)⟩
theorem fm_nat {b : Nat} {x : Int} (hb : 1 < b) (hb2 : b < 8) : (Int.fmod x (b : Int)).natAbs < 2 ^ 64 := by
  have := fm_rng x hb; omega
theorem intBits_small {x : Int} (h0 : 0 ≤ x) (h1 : x < 2 ^ 60) : Builtin.Int.intBits x ≤ 60 := by
  unfold Builtin.Int.intBits
  split
  · omega
  · rename_i h
    have h' : x.natAbs ≠ 0 := by intro e; apply h; simp; omega
    have := (Nat.log2_lt h' (k := 60)).mpr (by omega)
    omega
theorem step_bounds {b : Nat} {r : Int} {y : Nat} (hb : 1 < b) (hb2 : b < 8) (h0 : 0 ≤ r) (h1 : r < b) :
    let x := r * 2 ^ Int.toNat ((Builtin.Int.intBits (b : Int) : Nat) : Int) + ((y % 2 ^ Builtin.Int.intBits (b : Int) : Nat) : Int)
    0 ≤ x ∧ x < b * 2 ^ Builtin.Int.intBits (b : Int) ∧ x < 64 := by
  intro x
  have e : x = r * ((2 ^ Builtin.Int.intBits (b : Int) : Nat) : Int) + ((y % 2 ^ Builtin.Int.intBits (b : Int) : Nat) : Int) := by
    show r * 2 ^ Int.toNat ((Builtin.Int.intBits (b : Int) : Nat) : Int) + _ = _
    rw [Int.toNat_natCast]; push_cast; rfl
  rw [e]
  have hl := bits_lt hb hb2
  have hm := Nat.mod_lt y (Nat.two_pow_pos (Builtin.Int.intBits (b : Int)))
  have hp : (2 : Int) ^ Builtin.Int.intBits (b : Int) = ((2 ^ Builtin.Int.intBits (b : Int) : Nat) : Int) := by push_cast; rfl
  rw [hp]
  generalize 2 ^ Builtin.Int.intBits (b : Int) = q at *
  have h2 : r * (q : Int) ≤ ((b : Int) - 1) * (q : Int) := Int.mul_le_mul_of_nonneg_right (by omega) (by omega)
  have h3 : 0 ≤ r * (q : Int) := Int.mul_nonneg h0 (by omega)
  have h4 : (b : Int) * (q : Int) ≤ 8 * (q : Int) := Int.mul_le_mul_of_nonneg_right (by omega) (by omega)
  rw [Int.sub_mul, Int.one_mul] at h2
  omega
theorem bits_ok0 {b y : Nat} (hb : 1 < b) (hb2 : b < 8) : ((Builtin.Int.intBits (0 * 2 ^ Int.toNat ((Builtin.Int.intBits (b : Int) : Nat) : Int) + ((y % 2 ^ Builtin.Int.intBits (b : Int) : Nat) : Int)) : Nat) : Int) - ((Builtin.Int.intBits (b : Int) : Nat) : Int) ≤ 4000 := by
  have h := step_bounds (y := y) (r := 0) hb hb2 (by omega) (by omega)
  have := intBits_small h.1 (by have := h.2.2; omega)
  omega
theorem bits_ok1 {b y : Nat} {z : Int} (hb : 1 < b) (hb2 : b < 8) : ((Builtin.Int.intBits (Int.fmod z (b : Int) * 2 ^ Int.toNat ((Builtin.Int.intBits (b : Int) : Nat) : Int) + ((y % 2 ^ Builtin.Int.intBits (b : Int) : Nat) : Int)) : Nat) : Int) - ((Builtin.Int.intBits (b : Int) : Nat) : Int) ≤ 4000 := by
  have hf := fm_rng z hb
  have h := step_bounds (y := y) (r := Int.fmod z (b : Int)) hb hb2 hf.1 hf.2
  have := intBits_small h.1 (by have := h.2.2; omega)
  omega
theorem quo_ok {b : Nat} {x : Int} {n : Nat} (hb : 1 < b) (h : 0 ≤ x) (h2 : x < b * 2 ^ n) : 0 ≤ Int.fdiv x (b : Int) ∧ Int.fdiv x (b : Int) < 2 ^ n := by
  rw [Int.fdiv_eq_ediv_of_nonneg _ (by omega)]
  refine ⟨Int.ediv_nonneg h (by omega), Int.ediv_lt_of_lt_mul (by omega) ?_⟩
  rw [Int.mul_comm]; exact h2
theorem quo_ok0 {b y : Nat} (hb : 1 < b) (hb2 : b < 8) : 0 ≤ Int.fdiv (0 * 2 ^ Int.toNat ((Builtin.Int.intBits (b : Int) : Nat) : Int) + ((y % 2 ^ Builtin.Int.intBits (b : Int) : Nat) : Int)) (b : Int) ∧
    Int.fdiv (0 * 2 ^ Int.toNat ((Builtin.Int.intBits (b : Int) : Nat) : Int) + ((y % 2 ^ Builtin.Int.intBits (b : Int) : Nat) : Int)) (b : Int) < 2 ^ Builtin.Int.intBits (b : Int) := by
  have h := step_bounds (y := y) (r := 0) hb hb2 (by omega) (by omega)
  exact quo_ok hb h.1 h.2.1
theorem quo_ok1 {b y : Nat} {z : Int} (hb : 1 < b) (hb2 : b < 8) : 0 ≤ Int.fdiv (Int.fmod z (b : Int) * 2 ^ Int.toNat ((Builtin.Int.intBits (b : Int) : Nat) : Int) + ((y % 2 ^ Builtin.Int.intBits (b : Int) : Nat) : Int)) (b : Int) ∧
    Int.fdiv (Int.fmod z (b : Int) * 2 ^ Int.toNat ((Builtin.Int.intBits (b : Int) : Nat) : Int) + ((y % 2 ^ Builtin.Int.intBits (b : Int) : Nat) : Int)) (b : Int) < 2 ^ Builtin.Int.intBits (b : Int) := by
  have hf := fm_rng z hb
  have h := step_bounds (y := y) (r := Int.fmod z (b : Int)) hb hb2 hf.1 hf.2
  exact quo_ok hb h.1 h.2.1
theorem fmod_step (x p d b : Int) : Int.fmod (Int.fmod x b * p + d) b = Int.fmod (x * p + d) b := by
  rcases Int.lt_trichotomy b 0 with h | h | h
  · have e : x = b * Int.fdiv x b + Int.fmod x b := (Int.mul_fdiv_add_fmod x b).symm
    have e2 : x * p + d = (Int.fmod x b * p + d) + (Int.fdiv x b * p) * b := by
      conv => lhs; rw [e]
      rw [Int.add_mul, Int.mul_comm b, Int.mul_assoc, Int.mul_comm b p, ← Int.mul_assoc]; omega
    rw [e2, Int.add_mul_fmod_self_right]
  · subst h; simp
  · have e : x = b * Int.fdiv x b + Int.fmod x b := (Int.mul_fdiv_add_fmod x b).symm
    have e2 : x * p + d = (Int.fmod x b * p + d) + (Int.fdiv x b * p) * b := by
      conv => lhs; rw [e]
      rw [Int.add_mul, Int.mul_comm b, Int.mul_assoc, Int.mul_comm b p, ← Int.mul_assoc]; omega
    rw [e2, Int.add_mul_fmod_self_right]
theorem fmod_nat (a b : Nat) : Int.fmod (a : Int) (b : Int) = ((a % b : Nat) : Int) := by
  rw [Int.fmod_eq_emod_of_nonneg _ (by omega)]; rfl
theorem rest1 {a b n : Nat} (h : a < 2 ^ (n * 1)) : Int.fmod (0 * 2 ^ Int.toNat (n : Int) + ((a % 2 ^ n : Nat) : Int)) (b : Int) = ((a % b : Nat) : Int) := by
  rw [Nat.mul_one] at h
  rw [Int.zero_mul, Int.zero_add, Nat.mod_eq_of_lt h, fmod_nat]
theorem glue {a q : Nat} : ((a / q : Nat) : Int) * (q : Int) + ((a % q : Nat) : Int) = (a : Int) := by
  have := Nat.div_add_mod a q
  rw [Nat.mul_comm] at this
  exact_mod_cast this
theorem pow_cast (n : Nat) : (2 : Int) ^ Int.toNat (n : Int) = ((2 ^ n : Nat) : Int) := by rw [Int.toNat_natCast]; push_cast; rfl
theorem rest2 {a b n : Nat} (h : a < 2 ^ (n * 2)) : Int.fmod (Int.fmod (0 * 2 ^ Int.toNat (n : Int) + ((a / 2 ^ n % 2 ^ n : Nat) : Int)) (b : Int) * 2 ^ Int.toNat (n : Int) + ((a % 2 ^ n : Nat) : Int)) (b : Int) = ((a % b : Nat) : Int) := by
  have h2 : a / 2 ^ n < 2 ^ n := by
    rw [Nat.div_lt_iff_lt_mul (Nat.two_pow_pos _), ← Nat.pow_add]; rwa [Nat.mul_two] at h
  rw [fmod_step, Int.zero_mul, Int.zero_add, Nat.mod_eq_of_lt h2, pow_cast, glue, fmod_nat]
theorem rest3 {a b n : Nat} (h : a < 2 ^ (n * 3)) : Int.fmod (Int.fmod (Int.fmod (0 * 2 ^ Int.toNat (n : Int) + ((a / 2 ^ n / 2 ^ n % 2 ^ n : Nat) : Int)) (b : Int) * 2 ^ Int.toNat (n : Int) + ((a / 2 ^ n % 2 ^ n : Nat) : Int)) (b : Int) * 2 ^ Int.toNat (n : Int) + ((a % 2 ^ n : Nat) : Int)) (b : Int) = ((a % b : Nat) : Int) := by
  have h2 : a / 2 ^ n < 2 ^ (n * 2) := by
    rw [Nat.div_lt_iff_lt_mul (Nat.two_pow_pos _), ← Nat.pow_add]
    rwa [show n * 3 = n * 2 + n by omega] at h
  rw [rest2 h2, ← fmod_nat, fmod_step, pow_cast, glue, fmod_nat]
end Mine
end
section
open PySem PySem.W PyProof.Rows PySem.Spec PySem.Calls
namespace Mine
local macro_rules | `(tactic| walk_at "none of these") => `(tactic| fail)
theorem allLt_off {c : Nat} {l : List (Addr × Obj)} (h : AllLt c l) : ∀ p ∈ l, p.1 ≠ c := by
  induction l with
  | nil => exact fun _ hp => nomatch hp
  | cons p r ih =>
    intro q hq
    rcases List.mem_cons.mp hq with rfl | hq
    · exact Nat.ne_of_lt h.1
    · exact ih h.2 q hq
theorem allLt_lt {c : Nat} {l : List (Addr × Obj)} (h : AllLt c l) : ∀ p ∈ l, (p.1 : Nat) < c := by
  induction l with
  | nil => exact fun _ hp => nomatch hp
  | cons p r ih =>
    intro q hq
    rcases List.mem_cons.mp hq with rfl | hq
    · exact h.1
    · exact ih h.2 q hq
theorem apart_mid {t1 t2 news : List (Addr × Obj)} {x : Addr × Obj} {D : Addr} {o : Obj} (h1 : Apart t1 (x :: (t2 ++ news))) (h2 : Apart t2 news) (h3 : ∀ p ∈ t1 ++ (t2 ++ news), p.1 ≠ D) : Apart t2 ((D, o) :: (t1 ++ news)) := by
  intro p hp q hq
  rcases List.mem_cons.mp hq with rfl | hq
  · exact h3 p (by simp [hp])
  · rcases List.mem_append.mp hq with hq | hq
    · exact Ne.symm (h1 q hq p (by simp [hp]))
    · exact h2 p hp q hq
theorem apart_fin1 {t1 t2 t2' news : List (Addr × Obj)} {x y : Addr × Obj} {D : Addr} {o : Obj} (h1 : Apart t1 (x :: (t2 ++ news))) (h2 : Apart t2' (y :: (t1 ++ news))) (h3 : AllLt D (t2' ++ y :: (t1 ++ news))) : Apart t1 (t2' ++ (D, o) :: news) := by
  intro p hp q hq
  rcases List.mem_append.mp hq with hq | hq
  · exact Ne.symm (h2 q hq p (by simp [hp]))
  · rcases List.mem_cons.mp hq with rfl | hq
    · exact allLt_off h3 p (by simp [hp])
    · exact h1 p hp q (by simp [hq])
theorem apart_fin2 {t1 t2' news : List (Addr × Obj)} {y : Addr × Obj} {D : Addr} {o : Obj} (h2 : Apart t2' (y :: (t1 ++ news))) (h3 : AllLt D (t2' ++ y :: (t1 ++ news))) : Apart t2' ((D, o) :: news) := by
  intro p hp q hq
  rcases List.mem_cons.mp hq with rfl | hq
  · exact allLt_off h3 p (by simp [hp])
  · exact h2 p hp q (by simp [hq])
theorem fin_news {h₀ h : Heap} {L D : Addr} {t1 t2 news : List (Addr × Obj)} {y : Addr × Obj} {o : Obj} (N : News h₀ L h ((D, o) :: (t2 ++ y :: (t1 ++ news)))) : News h₀ L h ((D, o) :: (t1 ++ (t2 ++ news))) := fun q hq => N q (by
  simp only [List.mem_cons, List.mem_append] at hq ⊢
  rcases hq with rfl | hq | hq | hq
  · exact .inl rfl
  · simp [hq]
  · simp [hq]
  · simp [hq])
theorem offI_of {I : Addr} {it : Obj} {l : List (Addr × Obj)} (h : ∀ p ∈ l, p.1 ≠ I) : OffI I it l := by
  induction l with
  | nil => exact trivial
  | cons p r ih => exact ⟨.inl (h p (.head _)), ih fun q hq => h q (.tail _ hq)⟩
theorem unr_end1 {h₀ : Heap} {L I : Addr} {it : Obj} {rest : (Str → Option Value) → List (Addr × Obj) → Prop} {s₁ : Shared} {h' : Heap} {tk : Nat} {m' : Str → Option Value} {x : Addr × Obj} {r : List (Addr × Obj)} (F : Fr h₀ L h' m') (N : News h₀ L h' (x :: (I, it) :: r))
    (hx : x.1 ≠ I) (hr : ∀ p ∈ r, p.1 ≠ I) (k : rest m' (x :: r)) : UnrEnd h₀ L s₁ I it rest { s₁ with heap := h', toks := tk } :=
  UnrEnd.intro F N (x :: r) (fun p hp => by
    simp only [List.mem_cons] at hp ⊢
    rcases hp with rfl | rfl | hp
    · exact .inr (.inl rfl)
    · exact .inl rfl
    · exact .inr (.inr hp)) (fun p hp => by
    rcases List.mem_cons.mp hp with rfl | hp
    · exact hx
    · exact hr p hp) k
theorem allLt_off1 {a : Prop} {c : Nat} {l : List (Addr × Obj)} (h : a ∧ AllLt c l) : ∀ p ∈ l, p.1 ≠ c := allLt_off h.2
theorem allLt_off2 {a b : Prop} {c : Nat} {l : List (Addr × Obj)} (h : a ∧ b ∧ AllLt c l) : ∀ p ∈ l, p.1 ≠ c := allLt_off h.2.2
theorem allLt_off3 {a b d : Prop} {c : Nat} {l : List (Addr × Obj)} (h : a ∧ b ∧ d ∧ AllLt c l) : ∀ p ∈ l, p.1 ≠ c := allLt_off h.2.2.2
theorem allLt_off4 {a b d e : Prop} {c : Nat} {l : List (Addr × Obj)} (h : a ∧ b ∧ d ∧ e ∧ AllLt c l) : ∀ p ∈ l, p.1 ≠ c := allLt_off h.2.2.2.2
theorem allLt_off5 {a b d e f : Prop} {c : Nat} {l : List (Addr × Obj)} (h : a ∧ b ∧ d ∧ e ∧ f ∧ AllLt c l) : ∀ p ∈ l, p.1 ≠ c := allLt_off h.2.2.2.2.2
theorem allLt_off6 {a b d e f g : Prop} {c : Nat} {l : List (Addr × Obj)} (h : a ∧ b ∧ d ∧ e ∧ f ∧ g ∧ AllLt c l) : ∀ p ∈ l, p.1 ≠ c := allLt_off h.2.2.2.2.2.2
local macro_rules | `(tactic| k_all) => `(tactic| first | exact allLt_off (by assumption) | exact allLt_off1 (by assumption) | exact allLt_off2 (by assumption) | exact allLt_off3 (by assumption) | exact allLt_off4 (by assumption) | exact allLt_off5 (by assumption) | exact allLt_off6 (by assumption))
theorem ints1 {ws : List Value} {x : Int} (h : IntsAre ws [x]) : ∃ t, ws = [.int x t] := by
  cases h with | cons _ t h => cases h; exact ⟨t, rfl⟩
theorem ints2 {ws : List Value} {x y : Int} (h : IntsAre ws [x, y]) : ∃ t u, ws = [.int x t, .int y u] := by
  cases h with | cons _ t h => obtain ⟨u, rfl⟩ := ints1 h; exact ⟨t, u, rfl⟩
theorem ints3 {ws : List Value} {x y z : Int} (h : IntsAre ws [x, y, z]) : ∃ t u v, ws = [.int x t, .int y u, .int z v] := by
  cases h with | cons _ t h => obtain ⟨u, v, rfl⟩ := ints2 h; exact ⟨t, u, v, rfl⟩
local macro_rules | `(tactic| walk_at "binaryOp LShift int int") => `(tactic| ((with_reducible refine lshift_int_small ?a ?b ?c ?_); (case a => omega); (case b => omega); (case c => first | exact fm_nat (by assumption) (by assumption) | omega)))
local macro_rules | `(tactic| walk_at "call ref") => `(tactic| (k_here; (with_reducible show wpAny _ _ (call (Value.ref _) _) _ _ _); refine stop_of ?_))
local macro_rules | `(tactic| walk_at "call ref") => `(tactic| (k_here; (with_reducible show wpAny _ _ (call (Value.ref _) [Value.int _ _, Value.int _ _, Value.int _ _]) _ _ _); k_dflt (refine' div2n1n_c _ _ _ _ _ _ _ ?hb ?hb2 ?hbits ?B ?F ?X ?N ?T ?hk ?hd ?hu ?_; (case hb => omega); (case hb2 => omega); (case hbits => first | with_reducible exact bits_ok0 (by assumption) (by assumption) | with_reducible exact bits_ok1 (by assumption) (by assumption)); (case B => k_asm); (case F => k_asm); (case X => k_asm); (case N => k_asm); (case T => k_asm); (case hk => exact rfl); (case hd => ktr_room); (case hu => ktr_units); k_whole); intro D9 t1 t2 c9 h9 tk9 F9 N9 l9; (try k_lt l9); (try k_sweep)))
local macro_rules | `(tactic| walk_at "pyIter ref") => `(tactic| (k_here; (with_reducible show wpAny _ _ (pyIter (Value.ref _)) (fun it s₂ => LoopAtV _ _ _ _ _ _ _ _ _ it s₂) _ _); (rename Fr _ _ _ _ => lF'); (rename News _ _ _ _ => lN'); (with_unfolding_all refine iter_revUnr (by rfl) lF' lN' (offI_of (by k_all)) (by k_mem) (by rfl) (by rfl) ?_); clear lF' lN'))
local macro_rules | `(tactic| walk_at "UnrEnd") => `(tactic| (refine unr_end1 (by assumption) (by assumption) (by k_ne) (by k_all) ⟨by k_mem, ?_⟩))
set_option maxRecDepth 100000 in
set_option maxHeartbeats 8000000 in
theorem divmod_pos_c (w : World) {p : Program} {loose : List Str} {mean : ExcName → Option Value} {mg mb : Str → Option Value} (a b k : Nat) (ta tb : Tok) (ha : a < 64) (hb : 1 < b) (hb2 : b < 8) (hkk : Int.fdiv (((Builtin.Int.intBits (a : Int) : Nat) : Int) + ((Builtin.Int.intBits (b : Int) : Nat) : Int) - 1) ((Builtin.Int.intBits (b : Int) : Nat) : Int) = (k : Int)) (hk1 : 0 < k) (hk2 : k ≤ 3) (hak : a < 2 ^ (Builtin.Int.intBits (b : Int) * k))
    {dp un : Nat} {gd : Option (List Code)} {cn : Str} {cs : Scope} {aL : Addr} {ccd : Value} {cl : List (Str × Addr)} {outer : List Env} {A₀ : Around} {base h₀ : Heap} {L : Addr} {m : Str → Option Value} {s : Shared} {Q E : Value → Shared → Prop} {t1 t2 news : List (Addr × Obj)}
    (ht1 : TabS 57 79 4 Q1 t1) (ht2 : TabS 64 94 4 Q2 t2) (hap1 : Apart t1 (t2 ++ news)) (hap2 : Apart t2 news)
    (B : Below A₀ base outer h₀) (F : Fr h₀ L s.heap m) (X : (hd.heap_39 w.params).In h₀) (N : News h₀ L s.heap (t1 ++ (t2 ++ news))) (T : Top p loose mean mg mb h₀) (C1 : CodeHd base 61 57) (C2 : CodeHd base 68 64) (hk : cs.kind = .function) (hd : dp + 80 < recursionLimit) (hu : un + 30 < cLine)
    (hret : ∀ D q tq tr e t1' t2' h' tk', TabS 57 79 4 Q1 t1' → TabS 64 94 4 Q2 t2' → Fr h₀ L h' m → News h₀ L h' ((D, tup2 (.int q tq) (.int ((a % b : Nat) : Int) tr) e) :: (t1' ++ (t2' ++ news))) → (∀ p ∈ news, p.1 < D) → Apart t1' (t2' ++ (D, tup2 (.int q tq) (.int ((a % b : Nat) : Int) tr) e) :: news) → Apart t2' ((D, tup2 (.int q tq) (.int ((a % b : Nat) : Int) tr) e) :: news) → Q (.ref D) { s with heap := h', toks := tk' }) :
    wpAny (model PySem.Challenge.rw_ie0004_01.row.toRowW.prog w) (ktrTop dp un gd cn cs L aL ccd cl outer) (call (.ref 76) [.int (a : Int) ta, .int (b : Int) tb]) Q E s := by
  w_top off
  revert X; k_fill; intro X
  refine wpAny_call ?_
  k_dflt (refine' code_def ?k1 ?k2 ?k3 ?k4 ?k5 ?kA ?kF ?kK ?k6 ?k7 ?k8 ?k9 ?kB ?_ ?c2 ?c3 ?c4 ?c5; (case kA => exact rfl); (case kF => exact rfl); (case kK => assumption); (case k1 => k_asm); (case k2 => k_asm); (case k3 => k_asm); (case k4 => k_asm); (case k5 => k_asm); (case k6 => k_is); (case k7 => k_is); (case k8 => ktr_room); (case k9 => exact BindsTo.of_eq rfl); (case c5 => decide); (case kB => exact locs rfl); (case c2 => exact rfl); (case c3 => exact rfl); (case c4 => exact rfl); k_whole)
  intro g1 L1 h1 FG1 F1 N1 B1 X1 T1
  try dsimp only
  k_lift B1
  try k_fold
  obtain ⟨hn1, hn2⟩ := bits_range hb hb2
  k_steps
  unfold Stop
  refine int2digits_c w a (Builtin.Int.intBits (b : Int)) k _ _ (by omega) (by omega) (by omega) hkk (by omega) hak ht1 hap1 (by k_asm) (by k_asm) (by k_asm) (by k_asm) (by k_asm) C1 rfl (by ktr_room) ?_
  intro D1 ws e1 t1' h2 tk2 ht1' hI F2 N2 l2 hap1'
  have hk3 : k = 1 ∨ k = 2 ∨ k = 3 := by omega
  rcases hk3 with rfl | rfl | rfl
  · simp only [dg] at hI
    obtain ⟨x1, rfl⟩ := ints1 hI
    k_steps
    unfold Stop
    k_dflt (refine' digits2int_use (tabs := t2) (keep := t1' ++ news) (k := 1) ?hD ?hI ?hn ?hn2 ?hk2 ?hk3 ?hlen ?hdig ht2 ?hap ?hs1 ?hs2 ?B ?F ?X ?N ?T C2 ?hk ?hd ?_; (case B => k_asm); (case F => k_asm); (case X => k_asm); (case N => k_asm); (case T => k_asm); (case hD => k_mem); (case hI => first | exact .cons _ _ .nil | exact .cons _ _ (.cons _ _ .nil) | exact .cons _ _ (.cons _ _ (.cons _ _ .nil))); (case hn => omega); (case hn2 => omega); (case hk2 => omega); (case hk3 => omega); (case hlen => exact rfl); (case hk => exact rfl); (case hd => ktr_room))
    case hdig => repeat' (first | exact List.forall_mem_nil _ | with_reducible exact quo_ok0 hb hb2 | with_reducible exact quo_ok1 hb hb2 | refine List.forall_mem_cons.mpr ⟨?_, ?_⟩)
    case hap => exact apart_mid hap1' hap2 (by k_all)
    case hs1 => exact fun q hq => by simp [hq]
    case hs2 => exact fun q hq => by rcases List.mem_append.mp hq with hq | hq <;> simp [hq]
    intro v9 t9 t2' h9 tk9 ht2' F9 N9 hap9
    k_steps
    rename News _ _ _ _ => kN9
    rename_i lt9 _ _ _
    replace lt9 := allLt_of lt9
    rw [rest1 hak] at kN9
    exact hret _ _ _ _ _ t1' t2' _ _ ht1' ht2' (by assumption) (fin_news kN9) (fun q hq => allLt_lt lt9 q (by simp [hq])) (apart_fin1 hap1' hap9 lt9) (apart_fin2 hap9 lt9)
  · simp only [dg] at hI
    obtain ⟨x1, x2, rfl⟩ := ints2 hI
    k_steps
    unfold Stop
    k_dflt (refine' digits2int_use (tabs := t2) (keep := t1' ++ news) (k := 2) ?hD ?hI ?hn ?hn2 ?hk2 ?hk3 ?hlen ?hdig ht2 ?hap ?hs1 ?hs2 ?B ?F ?X ?N ?T C2 ?hk ?hd ?_; (case B => k_asm); (case F => k_asm); (case X => k_asm); (case N => k_asm); (case T => k_asm); (case hD => k_mem); (case hI => first | exact .cons _ _ .nil | exact .cons _ _ (.cons _ _ .nil) | exact .cons _ _ (.cons _ _ (.cons _ _ .nil))); (case hn => omega); (case hn2 => omega); (case hk2 => omega); (case hk3 => omega); (case hlen => exact rfl); (case hk => exact rfl); (case hd => ktr_room))
    case hdig => repeat' (first | exact List.forall_mem_nil _ | with_reducible exact quo_ok0 hb hb2 | with_reducible exact quo_ok1 hb hb2 | refine List.forall_mem_cons.mpr ⟨?_, ?_⟩)
    case hap => exact apart_mid hap1' hap2 (by k_all)
    case hs1 => exact fun q hq => by simp [hq]
    case hs2 => exact fun q hq => by rcases List.mem_append.mp hq with hq | hq <;> simp [hq]
    intro v9 t9 t2' h9 tk9 ht2' F9 N9 hap9
    k_steps
    rename News _ _ _ _ => kN9
    rename_i lt9 _ _ _
    replace lt9 := allLt_of lt9
    rw [rest2 hak] at kN9
    exact hret _ _ _ _ _ t1' t2' _ _ ht1' ht2' (by assumption) (fin_news kN9) (fun q hq => allLt_lt lt9 q (by simp [hq])) (apart_fin1 hap1' hap9 lt9) (apart_fin2 hap9 lt9)
  · simp only [dg] at hI
    obtain ⟨x1, x2, x3, rfl⟩ := ints3 hI
    k_steps
    unfold Stop
    k_dflt (refine' digits2int_use (tabs := t2) (keep := t1' ++ news) (k := 3) ?hD ?hI ?hn ?hn2 ?hk2 ?hk3 ?hlen ?hdig ht2 ?hap ?hs1 ?hs2 ?B ?F ?X ?N ?T C2 ?hk ?hd ?_; (case B => k_asm); (case F => k_asm); (case X => k_asm); (case N => k_asm); (case T => k_asm); (case hD => k_mem); (case hI => first | exact .cons _ _ .nil | exact .cons _ _ (.cons _ _ .nil) | exact .cons _ _ (.cons _ _ (.cons _ _ .nil))); (case hn => omega); (case hn2 => omega); (case hk2 => omega); (case hk3 => omega); (case hlen => exact rfl); (case hk => exact rfl); (case hd => ktr_room))
    case hdig => repeat' (first | exact List.forall_mem_nil _ | with_reducible exact quo_ok0 hb hb2 | with_reducible exact quo_ok1 hb hb2 | refine List.forall_mem_cons.mpr ⟨?_, ?_⟩)
    case hap => exact apart_mid hap1' hap2 (by k_all)
    case hs1 => exact fun q hq => by simp [hq]
    case hs2 => exact fun q hq => by rcases List.mem_append.mp hq with hq | hq <;> simp [hq]
    intro v9 t9 t2' h9 tk9 ht2' F9 N9 hap9
    k_steps
    rename News _ _ _ _ => kN9
    rename_i lt9 _ _ _
    replace lt9 := allLt_of lt9
    rw [rest3 hak] at kN9
    exact hret _ _ _ _ _ t1' t2' _ _ ht1' ht2' (by assumption) (fin_news kN9) (fun q hq => allLt_lt lt9 q (by simp [hq])) (apart_fin1 hap1' hap9 lt9) (apart_fin2 hap9 lt9)
end Mine
end
section
open PySem PySem.W PyProof.Rows PySem.Spec PySem.Calls
namespace Mine
local macro_rules | `(tactic| walk_at "none of these") => `(tactic| fail)
def kd (a b : Nat) : Nat := (Builtin.Int.intBits (a : Int) + Builtin.Int.intBits (b : Int) - 1) / Builtin.Int.intBits (b : Int)
def kdOk (a b : Nat) : Bool := decide (Int.fdiv (((Builtin.Int.intBits (a : Int) : Nat) : Int) + ((Builtin.Int.intBits (b : Int) : Nat) : Int) - 1) ((Builtin.Int.intBits (b : Int) : Nat) : Int) = (kd a b : Int)) && decide (0 < kd a b) && decide (kd a b ≤ 3) && decide (a < 2 ^ (Builtin.Int.intBits (b : Int) * kd a b))
theorem kdOk_all : ∀ a : Nat, a < 64 → ∀ b : Nat, b < 8 → (a = 0 || b ≤ 1 || kdOk a b) = true := by decide +kernel
theorem kdig {a b : Nat} (ha0 : 0 < a) (ha : a < 64) (hb : 1 < b) (hb2 : b < 8) : ∃ k : Nat, Int.fdiv (((Builtin.Int.intBits (a : Int) : Nat) : Int) + ((Builtin.Int.intBits (b : Int) : Nat) : Int) - 1) ((Builtin.Int.intBits (b : Int) : Nat) : Int) = (k : Int) ∧ 0 < k ∧ k ≤ 3 ∧ a < 2 ^ (Builtin.Int.intBits (b : Int) * k) := by
  have h := kdOk_all a ha b hb2
  rw [Bool.or_eq_true, Bool.or_eq_true, decide_eq_true_eq, decide_eq_true_eq] at h
  rcases h with (h | h) | h
  · omega
  · omega
  · unfold kdOk at h
    simp only [Bool.and_eq_true, decide_eq_true_eq] at h
    exact ⟨kd a b, h.1.1.1, h.1.1.2, h.1.2, h.2⟩
local macro_rules | `(tactic| walk_at "call ref") => `(tactic| (k_here; (with_reducible show wpAny _ _ (call (Value.ref _) _) _ _ _); refine stop_of ?_))
set_option maxRecDepth 100000 in
set_option maxHeartbeats 8000000 in
theorem int_divmod_c (w : World) {p : Program} {loose : List Str} {mean : ExcName → Option Value} {mg mb : Str → Option Value} (a b : Nat) (ta tb : Tok) (ha0 : 0 < a) (ha : a < 64) (hb : 1 < b) (hb2 : b < 8)
    {dp un : Nat} {gd : Option (List Code)} {cn : Str} {cs : Scope} {aL : Addr} {ccd : Value} {cl : List (Str × Addr)} {outer : List Env} {A₀ : Around} {base h₀ : Heap} {L : Addr} {m : Str → Option Value} {s : Shared} {Q E : Value → Shared → Prop} {t1 t2 news : List (Addr × Obj)}
    (ht1 : TabS 57 79 4 Q1 t1) (ht2 : TabS 64 94 4 Q2 t2) (hap1 : Apart t1 (t2 ++ news)) (hap2 : Apart t2 news)
    (B : Below A₀ base outer h₀) (F : Fr h₀ L s.heap m) (X : (hd.heap_39 w.params).In h₀) (N : News h₀ L s.heap (t1 ++ (t2 ++ news))) (T : Top p loose mean mg mb h₀) (C1 : CodeHd base 61 57) (C2 : CodeHd base 68 64) (hk : cs.kind = .function) (hd : dp + 90 < recursionLimit) (hu : un + 50 < cLine)
    (hret : ∀ D q tq tr e t1' t2' h' tk', TabS 57 79 4 Q1 t1' → TabS 64 94 4 Q2 t2' → Fr h₀ L h' m → News h₀ L h' ((D, tup2 (.int q tq) (.int ((a % b : Nat) : Int) tr) e) :: (t1' ++ (t2' ++ news))) → (∀ p ∈ news, p.1 < D) → Apart t1' (t2' ++ (D, tup2 (.int q tq) (.int ((a % b : Nat) : Int) tr) e) :: news) → Apart t2' ((D, tup2 (.int q tq) (.int ((a % b : Nat) : Int) tr) e) :: news) → Q (.ref D) { s with heap := h', toks := tk' }) :
    wpAny (model PySem.Challenge.rw_ie0004_01.row.toRowW.prog w) (ktrTop dp un gd cn cs L aL ccd cl outer) (call (.ref 83) [.int (a : Int) ta, .int (b : Int) tb]) Q E s := by
  w_top off
  revert X; k_fill; intro X
  refine wpAny_call ?_
  k_dflt (refine' code_def ?k1 ?k2 ?k3 ?k4 ?k5 ?kA ?kF ?kK ?k6 ?k7 ?k8 ?k9 ?kB ?_ ?c2 ?c3 ?c4 ?c5; (case kA => exact rfl); (case kF => exact rfl); (case kK => assumption); (case k1 => k_asm); (case k2 => k_asm); (case k3 => k_asm); (case k4 => k_asm); (case k5 => k_asm); (case k6 => k_is); (case k7 => k_is); (case k8 => ktr_room); (case k9 => exact BindsTo.of_eq rfl); (case c5 => decide); (case kB => exact locs rfl); (case c2 => exact rfl); (case c3 => exact rfl); (case c4 => exact rfl); k_whole)
  intro g1 L1 h1 FG1 F1 N1 B1 X1 T1
  try dsimp only
  k_lift B1
  try k_fold
  obtain ⟨k, hkk, hk1, hk2, hak⟩ := kdig ha0 ha hb hb2
  k_steps
  all_goals (try (exfalso; omega))
  unfold Stop
  refine divmod_pos_c w a b k _ _ ha hb hb2 hkk hk1 hk2 hak ht1 ht2 hap1 hap2 (by k_asm) (by k_asm) (by k_asm) (by k_asm) (by k_asm) C1 C2 rfl (by ktr_room) (by ktr_units) ?_
  intro D q tq tr e t1' t2' h2 tk2 ht1' ht2' F2 N2 l2 ap1 ap2
  k_steps
  exact hret D q tq tr e t1' t2' _ _ ht1' ht2' (by assumption) (by assumption) l2 ap1 ap2
end Mine
end
section
open PySem PySem.W PyProof.Rows PySem.Spec PySem.Calls
namespace Mine
section
variable {prog : Program} {w : World} {A : Around} {E : Value → Shared → Prop} {s : Shared} {env : Env} {h₀ : Heap} {x : Str} {px : Pos} {body : List Stmt} {Q : Flow → Shared → Prop}
def LoopC (prog : Program) (w : World) (A : Around) (env : Env) (x : Str) (px : Pos) (body : List Stmt) (Q : Flow → Shared → Prop) (E : Value → Shared → Prop) (it : Value) (s₂ : Shared) : Prop :=
  codeAny (model prog w) A (.forLoop (.Name x px) it body [] env) (fun r s' => match r with | .ok f => Q f s' | .error e => cameBackBy (model prog w) A env E e s') s₂
theorem for_C {iter : Expr} {pos : Pos} (h : wpAny (model prog w) A (eval iter env) (fun xv s₁ => wpAny (model prog w) A (pyIter xv) (fun it s₂ => LoopC prog w A env x px body Q E it s₂) E s₁) E s)
    (hs : ∀ x, foldedSetIterable iter env x = pure x := by intro _; rfl) : wpAny (model prog w) A (exec (.For (.Name x px) iter body [] pos) env) Q E s :=
  wpAny_For (wpAny_mono h (fun _ _ h₁ => wpAny_mono h₁ (fun _ _ h₂ => h₂) fun _ _ e => e) fun _ _ e => e) hs
def TurnEnd (h₀ : Heap) (L : Addr) (I : Addr) (oI : Obj) (J : (Str → Option Value) → List (Addr × Obj) → Prop) (s₁ s₂ : Shared) : Prop :=
  ∃ h' tk' m' news', s₂ = { s₁ with heap := h', toks := tk' } ∧ Fr h₀ L h' m' ∧ News h₀ L h' ((I, oI) :: news') ∧ (∀ p ∈ news', p.1 ≠ I) ∧ J m' news'
def TurnPost (h₀ : Heap) (L : Addr) (I : Addr) (oI : Obj) (J : (Str → Option Value) → List (Addr × Obj) → Prop) (s₁ : Shared) (Q : Flow → Shared → Prop) (f : Flow) (s₂ : Shared) : Prop :=
  match f with
  | .ret v => Q (.ret v) s₂
  | .brk => Q .next s₂
  | _ => TurnEnd h₀ L I oI J s₁ s₂
theorem loopC_down {r : Addr} {a₀ b₀ : Int} {t₀ u₀ v₀ : Tok} {n : Nat} {m₀ : Str → Option Value} {news : List (Addr × Obj)} (J : Nat → (Str → Option Value) → List (Addr × Obj) → Prop)
    (hE : PassesOwn (model prog w) A env E) (hh : A.handled = none) (hr : IsRange s.heap r a₀ b₀ (-1) t₀ u₀ v₀) (hsmall : Builtin.Range.small a₀ b₀ (-1) = true) (hn : Builtin.Range.rangeSize a₀ b₀ (-1) = (n : Int))
    (F : Fr h₀ env.locals s.heap m₀) (N : News h₀ env.locals s.heap news) (hj : J 0 m₀ news)
    (turn : ∀ i t m₁ news₁ I oI h tk, i < n → J i m₁ news₁ → (∀ p ∈ news₁, p.1 ≠ I) → Fr h₀ env.locals h m₁ → News h₀ env.locals h ((I, oI) :: news₁) →
      wpAny (model prog w) A (assign (.Name x px) env (.int (a₀ - (i : Int)) t)) (fun _ s₂ => wpAny (model prog w) A (execs body env) (TurnPost h₀ env.locals I oI (J (i + 1)) { s with heap := h, toks := tk } Q) E s₂) E { s with heap := h, toks := tk })
    (done : ∀ m₁ news₁ h tk, J n m₁ news₁ → Fr h₀ env.locals h m₁ → News h₀ env.locals h news₁ → Q .next { s with heap := h, toks := tk }) :
    wpAny (model prog w) A (pyIter (.ref r)) (fun it s₂ => LoopC prog w A env x px body Q E it s₂) E s := by
  refine wpAny_pyIter_range hr hsmall ?_
  have W : Walks prog w A s.heap.objs.size [s.heap.objs.size] [s.heap.objs.size] n (fun i v => i < n ∧ ∃ t, v = .int (a₀ + i * (-1)) t)
      (fun i h => IsRangeIter h s.heap.objs.size (a₀ + (i : Nat) * (-1)) ((n : Int) - (i : Nat)) (-1)) := (Walks.range hh _ a₀ (-1) n).bound
  have hLI : env.locals ≠ s.heap.objs.size := Nat.ne_of_lt F.ns.lt
  have hI₀ : h₀.get? s.heap.objs.size = none := Heap.get?_none_of_le (Nat.le_trans F.above (Nat.le_of_lt F.ns.lt))
  have old : ∀ b o, h₀.get? b = some o → b ≠ s.heap.objs.size := fun b o e q => by rw [q, hI₀] at e; cases e
  unfold LoopC
  refine codeAny_forLoop (fun k s' => ∃ h' tk m' news' i, s' = { s with heap := h', toks := tk } ∧ IsRangeIter h' s.heap.objs.size (a₀ + (i : Nat) * (-1)) ((n : Int) - (i : Nat)) (-1) ∧ Fr h₀ env.locals h' m' ∧ News h₀ env.locals h' news' ∧ (∀ p ∈ news', p.1 ≠ s.heap.objs.size) ∧ J i m' news' ∧ i ≤ n ∧ k = n + 1 - i) ?_ (n + 1)
    ⟨_, s.toks, m₀, news, 0, rfl, by show IsRangeIter _ _ _ _ _; rw [hn]; simpa using Heap.get?_push_size _ rfl, F.push _, fun p hp => ⟨Heap.get?_push_of_some _ (N p hp).1, (N p hp).2⟩, fun p hp e => absurd (Heap.lt_size (N p hp).1) (by rw [e]; exact Nat.lt_irrefl _), hj, Nat.zero_le _, rfl⟩
  rintro k s' ⟨h', tk, m', news', i, rfl, hst', F', N', hnI, hJ, hi, rfl⟩
  have next : ∀ h₁ : Heap, (∀ b o, b ∉ [s.heap.objs.size] → h'.get? b = some o → h₁.get? b = some o) → Fr h₀ env.locals h₁ m' ∧ News h₀ env.locals h₁ news' := fun h₁ hk₁ =>
    ⟨⟨F'.ns.at' fun o e => hk₁ _ o (by simpa using hLI) e, fun b o e => hk₁ b o (by simpa using old b o e) (F'.keep b o e), F'.above⟩, fun p hp => ⟨hk₁ _ _ (by simpa using hnI p hp) (N' p hp).1, (N' p hp).2⟩⟩
  by_cases hlt : i < n
  · refine W.item i _ _ _ hlt hst' fun v h₁ tk₁ hP hst₁ hk₁ => ?_
    obtain ⟨_, t, rfl⟩ := hP
    obtain ⟨F₁, N₁⟩ := next h₁ hk₁
    have e1 : a₀ + (i : Int) * (-1) = a₀ - (i : Int) := by omega
    rw [e1]
    have N₂ : News h₀ env.locals h₁ ((s.heap.objs.size, _) :: news') := fun p hp => by
      rcases List.mem_cons.mp hp with rfl | hp
      · exact ⟨hst₁, Ne.symm hLI, hI₀⟩
      · exact N₁ p hp
    refine wpAny_passesOwn hE (wpAny_mono (turn i t m' news' _ _ h₁ tk₁ hlt hJ hnI F₁ N₂) (fun _ s₂ h₂ => wpAny_passesOwn hE (wpAny_mono h₂ (fun f s₃ h₃ => ?_) fun _ _ e => e)) fun _ _ e => e)
    cases f with
    | ret v => exact h₃
    | brk => exact h₃
    | cont => 
      obtain ⟨h₃', tk₃, m₂, news₂, rfl, F₃, N₃, ha₃, hJ₃⟩ := h₃
      exact ⟨n + 1 - (i + 1), by omega, h₃', tk₃, m₂, news₂, i + 1, rfl, (N₃ _ (.head _)).1, F₃, fun p hp => N₃ p (.tail _ hp), ha₃, hJ₃, hlt, rfl⟩
    | next =>
      obtain ⟨h₃', tk₃, m₂, news₂, rfl, F₃, N₃, ha₃, hJ₃⟩ := h₃
      exact ⟨n + 1 - (i + 1), by omega, h₃', tk₃, m₂, news₂, i + 1, rfl, (N₃ _ (.head _)).1, F₃, fun p hp => N₃ p (.tail _ hp), ha₃, hJ₃, hlt, rfl⟩
  · have hin : i = n := by omega
    subst hin
    refine W.done _ _ _ hst' fun h₁ tk₁ hk₁ => wpAny_execs_nil ?_
    obtain ⟨F₁, N₁⟩ := next h₁ hk₁
    exact done m' news' h₁ tk₁ hJ F₁ N₁
end
end Mine
end
section
open PySem PySem.W PyProof.Rows PySem.Spec PySem.Calls
namespace Mine
section
variable {prog : Program} {w : World} {A : Around} {h₀ : Heap} {L : Addr} {m : Str → Option Value} {env : Env} {ct elt : Expr} {x : Str} {scope : Scope} {cl : List (Str × Addr)} {s : Shared} {Fin : List Value → List (Addr × Obj) → Prop} {news : List (Addr × Obj)}
theorem comp_inv {n a : Nat} (J : Nat → List Value → List (Addr × Obj) → Prop) (hj : J 0 [] news)
    (turn : ∀ (i : Nat) t I oI C oC D m₂ ys nw h tk (E' : Value → Shared → Prop), i < n → J i ys nw → LCg.NsObj oC m₂ → m₂ x = some (.int ((a + i : Nat) : Int) t) → Fr h₀ L h m → News h₀ L h ((I, oI) :: (C, oC) :: (D, LCg.lst ys) :: nw) → LCg.Off3 I C D nw → ((@Ne Nat I C) ∧ (@Ne Nat I D) ∧ (@Ne Nat C D)) →
      wpAny (model prog w) A (isTrue ct (compEnvC scope cl C env) (eval ct (compEnvC scope cl C env))) (fun b s' => if b = true then wpAny (model prog w) A (eval elt (compEnvC scope cl C env)) (LCg.CompEnd h₀ L m { s with heap := h, toks := tk } I oI C oC D (LCg.lst ys) (fun _ => True) (fun y nw' => J (i + 1) (ys ++ [y]) nw')) E' s'
        else LCg.CompEnd h₀ L m { s with heap := h, toks := tk } I oI C oC D (LCg.lst ys) (fun _ => True) (fun _ nw' => J (i + 1) ys nw') Value.none s') E' { s with heap := h, toks := tk })
    (fin : ∀ ys nw, J n ys nw → Fin ys nw) : LCt.CompRestT prog w A h₀ L m env ct elt x scope cl s (fun _ => True) (fun i v => ∃ t, v = .int ((a : Int) + (i : Int)) t) Fin n 0 [] news := by
  have key : ∀ (j i : Nat) (ys : List Value) (nw : List (Addr × Obj)), i + j = n → J i ys nw → LCt.CompRestT prog w A h₀ L m env ct elt x scope cl s (fun _ => True) (fun i v => ∃ t, v = .int ((a : Int) + (i : Int)) t) Fin j i ys nw := by
    intro j
    induction j with
    | zero =>
      intro i ys nw hi hJ
      obtain rfl : i = n := by omega
      exact LCt.CompRestT.zero (fin ys nw hJ)
    | succ j ih =>
      intro i ys nw hi hJ
      refine LCt.CompRestT.succ ?_
      intro v I oI C oC D m₂ h tk E' hv hC hx F N off ne
      obtain ⟨t, hv'⟩ := hv
      have e : (a : Int) + (i : Int) = ((a + i : Nat) : Int) := by omega
      rw [hv', e] at hx
      refine wpAny_mono (turn i t I oI C oC D m₂ ys nw h tk E' (by omega) hJ hC hx F N off ne) (fun b s₂ hq => ?_) fun _ _ e => e
      cases b with
      | true =>
        simp only [if_true] at hq ⊢
        refine wpAny_mono hq (fun y s₃ hr => ?_) fun _ _ e => e
        obtain ⟨h', tk', nw', e, F', N', off', hS, hJ'⟩ := hr
        exact ⟨h', tk', nw', e, F', N', off', hS, ih (i + 1) _ nw' (by omega) hJ'⟩
      | false =>
        simp only [Bool.false_eq_true, if_false] at hq ⊢
        obtain ⟨h', tk', nw', e, F', N', off', hS, hJ'⟩ := hq
        exact ⟨h', tk', nw', e, F', N', off', hS, ih (i + 1) _ nw' (by omega) hJ'⟩
  exact key n 0 [] news (by omega) hj
end
theorem int_divmod_use {w : World} {p : Program} {loose : List Str} {mean : ExcName → Option Value} {mg mb : Str → Option Value} {a b : Nat} {ta tb : Tok} (ha0 : 0 < a) (ha : a < 64) (hb : 1 < b) (hb2 : b < 8)
    {dp un : Nat} {gd : Option (List Code)} {cn : Str} {cs : Scope} {aL : Addr} {ccd : Value} {cl : List (Str × Addr)} {outer : List Env} {A₀ : Around} {base h₀ : Heap} {L : Addr} {m : Str → Option Value} {s : Shared} {Q E : Value → Shared → Prop} {t1 t2 led keep : List (Addr × Obj)}
    (ht1 : TabS 57 79 4 Q1 t1) (ht2 : TabS 64 94 4 Q2 t2) (hap1 : Apart t1 (t2 ++ keep)) (hap2 : Apart t2 keep) (hs1 : ∀ p ∈ t1, p ∈ led) (hs2 : ∀ p ∈ t2, p ∈ led) (hs3 : ∀ p ∈ keep, p ∈ led)
    (B : Below A₀ base outer h₀) (F : Fr h₀ L s.heap m) (X : (hd.heap_39 w.params).In h₀) (N : News h₀ L s.heap led) (T : Top p loose mean mg mb h₀) (C1 : CodeHd base 61 57) (C2 : CodeHd base 68 64) (hk : cs.kind = .function) (hd : dp + 90 < recursionLimit) (hu : un + 50 < cLine)
    (hret : ∀ D q tq tr e t1' t2' h' tk', TabS 57 79 4 Q1 t1' → TabS 64 94 4 Q2 t2' → Fr h₀ L h' m → News h₀ L h' ((D, tup2 (.int q tq) (.int ((a % b : Nat) : Int) tr) e) :: (t1' ++ (t2' ++ keep))) → (∀ p ∈ keep, p.1 < D) → Apart t1' (t2' ++ (D, tup2 (.int q tq) (.int ((a % b : Nat) : Int) tr) e) :: keep) → Apart t2' ((D, tup2 (.int q tq) (.int ((a % b : Nat) : Int) tr) e) :: keep) → Q (.ref D) { s with heap := h', toks := tk' }) :
    wpAny (model PySem.Challenge.rw_ie0004_01.row.toRowW.prog w) (ktrTop dp un gd cn cs L aL ccd cl outer) (call (.ref 83) [.int (a : Int) ta, .int (b : Int) tb]) Q E s :=
  int_divmod_c w a b ta tb ha0 ha hb hb2 ht1 ht2 hap1 hap2 B F X (fun q hq => N q (by
    rcases List.mem_append.mp hq with hq | hq
    · exact hs1 q hq
    · rcases List.mem_append.mp hq with hq | hq
      · exact hs2 q hq
      · exact hs3 q hq)) T C1 C2 hk hd hu hret
theorem apart_cons {t1 t2 r : List (Addr × Obj)} {I : Addr} {o : Obj} (h : Apart t1 (t2 ++ r)) (h2 : ∀ p ∈ t1, p.1 ≠ I) : Apart t1 (t2 ++ (I, o) :: r) := by
  intro p hp q hq
  rcases List.mem_append.mp hq with hq | hq
  · exact h p hp q (by simp [hq])
  · rcases List.mem_cons.mp hq with rfl | hq
    · exact h2 p hp
    · exact h p hp q (by simp [hq])
theorem apart_cons0 {t r : List (Addr × Obj)} {I : Addr} {o : Obj} (h : Apart t r) (h2 : ∀ p ∈ t, p.1 ≠ I) : Apart t ((I, o) :: r) := by
  intro p hp q hq
  rcases List.mem_cons.mp hq with rfl | hq
  · exact h2 p hp
  · exact h p hp q hq
theorem apart_sub {t r r' : List (Addr × Obj)} (h : Apart t r) (h2 : ∀ q ∈ r', ∃ q' ∈ r, q'.1 = q.1) : Apart t r' := fun p hp q hq => by
  obtain ⟨q', hq', e⟩ := h2 q hq
  rw [← e]; exact h p hp q' hq'
theorem off3_of {I C D : Addr} {l : List (Addr × Obj)} (h1 : ∀ p ∈ l, @Ne Nat p.1 I) (h2 : ∀ p ∈ l, @Ne Nat p.1 C) (h3 : ∀ p ∈ l, @Ne Nat p.1 D) : LCg.Off3 I C D l := by
  induction l with
  | nil => exact trivial
  | cons p r ih => exact ⟨⟨h1 p (.head _), h2 p (.head _), h3 p (.head _)⟩, ih (fun q hq => h1 q (.tail _ hq)) (fun q hq => h2 q (.tail _ hq)) fun q hq => h3 q (.tail _ hq)⟩
end Mine
end
section
open PySem PySem.W PyProof.Rows PySem.Spec PySem.Calls
namespace Mine
local macro_rules | `(tactic| walk_at "none of these") => `(tactic| fail)
theorem fr_norm {h₀ : Heap} {L : Addr} {h : Heap} {m m' : Str → Option Value} (F : Fr h₀ L h m) (e : ∀ y, m y = m' y) : Fr h₀ L h m' := (funext e : m = m') ▸ F
abbrev frMap {h₀ : Heap} {L : Addr} {h : Heap} {m : Str → Option Value} (_ : Fr h₀ L h m) : Str → Option Value := m
theorem fdiv2 (x : Int) : Int.fdiv x 2 = x / 2 := Int.fdiv_eq_ediv_of_nonneg _ (by decide)
theorem getD_of {ns : List Int} {P : Int → Prop} (h : ∀ d ∈ ns, P d) {j : Nat} (hj : j < ns.length) : P (ns.getD j 0) := by
  rw [List.getD_eq_getElem?_getD, List.getElem?_eq_getElem hj, Option.getD_some]; exact h _ (List.getElem_mem _)
local macro_rules | `(tactic| walk_at "exec While Compare cons nil") => `(tactic| (k_here; (refine stop_of ?_)))
local macro_rules | `(tactic| walk_at "call builtin:len") => `(tactic| (k_here; (with_reducible show wpAny _ _ (call (Value.builtin "len") [Value.ref _]) _ _ _); k_dflt (refine' len_led ?N ?m ?v ?k ?_; (case N => k_asm); (case m => k_mem); (case v => assumption); (case k => omega); k_whole)))
set_option maxRecDepth 100000 in
set_option maxHeartbeats 8000000 in
theorem bisect_left_c (w : World) {p : Program} {loose : List Str} {mean : ExcName → Option Value} {mg mb : Str → Option Value} {D : Addr} {ws : List Value} {ns : List Int} {e : Nat} {x : Int} {tx tl : Tok} (hI : IntsAre ws ns) (hlen : ns.length ≤ 100) (hx : ∀ d ∈ ns, x < d)
    {dp un : Nat} {gd : Option (List Code)} {cn : Str} {cs : Scope} {aL : Addr} {ccd : Value} {cl : List (Str × Addr)} {outer : List Env} {A₀ : Around} {base h₀ : Heap} {L : Addr} {m : Str → Option Value} {s : Shared} {Q E : Value → Shared → Prop} {news : List (Addr × Obj)}
    (B : Below A₀ base outer h₀) (F : Fr h₀ L s.heap m) (X : (hd.heap_39 w.params).In h₀) (N : News h₀ L s.heap ((D, W.listOf ws.toArray e) :: news)) (T : Top p loose mean mg mb h₀) (hk : cs.kind = .function) (hd : dp + 2 < recursionLimit)
    (hret : ∀ t h' tk', Fr h₀ L h' m → News h₀ L h' ((D, W.listOf ws.toArray e) :: news) → Q (.int 0 t) { s with heap := h', toks := tk' }) :
    wpAny (model PySem.Challenge.rw_ie0004_01.row.toRowW.prog w) (ktrTop dp un gd cn cs L aL ccd cl outer) (call (.ref 41) [.ref D, .int x tx, .int 0 tl, .none]) Q E s := by
  w_top off
  revert X; k_fill; intro X
  have hwl : ws.length = ns.length := hI.length
  refine wpAny_call ?_
  k_dflt (refine' code_def ?k1 ?k2 ?k3 ?k4 ?k5 ?kA ?kF ?kK ?k6 ?k7 ?k8 ?k9 ?kB ?_ ?c2 ?c3 ?c4 ?c5; (case kA => exact rfl); (case kF => exact rfl); (case kK => assumption); (case k1 => k_asm); (case k2 => k_asm); (case k3 => k_asm); (case k4 => k_asm); (case k5 => k_asm); (case k6 => k_is); (case k7 => k_is); (case k8 => ktr_room); (case k9 => (refine' kp_binds ?kx ?ke; (case kx => k_in); (case ke => exact fun _ => rfl))); (case c5 => decide); (case kB => exact locs rfl); (case c2 => exact rfl); (case c3 => exact rfl); (case c4 => exact rfl); k_whole)
  intro g1 L1 h1 FG1 F1 N1 B1 X1 T1
  try dsimp only
  k_lift B1
  try k_fold
  k_steps
  unfold Stop
  rename_i h2 F2 N2
  refine While_inv2 (n₀ := ns.length) (fun n m₁ nw => nw = (D, W.listOf ws.toArray e) :: news ∧ ∃ (hi : Nat) (th tl : Tok), n = hi ∧ m₁ (Str.ofString "lo") = some (.int 0 tl) ∧ m₁ (Str.ofString "hi") = some (.int (hi : Int) th) ∧ hi ≤ ns.length ∧
    ∀ z, z ≠ Str.ofString "lo" → z ≠ Str.ofString "hi" → z ≠ Str.ofString "mid" → m₁ z = frMap F2 z) F2 N2 ⟨rfl, ns.length, _, _, rfl, by with_unfolding_all rfl, by with_unfolding_all rfl, Nat.le_refl _, fun _ _ _ _ => rfl⟩ ?turn
  rintro n m₁ nw h3 tk3 F3 N3 ⟨rfl, hi, th, tl3, rfl, hlo, hhi, hle, hr⟩
  have Fn := fr_norm F3 (m' := fun y => if y = Str.ofString "lo" then some (.int 0 tl3) else if y = Str.ofString "hi" then some (.int (n : Int) th) else if y = Str.ofString "mid" then m₁ y else frMap F2 y) (by
    intro y
    by_cases e1 : y = Str.ofString "lo"
    · subst e1; rw [if_pos rfl]; exact hlo
    · by_cases e2 : y = Str.ofString "hi"
      · subst e2; rw [if_neg e1, if_pos rfl]; exact hhi
      · by_cases e3 : y = Str.ofString "mid"
        · rw [if_neg e1, if_neg e2, if_pos e3]
        · rw [if_neg e1, if_neg e2, if_neg e3]; exact hr y e1 e2 e3)
  dsimp only [frMap] at Fn
  clear F3 hr N2
  have hm := fdiv2 (0 + (n : Int))
  have hx' : (n : Int) ≤ 0 ∨ x < ns.getD (Int.toNat (Int.fdiv (0 + (n : Int)) 2)) 0 := by
    by_cases h : n = 0
    · left; omega
    · right; exact getD_of hx (by omega)
  k_steps
  all_goals (try (exfalso; omega))
  · rename_i hpos _ _ _ F9 N9
    have e : ((Int.toNat (Int.fdiv (0 + (n : Int)) 2) : Nat) : Int) = Int.fdiv (0 + (n : Int)) 2 := Int.toNat_of_nonneg (by omega)
    refine ⟨_, _, _, _, Int.toNat (Int.fdiv (0 + (n : Int)) 2), rfl, F9, N9, by omega, rfl, Int.toNat (Int.fdiv (0 + (n : Int)) 2), _, _, rfl, by with_unfolding_all rfl, by rw [e]; with_unfolding_all rfl, by omega, fun z z1 z2 z3 => ?_⟩
    dsimp only
    rw [if_neg z2, if_neg z3, if_neg z1, if_neg z2, if_neg z3]
  · exact hret _ _ _ (by assumption) (by assumption)
local macro_rules | `(tactic| walk_at "call ref") => `(tactic| (k_here; (with_reducible show wpAny _ _ (call (Value.ref _) _) _ _ _); k_dflt (refine' bisect_left_c _ ?hI ?hlen ?hx ?B ?F ?X ?N ?T ?hk ?hd ?_; (case B => k_asm); (case F => k_asm); (case X => k_asm); (case N => k_asm); (case T => k_asm); (case hI => assumption); (case hlen => assumption); (case hx => assumption); (case hk => exact rfl); (case hd => ktr_room); k_whole); intro t9 h9 tk9 F9 N9))
set_option maxRecDepth 100000 in
set_option maxHeartbeats 8000000 in
theorem insort_left_c (w : World) {p : Program} {loose : List Str} {mean : ExcName → Option Value} {mg mb : Str → Option Value} {D : Addr} {ws : List Value} {ns : List Int} {e : Nat} {x : Int} {tx : Tok} (hI : IntsAre ws ns) (hlen : ns.length ≤ 100) (hx : ∀ d ∈ ns, x < d)
    {dp un : Nat} {gd : Option (List Code)} {cn : Str} {cs : Scope} {aL : Addr} {ccd : Value} {cl : List (Str × Addr)} {outer : List Env} {A₀ : Around} {base h₀ : Heap} {L : Addr} {m : Str → Option Value} {s : Shared} {Q E : Value → Shared → Prop} {news : List (Addr × Obj)}
    (hoff : TailOff D news) (B : Below A₀ base outer h₀) (F : Fr h₀ L s.heap m) (X : (hd.heap_39 w.params).In h₀) (N : News h₀ L s.heap ((D, W.listOf ws.toArray e) :: news)) (T : Top p loose mean mg mb h₀) (hk : cs.kind = .function) (hd : dp + 3 < recursionLimit)
    (hret : ∀ e' h' tk', Fr h₀ L h' m → News h₀ L h' ((D, W.listOf (Value.int x tx :: ws).toArray e') :: news) → Q .none { s with heap := h', toks := tk' }) :
    wpAny (model PySem.Challenge.rw_ie0004_01.row.toRowW.prog w) (ktrTop dp un gd cn cs L aL ccd cl outer) (call (.ref 32) [.ref D, .int x tx]) Q E s := by
  w_top off
  revert X; k_fill; intro X
  have hwl : ws.length = ns.length := hI.length
  refine wpAny_call ?_
  k_dflt (refine' code_def ?k1 ?k2 ?k3 ?k4 ?k5 ?kA ?kF ?kK ?k6 ?k7 ?k8 ?k9 ?kB ?_ ?c2 ?c3 ?c4 ?c5; (case kA => exact rfl); (case kF => exact rfl); (case kK => assumption); (case k1 => k_asm); (case k2 => k_asm); (case k3 => k_asm); (case k4 => k_asm); (case k5 => k_asm); (case k6 => k_is); (case k7 => k_is); (case k8 => ktr_room); (case k9 => (refine' kp_binds ?kx ?ke; (case kx => k_in); (case ke => exact fun _ => rfl))); (case c5 => decide); (case kB => exact locs rfl); (case c2 => exact rfl); (case c3 => exact rfl); (case c4 => exact rfl); k_whole)
  intro g1 L1 h1 FG1 F1 N1 B1 X1 T1
  try dsimp only
  k_lift B1
  try k_fold
  k_steps
  rename_i F9 N9
  refine kl_insert (its := ws.toArray) (l := Value.int x tx :: ws) F9 N9 (by rfl) (by simp [kl_ins]) (Upd.head hoff.off) (by rw [PySem.sizeLine_eq]; show ws.length ≤ _; omega) fun h8 F8 N8 => ?_
  k_steps
  exact hret _ _ _ (by assumption) (by assumption)
theorem insort_left_use {w : World} {p : Program} {loose : List Str} {mean : ExcName → Option Value} {mg mb : Str → Option Value} {D : Addr} {ws : List Value} {ns : List Int} {e : Nat} {x : Int} {tx : Tok} {led keep : List (Addr × Obj)} (hI : IntsAre ws ns) (hlen : ns.length ≤ 100) (hx : ∀ d ∈ ns, x < d)
    {dp un : Nat} {gd : Option (List Code)} {cn : Str} {cs : Scope} {aL : Addr} {ccd : Value} {cl : List (Str × Addr)} {outer : List Env} {A₀ : Around} {base h₀ : Heap} {L : Addr} {m : Str → Option Value} {s : Shared} {Q E : Value → Shared → Prop}
    (N : News h₀ L s.heap led) (hD : (D, W.listOf ws.toArray e) ∈ led) (hs : ∀ p ∈ keep, p ∈ led) (hoff : ∀ p ∈ keep, p.1 ≠ D) (B : Below A₀ base outer h₀) (F : Fr h₀ L s.heap m) (X : (hd.heap_39 w.params).In h₀) (T : Top p loose mean mg mb h₀) (hk : cs.kind = .function) (hd : dp + 3 < recursionLimit)
    (hret : ∀ e' h' tk', Fr h₀ L h' m → News h₀ L h' ((D, W.listOf (Value.int x tx :: ws).toArray e') :: keep) → Q .none { s with heap := h', toks := tk' }) :
    wpAny (model PySem.Challenge.rw_ie0004_01.row.toRowW.prog w) (ktrTop dp un gd cn cs L aL ccd cl outer) (call (.ref 32) [.ref D, .int x tx]) Q E s :=
  insort_left_c w hI hlen hx ⟨hoff⟩ B F X (fun q hq => N q (by
    rcases List.mem_cons.mp hq with rfl | hq
    · exact hD
    · exact hs q hq)) T hk hd hret
end Mine
end
section
open PySem PySem.W PyProof.Rows PySem.Spec PySem.Calls
namespace Mine
local macro_rules | `(tactic| walk_at "none of these") => `(tactic| fail)
local macro_rules | `(tactic| k_all) => `(tactic| exact TailOff.off (by assumption))
local macro_rules | `(tactic| walk_at "eval ListComp") => `(tactic| (k_here; k_dflt (refine LCt.ListComp_T (F₀ := by k_asm) (by with_unfolding_all rfl) (by decide) (by rfl) (by decide) (by rfl) ?_)))
local macro_rules | `(tactic| walk_at "CompSrcT") => `(tactic| (k_here; refine stop_of ?_))
local macro_rules | `(tactic| walk_at "exec For Name Call cons nil") => `(tactic| (k_here; (refine for_C ?_)))
local macro_rules | `(tactic| walk_at "pyIter ref") => `(tactic| (k_here; (refine stop_of ?_)))
local macro_rules | `(tactic| walk_at "call ref") => `(tactic| (k_here; (with_reducible show wpAny _ _ (call (Value.ref _) _) _ _ _); refine stop_of ?_))
/-- the divisors of n among 2, 3, .. 1 + i whose square is no more than n -/
def dvs (n : Nat) : Nat → List Int
  | 0 => []
  | i + 1 => if (2 + i) * (2 + i) ≤ n ∧ n % (2 + i) = 0 then dvs n i ++ [((2 + i : Nat) : Int)] else dvs n i
/-- the primes among b, b - 1, .. b - i + 1, rising -/
def prs (b : Nat) : Nat → List Int
  | 0 => []
  | i + 1 => if dvs (b - i) (b - i - 2) = [] then ((b - i : Nat) : Int) :: prs b i else prs b i
theorem prs_gt (b : Nat) : ∀ i, i < b → ∀ d ∈ prs b i, ((b - i : Nat) : Int) < d
  | 0, _, d, hd => nomatch hd
  | i + 1, h, d, hd => by
    unfold prs at hd
    split at hd
    · rcases List.mem_cons.mp hd with rfl | hd
      · omega
      · have := prs_gt b i (by omega) d hd; omega
    · have := prs_gt b i (by omega) d hd; omega
theorem prs_len (b : Nat) : ∀ i, (prs b i).length ≤ i
  | 0 => Nat.le_refl _
  | i + 1 => by
    have := prs_len b i
    unfold prs
    split
    · rw [List.length_cons]; omega
    · omega
set_option maxRecDepth 100000 in
set_option maxHeartbeats 8000000 in
theorem law_primes_c (w : World) {p : Program} {loose : List Str} {mean : ExcName → Option Value} {mg mb : Str → Option Value} (b : Nat) (tb : Tok) (hb : 1 < b) (hb2 : b < 49)
    {dp un : Nat} {gd : Option (List Code)} {cn : Str} {cs : Scope} {aL : Addr} {ccd : Value} {cl : List (Str × Addr)} {outer : List Env} {A₀ : Around} {base h₀ : Heap} {L : Addr} {m : Str → Option Value} {s : Shared} {Q E : Value → Shared → Prop} {t1 t2 news : List (Addr × Obj)}
    (ht1 : TabS 57 79 4 Q1 t1) (ht2 : TabS 64 94 4 Q2 t2) (hap1 : Apart t1 (t2 ++ news)) (hap2 : Apart t2 news)
    (B : Below A₀ base outer h₀) (F : Fr h₀ L s.heap m) (X : (hd.heap_39 w.params).In h₀) (N : News h₀ L s.heap (t1 ++ (t2 ++ news))) (T : Top p loose mean mg mb h₀) (C1 : CodeHd base 61 57) (C2 : CodeHd base 68 64) (hk : cs.kind = .function) (hd : dp + 100 < recursionLimit) (hu : un + 80 < cLine)
    (hret : ∀ D ws e t1' t2' h' tk', TabS 57 79 4 Q1 t1' → TabS 64 94 4 Q2 t2' → IntsAre ws (prs b (b - 1)) → Fr h₀ L h' m → News h₀ L h' ((D, W.listOf ws.toArray e) :: (t1' ++ (t2' ++ news))) → (∀ p ∈ news, p.1 < D) → Apart t1' (t2' ++ (D, W.listOf ws.toArray e) :: news) → Apart t2' ((D, W.listOf ws.toArray e) :: news) → Q (.ref D) { s with heap := h', toks := tk' }) :
    wpAny (model PySem.Challenge.rw_ie0004_01.row.toRowW.prog w) (ktrTop dp un gd cn cs L aL ccd cl outer) (call (.ref 88) [.int (b : Int) tb]) Q E s := by
  w_top off
  revert X; k_fill; intro X
  refine wpAny_call ?_
  k_dflt (refine' code_defC ?k1 ?k2 ?k3 ?k4 ?k5 ?kA ?kF ?kK ?k6 ?k7 ?k8 ?k9 ?kB ?kD ?_ ?c2 ?c3 ?c4; (case kA => exact rfl); (case kF => exact rfl); (case kK => first | exact rfl | assumption); (case k1 => k_asm); (case k2 => k_asm); (case k3 => k_asm); (case k4 => k_asm); (case k5 => k_asm); (case k6 => k_is); (case k7 => k_is); (case k8 => first | k_room | ktr_room); (case k9 => exact BindsTo.of_eq rfl); (case kB => exact rfl); (case kD => decide +kernel); (case c2 => exact rfl); (case c3 => exact rfl); (case c4 => exact rfl); k_whole)
  intro g1 L1 h1 tk1 cells1 FG1 F1 N1 Y1 B1 X1 T1 l1
  k_cells Y1
  (try simp only [List.cons_append, List.nil_append] at N1)
  try dsimp only
  k_lift B1
  try k_fold
  k_steps
  unfold Stop
  rename_i oc d1 l' h2 lt1 h3 F3 N3 h4 tk4 ta ua va hr F4 N4 hk4
  replace l1 := allLt_of l1
  have hL1l : @Ne Nat (L1 + 1) l' := by omega
  have hnewl : ∀ q ∈ news, q.1 ≠ l' := fun q hq => allLt_off lt1.2 q (by simp [hq])
  have hz : (0 : Int) - 1 = -1 := rfl
  rw [hz] at hr
  refine loopC_down (n := b - 1) (fun i m' nw => m' = frMap F4 ∧ ∃ ws e oc v t1 t2, nw = (l', W.listOf ws.toArray e) :: (L1 + 1, oc) :: (t1 ++ (t2 ++ news)) ∧ oc.data = .cell v ∧ IntsAre ws (prs b i) ∧ TabS 57 79 4 Q1 t1 ∧ TabS 64 94 4 Q2 t2 ∧
    Apart t1 (t2 ++ ((l', W.listOf ws.toArray e) :: (L1 + 1, oc) :: news)) ∧ Apart t2 ((l', W.listOf ws.toArray e) :: (L1 + 1, oc) :: news)) ?hE ?hh hr ?hsm ?hn F4 N4 ?hj ?turn ?done
  case hE => passes_own
  case hh => rfl
  case hsm => exact small_down (by omega) (by omega) (by omega) (by omega)
  case hn => rw [rangeSize_downNat]; omega
  case hj => exact ⟨rfl, [], 0, oc, _, t1, t2, rfl, d1, .nil, ht1, ht2, apart_cons (apart_cons hap1 fun q hq => Nat.ne_of_lt (Nat.lt_succ_of_lt (allLt_lt l1 q (by simp [hq])))) fun q hq => allLt_off lt1.2 q (by simp [hq]),
    apart_cons0 (apart_cons0 hap2 fun q hq => Nat.ne_of_lt (Nat.lt_succ_of_lt (allLt_lt l1 q (by simp [hq])))) fun q hq => allLt_off lt1.2 q (by simp [hq])⟩
  case turn =>
    rintro i t m₁ nw I oI h tk5 hi ⟨rfl, ws, e, oc5, v5, t1', t2', rfl, dc5, hI5, ht1', ht2', ap1, ap2⟩ hoffI F5 N5
    dsimp only [frMap] at F5
    have e5 : (b : Int) - (i : Int) = ((b - i : Nat) : Int) := by omega
    rw [e5]
    generalize hnum : b - i = num
    clear N4
    have hIc : @Ne Nat I (L1 + 1) := fun q => hoffI _ (.tail _ (.head _)) q.symm
    have hIl : @Ne Nat I l' := fun q => hoffI _ (.head _) q.symm
    have hoffc : TailOff (L1 + 1) (t1' ++ (t2' ++ news)) := by
      refine ⟨fun q hq => ?_⟩
      rcases List.mem_append.mp hq with hq | hq
      · exact ap1 q hq (L1 + 1, oc5) (by simp)
      · rcases List.mem_append.mp hq with hq | hq
        · exact ap2 q hq (L1 + 1, oc5) (by simp)
        · have := allLt_lt l1 q (by simp [hq]); exact Nat.ne_of_lt (Nat.lt_succ_of_lt this)
    k_steps
    unfold Stop
    rename_i h6 o6 F6 N6 d6 h7 tk7 ta7 ua7 va7 hr7 F7 N7 hk7
    have hnum2 : 2 ≤ num ∧ num < 49 := by omega
    have apI1 : Apart t1' (t2' ++ ((I, oI) :: (l', W.listOf ws.toArray e) :: (L1 + 1, o6) :: news)) :=
      apart_sub (apart_cons (o := oI) ap1 fun q hq => hoffI q (by simp [hq])) fun q hq => by
        simp only [List.mem_append, List.mem_cons] at hq
        rcases hq with hq | rfl | rfl | rfl | hq
        · exact ⟨q, by simp [hq], rfl⟩
        · exact ⟨_, by simp, rfl⟩
        · exact ⟨_, by simp, rfl⟩
        · exact ⟨(L1 + 1, oc5), by simp, rfl⟩
        · exact ⟨q, by simp [hq], rfl⟩
    have apI2 : Apart t2' ((I, oI) :: (l', W.listOf ws.toArray e) :: (L1 + 1, o6) :: news) :=
      apart_sub (apart_cons0 (o := oI) ap2 fun q hq => hoffI q (by simp [hq])) fun q hq => by
        simp only [List.mem_cons] at hq
        rcases hq with rfl | rfl | rfl | hq
        · exact ⟨_, by simp, rfl⟩
        · exact ⟨_, by simp, rfl⟩
        · exact ⟨(L1 + 1, oc5), by simp, rfl⟩
        · exact ⟨q, by simp [hq], rfl⟩
    have hoffI2 : ∀ (ta tb : List (Addr × Obj)) (o o' : Obj), Apart ta (tb ++ ((I, oI) :: (l', W.listOf ws.toArray e) :: (L1 + 1, o6) :: news)) → Apart tb ((I, oI) :: (l', W.listOf ws.toArray e) :: (L1 + 1, o6) :: news) → ∀ q ∈ (l', o) :: (L1 + 1, o') :: (ta ++ (tb ++ news)), q.1 ≠ I := by
      intro ta tb o o' a1 a2 q hq
      simp only [List.mem_cons, List.mem_append] at hq
      rcases hq with rfl | rfl | h | h | h
      · exact Ne.symm hIl
      · exact Ne.symm hIc
      · exact a1 q h (I, oI) (by simp)
      · exact a2 q h (I, oI) (by simp)
      · exact hoffI q (by simp [h])
    have apX1 : ∀ (ta tb : List (Addr × Obj)) (o o' : Obj), Apart ta (tb ++ ((I, oI) :: (l', W.listOf ws.toArray e) :: (L1 + 1, o6) :: news)) → Apart ta (tb ++ ((l', o) :: (L1 + 1, o') :: news)) := fun ta tb o o' a => apart_sub a fun q hq => by
      simp only [List.mem_append, List.mem_cons] at hq
      rcases hq with h | rfl | rfl | h
      · exact ⟨q, by simp [h], rfl⟩
      · exact ⟨(l', W.listOf ws.toArray e), by simp, rfl⟩
      · exact ⟨(L1 + 1, o6), by simp, rfl⟩
      · exact ⟨q, by simp [h], rfl⟩
    have apX2 : ∀ (ta tb : List (Addr × Obj)) (o o' : Obj), Apart tb ((I, oI) :: (l', W.listOf ws.toArray e) :: (L1 + 1, o6) :: news) → Apart tb ((l', o) :: (L1 + 1, o') :: news) := fun ta tb o o' a => apart_sub a fun q hq => by
      simp only [List.mem_cons] at hq
      rcases hq with rfl | rfl | h
      · exact ⟨(l', W.listOf ws.toArray e), by simp, rfl⟩
      · exact ⟨(L1 + 1, o6), by simp, rfl⟩
      · exact ⟨q, by simp [h], rfl⟩
    clear F6 N6
    refine LCt.CompSrcT.range (n := num - 2) (by rfl) F7 N7 hr7 (small_one (by omega) (by omega) (by omega) (by omega)) (by rw [rangeSize_nat]; omega) (by rw [PySem.sizeLine_eq]; omega) ?_
    intro g'
    refine comp_inv (a := 2) (fun i ys nw => ∃ t1 t2, nw = (I, oI) :: (l', W.listOf ws.toArray e) :: (L1 + 1, o6) :: (t1 ++ (t2 ++ news)) ∧ TabS 57 79 4 Q1 t1 ∧ TabS 64 94 4 Q2 t2 ∧
      Apart t1 (t2 ++ ((I, oI) :: (l', W.listOf ws.toArray e) :: (L1 + 1, o6) :: news)) ∧ Apart t2 ((I, oI) :: (l', W.listOf ws.toArray e) :: (L1 + 1, o6) :: news) ∧ IntsAre ys (dvs num i)) ?cj ?cturn ?cfin
    case cj => exact ⟨t1', t2', rfl, ht1', ht2', apI1, apI2, .nil⟩
    case cturn =>
      rintro j t9 I2 oI2 C oC D m2 ys nw h8 tk8 E8 hj ⟨t1'', t2'', rfl, ht1'', ht2'', ap1'', ap2'', hys⟩ hC hx F8 N8 off ne
      clear F7 N7
      have offm := off.mem
      have k1 : Apart t1'' (t2'' ++ ((I2, oI2) :: (C, oC) :: (D, LCg.lst ys) :: (I, oI) :: (l', W.listOf ws.toArray e) :: (L1 + 1, o6) :: news)) :=
        apart_cons (apart_cons (apart_cons ap1'' fun q hq => (offm q (by simp [hq])).2.2) fun q hq => (offm q (by simp [hq])).2.1) fun q hq => (offm q (by simp [hq])).1
      have k2 : Apart t2'' ((I2, oI2) :: (C, oC) :: (D, LCg.lst ys) :: (I, oI) :: (l', W.listOf ws.toArray e) :: (L1 + 1, o6) :: news) :=
        apart_cons0 (apart_cons0 (apart_cons0 ap2'' fun q hq => (offm q (by simp [hq])).2.2) fun q hq => (offm q (by simp [hq])).2.1) fun q hq => (offm q (by simp [hq])).1
      generalize hpart : 2 + j = part at hx
      k_steps
      · rename_i hle _
        have hle' : part * part ≤ num := by exact_mod_cast hle
        have hp8 : part < 8 := by
          refine Nat.lt_of_not_le fun h => ?_
          have := Nat.mul_le_mul h h
          omega
        unfold Stop
        refine int_divmod_use (t1 := t1'') (t2 := t2'') (keep := (I2, oI2) :: (C, oC) :: (D, LCg.lst ys) :: (I, oI) :: (l', W.listOf ws.toArray e) :: (L1 + 1, o6) :: news) (by omega) (by omega) (by omega) hp8 ht1'' ht2'' k1 k2 (fun q hq => by simp [hq]) (fun q hq => by simp [hq])
          (fun q hq => by simp only [List.mem_cons, List.mem_append] at hq ⊢; rcases hq with h | h | h | h | h | h | h <;> simp [h]) (by k_asm) (by k_asm) (by k_asm) N8 (by k_asm) C1 C2 rfl (by ktr_room) (by ktr_units) ?_
        intro Dt q9 tq tr e9 t1n t2n h9 tk9 ht1n ht2n F9 N9 l9 apn1 apn2
        have aF1 : Apart t1n (t2n ++ ((I, oI) :: (l', W.listOf ws.toArray e) :: (L1 + 1, o6) :: news)) := apart_sub apn1 fun q hq => ⟨q, by
          simp only [List.mem_append, List.mem_cons] at hq ⊢
          rcases hq with h | h | h | h | h <;> simp [h], rfl⟩
        have aF2 : Apart t2n ((I, oI) :: (l', W.listOf ws.toArray e) :: (L1 + 1, o6) :: news) := apart_sub apn2 fun q hq => ⟨q, by
          simp only [List.mem_cons] at hq ⊢
          rcases hq with h | h | h | h <;> simp [h], rfl⟩
        have offn : LCg.Off3 I2 C D ((I, oI) :: (l', W.listOf ws.toArray e) :: (L1 + 1, o6) :: (t1n ++ (t2n ++ news))) := by
          have base : ∀ q ∈ (I, oI) :: (l', W.listOf ws.toArray e) :: (L1 + 1, o6) :: (t1n ++ (t2n ++ news)), q.1 ≠ I2 ∧ q.1 ≠ C ∧ q.1 ≠ D := by
            intro q hq
            simp only [List.mem_append, List.mem_cons] at hq
            rcases hq with h | h | h | h | h | h
            · exact offm q (by simp [h])
            · exact offm q (by simp [h])
            · exact offm q (by simp [h])
            · exact ⟨apn1 q h (I2, oI2) (by simp), apn1 q h (C, oC) (by simp), apn1 q h (D, LCg.lst ys) (by simp)⟩
            · exact ⟨apn2 q h (I2, oI2) (by simp), apn2 q h (C, oC) (by simp), apn2 q h (D, LCg.lst ys) (by simp)⟩
            · exact offm q (by simp [h])
          exact off3_of (fun q hq => (base q hq).1) (fun q hq => (base q hq).2.1) fun q hq => (base q hq).2.2
        have N9' : News g1 L1 h9 ((Dt, tup2 (.int q9 tq) (.int ((num % part : Nat) : Int) tr) e9) :: (I2, oI2) :: (C, oC) :: (D, LCg.lst ys) :: (I, oI) :: (l', W.listOf ws.toArray e) :: (L1 + 1, o6) :: (t1n ++ (t2n ++ news))) := fun q hq => N9 q (by
          simp only [List.mem_append, List.mem_cons] at hq ⊢
          rcases hq with h | h | h | h | h | h | h | h | h | h <;> simp [h])
        clear N9 N8
        k_steps
        · refine LCg.CompEnd.intro F9 N9' ((I, oI) :: (l', W.listOf ws.toArray e) :: (L1 + 1, o6) :: (t1n ++ (t2n ++ news))) (fun q hq => List.mem_cons_of_mem _ hq) offn trivial ⟨t1n, t2n, rfl, ht1n, ht2n, aF1, aF2, ?_⟩
          rename_i hz
          have hz' : num % part = 0 := by omega
          subst hpart
          rw [dvs, if_pos ⟨hle', hz'⟩]
          exact IntsAre.append hys (.cons _ _ .nil)
        · refine LCg.CompEnd.intro F9 N9' ((I, oI) :: (l', W.listOf ws.toArray e) :: (L1 + 1, o6) :: (t1n ++ (t2n ++ news))) (fun q hq => List.mem_cons_of_mem _ hq) offn trivial ⟨t1n, t2n, rfl, ht1n, ht2n, aF1, aF2, ?_⟩
          rename_i hz
          subst hpart
          rw [dvs, if_neg (fun h => hz (by rw [h.2]; rfl))]
          exact hys
      · refine LCg.CompEnd.intro F8 N8 _ (fun q hq => hq) off trivial ⟨t1'', t2'', rfl, ht1'', ht2'', ap1'', ap2'', ?_⟩
        rename_i hgt
        have hgt' : ¬ part * part ≤ num := by exact_mod_cast hgt
        subst hpart
        rw [dvs, if_neg (fun h => hgt' h.1)]
        exact hys
    case cfin =>
      rintro ys nw ⟨t1'', t2'', rfl, ht1'', ht2'', ap1'', ap2'', hys⟩
      clear F7 N7
      k_steps
      · rename_i Dy h10 tk10 oy ll h11 F11 N11 l11 hdec
        have hdv : dvs num (num - 2) = [] := of_decide_eq_true hdec
        have hgt := prs_gt b i (by omega)
        have hle := prs_len b i
        rw [hnum] at hgt
        have hIl' : ∀ q ∈ t1'' ++ (t2'' ++ news), q.1 ≠ l' := by
          intro q hq
          rcases List.mem_append.mp hq with hq | hq
          · exact ap1'' q hq (l', W.listOf ws.toArray e) (by simp)
          · rcases List.mem_append.mp hq with hq | hq
            · exact ap2'' q hq (l', W.listOf ws.toArray e) (by simp)
            · exact hnewl q hq
        unfold Stop
        refine insort_left_use (ns := prs b i) (keep := (I, oI) :: (L1 + 1, o6) :: (t1'' ++ (t2'' ++ news))) hI5 (by omega) hgt N11 (by k_mem) (fun q hq => by simp only [List.mem_cons, List.mem_append] at hq ⊢; rcases hq with h | h | h | h | h <;> simp [h]) ?_ (by k_asm) F11 (by k_asm) (by k_asm) rfl (by ktr_room) ?_
        · intro q hq
          rcases List.mem_cons.mp hq with rfl | hq
          · exact hIl
          · rcases List.mem_cons.mp hq with rfl | hq
            · exact hL1l
            · exact hIl' q hq
        intro e12 h12 tk12 F12 N12
        k_steps
        show TurnEnd _ _ _ _ _ _ _
        refine ⟨h12, tk12, _, (l', W.listOf (Value.int (num : Int) t :: ws).toArray e12) :: (L1 + 1, o6) :: (t1'' ++ (t2'' ++ news)), rfl, F12, fun q hq => N12 q (by
          simp only [List.mem_cons] at hq ⊢; rcases hq with h | h | h | h <;> simp [h]), hoffI2 t1'' t2'' _ _ ap1'' ap2'', rfl, Value.int (num : Int) t :: ws, e12, o6, _, t1'', t2'', rfl, d6, ?_, ht1'', ht2'', apX1 t1'' t2'' _ _ ap1'', apX2 t1'' t2'' _ _ ap2''⟩
        rw [prs, hnum, if_pos hdv]
        exact .cons _ _ hI5
      · rename_i Dy h10 tk10 oy ll h11 F11 N11 l11 hdec
        have hdv : ¬ dvs num (num - 2) = [] := of_decide_eq_false hdec
        show TurnEnd _ _ _ _ _ _ _
        refine ⟨h11, tk10, _, (l', W.listOf ws.toArray e) :: (L1 + 1, o6) :: (t1'' ++ (t2'' ++ news)), rfl, F11, fun q hq => N11 q (by
          simp only [List.mem_cons] at hq ⊢; rcases hq with h | h | h | h <;> simp [h]), hoffI2 t1'' t2'' _ _ ap1'' ap2'', rfl, ws, e, o6, _, t1'', t2'', rfl, d6, ?_, ht1'', ht2'', apX1 t1'' t2'' _ _ ap1'', apX2 t1'' t2'' _ _ ap2''⟩
        rw [prs, hnum, if_neg hdv]
        exact hI5
  case done =>
    rintro m₁ nw h tk5 ⟨rfl, ws, e, oc5, v5, t1', t2', rfl, dc5, hI5, ht1', ht2', ap1, ap2⟩ F5 N5
    dsimp only [frMap] at F5
    have hnlt : ∀ q ∈ news, (q.1 : Nat) < l' := fun q hq => allLt_lt lt1.2 q (by simp [hq])
    clear N4
    k_steps
    refine hret l' ws e t1' t2' _ _ ht1' ht2' hI5 (by assumption) ?_ hnlt (apart_sub ap1 fun q hq => ⟨q, by
      simp only [List.mem_append, List.mem_cons] at hq ⊢
      rcases hq with h | h | h <;> simp [h], rfl⟩) (apart_sub ap2 fun q hq => ⟨q, by
      simp only [List.mem_cons] at hq ⊢
      rcases hq with h | h <;> simp [h], rfl⟩)
    rename News _ _ _ _ => N9
    exact fun q hq => N9 q (by
      simp only [List.mem_append, List.mem_cons] at hq ⊢
      rcases hq with h | h | h | h <;> simp [h])
end Mine
end
section
open PySem PySem.W PyProof.Rows PySem.Spec PySem.Calls
namespace Mine
local macro_rules | `(tactic| walk_at "none of these") => `(tactic| fail)
/-- lo and hi bound the place of x in ns -/
def Place (ns : List Int) (x : Int) (lo hi : Nat) : Prop := (∀ j, j < lo → ns.getD j 0 ≤ x) ∧ ∀ j, hi ≤ j → j < ns.length → x < ns.getD j 0
local macro_rules | `(tactic| walk_at "exec While Compare cons nil") => `(tactic| (k_here; (refine stop_of ?_)))
local macro_rules | `(tactic| walk_at "call builtin:len") => `(tactic| (k_here; (with_reducible show wpAny _ _ (call (Value.builtin "len") [Value.ref _]) _ _ _); k_dflt (refine' len_led ?N ?m ?v ?k ?_; (case N => k_asm); (case m => k_mem); (case v => assumption); (case k => omega); k_whole)))
set_option maxRecDepth 100000 in
set_option maxHeartbeats 8000000 in
theorem bisect_right_c (w : World) {p : Program} {loose : List Str} {mean : ExcName → Option Value} {mg mb : Str → Option Value} {D : Addr} {ws : List Value} {ns : List Int} {e : Nat} {x : Int} {tx : Tok} (hI : IntsAre ws ns) (hlen : ns.length ≤ 100) (hsort : ∀ i j, i ≤ j → j < ns.length → ns.getD i 0 ≤ ns.getD j 0)
    {dp un : Nat} {gd : Option (List Code)} {cn : Str} {cs : Scope} {aL : Addr} {ccd : Value} {cl : List (Str × Addr)} {outer : List Env} {A₀ : Around} {base h₀ : Heap} {L : Addr} {m : Str → Option Value} {s : Shared} {Q E : Value → Shared → Prop} {led : List (Addr × Obj)}
    (hD : (D, W.listOf ws.toArray e) ∈ led) (B : Below A₀ base outer h₀) (F : Fr h₀ L s.heap m) (X : (hd.heap_39 w.params).In h₀) (N : News h₀ L s.heap led) (T : Top p loose mean mg mb h₀) (hk : cs.kind = .function) (hd : dp + 2 < recursionLimit)
    (hret : ∀ (r : Nat) t h' tk', r ≤ ns.length → Place ns x r r → Fr h₀ L h' m → News h₀ L h' led → Q (.int (r : Int) t) { s with heap := h', toks := tk' }) :
    wpAny (model PySem.Challenge.rw_ie0004_01.row.toRowW.prog w) (ktrTop dp un gd cn cs L aL ccd cl outer) (call (.ref 23) [.ref D, .int x tx]) Q E s := by
  w_top off
  revert X; k_fill; intro X
  have hwl : ws.length = ns.length := hI.length
  refine wpAny_call ?_
  k_dflt (refine' code_def ?k1 ?k2 ?k3 ?k4 ?k5 ?kA ?kF ?kK ?k6 ?k7 ?k8 ?k9 ?kB ?_ ?c2 ?c3 ?c4 ?c5; (case kA => exact rfl); (case kF => exact rfl); (case kK => assumption); (case k1 => k_asm); (case k2 => k_asm); (case k3 => k_asm); (case k4 => k_asm); (case k5 => k_asm); (case k6 => k_is); (case k7 => k_is); (case k8 => ktr_room); (case k9 => (refine' kp_binds ?kx ?ke; (case kx => k_in); (case ke => exact fun _ => rfl))); (case c5 => decide); (case kB => exact locs rfl); (case c2 => exact rfl); (case c3 => exact rfl); (case c4 => exact rfl); k_whole)
  intro g1 L1 h1 FG1 F1 N1 B1 X1 T1
  try dsimp only
  k_lift B1
  try k_fold
  have N1' : News g1 L1 h1 ((D, W.listOf ws.toArray e) :: led) := fun q hq => N1 q (by
    rcases List.mem_cons.mp hq with rfl | hq
    · exact hD
    · exact hq)
  clear N1
  k_steps
  unfold Stop
  rename_i h2 F2 N2
  refine While_inv2 (n₀ := ns.length) (fun n m₁ nw => nw = (D, W.listOf ws.toArray e) :: led ∧ ∃ (lo hi : Nat) (tl th : Tok), n = hi - lo ∧ m₁ (Str.ofString "lo") = some (.int (lo : Int) tl) ∧ m₁ (Str.ofString "hi") = some (.int (hi : Int) th) ∧ lo ≤ hi ∧ hi ≤ ns.length ∧ Place ns x lo hi ∧
    ∀ z, z ≠ Str.ofString "lo" → z ≠ Str.ofString "hi" → z ≠ Str.ofString "mid" → m₁ z = frMap F2 z) F2 N2 ⟨rfl, 0, ns.length, _, _, rfl, by with_unfolding_all rfl, by with_unfolding_all rfl, Nat.zero_le _, Nat.le_refl _, ⟨fun j h => absurd h (Nat.not_lt_zero _), fun j h1 h2 => absurd h2 (Nat.not_lt.mpr h1)⟩, fun _ _ _ _ => rfl⟩ ?turn
  rintro n m₁ nw h3 tk3 F3 N3 ⟨rfl, lo, hi, tl3, th, rfl, hlo, hhi, hlh, hle, hP, hr⟩
  have Fn := fr_norm F3 (m' := fun y => if y = Str.ofString "lo" then some (.int (lo : Int) tl3) else if y = Str.ofString "hi" then some (.int (hi : Int) th) else if y = Str.ofString "mid" then m₁ y else frMap F2 y) (by
    intro y
    by_cases e1 : y = Str.ofString "lo"
    · subst e1; rw [if_pos rfl]; exact hlo
    · by_cases e2 : y = Str.ofString "hi"
      · subst e2; rw [if_neg e1, if_pos rfl]; exact hhi
      · by_cases e3 : y = Str.ofString "mid"
        · rw [if_neg e1, if_neg e2, if_pos e3]
        · rw [if_neg e1, if_neg e2, if_neg e3]; exact hr y e1 e2 e3)
  dsimp only [frMap] at Fn
  clear F3 hr N2
  have hm := fdiv2 ((lo : Int) + (hi : Int))
  k_steps
  · rename_i hlt _ _ hx _ F9 N9
    have e : ((Int.toNat (Int.fdiv ((lo : Int) + (hi : Int)) 2) : Nat) : Int) = Int.fdiv ((lo : Int) + (hi : Int)) 2 := Int.toNat_of_nonneg (by omega)
    refine ⟨_, _, _, _, Int.toNat (Int.fdiv ((lo : Int) + (hi : Int)) 2) - lo, rfl, F9, N9, by omega, rfl, lo, Int.toNat (Int.fdiv ((lo : Int) + (hi : Int)) 2), _, _, rfl, by with_unfolding_all rfl, by rw [e]; with_unfolding_all rfl, by omega, by omega, ⟨hP.1, fun j h1 h2 => Int.lt_of_lt_of_le hx (hsort _ j h1 h2)⟩, fun z z1 z2 z3 => ?_⟩
    dsimp only
    rw [if_neg z2, if_neg z3, if_neg z1, if_neg z2, if_neg z3]
  · rename_i hlt _ _ hx _ F9 N9
    have e : (((Int.toNat (Int.fdiv ((lo : Int) + (hi : Int)) 2) + 1 : Nat)) : Int) = Int.fdiv ((lo : Int) + (hi : Int)) 2 + 1 := by
      have := Int.toNat_of_nonneg (a := Int.fdiv ((lo : Int) + (hi : Int)) 2) (by omega); omega
    refine ⟨_, _, _, _, hi - (Int.toNat (Int.fdiv ((lo : Int) + (hi : Int)) 2) + 1), rfl, F9, N9, by omega, rfl, Int.toNat (Int.fdiv ((lo : Int) + (hi : Int)) 2) + 1, hi, _, _, rfl, by rw [e]; with_unfolding_all rfl, by with_unfolding_all rfl, by omega, by omega, ⟨fun j h1 => Int.le_trans (hsort j _ (by omega) (by omega)) (Int.not_lt.mp hx), hP.2⟩, fun z z1 z2 z3 => ?_⟩
    dsimp only
    rw [if_neg z1, if_neg z3, if_neg z1, if_neg z2, if_neg z3]
  · rename_i hge kF kN _ _
    have : lo = hi := by omega
    subst this
    exact hret lo _ _ _ hle hP (by assumption) (fun q hq => kN q (List.mem_cons_of_mem _ hq))
end Mine
end
section
open PySem PySem.W PyProof.Rows PySem.Spec PySem.Calls
namespace Mine
local macro_rules | `(tactic| walk_at "none of these") => `(tactic| fail)
/-- how often p goes into n, at most k times -/
def oft (p : Nat) : Nat → Nat → Nat
  | 0, _ => 0
  | k + 1, n => if n % p = 0 then oft p k (n / p) + 1 else 0
theorem fdiv_nat (a b : Nat) : Int.fdiv (a : Int) (b : Int) = ((a / b : Nat) : Int) := by
  rw [Int.fdiv_eq_ediv_of_nonneg _ (by omega)]; rfl
local macro_rules | `(tactic| walk_at "exec While") => `(tactic| (k_here; (refine stop_of ?_)))
set_option maxRecDepth 100000 in
set_option maxHeartbeats 8000000 in
theorem law_often_c (w : World) {p : Program} {loose : List Str} {mean : ExcName → Option Value} {mg mb : Str → Option Value} {n q : Nat} {tn tq : Tok} (hq : 1 < q) (hq2 : q < 100)
    {dp un : Nat} {gd : Option (List Code)} {cn : Str} {cs : Scope} {aL : Addr} {ccd : Value} {cl : List (Str × Addr)} {outer : List Env} {A₀ : Around} {base h₀ : Heap} {L : Addr} {m : Str → Option Value} {s : Shared} {Q E : Value → Shared → Prop} {led : List (Addr × Obj)}
    (B : Below A₀ base outer h₀) (F : Fr h₀ L s.heap m) (X : (hd.heap_39 w.params).In h₀) (N : News h₀ L s.heap led) (T : Top p loose mean mg mb h₀) (hk : cs.kind = .function) (hd : dp + 2 < recursionLimit)
    (hret : ∀ t h' tk', Fr h₀ L h' m → News h₀ L h' led → Q (.int ((oft q 90 n : Nat) : Int) t) { s with heap := h', toks := tk' }) :
    wpAny (model PySem.Challenge.rw_ie0004_01.row.toRowW.prog w) (ktrTop dp un gd cn cs L aL ccd cl outer) (call (.ref 95) [.int (n : Int) tn, .int (q : Int) tq]) Q E s := by
  w_top off
  revert X; k_fill; intro X
  refine wpAny_call ?_
  k_dflt (refine' code_def ?k1 ?k2 ?k3 ?k4 ?k5 ?kA ?kF ?kK ?k6 ?k7 ?k8 ?k9 ?kB ?_ ?c2 ?c3 ?c4 ?c5; (case kA => exact rfl); (case kF => exact rfl); (case kK => assumption); (case k1 => k_asm); (case k2 => k_asm); (case k3 => k_asm); (case k4 => k_asm); (case k5 => k_asm); (case k6 => k_is); (case k7 => k_is); (case k8 => ktr_room); (case k9 => exact BindsTo.of_eq rfl); (case c5 => decide); (case kB => exact locs rfl); (case c2 => exact rfl); (case c3 => exact rfl); (case c4 => exact rfl); k_whole)
  intro g1 L1 h1 FG1 F1 N1 B1 X1 T1
  try dsimp only
  k_lift B1
  try k_fold
  k_steps
  unfold Stop
  rename_i h2 F2 N2
  refine While_inv2 (n₀ := 90) (fun k m₁ nw => nw = led ∧ ∃ (v f : Nat) (tv tf : Tok), f + k = 90 ∧ m₁ (Str.ofString "number") = some (.int (v : Int) tv) ∧ m₁ (Str.ofString "found") = some (.int (f : Int) tf) ∧ f + oft q k v = oft q 90 n ∧
    ∀ z, z ≠ Str.ofString "number" → z ≠ Str.ofString "found" → m₁ z = frMap F2 z) F2 N2 ⟨rfl, n, 0, _, _, rfl, by with_unfolding_all rfl, by with_unfolding_all rfl, Nat.zero_add _, fun _ _ _ => rfl⟩ ?turn
  rintro k m₁ nw h3 tk3 F3 N3 ⟨rfl, v, f, tv, tf, hfk, hv, hf, hR, hr⟩
  have Fn := fr_norm F3 (m' := fun y => if y = Str.ofString "number" then some (.int (v : Int) tv) else if y = Str.ofString "found" then some (.int (f : Int) tf) else frMap F2 y) (by
    intro y
    by_cases e1 : y = Str.ofString "number"
    · subst e1; rw [if_pos rfl]; exact hv
    · by_cases e2 : y = Str.ofString "found"
      · subst e2; rw [if_neg e1, if_pos rfl]; exact hf
      · rw [if_neg e1, if_neg e2]; exact hr y e1 e2)
  dsimp only [frMap] at Fn
  clear F3 hr N2
  have hmod := fmod_nat v q
  have hdiv := fdiv_nat v q
  k_steps
  · rename_i hz hlt Dt _ _ _ _ _ F9 N9
    obtain ⟨k', rfl⟩ : ∃ k', k = k' + 1 := ⟨k - 1, by omega⟩
    have hv0 : v % q = 0 := by omega
    refine ⟨_, _, _, nw, k', rfl, F9, fun y hy => N9 y (List.mem_cons_of_mem _ hy), by omega, rfl, v / q, f + 1, _, _, by omega, by rw [← hdiv]; with_unfolding_all rfl, by with_unfolding_all rfl, ?_, fun z z1 z2 => ?_⟩
    · rw [oft, if_pos hv0] at hR; omega
    · dsimp only [frMap]
      simp only [if_neg z1, if_neg z2]
  · obtain rfl : k = 0 := by omega
    have e : f = oft q 90 n := by rw [← hR]; rfl
    rw [e]
    exact hret _ _ _ (by assumption) (by assumption)
  · rename_i hz _ _ _ _
    have hv0 : ¬ v % q = 0 := fun h => hz (by rw [hmod, h]; rfl)
    have e : f = oft q 90 n := by
      rw [← hR]
      cases k with
      | zero => rfl
      | succ k' => rw [oft, if_neg hv0]; rfl
    rw [e]
    exact hret _ _ _ (by assumption) (by assumption)
end Mine
end
section
open PySem PySem.W PyProof.Rows
namespace Mine
/-- the statement i of the law, and the law's scope -/
def lawStmt (i : Nat) : Option (Stmt × Scope) := match PySem.Challenge.rw_ie0004_01.row.toRowW.prog.main.body[(15 : Nat)]? with
  | some (.FunctionDef _ _ b _ _ _ sc _ _ _) => b[i]?.map fun x => (x, sc)
  | _ => none
end Mine
end
section
open PySem PySem.W PyProof.Rows
namespace Mine
def PairAt (h : Heap) (v : Value) (k : Int) : Prop := ∃ (a : Addr) (t : Tok) (x : Value), v = .ref a ∧ h.IsTuple a #[.int k t, x]
theorem PairAt.keep {h h' : Heap} {v : Value} {k : Int} (x : PairAt h v k) (hk : ∀ a o, h.get? a = some o → o.cls = .type "tuple" → h'.get? a = some o) : PairAt h' v k := by
  obtain ⟨a, t, y, e, o, ho, hc, r⟩ := x
  exact ⟨a, t, y, e, o, hk a o ho hc, hc, r⟩
section
variable {prog : Program} {w : World} {A : Around} {E : Value → Shared → Prop} {s : Shared}
theorem keys_none {a : Addr} {o : Obj} {xs : Array Value} {k : Nat} {Q : Option Value → Shared → Prop} (hx : s.heap.get? a = some o) (hc : o.cls = .type "list") (hdat : o.data = .seq xs k) (hd : o.dict = none) (hA : A.handled = none)
    (h : ∀ h' tk, (∀ b o, s.heap.get? b = some o → h'.get? b = some o) → Q none { s with heap := h', toks := tk }) :
    wpAny (model prog w) A (getAttr? (.ref a) "keys") Q E s := by
  obtain ⟨c, dct, dat, sl⟩ := o
  simp only at hc hdat hd
  subst hc hdat hd
  obtain ⟨hp, g, d, tk, os⟩ := s
  have hT : ∀ tk', (⟨hp, g, d, tk', os⟩ : Shared).TypeIs (.ref a) "list" := fun _ => ⟨_, hx, rfl⟩
  have f1 := sub_AttributeError
  have f3 := F.slot_list_getattribute.lookup
  have f4 := F.slot_list_getattribute.bind (.ref a)
  have f5 := am_list_getattr_none
  have hmiss : typeLookup (.type "list") "keys" = pure none := am_miss_of_fast (by decide +kernel)
  unfold getAttr? getAttrBy? getAttrBy
  repeat (any_goals (first | assumption | exact hT _ | ((with_reducible show wpAny _ _ (call (Value.builtin "list.__getattribute__") _ _) _ _ _); refine call_meets F.slot_list_getattribute (hT _) am_entry_list_getattribute (F.args_list_getattribute_2 _ _) (meets_getattribute_miss_list a xs k sl "keys" _ hmiss (by decide +kernel) (by size_fits)) ⟨hx, hA, fun h' tk' e hx' => ?_⟩) | wp_step))
  obtain ⟨t', u', he⟩ := hx'.there
  show wpAny _ _ (getattributeRaised _ _ _ _ _ _ _) _ _ _
  unfold getattributeRaised
  repeat (any_goals (first | assumption | wp_step))
  exact h _ _ hx'.keeps
theorem kt_entry_update_loop : entryFor table "dict.update.loop" = some Builtin.«dict.update.loop» := entryFor_of_tree (by kernel_rfl)
theorem plain_update_loop : plainId "dict.update.loop" = true := by decide +kernel
theorem pairs_loop {R : Result → Shared → Prop} {d it src : Addr} {vs : List Value} {ks : List Int} {res : Value} (hh : A.handled = none) (hn : ks.Nodup) (hlen : vs.length = ks.length) (hsz : vs.length ≤ sizeLine) :
    ∀ (j i : Nat) (s : Shared) (z : Value) (kvs : List (Int × Value)), vs.length - i = j → i ≤ vs.length → (∃ q t, z = .int q t) → s.heap.IsListIter it src i → s.heap.IsList src vs.toArray →
    (∀ (i : Nat) v, vs[i]? = some v → ∃ k, ks[i]? = some k ∧ PairAt s.heap v k) → s.heap.DictOf (intKind prog w) d kvs → kvs.map (·.1) = ks.take i →
    (∀ h' tk kvs', h'.DictOf (intKind prog w) d kvs' → kvs'.map (·.1) = ks → (∀ b o, b ≠ it → b ≠ d → s.heap.get? b = some o → h'.get? b = some o) → R (.ok (.ret res)) { s with heap := h', toks := tk }) →
    codeAny (model prog w) A (.builtin "dict.update.loop" ⟨[.ref d, .ref it, z, res], []⟩) R s := by
  intro j
  induction j with
  | zero =>
    intro i s z kvs hj hi hz hit hl hp hd hk hR
    obtain ⟨q, t, rfl⟩ := hz
    refine codeAny_builtin kt_entry_update_loop ?_
    rw [Around.under_plainId plain_update_loop _]
    show wpAny _ A.in1 (pyNext (.ref it) >>= _) _ _ s
    refine wpAny_bind (wpAny_pyNext_list_end hh hit hl (by simp; omega) fun h' he => ?_)
    show wpAny _ _ (Builtin.Dict.addKeywords d [] >>= _) _ _ _
    have hit' := hit
    obtain ⟨oi, hoi, hci, _⟩ := hit'
    have hdi : d ≠ it := by
      rintro rfl
      obtain ⟨o2, _, _, h2, hx, _⟩ := hd
      rw [hoi] at h2; injection h2 with h2; rw [← h2] at hx
      exact absurd (hx.1.symm.trans hci) (by decide)
    refine wpAny_bind (wpAny_pure (wpAny_pure (hR h' _ kvs (hd.extBut he hdi) (by rw [hk, List.take_of_length_le (by omega)]) fun b o hb _ ho => he b o hb ho)))
  | succ j ih =>
    intro i s z kvs hj hi hz hit hl hp hd hk hR
    obtain ⟨q, t, rfl⟩ := hz
    have hlt : i < vs.length := by omega
    obtain ⟨k, hki, hpk⟩ := hp i _ (List.getElem?_eq_getElem hlt)
    have hit' := hit
    obtain ⟨oi, hoi, hci, _⟩ := hit'
    have hd' := hd
    obtain ⟨od, _, _, hod, hxd, _⟩ := hd'
    have hcd : od.cls = .type "dict" := hxd.1
    have hdi : d ≠ it := by
      rintro rfl
      rw [hoi] at hod; injection hod with h2; rw [← h2] at hcd
      exact absurd (hcd.symm.trans hci) (by decide)
    have tup : ∀ a o, s.heap.get? a = some o → o.cls = .type "tuple" → a ≠ it ∧ a ≠ d := fun a o ho hc =>
      ⟨by rintro rfl; rw [hoi] at ho; injection ho with h2; rw [← h2] at hc; exact absurd (hc.symm.trans hci) (by decide),
       by rintro rfl; rw [hod] at ho; injection ho with h2; rw [← h2] at hc; exact absurd (hc.symm.trans hcd) (by decide)⟩
    have hsrc : src ≠ it ∧ src ≠ d := by
      obtain ⟨ol, hol, hcl, _⟩ := hl
      exact ⟨by rintro rfl; rw [hoi] at hol; injection hol with h2; rw [← h2] at hcl; exact absurd (hcl.symm.trans hci) (by decide),
       by rintro rfl; rw [hod] at hol; injection hol with h2; rw [← h2] at hcl; exact absurd (hcl.symm.trans hcd) (by decide)⟩
    refine codeAny_builtin kt_entry_update_loop ?_
    rw [Around.under_plainId plain_update_loop _]
    show wpAny _ A.in1 (pyNext (.ref it) >>= _) _ _ s
    refine wpAny_bind (wpAny_pyNext_list_item hit hl (x := vs[i]) (by simp [hlt]) fun h1 hit1 hs1 => ?_)
    have hp1 : ∀ (i : Nat) v, vs[i]? = some v → ∃ k, ks[i]? = some k ∧ PairAt h1 v k := fun i v hv => by
      obtain ⟨k, h1, h2⟩ := hp i v hv
      exact ⟨k, h1, h2.keep fun a o ho hc => (hs1.2 a (tup a o ho hc).1).trans ho⟩
    have hpk1 : PairAt h1 vs[i] k := hpk.keep fun a o ho hc => (hs1.2 a (tup a o ho hc).1).trans ho
    have hd1 : h1.DictOf (intKind prog w) d kvs := let ⟨o, es, ep, ho, r⟩ := hd; ⟨o, es, ep, (hs1.2 d hdi).trans ho, r⟩
    have hl1 : h1.IsList src vs.toArray := let ⟨o, ho, r⟩ := hl; ⟨o, (hs1.2 src hsrc.1).trans ho, r⟩
    obtain ⟨a, t', x, hva, oa, hoa, hca, n, hda⟩ := hpk1
    rw [hva]
    show wpAny _ A.in1 (holding [Value.ref a] _ >>= _) _ _ _
    refine wpAny_bind (wpAny_holding ?_)
    refine wpAny_bind (wpAny_tryCatch ?_)
    unfold Builtin.Dict.pairItems
    refine wpAny_bind (wpAny_typeOf (T := "tuple") ⟨oa, hoa, hca⟩ ?_)
    show wpAny _ _ (seqItems? (.ref a) >>= _) _ _ _
    refine wpAny_bind (wpAny_seqItems hoa hda (wpAny_pure ?_))
    show wpAny _ _ (holding [Value.int k t', x] (dictSet d (.int k t') x)) _ _ _
    have hkn : k ∉ kvs.map (·.1) := by
      rw [hk]
      intro hm
      obtain ⟨p, hp1, hp2⟩ := List.mem_iff_getElem.mp hm
      rw [List.getElem_take] at hp2
      rw [List.length_take] at hp1
      obtain ⟨hi2, hki⟩ := List.getElem?_eq_some_iff.mp hki
      exact List.pairwise_iff_getElem.mp hn p i (by omega) hi2 (by omega) (hp2.trans hki.symm)
    have hst : stored kvs k x = kvs ++ [(k, x)] := by
      unfold stored
      rw [if_neg]
      intro hany
      obtain ⟨kv, hm, he⟩ := List.any_eq_true.mp hany
      exact hkn (List.mem_map.mpr ⟨kv, hm, of_decide_eq_true he⟩)
    have hlk : kvs.length ≤ sizeLine := by
      have := congrArg List.length hk
      rw [List.length_map, List.length_take] at this
      omega
    refine wpAny_holding (wpAny_dictSet_pairs (s := { s with heap := h1 }) (knd := intKind prog w) (kvs := kvs) (k := k) (intKind_is prog w k t') hd1 (fun h2 hd2 hs2 => ?_) hlk)
    rw [hst] at hd2
    show wpAny _ _ (again _) _ _ _
    refine wpAny_pure ⟨plainId_quiet plain_update_loop _, ih (i + 1) _ _ (kvs ++ [(k, x)]) (by omega) hlt ⟨_, _, rfl⟩ ?_ ?_ ?_ hd2 ?_ ?_⟩
    · obtain ⟨o, ho, r⟩ := hit1
      exact ⟨o, (hs2.2 it (Ne.symm hdi)).trans ho, r⟩
    · obtain ⟨o, ho, r⟩ := hl1
      exact ⟨o, (hs2.2 src hsrc.2).trans ho, r⟩
    · intro i v hv
      obtain ⟨k, e1, a, o, x, ev, o', ho', hc', r'⟩ := hp i v hv
      have := tup _ _ ho' hc'
      exact ⟨k, e1, a, o, x, ev, o', (hs2.2 a this.2).trans ((hs1.2 a this.1).trans ho'), hc', r'⟩
    · rw [List.map_append, hk]
      obtain ⟨hi2, hki⟩ := List.getElem?_eq_some_iff.mp hki
      rw [List.take_succ_eq_append_getElem hi2, hki]; rfl
    · intro h' tk kvs' x1 x2 x3
      exact hR h' tk kvs' x1 x2 fun b o hb hb2 ho => x3 b o hb hb2 ((hs2.2 b hb2).trans ((hs1.2 b hb).trans ho))
theorem dict_pairs {src : Addr} {vs : List Value} {ks : List Int} {e : Nat} {Q : Value → Shared → Prop} (hh : A.handled = none) (hl : s.heap.get? src = some (W.listOf vs.toArray e)) (hn : ks.Nodup) (hlen : vs.length = ks.length) (hsz : vs.length ≤ sizeLine)
    (hp : ∀ (i : Nat) v, vs[i]? = some v → ∃ k, ks[i]? = some k ∧ PairAt s.heap v k)
    (h : ∀ h' tk kvs, h'.DictOf (intKind prog w) s.heap.objs.size kvs → kvs.map (·.1) = ks → (∀ b o, s.heap.get? b = some o → h'.get? b = some o) → Q (.ref s.heap.objs.size) { s with heap := h', toks := tk }) :
    wpAny (model prog w) A (call (.type "dict") [.ref src]) Q E s := by
  refine callType_codes (Q₁ := fun obj s₁ => obj = .ref s.heap.objs.size ∧ s₁ = { s with heap := s.heap.push { cls := .type "dict", data := .dict #[] } }) F.kt_called_dict (F.kt_typeCall_dict_1 _) F.entry_dict_init (kt_code_dict_new _ ⟨rfl, rfl⟩) ?_
  rintro obj s₁ ⟨rfl, rfl⟩
  have hnew : (s.heap.push { cls := .type "dict", data := .dict #[] }).DictOf (intKind prog w) s.heap.objs.size [] := Heap.DictOf.new s.heap
  have hl0 := Heap.get?_push_of_some { cls := .type "dict", data := .dict #[] } hl
  have hlist : (s.heap.push { cls := .type "dict", data := .dict #[] }).IsList src vs.toArray := ⟨_, hl0, rfl, _, rfl⟩
  refine ⟨hnew.typeIs, F.args_dict_init_2 _ _, ?_⟩
  unfold Builtin.«dict.__init__»
  refine wpAny_bind ?_
  unfold Builtin.Dict.selfAndRest
  refine wpAny_bind (wpAny_notOrdered_dict hnew.typeIs ?_)
  show wpAny _ _ (pure (s.heap.objs.size, [Value.ref src])) _ _ _
  refine wpAny_pure ?_
  show wpAny _ _ (Builtin.Dict.updateFrom "dict.__init__" s.heap.objs.size (.ref src) [] .none) _ _ _
  unfold Builtin.Dict.updateFrom
  refine wpAny_bind (wpAny_typeOf hlist.typeIs ?_)
  rw [if_pos (by decide)]
  refine wpAny_bind (keys_none hl0 rfl rfl rfl hh fun h1 tk1 hk1 => ?_)
  simp only [Option.isNone_none, if_true]
  refine wpAny_bind (wpAny_rule ?_)
  have hlist1 : h1.IsList src vs.toArray := ⟨_, hk1 _ _ hl0, rfl, _, rfl⟩
  refine wpAny_bind (wpAny_pyIter_list (s := { s with heap := h1, toks := tk1 }) hlist1 ?_)
  have hszd : s.heap.objs.size < h1.objs.size := by
    obtain ⟨o, _, _, ho, _⟩ := hnew
    exact Heap.lt_size (hk1 _ _ ho)
  refine wpAny_bind (wpAny_pure (wpAny_pure ⟨plainId_quiet plain_update_loop _, ?_⟩))
  refine pairs_loop (src := src) (A := A.in1) (R := wants (fun r s₂ => r = Value.none ∧ Q (Value.ref s.heap.objs.size) s₂) E) (res := Value.none) hh hn hlen hsz _ 0 _ _ [] rfl (Nat.zero_le _) ⟨_, _, rfl⟩ ?_ ?_ ?_ ?_ rfl ?_
  · exact ⟨_, Heap.get?_push_size _ rfl, rfl, rfl⟩
  · exact ⟨_, Heap.get?_push_of_some _ (hk1 _ _ hl0), rfl, _, rfl⟩
  · intro i v hv
    obtain ⟨k, e1, e2⟩ := hp i v hv
    exact ⟨k, e1, e2.keep fun a o ho _ => Heap.get?_push_of_some _ (hk1 _ _ (Heap.get?_push_of_some _ ho))⟩
  · exact hnew.keep fun b o ho => Heap.get?_push_of_some _ (hk1 _ _ ho)
  · intro h' tk kvs hd hk hkeep
    refine ⟨rfl, h h' tk kvs hd hk fun b o ho => hkeep b o ?_ ?_ (Heap.get?_push_of_some _ (hk1 _ _ (Heap.get?_push_of_some _ ho)))⟩
    · exact Nat.ne_of_lt (Nat.lt_trans (Heap.lt_size ho) hszd)
    · exact Nat.ne_of_lt (Heap.lt_size ho)
end
end Mine
end
section
open PySem PySem.W PyProof.Rows
namespace Mine
section
variable {prog : Program} {w : World} {A : Around} {h₀ : Heap} {L : Addr} {m : Str → Option Value} {env : Env} {ct elt : Expr} {x : Str} {scope : Scope} {cl : List (Str × Addr)} {s : Shared} {S : List (Addr × Obj) → Prop} {Fin : List Value → List (Addr × Obj) → Prop} {news : List (Addr × Obj)}
theorem comp_listJ {vs : List Value} (J : Nat → List Value → List (Addr × Obj) → Prop) (hj : J 0 [] news)
    (turn : ∀ (i : Nat) v I oI C oC D m₂ ys nw h tk (E' : Value → Shared → Prop), vs[i]? = some v → J i ys nw → LCg.NsObj oC m₂ → m₂ x = some v → Fr h₀ L h m → News h₀ L h ((I, oI) :: (C, oC) :: (D, LCg.lst ys) :: nw) → LCg.Off3 I C D nw → ((@Ne Nat I C) ∧ (@Ne Nat I D) ∧ (@Ne Nat C D)) →
      wpAny (model prog w) A (eval elt (compEnvC scope cl C env)) (LCg.CompEnd h₀ L m { s with heap := h, toks := tk } I oI C oC D (LCg.lst ys) S (fun y nw' => J (i + 1) (ys ++ [y]) nw')) E' { s with heap := h, toks := tk })
    (fin : ∀ ys nw, J vs.length ys nw → Fin ys nw) : LCg.CompRest prog w A h₀ L m env elt x scope cl s S (fun i v => vs.toArray[i]? = some v) Fin vs.toArray.size 0 [] news := by
  have key : ∀ (j i : Nat) (ys : List Value) (nw : List (Addr × Obj)), i + j = vs.length → J i ys nw → LCg.CompRest prog w A h₀ L m env elt x scope cl s S (fun i v => vs.toArray[i]? = some v) Fin j i ys nw := by
    intro j
    induction j with
    | zero =>
      intro i ys nw hi hJ
      obtain rfl : i = vs.length := by omega
      exact LCg.CompRest.zero (fin ys nw hJ)
    | succ j ih =>
      intro i ys nw hi hJ
      refine LCg.CompRest.succ ?_
      intro v I oI C oC D m₂ h tk E' hv hC hx F N off ne
      refine wpAny_mono (turn i v I oI C oC D m₂ ys nw h tk E' (by simpa using hv) hJ hC hx F N off ne) (fun y s₂ hq => ?_) fun _ _ e => e
      obtain ⟨h', tk', nw', e, F', N', off', hS, hJ'⟩ := hq
      exact ⟨h', tk', nw', e, F', N', off', hS, ih (i + 1) _ nw' (by omega) hJ'⟩
  have := key vs.length 0 [] news (by omega) hj
  rw [List.size_toArray]; exact this
theorem comp_listT {vs : List Value} (J : Nat → List Value → List (Addr × Obj) → Prop) (hj : J 0 [] news)
    (turn : ∀ (i : Nat) v I oI C oC D m₂ ys nw h tk (E' : Value → Shared → Prop), vs[i]? = some v → J i ys nw → LCg.NsObj oC m₂ → m₂ x = some v → Fr h₀ L h m → News h₀ L h ((I, oI) :: (C, oC) :: (D, LCg.lst ys) :: nw) → LCg.Off3 I C D nw → ((@Ne Nat I C) ∧ (@Ne Nat I D) ∧ (@Ne Nat C D)) →
      wpAny (model prog w) A (isTrue ct (compEnvC scope cl C env) (eval ct (compEnvC scope cl C env))) (fun b s' => if b = true then wpAny (model prog w) A (eval elt (compEnvC scope cl C env)) (LCg.CompEnd h₀ L m { s with heap := h, toks := tk } I oI C oC D (LCg.lst ys) S (fun y nw' => J (i + 1) (ys ++ [y]) nw')) E' s'
        else LCg.CompEnd h₀ L m { s with heap := h, toks := tk } I oI C oC D (LCg.lst ys) S (fun _ nw' => J (i + 1) ys nw') Value.none s') E' { s with heap := h, toks := tk })
    (fin : ∀ ys nw, J vs.length ys nw → Fin ys nw) : LCt.CompRestT prog w A h₀ L m env ct elt x scope cl s S (fun i v => vs.toArray[i]? = some v) Fin vs.toArray.size 0 [] news := by
  have key : ∀ (j i : Nat) (ys : List Value) (nw : List (Addr × Obj)), i + j = vs.length → J i ys nw → LCt.CompRestT prog w A h₀ L m env ct elt x scope cl s S (fun i v => vs.toArray[i]? = some v) Fin j i ys nw := by
    intro j
    induction j with
    | zero =>
      intro i ys nw hi hJ
      obtain rfl : i = vs.length := by omega
      exact LCt.CompRestT.zero (fin ys nw hJ)
    | succ j ih =>
      intro i ys nw hi hJ
      refine LCt.CompRestT.succ ?_
      intro v I oI C oC D m₂ h tk E' hv hC hx F N off ne
      refine wpAny_mono (turn i v I oI C oC D m₂ ys nw h tk E' (by simpa using hv) hJ hC hx F N off ne) (fun b s₂ hq => ?_) fun _ _ e => e
      cases b with
      | true =>
        simp only [if_true] at hq ⊢
        refine wpAny_mono hq (fun y s₃ hr => ?_) fun _ _ e => e
        obtain ⟨h', tk', nw', e, F', N', off', hS, hJ'⟩ := hr
        exact ⟨h', tk', nw', e, F', N', off', hS, ih (i + 1) _ nw' (by omega) hJ'⟩
      | false =>
        simp only [Bool.false_eq_true, if_false] at hq ⊢
        obtain ⟨h', tk', nw', e, F', N', off', hS, hJ'⟩ := hq
        exact ⟨h', tk', nw', e, F', N', off', hS, ih (i + 1) _ nw' (by omega) hJ'⟩
  have := key vs.length 0 [] news (by omega) hj
  rw [List.size_toArray]; exact this
end
/-- the object of a pair whose first part is k -/
def PairObj (o : Obj) (k : Int) : Prop := ∃ (t : Tok) (x : Value) (n : Nat), o.cls = .type "tuple" ∧ o.data = .seq #[.int k t, x] n
/-- the list ys holds, in the ledger nw, pairs with the keys ks -/
def PairsIn (ys : List Value) (ks : List Int) (nw : List (Addr × Obj)) : Prop := ys.length = ks.length ∧ ∀ (i : Nat) v, ys[i]? = some v → ∃ k, ks[i]? = some k ∧ ∃ a o, v = .ref a ∧ (a, o) ∈ nw ∧ PairObj o k
theorem PairsIn.snoc {ys : List Value} {ks : List Int} {nw nw' : List (Addr × Obj)} {a : Addr} {o : Obj} {k : Int} (h : PairsIn ys ks nw) (hs : ∀ p ∈ nw, p ∈ nw') (hm : (a, o) ∈ nw') (ho : PairObj o k) : PairsIn (ys ++ [.ref a]) (ks ++ [k]) nw' := by
  refine ⟨by rw [List.length_append, List.length_append, h.1]; rfl, fun i v hv => ?_⟩
  rw [List.getElem?_append] at hv
  split at hv
  · rename_i hlt
    obtain ⟨k', e1, a', o', e2, e3, e4⟩ := h.2 i v hv
    exact ⟨k', by rw [List.getElem?_append_left (by rw [← h.1]; exact hlt)]; exact e1, a', o', e2, hs _ e3, e4⟩
  · rename_i hge
    have : i - ys.length = 0 := by
      apply Classical.byContradiction
      intro hne
      rw [List.getElem?_eq_none (by simp; omega)] at hv
      cases hv
    rw [this] at hv
    injection hv with hv
    refine ⟨k, ?_, a, o, hv.symm, hm, ho⟩
    have hl := h.1
    rw [List.getElem?_append_right (by omega)]
    rw [← hl, this]; rfl
section
variable {prog : Program} {w : World} {A : Around} {E : Value → Shared → Prop} {s : Shared} {h₀ : Heap} {L : Addr} {m : Str → Option Value}
theorem dict_pairs_led {src : Addr} {ys : List Value} {ks : List Int} {Q : Value → Shared → Prop} {nw keep : List (Addr × Obj)} (hh : A.handled = none) (F : Fr h₀ L s.heap m) (N : News h₀ L s.heap ((src, LCg.lst ys) :: nw)) (hp : PairsIn ys ks nw) (hn : ks.Nodup) (hsz : ks.length ≤ sizeLine) (hk : ∀ p ∈ keep, p ∈ nw)
    (h : ∀ D o h' tk kvs, Fr h₀ L h' m → News h₀ L h' ((D, o) :: keep) → o.IsDictOf (intKind prog w) kvs → kvs.length = ks.length → (∀ p ∈ keep, p.1 < D) → (D == sysModules) = false → Q (.ref D) { s with heap := h', toks := tk }) (hbig : sysModules < h₀.objs.size) :
    wpAny (model prog w) A (call (.type "dict") [.ref src]) Q E s := by
  refine dict_pairs (e := ys.length) (vs := ys) (ks := ks) hh (N _ (.head _)).1 hn hp.1 (by rw [hp.1]; exact hsz) ?_ ?_
  · intro i v hv
    obtain ⟨k, e1, a, o, e2, e3, t, x, n, e4, e5⟩ := hp.2 i v hv
    exact ⟨k, e1, a, t, x, e2, o, (N _ (.tail _ e3)).1, e4, n, e5⟩
  · intro h' tk kvs hd hkv hkeep
    obtain ⟨o, ho, hio⟩ := Heap.dictOf_iff.mp hd
    refine h _ o h' tk kvs (F.kept hkeep) ?_ hio (by rw [← hkv, List.length_map]) (fun p hp => Heap.lt_size (N p (.tail _ (hk p hp))).1) (F.notModules hbig)
    intro p hp
    rcases List.mem_cons.mp hp with rfl | hp
    · exact ⟨ho, Nat.ne_of_gt F.ns.lt, F.fresh⟩
    · have := N p (.tail _ (hk p hp))
      exact ⟨hkeep _ _ this.1, this.2⟩
theorem pair_end {I C D T : Addr} {oI oC oD oT : Obj} {s₁ : Shared} {ys : List Value} {ks : List Int} {k : Int} {keep nw : List (Addr × Obj)} {S : List (Addr × Obj) → Prop} {h' : Heap} {tk : Nat} (F : Fr h₀ L h' m) (N : News h₀ L h' ((T, oT) :: (I, oI) :: (C, oC) :: (D, oD) :: nw)) (hlt : I < T ∧ C < T ∧ D < T) (off : LCg.Off3 I C D nw)
    (hS : S ((T, oT) :: nw)) (hk : ∀ q ∈ keep, q ∈ nw) (hp : PairsIn ys ks nw) (ho : PairObj oT k) :
    LCg.CompEnd h₀ L m s₁ I oI C oC D oD S (fun y nw' => (∀ q ∈ keep, q ∈ nw') ∧ PairsIn (ys ++ [y]) (ks ++ [k]) nw') (.ref T) { s₁ with heap := h', toks := tk } := by
  refine LCg.CompEnd.intro F N ((T, oT) :: nw) ?_ ⟨⟨Nat.ne_of_gt hlt.1, Nat.ne_of_gt hlt.2.1, Nat.ne_of_gt hlt.2.2⟩, off⟩ hS ⟨fun q hq => List.mem_cons_of_mem _ (hk q hq), hp.snoc (fun q hq => List.mem_cons_of_mem _ hq) (.head _) ho⟩
  intro q hq
  simp only [List.mem_cons] at hq ⊢
  rcases hq with h | h | h | h | h <;> simp [h]
end
end Mine
end
section
open PySem PySem.W PyProof.Rows
namespace Mine
abbrev pr (num : Nat) : List Int := prs (2 * num) (2 * num - 1)
/-- from a check of each number up to 24 -/
theorem all24 {P : Nat → Prop} (h : ∀ n, n < 25 → n = 0 ∨ P n) {num : Nat} (hn : 1 ≤ num) (hn2 : num ≤ 24) : P num := (h num (by omega)).resolve_left (by omega)
theorem pr_len {num : Nat} (hn : 1 ≤ num) (hn2 : num ≤ 24) : 1 ≤ (pr num).length ∧ (pr num).length ≤ 15 := by
  refine all24 (P := fun num => 1 ≤ (pr num).length ∧ (pr num).length ≤ 15) ?_ hn hn2
  decide +kernel
theorem pr_sorted {num : Nat} (hn : 1 ≤ num) (hn2 : num ≤ 24) : (pr num).Pairwise (· < ·) := by
  refine all24 (P := fun num => (pr num).Pairwise (· < ·)) ?_ hn hn2
  decide +kernel
theorem pr_head {num : Nat} (hn : 1 ≤ num) (hn2 : num ≤ 24) : (pr num).getD 0 0 = 2 := by
  refine all24 (P := fun num => (pr num).getD 0 0 = 2) ?_ hn hn2
  decide +kernel
theorem perm_eq {a b : List Int} (h : a.Perm b) (ha : a.Pairwise (· ≤ ·)) (hb : b.Pairwise (· ≤ ·)) : a = b :=
  h.eq_of_pairwise (fun _ _ _ _ h1 h2 => Int.le_antisymm h1 h2) ha hb
theorem pr_le {num : Nat} (hn : 1 ≤ num) (hn2 : num ≤ 24) : (pr num).Pairwise (· ≤ ·) := (pr_sorted hn hn2).imp fun h => Int.le_of_lt h
theorem sorted_same {prog : Program} {w : World} {A : Around} {E : Value → Shared → Prop} {s : Shared} {h₀ : Heap} {L : Addr} {m : Str → Option Value} {news : List (Addr × Obj)} {l : Addr} {vs : List Value} {ns : List Int} {Q : Value → Shared → Prop}
    (F : Fr h₀ L s.heap m) (N : News h₀ L s.heap news) (hl : s.heap.IsList l vs.toArray) (hI : IntsAre vs ns) (h64 : vs.length < 64) (hs : ns.Pairwise (· ≤ ·))
    (h : ∀ (D : Addr) (h' : Heap) (vs' : List Value) (e : Nat), Fr h₀ L h' m → News h₀ L h' ((D, W.listOf vs'.toArray e) :: news) → (∀ p ∈ news, p.1 < D) → IntsAre vs' ns → Q (.ref D) { s with heap := h' }) :
    wpAny (model prog w) A (call (.builtin "sorted") [.ref l]) Q E s := by
  refine sorted_N F N hl hI h64 fun h' vs' ns' e F' N' hI' hp hs' => ?_
  obtain rfl := perm_eq hp hs' hs
  exact h _ h' vs' e F' N' (fun p hp => Nat.lt_succ_of_lt (Heap.lt_size (N p hp).1)) hI'
end Mine
end
section
open PySem PySem.W PyProof.Rows PySem.Spec PySem.Calls
namespace Mine
local macro_rules | `(tactic| walk_at "none of these") => `(tactic| fail)
local macro_rules | `(tactic| walk_at "call builtin:sorted") => `(tactic| (k_here; (with_reducible show wpAny _ _ (call (Value.builtin _) [Value.ref _]) _ _ _); k_dflt (refine' sorted_same ?F ?N ?l ?i ?z ?s ?_; (case F => k_asm); (case N => k_asm); (case l => is_list); (case i => assumption); (case z => omega); (case s => assumption); k_whole); intro D' h' vs' e' F' N' l1 i'; (try k_lt l1)))
local macro_rules | `(tactic| walk_at "CompSrc") => `(tactic| (k_here; refine stop_of ?_))
local macro_rules | `(tactic| walk_at "CompEnd") => `(tactic| (k_here; refine stop_of ?_))
local macro_rules | `(tactic| walk_at "call type:dict") => `(tactic| (k_here; refine stop_of ?_))
local macro_rules | `(tactic| walk_at "call type") => `(tactic| (k_here; refine stop_of ?_))
local macro_rules | `(tactic| walk_at "call builtin:len") => `(tactic| (k_here; (with_reducible show wpAny _ _ (call (Value.builtin "len") [Value.ref _]) _ _ _); k_dflt (refine' len_led ?N ?m ?v ?k ?_; (case N => k_asm); (case m => k_mem); (case v => assumption); (case k => omega); k_whole)))
set_option maxRecDepth 100000 in
set_option maxHeartbeats 8000000 in
theorem law_if1 (w : World) {p : Program} {loose : List Str} {mean : ExcName → Option Value} {mg mb : Str → Option Value} {st : Stmt} {scope : Scope} (hP : lawStmt 2 = some (st, scope)) {pl : List Int} (hl1 : 1 ≤ pl.length) (hl2 : pl.length ≤ 15) (hs : pl.Pairwise (· < ·)) (hhead : pl.getD (Int.toNat 0) 0 = 2) {ws : List Value} {e : Nat} {D : Addr} {oP oN : Obj} (hI : IntsAre ws pl)
    {dp un : Nat} {gd : Option (List Code)} {aL : Addr} {ccd : Value} {outer : List Env} {A₀ : Around} {base h₀ : Heap} {L : Addr} {m : Str → Option Value} {s : Shared} {Q : Flow → Shared → Prop} {E : Value → Shared → Prop} {tt : List (Addr × Obj)}
    (dP : oP.data = .cell (some (.ref D)))
    (B : Below A₀ base outer h₀) (F : Fr h₀ L s.heap m) (X : (hd.heap_39 w.params).In h₀) (N : News h₀ L s.heap ((D, W.listOf ws.toArray e) :: (L + 1 + 1, oP) :: (L + 1, oN) :: tt)) (T : Top p loose mean mg mb h₀) (hd : dp + 200 < recursionLimit) (hu : un + 200 < cLine)
    (hret : ∀ h' tk', Fr h₀ L h' m → News h₀ L h' ((D, W.listOf ws.toArray e) :: (L + 1 + 1, oP) :: (L + 1, oN) :: tt) → Q .next { s with heap := h', toks := tk' }) :
    wpAny (model PySem.Challenge.rw_ie0004_01.row.toRowW.prog w) (ktrTop dp un gd (Str.ofString "law") scope L aL ccd [(Str.ofString "primes", L + 1 + 1), (Str.ofString "number", L + 1)] outer) (exec st (envX (Str.ofString "law") scope L aL ccd [(Str.ofString "primes", L + 1 + 1), (Str.ofString "number", L + 1)])) Q E s := by
  w_top off
  conv at hP => lhs; whnf
  injection hP with hP; injection hP with hP1 hP2
  subst hP1 hP2
  revert X; k_fill; intro X
  have hsle : pl.Pairwise (· ≤ ·) := hs.imp fun h => Int.le_of_lt h
  have hwl : ws.length = pl.length := hI.length
  k_steps
  · rename_i a
    exact absurd hhead a
  unfold Stop
  rename_i F8 N8 _ _ _ _
  refine LCg.CompSrc.ledger (its := ws.toArray) (k := e) (by rfl) F8 N8 (by k_mem) (by rw [PySem.sizeLine_eq, List.size_toArray]; omega) ?_
  intro g'
  refine comp_listJ (fun i ys nw => (∀ q ∈ (D, W.listOf ws.toArray e) :: (L + 1 + 1, oP) :: (L + 1, oN) :: tt, q ∈ nw) ∧ PairsIn ys (pl.take i) nw) ?cj ?cturn ?cfin
  case cj => exact ⟨fun q hq => List.mem_cons_of_mem _ hq, rfl, fun i v hv => by simp at hv⟩
  case cturn =>
    rintro i v I oI C oC D' m2 ys nw h9 tk9 E9 hv ⟨hk, hp⟩ hC hx F9 N9 off ne
    obtain ⟨k, tk, rfl, hk'⟩ := IntsAre.at hI i v hv
    clear F8 N8
    k_steps
    unfold Stop
    rename_i T7 _ F7 N7 l7
    rw [List.take_add_one, hk']
    exact pair_end F7 N7 ⟨l7.1, l7.2.1, l7.2.2.1⟩ off (.inr ⟨_, List.mem_cons_of_mem _ (hk _ (.head _)), rfl, _, rfl⟩) hk hp ⟨_, _, _, rfl, rfl⟩
  case cfin =>
    rintro ys nw ⟨hk, hp⟩
    clear F8 N8
    rw [hwl, List.take_length] at hp
    k_steps
    unfold Stop
    rename_i F7 N7 _
    refine dict_pairs_led (keep := (D, W.listOf ws.toArray e) :: (L + 1 + 1, oP) :: (L + 1, oN) :: tt) (by rfl) F7 N7 hp (hs.imp fun h => by omega) (by rw [PySem.sizeLine_eq]; omega) hk ?_ (modules_low (Top.nolimit T))
    intro D9 o9 h10 tk10 kvs F10 N10 hd10 hlen10 hlt10 hsys
    clear N7
    k_steps
    refine call_len_dict hsys (Heap.dictOf_iff.mpr ⟨o9, (N10 _ (.head _)).1, hd10⟩) (by omega) ?_
    rw [hlen10]
    k_steps
    · rename_i a
      exact absurd rfl a
    · exact hret _ _ F10 fun q hq => N10 q (List.mem_cons_of_mem _ hq)
end Mine
end
section
open PySem PySem.W PyProof.Rows PySem.Spec PySem.Calls
namespace Mine
local macro_rules | `(tactic| walk_at "none of these") => `(tactic| fail)
local macro_rules | `(tactic| walk_at "call ref") => `(tactic| (k_here; (with_reducible show wpAny _ _ (call (Value.ref _) _) _ _ _); refine stop_of ?_))
set_option maxRecDepth 100000 in
set_option maxHeartbeats 8000000 in
theorem law_place (w : World) {p : Program} {loose : List Str} {mean : ExcName → Option Value} {mg mb : Str → Option Value} {st : Stmt} {scope : Scope} (hP : lawStmt 3 = some (st, scope)) {pl : List Int} (hl2 : pl.length ≤ 15) {num : Nat} (hn : 1 ≤ num) (hn2 : num ≤ 24) {ws : List Value} {e : Nat} {D : Addr} {oP oN : Obj} {tn : Tok} (hI : IntsAre ws pl)
    (hsort : ∀ i j, i ≤ j → j < pl.length → pl.getD i 0 ≤ pl.getD j 0)
    {dp un : Nat} {gd : Option (List Code)} {aL : Addr} {ccd : Value} {outer : List Env} {A₀ : Around} {base h₀ : Heap} {L : Addr} {m : Str → Option Value} {s : Shared} {Q : Flow → Shared → Prop} {E : Value → Shared → Prop} {tt : List (Addr × Obj)}
    (dP : oP.data = .cell (some (.ref D))) (dN : oN.data = .cell (some (.int (num : Int) tn)))
    (B : Below A₀ base outer h₀) (F : Fr h₀ L s.heap m) (X : (hd.heap_39 w.params).In h₀) (N : News h₀ L s.heap ((D, W.listOf ws.toArray e) :: (L + 1 + 1, oP) :: (L + 1, oN) :: tt)) (T : Top p loose mean mg mb h₀) (hd : dp + 200 < recursionLimit) (hu : un + 200 < cLine)
    (hret : ∀ (r : Nat) tp h' tk', r ≤ pl.length → Place pl num r r → Fr h₀ L h' (fun y => if y = Str.ofString "place" then some (.int (r : Int) tp) else m y) → News h₀ L h' ((D, W.listOf ws.toArray e) :: (L + 1 + 1, oP) :: (L + 1, oN) :: tt) → Q .next { s with heap := h', toks := tk' }) :
    wpAny (model PySem.Challenge.rw_ie0004_01.row.toRowW.prog w) (ktrTop dp un gd (Str.ofString "law") scope L aL ccd [(Str.ofString "primes", L + 1 + 1), (Str.ofString "number", L + 1)] outer) (exec st (envX (Str.ofString "law") scope L aL ccd [(Str.ofString "primes", L + 1 + 1), (Str.ofString "number", L + 1)])) Q E s := by
  w_top off
  conv at hP => lhs; whnf
  injection hP with hP; injection hP with hP1 hP2
  subst hP1 hP2
  revert X; k_fill; intro X
  have hwl : ws.length = pl.length := hI.length
  k_steps
  unfold Stop
  refine bisect_right_c w hI (by omega) hsort (List.mem_cons_self) (by k_asm) (by k_asm) (by k_asm) (by k_asm) (by k_asm) rfl (by ktr_room) ?_
  intro r t h9 tk9 hr hpl F9 N9
  k_steps
  exact hret r t _ _ hr hpl (by assumption) (by assumption)
end Mine
end
section
open PySem PySem.W PyProof.Rows PySem.Spec PySem.Calls
namespace Mine
local macro_rules | `(tactic| walk_at "none of these") => `(tactic| fail)
local macro_rules | `(tactic| walk_at "eval ListComp") => `(tactic| (k_here; k_dflt (refine LCt.ListComp_T (F₀ := by k_asm) (by with_unfolding_all rfl) (by decide) (by rfl) (by decide) (by rfl) ?_)))
local macro_rules | `(tactic| walk_at "CompSrcT") => `(tactic| (k_here; refine stop_of ?_))
local macro_rules | `(tactic| walk_at "CompEnd") => `(tactic| (k_here; refine stop_of ?_))
local macro_rules | `(tactic| walk_at "call builtin:len") => `(tactic| (k_here; (with_reducible show wpAny _ _ (call (Value.builtin "len") [Value.ref _]) _ _ _); k_dflt (refine' len_led ?N ?m ?v ?k ?_; (case N => k_asm); (case m => k_mem); (case v => assumption); (case k => omega); k_whole)))
set_option maxRecDepth 100000 in
set_option maxHeartbeats 8000000 in
theorem law_if2 (w : World) {p : Program} {loose : List Str} {mean : ExcName → Option Value} {mg mb : Str → Option Value} {st : Stmt} {scope : Scope} (hP : lawStmt 4 = some (st, scope)) {pl : List Int} (hl2 : pl.length ≤ 15) {num : Nat} (hn : 1 ≤ num) (hn2 : num ≤ 24) {ws : List Value} {e : Nat} {D : Addr} {oP oN : Obj} {tn : Tok} (hI : IntsAre ws pl)
    {r : Nat} {tp : Tok} (hr : r < pl.length) (hfil : (pl.filter (fun p => decide (p ≤ (num : Int)))).length = r) (hr1 : (num : Int) < pl.getD (Int.toNat (r : Int)) 0) (hr2 : pl.getD (Int.toNat (r : Int)) 0 ≤ 2 * (num : Int))
    {dp un : Nat} {gd : Option (List Code)} {aL : Addr} {ccd : Value} {outer : List Env} {A₀ : Around} {base h₀ : Heap} {L : Addr} {m : Str → Option Value} {s : Shared} {Q : Flow → Shared → Prop} {E : Value → Shared → Prop} {tt : List (Addr × Obj)}
    (dP : oP.data = .cell (some (.ref D))) (dN : oN.data = .cell (some (.int (num : Int) tn)))
    (B : Below A₀ base outer h₀) (F : Fr h₀ L s.heap (fun y => if y = Str.ofString "place" then some (.int (r : Int) tp) else m y)) (X : (hd.heap_39 w.params).In h₀) (N : News h₀ L s.heap ((D, W.listOf ws.toArray e) :: (L + 1 + 1, oP) :: (L + 1, oN) :: tt)) (T : Top p loose mean mg mb h₀) (hd : dp + 200 < recursionLimit) (hu : un + 200 < cLine)
    (hret : ∀ h' tk', Fr h₀ L h' (fun y => if y = Str.ofString "place" then some (.int (r : Int) tp) else m y) → News h₀ L h' ((D, W.listOf ws.toArray e) :: (L + 1 + 1, oP) :: (L + 1, oN) :: tt) → Q .next { s with heap := h', toks := tk' }) :
    wpAny (model PySem.Challenge.rw_ie0004_01.row.toRowW.prog w) (ktrTop dp un gd (Str.ofString "law") scope L aL ccd [(Str.ofString "primes", L + 1 + 1), (Str.ofString "number", L + 1)] outer) (exec st (envX (Str.ofString "law") scope L aL ccd [(Str.ofString "primes", L + 1 + 1), (Str.ofString "number", L + 1)])) Q E s := by
  w_top off
  conv at hP => lhs; whnf
  injection hP with hP; injection hP with hP1 hP2
  subst hP1 hP2
  revert X; k_fill; intro X
  have hwl : ws.length = pl.length := hI.length
  k_steps
  unfold Stop
  refine LCt.CompSrcT.ledger (its := ws.toArray) (k := e) (by rfl) (by k_asm) N (.head _) (by rw [PySem.sizeLine_eq, List.size_toArray]; omega) ?_
  intro g'
  refine comp_listT (fun i ys nw => nw = (D, W.listOf ws.toArray e) :: (L + 1 + 1, oP) :: (L + 1, oN) :: tt ∧ IntsAre ys ((pl.take i).filter fun q => decide (q ≤ (num : Int)))) ?cj ?cturn ?cfin
  case cj => exact ⟨rfl, .nil⟩
  case cturn =>
    rintro i v I oI C oC D' m2 ys nw h9 tk9 E9 hv ⟨rfl, hp⟩ hC hx F9 N9 off ne
    obtain ⟨k, tk, rfl, hk'⟩ := IntsAre.at hI i v hv
    clear N
    k_steps
    · unfold Stop
      rename_i hle
      refine LCg.CompEnd.intro (by assumption) N9 _ (fun q hq => hq) off (.inr ⟨_, .head _, rfl, _, rfl⟩) ⟨rfl, ?_⟩
      rw [List.take_add_one, hk', List.filter_append]
      have : ([k].filter fun q => decide (q ≤ (num : Int))) = [k] := by simp [hle]
      show IntsAre _ (_ ++ [k].filter _)
      rw [this]
      exact IntsAre.append hp (.cons _ _ .nil)
    · unfold Stop
      rename_i hle
      refine LCg.CompEnd.intro (by assumption) N9 _ (fun q hq => hq) off (.inr ⟨_, .head _, rfl, _, rfl⟩) ⟨rfl, ?_⟩
      rw [List.take_add_one, hk', List.filter_append]
      have : ([k].filter fun q => decide (q ≤ (num : Int))) = [] := by simp; omega
      show IntsAre _ (_ ++ [k].filter _)
      rw [this, List.append_nil]
      exact hp
  case cfin =>
    rintro ys nw ⟨rfl, hp⟩
    clear N
    rw [hwl, List.take_length] at hp
    have hyl : ys.length = r := by rw [hp.length]; exact hfil
    k_steps
    all_goals try (exfalso; omega)
    rename_i N7 _ _ _ _
    exact hret _ _ (by assumption) fun q hq => N7 q (List.mem_cons_of_mem _ hq)
end Mine
end
section
open PySem PySem.W PyProof.Rows PySem.Spec PySem.Calls
namespace Mine
local macro_rules | `(tactic| walk_at "none of these") => `(tactic| fail)
set_option maxRecDepth 100000 in
set_option maxHeartbeats 8000000 in
theorem law_pair (w : World) {p : Program} {loose : List Str} {mean : ExcName → Option Value} {mg mb : Str → Option Value} {st : Stmt} {scope : Scope} (hP : lawStmt 5 = some (st, scope)) {pl : List Int} (hl2 : pl.length ≤ 15) {num : Nat} (hn : 1 ≤ num) (hn2 : num ≤ 24) {ws : List Value} {e : Nat} {D : Addr} {oP oN : Obj} {tn : Tok} (hI : IntsAre ws pl)
    {r : Nat} {tp : Tok}
    {dp un : Nat} {gd : Option (List Code)} {aL : Addr} {ccd : Value} {outer : List Env} {A₀ : Around} {base h₀ : Heap} {L : Addr} {m : Str → Option Value} {s : Shared} {Q : Flow → Shared → Prop} {E : Value → Shared → Prop} {tt : List (Addr × Obj)}
    (dP : oP.data = .cell (some (.ref D))) (dN : oN.data = .cell (some (.int (num : Int) tn)))
    (B : Below A₀ base outer h₀) (F : Fr h₀ L s.heap (fun y => if y = Str.ofString "place" then some (.int (r : Int) tp) else m y)) (X : (hd.heap_39 w.params).In h₀) (N : News h₀ L s.heap ((D, W.listOf ws.toArray e) :: (L + 1 + 1, oP) :: (L + 1, oN) :: tt)) (T : Top p loose mean mg mb h₀) (hd : dp + 200 < recursionLimit) (hu : un + 200 < cLine)
    (hret : ∀ tw tq h' tk', Fr h₀ L h' (fun y => if y = Str.ofString "ways" then some (.int 1 tw) else if y = Str.ofString "product" then some (.int 1 tq) else if y = Str.ofString "place" then some (.int (r : Int) tp) else m y) → News h₀ L h' ((D, W.listOf ws.toArray e) :: (L + 1 + 1, oP) :: (L + 1, oN) :: tt) → Q .next { s with heap := h', toks := tk' }) :
    wpAny (model PySem.Challenge.rw_ie0004_01.row.toRowW.prog w) (ktrTop dp un gd (Str.ofString "law") scope L aL ccd [(Str.ofString "primes", L + 1 + 1), (Str.ofString "number", L + 1)] outer) (exec st (envX (Str.ofString "law") scope L aL ccd [(Str.ofString "primes", L + 1 + 1), (Str.ofString "number", L + 1)])) Q E s := by
  w_top off
  conv at hP => lhs; whnf
  injection hP with hP; injection hP with hP1 hP2
  subst hP1 hP2
  revert X; k_fill; intro X
  have hwl : ws.length = pl.length := hI.length
  k_steps
  rename_i N7
  exact hret _ _ _ _ (by assumption) fun q hq => N7 q (List.mem_cons_of_mem _ hq)
end Mine
end
section
open PySem PySem.W PyProof.Rows PySem.Spec PySem.Calls
namespace Mine
section
variable {prog : Program} {w : World} {A : Around} {E : Value → Shared → Prop} {s : Shared} {env : Env} {h₀ : Heap} {x : Str} {px : Pos} {body : List Stmt} {Q : Flow → Shared → Prop}
theorem loopC_up {r : Addr} {a₀ b₀ : Int} {t₀ u₀ v₀ : Tok} {n : Nat} {m₀ : Str → Option Value} {news : List (Addr × Obj)} (J : Nat → (Str → Option Value) → List (Addr × Obj) → Prop)
    (hE : PassesOwn (model prog w) A env E) (hh : A.handled = none) (hr : IsRange s.heap r a₀ b₀ 1 t₀ u₀ v₀) (hsmall : Builtin.Range.small a₀ b₀ 1 = true) (hn : Builtin.Range.rangeSize a₀ b₀ 1 = (n : Int))
    (F : Fr h₀ env.locals s.heap m₀) (N : News h₀ env.locals s.heap news) (hj : J 0 m₀ news)
    (turn : ∀ i t m₁ news₁ I oI h tk, i < n → J i m₁ news₁ → (∀ p ∈ news₁, p.1 ≠ I) → Fr h₀ env.locals h m₁ → News h₀ env.locals h ((I, oI) :: news₁) →
      wpAny (model prog w) A (assign (.Name x px) env (.int (a₀ + (i : Int)) t)) (fun _ s₂ => wpAny (model prog w) A (execs body env) (TurnPost h₀ env.locals I oI (J (i + 1)) { s with heap := h, toks := tk } Q) E s₂) E { s with heap := h, toks := tk })
    (done : ∀ m₁ news₁ h tk, J n m₁ news₁ → Fr h₀ env.locals h m₁ → News h₀ env.locals h news₁ → Q .next { s with heap := h, toks := tk }) :
    wpAny (model prog w) A (pyIter (.ref r)) (fun it s₂ => LoopC prog w A env x px body Q E it s₂) E s := by
  refine wpAny_pyIter_range hr hsmall ?_
  have W : Walks prog w A s.heap.objs.size [s.heap.objs.size] [s.heap.objs.size] n (fun i v => i < n ∧ ∃ t, v = .int (a₀ + i * 1) t)
      (fun i h => IsRangeIter h s.heap.objs.size (a₀ + (i : Nat) * 1) ((n : Int) - (i : Nat)) 1) := (Walks.range hh _ a₀ 1 n).bound
  have hLI : env.locals ≠ s.heap.objs.size := Nat.ne_of_lt F.ns.lt
  have hI₀ : h₀.get? s.heap.objs.size = none := Heap.get?_none_of_le (Nat.le_trans F.above (Nat.le_of_lt F.ns.lt))
  have old : ∀ b o, h₀.get? b = some o → b ≠ s.heap.objs.size := fun b o e q => by rw [q, hI₀] at e; cases e
  unfold LoopC
  refine codeAny_forLoop (fun k s' => ∃ h' tk m' news' i, s' = { s with heap := h', toks := tk } ∧ IsRangeIter h' s.heap.objs.size (a₀ + (i : Nat) * 1) ((n : Int) - (i : Nat)) 1 ∧ Fr h₀ env.locals h' m' ∧ News h₀ env.locals h' news' ∧ (∀ p ∈ news', p.1 ≠ s.heap.objs.size) ∧ J i m' news' ∧ i ≤ n ∧ k = n + 1 - i) ?_ (n + 1)
    ⟨_, s.toks, m₀, news, 0, rfl, by show IsRangeIter _ _ _ _ _; rw [hn]; simpa using Heap.get?_push_size _ rfl, F.push _, fun p hp => ⟨Heap.get?_push_of_some _ (N p hp).1, (N p hp).2⟩, fun p hp e => absurd (Heap.lt_size (N p hp).1) (by rw [e]; exact Nat.lt_irrefl _), hj, Nat.zero_le _, rfl⟩
  rintro k s' ⟨h', tk, m', news', i, rfl, hst', F', N', hnI, hJ, hi, rfl⟩
  have next : ∀ h₁ : Heap, (∀ b o, b ∉ [s.heap.objs.size] → h'.get? b = some o → h₁.get? b = some o) → Fr h₀ env.locals h₁ m' ∧ News h₀ env.locals h₁ news' := fun h₁ hk₁ =>
    ⟨⟨F'.ns.at' fun o e => hk₁ _ o (by simpa using hLI) e, fun b o e => hk₁ b o (by simpa using old b o e) (F'.keep b o e), F'.above⟩, fun p hp => ⟨hk₁ _ _ (by simpa using hnI p hp) (N' p hp).1, (N' p hp).2⟩⟩
  by_cases hlt : i < n
  · refine W.item i _ _ _ hlt hst' fun v h₁ tk₁ hP hst₁ hk₁ => ?_
    obtain ⟨_, t, rfl⟩ := hP
    obtain ⟨F₁, N₁⟩ := next h₁ hk₁
    have e1 : a₀ + (i : Int) * 1 = a₀ + (i : Int) := by omega
    rw [e1]
    have N₂ : News h₀ env.locals h₁ ((s.heap.objs.size, _) :: news') := fun p hp => by
      rcases List.mem_cons.mp hp with rfl | hp
      · exact ⟨hst₁, Ne.symm hLI, hI₀⟩
      · exact N₁ p hp
    refine wpAny_passesOwn hE (wpAny_mono (turn i t m' news' _ _ h₁ tk₁ hlt hJ hnI F₁ N₂) (fun _ s₂ h₂ => wpAny_passesOwn hE (wpAny_mono h₂ (fun f s₃ h₃ => ?_) fun _ _ e => e)) fun _ _ e => e)
    cases f with
    | ret v => exact h₃
    | brk => exact h₃
    | cont => 
      obtain ⟨h₃', tk₃, m₂, news₂, rfl, F₃, N₃, ha₃, hJ₃⟩ := h₃
      exact ⟨n + 1 - (i + 1), by omega, h₃', tk₃, m₂, news₂, i + 1, rfl, (N₃ _ (.head _)).1, F₃, fun p hp => N₃ p (.tail _ hp), ha₃, hJ₃, hlt, rfl⟩
    | next =>
      obtain ⟨h₃', tk₃, m₂, news₂, rfl, F₃, N₃, ha₃, hJ₃⟩ := h₃
      exact ⟨n + 1 - (i + 1), by omega, h₃', tk₃, m₂, news₂, i + 1, rfl, (N₃ _ (.head _)).1, F₃, fun p hp => N₃ p (.tail _ hp), ha₃, hJ₃, hlt, rfl⟩
  · have hin : i = n := by omega
    subst hin
    refine W.done _ _ _ hst' fun h₁ tk₁ hk₁ => wpAny_execs_nil ?_
    obtain ⟨F₁, N₁⟩ := next h₁ hk₁
    exact done m' news' h₁ tk₁ hJ F₁ N₁
theorem loopC_list {ax : Addr} {its : Array Value} {c : Nat} {m₀ : Str → Option Value} {news : List (Addr × Obj)} (J : Nat → (Str → Option Value) → List (Addr × Obj) → Prop)
    (hE : PassesOwn (model prog w) A env E) (hh : A.handled = none) (hax : ∀ i m nw, J i m nw → (ax, ({ cls := .type "list", data := .seq its c } : Obj)) ∈ nw)
    (F : Fr h₀ env.locals s.heap m₀) (N : News h₀ env.locals s.heap news) (hj : J 0 m₀ news)
    (turn : ∀ i v m₁ news₁ I oI h tk, its[i]? = some v → J i m₁ news₁ → (∀ p ∈ news₁, p.1 ≠ I) → Fr h₀ env.locals h m₁ → News h₀ env.locals h ((I, oI) :: news₁) →
      wpAny (model prog w) A (assign (.Name x px) env v) (fun _ s₂ => wpAny (model prog w) A (execs body env) (TurnPost h₀ env.locals I oI (J (i + 1)) { s with heap := h, toks := tk } Q) E s₂) E { s with heap := h, toks := tk })
    (done : ∀ m₁ news₁ h tk, J its.size m₁ news₁ → Fr h₀ env.locals h m₁ → News h₀ env.locals h news₁ → Q .next { s with heap := h, toks := tk }) :
    wpAny (model prog w) A (pyIter (.ref ax)) (fun it s₂ => LoopC prog w A env x px body Q E it s₂) E s := by
  have hm := N _ (hax 0 _ _ hj)
  have hl : s.heap.IsList ax its := ⟨_, hm.1, rfl, _, rfl⟩
  have hltx : ax < s.heap.objs.size := Heap.lt_size hm.1
  refine wpAny_pyIter_list hl ?_
  have W := Walks.list (prog := prog) (w := w) (A := A) hh s.heap.objs.size ax (Nat.ne_of_lt hltx) its
  have hLI : env.locals ≠ s.heap.objs.size := Nat.ne_of_lt F.ns.lt
  have hI₀ : h₀.get? s.heap.objs.size = none := Heap.get?_none_of_le (Nat.le_trans F.above (Nat.le_of_lt F.ns.lt))
  have old : ∀ b o, h₀.get? b = some o → b ≠ s.heap.objs.size := fun b o e q => by rw [q, hI₀] at e; cases e
  unfold LoopC
  refine codeAny_forLoop (fun k s' => ∃ h' tk m' news' i, s' = { s with heap := h', toks := tk } ∧ (h'.IsListIter s.heap.objs.size ax i ∧ h'.IsList ax its) ∧ Fr h₀ env.locals h' m' ∧ News h₀ env.locals h' news' ∧ (∀ p ∈ news', p.1 ≠ s.heap.objs.size) ∧ J i m' news' ∧ i ≤ its.size ∧ k = its.size + 1 - i) ?_ (its.size + 1)
    ⟨_, s.toks, m₀, news, 0, rfl, ⟨⟨_, Heap.get?_push_size _ rfl, rfl, rfl⟩, hl.push _⟩, F.push _, fun p hp => ⟨Heap.get?_push_of_some _ (N p hp).1, (N p hp).2⟩, fun p hp e => absurd (Heap.lt_size (N p hp).1) (by rw [e]; exact Nat.lt_irrefl _), hj, Nat.zero_le _, rfl⟩
  rintro k s' ⟨h', tk, m', news', i, rfl, hst', F', N', hnI, hJ, hi, rfl⟩
  have next : ∀ h₁ : Heap, (∀ b o, b ∉ [s.heap.objs.size] → h'.get? b = some o → h₁.get? b = some o) → Fr h₀ env.locals h₁ m' ∧ News h₀ env.locals h₁ news' := fun h₁ hk₁ =>
    ⟨⟨F'.ns.at' fun o e => hk₁ _ o (by simpa using hLI) e, fun b o e => hk₁ b o (by simpa using old b o e) (F'.keep b o e), F'.above⟩, fun p hp => ⟨hk₁ _ _ (by simpa using hnI p hp) (N' p hp).1, (N' p hp).2⟩⟩
  by_cases hlt : i < its.size
  · refine W.item i _ _ _ hlt hst' fun v h₁ tk₁ hP hst₁ hk₁ => ?_
    obtain ⟨F₁, N₁⟩ := next h₁ hk₁
    obtain ⟨⟨oI, hoI, hcI, hdI⟩, hl₁⟩ := hst₁
    have N₂ : News h₀ env.locals h₁ ((s.heap.objs.size, oI) :: news') := fun p hp => by
      rcases List.mem_cons.mp hp with rfl | hp
      · exact ⟨hoI, Ne.symm hLI, hI₀⟩
      · exact N₁ p hp
    refine wpAny_passesOwn hE (wpAny_mono (turn i v m' news' _ _ h₁ tk₁ hP hJ hnI F₁ N₂) (fun _ s₂ h₂ => wpAny_passesOwn hE (wpAny_mono h₂ (fun f s₃ h₃ => ?_) fun _ _ e => e)) fun _ _ e => e)
    cases f with
    | ret v => exact h₃
    | brk => exact h₃
    | cont =>
      obtain ⟨h₃', tk₃, m₂, news₂, rfl, F₃, N₃, ha₃, hJ₃⟩ := h₃
      exact ⟨its.size + 1 - (i + 1), by omega, h₃', tk₃, m₂, news₂, i + 1, rfl, ⟨⟨oI, (N₃ _ (.head _)).1, hcI, hdI⟩, ⟨_, (N₃ _ (.tail _ (hax _ _ _ hJ₃))).1, rfl, _, rfl⟩⟩, F₃, fun p hp => N₃ p (.tail _ hp), ha₃, hJ₃, hlt, rfl⟩
    | next =>
      obtain ⟨h₃', tk₃, m₂, news₂, rfl, F₃, N₃, ha₃, hJ₃⟩ := h₃
      exact ⟨its.size + 1 - (i + 1), by omega, h₃', tk₃, m₂, news₂, i + 1, rfl, ⟨⟨oI, (N₃ _ (.head _)).1, hcI, hdI⟩, ⟨_, (N₃ _ (.tail _ (hax _ _ _ hJ₃))).1, rfl, _, rfl⟩⟩, F₃, fun p hp => N₃ p (.tail _ hp), ha₃, hJ₃, hlt, rfl⟩
  · have hin : i = its.size := by omega
    subst hin
    refine W.done _ _ _ hst' fun h₁ tk₁ hk₁ => wpAny_execs_nil ?_
    obtain ⟨F₁, N₁⟩ := next h₁ hk₁
    exact done m' news' h₁ tk₁ hJ F₁ N₁
end
end Mine
end
section
open PySem PySem.W PyProof.Rows PySem.Spec PySem.Calls
namespace Mine
local macro_rules | `(tactic| walk_at "none of these") => `(tactic| fail)
local macro_rules | `(tactic| walk_at "binaryOp Mult int int") => `(tactic| (k_here; (with_reducible refine PyProof.Rows.mul_int ?_ (by assumption))))
local macro_rules | `(tactic| walk_at "exec For") => `(tactic| (k_here; (refine for_C ?_)))
local macro_rules | `(tactic| walk_at "pyIter ref") => `(tactic| (k_here; (refine stop_of ?_)))
set_option maxRecDepth 100000 in
set_option maxHeartbeats 8000000 in
theorem law_for1 (w : World) {p : Program} {loose : List Str} {mean : ExcName → Option Value} {mg mb : Str → Option Value} {st : Stmt} {scope : Scope} (hP : lawStmt 6 = some (st, scope)) {pl : List Int} (hl2 : pl.length ≤ 15) {num : Nat} (hn : 1 ≤ num) (hn2 : num ≤ 24) {ws : List Value} {e : Nat} {D : Addr} {oP oN : Obj} {tn : Tok} (hI : IntsAre ws pl)
    {r : Nat} {tp tw tq : Tok} (hr : r < pl.length) (hall : ∀ q ∈ pl, 2 ≤ q ∧ q < 64)
    {dp un : Nat} {gd : Option (List Code)} {aL : Addr} {ccd : Value} {outer : List Env} {A₀ : Around} {base h₀ : Heap} {L : Addr} {m : Str → Option Value} {s : Shared} {Q : Flow → Shared → Prop} {E : Value → Shared → Prop} {tt : List (Addr × Obj)}
    (dP : oP.data = .cell (some (.ref D))) (dN : oN.data = .cell (some (.int (num : Int) tn)))
    (B : Below A₀ base outer h₀) (F : Fr h₀ L s.heap (fun y => if y = Str.ofString "ways" then some (.int 1 tw) else if y = Str.ofString "product" then some (.int 1 tq) else if y = Str.ofString "place" then some (.int (r : Int) tp) else m y)) (X : (hd.heap_39 w.params).In h₀) (N : News h₀ L s.heap ((D, W.listOf ws.toArray e) :: (L + 1 + 1, oP) :: (L + 1, oN) :: tt)) (T : Top p loose mean mg mb h₀) (hE : PassesOwn (model PySem.Challenge.rw_ie0004_01.row.toRowW.prog w) (ktrTop dp un gd (Str.ofString "law") scope L aL ccd [(Str.ofString "primes", L + 1 + 1), (Str.ofString "number", L + 1)] outer) (envX (Str.ofString "law") scope L aL ccd [(Str.ofString "primes", L + 1 + 1), (Str.ofString "number", L + 1)]) E) (hd : dp + 200 < recursionLimit) (hu : un + 200 < cLine)
    (hret : ∀ (m' : Str → Option Value) tq' h' tk', Fr h₀ L h' (fun y => if y = Str.ofString "ways" then some (.int 1 tw) else if y = Str.ofString "product" then some (.int ((pl.take r).foldl (· * ·) 1) tq') else if y = Str.ofString "place" then some (.int (r : Int) tp) else m' y) → News h₀ L h' ((D, W.listOf ws.toArray e) :: (L + 1 + 1, oP) :: (L + 1, oN) :: tt) → Q .next { s with heap := h', toks := tk' }) :
    wpAny (model PySem.Challenge.rw_ie0004_01.row.toRowW.prog w) (ktrTop dp un gd (Str.ofString "law") scope L aL ccd [(Str.ofString "primes", L + 1 + 1), (Str.ofString "number", L + 1)] outer) (exec st (envX (Str.ofString "law") scope L aL ccd [(Str.ofString "primes", L + 1 + 1), (Str.ofString "number", L + 1)])) Q E s := by
  w_top off
  conv at hP => lhs; whnf
  injection hP with hP; injection hP with hP1 hP2
  subst hP1 hP2
  revert X; k_fill; intro X
  have hwl : ws.length = pl.length := hI.length
  k_steps
  unfold Stop
  rename_i D7 ws7 h7 F7 N7 I7 C7 L7 l7
  have er : Int.toNat (r : Int) = r := Int.toNat_natCast r
  rw [er] at I7
  refine loopC_list (its := ws7.toArray) (c := 0) (fun i m₁ nw => nw = (D7, W.listOf ws7.toArray 0) :: (D, W.listOf ws.toArray e) :: (L + 1 + 1, oP) :: (L + 1, oN) :: tt ∧ ∃ t2, m₁ (Str.ofString "product") = some (.int (((pl.take r).take i).foldl (· * ·) 1) t2) ∧
    ∀ z, z ≠ Str.ofString "product" → z ≠ Str.ofString "prime" → m₁ z = frMap F7 z) hE (by rfl) ?hax F7 N7 ?hj ?turn ?done
  case hax => rintro i m' nw ⟨rfl, _⟩; exact .head _
  case hj => exact ⟨rfl, _, rfl, fun _ _ _ => rfl⟩
  case turn =>
    rintro i v m₁ nw I oI h9 tk9 hv ⟨rfl, t2, hp, hr9⟩ hoffI F9 N9
    obtain ⟨k, tk, rfl, hk'⟩ := IntsAre.at I7 i v (by simpa using hv)
    have Fn := fr_norm F9 (m' := fun y => if y = Str.ofString "product" then some (.int (((pl.take r).take i).foldl (· * ·) 1) t2) else if y = Str.ofString "prime" then m₁ y else frMap F7 y) (by
      intro y
      by_cases e1 : y = Str.ofString "product"
      · subst e1; rw [if_pos rfl]; exact hp
      · by_cases e2 : y = Str.ofString "prime"
        · rw [if_neg e1, if_pos e2]
        · rw [if_neg e1, if_neg e2]; exact hr9 y e1 e2)
    dsimp only [frMap] at Fn
    generalize hpr : ((pl.take r).take i).foldl (· * ·) 1 = pr9 at *
    clear F9 N7
    have hkb := hall k (List.mem_of_mem_take (List.mem_of_getElem? hk'))
    have hmul : PySem.IntMulOk pr9 k := PySem.IntMulOk.of_right (PySem.intBits_le_64 (by omega) (by omega))
    have e10 : ((pl.take r).take (i + 1)).foldl (· * ·) 1 = pr9 * k := by rw [List.take_add_one, hk', List.foldl_append, hpr]; rfl
    k_steps
    rename_i F10 N10
    show TurnEnd _ _ _ _ _ _ _
    refine ⟨_, _, _, _, rfl, F10, N10, hoffI, rfl, _, by rw [e10]; with_unfolding_all rfl, fun z z1 z2 => ?_⟩
    dsimp only [frMap]
    simp only [if_neg z1, if_neg z2]
  case done =>
    rintro m₁ nw h9 tk9 ⟨rfl, t2, hp, hr9⟩ F9 N9
    have e9 : (pl.take r).take ws7.toArray.size = pl.take r := List.take_of_length_le (by rw [List.size_toArray, I7.length]; exact Nat.le_refl _)
    rw [e9] at hp

    refine hret m₁ t2 h9 tk9 (fr_norm F9 fun y => ?_) fun q hq => N9 q (List.mem_cons_of_mem _ hq)
    by_cases e1 : y = Str.ofString "ways"
    · subst e1; rw [if_pos rfl]; exact hr9 _ (by decide) (by decide)
    · by_cases e2 : y = Str.ofString "product"
      · subst e2; rw [if_neg (by decide), if_pos rfl]; exact hp
      · by_cases e3 : y = Str.ofString "place"
        · subst e3; rw [if_neg (by decide), if_neg (by decide), if_pos rfl]; exact hr9 _ (by decide) (by decide)
        · rw [if_neg e1, if_neg e2, if_neg e3]
end Mine
end
section
open PySem PySem.W PyProof.Rows PySem.Spec PySem.Calls
namespace Mine
theorem bits_use {w : World} {p : Program} {loose : List Str} {mean : ExcName → Option Value} {mg mb : Str → Option Value} {a k : Nat} {ta tn : Tok} (hbk : Builtin.Int.intBits (a : Int) = k) (hk2 : k ≤ 60) (hak : a < 2 ^ k)
    {dp un : Nat} {gd : Option (List Code)} {cn : Str} {cs : Scope} {aL : Addr} {ccd : Value} {cl : List (Str × Addr)} {outer : List Env} {A₀ : Around} {base h₀ : Heap} {L : Addr} {m : Str → Option Value} {s : Shared} {Q E : Value → Shared → Prop} {t1 led keep : List (Addr × Obj)}
    (ht : TabS 57 79 4 Q1 t1) (hap : Apart t1 keep) (hs1 : ∀ p ∈ t1, p ∈ led) (hs2 : ∀ p ∈ keep, p ∈ led)
    (B : Below A₀ base outer h₀) (F : Fr h₀ L s.heap m) (X : (hd.heap_39 w.params).In h₀) (N : News h₀ L s.heap led) (T : Top p loose mean mg mb h₀) (C : CodeHd base 61 57) (hk : cs.kind = .function) (hd : dp + 70 < recursionLimit)
    (hret : ∀ D (ws : List Value) e t1' h' tk', TabS 57 79 4 Q1 t1' → ws.length = k → Fr h₀ L h' m → News h₀ L h' ((D, W.listOf ws.toArray e) :: (t1' ++ keep)) → (∀ p ∈ keep, p.1 < D) → Apart t1' ((D, W.listOf ws.toArray e) :: keep) → Q (.ref D) { s with heap := h', toks := tk' }) :
    wpAny (model PySem.Challenge.rw_ie0004_01.row.toRowW.prog w) (ktrTop dp un gd cn cs L aL ccd cl outer) (call (.ref 62) [.int (a : Int) ta, .int 1 tn]) Q E s := by
  have hlt : a < 2 ^ 60 := Nat.lt_of_lt_of_le hak (Nat.pow_le_pow_right (by decide) hk2)
  have h1 : Int.fdiv (((Builtin.Int.intBits (a : Int) : Nat) : Int) + ((1 : Nat) : Int) - 1) ((1 : Nat) : Int) = (k : Int) := by
    rw [hbk]
    have : ((k : Nat) : Int) + ((1 : Nat) : Int) - 1 = k := by omega
    rw [this, Int.fdiv_eq_ediv_of_nonneg _ (by decide)]
    show (k : Int) / 1 = k
    exact Int.ediv_one _
  refine int2digits_c w a 1 k ta tn hlt (by decide) (by decide) h1 (by omega) (by rw [Nat.one_mul]; exact hak) ht hap B F X (fun q hq => N q (by
    rcases List.mem_append.mp hq with hq | hq
    · exact hs1 q hq
    · exact hs2 q hq)) T C hk hd ?_
  intro D ws e t1' h' tk' x1 x2 x3 x4 x5 x6
  exact hret D ws e t1' h' tk' x1 (by rw [x2.length, dg_length]) x3 x4 x5 x6
end Mine
end
section
open PySem PySem.W PyProof.Rows PySem.Spec PySem.Calls
namespace Mine
local macro_rules | `(tactic| walk_at "none of these") => `(tactic| fail)
local macro_rules | `(tactic| walk_at "none of these") => `(tactic| fail)
theorem pow4 {prog : Program} {w : World} {A : Around} {E : Value → Shared → Prop} {s : Shared} {num : Nat} {t u : Tok} {Q : Value → Shared → Prop} (hn2 : num ≤ 24) (h : Q (.int ((4 ^ num : Nat) : Int) s.toks) { s with toks := s.toks + 1 }) : wpAny (model prog w) A (binaryOp .Pow (.int 4 t) (.int (num : Int) u)) Q E s := by
  refine PyProof.Rows.pow_int_small (by omega) (by omega) (by decide) ?_
  have h4 : (4 : Int) ^ Int.toNat (num : Int) = ((4 ^ num : Nat) : Int) := by rw [Int.toNat_natCast]; push_cast; rfl
  rw [h4]; exact h
local macro_rules | `(tactic| walk_at "call ref") => `(tactic| (k_here; (with_reducible show wpAny _ _ (call (Value.ref _) _) _ _ _); refine stop_of ?_))
local macro_rules | `(tactic| walk_at "binaryOp Pow int int") => `(tactic| (k_here; (with_reducible refine pow4 (by assumption) ?_)))
local macro_rules | `(tactic| walk_at "call builtin:len") => `(tactic| (k_here; (with_reducible show wpAny _ _ (call (Value.builtin "len") [Value.ref _]) _ _ _); k_dflt (refine' len_led ?N ?m ?v ?k ?_; (case N => k_asm); (case m => k_mem); (case v => assumption); (case k => omega); k_whole)))
set_option maxRecDepth 100000 in
set_option maxHeartbeats 8000000 in
theorem law_if3 (w : World) {p : Program} {loose : List Str} {mean : ExcName → Option Value} {mg mb : Str → Option Value} {st : Stmt} {scope : Scope} (hP : lawStmt 7 = some (st, scope)) {pl : List Int} (hl2 : pl.length ≤ 15) {num : Nat} (hn : 1 ≤ num) (hn2 : num ≤ 24) {ws : List Value} {e : Nat} {D : Addr} {oP oN : Obj} {tn : Tok} (hI : IntsAre ws pl)
    {pp r : Nat} {tp tw tq : Tok} (hp4 : pp < 4 ^ num) (hb1 : 1 ≤ Builtin.Int.intBits (pp : Int)) (hb2 : Builtin.Int.intBits (pp : Int) ≤ 2 * num) (hb3 : pp < 2 ^ Builtin.Int.intBits (pp : Int))
    {dp un : Nat} {gd : Option (List Code)} {aL : Addr} {ccd : Value} {outer : List Env} {A₀ : Around} {base h₀ : Heap} {L : Addr} {m : Str → Option Value} {s : Shared} {Q : Flow → Shared → Prop} {E : Value → Shared → Prop} {t1 t2 : List (Addr × Obj)}
    (dP : oP.data = .cell (some (.ref D))) (dN : oN.data = .cell (some (.int (num : Int) tn)))
    (B : Below A₀ base outer h₀) (F : Fr h₀ L s.heap (fun y => if y = Str.ofString "ways" then some (.int 1 tw) else if y = Str.ofString "product" then some (.int (pp : Int) tq) else if y = Str.ofString "place" then some (.int (r : Int) tp) else m y)) (X : (hd.heap_39 w.params).In h₀) (N : News h₀ L s.heap ((D, W.listOf ws.toArray e) :: (L + 1 + 1, oP) :: (L + 1, oN) :: (t1 ++ t2))) (T : Top p loose mean mg mb h₀) (C1 : CodeHd base 61 57) (ht1 : TabS 57 79 4 Q1 t1) (hap1 : Apart t1 ((D, W.listOf ws.toArray e) :: (L + 1 + 1, oP) :: (L + 1, oN) :: t2)) (hd : dp + 200 < recursionLimit) (hu : un + 200 < cLine)
    (hret : ∀ t1' h' tk', TabS 57 79 4 Q1 t1' → Apart t1' ((D, W.listOf ws.toArray e) :: (L + 1 + 1, oP) :: (L + 1, oN) :: t2) → Fr h₀ L h' (fun y => if y = Str.ofString "ways" then some (.int 1 tw) else if y = Str.ofString "product" then some (.int (pp : Int) tq) else if y = Str.ofString "place" then some (.int (r : Int) tp) else m y) → News h₀ L h' ((D, W.listOf ws.toArray e) :: (L + 1 + 1, oP) :: (L + 1, oN) :: (t1' ++ t2)) → Q .next { s with heap := h', toks := tk' }) :
    wpAny (model PySem.Challenge.rw_ie0004_01.row.toRowW.prog w) (ktrTop dp un gd (Str.ofString "law") scope L aL ccd [(Str.ofString "primes", L + 1 + 1), (Str.ofString "number", L + 1)] outer) (exec st (envX (Str.ofString "law") scope L aL ccd [(Str.ofString "primes", L + 1 + 1), (Str.ofString "number", L + 1)])) Q E s := by
  w_top off
  conv at hP => lhs; whnf
  injection hP with hP; injection hP with hP1 hP2
  subst hP1 hP2
  revert X; k_fill; intro X
  have hwl : ws.length = pl.length := hI.length
  have hb2' : Builtin.Int.intBits (pp : Int) ≤ 60 := by omega
  have hp4' : (pp : Int) < ((4 ^ num : Nat) : Int) := by exact_mod_cast hp4
  k_steps
  unfold Stop
  refine bits_use (t1 := t1) (keep := ((D, W.listOf ws.toArray e) :: (L + 1 + 1, oP) :: (L + 1, oN) :: t2)) rfl hb2' hb3 ht1 hap1 (fun q hq => by simp [hq]) (fun q hq => by simp only [List.mem_cons, List.mem_append] at hq ⊢; rcases hq with h | h | h | h <;> simp [h]) (by k_asm) (by k_asm) (by k_asm) N (by k_asm) C1 rfl (by ktr_room) ?_
  intro D9 ws9 e9 t1a h9 tk9 hta hl9 F9 N9 lt9 ap9
  have hb3' : Stop (pp < 2 ^ Builtin.Int.intBits (pp : Int)) := hb3
  have hbk : Stop (∃ kb, kb = Builtin.Int.intBits (pp : Int)) := ⟨_, rfl⟩
  have N9' : News h₀ L h9 ((D9, W.listOf ws9.toArray e9) :: (D, W.listOf ws.toArray e) :: (L + 1 + 1, oP) :: (L + 1, oN) :: (t1a ++ t2)) := fun q hq => N9 q (by
    simp only [List.mem_cons, List.mem_append] at hq ⊢
    rcases hq with h | h | h | h | h | h <;> simp [h])
  clear N N9 hp4 hp4' hb3
  generalize hkb : Builtin.Int.intBits (pp : Int) = kb at hb1 hb2 hb2' hl9
  k_steps
  all_goals try (exfalso; omega)
  unfold Stop
  have apa : Apart t1a ((D, W.listOf ws.toArray e) :: (L + 1 + 1, oP) :: (L + 1, oN) :: t2) := fun q hq q' hq' => ap9 q hq q' (List.mem_cons_of_mem _ hq')
  refine bits_use (t1 := t1a) (keep := ((D, W.listOf ws.toArray e) :: (L + 1 + 1, oP) :: (L + 1, oN) :: t2)) hkb hb2' (hkb ▸ hb3') hta apa (fun q hq => by simp [hq]) (fun q hq => by simp only [List.mem_cons, List.mem_append] at hq ⊢; rcases hq with h | h | h | h <;> simp [h]) (by k_asm) (by k_asm) (by k_asm) N9' (by k_asm) C1 rfl (by ktr_room) ?_
  intro D10 ws10 e10 t1b h10 tk10 htb hl10 F10 N10 lt10 ap10
  have N10' : News h₀ L h10 ((D10, W.listOf ws10.toArray e10) :: (D, W.listOf ws.toArray e) :: (L + 1 + 1, oP) :: (L + 1, oN) :: (t1b ++ t2)) := fun q hq => N10 q (by
    simp only [List.mem_cons, List.mem_append] at hq ⊢
    rcases hq with h | h | h | h | h | h <;> simp [h])
  clear N9' N10
  k_steps
  all_goals try (exfalso; omega)
  refine hret t1b _ _ htb (fun q hq q' hq' => ap10 q hq q' (List.mem_cons_of_mem _ hq')) F10 fun q hq => N10' q (List.mem_cons_of_mem _ hq)
end Mine
end
section
open PySem PySem.W PyProof.Rows
namespace Mine
/-- the ways after i turns: choose i out of 2 * num -/
def wy (num : Nat) : Nat → Nat
  | 0 => 1
  | i + 1 => wy num i * (2 * num - i) / (i + 1)
theorem wy_step {num i : Nat} (h : i < num) : Int.fdiv ((wy num i : Int) * (2 * (num : Int) - (i : Int))) ((i : Int) + 1) = (wy num (i + 1) : Int) := by
  have e1 : (2 * (num : Int) - (i : Int)) = ((2 * num - i : Nat) : Int) := by omega
  have e2 : (i : Int) + 1 = ((i + 1 : Nat) : Int) := by push_cast; rfl
  rw [e1, e2, Int.fdiv_eq_ediv_of_nonneg _ (by omega), wy]
  push_cast
  rfl
theorem oft_le (p : Nat) : ∀ k n, oft p k n ≤ k
  | 0, _ => Nat.le_refl _
  | k + 1, n => by
    rw [oft]
    split
    · exact Nat.succ_le_succ (oft_le p k _)
    · exact Nat.zero_le _
end Mine
end
section
open PySem PySem.W PyProof.Rows PySem.Spec PySem.Calls
namespace Mine
local macro_rules | `(tactic| walk_at "none of these") => `(tactic| fail)
local macro_rules | `(tactic| walk_at "none of these") => `(tactic| fail)
local macro_rules | `(tactic| walk_at "exec For") => `(tactic| (k_here; (refine for_C ?_)))
local macro_rules | `(tactic| walk_at "exec For Name Call cons nil") => `(tactic| (k_here; (refine for_C ?_)))
local macro_rules | `(tactic| walk_at "pyIter ref") => `(tactic| (k_here; (refine stop_of ?_)))
local macro_rules | `(tactic| walk_at "binaryOp Mult int int") => `(tactic| (k_here; (with_reducible refine PyProof.Rows.mul_int ?_ (by assumption))))
set_option maxRecDepth 100000 in
set_option maxHeartbeats 8000000 in
theorem law_for2 (w : World) {p : Program} {loose : List Str} {mean : ExcName → Option Value} {mg mb : Str → Option Value} {st : Stmt} {scope : Scope} (hP : lawStmt 8 = some (st, scope)) {pl : List Int} (hl2 : pl.length ≤ 15) {num : Nat} (hn : 1 ≤ num) (hn2 : num ≤ 24) {ws : List Value} {e : Nat} {D : Addr} {oP oN : Obj} {tn : Tok} (hI : IntsAre ws pl)
    {pp : Int} {r : Nat} {tp tw tq : Tok}
    {dp un : Nat} {gd : Option (List Code)} {aL : Addr} {ccd : Value} {outer : List Env} {A₀ : Around} {base h₀ : Heap} {L : Addr} {m : Str → Option Value} {s : Shared} {Q : Flow → Shared → Prop} {E : Value → Shared → Prop} {tt : List (Addr × Obj)}
    (dP : oP.data = .cell (some (.ref D))) (dN : oN.data = .cell (some (.int (num : Int) tn)))
    (B : Below A₀ base outer h₀) (F : Fr h₀ L s.heap (fun y => if y = Str.ofString "ways" then some (.int 1 tw) else if y = Str.ofString "product" then some (.int pp tq) else if y = Str.ofString "place" then some (.int (r : Int) tp) else m y)) (X : (hd.heap_39 w.params).In h₀) (N : News h₀ L s.heap ((D, W.listOf ws.toArray e) :: (L + 1 + 1, oP) :: (L + 1, oN) :: tt)) (T : Top p loose mean mg mb h₀) (hE : PassesOwn (model PySem.Challenge.rw_ie0004_01.row.toRowW.prog w) (ktrTop dp un gd (Str.ofString "law") scope L aL ccd [(Str.ofString "primes", L + 1 + 1), (Str.ofString "number", L + 1)] outer) (envX (Str.ofString "law") scope L aL ccd [(Str.ofString "primes", L + 1 + 1), (Str.ofString "number", L + 1)]) E) (hd : dp + 200 < recursionLimit) (hu : un + 200 < cLine)
    (hret : ∀ (m' : Str → Option Value) tw' h' tk', Fr h₀ L h' (fun y => if y = Str.ofString "ways" then some (.int (wy num num : Int) tw') else if y = Str.ofString "place" then some (.int (r : Int) tp) else m' y) → News h₀ L h' ((D, W.listOf ws.toArray e) :: (L + 1 + 1, oP) :: (L + 1, oN) :: tt) → Q .next { s with heap := h', toks := tk' }) :
    wpAny (model PySem.Challenge.rw_ie0004_01.row.toRowW.prog w) (ktrTop dp un gd (Str.ofString "law") scope L aL ccd [(Str.ofString "primes", L + 1 + 1), (Str.ofString "number", L + 1)] outer) (exec st (envX (Str.ofString "law") scope L aL ccd [(Str.ofString "primes", L + 1 + 1), (Str.ofString "number", L + 1)])) Q E s := by
  w_top off
  conv at hP => lhs; whnf
  injection hP with hP; injection hP with hP1 hP2
  subst hP1 hP2
  revert X; k_fill; intro X
  have hwl : ws.length = pl.length := hI.length
  refine for_C ?_
  k_steps
  unfold Stop
  rename_i h7 tk7 ta7 ua7 va7 hr7 F7 N7 hk7
  refine loopC_up (n := num) (fun i m₁ nw => nw = (D, W.listOf ws.toArray e) :: (L + 1 + 1, oP) :: (L + 1, oN) :: tt ∧ ∃ t2, m₁ (Str.ofString "ways") = some (.int (wy num i : Int) t2) ∧
    ∀ z, z ≠ Str.ofString "ways" → z ≠ Str.ofString "k" → m₁ z = frMap F7 z) hE (by rfl) hr7 ?hsm ?hn F7 N7 ?hj ?turn ?done
  case hsm => exact small_one (by omega) (by omega) (by omega) (by omega)
  case hn => first | exact rangeSize_nat _ _ | (rw [rangeSize_nat]; omega)
  case hj => exact ⟨rfl, _, rfl, fun _ _ _ => rfl⟩
  case turn =>
    rintro i t m₁ nw I oI h9 tk9 hi ⟨rfl, t2, hp, hr9⟩ hoffI F9 N9
    have Fn := fr_norm F9 (m' := fun y => if y = Str.ofString "ways" then some (.int (wy num i : Int) t2) else if y = Str.ofString "k" then m₁ y else frMap F7 y) (by
      intro y
      by_cases e1 : y = Str.ofString "ways"
      · subst e1; rw [if_pos rfl]; exact hp
      · by_cases e2 : y = Str.ofString "k"
        · rw [if_neg e1, if_pos e2]
        · rw [if_neg e1, if_neg e2]; exact hr9 y e1 e2)
    dsimp only [frMap] at Fn
    have e10 := wy_step hi
    generalize hpr : wy num i = w9 at *
    clear F9 N7
    have hmul : PySem.IntMulOk (w9 : Int) (2 * (num : Int) - (i : Int)) := PySem.IntMulOk.of_right (PySem.intBits_le_64 (by omega) (by omega))
    rw [Int.zero_add]
    k_steps
    rename_i F10 N10
    show TurnEnd _ _ _ _ _ _ _
    refine ⟨_, _, _, _, rfl, F10, N10, hoffI, rfl, _, by rw [← e10]; with_unfolding_all rfl, fun z z1 z2 => ?_⟩
    dsimp only [frMap]
    simp only [if_neg z1, if_neg z2]
  case done =>
    rintro m₁ nw h9 tk9 ⟨rfl, t2, hp, hr9⟩ F9 N9
    refine hret m₁ t2 h9 tk9 (fr_norm F9 fun y => ?_) N9
    by_cases e1 : y = Str.ofString "ways"
    · subst e1; rw [if_pos rfl]; exact hp
    · by_cases e3 : y = Str.ofString "place"
      · subst e3; rw [if_neg (by decide), if_pos rfl]; exact hr9 _ (by decide) (by decide)
      · rw [if_neg e1, if_neg e3]
end Mine
end
section
open PySem PySem.W PyProof.Rows PySem.Spec PySem.Calls
namespace Mine
local macro_rules | `(tactic| walk_at "none of these") => `(tactic| fail)
local macro_rules | `(tactic| walk_at "call ref") => `(tactic| (k_here; (with_reducible show wpAny _ _ (call (Value.ref _) _) _ _ _); refine stop_of ?_))
local macro_rules | `(tactic| walk_at "binaryOp Pow int int") => `(tactic| (k_here; (with_reducible refine pow4 (by assumption) ?_)))
local macro_rules | `(tactic| walk_at "binaryOp Mult int int") => `(tactic| (k_here; (with_reducible refine PyProof.Rows.mul_int ?_ (by assumption))))
local macro_rules | `(tactic| walk_at "call builtin:len") => `(tactic| (k_here; (with_reducible show wpAny _ _ (call (Value.builtin "len") [Value.ref _]) _ _ _); k_dflt (refine' len_led ?N ?m ?v ?k ?_; (case N => k_asm); (case m => k_mem); (case v => assumption); (case k => omega); k_whole)))
set_option maxRecDepth 100000 in
set_option maxHeartbeats 8000000 in
theorem law_if4 (w : World) {p : Program} {loose : List Str} {mean : ExcName → Option Value} {mg mb : Str → Option Value} {st : Stmt} {scope : Scope} (hP : lawStmt 9 = some (st, scope)) {pl : List Int} (hl2 : pl.length ≤ 15) {num : Nat} (hn : 1 ≤ num) (hn2 : num ≤ 24) {ws : List Value} {e : Nat} {D : Addr} {oP oN : Obj} {tn : Tok} (hI : IntsAre ws pl)
    {wv r : Nat} {tp tw : Tok} (hw : 4 ^ num ≤ wv * 2 * num) (hb1 : Builtin.Int.intBits ((4 ^ num : Nat) : Int) = 2 * num + 1) (hb3 : 4 ^ num < 2 ^ (2 * num + 1))
    {dp un : Nat} {gd : Option (List Code)} {aL : Addr} {ccd : Value} {outer : List Env} {A₀ : Around} {base h₀ : Heap} {L : Addr} {m : Str → Option Value} {s : Shared} {Q : Flow → Shared → Prop} {E : Value → Shared → Prop} {t1 t2 : List (Addr × Obj)}
    (dP : oP.data = .cell (some (.ref D))) (dN : oN.data = .cell (some (.int (num : Int) tn)))
    (B : Below A₀ base outer h₀) (F : Fr h₀ L s.heap (fun y => if y = Str.ofString "ways" then some (.int (wv : Int) tw) else if y = Str.ofString "place" then some (.int (r : Int) tp) else m y)) (X : (hd.heap_39 w.params).In h₀) (N : News h₀ L s.heap ((D, W.listOf ws.toArray e) :: (L + 1 + 1, oP) :: (L + 1, oN) :: (t1 ++ t2))) (T : Top p loose mean mg mb h₀) (C1 : CodeHd base 61 57) (ht1 : TabS 57 79 4 Q1 t1) (hap1 : Apart t1 ((D, W.listOf ws.toArray e) :: (L + 1 + 1, oP) :: (L + 1, oN) :: t2)) (hd : dp + 200 < recursionLimit) (hu : un + 200 < cLine)
    (hret : ∀ t1' h' tk', TabS 57 79 4 Q1 t1' → Apart t1' ((D, W.listOf ws.toArray e) :: (L + 1 + 1, oP) :: (L + 1, oN) :: t2) → Fr h₀ L h' (fun y => if y = Str.ofString "ways" then some (.int (wv : Int) tw) else if y = Str.ofString "place" then some (.int (r : Int) tp) else m y) → News h₀ L h' ((D, W.listOf ws.toArray e) :: (L + 1 + 1, oP) :: (L + 1, oN) :: (t1' ++ t2)) → Q .next { s with heap := h', toks := tk' }) :
    wpAny (model PySem.Challenge.rw_ie0004_01.row.toRowW.prog w) (ktrTop dp un gd (Str.ofString "law") scope L aL ccd [(Str.ofString "primes", L + 1 + 1), (Str.ofString "number", L + 1)] outer) (exec st (envX (Str.ofString "law") scope L aL ccd [(Str.ofString "primes", L + 1 + 1), (Str.ofString "number", L + 1)])) Q E s := by
  w_top off
  conv at hP => lhs; whnf
  injection hP with hP; injection hP with hP1 hP2
  subst hP1 hP2
  revert X; k_fill; intro X
  have hwl : ws.length = pl.length := hI.length
  have hb2' : 2 * num + 1 ≤ 60 := by omega
  have hm1 : PySem.IntMulOk (wv : Int) 2 := PySem.IntMulOk.of_right (PySem.intBits_le_64 (by omega) (by omega))
  have hm2 : PySem.IntMulOk ((wv : Int) * 2) (num : Int) := PySem.IntMulOk.of_right (PySem.intBits_le_64 (by omega) (by omega))
  have hw' : ¬ (wv : Int) * 2 * (num : Int) < ((4 ^ num : Nat) : Int) := by
    rw [Int.not_lt]; exact_mod_cast hw
  k_steps
  all_goals try contradiction
  unfold Stop
  refine bits_use (t1 := t1) (keep := ((D, W.listOf ws.toArray e) :: (L + 1 + 1, oP) :: (L + 1, oN) :: t2)) hb1 hb2' hb3 ht1 hap1 (fun q hq => by simp [hq]) (fun q hq => by simp only [List.mem_cons, List.mem_append] at hq ⊢; rcases hq with h | h | h | h <;> simp [h]) (by k_asm) (by k_asm) (by k_asm) N (by k_asm) C1 rfl (by ktr_room) ?_
  intro D10 ws10 e10 t1b h10 tk10 htb hl10 F10 N10 lt10 ap10
  have N10' : News h₀ L h10 ((D10, W.listOf ws10.toArray e10) :: (D, W.listOf ws.toArray e) :: (L + 1 + 1, oP) :: (L + 1, oN) :: (t1b ++ t2)) := fun q hq => N10 q (by
    simp only [List.mem_cons, List.mem_append] at hq ⊢
    rcases hq with h | h | h | h | h | h <;> simp [h])
  clear N N10 hw hw' hb1 hb3
  k_steps
  all_goals try (exfalso; omega)
  refine hret t1b _ _ htb (fun q hq q' hq' => ap10 q hq q' (List.mem_cons_of_mem _ hq')) F10 fun q hq => N10' q (List.mem_cons_of_mem _ hq)
end Mine
end
section
open PySem PySem.W PyProof.Rows PySem.Spec PySem.Calls
namespace Mine
local macro_rules | `(tactic| walk_at "none of these") => `(tactic| fail)
local macro_rules | `(tactic| walk_at "none of these") => `(tactic| fail)
theorem powq {prog : Program} {w : World} {A : Around} {E : Value → Shared → Prop} {s : Shared} {q f pw : Nat} {t u : Tok} {Q : Value → Shared → Prop} (hq : q < 64) (hf : f ≤ 90) (hp : q ^ f = pw) (h : Q (.int (pw : Int) s.toks) { s with toks := s.toks + 1 }) : wpAny (model prog w) A (binaryOp .Pow (.int (q : Int) t) (.int (f : Int) u)) Q E s := by
  refine PyProof.Rows.pow_int_small (by omega) (by omega) (by omega) ?_
  have h4 : (q : Int) ^ Int.toNat (f : Int) = (pw : Int) := by rw [Int.toNat_natCast, ← hp]; push_cast; rfl
  rw [h4]; exact h
local macro_rules | `(tactic| walk_at "exec For") => `(tactic| (k_here; (refine for_C ?_)))
local macro_rules | `(tactic| walk_at "pyIter ref") => `(tactic| (k_here; (refine stop_of ?_)))
local macro_rules | `(tactic| walk_at "call ref") => `(tactic| (k_here; (with_reducible show wpAny _ _ (call (Value.ref _) _) _ _ _); refine stop_of ?_))
local macro_rules | `(tactic| walk_at "binaryOp Pow int int") => `(tactic| (k_here; (with_reducible refine powq (by assumption) (by assumption) (by assumption) ?_)))
set_option maxRecDepth 100000 in
set_option maxHeartbeats 8000000 in
theorem law_for3 (w : World) {p : Program} {loose : List Str} {mean : ExcName → Option Value} {mg mb : Str → Option Value} {st : Stmt} {scope : Scope} (hP : lawStmt 10 = some (st, scope)) {pl : List Int} (hl2 : pl.length ≤ 15) {num : Nat} (hn : 1 ≤ num) (hn2 : num ≤ 24) {ws : List Value} {e : Nat} {D : Addr} {oP oN : Obj} {tn : Tok} (hI : IntsAre ws pl)
    {wv r : Nat} {tp tw : Tok} (hall : ∀ k ∈ pl, ∃ q : Nat, k = (q : Int) ∧ 1 < q ∧ q < 64 ∧ q ^ oft q 90 wv ≤ 2 * num ∧ (num < q → oft q 90 wv = 1) ∧ (2 < q → q ≤ num → 2 * num < 3 * q → oft q 90 wv = 0))
    {dp un : Nat} {gd : Option (List Code)} {aL : Addr} {ccd : Value} {outer : List Env} {A₀ : Around} {base h₀ : Heap} {L : Addr} {m : Str → Option Value} {s : Shared} {Q : Flow → Shared → Prop} {E : Value → Shared → Prop} {tt : List (Addr × Obj)}
    (dP : oP.data = .cell (some (.ref D))) (dN : oN.data = .cell (some (.int (num : Int) tn)))
    (B : Below A₀ base outer h₀) (F : Fr h₀ L s.heap (fun y => if y = Str.ofString "ways" then some (.int (wv : Int) tw) else if y = Str.ofString "place" then some (.int (r : Int) tp) else m y)) (X : (hd.heap_39 w.params).In h₀) (N : News h₀ L s.heap ((D, W.listOf ws.toArray e) :: (L + 1 + 1, oP) :: (L + 1, oN) :: tt)) (T : Top p loose mean mg mb h₀) (hE : PassesOwn (model PySem.Challenge.rw_ie0004_01.row.toRowW.prog w) (ktrTop dp un gd (Str.ofString "law") scope L aL ccd [(Str.ofString "primes", L + 1 + 1), (Str.ofString "number", L + 1)] outer) (envX (Str.ofString "law") scope L aL ccd [(Str.ofString "primes", L + 1 + 1), (Str.ofString "number", L + 1)]) E) (hd : dp + 200 < recursionLimit) (hu : un + 200 < cLine)
    (hret : ∀ (m' : Str → Option Value) h' tk', Fr h₀ L h' (fun y => if y = Str.ofString "ways" then some (.int (wv : Int) tw) else if y = Str.ofString "place" then some (.int (r : Int) tp) else m' y) → News h₀ L h' ((D, W.listOf ws.toArray e) :: (L + 1 + 1, oP) :: (L + 1, oN) :: tt) → Q .next { s with heap := h', toks := tk' }) :
    wpAny (model PySem.Challenge.rw_ie0004_01.row.toRowW.prog w) (ktrTop dp un gd (Str.ofString "law") scope L aL ccd [(Str.ofString "primes", L + 1 + 1), (Str.ofString "number", L + 1)] outer) (exec st (envX (Str.ofString "law") scope L aL ccd [(Str.ofString "primes", L + 1 + 1), (Str.ofString "number", L + 1)])) Q E s := by
  w_top off
  conv at hP => lhs; whnf
  injection hP with hP; injection hP with hP1 hP2
  subst hP1 hP2
  revert X; k_fill; intro X
  have hwl : ws.length = pl.length := hI.length
  refine for_C ?_
  k_steps
  unfold Stop
  refine loopC_list (its := ws.toArray) (c := e) (fun i m₁ nw => nw = (D, W.listOf ws.toArray e) :: (L + 1 + 1, oP) :: (L + 1, oN) :: tt ∧
    ∀ z, z ≠ Str.ofString "prime" → z ≠ Str.ofString "often" → m₁ z = frMap F z) hE (by rfl) ?hax F N ?hj ?turn ?done
  case hax => rintro i m' nw ⟨rfl, _⟩; exact .head _
  case hj => exact ⟨rfl, fun _ _ _ => rfl⟩
  case turn =>
    rintro i v m₁ nw I oI h9 tk9 hv ⟨rfl, hr9⟩ hoffI F9 N9
    obtain ⟨k, tk, rfl, hk'⟩ := IntsAre.at hI i v (by simpa using hv)
    obtain ⟨q, rfl, hq1, hq2, hq3, hq4, hq5⟩ := hall k (List.mem_of_getElem? hk')
    have Fn := fr_norm F9 (m' := fun y => if y = Str.ofString "prime" then m₁ y else if y = Str.ofString "often" then m₁ y else frMap F y) (by
      intro y
      by_cases e1 : y = Str.ofString "prime"
      · rw [if_pos e1]
      · by_cases e2 : y = Str.ofString "often"
        · rw [if_neg e1, if_pos e2]
        · rw [if_neg e1, if_neg e2]; exact hr9 y e1 e2)
    dsimp only [frMap] at Fn
    clear F9 N
    k_steps
    unfold Stop
    refine law_often_c w (by omega) (by omega) (by k_asm) (by k_asm) (by k_asm) (by k_asm) (by k_asm) rfl (by ktr_room) ?_
    intro t5 h5 tk5 F5 N5
    have hf := oft_le q 90 wv
    generalize oft q 90 wv = f at *
    generalize hpw : q ^ f = pw at *
    k_steps
    all_goals try (exfalso; omega)
    all_goals rename Fr _ _ _ _ => F10
    all_goals rename News _ _ _ _ => N10
    all_goals show TurnEnd _ _ _ _ _ _ _
    all_goals refine ⟨_, _, _, _, rfl, F10, N10, hoffI, rfl, fun z z1 z2 => ?_⟩
    all_goals dsimp only [frMap]
    all_goals simp only [if_neg z1, if_neg z2]
  case done =>
    rintro m₁ nw h9 tk9 ⟨rfl, hr9⟩ F9 N9
    refine hret m₁ h9 tk9 (fr_norm F9 fun y => ?_) N9
    by_cases e1 : y = Str.ofString "ways"
    · subst e1; rw [if_pos rfl]; exact hr9 _ (by decide) (by decide)
    · by_cases e3 : y = Str.ofString "place"
      · subst e3; rw [if_neg (by decide), if_pos rfl]; exact hr9 _ (by decide) (by decide)
      · rw [if_neg e1, if_neg e3]
end Mine
end
section
open PySem PySem.W PyProof.Rows PySem.Spec PySem.Calls
namespace Mine
local macro_rules | `(tactic| walk_at "none of these") => `(tactic| fail)
local macro_rules | `(tactic| walk_at "eval ListComp") => `(tactic| (k_here; k_dflt (refine LCt.ListComp_T (F₀ := by k_asm) (by with_unfolding_all rfl) (by decide) (by rfl) (by decide) (by rfl) ?_)))
local macro_rules | `(tactic| walk_at "CompSrcT") => `(tactic| (k_here; refine stop_of ?_))
local macro_rules | `(tactic| walk_at "CompEnd") => `(tactic| (k_here; refine stop_of ?_))
set_option maxRecDepth 100000 in
set_option maxHeartbeats 8000000 in
theorem law_if5 (w : World) {p : Program} {loose : List Str} {mean : ExcName → Option Value} {mg mb : Str → Option Value} {st : Stmt} {scope : Scope} (hP : lawStmt 11 = some (st, scope)) {pl : List Int} (hl2 : pl.length ≤ 15) {num : Nat} (hn : 1 ≤ num) (hn2 : num ≤ 24) {ws : List Value} {e : Nat} {D : Addr} {oP oN : Obj} {tn : Tok} (hI : IntsAre ws pl)
    (hno : ∀ k ∈ pl, 2 < k → k + 1 ∉ pl)
    {dp un : Nat} {gd : Option (List Code)} {aL : Addr} {ccd : Value} {outer : List Env} {A₀ : Around} {base h₀ : Heap} {L : Addr} {m : Str → Option Value} {s : Shared} {Q : Flow → Shared → Prop} {E : Value → Shared → Prop} {tt : List (Addr × Obj)}
    (dP : oP.data = .cell (some (.ref D))) (dN : oN.data = .cell (some (.int (num : Int) tn)))
    (B : Below A₀ base outer h₀) (F : Fr h₀ L s.heap m) (X : (hd.heap_39 w.params).In h₀) (N : News h₀ L s.heap ((D, W.listOf ws.toArray e) :: (L + 1 + 1, oP) :: (L + 1, oN) :: tt)) (T : Top p loose mean mg mb h₀) (hd : dp + 200 < recursionLimit) (hu : un + 200 < cLine)
    (hret : ∀ h' tk', Fr h₀ L h' m → News h₀ L h' ((D, W.listOf ws.toArray e) :: (L + 1 + 1, oP) :: (L + 1, oN) :: tt) → Q .next { s with heap := h', toks := tk' }) :
    wpAny (model PySem.Challenge.rw_ie0004_01.row.toRowW.prog w) (ktrTop dp un gd (Str.ofString "law") scope L aL ccd [(Str.ofString "primes", L + 1 + 1), (Str.ofString "number", L + 1)] outer) (exec st (envX (Str.ofString "law") scope L aL ccd [(Str.ofString "primes", L + 1 + 1), (Str.ofString "number", L + 1)])) Q E s := by
  w_top off
  conv at hP => lhs; whnf
  injection hP with hP; injection hP with hP1 hP2
  subst hP1 hP2
  revert X; k_fill; intro X
  have hwl : ws.length = pl.length := hI.length
  k_steps
  unfold Stop
  refine LCt.CompSrcT.ledger (its := ws.toArray) (k := e) (by rfl) (by k_asm) N (.head _) (by rw [PySem.sizeLine_eq, List.size_toArray]; omega) ?_
  intro g'
  refine comp_listT (fun i ys nw => nw = (D, W.listOf ws.toArray e) :: (L + 1 + 1, oP) :: (L + 1, oN) :: tt ∧ ys = []) ?cj ?cturn ?cfin
  case cj => exact ⟨rfl, rfl⟩
  case cturn =>
    rintro i v I oI C oC D' m2 ys nw h9 tk9 E9 hv ⟨rfl, rfl⟩ hC hx F9 N9 off ne
    obtain ⟨k, tk, rfl, hk'⟩ := IntsAre.at hI i v hv
    have hk2 := hno k (List.mem_of_getElem? hk')
    clear N
    k_steps
    · rename_i h2 _ _ hany
      obtain ⟨y, hy, hyk⟩ := List.any_eq_true.mp hany
      exact absurd ((beq_iff_eq.mp hyk) ▸ hy) (hk2 h2)
    · unfold Stop
      exact LCg.CompEnd.intro (by assumption) N9 _ (fun q hq => hq) off (.inr ⟨_, .head _, rfl, _, rfl⟩) ⟨rfl, rfl⟩
    · unfold Stop
      exact LCg.CompEnd.intro (by assumption) N9 _ (fun q hq => hq) off (.inr ⟨_, .head _, rfl, _, rfl⟩) ⟨rfl, rfl⟩
  case cfin =>
    rintro ys nw ⟨rfl, rfl⟩
    clear N
    k_steps
    rename News _ _ _ _ => N7
    exact hret _ _ (by assumption) fun q hq => N7 q (List.mem_cons_of_mem _ (List.mem_cons_of_mem _ hq))
end Mine
end
section
open PySem PySem.W PyProof.Rows PySem.Spec PySem.Calls
namespace Mine
local macro_rules | `(tactic| walk_at "none of these") => `(tactic| fail)
set_option maxRecDepth 100000 in
set_option maxHeartbeats 8000000 in
theorem law_ret (w : World) {p : Program} {loose : List Str} {mean : ExcName → Option Value} {mg mb : Str → Option Value} {st : Stmt} {scope : Scope} (hP : lawStmt 12 = some (st, scope)) {pl : List Int} (hl2 : pl.length ≤ 15) {num : Nat} (hn : 1 ≤ num) (hn2 : num ≤ 24) {ws : List Value} {e : Nat} {D : Addr} {oP oN : Obj} {tn : Tok} (hI : IntsAre ws pl)
    {wv r : Nat} {tp tw : Tok} (hr2 : 2 * r ≤ num + 2)
    {dp un : Nat} {gd : Option (List Code)} {aL : Addr} {ccd : Value} {outer : List Env} {A₀ : Around} {base h₀ : Heap} {L : Addr} {m : Str → Option Value} {s : Shared} {Q : Flow → Shared → Prop} {E : Value → Shared → Prop} {tt : List (Addr × Obj)}
    (dP : oP.data = .cell (some (.ref D))) (dN : oN.data = .cell (some (.int (num : Int) tn)))
    (B : Below A₀ base outer h₀) (F : Fr h₀ L s.heap (fun y => if y = Str.ofString "ways" then some (.int (wv : Int) tw) else if y = Str.ofString "place" then some (.int (r : Int) tp) else m y)) (X : (hd.heap_39 w.params).In h₀) (N : News h₀ L s.heap ((D, W.listOf ws.toArray e) :: (L + 1 + 1, oP) :: (L + 1, oN) :: tt)) (T : Top p loose mean mg mb h₀) (hd : dp + 200 < recursionLimit) (hu : un + 200 < cLine)
    (hret : ∀ h' tk', Fr h₀ L h' (fun y => if y = Str.ofString "ways" then some (.int (wv : Int) tw) else if y = Str.ofString "place" then some (.int (r : Int) tp) else m y) → News h₀ L h' ((D, W.listOf ws.toArray e) :: (L + 1 + 1, oP) :: (L + 1, oN) :: tt) → Q (.ret (.bool true)) { s with heap := h', toks := tk' }) :
    wpAny (model PySem.Challenge.rw_ie0004_01.row.toRowW.prog w) (ktrTop dp un gd (Str.ofString "law") scope L aL ccd [(Str.ofString "primes", L + 1 + 1), (Str.ofString "number", L + 1)] outer) (exec st (envX (Str.ofString "law") scope L aL ccd [(Str.ofString "primes", L + 1 + 1), (Str.ofString "number", L + 1)])) Q E s := by
  w_top off
  conv at hP => lhs; whnf
  injection hP with hP; injection hP with hP1 hP2
  subst hP1 hP2
  revert X; k_fill; intro X
  have hwl : ws.length = pl.length := hI.length
  k_steps
  have e9 : decide (2 * (r : Int) ≤ (num : Int) + 2) = true := decide_eq_true (by omega)
  rw [e9]
  exact hret _ _ (by assumption) N
end Mine
end
section
open PySem PySem.W PyProof.Rows
namespace Mine
/-- how many of the primes are at most num -/
abbrev rr (num : Nat) : Nat := ((pr num).filter fun p => decide (p ≤ (num : Int))).length
abbrev prodI (num : Nat) : Int := ((pr num).take (rr num)).foldl (· * ·) 1
abbrev pp (num : Nat) : Nat := (prodI num).toNat
theorem le_getD {ns : List Int} (h : ns.Pairwise (· ≤ ·)) : ∀ i j, i ≤ j → j < ns.length → ns.getD i 0 ≤ ns.getD j 0 := by
  intro i j hij hj
  rw [List.getD_eq_getElem?_getD, List.getD_eq_getElem?_getD, List.getElem?_eq_getElem hj, List.getElem?_eq_getElem (by omega : i < ns.length)]
  show ns[i] ≤ ns[j]
  rcases Nat.eq_or_lt_of_le hij with e | e
  · subst e; exact Int.le_refl _
  · exact List.pairwise_iff_getElem.mp h i j _ hj e
theorem place_count {ns : List Int} {x : Int} {r : Nat} (h : Place ns x r r) (hr : r ≤ ns.length) : (ns.filter fun p => decide (p ≤ x)).length = r := by
  have e := List.take_append_drop r ns
  have e1 : (ns.take r).filter (fun p => decide (p ≤ x)) = ns.take r := by
    rw [List.filter_eq_self]
    intro a ha
    obtain ⟨i, hi, rfl⟩ := List.mem_iff_getElem.mp ha
    rw [List.getElem_take]
    rw [List.length_take] at hi
    have := h.1 i (by omega)
    rw [List.getD_eq_getElem?_getD, List.getElem?_eq_getElem (by omega : i < ns.length)] at this
    exact decide_eq_true this
  have e2 : (ns.drop r).filter (fun p => decide (p ≤ x)) = [] := by
    rw [List.filter_eq_nil_iff]
    intro a ha
    obtain ⟨i, hi, rfl⟩ := List.mem_iff_getElem.mp ha
    rw [List.getElem_drop]
    rw [List.length_drop] at hi
    have := h.2 (r + i) (by omega) (by omega)
    rw [List.getD_eq_getElem?_getD, List.getElem?_eq_getElem (by omega : r + i < ns.length)] at this
    intro hd
    have := of_decide_eq_true hd
    simp only [Option.getD_some] at *
    omega
  have e3 := congrArg (fun l => (l.filter fun p => decide (p ≤ x)).length) e
  simp only [List.filter_append, e1, e2, List.append_nil, List.length_take] at e3
  rw [← e3]; omega
theorem rr_facts {num : Nat} (hn : 1 ≤ num) (hn2 : num ≤ 24) : rr num < (pr num).length ∧ (num : Int) < (pr num).getD (rr num) 0 ∧ (pr num).getD (rr num) 0 ≤ 2 * (num : Int) ∧ 2 * rr num ≤ num + 2 := by
  refine all24 (P := fun num => rr num < (pr num).length ∧ (num : Int) < (pr num).getD (rr num) 0 ∧ (pr num).getD (rr num) 0 ≤ 2 * (num : Int) ∧ 2 * rr num ≤ num + 2) ?_ hn hn2
  decide +kernel
theorem pr_range {num : Nat} (hn : 1 ≤ num) (hn2 : num ≤ 24) : ∀ q ∈ pr num, 2 ≤ q ∧ q < 64 := by
  refine all24 (P := fun num => ∀ q ∈ pr num, 2 ≤ q ∧ q < 64) ?_ hn hn2
  decide +kernel
theorem pr_next {num : Nat} (hn : 1 ≤ num) (hn2 : num ≤ 24) : ∀ k ∈ pr num, 2 < k → k + 1 ∉ pr num := by
  refine all24 (P := fun num => ∀ k ∈ pr num, 2 < k → k + 1 ∉ pr num) ?_ hn hn2
  decide +kernel
theorem pp_facts {num : Nat} (hn : 1 ≤ num) (hn2 : num ≤ 24) : prodI num = (pp num : Int) ∧ pp num < 4 ^ num ∧ 1 ≤ Builtin.Int.intBits (pp num : Int) ∧ Builtin.Int.intBits (pp num : Int) ≤ 2 * num ∧ pp num < 2 ^ Builtin.Int.intBits (pp num : Int) := by
  refine all24 (P := fun num => prodI num = (pp num : Int) ∧ pp num < 4 ^ num ∧ 1 ≤ Builtin.Int.intBits (pp num : Int) ∧ Builtin.Int.intBits (pp num : Int) ≤ 2 * num ∧ pp num < 2 ^ Builtin.Int.intBits (pp num : Int)) ?_ hn hn2
  decide +kernel
theorem wy_facts {num : Nat} (hn : 1 ≤ num) (hn2 : num ≤ 24) : 4 ^ num ≤ wy num num * 2 * num ∧ Builtin.Int.intBits ((4 ^ num : Nat) : Int) = 2 * num + 1 ∧ 4 ^ num < 2 ^ (2 * num + 1) := by
  refine all24 (P := fun num => 4 ^ num ≤ wy num num * 2 * num ∧ Builtin.Int.intBits ((4 ^ num : Nat) : Int) = 2 * num + 1 ∧ 4 ^ num < 2 ^ (2 * num + 1)) ?_ hn hn2
  decide +kernel
theorem oft_facts {num : Nat} (hn : 1 ≤ num) (hn2 : num ≤ 24) : ∀ k ∈ pr num, ∃ q : Nat, k = (q : Int) ∧ 1 < q ∧ q < 64 ∧ q ^ oft q 90 (wy num num) ≤ 2 * num ∧ (num < q → oft q 90 (wy num num) = 1) ∧ (2 < q → q ≤ num → 2 * num < 3 * q → oft q 90 (wy num num) = 0) := by
  have h : ∀ k ∈ pr num, k = (k.toNat : Int) ∧ 1 < k.toNat ∧ k.toNat < 64 ∧ k.toNat ^ oft k.toNat 90 (wy num num) ≤ 2 * num ∧ (num < k.toNat → oft k.toNat 90 (wy num num) = 1) ∧ (2 < k.toNat → k.toNat ≤ num → 2 * num < 3 * k.toNat → oft k.toNat 90 (wy num num) = 0) := by
    refine all24 (P := fun num => ∀ k ∈ pr num, k = (k.toNat : Int) ∧ 1 < k.toNat ∧ k.toNat < 64 ∧ k.toNat ^ oft k.toNat 90 (wy num num) ≤ 2 * num ∧ (num < k.toNat → oft k.toNat 90 (wy num num) = 1) ∧ (2 < k.toNat → k.toNat ≤ num → 2 * num < 3 * k.toNat → oft k.toNat 90 (wy num num) = 0)) ?_ hn hn2
    decide +kernel
  exact fun k hk => ⟨k.toNat, h k hk⟩
end Mine
end
section
open PySem PySem.W PyProof.Rows PySem.Spec PySem.Calls
namespace Mine
/-- the law's statements from i on, and its scope -/
def lawParts (i : Nat) : Option (List Stmt × Scope) := match PySem.Challenge.rw_ie0004_01.row.toRowW.prog.main.body[(15 : Nat)]? with
  | some (.FunctionDef _ _ b _ _ _ sc _ _ _) => some (b.drop i, sc)
  | _ => none
set_option maxRecDepth 100000 in
set_option maxHeartbeats 8000000 in
theorem law_rest (w : World) {p : Program} {loose : List Str} {mean : ExcName → Option Value} {mg mb : Str → Option Value} {body : List Stmt} {scope : Scope} (hP : lawParts 2 = some (body, scope)) (num : Nat) (hn : 1 ≤ num) (hn2 : num ≤ 24) {ws : List Value} {e : Nat} {D : Addr} {oP oN : Obj} {tn : Tok} (hI : IntsAre ws (pr num))
    {dp un : Nat} {gd : Option (List Code)} {aL : Addr} {ccd : Value} {outer : List Env} {A₀ : Around} {base h₀ : Heap} {L : Addr} {m : Str → Option Value} {s : Shared} {Q : Flow → Shared → Prop} {E : Value → Shared → Prop} {t1 t2 : List (Addr × Obj)}
    (dP : oP.data = .cell (some (.ref D))) (dN : oN.data = .cell (some (.int (num : Int) tn))) (ht1 : TabS 57 79 4 Q1 t1) (hap1 : Apart t1 ((D, W.listOf ws.toArray e) :: (L + 1 + 1, oP) :: (L + 1, oN) :: t2))
    (B : Below A₀ base outer h₀) (F : Fr h₀ L s.heap m) (X : (hd.heap_39 w.params).In h₀) (N : News h₀ L s.heap ((D, W.listOf ws.toArray e) :: (L + 1 + 1, oP) :: (L + 1, oN) :: (t1 ++ t2))) (T : Top p loose mean mg mb h₀) (C1 : CodeHd base 61 57) (hd : dp + 200 < recursionLimit) (hu : un + 200 < cLine)
    (hE : PassesOwn (model PySem.Challenge.rw_ie0004_01.row.toRowW.prog w) (ktrTop dp un gd (Str.ofString "law") scope L aL ccd [(Str.ofString "primes", L + 1 + 1), (Str.ofString "number", L + 1)] outer) (envX (Str.ofString "law") scope L aL ccd [(Str.ofString "primes", L + 1 + 1), (Str.ofString "number", L + 1)]) E)
    (hret : ∀ h' tk' m' t1', Fr h₀ L h' m' → TabS 57 79 4 Q1 t1' → News h₀ L h' ((D, W.listOf ws.toArray e) :: (L + 1 + 1, oP) :: (L + 1, oN) :: (t1' ++ t2)) → Q (.ret (.bool true)) { s with heap := h', toks := tk' }) :
    wpAny (model PySem.Challenge.rw_ie0004_01.row.toRowW.prog w) (ktrTop dp un gd (Str.ofString "law") scope L aL ccd [(Str.ofString "primes", L + 1 + 1), (Str.ofString "number", L + 1)] outer) (execs body (envX (Str.ofString "law") scope L aL ccd [(Str.ofString "primes", L + 1 + 1), (Str.ofString "number", L + 1)])) Q E s := by
  obtain ⟨hl1, hl2⟩ := pr_len hn hn2
  have hs := pr_sorted hn hn2
  have hsle := pr_le hn hn2
  have hhead := pr_head hn hn2
  have hrng := pr_range hn hn2
  have hnext := pr_next hn hn2
  obtain ⟨hr0, hr1, hr2, hr3⟩ := rr_facts hn hn2
  obtain ⟨hp1, hp2, hp3, hp4, hp5⟩ := pp_facts hn hn2
  obtain ⟨hw1, hw2, hw3⟩ := wy_facts hn hn2
  have hoft := oft_facts hn hn2
  conv at hP => lhs; whnf
  injection hP with hP; injection hP with hP1 hP2
  subst hP1 hP2
  refine wpAny_execs_cons (law_if1 w rfl hl1 hl2 hs hhead hI dP B F X N T hd hu ?_)
  intro h2 tk2 F2 N2
  show wpAny _ _ (execs _ _) _ _ _
  refine wpAny_execs_cons (law_place w rfl hl2 hn hn2 hI (le_getD hsle) dP dN B F2 X N2 T hd hu ?_)
  intro r tp h3 tk3 hr hpl F3 N3
  obtain rfl : rr num = r := place_count hpl hr
  show wpAny _ _ (execs _ _) _ _ _
  refine wpAny_execs_cons (law_if2 w rfl hl2 hn hn2 hI hr0 rfl hr1 hr2 dP dN B F3 X N3 T hd hu ?_)
  intro h4 tk4 F4 N4
  show wpAny _ _ (execs _ _) _ _ _
  refine wpAny_execs_cons (law_pair w rfl hl2 hn hn2 hI dP dN B F4 X N4 T hd hu ?_)
  intro tw5 tq5 h5 tk5 F5 N5
  show wpAny _ _ (execs _ _) _ _ _
  refine wpAny_execs_cons (law_for1 w rfl hl2 hn hn2 hI hr0 hrng dP dN B F5 X N5 T hE hd hu ?_)
  intro m6 tq6 h6 tk6 F6 N6
  show wpAny _ _ (execs _ _) _ _ _
  rw [show ((pr num).take (rr num)).foldl (· * ·) 1 = (pp num : Int) from hp1] at F6
  refine wpAny_execs_cons (law_if3 w rfl hl2 hn hn2 hI hp2 hp3 hp4 hp5 dP dN B F6 X N6 T C1 ht1 hap1 hd hu ?_)
  intro t1' h7 tk7 ht1' hap1' F7 N7
  show wpAny _ _ (execs _ _) _ _ _
  refine wpAny_execs_cons (law_for2 w rfl hl2 hn hn2 hI dP dN B F7 X N7 T hE hd hu ?_)
  intro m8 tw8 h8 tk8 F8 N8
  show wpAny _ _ (execs _ _) _ _ _
  refine wpAny_execs_cons (law_if4 w rfl hl2 hn hn2 hI hw1 hw2 hw3 dP dN B F8 X N8 T C1 ht1' hap1' hd hu ?_)
  intro t1'' h9 tk9 ht1'' hap1'' F9 N9
  show wpAny _ _ (execs _ _) _ _ _
  refine wpAny_execs_cons (law_for3 w rfl hl2 hn hn2 hI hoft dP dN B F9 X N9 T hE hd hu ?_)
  intro m10 h10 tk10 F10 N10
  show wpAny _ _ (execs _ _) _ _ _
  refine wpAny_execs_cons (law_if5 w rfl hl2 hn hn2 hI hnext dP dN B F10 X N10 T hd hu ?_)
  intro h11 tk11 F11 N11
  show wpAny _ _ (execs _ _) _ _ _
  refine wpAny_execs_cons (law_ret w rfl hl2 hn hn2 hI hr3 dP dN B F11 X N11 T hd hu ?_)
  intro h12 tk12 F12 N12
  exact hret h12 tk12 _ t1'' F12 ht1'' N12
end Mine
end
open PySem PySem.W PyProof.Rows PySem.Spec PySem.Calls
namespace Mine
theorem grown1 {P : Addr} {ln cl : Nat} {qual : Str} {tabs : List (Addr × Obj)} {h₀ h : Heap} {L : Addr} (ht : TabS P ln cl qual tabs) (N : News h₀ L h tabs) : GrownAt P h := by
  rcases ht with _ | ⟨c', oc, vs, t, d1, d2, ne⟩
  · exact GrownAt.of N (.head _)
  · exact GrownAt.of N (.head _)
theorem num_of (x : Int) : ∃ n : Nat, 1 + Int.fmod x 24 = (n : Int) ∧ 1 ≤ n ∧ n ≤ 24 := by
  have h1 := Int.fmod_nonneg_of_pos x (b := 24) (by decide)
  have h2 := Int.fmod_lt_of_pos x (b := 24) (by decide)
  exact ⟨(1 + Int.fmod x 24).toNat, by omega, by omega, by omega⟩
end Mine
open Mine
local macro_rules | `(tactic| walk_at "none of these") => `(tactic| fail)
local macro_rules | `(tactic| k_all) => `(tactic| exact TailOff.off (by assumption))
local macro_rules | `(tactic| walk_at "execs cons") => `(tactic| (k_here; (with_reducible show wpAny _ _ (execs (Stmt.If _ _ _ _ :: _) _) _ _ _); refine stop_of ?_))
local macro_rules | `(tactic| walk_at "call ref") => `(tactic| (k_here; (with_reducible show wpAny _ _ (call (Value.ref _) _) _ _ _); refine stop_of ?_))
set_option maxRecDepth 100000 in
set_option maxHeartbeats 8000000 in
theorem PySem.Challenge.cw_ie0004_01_holds : PySem.Challenge.rw_ie0004_01.Holds := by
  refine hd (by
    w_top off
    w_strict (k_go0; (all_goals try k_fold); k_steps)
    unfold Stop
    rename (List Int) => ns
    rename_i oP oN0 dPl dNl Y0 X7 T7 B7 C7 l0 h7a tk7 t7 h7 oN F7 N7 d7
    obtain ⟨num, hnum, hn, hn2⟩ := num_of (List.sum ns)
    have e88 : 2 * (1 + Int.fmod (List.sum ns) 24) = ((2 * num : Nat) : Int) := by rw [hnum]; push_cast; rfl
    rw [hnum] at d7
    rw [e88]
    have N7' := N7
    clear N7
    rename World => w
    rename Shared => s₁
    refine law_primes_c w (2 * num) _ (by omega) (by omega) (dp := callerA.depth + 1) (un := callerA.units + 3) (outer := []) (cl := [(Str.ofString "primes", s₁.heap.objs.size + 1 + 1), (Str.ofString "number", s₁.heap.objs.size + 1)])
      (t1 := [(57, tabObj #[])]) (t2 := [(64, tabObj #[])]) (news := [(s₁.heap.objs.size + 1 + 1, oP), (s₁.heap.objs.size + 1, oN)]) .fresh .fresh ?ap1 ?ap2 B7 F7 X7 ?N T7 codeHd C7 rfl (by decide) (by decide) ?_
    case N =>
      exact fun q hq => N7' q (by simp only [List.mem_cons, List.mem_append] at hq ⊢; rcases hq with h | h | h | h <;> simp_all)
    case ap1 =>
      intro q hq q' hq'
      simp only [List.mem_cons, List.mem_append, List.not_mem_nil, or_false] at hq hq'
      rcases hq' with rfl | rfl | rfl <;> subst hq <;> dsimp only <;> omega
    case ap2 =>
      intro q hq q' hq'
      simp only [List.mem_cons, List.not_mem_nil, or_false] at hq hq'
      rcases hq' with rfl | rfl <;> subst hq <;> dsimp only <;> omega
    intro D ws e t1 t2 h8 tk8 ht1 ht2 hI F8 N8 hlt ap1 ap2
    have N8' : News _ _ h8 ((D, W.listOf ws.toArray e) :: (s₁.heap.objs.size + 1 + 1, oP) :: (s₁.heap.objs.size + 1, oN) :: (t1 ++ t2)) := fun q hq => N8 q (by
      simp only [List.mem_cons, List.mem_append] at hq ⊢; rcases hq with h | h | h | h | h <;> simp [h])
    have hlD1 : (s₁.heap.objs.size + 1 + 1 : Nat) < D := hlt _ (.head _)
    have hlD2 : (s₁.heap.objs.size + 1 : Nat) < D := hlt _ (.tail _ (.head _))
    have hoffP : TailOff (s₁.heap.objs.size + 1 + 1) (t1 ++ t2) := ⟨fun q hq => by
      rcases List.mem_append.mp hq with hq | hq
      · exact ap1 q hq (s₁.heap.objs.size + 1 + 1, oP) (by simp)
      · exact ap2 q hq (s₁.heap.objs.size + 1 + 1, oP) (by simp)⟩
    clear N8 N7' F7
    k_steps
    unfold Stop
    rename_i h9 oP9 F9 N9 dP9
    refine law_rest w rfl num hn hn2 hI (oN := oN) (t1 := t1) (t2 := t2) (dp := callerA.depth + 1) (un := callerA.units + 3) (outer := []) dP9 d7 ht1 ?ap B7 F9 X7 N9 T7 codeHd (by decide) (by decide) ?hE ?_
    case ap =>
      intro q hq q' hq'
      simp only [List.mem_cons] at hq'
      rcases hq' with rfl | rfl | rfl | h
      · exact ap1 q hq (D, W.listOf ws.toArray e) (by simp)
      · exact ap1 q hq (s₁.heap.objs.size + 1 + 1, oP) (by simp)
      · exact ap1 q hq (s₁.heap.objs.size + 1, oN) (by simp)
      · exact ap1 q hq q' (by simp [h])
    case hE => passes_own
    intro h10 tk10 m10 t1' F10 ht1' N10
    have g2 : GrownAll [(68, 64), (61, 57)] h10 := ⟨grown1 ht2 (fun q hq => N10 q (by simp [hq])), grown1 ht1' (fun q hq => N10 q (by simp [hq])), True.intro⟩
    refine ⟨?_, g2⟩
    clear N9 N10
    k_steps)
