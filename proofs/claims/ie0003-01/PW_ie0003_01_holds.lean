import PyProof.Rows.All
import Wide.All
import OpenK.AllK
import Wide.FinOn
import PySem.Challenge.RW_ie0003_01
open PySem PySem.W PyProof.Rows
set_option Elab.async false
set_option rowWalk.seconds 0
set_option exponentiation.threshold 4000
set_option compiler.extract_closed false
namespace Mine
section SHd
open PySem PySem.W PyProof.Rows
set_option maxRecDepth 100000 in
set_option maxHeartbeats 8000000 in
open_top hd for PySem.Challenge.rw_ie0003_01

end SHd
section SBase
open PySem PySem.W PyProof.Rows PySem.Calls PySem.Spec

def Claim (w : World) (f : Addr) (dep : Nat) (news : List (Addr × Obj)) (vs : List Value) (Post : Value → List (Addr × Obj) → Prop) : Prop :=
  ∀ (p : Program) (loose : List Str) (mean : ExcName → Option Value) (mg mb : Str → Option Value)
    (dp un : Nat) (gd : Option (List Code)) (cn : Str) (cs : Scope) (a : Addr) (ccd : Value) (cl : List (Str × Addr)) (outer : List Env) (A₀ : Around) (base h₀ : Heap) (L : Addr) (m : Str → Option Value) (s : Shared) (Q E : Value → Shared → Prop),
    Below A₀ base outer h₀ → Fr h₀ L s.heap m → (hd.heap_39 w.params).In h₀ → News h₀ L s.heap news → Top p loose mean mg mb h₀ → CodeHd base 41 37 → CodeHd base 34 30 → cs.kind = .function →
    dp + dep < recursionLimit → un + 8 * dep < cLine →
    (∀ r news' h' tk', Post r news' → Fr h₀ L h' m → News h₀ L h' news' → Q r { s with heap := h', toks := tk' }) →
    wpAny (model PySem.Challenge.rw_ie0003_01.prog w) (ktrTop dp un gd cn cs L a ccd cl outer) (call (.ref f) vs) Q E s

def CodeOk (q : Str) (o : Obj) : Prop := ∃ vs t, o.data = .fields vs ∧ vs[1]? = some (.str q t)

abbrev tupObj (vs : List Value) (c : Nat) : Obj := { cls := .type "tuple", data := .seq vs.toArray c }

def PairPost (news : List (Addr × Obj)) (x y : Int) (r : Value) (news' : List (Addr × Obj)) : Prop :=
  ∃ D t1 t2 c, r = .ref D ∧ news' = (D, ({ cls := .type "tuple", data := .seq #[.int x t1, .int y t2] c } : Obj)) :: news ∧ ∀ q ∈ news, q.1 < D

theorem ne_of_lt_all {rest : List (Addr × Obj)} {l d : Addr} (h : ∀ q ∈ rest, q.1 < l) (hl : @LE.le Nat _ l d) : ∀ p ∈ rest, p.1 ≠ d := fun p hp => Nat.ne_of_lt (Nat.lt_of_lt_of_le (h p hp) hl)
theorem ne_of_gt_all {rest : List (Addr × Obj)} {l d : Addr} (h : ∀ q ∈ rest, l < q.1) (hl : @LE.le Nat _ d l) : ∀ p ∈ rest, p.1 ≠ d := fun p hp => Nat.ne_of_gt (Nat.lt_of_le_of_lt hl (h p hp))
theorem lt_tail2 {l : Addr} {x y : Addr × Obj} {rest : List (Addr × Obj)} (h : ∀ q ∈ x :: y :: rest, q.1 < l) : ∀ q ∈ rest, q.1 < l := fun q hq => h q (.tail _ (.tail _ hq))


end SBase
section SBase2
open PySem PySem.W PyProof.Rows PySem.Calls PySem.Spec

section
variable {prog : Program} {w : World} {A : Around} {E : Value → Shared → Prop} {s : Shared} {Q : Value → Shared → Prop}

theorem half_int {a : Int} {t u : Tok} (h : ∀ m : Int, 2 * m ≤ a → a < 2 * m + 2 → Q (.int m s.toks) { s with toks := s.toks + 1 }) :
    wpAny (model prog w) A (binaryOp .RShift (.int a t) (.int 1 u)) Q E s := by
  refine rshift_int (by decide) (h _ ?_ ?_)
  · have := Int.fdiv_eq_ediv_of_nonneg a (b := 2 ^ (1 : Int).toNat) (by decide)
    rw [this]
    show 2 * (a / 2) ≤ a
    omega
  · have := Int.fdiv_eq_ediv_of_nonneg a (b := 2 ^ (1 : Int).toNat) (by decide)
    rw [this]
    show a < 2 * (a / 2) + 2
    omega

theorem mulOk_left {a b : Int} (h : a.natAbs < 2 ^ 64) : IntMulOk a b := IntMulOk.of_left (intBits_le_iff.mpr h)

theorem mulN_int {a b : Int} {t u : Tok} (ha : 0 ≤ a) (ha2 : a < 2 ^ 64) (hb : 0 ≤ b) (h : ∀ c : Int, c = a * b → 0 ≤ c → Q (.int c s.toks) { s with toks := s.toks + 1 }) :
    wpAny (model prog w) A (binaryOp .Mult (.int a t) (.int b u)) Q E s :=
  PyProof.Rows.mul_int (h _ rfl (Int.mul_nonneg ha hb)) (mulOk_left (by omega))

theorem shr_int {x sh : Int} {t u : Tok} (h0 : 0 ≤ sh) (h : ∀ y : Int, y = x / (2 ^ sh.toNat : Nat) → Q (.int y s.toks) { s with toks := s.toks + 1 }) :
    wpAny (model prog w) A (binaryOp .RShift (.int x t) (.int sh u)) Q E s := by
  refine rshift_int h0 (h _ ?_)
  rw [Int.fdiv_eq_ediv_of_nonneg]
  · rfl
  · exact Int.pow_nonneg (by decide)

theorem shl_int {x sh : Int} {t u : Tok} (h0 : 0 ≤ sh) (hb : (Builtin.Int.intBits x : Int) + sh ≤ 2 ^ 27) (h : ∀ y : Int, y = x * (2 ^ sh.toNat : Nat) → Q (.int y s.toks) { s with toks := s.toks + 1 }) :
    wpAny (model prog w) A (binaryOp .LShift (.int x t) (.int sh u)) Q E s := by
  exact lshift_int h0 hb (h _ rfl)

end

theorem bitXor_low {x y : Nat} {s : Nat} (h : y = x / 2 ^ s * 2 ^ s) : Builtin.bitXor (x : Int) (y : Int) = ((x % 2 ^ s : Nat) : Int) := by
  have hd : x / 2 ^ s * 2 ^ s + x % 2 ^ s = x := by
    rw [Nat.mul_comm]; exact Nat.div_add_mod x (2 ^ s)
  have key : x &&& y = y := by
    subst h
    apply Nat.eq_of_testBit_eq
    intro i
    rw [Nat.testBit_and]
    by_cases hi : i < s
    · have : (x / 2 ^ s * 2 ^ s).testBit i = false := by
        rw [Nat.testBit_mul_two_pow]; simp [Nat.not_le.mpr hi]
      rw [this, Bool.and_false]
    · have : (x / 2 ^ s * 2 ^ s).testBit i = x.testBit i := by
        have e : i - s + s = i := by omega
        rw [Nat.testBit_mul_two_pow, Nat.testBit_div_two_pow, e]
        simp [Nat.le_of_not_lt hi]
      rw [this, Bool.and_self]
  rw [bitXor_and]
  have hA : Builtin.bitAnd (x : Int) (y : Int) = (y : Int) := by
    unfold Builtin.bitAnd
    have h1 : decide (0 ≤ (x : Int)) = true := by simp
    have h2 : decide (0 ≤ (y : Int)) = true := by simp
    rw [h1, h2]
    show (((x : Int).toNat &&& (y : Int).toNat : Nat) : Int) = y
    rw [Int.toNat_natCast, Int.toNat_natCast, key]
  rw [hA]
  omega


end SBase2
section SMath35
open PySem PySem.W PyProof.Rows PySem.Calls PySem.Spec

def Wr (ns : List Int) (lo hi x n : Nat) (ns' : List Int) : Prop :=
  ns'.length = ns.length ∧ ∀ i, i < ns.length → ns'.getD i 0 = if lo ≤ i ∧ i < hi then ((x / 2 ^ (n * (i - lo)) % 2 ^ n : Nat) : Int) else ns.getD i 0

theorem toNat_mul_of {a n : Int} (ha : 0 ≤ a) (hn : 0 ≤ n) : (a * n).toNat = a.toNat * n.toNat := Int.toNat_mul ha hn

theorem low_lt {x y sh lo mid n : Int} (hy : y = ((x.toNat % 2 ^ sh.toNat : Nat) : Int)) (hsh : sh = (mid - lo) * n) (h0 : 0 ≤ mid - lo) (hn : 1 ≤ n) : y.toNat < 2 ^ (n.toNat * (mid - lo).toNat) := by
  subst hy
  rw [Int.toNat_natCast, hsh, toNat_mul_of h0 (by omega), Nat.mul_comm]
  exact Nat.mod_lt _ (Nat.two_pow_pos _)

theorem toNat_div {x : Int} (hx : 0 ≤ x) (p : Nat) : (x / (p : Nat)).toNat = x.toNat / p := by
  obtain ⟨m, rfl⟩ := Int.eq_ofNat_of_zero_le hx
  rfl

theorem up_lt {x y sh lo mid hi n : Int} {k : Nat} (hy : y = x / (2 ^ sh.toNat : Nat)) (hsh : sh = (mid - lo) * n) (hx : 0 ≤ x) (hxb : x.toNat < 2 ^ (n.toNat * (k + 1))) (hhi : lo + k + 1 = hi) (h0 : lo ≤ mid) (h1 : mid ≤ hi) (hn : 1 ≤ n) :
    y.toNat < 2 ^ (n.toNat * (hi - mid).toNat) := by
  subst hy
  rw [toNat_div hx, hsh, toNat_mul_of (by omega) (by omega)]
  apply Nat.div_lt_of_lt_mul
  rw [← Nat.pow_add]
  have e : (mid - lo).toNat * n.toNat + n.toNat * (hi - mid).toNat = n.toNat * (k + 1) := by
    rw [Nat.mul_comm, ← Nat.mul_add]
    congr 1
    omega
  rw [e]; exact hxb

theorem div_nonneg' {x y : Int} {p : Nat} (hy : y = x / (p : Nat)) (hx : 0 ≤ x) : 0 ≤ y := by
  subst hy
  exact Int.ediv_nonneg hx (Int.natCast_nonneg p)

theorem bits35 {x up sh lo mid n : Int} {k : Nat} (hup : up = x / (2 ^ sh.toNat : Nat)) (hsh : sh = (mid - lo) * n) (hx : 0 ≤ x) (hxb : x.toNat < 2 ^ (n.toNat * (k + 1))) (hk : k ≤ 60) (hn1 : 1 ≤ n) (hn : n ≤ 100000) (h0 : 0 ≤ mid - lo) (h1 : mid - lo ≤ 60) :
    (Builtin.Int.intBits up : Int) + sh ≤ 2 ^ 27 := by
  have hb : Builtin.Int.intBits up ≤ n.toNat * (k + 1) := by
    refine intBits_le_iff.mpr (Nat.lt_of_le_of_lt ?_ hxb)
    have h := div_nonneg' hup hx
    have e : up.natAbs = up.toNat := by omega
    rw [e, hup, toNat_div hx]
    exact Nat.div_le_self _ _
  have h2 : n.toNat * (k + 1) ≤ 100000 * 61 := Nat.mul_le_mul (by omega) (by omega)
  have h3 : (mid - lo) * n ≤ 60 * 100000 := Int.mul_le_mul h1 hn (by omega) (by omega)
  omega

theorem Wr.base {ns : List Int} {lo hi x n : Int} (hlo : 0 ≤ lo) (h : lo + 1 = hi) (hl : hi ≤ ns.length) (hx : 0 ≤ x) (hxb : x.toNat < 2 ^ n.toNat) : Wr ns lo.toNat hi.toNat x.toNat n.toNat (ns.set lo.toNat x) := by
  refine ⟨List.length_set .., fun i hi' => ?_⟩
  rw [List.getD_eq_getElem?_getD, List.getElem?_set]
  by_cases e : lo.toNat = i
  · rw [if_pos e, if_pos (by omega), if_pos (by omega)]
    have e2 : i - lo.toNat = 0 := by omega
    rw [e2, Nat.mul_zero, Nat.pow_zero, Nat.div_one, Nat.mod_eq_of_lt hxb]
    show x = _
    omega
  · rw [if_neg e, if_neg (by omega), List.getD_eq_getElem?_getD]

theorem Wr.comp {ns ns1 ns2 : List Int} {lo mid hi x n sh lw up : Int} (hlo : 0 ≤ lo) (h1 : lo ≤ mid) (h2 : mid ≤ hi) (hx : 0 ≤ x) (hn : 1 ≤ n) (hsh : sh = (mid - lo) * n) (hlw : lw = ((x.toNat % 2 ^ sh.toNat : Nat) : Int)) (hup : up = x / (2 ^ sh.toNat : Nat))
    (a : Wr ns lo.toNat mid.toNat lw.toNat n.toNat ns1) (b : Wr ns1 mid.toNat hi.toNat up.toNat n.toNat ns2) : Wr ns lo.toNat hi.toNat x.toNat n.toNat ns2 := by
  refine ⟨b.1.trans a.1, fun i hi' => ?_⟩
  rw [b.2 i (by rw [a.1]; exact hi'), a.2 i hi']
  have esh : sh.toNat = n.toNat * (mid.toNat - lo.toNat) := by
    rw [hsh, toNat_mul_of (by omega) (by omega), Nat.mul_comm]
    congr 1; omega
  have hlw' : lw.toNat = x.toNat % 2 ^ (n.toNat * (mid.toNat - lo.toNat)) := by rw [hlw, Int.toNat_natCast, esh]
  have hup' : up.toNat = x.toNat / 2 ^ (n.toNat * (mid.toNat - lo.toNat)) := by rw [hup, toNat_div hx, esh]
  by_cases c : mid.toNat ≤ i ∧ i < hi.toNat
  · rw [if_pos c, if_pos (by omega), hup', Nat.div_div_eq_div_mul, ← Nat.pow_add, ← Nat.mul_add, show mid.toNat - lo.toNat + (i - mid.toNat) = i - lo.toNat by omega]
  · rw [if_neg c]
    by_cases d : lo.toNat ≤ i ∧ i < mid.toNat
    · rw [if_pos d, if_pos (by omega), hlw']
      congr 1
      generalize n.toNat = n at *
      generalize x.toNat = x at *
      generalize hj : i - lo.toNat = j
      generalize hq : mid.toNat - lo.toNat = q
      have hjq : j + 1 ≤ q := by omega
      -- (x % 2^(n*q)) / 2^(n*j) % 2^n = x / 2^(n*j) % 2^n
      apply Nat.eq_of_testBit_eq
      intro t
      rw [Nat.testBit_mod_two_pow, Nat.testBit_mod_two_pow, Nat.testBit_div_two_pow, Nat.testBit_div_two_pow, Nat.testBit_mod_two_pow]
      by_cases ht : t < n
      · have : t + n * j < n * q := by
          have h3 : n * (j + 1) ≤ n * q := Nat.mul_le_mul_left n hjq
          rw [Nat.mul_succ] at h3
          omega
        simp [ht, this]
      · simp [ht]
    · rw [if_neg d, if_neg (by omega)]

section
variable {prog : Program} {w : World} {A : Around} {E : Value → Shared → Prop} {s : Shared} {Q : Value → Shared → Prop}
theorem xor_low {x v up sh : Int} {t u : Tok} (hx : 0 ≤ x) (hup : up = x / (2 ^ sh.toNat : Nat)) (hv : v = up * (2 ^ sh.toNat : Nat)) (h : ∀ y : Int, y = ((x.toNat % 2 ^ sh.toNat : Nat) : Int) → Q (.int y s.toks) { s with toks := s.toks + 1 }) :
    wpAny (model prog w) A (binaryOp .BitXor (.int x t) (.int v u)) Q E s := by
  refine PyProof.Rows.xor_int (h _ ?_)
  obtain ⟨m, rfl⟩ := Int.eq_ofNat_of_zero_le hx
  subst hup
  have e : v = ((m / 2 ^ sh.toNat * 2 ^ sh.toNat : Nat) : Int) := by
    rw [hv]
    simp
  rw [e]
  exact bitXor_low rfl
end

end SMath35
section SIn35
open PySem PySem.W PyProof.Rows PySem.Calls PySem.Spec

noncomputable def inner35 (w : World) : Option (Arguments × List Stmt × Scope) :=
  match (hd.heap_39 w.params).lookup 35 with
  | some ⟨_, _, .func fd, _⟩ => match fd.body with
     | .stmts (_ :: .FunctionDef _ args body _ _ _ scope _ _ _ :: _) => some (args, body, scope)
     | _ => none
  | _ => none

def In35 (w : World) (f D : Addr) (rest : List (Addr × Obj)) (n : Int) (k : Nat) : Prop :=
  ∀ (x lo hi : Int) (tx tl th : Tok) (vs : List Value) (ns : List Int) (cnt : Nat), 0 ≤ lo → lo + k + 1 = hi → hi ≤ ns.length → ns.length ≤ 60 → 0 ≤ x → x.toNat < 2 ^ (n.toNat * (k + 1)) → IntsAre vs ns →
    Claim w f (k + 1) ((D, listOf vs.toArray cnt) :: rest) [.int x tx, .int lo tl, .int hi th]
      (fun r news' => r = .none ∧ ∃ vs' ns', news' = (D, listOf vs'.toArray cnt) :: rest ∧ IntsAre vs' ns' ∧ Wr ns lo.toNat hi.toNat x.toNat n.toNat ns')

theorem In35.use {w : World} {f D : Addr} {rest : List (Addr × Obj)} {n : Int} {k : Nat} (ih : ∀ j, j < k → In35 w f D rest n j)
    {x lo hi : Int} {tx tl th : Tok} {vs : List Value} {ns : List Int} {cnt : Nat} {p : Program} {loose : List Str} {mean : ExcName → Option Value} {mg mb : Str → Option Value}
    {dp un : Nat} {gd : Option (List Code)} {cn : Str} {cs : Scope} {a : Addr} {ccd : Value} {cl : List (Str × Addr)} {outer : List Env} {A₀ : Around} {base h₀ : Heap} {L : Addr} {m : Str → Option Value} {s : Shared} {Q E : Value → Shared → Prop}
    (B : Below A₀ base outer h₀) (F : Fr h₀ L s.heap m) (X : (hd.heap_39 w.params).In h₀) (N : News h₀ L s.heap ((D, listOf vs.toArray cnt) :: rest)) (T : Top p loose mean mg mb h₀) (C1 : CodeHd base 41 37) (C2 : CodeHd base 34 30) (hk : cs.kind = .function)
    (hvs : IntsAre vs ns) (h1 : 0 ≤ lo) (h2 : lo < hi) (h3 : hi - lo < k + 1) (h4 : hi ≤ ns.length) (h5 : ns.length ≤ 60) (hx : 0 ≤ x) (hxb : x.toNat < 2 ^ (n.toNat * (hi - lo).toNat))
    (hd : dp + k < recursionLimit) (hu : un + 8 * k < cLine)
    (hret : ∀ h' tk' vs' ns', Fr h₀ L h' m → News h₀ L h' ((D, listOf vs'.toArray cnt) :: rest) → IntsAre vs' ns' → Wr ns lo.toNat hi.toNat x.toNat n.toNat ns' → ns'.length = ns.length → Q .none { s with heap := h', toks := tk' }) :
    wpAny (model PySem.Challenge.rw_ie0003_01.prog w) (ktrTop dp un gd cn cs L a ccd cl outer) (call (.ref f) [.int x tx, .int lo tl, .int hi th]) Q E s := by
  have e : (hi - lo).toNat = (hi - lo).toNat - 1 + 1 := by omega
  rw [e] at hxb
  refine ih ((hi - lo).toNat - 1) (by omega) x lo hi tx tl th vs ns cnt h1 (by omega) h4 h5 hx hxb hvs p loose mean mg mb dp un gd cn cs a ccd cl outer A₀ base h₀ L m s Q E B F X N T C1 C2 hk (by omega) (by omega) ?_
  rintro r news' h' tk' ⟨rfl, vs', ns', rfl, hi1, hw⟩ F' N'
  exact hret h' tk' vs' ns' F' N' hi1 hw hw.1

local macro_rules | `(tactic| walk_at "binaryOp RShift int int") => `(tactic| (k_here; (with_reducible refine shr_int (by omega) ?_); intro up hup))
local macro_rules | `(tactic| walk_at "binaryOp RShift int int") => `(tactic| (k_here; (with_reducible refine half_int ?_); intro mid hm1 hm2))
local macro_rules | `(tactic| walk_at "binaryOp Mult int int") => `(tactic| (k_here; (with_reducible refine mulN_int (by omega) (by omega) (by omega) ?_); intro sh hsh hsh0))
local macro_rules | `(tactic| walk_at "binaryOp LShift int int") => `(tactic| (k_here; (with_reducible refine shl_int (by omega) ?_ ?_); (exact bits35 (by assumption) (by assumption) (by assumption) (by assumption) (by omega) (by omega) (by omega) (by omega) (by omega)); intro sv hsv))
local macro_rules | `(tactic| walk_at "binaryOp BitXor int int") => `(tactic| (k_here; (with_reducible refine xor_low (by assumption) (by assumption) (by assumption) ?_); intro lw hlw))
local macro_rules | `(tactic| k_mem) => `(tactic| ((repeat (first | with_reducible assumption | exact List.mem_cons_self | refine' List.mem_cons_of_mem _ ?_)); done))
local macro_rules | `(tactic| k_all) => `(tactic| first | assumption | exact ne_of_lt_all (by assumption) (by omega) | exact ne_of_gt_all (by assumption) (by omega))
local macro_rules | `(tactic| walk_at "my enterN") => `(tactic| (refine' code_nest ?k1 ?k2 ?k3 ?k4 ?k5 ?kA ?kF ?kK ?k6 ?k7 ?k8 ?k9 ?kB ?_ ?c2 ?c3 ?c4 ?c5; (case kA => exact rfl); (case kF => exact rfl); (case kK => assumption); (case k1 => k_asm); (case k2 => k_asm); (case k3 => k_asm); (case k4 => k_asm); (case k5 => k_asm); (case k6 => k_mem); (case k7 => exact codeRec_news (by k_asm) (by k_mem) (by assumption) (by assumption)); (case k8 => ktr_room); (case k9 => exact BindsTo.of_eq rfl); (case c5 => decide); (case kB => exact locs rfl); (case c2 => exact rfl); (case c3 => exact rfl); (case c4 => exact rfl); k_whole; intro g' L' h' FG' F' N' B' X' T'; (try dsimp only); (try k_lift B'); (try k_fold)))
local macro_rules | `(tactic| walk_at "call ref") => `(tactic| (k_here; k_dflt (refine' In35.use (by assumption) ?k1 ?k2 ?k3 ?k4 ?k5 ?k6 ?k7 ?k8 ?k9 ?k10 ?k11 ?k12 ?k13 ?k14 ?k15 ?k16 ?kd ?ku ?_; (case k1 => k_asm); (case k2 => k_asm); (case k3 => k_asm); (case k4 => k_asm); (case k5 => k_asm); (case k6 => k_asm); (case k7 => k_asm); (case k8 => first | exact rfl | assumption); (case k9 => assumption); (case k10 => omega); (case k11 => omega); (case k12 => omega); (case k13 => omega); (case k14 => omega); (case k15 => first | assumption | omega | exact div_nonneg' (by assumption) (by assumption)); (case k16 => first | exact low_lt (by assumption) (by assumption) (by omega) (by omega) | exact up_lt (by assumption) (by assumption) (by assumption) (by assumption) (by assumption) (by omega) (by omega) (by omega)); (case kd => ktr_room); (case ku => ktr_units)); intro h' tk' vs' ns' F' N' hvs' hW' hl'; (try dsimp only); (try k_sweep)))

set_option maxRecDepth 100000 in
set_option maxHeartbeats 8000000 in
set_option pp.deepTerms.threshold 5 in
theorem in35_step (w : World) (params : Arguments) (body : List Stmt) (scope : Scope) (hbody : inner35 w = some (params, body, scope))
    (rest : List (Addr × Obj)) (D f c' an ai aa : Addr) (name qual : Str) (doc pm ctv : Value) (oc on oi oa : Obj) (vs0 : Array Value) (t0 tn : Tok) (n : Int)
    (hf : (f, fnMade name qual params body scope [("n", an), ("inner", ai), ("a_digits", aa)] doc pm c' ctv) ∈ rest)
    (hc : (c', oc) ∈ rest) (hoc : oc.data = .fields vs0) (hq : vs0[1]? = some (.str qual t0))
    (hcn : (an, on) ∈ rest) (hcn' : on.data = .cell (some (.int n tn)))
    (hci : (ai, oi) ∈ rest) (hci' : oi.data = .cell (some (.ref f)))
    (hca : (aa, oa) ∈ rest) (hca' : oa.data = .cell (some (.ref D)))
    (hD : ∀ q ∈ rest, q.1 ≠ D) (hn1 : 1 ≤ n) (hn2 : n ≤ 100000) (k : Nat)
    (ih : ∀ j, j < k → In35 w f D rest n j) : In35 w f D rest n k := by
  have e2 := (rfl : inner35 w = some (_, _, _))
  rw [e2] at hbody
  cases hbody
  unfold In35
  intro x lo hi tx tl th vs ns cnt hlo hhi hle hlen hx hxb hvs
  unfold Claim
  w_top off
  k_fill
  intro p loose mean mg mb dp un gd cn cs ca ccd cl outer A₀ base h₀ L m s Q E B F X N T C1 C2 hk hdp hun hret
  refine wpAny_call ?_
  k_dflt (walk_at "my enterN")
  k_steps
  · have hk0 : k = 0 := by omega
    subst hk0
    rw [Nat.zero_add, Nat.mul_one] at hxb
    exact hret _ _ _ _ ⟨rfl, _, _, rfl, by assumption, Wr.base (by omega) (by assumption) (by assumption) (by assumption) hxb⟩ (by assumption) (by assumption)
  · refine hret _ _ _ _ ⟨rfl, _, _, rfl, by assumption, ?_⟩ (by assumption) (by assumption)
    refine Wr.comp (by omega) ?_ ?_ (by assumption) (by assumption) (by assumption) (by assumption) (by assumption) (by assumption) (by assumption) <;> omega

theorem in35_all (w : World) (params : Arguments) (body : List Stmt) (scope : Scope) (hbody : inner35 w = some (params, body, scope))
    (rest : List (Addr × Obj)) (D f c' an ai aa : Addr) (name qual : Str) (doc pm ctv : Value) (oc on oi oa : Obj) (vs0 : Array Value) (t0 tn : Tok) (n : Int)
    (hf : (f, fnMade name qual params body scope [("n", an), ("inner", ai), ("a_digits", aa)] doc pm c' ctv) ∈ rest)
    (hc : (c', oc) ∈ rest) (hoc : oc.data = .fields vs0) (hq : vs0[1]? = some (.str qual t0))
    (hcn : (an, on) ∈ rest) (hcn' : on.data = .cell (some (.int n tn)))
    (hci : (ai, oi) ∈ rest) (hci' : oi.data = .cell (some (.ref f)))
    (hca : (aa, oa) ∈ rest) (hca' : oa.data = .cell (some (.ref D)))
    (hD : ∀ q ∈ rest, q.1 ≠ D) (hn1 : 1 ≤ n) (hn2 : n ≤ 100000) : ∀ k j, j < k → In35 w f D rest n j := by
  intro k
  induction k with
  | zero => intro j hj; exact absurd hj (Nat.not_lt_zero _)
  | succ k ih => exact fun j hj => in35_step w params body scope hbody rest D f c' an ai aa name qual doc pm ctv oc on oi oa vs0 t0 tn n hf hc hoc hq hcn hcn' hci hci' hca hca' hD hn1 hn2 j fun i hi => ih i (by omega)

end SIn35
section SIn42
open PySem PySem.W PyProof.Rows PySem.Calls PySem.Spec

noncomputable def inner42 (w : World) : Option (Arguments × List Stmt × Scope) :=
  match (hd.heap_39 w.params).lookup 42 with
  | some ⟨_, _, .func fd, _⟩ => match fd.body with
     | .stmts (.FunctionDef _ args body _ _ _ scope _ _ _ :: _) => some (args, body, scope)
     | _ => none
  | _ => none

/-- the value of k digits from place lo on -/
def dv (n : Nat) (ns : List Int) (lo : Nat) : Nat → Int
  | 0 => 0
  | k + 1 => ns.getD lo 0 + (2 ^ n : Nat) * dv n ns (lo + 1) k

theorem dv_add (n : Nat) (ns : List Int) (a : Nat) : ∀ (lo b : Nat), dv n ns lo (a + b) = dv n ns lo a + (2 ^ (n * a) : Nat) * dv n ns (lo + a) b := by
  induction a with
  | zero => intro lo b; simp [dv]
  | succ a ih =>
    intro lo b
    rw [show a + 1 + b = (a + b) + 1 by omega]
    simp only [dv]
    rw [ih (lo + 1) b, show lo + 1 + a = lo + (a + 1) by omega, Nat.mul_succ, Nat.pow_add, Int.mul_add]
    simp only [Int.natCast_mul]
    rw [← Int.mul_assoc, Int.mul_comm ((2 ^ n : Nat) : Int) ((2 ^ (n * a) : Nat) : Int)]
    omega

theorem dv_bound {n : Nat} {ns : List Int} (h : ∀ i, i < ns.length → 0 ≤ ns.getD i 0 ∧ ns.getD i 0 < (2 ^ n : Nat)) : ∀ (k lo : Nat), lo + k ≤ ns.length → 0 ≤ dv n ns lo k ∧ dv n ns lo k < (2 ^ (n * k) : Nat) := by
  intro k
  induction k with
  | zero => intro lo _; simp [dv]
  | succ k ih =>
    intro lo hl
    obtain ⟨h1, h2⟩ := h lo (by omega)
    obtain ⟨h3, h4⟩ := ih (lo + 1) (by omega)
    simp only [dv]
    have hp : (0 : Int) < (2 ^ n : Nat) := by exact_mod_cast Nat.two_pow_pos n
    have h5 : 0 ≤ ((2 ^ n : Nat) : Int) * dv n ns (lo + 1) k := Int.mul_nonneg (Int.le_of_lt hp) h3
    have h6 : ((2 ^ n : Nat) : Int) * (dv n ns (lo + 1) k + 1) ≤ ((2 ^ n : Nat) : Int) * ((2 ^ (n * k) : Nat) : Int) := Int.mul_le_mul_of_nonneg_left (by omega) (Int.le_of_lt hp)
    rw [Nat.mul_succ, Nat.pow_add, Nat.mul_comm, Int.natCast_mul]
    rw [Int.mul_add, Int.mul_one] at h6
    omega

def In42 (w : World) (f : Addr) (led : List (Addr × Obj)) (n : Int) (ns : List Int) (k : Nat) : Prop :=
  ∀ (lo hi : Int) (tl th : Tok), 0 ≤ lo → lo + k + 1 = hi → hi ≤ ns.length →
    Claim w f (k + 1) led [.int lo tl, .int hi th] (fun r news' => news' = led ∧ ∃ t, r = .int (dv n.toNat ns lo.toNat (k + 1)) t)

theorem In42.use {w : World} {f : Addr} {led : List (Addr × Obj)} {n : Int} {k : Nat} {ns : List Int} (ih : ∀ j, j < k → In42 w f led n ns j)
    {lo hi : Int} {tl th : Tok} {p : Program} {loose : List Str} {mean : ExcName → Option Value} {mg mb : Str → Option Value}
    {dp un : Nat} {gd : Option (List Code)} {cn : Str} {cs : Scope} {a : Addr} {ccd : Value} {cl : List (Str × Addr)} {outer : List Env} {A₀ : Around} {base h₀ : Heap} {L : Addr} {m : Str → Option Value} {s : Shared} {Q E : Value → Shared → Prop}
    (B : Below A₀ base outer h₀) (F : Fr h₀ L s.heap m) (X : (hd.heap_39 w.params).In h₀) (N : News h₀ L s.heap led) (T : Top p loose mean mg mb h₀) (C1 : CodeHd base 41 37) (C2 : CodeHd base 34 30) (hk : cs.kind = .function)
    (h1 : 0 ≤ lo) (h2 : lo < hi) (h3 : hi - lo < k + 1) (h4 : hi ≤ ns.length)
    (hd : dp + k < recursionLimit) (hu : un + 8 * k < cLine)
    (hret : ∀ h' tk' v t, v = dv n.toNat ns lo.toNat (hi - lo).toNat → Fr h₀ L h' m → News h₀ L h' led → Q (.int v t) { s with heap := h', toks := tk' }) :
    wpAny (model PySem.Challenge.rw_ie0003_01.prog w) (ktrTop dp un gd cn cs L a ccd cl outer) (call (.ref f) [.int lo tl, .int hi th]) Q E s := by
  have e : (hi - lo).toNat = (hi - lo).toNat - 1 + 1 := by omega
  refine ih ((hi - lo).toNat - 1) (by omega) lo hi tl th h1 (by omega) h4 p loose mean mg mb dp un gd cn cs a ccd cl outer A₀ base h₀ L m s Q E B F X N T C1 C2 hk (by omega) (by omega) ?_
  rintro r news' h' tk' ⟨rfl, t, rfl⟩ F' N'
  exact hret h' tk' _ t (by rw [← e]) F' N'

theorem bits42 {v sh lo mid hi n : Int} {ns : List Int} (hv : v = dv n.toNat ns mid.toNat (hi - mid).toNat) (hb : ∀ i, i < ns.length → 0 ≤ ns.getD i 0 ∧ ns.getD i 0 < (2 ^ n.toNat : Nat)) (hsh : sh = (mid - lo) * n) (hn1 : 1 ≤ n) (hn : n ≤ 100000)
    (h0 : 0 ≤ mid - lo) (h1 : mid - lo ≤ 60) (h2 : 0 ≤ mid) (h3 : mid ≤ hi) (h4 : hi ≤ ns.length) (h5 : ns.length ≤ 60) : (Builtin.Int.intBits v : Int) + sh ≤ 2 ^ 27 := by
  obtain ⟨b1, b2⟩ := dv_bound hb (hi - mid).toNat mid.toNat (by omega)
  have hbb : Builtin.Int.intBits v ≤ n.toNat * (hi - mid).toNat := by
    refine intBits_le_iff.mpr ?_
    rw [hv]
    omega
  have h6 : n.toNat * (hi - mid).toNat ≤ 100000 * 60 := Nat.mul_le_mul (by omega) (by omega)
  have h7 : (mid - lo) * n ≤ 60 * 100000 := Int.mul_le_mul h1 hn (by omega) (by omega)
  omega

theorem dv_join {a b c sh lo mid hi n : Int} {ns : List Int} {k : Nat} (hsh : sh = (mid - lo) * n) (hc : c = a * (2 ^ sh.toNat : Nat)) (ha : a = dv n.toNat ns mid.toNat (hi - mid).toNat) (hb : b = dv n.toNat ns lo.toNat (mid - lo).toNat)
    (hn : 1 ≤ n) (h1 : 0 ≤ lo) (h2 : lo ≤ mid) (h3 : mid ≤ hi) (hk : lo + k + 1 = hi) : c + b = dv n.toNat ns lo.toNat (k + 1) := by
  have e : k + 1 = (mid - lo).toNat + (hi - mid).toNat := by omega
  rw [e, dv_add, hc, ha, hb, hsh, toNat_mul_of (by omega) (by omega)]
  rw [show lo.toNat + (mid - lo).toNat = mid.toNat by omega, Nat.mul_comm (mid - lo).toNat n.toNat, Int.mul_comm]
  omega

local macro_rules | `(tactic| walk_at "binaryOp RShift int int") => `(tactic| (k_here; (with_reducible refine half_int ?_); intro mid hm1 hm2))
local macro_rules | `(tactic| walk_at "binaryOp Mult int int") => `(tactic| (k_here; (with_reducible refine mulN_int (by omega) (by omega) (by omega) ?_); intro sh hsh hsh0))
local macro_rules | `(tactic| walk_at "binaryOp LShift int int") => `(tactic| (k_here; (with_reducible refine shl_int (by omega) ?_ ?_); (exact bits42 (by assumption) (by assumption) (by assumption) (by omega) (by omega) (by omega) (by omega) (by omega) (by omega) (by omega) (by omega)); intro sv hsv))
local macro_rules | `(tactic| k_mem) => `(tactic| ((repeat (first | with_reducible assumption | exact List.mem_cons_self | refine' List.mem_cons_of_mem _ ?_)); done))
local macro_rules | `(tactic| k_all) => `(tactic| first | assumption | exact ne_of_lt_all (by assumption) (by omega) | exact ne_of_gt_all (by assumption) (by omega))
local macro_rules | `(tactic| walk_at "my enterN") => `(tactic| (refine' code_nest ?k1 ?k2 ?k3 ?k4 ?k5 ?kA ?kF ?kK ?k6 ?k7 ?k8 ?k9 ?kB ?_ ?c2 ?c3 ?c4 ?c5; (case kA => exact rfl); (case kF => exact rfl); (case kK => assumption); (case k1 => k_asm); (case k2 => k_asm); (case k3 => k_asm); (case k4 => k_asm); (case k5 => k_asm); (case k6 => k_mem); (case k7 => exact codeRec_news (by k_asm) (by k_mem) (by assumption) (by assumption)); (case k8 => ktr_room); (case k9 => exact BindsTo.of_eq rfl); (case c5 => decide); (case kB => exact locs rfl); (case c2 => exact rfl); (case c3 => exact rfl); (case c4 => exact rfl); k_whole; intro g' L' h' FG' F' N' B' X' T'; (try dsimp only); (try k_lift B'); (try k_fold)))
local macro_rules | `(tactic| walk_at "call ref") => `(tactic| (k_here; k_dflt (refine' In42.use (by assumption) ?k1 ?k2 ?k3 ?k4 ?k5 ?k6 ?k7 ?k8 ?k10 ?k11 ?k12 ?k13 ?kd ?ku ?_; (case k1 => k_asm); (case k2 => k_asm); (case k3 => k_asm); (case k4 => k_asm); (case k5 => k_asm); (case k6 => k_asm); (case k7 => k_asm); (case k8 => first | exact rfl | assumption); (case k10 => omega); (case k11 => omega); (case k12 => omega); (case k13 => omega); (case kd => ktr_room); (case ku => ktr_units)); intro h' tk' v t hv F' N'; (try dsimp only); (try k_sweep)))
theorem it_int {prog : Program} {w : World} {A : Around} {E : Value → Shared → Prop} {s : Shared} {Q : Value → Shared → Prop} {value slice : PySem.Expr} {h₀ : Heap} {L D : Addr} {news : List (Addr × Obj)} {vs : List Value} {ns : List Int} {cnt : Nat} {j : Int} {u : Tok}
    (N : News h₀ L s.heap news) (hm : (D, listOf vs.toArray cnt) ∈ news) (hi : IntsAre vs ns) (h0 : 0 ≤ j) (h1 : j < ns.length) (hfit : j < 2 ^ 63) (h : ∀ t, Q (.int (ns.getD j.toNat 0) t) s)
    (hs : subscripted slice false (.ref D) (.int j u) = operate [.ref D, .int j u] (getItem (.ref D) (.int j u)) := by with_unfolding_all rfl) :
    wpAny (model prog w) A (subscriptTail value slice (.ref D) (.int j u)) Q E s :=
  item_anyK (PySem.IsL.isList (n := cnt) (N _ hm).1) hi h0 h1 hfit h hs
local macro_rules | `(tactic| walk_at "subscriptTail") => `(tactic| (k_here; (with_reducible show wpAny _ _ (subscriptTail _ _ (Value.ref _) (Value.int _ _)) _ _ _); k_dflt (refine' it_int ?k1 ?k2 ?k3 ?k4 ?k5 ?k6 ?_ ?k7; (case k1 => k_asm); (case k2 => k_mem); (case k3 => with_reducible assumption); (case k4 => omega); (case k5 => omega); (case k6 => omega); (case k7 => with_unfolding_all rfl); k_whole); intro t; (try dsimp only)))

set_option maxRecDepth 100000 in
set_option maxHeartbeats 8000000 in
set_option pp.deepTerms.threshold 5 in
theorem in42_step (w : World) (params : Arguments) (body : List Stmt) (scope : Scope) (hbody : inner42 w = some (params, body, scope))
    (rest : List (Addr × Obj)) (D f c' an ai aa : Addr) (name qual : Str) (doc pm ctv : Value) (oc on oi oa : Obj) (vs0 : Array Value) (t0 tn : Tok) (n : Int) (vs : List Value) (ns : List Int) (cnt : Nat)
    (hf : (f, fnMade name qual params body scope [("n", an), ("inner", ai), ("digits", aa)] doc pm c' ctv) ∈ rest)
    (hc : (c', oc) ∈ rest) (hoc : oc.data = .fields vs0) (hq : vs0[1]? = some (.str qual t0))
    (hcn : (an, on) ∈ rest) (hcn' : on.data = .cell (some (.int n tn)))
    (hci : (ai, oi) ∈ rest) (hci' : oi.data = .cell (some (.ref f)))
    (hca : (aa, oa) ∈ rest) (hca' : oa.data = .cell (some (.ref D)))
    (hD : (D, listOf vs.toArray cnt) ∈ rest) (hvs : IntsAre vs ns) (hlen : ns.length ≤ 60) (hbd : ∀ i, i < ns.length → 0 ≤ ns.getD i 0 ∧ ns.getD i 0 < (2 ^ n.toNat : Nat)) (hn1 : 1 ≤ n) (hn2 : n ≤ 100000) (k : Nat)
    (ih : ∀ j, j < k → In42 w f rest n ns j) : In42 w f rest n ns k := by
  have e2 := (rfl : inner42 w = some (_, _, _))
  rw [e2] at hbody
  cases hbody
  unfold In42
  intro lo hi tl th hlo hhi hle
  unfold Claim
  w_top off
  k_fill
  intro p loose mean mg mb dp un gd cn cs ca ccd cl outer A₀ base h₀ L m s Q E B F X N T C1 C2 hk hdp hun hret
  refine wpAny_call ?_
  k_dflt (walk_at "my enterN")
  k_steps
  · have hk0 : k = 0 := by omega
    subst hk0
    exact hret _ _ _ _ ⟨rfl, ktn_int (by simp [dv])⟩ (by assumption) (by assumption)
  · refine hret _ _ _ _ ⟨rfl, ktn_int ?_⟩ (by assumption) (by assumption)
    refine dv_join (by assumption) (by assumption) (by assumption) (by assumption) ?_ ?_ ?_ ?_ ?_ <;> omega

theorem in42_all (w : World) (params : Arguments) (body : List Stmt) (scope : Scope) (hbody : inner42 w = some (params, body, scope))
    (rest : List (Addr × Obj)) (D f c' an ai aa : Addr) (name qual : Str) (doc pm ctv : Value) (oc on oi oa : Obj) (vs0 : Array Value) (t0 tn : Tok) (n : Int) (vs : List Value) (ns : List Int) (cnt : Nat)
    (hf : (f, fnMade name qual params body scope [("n", an), ("inner", ai), ("digits", aa)] doc pm c' ctv) ∈ rest)
    (hc : (c', oc) ∈ rest) (hoc : oc.data = .fields vs0) (hq : vs0[1]? = some (.str qual t0))
    (hcn : (an, on) ∈ rest) (hcn' : on.data = .cell (some (.int n tn)))
    (hci : (ai, oi) ∈ rest) (hci' : oi.data = .cell (some (.ref f)))
    (hca : (aa, oa) ∈ rest) (hca' : oa.data = .cell (some (.ref D)))
    (hD : (D, listOf vs.toArray cnt) ∈ rest) (hvs : IntsAre vs ns) (hlen : ns.length ≤ 60) (hbd : ∀ i, i < ns.length → 0 ≤ ns.getD i 0 ∧ ns.getD i 0 < (2 ^ n.toNat : Nat)) (hn1 : 1 ≤ n) (hn2 : n ≤ 100000) :
    ∀ k j, j < k → In42 w f rest n ns j := by
  intro k
  induction k with
  | zero => intro j hj; exact absurd hj (Nat.not_lt_zero _)
  | succ k ih => exact fun j hj => in42_step w params body scope hbody rest D f c' an ai aa name qual doc pm ctv oc on oi oa vs0 t0 tn n vs ns cnt hf hc hoc hq hcn hcn' hci hci' hca hca' hD hvs hlen hbd hn1 hn2 j fun i hi => ih i (by omega)

end SIn42
section SF35
open PySem PySem.W PyProof.Rows PySem.Calls PySem.Spec

theorem mem_rest {pre post : List (Addr × Obj)} {a D : Addr} {o o' : Obj} (h : (a, o) ∈ pre ++ (D, o') :: post) (hne : o ≠ o') : (a, o) ∈ pre ++ post := by
  rcases List.mem_append.mp h with h | h
  · exact List.mem_append_left _ h
  · rcases List.mem_cons.mp h with h | h
    · exact absurd (congrArg Prod.snd h) hne
    · exact List.mem_append_right _ h

theorem ne_of_data {o o' : Obj} (h : o.data ≠ o'.data) : o ≠ o' := fun e => h (congrArg Obj.data e)

/-- the call of _int2digits' inner, by its contract -/
theorem i2d_call {w : World} {params : Arguments} {body : List Stmt} {scope : Scope} 
    {led : List (Addr × Obj)} {g : Obj → List (Addr × Obj)} {D f c' an ai aa : Addr} {name qual : Str} {doc pm ctv : Value} {oc on oi oa : Obj} {vs0 : Array Value} {t0 tn : Tok} {n : Int}
    {x lo hi : Int} {tx tl th : Tok} {vs : List Value} {ns : List Int} {cnt : Nat} {p : Program} {loose : List Str} {mean : ExcName → Option Value} {mg mb : Str → Option Value}
    {dp un : Nat} {gd : Option (List Code)} {cn : Str} {cs : Scope} {a : Addr} {ccd : Value} {cl : List (Str × Addr)} {outer : List Env} {A₀ : Around} {base h₀ : Heap} {L : Addr} {m : Str → Option Value} {s : Shared} {Q E : Value → Shared → Prop}
    (B : Below A₀ base outer h₀) (F : Fr h₀ L s.heap m) (X : (hd.heap_39 w.params).In h₀) (N : News h₀ L s.heap led) (T : Top p loose mean mg mb h₀) (C1 : CodeHd base 41 37) (C2 : CodeHd base 34 30) (hk : cs.kind = .function)
    (hf : (f, fnMade name qual params body scope [("n", an), ("inner", ai), ("a_digits", aa)] doc pm c' ctv) ∈ led)
    (hbody : inner35 w = some (params, body, scope))
    (hc : (c', oc) ∈ led) (hoc : oc.data = .fields vs0) (hq : vs0[1]? = some (.str qual t0))
    (hcn : (an, on) ∈ led) (hcn' : on.data = .cell (some (.int n tn)))
    (hci : (ai, oi) ∈ led) (hci' : oi.data = .cell (some (.ref f)))
    (hca : (aa, oa) ∈ led) (hca' : oa.data = .cell (some (.ref D)))
    (U : UpdF D (listOf vs.toArray cnt) led g)
    (hvs : IntsAre vs ns) (hn1 : 1 ≤ n) (hn2 : n ≤ 100000) (h1 : 0 ≤ lo) (h2 : lo < hi) (h4 : hi ≤ ns.length) (h5 : ns.length ≤ 60) (hx : 0 ≤ x) (hxb : x.toNat < 2 ^ (n.toNat * (hi - lo).toNat))
    (hd : dp + 60 < recursionLimit) (hu : un + 480 < cLine)
    (hret : ∀ h' tk' vs' ns', Fr h₀ L h' m → News h₀ L h' (g (listOf vs'.toArray cnt)) → IntsAre vs' ns' → Wr ns lo.toNat hi.toNat x.toNat n.toNat ns' → ns'.length = ns.length → Q .none { s with heap := h', toks := tk' }) :
    wpAny (model PySem.Challenge.rw_ie0003_01.prog w) (ktrTop dp un gd cn cs L a ccd cl outer) (call (.ref f) [.int x tx, .int lo tl, .int hi th]) Q E s := by
  obtain ⟨pre, post, rfl, hg, ha, hb⟩ := U.split
  have hD : ∀ q ∈ pre ++ post, q.1 ≠ D := fun q hq => (List.mem_append.mp hq).elim (ha q) (hb q)
  have N' : News h₀ L s.heap ((D, listOf vs.toArray cnt) :: (pre ++ post)) := fun q hq => by
    refine N q ?_
    rcases List.mem_cons.mp hq with rfl | hq
    · exact List.mem_append_right _ (.head _)
    · exact (List.mem_append.mp hq).elim (List.mem_append_left _) fun h => List.mem_append_right _ (.tail _ h)
  refine In35.use (k := 60) (in35_all w params body scope hbody (pre ++ post) D f c' an ai aa name qual doc pm ctv oc on oi oa vs0 t0 tn n (mem_rest hf (ne_of_data nofun)) (mem_rest hc (ne_of_data (by rw [hoc]; nofun))) hoc hq (mem_rest hcn (ne_of_data (by rw [hcn']; nofun))) hcn' (mem_rest hci (ne_of_data (by rw [hci']; nofun))) hci'
    (mem_rest hca (ne_of_data (by rw [hca']; nofun))) hca' hD hn1 hn2 60) B F X N' T C1 C2 hk hvs h1 h2 (by omega) h4 h5 hx hxb hd (by omega) ?_
  intro h' tk' vs' ns' F' N2 hvs' hW hl
  refine hret h' tk' vs' ns' F' (fun q hq => N2 q ?_) hvs' hW hl
  rw [hg] at hq
  rcases List.mem_append.mp hq with hq | hq
  · exact .tail _ (List.mem_append_left _ hq)
  · rcases List.mem_cons.mp hq with rfl | hq
    · exact .head _
    · exact .tail _ (List.mem_append_right _ hq)

def q35 : Str := (Str.ofString "_int2digits" ++ (".<locals>." : Str)) ++ Str.ofString "inner"
abbrev tab30 (c : Addr) : Obj := tabObj #[rawInt 32, rawInt 4, .ref c]

def Digs (a n : Int) (ns : List Int) : Prop :=
  ns.length = (((Builtin.Int.intBits a : Int) + n - 1).fdiv n).toNat ∧ ∀ i, i < ns.length → ns.getD i 0 = ((a.toNat / 2 ^ (n.toNat * i) % 2 ^ n.toNat : Nat) : Int)

local macro_rules | `(tactic| walk_at "my enterC") => `(tactic| (refine' code_defC ?k1 ?k2 ?k3 ?k4 ?k5 ?kA ?kF ?kK ?k6 ?k7 ?k8 ?k9 ?kB ?kD ?_ ?c2 ?c3 ?c4; (case kA => exact rfl); (case kF => exact rfl); (case kK => assumption); (case k1 => k_asm); (case k2 => k_asm); (case k3 => k_asm); (case k4 => k_asm); (case k5 => k_asm); (case k6 => k_is); (case k7 => k_is); (case k8 => ktr_room); (case k9 => exact BindsTo.of_eq rfl); (case kB => exact rfl); (case kD => decide +kernel); (case c2 => exact rfl); (case c3 => exact rfl); (case c4 => exact rfl); k_whole; intro g' L' h' tk' cells' FG' F' N' Y' B' X' T' l1; (have lR := lt_tail2 l1); (try k_lt l1); k_cells Y'; (try simp only [List.cons_append, List.nil_append] at N'); (try dsimp only); (try k_lift B'); (try k_fold)))
local macro_rules | `(tactic| k_mem) => `(tactic| ((repeat (first | with_reducible assumption | exact List.mem_cons_self | refine' List.mem_cons_of_mem _ ?_)); done))
local macro_rules | `(tactic| k_all) => `(tactic| first | assumption | exact ne_of_lt_all (by assumption) (by omega) | exact ne_of_gt_all (by assumption) (by omega))



theorem bits_lt (a : Int) : a.natAbs < 2 ^ Builtin.Int.intBits a := intBits_le_iff.mp (Nat.le_refl _)
theorem fdiv_up {b n : Int} (hn : 1 ≤ n) (hb : 0 ≤ b) : b ≤ n * ((b + n - 1).fdiv n) ∧ 0 ≤ (b + n - 1).fdiv n := by
  rw [Int.fdiv_eq_ediv_of_nonneg _ (by omega)]
  have h1 := Int.emod_add_mul_ediv (b + n - 1) n
  have h2 := Int.emod_lt_of_pos (b + n - 1) (show 0 < n by omega)
  refine ⟨by omega, Int.ediv_nonneg (by omega) (by omega)⟩
theorem i2d_bound {a n : Int} {k : Int} (hn : 1 ≤ n) (ha : 0 ≤ a) (hk : k = ((Builtin.Int.intBits a : Int) + n - 1).fdiv n) : a.toNat < 2 ^ (n.toNat * (k - 0).toNat) := by
  obtain ⟨h1, h2⟩ := fdiv_up (b := (Builtin.Int.intBits a : Int)) hn (by omega)
  rw [← hk] at h1 h2
  have h3 : Builtin.Int.intBits a ≤ n.toNat * (k - 0).toNat := by
    have e : ((n.toNat * (k - 0).toNat : Nat) : Int) = n * k := by
      rw [Int.natCast_mul, Int.toNat_of_nonneg (by omega), Int.toNat_of_nonneg (by omega), Int.sub_zero]
    omega
  have h4 := bits_lt a
  have e : a.natAbs = a.toNat := by omega
  rw [e] at h4
  exact Nat.lt_of_lt_of_le h4 (Nat.pow_le_pow_right (by decide) h3)

theorem i2d_bound2 {a n : Int} {n1 : Nat} (hn : 1 ≤ n) (ha : 0 ≤ a) (h : (n1 : Int) = ((Builtin.Int.intBits a : Int) + n - 1).fdiv n) : a.toNat < 2 ^ (n.toNat * ((n1 : Int) - 0).toNat) := i2d_bound hn ha h

theorem rep_flat {α : Type} (x : α) : ∀ k : Nat, (List.replicate k [x]).flatten = List.replicate k x
  | 0 => rfl
  | k + 1 => by rw [List.replicate_succ, List.flatten_cons, rep_flat x k, List.replicate_succ]; rfl
theorem rep_getD (k i : Nat) : (List.replicate k (0 : Int)).getD i 0 = 0 := by
  rw [List.getD_eq_getElem?_getD, List.getElem?_replicate]
  split <;> rfl
theorem Digs.of_wr {a n : Int} {k : Int} {n1 : Nat} {ns : List Int} (h : Wr (List.replicate k.toNat [(0 : Int)]).flatten (0 : Int).toNat (n1 : Int).toNat a.toNat n.toNat ns) (hl : ns.length = (List.replicate k.toNat [(0 : Int)]).flatten.length)
    (hk : k = ((Builtin.Int.intBits a : Int) + n - 1).fdiv n) (h1 : (n1 : Int) = k) : Digs a n ns := by
  rw [rep_flat] at hl h
  rw [List.length_replicate] at hl
  refine ⟨by rw [hl, hk], fun i hi => ?_⟩
  rw [h.2 i (by rw [List.length_replicate]; omega), if_pos (by show 0 ≤ i ∧ i < n1; omega)]
  rfl
theorem Digs.of_zero {a n : Int} {k : Int} (hk : k = ((Builtin.Int.intBits a : Int) + n - 1).fdiv n) (h0 : a = 0) : Digs a n (List.replicate k.toNat [(0 : Int)]).flatten := by
  rw [rep_flat]
  refine ⟨by rw [List.length_replicate, hk], fun i hi => ?_⟩
  rw [rep_getD, h0]
  simp

local macro_rules | `(tactic| walk_at "call ref") => `(tactic| (k_here; (with_reducible show wpAny _ _ (call (Value.ref _) [Value.int _ _, Value.int _ _, Value.int _ _]) _ _ _); k_dflt (refine' i2d_call ?k1 ?k2 ?k3 ?k4 ?k5 ?k6 ?k7 ?k8 ?kf ?kb ?kc ?koc ?kq ?kcn ?kcn2 ?kci ?kci2 ?kca ?kca2 ?kU ?k9 ?kn1 ?kn2 ?k10 ?k11 ?k13 ?k14 ?k15 ?k16 ?kd ?ku ?_; (case k1 => k_asm); (case k2 => k_asm); (case k3 => k_asm); (case k4 => k_asm); (case k5 => k_asm); (case k6 => k_asm); (case k7 => k_asm); (case k8 => first | exact rfl | assumption); (case kf => k_mem); (case kb => exact rfl); (case kc => k_mem); (case koc => assumption); (case kq => assumption); (case kcn => k_mem); (case kcn2 => k_asm); (case kci => k_mem); (case kci2 => k_asm); (case kca => k_mem); (case kca2 => k_asm); (case kU => k_updF); (case k9 => assumption); (case kn1 => omega); (case kn2 => omega); (case k10 => omega); (case k11 => omega); (case k13 => omega); (case k14 => omega); (case k15 => assumption); (case k16 => exact i2d_bound2 (by assumption) (by assumption) (by omega)); (case kd => ktr_room); (case ku => ktr_units)); intro h2' tk2' vs2' ns2' F2' N2' hvs2' hW2' hl2'; (try dsimp only at N2'); (try dsimp only); (try k_sweep)))
def Post35a (p37 : Array Value) (rest : List (Addr × Obj)) (a n : Int) (r : Value) (news' : List (Addr × Obj)) : Prop :=
  ∃ D c oc vs ns, r = .ref D ∧ news' = (D, listOf vs.toArray 0) :: (c, oc) :: (37, tabObj p37) :: (30, tab30 c) :: rest ∧ CodeOk q35 oc ∧ IntsAre vs ns ∧ Digs a n ns ∧ (∀ q ∈ rest, q.1 < D) ∧ (∀ q ∈ rest, q.1 < c) ∧ @LT.lt Nat _ 37 D ∧ @LT.lt Nat _ D c

theorem fin35a {p37 : Array Value} {rest : List (Addr × Obj)} {a n : Int} {h₀ h : Heap} {L D c l x1 x2 x3 f Lx : Addr} {m : Str → Option Value} {s : Shared} {Q : Value → Shared → Prop} {fo oc lo o1 o2 o3 : Obj} {vs : List Value} {ns : List Int} {tk : Nat} {vs0 : Array Value} {t0 : Tok}
    (hret : ∀ r news' h' tk', Post35a p37 rest a n r news' → Fr h₀ L h' m → News h₀ L h' news' → Q r { s with heap := h', toks := tk' })
    (N : News h₀ L h ((f, fo) :: (c, oc) :: (D, listOf vs.toArray 0) :: (l, lo) :: (x3, o3) :: (x2, o2) :: (x1, o1) :: (37, tabObj p37) :: (30, tab30 c) :: rest)) (F : Fr h₀ L h m)
    (hc1 : oc.data = .fields vs0) (hc2 : vs0[1]? = some (.str q35 t0)) (hvs : IntsAre vs ns) (hdg : Digs a n ns) (hR : ∀ q ∈ rest, q.1 < Lx) (h1 : @LE.le Nat _ Lx D) (h2 : @LT.lt Nat _ D c) (h3 : @LT.lt Nat _ 37 D) : Q (.ref D) { s with heap := h, toks := tk } := by
  refine hret _ _ _ _ ⟨D, c, oc, vs, ns, rfl, rfl, ⟨_, _, hc1, hc2⟩, hvs, hdg, fun q hq => Nat.lt_of_lt_of_le (hR q hq) h1, fun q hq => Nat.lt_trans (Nat.lt_of_lt_of_le (hR q hq) h1) h2, h3, h2⟩ F (cb_drop N ?_)
  intro q hq
  simp only [List.mem_cons] at hq ⊢
  rcases hq with hq | hq | hq | hq | hq <;> simp only [hq, true_or, or_true]

set_option maxRecDepth 100000 in
set_option maxHeartbeats 8000000 in
set_option pp.deepTerms.threshold 5 in
theorem i2d_first (w : World) (p37 : Array Value) (rest : List (Addr × Obj)) (hr : ∀ q ∈ rest, 37 < q.1) (a n : Int) (ta tn : Tok) (hn : 1 ≤ n) (hn2 : n ≤ 100000) (ha : 0 ≤ a) (hk0 : 0 ≤ ((Builtin.Int.intBits a : Int) + n - 1).fdiv n) (hk1 : ((Builtin.Int.intBits a : Int) + n - 1).fdiv n ≤ 60) (hk2 : a ≠ 0 → 1 ≤ ((Builtin.Int.intBits a : Int) + n - 1).fdiv n)
   : Claim w 35 62 ((37, tabObj p37) :: (30, tabObj #[]) :: rest) [.int a ta, .int n tn] (Post35a p37 rest a n) := by
  unfold Claim
  w_top off
  k_fill
  intro p loose mean mg mb dp un gd cn cs aa ccd cl outer A₀ base h₀ L m s Q E B F X N T C1 C2 hk hdp hun hret
  refine wpAny_call ?_
  k_dflt (walk_at "my enterC")
  k_steps
  · refine fin35a hret (by assumption) (by assumption) (by assumption) (by assumption) (by assumption) (Digs.of_wr (by assumption) (by assumption) rfl (by omega)) (by assumption) (by omega) (by omega) (by omega)
  · have h0 : a = 0 := by assumption
    refine fin35a hret (by assumption) (by assumption) (by assumption) (by assumption) (by assumption) (Digs.of_zero rfl h0) (by assumption) (by omega) (by omega) (by omega)
def Post35b (p37 : Array Value) (c : Addr) (rest : List (Addr × Obj)) (a n : Int) (r : Value) (news' : List (Addr × Obj)) : Prop :=
  ∃ D vs ns, r = .ref D ∧ news' = (D, listOf vs.toArray 0) :: (37, tabObj p37) :: (30, tab30 c) :: rest ∧ IntsAre vs ns ∧ Digs a n ns ∧ (∀ q ∈ rest, q.1 < D) ∧ @LT.lt Nat _ 37 D

theorem fin35b {p37 : Array Value} {rest : List (Addr × Obj)} {a n : Int} {h₀ h : Heap} {L D c l x1 x2 x3 f Lx : Addr} {m : Str → Option Value} {s : Shared} {Q : Value → Shared → Prop} {fo lo o1 o2 o3 : Obj} {vs : List Value} {ns : List Int} {tk : Nat}
    (hret : ∀ r news' h' tk', Post35b p37 c rest a n r news' → Fr h₀ L h' m → News h₀ L h' news' → Q r { s with heap := h', toks := tk' })
    (N : News h₀ L h ((f, fo) :: (D, listOf vs.toArray 0) :: (l, lo) :: (x3, o3) :: (x2, o2) :: (x1, o1) :: (37, tabObj p37) :: (30, tab30 c) :: rest)) (F : Fr h₀ L h m)
    (hvs : IntsAre vs ns) (hdg : Digs a n ns) (hR : ∀ q ∈ rest, q.1 < Lx) (h1 : @LE.le Nat _ Lx D) (h3 : @LT.lt Nat _ 37 D) : Q (.ref D) { s with heap := h, toks := tk } := by
  refine hret _ _ _ _ ⟨D, vs, ns, rfl, rfl, hvs, hdg, fun q hq => Nat.lt_of_lt_of_le (hR q hq) h1, h3⟩ F (cb_drop N ?_)
  intro q hq
  simp only [List.mem_cons] at hq ⊢
  rcases hq with hq | hq | hq | hq <;> simp only [hq, true_or, or_true]

set_option maxRecDepth 100000 in
set_option maxHeartbeats 8000000 in
set_option pp.deepTerms.threshold 5 in
theorem i2d_full (w : World) (p37 : Array Value) (rest : List (Addr × Obj)) (c : Addr) (oc : Obj) (hmc : (c, oc) ∈ rest) (hoc : CodeOk q35 oc) (hr : ∀ q ∈ rest, 37 < q.1) (a n : Int) (ta tn : Tok) (hn : 1 ≤ n) (hn2 : n ≤ 100000) (ha : 0 ≤ a) (hk0 : 0 ≤ ((Builtin.Int.intBits a : Int) + n - 1).fdiv n) (hk1 : ((Builtin.Int.intBits a : Int) + n - 1).fdiv n ≤ 60) (hk2 : a ≠ 0 → 1 ≤ ((Builtin.Int.intBits a : Int) + n - 1).fdiv n)
   : Claim w 35 62 ((37, tabObj p37) :: (30, tab30 c) :: rest) [.int a ta, .int n tn] (Post35b p37 c rest a n) := by
  obtain ⟨vsc, tc, hoc1, hoc2⟩ := hoc
  unfold Claim
  w_top off
  k_fill
  intro p loose mean mg mb dp un gd cn cs aa ccd cl outer A₀ base h₀ L m s Q E B F X N T C1 C2 hk hdp hun hret
  refine wpAny_call ?_
  k_dflt (walk_at "my enterC")
  k_steps
  · refine fin35b hret (by assumption) (by assumption) (by assumption) (Digs.of_wr (by assumption) (by assumption) rfl (by omega)) (by assumption) (by omega) (by omega)
  · have h0 : a = 0 := by assumption
    refine fin35b hret (by assumption) (by assumption) (by assumption) (Digs.of_zero rfl h0) (by assumption) (by omega) (by omega)

end SF35
section SF42
open PySem PySem.W PyProof.Rows PySem.Calls PySem.Spec

/-- the call of _digits2int's inner, by its contract -/
theorem d2i_call {w : World} {params : Arguments} {body : List Stmt} {scope : Scope} 
    {led : List (Addr × Obj)} {D f c' an ai aa : Addr} {name qual : Str} {doc pm ctv : Value} {oc on oi oa : Obj} {vs0 : Array Value} {t0 tn : Tok} {n : Int}
    {lo hi : Int} {tl th : Tok} {vs : List Value} {ns : List Int} {cnt : Nat} {p : Program} {loose : List Str} {mean : ExcName → Option Value} {mg mb : Str → Option Value}
    {dp un : Nat} {gd : Option (List Code)} {cn : Str} {cs : Scope} {a : Addr} {ccd : Value} {cl : List (Str × Addr)} {outer : List Env} {A₀ : Around} {base h₀ : Heap} {L : Addr} {m : Str → Option Value} {s : Shared} {Q E : Value → Shared → Prop}
    (B : Below A₀ base outer h₀) (F : Fr h₀ L s.heap m) (X : (hd.heap_39 w.params).In h₀) (N : News h₀ L s.heap led) (T : Top p loose mean mg mb h₀) (C1 : CodeHd base 41 37) (C2 : CodeHd base 34 30) (hk : cs.kind = .function)
    (hf : (f, fnMade name qual params body scope [("n", an), ("inner", ai), ("digits", aa)] doc pm c' ctv) ∈ led)
    (hbody : inner42 w = some (params, body, scope))
    (hc : (c', oc) ∈ led) (hoc : oc.data = .fields vs0) (hq : vs0[1]? = some (.str qual t0))
    (hcn : (an, on) ∈ led) (hcn' : on.data = .cell (some (.int n tn)))
    (hci : (ai, oi) ∈ led) (hci' : oi.data = .cell (some (.ref f)))
    (hca : (aa, oa) ∈ led) (hca' : oa.data = .cell (some (.ref D)))
    (hD : (D, listOf vs.toArray cnt) ∈ led)
    (hvs : IntsAre vs ns) (hbd : ∀ i, i < ns.length → 0 ≤ ns.getD i 0 ∧ ns.getD i 0 < (2 ^ n.toNat : Nat)) (hn1 : 1 ≤ n) (hn2 : n ≤ 100000) (h1 : 0 ≤ lo) (h2 : lo < hi) (h4 : hi ≤ ns.length) (h5 : ns.length ≤ 60)
    (hd : dp + 60 < recursionLimit) (hu : un + 480 < cLine)
    (hret : ∀ h' tk' v t, v = dv n.toNat ns lo.toNat (hi - lo).toNat → Fr h₀ L h' m → News h₀ L h' led → Q (.int v t) { s with heap := h', toks := tk' }) :
    wpAny (model PySem.Challenge.rw_ie0003_01.prog w) (ktrTop dp un gd cn cs L a ccd cl outer) (call (.ref f) [.int lo tl, .int hi th]) Q E s :=
  In42.use (k := 60) (in42_all w params body scope hbody led D f c' an ai aa name qual doc pm ctv oc on oi oa vs0 t0 tn n vs ns cnt hf hc hoc hq hcn hcn' hci hci' hca hca' hD hvs h5 hbd hn1 hn2 60) B F X N T C1 C2 hk h1 h2 (by omega) h4 hd (by omega) hret

def q42 : Str := (Str.ofString "_digits2int" ++ (".<locals>." : Str)) ++ Str.ofString "inner"
abbrev tab37 (c : Addr) : Obj := tabObj #[rawInt 47, rawInt 4, .ref c]

local macro_rules | `(tactic| walk_at "my enterC") => `(tactic| (refine' code_defC ?k1 ?k2 ?k3 ?k4 ?k5 ?kA ?kF ?kK ?k6 ?k7 ?k8 ?k9 ?kB ?kD ?_ ?c2 ?c3 ?c4; (case kA => exact rfl); (case kF => exact rfl); (case kK => assumption); (case k1 => k_asm); (case k2 => k_asm); (case k3 => k_asm); (case k4 => k_asm); (case k5 => k_asm); (case k6 => k_is); (case k7 => k_is); (case k8 => ktr_room); (case k9 => exact BindsTo.of_eq rfl); (case kB => exact rfl); (case kD => decide +kernel); (case c2 => exact rfl); (case c3 => exact rfl); (case c4 => exact rfl); k_whole; intro g' L' h' tk' cells' FG' F' N' Y' B' X' T' l1; (have lR := lt_tail2 l1); (try k_lt l1); k_cells Y'; (try simp only [List.cons_append, List.nil_append] at N'); (try dsimp only); (try k_lift B'); (try k_fold)))
local macro_rules | `(tactic| k_mem) => `(tactic| ((repeat (first | with_reducible assumption | exact List.mem_cons_self | refine' List.mem_cons_of_mem _ ?_)); done))
local macro_rules | `(tactic| k_all) => `(tactic| first | assumption | exact ne_of_lt_all (by assumption) (by omega) | exact ne_of_gt_all (by assumption) (by omega))
local macro_rules | `(tactic| walk_at "call ref") => `(tactic| (k_here; (with_reducible show wpAny _ _ (call (Value.ref _) [Value.int _ _, Value.int _ _]) _ _ _); k_dflt (refine' d2i_call ?k1 ?k2 ?k3 ?k4 ?k5 ?k6 ?k7 ?k8 ?kf ?kb ?kc ?koc ?kq ?kcn ?kcn2 ?kci ?kci2 ?kca ?kca2 ?kU ?k9 ?khb ?kn1 ?kn2 ?k10 ?k11 ?k13 ?k14 ?kd ?ku ?_; (case k1 => k_asm); (case k2 => k_asm); (case k3 => k_asm); (case k4 => k_asm); (case k5 => k_asm); (case k6 => k_asm); (case k7 => k_asm); (case k8 => first | exact rfl | assumption); (case kf => k_mem); (case kb => exact rfl); (case kc => k_mem); (case koc => assumption); (case kq => assumption); (case kcn => k_mem); (case kcn2 => k_asm); (case kci => k_mem); (case kci2 => k_asm); (case kca => k_mem); (case kca2 => k_asm); (case kU => k_mem); (case k9 => assumption); (case khb => assumption); (case kn1 => omega); (case kn2 => omega); (case k10 => omega); (case k11 => omega); (case k13 => omega); (case k14 => omega); (case kd => ktr_room); (case ku => ktr_units)); intro h2' tk2' v2' t2' hv2' F2' N2'; (try dsimp only); (try k_sweep)))

theorem truthy_led {prog : Program} {w : World} {A : Around} {E : Value → Shared → Prop} {s : Shared} {h₀ : Heap} {L D : Addr} {news : List (Addr × Obj)} {vs : List Value} {ns : List Int} {cnt : Nat} {Q : Bool → Shared → Prop}
    (N : News h₀ L s.heap news) (hm : (D, listOf vs.toArray cnt) ∈ news) (hi : IntsAre vs ns) (hfit : ns.length < 2 ^ 62) (h : ∀ k, Q (decide (0 < ns.length)) { s with toks := k }) : wpAny (model prog w) A (truthy (.ref D)) Q E s :=
  truthy_ints_fit (PySem.IsL.isList (n := cnt) (N _ hm).1) hi hfit (h _)
theorem len_led {prog : Program} {w : World} {A : Around} {E : Value → Shared → Prop} {s : Shared} {h₀ : Heap} {L D : Addr} {news : List (Addr × Obj)} {vs : List Value} {ns : List Int} {cnt : Nat} {Q : Value → Shared → Prop}
    (N : News h₀ L s.heap news) (hm : (D, listOf vs.toArray cnt) ∈ news) (hi : IntsAre vs ns) (hfit : ns.length < 2 ^ 62) (h : ∀ t k, Q (.int (ns.length : Nat) t) { s with toks := k }) : wpAny (model prog w) A (call (.builtin "len") [.ref D]) Q E s :=
  len_ints_fit (PySem.IsL.isList (n := cnt) (N _ hm).1) hi hfit (h _ _)
local macro_rules | `(tactic| walk_at "call builtin:len") => `(tactic| (k_here; (with_reducible show wpAny _ _ (call (Value.builtin _) [Value.ref _]) _ _ _); k_dflt (refine' len_led ?k1 ?k2 ?k3 ?k4 ?_; (case k1 => k_asm); (case k2 => k_mem); (case k3 => assumption); (case k4 => omega)); intro tt tkt; (try dsimp only)))
local macro_rules | `(tactic| walk_at "truthy ref") => `(tactic| (k_here; k_dflt (refine' truthy_led ?k1 ?k2 ?k3 ?k4 ?_; (case k1 => k_asm); (case k2 => k_mem); (case k3 => assumption); (case k4 => omega)); intro tkt; (try dsimp only)))
theorem dv_all {v n : Int} {ns : List Int} (h : v = dv n.toNat ns (0 : Int).toNat ((ns.length : Int) - 0).toNat) : v = dv n.toNat ns 0 ns.length := by
  rw [h]
  congr 1
theorem dv_none {n : Int} {ns : List Int} (h : ¬ 0 < ns.length) : (0 : Int) = dv n.toNat ns 0 ns.length := by
  have e : ns.length = 0 := by omega
  rw [e]; rfl

def Post42a (p30 : Array Value) (rest : List (Addr × Obj)) (v : Int) (r : Value) (news' : List (Addr × Obj)) : Prop :=
  ∃ t c oc, r = .int v t ∧ news' = (c, oc) :: (37, tab37 c) :: (30, tabObj p30) :: rest ∧ CodeOk q42 oc ∧ (∀ q ∈ rest, q.1 < c) ∧ @LT.lt Nat _ 37 c
theorem fin42a {p30 : Array Value} {rest : List (Addr × Obj)} {v v' : Int} {h₀ h : Heap} {L c x1 x2 x3 f Lx : Addr} {m : Str → Option Value} {s : Shared} {Q : Value → Shared → Prop} {fo oc o1 o2 o3 : Obj} {tk : Nat} {t : Tok} {vs0 : Array Value} {t0 : Tok}
    (hret : ∀ r news' h' tk', Post42a p30 rest v r news' → Fr h₀ L h' m → News h₀ L h' news' → Q r { s with heap := h', toks := tk' }) (hv : v' = v)
    (N : News h₀ L h ((f, fo) :: (c, oc) :: (x3, o3) :: (x2, o2) :: (x1, o1) :: (37, tab37 c) :: (30, tabObj p30) :: rest)) (F : Fr h₀ L h m)
    (hc1 : oc.data = .fields vs0) (hc2 : vs0[1]? = some (.str q42 t0)) (hR : ∀ q ∈ rest, q.1 < Lx) (h1 : @LE.le Nat _ Lx c) (h3 : @LT.lt Nat _ 37 c) : Q (.int v' t) { s with heap := h, toks := tk } := by
  subst hv
  refine hret _ _ _ _ ⟨t, c, oc, rfl, rfl, ⟨_, _, hc1, hc2⟩, fun q hq => Nat.lt_of_lt_of_le (hR q hq) h1, h3⟩ F (cb_drop N ?_)
  intro q hq
  simp only [List.mem_cons] at hq ⊢
  rcases hq with hq | hq | hq | hq <;> simp only [hq, true_or, or_true]

def Post42b (c : Addr) (p30 : Array Value) (rest : List (Addr × Obj)) (v : Int) (r : Value) (news' : List (Addr × Obj)) : Prop :=
  ∃ t, r = .int v t ∧ news' = (37, tab37 c) :: (30, tabObj p30) :: rest
theorem fin42b {p30 : Array Value} {rest : List (Addr × Obj)} {v v' : Int} {h₀ h : Heap} {L c x1 x2 x3 f : Addr} {m : Str → Option Value} {s : Shared} {Q : Value → Shared → Prop} {fo o1 o2 o3 : Obj} {tk : Nat} {t : Tok}
    (hret : ∀ r news' h' tk', Post42b c p30 rest v r news' → Fr h₀ L h' m → News h₀ L h' news' → Q r { s with heap := h', toks := tk' }) (hv : v' = v)
    (N : News h₀ L h ((f, fo) :: (x3, o3) :: (x2, o2) :: (x1, o1) :: (37, tab37 c) :: (30, tabObj p30) :: rest)) (F : Fr h₀ L h m) : Q (.int v' t) { s with heap := h, toks := tk } := by
  subst hv
  refine hret _ _ _ _ ⟨t, rfl, rfl⟩ F (cb_drop N ?_)
  intro q hq
  simp only [List.mem_cons] at hq ⊢
  rcases hq with hq | hq | hq <;> simp only [hq, true_or, or_true]

set_option maxRecDepth 100000 in
set_option maxHeartbeats 8000000 in
theorem d2i_first (w : World) (p30 : Array Value) (rest : List (Addr × Obj)) (D : Addr) (vs : List Value) (ns : List Int) (cnt : Nat) (hmD : (D, listOf vs.toArray cnt) ∈ rest) (hr : ∀ q ∈ rest, 37 < q.1) (n : Int) (tn : Tok) (hn : 1 ≤ n) (hn2 : n ≤ 100000)
   (hvs : IntsAre vs ns) (hlen : ns.length ≤ 60) (hbd : ∀ i, i < ns.length → 0 ≤ ns.getD i 0 ∧ ns.getD i 0 < (2 ^ n.toNat : Nat))
   : Claim w 42 62 ((37, tabObj #[]) :: (30, tabObj p30) :: rest) [.ref D, .int n tn] (Post42a p30 rest (dv n.toNat ns 0 ns.length)) := by
  unfold Claim
  w_top off
  k_fill
  intro p loose mean mg mb dp un gd cn cs aa ccd cl outer A₀ base h₀ L m s Q E B F X N T C1 C2 hk hdp hun hret
  refine wpAny_call ?_
  k_dflt (walk_at "my enterC")
  k_steps
  · refine fin42a hret (dv_all (by assumption)) (by assumption) (by assumption) (by assumption) (by assumption) (by assumption) (by omega) (by omega)
  · refine fin42a hret (dv_none (by assumption)) (by assumption) (by assumption) (by assumption) (by assumption) (by assumption) (by omega) (by omega)

set_option maxRecDepth 100000 in
set_option maxHeartbeats 8000000 in
theorem d2i_full (w : World) (p30 : Array Value) (rest : List (Addr × Obj)) (c : Addr) (oc : Obj) (hmc : (c, oc) ∈ rest) (hoc : CodeOk q42 oc) (D : Addr) (vs : List Value) (ns : List Int) (cnt : Nat) (hmD : (D, listOf vs.toArray cnt) ∈ rest) (hr : ∀ q ∈ rest, 37 < q.1) (n : Int) (tn : Tok) (hn : 1 ≤ n) (hn2 : n ≤ 100000)
   (hvs : IntsAre vs ns) (hlen : ns.length ≤ 60) (hbd : ∀ i, i < ns.length → 0 ≤ ns.getD i 0 ∧ ns.getD i 0 < (2 ^ n.toNat : Nat))
   : Claim w 42 62 ((37, tab37 c) :: (30, tabObj p30) :: rest) [.ref D, .int n tn] (Post42b c p30 rest (dv n.toNat ns 0 ns.length)) := by
  obtain ⟨vsc, tc, hoc1, hoc2⟩ := hoc
  unfold Claim
  w_top off
  k_fill
  intro p loose mean mg mb dp un gd cn cs aa ccd cl outer A₀ base h₀ L m s Q E B F X N T C1 C2 hk hdp hun hret
  refine wpAny_call ?_
  k_dflt (walk_at "my enterC")
  k_steps
  · refine fin42b hret (dv_all (by assumption)) (by assumption) (by assumption)
  · refine fin42b hret (dv_none (by assumption)) (by assumption) (by assumption)


end SF42
section SBase3
open PySem PySem.W PyProof.Rows PySem.Calls PySem.Spec

section
variable {h₀ h : Heap} {L : Addr} {t1 t2 x1 x2 x3 x4 x5 x6 x7 x8 : Addr × Obj} {r : List (Addr × Obj)}
theorem rot1 (N : News h₀ L h (x1 :: t1 :: t2 :: r)) : News h₀ L h (t1 :: t2 :: x1 :: r) := cb_drop N fun q hq => by
  simp only [List.mem_cons] at hq ⊢; rcases hq with hq | hq | hq | hq <;> simp only [hq, true_or, or_true]
theorem rot2 (N : News h₀ L h (x1 :: x2 :: t1 :: t2 :: r)) : News h₀ L h (t1 :: t2 :: x1 :: x2 :: r) := cb_drop N fun q hq => by
  simp only [List.mem_cons] at hq ⊢; rcases hq with hq | hq | hq | hq | hq <;> simp only [hq, true_or, or_true]
theorem rot3 (N : News h₀ L h (x1 :: x2 :: x3 :: t1 :: t2 :: r)) : News h₀ L h (t1 :: t2 :: x1 :: x2 :: x3 :: r) := cb_drop N fun q hq => by
  simp only [List.mem_cons] at hq ⊢; rcases hq with hq | hq | hq | hq | hq | hq <;> simp only [hq, true_or, or_true]
theorem rot4 (N : News h₀ L h (x1 :: x2 :: x3 :: x4 :: t1 :: t2 :: r)) : News h₀ L h (t1 :: t2 :: x1 :: x2 :: x3 :: x4 :: r) := cb_drop N fun q hq => by
  simp only [List.mem_cons] at hq ⊢; rcases hq with hq | hq | hq | hq | hq | hq | hq <;> simp only [hq, true_or, or_true]
theorem rot5 (N : News h₀ L h (x1 :: x2 :: x3 :: x4 :: x5 :: t1 :: t2 :: r)) : News h₀ L h (t1 :: t2 :: x1 :: x2 :: x3 :: x4 :: x5 :: r) := cb_drop N fun q hq => by
  simp only [List.mem_cons] at hq ⊢; rcases hq with hq | hq | hq | hq | hq | hq | hq | hq <;> simp only [hq, true_or, or_true]
theorem rot6 (N : News h₀ L h (x1 :: x2 :: x3 :: x4 :: x5 :: x6 :: t1 :: t2 :: r)) : News h₀ L h (t1 :: t2 :: x1 :: x2 :: x3 :: x4 :: x5 :: x6 :: r) := cb_drop N fun q hq => by
  simp only [List.mem_cons] at hq ⊢; rcases hq with hq | hq | hq | hq | hq | hq | hq | hq | hq <;> simp only [hq, true_or, or_true]
theorem rot7 (N : News h₀ L h (x1 :: x2 :: x3 :: x4 :: x5 :: x6 :: x7 :: t1 :: t2 :: r)) : News h₀ L h (t1 :: t2 :: x1 :: x2 :: x3 :: x4 :: x5 :: x6 :: x7 :: r) := cb_drop N fun q hq => by
  simp only [List.mem_cons] at hq ⊢; rcases hq with hq | hq | hq | hq | hq | hq | hq | hq | hq | hq <;> simp only [hq, true_or, or_true]
theorem rot8 (N : News h₀ L h (x1 :: x2 :: x3 :: x4 :: x5 :: x6 :: x7 :: x8 :: t1 :: t2 :: r)) : News h₀ L h (t1 :: t2 :: x1 :: x2 :: x3 :: x4 :: x5 :: x6 :: x7 :: x8 :: r) := cb_drop N fun q hq => by
  simp only [List.mem_cons] at hq ⊢; rcases hq with hq | hq | hq | hq | hq | hq | hq | hq | hq | hq | hq <;> simp only [hq, true_or, or_true]
end

theorem ne_of_lt_all0 {rest : List (Addr × Obj)} {d : Addr} (h : ∀ q ∈ rest, q.1 < d) : ∀ p ∈ rest, p.1 ≠ d := fun p hp => Nat.ne_of_lt (h p hp)
theorem lt_opq {rest led : List (Addr × Obj)} {k l : Addr} (_hr : ∀ q ∈ rest, k < q.1) (h : ∀ q ∈ led, q.1 < l) (hs : ∀ q ∈ rest, q ∈ led) : ∀ q ∈ rest, q.1 < l := fun q hq => h q (hs q hq)
theorem gt_cons {x : Addr × Obj} {l : List (Addr × Obj)} {k : Addr} (h1 : @LT.lt Nat _ k x.1) (h2 : ∀ q ∈ l, k < q.1) : ∀ q ∈ x :: l, k < q.1 := List.forall_mem_cons.mpr ⟨h1, h2⟩

theorem code_defL {prog : Program} {w : World} {A A₀ : Around} {s : Shared} {K : Frag} {L : Addr} {h₀ base : Heap} {m mg mb : Str → Option Value} {news : List (Addr × Obj)} {p : Program} {loose : List Str} {mean : ExcName → Option Value}
    {env : Env} {outer : List Env} {R : Result → Shared → Prop} {name qual : Str} {params : Arguments} {body : List Stmt} {scope : Scope} {dV kV doc pm cdv ct oc : Value} {an od : Option Addr} {osl : Array (Option Value)} {f : Addr} {args : Args} {binds : List (Str × Value)}
    (B : Below A₀ base outer h₀) (F : Fr h₀ L s.heap m) (X₀ : K.In h₀) (N : News h₀ L s.heap news) (T : Top p loose mean mg mb h₀) (hA : A.frames = some (env :: outer)) (hf : env.frame = some L) (hke : env.scope.kind = .function)
    (ho : K.lookup f = some ⟨oc, od, .func (fnOf name qual params body scope dV kV doc pm an cdv ct), osl⟩) (hcd : codeIn K cdv qual = true) (hroom : A.depth < recursionLimit)
    (hbind : BindsTo s (fnOf name qual params body scope dV kV doc pm an cdv ct) args binds) (hloc : ∀ y ∈ binds, scope.names.lookup y.1 = some .local)
    (h : ∀ g L' h₁, Fr h₀ L g m → Fr g L' h₁ (fun y => binds.reverse.lookup y) → News g L' h₁ news → Below A base (env :: outer) g → K.In g → Top p loose mean mg mb g → (∀ p ∈ news, p.1 < L') →
      wpAny (model prog w) (A.deeper (envOf qual scope L' f cdv)) (execs body (envOf qual scope L' f cdv))
        (fun fl s' => LeaveK h₀ L m g R (match fl with | .ret v => v | _ => .none) s')
        (fun e s' => wpAny (model prog w) (A.deeper (envOf qual scope L' f cdv)) (leaving (envOf qual scope L' f cdv) e) (fun _ s'' => R (.error e) s'') (fun e' s'' => R (.error e') s'') s')
        { s with heap := h₁, toks := s.toks + binds.length })
    (hco : scope.isCoroutine = false) (hgen : scope.isGenerator = false) (hk : scope.kind = .function)
    (hcell : ∀ x ∈ scope.names, x.2 ≠ .cell) : codeAny (model prog w) A (.call (.ref f) args) R s :=
  callX_plain (cl := []) B F N T.nolimit hA hf hke ((X₀.keeps F.keep) _ _ ho) rfl (codeRec_of (X₀.keeps F.keep) hcd) hroom hbind hloc (fun g L' h₁ FG F' N' B' st l => h g L' h₁ FG F' N' B' (X₀.keeps st) (T.keeps st) l) hcell hco hgen hk

theorem divmod_led {prog : Program} {w : World} {A : Around} {E : Value → Shared → Prop} {s : Shared} {h₀ : Heap} {L : Addr} {m : Str → Option Value} {news : List (Addr × Obj)} {a b : Int} {t u : Tok} {Q : Value → Shared → Prop} (F : Fr h₀ L s.heap m) (N : News h₀ L s.heap news) (hb : b ≠ 0) (hp : b.natAbs.log2 < 9000)
    (h : ∀ D h' t1 t2 k, Fr h₀ L h' m → News h₀ L h' ((D, { cls := .type "tuple", data := .seq #[.int (a.fdiv b) t1, .int (a.fmod b) t2] }) :: news) → (∀ q ∈ news, q.1 < D) → Q (.ref D) { s with toks := k, heap := h' }) :
    wpAny (model prog w) A (call (.builtin "divmod") [.int a t, .int b u]) Q E s :=
  divmod_N F N hb (fun h' F' N' => h _ h' _ _ _ F' N' fun q hq => Heap.lt_size (N q hq).1) (Or.inl (PyProof.noPylong_of_log2 hp))

/-- a loop over a list backwards, by what holds ahead of each turn -/
theorem rev_ind {prog : Program} {w : World} {A : Around} {E : Value → Shared → Prop} {s : Shared} {env : Env} {h₀ : Heap} {x : Str} {body : List Stmt} {Q : Flow → Shared → Prop} {I : Addr} {lp : Addr × Obj}
    (J : List Int → (Str → Option Value) → List (Addr × Obj) → Prop)
    (zero : ∀ m news, J [] m news → ∀ h tk, Fr h₀ env.locals h m → News h₀ env.locals h news → Q .next { s with heap := h, toks := tk })
    (succ : ∀ d t rns m news, J (d :: rns) m news → ∀ (it : Obj) h tk, it.cls = .type "list_reverseiterator" → Fr h₀ env.locals h (fun y => if y = x then some (.int d t) else m y) → News h₀ env.locals h ((I, it) :: news) →
      wpAny (model prog w) A (execs body env) (UnrPost h₀ env.locals { s with heap := h, toks := tk } I it (fun m' n' => lp ∈ n' ∧ J rns m' n') Q) E { s with heap := h, toks := tk }) :
    ∀ {rem : List Value} {rns : List Int}, IntsAre rem rns → ∀ m news, J rns m news → RevRest prog w A E h₀ env x body Q s I lp rem m news := by
  intro rem rns hi
  induction hi with
  | nil => exact fun m news hJ => RevRest.zero (zero m news hJ)
  | cons d t _ ih =>
    intro m news hJ
    refine RevRest.succ fun it h tk hc F N => wpAny_mono (succ d t _ m news hJ it h tk hc F N) (fun f s₂ p => ?_) fun _ _ e => e
    cases f with
    | ret v => exact p
    | brk => exact p
    | next =>
      obtain ⟨h', tk', m', news', e, F', N', ho, hm, hj⟩ := p
      exact ⟨h', tk', m', news', e, F', N', ho, hm, ih m' news' hj⟩
    | cont =>
      obtain ⟨h', tk', m', news', e, F', N', ho, hm, hj⟩ := p
      exact ⟨h', tk', m', news', e, F', N', ho, hm, ih m' news' hj⟩


end SBase3
local macro_rules | `(tactic| walk_at "my enterL") => `(tactic| (refine' code_defL ?k1 ?k2 ?k3 ?k4 ?k5 ?kA ?kF ?kK ?k6 ?k7 ?k8 ?k9 ?kB ?_ ?c2 ?c3 ?c4 ?c5; (case kA => exact rfl); (case kF => exact rfl); (case kK => assumption); (case k1 => k_asm); (case k2 => k_asm); (case k3 => k_asm); (case k4 => k_asm); (case k5 => k_asm); (case k6 => k_is); (case k7 => k_is); (case k8 => ktr_room); (case k9 => exact BindsTo.of_eq rfl); (case c5 => decide); (case kB => exact locs rfl); (case c2 => exact rfl); (case c3 => exact rfl); (case c4 => exact rfl); k_whole; intro g' L' h' FG' F' N' B' X' T' l1; (try k_lt l1); (try dsimp only); (try k_lift B'); (try k_fold)))
local macro_rules | `(tactic| k_lt $h:ident) => `(tactic| ((try (have lRR := lt_opq (by assumption) $h (by (intro q hq; repeat (first | exact hq | refine' List.mem_cons_of_mem _ ?_))))); (replace $h := allLt_of $h); (simp only [AllLt, and_true] at $h:ident)))
local macro_rules | `(tactic| k_mem) => `(tactic| ((repeat (first | with_reducible assumption | exact List.mem_cons_self | refine' List.mem_cons_of_mem _ ?_)); done))
local macro_rules | `(tactic| k_all) => `(tactic| first | assumption | exact ne_of_lt_all0 (by assumption) | exact ne_of_lt_all (by assumption) (by omega) | exact ne_of_gt_all (by assumption) (by omega))
local macro_rules | `(tactic| walk_at "my gt") => `(tactic| first | assumption | exact List.forall_mem_nil _ | (refine' gt_cons ?a ?b; (case a => (try dsimp only); first | assumption | omega); (case b => walk_at "my gt")))
local macro_rules | `(tactic| walk_at "my rot") => `(tactic| first | k_asm | exact rot1 (by k_asm) | exact rot2 (by k_asm) | exact rot3 (by k_asm) | exact rot4 (by k_asm) | exact rot5 (by k_asm) | exact rot6 (by k_asm) | exact rot7 (by k_asm) | exact rot8 (by k_asm))
local macro_rules | `(tactic| ktf_call $t) => `(tactic| (refine' $t ?B ?F ?X ?N ?T ?C1 ?C2 ?hk ?hd ?hu ?_; (case B => k_asm); (case F => k_asm); (case X => k_asm); (case N => walk_at "my rot"); (case T => k_asm); (case C1 => k_asm); (case C2 => k_asm); (case hk => first | exact rfl | assumption); (case hd => ktr_room); (case hu => ktr_units)))
section SF21
open PySem PySem.W PyProof.Rows PySem.Calls PySem.Spec
local macro_rules | `(tactic| walk_at "my rot") => `(tactic| first | k_asm | (refine' rot1 ?r; k_asm) | (refine' rot2 ?r; k_asm) | (refine' rot3 ?r; k_asm) | (refine' rot4 ?r; k_asm) | (refine' rot5 ?r; k_asm) | (refine' rot6 ?r; k_asm) | (refine' rot7 ?r; k_asm) | (refine' rot8 ?r; k_asm))
local macro_rules | `(tactic| walk_at "call builtin:divmod") => `(tactic| (k_here; (with_reducible show wpAny _ _ (call (Value.builtin _) [Value.int _ _, Value.int _ _]) _ _ _); k_dflt (refine' divmod_led ?F ?N (by assumption) (by assumption) ?_; (case F => k_asm); (case N => k_asm)); intro D' h' t1' t2' k' F' N' lD))
set_option maxRecDepth 100000 in
set_option maxHeartbeats 8000000 in
theorem div2n1n_ok (w : World) (news : List (Addr × Obj)) (a b n : Int) (ta tb tn : Tok) (hb : b ≠ 0) (hn : (Builtin.Int.intBits a : Int) - n ≤ 4000) (hp : b.natAbs.log2 < 9000)
   : Claim w 21 1 news [.int a ta, .int b tb, .int n tn] (PairPost news (a.fdiv b) (a.fmod b)) := by
  unfold Claim
  w_top off
  k_fill
  intro p loose mean mg mb dp un gd cn cs aa ccd cl outer A₀ base h₀ L m s Q E B F X N T C1 C2 hk hdp hun hret
  refine wpAny_call ?_
  k_dflt (walk_at "my enterL")
  k_steps
  exact hret _ _ _ _ ⟨_, _, _, _, rfl, rfl, by assumption⟩ (by assumption) (by assumption)

end SF21
section SMath49
open PySem PySem.W PyProof.Rows PySem.Calls PySem.Spec

/-- the value of digits, the highest first -/
def hq (n : Nat) (qs : List Int) : Int := qs.foldl (fun acc q => acc * (2 ^ n : Nat) + q) 0
theorem hq_snoc (n : Nat) (qs : List Int) (q : Int) : hq n (qs ++ [q]) = hq n qs * (2 ^ n : Nat) + q := by
  unfold hq; rw [List.foldl_append]; rfl

theorem dv_snoc (n : Nat) (q : Int) : ∀ (ns : List Int), dv n (ns ++ [q]) 0 (ns.length + 1) = dv n ns 0 ns.length + (2 ^ (n * ns.length) : Nat) * q := by
  intro ns
  have key : ∀ (k lo : Nat), lo + k = ns.length → dv n (ns ++ [q]) lo (k + 1) = dv n ns lo k + (2 ^ (n * k) : Nat) * q := by
    intro k
    induction k with
    | zero =>
      intro lo h
      simp only [dv]
      have e : (ns ++ [q]).getD lo 0 = q := by
        rw [List.getD_eq_getElem?_getD, List.getElem?_append_right (by omega)]
        simp [show lo - ns.length = 0 by omega]
      rw [e]; simp
    | succ k ih =>
      intro lo h
      rw [dv, ih (lo + 1) (by omega), dv]
      have e : (ns ++ [q]).getD lo 0 = ns.getD lo 0 := by
        rw [List.getD_eq_getElem?_getD, List.getElem?_append_left (by omega), List.getD_eq_getElem?_getD]
      rw [e, Int.mul_add, Nat.mul_succ, Nat.pow_add, Nat.mul_comm (2 ^ (n * k)) (2 ^ n), Int.natCast_mul (2 ^ n) (2 ^ (n * k)), Int.mul_assoc]
      omega
  have := key ns.length 0 (by omega)
  exact this

theorem dv_cons (n : Nat) (q : Int) (ns : List Int) : dv n (q :: ns) 0 (ns.length + 1) = q + (2 ^ n : Nat) * dv n ns 0 ns.length := by
  have key : ∀ (k lo : Nat), dv n (q :: ns) (lo + 1) k = dv n ns lo k := by
    intro k
    induction k with
    | zero => intro lo; rfl
    | succ k ih => intro lo; rw [dv, dv, ih (lo + 1)]; rfl
  rw [dv, key]; rfl

theorem dv_rev (n : Nat) (qs : List Int) : dv n qs.reverse 0 qs.reverse.length = hq n qs := by
  rw [← List.reverse_reverse qs]
  generalize qs.reverse = rs
  rw [List.reverse_reverse]
  induction rs with
  | nil => rfl
  | cons q rs ih =>
    rw [List.reverse_cons, hq_snoc, ← ih, List.length_cons, dv_cons]
    rw [Int.mul_comm]; omega

def DInv (a b n : Int) (ds rns : List Int) (r : Int) (qs : List Int) : Prop :=
  qs.length + rns.length = ds.length ∧ rns = (ds.take rns.length).reverse ∧ 0 ≤ r ∧ r < b ∧ ((a.toNat / 2 ^ (n.toNat * rns.length) : Nat) : Int) = hq n.toNat qs * b + r ∧ ∀ q ∈ qs, 0 ≤ q ∧ q < (2 ^ n.toNat : Nat)

theorem DInv.start {a b n : Int} {ds : List Int} (hb : 1 ≤ b) (hn : 1 ≤ n) (ha : 0 ≤ a) (hd : Digs a n ds) : DInv a b n ds ds.reverse 0 [] := by
  refine ⟨by simp, by simp, by omega, by omega, ?_, nofun⟩
  have h1 := i2d_bound hn ha (k := ((Builtin.Int.intBits a : Int) + n - 1).fdiv n) rfl
  rw [List.length_reverse, hd.1]
  rw [Int.sub_zero] at h1
  rw [Nat.div_eq_of_lt h1]
  simp [hq]

theorem DInv.head {a b n d r : Int} {ds rns qs : List Int} (hd : Digs a n ds) (h : DInv a b n ds (d :: rns) r qs) : d = ((a.toNat / 2 ^ (n.toNat * rns.length) % 2 ^ n.toNat : Nat) : Int) ∧ rns = (ds.take rns.length).reverse := by
  obtain ⟨h1, h2, _⟩ := h
  rw [List.length_cons] at h1 h2
  have hlt : rns.length < ds.length := by omega
  have e : ds.take (rns.length + 1) = ds.take rns.length ++ [ds[rns.length]] := by
    rw [List.take_add_one, List.getElem?_eq_getElem hlt]; rfl
  rw [e, List.reverse_append] at h2
  have h3 : d = ds[rns.length] ∧ rns = (ds.take rns.length).reverse := by
    have := List.cons.inj (show d :: rns = ds[rns.length] :: (ds.take rns.length).reverse from h2)
    exact this
  refine ⟨?_, h3.2⟩
  rw [h3.1]
  have := hd.2 rns.length hlt
  rw [List.getD_eq_getElem?_getD, List.getElem?_eq_getElem hlt] at this
  exact this

theorem DInv.dig {a b n d r : Int} {ds rns qs : List Int} (hd : Digs a n ds) (h : DInv a b n ds (d :: rns) r qs) : 0 ≤ d ∧ d < (2 ^ n.toNat : Nat) := by
  rw [(h.head hd).1]
  have := Nat.mod_lt (a.toNat / 2 ^ (n.toNat * rns.length)) (Nat.two_pow_pos n.toNat)
  omega

theorem DInv.turn {a b n d r sv : Int} {ds rns qs : List Int} (hb : 1 ≤ b) (hd : Digs a n ds) (h : DInv a b n ds (d :: rns) r qs) (hsv : sv = r * (2 ^ n.toNat : Nat)) :
    DInv a b n ds rns ((sv + d).fmod b) (qs ++ [(sv + d).fdiv b]) := by
  obtain ⟨e1, e2⟩ := h.head hd
  obtain ⟨d1, d2⟩ := h.dig hd
  obtain ⟨h1, _, h3, h4, h5, h6⟩ := h
  have hp : (0 : Int) < (2 ^ n.toNat : Nat) := by exact_mod_cast Nat.two_pow_pos n.toNat
  have hs0 : 0 ≤ sv := by rw [hsv]; exact Int.mul_nonneg h3 (Int.le_of_lt hp)
  rw [Int.fmod_eq_emod_of_nonneg _ (by omega), Int.fdiv_eq_ediv_of_nonneg _ (by omega)]
  refine ⟨?_, e2, Int.emod_nonneg _ (by omega), Int.emod_lt_of_pos _ (by omega), ?_, ?_⟩
  · rw [List.length_append]; simp only [List.length_cons, List.length_nil] at h1 ⊢; omega
  · rw [hq_snoc]
    have hdm := Int.emod_add_mul_ediv (sv + d) b
    have hN : a.toNat / 2 ^ (n.toNat * rns.length) = a.toNat / 2 ^ (n.toNat * (rns.length + 1)) * 2 ^ n.toNat + a.toNat / 2 ^ (n.toNat * rns.length) % 2 ^ n.toNat := by
      have := Nat.div_add_mod (a.toNat / 2 ^ (n.toNat * rns.length)) (2 ^ n.toNat)
      rw [Nat.div_div_eq_div_mul, ← Nat.pow_add, ← Nat.mul_succ, Nat.mul_comm] at this
      exact this.symm
    rw [List.length_cons] at h5
    rw [hN, Int.natCast_add, Int.natCast_mul, h5, ← e1]
    rw [Int.add_mul, Int.add_mul, ← hsv, Int.mul_comm b] at *
    rw [Int.mul_assoc, Int.mul_comm b, ← Int.mul_assoc]
    omega
  · intro q hq'
    rcases List.mem_append.mp hq' with hq' | hq'
    · exact h6 q hq'
    · rw [List.mem_singleton.mp hq']
      refine ⟨Int.ediv_nonneg (by omega) (by omega), Int.ediv_lt_of_lt_mul (by omega) ?_⟩
      have h7 : (r + 1) * ((2 ^ n.toNat : Nat) : Int) ≤ b * (2 ^ n.toNat : Nat) := Int.mul_le_mul_of_nonneg_right (by omega) (Int.le_of_lt hp)
      rw [Int.add_mul, Int.one_mul, ← hsv, Int.mul_comm b] at h7
      omega

theorem DInv.done {a b n r : Int} {ds qs : List Int} (ha : 0 ≤ a) (hb : 1 ≤ b) (h : DInv a b n ds [] r qs) : hq n.toNat qs = a.fdiv b ∧ r = a.fmod b := by
  obtain ⟨_, _, h3, h4, h5, _⟩ := h
  rw [List.length_nil, Nat.mul_zero, Nat.pow_zero, Nat.div_one] at h5
  have e : a = hq n.toNat qs * b + r := by omega
  rw [Int.fmod_eq_emod_of_nonneg _ (by omega), Int.fdiv_eq_ediv_of_nonneg _ (by omega)]
  constructor
  · rw [e, Int.add_comm, Int.add_mul_ediv_right _ _ (by omega), Int.ediv_eq_zero_of_lt h3 h4, Int.zero_add]
  · rw [e, Int.add_comm, Int.add_mul_emod_self_right, Int.emod_eq_of_lt h3 h4]

theorem bits49 {sv r b d n : Int} (hsv : sv = r * (2 ^ n.toNat : Nat)) (h0 : 0 ≤ r) (h1 : r < b) (hn : n = (Builtin.Int.intBits b : Int)) (hd : 0 ≤ d ∧ d < (2 ^ n.toNat : Nat)) (hn2 : n ≤ 4000) : (Builtin.Int.intBits (sv + d) : Int) - n ≤ 4000 := by
  have hp : (0 : Int) < (2 ^ n.toNat : Nat) := by exact_mod_cast Nat.two_pow_pos n.toNat
  have hs0 : 0 ≤ sv := by rw [hsv]; exact Int.mul_nonneg h0 (Int.le_of_lt hp)
  have hb : b.natAbs < 2 ^ Builtin.Int.intBits b := bits_lt b
  have h2 : (r + 1) * ((2 ^ n.toNat : Nat) : Int) ≤ ((2 ^ n.toNat : Nat) : Int) * (2 ^ n.toNat : Nat) := by
    refine Int.mul_le_mul_of_nonneg_right ?_ (Int.le_of_lt hp)
    have : n.toNat = Builtin.Int.intBits b := by omega
    rw [this]
    omega
  have h3 : Builtin.Int.intBits (sv + d) ≤ n.toNat + n.toNat := by
    refine intBits_le_iff.mpr ?_
    rw [Nat.pow_add]
    rw [Int.add_mul, Int.one_mul, ← hsv, ← Int.natCast_mul] at h2
    omega
  omega

theorem bits49a {r b n : Int} (h0 : 0 ≤ r) (h1 : r < b) (hn : n = (Builtin.Int.intBits b : Int)) (hn2 : n ≤ 4000) : (Builtin.Int.intBits r : Int) + n ≤ 2 ^ 27 := by
  have h3 : Builtin.Int.intBits r ≤ Builtin.Int.intBits b := intBits_le_of_natAbs (y := b) (by omega) (Nat.le_refl _)
  omega

theorem log49 {b : Int} (hn2 : (Builtin.Int.intBits b : Int) ≤ 4000) : b.natAbs.log2 < 9000 := by
  unfold Builtin.Int.intBits at hn2
  split at hn2
  · rename_i h
    rw [beq_iff_eq.mp h]; decide
  · omega

end SMath49
section SF49
open PySem PySem.W PyProof.Rows PySem.Calls PySem.Spec

theorem Claim.use {w : World} {f : Addr} {dep : Nat} {news : List (Addr × Obj)} {vs : List Value} {Post : Value → List (Addr × Obj) → Prop} (C : Claim w f dep news vs Post)
    {p : Program} {loose : List Str} {mean : ExcName → Option Value} {mg mb : Str → Option Value}
    {dp un : Nat} {gd : Option (List Code)} {cn : Str} {cs : Scope} {a : Addr} {ccd : Value} {cl : List (Str × Addr)} {outer : List Env} {A₀ : Around} {base h₀ : Heap} {L : Addr} {m : Str → Option Value} {s : Shared} {Q E : Value → Shared → Prop}
    (B : Below A₀ base outer h₀) (F : Fr h₀ L s.heap m) (X : (hd.heap_39 w.params).In h₀) (N : News h₀ L s.heap news) (T : Top p loose mean mg mb h₀) (C1 : CodeHd base 41 37) (C2 : CodeHd base 34 30) (hk : cs.kind = .function)
    (hd : dp + dep < recursionLimit) (hu : un + 8 * dep < cLine)
    (hret : ∀ r news' h' tk', Post r news' → Fr h₀ L h' m → News h₀ L h' news' → Q r { s with heap := h', toks := tk' }) :
    wpAny (model PySem.Challenge.rw_ie0003_01.prog w) (ktrTop dp un gd cn cs L a ccd cl outer) (call (.ref f) vs) Q E s :=
  C p loose mean mg mb dp un gd cn cs a ccd cl outer A₀ base h₀ L m s Q E B F X N T C1 C2 hk hd hu hret

theorem offI_nil {I : Addr} {it : Obj} : OffI I it [] := True.intro
theorem offI_cons {I : Addr} {it : Obj} {x : Addr × Obj} {l : List (Addr × Obj)} (h1 : x.1 ≠ I) (h2 : OffI I it l) : OffI I it (x :: l) := ⟨Or.inl h1, h2⟩
theorem offI_lt {I : Addr} {it : Obj} : ∀ {l : List (Addr × Obj)}, (∀ q ∈ l, q.1 < I) → OffI I it l
  | [], _ => True.intro
  | x :: _, h => ⟨Or.inl (Nat.ne_of_lt (h x (.head _))), offI_lt fun q hq => h q (.tail _ hq)⟩

def J49 (a b n : Int) (tb tn : Tok) (QD : Addr) (base : List (Addr × Obj)) (ds : List Int) (rns : List Int) (m : Str → Option Value) (news : List (Addr × Obj)) : Prop :=
  ∃ qs vq cq r tr, m "b" = some (.int b tb) ∧ m "n" = some (.int n tn) ∧ m "r" = some (.int r tr) ∧ m "q_digits" = some (.ref QD) ∧ news = (QD, listOf vq.toArray cq) :: base ∧ IntsAre vq qs ∧ DInv a b n ds rns r qs

theorem j49_size {a b n r : Int} {vq : List Value} {qs ds rns : List Int} (hv : IntsAre vq qs) (h : DInv a b n ds rns r qs) (hd : Digs a n ds) (hk : ((Builtin.Int.intBits a : Int) + n - 1).fdiv n ≤ 60) : vq.toArray.size ≤ sizeLine := by
  have h1 := h.1
  have h2 := hd.1
  have h3 := hv.length
  rw [List.size_toArray, sizeLine_eq]
  omega

theorem rev_led {prog : Program} {w : World} {A : Around} {E : Value → Shared → Prop} {s : Shared} {h₀ : Heap} {L D : Addr} {m : Str → Option Value} {news news' : List (Addr × Obj)} {vs : List Value} {n : Nat} {Q : Value → Shared → Prop}
    (F : Fr h₀ L s.heap m) (N : News h₀ L s.heap news) (U : Upd D (listOf vs.toArray n) (listOf vs.reverse.toArray n) news news') (hz : vs.toArray.size ≤ sizeLine) (h : ∀ h', Fr h₀ L h' m → News h₀ L h' news' → Q .none { s with heap := h' }) :
    wpAny (model prog w) A (call (.builtin "list.reverse") [.ref D]) Q E s := kl_reverse F N rfl U (by simpa using hz) h

theorem DInv.bound {a b n r : Int} {ds rns qs : List Int} (h : DInv a b n ds rns r qs) : ∀ i, i < qs.reverse.length → 0 ≤ qs.reverse.getD i 0 ∧ qs.reverse.getD i 0 < (2 ^ n.toNat : Nat) := by
  intro i hi
  have hm : qs.reverse.getD i 0 ∈ qs := by
    rw [List.getD_eq_getElem?_getD, List.getElem?_eq_getElem hi]
    exact List.mem_reverse.mp (List.getElem_mem hi)
  exact h.2.2.2.2.2 _ hm
theorem DInv.len {a b n r : Int} {ds rns qs : List Int} (h : DInv a b n ds rns r qs) (hd : Digs a n ds) (hk : ((Builtin.Int.intBits a : Int) + n - 1).fdiv n ≤ 60) : qs.reverse.length ≤ 60 := by
  have h1 := h.1
  have h2 := hd.1
  rw [List.length_reverse]
  omega

theorem turn49 {a b n d sv q r' : Int} {tb tn tq tr' : Tok} {QD I T : Addr} {To it : Obj} {base : List (Addr × Obj)} {lp : Addr × Obj} {ds rns qs : List Int} {vq : List Value} {cq : Nat} {r : Int} {h₀ h' : Heap} {L : Addr} {m' : Str → Option Value} {s₁ : Shared} {tk : Nat}
    (N : News h₀ L h' ((T, To) :: (I, it) :: (QD, listOf (vq.toArray.push (.int q tq)) (cq + 1)) :: base)) (F : Fr h₀ L h' m') (hvq : IntsAre vq qs) (hI : DInv a b n ds (d :: rns) r qs) (hd : Digs a n ds) (hsv : sv = r * (2 ^ n.toNat : Nat)) (hq : q = (sv + d).fdiv b) (hr : r' = (sv + d).fmod b) (hb : 1 ≤ b)
    (hm1 : m' "b" = some (.int b tb)) (hm2 : m' "n" = some (.int n tn)) (hm3 : m' "r" = some (.int r' tr')) (hm4 : m' "q_digits" = some (.ref QD)) (hQ : @Ne Nat QD I) (hB : ∀ p ∈ base, p.1 ≠ I) (hlp : lp ∈ base) :
    UnrEnd h₀ L s₁ I it (fun m' n' => lp ∈ n' ∧ J49 a b n tb tn QD base ds rns m' n') { s₁ with heap := h', toks := tk } := by
  subst hq; subst hr
  refine ⟨h', tk, m', (QD, listOf (vq ++ [Value.int ((sv + d).fdiv b) tq]).toArray (cq + 1)) :: base, rfl, F, fun p hp => N p ?_, ?_, .tail _ hlp, qs ++ [(sv + d).fdiv b], _, _, _, _, hm1, hm2, hm3, hm4, rfl, IntsAre.append hvq (.cons _ _ .nil), hI.turn hb hd hsv⟩
  · rw [List.push_toArray]
    exact .tail _ hp
  · intro p hp
    rcases List.mem_cons.mp hp with rfl | hp
    · exact hQ
    · exact hB p hp

def Post49a (rest : List (Addr × Obj)) (x y : Int) (r : Value) (news' : List (Addr × Obj)) : Prop :=
  ∃ T t1 t2 c37 o37 c30 o30, r = .ref T ∧ news' = (T, ({ cls := .type "tuple", data := .seq #[.int x t1, .int y t2] } : Obj)) :: (c37, o37) :: (c30, o30) :: (37, tab37 c37) :: (30, tab30 c30) :: rest ∧ CodeOk q42 o37 ∧ CodeOk q35 o30 ∧
    (∀ q ∈ rest, q.1 < T) ∧ (∀ q ∈ rest, q.1 < c37) ∧ (∀ q ∈ rest, q.1 < c30) ∧ @LT.lt Nat _ 37 c30 ∧ @LT.lt Nat _ c30 c37 ∧ @LT.lt Nat _ c37 T
theorem fin49a {rest : List (Addr × Obj)} {x x' y y' : Int} {h₀ h : Heap} {L T c37 c30 a1 a2 : Addr} {m : Str → Option Value} {s : Shared} {Q : Value → Shared → Prop} {o37 o30 o1 o2 : Obj} {t1 t2 : Tok} {tk : Nat}
    (hret : ∀ r news' h' tk', Post49a rest x y r news' → Fr h₀ L h' m → News h₀ L h' news' → Q r { s with heap := h', toks := tk' }) (hx : x' = x) (hy : y' = y)
    (N : News h₀ L h ((T, ({ cls := .type "tuple", data := .seq #[.int x' t1, .int y' t2] } : Obj)) :: (c37, o37) :: (37, tab37 c37) :: (30, tab30 c30) :: (a1, o1) :: (a2, o2) :: (c30, o30) :: rest)) (F : Fr h₀ L h m)
    (hc1 : CodeOk q42 o37) (hc2 : CodeOk q35 o30) (hR : ∀ q ∈ rest, q.1 < c30) (h2 : @LT.lt Nat _ c30 c37) (h3 : @LT.lt Nat _ c37 T) (h4 : @LT.lt Nat _ 37 c30) : Q (.ref T) { s with heap := h, toks := tk } := by
  subst hx; subst hy
  refine hret _ _ _ _ ⟨T, t1, t2, c37, o37, c30, o30, rfl, rfl, hc1, hc2, fun q hq => Nat.lt_trans (Nat.lt_trans (hR q hq) h2) h3, fun q hq => Nat.lt_trans (hR q hq) h2, hR, h4, h2, h3⟩ F (cb_drop N ?_)
  intro q hq
  simp only [List.mem_cons] at hq ⊢
  rcases hq with hq | hq | hq | hq | hq | hq <;> simp only [hq, true_or, or_true]

theorem fr_canon4 {h₀ h : Heap} {L : Addr} {m : Str → Option Value} {k1 k2 k3 k4 : Str} {v1 v2 v3 v4 : Value} (F : Fr h₀ L h m) (h1 : m k1 = some v1) (h2 : m k2 = some v2) (h3 : m k3 = some v3) (h4 : m k4 = some v4) :
    Fr h₀ L h (fun y => if y = k1 then some v1 else if y = k2 then some v2 else if y = k3 then some v3 else if y = k4 then some v4 else m y) := by
  have e : m = (fun y => if y = k1 then some v1 else if y = k2 then some v2 else if y = k3 then some v3 else if y = k4 then some v4 else m y) := by
    funext y
    by_cases c1 : y = k1
    · rw [if_pos c1, c1, h1]
    · rw [if_neg c1]
      by_cases c2 : y = k2
      · rw [if_pos c2, c2, h2]
      · rw [if_neg c2]
        by_cases c3 : y = k3
        · rw [if_pos c3, c3, h3]
        · rw [if_neg c3]
          by_cases c4 : y = k4
          · rw [if_pos c4, c4, h4]
          · rw [if_neg c4]
  exact e ▸ F
theorem fr_canon5 {h₀ h : Heap} {L : Addr} {m : Str → Option Value} {x k1 k2 k3 k4 : Str} {v : Option Value} {v1 v2 v3 v4 : Value} (F : Fr h₀ L h (fun y => if y = x then v else m y)) (h1 : m k1 = some v1) (h2 : m k2 = some v2) (h3 : m k3 = some v3) (h4 : m k4 = some v4) :
    Fr h₀ L h (fun y => if y = x then v else if y = k1 then some v1 else if y = k2 then some v2 else if y = k3 then some v3 else if y = k4 then some v4 else m y) := by
  have e : m = (fun y => if y = k1 then some v1 else if y = k2 then some v2 else if y = k3 then some v3 else if y = k4 then some v4 else m y) := by
    funext y
    by_cases c1 : y = k1
    · rw [if_pos c1, c1, h1]
    · rw [if_neg c1]
      by_cases c2 : y = k2
      · rw [if_pos c2, c2, h2]
      · rw [if_neg c2]
        by_cases c3 : y = k3
        · rw [if_pos c3, c3, h3]
        · rw [if_neg c3]
          by_cases c4 : y = k4
          · rw [if_pos c4, c4, h4]
          · rw [if_neg c4]
  have e2 : (fun y => if y = x then v else m y) = (fun y => if y = x then v else if y = k1 then some v1 else if y = k2 then some v2 else if y = k3 then some v3 else if y = k4 then some v4 else m y) := by
    funext y
    by_cases c : y = x
    · rw [if_pos c, if_pos c]
    · rw [if_neg c, if_neg c]
      exact congrFun e y
  exact e2 ▸ F

section
variable {w : World} {f : Addr} {dep : Nat} {news rest : List (Addr × Obj)} {vs : List Value}
    {p : Program} {loose : List Str} {mean : ExcName → Option Value} {mg mb : Str → Option Value}
    {dp un : Nat} {gd : Option (List Code)} {cn : Str} {cs : Scope} {a : Addr} {ccd : Value} {cl : List (Str × Addr)} {outer : List Env} {A₀ : Around} {base h₀ : Heap} {L : Addr} {m : Str → Option Value} {s : Shared} {Q E : Value → Shared → Prop}
theorem use_21 {x y : Int} (C : Claim w f dep news vs (PairPost rest x y))
    (B : Below A₀ base outer h₀) (F : Fr h₀ L s.heap m) (X : (hd.heap_39 w.params).In h₀) (N : News h₀ L s.heap news) (T : Top p loose mean mg mb h₀) (C1 : CodeHd base 41 37) (C2 : CodeHd base 34 30) (hk : cs.kind = .function)
    (hdp : dp + dep < recursionLimit) (hu : un + 8 * dep < cLine)
    (h : ∀ D t1 t2 c h' tk', (∀ q ∈ rest, q.1 < D) → Fr h₀ L h' m → News h₀ L h' ((D, ({ cls := .type "tuple", data := .seq #[.int x t1, .int y t2] c } : Obj)) :: rest) → Q (.ref D) { heap := h', gens := s.gens, drawn := s.drawn, toks := tk', os := s.os }) :
    wpAny (model PySem.Challenge.rw_ie0003_01.prog w) (ktrTop dp un gd cn cs L a ccd cl outer) (call (.ref f) vs) Q E s := by
  refine Claim.use C B F X N T C1 C2 hk hdp hu ?_
  rintro r news' h' tk' ⟨D', t1', t2', c', rfl, rfl, lT⟩ F' N'
  exact h _ _ _ _ _ _ lT F' N'
theorem use_35a {p37 : Array Value} {x n : Int} (C : Claim w f dep news vs (Post35a p37 rest x n))
    (B : Below A₀ base outer h₀) (F : Fr h₀ L s.heap m) (X : (hd.heap_39 w.params).In h₀) (N : News h₀ L s.heap news) (T : Top p loose mean mg mb h₀) (C1 : CodeHd base 41 37) (C2 : CodeHd base 34 30) (hk : cs.kind = .function)
    (hdp : dp + dep < recursionLimit) (hu : un + 8 * dep < cLine)
    (h : ∀ D c oc vs ns h' tk', CodeOk q35 oc → IntsAre vs ns → Digs x n ns → (∀ q ∈ rest, q.1 < D) → (∀ q ∈ rest, q.1 < c) → @LT.lt Nat _ 37 D → @LT.lt Nat _ D c → Fr h₀ L h' m → News h₀ L h' ((D, listOf vs.toArray 0) :: (c, oc) :: (37, tabObj p37) :: (30, tab30 c) :: rest) → Q (.ref D) { heap := h', gens := s.gens, drawn := s.drawn, toks := tk', os := s.os }) :
    wpAny (model PySem.Challenge.rw_ie0003_01.prog w) (ktrTop dp un gd cn cs L a ccd cl outer) (call (.ref f) vs) Q E s := by
  refine Claim.use C B F X N T C1 C2 hk hdp hu ?_
  rintro r news' h' tk' ⟨D', c', oc', vs', ns', rfl, rfl, hco', hvs', hdg', l1, l2, l3, l4⟩ F' N'
  exact h _ _ _ _ _ _ _ hco' hvs' hdg' l1 l2 l3 l4 F' N'
theorem use_35b {p37 : Array Value} {c : Addr} {x n : Int} (C : Claim w f dep news vs (Post35b p37 c rest x n))
    (B : Below A₀ base outer h₀) (F : Fr h₀ L s.heap m) (X : (hd.heap_39 w.params).In h₀) (N : News h₀ L s.heap news) (T : Top p loose mean mg mb h₀) (C1 : CodeHd base 41 37) (C2 : CodeHd base 34 30) (hk : cs.kind = .function)
    (hdp : dp + dep < recursionLimit) (hu : un + 8 * dep < cLine)
    (h : ∀ D vs ns h' tk', IntsAre vs ns → Digs x n ns → (∀ q ∈ rest, q.1 < D) → @LT.lt Nat _ 37 D → Fr h₀ L h' m → News h₀ L h' ((D, listOf vs.toArray 0) :: (37, tabObj p37) :: (30, tab30 c) :: rest) → Q (.ref D) { heap := h', gens := s.gens, drawn := s.drawn, toks := tk', os := s.os }) :
    wpAny (model PySem.Challenge.rw_ie0003_01.prog w) (ktrTop dp un gd cn cs L a ccd cl outer) (call (.ref f) vs) Q E s := by
  refine Claim.use C B F X N T C1 C2 hk hdp hu ?_
  rintro r news' h' tk' ⟨D', vs', ns', rfl, rfl, hvs', hdg', l1, l2⟩ F' N'
  exact h _ _ _ _ _ hvs' hdg' l1 l2 F' N'
theorem use_42a {p30 : Array Value} {v : Int} (C : Claim w f dep news vs (Post42a p30 rest v))
    (B : Below A₀ base outer h₀) (F : Fr h₀ L s.heap m) (X : (hd.heap_39 w.params).In h₀) (N : News h₀ L s.heap news) (T : Top p loose mean mg mb h₀) (C1 : CodeHd base 41 37) (C2 : CodeHd base 34 30) (hk : cs.kind = .function)
    (hdp : dp + dep < recursionLimit) (hu : un + 8 * dep < cLine)
    (h : ∀ t c oc h' tk', CodeOk q42 oc → (∀ q ∈ rest, q.1 < c) → @LT.lt Nat _ 37 c → Fr h₀ L h' m → News h₀ L h' ((c, oc) :: (37, tab37 c) :: (30, tabObj p30) :: rest) → Q (.int v t) { heap := h', gens := s.gens, drawn := s.drawn, toks := tk', os := s.os }) :
    wpAny (model PySem.Challenge.rw_ie0003_01.prog w) (ktrTop dp un gd cn cs L a ccd cl outer) (call (.ref f) vs) Q E s := by
  refine Claim.use C B F X N T C1 C2 hk hdp hu ?_
  rintro r news' h' tk' ⟨t', c', oc', rfl, rfl, hco', l1, l2⟩ F' N'
  exact h _ _ _ _ _ hco' l1 l2 F' N'
theorem use_42b {p30 : Array Value} {v : Int} {c : Addr} (C : Claim w f dep news vs (Post42b c p30 rest v))
    (B : Below A₀ base outer h₀) (F : Fr h₀ L s.heap m) (X : (hd.heap_39 w.params).In h₀) (N : News h₀ L s.heap news) (T : Top p loose mean mg mb h₀) (C1 : CodeHd base 41 37) (C2 : CodeHd base 34 30) (hk : cs.kind = .function)
    (hdp : dp + dep < recursionLimit) (hu : un + 8 * dep < cLine)
    (h : ∀ t h' tk', Fr h₀ L h' m → News h₀ L h' ((37, tab37 c) :: (30, tabObj p30) :: rest) → Q (.int v t) { heap := h', gens := s.gens, drawn := s.drawn, toks := tk', os := s.os }) :
    wpAny (model PySem.Challenge.rw_ie0003_01.prog w) (ktrTop dp un gd cn cs L a ccd cl outer) (call (.ref f) vs) Q E s := by
  refine Claim.use C B F X N T C1 C2 hk hdp hu ?_
  rintro r news' h' tk' ⟨t', rfl, rfl⟩ F' N'
  exact h _ _ _ F' N'
end
local macro_rules | `(tactic| walk_at "call builtin:list.append") => `(tactic| (k_here; (with_reducible show wpAny _ _ (call (Value.builtin _) [Value.ref _, _]) _ _ _); k_dflt (refine' append_K ?k1 ?k2 ?k3 ?_ ?z; (case k1 => k_asm); (case k2 => k_asm); (case k3 => k_upd); (case z => assumption)); intro h' F' N'; (try k_sweep)))
local macro_rules | `(tactic| walk_at "call builtin:list.reverse") => `(tactic| (k_here; dsimp only; k_dflt (refine' rev_led ?F ?N ?U ?z ?_; (case F => k_asm); (case N => k_asm); (case U => k_upd); (case z => assumption)); intro h' F' N'; (try k_sweep)))
local macro_rules | `(tactic| walk_at "call ref") => `(tactic| (k_here; (with_reducible show wpAny _ _ (call (Value.ref 21) _) _ _ _); k_dflt (ktf_call (use_21 (div2n1n_ok _ _ _ _ _ _ _ _ ?a1 ?a2 ?a3)); (case a1 => omega); (case a2 => exact bits49 (by assumption) (by omega) (by omega) (by omega) (by omega) (by omega)); (case a3 => exact log49 (by omega))); intro D' t1' t2' c' h' tk' lT F' N'; (try k_lt lT); (try dsimp only); (try k_sweep)))
local macro_rules | `(tactic| walk_at "binaryOp LShift int int") => `(tactic| (k_here; (with_reducible refine shl_int (by omega) ?_ ?_); (exact bits49a (by omega) (by omega) (by omega) (by omega)); intro sv hsv))
section
local macro_rules | `(tactic| walk_at "call ref") => `(tactic| (k_here; (with_reducible show wpAny _ _ (call (Value.ref 35) _) _ _ _); k_dflt (ktf_call (use_35a (i2d_first _ _ _ ?hr _ _ _ _ ?a1 ?a2 ?a3 ?a4 ?a5 ?a6)); (case hr => walk_at "my gt"); (case a1 => omega); (case a2 => omega); (case a3 => omega); (case a4 => assumption); (case a5 => assumption); (case a6 => assumption)); intro D' c' oc' vs' ns' h' tk' hco' hvs' hdg' l1 l2 l3 l4 F' N'; (try k_lt l1); (try k_lt l2); (try dsimp only); (try k_sweep)))
local macro_rules | `(tactic| walk_at "call ref") => `(tactic| (k_here; (with_reducible show wpAny _ _ (call (Value.ref 42) _) _ _ _); k_dflt (ktf_call (use_42a (d2i_first _ _ _ _ _ _ _ ?mD ?hr _ _ ?a1 ?a2 ?a3 ?a4 ?a5)); (case mD => k_mem); (case a3 => assumption); (case hr => walk_at "my gt"); (case a1 => omega); (case a2 => omega); (case a4 => assumption); (case a5 => assumption)); intro t' c' oc' h' tk' hco' l1 l2 F' N'; (try k_lt l1); (try dsimp only); (try k_sweep)))
set_option maxRecDepth 100000 in
set_option maxHeartbeats 8000000 in
set_option pp.deepTerms.threshold 5 in
theorem dmp_first (w : World) (rest : List (Addr × Obj)) (hr : ∀ q ∈ rest, 37 < q.1) (a b n : Int) (ta tb : Tok) (ha : 0 ≤ a) (hb : 1 ≤ b) (hnb : n = (Builtin.Int.intBits b : Int)) (hn1 : 1 ≤ (Builtin.Int.intBits b : Int)) (hn2 : (Builtin.Int.intBits b : Int) ≤ 4000)
    (hk0 : 0 ≤ ((Builtin.Int.intBits a : Int) + (Builtin.Int.intBits b : Int) - 1).fdiv (Builtin.Int.intBits b : Int)) (hk1 : ((Builtin.Int.intBits a : Int) + (Builtin.Int.intBits b : Int) - 1).fdiv (Builtin.Int.intBits b : Int) ≤ 60)
    (hk2 : a ≠ 0 → 1 ≤ ((Builtin.Int.intBits a : Int) + (Builtin.Int.intBits b : Int) - 1).fdiv (Builtin.Int.intBits b : Int))
   : Claim w 49 64 ((37, tabObj #[]) :: (30, tabObj #[]) :: rest) [.int a ta, .int b tb] (Post49a rest (a.fdiv b) (a.fmod b)) := by
  unfold Claim
  w_top off
  k_fill
  intro p loose mean mg mb dp un gd cn cs aa ccd cl outer A₀ base h₀ L m s Q E B F X N T C1 C2 hk hdp hun hret
  refine wpAny_call ?_
  k_dflt (walk_at "my enterL")
  k_steps
  k_dflt (refine' iter_revUnr ?hh ?F ?N ?off ?hm ?hc ?hd ?_; (case hh => exact rfl); (case F => k_asm); (case N => k_asm); (case hm => k_mem); (case hc => exact rfl); (case hd => exact rfl))
  case off => (repeat (first | exact offI_nil | exact offI_lt (by assumption) | refine' offI_cons (by k_ne) ?_))
  rename IntsAre _ _ => hvs
  rename Digs _ _ _ => hdg
  k_dflt (refine' rev_ind (J49 a b (Builtin.Int.intBits b : Int) tb _ _ _ _) ?_ ?_ (IntsAre.reverse hvs) _ _ ⟨[], [], _, 0, _, rfl, rfl, rfl, rfl, rfl, .nil, DInv.start (by omega) (by omega) (by omega) hdg⟩)
  · rintro m1 news1 ⟨qs, vq, cq, r, tr, h1, h2, h3, h4, rfl, hvq, hI⟩ h1' tk1 F1 N1
    have F2 := fr_canon4 F1 h1 h2 h3 h4
    clear F1
    dsimp only [envOf] at N1 F2
    have hvr := IntsAre.reverse hvq
    have hbd := hI.bound
    have hlr := hI.len hdg hk1
    have hsz := j49_size hvq hI hdg hk1
    have hfin := hI.done ha hb
    dsimp only
    k_steps
    refine fin49a hret ((dv_rev _ _).trans hfin.1) hfin.2 (by assumption) (by assumption) (by with_reducible assumption) (by with_reducible assumption) (by with_reducible assumption) (by omega) (by omega) (by omega)
  · rintro d td rns m1 news1 ⟨qs, vq, cq, r, tr, h1, h2, h3, h4, rfl, hvq, hI⟩ it h1' tk1 hit F1 N1
    have F2 := fr_canon5 F1 h1 h2 h3 h4
    clear F1
    dsimp only [envOf] at N1 F2
    have hdd := hI.dig hdg
    have hr0 := hI.2.2.1
    have hr1 := hI.2.2.2.1
    have hsz := j49_size hvq hI hdg hk1
    k_steps
    refine turn49 (by assumption) (by assumption) hvq hI hdg (by assumption) rfl rfl hb rfl rfl rfl rfl (by k_ne) ?_ (by k_mem)
    repeat (first | exact ne_of_lt_all0 (by with_reducible assumption) | (refine' List.forall_mem_cons.mpr ⟨?_, ?_⟩; k_ne))

end
def Post49b (c37 c30 : Addr) (rest : List (Addr × Obj)) (x y : Int) (r : Value) (news' : List (Addr × Obj)) : Prop :=
  ∃ T t1 t2, r = .ref T ∧ news' = (T, ({ cls := .type "tuple", data := .seq #[.int x t1, .int y t2] } : Obj)) :: (37, tab37 c37) :: (30, tab30 c30) :: rest ∧ (∀ q ∈ rest, q.1 < T) ∧ @LT.lt Nat _ 37 T
theorem fin49b {rest : List (Addr × Obj)} {x x' y y' : Int} {h₀ h : Heap} {L T c37 c30 a1 a2 : Addr} {m : Str → Option Value} {s : Shared} {Q : Value → Shared → Prop} {o1 o2 : Obj} {t1 t2 : Tok} {tk : Nat}
    (hret : ∀ r news' h' tk', Post49b c37 c30 rest x y r news' → Fr h₀ L h' m → News h₀ L h' news' → Q r { s with heap := h', toks := tk' }) (hx : x' = x) (hy : y' = y)
    (N : News h₀ L h ((T, ({ cls := .type "tuple", data := .seq #[.int x' t1, .int y' t2] } : Obj)) :: (37, tab37 c37) :: (30, tab30 c30) :: (a1, o1) :: (a2, o2) :: rest)) (F : Fr h₀ L h m)
    (hR : ∀ q ∈ rest, q.1 < T) (h4 : @LT.lt Nat _ 37 T) : Q (.ref T) { s with heap := h, toks := tk } := by
  subst hx; subst hy
  refine hret _ _ _ _ ⟨T, t1, t2, rfl, rfl, hR, h4⟩ F (cb_drop N ?_)
  intro q hq
  simp only [List.mem_cons] at hq ⊢
  rcases hq with hq | hq | hq | hq <;> simp only [hq, true_or, or_true]

section
local macro_rules | `(tactic| walk_at "my count a") => `(tactic| skip)
local macro_rules | `(tactic| walk_at "call ref") => `(tactic| (k_here; (with_reducible show wpAny _ _ (call (Value.ref 35) _) _ _ _); k_dflt (ktf_call (use_35b (i2d_full _ _ _ _ _ ?hmc ?hco ?hr _ _ _ _ ?a1 ?a2 ?a3 ?a4 ?a5 ?a6)); (case hmc => k_mem); (case hco => with_reducible assumption); (case hr => walk_at "my gt"); (case a1 => omega); (case a2 => omega); (case a3 => omega); (case a4 => assumption); (case a5 => assumption); (case a6 => assumption)); intro D' vs' ns' h' tk' hvs' hdg' l1 l2 F' N'; (try k_lt l1); (try dsimp only); (try k_sweep)))
local macro_rules | `(tactic| walk_at "call ref") => `(tactic| (k_here; (with_reducible show wpAny _ _ (call (Value.ref 42) _) _ _ _); k_dflt (ktf_call (use_42b (d2i_full _ _ _ _ _ ?hmc ?hco _ _ _ _ ?mD ?hr _ _ ?a1 ?a2 ?a3 ?a4 ?a5)); (case hmc => k_mem); (case hco => with_reducible assumption); (case mD => k_mem); (case a3 => assumption); (case hr => walk_at "my gt"); (case a1 => omega); (case a2 => omega); (case a4 => assumption); (case a5 => assumption)); intro t' h' tk' F' N'; (try dsimp only); (try k_sweep)))
set_option maxRecDepth 100000 in
set_option maxHeartbeats 8000000 in
set_option pp.deepTerms.threshold 5 in
theorem dmp_full (w : World) (rest : List (Addr × Obj)) (c37 c30 : Addr) (o37 o30 : Obj) (hm37 : (c37, o37) ∈ rest) (hm30 : (c30, o30) ∈ rest) (hc37 : CodeOk q42 o37) (hc30 : CodeOk q35 o30) (hr : ∀ q ∈ rest, 37 < q.1) (a b n : Int) (ta tb : Tok) (ha : 0 ≤ a) (hb : 1 ≤ b) (hnb : n = (Builtin.Int.intBits b : Int)) (hn1 : 1 ≤ (Builtin.Int.intBits b : Int)) (hn2 : (Builtin.Int.intBits b : Int) ≤ 4000)
    (hk0 : 0 ≤ ((Builtin.Int.intBits a : Int) + (Builtin.Int.intBits b : Int) - 1).fdiv (Builtin.Int.intBits b : Int)) (hk1 : ((Builtin.Int.intBits a : Int) + (Builtin.Int.intBits b : Int) - 1).fdiv (Builtin.Int.intBits b : Int) ≤ 60)
    (hk2 : a ≠ 0 → 1 ≤ ((Builtin.Int.intBits a : Int) + (Builtin.Int.intBits b : Int) - 1).fdiv (Builtin.Int.intBits b : Int))
   : Claim w 49 64 ((37, tab37 c37) :: (30, tab30 c30) :: rest) [.int a ta, .int b tb] (Post49b c37 c30 rest (a.fdiv b) (a.fmod b)) := by
  unfold Claim
  w_top off
  k_fill
  intro p loose mean mg mb dp un gd cn cs aa ccd cl outer A₀ base h₀ L m s Q E B F X N T C1 C2 hk hdp hun hret
  refine wpAny_call ?_
  k_dflt (walk_at "my enterL")
  k_steps
  k_dflt (refine' iter_revUnr ?hh ?F ?N ?off ?hm ?hc ?hd ?_; (case hh => exact rfl); (case F => k_asm); (case N => k_asm); (case hm => k_mem); (case hc => exact rfl); (case hd => exact rfl))
  case off => (repeat (first | exact offI_nil | exact offI_lt (by assumption) | refine' offI_cons (by k_ne) ?_))
  rename IntsAre _ _ => hvs
  rename Digs _ _ _ => hdg
  k_dflt (refine' rev_ind (J49 a b (Builtin.Int.intBits b : Int) tb _ _ _ _) ?_ ?_ (IntsAre.reverse hvs) _ _ ⟨[], [], _, 0, _, rfl, rfl, rfl, rfl, rfl, .nil, DInv.start (by omega) (by omega) (by omega) hdg⟩)
  · rintro m1 news1 ⟨qs, vq, cq, r, tr, h1, h2, h3, h4, rfl, hvq, hI⟩ h1' tk1 F1 N1
    have F2 := fr_canon4 F1 h1 h2 h3 h4
    clear F1
    dsimp only [envOf] at N1 F2
    have hvr := IntsAre.reverse hvq
    have hbd := hI.bound
    have hlr := hI.len hdg hk1
    have hsz := j49_size hvq hI hdg hk1
    have hfin := hI.done ha hb
    dsimp only
    k_steps
    refine fin49b hret ((dv_rev _ _).trans hfin.1) hfin.2 (by assumption) (by assumption) (by with_reducible assumption) (by omega)
  · rintro d td rns m1 news1 ⟨qs, vq, cq, r, tr, h1, h2, h3, h4, rfl, hvq, hI⟩ it h1' tk1 hit F1 N1
    have F2 := fr_canon5 F1 h1 h2 h3 h4
    clear F1
    dsimp only [envOf] at N1 F2
    have hdd := hI.dig hdg
    have hr0 := hI.2.2.1
    have hr1 := hI.2.2.2.1
    have hsz := j49_size hvq hI hdg hk1
    k_steps
    refine turn49 (by assumption) (by assumption) hvq hI hdg (by assumption) rfl rfl hb rfl rfl rfl rfl (by k_ne) ?_ (by k_mem)
    repeat (first | exact ne_of_lt_all0 (by with_reducible assumption) | (refine' List.forall_mem_cons.mpr ⟨?_, ?_⟩; k_ne))

end

end SF49
section SBase4
open PySem PySem.W PyProof.Rows PySem.Calls PySem.Spec

/-- the two tables: both empty, or both filled -/
def St (p37 p30 : Array Value) (rest : List (Addr × Obj)) : Prop :=
  (p37 = #[] ∧ p30 = #[]) ∨ ∃ c37 o37 c30 o30, p37 = #[rawInt 47, rawInt 4, .ref c37] ∧ p30 = #[rawInt 32, rawInt 4, .ref c30] ∧ (c37, o37) ∈ rest ∧ (c30, o30) ∈ rest ∧ CodeOk q42 o37 ∧ CodeOk q35 o30

theorem St.full {c37 c30 : Addr} {o37 o30 : Obj} {rest : List (Addr × Obj)} (h1 : CodeOk q42 o37) (h2 : CodeOk q35 o30) (m1 : (c37, o37) ∈ rest) (m2 : (c30, o30) ∈ rest) : St #[rawInt 47, rawInt 4, .ref c37] #[rawInt 32, rawInt 4, .ref c30] rest :=
  .inr ⟨c37, o37, c30, o30, rfl, rfl, m1, m2, h1, h2⟩
theorem St.none {rest : List (Addr × Obj)} : St #[] #[] rest := .inl ⟨rfl, rfl⟩

abbrev tup2 (x y : Int) (t1 t2 : Tok) : Obj := { cls := .type "tuple", data := .seq #[.int x t1, .int y t2] }

/-- behind a call: the tables are filled, one object more -/
def After (rest : List (Addr × Obj)) (T : Addr) (oT : Obj) (news' : List (Addr × Obj)) : Prop :=
  ∃ c37 o37 c30 o30, news' = (37, tab37 c37) :: (30, tab30 c30) :: (T, oT) :: (c37, o37) :: (c30, o30) :: rest ∧ CodeOk q42 o37 ∧ CodeOk q35 o30 ∧
    (∀ q ∈ rest, q.1 < T) ∧ @LT.lt Nat _ 37 c37 ∧ @LT.lt Nat _ 37 c30 ∧ @LT.lt Nat _ c37 T ∧ @LT.lt Nat _ c30 T

def PairAfter (rest : List (Addr × Obj)) (x y : Int) (r : Value) (news' : List (Addr × Obj)) : Prop :=
  ∃ T t1 t2, r = .ref T ∧ After rest T (tup2 x y t1 t2) news'

theorem bits_pos {b : Int} (hb : 1 ≤ b) : 1 ≤ (Builtin.Int.intBits b : Int) := by
  unfold Builtin.Int.intBits
  rw [if_neg (by simp; omega)]
  omega

theorem Claim.keep {w : World} {f : Addr} {dep : Nat} {news news2 : List (Addr × Obj)} {vs : List Value} {Post Post2 : Value → List (Addr × Obj) → Prop} (C : Claim w f dep news vs Post) (hs : ∀ q ∈ news, q ∈ news2)
    (h : ∀ r news', Post r news' → ∃ news3, Post2 r news3 ∧ ∀ q ∈ news3, q ∈ news') : Claim w f dep news2 vs Post2 := by
  intro p loose mean mg mb dp un gd cn cs a ccd cl outer A₀ base h₀ L m s Q E B F X N T C1 C2 hk hd hu hret
  refine C p loose mean mg mb dp un gd cn cs a ccd cl outer A₀ base h₀ L m s Q E B F X (cb_drop N hs) T C1 C2 hk hd hu fun r news' h' tk' hP F' N' => ?_
  obtain ⟨news3, hP3, hs3⟩ := h r news' hP
  exact hret r news3 h' tk' hP3 F' (cb_drop N' hs3)

theorem dmp_any (w : World) (p37 p30 : Array Value) (rest : List (Addr × Obj)) (hs : St p37 p30 rest) (hr : ∀ q ∈ rest, 37 < q.1) (a b : Int) (ta tb : Tok) (ha : 0 ≤ a) (hb : 1 ≤ b) (hn2 : (Builtin.Int.intBits b : Int) ≤ 4000)
    (hk1 : ((Builtin.Int.intBits a : Int) + (Builtin.Int.intBits b : Int) - 1).fdiv (Builtin.Int.intBits b : Int) ≤ 60) :
    Claim w 49 64 ((37, tabObj p37) :: (30, tabObj p30) :: rest) [.int a ta, .int b tb] (PairAfter rest (a.fdiv b) (a.fmod b)) := by
  have hn1 := bits_pos hb
  have hk0 := (fdiv_up (b := (Builtin.Int.intBits a : Int)) hn1 (by omega)).2
  have hk2 : a ≠ 0 → 1 ≤ ((Builtin.Int.intBits a : Int) + (Builtin.Int.intBits b : Int) - 1).fdiv (Builtin.Int.intBits b : Int) := by
    intro h
    have h1 := (fdiv_up (b := (Builtin.Int.intBits a : Int)) hn1 (by omega)).1
    have h2 : 1 ≤ (Builtin.Int.intBits a : Int) := bits_pos (by omega)
    rcases Int.lt_or_le 0 (((Builtin.Int.intBits a : Int) + (Builtin.Int.intBits b : Int) - 1).fdiv (Builtin.Int.intBits b : Int)) with h3 | h3
    · omega
    · have e : ((Builtin.Int.intBits a : Int) + (Builtin.Int.intBits b : Int) - 1).fdiv (Builtin.Int.intBits b : Int) = 0 := by omega
      rw [e, Int.mul_zero] at h1
      omega
  rcases hs with ⟨rfl, rfl⟩ | ⟨c37, o37, c30, o30, rfl, rfl, m1, m2, h1, h2⟩
  · refine (dmp_first w rest hr a b _ ta tb ha hb rfl hn1 hn2 hk0 hk1 hk2).keep (fun q hq => hq) ?_
    rintro r news' ⟨T, t1, t2, c37, o37, c30, o30, rfl, rfl, h1, h2, l1, l2, l3, l4, l5, l6⟩
    refine ⟨(37, tab37 c37) :: (30, tab30 c30) :: (T, _) :: (c37, o37) :: (c30, o30) :: rest, ⟨T, t1, t2, rfl, c37, o37, c30, o30, rfl, h1, h2, l1, Nat.lt_trans l4 l5, l4, l6, Nat.lt_trans l5 l6⟩, ?_⟩
    intro q hq
    simp only [List.mem_cons] at hq ⊢
    rcases hq with hq | hq | hq | hq | hq | hq <;> simp only [hq, true_or, or_true]
  · refine (dmp_full w rest c37 c30 o37 o30 m1 m2 h1 h2 hr a b _ ta tb ha hb rfl hn1 hn2 hk0 hk1 hk2).keep (fun q hq => hq) ?_
    rintro r news' ⟨T, t1, t2, rfl, rfl, l1, l2⟩
    refine ⟨(37, tab37 c37) :: (30, tab30 c30) :: (T, _) :: (c37, o37) :: (c30, o30) :: rest, ⟨T, t1, t2, rfl, c37, o37, c30, o30, rfl, h1, h2, l1, hr _ m1, hr _ m2, l1 _ m1, l1 _ m2⟩, ?_⟩
    intro q hq
    simp only [List.mem_cons] at hq ⊢
    rcases hq with hq | hq | hq | hq | hq | hq
    · simp only [hq, true_or, or_true]
    · simp only [hq, true_or, or_true]
    · simp only [hq, true_or, or_true]
    · exact .inr (.inr (.inr (hq ▸ m1)))
    · exact .inr (.inr (.inr (hq ▸ m2)))
    · exact .inr (.inr (.inr hq))

end SBase4
section SUseP
open PySem PySem.W PyProof.Rows PySem.Calls PySem.Spec
section
variable {w : World} {f : Addr} {dep : Nat} {news rest : List (Addr × Obj)} {vs : List Value}
    {p : Program} {loose : List Str} {mean : ExcName → Option Value} {mg mb : Str → Option Value}
    {dp un : Nat} {gd : Option (List Code)} {cn : Str} {cs : Scope} {a : Addr} {ccd : Value} {cl : List (Str × Addr)} {outer : List Env} {A₀ : Around} {base h₀ : Heap} {L : Addr} {m : Str → Option Value} {s : Shared} {Q E : Value → Shared → Prop}

theorem use_pair {x y : Int} (C : Claim w f dep news vs (PairAfter rest x y))
    (B : Below A₀ base outer h₀) (F : Fr h₀ L s.heap m) (X : (hd.heap_39 w.params).In h₀) (N : News h₀ L s.heap news) (T : Top p loose mean mg mb h₀) (C1 : CodeHd base 41 37) (C2 : CodeHd base 34 30) (hk : cs.kind = .function)
    (hdp : dp + dep < recursionLimit) (hu : un + 8 * dep < cLine)
    (h : ∀ T t1 t2 c37 o37 c30 o30 h' tk', CodeOk q42 o37 → CodeOk q35 o30 → (∀ q ∈ rest, q.1 < T) → @LT.lt Nat _ 37 c37 → @LT.lt Nat _ 37 c30 → @LT.lt Nat _ 37 T → @LT.lt Nat _ c37 T → @LT.lt Nat _ c30 T → Fr h₀ L h' m →
      News h₀ L h' ((37, tab37 c37) :: (30, tab30 c30) :: (T, tup2 x y t1 t2) :: (c37, o37) :: (c30, o30) :: rest) → Q (.ref T) { heap := h', gens := s.gens, drawn := s.drawn, toks := tk', os := s.os }) :
    wpAny (model PySem.Challenge.rw_ie0003_01.prog w) (ktrTop dp un gd cn cs L a ccd cl outer) (call (.ref f) vs) Q E s := by
  refine Claim.use C B F X N T C1 C2 hk hdp hu ?_
  rintro r news' h' tk' ⟨T', t1', t2', rfl, c37', o37', c30', o30', rfl, hc1', hc2', lT, l2, l3, l4, l5⟩ F' N'
  exact h _ _ _ _ _ _ _ _ _ hc1' hc2' lT l2 l3 (Nat.lt_trans l2 l4) l4 l5 F' N'

end

end SUseP
section SF56
open PySem PySem.W PyProof.Rows PySem.Calls PySem.Spec
local macro_rules | `(tactic| walk_at "call ref") => `(tactic| (k_here; (with_reducible show wpAny _ _ (call (Value.ref 49) _) _ _ _); k_dflt (ktf_call (Claim.use (dmp_any _ _ _ _ ?hs ?hr _ _ _ _ ?a1 ?a2 ?a3 ?a4)); (case hs => assumption); (case hr => walk_at "my gt"); (case a1 => omega); (case a2 => omega); (case a3 => omega); (case a4 => assumption)); (rintro r' news' h' tk' hP' F' N'); (try dsimp only); (try k_sweep)))
set_option maxRecDepth 100000 in
set_option maxHeartbeats 8000000 in
set_option pp.deepTerms.threshold 5 in
theorem idm_any (w : World) (p37 p30 : Array Value) (rest : List (Addr × Obj)) (hs : St p37 p30 rest) (hr : ∀ q ∈ rest, 37 < q.1) (a b : Int) (ta tb : Tok) (ha : 0 ≤ a) (hb : 1 ≤ b) (hn2 : (Builtin.Int.intBits b : Int) ≤ 4000)
    (hk1 : ((Builtin.Int.intBits a : Int) + (Builtin.Int.intBits b : Int) - 1).fdiv (Builtin.Int.intBits b : Int) ≤ 60) :
    Claim w 56 65 ((37, tabObj p37) :: (30, tabObj p30) :: rest) [.int a ta, .int b tb] (PairAfter rest (a.fdiv b) (a.fmod b)) := by
  unfold Claim
  w_top off
  k_fill
  intro p loose mean mg mb dp un gd cn cs aa ccd cl outer A₀ base h₀ L m s Q E B F X N T C1 C2 hk hdp hun hret
  refine wpAny_call ?_
  k_dflt (walk_at "my enterL")
  k_steps
  · exfalso; omega
  · exact hret _ _ _ _ (by assumption) (by assumption) (by assumption)

end SF56
local macro_rules | `(tactic| walk_at "my count 1") => `(tactic| skip)
section SF70
open PySem PySem.W PyProof.Rows PySem.Calls PySem.Spec
/-- an empty dict at d -/
def EmptyD (w : World) (d : Addr) (o : Obj) : Prop := (d == sysModules) = false ∧ Obj.IsDictOf (PySem.strKind PySem.Challenge.rw_ie0003_01.prog w) o []
local macro_rules | `(tactic| walk_at "exec For Tuple Call cons nil") => `(tactic| (k_here; (rename Fr _ _ _ _ => lF'); (rename News _ _ _ _ => lN'); with_unfolding_all ((refine' For_turns lF' ?_); k_whole; (refine MethodCall_ ?_); (refine ld lF' (by rfl) ?_); (refine getMethod_tab (knd := PySem.strKind _ _) (enc := PyData.str) PySem.F.slot_dict_items PySem.F.type_dict_items (by k_tabat) ?_); (refine callWith_method0 ?_); (refine call_items_tab (knd := PySem.strKind _ _) (enc := PyData.str) (by k_tabat) lF' lN' ?_); intro h' o' hv' F' N'; (replace N' := kti_tail N'); (refine kti_items (knd := PySem.strKind _ _) (enc := PyData.str) (xs := []) (by rfl) F' N' hv' (by k_tabat) (by k_mem) (fun _ _ h => Value.isStrOf_shape h) (by rfl) ?_)); clear lF' lN'; intro i' l1))
set_option maxRecDepth 100000 in
set_option maxHeartbeats 8000000 in
set_option pp.deepTerms.threshold 5 in
theorem acs_ok (w : World) (news : List (Addr × Obj)) (d e : Addr) (od oe : Obj)
   (hd : (d, od) ∈ news) (he : (e, oe) ∈ news) (hod : EmptyD w d od) (hoe : EmptyD w e oe) :
    Claim w 70 3 news [.ref d, .ref e] (fun r news' => ∃ D o, r = .ref D ∧ news' = (D, o) :: news ∧ EmptyD w D o ∧ ∀ q ∈ news, q.1 < D) := by
  obtain ⟨lod, hsd⟩ := hod
  obtain ⟨loe, hse⟩ := hoe
  have fs0 : PyProof.V.FlatPairs PyData.str ([] : List (Str × Value)) [] := .nil
  unfold Claim
  w_top off
  k_fill
  intro p loose mean mg mb dp un gd cn cs aa ccd cl outer A₀ base h₀ L m s Q E B F X N T C1 C2 hk hdp hun hret
  refine wpAny_call ?_
  k_dflt (walk_at "my enterL")
  k_steps
  exact hret _ _ _ _ ⟨_, _, rfl, rfl, ⟨by assumption, by assumption⟩, by assumption⟩ (by assumption) (by assumption)

end SF70
local macro_rules | `(tactic| walk_at "my count 2") => `(tactic| skip)
section SF63
open PySem PySem.W PyProof.Rows PySem.Calls PySem.Spec
abbrev tup5 (x1 x2 x3 x4 : Int) (d : Addr) (t1 t2 t3 t4 : Tok) : Obj := { cls := .type "tuple", data := .seq #[.int x1 t1, .int x2 t2, .int x3 t3, .int x4 t4, .ref d] }
local macro_rules | `(tactic| walk_at "call ref") => `(tactic| (k_here; (with_reducible show wpAny _ _ (call (Value.ref 70) _) _ _ _); k_dflt (ktf_call (Claim.use (acs_ok _ _ _ _ _ _ ?m1 ?m2 ?e1 ?e2)); (case m1 => k_mem); (case m2 => k_mem); (case e1 => assumption); (case e2 => assumption)); (rintro r' news' h' tk' ⟨D', o', e1', e2', hE', lD⟩ F' N'); (subst e1'; subst e2'); (try dsimp only); (try k_sweep)))
set_option maxRecDepth 100000 in
set_option maxHeartbeats 8000000 in
set_option pp.deepTerms.threshold 5 in
theorem afs_ok (w : World) (news : List (Addr × Obj)) (T S d e : Addr) (od oe : Obj) (x1 x2 x3 x4 y1 y2 y3 y4 : Int) (t1 t2 t3 t4 u1 u2 u3 u4 : Tok)
   (hT : (T, tup5 x1 x2 x3 x4 d t1 t2 t3 t4) ∈ news) (hS : (S, tup5 y1 y2 y3 y4 e u1 u2 u3 u4) ∈ news) (hd : (d, od) ∈ news) (he : (e, oe) ∈ news) (hod : EmptyD w d od) (hoe : EmptyD w e oe) :
    Claim w 63 5 news [.ref T, .ref S] (fun r news' => ∃ R D o v1 v2 v3 v4, r = .ref R ∧ news' = (R, tup5 (y1 + x1) (y2 + x2) (y3 + x3) (y4 + x4) D v1 v2 v3 v4) :: (D, o) :: news ∧ EmptyD w D o ∧ (∀ q ∈ news, q.1 < D) ∧ @LT.lt Nat _ D R) := by
  unfold Claim
  w_top off
  k_fill
  intro p loose mean mg mb dp un gd cn cs aa ccd cl outer A₀ base h₀ L m s Q E B F X N T1 C1 C2 hk hdp hun hret
  refine wpAny_call ?_
  k_dflt (walk_at "my enterL")
  k_steps
  refine hret _ _ _ _ ?_ (by assumption) (by assumption)
  exact ⟨_, _, _, _, _, _, _, rfl, rfl, by assumption, by assumption, by omega⟩

end SF63
section SRange
open PySem PySem.W PyProof.Rows PySem.Calls PySem.Spec PyProof.V

/-- a loop over a range of any step, by what holds ahead of each turn -/
theorem iter_range_inv {prog : Program} {w : World} {A : Around} {E : Value → Shared → Prop} {s : Shared} {env : Env} {h₀ : Heap} {x : Str} {body : List Stmt} {Q : Flow → Shared → Prop}
    {r : Addr} {a₀ b₀ c : Int} {t₀ u₀ v₀ : Tok} {n : Nat} {m₀ : Str → Option Value} {news : List (Addr × Obj)} (J : Nat → (Str → Option Value) → List (Addr × Obj) → Prop)
    (hh : A.handled = none) (hr : IsRange s.heap r a₀ b₀ c t₀ u₀ v₀) (hsmall : Builtin.Range.small a₀ b₀ c = true) (hn : Builtin.Range.rangeSize a₀ b₀ c = (n : Int)) (F : Fr h₀ env.locals s.heap m₀) (N : News h₀ env.locals s.heap news) (h0 : J 0 m₀ news)
    (turn : ∀ (I : Addr) (i : Nat) m₁ news₁ t h tk (it : Obj), i < n → (∃ y l : Int, it.data = .fields #[rawInt y, rawInt l, rawInt c]) → J i m₁ news₁ → (∀ p ∈ news₁, p.1 ≠ I) → (∀ p ∈ news, p.1 < I) → Fr h₀ env.locals h (fun y => if y = x then some (.int (a₀ + (i : Int) * c) t) else m₁ y) → News h₀ env.locals h ((I, it) :: news₁) →
      wpAny (model prog w) A (execs body env) (UnrPost h₀ env.locals { s with heap := h, toks := tk } I it (fun m' n' => J (i + 1) m' n') Q) E { s with heap := h, toks := tk })
    (done : ∀ m₁ news₁ h tk, J n m₁ news₁ → Fr h₀ env.locals h m₁ → News h₀ env.locals h news₁ → Q .next { s with heap := h, toks := tk }) :
    wpAny (model prog w) A (pyIter (.ref r)) (fun it s₂ => LoopAtV prog w A h₀ env x body Q E it s₂) E s := by
  refine wpAny_pyIter_range hr hsmall ?_
  have W : Walks prog w A s.heap.objs.size [s.heap.objs.size] [s.heap.objs.size] n (fun i v => i < n ∧ ∃ t, v = .int (a₀ + i * c) t)
      (fun i h => IsRangeIter h s.heap.objs.size (a₀ + (i : Nat) * c) ((n : Int) - (i : Nat)) c) := (Walks.range hh _ a₀ c n).bound
  have hnew := next_is_new F
  refine ⟨_, _, _, n, _, _, m₀, news, J, rfl, W, ?_, ?_, ?_, (by show IsRangeIter _ _ _ _ _; rw [hn]; simpa using Heap.get?_push_size _ rfl), F.push _, (fun p hp => ⟨Heap.get?_push_of_some _ (N p hp).1, (N p hp).2⟩), h0, ?_, ?_⟩
  · intro hm
    exact absurd F.ns.lt ((List.mem_singleton.mp hm) ▸ Nat.lt_irrefl _)
  · intro b hb
    rw [List.mem_singleton.mp hb]
    exact hnew
  · intro p hp hI
    exact absurd (Heap.lt_size (N p hp).1) ((List.mem_singleton.mp hI) ▸ Nat.lt_irrefl _)
  · rintro i v m₁ news₁ s₁ own ⟨hh', tk', rfl⟩ hin ⟨_, t, rfl⟩ hJ hoff hown hget hall hst F₁ N₁
    obtain ⟨it, hit, hic⟩ : ∃ it : Obj, hh'.get? s.heap.objs.size = some it ∧ ∃ y l : Int, it.data = .fields #[rawInt y, rawInt l, rawInt c] := ⟨_, hst, _, _, rfl⟩
    have hmem := hall s.heap.objs.size (List.mem_singleton.mpr rfl) hnew _ hit
    have N₂ : News h₀ env.locals hh' ((s.heap.objs.size, it) :: news₁) := fun p hp => by
      rcases List.mem_cons.mp hp with rfl | hp
      · exact N₁ _ (List.mem_append_left _ hmem)
      · exact N₁ _ (List.mem_append_right _ hp)
    refine wpAny_mono (turn s.heap.objs.size i m₁ news₁ t hh' tk' it hin hic hJ (fun p hp e => hoff p hp (List.mem_singleton.mpr e)) (fun p hp => Heap.lt_size (N p hp).1) F₁ N₂) (fun f s₂ p => ?_) fun _ _ e => e
    have fin : UnrEnd h₀ env.locals { s with heap := hh', toks := tk' } s.heap.objs.size it (fun m' n' => J (i + 1) m' n') s₂ →
        LoopStepU h₀ env.locals [s.heap.objs.size] own (J (i + 1)) { s with heap := hh', toks := tk' } .next s₂ := by
      rintro ⟨h', tk, m', news', e, F', N', ho, r⟩
      refine ⟨rfl, h', tk, m', news', e, F', fun p hp => ?_, fun p hp hI => ho p hp (List.mem_singleton.mp hI), r⟩
      rcases List.mem_append.mp hp with hp | hp
      · have h1 : p.1 = s.heap.objs.size := List.mem_singleton.mp (hown p hp)
        have h2 : hh'.get? p.1 = some p.2 := hget p hp
        have h3 : p = (s.heap.objs.size, it) := by
          rw [h1, hit] at h2
          exact Prod.ext h1 (Option.some.inj h2).symm
        rw [h3]; exact N' _ (List.mem_cons_self ..)
      · exact N' _ (List.mem_cons_of_mem _ hp)
    cases f with
    | ret v => exact .ret p
    | brk => exact .brk p
    | next => exact .next (fin p)
    | cont => exact .cont (fin p)
  · rintro h' tk m' news' F' N' _ hJ
    exact done m' news' h' tk hJ F' N'

theorem range_size {a b c : Int} (hc : 0 < c) (hab : a ≤ b) : Builtin.Range.rangeSize a b c = (((b - a + c - 1) / c).toNat : Int) := by
  unfold Builtin.Range.rangeSize
  rw [if_pos hc]
  by_cases h : a < b
  · rw [if_pos h]
    have h1 : (b - a + c - 1) / c = (b - a - 1) / c + 1 := by
      rw [show b - a + c - 1 = (b - a - 1) + c by omega, Int.add_ediv_of_dvd_right (Int.dvd_refl c), Int.ediv_self (by omega)]
    have h2 : 0 ≤ (b - a - 1) / c := Int.ediv_nonneg (by omega) (by omega)
    rw [h1]; omega
  · rw [if_neg h]
    have e : a = b := by omega
    subst e
    rw [show a - a + c - 1 = c - 1 by omega, Int.ediv_eq_zero_of_lt (by omega) (by omega)]
    rfl

theorem range_small {a b c : Int} (ha : -1000000 ≤ a) (ha2 : a ≤ 1000000) (hb : -1000000 ≤ b) (hb2 : b ≤ 1000000) (hc : 0 < c) (hc2 : c ≤ 1000) : Builtin.Range.small a b c = true := by
  have hs : 0 ≤ Builtin.Range.rangeSize a b c ∧ Builtin.Range.rangeSize a b c ≤ 3000000 := by
    unfold Builtin.Range.rangeSize
    rw [if_pos hc]
    split
    · have h1 : 0 ≤ (b - a - 1) / c := Int.ediv_nonneg (by omega) (by omega)
      have h2 : (b - a - 1) / c ≤ b - a - 1 := Int.ediv_le_self _ (by omega)
      omega
    · omega
  unfold Builtin.Range.small Builtin.Range.rangeFitsLong
  simp only [Bool.and_eq_true, Bool.or_eq_true, decide_eq_true_eq, if_pos hc]
  refine ⟨⟨⟨⟨?_, ?_⟩, ?_⟩, ?_⟩, ?_⟩ <;> first | omega | (right; omega) | skip

end SRange
section SF91
open PySem PySem.W PyProof.Rows PySem.Calls PySem.Spec PyProof.V
def fct : Nat → Nat
  | 0 => 1
  | n + 1 => (n + 1) * fct n

theorem fold_all : ∀ n : Nat, (List.foldl (fun (σ : Int × Unit) (k : Int) => (σ.fst * k, ())) (1, ()) (rangeInts 2 1 n)).fst = (fct (n + 1) : Nat)
  | 0 => rfl
  | n + 1 => by
    have e : rangeInts 2 1 (n + 1) = rangeInts 2 1 n ++ [2 + (n : Int)] := by
      unfold rangeInts
      rw [List.range_succ, List.map_append]
      simp
    rw [e, List.foldl_append]
    show (List.foldl (fun (σ : Int × Unit) (k : Int) => (σ.fst * k, ())) (1, ()) (rangeInts 2 1 n)).fst * (2 + (n : Int)) = _
    rw [fold_all n, show fct (n + 1 + 1) = (n + 1 + 1) * fct (n + 1) from rfl, Nat.mul_comm]
    rw [Int.natCast_mul]
    congr 1
    omega
theorem fold_fct {c : Int} (h : 0 ≤ c) : (List.foldl (fun (σ : Int × Unit) (k : Int) => (σ.fst * k, ())) (1, ()) (rangeInts 2 1 (c + 1 - 2).toNat)).fst = (fct c.toNat : Nat) := by
  rw [fold_all]
  by_cases h1 : c = 0
  · subst h1; rfl
  · congr 2
    omega

theorem mulR_int {prog : Program} {w : World} {A : Around} {E : Value → Shared → Prop} {s : Shared} {Q : Value → Shared → Prop} {a b : Int} {t u : Tok} (hb : b.natAbs < 2 ^ 64) (h : Q (.int (a * b) s.toks) { s with toks := s.toks + 1 }) :
    wpAny (model prog w) A (binaryOp .Mult (.int a t) (.int b u)) Q E s :=
  PyProof.Rows.mul_int h (IntMulOk.of_right (intBits_le_iff.mpr hb))
local macro_rules | `(tactic| walk_at "binaryOp Mult int int") => `(tactic| (k_here; (with_reducible refine mulR_int (by omega) ?_)))
local macro_rules | `(tactic| walk_at "pyIter ref") => `(tactic| (fail "my own"))
set_option maxRecDepth 100000 in
set_option maxHeartbeats 8000000 in
set_option pp.deepTerms.threshold 30 in
theorem all_ok (w : World) (news : List (Addr × Obj)) (c : Int) (tc : Tok) (h0 : 0 ≤ c) (h1 : c ≤ 1000) :
    Claim w 91 2 news [.int c tc] (fun r news' => news' = news ∧ ∃ t, r = .int (fct c.toNat : Nat) t) := by
  unfold Claim
  w_top off
  k_fill
  intro p loose mean mg mb dp un gd cn cs aa ccd cl outer A₀ base h₀ L m s Q E B F X N T1 C1 C2 hk hdp hun hret
  refine wpAny_call ?_
  k_dflt (walk_at "my enterL")
  k_steps
  refine hret _ _ _ _ ⟨rfl, ktn_int (fold_fct h0)⟩ (by assumption) (by assumption)

end SF91
section SF77
open PySem PySem.W PyProof.Rows PySem.Calls PySem.Spec PyProof.V
/-- k is how often p goes into x -/
def Oft (x p k : Nat) : Prop := p ^ k ∣ x ∧ ¬ p ^ (k + 1) ∣ x

def J77 (x0 p : Int) (tp : Tok) (base : List (Addr × Obj)) (n : Nat) (m : Str → Option Value) (news : List (Addr × Obj)) : Prop :=
  ∃ (x : Int) (k : Nat) (tx tk : Tok), n = x.toNat ∧ 1 ≤ x ∧ m "number" = some (.int x tx) ∧ m "found" = some (.int (k : Int) tk) ∧ m "prime" = some (.int p tp) ∧ news = base ∧ x.toNat * p.toNat ^ k = x0.toNat

theorem fr_canon3 {h₀ h : Heap} {L : Addr} {m : Str → Option Value} {k1 k2 k3 : Str} {v1 v2 v3 : Value} (F : Fr h₀ L h m) (h1 : m k1 = some v1) (h2 : m k2 = some v2) (h3 : m k3 = some v3) :
    Fr h₀ L h (fun y => if y = k1 then some v1 else if y = k2 then some v2 else if y = k3 then some v3 else m y) := by
  have e : m = (fun y => if y = k1 then some v1 else if y = k2 then some v2 else if y = k3 then some v3 else m y) := by
    funext y
    by_cases c1 : y = k1
    · rw [if_pos c1, c1, h1]
    · rw [if_neg c1]
      by_cases c2 : y = k2
      · rw [if_pos c2, c2, h2]
      · rw [if_neg c2]
        by_cases c3 : y = k3
        · rw [if_pos c3, c3, h3]
        · rw [if_neg c3]
  exact e ▸ F

theorem step77 {x p x0 : Int} {k : Nat} (hx : 1 ≤ x) (hp : 2 ≤ p) (h : x.toNat * p.toNat ^ k = x0.toNat) (hm : x.fmod p = 0) : 1 ≤ x.fdiv p ∧ (x.fdiv p).toNat < x.toNat ∧ (x.fdiv p).toNat * p.toNat ^ (k + 1) = x0.toNat := by
  rw [Int.fmod_eq_emod_of_nonneg _ (by omega)] at hm
  rw [Int.fdiv_eq_ediv_of_nonneg _ (by omega)]
  have h1 := Int.emod_add_mul_ediv x p
  rw [hm, Int.zero_add] at h1
  have hq : 1 ≤ x / p := by
    rcases Int.lt_or_le 0 (x / p) with h2 | h2
    · omega
    · have h3 : p * (x / p) ≤ 0 := Int.mul_nonpos_of_nonneg_of_nonpos (by omega) h2
      omega
  have h4 : x.toNat = p.toNat * (x / p).toNat := by
    rw [← Int.toNat_mul (by omega) (by omega), h1]
  refine ⟨hq, ?_, ?_⟩
  · rw [h4]
    have h5 : 2 * (x / p).toNat ≤ p.toNat * (x / p).toNat := Nat.mul_le_mul_right _ (by omega)
    omega
  · rw [← h, h4, Nat.pow_succ, Nat.mul_comm (p.toNat ^ k) p.toNat, ← Nat.mul_assoc, Nat.mul_comm p.toNat]

theorem done77 {x p x0 : Int} {k : Nat} (hx : 1 ≤ x) (hp : 2 ≤ p) (h : x.toNat * p.toNat ^ k = x0.toNat) (hm : ¬ x.fmod p = 0) : Oft x0.toNat p.toNat k := by
  rw [Int.fmod_eq_emod_of_nonneg _ (by omega)] at hm
  refine ⟨⟨x.toNat, by rw [← h, Nat.mul_comm]⟩, ?_⟩
  rintro ⟨y, hy⟩
  rw [← h, Nat.pow_succ, Nat.mul_comm, Nat.mul_assoc] at hy
  have h1 := Nat.eq_of_mul_eq_mul_left (Nat.pow_pos (show 0 < p.toNat by omega)) hy
  apply hm
  have h2 : x = p * (y : Int) := by
    have h3 : ((x.toNat : Nat) : Int) = ((p.toNat * y : Nat) : Int) := by rw [h1]
    rw [Int.natCast_mul, Int.toNat_of_nonneg (by omega), Int.toNat_of_nonneg (by omega)] at h3
    exact h3
  rw [h2]
  exact Int.mul_emod_right p y

def Mark (P : Prop) : Prop := P
theorem mark_in {P : Prop} (h : Mark P) : P := h
local macro_rules | `(tactic| walk_at "exec While BoolOp cons nil") => `(tactic| (k_here; refine mark_in ?_))
set_option maxRecDepth 100000 in
set_option maxHeartbeats 8000000 in
set_option pp.deepTerms.threshold 5 in
theorem often_ok (w : World) (news : List (Addr × Obj)) (x pr : Int) (tx tp : Tok) (h0 : 1 ≤ x) (h1 : 2 ≤ pr) (h2 : pr ≤ 1000) :
    Claim w 77 2 news [.int x tx, .int pr tp] (fun r news' => news' = news ∧ ∃ (k : Nat) (t : Tok), r = .int (k : Int) t ∧ Oft x.toNat pr.toNat k) := by
  unfold Claim
  w_top off
  k_fill
  intro p loose mean mg mb dp un gd cn cs aa ccd cl outer A₀ base h₀ L m s Q E B F X N T1 C1 C2 hk hdp hun hret
  refine wpAny_call ?_
  k_dflt (walk_at "my enterL")
  k_steps
  unfold Mark
  rename Fr _ _ _ _ => lF
  rename News _ _ _ _ => lN
  k_dflt (refine' While_inv (J77 x pr tp news) lF lN ⟨x, 0, _, _, rfl, h0, rfl, rfl, rfl, rfl, by simp⟩ ?_ (by passes_own))
  clear lF lN
  rintro n1 m1 news1 h1' tk1 F1 N1 ⟨x1, k1, tx1, tk1', rfl, hx1, b1, b2, b3, rfl, hv1⟩
  have F2 := fr_canon3 F1 b1 b2 b3
  clear F1
  k_steps
  · have hm : x1.fmod pr = 0 := by assumption
    obtain ⟨g1, g2, g3⟩ := step77 hx1 h1 hv1 hm
    refine WhileStep.intro (by assumption) (cb_drop (by assumption) (fun q hq => .tail _ hq)) g2 ⟨_, k1 + 1, _, _, rfl, g1, rfl, rfl, rfl, rfl, g3⟩
  · have hm : x1.fmod pr ≠ 0 := by assumption
    exact hret _ _ _ _ ⟨rfl, k1, _, rfl, done77 hx1 h1 hv1 hm⟩ (by assumption) (by assumption)

end SF77
section SSlice2
open PySem PySem.W PyProof.Rows PySem.Calls PySem.Spec
section
variable {prog : Program} {w : World} {A : Around} {E : Value → Shared → Prop} {s : Shared}

theorem sliceApplied_two {sl : Addr} {u : Tok} {Q : Int × Int × Nat → Shared → Prop} (hs : s.heap.IsSliceOf sl .none (.int 2 u) .none) (h : Q (0, 1, 2) s) :
    wpAny (model prog w) A (Builtin.Slice.sliceApplied (.ref sl) (pure ((5 : Nat) : Int))) Q E s := by
  obtain ⟨os, hos, hcs, hds⟩ := id hs
  unfold Builtin.Slice.sliceApplied Builtin.Slice.sliceFields
  refine wpAny_bind (wpAny_bind (wpAny_field hos hds (x := .none) rfl (wpAny_bind (wpAny_field hos hds (x := .int 2 u) rfl (wpAny_bind (wpAny_field hos hds (x := .none) rfl (wpAny_pure ?_)))))))
  refine wpAny_bind (slicePart_none ?_)
  show wpAny _ _ (if ((1 : Int) == 0) = true then _ else _) _ _ s
  rw [if_neg (by decide)]
  refine wpAny_bind (slicePart_none (wpAny_bind (slicePart_int (wpAny_bind (wpAny_pure ?_)))))
  exact wpAny_pure h

theorem getItem_tup5_two {t sl : Addr} {x0 x1 x2 x3 x4 : Value} {u : Tok} {Q : Value → Shared → Prop} (ht : IsTup s.heap t #[x0, x1, x2, x3, x4]) (hs : s.heap.IsSliceOf sl .none (.int 2 u) .none)
    (h : Q (.ref s.heap.objs.size) { s with heap := s.heap.push { cls := .type "tuple", data := .seq #[x0, x1] } }) : wpAny (model prog w) A (getItem (.ref t) (.ref sl)) Q E s := by
  have hok : sizeOk (.seq #[x0, x1]) := by
    show (#[x0, x1] : Array Value).size ≤ sizeLine
    rw [sizeLine_eq]
    show 2 ≤ 16777216
    decide
  obtain ⟨os, hos, hcs, hds⟩ := id hs
  have hTs : s.TypeIs (.ref sl) "slice" := ⟨os, hos, hcs⟩
  unfold getItem
  try with_reducible refine wpAny_holding ?_
  first | refine wpAny_bind (wpAny_pure ?_) | skip
  refine wpAny_bind (wpAny_sequenceKey ht.typeIs (by decide) ?_)
  refine wpAny_bind (wpAny_callSpecial?_slot (name := Str.ofString "__getitem__") ht.typeIs slot_tuple_getitem
    (wpAny_call_entry slot_tuple_getitem ht.typeIs entry_tuple_getitem ?_ (args_tuple_getitem _ _)))
  show wpAny _ _ (Builtin.Tuple.tupleItemsOf (.ref t) >>= _) _ _ s
  refine wpAny_bind (tupleItemsOf_ ht ?_)
  refine wpAny_bind (wpAny_typeOf hTs ?_)
  rw [if_pos (by decide)]
  refine wpAny_bind (sliceApplied_two hs ?_)
  have hp : ((List.range 2).filterMap fun (k : Nat) => (#[x0, x1, x2, x3, x4] : Array Value)[((0 : Int) + (k : Int) * 1).toNat]?).toArray = #[x0, x1] := rfl
  show wpAny _ _ (if ((0 : Int) == 0 && (1 : Int) == 1 && 2 == 5) = true then _ else _) _ _ s
  rw [if_neg (by decide), hp]
  first
    | exact wpAny_bind (m := Builtin.Tuple.tupleExact _) (wpAny_newObj_type (wpAny_pure ⟨_, rfl, wpAny_pure h⟩) hok)
    | exact wpAny_bind (m := Builtin.Tuple.tupleExact _) (wpAny_newObj_type (wpAny_bind (wpAny_pure (wpAny_pure ⟨_, rfl, wpAny_pure h⟩))) hok)
    | exact wpAny_bind (wpAny_bind (m := Builtin.Tuple.tupleExact _) (wpAny_newObj_type (wpAny_pure (wpAny_pure ⟨_, rfl, wpAny_pure h⟩)) hok))
    | exact wpAny_bind (wpAny_bind (m := Builtin.Tuple.tupleExact _) (wpAny_newObj_type (wpAny_pure ⟨_, rfl, wpAny_pure h⟩) hok))

theorem slice_tup5_two {h₀ : Heap} {L : Addr} {m : Str → Option Value} {news : List (Addr × Obj)} {value slice : PySem.Expr} {t : Addr} {x0 x1 x2 x3 x4 : Value} {u : Tok} {k : Nat} {Q : Value → Shared → Prop}
    (F : Fr h₀ L s.heap m) (N : News h₀ L s.heap news) (hm : (t, ({ cls := .type "tuple", data := .seq #[x0, x1, x2, x3, x4] k } : Obj)) ∈ news)
    (h : ∀ D h', Fr h₀ L h' m → News h₀ L h' ((D, { cls := .type "tuple", data := .seq #[x0, x1] }) :: news) → (∀ q ∈ news, q.1 < D) → Q (.ref D) { s with heap := h' })
    (hs : subscripted slice false (.ref t) (.ref s.heap.objs.size) = operate [.ref s.heap.objs.size, .ref t] (getItem (.ref t) (.ref s.heap.objs.size)) := by with_unfolding_all rfl)
    (hg : ∀ r, letTemporaryGo value (.ref t) r = pure () := by intro _; with_unfolding_all rfl) :
    wpAny (model prog w) A (subscriptTail value slice (.ref t) (.ref s.heap.objs.size)) Q E { s with heap := s.heap.push { cls := .type "slice", data := .fields #[.none, .int 2 u, .none] } } := by
  have ht : IsTup s.heap t #[x0, x1, x2, x3, x4] := ⟨_, (N _ hm).1, rfl, _, rfl⟩
  have ht' : IsTup (s.heap.push { cls := .type "slice", data := .fields #[.none, .int 2 u, .none] }) t #[x0, x1, x2, x3, x4] := ht.keeps fun _ _ e => Heap.get?_push_of_some _ e
  refine subscriptTail_ops (s := { s with heap := s.heap.push { cls := .type "slice", data := .fields #[.none, .int 2 u, .none] } }) ht'.typeIs slot_tuple_getitem.lookup
    (getItem_tup5_two ht' (Heap.IsSliceOf.new ..) ?_) hs hg
  have N1 := News.push (F.push { cls := .type "slice", data := .fields #[.none, .int 2 u, .none] }) (N.grown fun _ _ e => Heap.get?_push_of_some _ e) { cls := .type "tuple", data := .seq #[x0, x1] }
  rw [Heap.size_push] at N1
  show Q (.ref (s.heap.push _).objs.size) _
  rw [Heap.size_push]
  exact h _ _ ((F.push _).push _) N1 fun q hq => Nat.lt_succ_of_lt (Heap.lt_size (N q hq).1)
end

end SSlice2
section SF84
open PySem PySem.W PyProof.Rows PySem.Calls PySem.Spec PyProof.V

def Mark2 (P : Prop) : Prop := P
theorem mark2_in {P : Prop} (h : Mark2 P) : P := h

theorem St.mono {p37 p30 : Array Value} {rest rest2 : List (Addr × Obj)} (h : St p37 p30 rest) (hs : ∀ q ∈ rest, q ∈ rest2) : St p37 p30 rest2 := by
  rcases h with h | ⟨c37, o37, c30, o30, e1, e2, m1, m2, h1, h2⟩
  · exact .inl h
  · exact .inr ⟨c37, o37, c30, o30, e1, e2, hs _ m1, hs _ m2, h1, h2⟩

/-- the whole parts of c by p, by its square, .. added up; the remainders added up -/
def wsm (c p : Nat) : Nat → Nat
  | 0 => 0
  | i + 1 => c / p ^ (i + 1) + wsm c p i
def dgm (c p : Nat) : Nat → Nat
  | 0 => 0
  | i + 1 => c / p ^ i % p + dgm c p i

def J84 (w : World) (c p : Int) (tp : Tok) (rest : List (Addr × Obj)) (i : Nat) (m : Str → Option Value) (news : List (Addr × Obj)) : Prop :=
  ∃ p37 p30 rest1 T D oD w1 w2 w3 w4 t1 t2 t3 t4 lv tl, m "left" = some (.int lv tl) ∧ m "prime" = some (.int p tp) ∧ m "whole" = some (.ref T) ∧
    news = (37, tabObj p37) :: (30, tabObj p30) :: (T, tup5 w1 w2 w3 w4 D t1 t2 t3 t4) :: (D, oD) :: rest1 ∧ EmptyD w D oD ∧ St p37 p30 rest1 ∧ (1 ≤ i → p37 ≠ #[]) ∧ (∀ q ∈ rest, q ∈ rest1) ∧ (∀ q ∈ rest1, 37 < q.1) ∧ @LT.lt Nat _ 37 T ∧ @LT.lt Nat _ 37 D ∧
    w1 = (wsm c.toNat p.toNat i : Nat) ∧ w2 = (dgm c.toNat p.toNat i : Nat) ∧ lv = (c.toNat / p.toNat ^ i : Nat)

theorem fr_canonx3 {h₀ h : Heap} {L : Addr} {m : Str → Option Value} {x k1 k2 k3 : Str} {v : Option Value} {v1 v2 v3 : Value} (F : Fr h₀ L h (fun y => if y = x then v else m y)) (h1 : m k1 = some v1) (h2 : m k2 = some v2) (h3 : m k3 = some v3) :
    Fr h₀ L h (fun y => if y = x then v else if y = k1 then some v1 else if y = k2 then some v2 else if y = k3 then some v3 else m y) := by
  have e : m = (fun y => if y = k1 then some v1 else if y = k2 then some v2 else if y = k3 then some v3 else m y) := by
    funext y
    by_cases c1 : y = k1
    · rw [if_pos c1, c1, h1]
    · rw [if_neg c1]
      by_cases c2 : y = k2
      · rw [if_pos c2, c2, h2]
      · rw [if_neg c2]
        by_cases c3 : y = k3
        · rw [if_pos c3, c3, h3]
        · rw [if_neg c3]
  have e2 : (fun y => if y = x then v else m y) = (fun y => if y = x then v else if y = k1 then some v1 else if y = k2 then some v2 else if y = k3 then some v3 else m y) := by
    funext y
    by_cases c : y = x
    · rw [if_pos c, if_pos c]
    · rw [if_neg c, if_neg c]
      exact congrFun e y
  exact e2 ▸ F

theorem bits_small {x : Int} (h0 : 0 ≤ x) (h1 : x ≤ 1000) : (Builtin.Int.intBits x : Int) ≤ 10 := by
  have h : x.natAbs < 1024 := by omega
  have : Builtin.Int.intBits x ≤ 10 := intBits_le_iff.mpr h
  omega

theorem fdiv_le {x n k : Int} (hn : 1 ≤ n) (h0 : 0 ≤ x) (hx : x ≤ k) : (x + n - 1).fdiv n ≤ k := by
  rw [Int.fdiv_eq_ediv_of_nonneg _ (by omega)]
  rcases Int.lt_or_le 0 x with h3 | h3
  · have h1 : (x + n - 1) / n ≤ x := by
      refine Int.ediv_le_of_le_mul (by omega) ?_
      have h4 : (x - 1) * 1 ≤ (x - 1) * n := Int.mul_le_mul_of_nonneg_left hn (by omega)
      simp only [Int.sub_mul, Int.one_mul, Int.mul_one] at h4
      omega
    omega
  · have e : x = 0 := by omega
    subst e
    rw [Int.ediv_eq_zero_of_lt (by omega) (by omega)]
    exact hx

theorem perm84 {h₀ h : Heap} {L : Addr} {X T D t1 t2 : Addr × Obj} {r : List (Addr × Obj)} (N : News h₀ L h (X :: T :: D :: t1 :: t2 :: r)) : News h₀ L h (t1 :: t2 :: T :: D :: r) := cb_drop N fun q hq => by
  simp only [List.mem_cons] at hq ⊢; rcases hq with hq | hq | hq | hq | hq <;> simp only [hq, true_or, or_true]

theorem code_ne_iter {h₀ h : Heap} {L I c : Addr} {it oc : Obj} {news : List (Addr × Obj)} {q : Str} {st : Int} (N : News h₀ L h news) (m1 : (I, it) ∈ news) (m2 : (c, oc) ∈ news) (hi : ∃ y l : Int, it.data = .fields #[rawInt y, rawInt l, rawInt st]) (hc : CodeOk q oc) : c ≠ I := by
  rintro rfl
  obtain ⟨y, l, e1⟩ := hi
  obtain ⟨vs, t, e2, e3⟩ := hc
  have h1 := (N _ m1).1
  have h2 := (N _ m2).1
  rw [h1] at h2
  cases h2
  rw [e1] at e2
  cases e2
  cases e3

theorem turn84 {w : World} {c pr : Int} {tp tl : Tok} {rest rest1 : List (Addr × Obj)} {i : Nat} {h₀ h' : Heap} {L R D' I c37 c30 : Addr} {m' : Str → Option Value} {s₁ : Shared} {tk : Nat} {o' o37 o30 it : Obj} {s1 s2 s3 s4 s5 : Addr × Obj} {x1 x2 x3 x4 w1 w2 lv lv' st : Int} {t1 t2 t3 t4 : Tok} {q37 q30 : Array Value} {p1 p2 : Addr × Obj}
    (N : News h₀ L h' ((R, tup5 x1 x2 x3 x4 D' t1 t2 t3 t4) :: (D', o') :: s1 :: s2 :: (37, tab37 c37) :: (30, tab30 c30) :: s3 :: (c37, o37) :: (c30, o30) :: (I, it) :: s4 :: s5 :: rest1)) (F : Fr h₀ L h' m') (hE : EmptyD w D' o') (hc1 : CodeOk q42 o37) (hc2 : CodeOk q35 o30)
    (hit : ∃ y l : Int, it.data = .fields #[rawInt y, rawInt l, rawInt st]) (hsub : ∀ q ∈ rest, q ∈ rest1) (hr1 : ∀ q ∈ rest1, 37 < q.1) (hoff : ∀ p ∈ (37, tabObj q37) :: (30, tabObj q30) :: p1 :: p2 :: rest1, p.1 ≠ I) (hm1 : m' "left" = some (.int lv' tl)) (hm2 : m' "prime" = some (.int pr tp)) (hm3 : m' "whole" = some (.ref R))
    (h1 : @LT.lt Nat _ I D') (h2 : @LT.lt Nat _ D' R) (h3 : @LT.lt Nat _ 37 c37) (h4 : @LT.lt Nat _ 37 c30) (h5 : @LT.lt Nat _ 37 I) (e1 : w1 = (wsm c.toNat pr.toNat i : Nat)) (e2 : w2 = (dgm c.toNat pr.toNat i : Nat)) (e3 : lv = (c.toNat / pr.toNat ^ i : Nat)) (hp : 2 ≤ pr)
    (g1 : x1 = lv.fdiv pr + w1) (g2 : x2 = lv.fmod pr + w2) (g3 : lv' = lv.fdiv pr) :
    UnrEnd h₀ L s₁ I it (fun m' n' => J84 w c pr tp rest (i + 1) m' n') { s₁ with heap := h', toks := tk } := by
  have n1 : c37 ≠ I := code_ne_iter N (by simp) (by simp) hit hc1
  have n2 : c30 ≠ I := code_ne_iter N (by simp) (by simp) hit hc2
  have hl0 : 0 ≤ lv := by rw [e3]; exact Int.natCast_nonneg _
  obtain ⟨pn, rfl⟩ := Int.eq_ofNat_of_zero_le (show 0 ≤ pr by omega)
  simp only [Int.toNat_natCast] at e1 e2 e3
  have f1 : lv.fdiv (pn : Int) = (c.toNat / pn ^ (i + 1) : Nat) := by
    rw [Int.fdiv_eq_ediv_of_nonneg _ (by omega), e3, Nat.pow_succ, ← Nat.div_div_eq_div_mul]
    rfl
  have f2 : lv.fmod (pn : Int) = (c.toNat / pn ^ i % pn : Nat) := by
    rw [Int.fmod_eq_emod_of_nonneg _ (by omega), e3]
    rfl
  refine ⟨h', tk, m', (37, tab37 c37) :: (30, tab30 c30) :: (R, tup5 x1 x2 x3 x4 D' t1 t2 t3 t4) :: (D', o') :: (c37, o37) :: (c30, o30) :: rest1, rfl, F, fun q hq => N q ?_, ?_, _, _, (c37, o37) :: (c30, o30) :: rest1, R, D', o', x1, x2, x3, x4, t1, t2, t3, t4, lv', tl, hm1, hm2, hm3, rfl, hE,
    St.full hc1 hc2 (.head _) (.tail _ (.head _)), fun _ => by simp, fun q hq => .tail _ (.tail _ (hsub q hq)), ?_, ?_, ?_, ?_, ?_, ?_⟩
  · simp only [List.mem_cons] at hq ⊢
    rcases hq with hq | hq | hq | hq | hq | hq | hq | hq <;> simp only [hq, true_or, or_true]
  · intro p hp'
    simp only [List.mem_cons] at hp'
    rcases hp' with rfl | rfl | rfl | rfl | rfl | rfl | hp'
    · exact Nat.ne_of_lt h5
    · exact Nat.ne_of_lt (Nat.lt_trans (by decide : 30 < 37) h5)
    · exact Nat.ne_of_gt (Nat.lt_trans h1 h2)
    · exact Nat.ne_of_gt h1
    · exact n1
    · exact n2
    · exact hoff _ (by simp [hp'])
  · intro q hq
    simp only [List.mem_cons] at hq
    rcases hq with rfl | rfl | hq
    · exact h3
    · exact h4
    · exact hr1 q hq
  · exact Nat.lt_trans (Nat.lt_trans h5 h1) h2
  · exact Nat.lt_trans h5 h1
  · rw [g1, f1, e1]
    simp only [Int.toNat_natCast, wsm, Int.natCast_add]
  · rw [g2, f2, e2]
    simp only [Int.toNat_natCast, dgm, Int.natCast_add]
  · rw [g3, f1]
    rfl

theorem fin84 {rest rest1 : List (Addr × Obj)} {h₀ h : Heap} {L R : Addr} {m : Str → Option Value} {s : Shared} {Q : Value → Shared → Prop} {x y x' y' : Int} {t1 t2 : Tok} {tk : Nat} {q37 q30 : Array Value} {s1 s2 : Addr × Obj}
    (hret : ∀ r news' h' tk', PairAfter rest x y r news' → Fr h₀ L h' m → News h₀ L h' news' → Q r { s with heap := h', toks := tk' })
    (N : News h₀ L h ((R, tup2 x' y' t1 t2) :: (37, tabObj q37) :: (30, tabObj q30) :: s1 :: s2 :: rest1)) (F : Fr h₀ L h m) (hS : St q37 q30 rest1) (hf : q37 ≠ #[]) (hsub : ∀ q ∈ rest, q ∈ rest1) (hr1 : ∀ q ∈ rest1, 37 < q.1) (hR : ∀ q ∈ rest1, q.1 < R) (hx : x' = x) (hy : y' = y) :
    Q (.ref R) { s with heap := h, toks := tk } := by
  subst hx; subst hy
  rcases hS with ⟨e, _⟩ | ⟨c37, o37, c30, o30, rfl, rfl, m1, m2, h1, h2⟩
  · exact absurd e hf
  · refine hret _ _ _ _ ⟨R, t1, t2, rfl, c37, o37, c30, o30, rfl, h1, h2, fun q hq => hR q (hsub q hq), hr1 _ m1, hr1 _ m2, hR _ m1, hR _ m2⟩ F (cb_drop N ?_)
    intro q hq
    simp only [List.mem_cons] at hq ⊢
    rcases hq with hq | hq | hq | hq | hq | hq
    · simp only [hq, true_or, or_true]
    · simp only [hq, true_or, or_true]
    · simp only [hq, true_or, or_true]
    · exact .inr (.inr (.inr (.inr (.inr (hq ▸ m1)))))
    · exact .inr (.inr (.inr (.inr (.inr (hq ▸ m2)))))
    · exact .inr (.inr (.inr (.inr (.inr (hsub q hq)))))

theorem k84 {lv pr : Int} (h0 : 0 ≤ lv) (h1 : lv ≤ 1000) (h2 : 1 ≤ pr) : ((Builtin.Int.intBits lv : Int) + (Builtin.Int.intBits pr : Int) - 1).fdiv (Builtin.Int.intBits pr : Int) ≤ 60 := by
  have h3 := bits_small h0 h1
  have h4 := bits_pos h2
  exact fdiv_le h4 (by omega) (by omega)

theorem use_afs {w : World} {f : Addr} {dep : Nat} {news : List (Addr × Obj)} {vs : List Value} {x1 x2 x3 x4 : Int}
    {p : Program} {loose : List Str} {mean : ExcName → Option Value} {mg mb : Str → Option Value}
    {dp un : Nat} {gd : Option (List Code)} {cn : Str} {cs : Scope} {a : Addr} {ccd : Value} {cl : List (Str × Addr)} {outer : List Env} {A₀ : Around} {base h₀ : Heap} {L : Addr} {m : Str → Option Value} {s : Shared} {Q E : Value → Shared → Prop}
    (C : Claim w f dep news vs (fun r news' => ∃ R D o v1 v2 v3 v4, r = .ref R ∧ news' = (R, tup5 x1 x2 x3 x4 D v1 v2 v3 v4) :: (D, o) :: news ∧ EmptyD w D o ∧ (∀ q ∈ news, q.1 < D) ∧ @LT.lt Nat _ D R))
    (B : Below A₀ base outer h₀) (F : Fr h₀ L s.heap m) (X : (hd.heap_39 w.params).In h₀) (N : News h₀ L s.heap news) (T : Top p loose mean mg mb h₀) (C1 : CodeHd base 41 37) (C2 : CodeHd base 34 30) (hk : cs.kind = .function)
    (hdp : dp + dep < recursionLimit) (hu : un + 8 * dep < cLine)
    (h : ∀ R D o v1 v2 v3 v4 h' tk', EmptyD w D o → (∀ q ∈ news, q.1 < D) → @LT.lt Nat _ D R → Fr h₀ L h' m → News h₀ L h' ((R, tup5 x1 x2 x3 x4 D v1 v2 v3 v4) :: (D, o) :: news) → Q (.ref R) { heap := h', gens := s.gens, drawn := s.drawn, toks := tk', os := s.os }) :
    wpAny (model PySem.Challenge.rw_ie0003_01.prog w) (ktrTop dp un gd cn cs L a ccd cl outer) (call (.ref f) vs) Q E s := by
  refine Claim.use C B F X N T C1 C2 hk hdp hu ?_
  rintro r news' h' tk' ⟨R', D', o', v1', v2', v3', v4', rfl, rfl, hE', lD, lR⟩ F' N'
  exact h _ _ _ _ _ _ _ _ _ hE' lD lR F' N'
local macro_rules | `(tactic| walk_at "call ref") => `(tactic| (k_here; (with_reducible show wpAny _ _ (call (Value.ref 56) _) _ _ _); k_dflt (ktf_call (use_pair (idm_any _ _ _ _ ?hs ?hr _ _ _ _ ?a1 ?a2 ?a3 ?a4)); (case hs => first | assumption | exact St.mono (by assumption) (by (intro q hq; repeat (first | exact hq | refine' List.mem_cons_of_mem _ ?_)))); (case hr => walk_at "my gt"); (case a1 => omega); (case a2 => omega); (case a3 => omega); (case a4 => assumption)); intro T' t1' t2' c37' o37' c30' o30' h' tk' hc1' hc2' lT l2 l3 l6 l4 l5 F' N'; (try k_lt lT); (try dsimp only); (try k_sweep)))
local macro_rules | `(tactic| walk_at "call ref") => `(tactic| (k_here; (with_reducible show wpAny _ _ (call (Value.ref 63) _) _ _ _); k_dflt (ktf_call (use_afs (afs_ok _ _ _ _ _ _ _ _ _ _ _ _ _ _ _ _ _ _ _ _ _ _ _ _ ?m1 ?m2 ?m3 ?m4 ?e1 ?e2)); (case m1 => k_mem); (case m2 => k_mem); (case m3 => k_mem); (case m4 => k_mem); (case e1 => first | assumption | exact ⟨by assumption, by assumption⟩); (case e2 => first | assumption | exact ⟨by assumption, by assumption⟩)); intro R' D' o' v1' v2' v3' v4' h' tk' hE' lD lR F' N'; (try k_lt lD); (try dsimp only); (try k_sweep)))
local macro_rules | `(tactic| walk_at "subscriptTail Name Slice ref ref") => `(tactic| (k_here; (with_reducible show wpAny _ _ (subscriptTail _ (PySem.Expr.Slice none (some _) none _) (Value.ref _) (Value.ref _)) _ _ _); k_dflt (refine' slice_tup5_two ?F ?N ?m ?_ ?s ?g; (case F => k_asm); (case N => k_asm); (case m => k_mem); (case s => with_unfolding_all rfl); (case g => (intro _; with_unfolding_all rfl))); intro D' h' F' N' l1; (try k_lt l1); (try dsimp only); (try k_sweep)))

local macro_rules | `(tactic| walk_at "pyIter ref") => `(tactic| (k_here; refine mark2_in ?_))
set_option maxRecDepth 100000 in
set_option maxHeartbeats 8000000 in
set_option pp.deepTerms.threshold 5 in
theorem wholes_ok (w : World) (p37 p30 : Array Value) (rest : List (Addr × Obj)) (hs : St p37 p30 rest) (hr : ∀ q ∈ rest, 37 < q.1) (c pr : Int) (tc tp : Tok) (h0 : 0 ≤ c) (h1 : c ≤ 1000) (h2 : 2 ≤ pr) (h3 : pr ≤ 1000) :
    Claim w 84 68 ((37, tabObj p37) :: (30, tabObj p30) :: rest) [.int c tc, .int pr tp] (PairAfter rest (wsm c.toNat pr.toNat 8 : Nat) (dgm c.toNat pr.toNat 8 : Nat)) := by
  unfold Claim
  w_top off
  k_fill
  intro p loose mean mg mb dp un gd cn cs aa ccd cl outer A₀ base h₀ L m s Q E B F X N T1 C1 C2 hk hdp hun hret
  refine wpAny_call ?_
  k_dflt (walk_at "my enterL")
  k_steps
  unfold Mark2
  k_dflt (refine' iter_range_inv (n := 8) (J84 w c pr tp rest) ?hh ?hr ?hsm ?hn ?F ?N ?h0 ?_ ?_; (case hh => exact rfl); (case hr => assumption); (case hsm => exact range_small (by omega) (by omega) (by omega) (by omega) (by omega) (by omega)); (case hn => decide); (case F => assumption); (case N => exact perm84 (by assumption)); (case h0 => exact ⟨p37, p30, rest, _, _, _, 0, 0, 0, 0, _, _, _, _, c, _, rfl, rfl, rfl, rfl, ⟨by assumption, by assumption⟩, hs, by omega, fun _ h => h, hr, by omega, by omega, rfl, rfl, by simp [Int.toNat_of_nonneg h0]⟩))
  · rintro I i m1 news1 t1' h1' tk1 it hi hic ⟨q37, q30, rest1, T, D, oD, w1, w2, w3, w4, t1, t2, t3, t4, lv, tl, b1, b2, b3, rfl, hE, hS, hf, hsub, hr1, l1, l2, e1, e2, e3⟩ hoff hlt F1 N1
    dsimp only [envOf] at F1 N1
    have F2 := fr_canonx3 F1 b1 b2 b3
    clear F1
    have hl0 : 0 ≤ lv := by rw [e3]; exact Int.natCast_nonneg _
    have hl1 : lv ≤ 1000 := by
      have := Nat.div_le_self c.toNat (pr.toNat ^ i)
      omega
    have hlI : @LT.lt Nat _ 37 I := hlt _ (.head _)
    have hk := k84 (pr := pr) hl0 hl1 (by omega)
    have hbp := bits_small (x := pr) (by omega) h3
    k_steps
    refine turn84 (by assumption) (by assumption) (by with_reducible assumption) (by with_reducible assumption) (by with_reducible assumption) hic hsub hr1 hoff rfl rfl rfl (by omega) (by omega) (by omega) (by omega) (by omega) e1 e2 e3 h2 rfl rfl rfl
  · rintro m1 news1 h1' tk1 ⟨q37, q30, rest1, T, D, oD, w1, w2, w3, w4, t1, t2, t3, t4, lv, tl, b1, b2, b3, rfl, hE, hS, hf, hsub, hr1, l1, l2, e1, e2, e3⟩ F1 N1
    dsimp only [envOf] at F1 N1
    have F2 := fr_canon3 F1 b1 b2 b3
    clear F1
    dsimp only
    k_steps
    refine fin84 hret (by assumption) (by assumption) hS (hf (by omega)) hsub hr1 (by with_reducible assumption) e1 e2

end SF84
section SNatC
open PySem PySem.W PyProof.Rows PySem.Calls PySem.Spec PyProof.V

open Classical in
/-- how often p goes into x -/
noncomputable def oft (x p : Nat) : Nat := if h : ∃ k, Oft x p k then h.choose else 0

theorem Oft.unique {x p k l : Nat} (h1 : Oft x p k) (h2 : Oft x p l) : k = l := by
  rcases Nat.lt_trichotomy k l with h | h | h
  · exact absurd (Nat.dvd_trans (Nat.pow_dvd_pow p (show k + 1 ≤ l by omega)) h2.1) h1.2
  · exact h
  · exact absurd (Nat.dvd_trans (Nat.pow_dvd_pow p (show l + 1 ≤ k by omega)) h1.1) h2.2
theorem oft_eq {x p k : Nat} (h : Oft x p k) : oft x p = k := by
  have hx : ∃ k, Oft x p k := ⟨k, h⟩
  unfold oft
  rw [dif_pos hx]
  exact hx.choose_spec.unique h

theorem Claim.weak {w : World} {f : Addr} {dep : Nat} {news : List (Addr × Obj)} {vs : List Value} {Post Post2 : Value → List (Addr × Obj) → Prop} (C : Claim w f dep news vs Post) (h : ∀ r news', Post r news' → Post2 r news') : Claim w f dep news vs Post2 :=
  C.keep (fun _ h => h) fun r news' hp => ⟨news', h r news' hp, fun _ h => h⟩

theorem wholes_nat (w : World) (p37 p30 : Array Value) (rest : List (Addr × Obj)) (hs : St p37 p30 rest) (hr : ∀ q ∈ rest, 37 < q.1) (c p : Nat) (cI pI : Int) (tc tp : Tok) (hc : cI = (c : Int)) (hp : pI = (p : Int)) (h1 : c ≤ 1000) (h2 : 2 ≤ p) (h3 : p ≤ 1000) :
    Claim w 84 68 ((37, tabObj p37) :: (30, tabObj p30) :: rest) [.int cI tc, .int pI tp] (PairAfter rest (wsm c p 8 : Nat) (dgm c p 8 : Nat)) := by
  subst hc; subst hp
  have := wholes_ok w p37 p30 rest hs hr (c : Int) (p : Int) tc tp (by omega) (by omega) (by omega) (by omega)
  rw [Int.toNat_natCast, Int.toNat_natCast] at this
  exact this

theorem often_nat (w : World) (news : List (Addr × Obj)) (x p : Nat) (xI pI : Int) (tx tp : Tok) (hx : xI = (x : Int)) (hp : pI = (p : Int)) (h0 : 1 ≤ x) (h1 : 2 ≤ p) (h2 : p ≤ 1000) :
    Claim w 77 2 news [.int xI tx, .int pI tp] (fun r news' => news' = news ∧ ∃ t, r = .int (oft x p : Nat) t) := by
  subst hx; subst hp
  refine (often_ok w news (x : Int) (p : Int) tx tp (by omega) (by omega) (by omega)).weak ?_
  rintro r news' ⟨rfl, k, t, rfl, ho⟩
  rw [Int.toNat_natCast, Int.toNat_natCast] at ho
  exact ⟨rfl, t, by rw [oft_eq ho]⟩

theorem all_nat (w : World) (news : List (Addr × Obj)) (c : Nat) (cI : Int) (tc : Tok) (hc : cI = (c : Int)) (h1 : c ≤ 1000) :
    Claim w 91 2 news [.int cI tc] (fun r news' => news' = news ∧ ∃ t, r = .int (fct c : Nat) t) := by
  subst hc
  have := all_ok w news (c : Int) tc (by omega) (by omega)
  rw [Int.toNat_natCast] at this
  exact this

def bn (a b : Nat) : Nat := fct (a + b) / (fct a * fct b)

theorem ways_nat (w : World) (p37 p30 : Array Value) (rest : List (Addr × Obj)) (hs : St p37 p30 rest) (hr : ∀ q ∈ rest, 37 < q.1) (a b : Nat) (xI yI : Int) (ta tb : Tok) (hx : xI = (fct (a + b) : Nat)) (hy : yI = (fct a : Int) * (fct b : Int)) (hpos : 0 < fct a * fct b) (hdvd : fct a * fct b ∣ fct (a + b))
    (hn2 : Builtin.Int.intBits ((fct a * fct b : Nat) : Int) ≤ 4000) (hk : Builtin.Int.intBits ((fct (a + b) : Nat) : Int) ≤ 60 * Builtin.Int.intBits ((fct a * fct b : Nat) : Int)) :
    Claim w 56 65 ((37, tabObj p37) :: (30, tabObj p30) :: rest) [.int xI ta, .int yI tb] (PairAfter rest (bn a b : Nat) 0) := by
  have e : yI = ((fct a * fct b : Nat) : Int) := by rw [hy, Int.natCast_mul]
  clear hy
  subst hx; subst e
  have hb := bits_pos (b := ((fct a * fct b : Nat) : Int)) (by omega)
  have := idm_any w p37 p30 rest hs hr ((fct (a + b) : Nat) : Int) ((fct a * fct b : Nat) : Int) ta tb (by omega) (by omega) (by omega) (by
    rw [Int.fdiv_eq_ediv_of_nonneg _ (by omega)]
    have h1 : ((Builtin.Int.intBits ((fct (a + b) : Nat) : Int) : Int) + (Builtin.Int.intBits ((fct a * fct b : Nat) : Int) : Int) - 1) / (Builtin.Int.intBits ((fct a * fct b : Nat) : Int) : Int) < 61 := Int.ediv_lt_of_lt_mul (by omega) (by omega)
    omega)
  have e1 : ((fct (a + b) : Nat) : Int).fdiv ((fct a * fct b : Nat) : Int) = (bn a b : Nat) := by
    rw [Int.fdiv_eq_ediv_of_nonneg _ (by omega)]; rfl
  have e2 : ((fct (a + b) : Nat) : Int).fmod ((fct a * fct b : Nat) : Int) = 0 := by
    rw [Int.fmod_eq_emod_of_nonneg _ (by omega)]
    exact_mod_cast Nat.mod_eq_zero_of_dvd hdvd
  rw [e1, e2] at this
  exact this

theorem bits_one {a n : Int} (hn : n = 1) (ha : 0 ≤ a) (h : a ≤ 1000) : 0 ≤ ((Builtin.Int.intBits a : Int) + n - 1).fdiv n ∧ ((Builtin.Int.intBits a : Int) + n - 1).fdiv n ≤ 60 ∧ (a ≠ 0 → 1 ≤ ((Builtin.Int.intBits a : Int) + n - 1).fdiv n) := by
  subst hn
  rw [Int.fdiv_eq_ediv_of_nonneg _ (by omega), Int.ediv_one]
  have := bits_small ha h
  refine ⟨by omega, by omega, fun h => ?_⟩
  have := bits_pos (b := a) (by omega)
  omega

/-- the ones of c -/
def ones (c : Nat) : Nat → Nat
  | 0 => 0
  | i + 1 => ones c i + c / 2 ^ i % 2

theorem digs_sum {c : Nat} {ns : List Int} (h : Digs (c : Int) 1 ns) (hc : c ≤ 1000) : ns.sum = (ones c ns.length : Nat) ∧ c < 2 ^ ns.length := by
  constructor
  · have key : ∀ k, k ≤ ns.length → (ns.take k).sum = (ones c k : Nat) := by
      intro k
      induction k with
      | zero => intro _; rfl
      | succ k ih =>
        intro hk
        have hlt : k < ns.length := by omega
        rw [List.take_add_one, List.getElem?_eq_getElem hlt]
        have h1 := h.2 k hlt
        rw [List.getD_eq_getElem?_getD, List.getElem?_eq_getElem hlt] at h1
        have h2 : ns[k] = ((c / 2 ^ k % 2 : Nat) : Int) := by
          have h3 : ns[k] = (((c : Int).toNat / 2 ^ ((1 : Int).toNat * k) % 2 ^ (1 : Int).toNat : Nat) : Int) := h1
          rw [h3, Int.toNat_natCast]
          show ((c / 2 ^ (1 * k) % 2 ^ 1 : Nat) : Int) = _
          rw [Nat.one_mul, Nat.pow_one]
        rw [List.sum_append, ih (by omega), ones, Int.natCast_add]
        show _ + [ns[k]].sum = _
        rw [h2]
        simp
    have := key ns.length (Nat.le_refl _)
    rw [List.take_length] at this
    exact this
  · have h1 := h.1
    rw [Int.fdiv_eq_ediv_of_nonneg _ (by omega), Int.ediv_one] at h1
    have e : ns.length = Builtin.Int.intBits (c : Int) := by omega
    rw [e]
    have := bits_lt (c : Int)
    have e2 : (c : Int).natAbs = c := by omega
    rw [e2] at this
    exact this

end SNatC
section SUseC
open PySem PySem.W PyProof.Rows PySem.Calls PySem.Spec PyProof.V
section
variable {w : World} {f : Addr} {dep : Nat} {news rest : List (Addr × Obj)} {vs : List Value}
    {p : Program} {loose : List Str} {mean : ExcName → Option Value} {mg mb : Str → Option Value}
    {dp un : Nat} {gd : Option (List Code)} {cn : Str} {cs : Scope} {a : Addr} {ccd : Value} {cl : List (Str × Addr)} {outer : List Env} {A₀ : Around} {base h₀ : Heap} {L : Addr} {m : Str → Option Value} {s : Shared} {Q E : Value → Shared → Prop}

theorem use_int {x : Int} (C : Claim w f dep news vs (fun r news' => news' = news ∧ ∃ t, r = .int x t))
    (B : Below A₀ base outer h₀) (F : Fr h₀ L s.heap m) (X : (hd.heap_39 w.params).In h₀) (N : News h₀ L s.heap news) (T : Top p loose mean mg mb h₀) (C1 : CodeHd base 41 37) (C2 : CodeHd base 34 30) (hk : cs.kind = .function)
    (hdp : dp + dep < recursionLimit) (hu : un + 8 * dep < cLine)
    (h : ∀ t h' tk', Fr h₀ L h' m → News h₀ L h' news → Q (.int x t) { heap := h', gens := s.gens, drawn := s.drawn, toks := tk', os := s.os }) :
    wpAny (model PySem.Challenge.rw_ie0003_01.prog w) (ktrTop dp un gd cn cs L a ccd cl outer) (call (.ref f) vs) Q E s := by
  refine Claim.use C B F X N T C1 C2 hk hdp hu ?_
  rintro r news' h' tk' ⟨rfl, t, rfl⟩ F' N'
  exact h _ _ _ F' N'

theorem use_ones {o : Nat} {p37 : Array Value} {c : Addr} {n : Int} (hn : n = 1) (h6 : ∀ k, o < 2 ^ k → wsm o 2 8 + ones o k = o) (ho : o ≤ 80) (C : Claim w f dep news vs (Post35b p37 c rest (o : Int) n))
    (B : Below A₀ base outer h₀) (F : Fr h₀ L s.heap m) (X : (hd.heap_39 w.params).In h₀) (N : News h₀ L s.heap news) (T : Top p loose mean mg mb h₀) (C1 : CodeHd base 41 37) (C2 : CodeHd base 34 30) (hk : cs.kind = .function)
    (hdp : dp + dep < recursionLimit) (hu : un + 8 * dep < cLine)
    (h : ∀ D vs ns h' tk', IntsAre vs ns → ((wsm o 2 8 : Nat) : Int) + ns.sum = o → (∀ q ∈ rest, q.1 < D) → @LT.lt Nat _ 37 D → Fr h₀ L h' m → News h₀ L h' ((D, listOf vs.toArray 0) :: (37, tabObj p37) :: (30, tab30 c) :: rest) → Q (.ref D) { heap := h', gens := s.gens, drawn := s.drawn, toks := tk', os := s.os }) :
    wpAny (model PySem.Challenge.rw_ie0003_01.prog w) (ktrTop dp un gd cn cs L a ccd cl outer) (call (.ref f) vs) Q E s := by
  subst hn
  refine Claim.use C B F X N T C1 C2 hk hdp hu ?_
  rintro r news' h' tk' ⟨D', vs', ns', rfl, rfl, hvs', hdg', l1, l2⟩ F' N'
  have h1 := digs_sum hdg' (by omega)
  have h2 := h6 _ h1.2
  exact h _ _ _ _ _ hvs' (by rw [h1.1]; omega) l1 l2 F' N'
end
theorem drop84 {h₀ h : Heap} {L cu cv : Addr} {A1 A2 A3 A4 A5 A6 : Addr × Obj} {ou ov : Obj} {r : List (Addr × Obj)} (N : News h₀ L h (A1 :: A2 :: A3 :: A4 :: A5 :: A6 :: (cu, ou) :: (cv, ov) :: r)) (_h1 : CodeOk q42 ou) (_h2 : CodeOk q35 ov) : News h₀ L h (A1 :: A2 :: A3 :: A4 :: A5 :: A6 :: r) := cb_drop N fun q hq => by
  simp only [List.mem_cons] at hq ⊢; rcases hq with hq | hq | hq | hq | hq | hq | hq <;> simp only [hq, true_or, or_true]
theorem gen_turn {prog : Program} {w : World} {A : Around} {body : List Stmt} {env : Env} {h₀ : Heap} {L I : Addr} {s₁ s : Shared} {it : Obj} {J : (Str → Option Value) → List (Addr × Obj) → Prop} {Q0 : Flow → Shared → Prop} {E0 : Value → Shared → Prop}
    (h : ∀ Q E, wpAny (model prog w) A (execs body env) (UnrPost h₀ L s₁ I it J Q) E s) : wpAny (model prog w) A (execs body env) (UnrPost h₀ L s₁ I it J Q0) E0 s := h Q0 E0

end SUseC
section SFactS
open PySem PySem.W PyProof.Rows PySem.Calls PySem.Spec PyProof.V
/-- the product of the first n odd numbers -/
def oddp : Nat → Nat
  | 0 => 1
  | n + 1 => oddp n * (2 * n + 1)

structure FactsOk (a b pr : Nat) : Prop where
  f1 : oft (fct a) pr = wsm a pr 8
  f2 : ((pr : Int) - 1) * ((wsm a pr 8 : Nat) : Int) = (a : Int) - ((dgm a pr 8 : Nat) : Int)
  f3 : oft (bn a b) pr + wsm a pr 8 + wsm b pr 8 = wsm (a + b) pr 8
  f4 : ((pr : Int) - 1) * ((oft (bn a b) pr : Nat) : Int) = ((dgm a pr 8 : Nat) : Int) + ((dgm b pr 8 : Nat) : Int) - ((dgm (a + b) pr 8 : Nat) : Int)
  f5 : oft (fct a) 5 = wsm a 5 8
  f5b : oft (fct a) 5 ≤ oft (fct a) 2
  f6 : ∀ k, a < 2 ^ k → wsm a 2 8 + ones a k = a
  f7 : pr = 2 ∨ oft (oddp ((a + 1) / 2)) pr + wsm (a / 2) pr 8 = wsm a pr 8
  p1 : 0 < fct a
  p2 : 0 < fct b
  p3 : 0 < fct (a + b)
  p4 : 0 < fct a * fct b
  p5 : 0 < bn a b
  p6 : 0 < oddp ((a + 1) / 2)
  d1 : fct a * fct b ∣ fct (a + b)
  m1 : IntMulOk (fct a : Nat) (fct b : Nat)
  b1 : Builtin.Int.intBits ((fct a * fct b : Nat) : Int) ≤ 4000
  b2 : Builtin.Int.intBits ((fct (a + b) : Nat) : Int) ≤ 60 * Builtin.Int.intBits ((fct a * fct b : Nat) : Int)


end SFactS
section SFacts
open PySem PySem.W PyProof.Rows PySem.Calls PySem.Spec PyProof.V

def Pri (p : Nat) : Prop := 2 ≤ p ∧ ∀ x y, p ∣ x * y → p ∣ x ∨ p ∣ y
theorem pri_of {p : Nat} (h2 : 2 ≤ p) (h : ∀ r, r < p → ∀ s, s < p → r * s % p = 0 → r = 0 ∨ s = 0) : Pri p := by
  refine ⟨h2, fun x y hd => ?_⟩
  have h1 := Nat.mod_eq_zero_of_dvd hd
  rw [Nat.mul_mod] at h1
  rcases h (x % p) (Nat.mod_lt _ (by omega)) (y % p) (Nat.mod_lt _ (by omega)) h1 with h | h
  · exact .inl (Nat.dvd_of_mod_eq_zero h)
  · exact .inr (Nat.dvd_of_mod_eq_zero h)
theorem pri_four {p : Nat} (h : p = 2 ∨ p = 3 ∨ p = 5 ∨ p = 7) : Pri p := by
  rcases h with rfl | rfl | rfl | rfl
  · exact pri_of (by decide) (by decide)
  · exact pri_of (by decide) (by decide)
  · exact pri_of (by decide) (by decide)
  · exact pri_of (by decide) (by decide)

theorem Oft.mul {p x y k l : Nat} (hp : Pri p) (h1 : Oft x p k) (h2 : Oft y p l) : Oft (x * y) p (k + l) := by
  obtain ⟨⟨x', rfl⟩, hx⟩ := h1
  obtain ⟨⟨y', rfl⟩, hy⟩ := h2
  have h0 : 0 < p := by have := hp.1; omega
  have e : p ^ k * x' * (p ^ l * y') = p ^ (k + l) * (x' * y') := by
    rw [Nat.pow_add]
    simp only [Nat.mul_assoc, Nat.mul_comm, Nat.mul_left_comm]
  rw [e]
  refine ⟨⟨_, rfl⟩, ?_⟩
  rw [Nat.pow_succ]
  intro hd
  have h3 := Nat.dvd_of_mul_dvd_mul_left (Nat.pow_pos h0) hd
  rcases hp.2 _ _ h3 with h | h
  · exact hx (by rw [Nat.pow_succ]; exact Nat.mul_dvd_mul_left _ h)
  · exact hy (by rw [Nat.pow_succ]; exact Nat.mul_dvd_mul_left _ h)

theorem Oft.exists {p : Nat} (hp : 2 ≤ p) : ∀ n x : Nat, x ≤ n → 0 < x → ∃ k, Oft x p k := by
  intro n
  induction n with
  | zero => intro x h1 h2; omega
  | succ n ih =>
    intro x h1 h2
    by_cases hd : p ∣ x
    · obtain ⟨y, rfl⟩ := hd
      have hy : 0 < y := Nat.pos_of_mul_pos_left h2
      have h3 : 2 * y ≤ p * y := Nat.mul_le_mul_right _ hp
      obtain ⟨k, hk1, hk2⟩ := ih y (by omega) hy
      refine ⟨k + 1, ?_, ?_⟩
      · rw [Nat.pow_succ, Nat.mul_comm]
        exact Nat.mul_dvd_mul_left _ hk1
      · rw [Nat.pow_succ, Nat.mul_comm]
        intro h
        exact hk2 (Nat.dvd_of_mul_dvd_mul_left (by omega) h)
    · exact ⟨0, by simp, by simpa using hd⟩

theorem oft_of_mod {x p k : Nat} (h : x % p ^ k = 0 ∧ x % p ^ (k + 1) ≠ 0) : Oft x p k :=
  ⟨Nat.dvd_of_mod_eq_zero h.1, fun hd => h.2 (Nat.mod_eq_zero_of_dvd hd)⟩

def stepOk (p c : Nat) : Bool := decide (wsm c p 8 ≤ wsm (c + 1) p 8 ∧ (c + 1) % p ^ (wsm (c + 1) p 8 - wsm c p 8) = 0 ∧ (c + 1) % p ^ (wsm (c + 1) p 8 - wsm c p 8 + 1) ≠ 0 ∧ (p - 1) * wsm c p 8 + dgm c p 8 = c)
theorem steps_ok {p : Nat} (h : p = 2 ∨ p = 3 ∨ p = 5 ∨ p = 7) : ∀ c, c < 161 → stepOk p c = true := by
  rcases h with rfl | rfl | rfl | rfl <;> decide +kernel

theorem legendre {p : Nat} (h : p = 2 ∨ p = 3 ∨ p = 5 ∨ p = 7) : ∀ c, c ≤ 160 → Oft (fct c) p (wsm c p 8) := by
  intro c
  induction c with
  | zero =>
    intro _
    rcases h with rfl | rfl | rfl | rfl <;> exact oft_of_mod (by decide +kernel)
  | succ c ih =>
    intro hc
    have h1 := steps_ok h c (by omega)
    simp only [stepOk, decide_eq_true_eq] at h1
    have h2 := Oft.mul (pri_four h) (oft_of_mod ⟨h1.2.1, h1.2.2.1⟩) (ih (by omega))
    have e : wsm (c + 1) p 8 - wsm c p 8 + wsm c p 8 = wsm (c + 1) p 8 := by omega
    rw [e] at h2
    exact h2
theorem digits_eq {p : Nat} (h : p = 2 ∨ p = 3 ∨ p = 5 ∨ p = 7) {c : Nat} (hc : c ≤ 160) : (p - 1) * wsm c p 8 + dgm c p 8 = c := by
  have h1 := steps_ok h c (by omega)
  simp only [stepOk, decide_eq_true_eq] at h1
  exact h1.2.2.2

/-- Pascal -/
def cb : Nat → Nat → Nat
  | 0, _ => 1
  | _ + 1, 0 => 1
  | a + 1, b + 1 => cb a (b + 1) + cb (a + 1) b
theorem cb_spec : ∀ n a b : Nat, a + b = n → fct (a + b) = cb a b * (fct a * fct b) ∧ 0 < cb a b ∧ cb a b ≤ 2 ^ (a + b) := by
  intro n
  induction n with
  | zero =>
    intro a b h
    obtain rfl : a = 0 := by omega
    obtain rfl : b = 0 := by omega
    simp [cb, fct]
  | succ n ih =>
    intro a b h
    match a, b with
    | 0, b => simp [cb, fct, Nat.one_le_two_pow]
    | a + 1, 0 => simp [cb, fct, Nat.one_le_two_pow]
    | a + 1, b + 1 =>
      obtain ⟨h1, h2, h3⟩ := ih a (b + 1) (by omega)
      obtain ⟨h4, h5, h6⟩ := ih (a + 1) b (by omega)
      have hcb : cb (a + 1) (b + 1) = cb a (b + 1) + cb (a + 1) b := by rw [cb]
      refine ⟨?_, ?_, ?_⟩
      · have e : a + 1 + (b + 1) = (a + (b + 1)) + 1 := by omega
        have e2 : fct (a + 1 + (b + 1)) = (a + 1) * fct (a + (b + 1)) + (b + 1) * fct (a + 1 + b) := by
          rw [e]
          show (a + (b + 1) + 1) * fct (a + (b + 1)) = _
          have e3 : a + 1 + b = a + (b + 1) := by omega
          rw [e3, ← Nat.add_mul]
          congr 1
          omega
        rw [e2, h1, h4]
        rw [hcb, Nat.add_mul (cb a (b + 1))]
        show _ = cb a (b + 1) * ((a + 1) * fct a * fct (b + 1)) + cb (a + 1) b * (fct (a + 1) * ((b + 1) * fct b))
        simp only [Nat.mul_assoc, Nat.mul_comm, Nat.mul_left_comm]
      · rw [hcb]
        omega
      · rw [hcb]
        have e : a + 1 + (b + 1) = (a + (b + 1)) + 1 := by omega
        have e3 : a + 1 + b = a + (b + 1) := by omega
        rw [e3] at h6
        rw [e, Nat.pow_succ]
        omega
theorem fct_pos : ∀ n, 0 < fct n
  | 0 => Nat.one_pos
  | n + 1 => Nat.mul_pos (Nat.succ_pos n) (fct_pos n)
theorem fct_le : ∀ n, n ≤ 200 → fct n ≤ 2 ^ (8 * n)
  | 0, _ => by decide
  | n + 1, h => by
    show (n + 1) * fct n ≤ _
    rw [show 8 * (n + 1) = 8 + 8 * n by omega, Nat.pow_add]
    exact Nat.mul_le_mul (by omega) (fct_le n (by omega))
theorem fct_mono : ∀ n m : Nat, n ≤ m → fct n ≤ fct m := by
  intro n m h
  induction h with
  | refl => exact Nat.le_refl _
  | @step m _ ih => exact Nat.le_trans ih (Nat.le_mul_of_pos_left _ (Nat.succ_pos m))
theorem bn_eq (a b : Nat) : bn a b = cb a b := by
  unfold bn
  rw [(cb_spec _ a b rfl).1]
  exact Nat.mul_div_cancel _ (Nat.mul_pos (fct_pos a) (fct_pos b))

def oddOk (p n : Nat) : Bool := decide (wsm n p 8 ≤ wsm (2 * n) p 8 ∧ wsm (2 * n) p 8 - wsm n p 8 ≤ wsm (2 * (n + 1)) p 8 - wsm (n + 1) p 8 ∧ (2 * n + 1) % p ^ (wsm (2 * (n + 1)) p 8 - wsm (n + 1) p 8 - (wsm (2 * n) p 8 - wsm n p 8)) = 0 ∧ (2 * n + 1) % p ^ (wsm (2 * (n + 1)) p 8 - wsm (n + 1) p 8 - (wsm (2 * n) p 8 - wsm n p 8) + 1) ≠ 0)
theorem odds_ok {p : Nat} (h : p = 3 ∨ p = 5 ∨ p = 7) : ∀ n, n < 42 → oddOk p n = true := by
  rcases h with rfl | rfl | rfl <;> decide +kernel
theorem odd_legendre {p : Nat} (h : p = 3 ∨ p = 5 ∨ p = 7) : ∀ n, n ≤ 41 → Oft (oddp n) p (wsm (2 * n) p 8 - wsm n p 8) := by
  intro n
  induction n with
  | zero =>
    intro _
    rcases h with rfl | rfl | rfl <;> exact oft_of_mod (by decide +kernel)
  | succ n ih =>
    intro hc
    have h1 := odds_ok h n (by omega)
    simp only [oddOk, decide_eq_true_eq] at h1
    have h2 := Oft.mul (pri_four (by omega)) (ih (by omega)) (oft_of_mod ⟨h1.2.2.1, h1.2.2.2⟩)
    have e : wsm (2 * n) p 8 - wsm n p 8 + (wsm (2 * (n + 1)) p 8 - wsm (n + 1) p 8 - (wsm (2 * n) p 8 - wsm n p 8)) = wsm (2 * (n + 1)) p 8 - wsm (n + 1) p 8 := by omega
    rw [e] at h2
    exact h2
def halfOk (p a : Nat) : Bool := decide (wsm (2 * ((a + 1) / 2)) p 8 - wsm ((a + 1) / 2) p 8 + wsm (a / 2) p 8 = wsm a p 8)
theorem halfs_ok {p : Nat} (h : p = 3 ∨ p = 5 ∨ p = 7) : ∀ n, n < 81 → halfOk p n = true := by
  rcases h with rfl | rfl | rfl <;> decide +kernel

def twoFive (a : Nat) : Bool := decide (wsm a 5 8 ≤ wsm a 2 8)
theorem two_five : ∀ a, a < 81 → twoFive a = true := by decide +kernel
def onesOk (a : Nat) : Bool := (List.range 8).all fun k => decide (a < 2 ^ k → wsm a 2 8 + ones a k = a)
theorem ones_ok : ∀ a, a < 81 → onesOk a = true := by decide +kernel
theorem ones_far {a : Nat} (ha : a ≤ 80) : ∀ j, ones a (7 + j) = ones a 7
  | 0 => rfl
  | j + 1 => by
    show ones a (7 + j) + a / 2 ^ (7 + j) % 2 = _
    have h1 : 2 ^ 7 ≤ 2 ^ (7 + j) := Nat.pow_le_pow_right (by decide) (by omega)
    have h2 : a / 2 ^ (7 + j) = 0 := Nat.div_eq_of_lt (by omega)
    rw [ones_far ha j, h2]
    rfl
theorem ones_all {a : Nat} (ha : a ≤ 80) (k : Nat) (h : a < 2 ^ k) : wsm a 2 8 + ones a k = a := by
  have h1 := ones_ok a (by omega)
  simp only [onesOk, List.all_eq_true, List.mem_range, decide_eq_true_eq] at h1
  by_cases hk : k < 8
  · exact h1 k hk h
  · obtain ⟨j, rfl⟩ : ∃ j, k = 7 + j := ⟨k - 7, by omega⟩
    rw [ones_far ha]
    exact h1 7 (by omega) (by omega)

theorem lin2 {pr W d a : Nat} (hp : pr = 2 ∨ pr = 3 ∨ pr = 5 ∨ pr = 7) (h : (pr - 1) * W + d = a) : ((pr : Int) - 1) * (W : Int) = (a : Int) - (d : Int) := by
  rcases hp with rfl | rfl | rfl | rfl <;> omega
theorem lin4 {pr k Wa Wb Wab da db dab a b : Nat} (hp : pr = 2 ∨ pr = 3 ∨ pr = 5 ∨ pr = 7) (h : k + Wa + Wb = Wab) (h1 : (pr - 1) * Wa + da = a) (h2 : (pr - 1) * Wb + db = b) (h3 : (pr - 1) * Wab + dab = a + b) : ((pr : Int) - 1) * (k : Int) = (da : Int) + (db : Int) - (dab : Int) := by
  rcases hp with rfl | rfl | rfl | rfl <;> omega
theorem facts {a b pr : Nat} (ha : a ≤ 80) (hb : b ≤ 80) (hp : pr = 2 ∨ pr = 3 ∨ pr = 5 ∨ pr = 7) : FactsOk a b pr := by
  have hP := pri_four hp
  obtain ⟨c1, c2, c3⟩ := cb_spec _ a b rfl
  have q1 := fct_pos a
  have q2 := fct_pos b
  have q3 := fct_pos (a + b)
  have q4 := Nat.mul_pos q1 q2
  have La := legendre hp a (by omega)
  have Lb := legendre hp b (by omega)
  have Lab := legendre hp (a + b) (by omega)
  have Da := digits_eq hp (c := a) (by omega)
  have Db := digits_eq hp (c := b) (by omega)
  have Dab := digits_eq hp (c := a + b) (by omega)
  have G1 : oft (fct a) pr = wsm a pr 8 := oft_eq La
  have G3 : oft (bn a b) pr + wsm a pr 8 + wsm b pr 8 = wsm (a + b) pr 8 := by
    rw [bn_eq]
    obtain ⟨k, hk⟩ := Oft.exists hP.1 _ (cb a b) (Nat.le_refl _) c2
    rw [oft_eq hk]
    have h1 := Oft.mul hP hk (Oft.mul hP La Lb)
    rw [← c1] at h1
    have := h1.unique Lab
    omega
  have S1 : fct a ≤ 2 ^ 640 := Nat.le_trans (fct_le a (by omega)) (Nat.pow_le_pow_right (by decide) (by omega))
  have S2 : fct b ≤ 2 ^ 640 := Nat.le_trans (fct_le b (by omega)) (Nat.pow_le_pow_right (by decide) (by omega))
  have S3 : fct a * fct b ≤ 2 ^ 1280 := by
    have := Nat.mul_le_mul S1 S2
    rw [← Nat.pow_add] at this
    exact this
  refine ⟨G1, ?_, G3, ?_, oft_eq (legendre (by omega) a (by omega)), ?_, ones_all ha, ?_, q1, q2, q3, q4, by rw [bn_eq]; exact c2, ?_, ⟨_, by rw [c1, Nat.mul_comm]⟩, ?_, ?_, ?_⟩
  · exact lin2 hp Da
  · exact lin4 hp G3 Da Db Dab
  · rw [oft_eq (legendre (p := 5) (by omega) a (by omega)), oft_eq (legendre (p := 2) (by omega) a (by omega))]
    have := two_five a (by omega)
    simpa [twoFive] using this
  · by_cases h2 : pr = 2
    · exact .inl h2
    have h3 : pr = 3 ∨ pr = 5 ∨ pr = 7 := by omega
    refine .inr ?_
    rw [oft_eq (odd_legendre h3 ((a + 1) / 2) (by omega))]
    have := halfs_ok h3 a (by omega)
    simpa [halfOk] using this
  · have : ∀ n, 0 < oddp n := by
      intro n
      induction n with
      | zero => exact Nat.one_pos
      | succ n ih => exact Nat.mul_pos ih (Nat.succ_pos _)
    exact this _
  · refine IntMulOk.of_bits (intBits_le_iff.mpr ?_) (intBits_le_iff.mpr ?_)
    · rw [Int.natAbs_natCast]
      exact Nat.lt_of_le_of_lt S1 (Nat.pow_lt_pow_right (by decide) (by decide))
    · rw [Int.natAbs_natCast]
      exact Nat.lt_of_le_of_lt S2 (Nat.pow_lt_pow_right (by decide) (by decide))
  · refine intBits_le_iff.mpr ?_
    rw [Int.natAbs_natCast]
    exact Nat.lt_of_le_of_lt S3 (Nat.pow_lt_pow_right (by decide) (by decide))
  · generalize hB : Builtin.Int.intBits ((fct a * fct b : Nat) : Int) = B
    have hB1 : fct a * fct b < 2 ^ B := by
      have := intBits_le_iff.mp (Nat.le_of_eq hB)
      rw [Int.natAbs_natCast] at this
      exact this
    have hB2 : a + b ≤ 59 * B := by
      have h1 : 1 ≤ B := by
        rcases Nat.eq_zero_or_pos B with h | h
        · rw [h] at hB1; omega
        · exact h
      by_cases hab : a + b ≤ 59
      · omega
      · have h6 : 6 ≤ fct a * fct b := by
          by_cases h3 : 3 ≤ a
          · have := fct_mono 3 a h3
            have h7 : fct 3 = 6 := rfl
            have := Nat.mul_le_mul (show 6 ≤ fct a by omega) (show 1 ≤ fct b by omega)
            omega
          · have := fct_mono 3 b (by omega)
            have h7 : fct 3 = 6 := rfl
            have := Nat.mul_le_mul (show 1 ≤ fct a by omega) (show 6 ≤ fct b by omega)
            omega
        have h8 : ¬ B ≤ 2 := by
          intro h
          have : 2 ^ B ≤ 2 ^ 2 := Nat.pow_le_pow_right (by decide) h
          omega
        omega
    refine intBits_le_iff.mpr ?_
    rw [Int.natAbs_natCast, c1]
    have h1 : cb a b * (fct a * fct b) < 2 ^ (a + b) * 2 ^ B := by
      refine Nat.lt_of_le_of_lt (Nat.mul_le_mul_right _ c3) ?_
      exact Nat.mul_lt_mul_of_pos_left hB1 (Nat.pow_pos (by decide))
    rw [← Nat.pow_add] at h1
    exact Nat.lt_of_lt_of_le h1 (Nat.pow_le_pow_right (by decide) (by omega))

end SFacts
section SLawC
open PySem PySem.W PyProof.Rows PySem.Calls PySem.Spec PyProof.V
theorem menu4 {prog : Program} {w : World} {A : Around} {E : Value → Shared → Prop} {s : Shared} {Q : Value → Shared → Prop} {value slice : PySem.Expr} {h₀ : Heap} {L D : Addr} {news : List (Addr × Obj)} {t1 t2 t3 t4 u : Tok} {cnt : Nat} {j : Int}
    (N : News h₀ L s.heap news) (hm : (D, listOf #[.int 2 t1, .int 3 t2, .int 5 t3, .int 7 t4] cnt) ∈ news) (h0 : 0 ≤ j) (h1 : j < 4) (h : ∀ (pr : Nat) t, pr = 2 ∨ pr = 3 ∨ pr = 5 ∨ pr = 7 → Q (.int (pr : Int) t) s)
    (hs : subscripted slice false (.ref D) (.int j u) = operate [.ref D, .int j u] (getItem (.ref D) (.int j u)) := by with_unfolding_all rfl) :
    wpAny (model prog w) A (subscriptTail value slice (.ref D) (.int j u)) Q E s := by
  have hi : IntsAre [.int 2 t1, .int 3 t2, .int 5 t3, .int 7 t4] [2, 3, 5, 7] := .cons _ _ (.cons _ _ (.cons _ _ (.cons _ _ .nil)))
  refine it_int (vs := [.int 2 t1, .int 3 t2, .int 5 t3, .int 7 t4]) N hm hi h0 (by simpa using h1) (by omega) (fun t => ?_) hs
  obtain ⟨k, rfl⟩ := Int.eq_ofNat_of_zero_le h0
  have hk : k < 4 := by omega
  rw [Int.toNat_natCast]
  match k, hk with
  | 0, _ => exact h 2 t (by omega)
  | 1, _ => exact h 3 t (by omega)
  | 2, _ => exact h 5 t (by omega)
  | 3, _ => exact h 7 t (by omega)
local macro_rules | `(tactic| walk_at "subscriptTail") => `(tactic| (k_here; (with_reducible show wpAny _ _ (subscriptTail (PySem.Expr.List _ _) _ (Value.ref _) (Value.int _ _)) _ _ _); k_dflt (refine' menu4 ?k1 ?k2 ?k4 ?k5 ?_ ?k7; (case k1 => k_asm); (case k2 => k_mem); (case k4 => first | omega | l_fact); (case k5 => first | omega | l_fact); (case k7 => with_unfolding_all rfl); k_whole); intro pr t hpr; (try dsimp only)))

theorem mod81 {prog : Program} {w : World} {A : Around} {E : Value → Shared → Prop} {s : Shared} {Q : Value → Shared → Prop} {x : Int} {t u : Tok} (h : ∀ o : Nat, o ≤ 80 → Q (.int (o : Int) s.toks) { s with toks := s.toks + 1 }) :
    wpAny (model prog w) A (binaryOp .Mod (.int x t) (.int 81 u)) Q E s := by
  refine mod_int' (by decide) ?_
  have e : x.fmod 81 = x % 81 := Int.fmod_eq_emod_of_nonneg _ (by decide)
  have h1 : 0 ≤ x.fmod 81 := by omega
  have h2 : x.fmod 81 < 81 := by omega
  obtain ⟨o, ho⟩ := Int.eq_ofNat_of_zero_le h1
  rw [ho]
  exact h o (by omega)

def JL (pr : Nat) (l : Addr) (_ : Nat) (m : Str → Option Value) (news : List (Addr × Obj)) : Prop :=
  ∃ p37 p30 rest tp, m "prime" = some (.int (pr : Int) tp) ∧ m "script" = some (.ref l) ∧ news = (37, tabObj p37) :: (30, tabObj p30) :: rest ∧ St p37 p30 rest ∧ ∀ q ∈ rest, 37 < q.1

theorem turn_lt {len i : Nat} (h : i < (Builtin.Range.rangeSize 0 ((if (len : Int) < 4 then (len : Int) else 4) - 1) 2).toNat) : 2 * i + 1 < len := by
  unfold Builtin.Range.rangeSize at h
  rw [if_pos (by decide)] at h
  split at h <;> split at h <;> omega

theorem fr_canonx2 {h₀ h : Heap} {L : Addr} {m : Str → Option Value} {x k1 k2 : Str} {v : Option Value} {v1 v2 : Value} (F : Fr h₀ L h (fun y => if y = x then v else m y)) (h1 : m k1 = some v1) (h2 : m k2 = some v2) :
    Fr h₀ L h (fun y => if y = x then v else if y = k1 then some v1 else if y = k2 then some v2 else m y) := by
  have e : m = (fun y => if y = k1 then some v1 else if y = k2 then some v2 else m y) := by
    funext y
    by_cases c1 : y = k1
    · rw [if_pos c1, c1, h1]
    · rw [if_neg c1]
      by_cases c2 : y = k2
      · rw [if_pos c2, c2, h2]
      · rw [if_neg c2]
  have e2 : (fun y => if y = x then v else m y) = (fun y => if y = x then v else if y = k1 then some v1 else if y = k2 then some v2 else m y) := by
    funext y
    by_cases c : y = x
    · rw [if_pos c, if_pos c]
    · rw [if_neg c, if_neg c]
      exact congrFun e y
  exact e2 ▸ F

theorem two_cast : (2 : Int) = ((2 : Nat) : Int) := rfl
theorem five_cast : (5 : Int) = ((5 : Nat) : Int) := rfl
theorem half_cast {a : Nat} : (a : Int).fdiv 2 = ((a / 2 : Nat) : Int) := by
  rw [Int.fdiv_eq_ediv_of_nonneg _ (by decide)]; rfl
theorem mulL_int {prog : Program} {w : World} {A : Around} {E : Value → Shared → Prop} {s : Shared} {Q : Value → Shared → Prop} {a b : Int} {t u : Tok} (ha : a.natAbs < 2 ^ 64) (h : Q (.int (a * b) s.toks) { s with toks := s.toks + 1 }) :
    wpAny (model prog w) A (binaryOp .Mult (.int a t) (.int b u)) Q E s :=
  PyProof.Rows.mul_int h (mulOk_left ha)
def F6 (a : Nat) : Prop := ∀ k, a < 2 ^ k → wsm a 2 8 + ones a k = a
theorem F6.use {a : Nat} {ns : List Int} (h : F6 a) (ha : a ≤ 80) (hd : Digs (a : Int) 1 ns) : ((wsm a 2 8 : Nat) : Int) + ns.sum = a := by
  have h1 := digs_sum hd (by omega)
  have h2 := h _ h1.2
  rw [h1.1]
  omega
def JI (pr o1 W : Nat) (l : Addr) (news0 : List (Addr × Obj)) (i : Nat) (m : Str → Option Value) (news : List (Addr × Obj)) : Prop :=
  ∃ tp to tw td, m "prime" = some (.int (pr : Int) tp) ∧ m "script" = some (.ref l) ∧ m "one" = some (.int (o1 : Int) to) ∧ m "wholes" = some (.int (W : Int) tw) ∧ m "odd" = some (.int ((oddp i : Nat) : Int) td) ∧ news = news0
theorem odd_size (o : Nat) : Builtin.Range.rangeSize 1 ((o : Int) + 1) 2 = (((o + 1) / 2 : Nat) : Int) := by
  rw [range_size (by decide) (by omega)]
  omega
theorem odd_next (i : Nat) : ((oddp i : Nat) : Int) * (1 + (i : Int) * 2) = ((oddp (i + 1) : Nat) : Int) := by
  rw [show oddp (i + 1) = oddp i * (2 * i + 1) from rfl, Int.natCast_mul]
  congr 1
  omega
theorem endI {pr o1 W : Nat} {l : Addr} {news0 : List (Addr × Obj)} {i : Nat} {h₀ h' : Heap} {L I : Addr} {m' : Str → Option Value} {s₁ : Shared} {tk : Nat} {it : Obj} {tp to tw td : Tok} {v : Int}
    (N : News h₀ L h' ((I, it) :: news0)) (F : Fr h₀ L h' m') (hoff : ∀ p ∈ news0, p.1 ≠ I) (h1 : m' "prime" = some (.int (pr : Int) tp)) (h2 : m' "script" = some (.ref l)) (h3 : m' "one" = some (.int (o1 : Int) to)) (h4 : m' "wholes" = some (.int (W : Int) tw)) (h5 : m' "odd" = some (.int v td)) (hv : v = ((oddp i : Nat) : Int) * (1 + (i : Int) * 2)) :
    UnrEnd h₀ L s₁ I it (fun m' n' => JI pr o1 W l news0 (i + 1) m' n') { s₁ with heap := h', toks := tk } :=
  ⟨h', tk, m', news0, rfl, F, N, hoff, tp, to, tw, td, h1, h2, h3, h4, by rw [h5, hv, odd_next], rfl⟩
theorem endL {pr : Nat} {l : Addr} {news' : List (Addr × Obj)} {i : Nat} {h₀ h' : Heap} {L I c37 c30 : Addr} {m' : Str → Option Value} {s₁ : Shared} {tk : Nat} {it o37 o30 : Obj} {tp : Tok} {st : Int}
    (N : News h₀ L h' news') (F : Fr h₀ L h' m') (k1 : (37, tab37 c37) ∈ news') (k2 : (30, tab30 c30) ∈ news') (k3 : (c37, o37) ∈ news') (k4 : (c30, o30) ∈ news') (kI : (I, it) ∈ news') (hc1 : CodeOk q42 o37) (hc2 : CodeOk q35 o30) (hit : ∃ y l : Int, it.data = .fields #[rawInt y, rawInt l, rawInt st])
    (h3 : @LT.lt Nat _ 37 c37) (h4 : @LT.lt Nat _ 37 c30) (h5 : @LT.lt Nat _ 37 I) (h1 : m' "prime" = some (.int (pr : Int) tp)) (h2 : m' "script" = some (.ref l)) :
    UnrEnd h₀ L s₁ I it (fun m' n' => JL pr l (i + 1) m' n') { s₁ with heap := h', toks := tk } := by
  have n1 : c37 ≠ I := code_ne_iter N kI k3 hit hc1
  have n2 : c30 ≠ I := code_ne_iter N kI k4 hit hc2
  refine ⟨h', tk, m', [(37, tab37 c37), (30, tab30 c30), (c37, o37), (c30, o30)], rfl, F, fun q hq => N q ?_, ?_, _, _, [(c37, o37), (c30, o30)], tp, h1, h2, rfl, St.full hc1 hc2 (.head _) (.tail _ (.head _)), ?_⟩
  · simp only [List.mem_cons, List.not_mem_nil, or_false] at hq
    rcases hq with rfl | rfl | rfl | rfl | rfl
    · exact kI
    · exact k1
    · exact k2
    · exact k3
    · exact k4
  · intro p hp
    simp only [List.mem_cons, List.not_mem_nil, or_false] at hp
    rcases hp with rfl | rfl | rfl | rfl
    · exact Nat.ne_of_lt h5
    · exact Nat.ne_of_lt (Nat.lt_trans (by decide : 30 < 37) h5)
    · exact n1
    · exact n2
  · intro q hq
    simp only [List.mem_cons, List.not_mem_nil, or_false] at hq
    rcases hq with rfl | rfl
    · exact h3
    · exact h4
theorem fr_canon2 {h₀ h : Heap} {L : Addr} {m : Str → Option Value} {k1 k2 : Str} {v1 v2 : Value} (F : Fr h₀ L h m) (h1 : m k1 = some v1) (h2 : m k2 = some v2) :
    Fr h₀ L h (fun y => if y = k1 then some v1 else if y = k2 then some v2 else m y) := by
  have e : m = (fun y => if y = k1 then some v1 else if y = k2 then some v2 else m y) := by
    funext y
    by_cases c1 : y = k1
    · rw [if_pos c1, c1, h1]
    · rw [if_neg c1]
      by_cases c2 : y = k2
      · rw [if_pos c2, c2, h2]
      · rw [if_neg c2]
  exact e ▸ F
theorem fr_if {h₀ h : Heap} {L : Addr} {m : Str → Option Value} {k1 : Str} {v1 : Value} (F : Fr h₀ L h m) (h1 : m k1 = some v1) : Fr h₀ L h (fun y => if y = k1 then some v1 else m y) := by
  have e : m = (fun y => if y = k1 then some v1 else m y) := by
    funext y
    by_cases c1 : y = k1
    · rw [if_pos c1, c1, h1]
    · rw [if_neg c1]
  exact e ▸ F
theorem fr_x {h₀ h : Heap} {L : Addr} {m m2 : Str → Option Value} {x : Str} {v : Option Value} (F : Fr h₀ L h (fun y => if y = x then v else m y)) (e : m = m2) : Fr h₀ L h (fun y => if y = x then v else m2 y) := e ▸ F
theorem m_if5 {m : Str → Option Value} {k1 k2 k3 k4 k5 : Str} {v1 v2 v3 v4 v5 : Value} (h1 : m k1 = some v1) (h2 : m k2 = some v2) (h3 : m k3 = some v3) (h4 : m k4 = some v4) (h5 : m k5 = some v5) :
    m = (fun y => if y = k1 then some v1 else if y = k2 then some v2 else if y = k3 then some v3 else if y = k4 then some v4 else if y = k5 then some v5 else m y) := by
  funext y
  by_cases c1 : y = k1
  · rw [if_pos c1, c1, h1]
  · rw [if_neg c1]
    by_cases c2 : y = k2
    · rw [if_pos c2, c2, h2]
    · rw [if_neg c2]
      by_cases c3 : y = k3
      · rw [if_pos c3, c3, h3]
      · rw [if_neg c3]
        by_cases c4 : y = k4
        · rw [if_pos c4, c4, h4]
        · rw [if_neg c4]
          by_cases c5 : y = k5
          · rw [if_pos c5, c5, h5]
          · rw [if_neg c5]
theorem gen_q {prog : Program} {w : World} {A : Around} {body : List Stmt} {env : Env} {h₀ : Heap} {L I : Addr} {s₁ s : Shared} {it : Obj} {J : (Str → Option Value) → List (Addr × Obj) → Prop} {Q0 : Flow → Shared → Prop} {E0 : Value → Shared → Prop}
    (h : ∀ Q, wpAny (model prog w) A (execs body env) (UnrPost h₀ L s₁ I it J Q) E0 s) : wpAny (model prog w) A (execs body env) (UnrPost h₀ L s₁ I it J Q0) E0 s := h Q0
local macro_rules | `(tactic| walk_at "my cast") => `(tactic| first | (with_reducible exact two_cast) | (with_reducible exact five_cast) | (with_reducible exact rfl) | (with_reducible exact (Int.natCast_add _ _).symm) | (with_reducible exact half_cast))
local macro_rules | `(tactic| walk_at "my st") => `(tactic| first | assumption | exact St.full (by with_reducible assumption) (by with_reducible assumption) (by k_mem) (by k_mem) | exact St.mono (by assumption) (by (intro q hq; repeat (first | exact hq | refine' List.mem_cons_of_mem _ ?_))))
local macro_rules | `(tactic| walk_at "call ref") => `(tactic| (k_here; refine mark2_in ?_))
local macro_rules | `(tactic| walk_at "call ref") => `(tactic| (k_here; (with_reducible show wpAny _ _ (call (Value.ref 84) _) _ _ _); k_dflt (ktf_call (use_pair (wholes_nat _ _ _ _ ?hs ?hr _ _ _ _ _ _ ?hc ?hp ?h1 ?h2 ?h3)); (case hc => walk_at "my cast"); (case hp => walk_at "my cast"); (case hs => walk_at "my st"); (case hr => walk_at "my gt"); (case h1 => omega); (case h2 => omega); (case h3 => omega)); intro T' t1' t2' c37' o37' c30' o30' h' tk' hc1' hc2' lT l2 l3 l6 l4 l5 F' N'; (try (replace N' := drop84 N' (by with_reducible assumption) (by with_reducible assumption))); (try k_lt lT); (try dsimp only); (try k_sweep)))
local macro_rules | `(tactic| walk_at "call ref") => `(tactic| (k_here; (with_reducible show wpAny _ _ (call (Value.ref 56) _) _ _ _); k_dflt (ktf_call (use_pair (ways_nat _ _ _ _ ?hs ?hr _ _ _ _ _ _ ?hx ?hy ?a1 ?a2 ?a3 ?a4)); (case hx => (with_reducible exact rfl)); (case hy => (with_reducible exact rfl)); (case hs => walk_at "my st"); (case hr => walk_at "my gt"); (case a1 => assumption); (case a2 => assumption); (case a3 => assumption); (case a4 => assumption)); intro T' t1' t2' c37' o37' c30' o30' h' tk' hc1' hc2' lT l2 l3 l6 l4 l5 F' N'; (try (replace N' := drop84 N' (by with_reducible assumption) (by with_reducible assumption))); (try k_lt lT); (try dsimp only); (try k_sweep)))
local macro_rules | `(tactic| walk_at "call ref") => `(tactic| (k_here; (with_reducible show wpAny _ _ (call (Value.ref 77) _) _ _ _); k_dflt (ktf_call (use_int (often_nat _ _ _ _ _ _ _ _ ?hx ?hp ?h0 ?h1 ?h2)); (case hx => (with_reducible exact rfl)); (case hp => walk_at "my cast"); (case h0 => first | assumption | omega); (case h1 => omega); (case h2 => omega)); intro t1' h' tk' F' N'; (try dsimp only); (try k_sweep)))
local macro_rules | `(tactic| walk_at "call ref") => `(tactic| (k_here; (with_reducible show wpAny _ _ (call (Value.ref 91) _) _ _ _); k_dflt (ktf_call (use_int (all_nat _ _ _ _ _ ?hc ?h1)); (case hc => walk_at "my cast"); (case h1 => omega)); intro t1' h' tk' F' N'; (try dsimp only); (try k_sweep)))
local macro_rules | `(tactic| walk_at "call ref") => `(tactic| (k_here; (with_reducible show wpAny _ _ (call (Value.ref 35) _) _ _ _); k_dflt (ktf_call (use_ones ?hn ?h6 ?ho (i2d_full _ _ _ _ _ ?hmc ?hco ?hr _ _ _ _ ?a1 ?a2 ?a3 ?a4 ?a5 ?a6)); (case hn => exact rfl); (case h6 => with_reducible assumption); (case ho => omega); (case hmc => k_mem); (case hco => with_reducible assumption); (case hr => walk_at "my gt"); (case a1 => omega); (case a2 => omega); (case a3 => omega); (case a4 => exact (bits_one rfl (by omega) (by omega)).1); (case a5 => exact (bits_one rfl (by omega) (by omega)).2.1); (case a6 => exact (bits_one rfl (by omega) (by omega)).2.2)); intro D' vs' ns' h' tk' hvs' hd6' l1 l2 F' N'; (try k_lt l1); (try dsimp only); (try k_sweep)))
local macro_rules | `(tactic| walk_at "binaryOp Mult int int") => `(tactic| (k_here; first | (refine PyProof.Rows.mul_int ?_ (by with_reducible assumption)) | (with_reducible refine mulR_int (by omega) ?_) | (refine mulL_int (by omega) ?_)))
local macro_rules | `(tactic| walk_at "exec Return some") => `(tactic| (k_here; exfalso; omega))
local macro_rules | `(tactic| walk_at "binaryOp Mod int int") => `(tactic| (k_here; (with_reducible show wpAny _ _ (binaryOp _ _ (Value.int 81 _)) _ _ _); refine mark2_in ?_))
local macro_rules | `(tactic| walk_at "pyIter ref") => `(tactic| (k_here; refine mark2_in ?_))
set_option maxRecDepth 100000 in
set_option maxHeartbeats 8000000 in
set_option pp.deepTerms.threshold 5 in
theorem law1 : PySem.Challenge.rw_ie0003_01.Holds := hd (by
  w_top off
  k_go0
  all_goals try k_fold
  k_steps
  unfold Mark2
  rename IsRange _ _ _ _ _ _ _ _ => lR
  rename Fr _ _ _ _ => lF
  rename News _ _ _ _ => lN
  rename _ ∨ _ => hpr
  k_dflt (refine' iter_range_inv (JL _ _) rfl lR ?hsm (rangeSize_toNat _ _ _) lF (cb_drop lN (fun q hq => .tail _ hq) : News _ _ _ [(37, tabObj #[]), (30, tabObj #[])]) ⟨#[], #[], [], _, rfl, rfl, rfl, St.none, by simp⟩ ?_ ?_; (case hsm => exact range_small (by omega) (by omega) (by omega) (by omega) (by omega) (by omega)))
  · rintro I i m1 news1 t1' h1' tk1 it hi hic ⟨q37, q30, rest1, tp, b1, b2, rfl, hS, hr1⟩ hoff hlt F1 N1
    dsimp only [envOf] at F1 N1
    have F2 := fr_canonx2 F1 b1 b2
    clear F1 lF lR lN
    have hlI : @LT.lt Nat _ 37 I := hlt _ (.head _)
    have hil := turn_lt hi
    refine gen_q (fun Q => ?_)
    k_steps
    unfold Mark2
    refine mod81 fun o1 ho1 => ?_
    k_steps
    unfold Mark2
    refine mod81 fun o2 ho2 => ?_
    obtain ⟨f1, f2, f3, f4, f5, f5b, f6, f7, p1, p2, p3, p4, p5, p6, d1, mm1, bb1, bb2⟩ := facts ho1 ho2 hpr
    k_steps
    unfold Mark2
    rename IsRange _ _ _ _ _ _ _ _ => lR
    rename Fr _ _ _ _ => lF
    rename News _ _ _ _ => lN
    k_dflt (refine' iter_range_inv (JI _ _ _ _ _) rfl lR ?hsm (odd_size _) lF lN ⟨_, _, _, _, rfl, rfl, rfl, rfl, rfl, rfl⟩ ?_ ?_; (case hsm => exact range_small (by omega) (by omega) (by omega) (by omega) (by omega) (by omega)))
    · rintro I2 i2 m2 news2 t2' h2' tk2 it2 hi2 hic2 ⟨tp2, to2, tw2, td2, b21, b22, b23, b24, b25, rfl⟩ hoff2 hlt2 F21 N2
      dsimp only [envOf] at F21 N2
      have F22 := fr_x F21 (m_if5 b21 b22 b23 b24 b25)
      clear F21 lF lR lN
      k_steps
      refine endI (by assumption) (by assumption) hoff2 rfl rfl rfl rfl rfl rfl
    · rintro m2 news2 h2' tk2 ⟨tp2, to2, tw2, td2, b21, b22, b23, b24, b25, rfl⟩ F21 N2
      dsimp only [envOf] at F21 N2
      have F22 : Fr _ _ _ _ := (m_if5 b21 b22 b23 b24 b25) ▸ F21
      clear F21 lF lR lN
      dsimp only
      k_steps
      all_goals (refine endL (by assumption) (by assumption) (by k_mem) (by k_mem) (by k_mem) (by k_mem) (by k_mem) (by with_reducible assumption) (by with_reducible assumption) hic (by omega) (by omega) hlI rfl rfl)
  · rintro m1 news1 h1' tk1 ⟨q37, q30, rest1, tp, b1, b2, rfl, hS, hr1⟩ F1 N1
    dsimp only [envOf] at F1 N1
    have F2 := fr_canon2 F1 b1 b2
    clear F1 lF lR lN
    dsimp only
    k_steps)

end SLawC
end Mine

theorem PySem.Challenge.cw_ie0003_01_holds : PySem.Challenge.rw_ie0003_01.Holds := by
  exact Mine.law1
