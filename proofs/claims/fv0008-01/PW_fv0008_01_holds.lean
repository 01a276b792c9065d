import PyProof.Rows.All
import Wide.All
import OpenK.AllK
import Wide.FinOn
import PySem.Challenge.RW_fv0008_01
open PySem PySem.W PyProof.Rows
set_option Elab.async false
set_option maxRecDepth 100000
set_option maxHeartbeats 8000000
namespace Mine
open_top fv for PySem.Challenge.rw_fv0008_01
end Mine
section
open PySem.Spec PySem.Calls
set_option maxHeartbeats 4000000
set_option hygiene false
set_option linter.unusedVariables false
namespace Mine
local macro_rules | `(tactic| k_steps) => `(tactic| repeat' (first | (k_unfold; (try dsimp only)) | (walk1 <;> (try dsimp only)) | (dsimp only; walk1) | (leave1; walk_say "STEP leave1"; try dsimp only) | fail "no step"))
/-- an equation that the closers do not see -/
structure Eqn (v e : Int) : Prop where
  out : v = e

section
variable {prog : Program} {w : World} {A : Around} {E : Value → Shared → Prop} {s : Shared} {a b n : Int} {t u : Tok} {Q : Value → Shared → Prop}
  {h₀ : Heap} {L : Addr} {m : Str → Option Value} {news : List (Addr × Obj)}

theorem shl_v (hn : 0 ≤ n) (hb : (Builtin.Int.intBits a : Int) + n ≤ 100000)
    (h : ∀ v, Eqn v (a * 2 ^ n.toNat) → Q (.int v s.toks) { s with toks := s.toks + 1 }) :
    wpAny (model prog w) A (binaryOp .LShift (.int a t) (.int n u)) Q E s :=
  lshift_int hn (Int.le_trans hb (by decide)) (h _ ⟨rfl⟩)

theorem dm_v (F : Fr h₀ L s.heap m) (N : News h₀ L s.heap news) (hb : b ≠ 0) (hp : b.natAbs.log2 < 9000)
    (h : ∀ q r tq tr h' k, Eqn q (a.fdiv b) → Eqn r (a.fmod b) → Fr h₀ L h' m → News h₀ L h' ((s.heap.objs.size, { cls := .type "tuple", data := .seq #[.int q tq, .int r tr] }) :: news) →
      Q (.ref s.heap.objs.size) { s with heap := h', toks := k }) :
    wpAny (model prog w) A (call (.builtin "divmod") [.int a t, .int b u]) Q E s :=
  divmod_N F N hb (fun h' F' N' => h _ _ _ _ h' _ ⟨rfl⟩ ⟨rfl⟩ F' N') (Or.inl (PyProof.noPylong_of_log2 hp))

theorem mul_v (hm : IntMulOk a b) (h : ∀ v, Eqn v (a * b) → Q (.int v s.toks) { s with toks := s.toks + 1 }) :
    wpAny (model prog w) A (binaryOp .Mult (.int a t) (.int b u)) Q E s := mul_int (h _ ⟨rfl⟩) hm
end

theorem ipow_le {i j : Nat} (h : i ≤ j) : (2 : Int) ^ i ≤ (2 : Int) ^ j := by
  have := Nat.pow_le_pow_right (n := 2) (by decide) h
  exact_mod_cast this
theorem bits_lt {x : Int} (h0 : 0 < x) : (2 : Int) ^ (Builtin.Int.intBits x - 1) ≤ x ∧ x < (2 : Int) ^ (Builtin.Int.intBits x) ∧ 1 ≤ Builtin.Int.intBits x := by
  have e : Builtin.Int.intBits x = x.natAbs.log2 + 1 := by
    unfold Builtin.Int.intBits
    rw [if_neg (by simp; omega)]
  obtain ⟨m, rfl⟩ := Int.eq_ofNat_of_zero_le (Int.le_of_lt h0)
  have hm : m ≠ 0 := by omega
  rw [e]
  simp only [Int.natAbs_natCast, Nat.add_sub_cancel]
  have h1 := Nat.log2_self_le hm
  have h2 := Nat.lt_log2_self (n := m)
  have c1 : ((2 ^ m.log2 : Nat) : Int) = (2 : Int) ^ m.log2 := by simp
  have c2 : ((2 ^ (m.log2 + 1) : Nat) : Int) = (2 : Int) ^ (m.log2 + 1) := by simp
  refine ⟨by rw [← c1]; exact_mod_cast h1, by rw [← c2]; exact_mod_cast h2, by omega⟩
theorem bits_le_of_lt {x : Int} {k : Nat} (h0 : 0 ≤ x) (h : x < (2 : Int) ^ k) : Builtin.Int.intBits x ≤ k := by
  by_cases hx : x = 0
  · subst hx; unfold Builtin.Int.intBits; simp
  · obtain ⟨h1, _, h3⟩ := bits_lt (x := x) (by omega)
    refine Nat.le_of_not_lt fun hk => ?_
    have : (2 : Int) ^ k ≤ (2 : Int) ^ (Builtin.Int.intBits x - 1) := ipow_le (by omega)
    omega
theorem lt_bits_of_le {x : Int} {k : Nat} (h : (2 : Int) ^ k ≤ x) : k < Builtin.Int.intBits x := by
  have hp : (0 : Int) < 2 ^ k := Int.pow_pos (by decide)
  obtain ⟨_, h2, _⟩ := bits_lt (x := x) (by omega)
  refine Nat.lt_of_not_le fun hk => ?_
  have : (2 : Int) ^ (Builtin.Int.intBits x) ≤ (2 : Int) ^ k := ipow_le hk
  omega

theorem allLt_out {d : Nat} : ∀ {l : List (Addr × Obj)}, AllLt d l → ∀ p ∈ l, p.1 < d
  | [], _, _, hp => nomatch hp
  | _ :: _, h, p, hp => by
    rcases List.mem_cons.mp hp with rfl | hp
    · exact h.1
    · exact allLt_out h.2 p hp
/-- the ledger less what a call has dropped -/
theorem drop1 {h₀ h : Heap} {L : Addr} {x y : Addr × Obj} {news : List (Addr × Obj)} (N : News h₀ L h (x :: y :: news)) : News h₀ L h (x :: news) := cb_drop N (by
  intro p hp
  rcases List.mem_cons.mp hp with rfl | hp
  · exact .head _
  · exact .tail _ (.tail _ hp))
theorem drop2 {h₀ h : Heap} {L : Addr} {x y z : Addr × Obj} {news : List (Addr × Obj)} (N : News h₀ L h (x :: y :: z :: news)) : News h₀ L h (x :: news) := drop1 (drop1 N)
theorem dropAll {h₀ h : Heap} {L : Addr} {x : Addr × Obj} {news : List (Addr × Obj)} (N : News h₀ L h (x :: news)) : News h₀ L h news := cb_drop N fun _ hp => .tail _ hp
structure EqS (v e : Str) : Prop where
  out : v = e
section
variable {prog : Program} {w : World} {A : Around} {E : Value → Shared → Prop} {s : Shared} {a i : Int} {x f : Str} {t u v : Tok} {Q : Value → Shared → Prop}
theorem str_v (hd : a.natAbs.log2 < 1920) (h : ∀ y tk, EqS y (Str.ofString (toString a)) → Q (.str y tk) { s with toks := s.toks + 1 }) : wpAny (model prog w) A (call (.type "str") [.int a t]) Q E s :=
  P.str_of_int hd (h _ _ ⟨rfl⟩)
theorem rjust_v (hi : PadOk i = true) (hf : f.length = 1) (h : ∀ y tk k, EqS y (Txt.rjustF x i (f.cps.getD 0 0)) → Q (.str y tk) { s with toks := k }) : wpAny (model prog w) A (call (.builtin "str.rjust") [.str x t, .int i u, .str f v]) Q E s :=
  rjust_fill hi hf fun t' k => h _ _ _ ⟨rfl⟩
theorem len_v (hx : x.length < 1000000) (h : Q (.int (x.length : Int) (s.toks + 1)) { s with toks := s.toks + 1 + 1 }) : wpAny (model prog w) A (call (.builtin "len") [.str x t]) Q E s :=
  SBL.len (by omega) h
end
structure EqF (v e : UInt64) : Prop where
  out : v = e
section
variable {prog : Program} {w : World} {A : Around} {E : Value → Shared → Prop} {s : Shared} {a b : Int} {t u : Tok} {Q : Value → Shared → Prop}
theorem div_v (hA : A.handled = none) (hn : Flt.Hid (a.natAbs < 2 ^ 1023)) (hb : b ≠ 0)
    (h : ∀ x tk, EqF x (Float64.ofFrac (decide (a < 0) != decide (b < 0)) a.natAbs b.natAbs) → Q (.float x tk) { s with toks := s.toks + 1 }) : wpAny (model prog w) A (binaryOp .Div (.int a t) (.int b u)) Q E s :=
  Flt.div_ii_fits hA hn.out (fun e => absurd e hb) fun _ _ => h _ _ ⟨rfl⟩
end
theorem retF {h₀ h' : Heap} {L : Addr} {m : Str → Option Value} {news : List (Addr × Obj)} {s : Shared} {Q : Value → Shared → Prop} {t : Tok} {tk' : Nat} {x y : UInt64}
    (hret : ∀ (t : Tok) (h' : Heap) (tk' : Nat), Fr h₀ L h' m → News h₀ L h' news → Q (.float x t) { s with heap := h', toks := tk' }) (e : y = x) (F : Fr h₀ L h' m) (N : News h₀ L h' news) : Q (.float y t) { s with heap := h', toks := tk' } := by
  subst e
  exact hret t h' tk' F N

/-- a goal at which the walk waits -/
structure Held (p : Prop) : Prop where
  out : p
theorem held {p : Prop} (h : Held p) : p := h.out
end Mine
end
section
open PySem.Spec PySem.Calls
set_option maxHeartbeats 4000000
set_option hygiene false
set_option linter.unusedVariables false
namespace Mine
local macro_rules | `(tactic| k_steps) => `(tactic| repeat' (first | (k_unfold; (try dsimp only)) | (walk1 <;> (try dsimp only)) | (dsimp only; walk1) | (leave1; walk_say "STEP leave1"; try dsimp only) | fail "no step"))
local macro_rules | `(tactic| walk_at "binaryOp Pow int int") => `(tactic| (refine pow_int_small (by omega) (by omega) (by decide) ?_))
local macro_rules | `(tactic| walk_at "binaryOp Mult int int") => `(tactic| (refine mul_int ?_ (by first | assumption | exact IntMulOk.of_left (by decide) | exact IntMulOk.of_right (by decide))))
local macro_rules | `(tactic| walk_at "binaryOp FloorDiv int int") => `(tactic| (refine floordiv_int (by first | assumption | decide | omega) ?_ (Or.inl (by assumption))))

/-- what _law_put reckons -/
def pyPut (n d g : Int) : Int :=
  let least := (n * 10 ^ g.toNat).fdiv d
  let over := 2 * (n * 10 ^ g.toNat - least * d)
  if over > d ∨ (over = d ∧ least.fmod 2 = 1) then least + 1 else least

theorem put_c {w : World} {loose : List Str} {mean : ExcName → Option Value} {mg mb : Str → Option Value}
    {dp un : Nat} {gd : Option (List Code)} {cn : Str} {cs : Scope} {a : Addr} {ccd : Value} {cl : List (Str × Addr)} {outer : List Env} {A₀ : Around} {base h₀ : Heap} {L : Addr} {m : Str → Option Value} {news : List (Addr × Obj)} {s : Shared}
    {Q E : Value → Shared → Prop} {n d g : Int} {tn td tg : Tok}
    (B : Below A₀ base outer h₀) (F : Fr h₀ L s.heap m) (X : (fv.heap_39 w.params).In h₀) (N : News h₀ L s.heap news) (T : Top fv.view_39 loose mean mg mb h₀) (hk : cs.kind = .function)
    (hdp : dp + 3 < recursionLimit) (hun : un + 24 < cLine)
    (hn0 : 0 ≤ n) (hg0 : 0 ≤ g) (hg4 : g ≤ 4) (hd0 : 0 < d) (hm1 : IntMulOk n (10 ^ g.toNat)) (hm2 : IntMulOk ((n * 10 ^ g.toNat).fdiv d) d) (hm3 : Builtin.divisionGoesByPylong (n * 10 ^ g.toNat) d = false)
    (hret : ∀ (t : Tok) (h' : Heap) (tk' : Nat), Fr h₀ L h' m → News h₀ L h' news → Q (.int (pyPut n d g) t) { s with heap := h', toks := tk' }) :
    wpAny (model Challenge.rw_fv0008_01.row.prog w) (ktrTop dp un gd cn cs L a ccd cl outer) (call (.ref 100) [.int n tn, .int d td, .int g tg]) Q E s := by
  revert X
  k_fill
  intro X
  refine wpAny_call ?_
  k_dflt ktr_enter
  k_steps
  all_goals (refine cb_retI (Q := Q) hret ?_ (by k_asm) (by k_asm))
  all_goals
    clear qk ek
    unfold pyPut
    dsimp only
    split <;> simp_all <;> omega
end Mine
end
section
open PySem.Spec PySem.Calls
set_option maxHeartbeats 4000000
set_option hygiene false
set_option linter.unusedVariables false
namespace Mine
local macro_rules | `(tactic| k_steps) => `(tactic| repeat' (first | (k_unfold; (try dsimp only)) | (walk1 <;> (try dsimp only)) | (dsimp only; walk1) | (leave1; walk_say "STEP leave1"; try dsimp only) | fail "no step"))
def nearP (n d : Int) : Int := (n * 2 ^ (200 : Int).toNat).fdiv d
def nearR (n d : Int) : Int := (n * 2 ^ (200 : Int).toNat).fmod d
def nearD (n d : Int) : Int := (Builtin.Int.intBits (nearP n d) : Int) - 53
def nearU (n d : Int) : Int := 1 * 2 ^ (nearD n d).toNat
def nearH (n d : Int) : Int := (nearP n d).fdiv (nearU n d)
def nearT (n d : Int) : Int := (nearP n d).fmod (nearU n d)
/-- what _law_near reckons: the upper part -/
def nearA (n d : Int) : Int :=
  (if 2 * nearT n d > nearU n d ∨ (2 * nearT n d = nearU n d ∧ (nearR n d > 0 ∨ (nearH n d).fmod 2 = 1)) then nearH n d + 1 else nearH n d) * 2 ^ (nearD n d).toNat

theorem near_facts {n d : Int} (hn0 : 0 < n) (hn1 : n < 2 ^ 210) (hd0 : 0 < d) (hd1 : d ≤ 100000) :
    0 < nearP n d ∧ 131 ≤ nearD n d ∧ nearD n d ≤ 400 := by
  have e200 : (200 : Int).toNat = 200 := rfl
  have h1 : (2 : Int) ^ 200 ≤ n * 2 ^ 200 := by
    have := Int.mul_le_mul_of_nonneg_right (a := 1) (b := n) (c := (2 : Int) ^ 200) (by omega) (by decide)
    omega
  have h2 : n * 2 ^ 200 < (2 : Int) ^ 410 := by
    have := Int.mul_lt_mul_of_pos_right hn1 (c := (2 : Int) ^ 200) (by decide)
    rw [← Int.pow_add] at this
    exact this
  have hP : nearP n d = (n * 2 ^ 200) / d := by
    unfold nearP
    rw [e200, Int.fdiv_eq_ediv_of_nonneg _ (by omega)]
  have h3 : (2 : Int) ^ 183 ≤ nearP n d := by
    rw [hP]
    refine (Int.le_ediv_iff_mul_le hd0).mpr ?_
    refine Int.le_trans ?_ h1
    refine Int.le_trans (Int.mul_le_mul_of_nonneg_left hd1 (by decide)) (by decide)
  have h4 : nearP n d < (2 : Int) ^ 410 := by
    rw [hP]
    refine Int.lt_of_le_of_lt (Int.ediv_le_self _ ?_) h2
    exact Int.le_trans (by decide) h1
  have b1 := lt_bits_of_le h3
  have b2 := bits_le_of_lt (x := nearP n d) (Int.le_trans (by decide) h3) h4
  refine ⟨Int.lt_of_lt_of_le (by decide) h3, ?_, ?_⟩ <;> unfold nearD <;> omega

theorem near_u {k : Nat} (hk : k ≤ 400) : (1 * 2 ^ k : Int) ≠ 0 ∧ (1 * 2 ^ k : Int).natAbs.log2 < 9000 := by
  have e : (1 * 2 ^ k : Int) = ((2 ^ k : Nat) : Int) := by simp
  rw [e, Int.natAbs_natCast]
  have := Nat.two_pow_pos k
  refine ⟨by omega, ?_⟩
  rw [Nat.log2_two_pow]
  omega

/-- what the walk of _law_near leaves behind its first division -/
structure NearP (p n d : Int) : Prop where
  e : p = nearP n d
  lo : 131 ≤ (Builtin.Int.intBits p : Int) - 53
  hi : (Builtin.Int.intBits p : Int) - 53 ≤ 400
  pos : 0 < p
theorem near_d {n d p N' : Int} (hN : Eqn N' (n * 2 ^ (200 : Int).toNat)) (hp : Eqn p (N'.fdiv d)) (hn0 : 0 < n) (hn1 : Flt.Hid (n < 2 ^ 210)) (hd0 : 0 < d) (hd1 : d ≤ 100000) : NearP p n d := by
  have e : p = nearP n d := by rw [hp.out, hN.out]; rfl
  subst e
  have := near_facts hn0 hn1.out hd0 hd1
  exact ⟨rfl, this.2.1, this.2.2, this.1⟩
theorem near_bits {h k : Int} (hb : (Builtin.Int.intBits h : Int) ≤ 500) (hk : k ≤ 400) : (Builtin.Int.intBits h : Int) + k ≤ 100000 := by omega
theorem near_lo {p n d : Int} (h : NearP p n d) : 0 ≤ (Builtin.Int.intBits p : Int) - 53 := Int.le_trans (by decide) h.lo
theorem near_one {p n d : Int} (h : NearP p n d) : (Builtin.Int.intBits 1 : Int) + ((Builtin.Int.intBits p : Int) - 53) ≤ 100000 := near_bits (by decide) h.hi
/-- the unit of the shift -/
structure NearU (U p : Int) : Prop where
  e : U = 1 * 2 ^ ((Builtin.Int.intBits p : Int) - 53).toNat
theorem near_un {p n d U : Int} (h : NearP p n d) (hU : Eqn U (1 * 2 ^ ((Builtin.Int.intBits p : Int) - 53).toNat)) : U ≠ 0 ∧ U.natAbs.log2 < 9000 := by
  have := h.hi
  rw [hU.out]
  exact near_u (by omega)
theorem near_hb {p n d U h : Int} (hp : NearP p n d) (hU : Eqn U (1 * 2 ^ ((Builtin.Int.intBits p : Int) - 53).toNat)) (hh : Eqn h (p.fdiv U)) : Flt.Hid (0 ≤ h ∧ h < 2 ^ 453) := by
  have hU0 : 0 < U := by
    rw [hU.out, Int.one_mul]
    exact Int.pow_pos (by decide)
  have h0 := hp.pos
  have hhi := hp.hi
  have hb := (bits_lt h0).2.1
  have e : h = p / U := by rw [hh.out, Int.fdiv_eq_ediv_of_nonneg _ (by omega)]
  have h1 : 0 ≤ h := by rw [e]; exact Int.ediv_nonneg (by omega) (by omega)
  have h2 : h ≤ p := by rw [e]; exact Int.ediv_le_self _ (by omega)
  exact ⟨h1, Int.lt_of_le_of_lt h2 (Int.lt_of_lt_of_le hb (ipow_le (by omega)))⟩
theorem near_sh {p n d h : Int} (hp : NearP p n d) (hh : Flt.Hid (0 ≤ h ∧ h < 2 ^ 453)) :
    (Builtin.Int.intBits h : Int) + ((Builtin.Int.intBits p : Int) - 53) ≤ 100000 := by
  have := bits_le_of_lt hh.out.1 hh.out.2
  have := hp.hi
  omega
theorem near_sh1 {p n d h : Int} (hp : NearP p n d) (hh : Flt.Hid (0 ≤ h ∧ h < 2 ^ 453)) :
    (Builtin.Int.intBits (h + 1) : Int) + ((Builtin.Int.intBits p : Int) - 53) ≤ 100000 := by
  have h2 : h + 1 < 2 ^ 454 := by
    have := hh.out.2
    have e : (2 : Int) ^ 454 = 2 ^ 453 * 2 := by rw [← Int.pow_succ]
    have e0 : (0 : Int) < 2 ^ 453 := Int.pow_pos (by decide)
    rw [e]
    generalize (2 : Int) ^ 453 = z at *
    omega
  have h1 := hh.out.1
  have := bits_le_of_lt (x := h + 1) (by omega) h2
  have := hp.hi
  omega

theorem near_end_up {n d N' p r U h t A : Int} (hN : Eqn N' (n * 2 ^ (200 : Int).toNat)) (hp : NearP p n d) (hr : Eqn r (N'.fmod d)) (hU : Eqn U (1 * 2 ^ ((Builtin.Int.intBits p : Int) - 53).toNat)) (hh : Eqn h (p.fdiv U)) (ht : Eqn t (p.fmod U))
    (hA : Eqn A ((h + 1) * 2 ^ ((Builtin.Int.intBits p : Int) - 53).toNat)) (hc : 2 * t > U ∨ (2 * t = U ∧ (r > 0 ∨ h.fmod 2 = 1))) : Eqn A (nearA n d) := by
  obtain ⟨rfl⟩ := hN
  obtain ⟨rfl⟩ := hr
  have e := hp.e
  subst e
  obtain ⟨rfl⟩ := hU
  obtain ⟨rfl⟩ := hh
  obtain ⟨rfl⟩ := ht
  obtain ⟨rfl⟩ := hA
  constructor
  unfold nearA
  rw [if_pos (by exact hc)]
  rfl
theorem near_end_stay {n d N' p r U h t A : Int} (hN : Eqn N' (n * 2 ^ (200 : Int).toNat)) (hp : NearP p n d) (hr : Eqn r (N'.fmod d)) (hU : Eqn U (1 * 2 ^ ((Builtin.Int.intBits p : Int) - 53).toNat)) (hh : Eqn h (p.fdiv U)) (ht : Eqn t (p.fmod U))
    (hA : Eqn A (h * 2 ^ ((Builtin.Int.intBits p : Int) - 53).toNat)) (hc : ¬ (2 * t > U ∨ (2 * t = U ∧ (r > 0 ∨ h.fmod 2 = 1)))) : Eqn A (nearA n d) := by
  obtain ⟨rfl⟩ := hN
  obtain ⟨rfl⟩ := hr
  have e := hp.e
  subst e
  obtain ⟨rfl⟩ := hU
  obtain ⟨rfl⟩ := hh
  obtain ⟨rfl⟩ := ht
  obtain ⟨rfl⟩ := hA
  constructor
  unfold nearA
  rw [if_neg (by exact hc)]
  rfl
theorem near_b {B : Int} (h : Eqn B (1 * 2 ^ (200 : Int).toNat)) : Eqn B (2 ^ 200) := ⟨by rw [h.out, Int.one_mul]; rfl⟩
theorem shl_same {prog : Program} {w : World} {A : Around} {E : Value → Shared → Prop} {s : Shared} {a n U : Int} {t u : Tok} {Q : Value → Shared → Prop} (hU : Eqn U (a * 2 ^ n.toNat)) (hn : 0 ≤ n) (hb : (Builtin.Int.intBits a : Int) + n ≤ 100000)
    (h : Q (.int U s.toks) { s with toks := s.toks + 1 }) : wpAny (model prog w) A (binaryOp .LShift (.int a t) (.int n u)) Q E s :=
  shl_v hn hb fun v hv => by rw [hv.out, ← hU.out]; exact h
end Mine
end
section
open PySem.Spec PySem.Calls
set_option maxHeartbeats 4000000
set_option hygiene false
set_option linter.unusedVariables false
namespace Mine
local macro_rules | `(tactic| k_steps) => `(tactic| repeat' (first | (k_unfold; (try dsimp only)) | (walk1 <;> (try dsimp only)) | (dsimp only; walk1) | (leave1; walk_say "STEP leave1"; try dsimp only) | fail "no step"))
local macro_rules | `(tactic| walk_at "binaryOp Mult int int") => `(tactic| (refine mul_int ?_ (by first | assumption | exact IntMulOk.of_left (by decide) | exact IntMulOk.of_right (by decide))))
local macro_rules | `(tactic| walk_at "binaryOp LShift int int") => `(tactic| first
  | ((with_reducible refine shl_v (a := 1) (n := 200) (by decide) (by decide) ?_); intro vB hB)
  | ((with_reducible refine shl_v (n := 200) (by decide) (by with_reducible assumption) ?_); intro vN hN)
  | (with_reducible refine shl_same (a := 1) (by with_reducible assumption) (near_lo (by assumption)) (near_one (by assumption)) ?_)
  | ((with_reducible refine shl_v (a := 1) (near_lo (by assumption)) (near_one (by assumption)) ?_); intro vU hU)
  | ((with_reducible refine shl_v (near_lo (by assumption)) (near_sh (by assumption) (by assumption)) ?_); intro vA hA)
  | ((with_reducible refine shl_v (near_lo (by assumption)) (near_sh1 (by assumption) (by assumption)) ?_); intro vA hA))
local macro_rules | `(tactic| walk_at "binaryOp Mod int int") => `(tactic| (refine mod_int' (by decide) ?_))
local macro_rules | `(tactic| walk_at "call builtin:divmod") => `(tactic| ((with_reducible show wpAny _ _ (call (Value.builtin _) [Value.int _ _, Value.int _ _]) _ _ _); first
  | (refine dm_v (b := d) (by assumption) (by assumption) (fun e => absurd hd0 (by rw [e]; decide)) hd9 ?_; intro vp vr _ _ _ _ hp hr _ _; (replace hp := near_d hN hp hn0 hn1 hd0 hd1))
  | (refine dm_v (by assumption) (by assumption) (near_un hp hU).1 (near_un hp hU).2 ?_; intro vh vt _ _ _ _ hh ht _ _; (have hhb := near_hb hp hU hh))))

theorem near_c {w : World} {loose : List Str} {mean : ExcName → Option Value} {mg mb : Str → Option Value}
    {dp un : Nat} {gd : Option (List Code)} {cn : Str} {cs : Scope} {a : Addr} {ccd : Value} {cl : List (Str × Addr)} {outer : List Env} {A₀ : Around} {base h₀ : Heap} {L : Addr} {m : Str → Option Value} {news : List (Addr × Obj)} {s : Shared}
    {Q E : Value → Shared → Prop} {n d : Int} {tn td : Tok}
    (B : Below A₀ base outer h₀) (F : Fr h₀ L s.heap m) (X : (fv.heap_39 w.params).In h₀) (N : News h₀ L s.heap news) (T : Top fv.view_39 loose mean mg mb h₀) (hk : cs.kind = .function)
    (hdp : dp + 3 < recursionLimit) (hun : un + 24 < cLine)
    (hn0 : 0 < n) (hn1 : Flt.Hid (n < 2 ^ 210)) (hnb : (Builtin.Int.intBits n : Int) + 200 ≤ 100000) (hd0 : 0 < d) (hd1 : d ≤ 100000) (hd9 : d.natAbs.log2 < 9000)
    (hret : ∀ (D : Addr) (A B : Int) (t1 t2 : Tok) (h' : Heap) (tk' : Nat), Eqn A (nearA n d) → Eqn B (2 ^ 200) → Fr h₀ L h' m → News h₀ L h' ((D, { cls := .type "tuple", data := .seq #[.int A t1, .int B t2] }) :: news) → (∀ p ∈ news, p.1 < D) → Q (.ref D) { s with heap := h', toks := tk' }) :
    wpAny (model Challenge.rw_fv0008_01.row.prog w) (ktrTop dp un gd cn cs L a ccd cl outer) (call (.ref 93) [.int n tn, .int d td]) Q E s := by
  revert X
  k_fill
  intro X
  refine wpAny_call ?_
  k_dflt ktr_enter
  k_steps
  all_goals
    clear qk ek
    refine hret _ vA _ _ _ _ _ ?_ (near_b (by assumption)) (by k_asm) (drop2 (by k_asm)) ?_
    · first
        | exact near_end_up hN hp hr hU hh ht (by assumption) (by simp_all)
        | exact near_end_stay hN hp hr hU hh ht (by assumption) (by simp_all <;> omega)
    · intro p hp
      rename _ ∧ _ ∧ AllLt _ _ => l1
      exact allLt_out l1.2.2 p hp
end Mine
end
section
open PySem.Spec PySem.Calls
set_option maxHeartbeats 4000000
set_option hygiene false
set_option linter.unusedVariables false
namespace Mine
local macro_rules | `(tactic| k_steps) => `(tactic| repeat' (first | (k_unfold; (try dsimp only)) | (walk1 <;> (try dsimp only)) | (dsimp only; walk1) | (leave1; walk_say "STEP leave1"; try dsimp only) | fail "no step"))
def pyWord (n g : Int) : Str := Txt.rjustF (Str.ofString (toString n)) (g + 1) ((Str.ofString "0").cps.getD 0 0)
/-- what _law_text says -/
def pyText (n g : Int) : Str :=
  Txt.slice (pyWord n g) none (some ((pyWord n g).length - g)) ++ (if g = 0 then Str.ofString "" else Str.ofString "." ++ Txt.slice (pyWord n g) (some ((pyWord n g).length - g)) none)

theorem word_eq {vw vs : Str} {n g : Int} (hs : EqS vs (Str.ofString (toString n))) (hw : EqS vw (Txt.rjustF vs (g + 1) ((Str.ofString "0").cps.getD 0 0))) : vw = pyWord n g := by rw [hw.out, hs.out]; rfl
theorem word_len {vw vs : Str} {n g : Int} (hs : EqS vs (Str.ofString (toString n))) (hw : EqS vw (Txt.rjustF vs (g + 1) ((Str.ofString "0").cps.getD 0 0))) (hlen : (pyWord n g).length < 1000) : vw.length < 1000 := word_eq hs hw ▸ hlen
local macro_rules | `(tactic| walk_at "call type:str") => `(tactic| (refine str_v hm9 ?_; intro vs ts hs))
local macro_rules | `(tactic| walk_at "call builtin:str.rjust") => `(tactic| (refine rjust_v hpad (by decide) ?_; intro vw tw kw hw; (have hwl := word_len hs hw hlen)))
local macro_rules | `(tactic| walk_at "call builtin:len") => `(tactic| (refine len_v (by omega) ?_))

theorem text_c {w : World} {loose : List Str} {mean : ExcName → Option Value} {mg mb : Str → Option Value}
    {dp un : Nat} {gd : Option (List Code)} {cn : Str} {cs : Scope} {a : Addr} {ccd : Value} {cl : List (Str × Addr)} {outer : List Env} {A₀ : Around} {base h₀ : Heap} {L : Addr} {m : Str → Option Value} {news : List (Addr × Obj)} {s : Shared}
    {Q E : Value → Shared → Prop} {n g : Int} {tn tg : Tok}
    (B : Below A₀ base outer h₀) (F : Fr h₀ L s.heap m) (X : (fv.heap_39 w.params).In h₀) (N : News h₀ L s.heap news) (T : Top fv.view_39 loose mean mg mb h₀) (hk : cs.kind = .function)
    (hdp : dp + 3 < recursionLimit) (hun : un + 24 < cLine)
    (hn0 : 0 ≤ n) (hm9 : n.natAbs.log2 < 1920) (hpad : PadOk (g + 1) = true) (hg0 : 0 ≤ g) (hg4 : g ≤ 4) (hlen : (pyWord n g).length < 1000)
    (hret : ∀ (t : Tok) (h' : Heap) (tk' : Nat), Fr h₀ L h' m → News h₀ L h' news → Q (.str (pyText n g) t) { s with heap := h', toks := tk' }) :
    wpAny (model Challenge.rw_fv0008_01.row.prog w) (ktrTop dp un gd cn cs L a ccd cl outer) (call (.ref 107) [.int n tn, .int g tg]) Q E s := by
  revert X
  k_fill
  intro X
  refine wpAny_call ?_
  k_dflt ktr_enter
  k_steps
  all_goals
    clear qk ek
    have e := word_eq hs hw
    subst e
    refine cb_retS (Q := Q) hret ?_ (by k_asm) (by k_asm)
    unfold pyText
    simp_all
end Mine
end
section
open PySem.Spec PySem.Calls
set_option maxHeartbeats 4000000
set_option hygiene false
set_option linter.unusedVariables false
namespace Mine
local macro_rules | `(tactic| k_steps) => `(tactic| repeat' (first | (k_unfold; (try dsimp only)) | (walk1 <;> (try dsimp only)) | (dsimp only; walk1) | (leave1; walk_say "STEP leave1"; try dsimp only) | fail "no step"))
local macro_rules | `(tactic| walk_at "binaryOp Div int int") => `(tactic| (refine div_v rfl hn9 hd0 ?_; intro vx tx hx))

theorem dbl_c {w : World} {loose : List Str} {mean : ExcName → Option Value} {mg mb : Str → Option Value}
    {dp un : Nat} {gd : Option (List Code)} {cn : Str} {cs : Scope} {a : Addr} {ccd : Value} {cl : List (Str × Addr)} {outer : List Env} {A₀ : Around} {base h₀ : Heap} {L : Addr} {m : Str → Option Value} {news : List (Addr × Obj)} {s : Shared}
    {Q E : Value → Shared → Prop} {n d : Int} {tn td : Tok}
    (B : Below A₀ base outer h₀) (F : Fr h₀ L s.heap m) (X : (fv.heap_39 w.params).In h₀) (N : News h₀ L s.heap news) (T : Top fv.view_39 loose mean mg mb h₀) (hk : cs.kind = .function)
    (hdp : dp + 3 < recursionLimit) (hun : un + 24 < cLine)
    (hn9 : Flt.Hid (n.natAbs < 2 ^ 1023)) (hd0 : d ≠ 0)
    (hret : ∀ (t : Tok) (h' : Heap) (tk' : Nat), Fr h₀ L h' m → News h₀ L h' news → Q (.float (Float64.ofFrac (decide (n < 0) != decide (d < 0)) n.natAbs d.natAbs) t) { s with heap := h', toks := tk' }) :
    wpAny (model Challenge.rw_fv0008_01.row.prog w) (ktrTop dp un gd cn cs L a ccd cl outer) (call (.ref 81) [.int n tn, .int d td]) Q E s := by
  revert X
  k_fill
  intro X
  refine wpAny_call ?_
  k_dflt (refine' code_def ?k1 ?k2 ?k3 ?k4 ?k5 ?kA ?kF ?kK ?k6 ?k7 ?k8 ?k9 ?kB ?_ ?c2 ?c3 ?c4 ?c5; (case kA => exact rfl); (case kF => exact rfl); (case kK => assumption); (case k1 => k_asm); (case k2 => k_asm); (case k3 => k_asm); (case k4 => k_asm); (case k5 => k_asm); (case k6 => k_is); (case k7 => k_is); (case k8 => ktr_room); (case k9 => first | exact BindsTo.of_eq rfl | exact binds_K (by k_in) rfl (by k_is) rfl rfl rfl); (case c5 => decide); (case kB => exact locs rfl); (case c2 => exact rfl); (case c3 => exact rfl); (case c4 => exact rfl); k_whole; intro g' L' h' FG' F' N' B' X' T'; (try dsimp only); (try k_lift B'); (try k_fold))
  k_steps
  all_goals first
    | exact absurd (by assumption) hd0
    | exact retF (Q := Q) hret hx.out (by k_asm) (by k_asm)
end Mine
end
section
open PySem.Spec PySem.Calls
set_option maxHeartbeats 4000000
set_option hygiene false
set_option linter.unusedVariables false
namespace Mine
local macro_rules | `(tactic| k_steps) => `(tactic| repeat' (first | (k_unfold; (try dsimp only)) | (walk1 <;> (try dsimp only)) | (dsimp only; walk1) | (leave1; walk_say "STEP leave1"; try dsimp only) | fail "no step"))
local macro_rules | `(tactic| walk_at "call builtin:len") => `(tactic| (refine len_v (by omega) ?_))
local macro_rules | `(tactic| walk_at "pyIter ref") => `(tactic| (with_reducible show wpAny _ _ (pyIter (Value.ref _)) _ _ _; refine held ?_))
def pyComAt (x : Str) (k : Nat) : Str :=
  Txt.item x k ++ (if (x.length : Int) - 1 - k > 0 ∧ ((x.length : Int) - 1 - k).fmod 3 = 0 then Str.ofString "," else Str.ofString "")
/-- what _law_commas has said behind k signs -/
def pyCom (x : Str) : Nat → Str
  | 0 => Str.ofString ""
  | k + 1 => pyCom x k ++ pyComAt x k
theorem com_y {x : Str} {pre : List Int} {k : Int} {said : Str} (hk : k = 0 + (pre.length : Int)) (hp : said = pyCom x pre.length ∧ said.length ≤ 2 * pre.length) (hi : 1 ≤ (Txt.item x k).length ∧ (Txt.item x k).length ≤ 1)
    (h1 : 0 < (x.length : Int) - 1 - k) (h2 : ((x.length : Int) - 1 - k).fmod 3 = 0) : said ++ (Txt.item x k ++ Str.ofString ",") = pyCom x (pre ++ [k]).length ∧ (said ++ (Txt.item x k ++ Str.ofString ",")).length ≤ 2 * (pre ++ [k]).length := by
  rw [Int.zero_add] at hk
  subst hk
  rw [List.length_append, List.length_singleton]
  refine ⟨?_, ?_⟩
  · show _ = pyCom x pre.length ++ pyComAt x pre.length
    unfold pyComAt
    rw [if_pos ⟨h1, h2⟩, hp.1]
  · rw [PySem.Str.length_append, PySem.Str.length_append]
    have : (Str.ofString ",").length = 1 := by decide +kernel
    omega
theorem com_n {x : Str} {pre : List Int} {k : Int} {said : Str} (hk : k = 0 + (pre.length : Int)) (hp : said = pyCom x pre.length ∧ said.length ≤ 2 * pre.length) (hi : 1 ≤ (Txt.item x k).length ∧ (Txt.item x k).length ≤ 1)
    (h1 : ¬ (0 < (x.length : Int) - 1 - k ∧ ((x.length : Int) - 1 - k).fmod 3 = 0)) : said ++ (Txt.item x k ++ Str.ofString "") = pyCom x (pre ++ [k]).length ∧ (said ++ (Txt.item x k ++ Str.ofString "")).length ≤ 2 * (pre ++ [k]).length := by
  rw [Int.zero_add] at hk
  subst hk
  rw [List.length_append, List.length_singleton]
  refine ⟨?_, ?_⟩
  · show _ = pyCom x pre.length ++ pyComAt x pre.length
    unfold pyComAt
    rw [if_neg h1, hp.1]
  · rw [PySem.Str.length_append, PySem.Str.length_append]
    have : (Str.ofString "").length = 0 := by decide +kernel
    omega
theorem com_all {x : Str} {c : Str} (h : c = pyCom x (rangeKs 0 (((x.length : Int) - 0).toNat)).length ∧ c.length ≤ 2 * (rangeKs 0 (((x.length : Int) - 0).toNat)).length) : c = pyCom x x.length := by
  rw [rangeKs_length] at h
  have e : ((x.length : Int) - 0).toNat = x.length := by omega
  rw [e] at h
  exact h.1
theorem commas_c {w : World} {loose : List Str} {mean : ExcName → Option Value} {mg mb : Str → Option Value}
    {dp un : Nat} {gd : Option (List Code)} {cn : Str} {cs : Scope} {a : Addr} {ccd : Value} {cl : List (Str × Addr)} {outer : List Env} {A₀ : Around} {base h₀ : Heap} {L : Addr} {m : Str → Option Value} {news : List (Addr × Obj)} {s : Shared}
    {Q E : Value → Shared → Prop} {x : Str} {tx : Tok}
    (B : Below A₀ base outer h₀) (F : Fr h₀ L s.heap m) (X : (fv.heap_39 w.params).In h₀) (N : News h₀ L s.heap news) (T : Top fv.view_39 loose mean mg mb h₀) (hk : cs.kind = .function)
    (hdp : dp + 3 < recursionLimit) (hun : un + 24 < cLine)
    (hx1 : x.length < 1000)
    (hret : ∀ (t : Tok) (h' : Heap) (tk' : Nat), Fr h₀ L h' m → News h₀ L h' news → Q (.str (pyCom x x.length) t) { s with heap := h', toks := tk' }) :
    wpAny (model Challenge.rw_fv0008_01.row.prog w) (ktrTop dp un gd cn cs L a ccd cl outer) (call (.ref 114) [.str x tx]) Q E s := by
  revert X
  k_fill
  intro X
  refine wpAny_call ?_
  k_dflt ktr_enter
  k_steps
  refine ⟨?_⟩
  k_state (fun pre said => said = pyCom x pre.length ∧ said.length ≤ 2 * pre.length) "said"
  all_goals k_steps
  all_goals first
    | (refine kst_end (_, _) (by assumption) (by assumption) (fun p hp => List.mem_append_left _ hp) (fun p hp => List.mem_append_right _ hp) rfl trivial (by kst_all) (by kst_same) ?_
       dsimp only
       first
         | exact com_y kEq ⟨by assumption, by assumption⟩ (by assumption) (by assumption) (by assumption)
         | exact com_n kEq ⟨by assumption, by assumption⟩ (by assumption) (fun h => absurd h.2 (by assumption))
         | exact com_n kEq ⟨by assumption, by assumption⟩ (by assumption) (fun h => absurd h.1 (by omega)))
    | exact cb_retS (Q := Q) hret (com_all ⟨by assumption, by assumption⟩) (by k_asm) (by k_asm)
end Mine
end
section
open PySem.Spec PySem.Calls
set_option maxHeartbeats 4000000
set_option hygiene false
set_option linter.unusedVariables false
namespace Mine
local macro_rules | `(tactic| k_steps) => `(tactic| repeat' (first | (k_unfold; (try dsimp only)) | (walk1 <;> (try dsimp only)) | (dsimp only; walk1) | (leave1; walk_say "STEP leave1"; try dsimp only) | fail "no step"))
/-- what _law_back reads -/
def pyBack (x : Str) : List Str :=
  if x = Str.ofString "" then [] else
    (if (Txt.rpartition x (Str.ofString " and ")).2.1.length = 0 then [] else Txt.split (Txt.rpartition x (Str.ofString " and ")).1 (Str.ofString ", ")) ++ [(Txt.rpartition x (Str.ofString " and ")).2.2]
theorem back_cat {l : List (Str × Tok)} {y : Str} {t : Tok} : (strValues l).toArray.toList ++ #[Value.str y t].toList = strValues (l ++ [(y, t)]) := by simp [strValues]
theorem back_size {l : List (Str × Tok)} {y : Str} {t : Tok} {ss : List Str} (e : l.map (·.1) = ss) (h : ss.length < 1000) : (strValues l).toArray.toList.length + #[Value.str y t].toList.length ≤ sizeLine := by
  have : l.length = ss.length := by rw [← e, List.length_map]
  simp [strValues, sizeLine_eq]
  omega
local macro_rules | `(tactic| walk_at "call builtin:str.split") => `(tactic| (refine splitN1 (by k_asm) (by k_asm) (by decide) ?_ (by rw [sizeLine_eq]; omega); intro ll hS kS hl FS NS))
local macro_rules | `(tactic| walk_at "binaryOp Add ref ref") => `(tactic| ((with_reducible show wpAny _ _ (binaryOp _ (Value.ref _) (Value.ref _)) _ _ _); (refine' kmk_add_lit ?F ?N ?a ?b back_cat ?_ ?z; (case F => k_asm); (case N => k_asm); (case a => exact News.isList (by k_asm) (.tail _ (.head _))); (case b => exact News.isList (by k_asm) (.head _)); (case z => exact back_size hl hsp)); intro D' h' F' N' l1; (try k_lt l1)))
theorem back_c {w : World} {loose : List Str} {mean : ExcName → Option Value} {mg mb : Str → Option Value}
    {dp un : Nat} {gd : Option (List Code)} {cn : Str} {cs : Scope} {a : Addr} {ccd : Value} {cl : List (Str × Addr)} {outer : List Env} {A₀ : Around} {base h₀ : Heap} {L : Addr} {m : Str → Option Value} {news : List (Addr × Obj)} {s : Shared}
    {Q E : Value → Shared → Prop} {x : Str} {tx : Tok}
    (B : Below A₀ base outer h₀) (F : Fr h₀ L s.heap m) (X : (fv.heap_39 w.params).In h₀) (N : News h₀ L s.heap news) (T : Top fv.view_39 loose mean mg mb h₀) (hk : cs.kind = .function)
    (hdp : dp + 3 < recursionLimit) (hun : un + 24 < cLine)
    (hx1 : x.length < 100000) (hs1 : (Txt.rpartition x (Str.ofString " and ")).1.length < 100000) (hsp : (Txt.split (Txt.rpartition x (Str.ofString " and ")).1 (Str.ofString ", ")).length < 1000)
    (hret : ∀ (D : Addr) (l : List (Str × Tok)) (h' : Heap) (tk' : Nat), l.map (·.1) = pyBack x → Fr h₀ L h' m → News h₀ L h' ((D, listOf (strValues l).toArray 0) :: news) → (∀ p ∈ news, p.1 < D) → Q (.ref D) { s with heap := h', toks := tk' }) :
    wpAny (model Challenge.rw_fv0008_01.row.prog w) (ktrTop dp un gd cn cs L a ccd cl outer) (call (.ref 121) [.str x tx]) Q E s := by
  revert X
  k_fill
  intro X
  refine wpAny_call ?_
  k_dflt ktr_enter
  k_steps
  · refine hret _ [] _ _ ?_ (by k_asm) (by k_asm) (by assumption)
    unfold pyBack
    simp_all
  · refine hret _ _ _ _ ?_ (by k_asm) (drop1 (drop1 (drop1 (by k_asm)))) (allLt_out l1.2.2.2)
    unfold pyBack
    simp_all
  · rename _ ∧ _ ∧ _ ∧ AllLt _ _ => l1
    refine hret _ [(_, _)] _ _ ?_ (by k_asm) (drop1 (drop1 (drop1 (by k_asm)))) (allLt_out l1.2.2.2)
    unfold pyBack
    simp_all
end Mine
end
section
open PySem.Spec PySem.Calls
set_option maxHeartbeats 4000000
set_option hygiene false
set_option linter.unusedVariables false
namespace Mine
local macro_rules | `(tactic| k_steps) => `(tactic| repeat' (first | (k_unfold; (try dsimp only)) | (walk1 <;> (try dsimp only)) | (dsimp only; walk1) | (leave1; walk_say "STEP leave1"; try dsimp only) | fail "no step"))
/-- the end of an element that is a text -/
structure ElEnd (x : Str) (s : Shared) (h₀ : Heap) (L : Addr) (m : Str → Option Value) (led : List (Addr × Obj)) (y : Value) (s₂ : Shared) : Prop where
  out : ∃ t h' tk', y = .str x t ∧ s₂ = { s with heap := h', toks := tk' } ∧ Fr h₀ L h' m ∧ News h₀ L h' led
theorem elEnd {x x' : Str} {s : Shared} {h₀ : Heap} {L : Addr} {m : Str → Option Value} {led : List (Addr × Obj)} {t : Tok} {h' : Heap} {tk' : Nat} (e : x = x') (F : Fr h₀ L h' m) (N : News h₀ L h' led) :
    ElEnd x' s h₀ L m led (.str x t) { s with heap := h', toks := tk' } := ⟨⟨t, h', tk', by rw [e], rfl, F, N⟩⟩
/-- a comprehension over a list's items, each element told as a text -/
theorem comp_run {prog : Program} {w : World} {A : Around} {h₀ : Heap} {L : Addr} {m : Str → Option Value} {env : Env} {elt : PySem.Expr} {x : Str} {scope : Scope} {cl : List (Str × Addr)} {s : Shared} {S : List (Addr × Obj) → Prop}
    {Fin : List Value → List (Addr × Obj) → Prop} {news : List (Addr × Obj)} {vs : List Value} (f : Value → Str) (hS : S news)
    (hel : ∀ v ∈ vs, ∀ I oI C oC D m₂ h tk ys, LCg.NsObj oC m₂ → m₂ x = some v → Fr h₀ L h m → News h₀ L h ((I, oI) :: (C, oC) :: (D, LCg.lst ys) :: news) →
      ∀ E', wpAny (model prog w) A (eval elt (compEnvC scope cl C env)) (ElEnd (f v) s h₀ L m ((I, oI) :: (C, oC) :: (D, LCg.lst ys) :: news)) E' { s with heap := h, toks := tk })
    (fin : ∀ l : List (Str × Tok), l.map (·.1) = vs.map f → Fin (strValues l) news) :
    ∀ (k i : Nat) (l : List (Str × Tok)), i + k = vs.length → l.map (·.1) = (vs.take i).map f → LCg.CompRest prog w A h₀ L m env elt x scope cl s S (fun i v => vs.toArray[i]? = some v) Fin k i (strValues l) news := by
  intro k
  induction k with
  | zero =>
    intro i l hi hl
    refine LCg.CompRest.zero (fin l ?_)
    rw [hl, List.take_of_length_le (by omega)]
  | succ k ih =>
    intro i l hi hl
    refine LCg.CompRest.succ fun v I oI C oC D m₂ h tk E' hv hC hx F N off ne => ?_
    have hv' : vs[i]? = some v := by simpa using hv
    refine wpAny_mono (hel v (List.mem_of_getElem? hv') I oI C oC D m₂ h tk _ hC hx F N E') (fun y s₂ hy => ?_) fun _ _ e => e
    obtain ⟨t, h', tk', rfl, rfl, F', N'⟩ := hy.out
    refine LCg.CompEnd.intro F' N' news (fun _ h => h) off hS ?_
    have e : strValues l ++ [Value.str (f v) t] = strValues (l ++ [(f v, t)]) := by simp [strValues]
    rw [e]
    refine ih (i + 1) _ (by omega) ?_
    rw [List.map_append, hl, List.take_add_one, hv']
    simp
end Mine
end
section
open PySem.Spec PySem.Calls
set_option maxHeartbeats 4000000
set_option hygiene false
set_option linter.unusedVariables false
namespace Mine
local macro_rules | `(tactic| k_steps) => `(tactic| repeat' (first | (k_unfold; (try dsimp only)) | (walk1 <;> (try dsimp only)) | (dsimp only; walk1) | (leave1; walk_say "STEP leave1"; try dsimp only) | fail "no step"))
/-- the ledger bears the tuple -/
structure TupIn (ax : Addr) (its : Array Value) (news : List (Addr × Obj)) : Prop where
  out : ∃ o, (ax, o) ∈ news ∧ o.cls = .type "tuple" ∧ ∃ n, o.data = .seq its n
theorem TupIn.is {h₀ h : Heap} {L ax : Addr} {its : Array Value} {news : List (Addr × Obj)} (x : TupIn ax its news) (N : News h₀ L h news) : h.IsTuple ax its := by
  obtain ⟨o, hm, r⟩ := x.out
  exact ⟨o, (N _ hm).1, r⟩
/-- entries that lie elsewhere stand behind a change -/
theorem news_off {h₀ h h' : Heap} {L c : Addr} {led : List (Addr × Obj)} (N : News h₀ L h led) (hs : Heap.SameBut c h h') (off : ∀ q ∈ led, q.1 ≠ c) : News h₀ L h' led :=
  fun q hq => ⟨(hs.2 q.1 (off q hq)).trans (N q hq).1, (N q hq).2⟩
section
variable {prog : Program} {w : World} {A : Around} {E : Value → Shared → Prop} {h₀ : Heap} {L : Addr} {m : Str → Option Value} {env : Env} {elt iter : PySem.Expr} {x y : Str} {px py pos spos : Pos} {scope : Scope} {cl : List (Str × Addr)}
/-- what an iterable that is a made tuple tells -/
structure SrcTup (prog : Program) (w : World) (A : Around) (h₀ : Heap) (L : Addr) (m : Str → Option Value) (env : Env) (elt : PySem.Expr) (x : Str) (scope : Scope) (cl : List (Str × Addr)) (Fin : Shared → List Value → List (Addr × Obj) → Prop) (xv : Value) (s : Shared) : Prop where
  out : ∃ ax its led, xv = .ref ax ∧ TupIn ax its led ∧ News h₀ L s.heap led ∧ Fr h₀ L s.heap m ∧ A.handled = none ∧ its.size ≤ sizeLine ∧
    ∀ g, LCg.CompRest prog w A h₀ L m env elt x scope cl { s with heap := g } (TupIn ax its) (fun i v => its[i]? = some v) (Fin { s with heap := g }) its.size 0 [] led
theorem srcTup {Fin : Shared → List Value → List (Addr × Obj) → Prop} {ax : Addr} {its : Array Value} {k : Nat} {led : List (Addr × Obj)} {s : Shared}
    (hh : A.handled = none) (F : Fr h₀ L s.heap m) (N : News h₀ L s.heap led) (hm : (ax, ({ cls := .type "tuple", data := .seq its k } : Obj)) ∈ led) (hsz : its.size ≤ sizeLine)
    (h : ∀ g, LCg.CompRest prog w A h₀ L m env elt x scope cl { s with heap := g } (TupIn ax its) (fun i v => its[i]? = some v) (Fin { s with heap := g }) its.size 0 [] led) :
    SrcTup prog w A h₀ L m env elt x scope cl Fin (.ref ax) s := ⟨⟨ax, its, led, rfl, ⟨_, hm, rfl, _, rfl⟩, N, F, hh, hsz, h⟩⟩
/-- the made list gets its name -/
theorem made_named {M : Model} {s : Shared} {D C : Addr} {o : Obj} {led : List (Addr × Obj)} {mC : Str → Option Value} {Q : Flow → Shared → Prop} (hy : env.kindOf y = some .local)
    (hp : (env.scope.kind == .class || (env.scope.kind == .module && env.locals != env.globals)) = false) (F : Fr h₀ env.locals s.heap m) (N : News h₀ env.locals s.heap ((D, o) :: led)) (hC : s.heap.Ns C mC) (c0 : h₀.get? C = none)
    (cL : C ≠ env.locals) (off : ∀ q ∈ (D, o) :: led, q.1 ≠ C) (fin : ∀ h, Fr h₀ env.locals h (fun z => if z = y then some (.ref D) else m z) → News h₀ env.locals h ((D, o) :: led) → Q .next { s with heap := h, toks := s.toks + 1 }) :
    wpAny M A (assign (.Name y py) env (.ref D)) (fun _ t => ∃ mm, t.heap.Ns C mm ∧ ∀ h, Heap.SameBut C t.heap h → Q .next { t with heap := h }) E s := by
  have store : ∀ h, h.Ns env.locals (fun z => if z = y then some (.ref D) else m z) → Heap.SameBut env.locals s.heap h → ∀ h', Heap.SameBut C h h' → Q .next { s with heap := h', toks := s.toks + 1 } :=
    fun h n b h' b' => fin h' ((F.set n b).change b' cL c0) (news_off (N.set b) b' off)
  exact wpAny_assign_Name (wpAny_storeName_local hy F.ns (fun h n b => ⟨mC, hC.sameBut b cL, store h n b⟩) hp)
/-- the turns over the tuple -/
theorem tup_turns {s : Shared} {xv : Value} {Q : Flow → Shared → Prop} (hcell : ∀ z ∈ scope.names, z.2 ≠ .cell) (hkind : scope.kind = .function) (hx : scope.names.lookup x = some .local) (hy : env.kindOf y = some .local)
    (hp : (env.scope.kind == .class || (env.scope.kind == .module && env.locals != env.globals)) = false)
    (src : SrcTup prog w A h₀ env.locals m env elt x scope cl (fun t => LCg.FinA h₀ env.locals m t y Q) xv s) :
    wpAny (model prog w) A (pyIter xv) (fun it s₂ => wpAny (model prog w) A (newList []) (fun acc s₃ => wpAny (model prog w) A (newFunctionEnv scope env.globals cl [] env.qual none .none (some env)) (fun cenv s₄ =>
      codeAny (model prog w) A (.compStart (.ListComp elt [⟨.Name x px, iter, [], 0⟩] scope pos) 0 it acc { cenv with scope := relabel scope env })
        (compPost (model prog w) A E (some (assign (.Name y py) env)) (fun _ t => Q .next t) acc cenv.locals) s₄) E s₃) E s₂) E s := by
  obtain ⟨ax, its, led, rfl, S, N, F, hh, hsz, R⟩ := src.out
  have T := S.is N
  have lt : ax < s.heap.objs.size := let ⟨_, e, _⟩ := T; Heap.lt_size e
  refine wpAny_pyIter_tuple T (LCg.block_U (S := TupIn ax its) (Walks.tuple hh s.heap.objs.size ax (Nat.ne_of_lt lt) its) hsz ?own ?kept hcell hkind hx ?start ?foot ?fr ?led (Nat.ne_of_lt F.ns.lt) (next_is_new F) ?far S (R _) ?done)
  case own => exact fun _ _ st => let ⟨o, e, _⟩ := st.1; ⟨o, e⟩
  case start => exact ⟨⟨_, Heap.get?_push_size _ rfl, rfl, rfl⟩, T.push _⟩
  case fr => exact F.keeps fun _ _ e => Heap.get?_push_of_some _ e
  case led => exact N.grown fun _ _ e => Heap.get?_push_of_some _ e
  case far => exact fun q hq => Nat.ne_of_lt (Heap.lt_size (N q hq).1)
  case kept =>
    intro _ _ _ o _ st e e' _ N' S'
    obtain ⟨o', q, r⟩ := st.1
    rw [q] at e
    injection e with e
    exact ⟨⟨o, e', e ▸ r⟩, S'.is N'⟩
  case foot =>
    intro b hb
    have le : b ≤ s.heap.objs.size := by
      rcases List.mem_cons.mp hb with e | hb
      · exact Nat.le_of_eq e
      · exact Nat.le_of_lt (List.mem_singleton.mp hb ▸ lt)
    exact Nat.lt_of_le_of_lt le (by rw [Heap.size_push]; exact Nat.lt_succ_self _)
  case done =>
    intro D C h tk mC ys led' F' N' o1 hC c0 _ cL _ cD off fin
    refine made_named (m := m) hy hp F' N' hC c0 cL ?_ fun h' F'' N'' => fin D h' _ F'' N'' o1
    intro q hq
    rcases List.mem_cons.mp hq with rfl | hq
    · exact cD.symm
    · exact off q hq
theorem assign_comp_tup {s : Shared} {Q : Flow → Shared → Prop} (_F₀ : Fr h₀ L s.heap m) (hLe : env.locals = L)
    (hsw : swapsWith (.ListComp elt [⟨.Name x px, iter, [], 0⟩] scope pos) (some (.Name y py)) spos.line env = pure true) (hclos : closureFor scope env = pure cl)
    (hcell : ∀ z ∈ scope.names, z.2 ≠ .cell) (hkind : scope.kind = .function) (hnames : ∀ z ∈ scope.names, z.2 = .local → scope.names.lookup z.1 = some .local) (hx : scope.names.lookup x = some .local)
    (hy : env.kindOf y = some .local) (hp : (env.scope.kind == .class || (env.scope.kind == .module && env.locals != env.globals)) = false)
    (h : wpAny (model prog w) A (eval iter env) (SrcTup prog w A h₀ L m env elt x scope cl (fun t => LCg.FinA h₀ L m t y Q)) E s)
    (hs : ∀ z, foldedSetIterable iter env z = pure z := by intro _; rfl) :
    wpAny (model prog w) A (exec (.Assign [.Name y py] (.ListComp elt [⟨.Name x px, iter, [], 0⟩] scope pos) spos) env) Q E s := by
  subst hLe
  have comp : ∀ ps, wpAny (model prog w) A (comprehension (.ListComp elt [⟨.Name x px, iter, [], 0⟩] scope pos) scope env ps (newList []) false (eval iter env) (some (assign (.Name y py) env))) (fun _ t => Q .next t) E s :=
    fun ps => wpAny_comprehension_free rfl hs hclos hkind hnames (wpAny_mono h (fun _ _ src => tup_turns hcell hkind hx hy hp src) fun _ _ e => e)
  rw [exec_Assign_Name_used _ _ _ _ hsw]
  exact wpAny_bind (wpAny_standAt (wpAny_bind (wpAny_bind (wpAny_mono (comp _) (fun _ _ q => wpAny_pure (wpAny_pure q)) fun _ _ e => e))))
end
end Mine
end
section
open PySem.Spec PySem.Calls
set_option maxHeartbeats 4000000
set_option hygiene false
set_option linter.unusedVariables false
namespace Mine
local macro_rules | `(tactic| k_steps) => `(tactic| repeat' (first | (k_unfold; (try dsimp only)) | (walk1 <;> (try dsimp only)) | (dsimp only; walk1) | (leave1; walk_say "STEP leave1"; try dsimp only) | fail "no step"))
theorem pick_front (front : List (Str × Tok)) (p : Str × Tok) : (slicePick (strValues (front ++ [p])).toArray none (some (-1)) none).toList = strValues front := by
  have e : sliceBounds none (some (-1)) none (strValues (front ++ [p])).toArray.size = (((0 : Nat) : Int), ((front.length : Nat) : Int), 1) := by
    simp only [sliceBounds, Option.getD_none, show (1 : Int) > 0 by decide, if_true, show (-1 : Int) < 0 by decide]
    congr 1
    congr 1
    simp [strValues]
    omega
  rw [kmk_pick_nat _ e]
  simp [strValues]
section
variable {prog : Program} {w : World} {A : Around} {E : Value → Shared → Prop} {s : Shared} {Q : Value → Shared → Prop}
  {h₀ : Heap} {L : Addr} {m : Str → Option Value} {news : List (Addr × Obj)} {D : Addr} {l front : List (Str × Tok)} {p : Str × Tok} {nn : Nat}
theorem slice_front {value slice : PySem.Expr} {h : Heap} {g d tk o} {u : Tok} (F : Fr h₀ L h m) (N : News h₀ L h news) (hm : (D, listOf (strValues (front ++ [p])).toArray nn) ∈ news) (hz : front.length < 1000)
    (hk : ∀ D' h', Fr h₀ L h' m → News h₀ L h' ((D', listOf (strValues front).toArray 0) :: news) → (∀ q ∈ news, q.1 < D') → Q (.ref D') ⟨h', g, d, tk, o⟩)
    (hs : subscripted slice false (.ref D) (.ref h.objs.size) = operate [.ref h.objs.size, .ref D] (getItem (.ref D) (.ref h.objs.size))) (ht : ∀ r, letTemporaryGo value (.ref D) r = pure ()) :
    wpAny (model prog w) A (subscriptTail value slice (.ref D) (.ref h.objs.size)) Q E ⟨h.push { cls := .type "slice", data := .fields #[.none, .int (-1) u, .none] }, g, d, tk, o⟩ :=
  kmk_slice_lit (s := ⟨h, g, d, tk, o⟩) F N (News.isList N hm) .none (.int (-1) u) (pick_front front p) (fun D' h' F' N' l1 => hk D' h' F' N' l1) hs ht (by simp [strValues, sizeLine_eq]; omega)
theorem truthy_strs {Q : Bool → Shared → Prop} {b : Bool} (N : News h₀ L s.heap news) (hm : (D, listOf (strValues l).toArray nn) ∈ news) (hz : l.length < 1000) (hb : (!l.isEmpty) = b) (h : ∀ tk, Q b { s with toks := tk }) :
    wpAny (model prog w) A (truthy (.ref D)) Q E s := by
  refine wpAny_truthy_list (News.isList N hm) (by simp [strValues]; omega) ?_
  have e : (!(strValues l).toArray.isEmpty) = b := by rw [← hb]; cases l <;> simp [strValues]
  rw [e]
  exact h _
theorem len_strsV {n : Int} (N : News h₀ L s.heap news) (hm : (D, listOf (strValues l).toArray nn) ∈ news) (hz : l.length < 1000) (hn : (l.length : Int) = n) (h : ∀ t tk, Q (.int n t) { s with toks := tk }) :
    wpAny (model prog w) A (call (.builtin "len") [.ref D]) Q E s := by
  refine len_list (News.isList N hm) (by simp [strValues]; omega) ?_
  have e : (((strValues l).toArray.size : Nat) : Int) = n := by rw [← hn]; simp [strValues]
  rw [e]
  exact h _ _
theorem item_strs {value slice : PySem.Expr} {k : Int} {u : Tok} (N : News h₀ L s.heap news) (hm : (D, listOf (strValues l).toArray nn) ∈ news) (h0 : 0 ≤ k) (h1 : k < 1000) (hx : l[k.toNat]? = some p) (h : Q (.str p.1 p.2) s)
    (hs : subscripted slice false (.ref D) (.int k u) = operate [.ref D, .int k u] (getItem (.ref D) (.int k u)) := by with_unfolding_all rfl) (hg : ∀ r, letTemporaryGo value (.ref D) r = pure () := by intro _; with_unfolding_all rfl) :
    wpAny (model prog w) A (subscriptTail value slice (.ref D) (.int k u)) Q E s := by
  refine item_list (News.isList N hm) h0 (by omega) (x := .str p.1 p.2) ?_ h hs hg
  simp [strValues, hx]
theorem item_last {value slice : PySem.Expr} {u : Tok} (N : News h₀ L s.heap news) (hm : (D, listOf (strValues (front ++ [p])).toArray nn) ∈ news) (h : Q (.str p.1 p.2) s)
    (hs : subscripted slice false (.ref D) (.int (-1) u) = operate [.ref D, .int (-1) u] (getItem (.ref D) (.int (-1) u)) := by with_unfolding_all rfl) (hg : ∀ r, letTemporaryGo value (.ref D) r = pure () := by intro _; with_unfolding_all rfl) :
    wpAny (model prog w) A (subscriptTail value slice (.ref D) (.int (-1) u)) Q E s := by
  refine subscriptTail_builtin (News.isList N hm).typeIs slot_list_getitem.lookup (wpAny_getItem_list_neg (News.isList N hm) (by decide) ?_ (by decide) (x := .str p.1 p.2) ?_ h) hs hg
  · simp [strValues]; omega
  · have e : ((-1 : Int) + ((strValues (front ++ [p])).toArray.size : Int)).toNat = front.length := by simp [strValues]; omega
    rw [e]
    simp [strValues]
theorem join_strs {x : Str} {t : Tok} (N : News h₀ L s.heap news) (hm : (D, listOf (strValues l).toArray nn) ∈ news) (hok : JoinOk x (l.map (·.1)) = true) (h : ∀ t' k, Q (.str (Txt.join x (l.map (·.1))) t') { s with toks := k }) :
    wpAny (model prog w) A (call (.builtin "str.join") [.str x t, .ref D]) Q E s := SC.join (News.isList N hm) rfl hok h
end
/-- what natural_list says of texts -/
def pyNat : List Str → Str
  | [] => Str.ofString ""
  | [a] => a
  | [a, b] => Str.empty ++ a ++ Str.ofString " and " ++ b
  | ws => Txt.join (Str.ofString ", ") ws.dropLast ++ (Str.empty ++ Str.ofString " and " ++ ws.getLast?.getD Str.empty)
theorem pyNat_many (front : List Str) (z : Str) (h : 2 ≤ front.length) : pyNat (front ++ [z]) = Txt.join (Str.ofString ", ") front ++ (Str.empty ++ Str.ofString " and " ++ z) := by
  rcases front with _ | ⟨a, _ | ⟨b, r⟩⟩
  · simp at h
  · simp at h
  · have e : (a :: b :: r) ++ [z] = a :: b :: (r ++ [z]) := rfl
    rw [e]
    unfold pyNat
    cases hr : r ++ [z] with
    | nil => simp at hr
    | cons c r' =>
      simp only
      have e2 : (a :: b :: c :: r') = (a :: b :: r) ++ [z] := by rw [← hr]; rfl
      rw [e2, List.dropLast_concat, List.getLast?_concat]
      rfl
theorem fold_len (sep : Str) : ∀ (ps : List Str) (acc : Array Nat), (ps.foldl (fun acc p => acc ++ sep.cps ++ p.cps) acc).size = acc.size + (ps.map (·.length)).sum + ps.length * sep.length
  | [], acc => by simp
  | p :: r, acc => by
    rw [List.foldl_cons, fold_len sep r]
    simp only [Array.size_append, List.map_cons, List.sum_cons, List.length_cons, PySem.Str.length, Nat.add_mul, Nat.one_mul]
    omega
theorem sum_lt : ∀ (ws : List Str), (∀ w ∈ ws, w.length < 1000) → (ws.map (·.length)).sum ≤ ws.length * 1000
  | [], _ => by simp
  | w :: r, h => by
    have h1 := h w (.head _)
    have h2 := sum_lt r fun w hw => h w (.tail _ hw)
    simp only [List.map_cons, List.sum_cons, List.length_cons]
    omega
theorem join_len (sep : Str) (ws : List Str) : (Txt.join sep ws).length ≤ (ws.map (·.length)).sum + ws.length * sep.length := by
  cases ws with
  | nil => simp [Txt.join, Builtin.Str.glued, PySem.Str.length, PySem.Str.empty]
  | cons w r =>
    show ((r.foldl (fun acc p => acc ++ sep.cps ++ p.cps) w.cps)).size ≤ _
    rw [fold_len]
    simp only [List.map_cons, List.sum_cons, List.length_cons, PySem.Str.length, Nat.add_mul, Nat.one_mul]
    omega
theorem len_comma : (Str.ofString ", ").length = 2 := by decide +kernel
theorem join_facts (ws : List Str) (h : ∀ w ∈ ws, w.length < 1000) (hn : ws.length ≤ 90) : (Txt.join (Str.ofString ", ") ws).length < 100000 ∧ JoinOk (Str.ofString ", ") ws = true := by
  have h1 := sum_lt ws h
  have h2 := join_len (Str.ofString ", ") ws
  rw [len_comma] at h2
  refine ⟨by omega, joinOk_of ?_⟩
  rw [len_comma]
  omega
end Mine
end
section
open PySem.Spec PySem.Calls
set_option maxHeartbeats 4000000
set_option hygiene false
set_option linter.unusedVariables false
namespace Mine
local macro_rules | `(tactic| k_steps) => `(tactic| repeat' (first | (k_unfold; (try dsimp only)) | (walk1 <;> (try dsimp only)) | (dsimp only; walk1) | (leave1; walk_say "STEP leave1"; try dsimp only) | fail "no step"))
theorem len_and : (Str.ofString " and ").length = 5 := by decide +kernel
theorem len_emp : Str.empty.length = 0 := by decide +kernel
theorem len_ofemp : (Str.ofString "").length = 0 := by decide +kernel
local macro_rules | `(tactic| walk_at "CompSrc") => `(tactic| (refine LCg.CompSrc.ledger (by rfl) (by k_asm) (by k_asm) hm (by rw [sizeLine_eq]; simp; omega) ?_; intro gC; refine held ?_))
local macro_rules | `(tactic| walk_at "le") => `(tactic| (rw [sizeLine_eq]; simp only [PySem.Str.length_append, len_and, len_emp, len_ofemp]; omega))
local macro_rules | `(tactic| walk_at "truthy ref") => `(tactic| first | (refine truthy_strs (b := true) (by k_asm) (.head _) hl5 rfl ?_; intro tkT) | (refine truthy_strs (b := false) (by k_asm) (.head _) hl5 rfl ?_; intro tkT))
local macro_rules | `(tactic| walk_at "joinParts") => `(tactic| (refine joinParts_nil ?_ (by rw [sizeLine_eq]; simp only [PySem.Str.length_append, len_and, len_emp, len_ofemp]; omega)))
local macro_rules | `(tactic| walk_at "call builtin:len") => `(tactic| (refine len_strsV (by k_asm) (.head _) hl5 hln ?_; intro tL tkL))
local macro_rules | `(tactic| walk_at "call builtin:str.join") => `(tactic| (refine join_strs (l := f1 :: f2 :: fr) (by k_asm) (.head _) hjo ?_; intro tL tkL))
local macro_rules | `(tactic| walk_at "subscriptTail") => `(tactic| first
  | ((with_reducible show wpAny _ _ (subscriptTail _ _ (Value.ref _) (Value.int _ _)) _ _ _); first
    | (refine item_strs (by k_asm) (by first | exact .head _ | exact .tail _ (.head _)) (by decide) (by decide) rfl ?_)
    | (refine item_last (front := f1 :: f2 :: fr) (p := z) (by k_asm) (by first | exact .head _ | exact .tail _ (.head _)) ?_))
  | (refine slice_front (front := f1 :: f2 :: fr) (p := z) (by k_asm) (by k_asm) (.head _) hl5' ?_ (by with_unfolding_all rfl) (by intro _; with_unfolding_all rfl); intro D' h' F' N' l1))
theorem nat_c {w : World} {loose : List Str} {mean : ExcName → Option Value} {mg mb : Str → Option Value}
    {dp un : Nat} {gd : Option (List Code)} {cn : Str} {cs : Scope} {a : Addr} {ccd : Value} {cl : List (Str × Addr)} {outer : List Env} {A₀ : Around} {base h₀ : Heap} {L : Addr} {m : Str → Option Value} {news : List (Addr × Obj)} {s : Shared}
    {Q E : Value → Shared → Prop} {l : Addr} {vs : List Value} {nn : Nat} {f : Value → Str}
    (B : Below A₀ base outer h₀) (F : Fr h₀ L s.heap m) (X : (fv.heap_39 w.params).In h₀) (N : News h₀ L s.heap news) (T : Top fv.view_39 loose mean mg mb h₀) (hk : cs.kind = .function)
    (hdp : dp + 3 < recursionLimit) (hun : un + 24 < cLine)
    (hm : (l, listOf vs.toArray nn) ∈ news) (hlen : vs.length ≤ 5) (hstr : ∀ v ∈ vs, ∃ x t, v = .str x t ∧ f v = x ∧ x.length < 1000)
    (hret : ∀ (t : Tok) (h' : Heap) (tk' : Nat), Fr h₀ L h' m → News h₀ L h' news → Q (.str (pyNat (vs.map f)) t) { s with heap := h', toks := tk' }) :
    wpAny (model Challenge.rw_fv0008_01.row.prog w) (ktrTop dp un gd cn cs L a ccd cl outer) (call (.ref 86) [.ref l]) Q E s := by
  revert X
  k_fill
  intro X
  refine wpAny_call ?_
  k_dflt ktr_enter
  k_steps
  refine ⟨comp_run f (.inr ⟨_, hm, rfl, _, rfl⟩) ?hel ?fin _ 0 [] (by simp) rfl⟩
  case hel =>
    intro v hv I oI C oC D m₂ hE tkE ys hC hx F1 N1 E'
    obtain ⟨x, t, rfl, hf, hxl⟩ := hstr v hv
    k_steps
    exact elEnd hf.symm (by k_asm) (by k_asm)
  case fin =>
    intro la hla
    have hl5 : la.length < 1000 := by
      have := congrArg List.length hla
      simp at this
      omega
    have hl90 : la.length ≤ 5 := by
      have := congrArg List.length hla
      simp at this
      omega
    have hlx : ∀ p ∈ la, p.1.length < 1000 := by
      intro p hp
      have h1 : p.1 ∈ vs.map f := hla ▸ List.mem_map_of_mem hp
      obtain ⟨v, hv, e⟩ := List.mem_map.mp h1
      obtain ⟨x, t, rfl, hf, hxl⟩ := hstr v hv
      rw [← e, hf]
      exact hxl
    rw [← hla] at hret
    clear hla
    rcases la with _ | ⟨⟨a1, ta1⟩, _ | ⟨⟨a2, ta2⟩, _ | ⟨p3, r⟩⟩⟩
    · k_steps
      exact cb_retS (Q := Q) hret rfl (by k_asm) (by first | k_asm | exact dropAll (by k_asm) | exact dropAll (dropAll (by k_asm)) | exact dropAll (dropAll (dropAll (by k_asm))))
    · have hln : (([(a1, ta1)] : List (Str × Tok)).length : Int) = 1 := rfl
      have hx1 := hlx _ (.head _)
      clear hlx
      k_steps
      exact cb_retS (Q := Q) hret rfl (by k_asm) (by first | k_asm | exact dropAll (by k_asm) | exact dropAll (dropAll (by k_asm)) | exact dropAll (dropAll (dropAll (by k_asm))))
    · have hln : (([(a1, ta1), (a2, ta2)] : List (Str × Tok)).length : Int) = 2 := rfl
      have hx1 := hlx _ (.head _)
      have hx2 := hlx _ (.tail _ (.head _))
      clear hlx
      dsimp only at hx1 hx2
      k_steps
      exact cb_retS (Q := Q) hret rfl (by k_asm) (by first | k_asm | exact dropAll (by k_asm) | exact dropAll (dropAll (by k_asm)) | exact dropAll (dropAll (dropAll (by k_asm))))
    · obtain ⟨f1, f2, fr, z, e⟩ : ∃ f1 f2 fr z, (a1, ta1) :: (a2, ta2) :: p3 :: r = (f1 :: f2 :: fr) ++ [z] := ⟨(a1, ta1), (a2, ta2), (p3 :: r).dropLast, (p3 :: r).getLast (by simp), by rw [List.cons_append, List.cons_append, List.dropLast_concat_getLast]⟩
      rw [e] at hret hl5 hlx hl90 ⊢
      clear e
      have hln : (((f1 :: f2 :: fr) ++ [z]).length : Int) = (fr.length : Int) + 3 := by simp; omega
      have hz := hlx z (by simp)
      have hjf := join_facts ((f1 :: f2 :: fr).map (·.1)) (by
        intro w hw
        obtain ⟨p, hp, e⟩ := List.mem_map.mp hw
        rw [← e]
        exact hlx p (List.mem_append_left _ hp)) (by simp at hl90 ⊢; omega)
      have hjl := hjf.1
      have hjo := hjf.2
      clear hlx
      have hl5' : (f1 :: f2 :: fr).length < 1000 := by simp at hl5 ⊢; omega
      k_steps
      all_goals first
        | (exfalso; omega)
        | (refine cb_retS (Q := Q) hret ?_ (by k_asm) (by first | k_asm | exact dropAll (by k_asm) | exact dropAll (dropAll (by k_asm)) | exact dropAll (dropAll (dropAll (by k_asm))))
           rw [List.map_append]
           exact (pyNat_many _ _ (by simp)).symm)
end Mine
end
section
open PySem.Spec PySem.Calls
set_option maxHeartbeats 4000000
set_option hygiene false
set_option linter.unusedVariables false
namespace Mine
local macro_rules | `(tactic| k_steps) => `(tactic| repeat' (first | (k_unfold; (try dsimp only)) | (walk1 <;> (try dsimp only)) | (dsimp only; walk1) | (leave1; walk_say "STEP leave1"; try dsimp only) | fail "no step"))
local macro_rules | `(tactic| walk_at "call type:str") => `(tactic| (refine str_v hm9 ?_; intro vs ts hs))
local macro_rules | `(tactic| walk_at "exec Assign cons ListComp") => `(tactic| (k_dflt (refine assign_comp_tup (by k_asm) (by rfl) (by with_unfolding_all rfl) (by rfl) (by decide) (by rfl) (by decide) (by rfl) (by rfl) (by rfl) ?_)))
local macro_rules | `(tactic| walk_at "le") => `(tactic| (rw [sizeLine_eq]; simp only [PySem.Str.length_append, len_and, len_emp, len_ofemp]; omega))
local macro_rules | `(tactic| walk_at "truthy ref") => `(tactic| first | (refine truthy_strs (b := true) (by k_asm) (.head _) hl5 rfl ?_; intro tkT) | (refine truthy_strs (b := false) (by k_asm) (.head _) hl5 rfl ?_; intro tkT))
local macro_rules | `(tactic| walk_at "joinParts") => `(tactic| (refine joinParts_nil ?_ (by rw [sizeLine_eq]; simp only [PySem.Str.length_append, len_and, len_emp, len_ofemp]; omega)))
local macro_rules | `(tactic| walk_at "call builtin:len") => `(tactic| (refine len_strsV (by k_asm) (.head _) hl5 hln ?_; intro tL tkL))
local macro_rules | `(tactic| walk_at "call builtin:str.join") => `(tactic| (refine join_strs (l := f1 :: f2 :: fr) (by k_asm) (.head _) hjo ?_; intro tL tkL))
local macro_rules | `(tactic| walk_at "subscriptTail") => `(tactic| first
  | ((with_reducible show wpAny _ _ (subscriptTail _ _ (Value.ref _) (Value.int _ _)) _ _ _); first
    | (refine item_strs (by k_asm) (by first | exact .head _ | exact .tail _ (.head _)) (by decide) (by decide) rfl ?_)
    | (refine item_last (front := f1 :: f2 :: fr) (p := z) (by k_asm) (by first | exact .head _ | exact .tail _ (.head _)) ?_))
  | (refine slice_front (front := f1 :: f2 :: fr) (p := z) (by k_asm) (by k_asm) (.head _) hl5' ?_ (by with_unfolding_all rfl) (by intro _; with_unfolding_all rfl); intro D' h' F' N' l1))
theorem nat_t {w : World} {loose : List Str} {mean : ExcName → Option Value} {mg mb : Str → Option Value}
    {dp un : Nat} {gd : Option (List Code)} {cn : Str} {cs : Scope} {a : Addr} {ccd : Value} {cl : List (Str × Addr)} {outer : List Env} {A₀ : Around} {base h₀ : Heap} {L : Addr} {m : Str → Option Value} {news : List (Addr × Obj)} {s : Shared}
    {Q E : Value → Shared → Prop} {l : Addr} {vs : List Value} {nn : Nat} {f : Value → Str}
    (B : Below A₀ base outer h₀) (F : Fr h₀ L s.heap m) (X : (fv.heap_39 w.params).In h₀) (N : News h₀ L s.heap news) (T : Top fv.view_39 loose mean mg mb h₀) (hk : cs.kind = .function)
    (hdp : dp + 3 < recursionLimit) (hun : un + 24 < cLine)
    (hm : (l, { cls := .type "tuple", data := .seq vs.toArray nn }) ∈ news) (hlen : vs.length ≤ 5) (hint : ∀ v ∈ vs, ∃ x t, v = .int x t ∧ f v = Str.ofString (toString x) ∧ x.natAbs.log2 < 1920 ∧ (Str.ofString (toString x)).length < 1000)
    (hret : ∀ (t : Tok) (h' : Heap) (tk' : Nat), Fr h₀ L h' m → News h₀ L h' news → Q (.str (pyNat (vs.map f)) t) { s with heap := h', toks := tk' }) :
    wpAny (model Challenge.rw_fv0008_01.row.prog w) (ktrTop dp un gd cn cs L a ccd cl outer) (call (.ref 86) [.ref l]) Q E s := by
  revert X
  k_fill
  intro X
  refine wpAny_call ?_
  k_dflt ktr_enter
  k_steps
  show SrcTup _ _ _ _ _ _ _ _ _ _ _ _ _ _
  refine srcTup (by rfl) (by k_asm) (by k_asm) hm (by rw [sizeLine_eq]; simp; omega) ?_
  intro gC
  refine comp_run f ⟨_, hm, rfl, _, rfl⟩ ?hel ?fin _ 0 [] (by simp) rfl
  case hel =>
    intro v hv I oI C oC D m₂ hE tkE ys hC hx F1 N1 E'
    obtain ⟨x, t, rfl, hf, hm9, hxl⟩ := hint v hv
    k_steps
    exact elEnd (hs.out.trans hf.symm) (by k_asm) (by k_asm)
  case fin =>
    intro la hla
    have hl5 : la.length < 1000 := by
      have := congrArg List.length hla
      simp at this
      omega
    have hl90 : la.length ≤ 5 := by
      have := congrArg List.length hla
      simp at this
      omega
    have hlx : ∀ p ∈ la, p.1.length < 1000 := by
      intro p hp
      have h1 : p.1 ∈ vs.map f := hla ▸ List.mem_map_of_mem hp
      obtain ⟨v, hv, e⟩ := List.mem_map.mp h1
      obtain ⟨x, t, rfl, hf, hm9, hxl⟩ := hint v hv
      rw [← e, hf]
      exact hxl
    rw [← hla] at hret
    clear hla
    rcases la with _ | ⟨⟨a1, ta1⟩, _ | ⟨⟨a2, ta2⟩, _ | ⟨p3, r⟩⟩⟩
    · k_steps
      exact cb_retS (Q := Q) hret rfl (by k_asm) (by first | k_asm | exact dropAll (by k_asm) | exact dropAll (dropAll (by k_asm)) | exact dropAll (dropAll (dropAll (by k_asm))))
    · have hln : (([(a1, ta1)] : List (Str × Tok)).length : Int) = 1 := rfl
      have hx1 := hlx _ (.head _)
      clear hlx
      k_steps
      exact cb_retS (Q := Q) hret rfl (by k_asm) (by first | k_asm | exact dropAll (by k_asm) | exact dropAll (dropAll (by k_asm)) | exact dropAll (dropAll (dropAll (by k_asm))))
    · have hln : (([(a1, ta1), (a2, ta2)] : List (Str × Tok)).length : Int) = 2 := rfl
      have hx1 := hlx _ (.head _)
      have hx2 := hlx _ (.tail _ (.head _))
      clear hlx
      dsimp only at hx1 hx2
      k_steps
      exact cb_retS (Q := Q) hret rfl (by k_asm) (by first | k_asm | exact dropAll (by k_asm) | exact dropAll (dropAll (by k_asm)) | exact dropAll (dropAll (dropAll (by k_asm))))
    · obtain ⟨f1, f2, fr, z, e⟩ : ∃ f1 f2 fr z, (a1, ta1) :: (a2, ta2) :: p3 :: r = (f1 :: f2 :: fr) ++ [z] := ⟨(a1, ta1), (a2, ta2), (p3 :: r).dropLast, (p3 :: r).getLast (by simp), by rw [List.cons_append, List.cons_append, List.dropLast_concat_getLast]⟩
      rw [e] at hret hl5 hlx hl90 ⊢
      clear e
      have hln : (((f1 :: f2 :: fr) ++ [z]).length : Int) = (fr.length : Int) + 3 := by simp; omega
      have hz := hlx z (by simp)
      have hjf := join_facts ((f1 :: f2 :: fr).map (·.1)) (by
        intro w hw
        obtain ⟨p, hp, e⟩ := List.mem_map.mp hw
        rw [← e]
        exact hlx p (List.mem_append_left _ hp)) (by simp at hl90 ⊢; omega)
      have hjl := hjf.1
      have hjo := hjf.2
      clear hlx
      have hl5' : (f1 :: f2 :: fr).length < 1000 := by simp at hl5 ⊢; omega
      k_steps
      all_goals first
        | (exfalso; omega)
        | (refine cb_retS (Q := Q) hret ?_ (by k_asm) (by first | k_asm | exact dropAll (by k_asm) | exact dropAll (dropAll (by k_asm)) | exact dropAll (dropAll (dropAll (by k_asm))))
           rw [List.map_append]
           exact (pyNat_many _ _ (by simp)).symm)
end Mine
end
section
open PySem.Spec PySem.Calls
set_option maxHeartbeats 4000000
set_option hygiene false
set_option linter.unusedVariables false
namespace Mine
local macro_rules | `(tactic| k_steps) => `(tactic| repeat' (first | (k_unfold; (try dsimp only)) | (walk1 <;> (try dsimp only)) | (dsimp only; walk1) | (leave1; walk_say "STEP leave1"; try dsimp only) | fail "no step"))
theorem args_getattr_3 (a b c : Value) : argsOk "getattr" ⟨[a, b, c], []⟩ := by unfold argsOk; kernel_rfl
theorem miss_locale : typeLookup (.type "NoneType") (Str.ofString "locale") = pure none := am_miss_of_fast (by decide +kernel)
theorem getAttrBy_none {prog : Program} {w : World} {A : Around} {E : Value → Shared → Prop} {s : Shared} {name : Str} {u : Tok} {Q : Value → Shared → Prop} (hmiss : typeLookup (.type "NoneType") name = pure none) (hA : A.handled = none)
    (h : ∀ h' tk e, Heap.NewExcOf s.heap h' e "AttributeError" → E (.ref e) { s with heap := h', toks := tk }) (hsz : name.length + 100 ≤ sizeLine) :
    wpAny (model prog w) A (getAttrBy (.none) (.str name u) false) Q E s := by
  unfold getAttrBy
  refine wpAny_holding (wpAny_bind (wpAny_of_eq (a := .type "NoneType") rfl (wpAny_bind (wpAny_of_eq F.slot_NoneType_getattribute.lookup ?_))))
  show wpAny _ _ (getAttrByItsOwn _ _ _ _ _ _) _ _ _
  unfold getAttrByItsOwn
  refine wpAny_bind (wpAny_of_eq (a := none) rfl (wpAny_bind (wpAny_attempt (wpAny_holding ?_))))
  show wpAny _ _ (boundAndCalled _ _ _) _ _ _
  unfold boundAndCalled
  refine wpAny_bind (wpAny_of_eq (F.slot_NoneType_getattribute.bind .none) ?_)
  refine call_meets F.slot_NoneType_getattribute rfl F.entry_object_getattribute (F.args_object_getattribute_2 _ _) (meets_getattribute_miss_none name u hmiss hsz) ⟨hA, fun h' tk e hx => ?_⟩
  obtain ⟨ob, vs, he, hc, _⟩ := hx.of.there
  show wpAny _ _ (getattributeRaised _ _ _ _ _ _ _) _ _ _
  unfold getattributeRaised
  refine wpAny_bind (wpAny_isInstance (T := "AttributeError") (b := true) ⟨ob, he, hc⟩ sub_AttributeError ?_)
  rw [if_pos rfl]
  refine wpAny_bind (wpAny_of_eq (a := none) am_none_getattr_none ?_)
  unfold hookOrError attributeErrorLeaves
  simp only [Bool.not_false, if_true]
  exact wpAny_bind (wpAny_throw (h h' tk e hx.of))
theorem getattr_locale {prog : Program} {w : World} {A : Around} {E : Value → Shared → Prop} {s : Shared} {u : Tok} {d : Value} {Q : Value → Shared → Prop} (hA : A.handled = none)
    (h : ∀ h' tk, (∀ b o, s.heap.get? b = some o → h'.get? b = some o) → s.toks ≤ tk → Q d { s with heap := h', toks := tk }) :
    wpAny (model prog w) A (call (.builtin "getattr") [.none, .str (Str.ofString "locale") u, d]) Q E s := by
  refine wpAny_with_toks (Nat.le_refl _) ?_
  refine Calls.call_function_entry KB.kind_getattr KB.plain_getattr KB.entry_getattr (args_getattr_3 _ _ _) ?_
  unfold Builtin.«getattr»
  refine wpAny_bind (wpAny_of_eq (a := [.none, .str (Str.ofString "locale") u, d]) (by first | rfl | kernel_rfl) ?_)
  dsimp only
  refine wpAny_bind (wpAny_of_eq (a := ()) (by first | rfl | kernel_rfl) ?_)
  refine wpAny_bind (wpAny_of_eq (a := none) (by first | rfl | kernel_rfl) ?_)
  dsimp only
  refine wpAny_bind (wpAny_of_eq (a := 0) (by first | rfl | kernel_rfl) ?_)
  rw [if_neg (by decide)]
  unfold getAttrBy?
  refine wpAny_bind (wpAny_bind (wpAny_attempt (getAttrBy_none miss_locale hA (fun h' tk e hx => ?_) (by decide +kernel))))
  obtain ⟨ob, vs, he, hc, hd, _⟩ := hx.there
  refine wpAny_bind (wpAny_isInstance (T := "AttributeError") (b := true) ⟨ob, he, hc⟩ sub_AttributeError ?_)
  refine wpAny_pure ?_
  dsimp only
  rw [if_neg (by decide)]
  refine wpAny_pure ⟨_, rfl, ?_⟩
  exact fun ht => h h' tk hx.keeps ht
end Mine
end
section
open PySem.Spec PySem.Calls
set_option maxHeartbeats 4000000
set_option hygiene false
set_option linter.unusedVariables false
namespace Mine
local macro_rules | `(tactic| k_steps) => `(tactic| repeat' (first | (k_unfold; (try dsimp only)) | (walk1 <;> (try dsimp only)) | (dsimp only; walk1) | (leave1; walk_say "STEP leave1"; try dsimp only) | fail "no step"))
/-- keys that are texts or nothing -/
def isOpt : Option Str → Value → Bool
  | none, .none => true
  | some x, v => Value.isStrOf x v
  | none, _ => false
theorem isOpt_none {v : Value} (h : isOpt none v = true) : v = .none := by cases v <;> simp_all [isOpt]
theorem pyHash_none {prog : Program} {w : World} {A : Around} {E : Value → Shared → Prop} {s : Shared} {Q : Int → Shared → Prop} (h : Q 0xFCA86420 { s with toks := s.toks + 1 }) : wpAny (model prog w) A (pyHash .none) Q E s := by
  have hT : s.TypeIs .none "NoneType" := rfl
  unfold pyHash
  have hv : [Value.none].any Value.onHeap = false := rfl
  refine wpAny_bind ?_
  rw [cRoomFor, if_neg (by rw [hv]; exact Bool.false_ne_true)]
  refine wpAny_pure ?_
  refine wpAny_bind (wpAny_specialOf hT F.slot_NoneType_hash.lookup ?_)
  show wpAny _ _ (if (some (Value.builtin "NoneType.__hash__") == some Value.none) = true then _ else _) Q E s
  rw [if_neg (by rw [beq_builtin_none]; exact Bool.false_ne_true)]
  refine wpAny_bind (wpAny_specialOf hT F.slot_NoneType_hash.lookup ?_)
  show wpAny _ _ (callSpecialIfBoundUnlessNone? .none "__hash__" _ >>= _) Q E s
  refine wpAny_bind (wpAny_callSpecialIfBoundUnlessNone?_slot hT F.slot_NoneType_hash
    (wpAny_call_entry F.slot_NoneType_hash hT F.entry_NoneType_hash
      (show wpAny _ _ (do ret (← mkInt 0xFCA86420)) _ _ s from wpAny_ret_mkInt ?_) (F.args_NoneType_hash_1 _)))
  show wpAny _ _ (if (decide (-(2 : Int) ^ 63 ≤ 0xFCA86420) && decide ((0xFCA86420 : Int) < 2 ^ 63)) = true then _ else _) Q E _
  rw [if_pos (by decide)]
  exact wpAny_pure h
theorem eqBool_str_none {prog : Program} {w : World} {A : Around} {E : Value → Shared → Prop} {s : Shared} {x : Str} {t : Tok} {Q : Bool → Shared → Prop} (h : Q false s) : wpAny (model prog w) A (eqBool (.str x t) .none) Q E s := by
  unfold eqBool
  refine wpAny_holding ?_
  rw [if_neg (by simp)]
  show wpAny _ _ (richCompare .Eq (.str x t) .none >>= fun r => truthOfDropped r) Q E s
  exact wpAny_bind (EqNone.eq_str_none (wpAny_truthy_bool h))
theorem eqBool_none_str {prog : Program} {w : World} {A : Around} {E : Value → Shared → Prop} {s : Shared} {x : Str} {t : Tok} {Q : Bool → Shared → Prop} (h : Q false s) : wpAny (model prog w) A (eqBool .none (.str x t)) Q E s := by
  unfold eqBool
  refine wpAny_holding ?_
  rw [if_neg (by simp)]
  show wpAny _ _ (richCompare .Eq .none (.str x t) >>= fun r => truthOfDropped r) Q E s
  exact wpAny_bind (EqNone.eq_none_str (wpAny_truthy_bool h))
theorem eqBool_none_none {prog : Program} {w : World} {A : Around} {E : Value → Shared → Prop} {s : Shared} {Q : Bool → Shared → Prop} (h : Q true s) : wpAny (model prog w) A (eqBool .none .none) Q E s := by
  unfold eqBool
  refine wpAny_holding ?_
  rw [if_pos (by simp)]
  exact wpAny_bind (wpAny_rule (wpAny_pure h))
def optKind (prog : Program) (w : World) : KeyKind prog w (Option Str) where
  is := isOpt
  hash := fun k => match k with | none => 0xFCA86420 | some x => hashStr w x
  inj := fun v a b ha hb => by
    cases a with
    | none =>
      have := isOpt_none ha
      subst this
      cases b with
      | none => rfl
      | some y => simp [isOpt, Value.isStrOf] at hb
    | some x =>
      obtain ⟨t, rfl⟩ := Value.isStrOf_shape ha
      cases b with
      | none => simp [isOpt] at hb
      | some y => exact congrArg some (Value.isStrOf_inj (.str x t) x y ha hb)
  byValue := fun k v h => by
    cases k with
    | none => rw [isOpt_none h]; rfl
    | some x => obtain ⟨t, rfl⟩ := Value.isStrOf_shape h; rfl
  pyHash := fun {A E s k v Q} hv h => by
    cases k with
    | none => rw [isOpt_none hv]; exact pyHash_none h
    | some x => obtain ⟨t, rfl⟩ := Value.isStrOf_shape hv; exact wpAny_pyHash_str h
  eqBool := fun {A E s a b u v Q} hu hv h => by
    cases a with
    | none =>
      rw [isOpt_none hu]
      cases b with
      | none => rw [isOpt_none hv]; exact eqBool_none_none (by simpa using h)
      | some y => obtain ⟨t, rfl⟩ := Value.isStrOf_shape hv; exact eqBool_none_str (by simpa using h)
    | some x =>
      obtain ⟨t, rfl⟩ := Value.isStrOf_shape hu
      cases b with
      | none => rw [isOpt_none hv]; exact eqBool_str_none (by simpa using h)
      | some y => obtain ⟨t, rfl⟩ := Value.isStrOf_shape hv; exact wpAny_eqBool_str (by simpa using h)
  «strs» := fun k x t v h => by
    cases k with
    | none => simp [isOpt] at h
    | some y => exact (strKind prog w).«strs» y x t v h
theorem get_none {prog : Program} {w : World} {A : Around} {E : Value → Shared → Prop} {s : Shared} {d : Addr} {D : List (PyData × PyData)} {dflt : Value} {Q : Value → Shared → Prop} (T : StrTab prog w s.heap d D) (h : Q dflt { s with toks := s.toks + 1 }) :
    wpAny (model prog w) A (call (.builtin "dict.get") [.ref d, .none, dflt]) Q E s := by
  obtain ⟨hd, kvs, ⟨o, es, ep, ho, hc, hdat, hk, _, _⟩, _⟩ := T
  have hm : s.heap.MapOf (optKind prog w) d (fun k => findBy (optKind prog w).is es k) := ⟨o, es, ep, ho, hc, hdat, fun e he => by
    obtain ⟨x, h1, h2⟩ := hk e he
    exact ⟨some x, h1, h2⟩, fun _ => rfl⟩
  have hn : findBy (optKind prog w).is es none = none := by
    unfold findBy
    have : (es.find? fun e => (optKind prog w).is none e.key) = none := by
      refine Array.find?_eq_none.mpr fun e he => ?_
      obtain ⟨x, h1, _⟩ := hk e he
      obtain ⟨t, ht⟩ := Value.isStrOf_shape (x := x) h1
      rw [ht]
      simp [optKind, isOpt]
    rw [this]
    rfl
  refine call_meetsIn F.slot_dict_get hm.typeIs F.entry_dict_get (F.args_dict_get_3 _ _ _) (meets_dict_get_default (optKind prog w) d (k := none) rfl hd dflt) ⟨_, hm, ?_⟩
  rw [hn]
  exact h
end Mine
end
section
open PySem.Spec PySem.Calls
set_option maxHeartbeats 4000000
set_option hygiene false
set_option linter.unusedVariables false
namespace Mine
local macro_rules | `(tactic| k_steps) => `(tactic| repeat' (first | (k_unfold; (try dsimp only)) | (walk1 <;> (try dsimp only)) | (dsimp only; walk1) | (leave1; walk_say "STEP leave1"; try dsimp only) | fail "no step"))
theorem gen_toks {M : Model} {A : Around} {α : Type} {t : Sem α} {Q : α → Shared → Prop} {E : Value → Shared → Prop} {h : Heap} {g d o} {X Y : Nat} (k : ∀ tk, X + Y = tk → wpAny M A t Q E ⟨h, g, d, tk, o⟩) : wpAny M A t Q E ⟨h, g, d, X + Y, o⟩ := k _ rfl
local macro_rules | `(tactic| walk_at "execs cons") => `(tactic| (with_reducible refine gen_toks ?_; intro tkG hG))
local macro_rules | `(tactic| walk_at "execs nil") => `(tactic| (with_reducible refine gen_toks ?_; intro tkG hG))
local macro_rules | `(tactic| walk_at "call builtin:getattr") => `(tactic| (refine getattr_locale rfl ?_; intro hA tkA kA lA; (dsimp only at lA); (have FA := Fr.keeps (by with_reducible assumption) kA); (have NA := News.grown (by with_reducible assumption) kA)))
local macro_rules | `(tactic| walk_at "call builtin:dict.get") => `(tactic| (refine get_none (TabAt.keep (by assumption) (Fr.keep (by k_asm))) ?_))
theorem retTok {h₀ h' : Heap} {L : Addr} {m : Str → Option Value} {news : List (Addr × Obj)} {s : Shared} {Q : Value → Shared → Prop} {x : Str} {t : Nat} {tk' : Nat}
    (hret : ∀ (t : Nat) (h' : Heap) (tk' : Nat), 0 < t → t < tk' → s.toks ≤ tk' → Fr h₀ L h' m → News h₀ L h' news → Q (.str x t) { s with heap := h', toks := tk' }) (h1 : 0 < t ∧ t < tk' ∧ s.toks ≤ tk') (F : Fr h₀ L h' m) (N : News h₀ L h' news) : Q (.str x t) { s with heap := h', toks := tk' } :=
  hret t h' tk' h1.1 h1.2.1 h1.2.2 F N
theorem thsep_c {w : World} {loose : List Str} {mean : ExcName → Option Value} {mg mb : Str → Option Value}
    {dp un : Nat} {gd : Option (List Code)} {cn : Str} {cs : Scope} {a : Addr} {ccd : Value} {cl : List (Str × Addr)} {outer : List Env} {A₀ : Around} {base h₀ : Heap} {L : Addr} {m : Str → Option Value} {news : List (Addr × Obj)} {s : Shared}
    {Q E : Value → Shared → Prop} 
    (B : Below A₀ base outer h₀) (F : Fr h₀ L s.heap m) (X : (fv.heap_39 w.params).In h₀) (N : News h₀ L s.heap news) (T : Top fv.view_39 loose mean mg mb h₀) (hk : cs.kind = .function)
    (hdp : dp + 3 < recursionLimit) (hun : un + 24 < cLine)
    
    (hret : ∀ (t : Nat) (h' : Heap) (tk' : Nat), 0 < t → t < tk' → s.toks ≤ tk' → Fr h₀ L h' m → News h₀ L h' news → Q (.str (Str.ofString ",") t) { s with heap := h', toks := tk' }) :
    wpAny (model Challenge.rw_fv0008_01.row.prog w) (ktrTop dp un gd cn cs L a ccd cl outer) (call (.ref 51) []) Q E s := by
  revert X
  k_fill
  intro X
  refine wpAny_call ?_
  k_dflt ktr_enter
  k_steps
  exact retTok (s := s) hret (by omega) (by k_asm) (by k_asm)
theorem decsep_c {w : World} {loose : List Str} {mean : ExcName → Option Value} {mg mb : Str → Option Value}
    {dp un : Nat} {gd : Option (List Code)} {cn : Str} {cs : Scope} {a : Addr} {ccd : Value} {cl : List (Str × Addr)} {outer : List Env} {A₀ : Around} {base h₀ : Heap} {L : Addr} {m : Str → Option Value} {news : List (Addr × Obj)} {s : Shared}
    {Q E : Value → Shared → Prop} 
    (B : Below A₀ base outer h₀) (F : Fr h₀ L s.heap m) (X : (fv.heap_39 w.params).In h₀) (N : News h₀ L s.heap news) (T : Top fv.view_39 loose mean mg mb h₀) (hk : cs.kind = .function)
    (hdp : dp + 3 < recursionLimit) (hun : un + 24 < cLine)
    
    (hret : ∀ (t : Nat) (h' : Heap) (tk' : Nat), 0 < t → t < tk' → s.toks ≤ tk' → Fr h₀ L h' m → News h₀ L h' news → Q (.str (Str.ofString ".") t) { s with heap := h', toks := tk' }) :
    wpAny (model Challenge.rw_fv0008_01.row.prog w) (ktrTop dp un gd cn cs L a ccd cl outer) (call (.ref 58) []) Q E s := by
  revert X
  k_fill
  intro X
  refine wpAny_call ?_
  k_dflt ktr_enter
  k_steps
  exact retTok (s := s) hret (by omega) (by k_asm) (by k_asm)
end Mine
end
section
open PySem.Spec PySem.Calls
set_option maxHeartbeats 4000000
set_option hygiene false
set_option linter.unusedVariables false
namespace Mine
local macro_rules | `(tactic| k_steps) => `(tactic| repeat' (first | (k_unfold; (try dsimp only)) | (walk1 <;> (try dsimp only)) | (dsimp only; walk1) | (leave1; walk_say "STEP leave1"; try dsimp only) | fail "no step"))
open Builtin Builtin.Float
/-- a sign c ahead of each three from behind -/
def comG {α : Type} (c : α) : List α → List α
  | [] => []
  | a :: r => if r ≠ [] ∧ r.length % 3 = 0 then a :: c :: comG c r else a :: comG c r
/-- a comma ahead of each three signs from behind -/
def comL (l : List Nat) : List Nat := comG 44 l
/-- the decimal signs of a number -/
def dgN (n : Nat) : List Nat := (Nat.toDigits 10 n).map Char.toNat
def S (l : List Nat) : Str := ⟨l.toArray⟩
theorem S_len (l : List Nat) : (S l).length = l.length := by simp [S, PySem.Str.length]

theorem comG_short {α : Type} (k : α) : ∀ l : List α, l.length ≤ 3 → comG k l = l
  | [], _ => rfl
  | [a], _ => by simp [comG]
  | [a, b], _ => by simp [comG]
  | [a, b, c], _ => by simp [comG]
theorem comG_cat {α : Type} (k : α) : ∀ (l : List α) (x y z : α), l ≠ [] → comG k (l ++ [x, y, z]) = comG k l ++ k :: [x, y, z]
  | [], _, _, _, h => absurd rfl h
  | [a], x, y, z, _ => by simp [comG]
  | a :: b :: r, x, y, z, _ => by
    have ih := comG_cat k (b :: r) x y z (by simp)
    have e : ((a :: b :: r) ++ [x, y, z] : List α) = a :: ((b :: r) ++ [x, y, z]) := rfl
    rw [e, comG, comG, ih]
    by_cases h : (b :: r).length % 3 = 0
    · rw [if_pos ⟨by simp, by simp at h ⊢; omega⟩, if_pos ⟨by simp, h⟩]
      simp
    · rw [if_neg (fun q => h (by have := q.2; simp at this ⊢; omega)), if_neg (fun q => h q.2)]
      simp
theorem comG_map {α β : Type} (f : α → β) (k : α) : ∀ l : List α, (comG k l).map f = comG (f k) (l.map f)
  | [] => rfl
  | a :: r => by
    have ih := comG_map f k r
    rw [List.map_cons, comG, comG, ← ih]
    by_cases h : r ≠ [] ∧ r.length % 3 = 0
    · rw [if_pos h, if_pos ⟨by simpa using h.1, by simpa using h.2⟩]
      rfl
    · rw [if_neg h, if_neg (fun q => h ⟨by simpa using q.1, by simpa using q.2⟩)]
      rfl
theorem groups_spec {α : Type} (z k : α) (G : Nat → List α → Int → List α → List α) (h1 : ∀ t d r o, G (t + 1) d r o =
      let n := min 3 (max (max (d.length : Int) r) 1).toNat
      let out := List.replicate (n - d.length) z ++ (d.take n).reverse ++ o
      if (d.drop n).isEmpty && r - n ≤ 0 then out else G t (d.drop n) (r - n - 1) (k :: out)) :
    ∀ (t : Nat) (d : List α) (r : Int) (o : List α), d ≠ [] → d.length ≤ t → r ≤ 0 → G t d r o = comG k d.reverse ++ o := by
  intro t
  induction t with
  | zero => intro d r o hd hl _; exact absurd (List.eq_nil_of_length_eq_zero (by omega)) hd
  | succ t ih =>
    intro d r o hd hl hr
    have hp : 1 ≤ d.length := by cases d with | nil => exact absurd rfl hd | cons => simp
    rw [h1]
    have e1 : max (max (d.length : Int) r) 1 = d.length := by omega
    simp only [e1, Int.toNat_natCast]
    by_cases h3 : d.length ≤ 3
    · have e2 : min 3 d.length = d.length := by omega
      simp only [e2, List.drop_length, List.take_length, Nat.sub_self]
      rw [if_pos (by simp; omega), comG_short k _ (by simpa using h3)]
      simp
    · have e2 : min 3 d.length = 3 := by omega
      simp only [e2]
      have hdr : d.drop 3 ≠ [] := by
        intro e
        have := congrArg List.length e
        simp at this
        omega
      rw [if_neg (by simp [hdr]), ih (d.drop 3) _ _ hdr (by simp; omega) (by omega)]
      obtain ⟨x, y, z', q, rfl⟩ : ∃ x y z' q, d = x :: y :: z' :: q := by
        rcases d with _ | ⟨x, _ | ⟨y, _ | ⟨z', q⟩⟩⟩
        · simp at h3
        · simp at h3
        · simp at h3
        · exact ⟨x, y, z', q, rfl⟩
      have hq : q.reverse ≠ [] := by simpa using hdr
      have := comG_cat k q.reverse z' y x hq
      simp only [List.reverse_cons, List.append_assoc, List.cons_append, List.nil_append, List.drop_succ_cons, List.drop_zero, List.take_succ_cons, List.take_zero, List.length_cons] at this ⊢
      rw [this]
      simp

theorem field_spec (G : Nat → List Nat → Int → List Nat → List Nat) (neg : Bool) (digits : List Nat) (hd : digits ≠ []) (T : Str)
    (hT : T = ⟨(List.replicate ((-1 : Int) - (((if neg = true then [45] else ([] : List Nat)).length : Int) + ((0 : Nat) : Int) + ((0 : Nat) : Int)) - ((if digits.isEmpty = true then [] else G (digits.length + Int.toNat 0 + 1) digits.reverse 0 []).length : Int)).toNat 32
      ++ (if neg = true then [45] else ([] : List Nat)) ++ (if digits.isEmpty = true then [] else G (digits.length + Int.toNat 0 + 1) digits.reverse 0 [])).toArray⟩) (h1 : ∀ t d r o, G (t + 1) d r o =
      let n := min 3 (max (max (d.length : Int) r) 1).toNat
      let out := List.replicate (n - d.length) 48 ++ (d.take n).reverse ++ o
      if (d.drop n).isEmpty && r - n ≤ 0 then out else G t (d.drop n) (r - n - 1) (44 :: out)) :
    T = S ((if neg = true then [45] else []) ++ comL digits) := by
  subst hT
  have e : G (digits.length + Int.toNat 0 + 1) digits.reverse 0 [] = comL digits := by
    have := groups_spec 48 44 G h1 (digits.length + Int.toNat 0 + 1) digits.reverse 0 [] (by simpa using hd) (by simp) (by decide)
    rw [List.reverse_reverse, List.append_nil] at this
    exact this
  have h0 : digits.isEmpty = false := by cases digits <;> simp_all
  simp only [h0, Bool.false_eq_true, if_false, e]
  have hz : ∀ p q : Nat, ((-1 : Int) - ((p : Int) + ((0 : Nat) : Int) + ((0 : Nat) : Int)) - (q : Int)).toNat = 0 := by intro p q; omega
  simp only [hz, List.replicate_zero, List.nil_append]
  rfl
theorem dgN_ne (n : Nat) : dgN n ≠ [] := by
  unfold dgN
  intro e
  have h := tDigits_len_ge 10 n
  rw [List.map_eq_nil_iff.mp e] at h
  exact absurd h (by decide)
theorem comG_len {α : Type} (k : α) : ∀ l : List α, (comG k l).length ≤ 2 * l.length
  | [] => by simp [comG]
  | c :: r => by
    have ih := comG_len k r
    unfold comG
    split <;> simp <;> omega
theorem comL_len (l : List Nat) : (comL l).length ≤ 2 * l.length := comG_len 44 l
theorem dgN_len {n : Nat} (hd : n.log2 < 1920) : (dgN n).length ≤ 600 := by
  unfold dgN
  rw [List.length_map]
  refine digits10_le (by decide) ?_
  have h1 := lt_of_log2 hd
  refine Nat.lt_of_lt_of_le h1 ?_
  decide +kernel
theorem ret_text2 {M : Model} {A : Around} {E : Value → Shared → Prop} {s : Shared} {X T : Str} {Q : PySem.Fin → Shared → Prop} (e : X = T) (hL : T.length ≤ sizeLine) (h : ∀ t k, Q (.done (.ret (.str T t))) { s with toks := k }) : wpAny M A (PySem.retStr X) Q E s :=
  KXf.ret_text e (e ▸ hL) h
theorem fmtI_len {a : Int} (hd : a.natAbs.log2 < 1920) : (S ((if a < 0 then [45] else []) ++ comL (dgN a.natAbs))).length ≤ 1300 := by
  rw [S_len, List.length_append]
  have h1 := comL_len (dgN a.natAbs)
  have h2 := dgN_len hd
  have h3 : (if a < 0 then [45] else ([] : List Nat)).length ≤ 1 := by split <;> simp
  omega
end Mine
end
section
open PySem.Spec PySem.Calls
set_option maxHeartbeats 4000000
set_option hygiene false
set_option linter.unusedVariables false
namespace Mine
local macro_rules | `(tactic| k_steps) => `(tactic| repeat' (first | (k_unfold; (try dsimp only)) | (walk1 <;> (try dsimp only)) | (dsimp only; walk1) | (leave1; walk_say "STEP leave1"; try dsimp only) | fail "no step"))
open Builtin Builtin.Str Builtin.Int Builtin.Float
theorem parse_comma : parseFormatSpec (Str.ofString ",").cps.toList "int" 62 = .ok { align := 62, grouping := some ',' } := by kernel_rfl
theorem fmt_int_meets (a : Int) (t : Tok) (hd : a.natAbs.log2 < 1920) (u : Tok) :
    Meets («int.__format__» ⟨[.int a t, .str (Str.ofString ",") u], []⟩) (fun _ R s => ∀ t' k, R (.ok (.ret (.str (S ((if a < 0 then [45] else []) ++ comL (dgN a.natAbs))) t'))) { s with toks := k }) := by
  apply KPc.meets_of
  intro w prog A R s hh hs
  unfold Builtin.«int.__format__»
  refine wpAny_bind (wpAny_of_eq (a := (_, _)) rfl ?_)
  refine wpAny_bind (wpAny_of_eq (a := _) rfl ?_)
  kxf_if
  refine wpAny_bind (wpAny_typeNameOf (T := "str") (typeIs_str _ _ _) (by decide) fun _ => ?_)
  refine wpAny_bind (wpAny_of_eq (a := some _) rfl ?_)
  kxf_if
  kxf_if
  refine wpAny_bind (wpAny_typeNameOfCut_int ?_)
  rw [parse_comma]
  dsimp only
  (repeat kxf_if)
  refine wpAny_bind (wpAny_of_eq (PySem.overDigitLimit_small hd) ?_)
  kxf_if
  refine ret_text2 (T := S ((if a < 0 then [45] else []) ++ comL (dgN a.natAbs))) ?e ?l hs
  case e =>
    conv => lhs; whnf
    dsimp only
    have hc : ((Str.ofString ",").cps.back? == some 0) = false := by decide +kernel
    simp only [hc, Option.getD_none, Bool.false_eq_true, if_false, show ((100 : Nat) == 88) = false by decide, show ((10 : Nat) == 10) = true by decide, if_true, show ((62 : Nat) == 61) = false by decide, Bool.and_false, show ((62 : Nat) == 60) = false by decide, show ((62 : Nat) == 94) = false by decide, List.length_nil, List.replicate_zero, List.append_nil]
    refine (field_spec _ (decide (a < 0)) (dgN a.natAbs) (dgN_ne _) _ rfl ?_).trans ?_
    · exact fun _ _ _ _ => rfl
    · by_cases ha : a < 0 <;> simp [ha]
  case l => exact Nat.le_trans (fmtI_len hd) (by rw [sizeLine_eq]; decide)
theorem fmt_int {prog : Program} {w : World} {A : Around} {E : Value → Shared → Prop} {s : Shared} {a : Int} {t : Tok} {Q : Value → Shared → Prop} (hd : a.natAbs.log2 < 1920)
    (h : ∀ t' k, Q (.str (S ((if a < 0 then [45] else []) ++ comL (dgN a.natAbs))) t') { s with toks := k }) : wpAny (model prog w) A (formatField (.int a t) (Str.ofString ",")) Q E s :=
  KXf.field_int rfl (by decide +kernel) (by decide +kernel) (fun u => fmt_int_meets a t hd u) h
end Mine
end
section
open PySem.Spec PySem.Calls
set_option maxHeartbeats 4000000
set_option hygiene false
set_option linter.unusedVariables false
namespace Mine
local macro_rules | `(tactic| k_steps) => `(tactic| repeat' (first | (k_unfold; (try dsimp only)) | (walk1 <;> (try dsimp only)) | (dsimp only; walk1) | (leave1; walk_say "STEP leave1"; try dsimp only) | fail "no step"))
open Builtin Builtin.Float
def fspec (k : Nat) : FormatSpec := { align := 62, grouping := some ',', precision := some k, type := some 102 }
/-- a double told with k digits behind the dot and commas -/
def fltText (x : UInt64) (k : Nat) : Str := numberField (fspec k) (Float64.text x 'f' k false false false).1 (Float64.text x 'f' k false false false).2
def wordC (c k : Nat) : List Char := List.replicate (k + 1 - (Nat.toDigits 10 c).length) '0' ++ Nat.toDigits 10 c
def frontC (c k : Nat) : List Char := (wordC c k).take ((wordC c k).length - k)
def restC (c k : Nat) : List Char := (wordC c k).drop ((wordC c k).length - k)
def wordL (c k : Nat) : List Nat := List.replicate (k + 1 - (dgN c).length) 48 ++ dgN c
def frontL (c k : Nat) : List Nat := (wordL c k).take ((wordL c k).length - k)
def restL (c k : Nat) : List Nat := (wordL c k).drop ((wordL c k).length - k)
def fltSay (neg : Bool) (c k : Nat) : List Nat := (if neg then [45] else []) ++ comL (frontL c k) ++ (if k = 0 then [] else 46 :: restL c k)

theorem word_map (c k : Nat) : (wordC c k).map Char.toNat = wordL c k := by
  unfold wordC wordL dgN
  rw [List.map_append, List.map_replicate, List.length_map]
  rfl
theorem front_map (c k : Nat) : (frontC c k).map Char.toNat = frontL c k := by
  unfold frontC frontL
  rw [List.map_take, word_map, ← word_map, List.length_map]
theorem rest_map (c k : Nat) : (restC c k).map Char.toNat = restL c k := by
  unfold restC restL
  rw [List.map_drop, word_map, ← word_map, List.length_map]

theorem strip_zeros : ∀ l : List Char, ∃ z, l = (l.reverse.dropWhile (· == '0')).reverse ++ List.replicate z '0' := by
  intro l
  have h := List.takeWhile_append_dropWhile (p := (· == '0')) (l := l.reverse)
  have h0 : ∀ q : List Char, q.takeWhile (· == '0') = List.replicate (q.takeWhile (· == '0')).length '0' := by
    intro q
    induction q with
    | nil => rfl
    | cons a r ih =>
      rw [List.takeWhile_cons]
      by_cases ha : (a == '0') = true
      · rw [if_pos ha, List.length_cons, List.replicate_succ, ← ih, eq_of_beq ha]
      · rw [if_neg ha]; rfl
  refine ⟨(l.reverse.takeWhile (· == '0')).length, ?_⟩
  have h1 := congrArg List.reverse h
  rw [List.reverse_append, List.reverse_reverse, h0, List.reverse_replicate] at h1
  rw [← h0, h0] at h1
  exact h1.symm

theorem pad_take (ds : List Char) (z n : Nat) (h : n ≤ ds.length + z) : Float64.padRight (ds.take n) n = (ds ++ List.replicate z '0').take n := by
  unfold Float64.padRight Float64.zeros
  rw [List.take_append, List.take_replicate, List.length_take]
  congr 2
  omega
theorem pad_drop (ds : List Char) (z n k : Nat) (h : n + k = ds.length + z) : Float64.padRight (ds.drop n) k = (ds ++ List.replicate z '0').drop n := by
  unfold Float64.padRight Float64.zeros
  rw [List.drop_append, List.drop_replicate, List.length_drop]
  congr 2
  omega
theorem pointed_word (c k : Nat) : Float64.pointed (Float64.Digits.of c (-(k : Int))) k false = frontC c k ++ (if k = 0 then [] else '.' :: restC c k) := by
  obtain ⟨z, hz⟩ := strip_zeros (Nat.toDigits 10 c)
  have hL := congrArg List.length hz
  rw [List.length_append, List.length_replicate] at hL
  have hof : Float64.Digits.of c (-(k : Int)) = ⟨((Nat.toDigits 10 c).reverse.dropWhile (· == '0')).reverse, -(k : Int) + (Nat.toDigits 10 c).length⟩ := by
    unfold Float64.Digits.of
    rw [Nat.toList_repr]
  rw [hof]
  generalize hds : ((Nat.toDigits 10 c).reverse.dropWhile (· == '0')).reverse = ds at *
  have hw : wordC c k = List.replicate (k + 1 - (Nat.toDigits 10 c).length) '0' ++ Nat.toDigits 10 c := rfl
  have hD1 : 1 ≤ (Nat.toDigits 10 c).length := tDigits_len_ge 10 c
  unfold Float64.pointed frontC restC
  rw [hw]
  generalize hD : Nat.toDigits 10 c = D at *
  dsimp only
  by_cases hk : D.length ≤ k
  · have h1 : -(k : Int) + (D.length : Int) ≤ 0 := by omega
    have e1 : (-(-(k : Int) + (D.length : Int))).toNat = k - D.length := by omega
    have e2 : (-(k : Int) + (D.length : Int)).toNat = 0 := by omega
    rw [if_pos h1, e1, e2, List.drop_zero, List.length_append, List.length_replicate]
    have e3 : k + 1 - D.length + D.length - k = 1 := by omega
    have e4 : k + 1 - D.length = (k - D.length) + 1 := by omega
    rw [e3, e4, List.replicate_succ]
    have e5 : Float64.padRight (Float64.zeros (k - D.length) ++ ds) k = List.replicate (k - D.length) '0' ++ D := by
      unfold Float64.padRight Float64.zeros
      rw [List.append_assoc]
      congr 1
      refine Eq.trans ?_ hz.symm
      congr 2
      rw [List.length_append, List.length_replicate]
      omega
    rw [e5]
    have hk0 : k ≠ 0 := by omega
    rw [if_pos (by simp; omega), if_neg hk0]
    rfl
  · have h1 : ¬ (-(k : Int) + (D.length : Int) ≤ 0) := by omega
    have e1 : (-(-(k : Int) + (D.length : Int))).toNat = 0 := by omega
    have e2 : (-(k : Int) + (D.length : Int)).toNat = D.length - k := by omega
    have e3 : k + 1 - D.length = 0 := by omega
    rw [if_neg h1, e1, e2, e3, List.replicate_zero, List.nil_append]
    rw [pad_take ds z (D.length - k) (by omega), ← hz]
    have e5 : Float64.padRight (Float64.zeros 0 ++ ds.drop (D.length - k)) k = D.drop (D.length - k) := by
      unfold Float64.zeros
      rw [List.replicate_zero, List.nil_append, pad_drop ds z (D.length - k) k (by omega), ← hz]
    rw [e5]
    by_cases hk0 : k = 0
    · rw [if_neg (by simp [hk0]), if_pos hk0]
    · rw [if_pos (by simp; omega), if_neg hk0]
theorem pointed_zero (k : Nat) : Float64.pointed ⟨[], 1⟩ k false = frontC 0 k ++ (if k = 0 then [] else '.' :: restC 0 k) := by
  have h := pointed_word 0 k
  rw [← h]
  have hof : Float64.Digits.of 0 (-(k : Int)) = ⟨[], -(k : Int) + 1⟩ := by
    unfold Float64.Digits.of
    rw [Nat.toList_repr, Nat.toDigits_zero]
    rfl
  rw [hof]
  unfold Float64.pointed Float64.padRight Float64.zeros
  rcases Nat.eq_zero_or_pos k with rfl | hk
  · rfl
  · have h1 : -(k : Int) + 1 ≤ 0 := by omega
    dsimp only
    rw [if_neg (by decide), if_pos h1]
    have e0 : (-(1 : Int)).toNat = 0 := by decide
    have e1 : (1 : Int).toNat = 1 := by decide
    have e2 : (-(-(k : Int) + 1)).toNat = k - 1 := by omega
    rw [e0, e1, e2]
    simp only [List.drop_nil, List.append_nil, List.take_nil, List.length_nil, Nat.sub_zero, List.replicate_zero, List.nil_append, List.length_replicate]
    rw [show List.replicate 1 '0' = ['0'] from rfl, List.replicate_append_replicate]
    congr 4
    omega

theorem shift_pos (m : Nat) (e : Int) : 0 < (Float64.shift m 1 e).2 := by
  unfold Float64.shift
  split
  · exact Nat.one_pos
  · rw [Nat.one_mul]; exact Nat.two_pow_pos _
theorem halfEven_zero (d : Nat) (h : 0 < d) : Float64.halfEven 0 d = 0 := by
  unfold Float64.halfEven
  simp
theorem shift_zero (e : Int) : (Float64.shift 0 1 e).1 = 0 := by
  unfold Float64.shift
  split <;> simp
theorem text_f {x : UInt64} {s : Bool} {m : Nat} {e : Int} (hdec : Float64.decode x = .fin s m e) (k : Nat) :
    Float64.text x 'f' k false false false = (s, frontC (Float64.halfEven ((Float64.shift m 1 e).1 * 10 ^ k) (Float64.shift m 1 e).2) k ++ (if k = 0 then [] else '.' :: restC (Float64.halfEven ((Float64.shift m 1 e).1 * 10 ^ k) (Float64.shift m 1 e).2) k)) := by
  unfold Float64.text
  rw [hdec]
  dsimp only
  rw [if_pos (by decide : ('f' == 'f') = true), if_neg (by decide : ¬ ('f' == 'e') = true), if_neg (by decide : ¬ ('f' == 'e') = true), if_pos (by decide : ('f' == 'f') = true)]
  refine Prod.ext (by simp) ?_
  · dsimp only
    by_cases hm : m = 0
    · subst hm
      rw [if_pos (by decide)]
      rw [shift_zero, Nat.zero_mul, halfEven_zero _ (shift_pos 0 e)]
      exact pointed_zero k
    · rw [if_neg (by simpa using hm)]
      have hf : Float64.fixed (Float64.shift m 1 e).1 (Float64.shift m 1 e).2 k = Float64.Digits.of (Float64.halfEven ((Float64.shift m 1 e).1 * 10 ^ k) (Float64.shift m 1 e).2) (-(k : Int)) := by
        unfold Float64.fixed Float64.shift10
        rw [if_pos (by omega)]
        simp
      rw [hf]
      exact pointed_word _ k
theorem word_digits (c k : Nat) : ∀ a ∈ wordC c k, a.isDigit = true := by
  intro a ha
  unfold wordC at ha
  rcases List.mem_append.mp ha with h | h
  · rw [(List.mem_replicate.mp h).2]; decide
  · exact Nat.isDigit_of_mem_toDigits (by decide) (by decide) h
theorem span_loop (p : Char → Bool) : ∀ (a b acc : List Char), (∀ x ∈ a, p x = true) → (b = [] ∨ ∃ c r, b = c :: r ∧ p c = false) → List.span.loop p (a ++ b) acc = (acc.reverse ++ a, b)
  | [], b, acc, _, hb => by
    rcases hb with rfl | ⟨c, r, rfl, hc⟩
    · simp [List.span.loop]
    · simp [List.span.loop, hc]
  | x :: a, b, acc, ha, hb => by
    rw [List.cons_append, List.span.loop]
    simp only [ha x (.head _)]
    rw [span_loop p a b (x :: acc) (fun y hy => ha y (.tail _ hy)) hb]
    simp
theorem span_body (c k : Nat) : (frontC c k ++ (if k = 0 then [] else '.' :: restC c k)).span Char.isDigit = (frontC c k, if k = 0 then [] else '.' :: restC c k) := by
  have hf : ∀ a ∈ frontC c k, a.isDigit = true := fun a ha => word_digits c k a (List.mem_of_mem_take ha)
  unfold List.span
  rw [span_loop Char.isDigit (frontC c k) _ [] hf ?_]
  · rfl
  · by_cases hk : k = 0
    · rw [if_pos hk]; exact .inl rfl
    · rw [if_neg hk]; exact .inr ⟨_, _, rfl, by decide⟩
theorem front_ne (c k : Nat) : frontC c k ≠ [] := by
  intro e
  have h := congrArg List.length e
  unfold frontC wordC at h
  have h1 := tDigits_len_ge 10 c
  simp at h
  omega
theorem numfield_spec (Gr : List Char → Int → Option Char → List Char) (G : Char → Nat → List Char → Int → List Char → List Char) (neg : Bool) (ds rest : List Char) (hd : ds ≠ []) (T : Str)
    (hT : T = ⟨(List.replicate ((-1 : Int) - (((if neg = true then ['-'] else ([] : List Char)).length : Int) + (rest.length : Int)) - ((if ds.isEmpty = true then [] else Gr ds 0 (some ',')).length : Int)).toNat 32
      ++ List.map Char.toNat (if neg = true then ['-'] else ([] : List Char)) ++ List.map Char.toNat ((if ds.isEmpty = true then [] else Gr ds 0 (some ',')) ++ rest)).toArray⟩)
    (hGr : Gr = fun (d : List Char) (w : Int) (s : Option Char) => match s with | none => Float64.zeros (w.toNat - d.length) ++ d | some sep => G sep (d.length + w.toNat + 1) d.reverse w []) (h1 : ∀ t d r o, G ',' (t + 1) d r o =
      let n := min 3 (max (max (d.length : Int) r) 1).toNat
      let out := List.replicate (n - d.length) '0' ++ (d.take n).reverse ++ o
      if (d.drop n).isEmpty && r - n ≤ 0 then out else G ',' t (d.drop n) (r - n - 1) (',' :: out)) :
    T = S ((if neg then [45] else []) ++ comL (ds.map Char.toNat) ++ rest.map Char.toNat) := by
  subst hT
  have e : Gr ds 0 (some ',') = comG ',' ds := by
    rw [hGr]
    have := groups_spec '0' ',' (G ',') h1 (ds.length + Int.toNat 0 + 1) ds.reverse 0 [] (by simpa using hd) (by simp) (by decide)
    rw [List.reverse_reverse, List.append_nil] at this
    exact this
  have h0 : ds.isEmpty = false := by cases ds <;> simp_all
  simp only [h0, Bool.false_eq_true, if_false, e]
  have hz : ∀ p q r : Nat, ((-1 : Int) - ((p : Int) + (q : Int)) - (r : Int)).toNat = 0 := by intro p q r; omega
  simp only [hz, List.replicate_zero, List.nil_append, List.map_append, comG_map]
  have hs : List.map Char.toNat (if neg = true then ['-'] else ([] : List Char)) = (if neg then [45] else []) := by cases neg <;> rfl
  rw [hs]
  unfold S comL
  rw [List.append_assoc]
  rfl
theorem flt_text {x : UInt64} {s : Bool} {m : Nat} {e : Int} (hdec : Float64.decode x = .fin s m e) (k : Nat) :
    fltText x k = S (fltSay s (Float64.halfEven ((Float64.shift m 1 e).1 * 10 ^ k) (Float64.shift m 1 e).2) k) := by
  unfold fltText
  rw [text_f hdec k]
  generalize Float64.halfEven ((Float64.shift m 1 e).1 * 10 ^ k) (Float64.shift m 1 e).2 = c
  unfold numberField fspec
  dsimp only
  rw [span_body]
  dsimp only
  simp only [show ((62 : Nat) == 60) = false by decide, show ((62 : Nat) == 94) = false by decide, show ((62 : Nat) == 61) = false by decide, Bool.false_eq_true, if_false, Bool.and_false, List.replicate_zero, List.append_nil]
  refine (numfield_spec _ _ s (frontC c k) (if k = 0 then [] else '.' :: restC c k) (front_ne c k) _ rfl (by rfl) (by exact fun _ _ _ _ => rfl)).trans ?_
  · unfold fltSay
    rw [front_map]
    congr 2
    by_cases hk : k = 0
    · rw [if_pos hk, if_pos hk]; rfl
    · rw [if_neg hk, if_neg hk, List.map_cons, rest_map]; rfl
end Mine
end
section
open PySem.Spec PySem.Calls
set_option maxHeartbeats 4000000
set_option hygiene false
set_option linter.unusedVariables false
namespace Mine
local macro_rules | `(tactic| k_steps) => `(tactic| repeat' (first | (k_unfold; (try dsimp only)) | (walk1 <;> (try dsimp only)) | (dsimp only; walk1) | (leave1; walk_say "STEP leave1"; try dsimp only) | fail "no step"))
open Flt
def spG (g : Int) : Str := Str.empty ++ Str.ofString ",." ++ Str.ofString (toString g) ++ Str.ofString "f"
theorem spG_0 : spG 0 = Str.ofString ",.0f" := by decide +kernel
theorem spG_1 : spG 1 = Str.ofString ",.1f" := by decide +kernel
theorem spG_2 : spG 2 = Str.ofString ",.2f" := by decide +kernel
theorem spG_3 : spG 3 = Str.ofString ",.3f" := by decide +kernel
theorem spG_4 : spG 4 = Str.ofString ",.4f" := by decide +kernel
theorem fs_0 : Txt.floatSpec (Str.ofString ",.0f") = fspec 0 := by kernel_rfl
theorem fs_1 : Txt.floatSpec (Str.ofString ",.1f") = fspec 1 := by kernel_rfl
theorem fs_2 : Txt.floatSpec (Str.ofString ",.2f") = fspec 2 := by kernel_rfl
theorem fs_3 : Txt.floatSpec (Str.ofString ",.3f") = fspec 3 := by kernel_rfl
theorem fs_4 : Txt.floatSpec (Str.ofString ",.4f") = fspec 4 := by kernel_rfl
theorem txt_0 (x : UInt64) : Txt.fmtFloat x (Str.ofString ",.0f") = fltText x 0 := by unfold Txt.fmtFloat; rw [fs_0]; kernel_rfl
theorem txt_1 (x : UInt64) : Txt.fmtFloat x (Str.ofString ",.1f") = fltText x 1 := by unfold Txt.fmtFloat; rw [fs_1]; kernel_rfl
theorem txt_2 (x : UInt64) : Txt.fmtFloat x (Str.ofString ",.2f") = fltText x 2 := by unfold Txt.fmtFloat; rw [fs_2]; kernel_rfl
theorem txt_3 (x : UInt64) : Txt.fmtFloat x (Str.ofString ",.3f") = fltText x 3 := by unfold Txt.fmtFloat; rw [fs_3]; kernel_rfl
theorem txt_4 (x : UInt64) : Txt.fmtFloat x (Str.ofString ",.4f") = fltText x 4 := by unfold Txt.fmtFloat; rw [fs_4]; kernel_rfl
theorem five (g : Int) (h0 : 0 ≤ g) (h4 : g ≤ 4) : g = 0 ∨ g = 1 ∨ g = 2 ∨ g = 3 ∨ g = 4 := by omega
theorem fmtg_flt {prog : Program} {w : World} {A : Around} {E : Value → Shared → Prop} {s : Shared} {x : UInt64} {t : Tok} {g : Int} {Q : Value → Shared → Prop} (h0 : 0 ≤ g) (h4 : g ≤ 4)
    (h : ∀ t' k, Q (.str (fltText x g.toNat) t') { s with toks := k }) : wpAny (model prog w) A (formatField (.float x t) (spG g)) Q E s := by
  rcases five g h0 h4 with rfl | rfl | rfl | rfl | rfl
  · rw [spG_0]; refine field_float (n := 30000) ⟨rfl, fun _ => rfl, rfl, fun _ _ => rfl⟩ (by decide +kernel) (by decide +kernel) (by decide) ?_; intro _; rw [txt_0]; exact h _ _
  · rw [spG_1]; refine field_float (n := 30000) ⟨rfl, fun _ => rfl, rfl, fun _ _ => rfl⟩ (by decide +kernel) (by decide +kernel) (by decide) ?_; intro _; rw [txt_1]; exact h _ _
  · rw [spG_2]; refine field_float (n := 30000) ⟨rfl, fun _ => rfl, rfl, fun _ _ => rfl⟩ (by decide +kernel) (by decide +kernel) (by decide) ?_; intro _; rw [txt_2]; exact h _ _
  · rw [spG_3]; refine field_float (n := 30000) ⟨rfl, fun _ => rfl, rfl, fun _ _ => rfl⟩ (by decide +kernel) (by decide +kernel) (by decide) ?_; intro _; rw [txt_3]; exact h _ _
  · rw [spG_4]; refine field_float (n := 30000) ⟨rfl, fun _ => rfl, rfl, fun _ _ => rfl⟩ (by decide +kernel) (by decide +kernel) (by decide) ?_; intro _; rw [txt_4]; exact h _ _
theorem fmtg_int {prog : Program} {w : World} {A : Around} {E : Value → Shared → Prop} {s : Shared} {n : Int} {t : Tok} {g : Int} {Q : Value → Shared → Prop} (h0 : 0 ≤ g) (h4 : g ≤ 4) (hA : A.handled = none) (ho : ¬ Over n)
    (h : ∀ t' k, Q (.str (fltText (Float64.ofInt n) g.toNat) t') { s with toks := k }) : wpAny (model prog w) A (formatField (.int n t) (spG g)) Q E s := by
  rcases five g h0 h4 with rfl | rfl | rfl | rfl | rfl
  · rw [spG_0]; refine field_int_float (N := 30000) hA (by decide +kernel) ⟨rfl, fun _ => rfl, rfl, fun _ _ => rfl⟩ (by decide +kernel) (by decide +kernel) (by decide) (fun q => absurd q ho) ?_; intro _ _; rw [txt_0]; exact h _ _
  · rw [spG_1]; refine field_int_float (N := 30000) hA (by decide +kernel) ⟨rfl, fun _ => rfl, rfl, fun _ _ => rfl⟩ (by decide +kernel) (by decide +kernel) (by decide) (fun q => absurd q ho) ?_; intro _ _; rw [txt_1]; exact h _ _
  · rw [spG_2]; refine field_int_float (N := 30000) hA (by decide +kernel) ⟨rfl, fun _ => rfl, rfl, fun _ _ => rfl⟩ (by decide +kernel) (by decide +kernel) (by decide) (fun q => absurd q ho) ?_; intro _ _; rw [txt_2]; exact h _ _
  · rw [spG_3]; refine field_int_float (N := 30000) hA (by decide +kernel) ⟨rfl, fun _ => rfl, rfl, fun _ _ => rfl⟩ (by decide +kernel) (by decide +kernel) (by decide) (fun q => absurd q ho) ?_; intro _ _; rw [txt_3]; exact h _ _
  · rw [spG_4]; refine field_int_float (N := 30000) hA (by decide +kernel) ⟨rfl, fun _ => rfl, rfl, fun _ _ => rfl⟩ (by decide +kernel) (by decide +kernel) (by decide) (fun q => absurd q ho) ?_; intro _ _; rw [txt_4]; exact h _ _
end Mine
end
section
open PySem.Spec PySem.Calls
set_option maxHeartbeats 4000000
set_option hygiene false
set_option linter.unusedVariables false
namespace Mine
local macro_rules | `(tactic| k_steps) => `(tactic| repeat' (first | (k_unfold; (try dsimp only)) | (walk1 <;> (try dsimp only)) | (dsimp only; walk1) | (leave1; walk_say "STEP leave1"; try dsimp only) | fail "no step"))
theorem strKeys_of {es : Array DictEntry} (h : (es.toList.all fun e => match e.key with | .str _ _ => true | _ => false) = true) : StrKeys es := by
  intro e he
  have q := List.all_eq_true.mp h e (Array.mem_toList_iff.mpr he)
  cases hk : e.key <;> rw [hk] at q <;> first | exact ⟨_, _, rfl⟩ | cases q
theorem booked {P : Params} {h : Heap} (X : (fv.heap_39 P).In h) : NoneBooked h := by
  have h2 := X cStatics _ rfl
  refine ⟨fun nm => nsFind _ nm, ⟨_, _, _, h2, rfl, ?_, fun _ => rfl⟩, ?_⟩
  · exact strKeys_of (by rfl)
  · kernel_rfl
theorem repl_c {prog : Program} {w : World} {A : Around} {E : Value → Shared → Prop} {s : Shared} {x y z : Str} {t u v : Tok} {Q : Value → Shared → Prop} {h₀ : Heap} {L : Addr} {m : Str → Option Value} {P : Params}
    (X : (fv.heap_39 P).In h₀) (F : Fr h₀ L s.heap m) (hu : u ≠ 0) (hv : v ≠ 0) (huv : u ≠ v) (hb : x.length < 1000) (hz : z.length < 1000)
    (hq : ∀ t' k, s.toks ≤ k → Q (.str (Txt.replace x y z) t') { s with toks := k }) :
    wpAny (model prog w) A (call (.builtin "str.replace") [.str x t, .str y u, .str z v]) Q E s := by
  refine wpAny_with_toks (Nat.le_refl _) ?_
  refine SC.replaceA hu hv huv ?_ (fun t' k => ?_) (booked (X.keeps fun b o e => Fr.keep F b o e))
  · exact Nat.le_trans (Nat.add_le_add (Nat.le_of_lt hb) (Nat.mul_le_mul hb (Nat.le_of_lt hz))) (by decide)
  · exact hq t' k
end Mine
end
section
open PySem.Spec PySem.Calls
set_option maxHeartbeats 4000000
set_option hygiene false
set_option linter.unusedVariables false
namespace Mine
local macro_rules | `(tactic| k_steps) => `(tactic| repeat' (first | (k_unfold; (try dsimp only)) | (walk1 <;> (try dsimp only)) | (dsimp only; walk1) | (leave1; walk_say "STEP leave1"; try dsimp only) | fail "no step"))
theorem vwrap {h₀ h' : Heap} {L : Addr} {m : Str → Option Value} {news : List (Addr × Obj)} {s : Shared} {Q : Value → Shared → Prop} {v : Tok → Value} {t : Tok} {tk' : Nat}
    (hret : ∀ (t : Tok) (h' : Heap) (tk' : Nat), Fr h₀ L h' m → News h₀ L h' news → Q (v t) { s with heap := h', toks := tk' }) (F : Fr h₀ L h' m) (N : News h₀ L h' news) : Q (v t) { s with heap := h', toks := tk' } := hret t h' tk' F N
local macro_rules | `(tactic| walk_at "call ref") => `(tactic| (k_dflt (refine' thsep_c ?k1 ?k2 ?k3 ?k4 ?k5 ?kK ?kd ?ku ?_; (case k1 => k_asm); (case k2 => k_asm); (case k3 => k_asm); (case k4 => k_asm); (case k5 => k_asm); (case kK => first | exact rfl | assumption); (case kd => ktr_room); (case ku => ktr_units); (intro t1 hT1 k1 p1 p2 p3 F1 N1; (try dsimp only)))))
local macro_rules | `(tactic| walk_at "call ref") => `(tactic| (k_dflt (refine' decsep_c ?k1 ?k2 ?k3 ?k4 ?k5 ?kK ?kd ?ku ?_; (case k1 => k_asm); (case k2 => k_asm); (case k3 => k_asm); (case k4 => k_asm); (case k5 => k_asm); (case kK => first | exact rfl | assumption); (case kd => ktr_room); (case ku => ktr_units); (intro t2 hT2 k2 q1 q2 q3 F2 N2; (try dsimp only)))))
local macro_rules | `(tactic| walk_at "execs cons") => `(tactic| (with_reducible refine gen_toks ?_; intro tkG hG))
local macro_rules | `(tactic| walk_at "execs nil") => `(tactic| (with_reducible refine gen_toks ?_; intro tkG hG))
local macro_rules | `(tactic| walk_at "formatField int") => `(tactic| k_dflt (refine' fmt_int ?kh ?_; (case kh => with_reducible assumption); intro tF kF; (try dsimp only)))
theorem ic_int {w : World} {loose : List Str} {mean : ExcName → Option Value} {mg mb : Str → Option Value}
    {dp un : Nat} {gd : Option (List Code)} {cn : Str} {cs : Scope} {a : Addr} {ccd : Value} {cl : List (Str × Addr)} {outer : List Env} {A₀ : Around} {base h₀ : Heap} {L : Addr} {m : Str → Option Value} {news : List (Addr × Obj)} {s : Shared}
    {Q E : Value → Shared → Prop} {n : Int} {tn : Tok}
    (B : Below A₀ base outer h₀) (F : Fr h₀ L s.heap m) (X : (fv.heap_39 w.params).In h₀) (N : News h₀ L s.heap news) (T : Top fv.view_39 loose mean mg mb h₀) (hk : cs.kind = .function)
    (hdp : dp + 6 < recursionLimit) (hun : un + 48 < cLine)
    (hn9 : n.natAbs.log2 < 1920)
    (hret : ∀ (t : Tok) (h' : Heap) (tk' : Nat), Fr h₀ L h' m → News h₀ L h' news → Q (.str (S ((if n < 0 then [45] else []) ++ comL (dgN n.natAbs))) t) { s with heap := h', toks := tk' }) :
    wpAny (model Challenge.rw_fv0008_01.row.prog w) (ktrTop dp un gd cn cs L a ccd cl outer) (call (.ref 73) [.int n tn]) Q E s := by
  revert X
  k_fill
  intro X
  refine wpAny_call ?_
  k_dflt (refine' code_def ?k1 ?k2 ?k3 ?k4 ?k5 ?kA ?kF ?kK ?k6 ?k7 ?k8 ?k9 ?kB ?_ ?c2 ?c3 ?c4 ?c5; (case kA => exact rfl); (case kF => exact rfl); (case kK => assumption); (case k1 => k_asm); (case k2 => k_asm); (case k3 => k_asm); (case k4 => k_asm); (case k5 => k_asm); (case k6 => k_is); (case k7 => k_is); (case k8 => ktr_room); (case k9 => first | exact BindsTo.of_eq rfl | exact binds_K (by k_in) rfl (by k_is) rfl rfl rfl); (case c5 => decide); (case kB => exact locs rfl); (case c2 => exact rfl); (case c3 => exact rfl); (case c4 => exact rfl); k_whole; intro g' L' h' FG' F' N' B' X' T'; (try dsimp only); (try k_lift B'); (try k_fold))
  k_steps
  exact cb_retS (Q := Q) hret rfl (by k_asm) (by k_asm)
end Mine
end
section
open PySem.Spec PySem.Calls
set_option maxHeartbeats 4000000
set_option hygiene false
set_option linter.unusedVariables false
namespace Mine
local macro_rules | `(tactic| k_steps) => `(tactic| repeat' (first | (k_unfold; (try dsimp only)) | (walk1 <;> (try dsimp only)) | (dsimp only; walk1) | (leave1; walk_say "STEP leave1"; try dsimp only) | fail "no step"))
theorem pow1023 : 2 ^ 1023 ≤ 2 ^ 1024 - 2 ^ 970 := by decide +kernel
local macro_rules | `(tactic| walk_at "call ref") => `(tactic| (k_dflt (refine' thsep_c ?k1 ?k2 ?k3 ?k4 ?k5 ?kK ?kd ?ku ?_; (case k1 => k_asm); (case k2 => k_asm); (case k3 => k_asm); (case k4 => k_asm); (case k5 => k_asm); (case kK => first | exact rfl | assumption); (case kd => ktr_room); (case ku => ktr_units); (intro t1 hT1 k1 p1 p2 p3 F1 N1; (try dsimp only)))))
local macro_rules | `(tactic| walk_at "call ref") => `(tactic| (k_dflt (refine' decsep_c ?k1 ?k2 ?k3 ?k4 ?k5 ?kK ?kd ?ku ?_; (case k1 => k_asm); (case k2 => k_asm); (case k3 => k_asm); (case k4 => k_asm); (case k5 => k_asm); (case kK => first | exact rfl | assumption); (case kd => ktr_room); (case ku => ktr_units); (intro t2 hT2 k2 q1 q2 q3 F2 N2; (try dsimp only)))))
local macro_rules | `(tactic| walk_at "execs cons") => `(tactic| (with_reducible refine gen_toks ?_; intro tkG hG))
local macro_rules | `(tactic| walk_at "execs nil") => `(tactic| (with_reducible refine gen_toks ?_; intro tkG hG))
local macro_rules | `(tactic| walk_at "formatField float") => `(tactic| k_dflt (refine' fmtg_flt ?kh ?kg ?_; (case kh => with_reducible assumption); (case kg => with_reducible assumption); intro tF kF; (try dsimp only)))
local macro_rules | `(tactic| walk_at "formatField int") => `(tactic| k_dflt (refine' fmtg_int ?kh ?kg ?kr ?ko ?_; (case kh => with_reducible assumption); (case kg => with_reducible assumption); (case kr => exact rfl); (case ko => exact fun q => absurd hn8.out (Nat.not_lt.mpr (Nat.le_trans pow1023 q))); intro tF kF; (try dsimp only)))
theorem ic_flt_g {w : World} {loose : List Str} {mean : ExcName → Option Value} {mg mb : Str → Option Value}
    {dp un : Nat} {gd : Option (List Code)} {cn : Str} {cs : Scope} {a : Addr} {ccd : Value} {cl : List (Str × Addr)} {outer : List Env} {A₀ : Around} {base h₀ : Heap} {L : Addr} {m : Str → Option Value} {news : List (Addr × Obj)} {s : Shared}
    {Q E : Value → Shared → Prop} {x : UInt64} {g : Int} {tx tg : Tok}
    (B : Below A₀ base outer h₀) (F : Fr h₀ L s.heap m) (X : (fv.heap_39 w.params).In h₀) (N : News h₀ L s.heap news) (T : Top fv.view_39 loose mean mg mb h₀) (hk : cs.kind = .function)
    (hdp : dp + 6 < recursionLimit) (hun : un + 48 < cLine)
    (hx9 : Float64.isFinite x = true) (hg0 : 0 ≤ g) (hg4 : g ≤ 4)
    (hret : ∀ (t : Tok) (h' : Heap) (tk' : Nat), Fr h₀ L h' m → News h₀ L h' news → Q (.str (fltText x g.toNat) t) { s with heap := h', toks := tk' }) :
    wpAny (model Challenge.rw_fv0008_01.row.prog w) (ktrTop dp un gd cn cs L a ccd cl outer) (call (.ref 73) [.float x tx, .int g tg]) Q E s := by
  revert X
  k_fill
  intro X
  refine wpAny_call ?_
  k_dflt (refine' code_def ?k1 ?k2 ?k3 ?k4 ?k5 ?kA ?kF ?kK ?k6 ?k7 ?k8 ?k9 ?kB ?_ ?c2 ?c3 ?c4 ?c5; (case kA => exact rfl); (case kF => exact rfl); (case kK => assumption); (case k1 => k_asm); (case k2 => k_asm); (case k3 => k_asm); (case k4 => k_asm); (case k5 => k_asm); (case k6 => k_is); (case k7 => k_is); (case k8 => ktr_room); (case k9 => first | exact BindsTo.of_eq rfl | exact binds_K (by k_in) rfl (by k_is) rfl rfl rfl); (case c5 => decide); (case kB => exact locs rfl); (case c2 => exact rfl); (case c3 => exact rfl); (case c4 => exact rfl); k_whole; intro g' L' h' FG' F' N' B' X' T'; (try dsimp only); (try k_lift B'); (try k_fold))
  k_steps
  exact cb_retS (Q := Q) hret rfl (by k_asm) (by k_asm)
theorem ic_int_g {w : World} {loose : List Str} {mean : ExcName → Option Value} {mg mb : Str → Option Value}
    {dp un : Nat} {gd : Option (List Code)} {cn : Str} {cs : Scope} {a : Addr} {ccd : Value} {cl : List (Str × Addr)} {outer : List Env} {A₀ : Around} {base h₀ : Heap} {L : Addr} {m : Str → Option Value} {news : List (Addr × Obj)} {s : Shared}
    {Q E : Value → Shared → Prop} {n : Int} {g : Int} {tn tg : Tok}
    (B : Below A₀ base outer h₀) (F : Fr h₀ L s.heap m) (X : (fv.heap_39 w.params).In h₀) (N : News h₀ L s.heap news) (T : Top fv.view_39 loose mean mg mb h₀) (hk : cs.kind = .function)
    (hdp : dp + 6 < recursionLimit) (hun : un + 48 < cLine)
    (hn8 : Flt.Hid (n.natAbs < 2 ^ 1023)) (hg0 : 0 ≤ g) (hg4 : g ≤ 4)
    (hret : ∀ (t : Tok) (h' : Heap) (tk' : Nat), Fr h₀ L h' m → News h₀ L h' news → Q (.str (fltText (Float64.ofInt n) g.toNat) t) { s with heap := h', toks := tk' }) :
    wpAny (model Challenge.rw_fv0008_01.row.prog w) (ktrTop dp un gd cn cs L a ccd cl outer) (call (.ref 73) [.int n tn, .int g tg]) Q E s := by
  revert X
  k_fill
  intro X
  refine wpAny_call ?_
  k_dflt (refine' code_def ?k1 ?k2 ?k3 ?k4 ?k5 ?kA ?kF ?kK ?k6 ?k7 ?k8 ?k9 ?kB ?_ ?c2 ?c3 ?c4 ?c5; (case kA => exact rfl); (case kF => exact rfl); (case kK => assumption); (case k1 => k_asm); (case k2 => k_asm); (case k3 => k_asm); (case k4 => k_asm); (case k5 => k_asm); (case k6 => k_is); (case k7 => k_is); (case k8 => ktr_room); (case k9 => first | exact BindsTo.of_eq rfl | exact binds_K (by k_in) rfl (by k_is) rfl rfl rfl); (case c5 => decide); (case kB => exact locs rfl); (case c2 => exact rfl); (case c3 => exact rfl); (case c4 => exact rfl); k_whole; intro g' L' h' FG' F' N' B' X' T'; (try dsimp only); (try k_lift B'); (try k_fold))
  k_steps
  exact cb_retS (Q := Q) hret rfl (by k_asm) (by k_asm)
end Mine
end
section
open PySem.Spec PySem.Calls
set_option maxHeartbeats 4000000
set_option hygiene false
set_option linter.unusedVariables false
namespace Mine
local macro_rules | `(tactic| k_steps) => `(tactic| repeat' (first | (k_unfold; (try dsimp only)) | (walk1 <;> (try dsimp only)) | (dsimp only; walk1) | (leave1; walk_say "STEP leave1"; try dsimp only) | fail "no step"))
theorem repl1 {prog : Program} {w : World} {A : Around} {E : Value → Shared → Prop} {s : Shared} {x y : Str} {t u v : Tok} {Q : Value → Shared → Prop} {h₀ : Heap} {L : Addr} {m : Str → Option Value} {P : Params}
    (hY : Txt.replace x (Str.ofString ",") (Str.ofString "") = y) (X : (fv.heap_39 P).In h₀) (F : Fr h₀ L s.heap m) (hu : u ≠ 0) (hv : v ≠ 0) (huv : u ≠ v) (hb : x.length < 1000)
    (hq : ∀ t' k, s.toks ≤ k → Q (.str y t') { s with toks := k }) :
    wpAny (model prog w) A (call (.builtin "str.replace") [.str x t, .str (Str.ofString ",") u, .str (Str.ofString "") v]) Q E s :=
  repl_c X F hu hv huv hb (by decide) (by rw [hY]; exact hq)
theorem repl2 {prog : Program} {w : World} {A : Around} {E : Value → Shared → Prop} {s : Shared} {y : Str} {t u v : Tok} {Q : Value → Shared → Prop} {h₀ : Heap} {L : Addr} {m : Str → Option Value} {P : Params}
    (X : (fv.heap_39 P).In h₀) (F : Fr h₀ L s.heap m) (hu : u ≠ 0) (hv : v ≠ 0) (huv : u ≠ v) (hb : y.length < 1000)
    (hq : ∀ t' k, s.toks ≤ k → Q (.str y t') { s with toks := k }) :
    wpAny (model prog w) A (call (.builtin "str.replace") [.str y t, .str (Str.ofString ".") u, .str (Str.ofString ".") v]) Q E s :=
  repl_c X F hu hv huv hb (by decide) (by rw [Txt.replace_self]; exact hq)
theorem float_s {prog : Program} {w : World} {A : Around} {E : Value → Shared → Prop} {s : Shared} {x : Str} {t : Tok} {Q : Value → Shared → Prop} {b : UInt64} (hb : Num.parseText? x = some b) (h : Q (.float b s.toks) { s with toks := s.toks + 1 }) :
    wpAny (model prog w) A (call (.type "float") [.str x t]) Q E s :=
  call_float_1 (Flt.meets_float_new_str x t hb) (show (Made.float b).post _ s from ⟨rfl, h⟩)
theorem pow1023b : 2 ^ 1023 ≤ 2 ^ 1024 - 2 ^ 970 := by decide +kernel
local macro_rules | `(tactic| walk_at "call ref") => `(tactic| (k_dflt (refine' thsep_c ?k1 ?k2 ?k3 ?k4 ?k5 ?kK ?kd ?ku ?_; (case k1 => k_asm); (case k2 => k_asm); (case k3 => k_asm); (case k4 => k_asm); (case k5 => k_asm); (case kK => first | exact rfl | assumption); (case kd => ktr_room); (case ku => ktr_units); (intro t1 hT1 k1 p1 p2 p3 F1 N1; (try dsimp only))); (try dsimp only at p3)))
local macro_rules | `(tactic| walk_at "call ref") => `(tactic| (k_dflt (refine' decsep_c ?k1 ?k2 ?k3 ?k4 ?k5 ?kK ?kd ?ku ?_; (case k1 => k_asm); (case k2 => k_asm); (case k3 => k_asm); (case k4 => k_asm); (case k5 => k_asm); (case kK => first | exact rfl | assumption); (case kd => ktr_room); (case ku => ktr_units); (intro t2 hT2 k2 q1 q2 q3 F2 N2; (try dsimp only))); (try dsimp only at q3)))
local macro_rules | `(tactic| walk_at "execs cons") => `(tactic| (with_reducible refine gen_toks ?_; intro tkG hG))
local macro_rules | `(tactic| walk_at "execs nil") => `(tactic| (with_reducible refine gen_toks ?_; intro tkG hG))
local macro_rules | `(tactic| walk_at "formatField float") => `(tactic| k_dflt (refine' fmtg_flt ?kh ?kg ?_; (case kh => with_reducible assumption); (case kg => with_reducible assumption); intro tF kF; (try dsimp only)))
local macro_rules | `(tactic| walk_at "formatField int") => `(tactic| k_dflt (refine' fmtg_int ?kh ?kg ?kr ?ko ?_; (case kh => with_reducible assumption); (case kg => with_reducible assumption); (case kr => exact rfl); (case ko => exact fun q => absurd hn8.out (Nat.not_lt.mpr (Nat.le_trans pow1023 q))); intro tF kF; (try dsimp only)))
local macro_rules | `(tactic| walk_at "call builtin:str.replace") => `(tactic| k_dflt (first
  | ((refine' repl1 ?kY ?kX ?kF ?ku ?kv ?kw ?kb ?_); (case kY => assumption); (case kX => assumption); (case kF => k_asm); (case ku => show @Ne Nat _ _; omega); (case kv => show @Ne Nat _ _; omega); (case kw => show @Ne Nat _ _; omega); (case kb => assumption); intro tr1 kr1 hr1; (try dsimp only); (dsimp only at hr1))
  | ((refine' repl2 ?kX ?kF ?ku ?kv ?kw ?kb ?_); (case kX => assumption); (case kF => k_asm); (case ku => show @Ne Nat _ _; omega); (case kv => show @Ne Nat _ _; omega); (case kw => show @Ne Nat _ _; omega); (case kb => assumption); intro tr2 kr2 hr2; (try dsimp only); (dsimp only at hr2))))
local macro_rules | `(tactic| walk_at "call type:float") => `(tactic| k_dflt (refine' float_s ?kb ?_; (case kb => assumption); (try dsimp only)))
theorem no_dot {y : Str} {b : Bool} {P : Prop} (h1 : (Builtin.Str.occurrences y (Str.ofString ".") 0 y.length 1).isEmpty = b) (h2 : (Builtin.Str.occurrences y (Str.ofString ".") 0 y.length 1).isEmpty = !b) : P := by
  rw [h1] at h2; cases b <;> cases h2
theorem ic_str_g {w : World} {loose : List Str} {mean : ExcName → Option Value} {mg mb : Str → Option Value}
    {dp un : Nat} {gd : Option (List Code)} {cn : Str} {cs : Scope} {a : Addr} {ccd : Value} {cl : List (Str × Addr)} {outer : List Env} {A₀ : Around} {base h₀ : Heap} {L : Addr} {m : Str → Option Value} {news : List (Addr × Obj)} {s : Shared}
    {Q E : Value → Shared → Prop} {x y : Str} {g : Int} {b : UInt64} {tx tg : Tok}
    (B : Below A₀ base outer h₀) (F : Fr h₀ L s.heap m) (X : (fv.heap_39 w.params).In h₀) (N : News h₀ L s.heap news) (T : Top fv.view_39 loose mean mg mb h₀) (hk : cs.kind = .function)
    (hdp : dp + 6 < recursionLimit) (hun : un + 48 < cLine)
    (hx8 : x.length < 1000) (hy8 : y.length < 1000) (hY : Txt.replace x (Str.ofString ",") (Str.ofString "") = y) (hb : Num.parseText? y = some b) (hx9 : Float64.isFinite b = true) (hdot : (Builtin.Str.occurrences y (Str.ofString ".") 0 y.length 1).isEmpty = false) (hg0 : 0 ≤ g) (hg4 : g ≤ 4)
    (hret : ∀ (t : Tok) (h' : Heap) (tk' : Nat), Fr h₀ L h' m → News h₀ L h' news → Q (.str (fltText b g.toNat) t) { s with heap := h', toks := tk' }) :
    wpAny (model Challenge.rw_fv0008_01.row.prog w) (ktrTop dp un gd cn cs L a ccd cl outer) (call (.ref 73) [.str x tx, .int g tg]) Q E s := by
  revert X
  k_fill
  intro X
  refine wpAny_call ?_
  k_dflt (refine' code_def ?k1 ?k2 ?k3 ?k4 ?k5 ?kA ?kF ?kK ?k6 ?k7 ?k8 ?k9 ?kB ?_ ?c2 ?c3 ?c4 ?c5; (case kA => exact rfl); (case kF => exact rfl); (case kK => assumption); (case k1 => k_asm); (case k2 => k_asm); (case k3 => k_asm); (case k4 => k_asm); (case k5 => k_asm); (case k6 => k_is); (case k7 => k_is); (case k8 => ktr_room); (case k9 => first | exact BindsTo.of_eq rfl | exact binds_K (by k_in) rfl (by k_is) rfl rfl rfl); (case c5 => decide); (case kB => exact locs rfl); (case c2 => exact rfl); (case c3 => exact rfl); (case c4 => exact rfl); k_whole; intro g' L' h' FG' F' N' B' X' T'; (try dsimp only); (try k_lift B'); (try k_fold))
  k_steps
  exact cb_retS (Q := Q) hret rfl (by k_asm) (by k_asm)
local macro_rules | `(tactic| walk_at "call type:int") => `(tactic| k_dflt (refine' KIN.call_text ?kb ?kc ?_; (case kb => assumption); (case kc => assumption); (try dsimp only)))
local macro_rules | `(tactic| walk_at "formatField float") => `(tactic| (refine held ?_))
local macro_rules | `(tactic| walk_at "formatField int") => `(tactic| k_dflt (refine' fmt_int ?kh ?_; (case kh => with_reducible assumption); intro tF kF; (try dsimp only)))
theorem ic_str {w : World} {loose : List Str} {mean : ExcName → Option Value} {mg mb : Str → Option Value}
    {dp un : Nat} {gd : Option (List Code)} {cn : Str} {cs : Scope} {a : Addr} {ccd : Value} {cl : List (Str × Addr)} {outer : List Env} {A₀ : Around} {base h₀ : Heap} {L : Addr} {m : Str → Option Value} {news : List (Addr × Obj)} {s : Shared}
    {Q E : Value → Shared → Prop} {x y : Str} {n : Int} {b : UInt64} {tx : Tok}
    (B : Below A₀ base outer h₀) (F : Fr h₀ L s.heap m) (X : (fv.heap_39 w.params).In h₀) (N : News h₀ L s.heap news) (T : Top fv.view_39 loose mean mg mb h₀) (hk : cs.kind = .function)
    (hdp : dp + 6 < recursionLimit) (hun : un + 48 < cLine)
    (hx8 : x.length < 1000) (hy8 : y.length < 1000) (hy7 : y.length ≤ 640) (hY : Txt.replace x (Str.ofString ",") (Str.ofString "") = y) (hb : Num.parseText? y = some b) (hx9 : Float64.isFinite b = true) (hdot : (Builtin.Str.occurrences y (Str.ofString ".") 0 y.length 1).isEmpty = true) (hnn : PySem.intText? y = some n) (hn9 : n.natAbs.log2 < 1920)
    (hret : ∀ (t : Tok) (h' : Heap) (tk' : Nat), Fr h₀ L h' m → News h₀ L h' news → Q (.str (S ((if n < 0 then [45] else []) ++ comL (dgN n.natAbs))) t) { s with heap := h', toks := tk' }) :
    wpAny (model Challenge.rw_fv0008_01.row.prog w) (ktrTop dp un gd cn cs L a ccd cl outer) (call (.ref 73) [.str x tx]) Q E s := by
  revert X
  k_fill
  intro X
  refine wpAny_call ?_
  k_dflt (refine' code_def ?k1 ?k2 ?k3 ?k4 ?k5 ?kA ?kF ?kK ?k6 ?k7 ?k8 ?k9 ?kB ?_ ?c2 ?c3 ?c4 ?c5; (case kA => exact rfl); (case kF => exact rfl); (case kK => assumption); (case k1 => k_asm); (case k2 => k_asm); (case k3 => k_asm); (case k4 => k_asm); (case k5 => k_asm); (case k6 => k_is); (case k7 => k_is); (case k8 => ktr_room); (case k9 => first | exact BindsTo.of_eq rfl | exact binds_K (by k_in) rfl (by k_is) rfl rfl rfl); (case c5 => decide); (case kB => exact locs rfl); (case c2 => exact rfl); (case c3 => exact rfl); (case c4 => exact rfl); k_whole; intro g' L' h' FG' F' N' B' X' T'; (try dsimp only); (try k_lift B'); (try k_fold))
  k_steps
  exact cb_retS (Q := Q) hret rfl (by k_asm) (by k_asm)
end Mine
end
section
open PySem.Spec PySem.Calls
set_option maxHeartbeats 4000000
set_option hygiene false
set_option linter.unusedVariables false
namespace Mine
local macro_rules | `(tactic| k_steps) => `(tactic| repeat' (first | (k_unfold; (try dsimp only)) | (walk1 <;> (try dsimp only)) | (dsimp only; walk1) | (leave1; walk_say "STEP leave1"; try dsimp only) | fail "no step"))
open Float64 (halfEven shift place roundMag roundUn V)
/-- a quotient put right to the even one hangs on the ratio alone -/
theorem he_scale (a b c : Nat) (hc : 0 < c) : halfEven (a * c) (b * c) = halfEven a b := by
  unfold Float64.halfEven
  have e1 : a * c / (b * c) = a / b := Nat.mul_div_mul_right a b hc
  have e2 : a * c % (b * c) = a % b * c := Nat.mul_mod_mul_right c a b
  simp only [e1, e2]
  have h1 : (2 * (a % b * c) > b * c) ↔ (2 * (a % b) > b) := by
    rw [← Nat.mul_assoc]
    exact Nat.mul_lt_mul_right hc
  have h2 : (2 * (a % b * c) = b * c) ↔ (2 * (a % b) = b) := by
    rw [← Nat.mul_assoc]
    exact Nat.mul_left_inj (by omega)
  simp only [Bool.or_eq_true, decide_eq_true_eq, Bool.and_eq_true, beq_iff_eq, h1, h2]
theorem he_ratio {a b a' b' : Nat} (hb : 0 < b) (hb' : 0 < b') (h : a * b' = a' * b) : halfEven a b = halfEven a' b' := by
  rw [← he_scale a b b' hb', ← he_scale a' b' b hb, h, Nat.mul_comm b b']
/-- the two steps of _law_near are one putting right -/
theorem he_two {M D U : Nat} (hD : 0 < D) (hU : 0 < U) (h2 : U % 2 = 0) :
    halfEven M (D * U) = if 2 * (M / D % U) > U ∨ (2 * (M / D % U) = U ∧ (M % D > 0 ∨ M / D / U % 2 = 1)) then M / D / U + 1 else M / D / U := by
  have e1 : M / (D * U) = M / D / U := (Nat.div_div_eq_div_mul M D U).symm
  have e2 : M % (D * U) = M % D + D * (M / D % U) := Nat.mod_mul
  have hr := Nat.mod_lt M hD
  unfold Float64.halfEven
  simp only [e1, e2, Bool.or_eq_true, decide_eq_true_eq, Bool.and_eq_true, beq_iff_eq]
  generalize M / D % U = t at *
  generalize M / D / U = h at *
  generalize M % D = r at *
  obtain ⟨u, rfl⟩ : ∃ u, U = 2 * u := ⟨U / 2, by omega⟩
  have c : (2 * (r + D * t) > D * (2 * u) ∨ 2 * (r + D * t) = D * (2 * u) ∧ h % 2 = 1) ↔ (2 * t > 2 * u ∨ 2 * t = 2 * u ∧ (r > 0 ∨ h % 2 = 1)) := by
    have e3 : D * (2 * u) = 2 * (D * u) := by ac_rfl
    rw [e3]
    rcases Nat.lt_trichotomy t u with htu | htu | htu
    · have : D * (t + 1) ≤ D * u := Nat.mul_le_mul_left D htu
      rw [Nat.mul_add, Nat.mul_one] at this
      omega
    · subst htu
      omega
    · have : D * (u + 1) ≤ D * t := Nat.mul_le_mul_left D htu
      rw [Nat.mul_add, Nat.mul_one] at this
      omega
  by_cases hc : 2 * t > 2 * u ∨ 2 * t = 2 * u ∧ (r > 0 ∨ h % 2 = 1)
  · rw [if_pos hc, if_pos (c.mpr hc)]
  · rw [if_neg hc, if_neg (fun q => hc (c.mp q))]
/-- what _law_near shifts away -/
def nearK (N D : Nat) : Nat := (N * 2 ^ 200 / D).log2 - 52
def nearQ (N D : Nat) : Nat := halfEven (N * 2 ^ 200) (D * 2 ^ nearK N D)
theorem near_lo2 {N D : Nat} (hN0 : 0 < N) (hD0 : 0 < D) (hD : D ≤ 100000) : 2 ^ 183 ≤ N * 2 ^ 200 / D := by
  refine (Nat.le_div_iff_mul_le hD0).mpr ?_
  refine Nat.le_trans (Nat.mul_le_mul_left _ hD) ?_
  refine Nat.le_trans ?_ (Nat.mul_le_mul_right _ hN0)
  decide
theorem near_k {N D : Nat} (hN0 : 0 < N) (hN : N < 2 ^ 210) (hD0 : 0 < D) (hD : D ≤ 100000) :
    131 ≤ nearK N D ∧ nearK N D ≤ 358 ∧ D * 2 ^ nearK N D * 2 ^ 52 ≤ N * 2 ^ 200 ∧ N * 2 ^ 200 < D * 2 ^ nearK N D * 2 ^ 53 := by
  have h1 := near_lo2 hN0 hD0 hD
  have hne : N * 2 ^ 200 / D ≠ 0 := by
    intro e
    rw [e] at h1
    exact absurd h1 (by decide)
  have h2 := Nat.log2_self_le hne
  have h3 := Nat.lt_log2_self (n := N * 2 ^ 200 / D)
  have h4 : N * 2 ^ 200 / D < 2 ^ 410 := by
    refine Nat.lt_of_le_of_lt (Nat.div_le_self _ _) ?_
    have : N * 2 ^ 200 < 2 ^ 210 * 2 ^ 200 := Nat.mul_lt_mul_of_pos_right hN (Nat.two_pow_pos _)
    rwa [← Nat.pow_add] at this
  have h5 : 183 ≤ (N * 2 ^ 200 / D).log2 := (Nat.le_log2 hne).mpr h1
  have h6 : (N * 2 ^ 200 / D).log2 < 410 := (Nat.log2_lt hne).mpr h4
  unfold nearK
  generalize hL : (N * 2 ^ 200 / D).log2 = L at *
  refine ⟨by omega, by omega, ?_, ?_⟩
  · rw [Nat.mul_assoc, ← Nat.pow_add, show L - 52 + 52 = L by omega]
    have := (Nat.le_div_iff_mul_le hD0).mp h2
    rwa [Nat.mul_comm] at this
  · rw [Nat.mul_assoc, ← Nat.pow_add, show L - 52 + 53 = L + 1 by omega, Nat.mul_comm D]
    exact (Nat.div_lt_iff_lt_mul hD0).mp h3
theorem pow_uniq {N X u v : Nat} (h1 : X ≤ N * 2 ^ u) (h2 : N * 2 ^ u < X * 2) (h3 : X ≤ N * 2 ^ v) (h4 : N * 2 ^ v < X * 2) : u = v := by
  have key : ∀ u v : Nat, u < v → X ≤ N * 2 ^ u → N * 2 ^ v < X * 2 → False := by
    intro u v huv h1 h4
    have e : N * 2 ^ (u + 1) ≤ N * 2 ^ v := Nat.mul_le_mul_left _ (Nat.pow_le_pow_right (by decide) huv)
    rw [Nat.pow_succ, ← Nat.mul_assoc] at e
    omega
  rcases Nat.lt_trichotomy u v with h | h | h
  · exact (key u v h h1 h4).elim
  · exact h
  · exact (key v u h h3 h2).elim
/-- the double of a quotient is what _law_near reckons -/
theorem near_place {N D : Nat} (hN0 : 0 < N) (hN : N < 2 ^ 210) (hD0 : 0 < D) (hD : D ≤ 100000) : place N D = (nearK N D : Int) - 200 := by
  obtain ⟨k1, k2, k3, k4⟩ := near_k hN0 hN hD0 hD
  obtain ⟨p1, p2⟩ := Float64.place_spec (n := N) (d := D) (by omega) hD0
  have hge := Float64.place_ge N D
  have hb := Float64.shift_pos N D (-(place N D)) hD0
  have hle : place N D ≤ 3000 := by
    unfold Float64.place
    have : N.log2 < 210 := (Nat.log2_lt (by omega)).mpr hN
    dsimp only
    split <;> omega
  have hs := Float64.shift_spec 5000 N D (-(place N D)) (by omega)
  unfold Float64.p at hs
  generalize hz : place N D = z at *
  generalize (shift N D (-z)).1 = a at *
  generalize (shift N D (-z)).2 = b at *
  generalize hK : nearK N D = K at *
  have e0 : ((0 : Int) + ((5000 : Nat) : Int)).toNat = 5000 := rfl
  rw [e0] at hs
  obtain ⟨u, hu⟩ : ∃ u : Nat, (-z + ((5000 : Nat) : Int)).toNat = u := ⟨_, rfl⟩
  rw [hu] at hs
  have hpos : 0 < D * 2 ^ 5000 := Nat.mul_pos hD0 (Nat.two_pow_pos _)
  have q1 : N * 2 ^ u < D * 2 ^ 5000 * 2 ^ 52 * 2 := by
    refine Nat.lt_of_mul_lt_mul_left (a := b) ?_
    have : a * (D * 2 ^ 5000) < 2 ^ 53 * b * (D * 2 ^ 5000) := Nat.mul_lt_mul_of_pos_right p1 hpos
    have e1 : b * (N * 2 ^ u) = a * (D * 2 ^ 5000) := by rw [← Nat.mul_assoc a, hs]; ac_rfl
    have e2 : b * (D * 2 ^ 5000 * 2 ^ 52 * 2) = 2 ^ 53 * b * (D * 2 ^ 5000) := by
      rw [show (2 : Nat) ^ 53 = 2 ^ 52 * 2 from rfl]
      ac_rfl
    rw [e1, e2]
    exact this
  have ev : N * 2 ^ (5200 - K) = N * 2 ^ 200 * 2 ^ (5000 - K) := by rw [Nat.mul_assoc, ← Nat.pow_add]; congr 2; omega
  have ew : D * 2 ^ 5000 = D * 2 ^ K * 2 ^ (5000 - K) := by rw [Nat.mul_assoc, ← Nat.pow_add]; congr 2; omega
  have hw : 0 < 2 ^ (5000 - K) := Nat.two_pow_pos _
  have q3 : D * 2 ^ 5000 * 2 ^ 52 ≤ N * 2 ^ (5200 - K) := by
    rw [ev, ew, Nat.mul_right_comm]
    exact Nat.mul_le_mul_right _ k3
  have q4 : N * 2 ^ (5200 - K) < D * 2 ^ 5000 * 2 ^ 52 * 2 := by
    rw [ev, ew]
    have := Nat.mul_lt_mul_of_pos_right k4 hw
    refine Nat.lt_of_lt_of_eq this ?_
    rw [show (2 : Nat) ^ 53 = 2 ^ 52 * 2 from rfl]
    ac_rfl
  have hz1 : z ≠ -1074 := by
    intro e
    have hu2 : u = 6074 := by omega
    rw [hu2] at q1
    have : N * 2 ^ (5200 - K) * 2 ≤ N * 2 ^ 6074 := by
      rw [Nat.mul_assoc, ← Nat.pow_succ]
      exact Nat.mul_le_mul_left _ (Nat.pow_le_pow_right (by decide) (by omega))
    omega
  have q2 : D * 2 ^ 5000 * 2 ^ 52 ≤ N * 2 ^ u := by
    rcases p2 with e | p2
    · exact absurd e hz1
    refine Nat.le_of_mul_le_mul_left (c := b) ?_ hb
    have : 2 ^ 52 * b * (D * 2 ^ 5000) ≤ a * (D * 2 ^ 5000) := Nat.mul_le_mul_right _ p2
    have e1 : b * (N * 2 ^ u) = a * (D * 2 ^ 5000) := by rw [← Nat.mul_assoc a, hs]; ac_rfl
    have e2 : b * (D * 2 ^ 5000 * 2 ^ 52) = 2 ^ 52 * b * (D * 2 ^ 5000) := by ac_rfl
    rw [e1, e2]
    exact this
  have := pow_uniq q2 q1 q3 q4
  omega
theorem near_q {N D : Nat} (hN0 : 0 < N) (hN : N < 2 ^ 210) (hD0 : 0 < D) (hD : D ≤ 100000) :
    halfEven (shift N D (-(place N D))).1 (shift N D (-(place N D))).2 = nearQ N D := by
  obtain ⟨k1, k2, k3, k4⟩ := near_k hN0 hN hD0 hD
  have hb := Float64.shift_pos N D (-(place N D)) hD0
  have hp := near_place hN0 hN hD0 hD
  have hs := Float64.shift_spec 5000 N D (-(place N D)) (by rw [hp]; omega)
  unfold nearQ
  refine he_ratio hb (Nat.mul_pos hD0 (Nat.two_pow_pos _)) ?_
  unfold Float64.p at hs
  have e0 : ((0 : Int) + ((5000 : Nat) : Int)).toNat = 5000 := rfl
  have e1 : (-(place N D) + ((5000 : Nat) : Int)).toNat = 5200 - nearK N D := by omega
  rw [e0, e1] at hs
  generalize (shift N D (-(place N D))).1 = a at *
  generalize (shift N D (-(place N D))).2 = b at *
  generalize nearK N D = K at *
  have ev : N * b * 2 ^ (5200 - K) = N * 2 ^ 200 * b * 2 ^ (5000 - K) := by
    rw [show (5200 - K) = 200 + (5000 - K) by omega, Nat.pow_add]; ac_rfl
  have ew : a * D * 2 ^ 5000 = a * (D * 2 ^ K) * 2 ^ (5000 - K) := by
    have : (2 : Nat) ^ 5000 = 2 ^ K * 2 ^ (5000 - K) := by rw [← Nat.pow_add]; congr 1; omega
    rw [this]; ac_rfl
  rw [ev, ew] at hs
  exact Nat.eq_of_mul_eq_mul_right (Nat.two_pow_pos _) hs
theorem near_qb {N D : Nat} (hN0 : 0 < N) (hN : N < 2 ^ 210) (hD0 : 0 < D) (hD : D ≤ 100000) : 2 ^ 52 ≤ nearQ N D ∧ nearQ N D ≤ 2 ^ 53 := by
  obtain ⟨k1, k2, k3, k4⟩ := near_k hN0 hN hD0 hD
  have hp : 0 < D * 2 ^ nearK N D := Nat.mul_pos hD0 (Nat.two_pow_pos _)
  have h1 : 2 ^ 52 ≤ N * 2 ^ 200 / (D * 2 ^ nearK N D) := (Nat.le_div_iff_mul_le hp).mpr (by rwa [Nat.mul_comm])
  have h2 : N * 2 ^ 200 / (D * 2 ^ nearK N D) < 2 ^ 53 := (Nat.div_lt_iff_lt_mul hp).mpr (by rwa [Nat.mul_comm (2 ^ 53)])
  have h3 := Float64.halfEven_le' (N * 2 ^ 200) (D * 2 ^ nearK N D) hp
  unfold nearQ
  refine ⟨?_, by omega⟩
  refine Nat.le_trans h1 ?_
  unfold Float64.halfEven
  dsimp only
  split <;> omega
theorem mag_small {k q : Nat} (hk : k ≤ 1300) (hq : q ≤ 9007199254740992) : min (9218868437227405312 : Nat) (k * 4503599627370496 + q) = k * 4503599627370496 + q ∧ k * 4503599627370496 + q < 9218868437227405312 := by omega
theorem frac_near (s : Bool) {N D : Nat} (hN0 : 0 < N) (hN : N < 2 ^ 210) (hD0 : 0 < D) (hD : D ≤ 100000) :
    ∃ m e, Float64.decode (Float64.ofFrac s N D) = .fin s m e ∧ (shift m 1 e).1 * 2 ^ 200 = nearQ N D * 2 ^ nearK N D * (shift m 1 e).2 := by
  obtain ⟨k1, k2, k3, k4⟩ := near_k hN0 hN hD0 hD
  obtain ⟨q1, q2⟩ := near_qb hN0 hN hD0 hD
  have hr : roundMag N D = (nearK N D + 874) * 2 ^ 52 + nearQ N D := by
    rw [Float64.roundMag_eq' (by omega), near_q hN0 hN hD0 hD, near_place hN0 hN hD0 hD]
    have e : ((nearK N D : Int) - 200 + 1074).toNat = nearK N D + 874 := by omega
    rw [e]
    exact (mag_small (by omega) q2).1
  have hlt : roundMag N D < Float64.infMag := by
    rw [hr]
    exact (mag_small (by omega) q2).2
  obtain ⟨m, e, hd, hv⟩ := Float64.decode_pack s hlt
  refine ⟨m, e, by unfold Float64.ofFrac; exact hd, ?_⟩
  rw [hr, Float64.V_at q2 (.inl q1)] at hv
  have hge := Float64.decode_ge hd
  have hs := Float64.shift_spec 1074 m 1 e (by omega)
  unfold Float64.p at hs
  have e0 : ((0 : Int) + ((1074 : Nat) : Int)).toNat = 1074 := rfl
  rw [e0] at hs
  generalize (shift m 1 e).1 = a at *
  generalize (shift m 1 e).2 = b at *
  have hv' : m * 2 ^ (e + ((1074 : Nat) : Int)).toNat = nearQ N D * 2 ^ (nearK N D + 874) := hv
  refine Nat.eq_of_mul_eq_mul_right (Nat.two_pow_pos 874) ?_
  calc a * 2 ^ 200 * 2 ^ 874 = a * 1 * 2 ^ 1074 := by rw [Nat.mul_assoc, ← Nat.pow_add, Nat.mul_one]
    _ = m * b * 2 ^ (e + ((1074 : Nat) : Int)).toNat := hs
    _ = m * 2 ^ (e + ((1074 : Nat) : Int)).toNat * b := by ac_rfl
    _ = nearQ N D * 2 ^ (nearK N D + 874) * b := by rw [hv']
    _ = nearQ N D * 2 ^ nearK N D * b * 2 ^ 874 := by rw [Nat.pow_add]; ac_rfl
/-- the double's digits -/
theorem frac_say (s : Bool) {N D : Nat} (hN0 : 0 < N) (hN : N < 2 ^ 210) (hD0 : 0 < D) (hD : D ≤ 100000) (g : Nat) :
    fltText (Float64.ofFrac s N D) g = S (fltSay s (halfEven (nearQ N D * 2 ^ nearK N D * 10 ^ g) (2 ^ 200)) g) := by
  obtain ⟨m, e, hd, hr⟩ := frac_near s hN0 hN hD0 hD
  rw [flt_text hd g]
  congr 2
  refine he_ratio (Float64.shift_pos m 1 e (by decide)) (Nat.two_pow_pos _) ?_
  calc (shift m 1 e).1 * 10 ^ g * 2 ^ 200 = (shift m 1 e).1 * 2 ^ 200 * 10 ^ g := by ac_rfl
    _ = nearQ N D * 2 ^ nearK N D * (shift m 1 e).2 * 10 ^ g := by rw [hr]
    _ = nearQ N D * 2 ^ nearK N D * 10 ^ g * (shift m 1 e).2 := by ac_rfl
theorem frac_fin (s : Bool) {N D : Nat} (hN0 : 0 < N) (hN : N < 2 ^ 210) (hD0 : 0 < D) (hD : D ≤ 100000) : Float64.isFinite (Float64.ofFrac s N D) = true := by
  obtain ⟨m, e, hd, _⟩ := frac_near s hN0 hN hD0 hD
  unfold Float64.isFinite
  rw [hd]
end Mine
end
section
open PySem.Spec PySem.Calls
set_option maxHeartbeats 4000000
set_option hygiene false
set_option linter.unusedVariables false
namespace Mine
local macro_rules | `(tactic| k_steps) => `(tactic| repeat' (first | (k_unfold; (try dsimp only)) | (walk1 <;> (try dsimp only)) | (dsimp only; walk1) | (leave1; walk_say "STEP leave1"; try dsimp only) | fail "no step"))
open Builtin.Str PySem.NumText
open StrLaws (At)
theorem S_list (l : List Nat) : (S l).cps.toList = l := by simp [S]
theorem S_of (x : Str) : S x.cps.toList = x := by cases x; simp [S]
theorem S_cat (a b : List Nat) : S a ++ S b = S (a ++ b) := by
  show Str.mk ((S a).cps ++ (S b).cps) = _
  simp [S]
theorem S_eq {x : Str} {l : List Nat} (h : x.cps.toList = l) : x = S l := by rw [← h, S_of]
theorem os_S (s : String) : Str.ofString s = S (s.toList.map Char.toNat) := S_eq (signs_ofString s)
theorem os_comma : Str.ofString "," = S [44] := by decide +kernel
theorem os_dot : Str.ofString "." = S [46] := by decide +kernel
theorem os_minus : Str.ofString "-" = S [45] := by decide +kernel
theorem os_blank : Str.ofString " " = S [32] := by decide +kernel
theorem os_empty : Str.ofString "" = S [] := by decide +kernel
theorem os_and : Str.ofString " and " = S [32, 97, 110, 100, 32] := by decide +kernel
theorem os_sep : Str.ofString ", " = S [44, 32] := by decide +kernel
theorem os_zero : Str.ofString "0" = S [48] := by decide +kernel
theorem em_S : Str.empty = S [] := by decide +kernel
theorem S_sub (l : List Nat) (i j : Nat) : strSub (S l) i j = S ((l.drop i).take (j - i)) := S_eq (by rw [StrLaws.strSub_toList, S_list])
/-- digits -/
theorem dgN_digit (n : Nat) : ∀ c ∈ dgN n, 48 ≤ c ∧ c ≤ 57 := by
  intro c hc
  unfold dgN at hc
  obtain ⟨ch, hch, e⟩ := List.mem_map.mp hc
  have r := digit_range (Nat.isDigit_of_mem_toDigits (by decide) (by decide) hch)
  rw [← e]
  exact r
theorem dgN_back (n : Nat) : digitsVal (dgN n) = n := KIN.val_back n
theorem dgN_small {d : Nat} (h : d < 10) : dgN d = [48 + d] := by
  unfold dgN
  rw [Nat.toDigits_of_lt_base h, digitChar_of d h]
  show [(Char.ofNat (48 + d)).toNat] = _
  have : ∀ d : Nat, d < 10 → (Char.ofNat (48 + d)).toNat = 48 + d := by decide
  rw [this d h]
theorem dgN_snoc {n d : Nat} (hn : 0 < n) (hd : d < 10) : dgN (n * 10 + d) = dgN n ++ [48 + d] := by
  rw [← dgN_small hd]
  unfold dgN
  rw [← List.map_append, Nat.toDigits_append_toDigits (by decide) hn hd, Nat.mul_comm]
/-- the text of a whole number -/
def numL (n : Int) : List Nat := (if n < 0 then [45] else []) ++ dgN n.natAbs
theorem num_S (n : Int) : Str.ofString (toString n) = S (numL n) := by
  rcases n with m | m
  · exact text_ofNat m
  · refine S_eq ?_
    rw [signs_ofString]
    have e : (toString (Int.negSucc m)).toList = '-' :: Nat.toDigits 10 (m + 1) := by
      show ("-" ++ Nat.repr (m + 1)).toList = _
      rw [String.toList_append, Nat.toList_repr]
      rfl
    rw [e]
    unfold numL dgN
    rw [if_pos (Int.negSucc_lt_zero m)]
    rfl
/-- what _law_commas says -/
theorem item_S (l : List Nat) (k : Nat) (h : k < l.length) : Txt.item (S l) k = S [l[k]] := by
  unfold Txt.item Txt.charAt seqIndex?
  have e : (S l).length = l.length := S_len l
  simp only [e]
  have h0 : ¬ ((k : Int) < 0) := by omega
  have h1 : (0 : Int) ≤ (k : Int) ∧ (k : Int) < (l.length : Int) := by omega
  simp [S, h0, h1, h]
theorem fmod3 (a b : Nat) (h : b ≤ a) : (((a : Int) - (b : Int)).fmod 3 = 0) ↔ (a - b) % 3 = 0 := by
  have e : (a : Int) - (b : Int) = ((a - b : Nat) : Int) := by omega
  rw [e, Int.fmod_eq_emod_of_nonneg _ (by decide)]
  omega
theorem com_step (l : List Nat) (k : Nat) (h : k < l.length) : pyComAt (S l) k ++ S (comL (l.drop (k + 1))) = S (comL (l.drop k)) := by
  unfold pyComAt
  rw [item_S l k h, S_len, List.drop_eq_getElem_cons h]
  have e : (l.length : Int) - 1 - (k : Int) = ((l.length : Nat) : Int) - ((k + 1 : Nat) : Int) := by omega
  unfold comL
  rw [comG, e]
  have h1 : (l.drop (k + 1) ≠ [] ∧ (l.drop (k + 1)).length % 3 = 0) ↔ (((l.length : Nat) : Int) - ((k + 1 : Nat) : Int) > 0 ∧ (((l.length : Nat) : Int) - ((k + 1 : Nat) : Int)).fmod 3 = 0) := by
    rw [fmod3 _ _ (by omega), List.length_drop, ne_eq, List.drop_eq_nil_iff]
    constructor <;> intro ⟨a, b⟩ <;> exact ⟨by omega, b⟩
  by_cases hc : l.drop (k + 1) ≠ [] ∧ (l.drop (k + 1)).length % 3 = 0
  · rw [if_pos hc, if_pos (h1.mp hc), os_comma, S_cat, S_cat]
    rfl
  · rw [if_neg hc, if_neg (fun q => hc (h1.mpr q)), os_empty, S_cat, S_cat]
    rfl
theorem com_rest (l : List Nat) : ∀ k, k ≤ l.length → pyCom (S l) k ++ S (comL (l.drop k)) = S (comL l)
  | 0, _ => by
    show Str.ofString "" ++ _ = _
    rw [os_empty, S_cat]
    rfl
  | k + 1, h => by
    show pyCom (S l) k ++ pyComAt (S l) k ++ _ = _
    have e : pyCom (S l) k ++ pyComAt (S l) k ++ S (comL (l.drop (k + 1))) = pyCom (S l) k ++ (pyComAt (S l) k ++ S (comL (l.drop (k + 1)))) := by
      refine (S_eq ?_).trans (S_eq rfl).symm
      simp only [Str.cps_append, Array.toList_append, List.append_assoc]
    rw [e, com_step l k (by omega)]
    exact com_rest l k (by omega)
theorem com_S (l : List Nat) : pyCom (S l) (S l).length = S (comL l) := by
  have h := com_rest l l.length (Nat.le_refl _)
  rw [List.drop_length] at h
  rw [S_len, ← h]
  show _ = _ ++ S []
  refine (S_eq ?_).trans (S_of _)
  simp [Str.cps_append, S]
/-- a text without its commas -/
theorem join_filter (c : Nat) : ∀ parts : List Str, (∀ p ∈ parts, c ∉ p.cps.toList) → (Str.join ⟨#[c]⟩ parts).cps.toList.filter (· != c) = (Str.join (S []) parts).cps.toList
  | [], _ => rfl
  | [p], h => by
    refine List.filter_eq_self.mpr fun a ha => ?_
    have : a ≠ c := fun e => h p (.head _) (e ▸ ha)
    simpa using this
  | p :: q :: r, h => by
    have ih := join_filter c (q :: r) fun a ha => h a (.tail _ ha)
    show (p ++ ⟨#[c]⟩ ++ Str.join ⟨#[c]⟩ (q :: r)).cps.toList.filter _ = (p ++ S [] ++ Str.join (S []) (q :: r)).cps.toList
    simp only [Str.cps_append, Array.toList_append, List.filter_append]
    rw [ih]
    have e1 : p.cps.toList.filter (· != c) = p.cps.toList := List.filter_eq_self.mpr fun a ha => by
      have : a ≠ c := fun e => h p (.head _) (e ▸ ha)
      simpa using this
    rw [e1]
    simp [S]
theorem repl_S (l : List Nat) : Txt.replace (S l) (Str.ofString ",") (Str.ofString "") = S (l.filter (· != 44)) := by
  rw [os_comma, os_empty]
  refine S_eq ?_
  show (Txt.replace (S l) ⟨#[44]⟩ (S [])).cps.toList = _
  rw [StrLaws.replace_one, ← join_filter 44 _ (StrLaws.split_free _ 44), StrLaws.join_split, S_list]
theorem comG_filter (l : List Nat) : ∀ (_ : ∀ c ∈ l, c ≠ 44), (comL l).filter (· != 44) = l := by
  unfold comL
  induction l with
  | nil => intro _; rfl
  | cons a r ih =>
    intro h
    have ha : (a != 44) = true := by simpa using h a (.head _)
    have ih' := ih fun c hc => h c (.tail _ hc)
    unfold comG
    split
    · rw [List.filter_cons, if_pos ha, List.filter_cons, if_neg (by decide), ih']
    · rw [List.filter_cons, if_pos ha, ih']
theorem no_comma {l : List Nat} (h : ∀ c ∈ l, c ≠ 44) : l.filter (· != 44) = l := List.filter_eq_self.mpr fun a ha => by simpa using h a ha
theorem comL_mem {l : List Nat} {c : Nat} (h : c ∈ comL l) : c = 44 ∨ c ∈ l := by
  unfold comL at h
  induction l with
  | nil => exact nomatch h
  | cons a r ih =>
    unfold comG at h
    split at h
    · rcases List.mem_cons.mp h with rfl | h
      · exact .inr (.head _)
      rcases List.mem_cons.mp h with rfl | h
      · exact .inl rfl
      · rcases ih h with e | e
        · exact .inl e
        · exact .inr (.tail _ e)
    · rcases List.mem_cons.mp h with rfl | h
      · exact .inr (.head _)
      · rcases ih h with e | e
        · exact .inl e
        · exact .inr (.tail _ e)
theorem comL_ne {l : List Nat} (h : l ≠ []) : comL l ≠ [] := by
  unfold comL
  cases l with
  | nil => exact absurd rfl h
  | cons a r => unfold comG; split <;> simp
end Mine
end
section
open PySem.Spec PySem.Calls
set_option maxHeartbeats 4000000
set_option hygiene false
set_option linter.unusedVariables false
namespace Mine
local macro_rules | `(tactic| k_steps) => `(tactic| repeat' (first | (k_unfold; (try dsimp only)) | (walk1 <;> (try dsimp only)) | (dsimp only; walk1) | (leave1; walk_say "STEP leave1"; try dsimp only) | fail "no step"))
open Builtin.Str PySem.NumText
open StrLaws (At)
theorem at_S (l y : List Nat) (i : Nat) : At (S l) (S y) (S l).length i ↔ i + y.length ≤ l.length ∧ (l.drop i).take y.length = y := by
  unfold StrLaws.At
  rw [StrLaws.subAt_eq, S_len, S_len, S_list, S_list, beq_iff_eq]
/-- texts glued by a sign list -/
def joinL (y : List Nat) : List (List Nat) → List Nat
  | [] => []
  | [a] => a
  | a :: b :: r => a ++ y ++ joinL y (b :: r)
theorem joinL_S (y : List Nat) : ∀ F : List (List Nat), Str.join (S y) (F.map S) = S (joinL y F)
  | [] => em_S
  | [a] => rfl
  | a :: b :: r => by
    show S a ++ S y ++ Str.join (S y) ((b :: r).map S) = _
    rw [joinL_S y (b :: r), S_cat, S_cat]
    rfl
theorem txtjoin_S (y : List Nat) (F : List (List Nat)) : Txt.join (S y) (F.map S) = S (joinL y F) := by
  rw [← joinL_S]
  exact StrLaws.glued_eq_join _ _
theorem no_at {l : List Nat} {k : Nat} (hk : l[k + 1]? ≠ some 32) : ¬ At (S l) (S [44, 32]) (S l).length k := by
  rw [at_S]
  rintro ⟨h1, h2⟩
  have : ((l.drop k).take 2)[1]? = some 32 := by
    have e : [44, 32].length = 2 := rfl
    rw [e] at h2
    rw [h2]
    rfl
  rw [List.getElem?_take_of_lt (by decide), List.getElem?_drop] at this
  exact hk this
theorem parts_S (l : List Nat) : ∀ (F : List (List Nat)) (a : Nat) (cuts : List Nat) (f : Nat), F ≠ [] → (∀ w ∈ F, ∀ c ∈ w, c ≠ 32) → l.drop a = joinL [44, 32] F → a ≤ l.length →
    StrLaws.ChainG (S l) (S [44, 32]) (S l).length a cuts f → (∀ k, f ≤ k → ¬ At (S l) (S [44, 32]) (S l).length k) → StrLaws.partsFrom (S l) 2 a cuts = F.map S
  | [], _, _, _, h, _, _, _, _, _ => absurd rfl h
  | [w], a, cuts, f, _, hw, hd, ha, hG, hn => by
    have hd' : l.drop a = w := hd
    have none : ∀ k, a ≤ k → ¬ At (S l) (S [44, 32]) (S l).length k := by
      intro k hk
      refine no_at fun e => ?_
      have e2 : w[k + 1 - a]? = some 32 := by
        rw [← hd', List.getElem?_drop, ← e]
        congr 1
        omega
      exact hw w (.head _) 32 (List.mem_of_getElem? e2) rfl
    cases cuts with
    | nil =>
      show [strSub (S l) a (S l).length] = [S w]
      rw [S_sub, S_len, List.take_of_length_le (by simp), hd']
    | cons c r => exact absurd hG.2.1 (none c hG.1)
  | w :: v :: r, a, cuts, f, _, hw, hd, ha, hG, hn => by
    have hd' : l.drop a = w ++ [44, 32] ++ joinL [44, 32] (v :: r) := hd
    have hlen := congrArg List.length hd'
    simp only [List.length_drop, List.length_append, List.length_cons, List.length_nil] at hlen
    have hget : ∀ j, l[a + j]? = (w ++ [44, 32] ++ joinL [44, 32] (v :: r))[j]? := by
      intro j
      rw [← hd', List.getElem?_drop]
    have here : At (S l) (S [44, 32]) (S l).length (a + w.length) := by
      rw [at_S]
      refine ⟨by simp; omega, ?_⟩
      rw [← List.drop_drop, hd', List.append_assoc, List.drop_left]
      rfl
    have less : ∀ k, a ≤ k → k < a + w.length → ¬ At (S l) (S [44, 32]) (S l).length k := by
      intro k hk hk2
      refine no_at fun e => ?_
      have e1 : k + 1 = a + (k + 1 - a) := by omega
      rw [e1, hget] at e
      by_cases hj : k + 1 - a < w.length
      · rw [List.append_assoc, List.getElem?_append_left hj] at e
        exact hw w (.head _) 32 (List.mem_of_getElem? e) rfl
      · have e2 : k + 1 - a = w.length := by omega
        rw [e2, List.append_assoc, List.getElem?_append_right (Nat.le_refl _), Nat.sub_self] at e
        exact absurd e (by simp)
    cases cuts with
    | nil =>
      have ef : f = a := hG
      exact absurd here (hn _ (by omega))
    | cons c r' =>
      obtain ⟨g1, g2, g3, g4⟩ := hG
      have hc : c = a + w.length := by
        rcases Nat.lt_trichotomy c (a + w.length) with q | q | q
        · exact absurd g2 (less c g1 q)
        · exact q
        · exact absurd here (g3 _ (by omega) q)
      subst hc
      show strSub (S l) a (a + w.length) :: StrLaws.partsFrom (S l) 2 (a + w.length + 2) r' = S w :: (v :: r).map S
      have e1 : strSub (S l) a (a + w.length) = S w := by
        rw [S_sub, hd', Nat.add_sub_cancel_left, List.append_assoc, List.take_left]
      have e2 : l.drop (a + w.length + 2) = joinL [44, 32] (v :: r) := by
        rw [Nat.add_assoc, ← List.drop_drop, hd', ← List.drop_drop, List.append_assoc, List.drop_left]
        rfl
      rw [e1, parts_S l (v :: r) (a + w.length + 2) r' f (by simp) (fun w' h' => hw w' (.tail _ h')) e2 (by omega) g4 hn]
theorem kind_ge (x : Str) : 1 ≤ Builtin.Str.strKind x := by
  unfold Builtin.Str.strKind
  split
  · exact Nat.le_refl _
  · split <;> decide
theorem kind_sep : Builtin.Str.strKind (S [44, 32]) = 1 := by decide +kernel
theorem split_S (F : List (List Nat)) (hF : F ≠ []) (hw : ∀ w ∈ F, ∀ c ∈ w, c ≠ 32) : Txt.split (S (joinL [44, 32] F)) (S [44, 32]) = F.map S := by
  have hocc := StrLaws.occ_tight (S (joinL [44, 32] F)) (S [44, 32]) (by rw [S_len]; decide)
  obtain ⟨f, hG, hn⟩ := hocc
  have key := fun cuts (e : occurrences (S (joinL [44, 32] F)) (S [44, 32]) 0 (S (joinL [44, 32] F)).length ((S (joinL [44, 32] F)).length + 1) = cuts) => parts_S (joinL [44, 32] F) F 0 cuts f hF hw rfl (Nat.zero_le _) (e ▸ hG) hn
  unfold Txt.split
  split
  · rename_i hc
    rw [Bool.or_eq_true, decide_eq_true_eq, decide_eq_true_eq, kind_sep] at hc
    have := kind_ge (S (joinL [44, 32] F))
    have hlt : (S (joinL [44, 32] F)).length < 2 := by
      rcases hc with h | h
      · exact h
      · omega
    rcases F with _ | ⟨w, _ | ⟨v, r⟩⟩
    · exact absurd rfl hF
    · rfl
    · exfalso
      rw [S_len] at hlt
      simp [joinL] at hlt
      omega
  · split
    · rename_i he
      have e0 := List.isEmpty_iff.mp he
      have := key [] e0
      rw [← this]
      show [S _] = [strSub _ 0 _]
      rw [StrLaws.sub_whole]
    · rw [StrLaws.partsBetween_eq]
      exact key _ rfl
/-- the last « and » -/
theorem rpart_S (a z : List Nat) (hz : ∀ c ∈ z, c ≠ 32) : Txt.rpartition (S (a ++ [32, 97, 110, 100, 32] ++ z)) (S [32, 97, 110, 100, 32]) = (S a, S [32, 97, 110, 100, 32], S z) := by
  have hat : At (S (a ++ [32, 97, 110, 100, 32] ++ z)) (S [32, 97, 110, 100, 32]) (S (a ++ [32, 97, 110, 100, 32] ++ z)).length a.length := by
    rw [at_S]
    refine ⟨by simp, ?_⟩
    rw [List.append_assoc, List.drop_left]
    rfl
  have hno : ∀ k, a.length < k → ¬ At (S (a ++ [32, 97, 110, 100, 32] ++ z)) (S [32, 97, 110, 100, 32]) (S (a ++ [32, 97, 110, 100, 32] ++ z)).length k := by
    intro k hk h
    rw [at_S] at h
    obtain ⟨h1, h2⟩ := h
    have e : (((a ++ [32, 97, 110, 100, 32] ++ z).drop k).take 5)[4]? = some 32 := by
      have e5 : [32, 97, 110, 100, 32].length = 5 := rfl
      rw [e5] at h2
      rw [h2]
      rfl
    rw [List.getElem?_take_of_lt (by decide), List.getElem?_drop, List.getElem?_append_right (by simp; omega)] at e
    exact hz 32 (List.mem_of_getElem? e) rfl
  unfold Txt.rpartition
  rcases StrLaws.last_spec (S (a ++ [32, 97, 110, 100, 32] ++ z)) (S [32, 97, 110, 100, 32]) with ⟨_, h⟩ | ⟨i, hi, h1, h2⟩
  · exact absurd hat (h _)
  · have e : i = a.length := by
      rcases Nat.lt_trichotomy i a.length with q | q | q
      · exact absurd hat (h2 _ q)
      · exact q
      · exact absurd h1 (hno _ q)
    rw [hi, e]
    show (strSub _ 0 _, _, strSub _ _ _) = _
    have e3 : (a ++ [32, 97, 110, 100, 32] ++ z).drop (a.length + 5) = z := by
      rw [← List.drop_drop, List.append_assoc, List.drop_left]
      rfl
    rw [S_sub, S_sub, S_len, S_len]
    have e4 : [32, 97, 110, 100, 32].length = 5 := rfl
    rw [e4, e3, List.drop_zero, Nat.sub_zero, List.append_assoc, List.take_left, List.take_of_length_le (by simp; omega)]
theorem rpart_none (a : List Nat) (hz : ∀ c ∈ a, c ≠ 32) : Txt.rpartition (S a) (S [32, 97, 110, 100, 32]) = (S [], S [], S a) := by
  unfold Txt.rpartition
  rcases StrLaws.last_spec (S a) (S [32, 97, 110, 100, 32]) with ⟨e, h⟩ | ⟨i, hi, h1, h2⟩
  · rw [e]
    show (Str.empty, Str.empty, _) = _
    rw [em_S]
  · exfalso
    rw [at_S] at h1
    obtain ⟨q1, q2⟩ := h1
    have e : ((a.drop i).take 5)[0]? = some 32 := by
      have e5 : [32, 97, 110, 100, 32].length = 5 := rfl
      rw [e5] at q2
      rw [q2]
      rfl
    rw [List.getElem?_take_of_lt (by decide), List.getElem?_drop] at e
    exact hz 32 (List.mem_of_getElem? e) rfl
/-- a word that no blank parts -/
def Clean (w : Str) : Prop := w.length < 400 ∧ w.cps.toList ≠ [] ∧ ∀ c ∈ w.cps.toList, c ≠ 32
theorem joinL_len (F : List (List Nat)) (h : ∀ w ∈ F, w.length < 400) : (joinL [44, 32] F).length ≤ F.length * 402 := by
  induction F with
  | nil => simp [joinL]
  | cons a r ih =>
    have ih' := ih fun w hw => h w (.tail _ hw)
    have ha := h a (.head _)
    cases r with
    | nil => simp [joinL]; omega
    | cons b q => simp only [joinL, List.length_append, List.length_cons, List.length_nil] at ih' ⊢; omega
theorem nat_many (F : List (List Nat)) (hF : F ≠ []) (z : List Nat) : pyNat (F.map S ++ [S z]) = S (joinL [44, 32] F ++ [32, 97, 110, 100, 32] ++ z) := by
  rcases F with _ | ⟨a, _ | ⟨b, r⟩⟩
  · exact absurd rfl hF
  · show Str.empty ++ S a ++ Str.ofString " and " ++ S z = _
    rw [em_S, os_and, S_cat, S_cat, S_cat]
    rfl
  · rw [pyNat_many _ _ (by simp), os_sep, txtjoin_S, em_S, os_and, S_cat, S_cat, S_cat, List.nil_append, List.append_assoc]
theorem back_nat {ws : List Str} (h5 : ws.length ≤ 5) (hw : ∀ w ∈ ws, Clean w) : (pyNat ws).length < 100000 ∧ (Txt.rpartition (pyNat ws) (Str.ofString " and ")).1.length < 100000 ∧ (Txt.split (Txt.rpartition (pyNat ws) (Str.ofString " and ")).1 (Str.ofString ", ")).length < 1000 ∧ pyBack (pyNat ws) = ws := by
  obtain ⟨G, rfl⟩ : ∃ G : List (List Nat), ws = G.map S := ⟨ws.map fun w => w.cps.toList, by rw [List.map_map]; simp [Function.comp_def, S_of]⟩
  have hw1 : ∀ w ∈ G, w.length < 400 ∧ w ≠ [] ∧ ∀ c ∈ w, c ≠ 32 := by
    intro w h
    have := hw (S w) (List.mem_map_of_mem h)
    unfold Clean at this
    rwa [S_len, S_list] at this
  rw [List.length_map] at h5
  clear hw
  rcases List.eq_nil_or_concat G with rfl | ⟨F, z, rfl⟩
  · refine ⟨by decide +kernel, by decide +kernel, by decide +kernel, by decide +kernel⟩
  · rw [List.concat_eq_append] at hw1 h5 ⊢
    have hz := hw1 z (List.mem_append_right _ (.head _))
    have hFw : ∀ w ∈ F, w.length < 400 ∧ w ≠ [] ∧ ∀ c ∈ w, c ≠ 32 := fun w h => hw1 w (List.mem_append_left _ h)
    rw [List.length_append, List.length_singleton] at h5
    have hJ := joinL_len F fun w h => (hFw w h).1
    rw [List.map_append, List.map_singleton]
    by_cases hF : F = []
    · subst hF
      show (S z).length < _ ∧ _
      have e : pyNat (List.map S [] ++ [S z]) = S z := rfl
      rw [e, os_and, os_sep, rpart_none z hz.2.2, S_len]
      refine ⟨by omega, by rw [S_len]; decide, ?_, ?_⟩
      · have := split_S [[]] (by simp) (by simp)
        rw [show joinL [44, 32] [[]] = [] from rfl] at this
        rw [this]
        decide
      · unfold pyBack
        rw [os_empty, if_neg (by intro e; exact hz.2.1 (by have := congrArg (fun x : Str => x.cps.toList) e; simpa [S] using this)), os_and, rpart_none z hz.2.2]
        rfl
    · rw [nat_many F hF, os_and, os_sep, rpart_S _ _ hz.2.2, S_len, S_len, split_S F hF fun w h => (hFw w h).2.2, List.length_map]
      simp only [List.length_append, List.length_cons, List.length_nil]
      refine ⟨by omega, by omega, by omega, ?_⟩
      unfold pyBack
      rw [os_empty, if_neg (by intro e; have := congrArg (fun x : Str => x.cps.toList) e; simp [S] at this), os_and, rpart_S _ _ hz.2.2, os_sep, split_S F hF fun w h => (hFw w h).2.2]
      rfl
end Mine
end
section
open PySem.Spec PySem.Calls
set_option maxHeartbeats 4000000
set_option hygiene false
set_option linter.unusedVariables false
namespace Mine
local macro_rules | `(tactic| k_steps) => `(tactic| repeat' (first | (k_unfold; (try dsimp only)) | (walk1 <;> (try dsimp only)) | (dsimp only; walk1) | (leave1; walk_say "STEP leave1"; try dsimp only) | fail "no step"))
open Builtin.Str PySem.NumText
/-- signs that are a minus, a dot or a figure -/
def NumSigns (l : List Nat) : Prop := ∀ c ∈ l, c = 45 ∨ c = 46 ∨ (48 ≤ c ∧ c ≤ 57)
def padL (k : Nat) (l : List Nat) : List Nat := List.replicate k 32 ++ l ++ List.replicate k 32
theorem drop_rep {α : Type} (p : α → Bool) (c : α) (hc : p c = true) : ∀ (k : Nat) (l : List α), (List.replicate k c ++ l).dropWhile p = l.dropWhile p
  | 0, _ => rfl
  | k + 1, l => by
    rw [List.replicate_succ, List.cons_append, List.dropWhile_cons, if_pos hc]
    exact drop_rep p c hc k l
theorem drop_head {α : Type} (p : α → Bool) (l r : List α) (hl : l ≠ []) (h : ∀ c ∈ l, p c = false) : (l ++ r).dropWhile p = l ++ r := by
  cases l with
  | nil => exact absurd rfl hl
  | cons a q =>
    rw [List.cons_append, List.dropWhile_cons, h a (.head _)]
    rfl
theorem strip_r {α : Type} (p : α → Bool) (c : α) (hc : p c = true) (k : Nat) (l : List α) (hl : l ≠ []) (h : ∀ c ∈ l, p c = false) : ((l ++ List.replicate k c).reverse.dropWhile p).reverse = l := by
  rw [List.reverse_append, List.reverse_replicate, drop_rep p c hc]
  have := drop_head p l.reverse [] (by simpa using hl) (fun c hc => h c (List.mem_reverse.mp hc))
  rw [List.append_nil] at this
  rw [this, List.reverse_reverse]
theorem strip_pad {α : Type} (p : α → Bool) (c : α) (hc : p c = true) (k : Nat) (l : List α) (hl : l ≠ []) (h : ∀ c ∈ l, p c = false) :
    (((List.replicate k c ++ l ++ List.replicate k c).dropWhile p).reverse.dropWhile p).reverse = l := by
  rw [List.append_assoc, drop_rep p c hc, drop_head p l _ hl h, strip_r p c hc k l hl h]
theorem numL_signs (n : Int) : ∀ c ∈ numL n, c = 45 ∨ (48 ≤ c ∧ c ≤ 57) := by
  intro c hc
  unfold numL at hc
  rcases List.mem_append.mp hc with h | h
  · split at h
    · exact .inl (List.mem_singleton.mp h)
    · exact nomatch h
  · exact .inr (dgN_digit _ c h)
theorem pad_signs {k : Nat} {l : List Nat} (h : NumSigns l) : ∀ c ∈ padL k l, c = 32 ∨ c = 45 ∨ c = 46 ∨ (48 ≤ c ∧ c ≤ 57) := by
  intro c hc
  unfold padL at hc
  rcases List.mem_append.mp hc with hc | hc
  · rcases List.mem_append.mp hc with hc | hc
    · exact .inl (List.mem_replicate.mp hc).2
    · exact .inr (h c hc)
  · exact .inl (List.mem_replicate.mp hc).2
theorem pad_text {k : Nat} {l : List Nat} (h : NumSigns l) : numTextOf (S (padL k l)) = padL k l ∧ numSeenOf (S (padL k l)) = padL k l := by
  have e1 : numTextOf (S (padL k l)) = padL k l := by
    refine (if_pos ?_).trans (S_list _)
    rw [← Array.all_toList, S_list, List.all_eq_true]
    intro c hc
    have := pad_signs h c hc
    exact decide_eq_true (by omega)
  refine ⟨e1, ?_⟩
  show (numTextOf _).takeWhile _ = _
  rw [e1]
  refine takeWhile_all fun c hc => ?_
  have := pad_signs h c hc
  exact bne_iff_ne.mpr (by omega)
theorem intText_pad (k : Nat) (n : Int) (h : (dgN n.natAbs).length ≤ 4300) : PySem.intText? (S (padL k (numL n))) = some n := by
  have hs : NumSigns (numL n) := fun c hc => by have := numL_signs n c hc; omega
  obtain ⟨e1, e2⟩ := pad_text (k := k) hs
  unfold PySem.intText?
  rw [e1, e2, if_pos (beq_self_eq_true _)]
  have hb32 : blank 32 = true := by decide
  have hne : numL n ≠ [] := by unfold numL; simp [dgN_ne]
  have hbl : ∀ c ∈ numL n, blank c = false := fun c hc => blank_of (by have := numL_signs n c hc; omega)
  have ed : (padL k (numL n)).dropWhile blank = numL n ++ List.replicate k 32 := by
    unfold padL
    rw [List.append_assoc, drop_rep _ _ hb32, drop_head _ _ _ hne hbl]
  have es : sign ((padL k (numL n)).dropWhile blank) = (decide (n < 0), dgN n.natAbs ++ List.replicate k 32) := by
    rw [ed]
    unfold numL
    by_cases hn : n < 0
    · rw [if_pos hn, decide_eq_true hn]
      rfl
    · rw [if_neg hn, decide_eq_false hn, List.nil_append]
      cases hd : dgN n.natAbs with
      | nil => exact absurd hd (dgN_ne _)
      | cons c r =>
        have := dgN_digit n.natAbs c (by rw [hd]; exact .head _)
        rw [List.cons_append]
        exact sign_of (by omega) (by omega)
  have ec : core (padL k (numL n)) = dgN n.natAbs := by
    unfold core
    rw [es]
    exact strip_r blank 32 hb32 k _ (dgN_ne _) (fun c hc => blank_of (by have := dgN_digit _ c hc; omega))
  rw [ec, es, digits_of (dgN_digit _) (dgN_ne _)]
  have hsz := push_size (dgN n.natAbs) #[]
  have hv := push_foldl (dgN n.natAbs) #[]
  show (if _ ≤ 4300 then some (worth _ _) else none) = _
  rw [if_pos (by rw [hsz]; simp only [Array.size_empty]; omega)]
  unfold worth
  rw [hv]
  have hback := dgN_back n.natAbs
  unfold digitsVal at hback
  have e0 : (#[] : Array Nat).foldl (fun acc d => acc * 10 + d) 0 = 0 := rfl
  rw [e0, hback]
  congr 1
  by_cases hn : n < 0
  · rw [decide_eq_true hn, if_pos rfl]; omega
  · rw [decide_eq_false hn, if_neg (by simp)]; omega
/-- signs as letters -/
theorem ofNat_toNat {c : Nat} (h : c < 128) : (Char.ofNat c).toNat = c := by
  have : ∀ c : Nat, c < 128 → (Char.ofNat c).toNat = c := by decide
  exact this c h
theorem digit_char : ∀ c : Nat, 48 ≤ c ∧ c ≤ 57 → (Char.ofNat c).isDigit = true ∧ Float64.digitValue (Char.ofNat c) = c - 48 ∧ Float64.isSpace (Char.ofNat c) = false ∧ (Char.ofNat c).toLower = Char.ofNat c ∧ Char.ofNat c ≠ 'i' ∧ Char.ofNat c ≠ 'n' ∧ Char.ofNat c ≠ '-' ∧ Char.ofNat c ≠ '+' ∧ Char.ofNat c ≠ '_' := by
  have : ∀ c : Nat, c < 58 → 48 ≤ c ∧ c ≤ 57 → (Char.ofNat c).isDigit = true ∧ Float64.digitValue (Char.ofNat c) = c - 48 ∧ Float64.isSpace (Char.ofNat c) = false ∧ (Char.ofNat c).toLower = Char.ofNat c ∧ Char.ofNat c ≠ 'i' ∧ Char.ofNat c ≠ 'n' ∧ Char.ofNat c ≠ '-' ∧ Char.ofNat c ≠ '+' ∧ Char.ofNat c ≠ '_' := by decide +kernel
  intro c h
  exact this c (by omega) h
def chL (l : List Nat) : List Char := l.map Char.ofNat
theorem more_run : ∀ (d : List Nat) (r : List Char), AllDigits d → (r = [] ∨ ∃ q, r = '.' :: q) → Float64.moreDigits (chL d ++ r) = (chL d, r)
  | [], r, _, hr => by
    rcases hr with rfl | ⟨q, rfl⟩
    · rfl
    · show Float64.moreDigits ('.' :: q) = _
      unfold Float64.moreDigits
      rfl
  | c :: d, r, hd, hr => by
    have ih := more_run d r hd.tail hr
    have hc := digit_char c hd.head
    show Float64.moreDigits (Char.ofNat c :: (chL d ++ r)) = (Char.ofNat c :: chL d, r)
    rw [Float64.moreDigits]
    · rw [if_pos hc.1, ih]
    · intro c' r' e
      exact absurd e hc.2.2.2.2.2.2.2.2
theorem digit_run (d : List Nat) (r : List Char) (hd : AllDigits d) (hr : r = [] ∨ ∃ q, r = '.' :: q) : Float64.digitRun (chL d ++ r) = (chL d, r) := by
  cases d with
  | nil =>
    rcases hr with rfl | ⟨q, rfl⟩
    · rfl
    · rfl
  | cons c d =>
    have hc := digit_char c hd.head
    have := more_run d r hd.tail hr
    show Float64.digitRun (Char.ofNat c :: (chL d ++ r)) = (Char.ofNat c :: chL d, r)
    unfold Float64.digitRun
    dsimp only
    rw [if_pos hc.1, this]
theorem natOf_chL (d : List Nat) (hd : AllDigits d) : Float64.natOf 10 (chL d) = digitsVal d := by
  unfold Float64.natOf digitsVal chL
  rw [List.foldl_map]
  generalize 0 = a
  induction d generalizing a with
  | nil => rfl
  | cons c d ih =>
    rw [List.foldl_cons, List.foldl_cons, (digit_char c hd.head).2.1]
    exact ih hd.tail _
def sgL (b : Bool) : List Nat := if b then [45] else []
theorem read_sign (neg : Bool) (d : List Nat) (r : List Char) (hd : AllDigits d) (hne : d ≠ []) : Float64.readSign (chL (sgL neg ++ d) ++ r) = (neg, chL d ++ r) := by
  cases neg with
  | true => rfl
  | false =>
    cases d with
    | nil => exact absurd rfl hne
    | cons c d =>
      have hc := digit_char c hd.head
      show Float64.readSign (Char.ofNat c :: (chL d ++ r)) = (false, Char.ofNat c :: (chL d ++ r))
      unfold Float64.readSign
      split
      · rename_i e; injection e with e1; exact absurd e1 hc.2.2.2.2.2.2.1
      · rename_i e; injection e with e1; exact absurd e1 hc.2.2.2.2.2.2.2.1
      · rfl
theorem no_special (neg : Bool) (d : List Nat) (r : List Char) (hd : AllDigits d) (hne : d ≠ []) : Float64.readSpecial? (chL (sgL neg ++ d) ++ r) = none := by
  unfold Float64.readSpecial?
  rw [read_sign neg d r hd hne]
  cases d with
  | nil => exact absurd rfl hne
  | cons c d =>
    have hc := digit_char c hd.head
    have h1 : Float64.dropPrefix? "inf" (chL (c :: d) ++ r) = none := by
      unfold Float64.dropPrefix?
      rw [if_neg]
      intro e
      have e' := eq_of_beq e
      have e2 : "inf".toList = ['i', 'n', 'f'] := rfl
      have e3 : "inf".length = 3 := rfl
      rw [e2, e3] at e'
      have : ((chL (c :: d) ++ r).take 3).map Char.toLower = Char.ofNat c :: ((chL d ++ r).take 2).map Char.toLower := by
        show (Char.ofNat c).toLower :: _ = _
        rw [hc.2.2.2.1]
        rfl
      rw [this] at e'
      injection e' with e1 _
      exact hc.2.2.2.2.1 e1
    have h2 : Float64.dropPrefix? "nan" (chL (c :: d) ++ r) = none := by
      unfold Float64.dropPrefix?
      rw [if_neg]
      intro e
      have e' := eq_of_beq e
      have e2 : "nan".toList = ['n', 'a', 'n'] := rfl
      have e3 : "nan".length = 3 := rfl
      rw [e2, e3] at e'
      have : ((chL (c :: d) ++ r).take 3).map Char.toLower = Char.ofNat c :: ((chL d ++ r).take 2).map Char.toLower := by
        show (Char.ofNat c).toLower :: _ = _
        rw [hc.2.2.2.1]
        rfl
      rw [this] at e'
      injection e' with e1 _
      exact hc.2.2.2.2.2.1 e1
    dsimp only
    rw [h1, h2]
    rfl
/-- a number's text: a sign, figures, and figures behind a dot -/
def txtL (neg : Bool) (w : List Nat) (f : Option (List Nat)) : List Nat := sgL neg ++ w ++ (match f with | none => [] | some q => 46 :: q)
theorem txt_signs (neg : Bool) {w : List Nat} {f : Option (List Nat)} (hw : AllDigits w) (hf : AllDigits (f.getD [])) : NumSigns (txtL neg w f) := by
  intro c hc
  unfold txtL sgL at hc
  rcases List.mem_append.mp hc with hc | hc
  · rcases List.mem_append.mp hc with hc | hc
    · cases neg
      · exact nomatch hc
      · exact .inl (List.mem_singleton.mp hc)
    · exact .inr (.inr (hw c hc))
  · cases f with
    | none => exact nomatch hc
    | some q =>
      rcases List.mem_cons.mp hc with rfl | hc
      · exact .inr (.inl rfl)
      · exact .inr (.inr (hf c hc))
theorem space_sign : ∀ c : Nat, (c = 45 ∨ c = 46 ∨ (48 ≤ c ∧ c ≤ 57)) → Float64.isSpace (Char.ofNat c) = false := by
  intro c h
  rcases h with rfl | rfl | h
  · decide
  · decide
  · exact (digit_char c h).2.2.1
def dotC : Option (List Nat) → List Char
  | none => []
  | some q => '.' :: chL q
theorem parse_pad (k : Nat) (neg : Bool) (w : List Nat) (f : Option (List Nat)) (hw : AllDigits w) (hne : w ≠ []) (hf : AllDigits (f.getD [])) :
    Num.parseText? (S (padL k (txtL neg w f))) = some (Float64.ofDecimal neg (digitsVal (w ++ f.getD [])) (-((f.getD []).length : Int))) := by
  have hs := txt_signs neg hw hf
  obtain ⟨e1, _⟩ := pad_text (k := k) hs
  unfold Num.parseText?
  have e1' : (if (S (padL k (txtL neg w f))).cps.all (· < 128) then (S (padL k (txtL neg w f))).cps.toList else Unicode.numberText (S (padL k (txtL neg w f))).cps.toList) = padL k (txtL neg w f) := e1
  rw [e1']
  have hne2 : txtL neg w f ≠ [] := by unfold txtL; simp [hne]
  have e2 : (padL k (txtL neg w f)).map Char.ofNat = List.replicate k ' ' ++ chL (txtL neg w f) ++ List.replicate k ' ' := by
    unfold padL chL
    rw [List.map_append, List.map_append, List.map_replicate]
  have e3 := strip_pad Float64.isSpace ' ' (by decide) k (chL (txtL neg w f)) (by unfold chL; simpa using hne2) (by
    intro c hc
    obtain ⟨x, hx, rfl⟩ := List.mem_map.mp hc
    exact space_sign x (hs x hx))
  unfold Float64.parse?
  rw [e2]
  dsimp only
  rw [e3]
  have e4 : chL (txtL neg w f) = chL (sgL neg ++ w) ++ dotC f := by
    unfold txtL chL
    rw [List.map_append]
    cases f <;> rfl
  rw [e4, no_special neg w _ hw hne]
  dsimp only
  rw [read_sign neg w _ hw hne]
  dsimp only
  have hr : dotC f = [] ∨ ∃ q, dotC f = '.' :: q := by
    cases f
    · exact .inl rfl
    · exact .inr ⟨_, rfl⟩
  rw [digit_run w _ hw hr]
  have hcw : (chL w).isEmpty = false := by
    cases w with
    | nil => exact absurd rfl hne
    | cons => rfl
  cases f with
  | none =>
    simp only [dotC, hcw, Bool.false_and, Bool.false_eq_true, if_false, List.append_nil, natOf_chL w hw]
    simp
  | some q =>
    have hq : AllDigits q := hf
    have h5 := digit_run q [] hq (.inl rfl)
    rw [List.append_nil] at h5
    have hwq : AllDigits (w ++ q) := fun c hc => (List.mem_append.mp hc).elim (hw c) (hq c)
    have e6 : chL w ++ chL q = chL (w ++ q) := by unfold chL; rw [List.map_append]
    simp only [dotC, h5, hcw, Bool.false_and, Bool.false_eq_true, if_false, e6, natOf_chL _ hwq]
    simp [chL]
end Mine
end
section
open PySem.Spec PySem.Calls
set_option maxHeartbeats 4000000
set_option hygiene false
set_option linter.unusedVariables false
namespace Mine
local macro_rules | `(tactic| k_steps) => `(tactic| repeat' (first | (k_unfold; (try dsimp only)) | (walk1 <;> (try dsimp only)) | (dsimp only; walk1) | (leave1; walk_say "STEP leave1"; try dsimp only) | fail "no step"))
open Builtin.Str PySem.NumText
open Float64 (halfEven)
abbrev Big (n : Int) : Prop := Flt.Hid (n.natAbs < 10 ^ 60)
theorem p1060 : (10 : Nat) ^ 60 < 2 ^ 200 := by decide +kernel
theorem big_dg {n : Int} (h : Big n) : (dgN n.natAbs).length ≤ 60 := by
  unfold dgN
  rw [List.length_map]
  exact digits10_le (by decide) h.out
theorem big_210 {n : Int} (h : Big n) : n.natAbs < 2 ^ 210 :=
  Nat.lt_trans h.out (Nat.lt_trans p1060 (Nat.pow_lt_pow_right (by decide) (by decide)))
theorem log_of_lt {n k : Nat} (h : n < 2 ^ k) (hk : k ≤ 1900) : n.log2 < 1920 := by
  by_cases h0 : n = 0
  · subst h0; decide
  · have := (Nat.log2_lt h0).mpr h
    omega
theorem big_log {n : Int} (h : Big n) : n.natAbs.log2 < 1920 := log_of_lt (big_210 h) (by decide)
theorem numL_txt (n : Int) : numL n = txtL (decide (n < 0)) (dgN n.natAbs) none := by
  unfold numL txtL sgL
  by_cases h : n < 0 <;> simp [h]
/-- a decimal number's double -/
theorem repr_len (c : Nat) : (Nat.repr c).length = (dgN c).length := by
  unfold dgN
  rw [List.length_map, ← Nat.toList_repr]
  rfl
theorem dec_frac (neg : Bool) {c p : Nat} (hc : 0 < c) (hl : (dgN c).length ≤ 300) (hp : p ≤ 300) : Float64.ofDecimal neg c (-(p : Int)) = Float64.ofFrac neg c (10 ^ p) := by
  unfold Float64.ofDecimal
  rw [if_neg (by simp; omega), repr_len]
  dsimp only
  rw [if_neg (by omega), if_neg (by omega)]
  unfold Float64.shift10
  by_cases h : p = 0
  · subst h
    simp
  · rw [if_neg (by omega)]
    simp
theorem dec_zero (neg : Bool) (q : Int) : Float64.ofDecimal neg 0 q = Float64.zero neg := by
  unfold Float64.ofDecimal
  rw [if_pos (by rfl)]
theorem zero_fin (neg : Bool) : Float64.isFinite (Float64.zero neg) = true := by cases neg <;> decide +kernel
theorem frac_zero (neg : Bool) (d : Nat) : Float64.ofFrac neg 0 d = Float64.zero neg := by
  unfold Float64.ofFrac Float64.roundMag Float64.zero
  rw [if_pos (by rfl)]
theorem dec_fin (neg : Bool) {c : Nat} (h : c < 10 ^ 60) : Float64.isFinite (Float64.ofDecimal neg c (-((0 : Nat) : Int))) = true := by
  by_cases hc : c = 0
  · subst hc
    rw [dec_zero]
    exact zero_fin neg
  · have hl : (dgN c).length ≤ 60 := by
      unfold dgN
      rw [List.length_map]
      exact digits10_le (by decide) h
    rw [dec_frac neg (by omega) (by omega) (by decide)]
    exact frac_fin neg (by omega) (Nat.lt_trans h (Nat.lt_trans p1060 (Nat.pow_lt_pow_right (by decide) (by decide)))) (by decide) (by decide)
/-- reading the words of a whole number -/
structure ReadsInt (x y : Str) (n : Int) (b : UInt64) : Prop where
  hx8 : x.length < 1000
  hy8 : y.length < 1000
  hy7 : y.length ≤ 640
  hY : Txt.replace x (Str.ofString ",") (Str.ofString "") = y
  hb : Num.parseText? y = some b
  hx9 : Float64.isFinite b = true
  hdot : (Builtin.Str.occurrences y (Str.ofString ".") 0 y.length 1).isEmpty = true
  hnn : PySem.intText? y = some n
  hn9 : n.natAbs.log2 < 1920
theorem numL_len {n : Int} (h : Big n) : (numL n).length ≤ 61 := by
  have := big_dg h
  unfold numL
  rw [List.length_append]
  split <;> simp <;> omega
theorem pad_len (k : Nat) (l : List Nat) : (padL k l).length = k + l.length + k := by
  unfold padL
  simp
  omega
theorem dot_none {l : List Nat} (h : ∀ c ∈ l, c ≠ 46) : (Builtin.Str.occurrences (S l) (Str.ofString ".") 0 (S l).length 1).isEmpty = true := by
  have e : Str.ofString "." = ⟨#[46]⟩ := os_dot
  rw [e, empty_one, S_list, Bool.not_eq_true', decide_eq_false_iff_not]
  exact fun hm => h 46 hm rfl
theorem dot_some {l : List Nat} (h : 46 ∈ l) : (Builtin.Str.occurrences (S l) (Str.ofString ".") 0 (S l).length 1).isEmpty = false := by
  have e : Str.ofString "." = ⟨#[46]⟩ := os_dot
  rw [e, empty_one, S_list, Bool.not_eq_false', decide_eq_true_eq]
  exact h
theorem reads_int {n : Int} (hB : Big n) (k : Nat) (hk : k ≤ 1) (l : List Nat) (hl : l.length < 1000) (hf : l.filter (· != 44) = padL k (numL n)) :
    ReadsInt (S l) (S (padL k (numL n))) n (Float64.ofDecimal (decide (n < 0)) n.natAbs (-((0 : Nat) : Int))) := by
  have h1 := numL_len hB
  have h2 := pad_len k (numL n)
  have h3 := big_dg hB
  have hs : NumSigns (numL n) := fun c hc => by have := numL_signs n c hc; omega
  refine ⟨by rw [S_len]; exact hl, by rw [S_len]; omega, by rw [S_len]; omega, by rw [repl_S, hf], ?_, dec_fin _ hB.out, dot_none ?_, intText_pad k n (by omega), big_log hB⟩
  · have := parse_pad k (decide (n < 0)) (dgN n.natAbs) none (dgN_digit _) (dgN_ne _) (fun c hc => nomatch hc)
    rw [← numL_txt] at this
    rw [this]
    simp [dgN_back]
  · intro c hc
    unfold padL at hc
    have hn : ∀ c ∈ numL n, c ≠ 46 := fun c hc => by have := numL_signs n c hc; omega
    rcases List.mem_append.mp hc with hc | hc
    · rcases List.mem_append.mp hc with hc | hc
      · rw [(List.mem_replicate.mp hc).2]; decide
      · exact hn c hc
    · rw [(List.mem_replicate.mp hc).2]; decide
theorem dg_no44 (n : Nat) : ∀ c ∈ dgN n, c ≠ 44 := fun c hc => by have := dgN_digit n c hc; omega
theorem sg_no44 (n : Int) : (if n < 0 then [45] else ([] : List Nat)).filter (· != 44) = (if n < 0 then [45] else []) := by split <;> rfl
theorem reads_num {n : Int} (hB : Big n) : ReadsInt (Str.ofString (toString n)) (S (padL 0 (numL n))) n (Float64.ofDecimal (decide (n < 0)) n.natAbs (-((0 : Nat) : Int))) := by
  rw [num_S]
  have := numL_len hB
  refine reads_int hB 0 (by decide) (numL n) (by omega) ?_
  rw [no_comma fun c hc => by have := numL_signs n c hc; omega]
  unfold padL
  simp
theorem reads_word {n : Int} (hB : Big n) : ReadsInt (S ([32] ++ ((if n < 0 then [45] else []) ++ comL (dgN n.natAbs)) ++ [32])) (S (padL 1 (numL n))) n (Float64.ofDecimal (decide (n < 0)) n.natAbs (-((0 : Nat) : Int))) := by
  have h1 := big_dg hB
  have h2 := comL_len (dgN n.natAbs)
  refine reads_int hB 1 (by decide) _ ?_ ?_
  · simp only [List.length_append, List.length_cons, List.length_nil]
    split <;> simp <;> omega
  · rw [List.filter_append, List.filter_append, List.filter_append, sg_no44, comG_filter _ (dg_no44 _)]
    rfl
/-- figures of a power of ten's multiple -/
theorem dg_shift {w : Nat} (hw : 0 < w) : ∀ k, dgN (w * 10 ^ k) = dgN w ++ List.replicate k 48
  | 0 => by simp
  | k + 1 => by
    have hp : 0 < w * 10 ^ k := Nat.mul_pos hw (Nat.pow_pos (by decide))
    have := dgN_snoc (n := w * 10 ^ k) (d := 0) hp (by decide)
    rw [Nat.add_zero, dg_shift hw k] at this
    rw [Nat.pow_succ, ← Nat.mul_assoc, this, List.replicate_succ', List.append_assoc]
theorem say_whole (w k : Nat) (neg : Bool) : fltSay neg (w * 10 ^ k) k = (if neg then [45] else []) ++ comL (dgN w) ++ (if k = 0 then [] else 46 :: List.replicate k 48) := by
  have e : wordL (w * 10 ^ k) k = dgN w ++ List.replicate k 48 := by
    unfold wordL
    by_cases hw : w = 0
    · subst hw
      have e0 : dgN 0 = [48] := by decide +kernel
      rw [Nat.zero_mul, e0]
      show List.replicate (k + 1 - 1) 48 ++ [48] = [48] ++ List.replicate k 48
      rw [Nat.add_sub_cancel]
      show List.replicate k 48 ++ List.replicate 1 48 = List.replicate 1 48 ++ List.replicate k 48
      rw [List.replicate_append_replicate, List.replicate_append_replicate, Nat.add_comm]
    · rw [dg_shift (by omega)]
      have h1 : 1 ≤ (dgN w).length := by
        have := dgN_ne w
        cases h : dgN w with
        | nil => exact absurd h this
        | cons => simp
      rw [List.length_append, List.length_replicate]
      have h2 : k + 1 - ((dgN w).length + k) = 0 := by omega
      rw [h2]
      rfl
  unfold fltSay frontL restL
  rw [e]
  have h3 : (dgN w ++ List.replicate k 48).length - k = (dgN w).length := by simp
  rw [h3, List.take_left, List.drop_left]
theorem he_mul (a b : Nat) (hb : 0 < b) : halfEven (a * b) b = a := by
  unfold Float64.halfEven
  have e1 : a * b / b = a := Nat.mul_div_cancel a hb
  have e2 : a * b % b = 0 := Nat.mul_mod_left a b
  simp only [e1, e2, Nat.mul_zero]
  rw [if_neg]
  simp
  omega
/-- the double of a whole number is a whole number -/
def wholeW (N : Nat) : Nat := nearQ N 1 * 2 ^ nearK N 1 / 2 ^ 200
theorem whole_eq {N : Nat} (hN0 : 0 < N) (hN : N < 2 ^ 210) : nearQ N 1 * 2 ^ nearK N 1 = wholeW N * 2 ^ 200 := by
  have hd : 2 ^ 200 ∣ nearQ N 1 * 2 ^ nearK N 1 := by
    by_cases hk : 200 ≤ nearK N 1
    · exact Nat.dvd_trans (Nat.pow_dvd_pow 2 hk) (Nat.dvd_mul_left _ _)
    · have e1 : N * 2 ^ 200 = N * 2 ^ (200 - nearK N 1) * 2 ^ nearK N 1 := by rw [Nat.mul_assoc, ← Nat.pow_add]; congr 2; omega
      have e2 : nearQ N 1 = N * 2 ^ (200 - nearK N 1) := by
        unfold nearQ
        rw [Nat.one_mul, e1, he_mul _ _ (Nat.two_pow_pos _)]
      rw [e2, ← e1]
      exact Nat.dvd_mul_left _ _
  unfold wholeW
  rw [Nat.div_mul_cancel hd]
theorem int_say {n : Int} (hB : Big n) (g : Nat) :
    fltText (Float64.ofInt n) g = S ((if n < 0 then [45] else []) ++ comL (dgN (if n = 0 then 0 else wholeW n.natAbs)) ++ (if g = 0 then [] else 46 :: List.replicate g 48)) := by
  unfold Float64.ofInt
  by_cases h0 : n = 0
  · subst h0
    rw [if_pos rfl]
    have hd : Float64.decode (Float64.ofFrac (decide ((0 : Int) < 0)) (Int.natAbs 0) 1) = .fin false 0 (-1074) := by
      have e1 : Int.natAbs 0 = 0 := rfl
      rw [e1, frac_zero]
      kernel_rfl
    have := flt_text hd g
    rw [this, shift_zero, Nat.zero_mul, halfEven_zero _ (shift_pos 0 _)]
    have e := say_whole 0 g false
    rw [Nat.zero_mul] at e
    rw [e]
    rfl
  · rw [if_neg h0]
    have hN0 : 0 < n.natAbs := by omega
    rw [frac_say _ hN0 (big_210 hB) (by decide) (by decide) g, whole_eq hN0 (big_210 hB)]
    have e1 : wholeW n.natAbs * 2 ^ 200 * 10 ^ g = wholeW n.natAbs * 10 ^ g * 2 ^ 200 := by ac_rfl
    rw [e1, he_mul _ _ (Nat.two_pow_pos _), say_whole]
    congr 3
    by_cases h : n < 0 <;> simp [h]
theorem pow_even {k : Nat} (h : 1 ≤ k) : 2 ^ k % 2 = 0 := by
  obtain ⟨j, rfl⟩ : ∃ j, k = j + 1 := ⟨k - 1, by omega⟩
  rw [Nat.pow_succ]
  exact Nat.mul_mod_left _ _
/-- what _law_near reckons, over the naturals -/
theorem nearA_eq {N D : Nat} (hN0 : 0 < N) (hN : N < 2 ^ 210) (hD0 : 0 < D) (hD : D ≤ 100000) : nearA (N : Int) (D : Int) = ((nearQ N D * 2 ^ nearK N D : Nat) : Int) := by
  obtain ⟨k1, k2, _, _⟩ := near_k hN0 hN hD0 hD
  have h1 := near_lo2 hN0 hD0 hD
  have e200 : (200 : Int).toNat = 200 := rfl
  have eM : (N : Int) * 2 ^ (200 : Int).toNat = ((N * 2 ^ 200 : Nat) : Int) := by
    rw [e200, Int.natCast_mul, Int.natCast_pow]
    rfl
  have eP : nearP (N : Int) (D : Int) = ((N * 2 ^ 200 / D : Nat) : Int) := by
    unfold nearP
    rw [eM]
    exact (Int.ofNat_fdiv _ _).symm
  have eR : nearR (N : Int) (D : Int) = ((N * 2 ^ 200 % D : Nat) : Int) := by
    unfold nearR
    rw [eM]
    exact (Int.ofNat_fmod _ _).symm
  have eB : Builtin.Int.intBits (nearP (N : Int) (D : Int)) = (N * 2 ^ 200 / D).log2 + 1 := by
    rw [eP]
    unfold Builtin.Int.intBits
    rw [if_neg, Int.natAbs_natCast]
    intro e
    have e' : ((N * 2 ^ 200 / D : Nat) : Int) = 0 := by simpa using e
    have e2 : N * 2 ^ 200 / D = 0 := by exact_mod_cast e'
    rw [e2] at h1
    exact absurd h1 (by decide)
  have eD : nearD (N : Int) (D : Int) = (nearK N D : Int) := by
    unfold nearD
    rw [eB]
    unfold nearK at k1 ⊢
    omega
  have eU : nearU (N : Int) (D : Int) = ((2 ^ nearK N D : Nat) : Int) := by
    unfold nearU
    rw [eD, Int.toNat_natCast, Int.one_mul, Int.natCast_pow]
    rfl
  have eH : nearH (N : Int) (D : Int) = ((N * 2 ^ 200 / D / 2 ^ nearK N D : Nat) : Int) := by
    unfold nearH
    rw [eP, eU]
    exact (Int.ofNat_fdiv _ _).symm
  have eT : nearT (N : Int) (D : Int) = ((N * 2 ^ 200 / D % 2 ^ nearK N D : Nat) : Int) := by
    unfold nearT
    rw [eP, eU]
    exact (Int.ofNat_fmod _ _).symm
  unfold nearA
  rw [eH, eT, eR, eU, eD, Int.toNat_natCast]
  have hU2 : 2 ^ nearK N D % 2 = 0 := pow_even (Nat.le_trans (by decide) k1)
  have hq := he_two (M := N * 2 ^ 200) hD0 (Nat.two_pow_pos (nearK N D)) hU2
  unfold nearQ
  rw [hq]
  have eF : (((N * 2 ^ 200 / D / 2 ^ nearK N D : Nat) : Int)).fmod 2 = ((N * 2 ^ 200 / D / 2 ^ nearK N D % 2 : Nat) : Int) := (Int.ofNat_fmod _ 2).symm
  rw [eF]
  generalize N * 2 ^ 200 / D / 2 ^ nearK N D = h
  generalize N * 2 ^ 200 / D % 2 ^ nearK N D = t
  generalize N * 2 ^ 200 % D = r
  have eK : (2 : Int) ^ nearK N D = ((2 ^ nearK N D : Nat) : Int) := by
    rw [Int.natCast_pow]
    rfl
  rw [Int.natCast_mul, eK]
  congr 1
  generalize 2 ^ nearK N D = u
  by_cases c : 2 * t > u ∨ 2 * t = u ∧ (r > 0 ∨ h % 2 = 1)
  · rw [if_pos c, if_pos (by omega)]
    omega
  · rw [if_neg c, if_neg (by omega)]
end Mine
end
section
open PySem.Spec PySem.Calls
set_option maxHeartbeats 4000000
set_option hygiene false
set_option linter.unusedVariables false
namespace Mine
local macro_rules | `(tactic| k_steps) => `(tactic| repeat' (first | (k_unfold; (try dsimp only)) | (walk1 <;> (try dsimp only)) | (dsimp only; walk1) | (leave1; walk_say "STEP leave1"; try dsimp only) | fail "no step"))
open Builtin.Str PySem.NumText
open Float64 (halfEven)
/-- places and the power of ten -/
structure Pl (p P : Int) : Prop where
  lo3 : 3 ≤ p
  hi5 : p ≤ 5
  e : P = 10 ^ p.toNat
  lo : 1000 ≤ P
  hi : P ≤ 100000
/-- the bounds of the law's number -/
structure Nb (n : Int) : Prop where
  lo : 0 ≤ n
  hi : n < 100000000000000
/-- the law's sign -/
def sgS (b : Bool) : Str := if b then Str.ofString "-" else Str.ofString ""
theorem sg_S (b : Bool) : sgS b = S (sgL b) := by cases b <;> decide +kernel
/-- the digits of the law's number put right to g of them -/
def cN (n P : Int) (g : Nat) : Nat := if n = 0 then 0 else halfEven (nearQ n.toNat P.toNat * 2 ^ nearK n.toNat P.toNat * 10 ^ g) (2 ^ 200)
def textL (c g : Nat) : List Nat := frontL c g ++ (if g = 0 then [] else 46 :: restL c g)
def dotS (g : Nat) : Str := S (if g = 0 then [] else [46])
def restS (c g : Nat) : Str := S (if g = 0 then [] else restL c g)
theorem end_same (neg : Bool) (c g : Nat) : sgS neg ++ S (comL (frontL c g)) ++ dotS g ++ restS c g = S (fltSay neg c g) := by
  rw [sg_S]
  unfold dotS restS
  rw [S_cat, S_cat, S_cat]
  unfold fltSay sgL
  congr 1
  by_cases h : g = 0
  · rw [if_pos h, if_pos h, if_pos h]
    simp
  · rw [if_neg h, if_neg h, if_neg h]
    simp
/-- what _law_near gives -/
structure AB (a b n P : Int) : Prop where
  out : (0 < n ∧ a = nearA n P ∧ b = 2 ^ 200) ∨ (n = 0 ∧ a = 0 ∧ b = 1)
theorem n_lt {n : Int} (h : Nb n) : n.toNat < 2 ^ 210 := by
  have h1 := h.lo
  have h2 := h.hi
  have h3 : (100000000000000 : Nat) < 2 ^ 210 := by decide
  exact Nat.lt_trans (by omega) h3
theorem pos_P {p P : Int} (h : Pl p P) : 0 < P.toNat ∧ P.toNat ≤ 100000 := by
  have h1 := h.lo
  have h2 := h.hi
  omega
theorem nearA_nat {n p P : Int} (hn : Nb n) (h0 : 0 < n) (hP : Pl p P) : nearA n P = ((nearQ n.toNat P.toNat * 2 ^ nearK n.toNat P.toNat : Nat) : Int) := by
  have h1 := pos_P hP
  have h2 := hP.lo
  have e := nearA_eq (N := n.toNat) (D := P.toNat) (by omega) (n_lt hn) h1.1 h1.2
  rwa [Int.toNat_of_nonneg (by omega), Int.toNat_of_nonneg (by omega)] at e
/-- putting right, over the naturals -/
theorem put_nat (A B g : Nat) (hB : 0 < B) : pyPut (A : Int) (B : Int) (g : Int) = ((halfEven (A * 10 ^ g) B : Nat) : Int) := by
  unfold pyPut
  have e1 : (A : Int) * 10 ^ ((g : Nat) : Int).toNat = ((A * 10 ^ g : Nat) : Int) := by
    rw [Int.toNat_natCast, Int.natCast_mul, Int.natCast_pow]
    rfl
  have e2 : (((A * 10 ^ g : Nat) : Int)).fdiv (B : Int) = ((A * 10 ^ g / B : Nat) : Int) := (Int.ofNat_fdiv _ _).symm
  rw [e1, e2]
  generalize A * 10 ^ g = M
  have e3 : (((M / B : Nat) : Int)).fmod 2 = ((M / B % 2 : Nat) : Int) := (Int.ofNat_fmod _ 2).symm
  have e4 : (M : Int) - ((M / B : Nat) : Int) * (B : Int) = ((M % B : Nat) : Int) := by
    have := Nat.div_add_mod M B
    have e : ((B * (M / B) + M % B : Nat) : Int) = (M : Int) := by rw [this]
    rw [Int.natCast_add, Int.natCast_mul] at e
    rw [← e, Int.mul_comm]
    omega
  dsimp only
  rw [e4, e3]
  unfold Float64.halfEven
  simp only [Bool.or_eq_true, decide_eq_true_eq, Bool.and_eq_true, beq_iff_eq]
  generalize M / B = q
  generalize M % B = r
  by_cases c : 2 * r > B ∨ 2 * r = B ∧ q % 2 = 1
  · rw [if_pos c, if_pos (by omega)]
    omega
  · rw [if_neg c, if_neg (by omega)]
theorem put_ab {a b n p P : Int} {g : Int} (h : AB a b n P) (hn : Nb n) (hP : Pl p P) (hg : 0 ≤ g) : pyPut a b g = ((cN n P g.toNat : Nat) : Int) := by
  obtain ⟨k, rfl⟩ := Int.eq_ofNat_of_zero_le hg
  rw [Int.toNat_natCast]
  unfold cN
  rcases h.out with ⟨h0, rfl, rfl⟩ | ⟨h0, rfl, rfl⟩
  · rw [if_neg (by omega), nearA_nat hn h0 hP]
    have e : (2 : Int) ^ 200 = ((2 ^ 200 : Nat) : Int) := by simp
    rw [e, put_nat _ _ _ (Nat.two_pow_pos _)]
  · rw [if_pos h0]
    have := put_nat 0 1 k (by decide)
    rw [Nat.zero_mul, halfEven_zero 1 (by decide)] at this
    exact this
theorem ab_le {n p P : Int} (hn : Nb n) (h0 : 0 < n) (hP : Pl p P) : nearQ n.toNat P.toNat * 2 ^ nearK n.toNat P.toNat ≤ 2 ^ 420 := by
  have h1 := pos_P hP
  have h2 := (near_qb (N := n.toNat) (D := P.toNat) (by omega) (n_lt hn) h1.1 h1.2).2
  have h3 := (near_k (N := n.toNat) (D := P.toNat) (by omega) (n_lt hn) h1.1 h1.2).2.1
  refine Nat.le_trans (Nat.mul_le_mul h2 (Nat.pow_le_pow_right (by decide) h3)) ?_
  rw [← Nat.pow_add]
  exact Nat.pow_le_pow_right (by decide) (by decide)
theorem he_le (a b : Nat) : halfEven a b ≤ a + 1 := by
  unfold Float64.halfEven
  have := Nat.div_le_self a b
  dsimp only
  split <;> omega
theorem cN_lt {n p P : Int} {g : Nat} (hn : Nb n) (hP : Pl p P) (hg : g ≤ 4) : cN n P g < 2 ^ 440 := by
  unfold cN
  split
  · exact Nat.two_pow_pos _
  · have h0 : 0 < n := by have := hn.lo; omega
    have h1 := ab_le hn h0 hP
    have h2 : 10 ^ g ≤ 10 ^ 4 := Nat.pow_le_pow_right (by decide) hg
    have h3 := Nat.mul_le_mul h1 h2
    refine Nat.lt_of_le_of_lt (he_le _ _) ?_
    have h4 : 2 ^ 420 * 10 ^ 4 + 1 < 2 ^ 440 := by decide +kernel
    exact Nat.lt_of_le_of_lt (Nat.succ_le_succ h3) h4
/-- the text of a number with g places -/
theorem rjust_S (l : List Nat) (k : Nat) : Txt.rjustF (S l) (k : Int) 48 = S (List.replicate (k - l.length) 48 ++ l) := by
  unfold Txt.rjustF
  rw [S_len]
  split
  · have : k - l.length = 0 := by omega
    rw [this]
    rfl
  · unfold padded
    refine S_eq ?_
    simp [S]
theorem pyWord_S (c g : Nat) : pyWord (c : Int) (g : Int) = S (wordL c g) := by
  unfold pyWord
  have e0 : (Str.ofString "0").cps.getD 0 0 = 48 := by decide +kernel
  have e1 : ((g : Int) + 1) = ((g + 1 : Nat) : Int) := by omega
  rw [num_S, e0, e1, rjust_S]
  have e2 : numL (c : Int) = dgN c := by
    unfold numL
    rw [if_neg (by omega)]
    rfl
  rw [e2]
  rfl
theorem wordL_len (c g : Nat) : g + 1 ≤ (wordL c g).length := by
  unfold wordL
  rw [List.length_append, List.length_replicate]
  omega
theorem slice_to (l : List Nat) (j : Nat) (h : j ≤ l.length) : Txt.slice (S l) none (some (j : Int)) = S (l.take j) := by
  have e := slice_closes_toL (x := S l) (j := (j : Int)) (by omega) (by rw [S_len]; omega)
  have e' := eq_of_beq e
  rw [e']
  refine S_eq ?_
  simp [S]
theorem slice_from (l : List Nat) (j : Nat) (h : j ≤ l.length) : Txt.slice (S l) (some (j : Int)) none = S (l.drop j) := by
  have e := slice_closes_fromL (x := S l) (i := (j : Int)) (b := ((S l).length : Int)) (by omega) (by rw [S_len]; omega) rfl
  have e' := eq_of_beq e
  rw [e']
  refine S_eq ?_
  rw [S_len, S_list]
  simp only [List.toList_toArray, Int.toNat_natCast]
  rw [List.take_of_length_le]
  rw [List.length_drop]
  omega
theorem text_S (c g : Nat) : pyText (c : Int) (g : Int) = S (textL c g) := by
  have hl := wordL_len c g
  unfold pyText
  rw [pyWord_S, S_len]
  have e : ((wordL c g).length : Int) - (g : Int) = (((wordL c g).length - g : Nat) : Int) := by omega
  rw [e, slice_to _ _ (by omega), slice_from _ _ (by omega), os_empty, os_dot]
  unfold textL frontL restL
  by_cases h : g = 0
  · rw [if_pos (by omega), if_pos h, S_cat]
  · rw [if_neg (by omega), if_neg h, S_cat, S_cat]
    rfl
theorem word_dig (c g : Nat) : AllDigits (wordL c g) := by
  intro x hx
  unfold wordL at hx
  rcases List.mem_append.mp hx with h | h
  · rw [(List.mem_replicate.mp h).2]; decide
  · exact dgN_digit c x h
theorem front_dig (c g : Nat) : AllDigits (frontL c g) := fun x hx => word_dig c g x (List.mem_of_mem_take hx)
/-- parting at the dot -/
theorem part_yes (a z : List Nat) (ha : ∀ c ∈ a, c ≠ 46) : Txt.partition (S (a ++ 46 :: z)) (S [46]) = (S a, S [46], S z) := by
  have hat : StrLaws.At (S (a ++ 46 :: z)) ⟨#[46]⟩ (S (a ++ 46 :: z)).length a.length := by
    refine (StrLaws.subAt_one _ 46 a.length).mpr ?_
    rw [S_list, List.getElem?_append_right (Nat.le_refl _), Nat.sub_self]
    rfl
  have hno : ∀ k, k < a.length → ¬ StrLaws.At (S (a ++ 46 :: z)) ⟨#[46]⟩ (S (a ++ 46 :: z)).length k := by
    intro k hk h
    have := (StrLaws.subAt_one _ 46 k).mp h
    rw [S_list, List.getElem?_append_left hk] at this
    exact ha 46 (List.mem_of_getElem? this) rfl
  unfold Txt.partition
  show (match occurrences (S (a ++ 46 :: z)) ⟨#[46]⟩ 0 (S (a ++ 46 :: z)).length 1 with | i :: _ => _ | [] => _) = _
  rcases StrLaws.occ_head (S (a ++ 46 :: z)) ⟨#[46]⟩ 1 (Nat.le_refl _) with ⟨_, h⟩ | ⟨i, r, hi, h1, h2⟩
  · exact absurd hat (h _)
  · have e : i = a.length := by
      rcases Nat.lt_trichotomy i a.length with q | q | q
      · exact absurd h1 (hno _ q)
      · exact q
      · exact absurd hat (h2 _ q)
    rw [hi, e]
    show (strSub _ 0 _, _, strSub _ (a.length + 1) _) = _
    have e3 : (a ++ 46 :: z).drop (a.length + 1) = z := by
      rw [← List.drop_drop, List.drop_left]
      rfl
    rw [S_sub, S_sub, S_len, e3, List.drop_zero, Nat.sub_zero, List.take_left, List.take_of_length_le (by simp; omega)]
theorem part_no (a : List Nat) (ha : ∀ c ∈ a, c ≠ 46) : Txt.partition (S a) (S [46]) = (S a, S [], S []) := by
  unfold Txt.partition
  show (match occurrences (S a) ⟨#[46]⟩ 0 (S a).length 1 with | i :: _ => _ | [] => _) = _
  rcases StrLaws.occ_head (S a) ⟨#[46]⟩ 1 (Nat.le_refl _) with ⟨e, h⟩ | ⟨i, r, hi, h1, h2⟩
  · rw [e]
    show (_, Str.empty, Str.empty) = _
    rw [em_S]
  · have := (StrLaws.subAt_one _ 46 i).mp h1
    rw [S_list] at this
    exact absurd rfl (ha 46 (List.mem_of_getElem? this))
theorem part_text (c g : Nat) : Txt.partition (S (textL c g)) (Str.ofString ".") = (S (frontL c g), dotS g, restS c g) := by
  have hf : ∀ x ∈ frontL c g, x ≠ 46 := fun x hx => by have := front_dig c g x hx; omega
  rw [os_dot]
  unfold textL dotS restS
  by_cases h : g = 0
  · rw [if_pos h, if_pos h, if_pos h, List.append_nil]
    exact part_no _ hf
  · rw [if_neg h, if_neg h, if_neg h]
    exact part_yes _ _ hf
/-- figures of a number cut at a power of ten -/
theorem dv_cat (a b : List Nat) : digitsVal (a ++ b) = digitsVal a * 10 ^ b.length + digitsVal b := by
  induction b generalizing a with
  | nil => simp [digitsVal]
  | cons c r ih =>
    have e : a ++ c :: r = (a ++ [c]) ++ r := by simp
    rw [e, ih, digitsVal_snoc]
    have e2 := ih [c]
    rw [List.singleton_append] at e2
    rw [e2]
    have e3 : digitsVal [c] = c - 48 := by simp [digitsVal]
    rw [e3, List.length_cons, Nat.pow_succ, Nat.add_mul]
    have : digitsVal a * 10 * 10 ^ r.length = digitsVal a * (10 ^ r.length * 10) := by ac_rfl
    omega
theorem dv_zeros (k : Nat) (l : List Nat) : digitsVal (List.replicate k 48 ++ l) = digitsVal l := by
  induction k with
  | zero => rfl
  | succ k ih =>
    rw [List.replicate_succ, List.cons_append, digitsVal_zero, ih]
def partL (m p : Nat) : List Nat := List.replicate (p - (dgN m).length) 48 ++ dgN m
theorem part_len {m p : Nat} (hp : 1 ≤ p) (h : m < 10 ^ p) : (partL m p).length = p := by
  have : (dgN m).length ≤ p := by
    unfold dgN
    rw [List.length_map]
    exact digits10_le hp h
  unfold partL
  rw [List.length_append, List.length_replicate]
  omega
theorem part_dig (m p : Nat) : AllDigits (partL m p) := by
  intro x hx
  unfold partL at hx
  rcases List.mem_append.mp hx with h | h
  · rw [(List.mem_replicate.mp h).2]; decide
  · exact dgN_digit m x h
theorem cut_val (n p : Nat) (hp : 1 ≤ p) : digitsVal (dgN (n / 10 ^ p) ++ partL (n % 10 ^ p) p) = n := by
  have h : n % 10 ^ p < 10 ^ p := Nat.mod_lt _ (Nat.pow_pos (by decide))
  rw [dv_cat, part_len hp h, dgN_back]
  unfold partL
  rw [dv_zeros, dgN_back, Nat.mul_comm]
  exact Nat.div_add_mod n (10 ^ p)
/-- the double of the law's number -/
theorem zero_say (g : Nat) : fltText (Float64.zero false) g = S (fltSay false 0 g) := by
  have hd : Float64.decode (Float64.zero false) = .fin false 0 (-1074) := by kernel_rfl
  rw [flt_text hd g, shift_zero, Nat.zero_mul, halfEven_zero _ (shift_pos 0 _)]
theorem frac_law {n p P : Int} (hn : Nb n) (hP : Pl p P) (neg : Bool) (hng : neg = true → 0 < n) (g : Nat) : fltText (Float64.ofFrac neg n.toNat P.toNat) g = S (fltSay neg (cN n P g) g) := by
  have h1 := pos_P hP
  have h2 := hn.lo
  unfold cN
  by_cases h : n = 0
  · subst h
    have hneg : neg = false := by cases neg with | false => rfl | true => exact absurd (hng rfl) (by decide)
    subst hneg
    have e : (0 : Int).toNat = 0 := rfl
    rw [if_pos rfl, e, frac_zero, zero_say]
  · rw [if_neg h]
    exact frac_say neg (by omega) (n_lt hn) h1.1 h1.2 g
theorem frac_lfin {n p P : Int} (hn : Nb n) (hP : Pl p P) (neg : Bool) : Float64.isFinite (Float64.ofFrac neg n.toNat P.toNat) = true := by
  have h1 := pos_P hP
  have h2 := hn.lo
  by_cases h : n = 0
  · subst h
    have e : (0 : Int).toNat = 0 := rfl
    rw [e, frac_zero]
    exact zero_fin neg
  · exact frac_fin neg (by omega) (n_lt hn) h1.1 h1.2
theorem pl_toNat {p P : Int} (h : Pl p P) : P.toNat = 10 ^ p.toNat := by
  rw [h.e]
  have : (10 : Int) ^ p.toNat = ((10 ^ p.toNat : Nat) : Int) := by simp
  rw [this, Int.toNat_natCast]
theorem nb_len {m : Nat} (h : m < 100000000000000) : (dgN m).length ≤ 14 := by
  unfold dgN
  rw [List.length_map]
  exact digits10_le (by decide) h
theorem dec_law {n p P : Int} (hn : Nb n) (hP : Pl p P) (neg : Bool) : Float64.ofDecimal neg n.toNat (-(p.toNat : Int)) = Float64.ofFrac neg n.toNat P.toNat := by
  have h1 := hn.lo
  have h2 := hn.hi
  have h3 := hP.hi5
  rw [pl_toNat hP]
  by_cases h : n = 0
  · subst h
    have e : (0 : Int).toNat = 0 := rfl
    rw [e, dec_zero, frac_zero]
  · have := nb_len (m := n.toNat) (by omega)
    exact dec_frac neg (by omega) (by omega) (by omega)
/-- reading the law's value as a text -/
structure ReadsVal (x y : Str) (b : UInt64) : Prop where
  hx8 : x.length < 1000
  hy8 : y.length < 1000
  hY : Txt.replace x (Str.ofString ",") (Str.ofString "") = y
  hb : Num.parseText? y = some b
  hx9 : Float64.isFinite b = true
  hdot : (Builtin.Str.occurrences y (Str.ofString ".") 0 y.length 1).isEmpty = false
def valY (neg : Bool) (n p : Nat) : List Nat := txtL neg (dgN (n / 10 ^ p)) (some (partL (n % 10 ^ p) p))
theorem sgL_len (neg : Bool) : (sgL neg).length ≤ 1 := by cases neg <;> decide
theorem reads_val {n p P : Int} (hn : Nb n) (hP : Pl p P) (neg : Bool) (l : List Nat) (hl : l.length < 1000) (hf : l.filter (· != 44) = valY neg n.toNat p.toNat) :
    ReadsVal (S l) (S (valY neg n.toNat p.toNat)) (Float64.ofFrac neg n.toNat P.toNat) := by
  have h1 := hn.lo
  have h2 := hn.hi
  have h3 := hP.hi5
  have h4 := hP.lo3
  have hp : 1 ≤ p.toNat := by omega
  have hm : n.toNat % 10 ^ p.toNat < 10 ^ p.toNat := Nat.mod_lt _ (Nat.pow_pos (by decide))
  have hdiv : n.toNat / 10 ^ p.toNat ≤ n.toNat := Nat.div_le_self _ _
  refine ⟨by rw [S_len]; exact hl, ?_, by rw [repl_S, hf], ?_, frac_lfin hn hP neg, dot_some ?_⟩
  · rw [S_len]
    unfold valY txtL
    have a1 := sgL_len neg
    have a2 := nb_len (m := n.toNat / 10 ^ p.toNat) (by omega)
    have a3 := part_len hp hm
    simp only [List.length_append, List.length_cons]
    omega
  · have := parse_pad 0 neg (dgN (n.toNat / 10 ^ p.toNat)) (some (partL (n.toNat % 10 ^ p.toNat) p.toNat)) (dgN_digit _) (dgN_ne _) (part_dig _ _)
    have e : padL 0 (txtL neg (dgN (n.toNat / 10 ^ p.toNat)) (some (partL (n.toNat % 10 ^ p.toNat) p.toNat))) = valY neg n.toNat p.toNat := by
      unfold padL valY
      simp
    rw [e, Option.getD_some, cut_val _ _ hp, part_len hp hm, dec_law hn hP] at this
    exact this
  · unfold valY txtL
    simp
end Mine
end
section
open PySem.Spec PySem.Calls
set_option maxHeartbeats 4000000
set_option hygiene false
set_option linter.unusedVariables false
namespace Mine
local macro_rules | `(tactic| k_steps) => `(tactic| repeat' (first | (k_unfold; (try dsimp only)) | (walk1 <;> (try dsimp only)) | (dsimp only; walk1) | (leave1; walk_say "STEP leave1"; try dsimp only) | fail "no step"))
/-- what the law's row is: four ints and up to five more -/
structure Row (us : List Value) (r0 r1 r2 r3 : Int) (t0 t1 t2 t3 : Tok) (ur : List Value) (rest : List Int) : Prop where
  eq : us = .int r0 t0 :: .int r1 t1 :: .int r2 t2 :: .int r3 t3 :: ur
  iv : IntsAre ur rest
  len : rest.length ≤ 5
theorem row_of {us : List Value} {ns : List Int} (hi : IntsAre us ns) (h4 : 4 ≤ ns.length) (h9 : ns.length ≤ 9) : ∃ r0 r1 r2 r3 t0 t1 t2 t3 ur rest, Row us r0 r1 r2 r3 t0 t1 t2 t3 ur rest := by
  rcases hi with _ | ⟨r0, t0, hi⟩
  · simp at h4
  rcases hi with _ | ⟨r1, t1, hi⟩
  · simp at h4
  rcases hi with _ | ⟨r2, t2, hi⟩
  · simp at h4
  rcases hi with _ | ⟨r3, t3, hi⟩
  · simp at h4
  exact ⟨r0, r1, r2, r3, t0, t1, t2, t3, _, _, rfl, hi, by simp at h9; omega⟩
section
variable {prog : Program} {w : World} {A : Around} {E : Value → Shared → Prop} {s : Shared} {Q : Value → Shared → Prop}
  {h₀ : Heap} {L : Addr} {m : Str → Option Value} {news : List (Addr × Obj)} {D l b : Addr} {nn : Nat}
theorem add_row {vs ws : List Value} {ns zs : List Int} (F : Fr h₀ L s.heap m) (N : News h₀ L s.heap news) (hl : h₀.IsList l vs.toArray) (hm : (b, listOf ws.toArray nn) ∈ news) (hi : IntsAre vs ns) (hz : IntsAre ws zs) (hn : ns.length ≤ 63) (hz4 : zs.length = 4)
    (h : ∀ D us h', Fr h₀ L h' m → News h₀ L h' ((D, listOf us.toArray 0) :: news) → (∀ p ∈ news, p.1 < D) → IntsAre us (ns ++ zs) → 4 ≤ (ns ++ zs).length → (ns ++ zs).length ≤ 67 → Q (.ref D) { s with heap := h' }) :
    wpAny (model prog w) A (binaryOp .Add (.ref l) (.ref b)) Q E s :=
  kmk_add_ints F N (hl.at fun o e => F.keep l o e) (News.isList N hm) hi hz (fun D us h' F' N' l1 hi' => h D us h' F' N' l1 hi' (by rw [List.length_append]; omega) (by rw [List.length_append]; omega)) (by rw [sizeLine_eq]; omega)
theorem pick_take9 (its : List Value) : (slicePick its.toArray none (some 9) none).toList = its.take 9 := by
  have e : sliceBounds none (some 9) none its.toArray.size = (((0 : Nat) : Int), ((min 9 its.length : Nat) : Int), 1) := by
    simp only [sliceBounds, Option.getD_none, show (1 : Int) > 0 by decide, if_true, show ¬ ((9 : Int) < 0) by decide, if_false]
    congr 1
    congr 1
    simp
    omega
  rw [kmk_pick_nat _ e]
  simp [List.take_eq_take_iff]
theorem pick_drop4 (its : List Value) (h : 4 ≤ its.length) : (slicePick its.toArray (some 4) none none).toList = its.drop 4 := by
  have e : sliceBounds (some 4) none none its.toArray.size = (((4 : Nat) : Int), ((its.length : Nat) : Int), 1) := by
    simp only [sliceBounds, Option.getD_none, show (1 : Int) > 0 by decide, if_true, show ¬ ((4 : Int) < 0) by decide, if_false]
    simp
    try omega
  rw [kmk_pick_nat _ e]
  simp
  rw [List.take_of_length_le (by simp)]
theorem take_row {value slice : PySem.Expr} {h : Heap} {g d tk o} {u : Tok} {us : List Value} {ns : List Int} (F : Fr h₀ L h m) (N : News h₀ L h news) (hm : (D, listOf us.toArray nn) ∈ news) (hi : IntsAre us ns) (h4 : 4 ≤ ns.length) (h67 : ns.length ≤ 67)
    (hk : ∀ D' r0 r1 r2 r3 t0 t1 t2 t3 ur rest h', IntsAre ur rest → rest.length ≤ 5 → Fr h₀ L h' m → News h₀ L h' ((D', listOf (.int r0 t0 :: .int r1 t1 :: .int r2 t2 :: .int r3 t3 :: ur).toArray 0) :: news) → (∀ q ∈ news, q.1 < D') → Q (.ref D') ⟨h', g, d, tk, o⟩)
    (hs : subscripted slice false (.ref D) (.ref h.objs.size) = operate [.ref h.objs.size, .ref D] (getItem (.ref D) (.ref h.objs.size))) (ht : ∀ r, letTemporaryGo value (.ref D) r = pure ()) :
    wpAny (model prog w) A (subscriptTail value slice (.ref D) (.ref h.objs.size)) Q E ⟨h.push { cls := .type "slice", data := .fields #[.none, .int 9 u, .none] }, g, d, tk, o⟩ := by
  have hL := hi.length
  obtain ⟨r0, r1, r2, r3, t0, t1, t2, t3, ur, rest, R⟩ := row_of (hi.take 9) (by simp; omega) (by simp; omega)
  refine kmk_slice_lit (s := ⟨h, g, d, tk, o⟩) F N (News.isList N hm) .none (.int 9 u) (pick_take9 us) (fun D' h' F' N' l1 => ?_) hs ht (by simp [sizeLine_eq]; omega)
  rw [R.eq] at N'
  exact hk D' r0 r1 r2 r3 t0 t1 t2 t3 ur rest h' R.iv R.len F' N' l1
theorem drop_row {value slice : PySem.Expr} {h : Heap} {g d tk o} {u : Tok} {a1 a2 a3 a4 : Value} {us : List Value} (F : Fr h₀ L h m) (N : News h₀ L h news) (hm : (D, listOf (a1 :: a2 :: a3 :: a4 :: us).toArray nn) ∈ news) (h5 : us.length ≤ 5)
    (hk : ∀ D' h', Fr h₀ L h' m → News h₀ L h' ((D', listOf us.toArray 0) :: news) → (∀ q ∈ news, q.1 < D') → Q (.ref D') ⟨h', g, d, tk, o⟩)
    (hs : subscripted slice false (.ref D) (.ref h.objs.size) = operate [.ref h.objs.size, .ref D] (getItem (.ref D) (.ref h.objs.size))) (ht : ∀ r, letTemporaryGo value (.ref D) r = pure ()) :
    wpAny (model prog w) A (subscriptTail value slice (.ref D) (.ref h.objs.size)) Q E ⟨h.push { cls := .type "slice", data := .fields #[.int 4 u, .none, .none] }, g, d, tk, o⟩ :=
  kmk_slice_lit (s := ⟨h, g, d, tk, o⟩) F N (News.isList N hm) (.int 4 u) .none (pick_drop4 (a1 :: a2 :: a3 :: a4 :: us) (by simp)) (fun D' h' F' N' l1 => hk D' h' F' N' l1) hs ht (by simp [sizeLine_eq]; omega)
theorem item_row {value slice : PySem.Expr} {k : Int} {u : Tok} {us : List Value} {v : Value} (N : News h₀ L s.heap news) (hm : (D, listOf us.toArray nn) ∈ news) (h0 : 0 ≤ k) (h1 : k < 1000) (hx : us[k.toNat]? = some v) (h : Q v s)
    (hs : subscripted slice false (.ref D) (.int k u) = operate [.ref D, .int k u] (getItem (.ref D) (.int k u)) := by with_unfolding_all rfl) (hg : ∀ r, letTemporaryGo value (.ref D) r = pure () := by intro _; with_unfolding_all rfl) :
    wpAny (model prog w) A (subscriptTail value slice (.ref D) (.int k u)) Q E s := by
  refine item_list (News.isList N hm) h0 (by omega) (x := v) ?_ h hs hg
  simpa using hx
theorem strs_values {l : List (Str × Tok)} : StrsAre (strValues l) (l.map (·.1)) := by
  induction l with
  | nil => exact .nil
  | cons p r ih => exact .cons p.1 p.2 ih
theorem strs_len {vs : List Value} {ys : List Str} (h : StrsAre vs ys) : vs.length = ys.length := by
  induction h with
  | nil => rfl
  | cons _ _ _ ih => simp [ih]
theorem strs_get {vs : List Value} {ys : List Str} (h : StrsAre vs ys) : ∀ (j : Nat) (hj : j < vs.length) (hk : j < ys.length), ∃ t, vs[j] = .str ys[j] t := by
  induction h with
  | nil => intro j hj; simp at hj
  | cons y t _ ih =>
    intro j hj hk
    cases j with
    | zero => exact ⟨t, rfl⟩
    | succ j => exact ih j _ _
theorem ne_strs {vs ws : List Value} {ys : List Str} {k1 k2 : Nat} (N : News h₀ L s.heap news) (h1 : (l, listOf vs.toArray k1) ∈ news) (h2 : (b, listOf ws.toArray k2) ∈ news) (hv : StrsAre vs ys) (hw : StrsAre ws ys) (hu : A.units < cLine)
    (h : Q (.bool false) s) : wpAny (model prog w) A (compareOp .NotEq (.ref l) (.ref b)) Q E s := by
  have e1 := strs_len hv
  have e2 := strs_len hw
  refine SeqAt.RcNeAt.lists (e := fun _ => true) (News.isList N h1) (News.isList N h2) (by simp; omega) hu (fun j h1 h2 => ?_) prog w E Q (by rw [show (!(List.range vs.toArray.size).all fun _ => true) = false by rw [List.all_eq_true.mpr fun _ _ => rfl]; rfl]; exact h)
  simp at h1 h2
  obtain ⟨t, e⟩ := strs_get hv j h1 (by omega)
  obtain ⟨u, e'⟩ := strs_get hw j h2 (by omega)
  have q := SeqAt.EqAt.str_str (A := A.in1) (s := s) (ys[j]'(by omega)) t (ys[j]'(by omega)) u
  simp only [List.getElem_toArray, e, e']
  rw [beq_self_eq_true] at q
  exact q
end
/-- the end of an element that is an int of some kind -/
structure ElEndI (P : Int → Prop) (s : Shared) (h₀ : Heap) (L : Addr) (m : Str → Option Value) (led : List (Addr × Obj)) (y : Value) (s₂ : Shared) : Prop where
  out : ∃ k t h' tk', y = .int k t ∧ P k ∧ s₂ = { s with heap := h', toks := tk' } ∧ Fr h₀ L h' m ∧ News h₀ L h' led
theorem elEndI {P : Int → Prop} {k : Int} {s : Shared} {h₀ : Heap} {L : Addr} {m : Str → Option Value} {led : List (Addr × Obj)} {t : Tok} {h' : Heap} {tk' : Nat} (e : P k) (F : Fr h₀ L h' m) (N : News h₀ L h' led) :
    ElEndI P s h₀ L m led (.int k t) { s with heap := h', toks := tk' } := ⟨⟨k, t, h', tk', rfl, e, rfl, F, N⟩⟩
theorem comp_runI {prog : Program} {w : World} {A : Around} {h₀ : Heap} {L : Addr} {m : Str → Option Value} {env : Env} {elt : PySem.Expr} {x : Str} {scope : Scope} {cl : List (Str × Addr)} {s : Shared} {S : List (Addr × Obj) → Prop}
    {Fin : List Value → List (Addr × Obj) → Prop} {news : List (Addr × Obj)} {vs : List Value} (P : Int → Prop) (hS : S news)
    (hel : ∀ v ∈ vs, ∀ I oI C oC D m₂ h tk ys, LCg.NsObj oC m₂ → m₂ x = some v → Fr h₀ L h m → News h₀ L h ((I, oI) :: (C, oC) :: (D, LCg.lst ys) :: news) →
      ∀ E', wpAny (model prog w) A (eval elt (compEnvC scope cl C env)) (ElEndI P s h₀ L m ((I, oI) :: (C, oC) :: (D, LCg.lst ys) :: news)) E' { s with heap := h, toks := tk })
    (fin : ∀ (l : List Value) (ks : List Int), IntsAre l ks → (∀ k ∈ ks, P k) → ks.length = vs.length → Fin l news) :
    ∀ (k i : Nat) (l : List Value) (ks : List Int), i + k = vs.length → IntsAre l ks → (∀ k ∈ ks, P k) → ks.length = i → LCg.CompRest prog w A h₀ L m env elt x scope cl s S (fun i v => vs.toArray[i]? = some v) Fin k i l news := by
  intro k
  induction k with
  | zero =>
    intro i l ks hi hl hp hk
    exact LCg.CompRest.zero (fin l ks hl hp (by omega))
  | succ k ih =>
    intro i l ks hi hl hp hk
    refine LCg.CompRest.succ fun v I oI C oC D m₂ h tk E' hv hC hx F N off ne => ?_
    have hv' : vs[i]? = some v := by simpa using hv
    refine wpAny_mono (hel v (List.mem_of_getElem? hv') I oI C oC D m₂ h tk _ hC hx F N E') (fun y s₂ hy => ?_) fun _ _ e => e
    obtain ⟨k', t, h', tk', rfl, hk', rfl, F', N'⟩ := hy.out
    refine LCg.CompEnd.intro F' N' news (fun _ h => h) off hS ?_
    refine ih (i + 1) _ (ks ++ [k']) (by omega) (hl.append (.cons _ _ .nil)) ?_ (by simp; omega)
    intro q hq
    rcases List.mem_append.mp hq with hq | hq
    · exact hp q hq
    · rw [List.mem_singleton.mp hq]; exact hk'
end Mine
end
section
open PySem.Spec PySem.Calls
set_option maxHeartbeats 4000000
set_option hygiene false
set_option linter.unusedVariables false
namespace Mine
local macro_rules | `(tactic| k_steps) => `(tactic| repeat' (first | (k_unfold; (try dsimp only)) | (walk1 <;> (try dsimp only)) | (dsimp only; walk1) | (leave1; walk_say "STEP leave1"; try dsimp only) | fail "no step"))
open Builtin Builtin.Float
/-- a number said with commas -/
def wordS (n : Int) : Str := S ((if n < 0 then [45] else []) ++ comL (dgN n.natAbs))
/-- the same between two blanks -/
def blankS (n : Int) : Str := S ([32] ++ ((if n < 0 then [45] else []) ++ comL (dgN n.natAbs)) ++ [32])
/-- a number's words with digits: its double's whole number and noughts -/
def saidS (n N g : Int) : Str := S ((if n < 0 then [45] else []) ++ comL (dgN N.natAbs) ++ (if g = 0 then [] else 46 :: List.replicate g.toNat 48))
theorem big_abs {n : Int} (h : Big n) : (if n < 0 then -n else n).natAbs.log2 < 1920 := by
  have e : (if n < 0 then -n else n).natAbs = n.natAbs := by split <;> omega
  rw [e]
  exact big_log h
theorem abs_S (n : Int) : Str.ofString (toString (if n < 0 then -n else n)) = S (dgN n.natAbs) := by
  rw [num_S]
  unfold numL
  have e : (if n < 0 then -n else n).natAbs = n.natAbs := by split <;> omega
  have h : ¬ ((if n < 0 then -n else n) < 0) := by split <;> omega
  rw [if_neg h, e]
  rfl
theorem pos_S {k : Int} (h : 0 ≤ k) : Str.ofString (toString k) = S (dgN k.natAbs) := by
  rw [num_S]
  unfold numL
  rw [if_neg (by omega)]
  rfl
theorem commas_L {w : World} {loose : List Str} {mean : ExcName → Option Value} {mg mb : Str → Option Value}
    {dp un : Nat} {gd : Option (List Code)} {cn : Str} {cs : Scope} {a : Addr} {ccd : Value} {cl : List (Str × Addr)} {outer : List Env} {A₀ : Around} {base h₀ : Heap} {L : Addr} {m : Str → Option Value} {news : List (Addr × Obj)} {s : Shared}
    {Q E : Value → Shared → Prop} {l : List Nat} {tx : Tok}
    (B : Below A₀ base outer h₀) (F : Fr h₀ L s.heap m) (X : (fv.heap_39 w.params).In h₀) (N : News h₀ L s.heap news) (T : Top fv.view_39 loose mean mg mb h₀) (hk : cs.kind = .function)
    (hdp : dp + 3 < recursionLimit) (hun : un + 24 < cLine)
    (hl : l.length < 1000)
    (hret : ∀ (t : Tok) (h' : Heap) (tk' : Nat), Fr h₀ L h' m → News h₀ L h' news → Q (.str (S (comL l)) t) { s with heap := h', toks := tk' }) :
    wpAny (model Challenge.rw_fv0008_01.row.prog w) (ktrTop dp un gd cn cs L a ccd cl outer) (call (.ref 114) [.str (S l) tx]) Q E s := by
  refine commas_c B F X N T hk hdp hun (by rw [S_len]; exact hl) ?_
  rw [com_S]
  exact hret
theorem commas_abs {w : World} {loose : List Str} {mean : ExcName → Option Value} {mg mb : Str → Option Value}
    {dp un : Nat} {gd : Option (List Code)} {cn : Str} {cs : Scope} {a : Addr} {ccd : Value} {cl : List (Str × Addr)} {outer : List Env} {A₀ : Around} {base h₀ : Heap} {L : Addr} {m : Str → Option Value} {news : List (Addr × Obj)} {s : Shared}
    {Q E : Value → Shared → Prop} {n : Int} {tx : Tok}
    (B : Below A₀ base outer h₀) (F : Fr h₀ L s.heap m) (X : (fv.heap_39 w.params).In h₀) (N : News h₀ L s.heap news) (T : Top fv.view_39 loose mean mg mb h₀) (hk : cs.kind = .function)
    (hdp : dp + 3 < recursionLimit) (hun : un + 24 < cLine)
    (hB : Big n)
    (hret : ∀ (t : Tok) (h' : Heap) (tk' : Nat), Fr h₀ L h' m → News h₀ L h' news → Q (.str (S (comL (dgN n.natAbs))) t) { s with heap := h', toks := tk' }) :
    wpAny (model Challenge.rw_fv0008_01.row.prog w) (ktrTop dp un gd cn cs L a ccd cl outer) (call (.ref 114) [.str (Str.ofString (toString (if n < 0 then -n else n))) tx]) Q E s := by
  rw [abs_S]
  exact commas_L B F X N T hk hdp hun (Nat.lt_of_le_of_lt (big_dg hB) (by decide)) hret
theorem commas_nat {w : World} {loose : List Str} {mean : ExcName → Option Value} {mg mb : Str → Option Value}
    {dp un : Nat} {gd : Option (List Code)} {cn : Str} {cs : Scope} {a : Addr} {ccd : Value} {cl : List (Str × Addr)} {outer : List Env} {A₀ : Around} {base h₀ : Heap} {L : Addr} {m : Str → Option Value} {news : List (Addr × Obj)} {s : Shared}
    {Q E : Value → Shared → Prop} {k : Int} {tx : Tok}
    (B : Below A₀ base outer h₀) (F : Fr h₀ L s.heap m) (X : (fv.heap_39 w.params).In h₀) (N : News h₀ L s.heap news) (T : Top fv.view_39 loose mean mg mb h₀) (hk : cs.kind = .function)
    (hdp : dp + 3 < recursionLimit) (hun : un + 24 < cLine)
    (h0 : 0 ≤ k) (hB : k.natAbs.log2 < 1920)
    (hret : ∀ (t : Tok) (h' : Heap) (tk' : Nat), Fr h₀ L h' m → News h₀ L h' news → Q (.str (S (comL (dgN k.natAbs))) t) { s with heap := h', toks := tk' }) :
    wpAny (model Challenge.rw_fv0008_01.row.prog w) (ktrTop dp un gd cn cs L a ccd cl outer) (call (.ref 114) [.str (Str.ofString (toString k)) tx]) Q E s := by
  rw [pos_S h0]
  exact commas_L B F X N T hk hdp hun (Nat.lt_of_le_of_lt (dgN_len hB) (by decide)) hret
theorem ic_intw {w : World} {loose : List Str} {mean : ExcName → Option Value} {mg mb : Str → Option Value}
    {dp un : Nat} {gd : Option (List Code)} {cn : Str} {cs : Scope} {a : Addr} {ccd : Value} {cl : List (Str × Addr)} {outer : List Env} {A₀ : Around} {base h₀ : Heap} {L : Addr} {m : Str → Option Value} {news : List (Addr × Obj)} {s : Shared}
    {Q E : Value → Shared → Prop} {n : Int} {tn : Tok}
    (B : Below A₀ base outer h₀) (F : Fr h₀ L s.heap m) (X : (fv.heap_39 w.params).In h₀) (N : News h₀ L s.heap news) (T : Top fv.view_39 loose mean mg mb h₀) (hk : cs.kind = .function)
    (hdp : dp + 6 < recursionLimit) (hun : un + 48 < cLine)
    (hB : Big n)
    (hret : ∀ (t : Tok) (h' : Heap) (tk' : Nat), Fr h₀ L h' m → News h₀ L h' news → Q (.str (wordS n) t) { s with heap := h', toks := tk' }) :
    wpAny (model Challenge.rw_fv0008_01.row.prog w) (ktrTop dp un gd cn cs L a ccd cl outer) (call (.ref 73) [.int n tn]) Q E s := by
  exact ic_int B F X N T hk hdp hun (big_log hB) hret
theorem ic_strn {w : World} {loose : List Str} {mean : ExcName → Option Value} {mg mb : Str → Option Value}
    {dp un : Nat} {gd : Option (List Code)} {cn : Str} {cs : Scope} {a : Addr} {ccd : Value} {cl : List (Str × Addr)} {outer : List Env} {A₀ : Around} {base h₀ : Heap} {L : Addr} {m : Str → Option Value} {news : List (Addr × Obj)} {s : Shared}
    {Q E : Value → Shared → Prop} {n : Int} {tx : Tok}
    (B : Below A₀ base outer h₀) (F : Fr h₀ L s.heap m) (X : (fv.heap_39 w.params).In h₀) (N : News h₀ L s.heap news) (T : Top fv.view_39 loose mean mg mb h₀) (hk : cs.kind = .function)
    (hdp : dp + 6 < recursionLimit) (hun : un + 48 < cLine)
    (hB : Big n)
    (hret : ∀ (t : Tok) (h' : Heap) (tk' : Nat), Fr h₀ L h' m → News h₀ L h' news → Q (.str (wordS n) t) { s with heap := h', toks := tk' }) :
    wpAny (model Challenge.rw_fv0008_01.row.prog w) (ktrTop dp un gd cn cs L a ccd cl outer) (call (.ref 73) [.str (Str.ofString (toString n)) tx]) Q E s := by
  have r := reads_num hB
  exact ic_str B F X N T hk hdp hun r.hx8 r.hy8 r.hy7 r.hY r.hb r.hx9 r.hdot r.hnn r.hn9 hret
theorem ic_strw {w : World} {loose : List Str} {mean : ExcName → Option Value} {mg mb : Str → Option Value}
    {dp un : Nat} {gd : Option (List Code)} {cn : Str} {cs : Scope} {a : Addr} {ccd : Value} {cl : List (Str × Addr)} {outer : List Env} {A₀ : Around} {base h₀ : Heap} {L : Addr} {m : Str → Option Value} {news : List (Addr × Obj)} {s : Shared}
    {Q E : Value → Shared → Prop} {n : Int} {x : Str} {tx : Tok}
    (B : Below A₀ base outer h₀) (F : Fr h₀ L s.heap m) (X : (fv.heap_39 w.params).In h₀) (N : News h₀ L s.heap news) (T : Top fv.view_39 loose mean mg mb h₀) (hk : cs.kind = .function)
    (hdp : dp + 6 < recursionLimit) (hun : un + 48 < cLine)
    (hB : Big n) (hx : x = blankS n)
    (hret : ∀ (t : Tok) (h' : Heap) (tk' : Nat), Fr h₀ L h' m → News h₀ L h' news → Q (.str (wordS n) t) { s with heap := h', toks := tk' }) :
    wpAny (model Challenge.rw_fv0008_01.row.prog w) (ktrTop dp un gd cn cs L a ccd cl outer) (call (.ref 73) [.str x tx]) Q E s := by
  subst hx
  have r := reads_word hB
  exact ic_str B F X N T hk hdp hun r.hx8 r.hy8 r.hy7 r.hY r.hb r.hx9 r.hdot r.hnn r.hn9 hret
/-- the double's whole number of n -/
def wholeN (n : Int) : Int := if n = 0 then 0 else (nearA (n.natAbs : Int) 1).fdiv (2 ^ 200)
theorem two200 : (2 : Int) ^ 200 = ((2 ^ 200 : Nat) : Int) := by simp
theorem nearA_one {n : Int} (hB : Big n) (h : n ≠ 0) : nearA (n.natAbs : Int) 1 = ((wholeW n.natAbs * 2 ^ 200 : Nat) : Int) := by
  have hN0 : 0 < n.natAbs := by omega
  have e := nearA_eq hN0 (big_210 hB) (D := 1) (by decide) (by decide)
  rw [whole_eq hN0 (big_210 hB)] at e
  exact e
theorem div_cast (a b : Nat) (hb : 0 < b) : (((a * b : Nat) : Int)).fdiv ((b : Nat) : Int) = (a : Int) := by
  rw [Int.fdiv_eq_ediv_of_nonneg _ (by omega)]
  rw [← Int.natCast_ediv, Nat.mul_div_cancel a hb]
theorem wholeN_eq {n : Int} (hB : Big n) (h : n ≠ 0) : wholeN n = (wholeW n.natAbs : Int) := by
  unfold wholeN
  rw [if_neg h, nearA_one hB h, two200, div_cast _ _ (Nat.two_pow_pos _)]
theorem said_eq {n g : Int} (hB : Big n) (hg0 : 0 ≤ g) : fltText (Float64.ofInt n) g.toNat = saidS n (wholeN n) g := by
  rw [int_say hB]
  unfold saidS
  have e : (wholeN n).natAbs = if n = 0 then 0 else wholeW n.natAbs := by
    by_cases h : n = 0
    · rw [if_pos h]
      unfold wholeN
      rw [if_pos h]
      rfl
    · rw [if_neg h, wholeN_eq hB h, Int.natAbs_natCast]
  rw [e]
  congr 2
  by_cases h : g = 0
  · subst h; rfl
  · rw [if_neg h, if_neg (by omega)]
theorem big_1023 {n : Int} (h : Big n) : Flt.Hid (n.natAbs < 2 ^ 1023) := ⟨Nat.lt_trans (big_210 h) (Nat.pow_lt_pow_right (by decide) (by decide))⟩
theorem ic_intd {w : World} {loose : List Str} {mean : ExcName → Option Value} {mg mb : Str → Option Value}
    {dp un : Nat} {gd : Option (List Code)} {cn : Str} {cs : Scope} {a : Addr} {ccd : Value} {cl : List (Str × Addr)} {outer : List Env} {A₀ : Around} {base h₀ : Heap} {L : Addr} {m : Str → Option Value} {news : List (Addr × Obj)} {s : Shared}
    {Q E : Value → Shared → Prop} {n : Int} {g : Int} {tn tg : Tok}
    (B : Below A₀ base outer h₀) (F : Fr h₀ L s.heap m) (X : (fv.heap_39 w.params).In h₀) (N : News h₀ L s.heap news) (T : Top fv.view_39 loose mean mg mb h₀) (hk : cs.kind = .function)
    (hdp : dp + 6 < recursionLimit) (hun : un + 48 < cLine)
    (hB : Big n) (hg0 : 0 ≤ g) (hg4 : g ≤ 4)
    (hret : ∀ (t : Tok) (h' : Heap) (tk' : Nat), Fr h₀ L h' m → News h₀ L h' news → Q (.str (saidS n (wholeN n) g) t) { s with heap := h', toks := tk' }) :
    wpAny (model Challenge.rw_fv0008_01.row.prog w) (ktrTop dp un gd cn cs L a ccd cl outer) (call (.ref 73) [.int n tn, .int g tg]) Q E s := by
  refine ic_int_g B F X N T hk hdp hun (big_1023 hB) hg0 hg4 ?_
  rw [said_eq hB hg0]
  exact hret
/-- how the law ends -/
structure LawEnd (h₀ : Heap) (L : Addr) (s : Shared) (f : Flow) (s' : Shared) : Prop where
  out : ∃ m h' tk', f = .ret (.bool true) ∧ s' = { s with heap := h', toks := tk' } ∧ Fr h₀ L h' m
theorem lawEnd {h₀ : Heap} {L : Addr} {s : Shared} {m : Str → Option Value} {h' : Heap} {tk' : Nat} (F : Fr h₀ L h' m) : LawEnd h₀ L s (.ret (.bool true)) { s with heap := h', toks := tk' } := ⟨⟨m, h', tk', rfl, rfl, F⟩⟩
theorem law_mono {M : Model} {A : Around} {t : Sem Flow} {Q : Flow → Shared → Prop} {E : Value → Shared → Prop} {s : Shared} {h₀ : Heap} {L : Addr} {m : Str → Option Value} (F : Fr h₀ L s.heap m)
    (h : wpAny M A t (LawEnd h₀ L s) (fun _ _ => False) s) (hq : ∀ m' h' tk', Fr h₀ L h' m' → Q (.ret (.bool true)) { s with heap := h', toks := tk' }) : wpAny M A t Q E s :=
  wpAny_mono h (fun f s' hf => by obtain ⟨m', h', tk', rfl, rfl, F'⟩ := hf.out; exact hq m' h' tk' F') fun _ _ x => x.elim
structure NearL (a b n : Int) : Prop where
  a0 : 0 ≤ a
  b0 : 0 < b
  bl : b.natAbs.log2 < 9000
  al : (a.fdiv b).natAbs.log2 < 1920
  q0 : 0 ≤ a.fdiv b
  e : a.fdiv b = wholeN n
theorem log200 : (2 : Int) ^ 200 = 1606938044258990275541962092341162602522202993782792835301376 := by decide
theorem nearl_of {n A b : Int} (hB : Big n) (hn : n ≠ 0) (hA : Eqn A (nearA (if n < 0 then -n else n) 1)) (hb : Eqn b (2 ^ 200)) : NearL A b n := by
  have e1 : (if n < 0 then -n else n) = (n.natAbs : Int) := by split <;> omega
  obtain ⟨rfl⟩ := hA
  obtain ⟨rfl⟩ := hb
  rw [e1]
  have hN0 : 0 < n.natAbs := by omega
  have eq := wholeN_eq hB hn
  have ef : (nearA (n.natAbs : Int) 1).fdiv (2 ^ 200) = (wholeW n.natAbs : Int) := by rw [nearA_one hB hn, two200, div_cast _ _ (Nat.two_pow_pos _)]
  have hw : wholeW n.natAbs < 2 ^ 500 := by
    have h1 := (near_qb hN0 (big_210 hB) (D := 1) (by decide) (by decide)).2
    have h2 := (near_k hN0 (big_210 hB) (D := 1) (by decide) (by decide)).2.1
    refine Nat.lt_of_le_of_lt (Nat.div_le_self _ _) ?_
    refine Nat.lt_of_le_of_lt (Nat.mul_le_mul h1 (Nat.pow_le_pow_right (by decide) h2)) ?_
    rw [← Nat.pow_add]
    exact Nat.pow_lt_pow_right (by decide) (by decide)
  refine ⟨?_, by decide, by decide +kernel, ?_, ?_, ?_⟩
  · rw [nearA_one hB hn]
    exact Int.natCast_nonneg _
  · rw [ef, Int.natAbs_natCast]
    exact log_of_lt hw (by decide)
  · rw [ef]
    exact Int.natCast_nonneg _
  · rw [ef, eq]
theorem near_law {w : World} {loose : List Str} {mean : ExcName → Option Value} {mg mb : Str → Option Value}
    {dp un : Nat} {gd : Option (List Code)} {cn : Str} {cs : Scope} {a : Addr} {ccd : Value} {cl : List (Str × Addr)} {outer : List Env} {A₀ : Around} {base h₀ : Heap} {L : Addr} {m : Str → Option Value} {news : List (Addr × Obj)} {s : Shared}
    {Q E : Value → Shared → Prop} {n : Int} {tn td : Tok}
    (B : Below A₀ base outer h₀) (F : Fr h₀ L s.heap m) (X : (fv.heap_39 w.params).In h₀) (N : News h₀ L s.heap news) (T : Top fv.view_39 loose mean mg mb h₀) (hk : cs.kind = .function)
    (hdp : dp + 3 < recursionLimit) (hun : un + 24 < cLine)
    (hB : Big n) (hn : n ≠ 0)
    (hret : ∀ (D : Addr) (a b : Int) (t1 t2 : Tok) (h' : Heap) (tk' : Nat), NearL a b n → Fr h₀ L h' m → News h₀ L h' ((D, { cls := .type "tuple", data := .seq #[.int a t1, .int b t2] }) :: news) → (∀ p ∈ news, p.1 < D) → Q (.ref D) { s with heap := h', toks := tk' }) :
    wpAny (model Challenge.rw_fv0008_01.row.prog w) (ktrTop dp un gd cn cs L a ccd cl outer) (call (.ref 93) [.int (if n < 0 then -n else n) tn, .int 1 td]) Q E s := by
  have h0 : 0 < (if n < 0 then -n else n) := by split <;> omega
  have h1 : Flt.Hid ((if n < 0 then -n else n) < 2 ^ 210) := by
    have h := big_210 hB
    have e : (2 : Int) ^ 210 = ((2 ^ 210 : Nat) : Int) := by simp
    constructor
    rw [e]
    generalize 2 ^ 210 = z at h ⊢
    split <;> omega
  have h2 : (Builtin.Int.intBits (if n < 0 then -n else n) : Int) + 200 ≤ 100000 := by
    have := bits_le_of_lt (Int.le_of_lt h0) h1.out
    omega
  exact near_c B F X N T hk hdp hun h0 h1 h2 (by decide) (by decide) (by decide +kernel) fun D A b t1 t2 h' tk' hA hb F' N' l1 => hret D A b t1 t2 h' tk' (nearl_of hB hn hA hb) F' N' l1
theorem fmod_big {k e : Int} (h0 : 0 ≤ e) (h1 : e ≤ 60) : Flt.Hid ((k.fmod (10 ^ e.toNat)).natAbs < 10 ^ 60) := by
  have hp : (0 : Int) < 10 ^ e.toNat := Int.pow_pos (by decide)
  have a1 := Int.fmod_nonneg_of_pos k hp
  have a2 := Int.fmod_lt_of_pos k hp
  have ec : (10 : Int) ^ e.toNat = ((10 ^ e.toNat : Nat) : Int) := by simp
  have a3 : 10 ^ e.toNat ≤ 10 ^ 60 := Nat.pow_le_pow_right (by decide) (by omega)
  constructor
  generalize k.fmod (10 ^ e.toNat) = r at *
  rw [ec] at a2
  generalize 10 ^ e.toNat = u at *
  generalize 10 ^ 60 = v at *
  omega
theorem num_big (k : Int) : Big (if (10 ^ Int.toNat 6 < if k < 0 then -k else k) ∧ 0 ≤ k.fmod 60 ∧ k.fmod 60 < 60 ∧ 4 < k.fmod 7 then
          k.fmod (10 ^ (k.fmod 60 + 1).toNat) * -1
        else
          if (10 ^ Int.toNat 6 < if k < 0 then -k else k) ∧ 0 ≤ k.fmod 60 ∧ k.fmod 60 < 60 ∧ ¬4 < k.fmod 7 then
            k.fmod (10 ^ (k.fmod 60 + 1).toNat) * 1
          else if ¬10 ^ Int.toNat 6 < if k < 0 then -k else k then k else k) := by
  have h0 := Int.fmod_nonneg_of_pos k (b := 60) (by decide)
  have h1 := Int.fmod_lt_of_pos k (b := 60) (by decide)
  have hb := fmod_big (k := k) (e := k.fmod 60 + 1) (by omega) (by omega)
  have hK : ∀ K, (if k < 0 then -k else k) = K → (k.natAbs : Int) = K := by
    intro K e
    rw [← e]
    split <;> omega
  generalize (if k < 0 then -k else k) = K at *
  have hK' := hK K rfl
  have e6 : (10 : Int) ^ Int.toNat 6 = 1000000 := by decide
  rw [e6]
  by_cases c : 1000000 < K
  · by_cases h7 : 4 < k.fmod 7
    · rw [if_pos ⟨c, h0, h1, h7⟩]
      constructor
      rw [Int.natAbs_mul]
      have := hb.out
      rwa [show (-1 : Int).natAbs = 1 from rfl, Nat.mul_one]
    · rw [if_neg (fun q => h7 q.2.2.2), if_pos ⟨c, h0, h1, h7⟩]
      constructor
      rw [Int.mul_one]
      exact hb.out
  · rw [if_neg (fun q => c q.1), if_neg (fun q => c q.1), if_pos c]
    constructor
    have h60 : 1000000 < 10 ^ 60 := by decide
    exact Nat.lt_of_le_of_lt (by omega) h60
theorem nums_of {ys : List Value} {f : Int → Int} {zs : List Int} (h : IntsAre ys (zs.map f)) (hf : ∀ k, Big (f k)) (hz : zs.length ≤ 5) : ∃ ns, IntsAre ys ns ∧ ns.length ≤ 5 ∧ ∀ n ∈ ns, Big n :=
  ⟨_, h, by simpa using hz, fun n hn => by obtain ⟨k, _, rfl⟩ := List.mem_map.mp hn; exact hf k⟩
section
variable {prog : Program} {w : World} {A : Around} {E : Value → Shared → Prop} {s : Shared} {Q : Value → Shared → Prop} {x y : Str} {t u : Tok}
theorem ne_same (e : x = y) (h : Q (.bool false) s) : wpAny (model prog w) A (compareOp .NotEq (.str x t) (.str y u)) Q E s := by
  refine ne_str ?_
  subst e
  simpa using h
end
theorem keep3' {h₀ h : Heap} {L : Addr} {x0 x1 x2 x3 : Addr × Obj} {r : List (Addr × Obj)} (N : News h₀ L h (x0 :: x1 :: x2 :: x3 :: r)) : News h₀ L h [x1, x2, x3] := cb_drop N (by
  intro p hp
  rcases List.mem_cons.mp hp with rfl | hp
  · exact .tail _ (.head _)
  rcases List.mem_cons.mp hp with rfl | hp
  · exact .tail _ (.tail _ (.head _))
  rcases List.mem_cons.mp hp with rfl | hp
  · exact .tail _ (.tail _ (.tail _ (.head _)))
  · nomatch hp)
theorem keep2 {h₀ h : Heap} {L : Addr} {x0 x1 x2 : Addr × Obj} {r : List (Addr × Obj)} (N : News h₀ L h (x0 :: x1 :: x2 :: r)) : News h₀ L h [x0, x2] := cb_drop N (by
  intro p hp
  rcases List.mem_cons.mp hp with rfl | hp
  · exact .head _
  rcases List.mem_cons.mp hp with rfl | hp
  · exact .tail _ (.tail _ (.head _))
  · nomatch hp)
theorem keep3 {h₀ h : Heap} {L : Addr} {x0 x1 x2 x3 x4 : Addr × Obj} {r : List (Addr × Obj)} (N : News h₀ L h (x0 :: x1 :: x2 :: x3 :: x4 :: r)) : News h₀ L h [x1, x2, x4] := cb_drop N (by
  intro p hp
  rcases List.mem_cons.mp hp with rfl | hp
  · exact .tail _ (.head _)
  rcases List.mem_cons.mp hp with rfl | hp
  · exact .tail _ (.tail _ (.head _))
  rcases List.mem_cons.mp hp with rfl | hp
  · exact .tail _ (.tail _ (.tail _ (.tail _ (.head _))))
  · nomatch hp)
theorem big_len {n : Int} (h : Big n) : (S (comL (dgN n.natAbs))).length ≤ 1300 := by
  rw [S_len]
  have h1 := comL_len (dgN n.natAbs)
  have h2 := dgN_len (big_log h)
  omega
theorem log_len {a : Int} (h : a.natAbs.log2 < 1920) : (S (comL (dgN a.natAbs))).length ≤ 1300 := by
  rw [S_len]
  have h1 := comL_len (dgN a.natAbs)
  have h2 := dgN_len h
  omega
theorem ln_sp : (Str.ofString " ").length = 1 := by decide +kernel
theorem ln_mi : (Str.ofString "-").length = 1 := by decide +kernel
theorem ln_em : (Str.ofString "").length = 0 := by decide +kernel
theorem ln_dot : (Str.ofString ".").length = 1 := by decide +kernel
theorem mul_len {g : Int} (h0 : 0 ≤ g) (h4 : g ≤ 4) : (Txt.mul (Str.ofString "0") g).length ≤ 4 := by
  rcases five g h0 h4 with rfl | rfl | rfl | rfl | rfl <;> decide +kernel
section
variable {prog : Program} {w : World} {A : Around} {E : Value → Shared → Prop} {s : Shared} {Q : Value → Shared → Prop} {a b n : Int} {t u : Tok}
theorem floor_l (e : NearL a b n) (h : Q (.int (a.fdiv b) s.toks) { s with toks := s.toks + 1 }) : wpAny (model prog w) A (binaryOp .FloorDiv (.int a t) (.int b u)) Q E s :=
  floordiv_int (Int.ne_of_gt e.b0) h (Or.inl (PyProof.noPylong_of_log2 e.bl))
end
theorem said_snoc {pre : List Int} {n : Int} {ss : List Str} {x : Str} (h : ss = pre.map wordS) (e : x = wordS n) : ss ++ [x] = (pre ++ [n]).map wordS := by
  rw [h, e, List.map_append]
  rfl
theorem push_head {l : Addr} {vs : List Value} {v : Value} {n : Nat} {r : List (Addr × Obj)} : (l, listOf (vs ++ [v]).toArray (n + 1)) ∈ (l, listOf (vs.toArray.push v) (n + 1)) :: r := by
  rw [List.push_toArray]
  exact .head _
theorem said_len {vs : List Value} {ss : List Str} {pre post ns : List Int} {k : Int} (h : StrsAre vs ss) (e : ss = pre.map wordS) (h5 : ns.length ≤ 5) (hk : ns = pre ++ k :: post) : vs.length ≤ 4 := by
  have h1 := strs_len h
  rw [e, List.length_map] at h1
  rw [hk, List.length_append, List.length_cons] at h5
  omega
section
variable {prog : Program} {w : World} {A : Around} {E : Value → Shared → Prop} {s : Shared} {Q : Value → Shared → Prop}
theorem ite_texts {c : Prop} [Decidable c] {x y : Str} {k k' : Nat} {p p' : Pos} {env : Env} (h : Q (.str (if c then x else y) s.toks) { s with toks := s.toks + 1 }) :
    if c then wpAny (model prog w) A (eval (.Constant (.str x) k p) env) Q E s else wpAny (model prog w) A (eval (.Constant (.str y) k' p') env) Q E s := by
  by_cases hc : c
  · rw [if_pos hc] at h ⊢; exact Constant_str h
  · rw [if_neg hc] at h ⊢; exact Constant_str h
end
/-- the sign ahead of a number -/
abbrev signT (n : Int) : Str := if decide (n < 0) = true then Str.ofString "-" else Str.ofString ""
theorem sign_len (n : Int) : (if decide (n < 0) = true then Str.ofString "-" else Str.ofString "").length ≤ 1 := by
  split <;> decide +kernel
theorem sign_S (n : Int) : (if decide (n < 0) = true then Str.ofString "-" else Str.ofString "") = S (if n < 0 then [45] else []) := by
  by_cases h : n < 0
  · rw [if_pos (decide_eq_true h), if_pos h, os_minus]
  · rw [if_neg (by simpa using h), if_neg h, os_empty]
theorem word_any {n : Int} : (if decide (n < 0) = true then Str.ofString "-" else Str.ofString "") ++ S (comL (dgN n.natAbs)) = wordS n := by
  rw [sign_S, S_cat]
  rfl
theorem blank_any {n : Int} : Str.ofString " " ++ ((if decide (n < 0) = true then Str.ofString "-" else Str.ofString "") ++ S (comL (dgN n.natAbs))) ++ Str.ofString " " = blankS n := by
  rw [sign_S, os_blank, S_cat, S_cat, S_cat]
  rfl
theorem said_0 {n a b g : Int} (e : NearL a b n) (hg : g = 0) : saidS n (wholeN n) g = ((if decide (n < 0) = true then Str.ofString "-" else Str.ofString "") ++ S (comL (dgN (a.fdiv b).natAbs))) ++ Str.ofString "" := by
  rw [e.e, sign_S, S_cat, os_empty, S_cat]
  unfold saidS
  rw [if_pos hg]
theorem mul_zeros {g : Int} (h0 : 0 ≤ g) (h4 : g ≤ 4) (hg : g ≠ 0) : Str.ofString "." ++ Txt.mul (Str.ofString "0") g = S (46 :: List.replicate g.toNat 48) := by
  rcases five g h0 h4 with rfl | rfl | rfl | rfl | rfl
  · exact absurd rfl hg
  all_goals decide +kernel
theorem said_g {n a b g : Int} (e : NearL a b n) (hg : g ≠ 0) (h0 : 0 ≤ g) (h4 : g ≤ 4) : saidS n (wholeN n) g = ((if decide (n < 0) = true then Str.ofString "-" else Str.ofString "") ++ S (comL (dgN (a.fdiv b).natAbs))) ++ (Str.ofString "." ++ Txt.mul (Str.ofString "0") g) := by
  rw [e.e, sign_S, S_cat, mul_zeros h0 h4 hg, S_cat]
  unfold saidS
  rw [if_neg hg]
theorem nearl_zero {n : Int} (h : n = 0) : NearL 0 1 n := by
  refine ⟨by decide, by decide, by decide, by decide, by decide, ?_⟩
  unfold wholeN
  rw [if_pos h]
  rfl
def strOf : Value → Str
  | .str x _ => x
  | _ => Str.empty
def intTextOf' : Value → Str
  | .int n _ => Str.ofString (toString n)
  | _ => Str.empty
theorem strOf_map {vs : List Value} {ws : List Str} (h : StrsAre vs ws) : vs.map strOf = ws := by
  induction h with
  | nil => rfl
  | cons y t _ ih => rw [List.map_cons, ih]; rfl
theorem intOf_map {vs : List Value} {ns : List Int} (h : IntsAre vs ns) : vs.map intTextOf' = ns.map fun n => Str.ofString (toString n) := by
  induction h with
  | nil => rfl
  | cons n t _ ih => rw [List.map_cons, ih]; rfl
theorem strs_mem {vs : List Value} {ws : List Str} (h : StrsAre vs ws) : ∀ v ∈ vs, ∃ x t, v = .str x t ∧ strOf v = x ∧ x ∈ ws := by
  induction h with
  | nil => intro v hv; nomatch hv
  | cons y t _ ih =>
    intro v hv
    rcases List.mem_cons.mp hv with rfl | hv
    · exact ⟨y, t, rfl, rfl, .head _⟩
    · obtain ⟨x, u, e, e', hx⟩ := ih v hv
      exact ⟨x, u, e, e', .tail _ hx⟩
theorem ints_mem {vs : List Value} {ns : List Int} (h : IntsAre vs ns) : ∀ v ∈ vs, ∃ x t, v = .int x t ∧ intTextOf' v = Str.ofString (toString x) ∧ x ∈ ns := by
  induction h with
  | nil => intro v hv; nomatch hv
  | cons y t _ ih =>
    intro v hv
    rcases List.mem_cons.mp hv with rfl | hv
    · exact ⟨y, t, rfl, rfl, .head _⟩
    · obtain ⟨x, u, e, e', hx⟩ := ih v hv
      exact ⟨x, u, e, e', .tail _ hx⟩
theorem nat_w {w : World} {loose : List Str} {mean : ExcName → Option Value} {mg mb : Str → Option Value}
    {dp un : Nat} {gd : Option (List Code)} {cn : Str} {cs : Scope} {a : Addr} {ccd : Value} {cl : List (Str × Addr)} {outer : List Env} {A₀ : Around} {base h₀ : Heap} {L : Addr} {m : Str → Option Value} {news : List (Addr × Obj)} {s : Shared}
    {Q E : Value → Shared → Prop} {l : Addr} {vs : List Value} {nn : Nat} {ws : List Str}
    (B : Below A₀ base outer h₀) (F : Fr h₀ L s.heap m) (X : (fv.heap_39 w.params).In h₀) (N : News h₀ L s.heap news) (T : Top fv.view_39 loose mean mg mb h₀) (hk : cs.kind = .function)
    (hdp : dp + 3 < recursionLimit) (hun : un + 24 < cLine)
    (hm : (l, listOf vs.toArray nn) ∈ news) (hS : StrsAre vs ws) (h5 : ws.length ≤ 5) (hw : ∀ w ∈ ws, Clean w)
    (hret : ∀ (t : Tok) (h' : Heap) (tk' : Nat), Fr h₀ L h' m → News h₀ L h' news → Q (.str (pyNat ws) t) { s with heap := h', toks := tk' }) :
    wpAny (model Challenge.rw_fv0008_01.row.prog w) (ktrTop dp un gd cn cs L a ccd cl outer) (call (.ref 86) [.ref l]) Q E s := by
  have hl := strs_len hS
  refine nat_c B F X N T hk hdp hun (f := strOf) hm (by omega) ?_ (by rw [strOf_map hS]; exact hret)
  intro v hv
  obtain ⟨x, t, e, e', hx⟩ := strs_mem hS v hv
  exact ⟨x, t, e, e', Nat.lt_of_lt_of_le (hw x hx).1 (by decide)⟩
theorem str_clean {n : Int} (h : Big n) : Clean (Str.ofString (toString n)) := by
  rw [num_S]
  unfold Clean
  rw [S_len, S_list]
  have h1 := numL_len h
  refine ⟨by omega, ?_, fun c hc => by have := numL_signs n c hc; omega⟩
  unfold numL
  simp [dgN_ne]
theorem word_clean {n : Int} (h : Big n) : Clean (wordS n) := by
  unfold wordS Clean
  rw [S_len, S_list]
  have h1 := big_dg h
  have h2 := comL_len (dgN n.natAbs)
  refine ⟨?_, ?_, ?_⟩
  · rw [List.length_append]
    split <;> simp <;> omega
  · simp [comL_ne (dgN_ne _)]
  · intro c hc
    rcases List.mem_append.mp hc with hc | hc
    · split at hc
      · rw [List.mem_singleton.mp hc]; decide
      · exact nomatch hc
    · rcases comL_mem hc with rfl | hc
      · decide
      · have := dgN_digit _ c hc; omega
theorem nat_tw {w : World} {loose : List Str} {mean : ExcName → Option Value} {mg mb : Str → Option Value}
    {dp un : Nat} {gd : Option (List Code)} {cn : Str} {cs : Scope} {a : Addr} {ccd : Value} {cl : List (Str × Addr)} {outer : List Env} {A₀ : Around} {base h₀ : Heap} {L : Addr} {m : Str → Option Value} {news : List (Addr × Obj)} {s : Shared}
    {Q E : Value → Shared → Prop} {l : Addr} {vs : List Value} {nn : Nat} {ns : List Int}
    (B : Below A₀ base outer h₀) (F : Fr h₀ L s.heap m) (X : (fv.heap_39 w.params).In h₀) (N : News h₀ L s.heap news) (T : Top fv.view_39 loose mean mg mb h₀) (hk : cs.kind = .function)
    (hdp : dp + 3 < recursionLimit) (hun : un + 24 < cLine)
    (hm : (l, { cls := .type "tuple", data := .seq vs.toArray nn }) ∈ news) (hI : IntsAre vs ns) (h5 : ns.length ≤ 5) (hB : ∀ n ∈ ns, Big n)
    (hret : ∀ (t : Tok) (h' : Heap) (tk' : Nat), Fr h₀ L h' m → News h₀ L h' news → Q (.str (pyNat (ns.map fun n => Str.ofString (toString n))) t) { s with heap := h', toks := tk' }) :
    wpAny (model Challenge.rw_fv0008_01.row.prog w) (ktrTop dp un gd cn cs L a ccd cl outer) (call (.ref 86) [.ref l]) Q E s := by
  have hl := hI.length
  refine nat_t B F X N T hk hdp hun (f := intTextOf') hm (by omega) ?_ (by rw [intOf_map hI]; exact hret)
  intro v hv
  obtain ⟨x, t, e, e', hx⟩ := ints_mem hI v hv
  exact ⟨x, t, e, e', big_log (hB x hx), Nat.lt_of_lt_of_le (str_clean (hB x hx)).1 (by decide)⟩
theorem back_w {w : World} {loose : List Str} {mean : ExcName → Option Value} {mg mb : Str → Option Value}
    {dp un : Nat} {gd : Option (List Code)} {cn : Str} {cs : Scope} {a : Addr} {ccd : Value} {cl : List (Str × Addr)} {outer : List Env} {A₀ : Around} {base h₀ : Heap} {L : Addr} {m : Str → Option Value} {news : List (Addr × Obj)} {s : Shared}
    {Q E : Value → Shared → Prop} {ws : List Str} {tx : Tok}
    (B : Below A₀ base outer h₀) (F : Fr h₀ L s.heap m) (X : (fv.heap_39 w.params).In h₀) (N : News h₀ L s.heap news) (T : Top fv.view_39 loose mean mg mb h₀) (hk : cs.kind = .function)
    (hdp : dp + 3 < recursionLimit) (hun : un + 24 < cLine)
    (h5 : ws.length ≤ 5) (hw : ∀ w ∈ ws, Clean w)
    (hret : ∀ (D : Addr) (vs : List Value) (h' : Heap) (tk' : Nat), StrsAre vs ws → Fr h₀ L h' m → News h₀ L h' ((D, listOf vs.toArray 0) :: news) → (∀ p ∈ news, p.1 < D) → Q (.ref D) { s with heap := h', toks := tk' }) :
    wpAny (model Challenge.rw_fv0008_01.row.prog w) (ktrTop dp un gd cn cs L a ccd cl outer) (call (.ref 121) [.str (pyNat ws) tx]) Q E s := by
  obtain ⟨b1, b2, b3, b4⟩ := back_nat h5 hw
  refine back_c B F X N T hk hdp hun b1 b2 b3 ?_
  intro D l h' tk' e F' N' l1
  refine hret D _ h' tk' ?_ F' N' l1
  rw [← b4, ← e]
  exact strs_values
theorem words_clean {ns : List Int} (hB : ∀ n ∈ ns, Big n) : ∀ w ∈ ns.map wordS, Clean w := by
  intro w hw
  obtain ⟨n, hn, rfl⟩ := List.mem_map.mp hw
  exact word_clean (hB n hn)
theorem strs_clean {ns : List Int} (hB : ∀ n ∈ ns, Big n) : ∀ w ∈ ns.map (fun n => Str.ofString (toString n)), Clean w := by
  intro w hw
  obtain ⟨n, hn, rfl⟩ := List.mem_map.mp hw
  exact str_clean (hB n hn)
/-- what a comprehension over ints tells as texts -/
theorem strs_of_run {f : Int → Str} {g : Value → Str} {l : List (Str × Tok)} {vs : List Value} {ns : List Int} (hI : IntsAre vs ns) (hg : ∀ n t, g (.int n t) = f n) (e : l.map (·.1) = vs.map g) : StrsAre (strValues l) (ns.map f) := by
  have q : vs.map g = ns.map f := by
    clear e
    induction hI with
    | nil => rfl
    | cons n t _ ih => rw [List.map_cons, ih, List.map_cons, hg]
  rw [← q, ← e]
  exact strs_values
def wordOf : Value → Str
  | .int n _ => wordS n
  | _ => Str.empty
theorem map5 {f : Int → Str} {ns : List Int} (h : ns.length ≤ 5) : (ns.map f).length ≤ 5 := by rw [List.length_map]; exact h
/-- while it stands, the walk waits at each statement -/
structure Stage : Prop where
  mark :: (one : True)
theorem mono_step {M : Model} {A : Around} {α : Type} {t : Sem α} {Q P : α → Shared → Prop} {E : Value → Shared → Prop} {s : Shared} (h : wpAny M A t P E s) (hq : ∀ f s', P f s' → Q f s') : wpAny M A t Q E s :=
  wpAny_mono h hq fun _ _ x => x
/-- a statement that stores one name: what is known of its value -/
structure StoreEnd (R : Value → Prop) (y : Str) (m : Str → Option Value) (news : List (Addr × Obj)) (h₀ : Heap) (L : Addr) (s : Shared) (f : Flow) (s' : Shared) : Prop where
  out : ∃ v m' h' tk', f = .next ∧ R v ∧ m' y = some v ∧ (∀ z, z ≠ y → m' z = m z) ∧ s' = { s with heap := h', toks := tk' } ∧ Fr h₀ L h' m' ∧ News h₀ L h' news
theorem storeEnd {R : Value → Prop} {y : Str} {m m' : Str → Option Value} {news news' : List (Addr × Obj)} {h₀ : Heap} {L : Addr} {s : Shared} {v : Value} {h' : Heap} {tk' : Nat} (hR : R v) (hy : m' y = some v) (hz : ∀ z, z ≠ y → m' z = m z) (F : Fr h₀ L h' m')
    (N : News h₀ L h' news') (hs : ∀ p ∈ news, p ∈ news') : StoreEnd R y m news h₀ L s .next { s with heap := h', toks := tk' } := ⟨⟨v, m', h', tk', rfl, hR, hy, hz, rfl, F, fun p hp => N p (hs p hp)⟩⟩
theorem StoreEnd.use {R : Value → Prop} {y : Str} {m : Str → Option Value} {news : List (Addr × Obj)} {h₀ : Heap} {L : Addr} {s : Shared} {f : Flow} {s' : Shared} {Q : Flow → Shared → Prop} (x : StoreEnd R y m news h₀ L s f s')
    (h : ∀ v h' tk', R v → Fr h₀ L h' (fun z => if z = y then some v else m z) → News h₀ L h' news → Q .next { s with heap := h', toks := tk' }) : Q f s' := by
  obtain ⟨v, m', h', tk', rfl, hR, hy, hz, rfl, F, N⟩ := x.out
  refine h v h' tk' hR ?_ N
  have e : (fun z => if z = y then some v else m z) = m' := by
    funext z
    by_cases hzy : z = y
    · rw [if_pos hzy, hzy, hy]
    · rw [if_neg hzy, hz z hzy]
  rw [e]
  exact F
theorem store_join {M : Model} {A : Around} {t : Sem Flow} {Q : Flow → Shared → Prop} {E : Value → Shared → Prop} {s : Shared} {h₀ : Heap} {L : Addr} {m : Str → Option Value} {news : List (Addr × Obj)} (R : Value → Prop) (y : Str) (F : Fr h₀ L s.heap m) (N : News h₀ L s.heap news)
    (h : wpAny M A t (StoreEnd R y m news h₀ L s) E s) (hq : ∀ v h' tk', R v → Fr h₀ L h' (fun z => if z = y then some v else m z) → News h₀ L h' news → Q .next { s with heap := h', toks := tk' }) : wpAny M A t Q E s :=
  mono_step h fun _ _ x => x.use hq
theorem pl_of (r : Int) : Pl (r.fmod 3 + 3) (10 ^ (r.fmod 3 + 3).toNat) := by
  have h0 := Int.fmod_nonneg_of_pos r (b := 3) (by decide)
  have h1 := Int.fmod_lt_of_pos r (b := 3) (by decide)
  have h : r.fmod 3 = 0 ∨ r.fmod 3 = 1 ∨ r.fmod 3 = 2 := by omega
  rcases h with h | h | h <;> rw [h] <;> exact ⟨by decide, by decide, rfl, by decide, by decide⟩
theorem nb_1 (r : Int) : Nb (r.fmod (10 ^ Int.toNat 13)) := by
  have e : (10 : Int) ^ Int.toNat 13 = 10000000000000 := by decide
  rw [e]
  have h0 := Int.fmod_nonneg_of_pos r (b := 10000000000000) (by decide)
  have h1 := Int.fmod_lt_of_pos r (b := 10000000000000) (by decide)
  exact ⟨h0, by omega⟩
theorem nb_2 (r r' : Int) {p P : Int} (h : Pl p P) : Nb (r.fmod (10 ^ Int.toNat 8) * P + (P - 1).fdiv 9 * 5 + (r'.fdiv 12).fmod 3 - 1) := by
  have e : (10 : Int) ^ Int.toNat 8 = 100000000 := by decide
  rw [e]
  have h0 := Int.fmod_nonneg_of_pos r (b := 100000000) (by decide)
  have h1 := Int.fmod_lt_of_pos r (b := 100000000) (by decide)
  have h2 := Int.fmod_nonneg_of_pos (r'.fdiv 12) (b := 3) (by decide)
  have h3 := Int.fmod_lt_of_pos (r'.fdiv 12) (b := 3) (by decide)
  have h4 : (P - 1).fdiv 9 = (P - 1) / 9 := Int.fdiv_eq_ediv_of_nonneg _ (by decide)
  rw [h4]
  have hl := h.lo
  have hh := h.hi
  have h5 : 0 ≤ r.fmod 100000000 * P := Int.mul_nonneg h0 (by omega)
  have h6 : r.fmod 100000000 * P ≤ 99999999 * 100000 := Int.mul_le_mul (by omega) hh (by omega) (by decide)
  exact ⟨by omega, by omega⟩
theorem pl_log {p P : Int} (h : Pl p P) : P.natAbs.log2 < 9000 := by
  have h1 := h.lo
  have h2 := h.hi
  have : P.natAbs.log2 < 17 := (Nat.log2_lt (by omega)).mpr (by
    have e : (2 : Nat) ^ 17 = 131072 := rfl
    omega)
  omega
theorem bits_small {x : Int} (h0 : 0 ≤ x) (h : x < 18446744073709551616) : Builtin.Int.intBits x ≤ 64 := bits_le_of_lt h0 (by simpa using h)
section
variable {prog : Program} {w : World} {A : Around} {E : Value → Shared → Prop} {s : Shared} {Q : Value → Shared → Prop} {p P a : Int} {t u : Tok}
theorem pow_pl (e : Pl p P) (h : Q (.int P s.toks) { s with toks := s.toks + 1 }) : wpAny (model prog w) A (binaryOp .Pow (.int 10 t) (.int p u)) Q E s := by
  have h3 := e.lo3
  have h5 := e.hi5
  refine pow_int_small (by omega) (by omega) (by decide) ?_
  rw [← e.e]
  exact h
theorem mul_pl (e : Pl p P) (h : Q (.int (a * P) s.toks) { s with toks := s.toks + 1 }) : wpAny (model prog w) A (binaryOp .Mult (.int a t) (.int P u)) Q E s :=
  mul_int h (IntMulOk.of_right (bits_small (Int.le_trans (by decide) e.lo) (Int.lt_of_le_of_lt e.hi (by decide))))
theorem floor_pl (e : Pl p P) (hn : Nb a) (h : Q (.int (a.fdiv P) s.toks) { s with toks := s.toks + 1 }) : wpAny (model prog w) A (binaryOp .FloorDiv (.int a t) (.int P u)) Q E s := by
  have h1 := e.lo
  have h2 := e.hi
  exact floordiv_int (by omega) h (Or.inl (PyProof.noPylong_of_log2 (pl_log e)))
end
end Mine
end
section
open PySem.Spec PySem.Calls
set_option maxHeartbeats 4000000
set_option hygiene false
set_option linter.unusedVariables false
namespace Mine
local macro_rules | `(tactic| k_steps) => `(tactic| repeat' (first | (k_unfold; (try dsimp only)) | (walk1 <;> (try dsimp only)) | (dsimp only; walk1) | (leave1; walk_say "STEP leave1"; try dsimp only) | fail "no step"))
open Builtin Builtin.Float
open Float64 (halfEven)
theorem near_t {w : World} {loose : List Str} {mean : ExcName → Option Value} {mg mb : Str → Option Value}
    {dp un : Nat} {gd : Option (List Code)} {cn : Str} {cs : Scope} {a : Addr} {ccd : Value} {cl : List (Str × Addr)} {outer : List Env} {A₀ : Around} {base h₀ : Heap} {L : Addr} {m : Str → Option Value} {news : List (Addr × Obj)} {s : Shared}
    {Q E : Value → Shared → Prop} {n p P : Int} {tn td : Tok}
    (B : Below A₀ base outer h₀) (F : Fr h₀ L s.heap m) (X : (fv.heap_39 w.params).In h₀) (N : News h₀ L s.heap news) (T : Top fv.view_39 loose mean mg mb h₀) (hk : cs.kind = .function)
    (hdp : dp + 3 < recursionLimit) (hun : un + 24 < cLine)
    (hn : 0 < n) (hNb : Nb n) (hP : Pl p P)
    (hret : ∀ (D : Addr) (a b : Int) (t1 t2 : Tok) (h' : Heap) (tk' : Nat), AB a b n P → Fr h₀ L h' m → News h₀ L h' ((D, { cls := .type "tuple", data := .seq #[.int a t1, .int b t2] }) :: news) → (∀ p ∈ news, p.1 < D) → Q (.ref D) { s with heap := h', toks := tk' }) :
    wpAny (model Challenge.rw_fv0008_01.row.prog w) (ktrTop dp un gd cn cs L a ccd cl outer) (call (.ref 93) [.int n tn, .int P td]) Q E s := by
  have h0 := hNb.lo
  have h1 := hNb.hi
  have h2 := hP.lo
  have h3 := hP.hi
  have hb : Builtin.Int.intBits n ≤ 64 := bits_small h0 (Int.lt_trans h1 (by decide))
  refine near_c B F X N T hk hdp hun hn ⟨Int.lt_trans h1 (by decide)⟩ (by omega) (by omega) h3 (pl_log hP) ?_
  intro D A b t1 t2 h' tk' hA hb F' N' l1
  exact hret D A b t1 t2 h' tk' ⟨.inl ⟨hn, hA.out, hb.out⟩⟩ F' N' l1
theorem ab_facts {a b n p P g : Int} (h : AB a b n P) (hNb : Nb n) (hP : Pl p P) (hg0 : 0 ≤ g) (hg4 : g ≤ 4) :
    0 ≤ a ∧ 0 < b ∧ IntMulOk a (10 ^ g.toNat) ∧ IntMulOk ((a * 10 ^ g.toNat).fdiv b) b ∧ Builtin.divisionGoesByPylong (a * 10 ^ g.toNat) b = false := by
  have hg : 10 ^ g.toNat ≤ 10 ^ 4 := Nat.pow_le_pow_right (by decide) (by omega)
  have eg : (10 : Int) ^ g.toNat = ((10 ^ g.toNat : Nat) : Int) := by simp
  have hm : IntMulOk a (10 ^ g.toNat) := by
    refine IntMulOk.of_right (bits_small ?_ ?_)
    · rw [eg]; exact Int.natCast_nonneg _
    · rw [eg]
      have : (10 ^ 4 : Nat) = 10000 := by decide
      omega
  rcases h.out with ⟨h0, rfl, rfl⟩ | ⟨h0, rfl, rfl⟩
  · have ea := nearA_nat hNb h0 hP
    have hle := ab_le hNb h0 hP
    have hb2 : Builtin.Int.intBits ((2 : Int) ^ 200) ≤ 2 ^ 20 := by decide +kernel
    refine ⟨by rw [ea]; exact Int.natCast_nonneg _, by decide, hm, ?_, PyProof.noPylong_of_log2 (by decide +kernel)⟩
    refine IntMulOk.of_bits ?_ hb2
    rw [ea, eg, ← Int.natCast_mul, two200, ← Int.ofNat_fdiv]
    refine Nat.le_trans (bits_le_of_lt (k := 440) (Int.natCast_nonneg _) ?_) (by decide)
    have e440 : (2 : Int) ^ 440 = ((2 ^ 440 : Nat) : Int) := by simp
    rw [e440]
    have h4 := Nat.mul_le_mul hle hg
    have h5 : 2 ^ 420 * 10 ^ 4 < 2 ^ 440 := by decide +kernel
    exact Int.ofNat_lt.mpr (Nat.lt_of_le_of_lt (Nat.div_le_self _ _) (Nat.lt_of_le_of_lt h4 h5))
  · refine ⟨by decide, by decide, hm, IntMulOk.of_right (by decide +kernel), PyProof.noPylong_of_log2 (by decide)⟩
theorem put_t {w : World} {loose : List Str} {mean : ExcName → Option Value} {mg mb : Str → Option Value}
    {dp un : Nat} {gd : Option (List Code)} {cn : Str} {cs : Scope} {a : Addr} {ccd : Value} {cl : List (Str × Addr)} {outer : List Env} {A₀ : Around} {base h₀ : Heap} {L : Addr} {m : Str → Option Value} {news : List (Addr × Obj)} {s : Shared}
    {Q E : Value → Shared → Prop} {a1 b1 n p P g : Int} {ta tb tg : Tok}
    (B : Below A₀ base outer h₀) (F : Fr h₀ L s.heap m) (X : (fv.heap_39 w.params).In h₀) (N : News h₀ L s.heap news) (T : Top fv.view_39 loose mean mg mb h₀) (hk : cs.kind = .function)
    (hdp : dp + 3 < recursionLimit) (hun : un + 24 < cLine)
    (hAB : AB a1 b1 n P) (hNb : Nb n) (hP : Pl p P) (hg0 : 0 ≤ g) (hg4 : g ≤ 4)
    (hret : ∀ (t : Tok) (h' : Heap) (tk' : Nat), Fr h₀ L h' m → News h₀ L h' news → Q (.int ((cN n P g.toNat : Nat) : Int) t) { s with heap := h', toks := tk' }) :
    wpAny (model Challenge.rw_fv0008_01.row.prog w) (ktrTop dp un gd cn cs L a ccd cl outer) (call (.ref 100) [.int a1 ta, .int b1 tb, .int g tg]) Q E s := by
  obtain ⟨f1, f2, f3, f4, f5⟩ := ab_facts hAB hNb hP hg0 hg4
  refine put_c B F X N T hk hdp hun f1 hg0 hg4 f2 f3 f4 f5 ?_
  rw [put_ab hAB hNb hP hg0]
  exact hret
theorem c_log {n p P g : Int} (hNb : Nb n) (hP : Pl p P) (hg4 : g ≤ 4) : (cN n P g.toNat).log2 < 1920 := log_of_lt (cN_lt hNb hP (by omega)) (by decide)
theorem word_len2 {c g : Nat} (h : c.log2 < 1920) (hg : g ≤ 4) : (wordL c g).length ≤ 605 := by
  have := dgN_len h
  unfold wordL
  rw [List.length_append, List.length_replicate]
  omega
theorem text_t {w : World} {loose : List Str} {mean : ExcName → Option Value} {mg mb : Str → Option Value}
    {dp un : Nat} {gd : Option (List Code)} {cn : Str} {cs : Scope} {a : Addr} {ccd : Value} {cl : List (Str × Addr)} {outer : List Env} {A₀ : Around} {base h₀ : Heap} {L : Addr} {m : Str → Option Value} {news : List (Addr × Obj)} {s : Shared}
    {Q E : Value → Shared → Prop} {n p P g : Int} {tn tg : Tok}
    (B : Below A₀ base outer h₀) (F : Fr h₀ L s.heap m) (X : (fv.heap_39 w.params).In h₀) (N : News h₀ L s.heap news) (T : Top fv.view_39 loose mean mg mb h₀) (hk : cs.kind = .function)
    (hdp : dp + 3 < recursionLimit) (hun : un + 24 < cLine)
    (hNb : Nb n) (hP : Pl p P) (hg0 : 0 ≤ g) (hg4 : g ≤ 4)
    (hret : ∀ (t : Tok) (h' : Heap) (tk' : Nat), Fr h₀ L h' m → News h₀ L h' news → Q (.str (S (textL (cN n P g.toNat) g.toNat)) t) { s with heap := h', toks := tk' }) :
    wpAny (model Challenge.rw_fv0008_01.row.prog w) (ktrTop dp un gd cn cs L a ccd cl outer) (call (.ref 107) [.int ((cN n P g.toNat : Nat) : Int) tn, .int g tg]) Q E s := by
  have hl := c_log hNb hP hg4
  have hw := word_len2 hl (g := g.toNat) (by omega)
  have eg : ((g.toNat : Nat) : Int) = g := Int.toNat_of_nonneg hg0
  have hp : PadOk (g + 1) = true := by rcases five g hg0 hg4 with rfl | rfl | rfl | rfl | rfl <;> decide +kernel
  have e := text_S (cN n P g.toNat) g.toNat
  have e2 := pyWord_S (cN n P g.toNat) g.toNat
  rw [eg] at e e2
  refine text_c B F X N T hk hdp hun (Int.natCast_nonneg _) (by rw [Int.natAbs_natCast]; exact hl) hp hg0 hg4 (by rw [e2, S_len]; omega) ?_
  rw [e]
  exact hret
theorem com_t {w : World} {loose : List Str} {mean : ExcName → Option Value} {mg mb : Str → Option Value}
    {dp un : Nat} {gd : Option (List Code)} {cn : Str} {cs : Scope} {a : Addr} {ccd : Value} {cl : List (Str × Addr)} {outer : List Env} {A₀ : Around} {base h₀ : Heap} {L : Addr} {m : Str → Option Value} {news : List (Addr × Obj)} {s : Shared}
    {Q E : Value → Shared → Prop} {n p P g : Int} {tx : Tok}
    (B : Below A₀ base outer h₀) (F : Fr h₀ L s.heap m) (X : (fv.heap_39 w.params).In h₀) (N : News h₀ L s.heap news) (T : Top fv.view_39 loose mean mg mb h₀) (hk : cs.kind = .function)
    (hdp : dp + 3 < recursionLimit) (hun : un + 24 < cLine)
    (hNb : Nb n) (hP : Pl p P) (hg0 : 0 ≤ g) (hg4 : g ≤ 4)
    (hret : ∀ (t : Tok) (h' : Heap) (tk' : Nat), Fr h₀ L h' m → News h₀ L h' news → Q (.str (S (comL (frontL (cN n P g.toNat) g.toNat))) t) { s with heap := h', toks := tk' }) :
    wpAny (model Challenge.rw_fv0008_01.row.prog w) (ktrTop dp un gd cn cs L a ccd cl outer) (call (.ref 114) [.str (S (frontL (cN n P g.toNat) g.toNat)) tx]) Q E s := by
  have hw := word_len2 (c_log hNb hP hg4) (g := g.toNat) (by omega)
  refine commas_L B F X N T hk hdp hun ?_ hret
  unfold frontL
  rw [List.length_take]
  omega
theorem wh_lo {n p P : Int} (hNb : Nb n) (hP : Pl p P) : 0 ≤ n.fdiv P := by
  have := hP.lo
  rw [Int.fdiv_eq_ediv_of_nonneg _ (by omega)]
  exact Int.ediv_nonneg hNb.lo (by omega)
theorem wh_nat {n p P : Int} (hNb : Nb n) (hP : Pl p P) : n.fdiv P = ((n.toNat / 10 ^ p.toNat : Nat) : Int) := by
  have h := hP.lo
  have h1 := hNb.lo
  have e := pl_toNat hP
  rw [← e, ← Int.toNat_of_nonneg (a := n) h1, ← Int.toNat_of_nonneg (a := P) (by omega)]
  simp only [Int.toNat_natCast]
  exact (Int.ofNat_fdiv _ _).symm
theorem pt_nat {n p P : Int} (hNb : Nb n) (hP : Pl p P) : n.fmod P = ((n.toNat % 10 ^ p.toNat : Nat) : Int) := by
  have h := hP.lo
  have h1 := hNb.lo
  have e := pl_toNat hP
  rw [← e, ← Int.toNat_of_nonneg (a := n) h1, ← Int.toNat_of_nonneg (a := P) (by omega)]
  simp only [Int.toNat_natCast]
  exact (Int.ofNat_fmod _ _).symm
theorem wh_lt {n p P : Int} (hNb : Nb n) : n.toNat / 10 ^ p.toNat < 100000000000000 := by
  have h1 := hNb.lo
  have h2 := hNb.hi
  exact Nat.lt_of_le_of_lt (Nat.div_le_self _ _) (by omega)
theorem pt_lt {n p P : Int} (hNb : Nb n) : n.toNat % 10 ^ p.toNat < 100000000000000 := by
  have h1 := hNb.lo
  have h2 := hNb.hi
  exact Nat.lt_of_le_of_lt (Nat.mod_le _ _) (by omega)
theorem small_log {m : Nat} (h : m < 100000000000000) : m.log2 < 1920 := log_of_lt (k := 60) (Nat.lt_trans h (by decide)) (by decide)
theorem wh_log {n p P : Int} (hNb : Nb n) (hP : Pl p P) : (n.fdiv P).natAbs.log2 < 1920 := by
  rw [wh_nat hNb hP, Int.natAbs_natCast]
  exact small_log (wh_lt (P := P) hNb)
theorem pt_log {n p P : Int} (hNb : Nb n) (hP : Pl p P) : (n.fmod P).natAbs.log2 < 1920 := by
  rw [pt_nat hNb hP, Int.natAbs_natCast]
  exact small_log (pt_lt (P := P) hNb)
/-- the part's figures -/
abbrev partS (n p P : Int) : Str := Txt.rjustF (Str.ofString (toString (n.fmod P))) p ((Str.ofString "0").cps.getD 0 0)
theorem wh_S {n p P : Int} (hNb : Nb n) (hP : Pl p P) : Str.ofString (toString (n.fdiv P)) = S (dgN (n.toNat / 10 ^ p.toNat)) := by
  rw [pos_S (wh_lo hNb hP), wh_nat hNb hP, Int.natAbs_natCast]
theorem pt_S {n p P : Int} (hNb : Nb n) (hP : Pl p P) : partS n p P = S (partL (n.toNat % 10 ^ p.toNat) p.toNat) := by
  unfold partS
  have e0 : (Str.ofString "0").cps.getD 0 0 = 48 := by decide +kernel
  have h := hP.lo3
  have hp : ((p.toNat : Nat) : Int) = p := Int.toNat_of_nonneg (by omega)
  have h0 : 0 ≤ n.fmod P := by rw [pt_nat hNb hP]; exact Int.natCast_nonneg _
  rw [e0, pos_S h0, pt_nat hNb hP, Int.natAbs_natCast]
  have := rjust_S (dgN (n.toNat % 10 ^ p.toNat)) p.toNat
  rw [hp] at this
  exact this
theorem wh_len {n p P : Int} (hNb : Nb n) (hP : Pl p P) : (Str.ofString (toString (n.fdiv P))).length ≤ 14 := by
  rw [wh_S hNb hP, S_len]
  exact nb_len (wh_lt (P := P) hNb)
theorem whc_len {n p P : Int} (hNb : Nb n) (hP : Pl p P) : (S (comL (dgN (n.fdiv P).natAbs))).length ≤ 28 := by
  rw [wh_nat hNb hP, Int.natAbs_natCast, S_len]
  have h1 := nb_len (wh_lt (p := p) (P := P) hNb)
  have h2 := comL_len (dgN (n.toNat / 10 ^ p.toNat))
  omega
theorem pt_len {n p P : Int} (hNb : Nb n) (hP : Pl p P) : (partS n p P).length ≤ 20 := by
  rw [pt_S hNb hP, S_len]
  have h1 := nb_len (pt_lt (p := p) (P := P) hNb)
  have h2 := hP.hi5
  unfold partL
  rw [List.length_append, List.length_replicate]
  omega
theorem sg_len (b : Bool) : (sgS b).length ≤ 1 := by cases b <;> decide +kernel
theorem fr_len {n p P g : Int} (hNb : Nb n) (hP : Pl p P) (hg4 : g ≤ 4) : (S (comL (frontL (cN n P g.toNat) g.toNat))).length ≤ 1300 := by
  have hw := word_len2 (c_log hNb hP hg4) (g := g.toNat) (by omega)
  have h2 := comL_len (frontL (cN n P g.toNat) g.toNat)
  have h3 : (frontL (cN n P g.toNat) g.toNat).length ≤ 605 := by
    unfold frontL
    rw [List.length_take]
    omega
  rw [S_len]
  omega
theorem dotS_len (g : Nat) : (dotS g).length ≤ 1 := by
  unfold dotS
  rw [S_len]
  split <;> simp
theorem rest_len {n p P g : Int} (hNb : Nb n) (hP : Pl p P) (hg4 : g ≤ 4) : (restS (cN n P g.toNat) g.toNat).length ≤ 1300 := by
  have hw := word_len2 (c_log hNb hP hg4) (g := g.toNat) (by omega)
  unfold restS
  rw [S_len]
  split
  · simp
  · unfold restL
    rw [List.length_drop]
    omega
theorem tl_len {n p P g : Int} (hNb : Nb n) (hP : Pl p P) (hg4 : g ≤ 4) : (S (textL (cN n P g.toNat) g.toNat)).length ≤ 1300 := by
  have hw := word_len2 (c_log hNb hP hg4) (g := g.toNat) (by omega)
  rw [S_len]
  unfold textL frontL restL
  rw [List.length_append, List.length_take]
  split
  · simp; omega
  · rw [List.length_cons, List.length_drop]
    omega
/-- the law's value, of one of three kinds -/
structure ValOk (v : Value) (neg : Bool) (n p P : Int) : Prop where
  out : (∃ (l : List Nat) (t : Tok), v = .str (S l) t ∧ l.length < 1000 ∧ l.filter (· != 44) = valY neg n.toNat p.toNat) ∨ (∃ t : Tok, v = .float (Float64.ofFrac neg n.toNat P.toNat) t)
theorem sgL_44 (b : Bool) : (sgL b).filter (· != 44) = sgL b := by cases b <;> rfl
theorem cons46 (l : List Nat) (h : ∀ c ∈ l, c ≠ 44) : (46 :: l).filter (· != 44) = 46 :: l := by
  rw [List.filter_cons, if_pos (by decide), no_comma h]
theorem part_44 (m p : Nat) : ∀ c ∈ partL m p, c ≠ 44 := fun c hc => by have := part_dig m p c hc; omega
theorem val_1 {n p P : Int} (hNb : Nb n) (hP : Pl p P) (neg : Bool) (t : Tok) : ValOk (.str (sgS neg ++ Str.ofString (toString (n.fdiv P)) ++ Str.ofString "." ++ partS n p P) t) neg n p P := by
  have h1 := nb_len (wh_lt (p := p) (P := P) hNb)
  have h2 := nb_len (pt_lt (p := p) (P := P) hNb)
  have h3 := hP.hi5
  have h4 := sgL_len neg
  refine ⟨.inl ⟨sgL neg ++ dgN (n.toNat / 10 ^ p.toNat) ++ [46] ++ partL (n.toNat % 10 ^ p.toNat) p.toNat, t, ?_, ?_, ?_⟩⟩
  · rw [sg_S, wh_S hNb hP, os_dot, pt_S hNb hP, S_cat, S_cat, S_cat]
  · unfold partL
    simp only [List.length_append, List.length_replicate, List.length_cons, List.length_nil]
    omega
  · rw [List.append_assoc, List.filter_append, List.filter_append, sgL_44, no_comma (dg_no44 _), List.singleton_append, cons46 _ (part_44 _ _)]
    rfl
theorem val_2 {n p P : Int} (hNb : Nb n) (hP : Pl p P) (neg : Bool) (t : Tok) : ValOk (.str (sgS neg ++ S (comL (dgN (n.fdiv P).natAbs)) ++ Str.ofString "." ++ partS n p P) t) neg n p P := by
  have h1 := nb_len (wh_lt (p := p) (P := P) hNb)
  have h2 := nb_len (pt_lt (p := p) (P := P) hNb)
  have h3 := hP.hi5
  have h4 := sgL_len neg
  have h5 := comL_len (dgN (n.toNat / 10 ^ p.toNat))
  refine ⟨.inl ⟨sgL neg ++ comL (dgN (n.toNat / 10 ^ p.toNat)) ++ [46] ++ partL (n.toNat % 10 ^ p.toNat) p.toNat, t, ?_, ?_, ?_⟩⟩
  · rw [sg_S, wh_nat hNb hP, Int.natAbs_natCast, os_dot, pt_S hNb hP, S_cat, S_cat, S_cat]
  · unfold partL
    simp only [List.length_append, List.length_replicate, List.length_cons, List.length_nil]
    omega
  · rw [List.append_assoc, List.filter_append, List.filter_append, sgL_44, comG_filter _ (dg_no44 _), List.singleton_append, cons46 _ (part_44 _ _)]
    rfl
theorem val_3 {n p P : Int} (hNb : Nb n) (hP : Pl p P) (neg : Bool) (hng : neg = true → 0 < n) (t : Tok) {k : Int} (hk : k = if neg then -n else n) : ValOk (.float (Float64.ofFrac (decide (k < 0) != decide (P < 0)) k.natAbs P.natAbs) t) neg n p P := by
  have h1 := hNb.lo
  have h2 := hP.lo
  refine ⟨.inr ⟨t, ?_⟩⟩
  have e1 : decide (P < 0) = false := decide_eq_false (by omega)
  have e2 : P.natAbs = P.toNat := by omega
  have e3 : k.natAbs = n.toNat := by
    subst hk
    split <;> omega
  have e4 : decide (k < 0) = neg := by
    subst hk
    cases neg with
    | false => exact decide_eq_false (by show ¬ n < 0; omega)
    | true => exact decide_eq_true (by have := hng rfl; show -n < 0; omega)
  rw [e1, e2, e3, e4, Bool.bne_false]
theorem ic_val {w : World} {loose : List Str} {mean : ExcName → Option Value} {mg mb : Str → Option Value}
    {dp un : Nat} {gd : Option (List Code)} {cn : Str} {cs : Scope} {a : Addr} {ccd : Value} {cl : List (Str × Addr)} {outer : List Env} {A₀ : Around} {base h₀ : Heap} {L : Addr} {m : Str → Option Value} {news : List (Addr × Obj)} {s : Shared}
    {Q E : Value → Shared → Prop} {v : Value} {neg : Bool} {n p P g : Int} {tg : Tok}
    (B : Below A₀ base outer h₀) (F : Fr h₀ L s.heap m) (X : (fv.heap_39 w.params).In h₀) (N : News h₀ L s.heap news) (T : Top fv.view_39 loose mean mg mb h₀) (hk : cs.kind = .function)
    (hdp : dp + 6 < recursionLimit) (hun : un + 48 < cLine)
    (hV : ValOk v neg n p P) (hng : neg = true → 0 < n) (hNb : Nb n) (hP : Pl p P) (hg0 : 0 ≤ g) (hg4 : g ≤ 4)
    (hret : ∀ (t : Tok) (h' : Heap) (tk' : Nat), Fr h₀ L h' m → News h₀ L h' news → Q (.str (S (fltSay neg (cN n P g.toNat) g.toNat)) t) { s with heap := h', toks := tk' }) :
    wpAny (model Challenge.rw_fv0008_01.row.prog w) (ktrTop dp un gd cn cs L a ccd cl outer) (call (.ref 73) [v, .int g tg]) Q E s := by
  have e := frac_law hNb hP neg hng g.toNat
  rcases hV.out with ⟨l, t, rfl, hl, hf⟩ | ⟨t, rfl⟩
  · have r := reads_val hNb hP neg l hl hf
    refine ic_str_g B F X N T hk hdp hun r.hx8 r.hy8 r.hY r.hb r.hx9 r.hdot hg0 hg4 ?_
    rw [e]
    exact hret
  · refine ic_flt_g B F X N T hk hdp hun (frac_lfin hNb hP neg) hg0 hg4 ?_
    rw [e]
    exact hret
theorem dbl_t {w : World} {loose : List Str} {mean : ExcName → Option Value} {mg mb : Str → Option Value}
    {dp un : Nat} {gd : Option (List Code)} {cn : Str} {cs : Scope} {a : Addr} {ccd : Value} {cl : List (Str × Addr)} {outer : List Env} {A₀ : Around} {base h₀ : Heap} {L : Addr} {m : Str → Option Value} {news : List (Addr × Obj)} {s : Shared}
    {Q E : Value → Shared → Prop} {k P p : Int} {tn td : Tok}
    (B : Below A₀ base outer h₀) (F : Fr h₀ L s.heap m) (X : (fv.heap_39 w.params).In h₀) (N : News h₀ L s.heap news) (T : Top fv.view_39 loose mean mg mb h₀) (hk : cs.kind = .function)
    (hdp : dp + 3 < recursionLimit) (hun : un + 24 < cLine)
    (hP : Pl p P) (hkn : k.natAbs < 100000000000000)
    (hret : ∀ (t : Tok) (h' : Heap) (tk' : Nat), Fr h₀ L h' m → News h₀ L h' news → Q (.float (Float64.ofFrac (decide (k < 0) != decide (P < 0)) k.natAbs P.natAbs) t) { s with heap := h', toks := tk' }) :
    wpAny (model Challenge.rw_fv0008_01.row.prog w) (ktrTop dp un gd cn cs L a ccd cl outer) (call (.ref 81) [.int k tn, .int P td]) Q E s := by
  have h2 := hP.lo
  exact dbl_c B F X N T hk hdp hun ⟨Nat.lt_trans hkn (Nat.lt_trans (by decide : 100000000000000 < 2 ^ 60) (Nat.pow_lt_pow_right (by decide) (by decide)))⟩ (by omega) hret
theorem neg_abs {n : Int} (hNb : Nb n) : (-n).natAbs < 100000000000000 ∧ n.natAbs < 100000000000000 := by
  have h1 := hNb.lo
  have h2 := hNb.hi
  omega
theorem pad_pl {p P : Int} (h : Pl p P) : PadOk p = true := by
  have h3 := h.lo3
  have h5 := h.hi5
  have : p = 3 ∨ p = 4 ∨ p = 5 := by omega
  rcases this with rfl | rfl | rfl <;> decide +kernel
section
variable {prog : Program} {w : World} {A : Around} {E : Value → Shared → Prop} {s : Shared} {Q : Value → Shared → Prop} {n p a : Int} {t u v : Tok}
theorem str_num {k : Int} (hd : k.natAbs.log2 < 1920) (h : Q (.str (Str.ofString (toString k)) s.toks) { s with toks := s.toks + 1 }) : wpAny (model prog w) A (call (.type "str") [.int k t]) Q E s := P.str_of_int hd h
variable {P : Int}
theorem mod_pl (e : Pl p P) (h : Q (.int (a.fmod P) s.toks) { s with toks := s.toks + 1 }) : wpAny (model prog w) A (binaryOp .Mod (.int a t) (.int P u)) Q E s := by
  have h1 := e.lo
  exact mod_int' (by omega) h
theorem rjust_pl {x : Str} (e : Pl p P) (h : ∀ t' k, Q (.str (Txt.rjustF x p ((Str.ofString "0").cps.getD 0 0)) t') { s with toks := k }) : wpAny (model prog w) A (call (.builtin "str.rjust") [.str x t, .int p u, .str (Str.ofString "0") v]) Q E s :=
  rjust_fill (pad_pl e) (by decide +kernel) h
theorem eq_same {x y : Str} (e : x = y) (h : Q (.bool true) s) : wpAny (model prog w) A (compareOp .Eq (.str x t) (.str y u)) Q E s := by
  refine eq_str ?_
  subst e
  simpa using h
end
theorem neg_yes {neg : Bool} {n : Int} (h : ((sgS neg).length : Int) ≠ 0) : -n = if neg then -n else n := by
  cases neg with
  | true => rfl
  | false => exact absurd (by decide +kernel) h
theorem neg_no {neg : Bool} {n : Int} (h : ((sgS neg).length : Int) = 0) : n = if neg then -n else n := by
  cases neg with
  | true => exact absurd h (by decide +kernel)
  | false => rfl
/-- a statement that stores two names -/
structure StoreEnd2 (R : Value → Value → Prop) (y z : Str) (m : Str → Option Value) (news : List (Addr × Obj)) (h₀ : Heap) (L : Addr) (s : Shared) (f : Flow) (s' : Shared) : Prop where
  out : ∃ v v' m' h' tk', f = .next ∧ R v v' ∧ m' y = some v ∧ m' z = some v' ∧ (∀ x, x ≠ y → x ≠ z → m' x = m x) ∧ s' = { s with heap := h', toks := tk' } ∧ Fr h₀ L h' m' ∧ News h₀ L h' news
theorem storeEnd2 {R : Value → Value → Prop} {y z : Str} {m m' : Str → Option Value} {news news' : List (Addr × Obj)} {h₀ : Heap} {L : Addr} {s : Shared} {v v' : Value} {h' : Heap} {tk' : Nat} (hR : R v v') (hy : m' y = some v) (hz : m' z = some v') (hx : ∀ x, x ≠ y → x ≠ z → m' x = m x) (F : Fr h₀ L h' m')
    (N : News h₀ L h' news') (hs : ∀ p ∈ news, p ∈ news') : StoreEnd2 R y z m news h₀ L s .next { s with heap := h', toks := tk' } := ⟨⟨v, v', m', h', tk', rfl, hR, hy, hz, hx, rfl, F, fun p hp => N p (hs p hp)⟩⟩
theorem StoreEnd2.use {R : Value → Value → Prop} {y z : Str} {m : Str → Option Value} {news : List (Addr × Obj)} {h₀ : Heap} {L : Addr} {s : Shared} {f : Flow} {s' : Shared} {Q : Flow → Shared → Prop} (x : StoreEnd2 R y z m news h₀ L s f s')
    (h : ∀ v v' h' tk', R v v' → Fr h₀ L h' (fun x => if x = y then some v else if x = z then some v' else m x) → News h₀ L h' news → Q .next { s with heap := h', toks := tk' }) : Q f s' := by
  obtain ⟨v, v', m', h', tk', rfl, hR, hy, hz, hx, rfl, F, N⟩ := x.out
  refine h v v' h' tk' hR ?_ N
  have e : (fun x => if x = y then some v else if x = z then some v' else m x) = m' := by
    funext q
    by_cases h1 : q = y
    · rw [if_pos h1, h1, hy]
    · rw [if_neg h1]
      by_cases h2 : q = z
      · rw [if_pos h2, h2, hz]
      · rw [if_neg h2, hx q h1 h2]
  rw [e]
  exact F
theorem store_join2 {M : Model} {A : Around} {t : Sem Flow} {Q : Flow → Shared → Prop} {E : Value → Shared → Prop} {s : Shared} {h₀ : Heap} {L : Addr} {m : Str → Option Value} {news : List (Addr × Obj)} (R : Value → Value → Prop) (y z : Str) (F : Fr h₀ L s.heap m) (N : News h₀ L s.heap news)
    (h : wpAny M A t (StoreEnd2 R y z m news h₀ L s) E s) (hq : ∀ v v' h' tk', R v v' → Fr h₀ L h' (fun x => if x = y then some v else if x = z then some v' else m x) → News h₀ L h' news → Q .next { s with heap := h', toks := tk' }) : wpAny M A t Q E s :=
  mono_step h fun _ _ x => x.use hq
end Mine
end
section
open PySem.Spec PySem.Calls
set_option maxHeartbeats 4000000
set_option hygiene false
set_option linter.unusedVariables false
namespace Mine
local macro_rules | `(tactic| k_steps) => `(tactic| repeat' (first | (k_unfold; (try dsimp only)) | (walk1 <;> (try dsimp only)) | (dsimp only; walk1) | (leave1; walk_say "STEP leave1"; try dsimp only) | fail "no step"))
local macro_rules | `(tactic| walk_at "binaryOp Add ref ref") => `(tactic| k_dflt (refine' add_row ?ka ?kb ?kc ?kd ?ke ?kf ?kg ?kh ?_; (case ka => k_asm); (case kb => k_asm); (case kc => assumption); (case kd => exact .head _); (case ke => assumption); (case kf => assumption); (case kh => rfl); (case kg => omega); intro Da ua ha Fa Na la ia a4 a67))
local macro_rules | `(tactic| walk_at "subscriptTail") => `(tactic| k_dflt first
  | ((with_reducible show wpAny _ _ (subscriptTail (PySem.Expr.BinOp _ _ _ _) _ (Value.ref _) (Value.ref _)) _ _ _); (refine kba_turn (value' := PySem.Expr.Name (PySem.Str.ofString "_") ⟨0, 0, 0, 0⟩) (fun _ => rfl) ?_); (refine' take_row ?ka ?kb ?kc ?kd ?ke ?kf ?_ ?kg ?kh); (case ka => k_asm); (case kb => k_asm); (case kc => exact .head _); (case kd => exact ia); (case ke => exact a4); (case kf => exact a67); (case kg => with_unfolding_all rfl); (case kh => intro _; with_unfolding_all rfl); intro Dr r0 r1 r2 r3 t0 t1 t2 t3 ur rest hr ir lr Fr1 Nr1 lr1)
  | ((with_reducible show wpAny _ _ (subscriptTail _ _ (Value.ref _) (Value.ref _)) _ _ _); (refine' drop_row ?ka ?kb ?kc ?kd ?_ ?kg ?kh); (case ka => k_asm); (case kb => k_asm); (case kc => k_mem); (case kd => omega); (case kg => with_unfolding_all rfl); (case kh => intro _; with_unfolding_all rfl); intro Dd hd Fd Nd ld)
  | ((with_reducible show wpAny _ _ (subscriptTail (PySem.Expr.Name _ _) _ (Value.ref _) (Value.int _ _)) _ _ _); (refine' item_row ?ka ?kc ?kd ?ke ?kf ?_ ?kg ?kh); (case ka => k_asm); (case kc => k_mem); (case kd => decide); (case ke => decide); (case kf => rfl); (case kg => with_unfolding_all rfl); (case kh => intro _; with_unfolding_all rfl)))
local macro_rules | `(tactic| walk_at "eval BinOp") => `(tactic| (refine wpAny_BinOp ?_))
local macro_rules | `(tactic| walk_at "eval Subscript") => `(tactic| (refine Subscript_ ?_))
local macro_rules | `(tactic| walk_at "eval List") => `(tactic| (refine List_ ?_))
local macro_rules | `(tactic| walk_at "call ref") => `(tactic| (k_dflt (refine' commas_nat ?k1 ?k2 ?k3 ?k4 ?k5 ?kK ?kd ?ku ?z0 ?z1 ?_; (case k1 => k_asm); (case k2 => k_asm); (case k3 => k_asm); (case k4 => k_asm); (case k5 => k_asm); (case kK => first | exact rfl | assumption); (case z0 => exact hnl.q0); (case z1 => exact hnl.al); (case kd => ktr_room); (case ku => ktr_units); (intro tq hq kq Fq Nq; (try dsimp only)))))
local macro_rules | `(tactic| walk_at "call ref") => `(tactic| (k_dflt (refine' commas_abs ?k1 ?k2 ?k3 ?k4 ?k5 ?kK ?kd ?ku ?z0 ?_; (case k1 => k_asm); (case k2 => k_asm); (case k3 => k_asm); (case k4 => k_asm); (case k5 => k_asm); (case kK => first | exact rfl | assumption); (case z0 => assumption); (case kd => ktr_room); (case ku => ktr_units); (intro tq hq kq Fq Nq; (try dsimp only)))))
local macro_rules | `(tactic| walk_at "call ref") => `(tactic| (k_dflt (refine' ic_intw ?k1 ?k2 ?k3 ?k4 ?k5 ?kK ?kd ?ku ?z0 ?_; (case k1 => k_asm); (case k2 => k_asm); (case k3 => k_asm); (case k4 => k_asm); (case k5 => k_asm); (case kK => first | exact rfl | assumption); (case z0 => assumption); (case kd => ktr_room); (case ku => ktr_units); (intro tq hq kq Fq Nq; (try dsimp only)))))
local macro_rules | `(tactic| walk_at "call ref") => `(tactic| (k_dflt (refine' ic_strw ?k1 ?k2 ?k3 ?k4 ?k5 ?kK ?kd ?ku ?z0 ?z1 ?_; (case k1 => k_asm); (case k2 => k_asm); (case k3 => k_asm); (case k4 => k_asm); (case k5 => k_asm); (case kK => first | exact rfl | assumption); (case z0 => assumption); (case z1 => with_reducible exact blank_any); (case kd => ktr_room); (case ku => ktr_units); (intro tq hq kq Fq Nq; (try dsimp only)))))
local macro_rules | `(tactic| walk_at "call ref") => `(tactic| (k_dflt (refine' ic_strn ?k1 ?k2 ?k3 ?k4 ?k5 ?kK ?kd ?ku ?z0 ?_; (case k1 => k_asm); (case k2 => k_asm); (case k3 => k_asm); (case k4 => k_asm); (case k5 => k_asm); (case kK => first | exact rfl | assumption); (case z0 => assumption); (case kd => ktr_room); (case ku => ktr_units); (intro tq hq kq Fq Nq; (try dsimp only)))))
local macro_rules | `(tactic| walk_at "call ref") => `(tactic| (k_dflt (refine' ic_intd ?k1 ?k2 ?k3 ?k4 ?k5 ?kK ?kd ?ku ?z0 ?z1 ?z2 ?_; (case k1 => k_asm); (case k2 => k_asm); (case k3 => k_asm); (case k4 => k_asm); (case k5 => k_asm); (case kK => first | exact rfl | assumption); (case z0 => assumption); (case z1 => assumption); (case z2 => assumption); (case kd => ktr_room); (case ku => ktr_units); (intro tq hq kq Fq Nq; (try dsimp only)))))
local macro_rules | `(tactic| walk_at "call ref") => `(tactic| (k_dflt (refine' near_law ?k1 ?k2 ?k3 ?k4 ?k5 ?kK ?kd ?ku ?z0 ?z1 ?_; (case k1 => k_asm); (case k2 => k_asm); (case k3 => k_asm); (case k4 => k_asm); (case k5 => k_asm); (case kK => first | exact rfl | assumption); (case z0 => assumption); (case z1 => assumption); (case kd => ktr_room); (case ku => ktr_units); (intro Dn an bn tn1 tn2 hn kn hnl Fn Nn ln; (try dsimp only)))))
local macro_rules | `(tactic| walk_at "compareOp NotEq str str") => `(tactic| ((refine ne_same ?ke ?_); (case ke => with_reducible first | exact word_any.symm | exact rfl | exact said_0 hnl (by omega) | exact said_g hnl (by omega) hg0 hg4)))
local macro_rules | `(tactic| walk_at "call type:str") => `(tactic| k_dflt ((refine' P.str_of_int ?kh ?_); (case kh => first | exact big_abs hB | exact big_log hB | exact hnl.al); (try dsimp only)))
local macro_rules | `(tactic| walk_at "binaryOp Add str str") => `(tactic| k_dflt ((refine' PyProof.Rows.add_str ?_ ?kz); (case kz => (rw [sizeLine_eq]; (try simp only [PySem.Str.length_append, ln_sp, ln_mi, ln_em, ln_dot]); first | omega | (have hz9 := log_len hnl.al; omega))); intro ta ka; (try dsimp only)))
local macro_rules | `(tactic| walk_at "call builtin:list.append") => `(tactic| (k_dflt (refine' append_K ?k1 ?k2 ?k3 ?_ ?kz; (case k1 => k_asm); (case k2 => k_asm); (case k3 => k_upd); (case kz => (rw [sizeLine_eq]; simp only [List.size_toArray]; omega)); k_whole); intro hap Fap Nap; (try k_sweep)))
local macro_rules | `(tactic| walk_at "binaryOp FloorDiv int int") => `(tactic| first | (refine floor_l hnl ?_) | (have hnl := nearl_zero (n := kN) (by omega); refine floor_l hnl ?_))

local macro_rules | `(tactic| walk_at "ite") => `(tactic| first | with_reducible refine ite_tt ?_ | with_reducible refine ite_ff ?_ | with_reducible refine ite_texts ?_)
local macro_rules | `(tactic| walk_at "InvPostN") => `(tactic| (refine held ?_))
local macro_rules | `(tactic| walk_at "eval ListComp") => `(tactic| k_dflt (refine LCg.ListComp_U (F₀ := by k_asm) (by with_unfolding_all rfl) (by decide) (by rfl) (by decide) (by rfl) ?_))
local macro_rules | `(tactic| walk_at "CompSrc") => `(tactic| (rename KstMark => kMk9; k_dflt (refine' LCg.CompSrc.ledger ?ka ?kb ?kc ?kd ?ke ?_; (case ka => rfl); (case kb => k_asm); (case kc => k_asm); (case kd => k_mem); (case ke => rw [sizeLine_eq]; simp; omega)); intro gC; refine held ?_))
local macro_rules | `(tactic| walk_at "call ref") => `(tactic| (k_dflt (refine' nat_w ?k1 ?k2 ?k3 ?k4 ?k5 ?kK ?kd ?ku ?z0 ?z1 ?z2 ?z3 ?_; (case k1 => k_asm); (case k2 => k_asm); (case k3 => k_asm); (case k4 => k_asm); (case k5 => k_asm); (case kK => first | exact rfl | assumption); (case z0 => exact .head _); (case z1 => assumption); (case z2 => exact map5 hlen5); (case z3 => first | exact words_clean hbig | exact strs_clean hbig); (case kd => ktr_room); (case ku => ktr_units); (intro tq hq kq Fq Nq; (try dsimp only)))))
local macro_rules | `(tactic| walk_at "call ref") => `(tactic| (k_dflt (refine' nat_tw ?k1 ?k2 ?k3 ?k4 ?k5 ?kK ?kd ?ku ?z0 ?z1 ?z2 ?z3 ?_; (case k1 => k_asm); (case k2 => k_asm); (case k3 => k_asm); (case k4 => k_asm); (case k5 => k_asm); (case kK => first | exact rfl | assumption); (case z0 => exact .head _); (case z1 => assumption); (case z2 => assumption); (case z3 => exact hbig); (case kd => ktr_room); (case ku => ktr_units); (intro tq hq kq Fq Nq; (try dsimp only)))))
local macro_rules | `(tactic| walk_at "call ref") => `(tactic| (k_dflt (refine' back_w ?k1 ?k2 ?k3 ?k4 ?k5 ?kK ?kd ?ku ?z0 ?z1 ?_; (case k1 => k_asm); (case k2 => k_asm); (case k3 => k_asm); (case k4 => k_asm); (case k5 => k_asm); (case kK => first | exact rfl | assumption); (case z0 => exact map5 hlen5); (case z1 => first | exact words_clean hbig | exact strs_clean hbig); (case kd => ktr_room); (case ku => ktr_units); (intro Db vb hb kb hSb Fb Nb lb; (try dsimp only)))))
local macro_rules | `(tactic| walk_at "compareOp NotEq ref ref") => `(tactic| k_dflt (refine' ne_strs ?ka ?kb ?kc ?kd ?ke ?kf ?_; (case ka => k_asm); (case kb => k_mem); (case kc => k_mem); (case kd => assumption); (case ke => assumption); (case kf => first | ke_room | ktr_units)))
local macro_rules | `(tactic| walk_at "binaryOp Pow int int") => `(tactic| (refine pow_pl hP ?_))
local macro_rules | `(tactic| walk_at "binaryOp Mult int int") => `(tactic| (refine mul_pl hP ?_))
local macro_rules | `(tactic| walk_at "binaryOp FloorDiv int int") => `(tactic| (refine floor_pl hP hNb ?_))
local macro_rules | `(tactic| walk_at "binaryOp Mod int int") => `(tactic| (refine mod_pl hP ?_))
local macro_rules | `(tactic| walk_at "call type:str") => `(tactic| k_dflt first
  | ((refine' str_num ?kh ?_); (case kh => with_reducible exact wh_log hNb hP); (try dsimp only))
  | ((refine' str_num ?kh ?_); (case kh => with_reducible exact pt_log hNb hP); (try dsimp only)))
local macro_rules | `(tactic| walk_at "call builtin:str.rjust") => `(tactic| ((refine rjust_pl hP ?_); intro tRj kRj))
local macro_rules | `(tactic| walk_at "call ref") => `(tactic| ((with_reducible show wpAny _ _ (call (Value.ref 114) [Value.str (Str.ofString _) _]) _ _ _); k_dflt (refine' commas_nat ?k1 ?k2 ?k3 ?k4 ?k5 ?kK ?kd ?ku ?z0 ?z1 ?_; (case k1 => k_asm); (case k2 => k_asm); (case k3 => k_asm); (case k4 => k_asm); (case k5 => k_asm); (case kK => first | exact rfl | assumption); (case z0 => exact wh_lo hNb hP); (case z1 => exact wh_log hNb hP); (case kd => ktr_room); (case ku => ktr_units); (intro tq hq kq Fq Nq; (try dsimp only)))))
local macro_rules | `(tactic| walk_at "call ref") => `(tactic| ((with_reducible show wpAny _ _ (call (Value.ref 81) _) _ _ _); k_dflt (refine' dbl_t ?k1 ?k2 ?k3 ?k4 ?k5 ?kK ?kd ?ku ?z0 ?z1 ?_; (case k1 => k_asm); (case k2 => k_asm); (case k3 => k_asm); (case k4 => k_asm); (case k5 => k_asm); (case kK => first | exact rfl | assumption); (case z0 => exact hP); (case z1 => first | exact (neg_abs hNb).1 | exact (neg_abs hNb).2); (case kd => ktr_room); (case ku => ktr_units); (intro tq hq kq Fq Nq; (try dsimp only)))))
local macro_rules | `(tactic| walk_at "call ref") => `(tactic| ((with_reducible show wpAny _ _ (call (Value.ref 93) _) _ _ _); k_dflt (refine' near_t ?k1 ?k2 ?k3 ?k4 ?k5 ?kK ?kd ?ku ?z0 ?z1 ?z2 ?_; (case k1 => k_asm); (case k2 => k_asm); (case k3 => k_asm); (case k4 => k_asm); (case k5 => k_asm); (case kK => first | exact rfl | assumption); (case z0 => first | assumption | omega); (case z1 => exact hNb); (case z2 => exact hP); (case kd => ktr_room); (case ku => ktr_units); (intro Dn an bn tn1 tn2 hn kn hAB Fn Nn ln; (try dsimp only)))))
local macro_rules | `(tactic| walk_at "call ref") => `(tactic| ((with_reducible show wpAny _ _ (call (Value.ref 100) _) _ _ _); k_dflt (refine' put_t ?k1 ?k2 ?k3 ?k4 ?k5 ?kK ?kd ?ku ?z0 ?z1 ?z2 ?z3 ?z4 ?_; (case k1 => k_asm); (case k2 => k_asm); (case k3 => k_asm); (case k4 => k_asm); (case k5 => k_asm); (case kK => first | exact rfl | assumption); (case z0 => exact hAB); (case z1 => exact hNb); (case z2 => exact hP); (case z3 => exact hg0); (case z4 => exact hg4); (case kd => ktr_room); (case ku => ktr_units); (intro tq hq kq Fq Nq; (try dsimp only)))))
local macro_rules | `(tactic| walk_at "call ref") => `(tactic| ((with_reducible show wpAny _ _ (call (Value.ref 107) _) _ _ _); k_dflt (refine' text_t ?k1 ?k2 ?k3 ?k4 ?k5 ?kK ?kd ?ku ?z0 ?z1 ?z2 ?z3 ?_; (case k1 => k_asm); (case k2 => k_asm); (case k3 => k_asm); (case k4 => k_asm); (case k5 => k_asm); (case kK => first | exact rfl | assumption); (case z0 => exact hNb); (case z1 => exact hP); (case z2 => exact hg0); (case z3 => exact hg4); (case kd => ktr_room); (case ku => ktr_units); (intro tq hq kq Fq Nq; (try dsimp only)))))
local macro_rules | `(tactic| walk_at "call ref") => `(tactic| ((with_reducible show wpAny _ _ (call (Value.ref 114) [Value.str (S _) _]) _ _ _); k_dflt (refine' com_t ?k1 ?k2 ?k3 ?k4 ?k5 ?kK ?kd ?ku ?z0 ?z1 ?z2 ?z3 ?_; (case k1 => k_asm); (case k2 => k_asm); (case k3 => k_asm); (case k4 => k_asm); (case k5 => k_asm); (case kK => first | exact rfl | assumption); (case z0 => exact hNb); (case z1 => exact hP); (case z2 => exact hg0); (case z3 => exact hg4); (case kd => ktr_room); (case ku => ktr_units); (intro tq hq kq Fq Nq; (try dsimp only)))))
local macro_rules | `(tactic| walk_at "call ref") => `(tactic| ((with_reducible show wpAny _ _ (call (Value.ref 73) _) _ _ _); k_dflt (refine' ic_val ?k1 ?k2 ?k3 ?k4 ?k5 ?kK ?kd ?ku ?z0 ?z1 ?z2 ?z3 ?z4 ?z5 ?_; (case k1 => k_asm); (case k2 => k_asm); (case k3 => k_asm); (case k4 => k_asm); (case k5 => k_asm); (case kK => first | exact rfl | assumption); (case z0 => exact hV); (case z1 => exact hng); (case z2 => exact hNb); (case z3 => exact hP); (case z4 => exact hg0); (case z5 => exact hg4); (case kd => ktr_room); (case ku => ktr_units); (intro tq hq kq Fq Nq; (try dsimp only)))))
local macro_rules | `(tactic| walk_at "call builtin:str.partition") => `(tactic| k_dflt ((refine' KXpa.partition ?ka ?kb ?kc ?kd ?ke ?kf ?kg ?_); (case ka => k_asm); (case kb => k_asm); (case kc => decide +kernel); (case kd => rw [part_text]); (case ke => rw [part_text]); (case kf => rw [part_text]); (case kg => (rw [sizeLine_eq]; omega)); intro Dp tpa tpb tpc hp' kp' Fp Np lp))
local macro_rules | `(tactic| walk_at "compareOp Eq str str") => `(tactic| (refine eq_same (end_same _ _ _).symm ?_))
local macro_rules | `(tactic| walk_at "pyIter ref") => `(tactic| ((with_reducible show wpAny _ _ (pyIter (Value.ref _)) _ _ _; refine held ?_)))
local macro_rules | `(tactic| walk_at "execs cons") => `(tactic| (rename Stage => hSt9; refine held ?_))
set_option maxHeartbeats 40000000 in
theorem lawx : PySem.Challenge.rw_fv0008_01.Holds := fv (by
  k_go0
  (all_goals try k_fold)
  rename Fr _ _ _ _ => lF
  refine law_mono lF ?walk (fun m' h' tk' F' => ?fin)
  case fin =>
    (try dsimp only)
    clear lF
    k_steps
    all_goals wrow_close
  case walk =>
    try (rename Dflts _ _ _ _ _ _ => c; clear c)
    try (rename Well _ _ _ _ => c; clear c)
    try (rename Reads _ _ _ _ => c; clear c)
    try (rename ReadsAll _ _ _ _ => c; clear c)
    try (rename ReadsAllW _ _ _ _ _ _ => c; clear c)
    try (rename WShape.hasAll _ _ _ = true => c; clear c)
    try (rename Heap.CodeRec _ _ _ => c; clear c)
    try (rename BMod _ _ _ _ _ => c; clear c)
    try (rename TopW _ _ _ => c; clear c)
    try (rename TopE _ _ _ _ => c; clear c)
    try (rename Tables _ _ _ _ => c; clear c)
    try (rename Glob _ _ _ _ _ _ _ _ => c; clear c)
    try (rename LooseAre _ _ _ => c; clear c)
    try (rename Flt.MathXP _ _ _ => c; clear c)
    try (rename Ground _ _ _ _ _ _ _ _ _ => c; clear c)
    k_steps
    rename IntsAre ys _ => h8
    rename ys.length = _ => hL8
    clear hL8
    obtain ⟨nsv, h8', hlen5, hbig⟩ := nums_of h8 num_big (by simp; omega)
    clear h8
    refine ⟨?_⟩
    rename News _ _ _ _ => lN
    rename Fr _ _ _ _ => lF
    obtain ⟨dg, hdg⟩ : ∃ dg, dg = ((r0 :: r1 :: r2 :: r3 :: rest).getD (Int.toNat 1) 0).fmod 5 := ⟨_, rfl⟩
    have hg0 : 0 ≤ dg := hdg ▸ Int.fmod_nonneg_of_pos _ (by decide)
    have hg4 : dg ≤ 4 := by have := Int.fmod_lt_of_pos ((r0 :: r1 :: r2 :: r3 :: rest).getD (Int.toNat 1) 0) (b := 5) (by decide); omega
    try rw [← hdg] at lF
    replace lN := keep3 lN
    clear ir ia a4 a67 la lr1
    k_state (fun pre said => said = pre.map wordS) "said$"
    · have hB := hbig _ kMem
      have hz1 := big_len hB
      have hz4 := sign_len kN
      have hz2 := mul_len hg0 hg4
      have hz3 := said_len kFacts kInv hlen5 kEq
      k_steps
      all_goals (refine ⟨?_⟩)
      all_goals (refine kst_end (_ ++ [Value.str _ _], _ ++ [_], _ + 1) (by k_asm) (by k_asm) (by
        intro p hp
        rcases List.mem_cons.mp hp with rfl | hp
        · first | exact push_head | exact .tail _ push_head
        rcases List.mem_cons.mp hp with rfl | hp
        · first | exact .tail _ (.head _) | exact .tail _ (.tail _ (.head _))
        rcases List.mem_cons.mp hp with rfl | hp
        · first | exact .tail _ (.tail _ (.head _)) | exact .tail _ (.tail _ (.tail _ (.head _)))
        · nomatch hp) (by
        intro p hp
        first | exact .tail _ (.tail _ (.tail _ hp)) | exact .tail _ (.tail _ (.tail _ (.tail _ hp)))) rfl (StrsAre.append' kFacts (.cons _ _ .nil)) (by kst_all) (by kst_same) (said_snoc kInv word_any))
    · have hlY := h8'.length
      rw [kInv] at kFacts
      k_steps
      refine ⟨comp_run wordOf (.inr ⟨_, .tail _ (.head _), rfl, _, rfl⟩) ?kel ?kfin _ 0 [] (by simp) rfl⟩
      case kel =>
        intro v hv I oI C oC D m₂ hE tkE ys' hC hx F1 N1 E'
        obtain ⟨n, t, rfl, _, hn⟩ := ints_mem h8' v hv
        have hB := hbig _ hn
        k_steps
        exact elEnd rfl (by k_asm) (by k_asm)
      case kfin =>
        intro la hla
        have hS := strs_of_run (f := wordS) h8' (fun _ _ => rfl) hla
        k_steps
        refine ⟨comp_run intTextOf' (.inr ⟨_, by k_mem, rfl, _, rfl⟩) ?kel2 ?kfin2 _ 0 [] (by simp) rfl⟩
        case kel2 =>
          intro v hv I oI C oC D m₂ hE tkE ys' hC hx F1 N1 E'
          obtain ⟨n, t, rfl, _, hn⟩ := ints_mem h8' v hv
          have hB := hbig _ hn
          k_steps
          exact elEnd rfl (by k_asm) (by k_asm)
        case kfin2 =>
          intro la2 hla2
          have hS2 := strs_of_run (f := fun n => Str.ofString (toString n)) h8' (fun _ _ => rfl) hla2
          have hSt : Stage := ⟨trivial⟩
          k_steps
          refine ⟨?_⟩
          refine wpAny_execs_cons ?_
          k_steps
          refine ⟨?_⟩
          rename News _ _ _ _ => lN
          rename Fr _ _ _ _ => lF
          have lN := cb_drop lN (news := [(Dr, W.listOf (Value.int r0 t0 :: Value.int r1 t1 :: Value.int r2 t2 :: Value.int r3 t3 :: ur).toArray 0)]) (by
            intro p hp
            rcases List.mem_cons.mp hp with rfl | hp
            · k_mem
            · nomatch hp)
          obtain ⟨p, hp⟩ : ∃ p, p = r0.fmod 3 + 3 := ⟨_, rfl⟩
          obtain ⟨P, hP⟩ : ∃ P, Pl p P := ⟨_, hp ▸ pl_of r0⟩
          rw [← hp] at lF
          refine wpAny_execs_cons ?_
          refine store_join (fun v => ∃ n t, v = .int n t ∧ Nb n) (Str.ofString "n") lF lN ?hIf ?hRest
          case hIf =>
            clear hSt9
            k_steps
            all_goals first
              | exact storeEnd ⟨_, _, rfl, nb_1 r2⟩ (by rfl) (fun z hz => rfl) (by k_asm) (by k_asm) (fun p hp => hp)
              | exact storeEnd ⟨_, _, rfl, nb_2 r2 r3 hP⟩ (by rfl) (fun z hz => if_neg hz) (by k_asm) (by k_asm) (fun p hp => hp)
          case hRest =>
            intro v hv tv hR Fv Nv
            obtain ⟨n, tn, rfl, hNb⟩ := hR
            k_steps
            refine ⟨?_⟩
            refine wpAny_execs_cons ?_
            refine store_join (fun v => ∃ (b : Bool) (t : Tok), v = .str (sgS b) t ∧ (b = true → 0 < n)) (Str.ofString "sign") Fv Nv ?hSg ?hRest
            case hSg =>
              clear hSt9
              k_steps
              all_goals first
                | exact storeEnd ⟨true, _, rfl, fun _ => by omega⟩ (by rfl) (fun z hz => if_neg hz) (by k_asm) (by k_asm) (fun p hp => hp)
                | exact storeEnd ⟨false, _, rfl, fun h => nomatch h⟩ (by rfl) (fun z hz => if_neg hz) (by k_asm) (by k_asm) (fun p hp => hp)
            case hRest =>
              intro v hv tv hR Fv Nv
              obtain ⟨neg, tg, rfl, hng⟩ := hR
              clear hSt9
              have hSt9 : Stage := ⟨trivial⟩
              have zl1 := wh_len hNb hP
              have zl2 := whc_len hNb hP
              have zl3 := pt_len hNb hP
              have zl4 := sg_len neg
              have zl5 := fr_len (g := dg) hNb hP hg4
              have zl6 := dotS_len dg.toNat
              have zl7 := rest_len (g := dg) hNb hP hg4
              have zl8 := tl_len (g := dg) hNb hP hg4
              k_steps
              refine ⟨?_⟩
              refine wpAny_execs_cons ?_
              k_steps
              refine ⟨?_⟩
              refine wpAny_execs_cons ?_
              rename News _ _ _ _ => lN
              rename Fr _ _ _ _ => lF
              have lN := cb_drop lN (news := [(Dr, W.listOf (Value.int r0 t0 :: Value.int r1 t1 :: Value.int r2 t2 :: Value.int r3 t3 :: ur).toArray 0)]) (by
                intro p hp
                rcases List.mem_cons.mp hp with rfl | hp
                · k_mem
                · nomatch hp)
              refine store_join (fun v => ValOk v neg n p P) (Str.ofString "value") lF lN ?hVal ?hRest
              case hVal =>
                clear hSt9
                k_steps
                all_goals first
                  | exact storeEnd (val_1 hNb hP neg _) (by rfl) (fun z hz => if_neg hz) (by k_asm) (by k_asm) (fun p hp => by rcases List.mem_cons.mp hp with rfl | hp <;> first | k_mem | nomatch hp)
                  | exact storeEnd (val_2 hNb hP neg _) (by rfl) (fun z hz => if_neg hz) (by k_asm) (by k_asm) (fun p hp => by rcases List.mem_cons.mp hp with rfl | hp <;> first | k_mem | nomatch hp)
                  | exact storeEnd (val_3 hNb hP neg hng _ (neg_yes (by assumption))) (by rfl) (fun z hz => if_neg hz) (by k_asm) (by k_asm) (fun p hp => by rcases List.mem_cons.mp hp with rfl | hp <;> first | k_mem | nomatch hp)
                  | exact storeEnd (val_3 hNb hP neg hng _ (neg_no (by assumption))) (by rfl) (fun z hz => if_neg hz) (by k_asm) (by k_asm) (fun p hp => by rcases List.mem_cons.mp hp with rfl | hp <;> first | k_mem | nomatch hp)
              case hRest =>
                intro v hv tv hV Fv Nv
                k_steps
                refine ⟨?_⟩
                refine wpAny_execs_cons ?_
                refine store_join2 (fun v v' => ∃ (a b : Int) (t t' : Tok), v = .int a t ∧ v' = .int b t' ∧ AB a b n P) (Str.ofString "a") (Str.ofString "b") Fv Nv ?hAB ?hRest
                case hAB =>
                  clear hSt9
                  k_steps
                  all_goals first
                    | exact storeEnd2 ⟨_, _, _, _, rfl, rfl, hAB⟩ (by rfl) (by rfl) (fun x hx hz => (if_neg hz).trans (if_neg hx)) (by k_asm) (by k_asm) (fun p hp => by rcases List.mem_cons.mp hp with rfl | hp <;> first | k_mem | nomatch hp)
                    | exact storeEnd2 ⟨0, 1, _, _, rfl, rfl, ⟨.inr ⟨by have := hNb.lo; omega, rfl, rfl⟩⟩⟩ (by rfl) (by rfl) (fun x hx hz => (if_neg hz).trans (if_neg hx)) (by k_asm) (by k_asm) (fun p hp => by rcases List.mem_cons.mp hp with rfl | hp <;> first | k_mem | nomatch hp)
                case hRest =>
                  intro v1 v2 hw tw hR2 Fw Nw
                  obtain ⟨an, bn, ta, tb, rfl, rfl, hAB⟩ := hR2
                  clear hSt9
                  k_steps
                  all_goals exact lawEnd (by k_asm))
end Mine
end
theorem PySem.Challenge.cw_fv0008_01_holds : PySem.Challenge.rw_fv0008_01.Holds := by
  exact Mine.lawx
