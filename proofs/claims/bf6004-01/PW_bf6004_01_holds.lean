import PyProof.Rows.All
import Wide.All
import OpenK.AllK
import Wide.FinOn
import PySem.Challenge.RW_bf6004_01
open PySem PySem.Spec PySem.Calls PySem.W PyProof.Rows
set_option Elab.async false
namespace BfMine
/-! The head of the law, once. -/
set_option maxRecDepth 100000 in
set_option maxHeartbeats 8000000 in
open_top hd for PySem.Challenge.rw_bf6004_01

/-! Rules of one step, and what a contract of a def says. -/
section
variable {prog : Program} {w : World} {A : Around} {E : Value → Shared → Prop} {s : Shared} {Q : Value → Shared → Prop}
theorem pow_lit {t u : Tok}
    (h : Q (.int 1000000000 s.toks) { s with toks := s.toks + 1 }) :
    wpAny (model prog w) A (binaryOp .Pow (.int 10 t) (.int 9 u)) Q E s :=
  pow_int_small (by decide) (by decide) (by decide) (by
    have e : (10 : Int) ^ Int.toNat 9 = 1000000000 := by decide
    rw [e]; exact h)
theorem mul_lit {t u : Tok} (h : Q (.int 2000000000 s.toks) { s with toks := s.toks + 1 }) :
    wpAny (model prog w) A (binaryOp .Mult (.int 2 t) (.int 1000000000 u)) Q E s  := by
  refine PyProof.Rows.mul_int ?_
  have e : (2 : Int) * 1000000000 = 2000000000 := by decide
  rw [e]; exact h
theorem add_lit {t u : Tok} (h : Q (.int 2000000001 s.toks) { s with toks := s.toks + 1 }) :
    wpAny (model prog w) A (binaryOp .Add (.int 2000000000 t) (.int 1 u)) Q E s  := by
  refine wpAny_add_int ?_
  have e : (2000000000 : Int) + 1 = 2000000001 := by decide
  rw [e]; exact h
theorem in_top_tup {K : Frag} {h₀ : Heap} {L a : Addr} {m : Str → Option Value} {l : List Value} {ns : List Int} {n : Nat} {dd : Option Addr} {sl : Array (Option Value)} {k : Int} {t : Tok}
    (F : Fr h₀ L s.heap m) (X₀ : K.In h₀) (hl : K.lookup a = some ⟨.type "tuple", dd, .seq l.toArray n, sl⟩) (hi : IntsAre l ns)
    (h : Q (.bool (ns.any (· == k))) s) : wpAny (model prog w) A (compareOp .In (.int k t) (.ref a)) Q E s :=
  in_tuple_ints (tupK (X₀.keeps F.keep) hl) hi h
end
/-- a contract of a def: called so, it hands back R, the caller's frame and ledger as they were -/
def Says (prog : Program) (w : World) (K : Frag) (p : Program) (loose : List Str) (mean : ExcName → Option Value) (mg mb : Str → Option Value) (k : Nat) (f : Addr) (vs : List Value) (R : Tok → Value) : Prop :=
  ∀ (dp un : Nat) (gd : Option (List Code)) (cn : Str) (cs : Scope) (a : Addr) (ccd : Value) (cl : List (Str × Addr)) (outer : List Env) (A₀ : Around) (base h₀ : Heap) (L : Addr) (m : Str → Option Value) (news : List (Addr × Obj)) (s : Shared)
    (Q E : Value → Shared → Prop),
    Below A₀ base outer h₀ → Fr h₀ L s.heap m → K.In h₀ → News h₀ L s.heap news → Top p loose mean mg mb h₀ → cs.kind = .function → dp + k < recursionLimit → un + 8 * k < cLine →
    (∀ t h' tk', Fr h₀ L h' m → News h₀ L h' news → Q (R t) { s with heap := h', toks := tk' }) →
    wpAny (model prog w) (ktrTop dp un gd cn cs L a ccd cl outer) (call (.ref f) vs) Q E s
theorem Says.use {prog : Program} {w : World} {K : Frag} {p : Program} {loose : List Str} {mean : ExcName → Option Value} {mg mb : Str → Option Value} {k : Nat} {f : Addr} {vs : List Value} {R : Tok → Value}
    {dp un : Nat} {gd : Option (List Code)} {cn : Str} {cs : Scope} {a : Addr} {ccd : Value} {cl : List (Str × Addr)} {outer : List Env} {A₀ : Around} {base h₀ : Heap} {L : Addr} {m : Str → Option Value} {news : List (Addr × Obj)} {s : Shared}
    {Q E : Value → Shared → Prop}
    (C : Says prog w K p loose mean mg mb k f vs R) (B : Below A₀ base outer h₀) (F : Fr h₀ L s.heap m) (X : K.In h₀) (N : News h₀ L s.heap news) (T : Top p loose mean mg mb h₀) (hk : cs.kind = .function) (hd : dp + k < recursionLimit) (hu : un + 8 * k < cLine)
    (ret : ∀ t h' tk', Fr h₀ L h' m → News h₀ L h' news → Q (R t) { s with heap := h', toks := tk' }) :
    wpAny (model prog w) (ktrTop dp un gd cn cs L a ccd cl outer) (call (.ref f) vs) Q E s :=
  C _ _ _ _ _ _ _ _ _ _ _ _ _ _ _ _ _ _ B F X N T hk hd hu ret
theorem says_ret {h₀ h' : Heap} {L : Addr} {m : Str → Option Value} {news : List (Addr × Obj)} {s : Shared} {Q : Value → Shared → Prop} {v : Value} {t : Tok} {R : Tok → Value} {tk' : Nat}
    (hret : ∀ t h' tk', Fr h₀ L h' m → News h₀ L h' news → Q (R t) { s with heap := h', toks := tk' }) (e : v = R t) (F : Fr h₀ L h' m) (N : News h₀ L h' news) : Q v { s with heap := h', toks := tk' } := by
  subst e
  exact hret t h' tk' F N
/-- an int comes back, nothing else is turned -/
def IntBack (h₀ : Heap) (L : Addr) (m : Str → Option Value) (news : List (Addr × Obj)) (s : Shared) (v : Value) (s₂ : Shared) : Prop :=
  ∃ x t h tk, v = .int x t ∧ s₂ = { s with heap := h, toks := tk } ∧ Fr h₀ L h m ∧ News h₀ L h news
theorem IntBack.intro {h₀ h : Heap} {L : Addr} {m : Str → Option Value} {news : List (Addr × Obj)} {s : Shared} {x : Int} {t : Tok} {tk : Nat} (F : Fr h₀ L h m) (N : News h₀ L h news) :
    IntBack h₀ L m news s (.int x t) { s with heap := h, toks := tk } := ⟨x, t, h, tk, rfl, rfl, F, N⟩
theorem join_int {M : Model} {A : Around} {E : Value → Shared → Prop} {s : Shared} {Q : Value → Shared → Prop} {h₀ : Heap} {L : Addr} {m : Str → Option Value} {news : List (Addr × Obj)} {cm : Sem Value}
    (_F : Fr h₀ L s.heap m) (_N : News h₀ L s.heap news) (hc : wpAny M A cm (fun v s₂ => IntBack h₀ L m news s v s₂) E s)
    (hk : ∀ x t h tk, Fr h₀ L h m → News h₀ L h news → Q (.int x t) { s with heap := h, toks := tk }) : wpAny M A cm Q E s := by
  refine wpAny_mono hc (fun v s₂ hq => ?_) fun _ _ h => h
  obtain ⟨x, t, h, tk, rfl, rfl, F', N'⟩ := hq
  exact hk x t h tk F' N'
theorem int_eq {a b : Int} (h : a = b) (t : Tok) : Value.int a t = Value.int b t := by rw [h]

/-! The doubles: md n is n - 1/2, and sums, differences, the double of it are exact. -/
section
open PySem.Float64

theorem cast_pow (n : Nat) : ((2 ^ n : Nat) : Int) = (2 : Int) ^ n := by simp
theorem V_inj {t t' : Nat} (h : V t = V t') : t = t' := by
  rcases Nat.lt_trichotomy t t' with h1 | h1 | h1
  · have := V_lt h1; omega
  · exact h1
  · have := V_lt h1; omega

/-- each half of a whole number below 2 ^ 53 is a double -/
theorem rep {M : Nat} (h : M < 2 ^ 53) : ∃ t, t < infMag ∧ V t = M * 2 ^ 1073 := by
  by_cases h0 : M = 0
  · subst h0
    exact ⟨0, by decide, by rw [V_zero, Nat.zero_mul]⟩
  · have hl : M.log2 < 53 := (Nat.log2_lt h0).mpr h
    have h1 : 2 ^ M.log2 ≤ M := Nat.log2_self_le h0
    have h2 : M < 2 ^ (M.log2 + 1) := Nat.lt_log2_self
    generalize hL : M.log2 = l at *
    have e1 : (2 : Nat) ^ 52 = 2 ^ l * 2 ^ (52 - l) := by rw [← Nat.pow_add]; congr 1; omega
    have e2 : (2 : Nat) ^ 53 = 2 ^ (l + 1) * 2 ^ (52 - l) := by rw [← Nat.pow_add]; congr 1; omega
    have hp : 0 < (2 : Nat) ^ (52 - l) := Nat.two_pow_pos _
    have hlo : 2 ^ 52 ≤ M * 2 ^ (52 - l) := by rw [e1]; exact Nat.mul_le_mul_right _ h1
    have hhi : M * 2 ^ (52 - l) < 2 ^ 53 := by rw [e2]; exact Nat.mul_lt_mul_of_pos_right h2 hp
    refine ⟨(1021 + l) * 2 ^ 52 + M * 2 ^ (52 - l), ?_, ?_⟩
    · have hi : infMag = 2047 * 2 ^ 52 := rfl
      rw [hi]
      have : (1021 + l) * 2 ^ 52 ≤ 1073 * 2 ^ 52 := Nat.mul_le_mul_right _ (by omega)
      omega
    · rw [V_at (Nat.le_of_lt hhi) (.inl hlo), Nat.mul_assoc, ← Nat.pow_add]
      congr 2
      omega

/-- x is the double k / 2 (nought without a sign) -/
def Half (x : UInt64) (k : Int) : Prop := ∃ t, x = pack (decide (k < 0)) t ∧ t < infMag ∧ V t = k.natAbs * 2 ^ 1073

theorem Half.uniq {x y : UInt64} {k : Int} (hx : Half x k) (hy : Half y k) : x = y := by
  obtain ⟨t, rfl, _, h1⟩ := hx
  obtain ⟨u, rfl, _, h2⟩ := hy
  rw [V_inj (h1.trans h2.symm)]

theorem Half.val {x : UInt64} {k : Int} (h : Half x k) : Float64.val x = k * 2 ^ 1073 := by
  obtain ⟨t, rfl, h1, h2⟩ := h
  rw [val_pack _ h1, h2]
  unfold sgn
  by_cases hk : k < 0
  · simp only [hk, decide_true, if_true]
    rw [Int.natCast_mul]
    have : ((k.natAbs : Nat) : Int) = -k := by omega
    rw [this, Int.neg_mul, Int.neg_neg, cast_pow]
  · simp only [hk, decide_false, Bool.false_eq_true, if_false]
    rw [Int.natCast_mul]
    have : ((k.natAbs : Nat) : Int) = k := by omega
    rw [this, cast_pow]

theorem Half.decode {x : UInt64} {k : Int} (h : Half x k) : ∃ m e, Float64.decode x = .fin (decide (k < 0)) m e ∧ m * 2 ^ (e + 1074).toNat = k.natAbs * 2 ^ 1073 := by
  obtain ⟨t, rfl, h1, h2⟩ := h
  obtain ⟨m, e, hd, hv⟩ := decode_pack (decide (k < 0)) h1
  exact ⟨m, e, hd, hv.trans h2⟩

/-- a right result whose value is a half of a whole number is that half -/
theorem half_of_right {r : UInt64} {k : Int} {W D : Nat} (h : Right r (decide (k < 0)) W D) (hk : k.natAbs < 2 ^ 53) (hD : 0 < D) (hW : W = D * (k.natAbs * 2 ^ 1073)) : Half r k := by
  obtain ⟨u, hu, hv⟩ := rep hk
  obtain ⟨t, rfl, hle, hinf, hnear⟩ := h
  have hne : t ≠ infMag := by
    intro e
    have h1 := hinf.mp e
    rw [hW] at h1
    have h2 : D * (2 * (k.natAbs * 2 ^ 1073)) = 2 * (D * (k.natAbs * 2 ^ 1073)) := Nat.mul_left_comm _ _ _
    rw [← h2] at h1
    have h3 := Nat.le_of_mul_le_mul_left h1 hD
    have e1 : (2 : Nat) ^ 2045 = 2 ^ 972 * 2 ^ 1073 := by rw [← Nat.pow_add]
    rw [e1, ← Nat.mul_assoc, ← Nat.mul_assoc] at h3
    have h4 := Nat.le_of_mul_le_mul_right h3 (Nat.two_pow_pos 1073)
    have h5 : (2 ^ 54 - 1) * 1 ≤ (2 ^ 54 - 1) * 2 ^ 972 := Nat.mul_le_mul_left _ (Nat.two_pow_pos 972)
    omega
  have hlt : t < infMag := by omega
  have hd := (hnear hlt u).1
  rw [hv, ← hW] at hd
  have hz : Float64.dist W W = 0 := by unfold Float64.dist; omega
  rw [hz] at hd
  have he : W = D * V t := by unfold Float64.dist at hd; omega
  rw [hW] at he
  exact ⟨t, rfl, hlt, (Nat.eq_of_mul_eq_mul_left hD he).symm⟩

theorem pow1074 : (2 : Int) ^ 1074 = 2 * 2 ^ 1073 := by rw [Int.pow_succ, Int.mul_comm]
theorem pow1073_pos : (0 : Int) < 2 ^ 1073 := by
  rw [← cast_pow]
  exact Int.ofNat_lt.mpr (Nat.two_pow_pos _)

theorem neg_iff (k : Int) : decide (k * 2 ^ 1073 < 0) = decide (k < 0) := by
  apply decide_eq_decide.mpr
  have hp := pow1073_pos
  generalize (2 : Int) ^ 1073 = P at *
  constructor
  · intro h
    rcases Int.lt_or_le k 0 with h1 | h1
    · exact h1
    · have := Int.mul_nonneg h1 (Int.le_of_lt hp)
      omega
  · intro h
    exact Int.mul_neg_of_neg_of_pos h hp
theorem abs_mul (k : Int) : (k * 2 ^ 1073).natAbs = k.natAbs * 2 ^ 1073 := by
  rw [Int.natAbs_mul]
  rw [← cast_pow, Int.natAbs_natCast]
theorem mul_eq_zero' {k : Int} : k * 2 ^ 1073 = 0 ↔ k = 0 := by
  constructor
  · intro h
    rcases Int.mul_eq_zero.mp h with h | h
    · exact h
    · have := pow1073_pos; omega
  · rintro rfl; exact Int.zero_mul _
theorem half_zero : Half (Float64.zero false) 0 := ⟨0, rfl, by decide, by rw [V_zero, show (0 : Int).natAbs = 0 from rfl, Nat.zero_mul]⟩

theorem half_ofInt {n : Int} (h : (2 * n).natAbs < 2 ^ 53) : Half (Float64.ofInt n) (2 * n) := by
  have hr := ofInt_right n
  have e : decide (n < 0) = decide (2 * n < 0) := decide_eq_decide.mpr (by omega)
  rw [e] at hr
  refine half_of_right hr h (by decide) ?_
  have e2 : (2 * n).natAbs = n.natAbs * 2 := by omega
  have e3 : (2 : Nat) ^ 1074 = 2 * 2 ^ 1073 := by rw [Nat.pow_succ, Nat.mul_comm]
  rw [e2, e3, Nat.one_mul, Nat.mul_assoc]

theorem half_add {x y : UInt64} {a b : Int} (hx : Half x a) (hy : Half y b) (h : (a + b).natAbs < 2 ^ 53) : Half (Float64.add x y) (a + b) := by
  obtain ⟨m, e, hd, _⟩ := hx.decode
  obtain ⟨k, f, hd2, _⟩ := hy.decode
  have ⟨h1, h2⟩ := add_right hd hd2
  rw [hx.val, hy.val, ← Int.add_mul] at h1 h2
  by_cases h0 : a + b = 0
  · rw [h1 (mul_eq_zero'.mpr h0), h0]
    have : (decide (a < 0) && decide (b < 0)) = false := by
      simp only [Bool.and_eq_false_iff, decide_eq_false_iff_not]
      omega
    rw [this]
    exact half_zero
  · have hr := h2 (fun z => h0 (mul_eq_zero'.mp z))
    rw [neg_iff, abs_mul] at hr
    exact half_of_right hr h (by decide) (by rw [Nat.one_mul])

theorem half_sub {x y : UInt64} {a b : Int} (hx : Half x a) (hy : Half y b) (h : (a - b).natAbs < 2 ^ 53) (hs : a ≠ 0 ∨ 0 ≤ b) : Half (Float64.sub x y) (a - b) := by
  obtain ⟨m, e, hd, _⟩ := hx.decode
  obtain ⟨k, f, hd2, _⟩ := hy.decode
  have ⟨h1, h2⟩ := sub_right hd hd2
  rw [hx.val, hy.val, ← Int.sub_mul] at h1 h2
  by_cases h0 : a - b = 0
  · rw [h1 (mul_eq_zero'.mpr h0), h0]
    have : (decide (a < 0) && !decide (b < 0)) = false := by
      simp only [Bool.and_eq_false_iff, decide_eq_false_iff_not, Bool.not_eq_false', decide_eq_true_eq]
      omega
    rw [this]
    exact half_zero
  · have hr := h2 (fun z => h0 (mul_eq_zero'.mp z))
    rw [neg_iff, abs_mul] at hr
    exact half_of_right hr h (by decide) (by rw [Nat.one_mul])

theorem half_two_mul {x : UInt64} {a : Int} (hx : Half x a) (h : (2 * a).natAbs < 2 ^ 53) : Half (Float64.mul (Float64.ofInt 2) x) (2 * a) := by
  obtain ⟨k, f, hd2, _⟩ := hx.decode
  have h2 : Half (Float64.ofInt 2) 4 := half_ofInt (n := 2) (by decide)
  obtain ⟨m, e, hd, _⟩ := h2.decode
  have hr := mul_right hd hd2
  rw [h2.val, hx.val, abs_mul, abs_mul] at hr
  have e1 : (decide ((4 : Int) < 0) != decide (a < 0)) = decide (2 * a < 0) := by
    have : decide ((4 : Int) < 0) = false := by decide
    rw [this, Bool.false_bne]
    exact decide_eq_decide.mpr (by omega)
  rw [e1] at hr
  refine half_of_right hr h (Nat.two_pow_pos _) ?_
  have e2 : (2 * a).natAbs = 2 * a.natAbs := by omega
  have e3 : (2 : Nat) ^ 1074 = 2 * 2 ^ 1073 := by rw [Nat.pow_succ, Nat.mul_comm]
  have e4 : (4 : Int).natAbs = 4 := rfl
  rw [e2, e3, e4]
  generalize (2 : Nat) ^ 1073 = K
  generalize a.natAbs = n
  have : 4 * K * (n * K) = 2 * 2 * (K * n * K) := by ac_rfl
  rw [this]
  ac_rfl

theorem half_finite {x : UInt64} {a : Int} (hx : Half x a) : Float64.isNaN x = false ∧ Float64.isInf x = false := by
  obtain ⟨m, e, hd, _⟩ := hx.decode
  unfold Float64.isNaN Float64.isInf
  rw [hd]
  exact ⟨rfl, rfl⟩

theorem half_trunc {x : UInt64} {n : Int} (hx : Half x (2 * n)) : Flt.toInt Float64.truncOf x = n := by
  obtain ⟨m, e, hd, hv⟩ := hx.decode
  have hge := decode_ge hd
  have e0 : decide (2 * n < 0) = decide (n < 0) := decide_eq_decide.mpr (by omega)
  have hv2 : m * 2 ^ (e + 1074).toNat = n.natAbs * 2 ^ 1074 := by
    rw [hv]
    have e2 : (2 * n).natAbs = n.natAbs * 2 := by omega
    have e3 : (2 : Nat) ^ 1074 = 2 * 2 ^ 1073 := by rw [Nat.pow_succ, Nat.mul_comm]
    rw [e2, e3, Nat.mul_assoc]
  have hs : ∀ (b : Bool), Float64.floorOf b m e = sgn b n.natAbs := by
    intro b
    unfold Float64.floorOf
    by_cases h : e ≥ 0
    · rw [if_pos h]
      have e3 : (e + 1074).toNat = e.toNat + 1074 := by omega
      rw [e3, Nat.pow_add, ← Nat.mul_assoc] at hv2
      have hm := Nat.eq_of_mul_eq_mul_right (Nat.two_pow_pos 1074) hv2
      rw [← hm, sgn_mul]
      simp
    · rw [if_neg h]
      have e3 : (1074 : Nat) = (-e).toNat + (e + 1074).toNat := by omega
      have hv3 : m * 2 ^ (e + 1074).toNat = n.natAbs * 2 ^ (-e).toNat * 2 ^ (e + 1074).toNat := by
        rw [hv2, Nat.mul_assoc, ← Nat.pow_add, ← e3]
      have hm := Nat.eq_of_mul_eq_mul_right (Nat.two_pow_pos _) hv3
      rw [hm, sgn_mul]
      have hp : (0 : Int) < 2 ^ (-e).toNat := by
        rw [← cast_pow]
        exact Int.ofNat_lt.mpr (Nat.two_pow_pos _)
      rw [cast_pow]
      exact Int.mul_fdiv_cancel _ (by omega)
  unfold Flt.toInt
  rw [hd]
  simp only
  unfold Float64.truncOf Float64.ceilOf
  rw [e0]
  by_cases h : n < 0
  · simp only [h, decide_true, if_true, Bool.not_true]
    rw [hs]
    unfold sgn
    simp only [Bool.false_eq_true, if_false]
    omega
  · simp only [h, decide_false, Bool.false_eq_true, if_false]
    rw [hs]
    unfold sgn
    simp only [Bool.false_eq_true, if_false]
    omega

theorem half_cmpInt {x : UInt64} {n : Int} (hx : Half x (2 * n)) (i : Int) : Float64.cmpInt x i = some (compare n i) := by
  obtain ⟨m, e, hd, _⟩ := hx.decode
  rw [cmpInt_right hd, hx.val]
  have e1 : 2 * n * 2 ^ 1073 = n * (2 * 2 ^ 1073) := by rw [Int.mul_comm 2 n, Int.mul_assoc]
  rw [e1, pow1074]
  have hp : (0 : Int) < 2 * 2 ^ 1073 := Int.mul_pos (by decide) pow1073_pos
  generalize (2 : Int) * 2 ^ 1073 = K at *
  congr 1
  rcases Int.lt_trichotomy n i with h | h | h
  · rw [Int.compare_eq_lt.mpr h, Int.compare_eq_lt.mpr (Int.mul_lt_mul_of_pos_right h hp)]
  · subst h; simp
  · rw [Int.compare_eq_gt.mpr h, Int.compare_eq_gt.mpr (Int.mul_lt_mul_of_pos_right h hp)]

/-- the midnight ahead of the day's noon n: the double n - 1/2 -/
def md (n : Int) : UInt64 := Float64.ofFrac (decide (2 * n - 1 < 0)) (2 * n - 1).natAbs 2
abbrev Small (n : Int) : Prop := -(2 ^ 45) ≤ n ∧ n ≤ 2 ^ 45
theorem half_md {n : Int} (h : Small n) : Half (md n) (2 * n - 1) := by
  refine half_of_right (W := (2 * n - 1).natAbs * 2 ^ 1073) (D := 1) ?_ (by obtain ⟨h1, h2⟩ := h; omega) (by decide) (by rw [Nat.one_mul])
  refine ofFrac_right (by decide) ?_ (by decide)
  have e3 : (2 : Nat) ^ 1074 = 2 ^ 1073 * 2 := by rw [Nat.pow_succ]
  rw [e3, Nat.mul_one, Nat.mul_assoc]

theorem md_add {n i : Int} (hn : Small n) (hi : Small i) : Float64.add (md n) (Float64.ofInt i) = md (n + i) := by
  obtain ⟨h1, h2⟩ := hn
  obtain ⟨h3, h4⟩ := hi
  have h := half_add (half_md ⟨h1, h2⟩) (half_ofInt (n := i) (by omega)) (by omega)
  have e : 2 * n - 1 + 2 * i = 2 * (n + i) - 1 := by omega
  rw [e] at h
  refine h.uniq ?_
  refine half_of_right (W := (2 * (n + i) - 1).natAbs * 2 ^ 1073) (D := 1) ?_ (by omega) (by decide) (by rw [Nat.one_mul])
  refine ofFrac_right (by decide) ?_ (by decide)
  have e3 : (2 : Nat) ^ 1074 = 2 ^ 1073 * 2 := by rw [Nat.pow_succ]
  rw [e3, Nat.mul_one, Nat.mul_assoc]
theorem half_mdW {n : Int} (h : (2 * n - 1).natAbs < 2 ^ 53) : Half (md n) (2 * n - 1) := by
  refine half_of_right (W := (2 * n - 1).natAbs * 2 ^ 1073) (D := 1) ?_ h (by decide) (by rw [Nat.one_mul])
  refine ofFrac_right (by decide) ?_ (by decide)
  have e3 : (2 : Nat) ^ 1074 = 2 ^ 1073 * 2 := by rw [Nat.pow_succ]
  rw [e3, Nat.mul_one, Nat.mul_assoc]
theorem md_add_l {n i : Int} (hn : Small n) (hi : Small i) : Float64.add (Float64.ofInt i) (md n) = md (i + n) := by
  obtain ⟨h1, h2⟩ := hn
  obtain ⟨h3, h4⟩ := hi
  have h := half_add (half_ofInt (n := i) (by omega)) (half_md ⟨h1, h2⟩) (by omega)
  have e : 2 * i + (2 * n - 1) = 2 * (i + n) - 1 := by omega
  rw [e] at h
  exact h.uniq (half_mdW (by omega))
theorem md_sub {n i : Int} (hn : Small n) (hi : Small i) : Float64.sub (md n) (Float64.ofInt i) = md (n - i) := by
  obtain ⟨h1, h2⟩ := hn
  obtain ⟨h3, h4⟩ := hi
  have h := half_sub (half_md ⟨h1, h2⟩) (half_ofInt (n := i) (by omega)) (by omega) (.inl (by omega))
  have e : 2 * n - 1 - 2 * i = 2 * (n - i) - 1 := by omega
  rw [e] at h
  exact h.uniq (half_mdW (by omega))
theorem half_half : Half 4602678819172646912 1 := by
  have h : (4602678819172646912 : UInt64) = Float64.ofFrac (decide ((1 : Int) < 0)) 1 2 := by decide +kernel
  rw [h]
  refine half_of_right (W := 1 * 2 ^ 1073) (D := 1) ?_ (by decide) (by decide) (by rw [show (1 : Int).natAbs = 1 from rfl, Nat.one_mul, Nat.one_mul])
  refine ofFrac_right (by decide) ?_ (by decide)
  have e3 : (2 : Nat) ^ 1074 = 2 ^ 1073 * 2 := by rw [Nat.pow_succ]
  rw [e3, Nat.mul_one, Nat.mul_assoc]
theorem md_half {n : Int} (hn : Small n) : Float64.add (md n) 4602678819172646912 = Float64.ofInt n := by
  obtain ⟨h1, h2⟩ := hn
  have h := half_add (half_md ⟨h1, h2⟩) half_half (by omega)
  have e : 2 * n - 1 + 1 = 2 * n := by omega
  rw [e] at h
  exact h.uniq (half_ofInt (by omega))
theorem md_twice {n : Int} (hn : Small n) : Float64.mul (Float64.ofInt 2) (md n) = Float64.ofInt (2 * n - 1) := by
  obtain ⟨h1, h2⟩ := hn
  have h := half_two_mul (half_md ⟨h1, h2⟩) (by omega)
  exact h.uniq (half_ofInt (by omega))
theorem ofInt_finite {n : Int} (hn : Small n) : Float64.isNaN (Float64.ofInt n) = false ∧ Float64.isInf (Float64.ofInt n) = false := by
  obtain ⟨h1, h2⟩ := hn
  exact half_finite (half_ofInt (by omega))
theorem ofInt_trunc {n : Int} (hn : Small n) : Flt.toInt Float64.truncOf (Float64.ofInt n) = n := by
  obtain ⟨h1, h2⟩ := hn
  exact half_trunc (half_ofInt (by omega))
theorem ofInt_ne {n i : Int} (hn : (2 * n).natAbs < 2 ^ 53) : (Float64.cmpInt (Float64.ofInt n) i != some Ordering.eq) = decide (n ≠ i) := by
  rw [half_cmpInt (half_ofInt hn)]
  by_cases h : n = i
  · subst h; simp
  · rcases Int.lt_or_gt_of_ne h with h1 | h1
    · rw [Int.compare_eq_lt.mpr h1]; simp [h]
    · rw [Int.compare_eq_gt.mpr h1]; simp [h]
end

/-! The doubles in the walk. -/
section
variable {prog : Program} {w : World} {A : Around} {E : Value → Shared → Prop} {s : Shared} {Q : Value → Shared → Prop} {n i : Int} {t u : Tok}
theorem small_fits (hi : Small i) : i.natAbs < 2 ^ 1023 := by
  obtain ⟨h1, h2⟩ := hi
  have h : i.natAbs < 2 ^ 46 := by omega
  exact Nat.lt_of_lt_of_le h (Nat.pow_le_pow_right (by decide) (by decide))
theorem r_add (hn : Small n) (hi : Small i) (h : Q (.float (md (n + i)) s.toks) { s with toks := s.toks + 1 }) :
    wpAny (model prog w) A (binaryOp .Add (.float (md n) t) (.int i u)) Q E s :=
  add_fi_fits (small_fits hi) (by rw [md_add hn hi]; exact h)
theorem r_sub (hn : Small n) (hi : Small i) (h : Q (.float (md (n - i)) s.toks) { s with toks := s.toks + 1 }) :
    wpAny (model prog w) A (binaryOp .Sub (.float (md n) t) (.int i u)) Q E s :=
  sub_fi_fits (small_fits hi) (by rw [md_sub hn hi]; exact h)
theorem r_half (hn : Small n) (h : Q (.float (Float64.ofInt n) s.toks) { s with toks := s.toks + 1 }) :
    wpAny (model prog w) A (binaryOp .Add (.float (md n) t) (.float 4602678819172646912 u)) Q E s :=
  add_float (by rw [md_half hn]; exact h)
theorem r_trunc (hA : A.handled = none) (hn : Small n) (h : Q (.int n s.toks) { s with toks := s.toks + 1 }) :
    wpAny (model prog w) A (call (.builtin "math.trunc") [.float (Float64.ofInt n) t]) Q E s := by
  have hf := ofInt_finite hn
  refine Flt.call_trunc_float hA (fun e => ?_) (fun e => ?_) (fun _ => ?_)
  · rw [hf.1] at e; cases e
  · rw [hf.2] at e; cases e
  · rw [ofInt_trunc hn]; exact h
theorem r_iadd (hA : A.handled = none) (hn : Small n) (hi : Small i) (h : Q (.float (md (i + n)) s.toks) { s with toks := s.toks + 1 }) :
    wpAny (model prog w) A (inplaceOp .Add (.int i u) (.float (md n) t)) Q E s := by
  refine Flt.iadd_if hA (fun ho => ?_) (fun _ => ?_)
  · exfalso
    have h1 := small_fits hi
    have h2 : (2 : Nat) ^ 1023 ≤ 2 ^ 1024 - 2 ^ 970 := by decide +kernel
    exact absurd (Nat.le_trans h2 ho) (Nat.not_le.mpr h1)
  · rw [md_add_l hn hi]; exact h
theorem r_twice (hn : Small n) (h : Q (.float (Float64.ofInt (2 * n - 1)) s.toks) { s with toks := s.toks + 1 }) :
    wpAny (model prog w) A (binaryOp .Mult (.int 2 u) (.float (md n) t)) Q E s :=
  mul_if_fits (small_fits ⟨by decide, by decide⟩) (by rw [md_twice hn]; exact h)
theorem r_ne (hn : Small n) (h : Q (.bool (decide (2 * n - 1 ≠ i))) s) :
    wpAny (model prog w) A (compareOp .NotEq (.float (Float64.ofInt (2 * n - 1)) t) (.int i u)) Q E s :=
  ne_fi (by rw [ofInt_ne (by obtain ⟨h1, h2⟩ := hn; omega)]; exact h)
end

/-! The contracts of the defs: each def once. -/
abbrev SaysB (w : World) (mean : ExcName → Option Value) (mg mb : Str → Option Value) (k : Nat) (f : Addr) (vs : List Value) (R : Tok → Value) : Prop :=
  Says PySem.Challenge.rw_bf6004_01.row.prog w (hd.heap_39 w.params) hd.view_39 (looseW hd.view_39 []) mean mg mb k f vs R
theorem fmod7 (a : Int) : a.fmod 7 = a % 7 := Int.fmod_eq_emod_of_nonneg a (by decide)
theorem fmod2 (a : Int) : a.fmod 2 = a % 2 := Int.fmod_eq_emod_of_nonneg a (by decide)
theorem fmod8 (a : Int) : a.fmod 8 = a % 8 := Int.fmod_eq_emod_of_nonneg a (by decide)
theorem fmod41 (a : Int) : a.fmod 41 = a % 41 := Int.fmod_eq_emod_of_nonneg a (by decide)
theorem fmod50 (a : Int) : a.fmod 50 = a % 50 := Int.fmod_eq_emod_of_nonneg a (by decide)
theorem fdiv2 (a : Int) : a.fdiv 2 = a / 2 := Int.fdiv_eq_ediv_of_nonneg a (by decide)
theorem fdiv8 (a : Int) : a.fdiv 8 = a / 8 := Int.fdiv_eq_ediv_of_nonneg a (by decide)
theorem fdiv56 (a : Int) : a.fdiv 56 = a / 56 := Int.fdiv_eq_ediv_of_nonneg a (by decide)
/-- the last number not behind n whose rest by seven is w; the first one not ahead of it -/
def dn (n w : Int) : Int := n - (n - w) % 7
def up (n w : Int) : Int := n + (w - n) % 7
theorem md_eq {a b : Int} (h : a = b) (t : Tok) : Value.float (md a) t = Value.float (md b) t := by rw [h]
local macro_rules | `(tactic| walk_at "binaryOp Add float int") => `(tactic| (k_here; (with_reducible refine' r_add ?h1 ?h2 ?_); (case h1 => (first | assumption | exact ⟨by omega, by omega⟩ | exact ⟨by (simp only [dn, up]; omega), by (simp only [dn, up]; omega)⟩)); (case h2 => (first | assumption | exact ⟨by omega, by omega⟩ | exact ⟨by (simp only [dn, up]; omega), by (simp only [dn, up]; omega)⟩)); k_whole; (try dsimp only)))
local macro_rules | `(tactic| walk_at "binaryOp Sub float int") => `(tactic| (k_here; (with_reducible refine' r_sub ?h1 ?h2 ?_); (case h1 => (first | assumption | exact ⟨by omega, by omega⟩ | exact ⟨by (simp only [dn, up]; omega), by (simp only [dn, up]; omega)⟩)); (case h2 => (first | assumption | exact ⟨by omega, by omega⟩ | exact ⟨by (simp only [dn, up]; omega), by (simp only [dn, up]; omega)⟩)); k_whole; (try dsimp only)))
local macro_rules | `(tactic| walk_at "binaryOp Add float float") => `(tactic| (k_here; k_dflt (refine' r_half ?h1 ?_; (case h1 => (first | assumption | exact ⟨by omega, by omega⟩ | exact ⟨by (simp only [dn, up]; omega), by (simp only [dn, up]; omega)⟩)); k_whole; (try dsimp only))))
local macro_rules | `(tactic| walk_at "call builtin:math.trunc") => `(tactic| (k_here; (with_reducible refine' r_trunc ?h0 ?h1 ?_); (case h0 => with_unfolding_all rfl); (case h1 => (first | assumption | exact ⟨by omega, by omega⟩ | exact ⟨by (simp only [dn, up]; omega), by (simp only [dn, up]; omega)⟩)); k_whole; (try dsimp only)))
local macro_rules | `(tactic| walk_at "inplaceOp Add int float") => `(tactic| (k_here; (with_reducible refine' r_iadd ?h0 ?h1 ?h2 ?_); (case h0 => with_unfolding_all rfl); (case h1 => (first | assumption | exact ⟨by omega, by omega⟩ | exact ⟨by (simp only [dn, up]; omega), by (simp only [dn, up]; omega)⟩)); (case h2 => (first | assumption | exact ⟨by omega, by omega⟩ | exact ⟨by (simp only [dn, up]; omega), by (simp only [dn, up]; omega)⟩)); k_whole; (try dsimp only)))
local macro_rules | `(tactic| walk_at "binaryOp Mult int float") => `(tactic| (k_here; (with_reducible refine' r_twice ?h1 ?_); (case h1 => (first | assumption | exact ⟨by omega, by omega⟩ | exact ⟨by (simp only [dn, up]; omega), by (simp only [dn, up]; omega)⟩)); k_whole; (try dsimp only)))
local macro_rules | `(tactic| walk_at "compareOp NotEq float int") => `(tactic| (k_here; (with_reducible refine' r_ne ?h1 ?_); (case h1 => (first | assumption | exact ⟨by omega, by omega⟩ | exact ⟨by (simp only [dn, up]; omega), by (simp only [dn, up]; omega)⟩)); k_whole; (try dsimp only)))
set_option maxRecDepth 100000 in
set_option maxHeartbeats 8000000 in
theorem jwday_says (w : World) (mean : ExcName → Option Value) (mg mb : Str → Option Value) (n : Int) (hs : Small n) (t1 : Tok) :
    SaysB w mean mg mb 1 49 [.float (md n) t1] (fun t => .int (n % 7) t) := by
  k_with_none
  w_on
  w_strict (
    unfold SaysB Says
    k_fill
    intro dp un gd cn cs a ccd cl outer A₀ base h₀ L m news s Q E B F X N T hk hd hu hret
    refine wpAny_call ?_
    (first | k_dflt cell_enter | fail "the helper is not entered")
    k_steps
    all_goals (refine' says_ret (Q := Q) (s := s) hret ?e1 ?e2 ?e3; (case e2 => k_asm); (case e3 => k_asm); (case e1 => exact congrArg (fun x => Value.int x _) (fmod7 n))))
local macro_rules | `(tactic| walk_at "call ref") => `(tactic| (k_here; k_dflt (refine' Says.use (jwday_says _ _ _ _ _ ?hs _) ?k1 ?k2 ?k3 ?k4 ?k5 ?kK ?kd ?ku ?_; (case k1 => k_asm); (case k2 => k_asm); (case k3 => k_asm); (case k4 => k_asm); (case k5 => k_asm); (case kK => first | exact rfl | assumption); (case kd => ktr_room); (case ku => ktr_units); (case hs => (first | assumption | exact ⟨by omega, by omega⟩ | exact ⟨by (simp only [dn, up]; omega), by (simp only [dn, up]; omega)⟩));  k_whole; intro t9 h9 tk9 F9 N9; (try dsimp only); (try k_fold))))
set_option maxRecDepth 100000 in
set_option maxHeartbeats 8000000 in
theorem before_says (w : World) (mean : ExcName → Option Value) (mg mb : Str → Option Value) (n : Int) (b1 : -17592186044416 ≤ n) (b2 : n ≤ 17592186044416) (v : Int) (w1 : 0 ≤ v) (w2 : v ≤ 6) (t1 t2 : Tok) :
    SaysB w mean mg mb 2 56 [.int v t1, .float (md n) t2] (fun t => .float (md (dn n v)) t) := by
  k_with_none
  w_on
  w_strict (
    unfold SaysB Says
    k_fill
    intro dp un gd cn cs a ccd cl outer A₀ base h₀ L m news s Q E B F X N T hk hd hu hret
    refine wpAny_call ?_
    (first | k_dflt cell_enter | fail "the helper is not entered")
    k_steps
    all_goals (refine' says_ret (Q := Q) (s := s) hret ?e1 ?e2 ?e3; (case e2 => k_asm); (case e3 => k_asm); (case e1 => exact rfl)))
local macro_rules | `(tactic| walk_at "call ref") => `(tactic| (k_here; k_dflt (refine' Says.use (before_says _ _ _ _ _ ?b1 ?b2 _ ?w1 ?w2 _ _) ?k1 ?k2 ?k3 ?k4 ?k5 ?kK ?kd ?ku ?_; (case k1 => k_asm); (case k2 => k_asm); (case k3 => k_asm); (case k4 => k_asm); (case k5 => k_asm); (case kK => first | exact rfl | assumption); (case kd => ktr_room); (case ku => ktr_units); (case b1 => omega); (case b2 => omega); (case w1 => omega); (case w2 => omega);  k_whole; intro t9 h9 tk9 F9 N9; (try dsimp only); (try k_fold))))
set_option maxRecDepth 100000 in
set_option maxHeartbeats 8000000 in
theorem search_says (w : World) (mean : ExcName → Option Value) (mg mb : Str → Option Value) (n : Int) (b1 : -8796093022208 ≤ n) (b2 : n ≤ 8796093022208) (v : Int) (w1 : 0 ≤ v) (w2 : v ≤ 6) (o : Int) (o1 : -8796093022208 ≤ o) (o2 : o ≤ 8796093022208) (t1 t2 t3 t4 : Tok) :
    SaysB w mean mg mb 3 63 [.int v t1, .float (md n) t2, .int 1 t3, .int o t4] (fun t => .float (md (dn (n + o) v)) t) := by
  k_with_none
  w_on
  w_strict (
    unfold SaysB Says
    k_fill
    intro dp un gd cn cs a ccd cl outer A₀ base h₀ L m news s Q E B F X N T hk hd hu hret
    refine wpAny_call ?_
    (first | k_dflt cell_enter | fail "the helper is not entered")
    k_steps
    all_goals (refine' says_ret (Q := Q) (s := s) hret ?e1 ?e2 ?e3; (case e2 => k_asm); (case e3 => k_asm); (case e1 => exact md_eq (by rw [Int.one_mul]) _)))
set_option maxRecDepth 100000 in
set_option maxHeartbeats 8000000 in
theorem searchB_says (w : World) (mean : ExcName → Option Value) (mg mb : Str → Option Value) (n : Int) (b1 : -8796093022208 ≤ n) (b2 : n ≤ 8796093022208) (v : Int) (w1 : 0 ≤ v) (w2 : v ≤ 6) (o : Int) (o1 : -8796093022208 ≤ o) (o2 : o ≤ 8796093022208) (t1 t2 t3 t4 : Tok) :
    SaysB w mean mg mb 3 63 [.int v t1, .float (md n) t2, .int (-1) t3, .int o t4] (fun t => .float (md (dn (n - o) v)) t) := by
  k_with_none
  w_on
  w_strict (
    unfold SaysB Says
    k_fill
    intro dp un gd cn cs a ccd cl outer A₀ base h₀ L m news s Q E B F X N T hk hd hu hret
    refine wpAny_call ?_
    (first | k_dflt cell_enter | fail "the helper is not entered")
    k_steps
    all_goals (refine' says_ret (Q := Q) (s := s) hret ?e1 ?e2 ?e3; (case e2 => k_asm); (case e3 => k_asm); (case e1 => exact md_eq (by rw [Int.neg_mul, Int.one_mul, Int.sub_eq_add_neg]) _)))
local macro_rules | `(tactic| walk_at "call ref") => `(tactic| (k_here; k_dflt (refine' Says.use (search_says _ _ _ _ _ ?b1 ?b2 _ ?w1 ?w2 _ ?o1 ?o2 _ _ _ _) ?k1 ?k2 ?k3 ?k4 ?k5 ?kK ?kd ?ku ?_; (case k1 => k_asm); (case k2 => k_asm); (case k3 => k_asm); (case k4 => k_asm); (case k5 => k_asm); (case kK => first | exact rfl | assumption); (case kd => ktr_room); (case ku => ktr_units); (case b1 => omega); (case b2 => omega); (case w1 => omega); (case w2 => omega); (case o1 => omega); (case o2 => omega);  k_whole; intro t9 h9 tk9 F9 N9; (try dsimp only); (try k_fold))))
local macro_rules | `(tactic| walk_at "call ref") => `(tactic| (k_here; k_dflt (refine' Says.use (searchB_says _ _ _ _ _ ?b1 ?b2 _ ?w1 ?w2 _ ?o1 ?o2 _ _ _ _) ?k1 ?k2 ?k3 ?k4 ?k5 ?kK ?kd ?ku ?_; (case k1 => k_asm); (case k2 => k_asm); (case k3 => k_asm); (case k4 => k_asm); (case k5 => k_asm); (case kK => first | exact rfl | assumption); (case kd => ktr_room); (case ku => ktr_units); (case b1 => omega); (case b2 => omega); (case w1 => omega); (case w2 => omega); (case o1 => omega); (case o2 => omega);  k_whole; intro t9 h9 tk9 F9 N9; (try dsimp only); (try k_fold))))
set_option maxRecDepth 100000 in
set_option maxHeartbeats 8000000 in
theorem nearest_says (w : World) (mean : ExcName → Option Value) (mg mb : Str → Option Value) (n : Int) (b1 : -8796093022208 ≤ n) (b2 : n ≤ 8796093022208) (v : Int) (w1 : 0 ≤ v) (w2 : v ≤ 6) (t1 t2 : Tok) :
    SaysB w mean mg mb 4 70 [.int v t1, .float (md n) t2] (fun t => .float (md (dn (n + 3) v)) t) := by
  k_with_none
  w_on
  w_strict (
    unfold SaysB Says
    k_fill
    intro dp un gd cn cs a ccd cl outer A₀ base h₀ L m news s Q E B F X N T hk hd hu hret
    refine wpAny_call ?_
    (first | k_dflt cell_enter | fail "the helper is not entered")
    k_steps
    all_goals (refine' says_ret (Q := Q) (s := s) hret ?e1 ?e2 ?e3; (case e2 => k_asm); (case e3 => k_asm); (case e1 => exact rfl)))
set_option maxRecDepth 100000 in
set_option maxHeartbeats 8000000 in
theorem next_says (w : World) (mean : ExcName → Option Value) (mg mb : Str → Option Value) (n : Int) (b1 : -8796093022208 ≤ n) (b2 : n ≤ 8796093022208) (v : Int) (w1 : 0 ≤ v) (w2 : v ≤ 6) (t1 t2 : Tok) :
    SaysB w mean mg mb 4 77 [.int v t1, .float (md n) t2] (fun t => .float (md (dn (n + 7) v)) t) := by
  k_with_none
  w_on
  w_strict (
    unfold SaysB Says
    k_fill
    intro dp un gd cn cs a ccd cl outer A₀ base h₀ L m news s Q E B F X N T hk hd hu hret
    refine wpAny_call ?_
    (first | k_dflt cell_enter | fail "the helper is not entered")
    k_steps
    all_goals (refine' says_ret (Q := Q) (s := s) hret ?e1 ?e2 ?e3; (case e2 => k_asm); (case e3 => k_asm); (case e1 => exact rfl)))
set_option maxRecDepth 100000 in
set_option maxHeartbeats 8000000 in
theorem nextOr_says (w : World) (mean : ExcName → Option Value) (mg mb : Str → Option Value) (n : Int) (b1 : -8796093022208 ≤ n) (b2 : n ≤ 8796093022208) (v : Int) (w1 : 0 ≤ v) (w2 : v ≤ 6) (t1 t2 : Tok) :
    SaysB w mean mg mb 4 84 [.int v t1, .float (md n) t2] (fun t => .float (md (dn (n + 6) v)) t) := by
  k_with_none
  w_on
  w_strict (
    unfold SaysB Says
    k_fill
    intro dp un gd cn cs a ccd cl outer A₀ base h₀ L m news s Q E B F X N T hk hd hu hret
    refine wpAny_call ?_
    (first | k_dflt cell_enter | fail "the helper is not entered")
    k_steps
    all_goals (refine' says_ret (Q := Q) (s := s) hret ?e1 ?e2 ?e3; (case e2 => k_asm); (case e3 => k_asm); (case e1 => exact rfl)))
set_option maxRecDepth 100000 in
set_option maxHeartbeats 8000000 in
theorem prev_says (w : World) (mean : ExcName → Option Value) (mg mb : Str → Option Value) (n : Int) (b1 : -8796093022208 ≤ n) (b2 : n ≤ 8796093022208) (v : Int) (w1 : 0 ≤ v) (w2 : v ≤ 6) (t1 t2 : Tok) :
    SaysB w mean mg mb 4 91 [.int v t1, .float (md n) t2] (fun t => .float (md (dn (n - 1) v)) t) := by
  k_with_none
  w_on
  w_strict (
    unfold SaysB Says
    k_fill
    intro dp un gd cn cs a ccd cl outer A₀ base h₀ L m news s Q E B F X N T hk hd hu hret
    refine wpAny_call ?_
    (first | k_dflt cell_enter | fail "the helper is not entered")
    k_steps
    all_goals (refine' says_ret (Q := Q) (s := s) hret ?e1 ?e2 ?e3; (case e2 => k_asm); (case e3 => k_asm); (case e1 => exact rfl)))
set_option maxRecDepth 100000 in
set_option maxHeartbeats 8000000 in
theorem prevOr_says (w : World) (mean : ExcName → Option Value) (mg mb : Str → Option Value) (n : Int) (b1 : -8796093022208 ≤ n) (b2 : n ≤ 8796093022208) (v : Int) (w1 : 0 ≤ v) (w2 : v ≤ 6) (t1 t2 : Tok) :
    SaysB w mean mg mb 4 98 [.int v t1, .float (md n) t2] (fun t => .float (md (dn (n + 0) v)) t) := by
  k_with_none
  w_on
  w_strict (
    unfold SaysB Says
    k_fill
    intro dp un gd cn cs a ccd cl outer A₀ base h₀ L m news s Q E B F X N T hk hd hu hret
    refine wpAny_call ?_
    (first | k_dflt cell_enter | fail "the helper is not entered")
    k_steps
    all_goals (refine' says_ret (Q := Q) (s := s) hret ?e1 ?e2 ?e3; (case e2 => k_asm); (case e3 => k_asm); (case e1 => exact rfl)))
local macro_rules | `(tactic| walk_at "call ref") => `(tactic| (k_here; k_dflt (refine' Says.use (nearest_says _ _ _ _ _ ?b1 ?b2 _ ?w1 ?w2 _ _) ?k1 ?k2 ?k3 ?k4 ?k5 ?kK ?kd ?ku ?_; (case k1 => k_asm); (case k2 => k_asm); (case k3 => k_asm); (case k4 => k_asm); (case k5 => k_asm); (case kK => first | exact rfl | assumption); (case kd => ktr_room); (case ku => ktr_units); (case b1 => omega); (case b2 => omega); (case w1 => omega); (case w2 => omega);  k_whole; intro t9 h9 tk9 F9 N9; (try dsimp only); (try k_fold))))
local macro_rules | `(tactic| walk_at "call ref") => `(tactic| (k_here; k_dflt (refine' Says.use (next_says _ _ _ _ _ ?b1 ?b2 _ ?w1 ?w2 _ _) ?k1 ?k2 ?k3 ?k4 ?k5 ?kK ?kd ?ku ?_; (case k1 => k_asm); (case k2 => k_asm); (case k3 => k_asm); (case k4 => k_asm); (case k5 => k_asm); (case kK => first | exact rfl | assumption); (case kd => ktr_room); (case ku => ktr_units); (case b1 => omega); (case b2 => omega); (case w1 => omega); (case w2 => omega);  k_whole; intro t9 h9 tk9 F9 N9; (try dsimp only); (try k_fold))))
local macro_rules | `(tactic| walk_at "call ref") => `(tactic| (k_here; k_dflt (refine' Says.use (nextOr_says _ _ _ _ _ ?b1 ?b2 _ ?w1 ?w2 _ _) ?k1 ?k2 ?k3 ?k4 ?k5 ?kK ?kd ?ku ?_; (case k1 => k_asm); (case k2 => k_asm); (case k3 => k_asm); (case k4 => k_asm); (case k5 => k_asm); (case kK => first | exact rfl | assumption); (case kd => ktr_room); (case ku => ktr_units); (case b1 => omega); (case b2 => omega); (case w1 => omega); (case w2 => omega);  k_whole; intro t9 h9 tk9 F9 N9; (try dsimp only); (try k_fold))))
local macro_rules | `(tactic| walk_at "call ref") => `(tactic| (k_here; k_dflt (refine' Says.use (prev_says _ _ _ _ _ ?b1 ?b2 _ ?w1 ?w2 _ _) ?k1 ?k2 ?k3 ?k4 ?k5 ?kK ?kd ?ku ?_; (case k1 => k_asm); (case k2 => k_asm); (case k3 => k_asm); (case k4 => k_asm); (case k5 => k_asm); (case kK => first | exact rfl | assumption); (case kd => ktr_room); (case ku => ktr_units); (case b1 => omega); (case b2 => omega); (case w1 => omega); (case w2 => omega);  k_whole; intro t9 h9 tk9 F9 N9; (try dsimp only); (try k_fold))))
local macro_rules | `(tactic| walk_at "call ref") => `(tactic| (k_here; k_dflt (refine' Says.use (prevOr_says _ _ _ _ _ ?b1 ?b2 _ ?w1 ?w2 _ _) ?k1 ?k2 ?k3 ?k4 ?k5 ?kK ?kd ?ku ?_; (case k1 => k_asm); (case k2 => k_asm); (case k3 => k_asm); (case k4 => k_asm); (case k5 => k_asm); (case kK => first | exact rfl | assumption); (case kd => ktr_room); (case ku => ktr_units); (case b1 => omega); (case b2 => omega); (case w1 => omega); (case w2 => omega);  k_whole; intro t9 h9 tk9 F9 N9; (try dsimp only); (try k_fold))))
set_option maxRecDepth 100000 in
set_option maxHeartbeats 8000000 in
theorem weeksA_says (w : World) (mean : ExcName → Option Value) (mg mb : Str → Option Value) (n : Int) (b1 : -4398046511104 ≤ n) (b2 : n ≤ 4398046511104) (v : Int) (w1 : 0 ≤ v) (w2 : v ≤ 6) (k : Int) (k1 : 1 ≤ k) (k2 : k ≤ 60) (t1 t2 t3 : Tok) :
    SaysB w mean mg mb 5 105 [.int v t1, .float (md n) t2, .int k t3] (fun t => .float (md (7 * k + dn (n - 1) v)) t) := by
  k_with_none
  w_on
  w_strict (
    unfold SaysB Says
    k_fill
    intro dp un gd cn cs a ccd cl outer A₀ base h₀ L m news s Q E B F X N T hk hd hu hret
    refine wpAny_call ?_
    (first | k_dflt cell_enter | fail "the helper is not entered")
    k_steps
    all_goals (refine' says_ret (Q := Q) (s := s) hret ?e1 ?e2 ?e3; (case e2 => k_asm); (case e3 => k_asm); (case e1 => exact rfl)))
set_option maxRecDepth 100000 in
set_option maxHeartbeats 8000000 in
theorem weeksB_says (w : World) (mean : ExcName → Option Value) (mg mb : Str → Option Value) (n : Int) (b1 : -4398046511104 ≤ n) (b2 : n ≤ 4398046511104) (v : Int) (w1 : 0 ≤ v) (w2 : v ≤ 6) (k : Int) (k1 : -60 ≤ k) (k2 : k ≤ 0) (t1 t2 t3 : Tok) :
    SaysB w mean mg mb 5 105 [.int v t1, .float (md n) t2, .int k t3] (fun t => .float (md (7 * k + dn (n + 7) v)) t) := by
  k_with_none
  w_on
  w_strict (
    unfold SaysB Says
    k_fill
    intro dp un gd cn cs a ccd cl outer A₀ base h₀ L m news s Q E B F X N T hk hd hu hret
    refine wpAny_call ?_
    (first | k_dflt cell_enter | fail "the helper is not entered")
    k_steps
    all_goals (refine' says_ret (Q := Q) (s := s) hret ?e1 ?e2 ?e3; (case e2 => k_asm); (case e3 => k_asm); (case e1 => exact rfl)))
local macro_rules | `(tactic| walk_at "call ref") => `(tactic| (k_here; k_dflt (refine' Says.use (weeksA_says _ _ _ _ _ ?b1 ?b2 _ ?w1 ?w2 _ ?q1 ?q2 _ _ _) ?k1 ?k2 ?k3 ?k4 ?k5 ?kK ?kd ?ku ?_; (case k1 => k_asm); (case k2 => k_asm); (case k3 => k_asm); (case k4 => k_asm); (case k5 => k_asm); (case kK => first | exact rfl | assumption); (case kd => ktr_room); (case ku => ktr_units); (case b1 => omega); (case b2 => omega); (case w1 => omega); (case w2 => omega); (case q1 => omega); (case q2 => omega);  k_whole; intro t9 h9 tk9 F9 N9; (try dsimp only); (try k_fold))))
local macro_rules | `(tactic| walk_at "call ref") => `(tactic| (k_here; k_dflt (refine' Says.use (weeksB_says _ _ _ _ _ ?b1 ?b2 _ ?w1 ?w2 _ ?q1 ?q2 _ _ _) ?k1 ?k2 ?k3 ?k4 ?k5 ?kK ?kd ?ku ?_; (case k1 => k_asm); (case k2 => k_asm); (case k3 => k_asm); (case k4 => k_asm); (case k5 => k_asm); (case kK => first | exact rfl | assumption); (case kd => ktr_room); (case ku => ktr_units); (case b1 => omega); (case b2 => omega); (case w1 => omega); (case w2 => omega); (case q1 => omega); (case q2 => omega);  k_whole; intro t9 h9 tk9 F9 N9; (try dsimp only); (try k_fold))))

/-! The day that a deed is to reach. -/
/-- the day that a deed is to reach -/
def due (n kind v more : Int) : Int :=
  if kind = 0 then dn (n + 7) v
  else if kind = 1 then dn (n - 1) v
  else if kind = 2 then dn (n + 6) v
  else if kind = 3 then dn n v
  else if kind = 4 then dn (n + 3) v
  else if kind = 5 then (if more % 2 = 0 then dn (n + (more / 2 % 41 - 20)) v else dn (n - (more / 2 % 41 - 20)) v)
  else if kind = 6 then 7 * (1 + more % 50) + dn (n - 1) v
  else -(7 * (more % 50)) + dn (n + 7) v
section
variable {n kind v more : Int}
theorem due_0 (h : kind = 0) : due n kind v more = dn (n + 7) v := by subst h; rfl
theorem due_1 (h : kind = 1) : due n kind v more = dn (n - 1) v := by subst h; rfl
theorem due_2 (h : kind = 2) : due n kind v more = dn (n + 6) v := by subst h; rfl
theorem due_3 (h : kind = 3) : due n kind v more = dn n v := by subst h; rfl
theorem due_4 (h : kind = 4) : due n kind v more = dn (n + 3) v := by subst h; rfl
theorem due_5 (h : kind = 5) (h2 : more.fmod 2 = 0) : due n kind v more = dn (n + ((more.fdiv 2).fmod 41 - 20)) v := by
  subst h
  rw [fmod2] at h2
  rw [fdiv2, fmod41]
  show (if more % 2 = 0 then _ else _) = _
  rw [if_pos h2]
theorem due_5' (h : kind = 5) (h2 : more.fmod 2 ≠ 0) : due n kind v more = dn (n - ((more.fdiv 2).fmod 41 - 20)) v := by
  subst h
  rw [fmod2] at h2
  rw [fdiv2, fmod41]
  show (if more % 2 = 0 then _ else _) = _
  rw [if_neg h2]
theorem due_6 (h : kind = 6) : due n kind v more = 7 * (1 + more.fmod 50) + dn (n - 1) v := by subst h; rw [fmod50]; rfl
theorem due_7 (h : kind = 7) : due n kind v more = -(7 * (more.fmod 50)) + dn (n + 7) v := by subst h; rw [fmod50]; rfl
end
theorem due_near (n kind v more : Int) : n - 400 ≤ due n kind v more ∧ due n kind v more ≤ n + 400 := by
  unfold due dn
  (repeat' split) <;> omega
theorem due_rest (n kind v more : Int) (w1 : 0 ≤ v) (w2 : v ≤ 6) : due n kind v more % 7 = v := by
  unfold due dn
  (repeat' split) <;> omega
theorem up_dn (n v : Int) : up n v = dn (n + 6) v := by unfold up dn; omega
theorem up_rest (n v : Int) (w1 : 0 ≤ v) (w2 : v ≤ 6) : up n v % 7 = v := by unfold up; omega

local macro_rules | `(tactic| walk_at "call ref") => `(tactic| (k_here; k_dflt (refine' Says.use (nearest_says _ _ _ _ _ ?b1 ?b2 _ ?w1 ?w2 _ _) ?k1 ?k2 ?k3 ?k4 ?k5 ?kK ?kd ?ku ?_; (case k1 => k_asm); (case k2 => k_asm); (case k3 => k_asm); (case k4 => k_asm); (case k5 => k_asm); (case kK => first | exact rfl | assumption); (case kd => ktr_room); (case ku => ktr_units); (case b1 => omega); (case b2 => omega); (case w1 => omega); (case w2 => omega);  k_whole; intro t9 h9 tk9 F9 N9; (try dsimp only); (try k_fold))))
local macro_rules | `(tactic| walk_at "call ref") => `(tactic| (k_here; k_dflt (refine' Says.use (next_says _ _ _ _ _ ?b1 ?b2 _ ?w1 ?w2 _ _) ?k1 ?k2 ?k3 ?k4 ?k5 ?kK ?kd ?ku ?_; (case k1 => k_asm); (case k2 => k_asm); (case k3 => k_asm); (case k4 => k_asm); (case k5 => k_asm); (case kK => first | exact rfl | assumption); (case kd => ktr_room); (case ku => ktr_units); (case b1 => omega); (case b2 => omega); (case w1 => omega); (case w2 => omega);  k_whole; intro t9 h9 tk9 F9 N9; (try dsimp only); (try k_fold))))
local macro_rules | `(tactic| walk_at "call ref") => `(tactic| (k_here; k_dflt (refine' Says.use (nextOr_says _ _ _ _ _ ?b1 ?b2 _ ?w1 ?w2 _ _) ?k1 ?k2 ?k3 ?k4 ?k5 ?kK ?kd ?ku ?_; (case k1 => k_asm); (case k2 => k_asm); (case k3 => k_asm); (case k4 => k_asm); (case k5 => k_asm); (case kK => first | exact rfl | assumption); (case kd => ktr_room); (case ku => ktr_units); (case b1 => omega); (case b2 => omega); (case w1 => omega); (case w2 => omega);  k_whole; intro t9 h9 tk9 F9 N9; (try dsimp only); (try k_fold))))
local macro_rules | `(tactic| walk_at "call ref") => `(tactic| (k_here; k_dflt (refine' Says.use (prev_says _ _ _ _ _ ?b1 ?b2 _ ?w1 ?w2 _ _) ?k1 ?k2 ?k3 ?k4 ?k5 ?kK ?kd ?ku ?_; (case k1 => k_asm); (case k2 => k_asm); (case k3 => k_asm); (case k4 => k_asm); (case k5 => k_asm); (case kK => first | exact rfl | assumption); (case kd => ktr_room); (case ku => ktr_units); (case b1 => omega); (case b2 => omega); (case w1 => omega); (case w2 => omega);  k_whole; intro t9 h9 tk9 F9 N9; (try dsimp only); (try k_fold))))
local macro_rules | `(tactic| walk_at "call ref") => `(tactic| (k_here; k_dflt (refine' Says.use (prevOr_says _ _ _ _ _ ?b1 ?b2 _ ?w1 ?w2 _ _) ?k1 ?k2 ?k3 ?k4 ?k5 ?kK ?kd ?ku ?_; (case k1 => k_asm); (case k2 => k_asm); (case k3 => k_asm); (case k4 => k_asm); (case k5 => k_asm); (case kK => first | exact rfl | assumption); (case kd => ktr_room); (case ku => ktr_units); (case b1 => omega); (case b2 => omega); (case w1 => omega); (case w2 => omega);  k_whole; intro t9 h9 tk9 F9 N9; (try dsimp only); (try k_fold))))
local macro_rules | `(tactic| walk_at "call ref") => `(tactic| (k_here; k_dflt (refine' Says.use (before_says _ _ _ _ _ ?b1 ?b2 _ ?w1 ?w2 _ _) ?k1 ?k2 ?k3 ?k4 ?k5 ?kK ?kd ?ku ?_; (case k1 => k_asm); (case k2 => k_asm); (case k3 => k_asm); (case k4 => k_asm); (case k5 => k_asm); (case kK => first | exact rfl | assumption); (case kd => ktr_room); (case ku => ktr_units); (case b1 => omega); (case b2 => omega); (case w1 => omega); (case w2 => omega);  k_whole; intro t9 h9 tk9 F9 N9; (try dsimp only); (try k_fold))))
local macro_rules | `(tactic| walk_at "call ref") => `(tactic| (k_here; k_dflt (refine' Says.use (search_says _ _ _ _ _ ?b1 ?b2 _ ?w1 ?w2 _ ?o1 ?o2 _ _ _ _) ?k1 ?k2 ?k3 ?k4 ?k5 ?kK ?kd ?ku ?_; (case k1 => k_asm); (case k2 => k_asm); (case k3 => k_asm); (case k4 => k_asm); (case k5 => k_asm); (case kK => first | exact rfl | assumption); (case kd => ktr_room); (case ku => ktr_units); (case b1 => first | omega | ((try simp only [fmod2, fmod41, fmod50, fdiv2] at *); omega)); (case b2 => first | omega | ((try simp only [fmod2, fmod41, fmod50, fdiv2] at *); omega)); (case w1 => first | omega | ((try simp only [fmod2, fmod41, fmod50, fdiv2] at *); omega)); (case w2 => first | omega | ((try simp only [fmod2, fmod41, fmod50, fdiv2] at *); omega)); (case o1 => first | omega | ((try simp only [fmod2, fmod41, fmod50, fdiv2] at *); omega)); (case o2 => first | omega | ((try simp only [fmod2, fmod41, fmod50, fdiv2] at *); omega));  k_whole; intro t9 h9 tk9 F9 N9; (try dsimp only); (try k_fold))))
local macro_rules | `(tactic| walk_at "call ref") => `(tactic| (k_here; k_dflt (refine' Says.use (searchB_says _ _ _ _ _ ?b1 ?b2 _ ?w1 ?w2 _ ?o1 ?o2 _ _ _ _) ?k1 ?k2 ?k3 ?k4 ?k5 ?kK ?kd ?ku ?_; (case k1 => k_asm); (case k2 => k_asm); (case k3 => k_asm); (case k4 => k_asm); (case k5 => k_asm); (case kK => first | exact rfl | assumption); (case kd => ktr_room); (case ku => ktr_units); (case b1 => first | omega | ((try simp only [fmod2, fmod41, fmod50, fdiv2] at *); omega)); (case b2 => first | omega | ((try simp only [fmod2, fmod41, fmod50, fdiv2] at *); omega)); (case w1 => first | omega | ((try simp only [fmod2, fmod41, fmod50, fdiv2] at *); omega)); (case w2 => first | omega | ((try simp only [fmod2, fmod41, fmod50, fdiv2] at *); omega)); (case o1 => first | omega | ((try simp only [fmod2, fmod41, fmod50, fdiv2] at *); omega)); (case o2 => first | omega | ((try simp only [fmod2, fmod41, fmod50, fdiv2] at *); omega));  k_whole; intro t9 h9 tk9 F9 N9; (try dsimp only); (try k_fold))))
local macro_rules | `(tactic| walk_at "call ref") => `(tactic| (k_here; k_dflt (refine' Says.use (weeksA_says _ _ _ _ _ ?b1 ?b2 _ ?w1 ?w2 _ ?q1 ?q2 _ _ _) ?k1 ?k2 ?k3 ?k4 ?k5 ?kK ?kd ?ku ?_; (case k1 => k_asm); (case k2 => k_asm); (case k3 => k_asm); (case k4 => k_asm); (case k5 => k_asm); (case kK => first | exact rfl | assumption); (case kd => ktr_room); (case ku => ktr_units); (case b1 => first | omega | ((try simp only [fmod2, fmod41, fmod50, fdiv2] at *); omega)); (case b2 => first | omega | ((try simp only [fmod2, fmod41, fmod50, fdiv2] at *); omega)); (case w1 => first | omega | ((try simp only [fmod2, fmod41, fmod50, fdiv2] at *); omega)); (case w2 => first | omega | ((try simp only [fmod2, fmod41, fmod50, fdiv2] at *); omega)); (case q1 => first | omega | ((try simp only [fmod2, fmod41, fmod50, fdiv2] at *); omega)); (case q2 => first | omega | ((try simp only [fmod2, fmod41, fmod50, fdiv2] at *); omega));  k_whole; intro t9 h9 tk9 F9 N9; (try dsimp only); (try k_fold))))
local macro_rules | `(tactic| walk_at "call ref") => `(tactic| (k_here; k_dflt (refine' Says.use (weeksB_says _ _ _ _ _ ?b1 ?b2 _ ?w1 ?w2 _ ?q1 ?q2 _ _ _) ?k1 ?k2 ?k3 ?k4 ?k5 ?kK ?kd ?ku ?_; (case k1 => k_asm); (case k2 => k_asm); (case k3 => k_asm); (case k4 => k_asm); (case k5 => k_asm); (case kK => first | exact rfl | assumption); (case kd => ktr_room); (case ku => ktr_units); (case b1 => first | omega | ((try simp only [fmod2, fmod41, fmod50, fdiv2] at *); omega)); (case b2 => first | omega | ((try simp only [fmod2, fmod41, fmod50, fdiv2] at *); omega)); (case w1 => first | omega | ((try simp only [fmod2, fmod41, fmod50, fdiv2] at *); omega)); (case w2 => first | omega | ((try simp only [fmod2, fmod41, fmod50, fdiv2] at *); omega)); (case q1 => first | omega | ((try simp only [fmod2, fmod41, fmod50, fdiv2] at *); omega)); (case q2 => first | omega | ((try simp only [fmod2, fmod41, fmod50, fdiv2] at *); omega));  k_whole; intro t9 h9 tk9 F9 N9; (try dsimp only); (try k_fold))))
set_option maxRecDepth 100000 in
set_option maxHeartbeats 8000000 in
theorem told_says (w : World) (mean : ExcName → Option Value) (mg mb : Str → Option Value) (n : Int) (b1 : -2199023255552 ≤ n) (b2 : n ≤ 2199023255552) (kind : Int) (k1 : 0 ≤ kind) (k2 : kind ≤ 7) (v : Int) (w1 : 0 ≤ v) (w2 : v ≤ 6) (more : Int) (t1 t2 t3 t4 : Tok) :
    SaysB w mean mg mb 6 148 [.float (md n) t1, .int kind t2, .int v t3, .int more t4] (fun t => .float (md (due n kind v more)) t) := by
  k_with_none
  w_on
  w_strict (
    unfold SaysB Says
    k_fill
    intro dp un gd cn cs a ccd cl outer A₀ base h₀ L m news s Q E B F X N T hk hd hu hret
    refine wpAny_call ?_
    (first | k_dflt cell_enter | fail "the helper is not entered")
    k_steps
    all_goals (refine' says_ret (Q := Q) (s := s) hret ?e1 ?e2 ?e3; (case e2 => k_asm); (case e3 => k_asm); (case e1 => first
      | (have hq := due_0 (n := n) (kind := kind) (v := v) (more := more) (by with_reducible assumption); with_reducible exact md_eq hq.symm _)
      | (have hq := due_1 (n := n) (kind := kind) (v := v) (more := more) (by with_reducible assumption); with_reducible exact md_eq hq.symm _)
      | (have hq := due_2 (n := n) (kind := kind) (v := v) (more := more) (by with_reducible assumption); with_reducible exact md_eq hq.symm _)
      | (have hq := due_3 (n := n) (kind := kind) (v := v) (more := more) (by with_reducible assumption); with_reducible exact md_eq hq.symm _)
      | (have hq := due_3 (n := n) (kind := kind) (v := v) (more := more) (by with_reducible assumption); with_reducible exact md_eq (by rw [Int.add_zero]; exact hq.symm) _)
      | (have hq := due_4 (n := n) (kind := kind) (v := v) (more := more) (by with_reducible assumption); with_reducible exact md_eq hq.symm _)
      | (have hq := due_5 (n := n) (kind := kind) (v := v) (more := more) (by with_reducible assumption) (by with_reducible assumption); with_reducible exact md_eq hq.symm _)
      | (have hq := due_5' (n := n) (kind := kind) (v := v) (more := more) (by with_reducible assumption) (by with_reducible assumption); with_reducible exact md_eq hq.symm _)
      | (have hq := due_6 (n := n) (kind := kind) (v := v) (more := more) (by with_reducible assumption); with_reducible exact md_eq hq.symm _)
      | (have hq := due_7 (n := n) (kind := kind) (v := v) (more := more) (by omega); rw [← Int.mul_neg] at hq; with_reducible exact md_eq hq.symm _))))

set_option maxRecDepth 100000 in
set_option maxHeartbeats 8000000 in
theorem seekU_says (w : World) (mean : ExcName → Option Value) (mg mb : Str → Option Value) (n : Int) (b1 : -8796093022208 ≤ n) (b2 : n ≤ 8796093022208) (v : Int) (w1 : 0 ≤ v) (w2 : v ≤ 6) (t1 t2 t3 : Tok) :
    SaysB w mean mg mb 1 134 [.int n t1, .int v t2, .int 1 t3] (fun t => .int (up n v) t) := by
  k_with_none
  k_with "exec While Compare cons nil" => k_while_given ["wanted", "number!"] (fun v n₀ script n => n₀ ≤ n ∧ n ≤ n₀ + (v - n₀) % 7) (fun v n₀ script n => (n₀ + (v - n₀) % 7 - n).toNat) "number"
  k_with "state" => ((try simp only [fmod7] at *); omega)
  k_with "measure" => ((try simp only [fmod7] at *); omega)
  w_on
  w_strict (
    unfold SaysB Says
    k_fill
    intro dp un gd cn cs a ccd cl outer A₀ base h₀ L m news s Q E B F X N T hk hd hu hret
    refine wpAny_call ?_
    (first | k_dflt cell_enter | fail "the helper is not entered")
    k_steps
    all_goals (refine' says_ret (Q := Q) (s := s) hret ?e1 ?e2 ?e3; (case e2 => k_asm); (case e3 => k_asm); (case e1 => exact int_eq (by (simp only [up, dn]; (try simp only [fmod7] at *); omega)) _)))
set_option maxRecDepth 100000 in
set_option maxHeartbeats 8000000 in
theorem seekD_says (w : World) (mean : ExcName → Option Value) (mg mb : Str → Option Value) (n : Int) (b1 : -8796093022208 ≤ n) (b2 : n ≤ 8796093022208) (v : Int) (w1 : 0 ≤ v) (w2 : v ≤ 6) (t1 t2 t3 : Tok) :
    SaysB w mean mg mb 1 134 [.int n t1, .int v t2, .int (-1) t3] (fun t => .int (dn n v) t) := by
  k_with_none
  k_with "exec While Compare cons nil" => k_while_given ["wanted", "number!"] (fun v n₀ script n => n ≤ n₀ ∧ n₀ - (n₀ - v) % 7 ≤ n) (fun v n₀ script n => (n - (n₀ - (n₀ - v) % 7)).toNat) "number"
  k_with "state" => ((try simp only [fmod7] at *); omega)
  k_with "measure" => ((try simp only [fmod7] at *); omega)
  w_on
  w_strict (
    unfold SaysB Says
    k_fill
    intro dp un gd cn cs a ccd cl outer A₀ base h₀ L m news s Q E B F X N T hk hd hu hret
    refine wpAny_call ?_
    (first | k_dflt cell_enter | fail "the helper is not entered")
    k_steps
    all_goals (refine' says_ret (Q := Q) (s := s) hret ?e1 ?e2 ?e3; (case e2 => k_asm); (case e3 => k_asm); (case e1 => exact int_eq (by (simp only [up, dn]; (try simp only [fmod7] at *); omega)) _)))

local macro_rules | `(tactic| walk_at "call ref") => `(tactic| (k_here; k_dflt (refine' Says.use (seekU_says _ _ _ _ _ ?b1 ?b2 _ ?w1 ?w2 _ _ _) ?k1 ?k2 ?k3 ?k4 ?k5 ?kK ?kd ?ku ?_; (case k1 => k_asm); (case k2 => k_asm); (case k3 => k_asm); (case k4 => k_asm); (case k5 => k_asm); (case kK => first | exact rfl | assumption); (case kd => ktr_room); (case ku => ktr_units); (case b1 => first | omega | ((try simp only [fmod2, fmod41, fmod50, fdiv2] at *); omega)); (case b2 => first | omega | ((try simp only [fmod2, fmod41, fmod50, fdiv2] at *); omega)); (case w1 => first | omega | ((try simp only [fmod2, fmod41, fmod50, fdiv2] at *); omega)); (case w2 => first | omega | ((try simp only [fmod2, fmod41, fmod50, fdiv2] at *); omega));  k_whole; intro t9 h9 tk9 F9 N9; (try dsimp only); (try k_fold))))
local macro_rules | `(tactic| walk_at "call ref") => `(tactic| (k_here; k_dflt (refine' Says.use (seekD_says _ _ _ _ _ ?b1 ?b2 _ ?w1 ?w2 _ _ _) ?k1 ?k2 ?k3 ?k4 ?k5 ?kK ?kd ?ku ?_; (case k1 => k_asm); (case k2 => k_asm); (case k3 => k_asm); (case k4 => k_asm); (case k5 => k_asm); (case kK => first | exact rfl | assumption); (case kd => ktr_room); (case ku => ktr_units); (case b1 => first | omega | ((try simp only [fmod2, fmod41, fmod50, fdiv2] at *); omega)); (case b2 => first | omega | ((try simp only [fmod2, fmod41, fmod50, fdiv2] at *); omega)); (case w1 => first | omega | ((try simp only [fmod2, fmod41, fmod50, fdiv2] at *); omega)); (case w2 => first | omega | ((try simp only [fmod2, fmod41, fmod50, fdiv2] at *); omega));  k_whole; intro t9 h9 tk9 F9 N9; (try dsimp only); (try k_fold))))
set_option maxRecDepth 100000 in
set_option maxHeartbeats 8000000 in
theorem due_says (w : World) (mean : ExcName → Option Value) (mg mb : Str → Option Value) (n : Int) (b1 : -2199023255552 ≤ n) (b2 : n ≤ 2199023255552) (kind : Int) (k1 : 0 ≤ kind) (k2 : kind ≤ 7) (v : Int) (w1 : 0 ≤ v) (w2 : v ≤ 6) (more : Int) (t1 t2 t3 t4 : Tok) :
    SaysB w mean mg mb 2 141 [.int n t1, .int kind t2, .int v t3, .int more t4] (fun t => .int (due n kind v more) t) := by
  k_with_none
  w_on
  w_strict (
    unfold SaysB Says
    k_fill
    intro dp un gd cn cs a ccd cl outer A₀ base h₀ L m news s Q E B F X N T hk hd hu hret
    refine wpAny_call ?_
    (first | k_dflt cell_enter | fail "the helper is not entered")
    k_steps
    all_goals (refine' says_ret (Q := Q) (s := s) hret ?e1 ?e2 ?e3; (case e2 => k_asm); (case e3 => k_asm); (case e1 => first
      | (have hq := due_0 (n := n) (kind := kind) (v := v) (more := more) (by with_reducible assumption); first | (with_reducible exact int_eq hq.symm _) | exact int_eq (by rw [hq]; (try simp only [up, dn, fmod50] at *); omega) _)
      | (have hq := due_1 (n := n) (kind := kind) (v := v) (more := more) (by with_reducible assumption); first | (with_reducible exact int_eq hq.symm _) | exact int_eq (by rw [hq]; (try simp only [up, dn, fmod50] at *); omega) _)
      | (have hq := due_2 (n := n) (kind := kind) (v := v) (more := more) (by with_reducible assumption); first | (with_reducible exact int_eq hq.symm _) | exact int_eq (by rw [hq]; (try simp only [up, dn, fmod50] at *); omega) _)
      | (have hq := due_3 (n := n) (kind := kind) (v := v) (more := more) (by with_reducible assumption); first | (with_reducible exact int_eq hq.symm _) | exact int_eq (by rw [hq]; (try simp only [up, dn, fmod50] at *); omega) _)
      | (have hq := due_4 (n := n) (kind := kind) (v := v) (more := more) (by with_reducible assumption); first | (with_reducible exact int_eq hq.symm _) | exact int_eq (by rw [hq]; (try simp only [up, dn, fmod50] at *); omega) _)
      | (have hq := due_5 (n := n) (kind := kind) (v := v) (more := more) (by with_reducible assumption) (by with_reducible assumption); exact int_eq (by rw [hq, Int.one_mul]) _)
      | (have hq := due_5' (n := n) (kind := kind) (v := v) (more := more) (by with_reducible assumption) (by with_reducible assumption); exact int_eq (by rw [hq]; exact congrArg (fun z => dn z v) (by omega)) _)
      | (have hq := due_6 (n := n) (kind := kind) (v := v) (more := more) (by with_reducible assumption); first | (with_reducible exact int_eq hq.symm _) | exact int_eq (by rw [hq]; (try simp only [up, dn, fmod50] at *); omega) _)
      | (have hq := due_7 (n := n) (kind := kind) (v := v) (more := more) (by omega); exact int_eq (by rw [hq]; (try simp only [up, dn, fmod50] at *); omega) _))))

local macro_rules | `(tactic| walk_at "compareOp In int ref") => `(tactic| (k_here; (with_reducible show wpAny _ _ (compareOp CmpOp.In (Value.int _ _) (Value.ref _)) _ _ _); k_dflt (refine' in_top_tup ?F ?X ?l ?i ?_; (case F => k_asm); (case X => k_asm); (case l => k_is); (case i => l_intsW))))
set_option maxRecDepth 100000 in
set_option maxHeartbeats 8000000 in
theorem legal_says (w : World) (mean : ExcName → Option Value) (mg mb : Str → Option Value) (t1 t2 t3 : Tok) :
    SaysB w mean mg mb 1 120 [.int 2000 t1, .int 1 t2, .int 1 t3] (fun t => (fun _ : Tok => Value.bool true) t) := by
  k_with_none
  w_on
  w_strict (
    unfold SaysB Says
    k_fill
    intro dp un gd cn cs a ccd cl outer A₀ base h₀ L m news s Q E B F X N T hk hd hu hret
    refine wpAny_call ?_
    (first | k_dflt cell_enter | fail "the helper is not entered")
    k_steps
    all_goals (refine' says_ret (t := 0) (Q := Q) (s := s) hret ?e1 ?e2 ?e3; (case e2 => k_asm); (case e3 => k_asm); (case e1 => exact rfl)))
local macro_rules | `(tactic| walk_at "call ref") => `(tactic| (k_here; k_dflt (refine' Says.use (legal_says _ _ _ _ _ _ _) ?k1 ?k2 ?k3 ?k4 ?k5 ?kK ?kd ?ku ?_; (case k1 => k_asm); (case k2 => k_asm); (case k3 => k_asm); (case k4 => k_asm); (case k5 => k_asm); (case kK => first | exact rfl | assumption); (case kd => ktr_room); (case ku => ktr_units);   k_whole; intro t9 h9 tk9 F9 N9; (try dsimp only); (try k_fold))))
set_option maxRecDepth 100000 in
set_option maxHeartbeats 8000000 in
theorem to_jd_says (w : World) (mean : ExcName → Option Value) (mg mb : Str → Option Value) (t1 t2 t3 : Tok) :
    SaysB w mean mg mb 2 127 [.int 2000 t1, .int 1 t2, .int 1 t3] (fun t => .float (md 2451545) t) := by
  k_with_none
  w_on
  w_strict (
    unfold SaysB Says
    k_fill
    intro dp un gd cn cs a ccd cl outer A₀ base h₀ L m news s Q E B F X N T hk hd hu hret
    refine wpAny_call ?_
    (first | k_dflt cell_enter | fail "the helper is not entered")
    k_steps
    all_goals (refine' says_ret (Q := Q) (s := s) hret ?e1 ?e2 ?e3; (case e2 => k_asm); (case e3 => k_asm); (case e1 => exact congrArg (fun x => Value.float x _) (by decide +kernel))))

/-! The loop. -/
/-- what the loop turns: the number, its token, the day's token, the weekday, its token -/
abbrev dPs (c : Int × Tok × Tok × Int × Tok) : List (Str × Value) :=
  [(Str.ofString "number", .int c.1 c.2.1), (Str.ofString "jd", .float (md c.1) c.2.2.1), (Str.ofString "wanted", .int c.2.2.2.1 c.2.2.2.2)]
abbrev dSt : List Str := [Str.ofString "kind", Str.ofString "more", Str.ofString "due", Str.ofString "told"]
def dP (pre : List Int) (c : Int × Tok × Tok × Int × Tok) : Prop :=
  -2147483648 - 400 * (pre.length : Int) ≤ c.1 ∧ c.1 ≤ 2147483648 + 400 * (pre.length : Int) ∧ (pre ≠ [] → c.1 % 7 = c.2.2.2.1)
theorem dP_start {n v : Int} {tn tj tw : Tok} (h1 : -2147483648 ≤ n) (h2 : n ≤ 2147483648) : dP [] (n, tn, tj, v, tw) :=
  ⟨by show _ - 400 * ((0 : Nat) : Int) ≤ n; omega, by show n ≤ _ + 400 * ((0 : Nat) : Int); omega, fun h => absurd rfl h⟩
theorem dP_next {pre : List Int} {d n kind v more : Int} {tn tj tw : Tok} (p1 : -2147483648 - 400 * (pre.length : Int) ≤ n) (p2 : n ≤ 2147483648 + 400 * (pre.length : Int)) (v1 : 0 ≤ v) (v2 : v ≤ 6) :
    dP (pre ++ [d]) (due n kind v more, tn, tj, v, tw) := by
  have h := due_near n kind v more
  have hr := due_rest n kind v more v1 v2
  unfold dP
  simp only [List.length_append, List.length_cons, List.length_nil]
  exact ⟨by omega, by omega, fun _ => hr⟩
theorem small_due {n kind v more : Int} (h1 : -4398046511104 ≤ n) (h2 : n ≤ 4398046511104) : Small (due n kind v more) := by
  have h := due_near n kind v more
  exact ⟨by omega, by omega⟩
theorem pre_len {pre post ns : List Int} {d : Int} (h : ns = pre ++ d :: post) (hl : ns.length ≤ 80) : (pre.length : Int) ≤ 80 := by
  have e := congrArg List.length h
  simp only [List.length_append, List.length_cons] at e
  omega
section
variable {prog : Program} {w : World} {A : Around} {E : Value → Shared → Prop} {s : Shared} {Q : Value → Shared → Prop} {n i : Int} {t u : Tok}
theorem r_mod7 (h : Q (.int (n % 7) s.toks) { s with toks := s.toks + 1 }) : wpAny (model prog w) A (binaryOp .Mod (.int n t) (.int 7 u)) Q E s :=
  PyProof.Rows.mod_int (by decide) (by rw [fmod7]; exact h)
theorem r_mod8 (h : Q (.int (n % 8) s.toks) { s with toks := s.toks + 1 }) : wpAny (model prog w) A (binaryOp .Mod (.int n t) (.int 8 u)) Q E s :=
  PyProof.Rows.mod_int (by decide) (by rw [fmod8]; exact h)
theorem r_same (hn : Small n) (h : Q (.bool false) s) :
    wpAny (model prog w) A (compareOp .NotEq (.float (Float64.ofInt (2 * n - 1)) t) (.int (2 * n - 1) u)) Q E s :=
  r_ne hn (by
    have e : decide (2 * n - 1 ≠ 2 * n - 1) = false := by simp
    rw [e]; exact h)
end

/-! The law. -/
local macro_rules | `(tactic| walk_at "binaryOp Pow int int") => `(tactic| ((with_reducible refine pow_lit ?_); dsimp only))
local macro_rules | `(tactic| walk_at "binaryOp Mult int int") => `(tactic| ((with_reducible refine mul_lit ?_); dsimp only))
local macro_rules | `(tactic| walk_at "binaryOp Add int int") => `(tactic| ((with_reducible refine add_lit ?_); dsimp only))
local macro_rules | `(tactic| walk_at "binaryOp Mod int int") => `(tactic| (first | ((with_reducible refine r_mod7 ?_); dsimp only) | ((with_reducible refine r_mod8 ?_); dsimp only)))
local macro_rules | `(tactic| walk_at "eval IfExp") => `(tactic| (k_here; (rename Fr _ _ _ _ => jF'); (rename News _ _ _ _ => jN'); (refine' join_int jF' jN' ?hc ?hk); (case' hk => (clear jF' jN'; intro x' t' h' tk' F' N'; (try dsimp only); (try k_fold))); (case' hc => refine IfExp_ ?_)))
local macro_rules | `(tactic| walk_at "IntBack") => `(tactic| exact IntBack.intro (by k_asm) (by k_asm))
local macro_rules | `(tactic| walk_at "binaryOp Add float int") => `(tactic| (k_here; (with_reducible refine' r_add ?h1 ?h2 ?_); (case h1 => (first | assumption | exact ⟨by omega, by omega⟩ | exact small_due (by omega) (by omega) | (k_fmods; exact ⟨by omega, by omega⟩))); (case h2 => (first | assumption | exact ⟨by omega, by omega⟩ | exact small_due (by omega) (by omega) | (k_fmods; exact ⟨by omega, by omega⟩))); k_whole; (try dsimp only)))
local macro_rules | `(tactic| walk_at "binaryOp Sub float int") => `(tactic| (k_here; (with_reducible refine' r_sub ?h1 ?h2 ?_); (case h1 => (first | assumption | exact ⟨by omega, by omega⟩ | exact small_due (by omega) (by omega) | (k_fmods; exact ⟨by omega, by omega⟩))); (case h2 => (first | assumption | exact ⟨by omega, by omega⟩ | exact small_due (by omega) (by omega) | (k_fmods; exact ⟨by omega, by omega⟩))); k_whole; (try dsimp only)))
local macro_rules | `(tactic| walk_at "binaryOp Add float float") => `(tactic| (k_here; k_dflt (refine' r_half ?h1 ?_; (case h1 => (first | assumption | exact ⟨by omega, by omega⟩ | exact small_due (by omega) (by omega) | (k_fmods; exact ⟨by omega, by omega⟩))); k_whole; (try dsimp only))))
local macro_rules | `(tactic| walk_at "call builtin:math.trunc") => `(tactic| (k_here; (with_reducible refine' r_trunc ?h0 ?h1 ?_); (case h0 => with_unfolding_all rfl); (case h1 => (first | assumption | exact ⟨by omega, by omega⟩ | exact small_due (by omega) (by omega) | (k_fmods; exact ⟨by omega, by omega⟩))); k_whole; (try dsimp only)))
local macro_rules | `(tactic| walk_at "inplaceOp Add int float") => `(tactic| (k_here; (with_reducible refine' r_iadd ?h0 ?h1 ?h2 ?_); (case h0 => with_unfolding_all rfl); (case h1 => (first | assumption | exact ⟨by omega, by omega⟩ | exact small_due (by omega) (by omega) | (k_fmods; exact ⟨by omega, by omega⟩))); (case h2 => (first | assumption | exact ⟨by omega, by omega⟩ | exact small_due (by omega) (by omega) | (k_fmods; exact ⟨by omega, by omega⟩))); k_whole; (try dsimp only)))
local macro_rules | `(tactic| walk_at "binaryOp Mult int float") => `(tactic| (k_here; (with_reducible refine' r_twice ?h1 ?_); (case h1 => (first | assumption | exact ⟨by omega, by omega⟩ | exact small_due (by omega) (by omega) | (k_fmods; exact ⟨by omega, by omega⟩))); k_whole; (try dsimp only)))
local macro_rules | `(tactic| walk_at "compareOp NotEq float int") => `(tactic| (k_here; (with_reducible refine' r_ne ?h1 ?_); (case h1 => (first | assumption | exact ⟨by omega, by omega⟩ | exact small_due (by omega) (by omega) | (k_fmods; exact ⟨by omega, by omega⟩))); k_whole; (try dsimp only)))
local macro_rules | `(tactic| walk_at "compareOp NotEq float int") => `(tactic| (k_here; (with_reducible refine' r_same ?h1 ?_); (case h1 => (first | assumption | exact ⟨by omega, by omega⟩ | exact small_due (by omega) (by omega) | (k_fmods; exact ⟨by omega, by omega⟩))); k_whole; (try dsimp only)))
local macro_rules | `(tactic| walk_at "call ref") => `(tactic| (k_here; k_dflt (refine' Says.use (to_jd_says _ _ _ _ _ _ _) ?k1 ?k2 ?k3 ?k4 ?k5 ?kK ?kd ?ku ?_; (case k1 => k_asm); (case k2 => k_asm); (case k3 => k_asm); (case k4 => k_asm); (case k5 => k_asm); (case kK => first | exact rfl | assumption); (case kd => ktr_room); (case ku => ktr_units);   k_whole; intro t9 h9 tk9 F9 N9; (try dsimp only); (try k_fold))))
local macro_rules | `(tactic| walk_at "call ref") => `(tactic| (k_here; k_dflt (refine' Says.use (jwday_says _ _ _ _ _ ?hs _) ?k1 ?k2 ?k3 ?k4 ?k5 ?kK ?kd ?ku ?_; (case k1 => k_asm); (case k2 => k_asm); (case k3 => k_asm); (case k4 => k_asm); (case k5 => k_asm); (case kK => first | exact rfl | assumption); (case kd => ktr_room); (case ku => ktr_units); (case hs => (first | assumption | exact ⟨by omega, by omega⟩ | exact small_due (by omega) (by omega) | (k_fmods; exact ⟨by omega, by omega⟩)));  k_whole; intro t9 h9 tk9 F9 N9; (try dsimp only); (try k_fold))))
local macro_rules | `(tactic| walk_at "call ref") => `(tactic| (k_here; k_dflt (refine' Says.use (told_says _ _ _ _ _ ?b1 ?b2 _ ?q1 ?q2 _ ?w1 ?w2 _ _ _ _ _) ?k1 ?k2 ?k3 ?k4 ?k5 ?kK ?kd ?ku ?_; (case k1 => k_asm); (case k2 => k_asm); (case k3 => k_asm); (case k4 => k_asm); (case k5 => k_asm); (case kK => first | exact rfl | assumption); (case kd => ktr_room); (case ku => ktr_units); (case b1 => omega); (case b2 => omega); (case q1 => omega); (case q2 => omega); (case w1 => omega); (case w2 => omega);  k_whole; intro t9 h9 tk9 F9 N9; (try dsimp only); (try k_fold))))
local macro_rules | `(tactic| walk_at "call ref") => `(tactic| (k_here; k_dflt (refine' Says.use (due_says _ _ _ _ _ ?b1 ?b2 _ ?q1 ?q2 _ ?w1 ?w2 _ _ _ _ _) ?k1 ?k2 ?k3 ?k4 ?k5 ?kK ?kd ?ku ?_; (case k1 => k_asm); (case k2 => k_asm); (case k3 => k_asm); (case k4 => k_asm); (case k5 => k_asm); (case kK => first | exact rfl | assumption); (case kd => ktr_room); (case ku => ktr_units); (case b1 => omega); (case b2 => omega); (case q1 => omega); (case q2 => omega); (case w1 => omega); (case w2 => omega);  k_whole; intro t9 h9 tk9 F9 N9; (try dsimp only); (try k_fold))))
set_option maxRecDepth 100000 in
set_option maxHeartbeats 8000000 in
theorem whole : PySem.Challenge.rw_bf6004_01.Holds := by
  k_with_none
  k_with "pyIter ref" => (k_here; (rename Fr _ _ _ _ => lF'); (rename News _ _ _ _ => lN'); (with_unfolding_all refine' kst_listL (fun _ => _) dPs (fun _ => True) dSt dP (?c1, ?c2, ?c3, ?c4, ?c5) (by rfl) ?hl ?hi lF' lN' True.intro ?kk ?kp ?turn ?done); (case hl => exact fun _ => List.Mem.head _); (case hi => assumption); (case kk => kst_all); (case kp => (refine dP_start ?_ ?_ <;> (k_fmods; omega))); (case' turn => (clear lF' lN'; intro c' pre' post' d' t' u' h' tk' own' heq' hmem' hoff' hfa' hp' F' N'; obtain ⟨n', tn', tj', v', tw'⟩ := c'; obtain ⟨p1', p2', p3'⟩ := hp'; (dsimp only [kstB, dPs] at F'); (dsimp only at N' p1' p2' p3' hoff'); (have hlen' := pre_len heq' (by (simp only [List.length_append, List.length_cons, List.length_nil, List.length_drop]; omega))); (have kM' := kstMark); (try k_fold))); (case' done => (clear lF' lN'; intro c' u' h' tk' hfa' hp' F' N'; obtain ⟨n', tn', tj', v', tw'⟩ := c'; obtain ⟨p1', p2', p3'⟩ := hp'; (dsimp only [kstB, dPs] at F'); (dsimp only at N' p1' p2' p3'); (have hend' := p3' (by simp)); (simp only [List.length_append, List.length_cons, List.length_nil, List.length_drop] at p1' p2'); (have hs1' : -2147523648 ≤ n' := by omega); (have hs2' : n' ≤ 2147523648 := by omega); (try k_fold))))
  k_with "state" => exact dP_next (by assumption) (by assumption) (by omega) (by omega)
  refine hd ?_
  w_on
  w_strict (
    k_go0
    (all_goals try k_fold)
    k_steps
    (all_goals (try k_data))
    all_goals w_report)
end BfMine

theorem PySem.Challenge.cw_bf6004_01_holds : PySem.Challenge.rw_bf6004_01.Holds :=
  BfMine.whole
