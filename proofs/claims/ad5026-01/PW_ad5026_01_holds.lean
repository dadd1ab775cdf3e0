import PyProof.Rows.All
import Wide.All
import OpenK.AllK
import Wide.FinOn
import Flt.RightSqrt
import Flt.Calls
import Flt.RightMore
import Flt.Zero
import PySem.Challenge.RW_ad5026_01
set_option Elab.async false
set_option rowWalk.seconds 0
set_option linter.unusedVariables false
set_option linter.unusedSimpArgs false
section
-- LHead
open PySem PySem.W PyProof.Rows
set_option Elab.async false
namespace Mine
set_option maxRecDepth 100000
set_option maxHeartbeats 8000000
open_top hd for PySem.Challenge.rw_ad5026_01
end Mine
end
section
-- LClaim
open PySem PySem.W PyProof.Rows
set_option Elab.async false
namespace Mine
noncomputable abbrev looseN : List PySem.Str := looseW hd.view_39
      [Str.ofString "leap_islamic", Str.ofString "to_jd_islamic", Str.ofString "from_jd_islamic",
        Str.ofString "to_jd_coptic", Str.ofString "from_jd_coptic", Str.ofString "legal_date_gregorian",
        Str.ofString "to_jd_gregorian", Str.ofString "from_jd_gregorian", Str.ofString "to_jd_indian_civil",
        Str.ofString "from_jd_indian_civil", Str.ofString "leap_julian", Str.ofString "legal_date_julian",
        Str.ofString "from_jd_julian", Str.ofString "to_jd_julian"]
/-- what a call of the def at f with these arguments gives, in any frame above that leaves k frames of room -/
abbrev Cl (k : Nat) (w : World) (f : Addr) (vs : List Value) (P : Value → Prop) : Prop :=
  ∀ (mean : ExcName → Option Value) (mg mb : PySem.Str → Option Value) (news : List (Addr × Obj)) (dp un : Nat) (gd : Option (List Code)) (cn : PySem.Str) (cs : Scope) (a : Addr) (ccd : Value) (cl : List (PySem.Str × Addr)) (outer : List Env) (A₀ : Around) (base h₀ : Heap) (L : Addr) (m : PySem.Str → Option Value) (s : Shared) (Q E : Value → Shared → Prop),
    Below A₀ base outer h₀ → Fr h₀ L s.heap m → (hd.heap_39 w.params).In h₀ → News h₀ L s.heap news → Top hd.view_39 looseN mean mg mb h₀ → cs.kind = .function →
    dp + k < recursionLimit → un + 8 * k < cLine →
    (∀ (v : Value) (h' : Heap) (tk' : Nat), P v → Fr h₀ L h' m → News h₀ L h' news → Q v { s with heap := h', toks := tk' }) →
    wpAny (model PySem.Challenge.rw_ad5026_01.row.prog w) (ktrTop dp un gd cn cs L a ccd cl outer) (call (.ref f) vs) Q E s
theorem Cl.use {k : Nat} {w : World} {f : Addr} {vs : List Value} {P : Value → Prop} (c : Cl k w f vs P)
    {mean : ExcName → Option Value} {mg mb : PySem.Str → Option Value} {news : List (Addr × Obj)} {dp un : Nat} {gd : Option (List Code)} {cn : PySem.Str} {cs : Scope} {a : Addr} {ccd : Value} {cl : List (PySem.Str × Addr)} {outer : List Env} {A₀ : Around} {base h₀ : Heap} {L : Addr} {m : PySem.Str → Option Value} {s : Shared} {Q E : Value → Shared → Prop}
    (B : Below A₀ base outer h₀) (F : Fr h₀ L s.heap m) (X : (hd.heap_39 w.params).In h₀) (N : News h₀ L s.heap news) (T : Top hd.view_39 looseN mean mg mb h₀) (hk : cs.kind = .function) (hd : dp + k < recursionLimit) (hu : un + 8 * k < cLine)
    (ret : ∀ (v : Value) (h' : Heap) (tk' : Nat), P v → Fr h₀ L h' m → News h₀ L h' news → Q v { s with heap := h', toks := tk' }) :
    wpAny (model PySem.Challenge.rw_ad5026_01.row.prog w) (ktrTop dp un gd cn cs L a ccd cl outer) (call (.ref f) vs) Q E s :=
  c _ _ _ _ _ _ _ _ _ _ _ _ _ _ _ _ _ _ _ _ _ B F X N T hk hd hu ret
end Mine
end
section
-- LFlt
open PySem PySem.W PyProof.Rows
set_option Elab.async false
namespace Mine
open PySem.Float64

def IsFin (x : UInt64) : Prop := ∃ a m e, decode x = .fin a m e
/-- r is as near to X/D (in units of the least double) as any double that is N times 2^c units -/
def Near (r : UInt64) (X : Int) (D : Int) : Prop :=
  IsFin r ∧ ∀ (N : Int) (c : Nat), N.natAbs ≤ 2 ^ 53 → 52 ≤ c → c ≤ 1980 → (X - D * val r).natAbs ≤ (X - D * (N * 2 ^ c)).natAbs

theorem rep (n c : Nat) (hn : n ≤ 2 ^ 53) (hc : 52 ≤ c) (hc2 : c ≤ 1980) : ∃ t, t < infMag ∧ V t = n * 2 ^ c := by
  by_cases h0 : n = 0
  · subst h0
    exact ⟨0, by decide, by rw [V_zero, Nat.zero_mul]⟩
  · have hb : n.log2 ≤ 53 := by
      have h1 := Nat.log2_self_le h0
      by_cases h : n.log2 ≤ 53
      · exact h
      · have : 2 ^ 54 ≤ 2 ^ n.log2 := Nat.pow_le_pow_right (by decide) (by omega)
        omega
    have hlo := Nat.log2_self_le h0
    have hhi : n < 2 ^ (n.log2 + 1) := Nat.lt_log2_self
    generalize n.log2 = l at hb hlo hhi
    by_cases hl : l ≤ 52
    · refine ⟨(c - (52 - l)) * 2 ^ 52 + n * 2 ^ (52 - l), ?_, ?_⟩
      · have h3 : n * 2 ^ (52 - l) ≤ 2 ^ 53 := by
          have e : 2 ^ 53 = 2 ^ (l + 1) * 2 ^ (52 - l) := by rw [← Nat.pow_add]; congr 1; omega
          rw [e]
          exact Nat.mul_le_mul_right _ (by omega)
        have : infMag = 2047 * 2 ^ 52 := rfl
        omega
      · have h3 : n * 2 ^ (52 - l) ≤ 2 ^ 53 := by
          have e : 2 ^ 53 = 2 ^ (l + 1) * 2 ^ (52 - l) := by rw [← Nat.pow_add]; congr 1; omega
          rw [e]
          exact Nat.mul_le_mul_right _ (by omega)
        have h4 : 2 ^ 52 ≤ n * 2 ^ (52 - l) := by
          have e : 2 ^ 52 = 2 ^ l * 2 ^ (52 - l) := by rw [← Nat.pow_add]; congr 1; omega
          rw [e]
          exact Nat.mul_le_mul_right _ hlo
        rw [V_at h3 (.inl h4), Nat.mul_assoc, ← Nat.pow_add]
        congr 2
        omega
    · have e53 : l = 53 := by omega
      subst e53
      have en : n = 2 ^ 53 := by omega
      subst en
      refine ⟨c * 2 ^ 52 + 2 ^ 53, ?_, ?_⟩
      · have : infMag = 2047 * 2 ^ 52 := rfl
        omega
      · rw [V_at (by decide) (.inl (by decide))]

theorem right_near {r : UInt64} {neg : Bool} {W D : Nat} (hR : Right r neg W D) (hD : 0 < D) (hW : 2 * W < D * ((2 ^ 54 - 1) * 2 ^ 2045)) : Near r (sgn neg W) D := by
  obtain ⟨t, rfl, ht, hov, hn⟩ := hR
  have ht' : t < infMag := by
    rcases Nat.lt_or_eq_of_le ht with h | h
    · exact h
    · exact absurd (hov.mp h) (by omega)
  obtain ⟨m, e, hd, hm⟩ := decode_pack neg ht'
  refine ⟨⟨neg, m, e, hd⟩, ?_⟩
  intro N c hN hc hc2
  rw [val_pack neg ht']
  obtain ⟨t', ht2, hV⟩ := rep N.natAbs c hN hc hc2
  have h1 := (hn ht' t').1
  have h0 := (hn ht' 0).1
  rw [V_zero, Nat.mul_zero] at h0
  rw [hV] at h1
  clear hov hn hd hm ht2 hV
  generalize V t = v at *
  have hc3 : N * 2 ^ c = sgn (decide (N < 0)) (N.natAbs * 2 ^ c) := by
    unfold sgn
    by_cases h : N < 0
    · rw [if_pos (by simpa using h)]
      push_cast
      rw [← Int.neg_mul]
      congr 1
      omega
    · rw [if_neg (by simpa using h)]
      push_cast
      congr 1
      omega
  rw [hc3]
  generalize N.natAbs * 2 ^ c = g at *
  have e1 : ∀ (b : Bool) (q : Nat), (D : Int) * sgn b q = sgn b (D * q) := by
    intro b q
    unfold sgn
    cases b <;> simp [Int.mul_neg]
  rw [e1, e1]
  generalize D * v = v' at *
  generalize D * g = g' at *
  unfold dist at h0 h1
  unfold sgn
  cases neg <;> by_cases h : N < 0 <;> simp only [h, decide_true, decide_false, if_true, Bool.false_eq_true, if_false] <;> omega

theorem near_exact {r : UInt64} {X D : Int} (h : Near r X D) (hD : 0 < D) {N : Int} {c : Nat} (hN : N.natAbs ≤ 2 ^ 53) (h1 : 52 ≤ c) (h2 : c ≤ 1980) (e : X = D * (N * 2 ^ c)) : val r = N * 2 ^ c := by
  have q := h.2 N c hN h1 h2
  rw [← e, Int.sub_self] at q
  have z : X - D * val r = 0 := by omega
  have z2 : D * val r = D * (N * 2 ^ c) := by omega
  exact Int.eq_of_mul_eq_mul_left (by omega) z2
theorem near_ge {r : UInt64} {X D : Int} (h : Near r X D) (hD : 0 < D) {N : Int} {c : Nat} (hN : N.natAbs ≤ 2 ^ 53) (h1 : 52 ≤ c) (h2 : c ≤ 1980) (le : D * (N * 2 ^ c) ≤ X) : N * 2 ^ c ≤ val r := by
  have q := h.2 N c hN h1 h2
  by_cases g : N * 2 ^ c ≤ val r
  · exact g
  · have k := Int.mul_lt_mul_of_pos_left (show val r < N * 2 ^ c by omega) hD
    omega
theorem near_le {r : UInt64} {X D : Int} (h : Near r X D) (hD : 0 < D) {N : Int} {c : Nat} (hN : N.natAbs ≤ 2 ^ 53) (h1 : 52 ≤ c) (h2 : c ≤ 1980) (le : X ≤ D * (N * 2 ^ c)) : val r ≤ N * 2 ^ c := by
  have q := h.2 N c hN h1 h2
  by_cases g : val r ≤ N * 2 ^ c
  · exact g
  · have k := Int.mul_lt_mul_of_pos_left (show N * 2 ^ c < val r by omega) hD
    omega

/-- x is N halves, exactly -/
def Fv (x : UInt64) (N : Int) : Prop := IsFin x ∧ val x = N * 2 ^ 1073
/-- x is N quarters, exactly -/
def Fq (x : UInt64) (N : Int) : Prop := IsFin x ∧ val x = N * 2 ^ 1072
/-- x's floor is f -/
def Fl (x : UInt64) (f : Int) : Prop := IsFin x ∧ val x / 2 ^ 1074 = f
/-- x's floor and ceil are those of A/B -/
def Br (x : UInt64) (A B : Int) : Prop := IsFin x ∧ val x / 2 ^ 1074 = A / B ∧ -((-val x) / 2 ^ 1074) = -((-A) / B)

theorem pow_split : (2 : Int) ^ 1074 = 2 ^ 20 * 2 ^ 1054 := by rw [← Int.pow_add]
theorem floor_core' {v q W : Int} (hW : 0 < W) (h1 : q * (2 ^ 20 * W) ≤ v) (h2 : v ≤ ((q + 1) * 2 ^ 20 - 1) * W) : v / (2 ^ 20 * W) = q := by
  apply Int.le_antisymm
  · apply Int.lt_add_one_iff.mp
    apply Int.ediv_lt_of_lt_mul (by omega)
    have e : ((q + 1) * 2 ^ 20 - 1) * W = (q + 1) * (2 ^ 20 * W) - W := by rw [Int.sub_mul, Int.one_mul, Int.mul_assoc]
    omega
  · exact (Int.le_ediv_iff_mul_le (by omega)).mpr h1
theorem br_core {v X D A B W : Int} (hW : 0 < W) (hD : 0 < D) (hB : 0 < B) (hB2 : B ≤ 2 ^ 20) (hq : (A / B).natAbs ≤ 2 ^ 32) (e : X * B = A * D * (2 ^ 20 * W))
    (nge : ∀ N : Int, N.natAbs ≤ 2 ^ 53 → D * (N * W) ≤ X → N * W ≤ v) (nle : ∀ N : Int, N.natAbs ≤ 2 ^ 53 → X ≤ D * (N * W) → v ≤ N * W) :
    v / (2 ^ 20 * W) = A / B ∧ -((-v) / (2 ^ 20 * W)) = -((-A) / B) := by
  have q1 : A / B * B ≤ A := Int.ediv_mul_le _ (by omega)
  have q2 : A < (A / B + 1) * B := Int.lt_ediv_add_one_mul_self _ hB
  have hDW : 0 < D * W := Int.mul_pos hD hW
  have eX : X * B = (A * 2 ^ 20) * (D * W) := by rw [e]; ac_rfl
  have lo : ∀ N : Int, N * B ≤ A * 2 ^ 20 → D * (N * W) ≤ X := by
    intro N hN
    refine (Int.mul_le_mul_right hB).mp ?_
    rw [eX, show D * (N * W) * B = (N * B) * (D * W) by ac_rfl]
    exact Int.mul_le_mul_of_nonneg_right hN (by omega)
  have hi : ∀ N : Int, A * 2 ^ 20 ≤ N * B → X ≤ D * (N * W) := by
    intro N hN
    refine (Int.mul_le_mul_right hB).mp ?_
    rw [eX, show D * (N * W) * B = (N * B) * (D * W) by ac_rfl]
    exact Int.mul_le_mul_of_nonneg_right hN (by omega)
  generalize hqq : A / B = q at *
  have m1 : (q + 1) * B = q * B + B := by rw [Int.add_mul, Int.one_mul]
  have m2 : ((q + 1) * 2 ^ 20 - 1) * B = (q + 1) * B * 2 ^ 20 - B := by rw [Int.sub_mul, Int.one_mul]; congr 1; ac_rfl
  have m3 : q * 2 ^ 20 * B = q * B * 2 ^ 20 := by ac_rfl
  have a1 : v ≤ ((q + 1) * 2 ^ 20 - 1) * W := nle _ (by omega) (hi _ (by omega))
  have a2 : q * 2 ^ 20 * W ≤ v := nge _ (by omega) (lo _ (by omega))
  have f1 : v / (2 ^ 20 * W) = q := floor_core' hW (by rw [← Int.mul_assoc]; exact a2) a1
  refine ⟨f1, ?_⟩
  congr 1
  by_cases hd : A = q * B
  · have a3 : v ≤ q * 2 ^ 20 * W := nle _ (by omega) (hi _ (by rw [m3, hd]; exact Int.le_refl _))
    have a4 : v = q * (2 ^ 20 * W) := by rw [← Int.mul_assoc]; omega
    rw [a4, hd, ← Int.neg_mul, Int.mul_ediv_cancel _ (by omega), ← Int.neg_mul, Int.mul_ediv_cancel _ (by omega)]
  · have m4 : (q * 2 ^ 20 + 1) * B = q * B * 2 ^ 20 + B := by rw [Int.add_mul, Int.one_mul]; congr 1
    have a3 : (q * 2 ^ 20 + 1) * W ≤ v := nge _ (by omega) (lo _ (by omega))
    have m5 : ((-(q + 1) + 1) * 2 ^ 20 - 1) * W = -((q * 2 ^ 20 + 1) * W) := by rw [← Int.neg_mul]; congr 1; omega
    have m6 : ((q + 1) * 2 ^ 20 - 1) * W = (q + 1) * (2 ^ 20 * W) - W := by rw [Int.sub_mul, Int.one_mul, Int.mul_assoc]
    have m7 : -(q + 1) * (2 ^ 20 * W) = -((q + 1) * (2 ^ 20 * W)) := Int.neg_mul ..
    have f2 : (-v) / (2 ^ 20 * W) = -(q + 1) := floor_core' hW (by omega) (by omega)
    rw [f2]
    symm
    have n1 : -(q + 1) * B = -(q * B + B) := by rw [Int.neg_mul, m1]
    apply Int.le_antisymm
    · apply Int.lt_add_one_iff.mp
      apply Int.ediv_lt_of_lt_mul hB
      have : (-(q + 1) + 1) * B = -(q * B) := by rw [show -(q+1) + 1 = -q by omega, Int.neg_mul]
      omega
    · exact (Int.le_ediv_iff_mul_le hB).mpr (by omega)
theorem br_of {r : UInt64} {X D A B : Int} (h : Near r X D) (hD : 0 < D) (hB : 0 < B) (hB2 : B ≤ 2 ^ 20) (hq : (A / B).natAbs ≤ 2 ^ 32) (e : X * B = A * D * 2 ^ 1074) : Br r A B := by
  refine ⟨h.1, ?_⟩
  rw [pow_split] at *
  exact br_core (Int.pow_pos (by decide)) hD hB hB2 hq e (fun N hN l => near_ge h hD hN (by decide) (by decide) l) (fun N hN l => near_le h hD hN (by decide) (by decide) l)
end Mine
end
section
-- LFlt2
open PySem PySem.W PyProof.Rows
set_option Elab.async false
namespace Mine
open PySem.Float64

theorem sgn_decide (X : Int) : sgn (decide (X < 0)) X.natAbs = X := by
  unfold sgn
  by_cases h : X < 0 <;> simp only [h, decide_true, decide_false, if_true, Bool.false_eq_true, if_false] <;> omega
theorem near_zero (b : Bool) : Near (zero b) 0 1 := by
  have hz : (0 : Nat) < infMag := by decide
  obtain ⟨m, e, hd, hm⟩ := decode_pack b hz
  refine ⟨⟨b, m, e, hd⟩, ?_⟩
  intro N c _ _ _
  have v : val (zero b) = 0 := by
    show val (pack b 0) = 0
    rw [val_pack b hz, V_zero]; cases b <;> rfl
  rw [v]
  omega
theorem big_room : (2 : Nat) ^ 2044 ≤ (2 ^ 54 - 1) * 2 ^ 2045 := by
  have : (2 : Nat) ^ 2045 = 2 * 2 ^ 2044 := by rw [Nat.mul_comm, ← Nat.pow_succ]
  have h0 : 0 < (2 : Nat) ^ 2044 := Nat.two_pow_pos _
  generalize (2 : Nat) ^ 2044 = K at *
  omega
theorem add_near {x y : UInt64} (hx : IsFin x) (hy : IsFin y) (hb : 2 * (val x + val y).natAbs < 2 ^ 2044) : Near (add x y) (val x + val y) 1 := by
  obtain ⟨a, m, e, hx⟩ := hx
  obtain ⟨b, k, f, hy⟩ := hy
  have h := add_right hx hy
  by_cases hz : val x + val y = 0
  · rw [h.1 hz, hz]; exact near_zero _
  · have q := right_near (h.2 hz) (by decide) (by rw [Nat.one_mul]; exact Nat.lt_of_lt_of_le hb big_room)
    rw [sgn_decide] at q
    exact q
theorem fin_neg {y : UInt64} (h : IsFin y) : IsFin (neg y) ∧ val (neg y) = -val y := by
  obtain ⟨b, k, f, hy⟩ := h
  exact ⟨⟨_, _, _, neg_decode hy⟩, neg_val hy⟩
theorem sub_near {x y : UInt64} (hx : IsFin x) (hy : IsFin y) (hb : 2 * (val x - val y).natAbs < 2 ^ 2044) : Near (sub x y) (val x - val y) 1 := by
  have h := add_near hx (fin_neg hy).1 (by rw [(fin_neg hy).2, ← Int.sub_eq_add_neg]; exact hb)
  rw [(fin_neg hy).2, ← Int.sub_eq_add_neg] at h
  unfold Float64.sub
  exact h
theorem ofInt_near (i : Int) (hb : i.natAbs ≤ 2 ^ 900) : Near (ofInt i) (i * 2 ^ 1074) 1 := by
  have q := right_near (ofInt_right i) (by decide) (by
    have h1 : i.natAbs * 2 ^ 1074 ≤ 2 ^ 900 * 2 ^ 1074 := Nat.mul_le_mul_right _ hb
    rw [← Nat.pow_add] at h1
    have h2 : 2 ^ (900 + 1074) * 2 < 2 ^ 2044 := by rw [← Nat.pow_succ]; exact Nat.pow_lt_pow_right (by decide) (by decide)
    rw [Nat.one_mul]
    refine Nat.lt_of_lt_of_le ?_ big_room
    omega)
  rw [sgn_mul, sgn_decide] at q
  simpa using q
theorem sgn_val {x : UInt64} {a : Bool} {m : Nat} {e : Int} (h : decode x = .fin a m e) : sgn a (val x).natAbs = val x := by
  rw [val_natAbs h, val_eq h]
theorem sgn_pos {y : UInt64} {b : Bool} {k : Nat} {f : Int} (h : decode y = .fin b k f) (hp : 0 < val y) : b = false := by
  have := sgn_val h
  unfold sgn at this
  cases b
  · rfl
  · simp only [if_true] at this; omega
theorem mul_near {x y : UInt64} (hx : IsFin x) (hy : IsFin y) (hb : 2 * (val x * val y).natAbs < 2 ^ 1074 * 2 ^ 2044) : Near (mul x y) (val x * val y) (2 ^ 1074) := by
  obtain ⟨a, m, e, hx⟩ := hx
  obtain ⟨b, k, f, hy⟩ := hy
  have h := mul_right hx hy
  have q := right_near h (Nat.two_pow_pos _) (Nat.lt_of_lt_of_le (by rw [← Int.natAbs_mul]; exact hb) (Nat.mul_le_mul_left _ big_room))
  have e1 : sgn (a != b) ((val x).natAbs * (val y).natAbs) = val x * val y := by
    conv => rhs; rw [← sgn_val hx, ← sgn_val hy]
    unfold sgn
    cases a <;> cases b <;> simp [Int.neg_mul, Int.mul_neg]
  rw [e1] at q
  simpa using q
theorem div_near {x y : UInt64} (hx : IsFin x) (hy : IsFin y) (hp : 0 < val y) (hb : 2 * ((val x).natAbs * 2 ^ 1074) < (val y).natAbs * 2 ^ 2044) : Near (div x y) (val x * 2 ^ 1074) (val y) := by
  obtain ⟨a, m, e, hx⟩ := hx
  obtain ⟨b, k, f, hy⟩ := hy
  have hb0 := sgn_pos hy hp
  subst hb0
  have hk : k ≠ 0 := by
    intro h0
    subst h0
    have : val y = 0 := by rw [val_eq hy, Nat.zero_mul]; rfl
    omega
  have q := right_near (div_right hx hy hk) (by omega) (Nat.lt_of_lt_of_le hb (Nat.mul_le_mul_left _ big_room))
  have e1 : sgn (a != false) ((val x).natAbs * 2 ^ 1074) = val x * 2 ^ 1074 := by
    rw [Bool.bne_false, sgn_mul, sgn_val hx]
    push_cast; rfl
  have e2 : ((val y).natAbs : Int) = val y := by omega
  rw [e1, e2] at q
  exact q
theorem ofFrac_near {a : Int} {b : Nat} (hb : 0 < b) (ha : a.natAbs ≤ 2 ^ 900) : Near (ofFrac (decide (a < 0)) a.natAbs b) (a * 2 ^ 1074) b := by
  have h := ofFrac_right (neg := decide (a < 0)) (n := a.natAbs) (d := b) (W := a.natAbs * 2 ^ 1074) (D := b) hb rfl hb
  have q := right_near h hb (by
    have h1 : a.natAbs * 2 ^ 1074 ≤ 2 ^ 900 * 2 ^ 1074 := Nat.mul_le_mul_right _ ha
    rw [← Nat.pow_add] at h1
    have h2 : 2 ^ (900 + 1074) * 2 < 2 ^ 2044 := by rw [← Nat.pow_succ]; exact Nat.pow_lt_pow_right (by decide) (by decide)
    refine Nat.lt_of_lt_of_le (m := 1 * 2 ^ 2044) ?_ (Nat.mul_le_mul hb big_room)
    omega)
  rw [sgn_mul, sgn_decide] at q
  simpa using q

-- floors
theorem floorOf_val {x : UInt64} {s : Bool} {m : Nat} {e : Int} (h : decode x = .fin s m e) : floorOf s m e = val x / 2 ^ 1074 := by
  have hg := decode_ge h
  have hv : val x = sgn s m * ((2 ^ (e + 1074).toNat : Nat) : Int) := by rw [val_eq h, sgn_mul]
  have hpow : ∀ n : Nat, ((2 ^ n : Nat) : Int) = (2 : Int) ^ n := fun n => by simp
  have hpos : ∀ n : Nat, (0 : Int) < (2 : Int) ^ n := fun n => Int.pow_pos (by decide)
  rw [hv, hpow]
  unfold floorOf
  split
  · rename_i he
    have e1 : (e + 1074).toNat = e.toNat + 1074 := by omega
    rw [e1, Int.pow_add, ← Int.mul_assoc, Int.mul_ediv_cancel _ (Int.ne_of_gt (hpos 1074))]
  · have e1 : 1074 = (-e).toNat + (e + 1074).toNat := by omega
    conv => rhs; rhs; rw [e1, Int.pow_add]
    rw [Int.mul_ediv_mul_of_pos_left _ _ (hpos _), Int.fdiv_eq_ediv_of_nonneg _ (Int.le_of_lt (hpos _))]
theorem neg_fin_val {x : UInt64} {s : Bool} {m : Nat} {e : Int} (h : decode x = .fin s m e) : floorOf (!s) m e = (-val x) / 2 ^ 1074 := by
  rw [← neg_val h]; exact floorOf_val (neg_decode h)
theorem toInt_floor {x : UInt64} (h : IsFin x) : PySem.Flt.toInt floorOf x = val x / 2 ^ 1074 := by
  obtain ⟨s, m, e, h⟩ := h
  rw [PySem.Flt.toInt_fin h, floorOf_val h]
theorem toInt_ceil {x : UInt64} (h : IsFin x) : PySem.Flt.toInt ceilOf x = -((-val x) / 2 ^ 1074) := by
  obtain ⟨s, m, e, h⟩ := h
  rw [PySem.Flt.toInt_fin h]
  unfold ceilOf
  rw [neg_fin_val h]

theorem half_pos : (0 : Int) < 2 ^ 1073 := Int.pow_pos (by decide)
theorem split73 : (2 : Int) ^ 1074 = 2 * 2 ^ 1073 := by rw [Int.mul_comm, ← Int.pow_succ]
theorem split72 : (2 : Int) ^ 1074 = 4 * 2 ^ 1072 := by rw [show (4 : Int) = 2 ^ 2 by rfl, ← Int.pow_add]
theorem small_room {N : Int} (h : N.natAbs ≤ 2 ^ 60) : 2 * (N * 2 ^ 1073).natAbs < 2 ^ 2044 := by
  rw [Int.natAbs_mul, Int.natAbs_pow]
  have h1 : N.natAbs * 2 ^ 1073 ≤ 2 ^ 60 * 2 ^ 1073 := Nat.mul_le_mul_right _ h
  rw [← Nat.pow_add] at h1
  have h2 : 2 ^ (60 + 1073) * 2 < 2 ^ 2044 := by rw [← Nat.pow_succ]; exact Nat.pow_lt_pow_right (by decide) (by decide)
  have h3 : Int.natAbs 2 = 2 := rfl
  rw [h3]
  omega
theorem fv_of_near {r : UInt64} {N : Int} (h : Near r (N * 2 ^ 1073) 1) (hN : N.natAbs ≤ 2 ^ 53) : Fv r N :=
  ⟨h.1, near_exact h (by decide) hN (by decide) (by decide) (by rw [Int.one_mul])⟩
theorem fv_ofInt {n : Int} (h : n.natAbs ≤ 2 ^ 52) : Fv (ofInt n) (2 * n) := by
  have q := ofInt_near n (by have : (2:Nat)^52 ≤ 2 ^ 900 := Nat.pow_le_pow_right (by decide) (by decide); omega)
  rw [split73, show n * (2 * 2 ^ 1073) = 2 * n * 2 ^ 1073 by rw [← Int.mul_assoc, Int.mul_comm n 2]] at q
  exact fv_of_near q (by omega)
theorem fv_add {x y : UInt64} {N M : Int} (hx : Fv x N) (hy : Fv y M) (h : (N + M).natAbs ≤ 2 ^ 53) : Fv (add x y) (N + M) := by
  have e : val x + val y = (N + M) * 2 ^ 1073 := by rw [hx.2, hy.2, Int.add_mul]
  have q := add_near hx.1 hy.1 (by rw [e]; exact small_room (by omega))
  rw [e] at q
  exact fv_of_near q h
theorem fv_sub {x y : UInt64} {N M : Int} (hx : Fv x N) (hy : Fv y M) (h : (N - M).natAbs ≤ 2 ^ 53) : Fv (sub x y) (N - M) := by
  have e : val x - val y = (N - M) * 2 ^ 1073 := by rw [hx.2, hy.2, Int.sub_mul]
  have q := sub_near hx.1 hy.1 (by rw [e]; exact small_room (by omega))
  rw [e] at q
  exact fv_of_near q h
theorem prod_room {P : Int} (h : P.natAbs ≤ 2 ^ 60) (c : Nat) (hc : c ≤ 1073) : 2 * (P * 2 ^ c * 2 ^ 1074).natAbs < 2 ^ 1074 * 2 ^ 2044 := by
  rw [Int.natAbs_mul, Int.natAbs_mul, Int.natAbs_pow, Int.natAbs_pow]
  have h3 : Int.natAbs 2 = 2 := rfl
  rw [h3]
  have h1 : P.natAbs * 2 ^ c ≤ 2 ^ 60 * 2 ^ 1073 := Nat.mul_le_mul h (Nat.pow_le_pow_right (by decide) hc)
  rw [← Nat.pow_add] at h1
  have h2 : 2 ^ (60 + 1073) * 2 < 2 ^ 2044 := by rw [← Nat.pow_succ]; exact Nat.pow_lt_pow_right (by decide) (by decide)
  rw [Nat.mul_comm (2 ^ 1074) (2 ^ 2044), ← Nat.mul_assoc]
  refine Nat.mul_lt_mul_of_pos_right ?_ (Nat.two_pow_pos _)
  omega
theorem dy_mul {x : UInt64} {N n : Int} {c : Nat} (hc : 52 ≤ c) (hc2 : c ≤ 1073) (hx : IsFin x ∧ val x = N * 2 ^ c) (hn : n.natAbs ≤ 2 ^ 52) (h : (N * n).natAbs ≤ 2 ^ 53) :
    (IsFin (mul x (ofInt n)) ∧ val (mul x (ofInt n)) = N * n * 2 ^ c) ∧ (IsFin (mul (ofInt n) x) ∧ val (mul (ofInt n) x) = N * n * 2 ^ c) := by
  have hy := fv_ofInt hn
  have vy : val (ofInt n) = n * 2 ^ 1074 := by rw [hy.2, split73, ← Int.mul_assoc, Int.mul_comm n 2]
  have e : val x * val (ofInt n) = N * n * 2 ^ c * 2 ^ 1074 := by rw [hx.2, vy, Int.mul_right_comm N n, Int.mul_assoc (N * 2 ^ c)]
  have e' : val (ofInt n) * val x = N * n * 2 ^ c * 2 ^ 1074 := by rw [Int.mul_comm, e]
  have r := prod_room (P := N * n) (by omega) c hc2
  have q := mul_near hx.1 hy.1 (by rw [e]; exact r)
  have q' := mul_near hy.1 hx.1 (by rw [e']; exact r)
  rw [e] at q
  rw [e'] at q'
  have hp : (0 : Int) < 2 ^ 1074 := Int.pow_pos (by decide)
  exact ⟨⟨q.1, near_exact q hp h hc (by omega) (Int.mul_comm _ _)⟩, ⟨q'.1, near_exact q' hp h hc (by omega) (Int.mul_comm _ _)⟩⟩
theorem fv_mul {x : UInt64} {N n : Int} (hx : Fv x N) (hn : n.natAbs ≤ 2 ^ 52) (h : (N * n).natAbs ≤ 2 ^ 53) : Fv (mul x (ofInt n)) (N * n) := (dy_mul (by decide) (by decide) hx hn h).1
theorem fv_mul' {x : UInt64} {N n : Int} (hx : Fv x N) (hn : n.natAbs ≤ 2 ^ 52) (h : (N * n).natAbs ≤ 2 ^ 53) : Fv (mul (ofInt n) x) (N * n) := (dy_mul (by decide) (by decide) hx hn h).2
theorem fq_mul {x : UInt64} {N n : Int} (hx : Fq x N) (hn : n.natAbs ≤ 2 ^ 52) (h : (N * n).natAbs ≤ 2 ^ 53) : Fq (mul x (ofInt n)) (N * n) := (dy_mul (by decide) (by decide) hx hn h).1
theorem br_fv {x : UInt64} {N : Int} (h : Fv x N) : Br x N 2 := by
  refine ⟨h.1, ?_⟩
  rw [h.2, split73, ← Int.neg_mul, Int.mul_ediv_mul_of_pos_left _ _ half_pos, Int.mul_ediv_mul_of_pos_left _ _ half_pos]
  exact ⟨rfl, rfl⟩
theorem br_fq {x : UInt64} {N : Int} (h : Fq x N) : Br x N 4 := by
  refine ⟨h.1, ?_⟩
  have hp : (0 : Int) < 2 ^ 1072 := Int.pow_pos (by decide)
  rw [h.2, split72, ← Int.neg_mul, Int.mul_ediv_mul_of_pos_left _ _ hp, Int.mul_ediv_mul_of_pos_left _ _ hp]
  exact ⟨rfl, rfl⟩
theorem br_div {x y : UInt64} {A B : Int} (hx : Fv x A) (hy : Fv y B) (hA : A.natAbs ≤ 2 ^ 60) (hB : 0 < B) (hB2 : B ≤ 2 ^ 20) (hq : (A / B).natAbs ≤ 2 ^ 32) : Br (div x y) A B := by
  have hp : 0 < val y := by rw [hy.2]; exact Int.mul_pos hB half_pos
  have q := div_near hx.1 hy.1 hp (by
    rw [hx.2, hy.2, Int.natAbs_mul, Int.natAbs_mul, Int.natAbs_pow]
    have h3 : Int.natAbs 2 = 2 := rfl
    rw [h3]
    have h1 : A.natAbs * 2 ^ 1073 * 2 ^ 1074 ≤ 2 ^ 60 * 2 ^ 1073 * 2 ^ 1074 := Nat.mul_le_mul_right _ (Nat.mul_le_mul_right _ hA)
    have h2 : 1 * 2 ^ 1073 * 2 ^ 2044 ≤ B.natAbs * 2 ^ 1073 * 2 ^ 2044 := Nat.mul_le_mul_right _ (Nat.mul_le_mul_right _ (by omega))
    rw [Nat.one_mul, ← Nat.pow_add] at h2
    rw [← Nat.pow_add, ← Nat.pow_add] at h1
    have h4 : 2 ^ (60 + 1073 + 1074) * 2 < 2 ^ (1073 + 2044) := by rw [← Nat.pow_succ]; exact Nat.pow_lt_pow_right (by decide) (by decide)
    omega)
  refine br_of q hp hB hB2 hq ?_
  rw [hx.2, hy.2]
  generalize (2 : Int) ^ 1073 = H
  generalize (2 : Int) ^ 1074 = U
  ac_rfl
theorem br_ii {a b : Int} (ha : a.natAbs ≤ 2 ^ 60) (hb : 0 < b) (hb2 : b ≤ 2 ^ 20) (hq : (a / b).natAbs ≤ 2 ^ 32) : Br (ofFrac (decide (a < 0) != decide (b < 0)) a.natAbs b.natAbs) a b := by
  have e : (decide (a < 0) != decide (b < 0)) = decide (a < 0) := by
    rw [show decide (b < 0) = false by simp; omega, Bool.bne_false]
  rw [e]
  have q := ofFrac_near (a := a) (b := b.natAbs) (by omega) (by have : (2:Nat)^60 ≤ 2 ^ 900 := Nat.pow_le_pow_right (by decide) (by decide); omega)
  have e2 : ((b.natAbs : Nat) : Int) = b := by omega
  rw [e2] at q
  refine br_of q hb hb hb2 hq ?_
  generalize (2 : Int) ^ 1074 = U
  ac_rfl
end Mine
end
section
-- LFlt3
open PySem PySem.W PyProof.Rows
set_option Elab.async false
namespace Mine
open PySem.Float64

theorem compare_scale (p q K : Int) (hK : 0 < K) : compare (p * K) (q * K) = compare p q := by
  rcases Int.lt_trichotomy p q with h | h | h
  · rw [Int.compare_eq_lt.mpr h, Int.compare_eq_lt.mpr (Int.mul_lt_mul_of_pos_right h hK)]
  · subst h; simp
  · rw [Int.compare_eq_gt.mpr h, Int.compare_eq_gt.mpr (Int.mul_lt_mul_of_pos_right h hK)]
theorem cmp_fv {x y : UInt64} {N M : Int} (hx : Fv x N) (hy : Fv y M) : cmp x y = some (compare N M) := by
  obtain ⟨⟨a, m, e, h1⟩, v1⟩ := hx
  obtain ⟨⟨b, k, f, h2⟩, v2⟩ := hy
  rw [cmp_right h1 h2, v1, v2, compare_scale _ _ _ half_pos]
theorem cmpInt_fv {x : UInt64} {N : Int} (hx : Fv x N) (i : Int) : cmpInt x i = some (compare N (2 * i)) := by
  obtain ⟨⟨a, m, e, h1⟩, v1⟩ := hx
  rw [cmpInt_right h1, v1, split73, show i * (2 * 2 ^ 1073) = 2 * i * 2 ^ 1073 by rw [← Int.mul_assoc, Int.mul_comm i 2], compare_scale _ _ _ half_pos]
theorem cmp_lt_dec (N M : Int) : (some (compare N M) == some Ordering.lt) = decide (N < M) := by
  rcases Int.lt_trichotomy N M with h | h | h
  · rw [Int.compare_eq_lt.mpr h]; simp [h]
  · subst h; simp
  · rw [Int.compare_eq_gt.mpr h]; simp; omega
theorem cmp_gt_dec (N M : Int) : (some (compare N M) == some Ordering.gt) = decide (M < N) := by
  rcases Int.lt_trichotomy N M with h | h | h
  · rw [Int.compare_eq_lt.mpr h]; simp; omega
  · subst h; simp
  · rw [Int.compare_eq_gt.mpr h]; simp [h]
theorem cmp_eq_dec (N M : Int) : (some (compare N M) == some Ordering.eq) = decide (N = M) := by
  rcases Int.lt_trichotomy N M with h | h | h
  · rw [Int.compare_eq_lt.mpr h]; simp; omega
  · subst h; simp
  · rw [Int.compare_eq_gt.mpr h]; simp; omega
theorem cmp_le_dec (N M : Int) : (some (compare N M) == some Ordering.lt || some (compare N M) == some Ordering.eq) = decide (N ≤ M) := by
  rw [cmp_lt_dec, cmp_eq_dec, ← Bool.decide_or]; apply decide_eq_decide.mpr; omega
theorem cmp_ge_dec (N M : Int) : (some (compare N M) == some Ordering.gt || some (compare N M) == some Ordering.eq) = decide (M ≤ N) := by
  rw [cmp_gt_dec, cmp_eq_dec, ← Bool.decide_or]; apply decide_eq_decide.mpr; omega

theorem zero_val (b : Bool) : IsFin (pack b 0) ∧ val (pack b 0) = 0 := by
  have hz : (0 : Nat) < infMag := by decide
  obtain ⟨m, e, hd, hm⟩ := decode_pack b hz
  exact ⟨⟨b, m, e, hd⟩, by rw [val_pack b hz, V_zero]; cases b <;> rfl⟩
theorem fv_zero (b : Bool) : Fv (zero b) 0 := ⟨(zero_val b).1, by rw [Int.zero_mul]; exact (zero_val b).2⟩

theorem natAbs_half (N : Int) : (N * 2 ^ 1073).natAbs = N.natAbs * 2 ^ 1073 := by
  rw [Int.natAbs_mul, Int.natAbs_pow]; rfl
theorem fmod_fv {x y : UInt64} {N M : Int} (hx : Fv x N) (hy : Fv y M) (hM : 0 < M) (hM2 : M ≤ 2 ^ 53) : Fv (fmod x y) (N.tmod M) := by
  obtain ⟨⟨a, m, e, h1⟩, v1⟩ := hx
  obtain ⟨⟨b, k, f, h2⟩, v2⟩ := hy
  have he := decode_ge h1
  have hf := decode_ge h2
  have hk : k ≠ 0 := by
    intro h0
    subst h0
    have z : val y = 0 := by rw [val_eq h2, Nat.zero_mul]; cases b <;> rfl
    rw [v2] at z
    have := Int.mul_pos hM half_pos
    omega
  have hmod : fmod x y = ofBin a (m * 2 ^ (e - min e f).toNat % (k * 2 ^ (f - min e f).toNat)) (min e f) := by
    unfold fmod
    rw [h1, h2]
    simp only [align, sgn]
    rw [if_neg (by simpa using hk)]
    simp only [Bool.false_eq_true, if_false, Int.toNat_natCast]
  have hg : -1074 ≤ min e f := by omega
  have r := ofBin_right (neg := a) (M := m * 2 ^ (e - min e f).toNat % (k * 2 ^ (f - min e f).toNat)) hg
  rw [← hmod] at r
  have w1 : m * 2 ^ (e - min e f).toNat * 2 ^ (min e f + 1074).toNat = N.natAbs * 2 ^ 1073 := by
    rw [← natAbs_half, ← v1, val_natAbs h1, Nat.mul_assoc, ← Nat.pow_add]
    congr 2
    omega
  have w2 : k * 2 ^ (f - min e f).toNat * 2 ^ (min e f + 1074).toNat = M.natAbs * 2 ^ 1073 := by
    rw [← natAbs_half, ← v2, val_natAbs h2, Nat.mul_assoc, ← Nat.pow_add]
    congr 2
    omega
  rw [← Nat.mul_mod_mul_right, w1, w2, Nat.mul_mod_mul_right] at r
  have lt : N.natAbs % M.natAbs < M.natAbs := Nat.mod_lt _ (by omega)
  have q := right_near r (by decide) (by
    rw [Nat.one_mul]
    have h3 := small_room (N := ((N.natAbs % M.natAbs : Nat) : Int)) (by omega)
    rw [natAbs_half, Int.natAbs_natCast] at h3
    exact Nat.lt_of_lt_of_le h3 big_room)
  rw [sgn_mul] at q
  have e3 : sgn a (N.natAbs % M.natAbs) = N.tmod M := by
    have ha : sgn a (val x).natAbs = val x := sgn_val h1
    rw [v1, natAbs_half, sgn_mul] at ha
    have ha2 : sgn a N.natAbs = N := by
      have hp := half_pos
      have e9 : ((2 ^ 1073 : Nat) : Int) = 2 ^ 1073 := by rw [Int.natCast_pow]; rfl
      rw [e9] at ha
      exact Int.eq_of_mul_eq_mul_right (by omega) ha
    have e5 : N.tmod M = (sgn a N.natAbs).tmod (M.natAbs : Int) := by rw [ha2]; congr 1; omega
    rw [e5]
    unfold sgn
    cases a
    · simp only [Bool.false_eq_true, if_false]
      rw [← Int.ofNat_tmod]
    · simp only [if_true]
      rw [Int.neg_tmod, ← Int.ofNat_tmod]
  have e4 : ((2 ^ 1073 : Nat) : Int) = 2 ^ 1073 := by rw [Int.natCast_pow]; rfl
  rw [e3, e4] at q
  refine fv_of_near q ?_
  rw [Int.natAbs_tmod]
  omega
theorem fv_mod {x y : UInt64} {N M : Int} (hx : Fv x N) (hy : Fv y M) (hM : 0 < M) (hM2 : M ≤ 2 ^ 53) : Fv (divmod x y).2 (N % M) := by
  have hf := fmod_fv hx hy hM hM2
  have z1 : isZero (fmod x y) = decide (N.tmod M = 0) := by
    rw [PySem.Flt.isZero_eq, cmpInt_fv hf, cmp_eq_dec]; rfl
  have l1 : lt y (zero false) = false := by
    unfold lt; rw [cmp_fv hy (fv_zero _), cmp_lt_dec]; simp; omega
  have l2 : lt (fmod x y) (zero false) = decide (N.tmod M < 0) := by
    unfold lt; rw [cmp_fv hf (fv_zero _), cmp_lt_dec]
  have hem := Int.emod_nonneg N (show M ≠ 0 by omega)
  have hem2 := Int.emod_lt_of_pos N hM
  have tb : (N.tmod M).natAbs < M.natAbs := by rw [Int.natAbs_tmod]; exact Nat.mod_lt _ (by omega)
  have tr : N % M = N.tmod M ∨ N % M = N.tmod M + M := by
    have := @Int.emod_eq_tmod N M
    by_cases h : 0 ≤ N ∨ M ∣ N
    · rw [if_pos h] at this; omega
    · rw [if_neg h] at this; omega
  unfold divmod
  simp only
  by_cases h0 : N.tmod M = 0
  · rw [z1, if_pos (by simpa using h0)]
    have e : N % M = 0 := by omega
    rw [e]
    unfold copysign
    rw [if_neg (by decide +kernel)]
    have : (zero false).toNat % 2 ^ 63 = 0 := by decide
    rw [this]
    exact ⟨(zero_val _).1, by rw [(zero_val _).2, Int.zero_mul]⟩
  · rw [z1, if_neg (by simpa using h0), l1, l2]
    by_cases hn : N.tmod M < 0
    · rw [if_pos (by simpa using hn)]
      have e : N % M = N.tmod M + M := by omega
      rw [e]
      exact fv_add hf hy (by omega)
    · rw [if_neg (by simpa using hn)]
      have e : N % M = N.tmod M := by omega
      rw [e]
      exact hf

-- written floats
theorem fin_of_decode {x : UInt64} {s : Bool} {m : Nat} {e : Int} (h : decode x = .fin s m e) : IsFin x := ⟨_, _, _, h⟩
theorem fv_lit {x : UInt64} {s : Bool} {m : Nat} {e N : Int} (h : decode x = .fin s m e) (v : sgn s (m * 2 ^ (e + 1074).toNat) = N * 2 ^ 1073) : Fv x N := ⟨⟨_, _, _, h⟩, (val_eq h).trans v⟩
theorem fq_lit {x : UInt64} {s : Bool} {m : Nat} {e N : Int} (h : decode x = .fin s m e) (v : sgn s (m * 2 ^ (e + 1074).toNat) = N * 2 ^ 1072) : Fq x N := ⟨⟨_, _, _, h⟩, (val_eq h).trans v⟩
end Mine
end
section
-- LFlt4
open PySem PySem.W PyProof.Rows
set_option Elab.async false
namespace Mine
open PySem.Float64

theorem fv_05 : Fv 0x3fe0000000000000 1 := fv_lit (s := false) (m := 4503599627370496) (e := -53) (by with_unfolding_all rfl) (by decide +kernel)
theorem fv_295 : Fv 0x403d800000000000 59 := fv_lit (s := false) (m := 8303511812964352) (e := -48) (by with_unfolding_all rfl) (by decide +kernel)
theorem fv_15245 : Fv 0x4097d20000000000 3049 := fv_lit (s := false) (m := 6704821906178048) (e := -42) (by with_unfolding_all rfl) (by decide +kernel)
theorem fv_eislamic : Fv 0x413dbb1780000000 3896879 := fv_lit (s := false) (m := 8368483930734592) (e := -32) (by with_unfolding_all rfl) (by decide +kernel)
theorem fv_ecoptic : Fv 0x413bd90580000000 3650059 := fv_lit (s := false) (m := 7838442016735232) (e := -32) (by with_unfolding_all rfl) (by decide +kernel)
theorem fv_egregorian : Fv 0x413a445180000000 3442851 := fv_lit (s := false) (m := 7393466225000448) (e := -32) (by with_unfolding_all rfl) (by decide +kernel)
theorem fq_36525 : Fq 0x4076d40000000000 1461 := fq_lit (s := false) (m := 6425545952722944) (e := -44) (by with_unfolding_all rfl) (by decide +kernel)
theorem dy_1221 : IsFin 0x405e866666666666 ∧ val 0x405e866666666666 = 4296011832046387 * 2 ^ 1029 :=
  have h : decode 0x405e866666666666 = .fin false 8592023664092774 (-46) := by with_unfolding_all rfl
  ⟨⟨_, _, _, h⟩, (val_eq h).trans (by decide +kernel)⟩

/-- x's floor is q, and x lies 2^-20 below q + 1 at least -/
def Gd (x : UInt64) (q : Int) : Prop := IsFin x ∧ q * 2 ^ 20 * 2 ^ 1054 ≤ val x ∧ val x ≤ ((q + 1) * 2 ^ 20 - 1) * 2 ^ 1054
theorem fl_gd {x : UInt64} {q : Int} (h : Gd x q) : Fl x q := by
  refine ⟨h.1, ?_⟩
  rw [pow_split]
  exact floor_core' (Int.pow_pos (by decide)) (by rw [← Int.mul_assoc]; exact h.2.1) h.2.2
theorem fl_br {x : UInt64} {A B : Int} (h : Br x A B) : Fl x (A / B) := ⟨h.1, h.2.1⟩
theorem fl_fv {x : UInt64} {N : Int} (h : Fv x N) : Fl x (N / 2) := fl_br (br_fv h)
theorem toInt_fl {x : UInt64} {f : Int} (h : Fl x f) : PySem.Flt.toInt floorOf x = f := by rw [toInt_floor h.1, h.2]
theorem fl_toInt {x : UInt64} {f : Int} (h : isFinite x = true) (e : PySem.Flt.toInt floorOf x = f) : Fl x f := by
  have hf : IsFin x := by
    unfold isFinite at h
    cases hd : decode x with
    | nan => rw [hd] at h; cases h
    | inf _ => rw [hd] at h; cases h
    | fin s m e => exact ⟨_, _, _, hd⟩
  exact ⟨hf, (toInt_floor hf).symm.trans e⟩

theorem gd_div {x : UInt64} {X D A B : Int} (h : Near x X D) (hD : 0 < D) (hB : 0 < B) (hB2 : B ≤ 2 ^ 20) (hq : (A / B).natAbs ≤ 2 ^ 32) (e : X * B = A * D * 2 ^ 1074) : Gd x (A / B) := by
  have hW : (0 : Int) < 2 ^ 1054 := Int.pow_pos (by decide)
  have nge := fun (N : Int) (hN : N.natAbs ≤ 2 ^ 53) l => near_ge h hD hN (c := 1054) (by decide) (by decide) l
  have nle := fun (N : Int) (hN : N.natAbs ≤ 2 ^ 53) l => near_le h hD hN (c := 1054) (by decide) (by decide) l
  rw [pow_split] at e
  refine ⟨h.1, ?_⟩
  generalize (2 : Int) ^ 1054 = W at *
  generalize val x = v at *
  have q1 : A / B * B ≤ A := Int.ediv_mul_le _ (by omega)
  have q2 : A < (A / B + 1) * B := Int.lt_ediv_add_one_mul_self _ hB
  have hDW : 0 < D * W := Int.mul_pos hD hW
  have eX : X * B = (A * 2 ^ 20) * (D * W) := by rw [e]; ac_rfl
  have lo : ∀ N : Int, N * B ≤ A * 2 ^ 20 → D * (N * W) ≤ X := by
    intro N hN
    refine (Int.mul_le_mul_right hB).mp ?_
    rw [eX, show D * (N * W) * B = (N * B) * (D * W) by ac_rfl]
    exact Int.mul_le_mul_of_nonneg_right hN (by omega)
  have hi : ∀ N : Int, A * 2 ^ 20 ≤ N * B → X ≤ D * (N * W) := by
    intro N hN
    refine (Int.mul_le_mul_right hB).mp ?_
    rw [eX, show D * (N * W) * B = (N * B) * (D * W) by ac_rfl]
    exact Int.mul_le_mul_of_nonneg_right hN (by omega)
  generalize hqq : A / B = q at *
  have m1 : (q + 1) * B = q * B + B := by rw [Int.add_mul, Int.one_mul]
  have m2 : ((q + 1) * 2 ^ 20 - 1) * B = (q + 1) * B * 2 ^ 20 - B := by rw [Int.sub_mul, Int.one_mul]; congr 1; ac_rfl
  have m3 : q * 2 ^ 20 * B = q * B * 2 ^ 20 := by ac_rfl
  exact ⟨nge _ (by omega) (lo _ (by omega)), nle _ (by omega) (hi _ (by omega))⟩
theorem gd_ii {a b : Int} (ha : a.natAbs ≤ 2 ^ 60) (hb : 0 < b) (hb2 : b ≤ 2 ^ 20) (hq : (a / b).natAbs ≤ 2 ^ 32) : Gd (ofFrac (decide (a < 0) != decide (b < 0)) a.natAbs b.natAbs) (a / b) := by
  have e : (decide (a < 0) != decide (b < 0)) = decide (a < 0) := by
    rw [show decide (b < 0) = false by simp; omega, Bool.bne_false]
  rw [e]
  have q := ofFrac_near (a := a) (b := b.natAbs) (by omega) (by have : (2:Nat)^60 ≤ 2 ^ 900 := Nat.pow_le_pow_right (by decide) (by decide); omega)
  have e2 : ((b.natAbs : Nat) : Int) = b := by omega
  rw [e2] at q
  refine gd_div q hb hb hb2 hq ?_
  generalize (2 : Int) ^ 1074 = U
  ac_rfl
theorem gd_add {x : UInt64} {q n : Int} (h : Gd x q) (hn : n.natAbs ≤ 2 ^ 31) (hq : q.natAbs ≤ 2 ^ 31) : Gd (add x (ofInt n)) (q + n) := by
  have hy := fv_ofInt (n := n) (by omega)
  have vy : val (ofInt n) = n * 2 ^ 20 * 2 ^ 1054 := by rw [hy.2, Int.mul_comm 2 n, Int.mul_assoc, ← split73, pow_split, Int.mul_assoc]
  have hW : (0 : Int) < 2 ^ 1054 := Int.pow_pos (by decide)
  have hb : 2 * (val x + val (ofInt n)).natAbs < 2 ^ 2044 := by
    have h3 := small_room (N := 2 ^ 40) (by decide)
    have e1 : (2 : Int) ^ 40 * 2 ^ 1073 = 2 ^ 40 * 2 ^ 19 * 2 ^ 1054 := by rw [Int.mul_assoc, ← Int.pow_add 2 19]
    rw [e1] at h3
    have h1 := h.2.1
    have h2 := h.2.2
    rw [vy]
    generalize (2 : Int) ^ 1054 = W at *
    generalize val x = v at *
    have k1 : -(2 ^ 40 * 2 ^ 19) * W ≤ (q * 2 ^ 20 + n * 2 ^ 20) * W := Int.mul_le_mul_of_nonneg_right (by omega) (by omega)
    have k2 : ((q + 1) * 2 ^ 20 - 1 + n * 2 ^ 20) * W ≤ (2 ^ 40 * 2 ^ 19) * W := Int.mul_le_mul_of_nonneg_right (by omega) (by omega)
    rw [Int.neg_mul] at k1
    rw [Int.add_mul] at k1 k2
    have k3 : (v + n * 2 ^ 20 * W).natAbs ≤ (2 ^ 40 * 2 ^ 19 * W).natAbs := by omega
    exact Nat.lt_of_le_of_lt (Nat.mul_le_mul_left 2 k3) h3
  have near := add_near h.1 hy.1 hb
  refine ⟨near.1, ?_, ?_⟩
  · apply near_ge near (by decide) (by omega) (by decide) (by decide)
    rw [Int.one_mul, vy, show (q + n) * 2 ^ 20 = q * 2 ^ 20 + n * 2 ^ 20 from Int.add_mul .., Int.add_mul]
    exact Int.add_le_add_right h.2.1 _
  · apply near_le near (by decide) (by omega) (by decide) (by decide)
    rw [Int.one_mul, vy, show (q + n + 1) * 2 ^ 20 - 1 = ((q + 1) * 2 ^ 20 - 1) + n * 2 ^ 20 by omega, Int.add_mul]
    exact Int.add_le_add_right h.2.2 _

/-- x lies by b - 122.1 -/
def Jb (x : UInt64) (b : Int) : Prop := IsFin x ∧ (8 * b - 977) * 2 ^ 1074 ≤ 8 * val x ∧ 100 * val x ≤ (100 * b - 12207) * 2 ^ 1074
theorem jb_sub {b : Int} (h : b.natAbs ≤ 2 ^ 40) : Jb (sub (ofInt b) 0x405e866666666666) b := by
  have hy := fv_ofInt (n := b) (by omega)
  have eU : (2 : Int) ^ 1074 = 2 ^ 45 * 2 ^ 1029 := by rw [← Int.pow_add]
  have eN : (2 : Int) ^ 1071 = 2 ^ 42 * 2 ^ 1029 := by rw [← Int.pow_add]
  have vy : val (ofInt b) = b * 2 ^ 45 * 2 ^ 1029 := by rw [hy.2, Int.mul_comm 2 b, Int.mul_assoc, ← split73, eU, Int.mul_assoc]
  have hG : (0 : Int) < 2 ^ 1029 := Int.pow_pos (by decide)
  have e : val (ofInt b) - val 0x405e866666666666 = (b * 2 ^ 45 - 4296011832046387) * 2 ^ 1029 := by rw [vy, dy_1221.2, ← Int.sub_mul]
  have near := sub_near hy.1 dy_1221.1 (by
    have h3 := small_room (N := 2 ^ 42) (by decide)
    have e1 : (2 : Int) ^ 42 * 2 ^ 1073 = 2 ^ 42 * 2 ^ 44 * 2 ^ 1029 := by rw [Int.mul_assoc, ← Int.pow_add 2 44]
    rw [e1] at h3
    rw [e]
    refine Nat.lt_of_le_of_lt (Nat.mul_le_mul_left 2 ?_) h3
    rw [Int.natAbs_mul, Int.natAbs_mul (2 ^ 42 * 2 ^ 44)]
    exact Nat.mul_le_mul_right _ (by omega))
  have n := near.2 (8 * b - 977) 1071 (by omega) (by decide) (by decide)
  refine ⟨near.1, ?_⟩
  rw [e, Int.one_mul, Int.one_mul, eN, ← Int.mul_assoc, ← Int.sub_mul, show b * 2 ^ 45 - 4296011832046387 - (8 * b - 977) * 2 ^ 42 = 879609302221 by omega] at n
  rw [eU]
  generalize (2 : Int) ^ 1029 = G at *
  generalize val _ = v at *
  have k1 : (b * 2 ^ 45 - 4296011832046387) * G = b * 2 ^ 45 * G - 4296011832046387 * G := Int.sub_mul ..
  have k2 : (8 * b - 977) * (2 ^ 45 * G) = 8 * (b * 2 ^ 45 * G) - 977 * (2 ^ 45 * G) := by rw [Int.sub_mul]; congr 1; ac_rfl
  have k3 : (100 * b - 12207) * (2 ^ 45 * G) = 100 * (b * 2 ^ 45 * G) - 12207 * (2 ^ 45 * G) := by rw [Int.sub_mul]; congr 1; ac_rfl
  rw [k1] at n
  rw [k2, k3]
  generalize b * 2 ^ 45 * G = bG at *
  omega
theorem fl_julian {x : UInt64} {b : Int} (h : Jb x b) (hb : b.natAbs ≤ 2 ^ 40) : Fl (div x 0x4076d40000000000) ((4 * b - 489) / 1461) := by
  have hQ : (0 : Int) < 2 ^ 1072 := Int.pow_pos (by decide)
  have hW : (0 : Int) < 2 ^ 1054 := Int.pow_pos (by decide)
  have vy : val 0x4076d40000000000 = 1461 * 2 ^ 1072 := fq_36525.2
  obtain ⟨hf, h1, h2⟩ := h
  have hp : 0 < val 0x4076d40000000000 := by rw [vy]; omega
  have near := div_near hf fq_36525.1 hp (by
    rw [vy]
    rw [split72] at h1 h2
    have e0 : (1461 * (2 : Int) ^ 1072).natAbs = 1461 * 2 ^ 1072 := by rw [Int.natAbs_mul, Int.natAbs_pow, show Int.natAbs 1461 = 1461 from rfl, show Int.natAbs 2 = 2 from rfl]
    rw [e0]
    have k0 : (val x).natAbs ≤ 2 ^ 45 * 2 ^ 1072 := by
      have e3 : ((2 ^ 1072 : Nat) : Int) = 2 ^ 1072 := by rw [Int.natCast_pow]; rfl
      have k1 : (8 * b - 977) * (4 * 2 ^ 1072) ≥ -(2 ^ 44) * (4 * 2 ^ 1072) := Int.mul_le_mul_of_nonneg_right (by omega) (by omega)
      have k2 : (100 * b - 12207) * (4 * 2 ^ 1072) ≤ (100 * 2 ^ 41) * (4 * 2 ^ 1072) := Int.mul_le_mul_of_nonneg_right (by omega) (by omega)
      rw [← e3] at *
      omega
    have k3 : (val x).natAbs * 2 ^ 1074 ≤ 2 ^ 45 * 2 ^ 1072 * 2 ^ 1074 := Nat.mul_le_mul_right _ k0
    have k4 : 2 ^ 45 * 2 ^ 1072 * 2 ^ 1074 * 2 ≤ 2 ^ 1072 * 2 ^ 2044 := by
      rw [← Nat.pow_add, ← Nat.pow_add, ← Nat.pow_add, ← Nat.pow_succ]; exact Nat.pow_le_pow_right (by decide) (by decide)
    have k5 : 2 ^ 1072 * 2 ^ 2044 < 1461 * 2 ^ 1072 * 2 ^ 2044 := by
      have k6 : ∀ P R : Nat, 0 < P → 0 < R → P * R < 1461 * P * R := by
        intro P R hP hR
        have := Nat.mul_pos hP hR
        rw [Nat.mul_assoc]; omega
      exact k6 _ _ (Nat.two_pow_pos _) (Nat.two_pow_pos _)
    omega)
  have eW : (2 : Int) ^ 1072 = 2 ^ 18 * 2 ^ 1054 := by rw [← Int.pow_add]
  have q1 : (4 * b - 489) / 1461 * 1461 ≤ 4 * b - 489 := Int.ediv_mul_le _ (by omega)
  have q2 : 4 * b - 489 < ((4 * b - 489) / 1461 + 1) * 1461 := Int.lt_ediv_add_one_mul_self _ (by omega)
  rw [vy, pow_split] at near
  rw [split72] at h1 h2
  have hU : (0 : Int) < 2 ^ 20 * 2 ^ 1054 := by omega
  have hD : (0 : Int) < 1461 * 2 ^ 1072 := by omega
  apply fl_gd
  generalize hqq : (4 * b - 489) / 1461 = f at *
  refine ⟨near.1, ?_, ?_⟩
  · apply near_ge near hD (by omega) (by decide) (by decide)
    rw [Int.mul_assoc f, ← Int.mul_assoc]
    refine Int.mul_le_mul_of_nonneg_right ?_ (by omega)
    have k1 : (8 * b - 977) * (4 * 2 ^ 1072) = 4 * ((8 * b - 977) * 2 ^ 1072) := Int.mul_left_comm _ _ _
    have k2 : (2 * (1461 * f)) * 2 ^ 1072 ≤ (8 * b - 977) * 2 ^ 1072 := Int.mul_le_mul_of_nonneg_right (by omega) (by omega)
    have k3 : (2 * (1461 * f)) * 2 ^ 1072 = 2 * (1461 * 2 ^ 1072 * f) := by generalize (2 : Int) ^ 1072 = Q; ac_rfl
    omega
  · apply near_le near hD (by omega) (by decide) (by decide)
    rw [← Int.mul_assoc, ← Int.mul_assoc (1461 * 2 ^ 1072)]
    refine Int.mul_le_mul_of_nonneg_right ?_ (by omega)
    have k1 : (100 * b - 12207) * (4 * 2 ^ 1072) = 4 * ((100 * b - 12207) * 2 ^ 1072) := Int.mul_left_comm _ _ _
    have k2 : (100 * b - 12207) * 2 ^ 1072 * 2 ^ 20 ≤ 25 * (1461 * ((f + 1) * 2 ^ 20 - 1)) * 2 ^ 1072 := by
      rw [Int.mul_right_comm]
      exact Int.mul_le_mul_of_nonneg_right (by omega) (by omega)
    have k3 : 25 * (1461 * ((f + 1) * 2 ^ 20 - 1)) * 2 ^ 1072 = 25 * (1461 * 2 ^ 1072 * ((f + 1) * 2 ^ 20 - 1)) := by generalize (2 : Int) ^ 1072 = Q; generalize (f + 1) * 2 ^ 20 - 1 = R; ac_rfl
    omega

theorem quot_table : ∀ n : Nat, n < 501 → (isFinite (div (ofInt (n : Int)) 0x403e99a027525461) && PySem.Flt.toInt floorOf (div (ofInt (n : Int)) 0x403e99a027525461) == 10000 * (n : Int) / 306001) = true := by decide +kernel
theorem fl_quot {n : Int} (h : 0 ≤ n) (h2 : n ≤ 500) : Fl (div (ofInt n) 0x403e99a027525461) (10000 * n / 306001) := by
  have q := quot_table n.toNat (by omega)
  rw [show ((n.toNat : Nat) : Int) = n by omega, Bool.and_eq_true] at q
  exact fl_toInt q.1 (by simpa using q.2)
theorem prod_table : ∀ n : Nat, n < 21 → (isFinite (mul 0x403e99a027525461 (ofInt (n : Int))) && PySem.Flt.toInt floorOf (mul 0x403e99a027525461 (ofInt (n : Int))) == 306001 * (n : Int) / 10000) = true := by decide +kernel
theorem fl_prod {n : Int} (h : 0 ≤ n) (h2 : n ≤ 20) : Fl (mul 0x403e99a027525461 (ofInt n)) (306001 * n / 10000) := by
  have q := prod_table n.toNat (by omega)
  rw [show ((n.toNat : Nat) : Int) = n by omega, Bool.and_eq_true] at q
  exact fl_toInt q.1 (by simpa using q.2)
end Mine
end
section
-- LPure
set_option Elab.async false
namespace Mine
/-- islamic.to_jd, in halves -/
def JI (y m d : Int) : Int := 2 * (d + -((-(59 * (m - 1))) / 2) + (y - 1) * 354 + (3 + 11 * y) / 30) + 3896879 - 2
/-- coptic.to_jd, in halves -/
def JC (y m d : Int) : Int := 2 * (d + (m - 1) * 30 + (y - 1) * 365 + y / 4) + 3650059 - 2
def lp (y : Int) : Int := if y % 4 = 0 ∧ (y % 100 ≠ 0 ∨ y % 400 = 0) then 1 else 0
/-- gregorian.to_jd, in halves -/
def JG (y m d : Int) : Int := 3442851 - 2 + 2 * (365 * (y - 1) + (y - 1) / 4 - (y - 1) / 100 + (y - 1) / 400 + (367 * m - 362) / 12 + (if m ≤ 2 then 0 else lp y - 2) + d)
/-- days ahead of a gregorian year -/
def G1 (y : Int) : Int := 365 * (y - 1) + (y - 1) / 4 - (y - 1) / 100 + (y - 1) / 400
theorem jg_jan (y : Int) : JG y 1 1 = 3442851 + 2 * G1 y := by unfold JG G1; simp only [show (1:Int) ≤ 2 by decide, if_true]; omega
theorem lp_01 (y : Int) : lp y = 0 ∨ lp y = 1 := by unfold lp; split <;> simp
theorem jg_bound {y m d : Int} (hy : y.natAbs ≤ 10 ^ 9) (hm : 1 ≤ m) (hm2 : m ≤ 13) (hd : 1 ≤ d) (hd2 : d ≤ 28) : (JG y m d).natAbs ≤ 10 ^ 13 := by
  have := lp_01 y
  unfold JG
  split <;> omega
theorem greg_core {a c e f g i h r d : Int} (h1 : d = 146097 * a + r) (h2 : 0 ≤ r) (h3 : r < 146097) (h4 : r = 36524 * c + e) (h5 : 0 ≤ e) (h6 : e < 36524) (h7 : e = 1461 * f + g) (h8 : 0 ≤ g) (h9 : g < 1461) (h10 : g = 365 * i + h) (h11 : 0 ≤ h) (h12 : h < 365) :
    (c = 4 ∨ i = 4 → G1 (a * 400 + c * 100 + f * 4 + i) ≤ d ∧ d < G1 (a * 400 + c * 100 + f * 4 + i + 1)) ∧ (¬ (c = 4 ∨ i = 4) → G1 (a * 400 + c * 100 + f * 4 + i + 1) ≤ d ∧ d < G1 (a * 400 + c * 100 + f * 4 + i + 1 + 1)) := by
  have c0 : 0 ≤ c := by omega
  have c4 : c ≤ 4 := by omega
  have f0 : 0 ≤ f := by omega
  have f24 : f ≤ 24 := by omega
  have i0 : 0 ≤ i := by omega
  have i4 : i ≤ 4 := by omega
  unfold G1
  constructor
  · rintro (hc | hi)
    · have e0 : e = 0 := by omega
      have f1 : f = 0 := by omega
      have i1 : i = 0 := by omega
      subst hc f1 i1
      omega
    · subst hi
      have c3 : c ≤ 3 := by omega
      have f23 : f ≤ 23 := by omega
      have d1 : (a * 400 + c * 100 + f * 4 + 4 - 1) / 4 = 100 * a + 25 * c + f := by omega
      have d2 : (a * 400 + c * 100 + f * 4 + 4 - 1) / 100 = 4 * a + c := by omega
      have d3 : (a * 400 + c * 100 + f * 4 + 4 - 1) / 400 = a := by omega
      have d4 : (a * 400 + c * 100 + f * 4 + 4 + 1 - 1) / 4 = 100 * a + 25 * c + f + 1 := by omega
      have d5 : (a * 400 + c * 100 + f * 4 + 4 + 1 - 1) / 100 = 4 * a + c := by omega
      have d6 : (a * 400 + c * 100 + f * 4 + 4 + 1 - 1) / 400 = a := by omega
      rw [d1, d2, d3, d4, d5, d6]
      omega
  · intro hn
    have c3 : c ≤ 3 := by omega
    have i3 : i ≤ 3 := by omega
    have d1 : (a * 400 + c * 100 + f * 4 + i + 1 - 1) / 4 = 100 * a + 25 * c + f := by omega
    have d2 : (a * 400 + c * 100 + f * 4 + i + 1 - 1) / 100 = 4 * a + c := by omega
    have d3 : (a * 400 + c * 100 + f * 4 + i + 1 - 1) / 400 = a := by omega
    have g1 := Int.ediv_mul_le (a * 400 + c * 100 + f * 4 + i + 1 + 1 - 1) (show (4 : Int) ≠ 0 by decide)
    have d4 : (a * 400 + c * 100 + f * 4 + i + 1 + 1 - 1) / 4 - (a * 400 + c * 100 + f * 4 + i + 1 + 1 - 1) / 100 + (a * 400 + c * 100 + f * 4 + i + 1 + 1 - 1) / 400 ≥ 100 * a + 25 * c + f - 4 * a - c + a := by
      clear h1 h2 h3 h4 h5 h6 h7 h8 h9 h10 h11 h12
      omega
    rw [d1, d2, d3]
    omega

structure Hid (p : Prop) : Prop where
  mk ::
  out : p
theorem g1_step (y : Int) : G1 y + 365 ≤ G1 (y + 1) ∧ G1 (y + 1) ≤ G1 y + 366 := by
  unfold G1
  omega
theorem greg_year {n q4 q3 m2 q2 m1 q1 m0 q : Int} (hn : n.natAbs ≤ 2 * 10 ^ 9) (e4 : Hid (q4 = (2 * n + 1 - 1) / 2)) (e3 : Hid (q3 = (2 * q4 + 1 - 3442851) / (2 * 146097))) (f2 : Hid (m2 = (2 * q4 + 1 - 3442851) % (2 * 146097))) (e2 : Hid (q2 = m2 / (2 * 36524))) (f1 : Hid (m1 = m2 % (2 * 36524)))
    (e1 : Hid (q1 = m1 / (2 * 1461))) (f0 : Hid (m0 = m1 % (2 * 1461))) (e0 : Hid (q = m0 / (2 * 365))) :
    (q2 = 4 ∨ q = 4 → JG (q3 * 400 + q2 * 100 + q1 * 4 + q) 1 1 ≤ 2 * n + 1 ∧ 2 * n + 1 < JG (q3 * 400 + q2 * 100 + q1 * 4 + q + 1) 1 1 ∧ 2 * n + 1 - JG (q3 * 400 + q2 * 100 + q1 * 4 + q) 1 1 ≤ 730 ∧ (q3 * 400 + q2 * 100 + q1 * 4 + q).natAbs ≤ 10 ^ 8) ∧
    (¬ (q2 = 4 ∨ q = 4) → JG (q3 * 400 + q2 * 100 + q1 * 4 + q + 1) 1 1 ≤ 2 * n + 1 ∧ 2 * n + 1 < JG (q3 * 400 + q2 * 100 + q1 * 4 + q + 1 + 1) 1 1 ∧ 2 * n + 1 - JG (q3 * 400 + q2 * 100 + q1 * 4 + q + 1) 1 1 ≤ 730 ∧ (q3 * 400 + q2 * 100 + q1 * 4 + q + 1).natAbs ≤ 10 ^ 8) := by
  obtain ⟨e4⟩ := e4
  obtain ⟨e3⟩ := e3
  obtain ⟨f2⟩ := f2
  obtain ⟨e2⟩ := e2
  obtain ⟨f1⟩ := f1
  obtain ⟨e1⟩ := e1
  obtain ⟨f0⟩ := f0
  obtain ⟨e0⟩ := e0
  have k4 : q4 = n := by omega
  subst k4
  obtain ⟨d, hd⟩ : ∃ d, d = q4 - 1721425 := ⟨_, rfl⟩
  have k2 : ∃ r, m2 = 2 * r ∧ d = 146097 * q3 + r ∧ 0 ≤ r ∧ r < 146097 := ⟨d % 146097, by omega, by omega, by omega, by omega⟩
  clear e3 f2
  obtain ⟨r, kr, a1, a2, a3⟩ := k2
  have k1 : ∃ e, m1 = 2 * e ∧ r = 36524 * q2 + e ∧ 0 ≤ e ∧ e < 36524 := ⟨r % 36524, by omega, by omega, by omega, by omega⟩
  clear f1 e2
  obtain ⟨e, ke, a4, a5, a6⟩ := k1
  have k0 : ∃ g, m0 = 2 * g ∧ e = 1461 * q1 + g ∧ 0 ≤ g ∧ g < 1461 := ⟨e % 1461, by omega, by omega, by omega, by omega⟩
  clear f0 e1
  obtain ⟨g, kg, a7, a8, a9⟩ := k0
  have kk : ∃ h, g = 365 * q + h ∧ 0 ≤ h ∧ h < 365 := ⟨g % 365, by omega, by omega, by omega⟩
  clear e0
  obtain ⟨h, b1, b2, b3⟩ := kk
  have c := greg_core a1 a2 a3 a4 a5 a6 a7 a8 a9 b1 b2 b3
  have bq : (q3 * 400 + q2 * 100 + q1 * 4 + q + 1).natAbs ≤ 10 ^ 8 ∧ (q3 * 400 + q2 * 100 + q1 * 4 + q).natAbs ≤ 10 ^ 8 := by omega
  clear a1 a2 a3 a4 a5 a6 a7 a8 a9 b1 b2 b3
  simp only [jg_jan]
  constructor
  · intro hc
    have c1 := c.1 hc
    have s := g1_step (q3 * 400 + q2 * 100 + q1 * 4 + q)
    omega
  · intro hc
    have c1 := c.2 hc
    have s := g1_step (q3 * 400 + q2 * 100 + q1 * 4 + q + 1)
    omega

/-- julian.to_jd, in halves -/
def JJ (y m d : Int) : Int := 2 * (1461 * ((if m ≤ 2 then y - 1 else y) + 4716) / 4 + 306001 * ((if m ≤ 2 then m + 12 else m) + 1) / 10000 + d) - 3049
/-- indian_civil.to_jd, in halves -/
def JN (y m d : Int) : Int := if m = 1 then JG (y + 78) 3 (22 - lp (y + 78)) + 2 * (d - 1) else JG (y + 78) 3 (22 - lp (y + 78)) + 2 * (30 + lp (y + 78)) + 2 * (31 * (if m - 2 ≤ 5 then m - 2 else 5)) + (if 8 ≤ m then 2 * (30 * (m - 7)) else 0) + 2 * (d - 1)
theorem jj_jan (y : Int) : JJ y 1 1 = 2 * (1461 * (y + 4715) / 4) - 2191 := by
  unfold JJ; simp only [show (1:Int) ≤ 2 by decide, if_true]; omega
theorem jg_mar (y : Int) : JG y 3 (22 - lp y) = JG y 1 1 + 160 := by
  unfold JG; simp only [show (1:Int) ≤ 2 by decide, show ¬ (3:Int) ≤ 2 by decide, if_true, if_false]; omega
theorem jn_first (y : Int) : JN y 1 1 = JG (y + 78) 1 1 + 160 := by
  unfold JN; simp only [if_true]; rw [jg_mar]; omega

theorem lp_pos {y : Int} (h : y % 4 = 0 ∧ (y % 100 ≠ 0 ∨ y % 400 = 0)) : lp y = 1 := by unfold lp; rw [if_pos h]
theorem lp_neg {y : Int} (h : ¬ (y % 4 = 0 ∧ (y % 100 ≠ 0 ∨ y % 400 = 0))) : lp y = 0 := by unfold lp; rw [if_neg h]
theorem lp_dec (y : Int) : (if decide (y % 4 = 0 ∧ (y % 100 ≠ 0 ∨ y % 400 = 0)) = true then (1 : Int) else 0) = lp y := by
  unfold lp
  by_cases h : y % 4 = 0 ∧ (y % 100 ≠ 0 ∨ y % 400 = 0)
  · rw [if_pos (decide_eq_true h), if_pos h]
  · rw [if_neg (by rw [decide_eq_true_iff]; exact h), if_neg h]
theorem ind_case1 {y n : Int} (j1 : JG y 1 1 ≤ 2 * n + 1) (j2 : 2 * n + 1 < JG (y + 1) 1 1) (h : ¬ (2 * n + 1 - JG y 1 1 < 160)) : JN (y - 78) 1 1 ≤ 2 * n + 1 ∧ 2 * n + 1 < JN (y - 78 + 1) 1 1 := by
  rw [jn_first, jn_first, show y - 78 + 78 = y by omega, show y - 78 + 1 + 78 = y + 1 by omega]
  omega
theorem ind_case2 {y n : Int} (j1 : JG y 1 1 ≤ 2 * n + 1) (_j2 : 2 * n + 1 < JG (y + 1) 1 1) (h : 2 * n + 1 - JG y 1 1 < 160) : JN (y - 78 - 1) 1 1 ≤ 2 * n + 1 ∧ 2 * n + 1 < JN (y - 78 - 1 + 1) 1 1 := by
  rw [jn_first, jn_first, show y - 78 - 1 + 78 = y - 1 by omega, show y - 78 - 1 + 1 + 78 = y by omega]
  have s := g1_step (y - 1)
  rw [show y - 1 + 1 = y by omega] at s
  rw [jg_jan] at *
  rw [jg_jan]
  omega
end Mine
end
section
-- LRules
open PySem PySem.W PyProof.Rows PySem.Flt
set_option Elab.async false
namespace Mine

section
variable {prog : Program} {w : World} {A : Around} {E : Value → Shared → Prop} {s : Shared} {Q : Value → Shared → Prop} {x y : UInt64} {n k : Int} {t u : Tok} {N M f : Int}

theorem over_no {n : Int} (h : n.natAbs ≤ 2 ^ 60) : ¬ Over n := by
  unfold Over
  have h1 : (2 : Nat) ^ 1024 = 2 ^ 54 * 2 ^ 970 := by rw [← Nat.pow_add]
  have h2 : (2 : Nat) ^ 970 = 2 ^ 60 * 2 ^ 910 := by rw [← Nat.pow_add]
  have h3 : 0 < (2 : Nat) ^ 910 := Nat.two_pow_pos _
  rw [h1, h2]
  generalize (2 : Nat) ^ 910 = K at *
  omega
theorem small23 {n : Int} (h : n.natAbs ≤ 2 ^ 60) : n.natAbs < 2 ^ 1023 := by
  have h1 : (2 : Nat) ^ 1023 = 2 ^ 61 * 2 ^ 962 := by rw [← Nat.pow_add]
  have h3 : 0 < (2 : Nat) ^ 962 := Nat.two_pow_pos _
  rw [h1]
  generalize (2 : Nat) ^ 962 = K at *
  omega

theorem r_add_ff (hx : Fv x N) (hy : Fv y M) (hb : (N + M).natAbs ≤ 2 ^ 53) (h : ∀ z, Fv z (N + M) → Q (.float z s.toks) { s with toks := s.toks + 1 }) :
    wpAny (model prog w) A (binaryOp .Add (.float x t) (.float y u)) Q E s := add_float (h _ (fv_add hx hy hb))
theorem r_sub_ff (hx : Fv x N) (hy : Fv y M) (hb : (N - M).natAbs ≤ 2 ^ 53) (h : ∀ z, Fv z (N - M) → Q (.float z s.toks) { s with toks := s.toks + 1 }) :
    wpAny (model prog w) A (binaryOp .Sub (.float x t) (.float y u)) Q E s := sub_float (h _ (fv_sub hx hy hb))
theorem r_add_fi (hx : Fv x N) (hn : n.natAbs ≤ 2 ^ 52) (hb : (N + 2 * n).natAbs ≤ 2 ^ 53) (h : ∀ z, Fv z (N + 2 * n) → Q (.float z s.toks) { s with toks := s.toks + 1 }) :
    wpAny (model prog w) A (binaryOp .Add (.float x t) (.int n u)) Q E s := add_fi_fits (small23 (by omega)) (h _ (fv_add hx (fv_ofInt hn) hb))
theorem r_sub_fi (hx : Fv x N) (hn : n.natAbs ≤ 2 ^ 52) (hb : (N - 2 * n).natAbs ≤ 2 ^ 53) (h : ∀ z, Fv z (N - 2 * n) → Q (.float z s.toks) { s with toks := s.toks + 1 }) :
    wpAny (model prog w) A (binaryOp .Sub (.float x t) (.int n u)) Q E s := sub_fi_fits (small23 (by omega)) (h _ (fv_sub hx (fv_ofInt hn) hb))
theorem r_add_if (hx : Fv x N) (hn : n.natAbs ≤ 2 ^ 52) (hb : (2 * n + N).natAbs ≤ 2 ^ 53) (h : ∀ z, Fv z (2 * n + N) → Q (.float z s.toks) { s with toks := s.toks + 1 }) :
    wpAny (model prog w) A (binaryOp .Add (.int n u) (.float x t)) Q E s := add_if_fits (small23 (by omega)) (h _ (fv_add (fv_ofInt hn) hx hb))
theorem r_sub_if (hx : Fv x N) (hn : n.natAbs ≤ 2 ^ 52) (hb : (2 * n - N).natAbs ≤ 2 ^ 53) (h : ∀ z, Fv z (2 * n - N) → Q (.float z s.toks) { s with toks := s.toks + 1 }) :
    wpAny (model prog w) A (binaryOp .Sub (.int n u) (.float x t)) Q E s := sub_if_fits (small23 (by omega)) (h _ (fv_sub (fv_ofInt hn) hx hb))
theorem r_mul_fi (hx : Fv x N) (hn : n.natAbs ≤ 2 ^ 52) (hb : (N * n).natAbs ≤ 2 ^ 53) (h : ∀ z, Fv z (N * n) → Q (.float z s.toks) { s with toks := s.toks + 1 }) :
    wpAny (model prog w) A (binaryOp .Mult (.float x t) (.int n u)) Q E s := mul_fi_fits (small23 (by omega)) (h _ (fv_mul hx hn hb))
theorem r_mul_if (hx : Fv x N) (hn : n.natAbs ≤ 2 ^ 52) (hb : (N * n).natAbs ≤ 2 ^ 53) (h : ∀ z, Fv z (N * n) → Q (.float z s.toks) { s with toks := s.toks + 1 }) :
    wpAny (model prog w) A (binaryOp .Mult (.int n u) (.float x t)) Q E s := mul_if_fits (small23 (by omega)) (h _ (fv_mul' hx hn hb))
theorem r_div_fi (hh : A.handled = none) (hx : Fv x N) (hN : N.natAbs ≤ 2 ^ 60) (hn0 : 0 < n) (hn : 2 * n ≤ 2 ^ 20) (hq : (N / (2 * n)).natAbs ≤ 2 ^ 32) (h : ∀ z, Br z N (2 * n) → Q (.float z s.toks) { s with toks := s.toks + 1 }) :
    wpAny (model prog w) A (binaryOp .Div (.float x t) (.int n u)) Q E s :=
  truediv_fi hh (fun o => absurd o (over_no (by omega))) (fun o => absurd o (by omega)) fun _ _ => h _ (br_div hx (fv_ofInt (by omega)) hN (by omega) hn hq)
theorem isZero_fv (hy : Fv y M) (hM : M ≠ 0) : ¬ Float64.isZero y = true := by
  rw [isZero_eq, cmpInt_fv hy, cmp_eq_dec]; simpa using hM
theorem r_div_ff (hh : A.handled = none) (hx : Fv x N) (hN : N.natAbs ≤ 2 ^ 60) (hy : Fv y M) (hn0 : 0 < M) (hn : M ≤ 2 ^ 20) (hq : (N / M).natAbs ≤ 2 ^ 32) (h : ∀ z, Br z N M → Q (.float z s.toks) { s with toks := s.toks + 1 }) :
    wpAny (model prog w) A (binaryOp .Div (.float x t) (.float y u)) Q E s :=
  truediv_float_or hh (fun o => absurd o (isZero_fv hy (by omega))) fun _ => h _ (br_div hx hy hN hn0 hn hq)
theorem r_div_ii (hh : A.handled = none) (hN : n.natAbs ≤ 2 ^ 60) (hn0 : 0 < k) (hn : k ≤ 2 ^ 20) (hq : (n / k).natAbs ≤ 2 ^ 32) (h : ∀ z, Br z n k → Gd z (n / k) → Q (.float z s.toks) { s with toks := s.toks + 1 }) :
    wpAny (model prog w) A (binaryOp .Div (.int n t) (.int k u)) Q E s :=
  div_ii_fits hh (small23 hN) (fun o => absurd o (by omega)) fun _ _ => h _ (br_ii hN hn0 hn hq) (gd_ii hN hn0 hn hq)
theorem r_add_gd (hx : Gd x f) (hn : n.natAbs ≤ 2 ^ 31) (hq : f.natAbs ≤ 2 ^ 31) (h : ∀ z, Gd z (f + n) → Q (.float z s.toks) { s with toks := s.toks + 1 }) :
    wpAny (model prog w) A (binaryOp .Add (.float x t) (.int n u)) Q E s := add_fi_fits (small23 (by omega)) (h _ (gd_add hx hn hq))
theorem r_mod_fi (hh : A.handled = none) (hx : Fv x N) (hn0 : 0 < n) (hn : n ≤ 2 ^ 52) (h : ∀ z, Fv z (N % (2 * n)) → Q (.float z s.toks) { s with toks := s.toks + 1 }) :
    wpAny (model prog w) A (binaryOp .Mod (.float x t) (.int n u)) Q E s :=
  mod_fi hh (fun o => absurd o (over_no (by omega))) (fun o => absurd o (by omega)) fun _ _ => h _ (fv_mod hx (fv_ofInt (by omega)) (by omega) (by omega))

theorem notnan_fin {P : Prop} (h : IsFin x) (o : Float64.isNaN x = true) : P := by
  obtain ⟨_, _, _, h⟩ := h
  unfold Float64.isNaN at o; rw [h] at o; cases o
theorem notinf_fin {P : Prop} (h : IsFin x) (o : Float64.isInf x = true) : P := by
  obtain ⟨_, _, _, h⟩ := h
  unfold Float64.isInf at o; rw [h] at o; cases o
theorem r_floor (hh : A.handled = none) (hx : Fl x f) (h : Q (.int f s.toks) { s with toks := s.toks + 1 }) :
    wpAny (model prog w) A (call (.builtin "math.floor") [.float x t]) Q E s :=
  call_floor_float hh (notnan_fin hx.1) (notinf_fin hx.1) fun _ => by rw [toInt_fl hx]; exact h
theorem r_ceil (hh : A.handled = none) (hx : Br x N M) (h : Q (.int (-((-N) / M)) s.toks) { s with toks := s.toks + 1 }) :
    wpAny (model prog w) A (call (.builtin "math.ceil") [.float x t]) Q E s :=
  call_ceil_float hh (notnan_fin hx.1) (notinf_fin hx.1) fun _ => by rw [toInt_ceil hx.1, hx.2.2]; exact h
theorem r_int (hh : A.handled = none) (hx : IsFin x) (h : ∀ i : Int, Q (.int i s.toks) { s with toks := s.toks + 1 }) :
    wpAny (model prog w) A (call (.type "int") [.float x t]) Q E s :=
  call_int_float3 hh (notnan_fin hx) (notinf_fin hx) fun _ => h _
-- julian's odd ones
theorem r_sub_1221 (e : x = 0x405e866666666666) (hn : n.natAbs ≤ 2 ^ 40) (h : ∀ z, Jb z n → Q (.float z s.toks) { s with toks := s.toks + 1 }) :
    wpAny (model prog w) A (binaryOp .Sub (.int n u) (.float x t)) Q E s := by subst e; exact sub_if_fits (small23 (by omega)) (h _ (jb_sub hn))
theorem r_div_36525 (hh : A.handled = none) (e : y = 0x4076d40000000000) (hx : Jb x n) (hn : n.natAbs ≤ 2 ^ 40) (h : ∀ z, Fl z ((4 * n - 489) / 1461) → Q (.float z s.toks) { s with toks := s.toks + 1 }) :
    wpAny (model prog w) A (binaryOp .Div (.float x t) (.float y u)) Q E s := by
  subst e
  exact truediv_float_or hh (fun o => absurd o (by decide +kernel)) fun _ => h _ (fl_julian hx hn)
theorem r_mul_36525 (e : x = 0x4076d40000000000) (hn : n.natAbs ≤ 2 ^ 40) (h : ∀ z, Fl z (1461 * n / 4) → Q (.float z s.toks) { s with toks := s.toks + 1 }) :
    wpAny (model prog w) A (binaryOp .Mult (.float x t) (.int n u)) Q E s := by subst e; exact mul_fi_fits (small23 (by omega)) (h _ (fl_br (br_fq (fq_mul fq_36525 (by omega) (by omega)))))
theorem r_div_306001 (hh : A.handled = none) (e : y = 0x403e99a027525461) (h0 : 0 ≤ n) (hn : n ≤ 500) (h : ∀ z, Fl z (10000 * n / 306001) → Q (.float z s.toks) { s with toks := s.toks + 1 }) :
    wpAny (model prog w) A (binaryOp .Div (.int n t) (.float y u)) Q E s := by
  subst e
  exact truediv_if hh (fun o => absurd o (over_no (by omega))) (fun _ o => absurd o (by decide +kernel)) fun _ _ => h _ (fl_quot h0 hn)
theorem r_mul_306001 (e : x = 0x403e99a027525461) (h0 : 0 ≤ n) (hn : n ≤ 20) (h : ∀ z, Fl z (306001 * n / 10000) → Q (.float z s.toks) { s with toks := s.toks + 1 }) :
    wpAny (model prog w) A (binaryOp .Mult (.float x t) (.int n u)) Q E s := by subst e; exact mul_fi_fits (small23 (by omega)) (h _ (fl_prod h0 hn))
-- comparisons
theorem r_lt_ff (hx : Fv x N) (hy : Fv y M) (h : Q (.bool (decide (N < M))) s) : wpAny (model prog w) A (compareOp .Lt (.float x t) (.float y u)) Q E s :=
  AutoFloatOps.lt_0 (by rw [cmp_fv hx hy, cmp_lt_dec]; exact h)
theorem r_le_ff (hx : Fv x N) (hy : Fv y M) (h : Q (.bool (decide (N ≤ M))) s) : wpAny (model prog w) A (compareOp .LtE (.float x t) (.float y u)) Q E s :=
  AutoFloatOps.le_0 (by rw [cmp_fv hx hy, cmp_le_dec]; exact h)
theorem r_lt_fi (hx : Fv x N) (h : Q (.bool (decide (N < 2 * n))) s) : wpAny (model prog w) A (compareOp .Lt (.float x t) (.int n u)) Q E s :=
  lt_fi (by rw [cmpInt_fv hx, cmp_lt_dec]; exact h)
theorem r_le_fi (hx : Fv x N) (h : Q (.bool (decide (N ≤ 2 * n))) s) : wpAny (model prog w) A (compareOp .LtE (.float x t) (.int n u)) Q E s :=
  le_fi (by rw [cmpInt_fv hx, cmp_le_dec]; exact h)
theorem r_lt_if (hx : Fv x N) (h : Q (.bool (decide (2 * n < N))) s) : wpAny (model prog w) A (compareOp .Lt (.int n u) (.float x t)) Q E s :=
  lt_if (by rw [cmpInt_fv hx, cmp_gt_dec]; exact h)
theorem r_le_if (hx : Fv x N) (h : Q (.bool (decide (2 * n ≤ N))) s) : wpAny (model prog w) A (compareOp .LtE (.int n u) (.float x t)) Q E s :=
  le_if (by rw [cmpInt_fv hx, cmp_ge_dec]; exact h)
theorem r_ne_fi (hx : Fv x N) (h : Q (.bool (!decide (N = 2 * n))) s) : wpAny (model prog w) A (compareOp .NotEq (.float x t) (.int n u)) Q E s :=
  ne_fi (by rw [cmpInt_fv hx, bne, cmp_eq_dec]; exact h)
theorem r_ne_if (hx : Fv x N) (h : Q (.bool (!decide (N = 2 * n))) s) : wpAny (model prog w) A (compareOp .NotEq (.int n u) (.float x t)) Q E s :=
  ne_if (by rw [cmpInt_fv hx, bne, cmp_eq_dec]; exact h)
end

theorem fv_eq {x : UInt64} {N M : Int} (h : Fv x N) (e : N = M) : Fv x M := e ▸ h
abbrev IsF (v : Value) (N : Int) : Prop := ∃ x k, v = .float x k ∧ Fv x N
abbrev IsI (v : Value) (n : Int) : Prop := ∃ k, v = .int n k

section
open PySem.Flt
variable {prog : Program} {w : World} {A : Around} {E : Value → Shared → Prop} {s : Shared} {Q : Value → Shared → Prop} {x y : UInt64} {n k : Int} {t u : Tok} {N M f : Int}
theorem r_iadd_ff (hx : Fv x N) (hy : Fv y M) (hb : (N + M).natAbs ≤ 2 ^ 53) (h : ∀ z, Fv z (N + M) → Q (.float z s.toks) { s with toks := s.toks + 1 }) :
    wpAny (model prog w) A (inplaceOp .Add (.float x t) (.float y u)) Q E s := iadd_float (h _ (fv_add hx hy hb))
theorem r_iadd_fi (hA : A.handled = none) (hx : Fv x N) (hn : n.natAbs ≤ 2 ^ 52) (hb : (N + 2 * n).natAbs ≤ 2 ^ 53) (h : ∀ z, Fv z (N + 2 * n) → Q (.float z s.toks) { s with toks := s.toks + 1 }) :
    wpAny (model prog w) A (inplaceOp .Add (.float x t) (.int n u)) Q E s := iadd_fi hA (fun o => absurd o (over_no (by omega))) (fun _ => h _ (fv_add hx (fv_ofInt hn) hb))
theorem r_isub_fi (hA : A.handled = none) (hx : Fv x N) (hn : n.natAbs ≤ 2 ^ 52) (hb : (N - 2 * n).natAbs ≤ 2 ^ 53) (h : ∀ z, Fv z (N - 2 * n) → Q (.float z s.toks) { s with toks := s.toks + 1 }) :
    wpAny (model prog w) A (inplaceOp .Sub (.float x t) (.int n u)) Q E s := isub_fi hA (fun o => absurd o (over_no (by omega))) (fun _ => h _ (fv_sub hx (fv_ofInt hn) hb))
end

theorem tup_in {K : Frag} {h : Heap} {a : Addr} {c : Value} {d : Option Addr} {items : Array Value} {n : Nat} {sl : Array (Option Value)} (X : K.In h) (ho : K.lookup a = some ⟨c, d, .seq items n, sl⟩) (hc : c = .type "tuple") : IsTup h a items := ⟨_, X _ _ ho, hc, n, rfl⟩

def Gate (_ : Nat) : Prop := True
section
open PySem.Flt
variable {prog : Program} {w : World} {A : Around} {E : Value → Shared → Prop} {s : Shared} {Q : Value → Shared → Prop} {x y : UInt64} {n k : Int} {t u : Tok} {N M f : Int}
theorem r_floorO (hh : A.handled = none) (hx : Br x N M) (hM : 0 < M) (h : ∀ q : Int, Hid (q = N / M) → q * M ≤ N → N < q * M + M → Q (.int q s.toks) { s with toks := s.toks + 1 }) :
    wpAny (model prog w) A (call (.builtin "math.floor") [.float x t]) Q E s :=
  r_floor hh (fl_br hx) (h _ ⟨rfl⟩ (Int.ediv_mul_le _ (by omega)) (by have := Int.lt_ediv_add_one_mul_self N hM; rw [Int.add_mul, Int.one_mul] at this; exact this))
theorem r_mod_fiO (hh : A.handled = none) (hx : Fv x N) (hn0 : 0 < n) (hn : n ≤ 2 ^ 52) (h : ∀ z M, Hid (M = N % (2 * n)) → 0 ≤ M → M < 2 * n → Fv z M → Q (.float z s.toks) { s with toks := s.toks + 1 }) :
    wpAny (model prog w) A (binaryOp .Mod (.float x t) (.int n u)) Q E s :=
  r_mod_fi hh hx hn0 hn fun z hz => h z _ ⟨rfl⟩ (Int.emod_nonneg _ (by omega)) (Int.emod_lt_of_pos _ (by omega)) hz
end

/-- a halt of the walk -/
def Halt (P : Prop) : Prop := P
theorem Halt.intro {P : Prop} (h : Halt P) : P := h
theorem Halt.out {P : Prop} (h : P) : Halt P := h
theorem fr_same {g h : Heap} {L : Addr} {m : PySem.Str → Option Value} {x : PySem.Str} {v : Value} (F : Fr g L h m) (e : m x = some v) : Fr g L h (fun y => if y = x then some v else m y) := by
  have : (fun y => if y = x then some v else m y) = m := by
    funext y
    by_cases h : y = x
    · rw [if_pos h, h, e]
    · rw [if_neg h]
  rw [this]; exact F
structure Cut1 (g : Heap) (L : Addr) (x : PySem.Str) (m : PySem.Str → Option Value) (news : List (Addr × Obj)) (P : Int → Prop) (s : Shared) (fl : Flow) (s' : Shared) : Prop where
  mk ::
  out : ∃ Y t h' tk', fl = Flow.next ∧ s' = { s with heap := h', toks := tk' } ∧ Fr g L h' (fun y => if y = x then some (.int Y t) else m y) ∧ News g L h' news ∧ P Y
theorem cut1 {prog : Program} {w : World} {A : Around} {E : Value → Shared → Prop} {s : Shared} {Q : Flow → Shared → Prop} {S : Stmt} {env : Env} {g : Heap} {L : Addr} {m : PySem.Str → Option Value} {news : List (Addr × Obj)}
    (x : PySem.Str) (P : Int → Prop) (_F : Fr g L s.heap m) (_N : News g L s.heap news)
    (h1 : wpAny (model prog w) A (exec S env) (Cut1 g L x m news P s) E s)
    (h2 : ∀ Y t h' tk', P Y → Fr g L h' (fun y => if y = x then some (.int Y t) else m y) → News g L h' news → Q Flow.next { s with heap := h', toks := tk' }) :
    wpAny (model prog w) A (exec S env) Q E s :=
  wpAny_mono h1 (by rintro fl s' ⟨Y, t, h', tk', rfl, rfl, F', N', p⟩; exact h2 _ _ _ _ p F' N') (fun _ _ e => e)

abbrev IsY (v : Value) (P : Int → Prop) : Prop := ∃ y k, v = .int y k ∧ P y

theorem news_tail {g h : Heap} {L : Addr} {p : Addr × Obj} {news : List (Addr × Obj)} (N : News g L h (p :: news)) : News g L h news := fun q hq => N q (.tail _ hq)
end Mine
end
section
-- LC1
open PySem PySem.W PyProof.Rows
set_option Elab.async false
namespace Mine
set_option maxRecDepth 100000
set_option maxHeartbeats 8000000
set_option pp.deepTerms false
set_option pp.maxSteps 3000
local macro_rules | `(tactic| walk_at "binaryOp Add float float") => `(tactic| (k_dflt (refine' r_add_ff ?hx ?hy ?hb ?_; (case hx => first | with_reducible assumption | exact fv_eislamic | exact fv_ecoptic | exact fv_egregorian | exact fv_05 | exact fv_15245); (case hy => first | with_reducible assumption | exact fv_eislamic | exact fv_ecoptic | exact fv_egregorian | exact fv_05 | exact fv_15245); (case hb => omega)); intro z9 fz9))
local macro_rules | `(tactic| walk_at "binaryOp Sub float float") => `(tactic| (k_dflt (refine' r_sub_ff ?hx ?hy ?hb ?_; (case hx => first | with_reducible assumption | exact fv_eislamic | exact fv_ecoptic | exact fv_egregorian | exact fv_05 | exact fv_15245); (case hy => first | with_reducible assumption | exact fv_eislamic | exact fv_ecoptic | exact fv_egregorian | exact fv_05 | exact fv_15245); (case hb => omega)); intro z9 fz9))
local macro_rules | `(tactic| walk_at "binaryOp Add float int") => `(tactic| first | (k_dflt (refine' r_add_fi ?hx ?hn ?hb ?_; (case hx => first | with_reducible assumption | exact fv_eislamic | exact fv_ecoptic | exact fv_egregorian | exact fv_05 | exact fv_15245); (case hn => omega); (case hb => omega)); intro z9 fz9) | (k_dflt (refine' r_add_gd ?hx ?hn ?hq ?_; (case hx => with_reducible assumption); (case hn => omega); (case hq => omega)); intro z9 fz9))
local macro_rules | `(tactic| walk_at "binaryOp Sub float int") => `(tactic| (k_dflt (refine' r_sub_fi ?hx ?hn ?hb ?_; (case hx => first | with_reducible assumption | exact fv_eislamic | exact fv_ecoptic | exact fv_egregorian | exact fv_05 | exact fv_15245); (case hn => omega); (case hb => omega)); intro z9 fz9))
local macro_rules | `(tactic| walk_at "binaryOp Add int float") => `(tactic| (k_dflt (refine' r_add_if ?hx ?hn ?hb ?_; (case hx => first | with_reducible assumption | exact fv_eislamic | exact fv_ecoptic | exact fv_egregorian | exact fv_05 | exact fv_15245); (case hn => omega); (case hb => omega)); intro z9 fz9))
local macro_rules | `(tactic| walk_at "binaryOp Sub int float") => `(tactic| first | (k_dflt (refine' r_sub_if ?hx ?hn ?hb ?_; (case hx => first | with_reducible assumption | exact fv_eislamic | exact fv_ecoptic | exact fv_egregorian | exact fv_05 | exact fv_15245); (case hn => omega); (case hb => omega)); intro z9 fz9) | (k_dflt (refine' r_sub_1221 ?hn ?_; (case hn => omega)); intro z9 fz9))
local macro_rules | `(tactic| walk_at "binaryOp Mult float int") => `(tactic| first | (k_dflt (refine' r_mul_fi ?hx ?hn ?hb ?_; (case hx => first | with_reducible assumption | exact fv_295); (case hn => omega); (case hb => omega)); intro z9 fz9) | (k_dflt (refine' r_mul_36525 ?hn ?_; (case hn => omega)); intro z9 fz9) | (k_dflt (refine' r_mul_306001 ?h0 ?hn ?_; (case h0 => omega); (case hn => omega)); intro z9 fz9))
local macro_rules | `(tactic| walk_at "binaryOp Mult int float") => `(tactic| (k_dflt (refine' r_mul_if ?hx ?hn ?hb ?_; (case hx => first | with_reducible assumption | exact fv_295); (case hn => omega); (case hb => omega)); intro z9 fz9))
local macro_rules | `(tactic| walk_at "binaryOp Div float int") => `(tactic| (k_dflt (refine' r_div_fi ?hh ?hx ?hN ?h0 ?hn ?hq ?_; (case hh => rfl); (case hx => with_reducible assumption); (case hN => omega); (case h0 => omega); (case hn => omega); (case hq => omega)); intro z9 fz9))
local macro_rules | `(tactic| walk_at "binaryOp Div float float") => `(tactic| first | (k_dflt (refine' r_div_ff ?hh ?hx ?hN ?hy ?h0 ?hn ?hq ?_; (case hh => rfl); (case hx => with_reducible assumption); (case hN => omega); (case hy => first | with_reducible assumption | exact fv_295); (case h0 => omega); (case hn => omega); (case hq => omega)); intro z9 fz9) | (k_dflt (refine' r_div_36525 ?hh ?hx ?hn ?_; (case hh => rfl); (case hx => with_reducible assumption); (case hn => omega)); intro z9 fz9))
local macro_rules | `(tactic| walk_at "binaryOp Div int float") => `(tactic| (k_dflt (refine' r_div_306001 ?hh ?h0 ?hn ?_; (case hh => rfl); (case h0 => omega); (case hn => omega)); intro z9 fz9))
local macro_rules | `(tactic| walk_at "binaryOp Div int int") => `(tactic| (k_dflt (refine' r_div_ii ?hh ?hN ?h0 ?hn ?hq ?_; (case hh => rfl); (case hN => omega); (case h0 => omega); (case hn => omega); (case hq => omega)); intro z9 fz9 gz9))
local macro_rules | `(tactic| walk_at "binaryOp Mod float int") => `(tactic| (k_dflt (refine' r_mod_fi ?hh ?hx ?h0 ?hn ?_; (case hh => rfl); (case hx => with_reducible assumption); (case h0 => omega); (case hn => omega)); intro z9 fz9))
local macro_rules | `(tactic| walk_at "call builtin:math.floor") => `(tactic| ((with_reducible show wpAny _ _ (call _ [Value.float _ _]) _ _ _); k_dflt (refine' r_floor ?hh ?hx ?_; (case hh => rfl); (case hx => first | with_reducible assumption | exact fl_br (by with_reducible assumption) | exact fl_fv (by with_reducible assumption) | exact fl_gd (by with_reducible assumption)))))
local macro_rules | `(tactic| walk_at "call builtin:math.ceil") => `(tactic| ((with_reducible show wpAny _ _ (call _ [Value.float _ _]) _ _ _); k_dflt (refine' r_ceil ?hh ?hx ?_; (case hh => rfl); (case hx => first | with_reducible assumption | exact br_fv (by with_reducible assumption)))))
local macro_rules | `(tactic| walk_at "call type:int") => `(tactic| ((with_reducible show wpAny _ _ (call _ [Value.float _ _]) _ _ _); k_dflt (refine' r_int ?hh ?hx ?_; (case hh => rfl); (case hx => exact (show Fv _ _ by with_reducible assumption).1)); intro i9))
local macro_rules | `(tactic| walk_at "compareOp Lt float float") => `(tactic| (k_dflt (refine' r_lt_ff ?hx ?hy ?_; (case hx => with_reducible assumption); (case hy => with_reducible assumption))))
local macro_rules | `(tactic| walk_at "compareOp LtE float float") => `(tactic| (k_dflt (refine' r_le_ff ?hx ?hy ?_; (case hx => with_reducible assumption); (case hy => with_reducible assumption))))
local macro_rules | `(tactic| walk_at "compareOp Lt float int") => `(tactic| (k_dflt (refine' r_lt_fi ?hx ?_; (case hx => with_reducible assumption))))
local macro_rules | `(tactic| walk_at "compareOp LtE float int") => `(tactic| (k_dflt (refine' r_le_fi ?hx ?_; (case hx => with_reducible assumption))))
local macro_rules | `(tactic| walk_at "compareOp Lt int float") => `(tactic| (k_dflt (refine' r_lt_if ?hx ?_; (case hx => with_reducible assumption))))
local macro_rules | `(tactic| walk_at "compareOp LtE int float") => `(tactic| (k_dflt (refine' r_le_if ?hx ?_; (case hx => with_reducible assumption))))
local macro_rules | `(tactic| walk_at "compareOp NotEq float int") => `(tactic| (k_dflt (refine' r_ne_fi ?hx ?_; (case hx => with_reducible assumption))))
local macro_rules | `(tactic| walk_at "compareOp NotEq int float") => `(tactic| (k_dflt (refine' r_ne_if ?hx ?_; (case hx => with_reducible assumption))))
theorem c_leap_islamic (w : World) (y : Int) (t : Tok) : Cl 5 w 49 [.int y t] (fun v => v = .bool (decide ((y * 11 + 14) % 30 < 11))) := by
  unfold Cl
  k_fill
  intro mean mg mb news dp un gd cn cs a ccd cl outer A₀ base h₀ L m s Q E B F X N T hk hdp hun ret
  refine wpAny_call ?_
  k_dflt cell_enter
  k_steps
  exact ret _ _ _ (by rw [Int.fmod_eq_emod_of_nonneg _ (by decide)]) (by k_asm) (by k_asm)
theorem c_to_jd_islamic (w : World) (y m d : Int) (t t' t'' : Tok) (hy : y.natAbs ≤ 10 ^ 9) (hm : m.natAbs ≤ 1000) (hd : d.natAbs ≤ 1000) : Cl 5 w 56 [.int y t, .int m t', .int d t''] (fun v => IsF v (JI y m d)) := by
  unfold Cl
  k_fill
  intro mean mg mb news dp un gd cn cs a ccd cl outer A₀ base h₀ L m s Q E B F X N T hk hdp hun ret
  refine wpAny_call ?_
  k_dflt cell_enter
  k_steps
  exact ret _ _ _ ⟨_, _, rfl, fv_eq (by assumption) (by unfold JI; omega)⟩ (by k_asm) (by k_asm)
end Mine
end
section
-- LC1b
open PySem PySem.W PyProof.Rows
set_option Elab.async false
namespace Mine
set_option maxRecDepth 100000
set_option maxHeartbeats 8000000
set_option pp.deepTerms false
set_option pp.maxSteps 3000
local macro_rules | `(tactic| walk_at "binaryOp Add float float") => `(tactic| (k_dflt (refine' r_add_ff ?hx ?hy ?hb ?_; (case hx => first | with_reducible assumption | exact fv_eislamic | exact fv_ecoptic | exact fv_egregorian | exact fv_05 | exact fv_15245); (case hy => first | with_reducible assumption | exact fv_eislamic | exact fv_ecoptic | exact fv_egregorian | exact fv_05 | exact fv_15245); (case hb => omega)); intro z9 fz9))
local macro_rules | `(tactic| walk_at "binaryOp Sub float float") => `(tactic| (k_dflt (refine' r_sub_ff ?hx ?hy ?hb ?_; (case hx => first | with_reducible assumption | exact fv_eislamic | exact fv_ecoptic | exact fv_egregorian | exact fv_05 | exact fv_15245); (case hy => first | with_reducible assumption | exact fv_eislamic | exact fv_ecoptic | exact fv_egregorian | exact fv_05 | exact fv_15245); (case hb => omega)); intro z9 fz9))
local macro_rules | `(tactic| walk_at "binaryOp Add float int") => `(tactic| first | (k_dflt (refine' r_add_fi ?hx ?hn ?hb ?_; (case hx => first | with_reducible assumption | exact fv_eislamic | exact fv_ecoptic | exact fv_egregorian | exact fv_05 | exact fv_15245); (case hn => omega); (case hb => omega)); intro z9 fz9) | (k_dflt (refine' r_add_gd ?hx ?hn ?hq ?_; (case hx => with_reducible assumption); (case hn => omega); (case hq => omega)); intro z9 fz9))
local macro_rules | `(tactic| walk_at "binaryOp Sub float int") => `(tactic| (k_dflt (refine' r_sub_fi ?hx ?hn ?hb ?_; (case hx => first | with_reducible assumption | exact fv_eislamic | exact fv_ecoptic | exact fv_egregorian | exact fv_05 | exact fv_15245); (case hn => omega); (case hb => omega)); intro z9 fz9))
local macro_rules | `(tactic| walk_at "binaryOp Add int float") => `(tactic| (k_dflt (refine' r_add_if ?hx ?hn ?hb ?_; (case hx => first | with_reducible assumption | exact fv_eislamic | exact fv_ecoptic | exact fv_egregorian | exact fv_05 | exact fv_15245); (case hn => omega); (case hb => omega)); intro z9 fz9))
local macro_rules | `(tactic| walk_at "binaryOp Sub int float") => `(tactic| first | (k_dflt (refine' r_sub_if ?hx ?hn ?hb ?_; (case hx => first | with_reducible assumption | exact fv_eislamic | exact fv_ecoptic | exact fv_egregorian | exact fv_05 | exact fv_15245); (case hn => omega); (case hb => omega)); intro z9 fz9) | (k_dflt (refine' r_sub_1221 ?hn ?_; (case hn => omega)); intro z9 fz9))
local macro_rules | `(tactic| walk_at "binaryOp Mult float int") => `(tactic| first | (k_dflt (refine' r_mul_fi ?hx ?hn ?hb ?_; (case hx => first | with_reducible assumption | exact fv_295); (case hn => omega); (case hb => omega)); intro z9 fz9) | (k_dflt (refine' r_mul_36525 ?hn ?_; (case hn => omega)); intro z9 fz9) | (k_dflt (refine' r_mul_306001 ?h0 ?hn ?_; (case h0 => omega); (case hn => omega)); intro z9 fz9))
local macro_rules | `(tactic| walk_at "binaryOp Mult int float") => `(tactic| (k_dflt (refine' r_mul_if ?hx ?hn ?hb ?_; (case hx => first | with_reducible assumption | exact fv_295); (case hn => omega); (case hb => omega)); intro z9 fz9))
local macro_rules | `(tactic| walk_at "binaryOp Div float int") => `(tactic| (k_dflt (refine' r_div_fi ?hh ?hx ?hN ?h0 ?hn ?hq ?_; (case hh => rfl); (case hx => with_reducible assumption); (case hN => omega); (case h0 => omega); (case hn => omega); (case hq => omega)); intro z9 fz9))
local macro_rules | `(tactic| walk_at "binaryOp Div float float") => `(tactic| first | (k_dflt (refine' r_div_ff ?hh ?hx ?hN ?hy ?h0 ?hn ?hq ?_; (case hh => rfl); (case hx => with_reducible assumption); (case hN => omega); (case hy => first | with_reducible assumption | exact fv_295); (case h0 => omega); (case hn => omega); (case hq => omega)); intro z9 fz9) | (k_dflt (refine' r_div_36525 ?hh ?hx ?hn ?_; (case hh => rfl); (case hx => with_reducible assumption); (case hn => omega)); intro z9 fz9))
local macro_rules | `(tactic| walk_at "binaryOp Div int float") => `(tactic| (k_dflt (refine' r_div_306001 ?hh ?h0 ?hn ?_; (case hh => rfl); (case h0 => omega); (case hn => omega)); intro z9 fz9))
local macro_rules | `(tactic| walk_at "binaryOp Div int int") => `(tactic| (k_dflt (refine' r_div_ii ?hh ?hN ?h0 ?hn ?hq ?_; (case hh => rfl); (case hN => omega); (case h0 => omega); (case hn => omega); (case hq => omega)); intro z9 fz9 gz9))
local macro_rules | `(tactic| walk_at "binaryOp Mod float int") => `(tactic| (k_dflt (refine' r_mod_fi ?hh ?hx ?h0 ?hn ?_; (case hh => rfl); (case hx => with_reducible assumption); (case h0 => omega); (case hn => omega)); intro z9 fz9))
local macro_rules | `(tactic| walk_at "call builtin:math.floor") => `(tactic| ((with_reducible show wpAny _ _ (call _ [Value.float _ _]) _ _ _); k_dflt (refine' r_floor ?hh ?hx ?_; (case hh => rfl); (case hx => first | with_reducible assumption | exact fl_br (by with_reducible assumption) | exact fl_fv (by with_reducible assumption) | exact fl_gd (by with_reducible assumption)))))
local macro_rules | `(tactic| walk_at "call builtin:math.ceil") => `(tactic| ((with_reducible show wpAny _ _ (call _ [Value.float _ _]) _ _ _); k_dflt (refine' r_ceil ?hh ?hx ?_; (case hh => rfl); (case hx => first | with_reducible assumption | exact br_fv (by with_reducible assumption)))))
local macro_rules | `(tactic| walk_at "call type:int") => `(tactic| ((with_reducible show wpAny _ _ (call _ [Value.float _ _]) _ _ _); k_dflt (refine' r_int ?hh ?hx ?_; (case hh => rfl); (case hx => exact (show Fv _ _ by with_reducible assumption).1)); intro i9))
local macro_rules | `(tactic| walk_at "compareOp Lt float float") => `(tactic| (k_dflt (refine' r_lt_ff ?hx ?hy ?_; (case hx => with_reducible assumption); (case hy => with_reducible assumption))))
local macro_rules | `(tactic| walk_at "compareOp LtE float float") => `(tactic| (k_dflt (refine' r_le_ff ?hx ?hy ?_; (case hx => with_reducible assumption); (case hy => with_reducible assumption))))
local macro_rules | `(tactic| walk_at "compareOp Lt float int") => `(tactic| (k_dflt (refine' r_lt_fi ?hx ?_; (case hx => with_reducible assumption))))
local macro_rules | `(tactic| walk_at "compareOp LtE float int") => `(tactic| (k_dflt (refine' r_le_fi ?hx ?_; (case hx => with_reducible assumption))))
local macro_rules | `(tactic| walk_at "compareOp Lt int float") => `(tactic| (k_dflt (refine' r_lt_if ?hx ?_; (case hx => with_reducible assumption))))
local macro_rules | `(tactic| walk_at "compareOp LtE int float") => `(tactic| (k_dflt (refine' r_le_if ?hx ?_; (case hx => with_reducible assumption))))
local macro_rules | `(tactic| walk_at "compareOp NotEq float int") => `(tactic| (k_dflt (refine' r_ne_fi ?hx ?_; (case hx => with_reducible assumption))))
local macro_rules | `(tactic| walk_at "compareOp NotEq int float") => `(tactic| (k_dflt (refine' r_ne_if ?hx ?_; (case hx => with_reducible assumption))))
local macro_rules | `(tactic| walk_at "inplaceOp Add float float") => `(tactic| (k_dflt (refine' r_iadd_ff ?hx ?hy ?hb ?_; (case hx => with_reducible assumption); (case hy => first | with_reducible assumption | exact fv_05); (case hb => omega)); intro z9 fz9))
local macro_rules | `(tactic| walk_at "inplaceOp Add float int") => `(tactic| (k_dflt (refine' r_iadd_fi ?hh ?hx ?hn ?hb ?_; (case hh => rfl); (case hx => with_reducible assumption); (case hn => omega); (case hb => omega)); intro z9 fz9))
local macro_rules | `(tactic| walk_at "inplaceOp Sub float int") => `(tactic| (k_dflt (refine' r_isub_fi ?hh ?hx ?hn ?hb ?_; (case hh => rfl); (case hx => with_reducible assumption); (case hn => omega); (case hb => omega)); intro z9 fz9))
local macro_rules | `(tactic| walk_at "compareOp In int ref") => `(tactic| (k_dflt (refine' in_tuple_ints (ns := [4, 6, 9, 11]) (tup_in ?X ?ho ?hc) ?hi ?_; (case X => k_in); (case ho => k_is); (case hc => rfl); (case hi => (repeat constructor)))))
local macro_rules | `(tactic| walk_at "call ref") => `(tactic| ((with_reducible refine wpAny_call ?_); k_dflt (refine' code_def ?k1 ?k2 ?k3 ?k4 ?k5 ?kA ?kF ?kK ?k6 ?k7 ?k8 ?k9 ?kB ?_ ?c2 ?c3 ?c4 ?c5; (case kA => exact rfl); (case kF => exact rfl); (case kK => first | exact rfl | assumption); (case k1 => k_asm); (case k2 => k_asm); (case k3 => k_asm); (case k4 => k_asm); (case k5 => k_asm); (case k6 => k_is); (case k7 => k_is); (case k8 => ktr_room); (case k9 => exact BindsTo.of_eq rfl); (case c5 => decide); (case kB => exact locs rfl); (case c2 => exact rfl); (case c3 => exact rfl); (case c4 => exact rfl); k_whole; intro g' L' h' FG' F' N' B' X' T'; (try dsimp only); (try k_lift B'); (try k_fold))))
local macro_rules | `(tactic| walk_at "call ref") => `(tactic| (k_dflt (refine' Cl.use (c_leap_islamic _ _ _) ?B ?F ?X ?N ?T ?hk ?hdp ?hun ?_; (case B => k_asm); (case F => k_asm); (case X => k_asm); (case N => k_asm); (case T => k_asm); (case hk => first | exact rfl | assumption); (case hdp => ktr_room); (case hun => ktr_units)); intro v9 h9 tk9 p9 F9 N9; subst p9;  (try dsimp only); (try k_fold)))
local macro_rules | `(tactic| walk_at "call ref") => `(tactic| (k_dflt (refine' Cl.use (c_to_jd_islamic _ _ _ _ _ _ _ ?h0 ?h1 ?h2) ?B ?F ?X ?N ?T ?hk ?hdp ?hun ?_; (case B => k_asm); (case F => k_asm); (case X => k_asm); (case N => k_asm); (case T => k_asm); (case hk => first | exact rfl | assumption); (case hdp => ktr_room); (case hun => ktr_units); (case h0 => omega); (case h1 => omega); (case h2 => omega)); intro v9 h9 tk9 p9 F9 N9; obtain ⟨x9, k9, e9, fx9⟩ := p9; subst e9; (try dsimp only [JI] at fx9); (try dsimp only); (try k_fold)))
theorem c_year_islamic (w : World) (x : UInt64) (n : Int) (t t₀ : Tok) (hn : n.natAbs ≤ 2 * 10 ^ 9) (hx : Fv x (2 * n + 1)) : Cl 40 w 198 [.int 2 t₀, .float x t] (fun v => IsY v fun Y => JI Y 1 1 ≤ 2 * n + 1 ∧ 2 * n + 1 < JI (Y + 1) 1 1) := by
  unfold Cl
  k_fill
  intro mean mg mb news dp un gd cn cs a ccd cl outer A₀ base h₀ L m s Q E B F X N T hk hdp hun ret
  refine wpAny_call ?_
  k_dflt cell_enter
  k_steps
  exact ret _ _ _ ⟨_, _, rfl, (by unfold JI; omega), (by unfold JI; omega)⟩ (by k_asm) (by first | k_asm | exact news_tail (by assumption))
theorem c_day_islamic (w : World) (y m d : Int) (t t' t'' t₀ : Tok) (hy : y.natAbs ≤ 10 ^ 9) (hm : 1 ≤ m) (hm2 : m ≤ 12) (hd : 1 ≤ d) (hd2 : d ≤ 28) : Cl 40 w 191 [.int 2 t₀, .int y t, .int m t', .int d t''] (fun v => IsF v (JI y m d)) := by
  unfold Cl
  k_fill
  intro mean mg mb news dp un gd cn cs a ccd cl outer A₀ base h₀ L m s Q E B F X N T hk hdp hun ret
  refine wpAny_call ?_
  k_dflt cell_enter
  k_steps
  all_goals exact ret _ _ _ ⟨_, _, rfl, fv_eq (by assumption) (by first | rfl | (unfold JI; omega))⟩ (by k_asm) (by k_asm)
theorem c_long_islamic (w : World) (y : Int) (t t₀ : Tok) : Cl 40 w 205 [.int 2 t₀, .int y t] (fun v => v = .bool (decide ((y * 11 + 14) % 30 < 11))) := by
  unfold Cl
  k_fill
  intro mean mg mb news dp un gd cn cs a ccd cl outer A₀ base h₀ L m s Q E B F X N T hk hdp hun ret
  refine wpAny_call ?_
  k_dflt cell_enter
  k_steps
  all_goals exact ret _ _ _ rfl (by k_asm) (by k_asm)
end Mine
end
section
-- LC2
open PySem PySem.W PyProof.Rows
set_option Elab.async false
namespace Mine
set_option maxRecDepth 100000
set_option maxHeartbeats 8000000
set_option pp.deepTerms false
set_option pp.maxSteps 3000
local macro_rules | `(tactic| walk_at "no such key") => `(tactic| fail)
local macro_rules | `(tactic| walk_at "binaryOp Add float float") => `(tactic| (k_dflt (refine' r_add_ff ?hx ?hy ?hb ?_; (case hx => first | with_reducible assumption | exact fv_eislamic | exact fv_ecoptic | exact fv_egregorian | exact fv_05 | exact fv_15245); (case hy => first | with_reducible assumption | exact fv_eislamic | exact fv_ecoptic | exact fv_egregorian | exact fv_05 | exact fv_15245); (case hb => omega)); intro z9 fz9))
local macro_rules | `(tactic| walk_at "binaryOp Sub float float") => `(tactic| (k_dflt (refine' r_sub_ff ?hx ?hy ?hb ?_; (case hx => first | with_reducible assumption | exact fv_eislamic | exact fv_ecoptic | exact fv_egregorian | exact fv_05 | exact fv_15245); (case hy => first | with_reducible assumption | exact fv_eislamic | exact fv_ecoptic | exact fv_egregorian | exact fv_05 | exact fv_15245); (case hb => omega)); intro z9 fz9))
local macro_rules | `(tactic| walk_at "binaryOp Add float int") => `(tactic| first | (k_dflt (refine' r_add_fi ?hx ?hn ?hb ?_; (case hx => first | with_reducible assumption | exact fv_eislamic | exact fv_ecoptic | exact fv_egregorian | exact fv_05 | exact fv_15245); (case hn => omega); (case hb => omega)); intro z9 fz9) | (k_dflt (refine' r_add_gd ?hx ?hn ?hq ?_; (case hx => with_reducible assumption); (case hn => omega); (case hq => omega)); intro z9 fz9))
local macro_rules | `(tactic| walk_at "binaryOp Sub float int") => `(tactic| (k_dflt (refine' r_sub_fi ?hx ?hn ?hb ?_; (case hx => first | with_reducible assumption | exact fv_eislamic | exact fv_ecoptic | exact fv_egregorian | exact fv_05 | exact fv_15245); (case hn => omega); (case hb => omega)); intro z9 fz9))
local macro_rules | `(tactic| walk_at "binaryOp Add int float") => `(tactic| (k_dflt (refine' r_add_if ?hx ?hn ?hb ?_; (case hx => first | with_reducible assumption | exact fv_eislamic | exact fv_ecoptic | exact fv_egregorian | exact fv_05 | exact fv_15245); (case hn => omega); (case hb => omega)); intro z9 fz9))
local macro_rules | `(tactic| walk_at "binaryOp Sub int float") => `(tactic| first | (k_dflt (refine' r_sub_if ?hx ?hn ?hb ?_; (case hx => first | with_reducible assumption | exact fv_eislamic | exact fv_ecoptic | exact fv_egregorian | exact fv_05 | exact fv_15245); (case hn => omega); (case hb => omega)); intro z9 fz9) | (k_dflt (refine' r_sub_1221 ?hn ?_; (case hn => omega)); intro z9 fz9))
local macro_rules | `(tactic| walk_at "binaryOp Mult float int") => `(tactic| first | (k_dflt (refine' r_mul_fi ?hx ?hn ?hb ?_; (case hx => first | with_reducible assumption | exact fv_295); (case hn => omega); (case hb => omega)); intro z9 fz9) | (k_dflt (refine' r_mul_36525 ?hn ?_; (case hn => omega)); intro z9 fz9) | (k_dflt (refine' r_mul_306001 ?h0 ?hn ?_; (case h0 => omega); (case hn => omega)); intro z9 fz9))
local macro_rules | `(tactic| walk_at "binaryOp Mult int float") => `(tactic| (k_dflt (refine' r_mul_if ?hx ?hn ?hb ?_; (case hx => first | with_reducible assumption | exact fv_295); (case hn => omega); (case hb => omega)); intro z9 fz9))
local macro_rules | `(tactic| walk_at "binaryOp Div float int") => `(tactic| (k_dflt (refine' r_div_fi ?hh ?hx ?hN ?h0 ?hn ?hq ?_; (case hh => rfl); (case hx => with_reducible assumption); (case hN => omega); (case h0 => omega); (case hn => omega); (case hq => omega)); intro z9 fz9))
local macro_rules | `(tactic| walk_at "binaryOp Div float float") => `(tactic| first | (k_dflt (refine' r_div_ff ?hh ?hx ?hN ?hy ?h0 ?hn ?hq ?_; (case hh => rfl); (case hx => with_reducible assumption); (case hN => omega); (case hy => first | with_reducible assumption | exact fv_295); (case h0 => omega); (case hn => omega); (case hq => omega)); intro z9 fz9) | (k_dflt (refine' r_div_36525 ?hh ?hx ?hn ?_; (case hh => rfl); (case hx => with_reducible assumption); (case hn => omega)); intro z9 fz9))
local macro_rules | `(tactic| walk_at "binaryOp Div int float") => `(tactic| (k_dflt (refine' r_div_306001 ?hh ?h0 ?hn ?_; (case hh => rfl); (case h0 => omega); (case hn => omega)); intro z9 fz9))
local macro_rules | `(tactic| walk_at "binaryOp Div int int") => `(tactic| (k_dflt (refine' r_div_ii ?hh ?hN ?h0 ?hn ?hq ?_; (case hh => rfl); (case hN => omega); (case h0 => omega); (case hn => omega); (case hq => omega)); intro z9 fz9 gz9))
local macro_rules | `(tactic| walk_at "binaryOp Mod float int") => `(tactic| (k_dflt (refine' r_mod_fi ?hh ?hx ?h0 ?hn ?_; (case hh => rfl); (case hx => with_reducible assumption); (case h0 => omega); (case hn => omega)); intro z9 fz9))
local macro_rules | `(tactic| walk_at "call builtin:math.floor") => `(tactic| ((with_reducible show wpAny _ _ (call _ [Value.float _ _]) _ _ _); k_dflt (refine' r_floor ?hh ?hx ?_; (case hh => rfl); (case hx => first | with_reducible assumption | exact fl_br (by with_reducible assumption) | exact fl_fv (by with_reducible assumption) | exact fl_gd (by with_reducible assumption)))))
local macro_rules | `(tactic| walk_at "call builtin:math.ceil") => `(tactic| ((with_reducible show wpAny _ _ (call _ [Value.float _ _]) _ _ _); k_dflt (refine' r_ceil ?hh ?hx ?_; (case hh => rfl); (case hx => first | with_reducible assumption | exact br_fv (by with_reducible assumption)))))
local macro_rules | `(tactic| walk_at "call type:int") => `(tactic| ((with_reducible show wpAny _ _ (call _ [Value.float _ _]) _ _ _); k_dflt (refine' r_int ?hh ?hx ?_; (case hh => rfl); (case hx => exact (show Fv _ _ by with_reducible assumption).1)); intro i9))
local macro_rules | `(tactic| walk_at "compareOp Lt float float") => `(tactic| (k_dflt (refine' r_lt_ff ?hx ?hy ?_; (case hx => with_reducible assumption); (case hy => with_reducible assumption))))
local macro_rules | `(tactic| walk_at "compareOp LtE float float") => `(tactic| (k_dflt (refine' r_le_ff ?hx ?hy ?_; (case hx => with_reducible assumption); (case hy => with_reducible assumption))))
local macro_rules | `(tactic| walk_at "compareOp Lt float int") => `(tactic| (k_dflt (refine' r_lt_fi ?hx ?_; (case hx => with_reducible assumption))))
local macro_rules | `(tactic| walk_at "compareOp LtE float int") => `(tactic| (k_dflt (refine' r_le_fi ?hx ?_; (case hx => with_reducible assumption))))
local macro_rules | `(tactic| walk_at "compareOp Lt int float") => `(tactic| (k_dflt (refine' r_lt_if ?hx ?_; (case hx => with_reducible assumption))))
local macro_rules | `(tactic| walk_at "compareOp LtE int float") => `(tactic| (k_dflt (refine' r_le_if ?hx ?_; (case hx => with_reducible assumption))))
local macro_rules | `(tactic| walk_at "compareOp NotEq float int") => `(tactic| (k_dflt (refine' r_ne_fi ?hx ?_; (case hx => with_reducible assumption))))
local macro_rules | `(tactic| walk_at "compareOp NotEq int float") => `(tactic| (k_dflt (refine' r_ne_if ?hx ?_; (case hx => with_reducible assumption))))
local macro_rules | `(tactic| walk_at "inplaceOp Add float float") => `(tactic| (k_dflt (refine' r_iadd_ff ?hx ?hy ?hb ?_; (case hx => with_reducible assumption); (case hy => first | with_reducible assumption | exact fv_05); (case hb => omega)); intro z9 fz9))
local macro_rules | `(tactic| walk_at "inplaceOp Add float int") => `(tactic| (k_dflt (refine' r_iadd_fi ?hh ?hx ?hn ?hb ?_; (case hh => rfl); (case hx => with_reducible assumption); (case hn => omega); (case hb => omega)); intro z9 fz9))
local macro_rules | `(tactic| walk_at "inplaceOp Sub float int") => `(tactic| (k_dflt (refine' r_isub_fi ?hh ?hx ?hn ?hb ?_; (case hh => rfl); (case hx => with_reducible assumption); (case hn => omega); (case hb => omega)); intro z9 fz9))
local macro_rules | `(tactic| walk_at "compareOp In int ref") => `(tactic| (k_dflt (refine' in_tuple_ints (ns := [4, 6, 9, 11]) (tup_in ?X ?ho ?hc) ?hi ?_; (case X => k_in); (case ho => k_is); (case hc => rfl); (case hi => (repeat constructor)))))
local macro_rules | `(tactic| walk_at "call ref") => `(tactic| ((with_reducible refine wpAny_call ?_); k_dflt (refine' code_def ?k1 ?k2 ?k3 ?k4 ?k5 ?kA ?kF ?kK ?k6 ?k7 ?k8 ?k9 ?kB ?_ ?c2 ?c3 ?c4 ?c5; (case kA => exact rfl); (case kF => exact rfl); (case kK => first | exact rfl | assumption); (case k1 => k_asm); (case k2 => k_asm); (case k3 => k_asm); (case k4 => k_asm); (case k5 => k_asm); (case k6 => k_is); (case k7 => k_is); (case k8 => ktr_room); (case k9 => exact BindsTo.of_eq rfl); (case c5 => decide); (case kB => exact locs rfl); (case c2 => exact rfl); (case c3 => exact rfl); (case c4 => exact rfl); k_whole; intro g' L' h' FG' F' N' B' X' T'; (try dsimp only); (try k_lift B'); (try k_fold))))
theorem c_is_leap (w : World) (y : Int) (t : Tok) : Cl 5 w 70 [.int y t] (fun v => v = .bool (decide (y % 4 = 3))) := by
  unfold Cl
  k_fill
  intro mean mg mb news dp un gd cn cs a ccd cl outer A₀ base h₀ L m s Q E B F X N T hk hdp hun ret
  refine wpAny_call ?_
  k_dflt cell_enter
  k_steps
  all_goals (
    have e4 := Int.fmod_eq_emod_of_nonneg y (show (0:Int) ≤ 4 by decide)
    exact ret _ _ _ (congrArg Value.bool (by rw [Bool.eq_iff_iff]; simp only [bne_iff_ne, beq_iff_eq, decide_eq_true_eq]; omega)) (by k_asm) (by k_asm))
theorem c_to_jd_coptic (w : World) (y m d : Int) (t t' t'' : Tok) (hy : y.natAbs ≤ 10 ^ 9) (hm : m.natAbs ≤ 1000) (hd : d.natAbs ≤ 1000) : Cl 5 w 77 [.int y t, .int m t', .int d t''] (fun v => IsF v (JC y m d)) := by
  unfold Cl
  k_fill
  intro mean mg mb news dp un gd cn cs a ccd cl outer A₀ base h₀ L m s Q E B F X N T hk hdp hun ret
  refine wpAny_call ?_
  k_dflt cell_enter
  k_steps
  exact ret _ _ _ ⟨_, _, rfl, fv_eq (by assumption) (by unfold JC; omega)⟩ (by k_asm) (by k_asm)
local macro_rules | `(tactic| walk_at "call ref") => `(tactic| (k_dflt (refine' Cl.use (c_is_leap _ _ _) ?B ?F ?X ?N ?T ?hk ?hdp ?hun ?_; (case B => k_asm); (case F => k_asm); (case X => k_asm); (case N => k_asm); (case T => k_asm); (case hk => first | exact rfl | assumption); (case hdp => ktr_room); (case hun => ktr_units)); intro v9 h9 tk9 p9 F9 N9; subst p9;  (try dsimp only); (try k_fold)))
local macro_rules | `(tactic| walk_at "call ref") => `(tactic| (k_dflt (refine' Cl.use (c_to_jd_coptic _ _ _ _ _ _ _ ?h0 ?h1 ?h2) ?B ?F ?X ?N ?T ?hk ?hdp ?hun ?_; (case B => k_asm); (case F => k_asm); (case X => k_asm); (case N => k_asm); (case T => k_asm); (case hk => first | exact rfl | assumption); (case hdp => ktr_room); (case hun => ktr_units); (case h0 => omega); (case h1 => omega); (case h2 => omega)); intro v9 h9 tk9 p9 F9 N9; obtain ⟨x9, k9, e9, fx9⟩ := p9; subst e9; (try dsimp only [JC] at fx9); (try dsimp only); (try k_fold)))
theorem c_year_coptic (w : World) (x : UInt64) (n : Int) (t t₀ : Tok) (hn : n.natAbs ≤ 2 * 10 ^ 9) (hx : Fv x (2 * n + 1)) : Cl 40 w 198 [.int 1 t₀, .float x t] (fun v => IsY v fun Y => JC Y 1 1 ≤ 2 * n + 1 ∧ 2 * n + 1 < JC (Y + 1) 1 1) := by
  unfold Cl
  k_fill
  intro mean mg mb news dp un gd cn cs a ccd cl outer A₀ base h₀ L m s Q E B F X N T hk hdp hun ret
  refine wpAny_call ?_
  k_dflt cell_enter
  k_steps
  exact ret _ _ _ ⟨_, _, rfl, (by unfold JC; omega), (by unfold JC; omega)⟩ (by k_asm) (by first | k_asm | exact news_tail (by assumption))
theorem c_day_coptic (w : World) (y m d : Int) (t t' t'' t₀ : Tok) (hy : y.natAbs ≤ 10 ^ 9) (hm : 1 ≤ m) (hm2 : m ≤ 12) (hd : 1 ≤ d) (hd2 : d ≤ 28) : Cl 40 w 191 [.int 1 t₀, .int y t, .int m t', .int d t''] (fun v => IsF v (JC y m d)) := by
  unfold Cl
  k_fill
  intro mean mg mb news dp un gd cn cs a ccd cl outer A₀ base h₀ L m s Q E B F X N T hk hdp hun ret
  refine wpAny_call ?_
  k_dflt cell_enter
  k_steps
  all_goals exact ret _ _ _ ⟨_, _, rfl, fv_eq (by assumption) (by first | rfl | (unfold JC; omega))⟩ (by k_asm) (by k_asm)
theorem c_long_coptic (w : World) (y : Int) (t t₀ : Tok) : Cl 40 w 205 [.int 1 t₀, .int y t] (fun v => v = .bool (decide (y % 4 = 3))) := by
  unfold Cl
  k_fill
  intro mean mg mb news dp un gd cn cs a ccd cl outer A₀ base h₀ L m s Q E B F X N T hk hdp hun ret
  refine wpAny_call ?_
  k_dflt cell_enter
  k_steps
  all_goals exact ret _ _ _ rfl (by k_asm) (by k_asm)
end Mine
end
section
-- LC3
open PySem PySem.W PyProof.Rows
set_option Elab.async false
namespace Mine
set_option maxRecDepth 100000
set_option maxHeartbeats 8000000
set_option pp.deepTerms false
set_option pp.maxSteps 3000
local macro_rules | `(tactic| walk_at "no such key") => `(tactic| fail)
local macro_rules | `(tactic| walk_at "no such key") => `(tactic| fail)
local macro_rules | `(tactic| walk_at "no such key") => `(tactic| fail)
local macro_rules | `(tactic| walk_at "no such key") => `(tactic| fail)
local macro_rules | `(tactic| walk_at "binaryOp Add float float") => `(tactic| (k_dflt (refine' r_add_ff ?hx ?hy ?hb ?_; (case hx => first | with_reducible assumption | exact fv_eislamic | exact fv_ecoptic | exact fv_egregorian | exact fv_05 | exact fv_15245); (case hy => first | with_reducible assumption | exact fv_eislamic | exact fv_ecoptic | exact fv_egregorian | exact fv_05 | exact fv_15245); (case hb => omega)); intro z9 fz9))
local macro_rules | `(tactic| walk_at "binaryOp Sub float float") => `(tactic| (k_dflt (refine' r_sub_ff ?hx ?hy ?hb ?_; (case hx => first | with_reducible assumption | exact fv_eislamic | exact fv_ecoptic | exact fv_egregorian | exact fv_05 | exact fv_15245); (case hy => first | with_reducible assumption | exact fv_eislamic | exact fv_ecoptic | exact fv_egregorian | exact fv_05 | exact fv_15245); (case hb => omega)); intro z9 fz9))
local macro_rules | `(tactic| walk_at "binaryOp Add float int") => `(tactic| first | (k_dflt (refine' r_add_fi ?hx ?hn ?hb ?_; (case hx => first | with_reducible assumption | exact fv_eislamic | exact fv_ecoptic | exact fv_egregorian | exact fv_05 | exact fv_15245); (case hn => omega); (case hb => omega)); intro z9 fz9) | (k_dflt (refine' r_add_gd ?hx ?hn ?hq ?_; (case hx => with_reducible assumption); (case hn => omega); (case hq => omega)); intro z9 fz9))
local macro_rules | `(tactic| walk_at "binaryOp Sub float int") => `(tactic| (k_dflt (refine' r_sub_fi ?hx ?hn ?hb ?_; (case hx => first | with_reducible assumption | exact fv_eislamic | exact fv_ecoptic | exact fv_egregorian | exact fv_05 | exact fv_15245); (case hn => omega); (case hb => omega)); intro z9 fz9))
local macro_rules | `(tactic| walk_at "binaryOp Add int float") => `(tactic| (k_dflt (refine' r_add_if ?hx ?hn ?hb ?_; (case hx => first | with_reducible assumption | exact fv_eislamic | exact fv_ecoptic | exact fv_egregorian | exact fv_05 | exact fv_15245); (case hn => omega); (case hb => omega)); intro z9 fz9))
local macro_rules | `(tactic| walk_at "binaryOp Sub int float") => `(tactic| first | (k_dflt (refine' r_sub_if ?hx ?hn ?hb ?_; (case hx => first | with_reducible assumption | exact fv_eislamic | exact fv_ecoptic | exact fv_egregorian | exact fv_05 | exact fv_15245); (case hn => omega); (case hb => omega)); intro z9 fz9) | (k_dflt (refine' r_sub_1221 ?hn ?_; (case hn => omega)); intro z9 fz9))
local macro_rules | `(tactic| walk_at "binaryOp Mult float int") => `(tactic| first | (k_dflt (refine' r_mul_fi ?hx ?hn ?hb ?_; (case hx => first | with_reducible assumption | exact fv_295); (case hn => omega); (case hb => omega)); intro z9 fz9) | (k_dflt (refine' r_mul_36525 ?hn ?_; (case hn => omega)); intro z9 fz9) | (k_dflt (refine' r_mul_306001 ?h0 ?hn ?_; (case h0 => omega); (case hn => omega)); intro z9 fz9))
local macro_rules | `(tactic| walk_at "binaryOp Mult int float") => `(tactic| (k_dflt (refine' r_mul_if ?hx ?hn ?hb ?_; (case hx => first | with_reducible assumption | exact fv_295); (case hn => omega); (case hb => omega)); intro z9 fz9))
local macro_rules | `(tactic| walk_at "binaryOp Div float int") => `(tactic| (k_dflt (refine' r_div_fi ?hh ?hx ?hN ?h0 ?hn ?hq ?_; (case hh => rfl); (case hx => with_reducible assumption); (case hN => omega); (case h0 => omega); (case hn => omega); (case hq => omega)); intro z9 fz9))
local macro_rules | `(tactic| walk_at "binaryOp Div float float") => `(tactic| first | (k_dflt (refine' r_div_ff ?hh ?hx ?hN ?hy ?h0 ?hn ?hq ?_; (case hh => rfl); (case hx => with_reducible assumption); (case hN => omega); (case hy => first | with_reducible assumption | exact fv_295); (case h0 => omega); (case hn => omega); (case hq => omega)); intro z9 fz9) | (k_dflt (refine' r_div_36525 ?hh ?hx ?hn ?_; (case hh => rfl); (case hx => with_reducible assumption); (case hn => omega)); intro z9 fz9))
local macro_rules | `(tactic| walk_at "binaryOp Div int float") => `(tactic| (k_dflt (refine' r_div_306001 ?hh ?h0 ?hn ?_; (case hh => rfl); (case h0 => omega); (case hn => omega)); intro z9 fz9))
local macro_rules | `(tactic| walk_at "binaryOp Div int int") => `(tactic| (k_dflt (refine' r_div_ii ?hh ?hN ?h0 ?hn ?hq ?_; (case hh => rfl); (case hN => omega); (case h0 => omega); (case hn => omega); (case hq => omega)); intro z9 fz9 gz9))
local macro_rules | `(tactic| walk_at "binaryOp Mod float int") => `(tactic| (k_dflt (refine' r_mod_fi ?hh ?hx ?h0 ?hn ?_; (case hh => rfl); (case hx => with_reducible assumption); (case h0 => omega); (case hn => omega)); intro z9 fz9))
local macro_rules | `(tactic| walk_at "call builtin:math.floor") => `(tactic| ((with_reducible show wpAny _ _ (call _ [Value.float _ _]) _ _ _); k_dflt (refine' r_floor ?hh ?hx ?_; (case hh => rfl); (case hx => first | with_reducible assumption | exact fl_br (by with_reducible assumption) | exact fl_fv (by with_reducible assumption) | exact fl_gd (by with_reducible assumption)))))
local macro_rules | `(tactic| walk_at "call builtin:math.ceil") => `(tactic| ((with_reducible show wpAny _ _ (call _ [Value.float _ _]) _ _ _); k_dflt (refine' r_ceil ?hh ?hx ?_; (case hh => rfl); (case hx => first | with_reducible assumption | exact br_fv (by with_reducible assumption)))))
local macro_rules | `(tactic| walk_at "call type:int") => `(tactic| ((with_reducible show wpAny _ _ (call _ [Value.float _ _]) _ _ _); k_dflt (refine' r_int ?hh ?hx ?_; (case hh => rfl); (case hx => exact (show Fv _ _ by with_reducible assumption).1)); intro i9))
local macro_rules | `(tactic| walk_at "compareOp Lt float float") => `(tactic| (k_dflt (refine' r_lt_ff ?hx ?hy ?_; (case hx => with_reducible assumption); (case hy => with_reducible assumption))))
local macro_rules | `(tactic| walk_at "compareOp LtE float float") => `(tactic| (k_dflt (refine' r_le_ff ?hx ?hy ?_; (case hx => with_reducible assumption); (case hy => with_reducible assumption))))
local macro_rules | `(tactic| walk_at "compareOp Lt float int") => `(tactic| (k_dflt (refine' r_lt_fi ?hx ?_; (case hx => with_reducible assumption))))
local macro_rules | `(tactic| walk_at "compareOp LtE float int") => `(tactic| (k_dflt (refine' r_le_fi ?hx ?_; (case hx => with_reducible assumption))))
local macro_rules | `(tactic| walk_at "compareOp Lt int float") => `(tactic| (k_dflt (refine' r_lt_if ?hx ?_; (case hx => with_reducible assumption))))
local macro_rules | `(tactic| walk_at "compareOp LtE int float") => `(tactic| (k_dflt (refine' r_le_if ?hx ?_; (case hx => with_reducible assumption))))
local macro_rules | `(tactic| walk_at "compareOp NotEq float int") => `(tactic| (k_dflt (refine' r_ne_fi ?hx ?_; (case hx => with_reducible assumption))))
local macro_rules | `(tactic| walk_at "compareOp NotEq int float") => `(tactic| (k_dflt (refine' r_ne_if ?hx ?_; (case hx => with_reducible assumption))))
local macro_rules | `(tactic| walk_at "inplaceOp Add float float") => `(tactic| (k_dflt (refine' r_iadd_ff ?hx ?hy ?hb ?_; (case hx => with_reducible assumption); (case hy => first | with_reducible assumption | exact fv_05); (case hb => omega)); intro z9 fz9))
local macro_rules | `(tactic| walk_at "inplaceOp Add float int") => `(tactic| (k_dflt (refine' r_iadd_fi ?hh ?hx ?hn ?hb ?_; (case hh => rfl); (case hx => with_reducible assumption); (case hn => omega); (case hb => omega)); intro z9 fz9))
local macro_rules | `(tactic| walk_at "inplaceOp Sub float int") => `(tactic| (k_dflt (refine' r_isub_fi ?hh ?hx ?hn ?hb ?_; (case hh => rfl); (case hx => with_reducible assumption); (case hn => omega); (case hb => omega)); intro z9 fz9))
local macro_rules | `(tactic| walk_at "compareOp In int ref") => `(tactic| (k_dflt (refine' in_tuple_ints (ns := [4, 6, 9, 11]) (tup_in ?X ?ho ?hc) ?hi ?_; (case X => k_in); (case ho => k_is); (case hc => rfl); (case hi => (repeat constructor)))))
local macro_rules | `(tactic| walk_at "call ref") => `(tactic| ((with_reducible refine wpAny_call ?_); k_dflt (refine' code_def ?k1 ?k2 ?k3 ?k4 ?k5 ?kA ?kF ?kK ?k6 ?k7 ?k8 ?k9 ?kB ?_ ?c2 ?c3 ?c4 ?c5; (case kA => exact rfl); (case kF => exact rfl); (case kK => first | exact rfl | assumption); (case k1 => k_asm); (case k2 => k_asm); (case k3 => k_asm); (case k4 => k_asm); (case k5 => k_asm); (case k6 => k_is); (case k7 => k_is); (case k8 => ktr_room); (case k9 => exact BindsTo.of_eq rfl); (case c5 => decide); (case kB => exact locs rfl); (case c2 => exact rfl); (case c3 => exact rfl); (case c4 => exact rfl); k_whole; intro g' L' h' FG' F' N' B' X' T'; (try dsimp only); (try k_lift B'); (try k_fold))))
theorem c_isleap (w : World) (y : Int) (t : Tok) : Cl 5 w 92 [.int y t] (fun v => v = .bool (decide (y % 4 = 0 ∧ (y % 100 ≠ 0 ∨ y % 400 = 0)))) := by
  unfold Cl
  k_fill
  intro mean mg mb news dp un gd cn cs a ccd cl outer A₀ base h₀ L m s Q E B F X N T hk hdp hun ret
  refine wpAny_call ?_
  k_dflt cell_enter
  k_steps
  all_goals (
    have e4 := Int.fmod_eq_emod_of_nonneg y (show (0:Int) ≤ 4 by decide)
    have e5 := Int.fmod_eq_emod_of_nonneg y (show (0:Int) ≤ 100 by decide)
    have e6 := Int.fmod_eq_emod_of_nonneg y (show (0:Int) ≤ 400 by decide)
    exact ret _ _ _ (congrArg Value.bool (by rw [Bool.eq_iff_iff]; simp only [bne_iff_ne, beq_iff_eq, decide_eq_true_eq]; omega)) (by k_asm) (by k_asm))
local macro_rules | `(tactic| walk_at "call ref") => `(tactic| (k_dflt (refine' Cl.use (c_isleap _ _ _) ?B ?F ?X ?N ?T ?hk ?hdp ?hun ?_; (case B => k_asm); (case F => k_asm); (case X => k_asm); (case N => k_asm); (case T => k_asm); (case hk => first | exact rfl | assumption); (case hdp => ktr_room); (case hun => ktr_units)); intro v9 h9 tk9 p9 F9 N9; subst p9;  (try dsimp only); (try k_fold)))
theorem c_legal_gregorian (w : World) (y m d : Int) (t t' t'' : Tok) (h1 : 1 ≤ d) (h2 : d ≤ 28) : Cl 10 w 99 [.int y t, .int m t', .int d t''] (fun v => v = .bool true) := by
  unfold Cl
  k_fill
  intro mean mg mb news dp un gd cn cs a ccd cl outer A₀ base h₀ L m s Q E B F X N T hk hdp hun ret
  refine wpAny_call ?_
  k_dflt cell_enter
  k_steps
  all_goals exact ret _ _ _ rfl (by k_asm) (by k_asm)
local macro_rules | `(tactic| walk_at "call ref") => `(tactic| (k_dflt (refine' Cl.use (c_legal_gregorian _ _ _ _ _ _ _ ?h0 ?h1) ?B ?F ?X ?N ?T ?hk ?hdp ?hun ?_; (case B => k_asm); (case F => k_asm); (case X => k_asm); (case N => k_asm); (case T => k_asm); (case hk => first | exact rfl | assumption); (case hdp => ktr_room); (case hun => ktr_units); (case h0 => omega); (case h1 => omega)); intro v9 h9 tk9 p9 F9 N9; subst p9;  (try dsimp only); (try k_fold)))
theorem c_to_jd_gregorian (w : World) (y m d : Int) (t t' t'' : Tok) (hy : y.natAbs ≤ 10 ^ 9) (hm : 1 ≤ m) (hm2 : m ≤ 13) (hd : 1 ≤ d) (hd2 : d ≤ 28) : Cl 15 w 106 [.int y t, .int m t', .int d t''] (fun v => ∃ x k, v = .float x k ∧ Fv x (JG y m d) ∧ (JG y m d).natAbs ≤ 10 ^ 13) := by
  unfold Cl
  k_fill
  intro mean mg mb news dp un gd cn cs a ccd cl outer A₀ base h₀ L m s Q E B F X N T hk hdp hun ret
  refine wpAny_call ?_
  k_dflt cell_enter
  k_steps
  all_goals exact ret _ _ _ ⟨_, _, rfl, fv_eq (by assumption) (by unfold JG lp; omega), jg_bound hy hm hm2 hd hd2⟩ (by k_asm) (by k_asm)
end Mine
end
section
-- LC3b
open PySem PySem.W PyProof.Rows
set_option Elab.async false
namespace Mine
set_option maxRecDepth 100000
set_option maxHeartbeats 8000000
set_option pp.deepTerms false
set_option pp.maxSteps 3000
local macro_rules | `(tactic| walk_at "no such key") => `(tactic| fail)
local macro_rules | `(tactic| walk_at "binaryOp Add float float") => `(tactic| (k_dflt (refine' r_add_ff ?hx ?hy ?hb ?_; (case hx => first | with_reducible assumption | exact fv_eislamic | exact fv_ecoptic | exact fv_egregorian | exact fv_05 | exact fv_15245); (case hy => first | with_reducible assumption | exact fv_eislamic | exact fv_ecoptic | exact fv_egregorian | exact fv_05 | exact fv_15245); (case hb => omega)); intro z9 fz9))
local macro_rules | `(tactic| walk_at "binaryOp Sub float float") => `(tactic| (k_dflt (refine' r_sub_ff ?hx ?hy ?hb ?_; (case hx => first | with_reducible assumption | exact fv_eislamic | exact fv_ecoptic | exact fv_egregorian | exact fv_05 | exact fv_15245); (case hy => first | with_reducible assumption | exact fv_eislamic | exact fv_ecoptic | exact fv_egregorian | exact fv_05 | exact fv_15245); (case hb => omega)); intro z9 fz9))
local macro_rules | `(tactic| walk_at "binaryOp Add float int") => `(tactic| first | (k_dflt (refine' r_add_fi ?hx ?hn ?hb ?_; (case hx => first | with_reducible assumption | exact fv_eislamic | exact fv_ecoptic | exact fv_egregorian | exact fv_05 | exact fv_15245); (case hn => omega); (case hb => omega)); intro z9 fz9) | (k_dflt (refine' r_add_gd ?hx ?hn ?hq ?_; (case hx => with_reducible assumption); (case hn => omega); (case hq => omega)); intro z9 fz9))
local macro_rules | `(tactic| walk_at "binaryOp Sub float int") => `(tactic| (k_dflt (refine' r_sub_fi ?hx ?hn ?hb ?_; (case hx => first | with_reducible assumption | exact fv_eislamic | exact fv_ecoptic | exact fv_egregorian | exact fv_05 | exact fv_15245); (case hn => omega); (case hb => omega)); intro z9 fz9))
local macro_rules | `(tactic| walk_at "binaryOp Add int float") => `(tactic| (k_dflt (refine' r_add_if ?hx ?hn ?hb ?_; (case hx => first | with_reducible assumption | exact fv_eislamic | exact fv_ecoptic | exact fv_egregorian | exact fv_05 | exact fv_15245); (case hn => omega); (case hb => omega)); intro z9 fz9))
local macro_rules | `(tactic| walk_at "binaryOp Sub int float") => `(tactic| first | (k_dflt (refine' r_sub_if ?hx ?hn ?hb ?_; (case hx => first | with_reducible assumption | exact fv_eislamic | exact fv_ecoptic | exact fv_egregorian | exact fv_05 | exact fv_15245); (case hn => omega); (case hb => omega)); intro z9 fz9) | (k_dflt (refine' r_sub_1221 ?hn ?_; (case hn => omega)); intro z9 fz9))
local macro_rules | `(tactic| walk_at "binaryOp Mult float int") => `(tactic| first | (k_dflt (refine' r_mul_fi ?hx ?hn ?hb ?_; (case hx => first | with_reducible assumption | exact fv_295); (case hn => omega); (case hb => omega)); intro z9 fz9) | (k_dflt (refine' r_mul_36525 ?hn ?_; (case hn => omega)); intro z9 fz9) | (k_dflt (refine' r_mul_306001 ?h0 ?hn ?_; (case h0 => omega); (case hn => omega)); intro z9 fz9))
local macro_rules | `(tactic| walk_at "binaryOp Mult int float") => `(tactic| (k_dflt (refine' r_mul_if ?hx ?hn ?hb ?_; (case hx => first | with_reducible assumption | exact fv_295); (case hn => omega); (case hb => omega)); intro z9 fz9))
local macro_rules | `(tactic| walk_at "binaryOp Div float int") => `(tactic| (k_dflt (refine' r_div_fi ?hh ?hx ?hN ?h0 ?hn ?hq ?_; (case hh => rfl); (case hx => with_reducible assumption); (case hN => omega); (case h0 => omega); (case hn => omega); (case hq => omega)); intro z9 fz9))
local macro_rules | `(tactic| walk_at "binaryOp Div float float") => `(tactic| first | (k_dflt (refine' r_div_ff ?hh ?hx ?hN ?hy ?h0 ?hn ?hq ?_; (case hh => rfl); (case hx => with_reducible assumption); (case hN => omega); (case hy => first | with_reducible assumption | exact fv_295); (case h0 => omega); (case hn => omega); (case hq => omega)); intro z9 fz9) | (k_dflt (refine' r_div_36525 ?hh ?hx ?hn ?_; (case hh => rfl); (case hx => with_reducible assumption); (case hn => omega)); intro z9 fz9))
local macro_rules | `(tactic| walk_at "binaryOp Div int float") => `(tactic| (k_dflt (refine' r_div_306001 ?hh ?h0 ?hn ?_; (case hh => rfl); (case h0 => omega); (case hn => omega)); intro z9 fz9))
local macro_rules | `(tactic| walk_at "binaryOp Div int int") => `(tactic| (k_dflt (refine' r_div_ii ?hh ?hN ?h0 ?hn ?hq ?_; (case hh => rfl); (case hN => omega); (case h0 => omega); (case hn => omega); (case hq => omega)); intro z9 fz9 gz9))
local macro_rules | `(tactic| walk_at "binaryOp Mod float int") => `(tactic| (k_dflt (refine' r_mod_fi ?hh ?hx ?h0 ?hn ?_; (case hh => rfl); (case hx => with_reducible assumption); (case h0 => omega); (case hn => omega)); intro z9 fz9))
local macro_rules | `(tactic| walk_at "call builtin:math.floor") => `(tactic| ((with_reducible show wpAny _ _ (call _ [Value.float _ _]) _ _ _); k_dflt (refine' r_floor ?hh ?hx ?_; (case hh => rfl); (case hx => first | with_reducible assumption | exact fl_br (by with_reducible assumption) | exact fl_fv (by with_reducible assumption) | exact fl_gd (by with_reducible assumption)))))
local macro_rules | `(tactic| walk_at "call builtin:math.ceil") => `(tactic| ((with_reducible show wpAny _ _ (call _ [Value.float _ _]) _ _ _); k_dflt (refine' r_ceil ?hh ?hx ?_; (case hh => rfl); (case hx => first | with_reducible assumption | exact br_fv (by with_reducible assumption)))))
local macro_rules | `(tactic| walk_at "call type:int") => `(tactic| ((with_reducible show wpAny _ _ (call _ [Value.float _ _]) _ _ _); k_dflt (refine' r_int ?hh ?hx ?_; (case hh => rfl); (case hx => exact (show Fv _ _ by with_reducible assumption).1)); intro i9))
local macro_rules | `(tactic| walk_at "compareOp Lt float float") => `(tactic| (k_dflt (refine' r_lt_ff ?hx ?hy ?_; (case hx => with_reducible assumption); (case hy => with_reducible assumption))))
local macro_rules | `(tactic| walk_at "compareOp LtE float float") => `(tactic| (k_dflt (refine' r_le_ff ?hx ?hy ?_; (case hx => with_reducible assumption); (case hy => with_reducible assumption))))
local macro_rules | `(tactic| walk_at "compareOp Lt float int") => `(tactic| (k_dflt (refine' r_lt_fi ?hx ?_; (case hx => with_reducible assumption))))
local macro_rules | `(tactic| walk_at "compareOp LtE float int") => `(tactic| (k_dflt (refine' r_le_fi ?hx ?_; (case hx => with_reducible assumption))))
local macro_rules | `(tactic| walk_at "compareOp Lt int float") => `(tactic| (k_dflt (refine' r_lt_if ?hx ?_; (case hx => with_reducible assumption))))
local macro_rules | `(tactic| walk_at "compareOp LtE int float") => `(tactic| (k_dflt (refine' r_le_if ?hx ?_; (case hx => with_reducible assumption))))
local macro_rules | `(tactic| walk_at "compareOp NotEq float int") => `(tactic| (k_dflt (refine' r_ne_fi ?hx ?_; (case hx => with_reducible assumption))))
local macro_rules | `(tactic| walk_at "compareOp NotEq int float") => `(tactic| (k_dflt (refine' r_ne_if ?hx ?_; (case hx => with_reducible assumption))))
local macro_rules | `(tactic| walk_at "inplaceOp Add float float") => `(tactic| (k_dflt (refine' r_iadd_ff ?hx ?hy ?hb ?_; (case hx => with_reducible assumption); (case hy => first | with_reducible assumption | exact fv_05); (case hb => omega)); intro z9 fz9))
local macro_rules | `(tactic| walk_at "inplaceOp Add float int") => `(tactic| (k_dflt (refine' r_iadd_fi ?hh ?hx ?hn ?hb ?_; (case hh => rfl); (case hx => with_reducible assumption); (case hn => omega); (case hb => omega)); intro z9 fz9))
local macro_rules | `(tactic| walk_at "inplaceOp Sub float int") => `(tactic| (k_dflt (refine' r_isub_fi ?hh ?hx ?hn ?hb ?_; (case hh => rfl); (case hx => with_reducible assumption); (case hn => omega); (case hb => omega)); intro z9 fz9))
local macro_rules | `(tactic| walk_at "compareOp In int ref") => `(tactic| (k_dflt (refine' in_tuple_ints (ns := [4, 6, 9, 11]) (tup_in ?X ?ho ?hc) ?hi ?_; (case X => k_in); (case ho => k_is); (case hc => rfl); (case hi => (repeat constructor)))))
local macro_rules | `(tactic| walk_at "binaryOp Mod float int") => `(tactic| (k_dflt (refine' r_mod_fiO ?hh ?hx ?h0 ?hn ?_; (case hh => rfl); (case hx => with_reducible assumption); (case h0 => omega); (case hn => omega)); intro z9 m9 em9 ma9 mb9 fz9))
local macro_rules | `(tactic| walk_at "call builtin:math.floor") => `(tactic| ((with_reducible show wpAny _ _ (call _ [Value.float _ _]) _ _ _); k_dflt (refine' r_floorO ?hh ?hx ?hM ?_; (case hh => rfl); (case hx => first | with_reducible assumption | exact br_fv (by with_reducible assumption)); (case hM => omega)); intro q9 eq9 qa9 qb9))
local macro_rules | `(tactic| walk_at "call ref") => `(tactic| ((with_reducible refine wpAny_call ?_); k_dflt (refine' code_def ?k1 ?k2 ?k3 ?k4 ?k5 ?kA ?kF ?kK ?k6 ?k7 ?k8 ?k9 ?kB ?_ ?c2 ?c3 ?c4 ?c5; (case kA => exact rfl); (case kF => exact rfl); (case kK => first | exact rfl | assumption); (case k1 => k_asm); (case k2 => k_asm); (case k3 => k_asm); (case k4 => k_asm); (case k5 => k_asm); (case k6 => k_is); (case k7 => k_is); (case k8 => ktr_room); (case k9 => exact BindsTo.of_eq rfl); (case c5 => decide); (case kB => exact locs rfl); (case c2 => exact rfl); (case c3 => exact rfl); (case c4 => exact rfl); k_whole; intro g' L' h' FG' F' N' B' X' T'; (try dsimp only); (try k_lift B'); (try k_fold))))
local macro_rules | `(tactic| walk_at "exec If") => `(tactic| ((with_reducible show wpAny _ _ (exec (Stmt.If (Expr.UnaryOp _ _ _) _ _ _) _) _ _ _); (fail_if_success (have g9 := (show Gate 1 by with_reducible assumption))); refine Halt.intro ?_))
local macro_rules | `(tactic| walk_at "exec If") => `(tactic| ((with_reducible show wpAny _ _ (exec (Stmt.If (Expr.Compare _ _ _ _) _ _ _) _) _ _ _); (fail_if_success (have g9 := (show Gate 2 by with_reducible assumption))); refine Halt.intro ?_))
local macro_rules | `(tactic| walk_at "call ref") => `(tactic| (k_dflt (refine' Cl.use (c_isleap _ _ _) ?B ?F ?X ?N ?T ?hk ?hdp ?hun ?_; (case B => k_asm); (case F => k_asm); (case X => k_asm); (case N => k_asm); (case T => k_asm); (case hk => first | exact rfl | assumption); (case hdp => ktr_room); (case hun => ktr_units)); intro v9 h9 tk9 p9 F9 N9; subst p9;  (try dsimp only); (try k_fold)))
local macro_rules | `(tactic| walk_at "call ref") => `(tactic| (k_dflt (refine' Cl.use (c_to_jd_gregorian _ _ _ _ _ _ _ ?h0 ?h1 ?h2 ?h3 ?h4) ?B ?F ?X ?N ?T ?hk ?hdp ?hun ?_; (case B => k_asm); (case F => k_asm); (case X => k_asm); (case N => k_asm); (case T => k_asm); (case hk => first | exact rfl | assumption); (case hdp => ktr_room); (case hun => ktr_units); (case h0 => omega); (case h1 => omega); (case h2 => omega); (case h3 => omega); (case h4 => omega)); intro v9 h9 tk9 p9 F9 N9; obtain ⟨x9, k9, e9, fx9, bx9⟩ := p9; subst e9;  (try dsimp only); (try k_fold)))
/-- what a call of the def at f with these arguments gives: a tuple of three ints, the first with P -/
abbrev ClT (k : Nat) (w : World) (f : Addr) (vs : List Value) (P : Int → Prop) : Prop :=
  ∀ (mean : ExcName → Option Value) (mg mb : PySem.Str → Option Value) (news : List (Addr × Obj)) (dp un : Nat) (gd : Option (List Code)) (cn : PySem.Str) (cs : Scope) (a : Addr) (ccd : Value) (cl : List (PySem.Str × Addr)) (outer : List Env) (A₀ : Around) (base h₀ : Heap) (L : Addr) (m : PySem.Str → Option Value) (s : Shared) (Q E : Value → Shared → Prop),
    Below A₀ base outer h₀ → Fr h₀ L s.heap m → (hd.heap_39 w.params).In h₀ → News h₀ L s.heap news → Top hd.view_39 looseN mean mg mb h₀ → cs.kind = .function →
    dp + k < recursionLimit → un + 8 * k < cLine →
    (∀ (D : Addr) (y m₁ d₁ : Int) (t₁ t₂ t₃ : Tok) (n : Nat) (h' : Heap) (tk' : Nat), P y → Fr h₀ L h' m → News h₀ L h' ((D, { cls := .type "tuple", data := .seq #[.int y t₁, .int m₁ t₂, .int d₁ t₃] n }) :: news) → Q (.ref D) { s with heap := h', toks := tk' }) →
    wpAny (model PySem.Challenge.rw_ad5026_01.row.prog w) (ktrTop dp un gd cn cs L a ccd cl outer) (call (.ref f) vs) Q E s
theorem c_from_jd_gregorian (w : World) (x : UInt64) (n : Int) (t : Tok) (hn : n.natAbs ≤ 2 * 10 ^ 9) (hx : Fv x (2 * n + 1)) : ClT 25 w 113 [.float x t] (fun Y => JG Y 1 1 ≤ 2 * n + 1 ∧ 2 * n + 1 < JG (Y + 1) 1 1 ∧ 2 * n + 1 - JG Y 1 1 ≤ 730 ∧ Y.natAbs ≤ 10 ^ 8) := by
  unfold ClT
  k_fill
  intro mean mg mb news dp un gd cn cs a ccd cl outer A₀ base h₀ L m s Q E B F X N T hk hdp hun ret
  refine wpAny_call ?_
  k_dflt cell_enter
  k_steps
  refine Halt.out ?_
  have g1 : Gate 1 := trivial
  have gy9 := greg_year hn (by assumption) (by assumption) (by assumption) (by assumption) (by assumption) (by assumption) (by assumption) (by assumption)
  repeat (rename Br _ _ _ => h9; clear h9)
  repeat (rename Hid _ => h9; clear h9)
  repeat (rename (_ * (2 * _) ≤ _) => h9; clear h9)
  repeat (rename (_ < _ * (2 * _) + 2 * _) => h9; clear h9)
  rename Fr _ _ _ _ => F9
  rename News _ _ _ _ => N9
  refine cut1 (Str.ofString "year") (fun Y => JG Y 1 1 ≤ 2 * n + 1 ∧ 2 * n + 1 < JG (Y + 1) 1 1 ∧ 2 * n + 1 - JG Y 1 1 ≤ 730 ∧ Y.natAbs ≤ 10 ^ 8) F9 N9 ?_ ?_
  · k_fold
    k_steps
    all_goals (first | (have j9 := gy9.1 (by omega)) | (have j9 := gy9.2 (by omega)))
    all_goals exact Cut1.mk ⟨_, _, _, _, rfl, rfl, (by first | k_asm | exact fr_same (by k_asm) rfl), (by k_asm), j9⟩
  · clear gy9 F9 N9
    intro Y tY h9 tk9 p9 F9 N9
    obtain ⟨j1, j2, j3, yb⟩ := p9
    k_steps
    refine Halt.out ?_
    have g2 : Gate 2 := trivial
    rename Fr _ _ _ _ => F8
    rename News _ _ _ _ => N8
    refine cut1 (Str.ofString "leap_adj") (fun v => 0 ≤ v ∧ v ≤ 2) F8 N8 ?_ ?_
    · k_fold
      k_steps
      all_goals exact Cut1.mk ⟨_, _, _, _, rfl, rfl, (by k_asm), (by k_asm), (by constructor <;> omega)⟩
    · clear F8 N8
      intro v8 t8 h8 tk8 p8 F8 N8
      obtain ⟨v81, v82⟩ := p8
      k_steps
      exact ret _ _ _ _ _ _ _ _ _ _ ⟨j1, j2, j3, yb⟩ (by k_asm) (by k_asm)
end Mine
end
section
-- LC3c
open PySem PySem.W PyProof.Rows
set_option Elab.async false
namespace Mine
set_option maxRecDepth 100000
set_option maxHeartbeats 8000000
set_option pp.deepTerms false
set_option pp.maxSteps 3000
local macro_rules | `(tactic| walk_at "binaryOp Add float float") => `(tactic| (k_dflt (refine' r_add_ff ?hx ?hy ?hb ?_; (case hx => first | with_reducible assumption | exact fv_eislamic | exact fv_ecoptic | exact fv_egregorian | exact fv_05 | exact fv_15245); (case hy => first | with_reducible assumption | exact fv_eislamic | exact fv_ecoptic | exact fv_egregorian | exact fv_05 | exact fv_15245); (case hb => omega)); intro z9 fz9))
local macro_rules | `(tactic| walk_at "binaryOp Sub float float") => `(tactic| (k_dflt (refine' r_sub_ff ?hx ?hy ?hb ?_; (case hx => first | with_reducible assumption | exact fv_eislamic | exact fv_ecoptic | exact fv_egregorian | exact fv_05 | exact fv_15245); (case hy => first | with_reducible assumption | exact fv_eislamic | exact fv_ecoptic | exact fv_egregorian | exact fv_05 | exact fv_15245); (case hb => omega)); intro z9 fz9))
local macro_rules | `(tactic| walk_at "binaryOp Add float int") => `(tactic| first | (k_dflt (refine' r_add_fi ?hx ?hn ?hb ?_; (case hx => first | with_reducible assumption | exact fv_eislamic | exact fv_ecoptic | exact fv_egregorian | exact fv_05 | exact fv_15245); (case hn => omega); (case hb => omega)); intro z9 fz9) | (k_dflt (refine' r_add_gd ?hx ?hn ?hq ?_; (case hx => with_reducible assumption); (case hn => omega); (case hq => omega)); intro z9 fz9))
local macro_rules | `(tactic| walk_at "binaryOp Sub float int") => `(tactic| (k_dflt (refine' r_sub_fi ?hx ?hn ?hb ?_; (case hx => first | with_reducible assumption | exact fv_eislamic | exact fv_ecoptic | exact fv_egregorian | exact fv_05 | exact fv_15245); (case hn => omega); (case hb => omega)); intro z9 fz9))
local macro_rules | `(tactic| walk_at "binaryOp Add int float") => `(tactic| (k_dflt (refine' r_add_if ?hx ?hn ?hb ?_; (case hx => first | with_reducible assumption | exact fv_eislamic | exact fv_ecoptic | exact fv_egregorian | exact fv_05 | exact fv_15245); (case hn => omega); (case hb => omega)); intro z9 fz9))
local macro_rules | `(tactic| walk_at "binaryOp Sub int float") => `(tactic| first | (k_dflt (refine' r_sub_if ?hx ?hn ?hb ?_; (case hx => first | with_reducible assumption | exact fv_eislamic | exact fv_ecoptic | exact fv_egregorian | exact fv_05 | exact fv_15245); (case hn => omega); (case hb => omega)); intro z9 fz9) | (k_dflt (refine' r_sub_1221 ?hn ?_; (case hn => omega)); intro z9 fz9))
local macro_rules | `(tactic| walk_at "binaryOp Mult float int") => `(tactic| first | (k_dflt (refine' r_mul_fi ?hx ?hn ?hb ?_; (case hx => first | with_reducible assumption | exact fv_295); (case hn => omega); (case hb => omega)); intro z9 fz9) | (k_dflt (refine' r_mul_36525 ?hn ?_; (case hn => omega)); intro z9 fz9) | (k_dflt (refine' r_mul_306001 ?h0 ?hn ?_; (case h0 => omega); (case hn => omega)); intro z9 fz9))
local macro_rules | `(tactic| walk_at "binaryOp Mult int float") => `(tactic| (k_dflt (refine' r_mul_if ?hx ?hn ?hb ?_; (case hx => first | with_reducible assumption | exact fv_295); (case hn => omega); (case hb => omega)); intro z9 fz9))
local macro_rules | `(tactic| walk_at "binaryOp Div float int") => `(tactic| (k_dflt (refine' r_div_fi ?hh ?hx ?hN ?h0 ?hn ?hq ?_; (case hh => rfl); (case hx => with_reducible assumption); (case hN => omega); (case h0 => omega); (case hn => omega); (case hq => omega)); intro z9 fz9))
local macro_rules | `(tactic| walk_at "binaryOp Div float float") => `(tactic| first | (k_dflt (refine' r_div_ff ?hh ?hx ?hN ?hy ?h0 ?hn ?hq ?_; (case hh => rfl); (case hx => with_reducible assumption); (case hN => omega); (case hy => first | with_reducible assumption | exact fv_295); (case h0 => omega); (case hn => omega); (case hq => omega)); intro z9 fz9) | (k_dflt (refine' r_div_36525 ?hh ?hx ?hn ?_; (case hh => rfl); (case hx => with_reducible assumption); (case hn => omega)); intro z9 fz9))
local macro_rules | `(tactic| walk_at "binaryOp Div int float") => `(tactic| (k_dflt (refine' r_div_306001 ?hh ?h0 ?hn ?_; (case hh => rfl); (case h0 => omega); (case hn => omega)); intro z9 fz9))
local macro_rules | `(tactic| walk_at "binaryOp Div int int") => `(tactic| (k_dflt (refine' r_div_ii ?hh ?hN ?h0 ?hn ?hq ?_; (case hh => rfl); (case hN => omega); (case h0 => omega); (case hn => omega); (case hq => omega)); intro z9 fz9 gz9))
local macro_rules | `(tactic| walk_at "binaryOp Mod float int") => `(tactic| (k_dflt (refine' r_mod_fi ?hh ?hx ?h0 ?hn ?_; (case hh => rfl); (case hx => with_reducible assumption); (case h0 => omega); (case hn => omega)); intro z9 fz9))
local macro_rules | `(tactic| walk_at "call builtin:math.floor") => `(tactic| ((with_reducible show wpAny _ _ (call _ [Value.float _ _]) _ _ _); k_dflt (refine' r_floor ?hh ?hx ?_; (case hh => rfl); (case hx => first | with_reducible assumption | exact fl_br (by with_reducible assumption) | exact fl_fv (by with_reducible assumption) | exact fl_gd (by with_reducible assumption)))))
local macro_rules | `(tactic| walk_at "call builtin:math.ceil") => `(tactic| ((with_reducible show wpAny _ _ (call _ [Value.float _ _]) _ _ _); k_dflt (refine' r_ceil ?hh ?hx ?_; (case hh => rfl); (case hx => first | with_reducible assumption | exact br_fv (by with_reducible assumption)))))
local macro_rules | `(tactic| walk_at "call type:int") => `(tactic| ((with_reducible show wpAny _ _ (call _ [Value.float _ _]) _ _ _); k_dflt (refine' r_int ?hh ?hx ?_; (case hh => rfl); (case hx => exact (show Fv _ _ by with_reducible assumption).1)); intro i9))
local macro_rules | `(tactic| walk_at "compareOp Lt float float") => `(tactic| (k_dflt (refine' r_lt_ff ?hx ?hy ?_; (case hx => with_reducible assumption); (case hy => with_reducible assumption))))
local macro_rules | `(tactic| walk_at "compareOp LtE float float") => `(tactic| (k_dflt (refine' r_le_ff ?hx ?hy ?_; (case hx => with_reducible assumption); (case hy => with_reducible assumption))))
local macro_rules | `(tactic| walk_at "compareOp Lt float int") => `(tactic| (k_dflt (refine' r_lt_fi ?hx ?_; (case hx => with_reducible assumption))))
local macro_rules | `(tactic| walk_at "compareOp LtE float int") => `(tactic| (k_dflt (refine' r_le_fi ?hx ?_; (case hx => with_reducible assumption))))
local macro_rules | `(tactic| walk_at "compareOp Lt int float") => `(tactic| (k_dflt (refine' r_lt_if ?hx ?_; (case hx => with_reducible assumption))))
local macro_rules | `(tactic| walk_at "compareOp LtE int float") => `(tactic| (k_dflt (refine' r_le_if ?hx ?_; (case hx => with_reducible assumption))))
local macro_rules | `(tactic| walk_at "compareOp NotEq float int") => `(tactic| (k_dflt (refine' r_ne_fi ?hx ?_; (case hx => with_reducible assumption))))
local macro_rules | `(tactic| walk_at "compareOp NotEq int float") => `(tactic| (k_dflt (refine' r_ne_if ?hx ?_; (case hx => with_reducible assumption))))
local macro_rules | `(tactic| walk_at "inplaceOp Add float float") => `(tactic| (k_dflt (refine' r_iadd_ff ?hx ?hy ?hb ?_; (case hx => with_reducible assumption); (case hy => first | with_reducible assumption | exact fv_05); (case hb => omega)); intro z9 fz9))
local macro_rules | `(tactic| walk_at "inplaceOp Add float int") => `(tactic| (k_dflt (refine' r_iadd_fi ?hh ?hx ?hn ?hb ?_; (case hh => rfl); (case hx => with_reducible assumption); (case hn => omega); (case hb => omega)); intro z9 fz9))
local macro_rules | `(tactic| walk_at "inplaceOp Sub float int") => `(tactic| (k_dflt (refine' r_isub_fi ?hh ?hx ?hn ?hb ?_; (case hh => rfl); (case hx => with_reducible assumption); (case hn => omega); (case hb => omega)); intro z9 fz9))
local macro_rules | `(tactic| walk_at "compareOp In int ref") => `(tactic| (k_dflt (refine' in_tuple_ints (ns := [4, 6, 9, 11]) (tup_in ?X ?ho ?hc) ?hi ?_; (case X => k_in); (case ho => k_is); (case hc => rfl); (case hi => (repeat constructor)))))
local macro_rules | `(tactic| walk_at "call ref") => `(tactic| ((with_reducible refine wpAny_call ?_); k_dflt (refine' code_def ?k1 ?k2 ?k3 ?k4 ?k5 ?kA ?kF ?kK ?k6 ?k7 ?k8 ?k9 ?kB ?_ ?c2 ?c3 ?c4 ?c5; (case kA => exact rfl); (case kF => exact rfl); (case kK => first | exact rfl | assumption); (case k1 => k_asm); (case k2 => k_asm); (case k3 => k_asm); (case k4 => k_asm); (case k5 => k_asm); (case k6 => k_is); (case k7 => k_is); (case k8 => ktr_room); (case k9 => exact BindsTo.of_eq rfl); (case c5 => decide); (case kB => exact locs rfl); (case c2 => exact rfl); (case c3 => exact rfl); (case c4 => exact rfl); k_whole; intro g' L' h' FG' F' N' B' X' T'; (try dsimp only); (try k_lift B'); (try k_fold))))
local macro_rules | `(tactic| walk_at "call ref") => `(tactic| (k_dflt (refine' Cl.use (c_to_jd_gregorian _ _ _ _ _ _ _ ?h0 ?h1 ?h2 ?h3 ?h4) ?B ?F ?X ?N ?T ?hk ?hdp ?hun ?_; (case B => k_asm); (case F => k_asm); (case X => k_asm); (case N => k_asm); (case T => k_asm); (case hk => first | exact rfl | assumption); (case hdp => ktr_room); (case hun => ktr_units); (case h0 => omega); (case h1 => omega); (case h2 => omega); (case h3 => omega); (case h4 => omega)); intro v9 h9 tk9 p9 F9 N9; obtain ⟨x9, k9, e9, fx9, bx9⟩ := p9; subst e9;  (try dsimp only); (try k_fold)))
theorem ClT.use {k : Nat} {w : World} {f : Addr} {vs : List Value} {P : Int → Prop} (c : ClT k w f vs P)
    {mean : ExcName → Option Value} {mg mb : PySem.Str → Option Value} {news : List (Addr × Obj)} {dp un : Nat} {gd : Option (List Code)} {cn : PySem.Str} {cs : Scope} {a : Addr} {ccd : Value} {cl : List (PySem.Str × Addr)} {outer : List Env} {A₀ : Around} {base h₀ : Heap} {L : Addr} {m : PySem.Str → Option Value} {s : Shared} {Q E : Value → Shared → Prop}
    (B : Below A₀ base outer h₀) (F : Fr h₀ L s.heap m) (X : (hd.heap_39 w.params).In h₀) (N : News h₀ L s.heap news) (T : Top hd.view_39 looseN mean mg mb h₀) (hk : cs.kind = .function) (hd : dp + k < recursionLimit) (hu : un + 8 * k < cLine)
    (ret : ∀ (D : Addr) (y m₁ d₁ : Int) (t₁ t₂ t₃ : Tok) (n : Nat) (h' : Heap) (tk' : Nat), P y → Fr h₀ L h' m → News h₀ L h' ((D, { cls := .type "tuple", data := .seq #[.int y t₁, .int m₁ t₂, .int d₁ t₃] n }) :: news) → Q (.ref D) { s with heap := h', toks := tk' }) :
    wpAny (model PySem.Challenge.rw_ad5026_01.row.prog w) (ktrTop dp un gd cn cs L a ccd cl outer) (call (.ref f) vs) Q E s :=
  c _ _ _ _ _ _ _ _ _ _ _ _ _ _ _ _ _ _ _ _ _ B F X N T hk hd hu ret
local macro_rules | `(tactic| walk_at "call ref") => `(tactic| (k_dflt (refine' ClT.use (c_from_jd_gregorian _ _ _ _ ?h0 ?h1) ?B ?F ?X ?N ?T ?hk ?hdp ?hun ?_; (case B => k_asm); (case F => k_asm); (case X => k_asm); (case N => k_asm); (case T => k_asm); (case hk => first | exact rfl | assumption); (case hdp => ktr_room); (case hun => ktr_units); (case h1 => with_reducible assumption); (case h0 => omega)); intro D9 y9 m9 d9 t91 t92 t93 n9 h9 tk9 p9 F9 N9; (try dsimp only); (try k_fold)))
theorem c_year_gregorian (w : World) (x : UInt64) (n : Int) (t t₀ : Tok) (hn : n.natAbs ≤ 2 * 10 ^ 9) (hx : Fv x (2 * n + 1)) : Cl 40 w 198 [.int 3 t₀, .float x t] (fun v => IsY v fun Y => JG Y 1 1 ≤ 2 * n + 1 ∧ 2 * n + 1 < JG (Y + 1) 1 1) := by
  unfold Cl
  k_fill
  intro mean mg mb news dp un gd cn cs a ccd cl outer A₀ base h₀ L m s Q E B F X N T hk hdp hun ret
  refine wpAny_call ?_
  k_dflt cell_enter
  k_steps
  exact ret _ _ _ ⟨_, _, rfl, (by rename _ ∧ _ => p8; exact p8.1), (by rename _ ∧ _ => p8; exact p8.2.1)⟩ (by k_asm) (by first | k_asm | exact news_tail (by assumption))
theorem c_day_gregorian (w : World) (y m d : Int) (t t' t'' t₀ : Tok) (hy : y.natAbs ≤ 10 ^ 9) (hm : 1 ≤ m) (hm2 : m ≤ 12) (hd : 1 ≤ d) (hd2 : d ≤ 28) : Cl 40 w 191 [.int 3 t₀, .int y t, .int m t', .int d t''] (fun v => IsF v (JG y m d)) := by
  unfold Cl
  k_fill
  intro mean mg mb news dp un gd cn cs a ccd cl outer A₀ base h₀ L m s Q E B F X N T hk hdp hun ret
  refine wpAny_call ?_
  k_dflt cell_enter
  k_steps
  all_goals exact ret _ _ _ ⟨_, _, rfl, fv_eq (by assumption) (by first | rfl | (unfold JG; omega))⟩ (by k_asm) (by k_asm)
end Mine
end
section
-- LC4
open PySem PySem.W PyProof.Rows
set_option Elab.async false
namespace Mine
set_option maxRecDepth 100000
set_option maxHeartbeats 8000000
set_option pp.deepTerms false
set_option pp.maxSteps 3000
local macro_rules | `(tactic| walk_at "no such key") => `(tactic| fail)
local macro_rules | `(tactic| walk_at "binaryOp Add float float") => `(tactic| (k_dflt (refine' r_add_ff ?hx ?hy ?hb ?_; (case hx => first | with_reducible assumption | exact fv_eislamic | exact fv_ecoptic | exact fv_egregorian | exact fv_05 | exact fv_15245); (case hy => first | with_reducible assumption | exact fv_eislamic | exact fv_ecoptic | exact fv_egregorian | exact fv_05 | exact fv_15245); (case hb => omega)); intro z9 fz9))
local macro_rules | `(tactic| walk_at "binaryOp Sub float float") => `(tactic| (k_dflt (refine' r_sub_ff ?hx ?hy ?hb ?_; (case hx => first | with_reducible assumption | exact fv_eislamic | exact fv_ecoptic | exact fv_egregorian | exact fv_05 | exact fv_15245); (case hy => first | with_reducible assumption | exact fv_eislamic | exact fv_ecoptic | exact fv_egregorian | exact fv_05 | exact fv_15245); (case hb => omega)); intro z9 fz9))
local macro_rules | `(tactic| walk_at "binaryOp Add float int") => `(tactic| first | (k_dflt (refine' r_add_fi ?hx ?hn ?hb ?_; (case hx => first | with_reducible assumption | exact fv_eislamic | exact fv_ecoptic | exact fv_egregorian | exact fv_05 | exact fv_15245); (case hn => omega); (case hb => omega)); intro z9 fz9) | (k_dflt (refine' r_add_gd ?hx ?hn ?hq ?_; (case hx => with_reducible assumption); (case hn => omega); (case hq => omega)); intro z9 fz9))
local macro_rules | `(tactic| walk_at "binaryOp Sub float int") => `(tactic| (k_dflt (refine' r_sub_fi ?hx ?hn ?hb ?_; (case hx => first | with_reducible assumption | exact fv_eislamic | exact fv_ecoptic | exact fv_egregorian | exact fv_05 | exact fv_15245); (case hn => omega); (case hb => omega)); intro z9 fz9))
local macro_rules | `(tactic| walk_at "binaryOp Add int float") => `(tactic| (k_dflt (refine' r_add_if ?hx ?hn ?hb ?_; (case hx => first | with_reducible assumption | exact fv_eislamic | exact fv_ecoptic | exact fv_egregorian | exact fv_05 | exact fv_15245); (case hn => omega); (case hb => omega)); intro z9 fz9))
local macro_rules | `(tactic| walk_at "binaryOp Sub int float") => `(tactic| first | (k_dflt (refine' r_sub_if ?hx ?hn ?hb ?_; (case hx => first | with_reducible assumption | exact fv_eislamic | exact fv_ecoptic | exact fv_egregorian | exact fv_05 | exact fv_15245); (case hn => omega); (case hb => omega)); intro z9 fz9) | (k_dflt (refine' r_sub_1221 ?he ?hn ?_; (case he => with_reducible rfl); (case hn => omega)); intro z9 fz9))
local macro_rules | `(tactic| walk_at "binaryOp Mult float int") => `(tactic| first | (k_dflt (refine' r_mul_fi ?hx ?hn ?hb ?_; (case hx => first | with_reducible assumption | exact fv_295); (case hn => omega); (case hb => omega)); intro z9 fz9) | (k_dflt (refine' r_mul_36525 ?he ?hn ?_; (case he => with_reducible rfl); (case hn => omega)); intro z9 fz9) | (k_dflt (refine' r_mul_306001 ?he ?h0 ?hn ?_; (case he => with_reducible rfl); (case h0 => omega); (case hn => omega)); intro z9 fz9))
local macro_rules | `(tactic| walk_at "binaryOp Mult int float") => `(tactic| (k_dflt (refine' r_mul_if ?hx ?hn ?hb ?_; (case hx => first | with_reducible assumption | exact fv_295); (case hn => omega); (case hb => omega)); intro z9 fz9))
local macro_rules | `(tactic| walk_at "binaryOp Div float int") => `(tactic| (k_dflt (refine' r_div_fi ?hh ?hx ?hN ?h0 ?hn ?hq ?_; (case hh => rfl); (case hx => with_reducible assumption); (case hN => omega); (case h0 => omega); (case hn => omega); (case hq => omega)); intro z9 fz9))
local macro_rules | `(tactic| walk_at "binaryOp Div float float") => `(tactic| first | (k_dflt (refine' r_div_ff ?hh ?hx ?hN ?hy ?h0 ?hn ?hq ?_; (case hh => rfl); (case hx => with_reducible assumption); (case hN => omega); (case hy => first | with_reducible assumption | exact fv_295); (case h0 => omega); (case hn => omega); (case hq => omega)); intro z9 fz9) | (k_dflt (refine' r_div_36525 ?hh ?he ?hx ?hn ?_; (case hh => rfl); (case he => with_reducible rfl); (case hx => with_reducible assumption); (case hn => omega)); intro z9 fz9))
local macro_rules | `(tactic| walk_at "binaryOp Div int float") => `(tactic| (k_dflt (refine' r_div_306001 ?hh ?he ?h0 ?hn ?_; (case hh => rfl); (case he => with_reducible rfl); (case h0 => omega); (case hn => omega)); intro z9 fz9))
local macro_rules | `(tactic| walk_at "binaryOp Div int int") => `(tactic| (k_dflt (refine' r_div_ii ?hh ?hN ?h0 ?hn ?hq ?_; (case hh => rfl); (case hN => omega); (case h0 => omega); (case hn => omega); (case hq => omega)); intro z9 fz9 gz9))
local macro_rules | `(tactic| walk_at "binaryOp Mod float int") => `(tactic| (k_dflt (refine' r_mod_fi ?hh ?hx ?h0 ?hn ?_; (case hh => rfl); (case hx => with_reducible assumption); (case h0 => omega); (case hn => omega)); intro z9 fz9))
local macro_rules | `(tactic| walk_at "call builtin:math.floor") => `(tactic| ((with_reducible show wpAny _ _ (call _ [Value.float _ _]) _ _ _); k_dflt (refine' r_floor ?hh ?hx ?_; (case hh => rfl); (case hx => first | with_reducible assumption | exact fl_br (by with_reducible assumption) | exact fl_fv (by with_reducible assumption) | exact fl_gd (by with_reducible assumption)))))
local macro_rules | `(tactic| walk_at "call builtin:math.ceil") => `(tactic| ((with_reducible show wpAny _ _ (call _ [Value.float _ _]) _ _ _); k_dflt (refine' r_ceil ?hh ?hx ?_; (case hh => rfl); (case hx => first | with_reducible assumption | exact br_fv (by with_reducible assumption)))))
local macro_rules | `(tactic| walk_at "call type:int") => `(tactic| ((with_reducible show wpAny _ _ (call _ [Value.float _ _]) _ _ _); k_dflt (refine' r_int ?hh ?hx ?_; (case hh => rfl); (case hx => exact (show Fv _ _ by with_reducible assumption).1)); intro i9))
local macro_rules | `(tactic| walk_at "compareOp Lt float float") => `(tactic| (k_dflt (refine' r_lt_ff ?hx ?hy ?_; (case hx => with_reducible assumption); (case hy => with_reducible assumption))))
local macro_rules | `(tactic| walk_at "compareOp LtE float float") => `(tactic| (k_dflt (refine' r_le_ff ?hx ?hy ?_; (case hx => with_reducible assumption); (case hy => with_reducible assumption))))
local macro_rules | `(tactic| walk_at "compareOp Lt float int") => `(tactic| (k_dflt (refine' r_lt_fi ?hx ?_; (case hx => with_reducible assumption))))
local macro_rules | `(tactic| walk_at "compareOp LtE float int") => `(tactic| (k_dflt (refine' r_le_fi ?hx ?_; (case hx => with_reducible assumption))))
local macro_rules | `(tactic| walk_at "compareOp Lt int float") => `(tactic| (k_dflt (refine' r_lt_if ?hx ?_; (case hx => with_reducible assumption))))
local macro_rules | `(tactic| walk_at "compareOp LtE int float") => `(tactic| (k_dflt (refine' r_le_if ?hx ?_; (case hx => with_reducible assumption))))
local macro_rules | `(tactic| walk_at "compareOp NotEq float int") => `(tactic| (k_dflt (refine' r_ne_fi ?hx ?_; (case hx => with_reducible assumption))))
local macro_rules | `(tactic| walk_at "compareOp NotEq int float") => `(tactic| (k_dflt (refine' r_ne_if ?hx ?_; (case hx => with_reducible assumption))))
local macro_rules | `(tactic| walk_at "inplaceOp Add float float") => `(tactic| (k_dflt (refine' r_iadd_ff ?hx ?hy ?hb ?_; (case hx => with_reducible assumption); (case hy => first | with_reducible assumption | exact fv_05); (case hb => omega)); intro z9 fz9))
local macro_rules | `(tactic| walk_at "inplaceOp Add float int") => `(tactic| (k_dflt (refine' r_iadd_fi ?hh ?hx ?hn ?hb ?_; (case hh => rfl); (case hx => with_reducible assumption); (case hn => omega); (case hb => omega)); intro z9 fz9))
local macro_rules | `(tactic| walk_at "inplaceOp Sub float int") => `(tactic| (k_dflt (refine' r_isub_fi ?hh ?hx ?hn ?hb ?_; (case hh => rfl); (case hx => with_reducible assumption); (case hn => omega); (case hb => omega)); intro z9 fz9))
local macro_rules | `(tactic| walk_at "compareOp In int ref") => `(tactic| (k_dflt (refine' in_tuple_ints (ns := [4, 6, 9, 11]) (tup_in ?X ?ho ?hc) ?hi ?_; (case X => k_in); (case ho => k_is); (case hc => rfl); (case hi => (repeat constructor)))))
local macro_rules | `(tactic| walk_at "call ref") => `(tactic| ((with_reducible refine wpAny_call ?_); k_dflt (refine' code_def ?k1 ?k2 ?k3 ?k4 ?k5 ?kA ?kF ?kK ?k6 ?k7 ?k8 ?k9 ?kB ?_ ?c2 ?c3 ?c4 ?c5; (case kA => exact rfl); (case kF => exact rfl); (case kK => first | exact rfl | assumption); (case k1 => k_asm); (case k2 => k_asm); (case k3 => k_asm); (case k4 => k_asm); (case k5 => k_asm); (case k6 => k_is); (case k7 => k_is); (case k8 => ktr_room); (case k9 => exact BindsTo.of_eq rfl); (case c5 => decide); (case kB => exact locs rfl); (case c2 => exact rfl); (case c3 => exact rfl); (case c4 => exact rfl); k_whole; intro g' L' h' FG' F' N' B' X' T'; (try dsimp only); (try k_lift B'); (try k_fold))))
local macro_rules | `(tactic| walk_at "call ref") => `(tactic| (k_dflt (refine' Cl.use (c_isleap _ _ _) ?B ?F ?X ?N ?T ?hk ?hdp ?hun ?_; (case B => k_asm); (case F => k_asm); (case X => k_asm); (case N => k_asm); (case T => k_asm); (case hk => first | exact rfl | assumption); (case hdp => ktr_room); (case hun => ktr_units)); intro v9 h9 tk9 p9 F9 N9; subst p9;  (try dsimp only); (try k_fold)))
local macro_rules | `(tactic| walk_at "call ref") => `(tactic| (k_dflt (refine' Cl.use (c_to_jd_gregorian _ _ _ _ _ _ _ ?h0 ?h1 ?h2 ?h3 ?h4) ?B ?F ?X ?N ?T ?hk ?hdp ?hun ?_; (case B => k_asm); (case F => k_asm); (case X => k_asm); (case N => k_asm); (case T => k_asm); (case hk => first | exact rfl | assumption); (case hdp => ktr_room); (case hun => ktr_units); (case h0 => omega); (case h1 => omega); (case h2 => omega); (case h3 => omega); (case h4 => omega)); intro v9 h9 tk9 p9 F9 N9; obtain ⟨x9, k9, e9, fx9, bx9⟩ := p9; subst e9;  (try dsimp only); (try k_fold)))
theorem c_to_jd_indian (w : World) (y m d : Int) (t t' t'' : Tok) (hy : y.natAbs ≤ 5 * 10 ^ 8) (hm : 1 ≤ m) (hm2 : m ≤ 12) (hd : 1 ≤ d) (hd2 : d ≤ 28) : Cl 25 w 120 [.int y t, .int m t', .int d t''] (fun v => IsF v (JN y m d)) := by
  unfold Cl
  k_fill
  intro mean mg mb news dp un gd cn cs a ccd cl outer A₀ base h₀ L m s Q E B F X N T hk hdp hun ret
  refine wpAny_call ?_
  k_dflt cell_enter
  k_steps
  all_goals (first | (have hl := lp_pos (y := y + 78) (by assumption)) | (have hl := lp_neg (y := y + 78) (by assumption)))
  all_goals exact ret _ _ _ ⟨_, _, rfl, fv_eq (by assumption) (by rw [lp_dec]; unfold JN; (repeat' split) <;> omega)⟩ (by k_asm) (by k_asm)
local macro_rules | `(tactic| walk_at "call ref") => `(tactic| (k_dflt (refine' Cl.use (c_to_jd_indian _ _ _ _ _ _ _ ?h0 ?h1 ?h2 ?h3 ?h4) ?B ?F ?X ?N ?T ?hk ?hdp ?hun ?_; (case B => k_asm); (case F => k_asm); (case X => k_asm); (case N => k_asm); (case T => k_asm); (case hk => first | exact rfl | assumption); (case hdp => ktr_room); (case hun => ktr_units); (case h0 => omega); (case h1 => omega); (case h2 => omega); (case h3 => omega); (case h4 => omega)); intro v9 h9 tk9 p9 F9 N9; obtain ⟨x9, k9, e9, fx9⟩ := p9; subst e9;  (try dsimp only); (try k_fold)))
local macro_rules | `(tactic| walk_at "call ref") => `(tactic| (k_dflt (refine' ClT.use (c_from_jd_gregorian _ _ _ _ ?h0 ?h1) ?B ?F ?X ?N ?T ?hk ?hdp ?hun ?_; (case B => k_asm); (case F => k_asm); (case X => k_asm); (case N => k_asm); (case T => k_asm); (case hk => first | exact rfl | assumption); (case hdp => ktr_room); (case hun => ktr_units); (case h1 => with_reducible assumption); (case h0 => omega)); intro D9 y9 m9 d9 t91 t92 t93 n9 h9 tk9 p9 F9 N9; obtain ⟨j91, j92, j93, y91⟩ := p9; (try dsimp only); (try k_fold)))
theorem c_year_indian (w : World) (x : UInt64) (n : Int) (t t₀ : Tok) (hn : n.natAbs ≤ 2 * 10 ^ 9) (hx : Fv x (2 * n + 1)) : Cl 40 w 198 [.int 4 t₀, .float x t] (fun v => IsY v fun Y => JN Y 1 1 ≤ 2 * n + 1 ∧ 2 * n + 1 < JN (Y + 1) 1 1) := by
  unfold Cl
  k_fill
  intro mean mg mb news dp un gd cn cs a ccd cl outer A₀ base h₀ L m s Q E B F X N T hk hdp hun ret
  refine wpAny_call ?_
  k_dflt cell_enter
  k_steps
  all_goals refine ret _ _ _ ⟨_, _, rfl, ?_⟩ ?_ ?_
  all_goals first
    | with_reducible assumption
    | (with_reducible exact news_tail (by with_reducible assumption))
    | (with_reducible exact news_tail (news_tail (by with_reducible assumption)))
    | (dsimp only; (with_reducible refine ind_case1 ?_ ?_ ?_) <;> omega)
    | (dsimp only; (with_reducible refine ind_case2 ?_ ?_ ?_) <;> omega)
theorem c_day_indian (w : World) (y m d : Int) (t t' t'' t₀ : Tok) (hy : y.natAbs ≤ 5 * 10 ^ 8) (hm : 1 ≤ m) (hm2 : m ≤ 12) (hd : 1 ≤ d) (hd2 : d ≤ 28) : Cl 40 w 191 [.int 4 t₀, .int y t, .int m t', .int d t''] (fun v => IsF v (JN y m d)) := by
  unfold Cl
  k_fill
  intro mean mg mb news dp un gd cn cs a ccd cl outer A₀ base h₀ L m s Q E B F X N T hk hdp hun ret
  refine wpAny_call ?_
  k_dflt cell_enter
  k_steps
  all_goals exact ret _ _ _ ⟨_, _, rfl, fv_eq (by assumption) (by first | rfl | (unfold JN; omega))⟩ (by k_asm) (by k_asm)
end Mine
end
section
-- LC5
open PySem PySem.W PyProof.Rows
set_option Elab.async false
namespace Mine
set_option maxRecDepth 100000
set_option maxHeartbeats 8000000
set_option pp.deepTerms false
set_option pp.maxSteps 3000
local macro_rules | `(tactic| walk_at "no such key") => `(tactic| fail)
local macro_rules | `(tactic| walk_at "no such key") => `(tactic| fail)
local macro_rules | `(tactic| walk_at "no such key") => `(tactic| fail)
local macro_rules | `(tactic| walk_at "no such key") => `(tactic| fail)
local macro_rules | `(tactic| walk_at "no such key") => `(tactic| fail)
local macro_rules | `(tactic| walk_at "no such key") => `(tactic| fail)
local macro_rules | `(tactic| walk_at "binaryOp Add float float") => `(tactic| (k_dflt (refine' r_add_ff ?hx ?hy ?hb ?_; (case hx => first | with_reducible assumption | exact fv_eislamic | exact fv_ecoptic | exact fv_egregorian | exact fv_05 | exact fv_15245); (case hy => first | with_reducible assumption | exact fv_eislamic | exact fv_ecoptic | exact fv_egregorian | exact fv_05 | exact fv_15245); (case hb => omega)); intro z9 fz9))
local macro_rules | `(tactic| walk_at "binaryOp Sub float float") => `(tactic| (k_dflt (refine' r_sub_ff ?hx ?hy ?hb ?_; (case hx => first | with_reducible assumption | exact fv_eislamic | exact fv_ecoptic | exact fv_egregorian | exact fv_05 | exact fv_15245); (case hy => first | with_reducible assumption | exact fv_eislamic | exact fv_ecoptic | exact fv_egregorian | exact fv_05 | exact fv_15245); (case hb => omega)); intro z9 fz9))
local macro_rules | `(tactic| walk_at "binaryOp Add float int") => `(tactic| first | (k_dflt (refine' r_add_fi ?hx ?hn ?hb ?_; (case hx => first | with_reducible assumption | exact fv_eislamic | exact fv_ecoptic | exact fv_egregorian | exact fv_05 | exact fv_15245); (case hn => omega); (case hb => omega)); intro z9 fz9) | (k_dflt (refine' r_add_gd ?hx ?hn ?hq ?_; (case hx => with_reducible assumption); (case hn => omega); (case hq => omega)); intro z9 fz9))
local macro_rules | `(tactic| walk_at "binaryOp Sub float int") => `(tactic| (k_dflt (refine' r_sub_fi ?hx ?hn ?hb ?_; (case hx => first | with_reducible assumption | exact fv_eislamic | exact fv_ecoptic | exact fv_egregorian | exact fv_05 | exact fv_15245); (case hn => omega); (case hb => omega)); intro z9 fz9))
local macro_rules | `(tactic| walk_at "binaryOp Add int float") => `(tactic| (k_dflt (refine' r_add_if ?hx ?hn ?hb ?_; (case hx => first | with_reducible assumption | exact fv_eislamic | exact fv_ecoptic | exact fv_egregorian | exact fv_05 | exact fv_15245); (case hn => omega); (case hb => omega)); intro z9 fz9))
local macro_rules | `(tactic| walk_at "binaryOp Sub int float") => `(tactic| first | (k_dflt (refine' r_sub_if ?hx ?hn ?hb ?_; (case hx => first | with_reducible assumption | exact fv_eislamic | exact fv_ecoptic | exact fv_egregorian | exact fv_05 | exact fv_15245); (case hn => omega); (case hb => omega)); intro z9 fz9) | (k_dflt (refine' r_sub_1221 ?he ?hn ?_; (case he => with_reducible rfl); (case hn => omega)); intro z9 fz9))
local macro_rules | `(tactic| walk_at "binaryOp Mult float int") => `(tactic| first | (k_dflt (refine' r_mul_fi ?hx ?hn ?hb ?_; (case hx => first | with_reducible assumption | exact fv_295); (case hn => omega); (case hb => omega)); intro z9 fz9) | (k_dflt (refine' r_mul_36525 ?he ?hn ?_; (case he => with_reducible rfl); (case hn => omega)); intro z9 fz9) | (k_dflt (refine' r_mul_306001 ?he ?h0 ?hn ?_; (case he => with_reducible rfl); (case h0 => omega); (case hn => omega)); intro z9 fz9))
local macro_rules | `(tactic| walk_at "binaryOp Mult int float") => `(tactic| (k_dflt (refine' r_mul_if ?hx ?hn ?hb ?_; (case hx => first | with_reducible assumption | exact fv_295); (case hn => omega); (case hb => omega)); intro z9 fz9))
local macro_rules | `(tactic| walk_at "binaryOp Div float int") => `(tactic| (k_dflt (refine' r_div_fi ?hh ?hx ?hN ?h0 ?hn ?hq ?_; (case hh => rfl); (case hx => with_reducible assumption); (case hN => omega); (case h0 => omega); (case hn => omega); (case hq => omega)); intro z9 fz9))
local macro_rules | `(tactic| walk_at "binaryOp Div float float") => `(tactic| first | (k_dflt (refine' r_div_ff ?hh ?hx ?hN ?hy ?h0 ?hn ?hq ?_; (case hh => rfl); (case hx => with_reducible assumption); (case hN => omega); (case hy => first | with_reducible assumption | exact fv_295); (case h0 => omega); (case hn => omega); (case hq => omega)); intro z9 fz9) | (k_dflt (refine' r_div_36525 ?hh ?he ?hx ?hn ?_; (case hh => rfl); (case he => with_reducible rfl); (case hx => with_reducible assumption); (case hn => omega)); intro z9 fz9))
local macro_rules | `(tactic| walk_at "binaryOp Div int float") => `(tactic| (k_dflt (refine' r_div_306001 ?hh ?he ?h0 ?hn ?_; (case hh => rfl); (case he => with_reducible rfl); (case h0 => omega); (case hn => omega)); intro z9 fz9))
local macro_rules | `(tactic| walk_at "binaryOp Div int int") => `(tactic| (k_dflt (refine' r_div_ii ?hh ?hN ?h0 ?hn ?hq ?_; (case hh => rfl); (case hN => omega); (case h0 => omega); (case hn => omega); (case hq => omega)); intro z9 fz9 gz9))
local macro_rules | `(tactic| walk_at "binaryOp Mod float int") => `(tactic| (k_dflt (refine' r_mod_fi ?hh ?hx ?h0 ?hn ?_; (case hh => rfl); (case hx => with_reducible assumption); (case h0 => omega); (case hn => omega)); intro z9 fz9))
local macro_rules | `(tactic| walk_at "call builtin:math.floor") => `(tactic| ((with_reducible show wpAny _ _ (call _ [Value.float _ _]) _ _ _); k_dflt (refine' r_floor ?hh ?hx ?_; (case hh => rfl); (case hx => first | with_reducible assumption | exact fl_br (by with_reducible assumption) | exact fl_fv (by with_reducible assumption) | exact fl_gd (by with_reducible assumption)))))
local macro_rules | `(tactic| walk_at "call builtin:math.ceil") => `(tactic| ((with_reducible show wpAny _ _ (call _ [Value.float _ _]) _ _ _); k_dflt (refine' r_ceil ?hh ?hx ?_; (case hh => rfl); (case hx => first | with_reducible assumption | exact br_fv (by with_reducible assumption)))))
local macro_rules | `(tactic| walk_at "call type:int") => `(tactic| ((with_reducible show wpAny _ _ (call _ [Value.float _ _]) _ _ _); k_dflt (refine' r_int ?hh ?hx ?_; (case hh => rfl); (case hx => exact (show Fv _ _ by with_reducible assumption).1)); intro i9))
local macro_rules | `(tactic| walk_at "compareOp Lt float float") => `(tactic| (k_dflt (refine' r_lt_ff ?hx ?hy ?_; (case hx => with_reducible assumption); (case hy => with_reducible assumption))))
local macro_rules | `(tactic| walk_at "compareOp LtE float float") => `(tactic| (k_dflt (refine' r_le_ff ?hx ?hy ?_; (case hx => with_reducible assumption); (case hy => with_reducible assumption))))
local macro_rules | `(tactic| walk_at "compareOp Lt float int") => `(tactic| (k_dflt (refine' r_lt_fi ?hx ?_; (case hx => with_reducible assumption))))
local macro_rules | `(tactic| walk_at "compareOp LtE float int") => `(tactic| (k_dflt (refine' r_le_fi ?hx ?_; (case hx => with_reducible assumption))))
local macro_rules | `(tactic| walk_at "compareOp Lt int float") => `(tactic| (k_dflt (refine' r_lt_if ?hx ?_; (case hx => with_reducible assumption))))
local macro_rules | `(tactic| walk_at "compareOp LtE int float") => `(tactic| (k_dflt (refine' r_le_if ?hx ?_; (case hx => with_reducible assumption))))
local macro_rules | `(tactic| walk_at "compareOp NotEq float int") => `(tactic| (k_dflt (refine' r_ne_fi ?hx ?_; (case hx => with_reducible assumption))))
local macro_rules | `(tactic| walk_at "compareOp NotEq int float") => `(tactic| (k_dflt (refine' r_ne_if ?hx ?_; (case hx => with_reducible assumption))))
local macro_rules | `(tactic| walk_at "inplaceOp Add float float") => `(tactic| (k_dflt (refine' r_iadd_ff ?hx ?hy ?hb ?_; (case hx => with_reducible assumption); (case hy => first | with_reducible assumption | exact fv_05); (case hb => omega)); intro z9 fz9))
local macro_rules | `(tactic| walk_at "inplaceOp Add float int") => `(tactic| (k_dflt (refine' r_iadd_fi ?hh ?hx ?hn ?hb ?_; (case hh => rfl); (case hx => with_reducible assumption); (case hn => omega); (case hb => omega)); intro z9 fz9))
local macro_rules | `(tactic| walk_at "inplaceOp Sub float int") => `(tactic| (k_dflt (refine' r_isub_fi ?hh ?hx ?hn ?hb ?_; (case hh => rfl); (case hx => with_reducible assumption); (case hn => omega); (case hb => omega)); intro z9 fz9))
local macro_rules | `(tactic| walk_at "compareOp In int ref") => `(tactic| (k_dflt (refine' in_tuple_ints (ns := [4, 6, 9, 11]) (tup_in ?X ?ho ?hc) ?hi ?_; (case X => k_in); (case ho => k_is); (case hc => rfl); (case hi => (repeat constructor)))))
local macro_rules | `(tactic| walk_at "call ref") => `(tactic| ((with_reducible refine wpAny_call ?_); k_dflt (refine' code_def ?k1 ?k2 ?k3 ?k4 ?k5 ?kA ?kF ?kK ?k6 ?k7 ?k8 ?k9 ?kB ?_ ?c2 ?c3 ?c4 ?c5; (case kA => exact rfl); (case kF => exact rfl); (case kK => first | exact rfl | assumption); (case k1 => k_asm); (case k2 => k_asm); (case k3 => k_asm); (case k4 => k_asm); (case k5 => k_asm); (case k6 => k_is); (case k7 => k_is); (case k8 => ktr_room); (case k9 => exact BindsTo.of_eq rfl); (case c5 => decide); (case kB => exact locs rfl); (case c2 => exact rfl); (case c3 => exact rfl); (case c4 => exact rfl); k_whole; intro g' L' h' FG' F' N' B' X' T'; (try dsimp only); (try k_lift B'); (try k_fold))))
theorem c_leap_julian (w : World) (y : Int) (t : Tok) : Cl 5 w 135 [.int y t] (fun v => v = .bool (decide (y % 4 = 0))) := by
  unfold Cl
  k_fill
  intro mean mg mb news dp un gd cn cs a ccd cl outer A₀ base h₀ L m s Q E B F X N T hk hdp hun ret
  refine wpAny_call ?_
  k_dflt cell_enter
  k_steps
  all_goals (
    have e4 := Int.fmod_eq_emod_of_nonneg y (show (0:Int) ≤ 4 by decide)
    exact ret _ _ _ (congrArg Value.bool (by rw [Bool.eq_iff_iff]; simp only [bne_iff_ne, beq_iff_eq, decide_eq_true_eq]; omega)) (by k_asm) (by k_asm))
local macro_rules | `(tactic| walk_at "call ref") => `(tactic| (k_dflt (refine' Cl.use (c_leap_julian _ _ _) ?B ?F ?X ?N ?T ?hk ?hdp ?hun ?_; (case B => k_asm); (case F => k_asm); (case X => k_asm); (case N => k_asm); (case T => k_asm); (case hk => first | exact rfl | assumption); (case hdp => ktr_room); (case hun => ktr_units)); intro v9 h9 tk9 p9 F9 N9; subst p9;  (try dsimp only); (try k_fold)))
theorem c_legal_julian (w : World) (y m d : Int) (t t' t'' : Tok) (h1 : 1 ≤ d) (h2 : d ≤ 28) : Cl 15 w 149 [.int y t, .int m t', .int d t''] (fun v => v = .bool true) := by
  unfold Cl
  k_fill
  intro mean mg mb news dp un gd cn cs a ccd cl outer A₀ base h₀ L m s Q E B F X N T hk hdp hun ret
  refine wpAny_call ?_
  k_dflt cell_enter
  k_steps
  all_goals exact ret _ _ _ rfl (by k_asm) (by k_asm)
local macro_rules | `(tactic| walk_at "call ref") => `(tactic| (k_dflt (refine' Cl.use (c_legal_julian _ _ _ _ _ _ _ ?h0 ?h1) ?B ?F ?X ?N ?T ?hk ?hdp ?hun ?_; (case B => k_asm); (case F => k_asm); (case X => k_asm); (case N => k_asm); (case T => k_asm); (case hk => first | exact rfl | assumption); (case hdp => ktr_room); (case hun => ktr_units); (case h0 => omega); (case h1 => omega)); intro v9 h9 tk9 p9 F9 N9; subst p9;  (try dsimp only); (try k_fold)))
theorem c_to_jd_julian (w : World) (y m d : Int) (t t' t'' : Tok) (hy : y.natAbs ≤ 10 ^ 9) (hm : 1 ≤ m) (hm2 : m ≤ 12) (hd : 1 ≤ d) (hd2 : d ≤ 28) : Cl 25 w 163 [.int y t, .int m t', .int d t''] (fun v => IsF v (JJ y m d)) := by
  unfold Cl
  k_fill
  intro mean mg mb news dp un gd cn cs a ccd cl outer A₀ base h₀ L m s Q E B F X N T hk hdp hun ret
  refine wpAny_call ?_
  k_dflt cell_enter
  k_steps
  all_goals exact ret _ _ _ ⟨_, _, rfl, fv_eq (by assumption) (by unfold JJ; first | (rw [if_pos (by omega), if_pos (by omega)]; done) | (rw [if_pos (by omega), if_pos (by omega)]; omega) | (rw [if_neg (by omega), if_neg (by omega)]; done) | (rw [if_neg (by omega), if_neg (by omega)]; omega))⟩ (by k_asm) (by k_asm)
local macro_rules | `(tactic| walk_at "call ref") => `(tactic| (k_dflt (refine' Cl.use (c_to_jd_julian _ _ _ _ _ _ _ ?h0 ?h1 ?h2 ?h3 ?h4) ?B ?F ?X ?N ?T ?hk ?hdp ?hun ?_; (case B => k_asm); (case F => k_asm); (case X => k_asm); (case N => k_asm); (case T => k_asm); (case hk => first | exact rfl | assumption); (case hdp => ktr_room); (case hun => ktr_units); (case h0 => omega); (case h1 => omega); (case h2 => omega); (case h3 => omega); (case h4 => omega)); intro v9 h9 tk9 p9 F9 N9; obtain ⟨x9, k9, e9, fx9⟩ := p9; subst e9;  (try dsimp only); (try k_fold)))
theorem c_year_julian (w : World) (x : UInt64) (n : Int) (t t₀ : Tok) (hn : n.natAbs ≤ 2 * 10 ^ 9) (hx : Fv x (2 * n + 1)) : Cl 40 w 198 [.int 0 t₀, .float x t] (fun v => IsY v fun Y => JJ Y 1 1 ≤ 2 * n + 1 ∧ 2 * n + 1 < JJ (Y + 1) 1 1) := by
  unfold Cl
  k_fill
  intro mean mg mb news dp un gd cn cs a ccd cl outer A₀ base h₀ L m s Q E B F X N T hk hdp hun ret
  refine wpAny_call ?_
  k_dflt cell_enter
  k_steps
  all_goals exact ret _ _ _ ⟨_, _, rfl, (by rw [jj_jan]; omega), (by rw [jj_jan]; omega)⟩ (by k_asm) (by first | k_asm | exact news_tail (by assumption))
theorem c_day_julian (w : World) (y m d : Int) (t t' t'' t₀ : Tok) (hy : y.natAbs ≤ 10 ^ 9) (hm : 1 ≤ m) (hm2 : m ≤ 12) (hd : 1 ≤ d) (hd2 : d ≤ 28) : Cl 40 w 191 [.int 0 t₀, .int y t, .int m t', .int d t''] (fun v => IsF v (JJ y m d)) := by
  unfold Cl
  k_fill
  intro mean mg mb news dp un gd cn cs a ccd cl outer A₀ base h₀ L m s Q E B F X N T hk hdp hun ret
  refine wpAny_call ?_
  k_dflt cell_enter
  k_steps
  all_goals exact ret _ _ _ ⟨_, _, rfl, fv_eq (by assumption) (by first | rfl | (unfold JJ; omega))⟩ (by k_asm) (by k_asm)
theorem c_long_julian (w : World) (y : Int) (t t₀ : Tok) : Cl 40 w 205 [.int 0 t₀, .int y t] (fun v => v = .bool (decide (y % 4 = 0))) := by
  unfold Cl
  k_fill
  intro mean mg mb news dp un gd cn cs a ccd cl outer A₀ base h₀ L m s Q E B F X N T hk hdp hun ret
  refine wpAny_call ?_
  k_dflt cell_enter
  k_steps
  all_goals exact ret _ _ _ rfl (by k_asm) (by k_asm)
end Mine
end
section
-- LPure2
set_option Elab.async false
namespace Mine
theorem jj_odd (y m d : Int) : JJ y m d % 2 = 1 := by unfold JJ; omega
theorem jc_odd (y m d : Int) : JC y m d % 2 = 1 := by unfold JC; omega
theorem ji_odd (y m d : Int) : JI y m d % 2 = 1 := by unfold JI; omega
theorem jg_odd (y m d : Int) : JG y m d % 2 = 1 := by unfold JG; omega
theorem jn_odd (y m d : Int) : JN y m d % 2 = 1 := by
  unfold JN
  have h := jg_odd (y + 78) 3 (22 - lp (y + 78))
  generalize JG (y + 78) 3 (22 - lp (y + 78)) = g at *
  split
  · omega
  · split <;> split <;> omega
theorem jj_bound {y m d : Int} (hm : 1 ≤ m) (hm2 : m ≤ 12) (hd : 1 ≤ d) (hd2 : d ≤ 28) : (JJ y m d).natAbs ≤ 734 * y.natAbs + 10 ^ 7 := by
  unfold JJ
  by_cases h : m ≤ 2
  · simp only [h, if_true]; omega
  · simp only [h, if_false]; omega
theorem jc_bound {y m d : Int} (hm : 1 ≤ m) (hm2 : m ≤ 12) (hd : 1 ≤ d) (hd2 : d ≤ 28) : (JC y m d).natAbs ≤ 734 * y.natAbs + 10 ^ 7 := by unfold JC; omega
theorem ji_bound {y m d : Int} (hm : 1 ≤ m) (hm2 : m ≤ 12) (hd : 1 ≤ d) (hd2 : d ≤ 28) : (JI y m d).natAbs ≤ 734 * y.natAbs + 10 ^ 7 := by unfold JI; omega
theorem jg_bound2 {y m d : Int} (hm : 1 ≤ m) (hm2 : m ≤ 12) (hd : 1 ≤ d) (hd2 : d ≤ 28) : (JG y m d).natAbs ≤ 734 * y.natAbs + 10 ^ 7 := by
  have := lp_01 y
  unfold JG
  generalize lp y = l at *
  by_cases h : m ≤ 2
  · simp only [h, if_true]; omega
  · simp only [h, if_false]; omega
theorem jn_bound {y m d : Int} (hm : 1 ≤ m) (hm2 : m ≤ 12) (hd : 1 ≤ d) (hd2 : d ≤ 28) : (JN y m d).natAbs ≤ 734 * y.natAbs + 10 ^ 7 := by
  have h0 := lp_01 (y + 78)
  unfold JN
  rw [jg_mar, jg_jan]
  unfold G1
  generalize lp (y + 78) = l at *
  split
  · omega
  · split <;> split <;> omega
theorem jj_year {Y N : Int} (h1 : JJ Y 1 1 ≤ N) (h2 : N < JJ (Y + 1) 1 1) : Y.natAbs ≤ N.natAbs + 10 ^ 4 := by
  rw [jj_jan] at *; omega
theorem jc_year {Y N : Int} (h1 : JC Y 1 1 ≤ N) (h2 : N < JC (Y + 1) 1 1) : Y.natAbs ≤ N.natAbs + 10 ^ 4 := by
  unfold JC at *; omega
theorem ji_year {Y N : Int} (h1 : JI Y 1 1 ≤ N) (h2 : N < JI (Y + 1) 1 1) : Y.natAbs ≤ N.natAbs + 10 ^ 4 := by
  unfold JI at *; omega
theorem jg_year {Y N : Int} (h1 : JG Y 1 1 ≤ N) (h2 : N < JG (Y + 1) 1 1) : Y.natAbs ≤ N.natAbs + 10 ^ 4 := by
  rw [jg_jan] at *; unfold G1 at *; omega
theorem jn_year {Y N : Int} (h1 : JN Y 1 1 ≤ N) (h2 : N < JN (Y + 1) 1 1) : Y.natAbs ≤ N.natAbs + 10 ^ 4 := by
  rw [jn_first, jg_jan] at *; unfold G1 at *; omega
end Mine
end
section
-- LPure5
set_option Elab.async false
namespace Mine
theorem jj_yr {Y N : Int} (h1 : JJ Y 1 1 ≤ N) (h2 : N < JJ (Y + 1) 1 1) (a : -3100000000 ≤ N) (b : N ≤ 3100000000) : -10000000 ≤ Y ∧ Y ≤ 10000000 := by
  rw [jj_jan] at *; omega
theorem jc_yr {Y N : Int} (h1 : JC Y 1 1 ≤ N) (h2 : N < JC (Y + 1) 1 1) (a : -3100000000 ≤ N) (b : N ≤ 3100000000) : -10000000 ≤ Y ∧ Y ≤ 10000000 := by
  unfold JC at *; omega
theorem ji_yr {Y N : Int} (h1 : JI Y 1 1 ≤ N) (h2 : N < JI (Y + 1) 1 1) (a : -3100000000 ≤ N) (b : N ≤ 3100000000) : -10000000 ≤ Y ∧ Y ≤ 10000000 := by
  unfold JI at *; omega
theorem jg_yr {Y N : Int} (h1 : JG Y 1 1 ≤ N) (h2 : N < JG (Y + 1) 1 1) (a : -3100000000 ≤ N) (b : N ≤ 3100000000) : -10000000 ≤ Y ∧ Y ≤ 10000000 := by
  rw [jg_jan] at *; unfold G1 at *; omega
theorem jn_yr {Y N : Int} (h1 : JN Y 1 1 ≤ N) (h2 : N < JN (Y + 1) 1 1) (a : -3100000000 ≤ N) (b : N ≤ 3100000000) : -10000000 ≤ Y ∧ Y ≤ 10000000 := by
  rw [jn_first, jg_jan] at *; unfold G1 at *; omega
end Mine
end
section
-- LPure3
set_option Elab.async false
namespace Mine
-- julian
theorem jj_lo {y m d : Int} (h : m ≤ 2) : JJ y m d = 2 * (1461 * (y + 4715) / 4 + 306001 * (m + 13) / 10000 + d) - 3049 := by
  unfold JJ; simp only [h, if_true]
  rw [show y - 1 + 4716 = y + 4715 by omega, show m + 12 + 1 = m + 13 by omega]
theorem jj_hi {y m d : Int} (h : ¬ m ≤ 2) : JJ y m d = 2 * (1461 * (y + 4716) / 4 + 306001 * (m + 1) / 10000 + d) - 3049 := by
  unfold JJ; simp only [h, if_false]
theorem jj_day {y c m d : Int} : 2 * ((c * 1461) / 4) ≤ JJ (y + c) m d - JJ y m d ∧ JJ (y + c) m d - JJ y m d ≤ 2 * (-((-c * 1461) / 4)) := by
  by_cases h : m ≤ 2
  · rw [jj_lo h, jj_lo h]
    generalize 306001 * (m + 13) / 10000 = q
    omega
  · rw [jj_hi h, jj_hi h]
    generalize 306001 * (m + 1) / 10000 = q
    omega
theorem jj_in {y m d : Int} (hm : 1 ≤ m) (hm2 : m ≤ 12) (hd : 1 ≤ d) (hd2 : d ≤ 28) : JJ y 1 1 ≤ JJ y m d ∧ JJ y m d < JJ (y + 1) 1 1 := by
  rw [jj_jan, jj_jan]
  by_cases h : m ≤ 2
  · rw [jj_lo h]; omega
  · rw [jj_hi h]; omega
theorem jj_told {y m d c t : Int} (hm : 1 ≤ m) (hm2 : m ≤ 12) (hd : 1 ≤ d) (hd2 : d ≤ 28) (h1 : JJ t 1 1 ≤ JJ y m d + 2 * c) (h2 : JJ y m d + 2 * c < JJ (t + 1) 1 1) : (c * 4) / 1461 ≤ t - y ∧ t - y ≤ -((-c * 4) / 1461) := by
  have ⟨h3, h4⟩ := jj_in (y := y) hm hm2 hd hd2
  have ho := jj_odd y m d
  generalize JJ y m d = N at *
  rw [jj_jan] at *
  omega
-- coptic
theorem jc_day {y c m d : Int} : 2 * ((c * 1461) / 4) ≤ JC (y + c) m d - JC y m d ∧ JC (y + c) m d - JC y m d ≤ 2 * (-((-c * 1461) / 4)) := by
  unfold JC; omega
theorem jc_in {y m d : Int} (hm : 1 ≤ m) (hm2 : m ≤ 12) (hd : 1 ≤ d) (hd2 : d ≤ 28) : JC y 1 1 ≤ JC y m d ∧ JC y m d < JC (y + 1) 1 1 := by
  unfold JC; omega
theorem jc_told {y m d c t : Int} (hm : 1 ≤ m) (hm2 : m ≤ 12) (hd : 1 ≤ d) (hd2 : d ≤ 28) (h1 : JC t 1 1 ≤ JC y m d + 2 * c) (h2 : JC y m d + 2 * c < JC (t + 1) 1 1) : (c * 4) / 1461 ≤ t - y ∧ t - y ≤ -((-c * 4) / 1461) := by
  have ⟨h3, h4⟩ := jc_in (y := y) hm hm2 hd hd2
  have ho := jc_odd y m d
  generalize JC y m d = N at *
  unfold JC at *
  omega
-- islamic
theorem ji_day {y c m d : Int} : 2 * ((c * 10631) / 30) ≤ JI (y + c) m d - JI y m d ∧ JI (y + c) m d - JI y m d ≤ 2 * (-((-c * 10631) / 30)) := by
  unfold JI
  generalize -((-(59 * (m - 1))) / 2) = q
  omega
theorem ji_in {y m d : Int} (hm : 1 ≤ m) (hm2 : m ≤ 12) (hd : 1 ≤ d) (hd2 : d ≤ 28) : JI y 1 1 ≤ JI y m d ∧ JI y m d < JI (y + 1) 1 1 := by
  unfold JI; omega
theorem ji_told {y m d c t : Int} (hm : 1 ≤ m) (hm2 : m ≤ 12) (hd : 1 ≤ d) (hd2 : d ≤ 28) (h1 : JI t 1 1 ≤ JI y m d + 2 * c) (h2 : JI y m d + 2 * c < JI (t + 1) 1 1) : (c * 30) / 10631 ≤ t - y ∧ t - y ≤ -((-c * 30) / 10631) := by
  have ⟨h3, h4⟩ := ji_in (y := y) hm hm2 hd hd2
  have ho := ji_odd y m d
  generalize JI y m d = N at *
  unfold JI at *
  omega
theorem ji_turn1 (c d : Int) : JI (30 * c + 27) 2 d - JI (30 * c + 16) 11 d = 2 * 3634 := by unfold JI; omega
theorem ji_turn2 (c d : Int) : JI (30 * c + 46) 11 d - JI (30 * c + 27) 2 d = 2 * 6997 := by unfold JI; omega
theorem ji_dev (a b d : Int) (h1 : 0 ≤ b) (h2 : b < 12) : -844 ≤ 360 * (JI a (b + 1) d - (2 * (d - 354) + 3896879 - 2)) - 21262 * (12 * a + b) ∧ 360 * (JI a (b + 1) d - (2 * (d - 354) + 3896879 - 2)) - 21262 * (12 * a + b) ≤ 410 := by
  unfold JI
  rw [show b + 1 - 1 = b by omega]
  rcases (show b = 0 ∨ b = 1 ∨ b = 2 ∨ b = 3 ∨ b = 4 ∨ b = 5 ∨ b = 6 ∨ b = 7 ∨ b = 8 ∨ b = 9 ∨ b = 10 ∨ b = 11 by omega) with rfl | rfl | rfl | rfl | rfl | rfl | rfl | rfl | rfl | rfl | rfl | rfl <;> omega
theorem ji_months {y m d c M Q R : Int} (hm : 1 ≤ m) (hm2 : m ≤ 12) (e : M = 12 * y + m - 1 + c) (hQ : Q = M / 12) (hR : R = M % 12) : 2 * (-627) ≤ (JI Q (R + 1) d - JI y m d) * 360 - 2 * (10631 * c) ∧ (JI Q (R + 1) d - JI y m d) * 360 - 2 * (10631 * c) ≤ 2 * 627 := by
  have h1 := ji_dev Q R d (by omega) (by omega)
  have h2 := ji_dev y (m - 1) d (by omega) (by omega)
  rw [show m - 1 + 1 = m by omega] at h2
  omega
-- gregorian
/-- leap days of the years up to z -/
def Lz (z : Int) : Int := z / 4 - z / 100 + z / 400
theorem lz_dev (z : Int) : -591 ≤ 400 * Lz z - 97 * z ∧ 400 * Lz z - 97 * z ≤ 288 := by
  unfold Lz; omega
theorem lz_step (y : Int) : Lz y = Lz (y - 1) + lp y := by
  unfold Lz lp
  split <;> omega
theorem jg_lz {y m d : Int} : JG y m d = 3442851 - 2 + 2 * (365 * (y - 1) + Lz (if m ≤ 2 then y - 1 else y) + (367 * m - 362) / 12 + (if m ≤ 2 then 0 else -2) + d) := by
  unfold JG
  have h := lz_step y
  split
  · rename_i hm; unfold Lz; omega
  · rename_i hm; rw [h]; unfold Lz; omega
theorem jg_stray {y c m d : Int} : 2 * (-879) ≤ (JG (y + c) m d - JG y m d) * 400 - 2 * (146097 * c) ∧ (JG (y + c) m d - JG y m d) * 400 - 2 * (146097 * c) ≤ 2 * 879 := by
  rw [jg_lz, jg_lz]
  generalize (367 * m - 362) / 12 = q
  split
  · have h1 := lz_dev (y - 1)
    have h2 := lz_dev (y + c - 1)
    omega
  · have h1 := lz_dev y
    have h2 := lz_dev (y + c)
    omega
theorem jg_in {y m d : Int} (hm : 1 ≤ m) (hm2 : m ≤ 12) (hd : 1 ≤ d) (hd2 : d ≤ 28) : JG y 1 1 ≤ JG y m d ∧ JG y m d < JG (y + 1) 1 1 := by
  have h0 := lp_01 y
  have h := lz_step y
  have e : G1 y = 365 * (y - 1) + Lz (y - 1) := by unfold G1 Lz; omega
  have e2 : G1 (y + 1) = 365 * y + Lz y := by unfold G1 Lz; rw [show y + 1 - 1 = y by omega]; omega
  rw [jg_jan, jg_jan, jg_lz, e, e2]
  split <;> omega
theorem g1_stray (y t : Int) : -879 ≤ 400 * (G1 t - G1 y) - 146097 * (t - y) ∧ 400 * (G1 t - G1 y) - 146097 * (t - y) ≤ 879 := by
  have e : ∀ z, G1 z = 365 * (z - 1) + Lz (z - 1) := fun z => by unfold G1 Lz; omega
  rw [e, e]
  have h1 := lz_dev (y - 1)
  have h2 := lz_dev (t - 1)
  omega
theorem jg_told {y m d c t : Int} (hm : 1 ≤ m) (hm2 : m ≤ 12) (hd : 1 ≤ d) (hd2 : d ≤ 28) (h1 : JG t 1 1 ≤ JG y m d + 2 * c) (h2 : JG y m d + 2 * c < JG (t + 1) 1 1) : 146097 * (t - y - 1) - 879 < 400 * c ∧ 400 * c < 146097 * (t - y + 1) + 879 := by
  have ⟨h3, h4⟩ := jg_in (y := y) hm hm2 hd hd2
  have s1 := g1_stray (y + 1) t
  have s2 := g1_stray y (t + 1)
  have ho := jg_odd y m d
  generalize JG y m d = N at *
  rw [jg_jan] at *
  omega
theorem jg_turn1 {c a : Int} (ha : a = 0) : JG (400 * c - a + 304) 1 1 - JG (400 * c - a + 97) 1 1 = 2 * 75603 := by
  subst ha; rw [jg_jan, jg_jan]; unfold G1; omega
theorem jg_turn2 {c a : Int} (ha : a = 0) : JG (400 * c - a + 497) 1 1 - JG (400 * c - a + 304) 1 1 = 2 * 70494 := by
  subst ha; rw [jg_jan, jg_jan]; unfold G1; omega
-- indian
theorem jn_lz {y m d : Int} : JN y m d = 3442851 + 2 * (365 * (y + 77) + Lz (if m = 1 then y + 77 else y + 78)) + 160 + (if m = 1 then 0 else 2 * 30 + 2 * (31 * (if m - 2 ≤ 5 then m - 2 else 5)) + (if 8 ≤ m then 2 * (30 * (m - 7)) else 0)) + 2 * (d - 1) := by
  unfold JN
  have h := lz_step (y + 78)
  rw [show y + 78 - 1 = y + 77 by omega] at h
  have e : G1 (y + 78) = 365 * (y + 77) + Lz (y + 77) := by unfold G1 Lz; rw [show y + 78 - 1 = y + 77 by omega]; omega
  rw [jg_mar, jg_jan, e]
  split
  · omega
  · rw [h]; omega
theorem jn_stray {y c m d : Int} : 2 * (-879) ≤ (JN (y + c) m d - JN y m d) * 400 - 2 * (146097 * c) ∧ (JN (y + c) m d - JN y m d) * 400 - 2 * (146097 * c) ≤ 2 * 879 := by
  rw [jn_lz, jn_lz]
  generalize (if m = 1 then (0 : Int) else 2 * 30 + 2 * (31 * (if m - 2 ≤ 5 then m - 2 else 5)) + (if 8 ≤ m then 2 * (30 * (m - 7)) else 0)) = q
  split
  · have h1 := lz_dev (y + 77)
    have h2 := lz_dev (y + c + 77)
    omega
  · have h1 := lz_dev (y + 78)
    have h2 := lz_dev (y + c + 78)
    omega
theorem jn_in {y m d : Int} (hm : 1 ≤ m) (hm2 : m ≤ 12) (hd : 1 ≤ d) (hd2 : d ≤ 28) : JN y 1 1 ≤ JN y m d ∧ JN y m d < JN (y + 1) 1 1 := by
  have h0 := lp_01 (y + 78)
  have h := lz_step (y + 78)
  rw [show y + 78 - 1 = y + 77 by omega] at h
  rw [jn_lz, jn_lz (y := y) (m := m), jn_lz]
  simp only [if_true]
  rw [show y + 1 + 77 = y + 78 by omega]
  split
  · omega
  · split <;> split <;> omega
theorem jn_told {y m d c t : Int} (hm : 1 ≤ m) (hm2 : m ≤ 12) (hd : 1 ≤ d) (hd2 : d ≤ 28) (h1 : JN t 1 1 ≤ JN y m d + 2 * c) (h2 : JN y m d + 2 * c < JN (t + 1) 1 1) : 146097 * (t - y - 1) - 879 < 400 * c ∧ 400 * c < 146097 * (t - y + 1) + 879 := by
  have ⟨h3, h4⟩ := jn_in (y := y) hm hm2 hd hd2
  have s1 := g1_stray (y + 1 + 78) (t + 78)
  have s2 := g1_stray (y + 78) (t + 1 + 78)
  have ho := jn_odd y m d
  generalize JN y m d = N at *
  simp only [jn_first, jg_jan] at *
  omega
theorem jn_turn1 {c a : Int} (ha : a = 78) : JN (400 * c - a + 304) 1 1 - JN (400 * c - a + 97) 1 1 = 2 * 75603 := by
  subst ha; rw [jn_first, jn_first, jg_jan, jg_jan]; unfold G1; omega
theorem jn_turn2 {c a : Int} (ha : a = 78) : JN (400 * c - a + 497) 1 1 - JN (400 * c - a + 304) 1 1 = 2 * 70494 := by
  subst ha; rw [jn_first, jn_first, jg_jan, jg_jan]; unfold G1; omega
end Mine
end
section
-- LPure4
open PySem PySem.W PyProof.Rows
set_option Elab.async false
namespace Mine
/-- the places kept -/
def keep (P : Int → Prop) [DecidablePred P] (y : Int) (l : List Int) (k : Int) : List Int := if P (y + k) then l ++ [k] else l
theorem keep_grows (P : Int → Prop) [DecidablePred P] (y : Int) : KPfGrows (keep P y) := by
  intro l k
  unfold keep
  split
  · simp
  · omega
theorem rangeKs_succ (n : Nat) : rangeKs 0 (n + 1) = rangeKs 0 n ++ [(n : Int)] := by
  unfold rangeKs
  rw [List.range_succ, List.map_append, List.map_cons, List.map_nil, Int.zero_add]
theorem cnt {P : Int → Prop} [DecidablePred P] {f : Int → Int} {p y : Int} (step : ∀ z, f (z + 1) = f z + 2 * p + (if P z then 2 else 0)) :
    ∀ n : Nat, 2 * (((rangeKs 0 n).foldl (keep P y) []).length : Int) = f (y + n) - f y - 2 * (p * n)
  | 0 => by simp [rangeKs]
  | n + 1 => by
    have ih := cnt (y := y) step n
    have s := step (y + n)
    rw [rangeKs_succ, List.foldl_append, List.foldl_cons, List.foldl_nil]
    rw [show y + ((n + 1 : Nat) : Int) = y + n + 1 by omega, s, show p * ((n + 1 : Nat) : Int) = p * n + p by rw [Int.natCast_add, Int.mul_add]; simp]
    generalize (rangeKs 0 n).foldl (keep P y) [] = l at *
    unfold keep
    split
    · simp only [List.length_append, List.length_cons, List.length_nil]; omega
    · omega
theorem jj_cnt (n : Nat) (y : Int) : 2 * (((rangeKs 0 n).foldl (keep (fun z => z % 4 = 0) y) []).length : Int) = JJ (y + n) 1 1 - JJ y 1 1 - 2 * (365 * n) :=
  cnt (f := fun z => JJ z 1 1) (fun z => by
    rw [jj_jan, jj_jan]
    have h : z % 4 = 0 ∨ z % 4 = 1 ∨ z % 4 = 2 ∨ z % 4 = 3 := by omega
    have e : z = 4 * (z / 4) + z % 4 := by omega
    generalize z / 4 = q at e
    rcases h with h | h | h | h <;> rw [h] at e ⊢ <;> subst e <;> split <;> omega) n
theorem jc_cnt (n : Nat) (y : Int) : 2 * (((rangeKs 0 n).foldl (keep (fun z => z % 4 = 3) y) []).length : Int) = JC (y + n) 1 1 - JC y 1 1 - 2 * (365 * n) :=
  cnt (f := fun z => JC z 1 1) (fun z => by unfold JC; split <;> omega) n
theorem ji_cnt (n : Nat) (y : Int) : 2 * (((rangeKs 0 n).foldl (keep (fun z => (z * 11 + 14) % 30 < 11) y) []).length : Int) = JI (y + n) 1 1 - JI y 1 1 - 2 * (354 * n) :=
  cnt (f := fun z => JI z 1 1) (fun z => by
    unfold JI
    have e1 : 3 + 11 * (z + 1) = z * 11 + 14 := by omega
    have e2 : 3 + 11 * z = z * 11 + 14 - 11 := by omega
    rw [e1, e2]
    generalize z * 11 + 14 = A
    split <;> omega) n
theorem jj_called {y n c : Int} (h : 2 * c = JJ (y + n) 1 1 - JJ y 1 1 - 2 * (365 * n)) : (n * 1) / 4 ≤ c ∧ c ≤ -((-n * 1) / 4) := by
  have := jj_day (y := y) (c := n) (m := 1) (d := 1)
  omega
theorem jc_called {y n c : Int} (h : 2 * c = JC (y + n) 1 1 - JC y 1 1 - 2 * (365 * n)) : (n * 1) / 4 ≤ c ∧ c ≤ -((-n * 1) / 4) := by
  have := jc_day (y := y) (c := n) (m := 1) (d := 1)
  omega
theorem ji_called {y n c : Int} (h : 2 * c = JI (y + n) 1 1 - JI y 1 1 - 2 * (354 * n)) : (n * 11) / 30 ≤ c ∧ c ≤ -((-n * 11) / 30) := by
  have := ji_day (y := y) (c := n) (m := 1) (d := 1)
  omega
end Mine
end
section
-- LLoop
open PySem PySem.W PyProof.Rows PySem.Spec
set_option Elab.async false
namespace Mine
/-- a turn's end: on to the rest -/
structure TEnd (h₀ : Heap) (L : Addr) (s₁ : Shared) (I : Addr) (it : Obj) (rest : (PySem.Str → Option Value) → List (Addr × Obj) → Prop) (f : Flow) (s₂ : Shared) : Prop where
  nxt : f = .next
  out : UnrEnd h₀ L s₁ I it rest s₂
section
variable {prog : Program} {w : World} {A : Around} {E : Value → Shared → Prop} {s : Shared} {env : Env} {h₀ : Heap} {x : PySem.Str} {px : Pos} {body : List Stmt} {Q : Flow → Shared → Prop}
/-- the turns of a loop over a range, whatever its target's kind, one by one -/
def TRest (prog : Program) (w : World) (A : Around) (E : Value → Shared → Prop) (h₀ : Heap) (env : Env) (x : PySem.Str) (px : Pos) (body : List Stmt) (Q : Flow → Shared → Prop) (s : Shared) (I : Addr) (a : Int) (n : Nat) : Nat → Nat → (PySem.Str → Option Value) → List (Addr × Obj) → Prop
  | 0, _, m, news => ∀ h tk, Fr h₀ env.locals h m → News h₀ env.locals h news → Q .next { s with heap := h, toks := tk }
  | k + 1, i, m, news => ∀ t (s₁ : Shared), Fr h₀ env.locals s₁.heap m → News h₀ env.locals s₁.heap ((I, itR (a + ((i + 1 : Nat) : Int)) ((n : Int) - ((i + 1 : Nat) : Int))) :: news) →
      wpAny (model prog w) A (assign (.Name x px) env (.int (a + (i : Int)) t)) (fun _ s₃ => wpAny (model prog w) A (execs body env) (TEnd h₀ env.locals s₁ I (itR (a + ((i + 1 : Nat) : Int)) ((n : Int) - ((i + 1 : Nat) : Int))) (TRest prog w A E h₀ env x px body Q s I a n k (i + 1))) E s₃) E s₁
theorem TRest.zero {I : Addr} {a : Int} {n i : Nat} {m : PySem.Str → Option Value} {news : List (Addr × Obj)} (h : ∀ h tk, Fr h₀ env.locals h m → News h₀ env.locals h news → Q .next { s with heap := h, toks := tk }) :
    TRest prog w A E h₀ env x px body Q s I a n 0 i m news := h
theorem TRest.succ {I : Addr} {a : Int} {n k i : Nat} {m : PySem.Str → Option Value} {news : List (Addr × Obj)}
    (h : ∀ t (s₁ : Shared), Fr h₀ env.locals s₁.heap m → News h₀ env.locals s₁.heap ((I, itR (a + ((i + 1 : Nat) : Int)) ((n : Int) - ((i + 1 : Nat) : Int))) :: news) →
      wpAny (model prog w) A (assign (.Name x px) env (.int (a + (i : Int)) t)) (fun _ s₃ => wpAny (model prog w) A (execs body env) (TEnd h₀ env.locals s₁ I (itR (a + ((i + 1 : Nat) : Int)) ((n : Int) - ((i + 1 : Nat) : Int))) (TRest prog w A E h₀ env x px body Q s I a n k (i + 1))) E s₃) E s₁) :
    TRest prog w A E h₀ env x px body Q s I a n (k + 1) i m news := h
theorem iter_rangeT {r : Addr} {a₀ b₀ : Int} {t₀ u₀ v₀ : Tok} {n : Nat} {m₀ : PySem.Str → Option Value} {news : List (Addr × Obj)}
    (hh : A.handled = none) (hr : IsRange s.heap r a₀ b₀ 1 t₀ u₀ v₀) (hsmall : Builtin.Range.small a₀ b₀ 1 = true) (hn : Builtin.Range.rangeSize a₀ b₀ 1 = (n : Int)) (F : Fr h₀ env.locals s.heap m₀) (N : News h₀ env.locals s.heap news)
    (rest₀ : ∀ I : Addr, (∀ p ∈ news, p.1 < I) → TRest prog w A E h₀ env x px body Q s I a₀ n n 0 m₀ news) :
    wpAny (model prog w) A (pyIter (.ref r)) (fun it s₂ => LoopAtT prog w A h₀ env (.Name x px) body Q E it s₂) E s := by
  refine wpAny_pyIter_range hr hsmall ?_
  have rest := rest₀ s.heap.objs.size fun p hp => Heap.lt_size (N p hp).1
  have W : Walks prog w A s.heap.objs.size [s.heap.objs.size] [s.heap.objs.size] n (fun i v => i < n ∧ ∃ t, v = .int (a₀ + i * 1) t)
      (fun i h => IsRangeIter h s.heap.objs.size (a₀ + (i : Nat) * 1) ((n : Int) - (i : Nat)) 1) := (Walks.range hh _ a₀ 1 n).bound
  have hnew := next_is_new F
  let J : Nat → (PySem.Str → Option Value) → List (Addr × Obj) → Prop := fun i m₁ news₁ => TRest prog w A E h₀ env x px body Q s s.heap.objs.size a₀ n (n - i) i m₁ news₁
  refine ⟨_, _, _, n, _, _, m₀, news, J, rfl, W, ?_, ?_, ?_, (by show IsRangeIter _ _ _ _ _; rw [hn]; simpa using Heap.get?_push_size _ rfl), F.push _, (fun p hp => ⟨Heap.get?_push_of_some _ (N p hp).1, (N p hp).2⟩), ?_, rest, ?_, ?_⟩
  · intro hm
    exact absurd F.ns.lt ((List.mem_singleton.mp hm) ▸ Nat.lt_irrefl _)
  · intro b hb
    rw [List.mem_singleton.mp hb]
    exact hnew
  · intro p hp hI
    exact absurd (Heap.lt_size (N p hp).1) ((List.mem_singleton.mp hI) ▸ Nat.lt_irrefl _)
  · intro i s' v Q' _ hQ'
    exact wpAny_pure hQ'
  · rintro i v m₁ news₁ s₁ own hin ⟨_, t, rfl⟩ hJ hoff hown hget hall hst F₁ N₁
    have hst' : s₁.heap.get? s.heap.objs.size = some (itR (a₀ + ((i + 1 : Nat) : Int)) ((n : Int) - ((i + 1 : Nat) : Int))) := by
      have q : IsRangeIter s₁.heap s.heap.objs.size (a₀ + ((i + 1 : Nat) : Int) * 1) ((n : Int) - ((i + 1 : Nat) : Int)) 1 := hst
      rw [Int.mul_one] at q
      exact q
    have hmem := hall s.heap.objs.size (List.mem_singleton.mpr rfl) hnew _ hst'
    have hkk : n - i = (n - (i + 1)) + 1 := by omega
    have hJ' : TRest prog w A E h₀ env x px body Q s s.heap.objs.size a₀ n ((n - (i + 1)) + 1) i m₁ news₁ := by rw [← hkk]; exact hJ
    rw [Int.mul_one]
    have N₂ : News h₀ env.locals s₁.heap ((s.heap.objs.size, itR (a₀ + ((i + 1 : Nat) : Int)) ((n : Int) - ((i + 1 : Nat) : Int))) :: news₁) := fun p hp => by
      rcases List.mem_cons.mp hp with rfl | hp
      · exact N₁ _ (List.mem_append_left _ hmem)
      · exact N₁ _ (List.mem_append_right _ hp)
    refine wpAny_mono (hJ' t s₁ F₁ N₂) (fun _ s₃ h₃ => wpAny_mono h₃ (fun f s₂ p => ?_) fun _ _ e => e) fun _ _ e => e
    obtain ⟨rfl, h', tk, m', news', e, F', N', ho, r⟩ := p
    refine ⟨rfl, h', tk, m', news', e, F', fun p hp => ?_, fun p hp hI => ho p hp (List.mem_singleton.mp hI), r⟩
    rcases List.mem_append.mp hp with hp | hp
    · have h1 : p.1 = s.heap.objs.size := List.mem_singleton.mp (hown p hp)
      have h2 : s₁.heap.get? p.1 = some p.2 := hget p hp
      have h3 : p = (s.heap.objs.size, itR (a₀ + ((i + 1 : Nat) : Int)) ((n : Int) - ((i + 1 : Nat) : Int))) := by
        rw [h1, hst'] at h2
        exact Prod.ext h1 (Option.some.inj h2).symm
      rw [h3]; exact N' _ (List.mem_cons_self ..)
    · exact N' _ (List.mem_cons_of_mem _ hp)
  · rintro h' tk m' news' F' N' _ hJ
    have hJ' : TRest prog w A E h₀ env x px body Q s s.heap.objs.size a₀ n 0 n m' news' := by
      have z : n - n = 0 := Nat.sub_self n
      have q : TRest prog w A E h₀ env x px body Q s s.heap.objs.size a₀ n (n - n) n m' news' := hJ
      rw [z] at q; exact q
    exact hJ' h' tk F' N'

/-- three turns, the ints written -/
def WRest (prog : Program) (w : World) (A : Around) (E : Value → Shared → Prop) (h₀ : Heap) (env : Env) (x : PySem.Str) (px : Pos) (body : List Stmt) (Q : Flow → Shared → Prop) (s : Shared) (I : Addr) : List Int → (PySem.Str → Option Value) → List (Addr × Obj) → Prop
  | [], m, news => ∀ h tk, Fr h₀ env.locals h m → News h₀ env.locals h news → Q .next { s with heap := h, toks := tk }
  | k :: r, m, news => ∀ t (it : Obj) (s₁ : Shared), it.cls = .type "range_iterator" → Fr h₀ env.locals s₁.heap m → News h₀ env.locals s₁.heap ((I, it) :: news) →
      wpAny (model prog w) A (assign (.Name x px) env (.int k t)) (fun _ s₃ => wpAny (model prog w) A (execs body env) (TEnd h₀ env.locals s₁ I it (WRest prog w A E h₀ env x px body Q s I r)) E s₃) E s₁
theorem WRest.zero {I : Addr} {m : PySem.Str → Option Value} {news : List (Addr × Obj)} (h : ∀ h tk, Fr h₀ env.locals h m → News h₀ env.locals h news → Q .next { s with heap := h, toks := tk }) :
    WRest prog w A E h₀ env x px body Q s I [] m news := h
theorem WRest.succ {I : Addr} {k : Int} {r : List Int} {m : PySem.Str → Option Value} {news : List (Addr × Obj)}
    (h : ∀ t (it : Obj) (s₁ : Shared), it.cls = .type "range_iterator" → Fr h₀ env.locals s₁.heap m → News h₀ env.locals s₁.heap ((I, it) :: news) →
      wpAny (model prog w) A (assign (.Name x px) env (.int k t)) (fun _ s₃ => wpAny (model prog w) A (execs body env) (TEnd h₀ env.locals s₁ I it (WRest prog w A E h₀ env x px body Q s I r)) E s₃) E s₁) :
    WRest prog w A E h₀ env x px body Q s I (k :: r) m news := h
theorem UnrEnd.mono {L : Addr} {s₁ : Shared} {I : Addr} {it : Obj} {rest rest' : (PySem.Str → Option Value) → List (Addr × Obj) → Prop} {s₂ : Shared} (h : UnrEnd h₀ L s₁ I it rest s₂) (r : ∀ m n, rest m n → rest' m n) : UnrEnd h₀ L s₁ I it rest' s₂ := by
  obtain ⟨h', tk, m', news', e, F', N', ho, q⟩ := h
  exact ⟨h', tk, m', news', e, F', N', ho, r _ _ q⟩
theorem TEnd.mono {L : Addr} {s₁ : Shared} {I : Addr} {it : Obj} {rest rest' : (PySem.Str → Option Value) → List (Addr × Obj) → Prop} {f : Flow} {s₂ : Shared} (h : TEnd h₀ L s₁ I it rest f s₂) (r : ∀ m n, rest m n → rest' m n) : TEnd h₀ L s₁ I it rest' f s₂ := ⟨h.nxt, UnrEnd.mono h.out r⟩
theorem turn_of {I : Addr} {k : Int} {r : List Int} {m : PySem.Str → Option Value} {news : List (Addr × Obj)} {n j i : Nat} (hk : (0 : Int) + (i : Int) = k)
    (ih : ∀ m' n', WRest prog w A E h₀ env x px body Q s I r m' n' → TRest prog w A E h₀ env x px body Q s I 0 n j (i + 1) m' n')
    (h : WRest prog w A E h₀ env x px body Q s I (k :: r) m news) : TRest prog w A E h₀ env x px body Q s I 0 n (j + 1) i m news := by
  subst hk
  intro t s₁ F N
  exact wpAny_mono (h t _ s₁ rfl F N) (fun _ s₃ q => wpAny_mono q (fun _ _ p => p.mono ih) fun _ _ e => e) fun _ _ e => e
theorem iter_range3 {r : Addr} {t₀ u₀ v₀ : Tok} {m₀ : PySem.Str → Option Value} {news : List (Addr × Obj)}
    (hh : A.handled = none) (hr : IsRange s.heap r 0 3 1 t₀ u₀ v₀) (F : Fr h₀ env.locals s.heap m₀) (N : News h₀ env.locals s.heap news)
    (rest₀ : ∀ I : Addr, (∀ p ∈ news, p.1 < I) → WRest prog w A E h₀ env x px body Q s I [0, 1, 2] m₀ news) :
    wpAny (model prog w) A (pyIter (.ref r)) (fun it s₂ => LoopAtT prog w A h₀ env (.Name x px) body Q E it s₂) E s :=
  iter_rangeT (n := 3) hh hr (by decide) (by decide) F N fun I hI =>
    turn_of (r := [1, 2]) rfl (fun _ _ => turn_of (r := [2]) rfl fun _ _ => turn_of (r := []) rfl fun _ _ h => h) (rest₀ I hI)
/-- the same over a list of the call's own -/
def LRest (prog : Program) (w : World) (A : Around) (E : Value → Shared → Prop) (h₀ : Heap) (env : Env) (x : PySem.Str) (px : Pos) (body : List Stmt) (Q : Flow → Shared → Prop) (s : Shared) (I : Addr) (lp : Addr × Obj) : List Value → (PySem.Str → Option Value) → List (Addr × Obj) → Prop
  | [], m, news => ∀ h tk, Fr h₀ env.locals h m → News h₀ env.locals h news → Q .next { s with heap := h, toks := tk }
  | v :: r, m, news => ∀ (it : Obj) (s₁ : Shared), it.cls = .type "list_iterator" → Fr h₀ env.locals s₁.heap m → News h₀ env.locals s₁.heap ((I, it) :: news) →
      wpAny (model prog w) A (assign (.Name x px) env v) (fun _ s₃ => wpAny (model prog w) A (execs body env) (TEnd h₀ env.locals s₁ I it (fun m' n' => lp ∈ n' ∧ LRest prog w A E h₀ env x px body Q s I lp r m' n')) E s₃) E s₁
theorem LRest.zero {I : Addr} {lp : Addr × Obj} {m : PySem.Str → Option Value} {news : List (Addr × Obj)} (h : ∀ h tk, Fr h₀ env.locals h m → News h₀ env.locals h news → Q .next { s with heap := h, toks := tk }) :
    LRest prog w A E h₀ env x px body Q s I lp [] m news := h
theorem LRest.succ {I : Addr} {lp : Addr × Obj} {v : Value} {r : List Value} {m : PySem.Str → Option Value} {news : List (Addr × Obj)}
    (h : ∀ (it : Obj) (s₁ : Shared), it.cls = .type "list_iterator" → Fr h₀ env.locals s₁.heap m → News h₀ env.locals s₁.heap ((I, it) :: news) →
      wpAny (model prog w) A (assign (.Name x px) env v) (fun _ s₃ => wpAny (model prog w) A (execs body env) (TEnd h₀ env.locals s₁ I it (fun m' n' => lp ∈ n' ∧ LRest prog w A E h₀ env x px body Q s I lp r m' n')) E s₃) E s₁) :
    LRest prog w A E h₀ env x px body Q s I lp (v :: r) m news := h
theorem iter_listT {ax : Addr} {lo : Obj} {vs : List Value} {n : Nat} {m₀ : PySem.Str → Option Value} {news : List (Addr × Obj)}
    (hh : A.handled = none) (F : Fr h₀ env.locals s.heap m₀) (N : News h₀ env.locals s.heap news) (hm : (ax, lo) ∈ news) (hc : lo.cls = .type "list") (hd : lo.data = .seq vs.toArray n)
    (rest₀ : ∀ I : Addr, (∀ p ∈ news, p.1 < I) → LRest prog w A E h₀ env x px body Q s I (ax, lo) vs m₀ news) :
    wpAny (model prog w) A (pyIter (.ref ax)) (fun it s₂ => LoopAtT prog w A h₀ env (.Name x px) body Q E it s₂) E s := by
  have hax := N _ hm
  have hl : s.heap.IsList ax vs.toArray := ⟨lo, hax.1, hc, n, hd⟩
  have hlt : ax < s.heap.objs.size := Heap.lt_size hax.1
  have hne : ax ≠ s.heap.objs.size := Nat.ne_of_lt hlt
  refine wpAny_pyIter_list hl ?_
  have rest := rest₀ s.heap.objs.size fun p hp => Heap.lt_size (N p hp).1
  have W := Walks.list (prog := prog) (w := w) hh s.heap.objs.size ax hne vs.toArray
  have hnew := next_is_new F
  have hlen : vs.toArray.size = vs.length := by simp
  rw [hlen] at W
  let J : Nat → (PySem.Str → Option Value) → List (Addr × Obj) → Prop := fun i m₁ news₁ => (ax, lo) ∈ news₁ ∧ LRest prog w A E h₀ env x px body Q s s.heap.objs.size (ax, lo) (vs.drop i) m₁ news₁
  refine ⟨_, _, _, vs.length, _, _, m₀, news, J, rfl, W, ?_, ?_, ?_, ⟨⟨_, Heap.get?_push_size _ rfl, rfl, rfl⟩, hl.at fun o e => Heap.get?_push_of_some _ e⟩, F.push _, (fun p hp => ⟨Heap.get?_push_of_some _ (N p hp).1, (N p hp).2⟩), ?_, ⟨hm, by rw [List.drop_zero]; exact rest⟩, ?_, ?_⟩
  · intro hmm
    rcases List.mem_cons.mp hmm with e | hmm
    · exact absurd F.ns.lt (e ▸ Nat.lt_irrefl _)
    · exact hax.2.1 (List.mem_singleton.mp hmm).symm
  · intro b hb
    rw [List.mem_singleton.mp hb]
    exact hnew
  · intro p hp hI
    exact absurd (Heap.lt_size (N p hp).1) ((List.mem_singleton.mp hI) ▸ Nat.lt_irrefl _)
  · intro i s' v Q' _ hQ'
    exact wpAny_pure hQ'
  · rintro i v m₁ news₁ s₁ own hin hP ⟨hmem₁, hJ⟩ hoff hown hget hall hst F₁ N₁
    obtain ⟨it, hit, hic, hid⟩ := hst.1
    have hmemI := hall s.heap.objs.size (List.mem_cons_self ..) hnew _ hit
    have hdrop : vs.drop i = v :: vs.drop (i + 1) := by
      have hlt' : i < vs.length := hin
      have hv : vs[i]? = some v := by simpa using hP
      rw [List.drop_eq_getElem_cons hlt']
      congr 1
      exact Option.some.inj ((List.getElem?_eq_getElem hlt').symm.trans hv)
    rw [hdrop] at hJ
    have N₂ : News h₀ env.locals s₁.heap ((s.heap.objs.size, it) :: news₁) := fun p hp => by
      rcases List.mem_cons.mp hp with rfl | hp
      · exact N₁ _ (List.mem_append_left _ hmemI)
      · exact N₁ _ (List.mem_append_right _ hp)
    refine wpAny_mono (hJ it s₁ hic F₁ N₂) (fun _ s₃ h₃ => wpAny_mono h₃ (fun f s₂ p => ?_) fun _ _ e => e) fun _ _ e => e
    obtain ⟨rfl, h', tk, m', news', e, F', N', ho, hmm, r⟩ := p
    refine ⟨rfl, h', tk, m', news', e, F', fun p hp => ?_, fun p hp hI => ho p hp (List.mem_singleton.mp hI), hmm, r⟩
    rcases List.mem_append.mp hp with hp | hp
    · have h2 : s₁.heap.get? p.1 = some p.2 := hget p hp
      rcases List.mem_cons.mp (hown p hp) with h1 | h1
      · have h3 : p = (s.heap.objs.size, it) := by
          rw [h1, hit] at h2
          exact Prod.ext h1 (Option.some.inj h2).symm
        rw [h3]; exact N' _ (List.mem_cons_self ..)
      · have h1' : p.1 = ax := List.mem_singleton.mp h1
        have h3 : p = (ax, lo) := by
          rw [h1', (N₁ _ (List.mem_append_right _ hmem₁)).1] at h2
          exact Prod.ext h1' (Option.some.inj h2).symm
        rw [h3]; exact N' _ (List.mem_cons_of_mem _ hmm)
    · exact N' _ (List.mem_cons_of_mem _ hp)
  · rintro h' tk m' news' F' N' _ ⟨_, hJ⟩
    have z : vs.drop vs.length = [] := List.drop_length
    rw [z] at hJ
    exact hJ h' tk F' N'
end

theorem r_mod_iiO {prog : Program} {w : World} {A : Around} {E : Value → Shared → Prop} {s : Shared} {a b : Int} {t u : Tok} {Q : Value → Shared → Prop} (hb : 0 < b)
    (h : ∀ M : Int, Hid (M = a % b) → 0 ≤ M → M < b → Q (.int M s.toks) { s with toks := s.toks + 1 }) :
    wpAny (model prog w) A (binaryOp .Mod (.int a t) (.int b u)) Q E s :=
  PyProof.Rows.mod_int' (show b ≠ 0 by omega) (by rw [Int.fmod_eq_emod_of_nonneg a (by omega)]; exact h _ ⟨rfl⟩ (Int.emod_nonneg a (by omega)) (Int.emod_lt_of_pos a hb))
theorem r_div_iiO {prog : Program} {w : World} {A : Around} {E : Value → Shared → Prop} {s : Shared} {a b : Int} {t u : Tok} {Q : Value → Shared → Prop} (hb : 0 < b) (hb2 : b.natAbs < 1073741824)
    (h : Q (.int (a / b) s.toks) { s with toks := s.toks + 1 }) :
    wpAny (model prog w) A (binaryOp .FloorDiv (.int a t) (.int b u)) Q E s :=
  floordiv_int (by omega) (by rw [Int.fdiv_eq_ediv_of_nonneg a (by omega)]; exact h) (Or.inl (PyProof.noPylong_small hb2))
end Mine
end
section
-- LLaw
open PySem PySem.W PyProof.Rows
set_option Elab.async false
namespace Mine
set_option maxRecDepth 100000
set_option maxHeartbeats 8000000
set_option pp.deepTerms false
set_option pp.maxSteps 3000
local macro_rules | `(tactic| walk_at "binaryOp Add float float") => `(tactic| (k_dflt (refine' r_add_ff ?hx ?hy ?hb ?_; (case hx => first | with_reducible assumption | exact fv_eislamic | exact fv_ecoptic | exact fv_egregorian | exact fv_05 | exact fv_15245); (case hy => first | with_reducible assumption | exact fv_eislamic | exact fv_ecoptic | exact fv_egregorian | exact fv_05 | exact fv_15245); (case hb => omega)); intro z9 fz9))
local macro_rules | `(tactic| walk_at "binaryOp Sub float float") => `(tactic| (k_dflt (refine' r_sub_ff ?hx ?hy ?hb ?_; (case hx => first | with_reducible assumption | exact fv_eislamic | exact fv_ecoptic | exact fv_egregorian | exact fv_05 | exact fv_15245); (case hy => first | with_reducible assumption | exact fv_eislamic | exact fv_ecoptic | exact fv_egregorian | exact fv_05 | exact fv_15245); (case hb => omega)); intro z9 fz9))
local macro_rules | `(tactic| walk_at "binaryOp Add float int") => `(tactic| first | (k_dflt (refine' r_add_fi ?hx ?hn ?hb ?_; (case hx => first | with_reducible assumption | exact fv_eislamic | exact fv_ecoptic | exact fv_egregorian | exact fv_05 | exact fv_15245); (case hn => omega); (case hb => omega)); intro z9 fz9) | (k_dflt (refine' r_add_gd ?hx ?hn ?hq ?_; (case hx => with_reducible assumption); (case hn => omega); (case hq => omega)); intro z9 fz9))
local macro_rules | `(tactic| walk_at "binaryOp Sub float int") => `(tactic| (k_dflt (refine' r_sub_fi ?hx ?hn ?hb ?_; (case hx => first | with_reducible assumption | exact fv_eislamic | exact fv_ecoptic | exact fv_egregorian | exact fv_05 | exact fv_15245); (case hn => omega); (case hb => omega)); intro z9 fz9))
local macro_rules | `(tactic| walk_at "binaryOp Add int float") => `(tactic| (k_dflt (refine' r_add_if ?hx ?hn ?hb ?_; (case hx => first | with_reducible assumption | exact fv_eislamic | exact fv_ecoptic | exact fv_egregorian | exact fv_05 | exact fv_15245); (case hn => omega); (case hb => omega)); intro z9 fz9))
local macro_rules | `(tactic| walk_at "binaryOp Sub int float") => `(tactic| first | (k_dflt (refine' r_sub_if ?hx ?hn ?hb ?_; (case hx => first | with_reducible assumption | exact fv_eislamic | exact fv_ecoptic | exact fv_egregorian | exact fv_05 | exact fv_15245); (case hn => omega); (case hb => omega)); intro z9 fz9) | (k_dflt (refine' r_sub_1221 ?he ?hn ?_; (case he => with_reducible rfl); (case hn => omega)); intro z9 fz9))
local macro_rules | `(tactic| walk_at "binaryOp Mult float int") => `(tactic| first | (k_dflt (refine' r_mul_fi ?hx ?hn ?hb ?_; (case hx => first | with_reducible assumption | exact fv_295); (case hn => omega); (case hb => omega)); intro z9 fz9) | (k_dflt (refine' r_mul_36525 ?he ?hn ?_; (case he => with_reducible rfl); (case hn => omega)); intro z9 fz9) | (k_dflt (refine' r_mul_306001 ?he ?h0 ?hn ?_; (case he => with_reducible rfl); (case h0 => omega); (case hn => omega)); intro z9 fz9))
local macro_rules | `(tactic| walk_at "binaryOp Mult int float") => `(tactic| (k_dflt (refine' r_mul_if ?hx ?hn ?hb ?_; (case hx => first | with_reducible assumption | exact fv_295); (case hn => omega); (case hb => omega)); intro z9 fz9))
local macro_rules | `(tactic| walk_at "binaryOp Div float int") => `(tactic| (k_dflt (refine' r_div_fi ?hh ?hx ?hN ?h0 ?hn ?hq ?_; (case hh => rfl); (case hx => with_reducible assumption); (case hN => omega); (case h0 => omega); (case hn => omega); (case hq => omega)); intro z9 fz9))
local macro_rules | `(tactic| walk_at "binaryOp Div float float") => `(tactic| first | (k_dflt (refine' r_div_ff ?hh ?hx ?hN ?hy ?h0 ?hn ?hq ?_; (case hh => rfl); (case hx => with_reducible assumption); (case hN => omega); (case hy => first | with_reducible assumption | exact fv_295); (case h0 => omega); (case hn => omega); (case hq => omega)); intro z9 fz9) | (k_dflt (refine' r_div_36525 ?hh ?he ?hx ?hn ?_; (case hh => rfl); (case he => with_reducible rfl); (case hx => with_reducible assumption); (case hn => omega)); intro z9 fz9))
local macro_rules | `(tactic| walk_at "binaryOp Div int float") => `(tactic| (k_dflt (refine' r_div_306001 ?hh ?he ?h0 ?hn ?_; (case hh => rfl); (case he => with_reducible rfl); (case h0 => omega); (case hn => omega)); intro z9 fz9))
local macro_rules | `(tactic| walk_at "binaryOp Div int int") => `(tactic| (k_dflt (refine' r_div_ii ?hh ?hN ?h0 ?hn ?hq ?_; (case hh => rfl); (case hN => omega); (case h0 => omega); (case hn => omega); (case hq => omega)); intro z9 fz9 gz9))
local macro_rules | `(tactic| walk_at "binaryOp Mod float int") => `(tactic| (k_dflt (refine' r_mod_fi ?hh ?hx ?h0 ?hn ?_; (case hh => rfl); (case hx => with_reducible assumption); (case h0 => omega); (case hn => omega)); intro z9 fz9))
local macro_rules | `(tactic| walk_at "call builtin:math.floor") => `(tactic| ((with_reducible show wpAny _ _ (call _ [Value.float _ _]) _ _ _); k_dflt (refine' r_floor ?hh ?hx ?_; (case hh => rfl); (case hx => first | with_reducible assumption | exact fl_br (by with_reducible assumption) | exact fl_fv (by with_reducible assumption) | exact fl_gd (by with_reducible assumption)))))
local macro_rules | `(tactic| walk_at "call builtin:math.ceil") => `(tactic| ((with_reducible show wpAny _ _ (call _ [Value.float _ _]) _ _ _); k_dflt (refine' r_ceil ?hh ?hx ?_; (case hh => rfl); (case hx => first | with_reducible assumption | exact br_fv (by with_reducible assumption)))))
local macro_rules | `(tactic| walk_at "call type:int") => `(tactic| ((with_reducible show wpAny _ _ (call _ [Value.float _ _]) _ _ _); k_dflt (refine' r_int ?hh ?hx ?_; (case hh => rfl); (case hx => exact (show Fv _ _ by with_reducible assumption).1)); intro i9))
local macro_rules | `(tactic| walk_at "compareOp Lt float float") => `(tactic| (k_dflt (refine' r_lt_ff ?hx ?hy ?_; (case hx => with_reducible assumption); (case hy => with_reducible assumption))))
local macro_rules | `(tactic| walk_at "compareOp LtE float float") => `(tactic| (k_dflt (refine' r_le_ff ?hx ?hy ?_; (case hx => with_reducible assumption); (case hy => with_reducible assumption))))
local macro_rules | `(tactic| walk_at "compareOp Lt float int") => `(tactic| (k_dflt (refine' r_lt_fi ?hx ?_; (case hx => with_reducible assumption))))
local macro_rules | `(tactic| walk_at "compareOp LtE float int") => `(tactic| (k_dflt (refine' r_le_fi ?hx ?_; (case hx => with_reducible assumption))))
local macro_rules | `(tactic| walk_at "compareOp Lt int float") => `(tactic| (k_dflt (refine' r_lt_if ?hx ?_; (case hx => with_reducible assumption))))
local macro_rules | `(tactic| walk_at "compareOp LtE int float") => `(tactic| (k_dflt (refine' r_le_if ?hx ?_; (case hx => with_reducible assumption))))
local macro_rules | `(tactic| walk_at "compareOp NotEq float int") => `(tactic| (k_dflt (refine' r_ne_fi ?hx ?_; (case hx => with_reducible assumption))))
local macro_rules | `(tactic| walk_at "compareOp NotEq int float") => `(tactic| (k_dflt (refine' r_ne_if ?hx ?_; (case hx => with_reducible assumption))))
local macro_rules | `(tactic| walk_at "inplaceOp Add float float") => `(tactic| (k_dflt (refine' r_iadd_ff ?hx ?hy ?hb ?_; (case hx => with_reducible assumption); (case hy => first | with_reducible assumption | exact fv_05); (case hb => omega)); intro z9 fz9))
local macro_rules | `(tactic| walk_at "inplaceOp Add float int") => `(tactic| (k_dflt (refine' r_iadd_fi ?hh ?hx ?hn ?hb ?_; (case hh => rfl); (case hx => with_reducible assumption); (case hn => omega); (case hb => omega)); intro z9 fz9))
local macro_rules | `(tactic| walk_at "inplaceOp Sub float int") => `(tactic| (k_dflt (refine' r_isub_fi ?hh ?hx ?hn ?hb ?_; (case hh => rfl); (case hx => with_reducible assumption); (case hn => omega); (case hb => omega)); intro z9 fz9))
local macro_rules | `(tactic| walk_at "compareOp In int ref") => `(tactic| (k_dflt (refine' in_tuple_ints (ns := [4, 6, 9, 11]) (tup_in ?X ?ho ?hc) ?hi ?_; (case X => k_in); (case ho => k_is); (case hc => rfl); (case hi => (repeat constructor)))))
local macro_rules | `(tactic| walk_at "call ref") => `(tactic| ((with_reducible refine wpAny_call ?_); k_dflt (refine' code_def ?k1 ?k2 ?k3 ?k4 ?k5 ?kA ?kF ?kK ?k6 ?k7 ?k8 ?k9 ?kB ?_ ?c2 ?c3 ?c4 ?c5; (case kA => exact rfl); (case kF => exact rfl); (case kK => first | exact rfl | assumption); (case k1 => k_asm); (case k2 => k_asm); (case k3 => k_asm); (case k4 => k_asm); (case k5 => k_asm); (case k6 => k_is); (case k7 => k_is); (case k8 => ktr_room); (case k9 => exact BindsTo.of_eq rfl); (case c5 => decide); (case kB => exact locs rfl); (case c2 => exact rfl); (case c3 => exact rfl); (case c4 => exact rfl); k_whole; intro g' L' h' FG' F' N' B' X' T'; (try dsimp only); (try k_lift B'); (try k_fold))))
theorem Cl.mono {k : Nat} {w : World} {f : Addr} {vs : List Value} {P P' : Value → Prop} (c : Cl k w f vs P) (h : ∀ v, P v → P' v) : Cl k w f vs P' := by
  intro mean mg mb news dp un gd cn cs a ccd cl outer A₀ base h₀ L m s Q E B F X N T hk hdp hun ret
  exact c.use B F X N T hk hdp hun fun v h' tk' p F' N' => ret v h' tk' (h v p) F' N'
/-- the float N halves, odd, not beyond B -/
abbrev IsD (v : Value) (N B : Int) : Prop := ∃ x k, v = .float x k ∧ Fv x N ∧ -B ≤ N ∧ N ≤ B ∧ N % 2 = 1
theorem l_day_julian (w : World) (y m d : Int) (t t' t'' t₀ : Tok) (hy : -4000000 ≤ y) (hy2 : y ≤ 4000000) (hm : 1 ≤ m) (hm2 : m ≤ 12) (hd : 1 ≤ d) (hd2 : d ≤ 28) : Cl 40 w 191 [.int 0 t₀, .int y t, .int m t', .int d t''] (fun v => IsD v (JJ y m d) 3000000000) :=
  (c_day_julian w y m d t t' t'' t₀ (by omega) hm hm2 hd hd2).mono fun _ ⟨x, k, e, h⟩ => by
    have b := jj_bound (y := y) hm hm2 hd hd2
    exact ⟨x, k, e, h, by omega, by omega, jj_odd y m d⟩
theorem l_dayb_julian (w : World) (y m d : Int) (t t' t'' t₀ : Tok) (hy : -500000000 ≤ y) (hy2 : y ≤ 500000000) (hm : 1 ≤ m) (hm2 : m ≤ 12) (hd : 1 ≤ d) (hd2 : d ≤ 28) : Cl 40 w 191 [.int 0 t₀, .int y t, .int m t', .int d t''] (fun v => IsD v (JJ y m d) 400000000000) :=
  (c_day_julian w y m d t t' t'' t₀ (by omega) hm hm2 hd hd2).mono fun _ ⟨x, k, e, h⟩ => by
    have b := jj_bound (y := y) hm hm2 hd hd2
    exact ⟨x, k, e, h, by omega, by omega, jj_odd y m d⟩
theorem l_year_julian (w : World) (x : UInt64) (N : Int) (t t₀ : Tok) (hx : Fv x N) (ho : N % 2 = 1) (hn : -3100000000 ≤ N) (hn2 : N ≤ 3100000000) : Cl 40 w 198 [.int 0 t₀, .float x t] (fun v => IsY v fun Y => JJ Y 1 1 ≤ N ∧ N < JJ (Y + 1) 1 1 ∧ -10000000 ≤ Y ∧ Y ≤ 10000000) := by
  have e : N = 2 * (N / 2) + 1 := by omega
  have c := c_year_julian w x (N / 2) t t₀ (by omega) (e ▸ hx)
  rw [← e] at c
  exact c.mono fun _ ⟨y, k, e, h1, h2⟩ => ⟨y, k, e, h1, h2, jj_yr h1 h2 hn hn2⟩
theorem l_day_coptic (w : World) (y m d : Int) (t t' t'' t₀ : Tok) (hy : -4000000 ≤ y) (hy2 : y ≤ 4000000) (hm : 1 ≤ m) (hm2 : m ≤ 12) (hd : 1 ≤ d) (hd2 : d ≤ 28) : Cl 40 w 191 [.int 1 t₀, .int y t, .int m t', .int d t''] (fun v => IsD v (JC y m d) 3000000000) :=
  (c_day_coptic w y m d t t' t'' t₀ (by omega) hm hm2 hd hd2).mono fun _ ⟨x, k, e, h⟩ => by
    have b := jc_bound (y := y) hm hm2 hd hd2
    exact ⟨x, k, e, h, by omega, by omega, jc_odd y m d⟩
theorem l_dayb_coptic (w : World) (y m d : Int) (t t' t'' t₀ : Tok) (hy : -500000000 ≤ y) (hy2 : y ≤ 500000000) (hm : 1 ≤ m) (hm2 : m ≤ 12) (hd : 1 ≤ d) (hd2 : d ≤ 28) : Cl 40 w 191 [.int 1 t₀, .int y t, .int m t', .int d t''] (fun v => IsD v (JC y m d) 400000000000) :=
  (c_day_coptic w y m d t t' t'' t₀ (by omega) hm hm2 hd hd2).mono fun _ ⟨x, k, e, h⟩ => by
    have b := jc_bound (y := y) hm hm2 hd hd2
    exact ⟨x, k, e, h, by omega, by omega, jc_odd y m d⟩
theorem l_year_coptic (w : World) (x : UInt64) (N : Int) (t t₀ : Tok) (hx : Fv x N) (ho : N % 2 = 1) (hn : -3100000000 ≤ N) (hn2 : N ≤ 3100000000) : Cl 40 w 198 [.int 1 t₀, .float x t] (fun v => IsY v fun Y => JC Y 1 1 ≤ N ∧ N < JC (Y + 1) 1 1 ∧ -10000000 ≤ Y ∧ Y ≤ 10000000) := by
  have e : N = 2 * (N / 2) + 1 := by omega
  have c := c_year_coptic w x (N / 2) t t₀ (by omega) (e ▸ hx)
  rw [← e] at c
  exact c.mono fun _ ⟨y, k, e, h1, h2⟩ => ⟨y, k, e, h1, h2, jc_yr h1 h2 hn hn2⟩
theorem l_day_islamic (w : World) (y m d : Int) (t t' t'' t₀ : Tok) (hy : -4000000 ≤ y) (hy2 : y ≤ 4000000) (hm : 1 ≤ m) (hm2 : m ≤ 12) (hd : 1 ≤ d) (hd2 : d ≤ 28) : Cl 40 w 191 [.int 2 t₀, .int y t, .int m t', .int d t''] (fun v => IsD v (JI y m d) 3000000000) :=
  (c_day_islamic w y m d t t' t'' t₀ (by omega) hm hm2 hd hd2).mono fun _ ⟨x, k, e, h⟩ => by
    have b := ji_bound (y := y) hm hm2 hd hd2
    exact ⟨x, k, e, h, by omega, by omega, ji_odd y m d⟩
theorem l_dayb_islamic (w : World) (y m d : Int) (t t' t'' t₀ : Tok) (hy : -500000000 ≤ y) (hy2 : y ≤ 500000000) (hm : 1 ≤ m) (hm2 : m ≤ 12) (hd : 1 ≤ d) (hd2 : d ≤ 28) : Cl 40 w 191 [.int 2 t₀, .int y t, .int m t', .int d t''] (fun v => IsD v (JI y m d) 400000000000) :=
  (c_day_islamic w y m d t t' t'' t₀ (by omega) hm hm2 hd hd2).mono fun _ ⟨x, k, e, h⟩ => by
    have b := ji_bound (y := y) hm hm2 hd hd2
    exact ⟨x, k, e, h, by omega, by omega, ji_odd y m d⟩
theorem l_year_islamic (w : World) (x : UInt64) (N : Int) (t t₀ : Tok) (hx : Fv x N) (ho : N % 2 = 1) (hn : -3100000000 ≤ N) (hn2 : N ≤ 3100000000) : Cl 40 w 198 [.int 2 t₀, .float x t] (fun v => IsY v fun Y => JI Y 1 1 ≤ N ∧ N < JI (Y + 1) 1 1 ∧ -10000000 ≤ Y ∧ Y ≤ 10000000) := by
  have e : N = 2 * (N / 2) + 1 := by omega
  have c := c_year_islamic w x (N / 2) t t₀ (by omega) (e ▸ hx)
  rw [← e] at c
  exact c.mono fun _ ⟨y, k, e, h1, h2⟩ => ⟨y, k, e, h1, h2, ji_yr h1 h2 hn hn2⟩
theorem l_day_gregorian (w : World) (y m d : Int) (t t' t'' t₀ : Tok) (hy : -4000000 ≤ y) (hy2 : y ≤ 4000000) (hm : 1 ≤ m) (hm2 : m ≤ 12) (hd : 1 ≤ d) (hd2 : d ≤ 28) : Cl 40 w 191 [.int 3 t₀, .int y t, .int m t', .int d t''] (fun v => IsD v (JG y m d) 3000000000) :=
  (c_day_gregorian w y m d t t' t'' t₀ (by omega) hm hm2 hd hd2).mono fun _ ⟨x, k, e, h⟩ => by
    have b := jg_bound2 (y := y) hm hm2 hd hd2
    exact ⟨x, k, e, h, by omega, by omega, jg_odd y m d⟩
theorem l_dayb_gregorian (w : World) (y m d : Int) (t t' t'' t₀ : Tok) (hy : -500000000 ≤ y) (hy2 : y ≤ 500000000) (hm : 1 ≤ m) (hm2 : m ≤ 12) (hd : 1 ≤ d) (hd2 : d ≤ 28) : Cl 40 w 191 [.int 3 t₀, .int y t, .int m t', .int d t''] (fun v => IsD v (JG y m d) 400000000000) :=
  (c_day_gregorian w y m d t t' t'' t₀ (by omega) hm hm2 hd hd2).mono fun _ ⟨x, k, e, h⟩ => by
    have b := jg_bound2 (y := y) hm hm2 hd hd2
    exact ⟨x, k, e, h, by omega, by omega, jg_odd y m d⟩
theorem l_year_gregorian (w : World) (x : UInt64) (N : Int) (t t₀ : Tok) (hx : Fv x N) (ho : N % 2 = 1) (hn : -3100000000 ≤ N) (hn2 : N ≤ 3100000000) : Cl 40 w 198 [.int 3 t₀, .float x t] (fun v => IsY v fun Y => JG Y 1 1 ≤ N ∧ N < JG (Y + 1) 1 1 ∧ -10000000 ≤ Y ∧ Y ≤ 10000000) := by
  have e : N = 2 * (N / 2) + 1 := by omega
  have c := c_year_gregorian w x (N / 2) t t₀ (by omega) (e ▸ hx)
  rw [← e] at c
  exact c.mono fun _ ⟨y, k, e, h1, h2⟩ => ⟨y, k, e, h1, h2, jg_yr h1 h2 hn hn2⟩
theorem l_day_indian (w : World) (y m d : Int) (t t' t'' t₀ : Tok) (hy : -4000000 ≤ y) (hy2 : y ≤ 4000000) (hm : 1 ≤ m) (hm2 : m ≤ 12) (hd : 1 ≤ d) (hd2 : d ≤ 28) : Cl 40 w 191 [.int 4 t₀, .int y t, .int m t', .int d t''] (fun v => IsD v (JN y m d) 3000000000) :=
  (c_day_indian w y m d t t' t'' t₀ (by omega) hm hm2 hd hd2).mono fun _ ⟨x, k, e, h⟩ => by
    have b := jn_bound (y := y) hm hm2 hd hd2
    exact ⟨x, k, e, h, by omega, by omega, jn_odd y m d⟩
theorem l_dayb_indian (w : World) (y m d : Int) (t t' t'' t₀ : Tok) (hy : -500000000 ≤ y) (hy2 : y ≤ 500000000) (hm : 1 ≤ m) (hm2 : m ≤ 12) (hd : 1 ≤ d) (hd2 : d ≤ 28) : Cl 40 w 191 [.int 4 t₀, .int y t, .int m t', .int d t''] (fun v => IsD v (JN y m d) 400000000000) :=
  (c_day_indian w y m d t t' t'' t₀ (by omega) hm hm2 hd hd2).mono fun _ ⟨x, k, e, h⟩ => by
    have b := jn_bound (y := y) hm hm2 hd hd2
    exact ⟨x, k, e, h, by omega, by omega, jn_odd y m d⟩
theorem l_year_indian (w : World) (x : UInt64) (N : Int) (t t₀ : Tok) (hx : Fv x N) (ho : N % 2 = 1) (hn : -3100000000 ≤ N) (hn2 : N ≤ 3100000000) : Cl 40 w 198 [.int 4 t₀, .float x t] (fun v => IsY v fun Y => JN Y 1 1 ≤ N ∧ N < JN (Y + 1) 1 1 ∧ -10000000 ≤ Y ∧ Y ≤ 10000000) := by
  have e : N = 2 * (N / 2) + 1 := by omega
  have c := c_year_indian w x (N / 2) t t₀ (by omega) (e ▸ hx)
  rw [← e] at c
  exact c.mono fun _ ⟨y, k, e, h1, h2⟩ => ⟨y, k, e, h1, h2, jn_yr h1 h2 hn hn2⟩
theorem l_to_jd_islamic (w : World) (y m d : Int) (t t' t'' : Tok) (hy : -4000000 ≤ y) (hy2 : y ≤ 4000000) (hm : 1 ≤ m) (hm2 : m ≤ 12) (hd : 1 ≤ d) (hd2 : d ≤ 28) : Cl 5 w 56 [.int y t, .int m t', .int d t''] (fun v => IsD v (JI y m d) 3000000000) :=
  (c_to_jd_islamic w y m d t t' t'' (by omega) (by omega) (by omega)).mono fun _ ⟨x, k, e, h⟩ => by
    have b := ji_bound (y := y) hm hm2 hd hd2
    exact ⟨x, k, e, h, by omega, by omega, ji_odd y m d⟩
theorem l_to_jd_islamicb (w : World) (y m d : Int) (t t' t'' : Tok) (hy : -500000000 ≤ y) (hy2 : y ≤ 500000000) (hm : 1 ≤ m) (hm2 : m ≤ 12) (hd : 1 ≤ d) (hd2 : d ≤ 28) : Cl 5 w 56 [.int y t, .int m t', .int d t''] (fun v => IsD v (JI y m d) 400000000000) :=
  (c_to_jd_islamic w y m d t t' t'' (by omega) (by omega) (by omega)).mono fun _ ⟨x, k, e, h⟩ => by
    have b := ji_bound (y := y) hm hm2 hd hd2
    exact ⟨x, k, e, h, by omega, by omega, ji_odd y m d⟩
theorem l_near (w : World) (n : Int) (t : Tok) : Cl 5 w 184 [.int n t] (fun v => ∃ q k, v = .int q k ∧ -1000000 ≤ q ∧ q ≤ 1000000) := by
  unfold Cl
  k_fill
  intro mean mg mb news dp un gd cn cs a ccd cl outer A₀ base h₀ L m s Q E B F X N T hk hdp hun ret
  refine wpAny_call ?_
  k_dflt cell_enter
  k_steps
  have e4 := Int.fmod_eq_emod_of_nonneg (n + 1000000) (show (0:Int) ≤ 2000001 by decide)
  exact ret _ _ _ ⟨_, _, rfl, by omega, by omega⟩ (by k_asm) (by k_asm)
local macro_rules | `(tactic| walk_at "binaryOp FloorDiv int int") => `(tactic| (k_dflt (refine' floordiv_int ?kb ?_ (Or.inl (PyProof.noPylong_small ?kp)); (case kb => omega); (case kp => omega))))
theorem l_even_int (w : World) (told count part whole : Int) (t t' t'' t₀ : Tok) (hw : 0 < whole) (hw2 : whole < 1048576) (hp : 0 < part) (hp2 : part < 1048576) (hc : -10000000 < count) (hc2 : count < 10000000) (h1 : count * part / whole ≤ told) (h2 : told ≤ -(-count * part / whole)) : Cl 10 w 212 [.int told t₀, .int count t, .int part t', .int whole t''] (fun v => v = .bool true) := by
  unfold Cl
  k_fill
  intro mean mg mb news dp un gd cn cs a ccd cl outer A₀ base h₀ L m s Q E B F X N T hk hdp hun ret
  rw [← Int.fdiv_eq_ediv_of_nonneg _ (by omega)] at h1 h2
  refine wpAny_call ?_
  k_dflt cell_enter
  k_steps
  exact ret _ _ _ (by rw [decide_eq_true h2]) (by k_asm) (by k_asm)
theorem l_even_float (w : World) (x : UInt64) (N count part whole : Int) (t t' t'' t₀ : Tok) (hx : Fv x N) (hw : 0 < whole) (hw2 : whole < 1048576) (hp : 0 < part) (hp2 : part < 1048576) (hc : -10000000 < count) (hc2 : count < 10000000) (h1 : 2 * (count * part / whole) ≤ N) (h2 : N ≤ 2 * (-(-count * part / whole))) : Cl 10 w 212 [.float x t₀, .int count t, .int part t', .int whole t''] (fun v => v = .bool true) := by
  unfold Cl
  k_fill
  intro mean mg mb news dp un gd cn cs a ccd cl outer A₀ base h₀ L m s Q E B F X N T hk hdp hun ret
  rw [← Int.fdiv_eq_ediv_of_nonneg _ (by omega)] at h1 h2
  refine wpAny_call ?_
  k_dflt cell_enter
  k_steps
  exact ret _ _ _ (by rw [decide_eq_true h2]) (by k_asm) (by k_asm)
end Mine
end
section
-- LLoop2
open PySem PySem.W PyProof.Rows PySem.Spec
set_option Elab.async false
namespace Mine
/-- m, but for the names in S, which are as ρ has them -/
def ov (S : List PySem.Str) (ρ m : PySem.Str → Option Value) : PySem.Str → Option Value := fun y => if S.contains y = true then ρ y else m y
theorem ov_self {S : List PySem.Str} {m m' : PySem.Str → Option Value} (h : ∀ y, S.contains y = false → m' y = m y) : m' = ov S m' m := by
  funext y
  unfold ov
  by_cases hy : S.contains y = true
  · rw [if_pos hy]
  · rw [if_neg hy]; exact h y (by simpa using hy)
/-- the end of a turn: the names outside S as before, the ledger one of Led's -/
structure LEnd (h₀ : Heap) (L : Addr) (S : List PySem.Str) (m : PySem.Str → Option Value) (Led : List (Addr × Obj) → Prop) (I : Addr) (it : Obj) (s₁ : Shared) (fl : Flow) (s₂ : Shared) : Prop where
  nxt : fl = .next
  out : ∃ h' tk m' n', s₂ = { s₁ with heap := h', toks := tk } ∧ Fr h₀ L h' m' ∧ News h₀ L h' ((I, it) :: n') ∧ Led n' ∧ ∀ y, S.contains y = false → m' y = m y
section
variable {prog : Program} {w : World} {A : Around} {E : Value → Shared → Prop} {s : Shared} {env : Env} {h₀ : Heap} {x : PySem.Str} {px : Pos} {body : List Stmt} {Q : Flow → Shared → Prop}
theorem wrest_inv {S : List PySem.Str} {m : PySem.Str → Option Value} {Led : List (Addr × Obj) → Prop} {I : Addr} (hI : ∀ n, Led n → ∀ p ∈ n, p.1 ≠ I)
    (turn : ∀ k t (it : Obj) ρ n (s₁ : Shared), (k = 0 ∨ k = 1 ∨ k = 2) → it.cls = .type "range_iterator" → Led n → Fr h₀ env.locals s₁.heap (ov S ρ m) → News h₀ env.locals s₁.heap ((I, it) :: n) →
      wpAny (model prog w) A (assign (.Name x px) env (.int k t)) (fun _ s₃ => wpAny (model prog w) A (execs body env) (LEnd h₀ env.locals S m Led I it s₁) E s₃) E s₁)
    (done : ∀ ρ n h tk, Led n → Fr h₀ env.locals h (ov S ρ m) → News h₀ env.locals h n → Q .next { s with heap := h, toks := tk }) :
    ∀ (r : List Int) (ρ : PySem.Str → Option Value) (n : List (Addr × Obj)), (∀ k ∈ r, k = 0 ∨ k = 1 ∨ k = 2) → Led n → WRest prog w A E h₀ env x px body Q s I r (ov S ρ m) n := by
  intro r
  induction r with
  | nil => intro ρ n _ hn h tk F N; exact done ρ n h tk hn F N
  | cons k r ih =>
    intro ρ n hk hn
    refine WRest.succ fun t it s₁ hc F N => ?_
    refine wpAny_mono (turn k t it ρ n s₁ (hk k (.head _)) hc hn F N) (fun _ s₃ h₃ => wpAny_mono h₃ (fun f s₂ p => ?_) fun _ _ e => e) fun _ _ e => e
    obtain ⟨rfl, h', tk, m', n', e, F', N', hn', hm⟩ := p
    have em := ov_self hm
    refine ⟨rfl, h', tk, m', n', e, F', N', hI n' hn', ?_⟩
    rw [em]
    exact ih m' n' (fun k hk' => hk k (.tail _ hk')) hn'
theorem for_range3 {r : Addr} {t₀ u₀ v₀ : Tok} {m : PySem.Str → Option Value} {news : List (Addr × Obj)} (S : List PySem.Str) (Led : List (Addr × Obj) → Prop)
    (hh : A.handled = none) (hr : IsRange s.heap r 0 3 1 t₀ u₀ v₀) (F : Fr h₀ env.locals s.heap m) (N : News h₀ env.locals s.heap news) (hL : Led news) (hA : ∀ n, Led n → ∀ p ∈ n, ∃ q ∈ news, p.1 = q.1)
    (turn : ∀ I k t (it : Obj) ρ n (s₁ : Shared), (∀ p ∈ news, p.1 < I) → (k = 0 ∨ k = 1 ∨ k = 2) → it.cls = .type "range_iterator" → Led n → Fr h₀ env.locals s₁.heap (ov S ρ m) → News h₀ env.locals s₁.heap ((I, it) :: n) →
      wpAny (model prog w) A (assign (.Name x px) env (.int k t)) (fun _ s₃ => wpAny (model prog w) A (execs body env) (LEnd h₀ env.locals S m Led I it s₁) E s₃) E s₁)
    (done : ∀ ρ n h tk, Led n → Fr h₀ env.locals h (ov S ρ m) → News h₀ env.locals h n → Q .next { s with heap := h, toks := tk }) :
    wpAny (model prog w) A (pyIter (.ref r)) (fun it s₂ => LoopAtT prog w A h₀ env (.Name x px) body Q E it s₂) E s := by
  refine iter_range3 hh hr F N fun I hI => ?_
  have e : m = ov S m m := ov_self fun _ _ => rfl
  rw [e]
  refine wrest_inv (fun n hn p hp q => ?_) (fun k t it ρ n s₁ => turn I k t it ρ n s₁ hI) done [0, 1, 2] m news (fun k hk => ?_) hL
  · obtain ⟨p', hp', e'⟩ := hA n hn p hp
    have := hI p' hp'
    rw [← e', q] at this
    exact absurd this (Nat.lt_irrefl _)
  · rcases List.mem_cons.mp hk with h | hk
    · exact .inl h
    · rcases List.mem_cons.mp hk with h | hk
      · exact .inr (.inl h)
      · exact .inr (.inr (List.mem_singleton.mp hk))
theorem lrest_inv {S : List PySem.Str} {m : PySem.Str → Option Value} {Led : List (Addr × Obj) → Prop} {I : Addr} {lp : Addr × Obj} {vs : List Value} (hI : ∀ n, Led n → ∀ p ∈ n, p.1 ≠ I) (hl : ∀ n, Led n → lp ∈ n)
    (turn : ∀ v (it : Obj) ρ n (s₁ : Shared), v ∈ vs → it.cls = .type "list_iterator" → Led n → Fr h₀ env.locals s₁.heap (ov S ρ m) → News h₀ env.locals s₁.heap ((I, it) :: n) →
      wpAny (model prog w) A (assign (.Name x px) env v) (fun _ s₃ => wpAny (model prog w) A (execs body env) (LEnd h₀ env.locals S m Led I it s₁) E s₃) E s₁)
    (done : ∀ ρ n h tk, Led n → Fr h₀ env.locals h (ov S ρ m) → News h₀ env.locals h n → Q .next { s with heap := h, toks := tk }) :
    ∀ (r : List Value) (ρ : PySem.Str → Option Value) (n : List (Addr × Obj)), (∀ v ∈ r, v ∈ vs) → Led n → LRest prog w A E h₀ env x px body Q s I lp r (ov S ρ m) n := by
  intro r
  induction r with
  | nil => intro ρ n _ hn h tk F N; exact done ρ n h tk hn F N
  | cons v r ih =>
    intro ρ n hk hn
    refine LRest.succ fun it s₁ hc F N => ?_
    refine wpAny_mono (turn v it ρ n s₁ (hk v (.head _)) hc hn F N) (fun _ s₃ h₃ => wpAny_mono h₃ (fun f s₂ p => ?_) fun _ _ e => e) fun _ _ e => e
    obtain ⟨rfl, h', tk, m', n', e, F', N', hn', hm⟩ := p
    have em := ov_self hm
    refine ⟨rfl, h', tk, m', n', e, F', N', hI n' hn', hl n' hn', ?_⟩
    rw [em]
    exact ih m' n' (fun k hk' => hk k (.tail _ hk')) hn'
theorem for_list {ax : Addr} {lo : Obj} {vs : List Value} {k : Nat} {m : PySem.Str → Option Value} {news : List (Addr × Obj)} (S : List PySem.Str) (Led : List (Addr × Obj) → Prop)
    (hh : A.handled = none) (F : Fr h₀ env.locals s.heap m) (N : News h₀ env.locals s.heap news) (hc : lo.cls = .type "list") (hd : lo.data = .seq vs.toArray k) (hL : Led news) (hm : ∀ n, Led n → (ax, lo) ∈ n) (hA : ∀ n, Led n → ∀ p ∈ n, ∃ q ∈ news, p.1 = q.1)
    (turn : ∀ I v (it : Obj) ρ n (s₁ : Shared), (∀ p ∈ news, p.1 < I) → v ∈ vs → it.cls = .type "list_iterator" → Led n → Fr h₀ env.locals s₁.heap (ov S ρ m) → News h₀ env.locals s₁.heap ((I, it) :: n) →
      wpAny (model prog w) A (assign (.Name x px) env v) (fun _ s₃ => wpAny (model prog w) A (execs body env) (LEnd h₀ env.locals S m Led I it s₁) E s₃) E s₁)
    (done : ∀ ρ n h tk, Led n → Fr h₀ env.locals h (ov S ρ m) → News h₀ env.locals h n → Q .next { s with heap := h, toks := tk }) :
    wpAny (model prog w) A (pyIter (.ref ax)) (fun it s₂ => LoopAtT prog w A h₀ env (.Name x px) body Q E it s₂) E s := by
  refine iter_listT hh F N (hm news hL) hc hd fun I hI => ?_
  have e : m = ov S m m := ov_self fun _ _ => rfl
  rw [e]
  refine lrest_inv (vs := vs) (fun n hn p hp q => ?_) hm (fun v it ρ n s₁ => turn I v it ρ n s₁ hI) done vs m news (fun _ h => h) hL
  obtain ⟨p', hp', e'⟩ := hA n hn p hp
  have := hI p' hp'
  rw [← e', q] at this
  exact absurd this (Nat.lt_irrefl _)
end
end Mine
end
section
-- LLoop3
open PySem PySem.W PyProof.Rows PySem.Spec
set_option Elab.async false
namespace Mine
section
variable {prog : Program} {w : World} {A : Around} {E : Value → Shared → Prop} {s : Shared} {env : Env} {h₀ : Heap} {x : PySem.Str} {px : Pos} {body : List Stmt} {Q : Flow → Shared → Prop} {m : PySem.Str → Option Value} {news : List (Addr × Obj)}
/-- the ledger of the law's loops over kinds: kind's cell, year's cell, the counts -/
def LedK (ck cy cl : Addr) (oy lo : Obj) (n : List (Addr × Obj)) : Prop := ∃ (o : Obj) (v : Option Value), o.data = .cell v ∧ n = [(ck, o), (cy, oy), (cl, lo)]
theorem ledK_addr {ck cy cl : Addr} {oy lo ok : Obj} {n : List (Addr × Obj)} (h : LedK ck cy cl oy lo n) : ∀ p ∈ n, ∃ q ∈ [(ck, ok), (cy, oy), (cl, lo)], p.1 = q.1 := by
  obtain ⟨o, v, _, rfl⟩ := h
  intro p hp
  rcases List.mem_cons.mp hp with rfl | hp
  · exact ⟨_, .head _, rfl⟩
  · exact ⟨p, .tail _ hp, rfl⟩
theorem led_pick {ck cy cl : Addr} {ok oy lo : Obj} (N : News h₀ env.locals s.heap news) (hk : (ck, ok) ∈ news) (hy : (cy, oy) ∈ news) (hc : (cl, lo) ∈ news) : News h₀ env.locals s.heap [(ck, ok), (cy, oy), (cl, lo)] := by
  intro p hp
  rcases List.mem_cons.mp hp with rfl | hp
  · exact N _ hk
  · rcases List.mem_cons.mp hp with rfl | hp
    · exact N _ hy
    · rw [List.mem_singleton.mp hp]; exact N _ hc
theorem loopK {r ck cy cl : Addr} {t₀ u₀ v₀ : Tok} {ok oy lo : Obj} {vk : Option Value} (S : List PySem.Str)
    (hh : A.handled = none) (hr : IsRange s.heap r 0 3 1 t₀ u₀ v₀) (F : Fr h₀ env.locals s.heap m) (N : News h₀ env.locals s.heap news)
    (_ck : env.cells.lookup (Str.ofString "kind") = some ck) (hk : (ck, ok) ∈ news) (hkd : ok.data = .cell vk)
    (_cy : env.cells.lookup (Str.ofString "year") = some cy) (hy : (cy, oy) ∈ news)
    (_cl : m (Str.ofString "counts") = some (.ref cl)) (hc : (cl, lo) ∈ news)
    (turn : ∀ I k t (it : Obj) ρ (o : Obj) v (s₁ : Shared), (k = 0 ∨ k = 1 ∨ k = 2) → it.cls = .type "range_iterator" → o.data = .cell v → @LT.lt Nat _ ck I → @LT.lt Nat _ cy I → @LT.lt Nat _ cl I →
      Fr h₀ env.locals s₁.heap (ov S ρ m) → News h₀ env.locals s₁.heap [(I, it), (ck, o), (cy, oy), (cl, lo)] →
      wpAny (model prog w) A (assign (.Name x px) env (.int k t)) (fun _ s₃ => wpAny (model prog w) A (execs body env) (LEnd h₀ env.locals S m (LedK ck cy cl oy lo) I it s₁) E s₃) E s₁)
    (done : ∀ ρ (o : Obj) v h tk, o.data = .cell v → Fr h₀ env.locals h (ov S ρ m) → News h₀ env.locals h [(ck, o), (cy, oy), (cl, lo)] → Q .next { s with heap := h, toks := tk }) :
    wpAny (model prog w) A (pyIter (.ref r)) (fun it s₂ => LoopAtT prog w A h₀ env (.Name x px) body Q E it s₂) E s :=
  for_range3 S (LedK ck cy cl oy lo) hh hr F (led_pick N hk hy hc) ⟨ok, vk, hkd, rfl⟩ (fun _ hn => ledK_addr hn)
    (fun I k t it ρ n s₁ hI hk hit hn F' N' => by
      obtain ⟨o, v, ho, rfl⟩ := hn
      exact turn I k t it ρ o v s₁ hk hit ho (hI _ (.head _)) (hI _ (.tail _ (.head _))) (hI _ (.tail _ (.tail _ (.head _)))) F' N')
    (fun ρ n h tk hn F' N' => by
      obtain ⟨o, v, ho, rfl⟩ := hn
      exact done ρ o v h tk ho F' N')
/-- over the two counts -/
theorem loopC {ax : Addr} {c₁ c₂ : Int} {t₁ t₂ : Tok} {k : Nat} (S : List PySem.Str)
    (hh : A.handled = none) (F : Fr h₀ env.locals s.heap m) (N : News h₀ env.locals s.heap news) (hm : (ax, W.listOf #[.int c₁ t₁, .int c₂ t₂] k) ∈ news)
    (turn : ∀ I c t (it : Obj) ρ (s₁ : Shared), (∀ p ∈ news, p.1 < I) → (c = c₁ ∨ c = c₂) → it.cls = .type "list_iterator" → Fr h₀ env.locals s₁.heap (ov S ρ m) → News h₀ env.locals s₁.heap ((I, it) :: news) →
      wpAny (model prog w) A (assign (.Name x px) env (.int c t)) (fun _ s₃ => wpAny (model prog w) A (execs body env) (LEnd h₀ env.locals S m (fun n => n = news) I it s₁) E s₃) E s₁)
    (done : ∀ ρ h tk, Fr h₀ env.locals h (ov S ρ m) → News h₀ env.locals h news → Q .next { s with heap := h, toks := tk }) :
    wpAny (model prog w) A (pyIter (.ref ax)) (fun it s₂ => LoopAtT prog w A h₀ env (.Name x px) body Q E it s₂) E s :=
  for_list (vs := [.int c₁ t₁, .int c₂ t₂]) S (fun n => n = news) hh F N rfl rfl rfl (fun n hn => hn ▸ hm) (fun n hn p hp => ⟨p, hn ▸ hp, rfl⟩)
    (fun I v it ρ n s₁ hI hv hit hn F' N' => by
      subst hn
      rcases List.mem_cons.mp hv with rfl | hv
      · exact turn I c₁ t₁ it ρ s₁ hI (.inl rfl) hit F' N'
      · rw [List.mem_singleton.mp hv]; exact turn I c₂ t₂ it ρ s₁ hI (.inr rfl) hit F' N')
    (fun ρ n h tk hn F' N' => done ρ h tk F' (hn ▸ N'))
/-- over the written kinds 3 and 4 -/
theorem loopG {r ck cy cl : Addr} {t₃ t₄ : Tok} {k : Nat} {ok oy lo : Obj} {vk : Option Value} (S : List PySem.Str)
    (hh : A.handled = none) (F : Fr h₀ env.locals s.heap m) (N : News h₀ env.locals s.heap news) (hr : (r, W.listOf #[.int 3 t₃, .int 4 t₄] k) ∈ news)
    (_ck : env.cells.lookup (Str.ofString "kind") = some ck) (hk : (ck, ok) ∈ news) (hkd : ok.data = .cell vk)
    (_cy : env.cells.lookup (Str.ofString "year") = some cy) (hy : (cy, oy) ∈ news)
    (_cl : m (Str.ofString "counts") = some (.ref cl)) (hc : (cl, lo) ∈ news)
    (turn : ∀ I k' t (it : Obj) ρ (o : Obj) v (s₁ : Shared), (k' = 3 ∨ k' = 4) → it.cls = .type "list_iterator" → o.data = .cell v → @LT.lt Nat _ ck I → @LT.lt Nat _ cy I → @LT.lt Nat _ cl I → @LT.lt Nat _ r I →
      Fr h₀ env.locals s₁.heap (ov S ρ m) → News h₀ env.locals s₁.heap [(I, it), (r, W.listOf #[.int 3 t₃, .int 4 t₄] k), (ck, o), (cy, oy), (cl, lo)] →
      wpAny (model prog w) A (assign (.Name x px) env (.int k' t)) (fun _ s₃ => wpAny (model prog w) A (execs body env) (LEnd h₀ env.locals S m (fun n => ∃ n', LedK ck cy cl oy lo n' ∧ n = (r, W.listOf #[.int 3 t₃, .int 4 t₄] k) :: n') I it s₁) E s₃) E s₁)
    (done : ∀ ρ (o : Obj) v h tk, o.data = .cell v → Fr h₀ env.locals h (ov S ρ m) → News h₀ env.locals h [(ck, o), (cy, oy), (cl, lo)] → Q .next { s with heap := h, toks := tk }) :
    wpAny (model prog w) A (pyIter (.ref r)) (fun it s₂ => LoopAtT prog w A h₀ env (.Name x px) body Q E it s₂) E s :=
  for_list (ax := r) (lo := W.listOf #[.int 3 t₃, .int 4 t₄] k) (k := k) (news := (r, W.listOf #[.int 3 t₃, .int 4 t₄] k) :: [(ck, ok), (cy, oy), (cl, lo)]) (vs := [.int 3 t₃, .int 4 t₄]) S (fun n => ∃ n', LedK ck cy cl oy lo n' ∧ n = (r, W.listOf #[.int 3 t₃, .int 4 t₄] k) :: n') hh F
    (fun p hp => by
      rcases List.mem_cons.mp hp with rfl | hp
      · exact N _ hr
      · exact led_pick N hk hy hc p hp) rfl rfl ⟨_, ⟨ok, vk, hkd, rfl⟩, rfl⟩ (fun n hn => by obtain ⟨n', _, rfl⟩ := hn; exact List.Mem.head _)
    (fun n ⟨n', hn', e⟩ p hp => by
      subst e
      rcases List.mem_cons.mp hp with rfl | hp
      · exact ⟨_, .head _, rfl⟩
      · obtain ⟨q, hq, e⟩ := ledK_addr (ok := ok) hn' p hp
        exact ⟨q, .tail _ hq, e⟩)
    (fun I v it ρ n s₁ hI hv hit hn F' N' => by
      obtain ⟨n', ⟨o, v', ho, rfl⟩, rfl⟩ := hn
      have a1 := hI _ (.tail _ (.head _))
      have a2 := hI _ (.tail _ (.tail _ (.head _)))
      have a3 := hI _ (.tail _ (.tail _ (.tail _ (.head _))))
      have a4 := hI _ (.head _)
      rcases List.mem_cons.mp hv with rfl | hv
      · exact turn I 3 t₃ it ρ o v' s₁ (.inl rfl) hit ho a1 a2 a3 a4 F' N'
      · rw [List.mem_singleton.mp hv]; exact turn I 4 t₄ it ρ o v' s₁ (.inr rfl) hit ho a1 a2 a3 a4 F' N')
    (fun ρ n h tk hn F' N' => by
      obtain ⟨n', ⟨o, v, ho, rfl⟩, rfl⟩ := hn
      exact done ρ o v h tk ho F' (news_tail N'))
end
end Mine
end
section
-- LItem
open PySem PySem.W PyProof.Rows
set_option Elab.async false
namespace Mine
section
variable {prog : Program} {w : World} {A : Around} {E : Value → Shared → Prop} {s : Shared} {h₀ : Heap} {L D : Addr} {news : List (Addr × Obj)} {vs : List Value} {n : Nat} {k : Int} {u : Tok} {v : Value}
theorem r_item {value slice : PySem.Expr} {Q : Value → Shared → Prop} (N : News h₀ L s.heap news) (hm : (D, listOf vs.toArray n) ∈ news) (h0 : 0 ≤ k) (hfit : k < 2 ^ 63) (hx : vs[k.toNat]? = some v) (h : Q v s)
    (hs : subscripted slice false (.ref D) (.int k u) = operate [.ref D, .int k u] (getItem (.ref D) (.int k u))) :
    wpAny (model prog w) A (subscriptTail value slice (.ref D) (.int k u)) Q E s :=
  tail_any (PySem.IsL.isList (n := n) (N _ hm).1).typeIs slot_list_getitem.lookup (wpAny_getItem_list (PySem.IsL.isList (n := n) (N _ hm).1) h0 hfit (by simpa using hx) h) hs
end
end Mine
end
section
-- LComp
open PySem PySem.W PyProof.Rows
set_option Elab.async false
namespace Mine
section
variable {prog : Program} {w : World} {A : Around} {E : Value → Shared → Prop} {s : Shared} {h₀ : Heap} {L : Addr} {m : PySem.Str → Option Value} {env : Env} {ct elt : PySem.Expr} {x : PySem.Str} {scope : Scope} {cl : List (PySem.Str × Addr)} {news : List (Addr × Obj)} {Q : Value → Shared → Prop}
/-- a block over range(R), with a test that keeps the places of P -/
theorem r_comp {r : Addr} {R y mm dd : Int} {t u v : Tok} {x₀ : UInt64} (P : Int → Prop) [DecidablePred P] (J : Int → Int → Int → Int) (plain : Int)
    (cn : ∀ (n : Nat) (y : Int), 2 * (((rangeKs 0 n).foldl (keep P y) []).length : Int) = J (y + n) 1 1 - J y 1 1 - 2 * (plain * n))
    (_dummy : Fv x₀ (J y mm dd)) (hh : A.handled = none) (F : Fr h₀ L s.heap m) (N : News h₀ L s.heap news) (hr : IsRange s.heap r 0 R 1 t u v) (h0 : 0 ≤ R) (h1 : R ≤ 40)
    (turn : ∀ k t I oI C oC D m₂ ys l h tk (E' : Value → Shared → Prop), 0 ≤ k → k < R → LCg.NsObj oC m₂ → m₂ x = some (.int k t) → Fr h₀ L h m → News h₀ L h ((I, oI) :: (C, oC) :: (D, LCg.lst ys) :: news) → LCg.Off3 I C D news → ((@Ne Nat I C) ∧ (@Ne Nat I D) ∧ (@Ne Nat C D)) →
      wpAny (model prog w) A (isTrue ct (compEnvC scope cl C env) (eval ct (compEnvC scope cl C env))) (fun b s' => if b = true then wpAny (model prog w) A (eval elt (compEnvC scope cl C env)) (LCg.CompEnd h₀ L m { s with heap := h, toks := tk } I oI C oC D (LCg.lst ys) (fun _ => True) (fun y' news' => KCiEl news l (keep P y l k) y' news')) E' s'
        else LCg.CompEnd h₀ L m { s with heap := h, toks := tk } I oI C oC D (LCg.lst ys) (fun _ => True) (fun _ news' => KCiNo news l (keep P y l k) news') Value.none s') E' { s with heap := h, toks := tk })
    (fin : ∀ ys : List Value, ys.length ≤ 40 → 2 * (ys.length : Int) = J (y + R) 1 1 - J y 1 1 - 2 * (plain * R) → ∀ D h tk, Fr h₀ L h m → News h₀ L h ((D, LCg.lst ys) :: news) → Q (.ref D) { s with heap := h, toks := tk }) :
    LCt.CompSrcT prog w A h₀ L m env ct elt x scope cl (fun s₂ => LCg.FinE h₀ L m s₂ Q) (.ref r) s := by
  obtain ⟨n, rfl⟩ : ∃ n : Nat, R = (n : Int) := ⟨R.toNat, by omega⟩
  have hn : n ≤ 40 := by omega
  refine LCt.CompSrcT.range hh F N hr (small_one (by omega) (by omega) (by omega) (by omega)) (n := n) (by rw [rangeSize_nat]; omega) (by rw [PySem.sizeLine_eq]; omega) fun g => ?_
  refine kci_range (keep P y) (fun k t I oI C oC D m₂ ys l h tk E' h0 h1 hi hC hx F N off ne _ => turn k t I oI C oC D m₂ ys l h tk E' h0 (by omega) hC hx F N off ne) ?_ (keep_grows P y)
  intro ys hi hl D h tk F N off
  refine fin ys (by omega) ?_ D h tk F N
  rw [hi.length, cn]
theorem comp_yes {I C D : Addr} {oI oC oD : Obj} {s₁ : Shared} {l r : List Int} {a : Int} {t : Tok} {h' : Heap} {tk : Nat} (F : Fr h₀ L h' m) (N : News h₀ L h' ((I, oI) :: (C, oC) :: (D, oD) :: news)) (off : LCg.Off3 I C D news) (e : r = l ++ [a]) :
    LCg.CompEnd h₀ L m s₁ I oI C oC D oD (fun _ => True) (fun y' news' => KCiEl news l r y' news') (.int a t) { s₁ with heap := h', toks := tk } :=
  ⟨h', tk, news, rfl, F, N, off, trivial, kci_el e rfl rfl⟩
theorem comp_no {I C D : Addr} {oI oC oD : Obj} {s₁ : Shared} {l r : List Int} {y : Value} {h' : Heap} {tk : Nat} (F : Fr h₀ L h' m) (N : News h₀ L h' ((I, oI) :: (C, oC) :: (D, oD) :: news)) (off : LCg.Off3 I C D news) (e : r = l) :
    LCg.CompEnd h₀ L m s₁ I oI C oC D oD (fun _ => True) (fun _ news' => KCiNo news l r news') y { s₁ with heap := h', toks := tk } :=
  ⟨h', tk, news, rfl, F, N, off, trivial, kci_no e rfl⟩
theorem r_len {D : Addr} {ys : List Value} (N : News h₀ L s.heap ((D, LCg.lst ys) :: news)) (hf : ys.length ≤ 40) (h : Q (.int (ys.length : Nat) (s.toks + 1)) { s with toks := s.toks + 1 + 1 }) :
    wpAny (model prog w) A (call (.builtin "len") [.ref D]) Q E s :=
  KM.len_K (its := ys.toArray) (c := ys.length) N (.head _) (by rw [List.size_toArray]) (by omega) h
theorem r_div_j {t u : Tok} (h : Q (.int 365 s.toks) { s with toks := s.toks + 1 }) : wpAny (model prog w) A (binaryOp .FloorDiv (.int 1461 t) (.int 4 u)) Q E s :=
  r_div_iiO (by decide) (by decide) h
theorem r_div_i {t u : Tok} (h : Q (.int 354 s.toks) { s with toks := s.toks + 1 }) : wpAny (model prog w) A (binaryOp .FloorDiv (.int 10631 t) (.int 30 u)) Q E s :=
  r_div_iiO (by decide) (by decide) h
end
end Mine
end
section
-- LEnds
open PySem PySem.W PyProof.Rows
set_option Elab.async false
namespace Mine
theorem sub_out {S T : List PySem.Str} {y : PySem.Str} (h : S.contains y = false) (hs : T.all (fun x => S.contains x) = true) : T.contains y = false := by
  cases e : T.contains y with
  | false => rfl
  | true =>
    have := List.all_eq_true.mp hs y (List.contains_iff_mem.mp e)
    rw [h] at this
    cases this
theorem ov_out {S : List PySem.Str} {ρ m : PySem.Str → Option Value} {y : PySem.Str} (h : S.contains y = false) : ov S ρ m y = m y := by
  unfold ov
  rw [h]
  rfl
theorem ji_m {y m d c R : Int} {x : UInt64} (h : Hid (R = (12 * y + m - 1 + c) % 12)) (_f : Fv x (JI ((12 * y + m - 1 + c) / 12) (R + 1) d)) (hm : 1 ≤ m) (hm2 : m ≤ 12) :
    2 * (-627) ≤ (JI ((12 * y + m - 1 + c) / 12) (R + 1) d - JI y m d) * 360 - 2 * (10631 * c) ∧ (JI ((12 * y + m - 1 + c) / 12) (R + 1) d - JI y m d) * 360 - 2 * (10631 * c) ≤ 2 * 627 :=
  ji_months hm hm2 rfl rfl h.out
theorem jg_t {y m d c t : Int} (h1 : JG t 1 1 ≤ JG y m d + 2 * c) (h2 : JG y m d + 2 * c < JG (t + 1) 1 1) (hm : 1 ≤ m) (hm2 : m ≤ 12) (hd : 1 ≤ d) (hd2 : d ≤ 28) : 146097 * (t - y - 1) - 879 < 400 * c ∧ 400 * c < 146097 * (t - y + 1) + 879 :=
  jg_told hm hm2 hd hd2 h1 h2
theorem jn_t {y m d c t : Int} (h1 : JN t 1 1 ≤ JN y m d + 2 * c) (h2 : JN y m d + 2 * c < JN (t + 1) 1 1) (hm : 1 ≤ m) (hm2 : m ≤ 12) (hd : 1 ≤ d) (hd2 : d ≤ 28) : 146097 * (t - y - 1) - 879 < 400 * c ∧ 400 * c < 146097 * (t - y + 1) + 879 :=
  jn_told hm hm2 hd hd2 h1 h2
theorem ite_dpos {P p q : Prop} [Decidable P] (h : P) (hp : p) : if decide P = true then p else q := by rw [decide_eq_true h]; exact hp
theorem ite_dneg {P p q : Prop} [Decidable P] (h : P) (hq : q) : if (!decide P) = true then p else q := by rw [decide_eq_true h]; exact hq
end Mine
end
section
-- LWall
open PySem PySem.W PyProof.Rows
set_option Elab.async false
namespace Mine
set_option maxRecDepth 100000
set_option maxHeartbeats 80000000
set_option pp.deepTerms false
set_option pp.maxSteps 3000
local macro_rules | `(tactic| walk_at "binaryOp Add float float") => `(tactic| (k_dflt (refine' r_add_ff ?hx ?hy ?hb ?_; (case hx => first | with_reducible assumption | exact fv_eislamic | exact fv_ecoptic | exact fv_egregorian | exact fv_05 | exact fv_15245); (case hy => first | with_reducible assumption | exact fv_eislamic | exact fv_ecoptic | exact fv_egregorian | exact fv_05 | exact fv_15245); (case hb => omega)); intro z9 fz9))
local macro_rules | `(tactic| walk_at "binaryOp Sub float float") => `(tactic| (k_dflt (refine' r_sub_ff ?hx ?hy ?hb ?_; (case hx => first | with_reducible assumption | exact fv_eislamic | exact fv_ecoptic | exact fv_egregorian | exact fv_05 | exact fv_15245); (case hy => first | with_reducible assumption | exact fv_eislamic | exact fv_ecoptic | exact fv_egregorian | exact fv_05 | exact fv_15245); (case hb => omega)); intro z9 fz9))
local macro_rules | `(tactic| walk_at "binaryOp Add float int") => `(tactic| first | (k_dflt (refine' r_add_fi ?hx ?hn ?hb ?_; (case hx => first | with_reducible assumption | exact fv_eislamic | exact fv_ecoptic | exact fv_egregorian | exact fv_05 | exact fv_15245); (case hn => omega); (case hb => omega)); intro z9 fz9) | (k_dflt (refine' r_add_gd ?hx ?hn ?hq ?_; (case hx => with_reducible assumption); (case hn => omega); (case hq => omega)); intro z9 fz9))
local macro_rules | `(tactic| walk_at "binaryOp Sub float int") => `(tactic| (k_dflt (refine' r_sub_fi ?hx ?hn ?hb ?_; (case hx => first | with_reducible assumption | exact fv_eislamic | exact fv_ecoptic | exact fv_egregorian | exact fv_05 | exact fv_15245); (case hn => omega); (case hb => omega)); intro z9 fz9))
local macro_rules | `(tactic| walk_at "binaryOp Add int float") => `(tactic| (k_dflt (refine' r_add_if ?hx ?hn ?hb ?_; (case hx => first | with_reducible assumption | exact fv_eislamic | exact fv_ecoptic | exact fv_egregorian | exact fv_05 | exact fv_15245); (case hn => omega); (case hb => omega)); intro z9 fz9))
local macro_rules | `(tactic| walk_at "binaryOp Sub int float") => `(tactic| first | (k_dflt (refine' r_sub_if ?hx ?hn ?hb ?_; (case hx => first | with_reducible assumption | exact fv_eislamic | exact fv_ecoptic | exact fv_egregorian | exact fv_05 | exact fv_15245); (case hn => omega); (case hb => omega)); intro z9 fz9) | (k_dflt (refine' r_sub_1221 ?he ?hn ?_; (case he => with_reducible rfl); (case hn => omega)); intro z9 fz9))
local macro_rules | `(tactic| walk_at "binaryOp Mult float int") => `(tactic| first | (k_dflt (refine' r_mul_fi ?hx ?hn ?hb ?_; (case hx => first | with_reducible assumption | exact fv_295); (case hn => omega); (case hb => omega)); intro z9 fz9) | (k_dflt (refine' r_mul_36525 ?he ?hn ?_; (case he => with_reducible rfl); (case hn => omega)); intro z9 fz9) | (k_dflt (refine' r_mul_306001 ?he ?h0 ?hn ?_; (case he => with_reducible rfl); (case h0 => omega); (case hn => omega)); intro z9 fz9))
local macro_rules | `(tactic| walk_at "binaryOp Mult int float") => `(tactic| (k_dflt (refine' r_mul_if ?hx ?hn ?hb ?_; (case hx => first | with_reducible assumption | exact fv_295); (case hn => omega); (case hb => omega)); intro z9 fz9))
local macro_rules | `(tactic| walk_at "binaryOp Div float int") => `(tactic| (k_dflt (refine' r_div_fi ?hh ?hx ?hN ?h0 ?hn ?hq ?_; (case hh => rfl); (case hx => with_reducible assumption); (case hN => omega); (case h0 => omega); (case hn => omega); (case hq => omega)); intro z9 fz9))
local macro_rules | `(tactic| walk_at "binaryOp Div float float") => `(tactic| first | (k_dflt (refine' r_div_ff ?hh ?hx ?hN ?hy ?h0 ?hn ?hq ?_; (case hh => rfl); (case hx => with_reducible assumption); (case hN => omega); (case hy => first | with_reducible assumption | exact fv_295); (case h0 => omega); (case hn => omega); (case hq => omega)); intro z9 fz9) | (k_dflt (refine' r_div_36525 ?hh ?he ?hx ?hn ?_; (case hh => rfl); (case he => with_reducible rfl); (case hx => with_reducible assumption); (case hn => omega)); intro z9 fz9))
local macro_rules | `(tactic| walk_at "binaryOp Div int float") => `(tactic| (k_dflt (refine' r_div_306001 ?hh ?he ?h0 ?hn ?_; (case hh => rfl); (case he => with_reducible rfl); (case h0 => omega); (case hn => omega)); intro z9 fz9))
local macro_rules | `(tactic| walk_at "binaryOp Div int int") => `(tactic| (k_dflt (refine' r_div_ii ?hh ?hN ?h0 ?hn ?hq ?_; (case hh => rfl); (case hN => omega); (case h0 => omega); (case hn => omega); (case hq => omega)); intro z9 fz9 gz9))
local macro_rules | `(tactic| walk_at "binaryOp Mod float int") => `(tactic| (k_dflt (refine' r_mod_fi ?hh ?hx ?h0 ?hn ?_; (case hh => rfl); (case hx => with_reducible assumption); (case h0 => omega); (case hn => omega)); intro z9 fz9))
local macro_rules | `(tactic| walk_at "call builtin:math.floor") => `(tactic| ((with_reducible show wpAny _ _ (call _ [Value.float _ _]) _ _ _); k_dflt (refine' r_floor ?hh ?hx ?_; (case hh => rfl); (case hx => first | with_reducible assumption | exact fl_br (by with_reducible assumption) | exact fl_fv (by with_reducible assumption) | exact fl_gd (by with_reducible assumption)))))
local macro_rules | `(tactic| walk_at "call builtin:math.ceil") => `(tactic| ((with_reducible show wpAny _ _ (call _ [Value.float _ _]) _ _ _); k_dflt (refine' r_ceil ?hh ?hx ?_; (case hh => rfl); (case hx => first | with_reducible assumption | exact br_fv (by with_reducible assumption)))))
local macro_rules | `(tactic| walk_at "call type:int") => `(tactic| ((with_reducible show wpAny _ _ (call _ [Value.float _ _]) _ _ _); k_dflt (refine' r_int ?hh ?hx ?_; (case hh => rfl); (case hx => exact (show Fv _ _ by with_reducible assumption).1)); intro i9))
local macro_rules | `(tactic| walk_at "compareOp Lt float float") => `(tactic| (k_dflt (refine' r_lt_ff ?hx ?hy ?_; (case hx => with_reducible assumption); (case hy => with_reducible assumption))))
local macro_rules | `(tactic| walk_at "compareOp LtE float float") => `(tactic| (k_dflt (refine' r_le_ff ?hx ?hy ?_; (case hx => with_reducible assumption); (case hy => with_reducible assumption))))
local macro_rules | `(tactic| walk_at "compareOp Lt float int") => `(tactic| (k_dflt (refine' r_lt_fi ?hx ?_; (case hx => with_reducible assumption))))
local macro_rules | `(tactic| walk_at "compareOp LtE float int") => `(tactic| (k_dflt (refine' r_le_fi ?hx ?_; (case hx => with_reducible assumption))))
local macro_rules | `(tactic| walk_at "compareOp Lt int float") => `(tactic| (k_dflt (refine' r_lt_if ?hx ?_; (case hx => with_reducible assumption))))
local macro_rules | `(tactic| walk_at "compareOp LtE int float") => `(tactic| (k_dflt (refine' r_le_if ?hx ?_; (case hx => with_reducible assumption))))
local macro_rules | `(tactic| walk_at "compareOp NotEq float int") => `(tactic| (k_dflt (refine' r_ne_fi ?hx ?_; (case hx => with_reducible assumption))))
local macro_rules | `(tactic| walk_at "compareOp NotEq int float") => `(tactic| (k_dflt (refine' r_ne_if ?hx ?_; (case hx => with_reducible assumption))))
local macro_rules | `(tactic| walk_at "inplaceOp Add float float") => `(tactic| (k_dflt (refine' r_iadd_ff ?hx ?hy ?hb ?_; (case hx => with_reducible assumption); (case hy => first | with_reducible assumption | exact fv_05); (case hb => omega)); intro z9 fz9))
local macro_rules | `(tactic| walk_at "inplaceOp Add float int") => `(tactic| (k_dflt (refine' r_iadd_fi ?hh ?hx ?hn ?hb ?_; (case hh => rfl); (case hx => with_reducible assumption); (case hn => omega); (case hb => omega)); intro z9 fz9))
local macro_rules | `(tactic| walk_at "inplaceOp Sub float int") => `(tactic| (k_dflt (refine' r_isub_fi ?hh ?hx ?hn ?hb ?_; (case hh => rfl); (case hx => with_reducible assumption); (case hn => omega); (case hb => omega)); intro z9 fz9))
local macro_rules | `(tactic| walk_at "compareOp In int ref") => `(tactic| (k_dflt (refine' in_tuple_ints (ns := [4, 6, 9, 11]) (tup_in ?X ?ho ?hc) ?hi ?_; (case X => k_in); (case ho => k_is); (case hc => rfl); (case hi => (repeat constructor)))))
local macro_rules | `(tactic| walk_at "subscriptTail Call") => `(tactic| (k_here; k_dflt (refine kba_turn (value' := PySem.Expr.Name (PySem.Str.ofString "u9") ⟨0, 0, 0, 0⟩) (fun _ => rfl) ?_)))
local macro_rules | `(tactic| walk_at "subscriptTail Name Slice ref ref") => `(tactic| (k_here; (with_reducible show wpAny _ _ (subscriptTail _ (PySem.Expr.Slice _ _ none _) (Value.ref _) (Value.ref _)) _ _ _); k_dflt (refine' kmk_slice_ints ?F ?N ?l ?p ?q ?i ?m ?c ?_ ?s ?t ?z; (case F => k_asm); (case N => k_asm); (case l => kmk_list); (case p => kmk_part); (case q => kmk_part); (case i => l_ints); (case m => first | ((with_reducible refine' kmk_upto ?ka ?kb); (case ka => l_ints); (case kb => kmk_sign)) | ((with_reducible refine' kmk_from ?ka ?kb); (case ka => l_ints); (case kb => kmk_sign))); (case c => kmk_len); (case s => with_unfolding_all rfl); (case t => kmk_pure); (case z => kmk_size)); intro D' ws' h' F' N' l1 hI' hC' hL'; (try simp only [Int.reduceNeg, Int.neg_neg, Int.reduceToNat] at hI' hC' hL'); (try k_lt l1); (try k_sweep)))
local macro_rules | `(tactic| walk_at "subscriptTail Name Name ref int") => `(tactic| (k_here; (with_reducible show wpAny _ _ (subscriptTail _ _ (Value.ref _) (Value.int _ _)) _ _ _); k_dflt (refine' r_item ?N ?m ?h0 ?hf ?hx ?_ ?hs; (case N => k_asm); (case m => k_mem); (case h0 => decide); (case hf => decide); (case hx => rfl); (case hs => with_unfolding_all rfl)); k_whole))
local macro_rules | `(tactic| walk_at "exec For Name Call cons nil") => `(tactic| (k_here; (rename Fr _ _ _ _ => lF'); (with_unfolding_all refine' For_invTF lF' ?_ ?hs; (case hs => intro _; rfl))))
local macro_rules | `(tactic| walk_at "exec For Name List cons nil") => `(tactic| (k_here; (rename Fr _ _ _ _ => lF'); (with_unfolding_all refine' For_invTF lF' ?_ ?hs; (case hs => intro _; rfl))))
local macro_rules | `(tactic| walk_at "exec For Name Name cons nil") => `(tactic| (k_here; (rename Fr _ _ _ _ => lF'); (with_unfolding_all refine' For_invTF lF' ?_ ?hs; (case hs => intro _; rfl))))
local macro_rules | `(tactic| walk_at "pyIter ref") => `(tactic| ((with_reducible show wpAny _ _ (pyIter (Value.ref _)) (fun it s₂ => LoopAtT _ _ _ _ _ _ _ _ _ it s₂) _ _); refine Halt.intro ?_))
local macro_rules | `(tactic| walk_at "binaryOp Mod int int") => `(tactic| (k_dflt (refine' r_mod_iiO ?hb ?_; (case hb => decide)); intro m9 em9 ma9 mb9))
local macro_rules | `(tactic| walk_at "binaryOp FloorDiv int int") => `(tactic| (k_dflt (refine' r_div_iiO ?hb ?hb2 ?_; (case hb => decide); (case hb2 => decide))))
local macro_rules | `(tactic| walk_at "CompSrcT") => `(tactic| ((with_reducible show LCt.CompSrcT _ _ _ _ _ _ _ _ _ _ _ _ _ _ _); refine Halt.intro ?_))
local macro_rules | `(tactic| walk_at "binaryOp FloorDiv int int") => `(tactic| (first | (with_reducible refine r_div_j ?_) | (with_reducible refine r_div_i ?_)))
local macro_rules | `(tactic| walk_at "call builtin:len") => `(tactic| ((with_reducible show wpAny _ _ (call (Value.builtin _) [Value.ref _]) _ _ _); (rename (List.length _ ≤ 40) => hf9); (rename News _ _ _ _ => N9); (refine' r_len N9 hf9 ?_)))
local macro_rules | `(tactic| walk_at "ite") => `(tactic| ((have g9 := (show Gate 103 by with_reducible assumption)); first | ((with_reducible refine' ite_dpos ?fa ?_); (case fa => first | (with_reducible assumption) | (with_reducible exact jg_stray.1) | (with_reducible exact jg_stray.2) | (with_reducible exact jg_turn1 rfl) | (with_reducible exact jg_turn2 rfl) | exact (jg_t (by with_reducible assumption) (by with_reducible assumption) (by omega) (by omega) (by omega) (by omega)).1 | exact (jg_t (by with_reducible assumption) (by with_reducible assumption) (by omega) (by omega) (by omega) (by omega)).2)) | ((with_reducible refine' ite_dneg ?fb ?_); (case fb => first | (with_reducible assumption) | (with_reducible exact jg_stray.1) | (with_reducible exact jg_stray.2) | (with_reducible exact jg_turn1 rfl) | (with_reducible exact jg_turn2 rfl) | exact (jg_t (by with_reducible assumption) (by with_reducible assumption) (by omega) (by omega) (by omega) (by omega)).1 | exact (jg_t (by with_reducible assumption) (by with_reducible assumption) (by omega) (by omega) (by omega) (by omega)).2))))
local macro_rules | `(tactic| walk_at "ite") => `(tactic| ((have g9 := (show Gate 104 by with_reducible assumption)); first | ((with_reducible refine' ite_dpos ?fa ?_); (case fa => first | (with_reducible assumption) | (with_reducible exact jn_stray.1) | (with_reducible exact jn_stray.2) | (with_reducible exact jn_turn1 rfl) | (with_reducible exact jn_turn2 rfl) | exact (jn_t (by with_reducible assumption) (by with_reducible assumption) (by omega) (by omega) (by omega) (by omega)).1 | exact (jn_t (by with_reducible assumption) (by with_reducible assumption) (by omega) (by omega) (by omega) (by omega)).2)) | ((with_reducible refine' ite_dneg ?fb ?_); (case fb => first | (with_reducible assumption) | (with_reducible exact jn_stray.1) | (with_reducible exact jn_stray.2) | (with_reducible exact jn_turn1 rfl) | (with_reducible exact jn_turn2 rfl) | exact (jn_t (by with_reducible assumption) (by with_reducible assumption) (by omega) (by omega) (by omega) (by omega)).1 | exact (jn_t (by with_reducible assumption) (by with_reducible assumption) (by omega) (by omega) (by omega) (by omega)).2))))
local macro_rules | `(tactic| walk_at "ite") => `(tactic| ((have g9 := (show Gate 100 by with_reducible assumption)); first | ((with_reducible refine' ite_dpos ?fa ?_); (case fa => first | (with_reducible assumption) | exact Eq.symm (by with_reducible assumption))) | ((with_reducible refine' ite_dneg ?fb ?_); (case fb => first | (with_reducible assumption) | exact Eq.symm (by with_reducible assumption)))))
local macro_rules | `(tactic| walk_at "ite") => `(tactic| ((have g9 := (show Gate 101 by with_reducible assumption)); first | ((with_reducible refine' ite_dpos ?fa ?_); (case fa => first | (with_reducible assumption) | exact Eq.symm (by with_reducible assumption))) | ((with_reducible refine' ite_dneg ?fb ?_); (case fb => first | (with_reducible assumption) | exact Eq.symm (by with_reducible assumption)))))
local macro_rules | `(tactic| walk_at "ite") => `(tactic| ((have g9 := (show Gate 102 by with_reducible assumption)); first | ((with_reducible refine' ite_dpos ?fa ?_); (case fa => first | (with_reducible assumption) | exact Eq.symm (by with_reducible assumption))) | ((with_reducible refine' ite_dneg ?fb ?_); (case fb => first | (with_reducible assumption) | exact Eq.symm (by with_reducible assumption)))))
local macro_rules | `(tactic| walk_at "ite") => `(tactic| ((have g9 := (show Gate 105 by with_reducible assumption)); first | ((with_reducible refine' ite_dpos ?fa ?_); (case fa => first | (with_reducible assumption) | (with_reducible exact ji_turn1 _ _) | (with_reducible exact ji_turn2 _ _) | exact (ji_m (by with_reducible assumption) (by with_reducible assumption) (by omega) (by omega)).1 | exact (ji_m (by with_reducible assumption) (by with_reducible assumption) (by omega) (by omega)).2)) | ((with_reducible refine' ite_dneg ?fb ?_); (case fb => first | (with_reducible assumption) | (with_reducible exact ji_turn1 _ _) | (with_reducible exact ji_turn2 _ _) | exact (ji_m (by with_reducible assumption) (by with_reducible assumption) (by omega) (by omega)).1 | exact (ji_m (by with_reducible assumption) (by with_reducible assumption) (by omega) (by omega)).2))))
local macro_rules | `(tactic| walk_at "execs nil") => `(tactic| (refine wpAny_execs_nil ?_))
local macro_rules | `(tactic| walk_at "CompEnd") => `(tactic| ((rename Fr _ _ _ _ => F'); (rename News _ _ _ _ => N'); first | exact comp_yes F' N' (by assumption) (if_pos (by assumption)) | exact comp_no F' N' (by assumption) (if_neg (by assumption))))
local macro_rules | `(tactic| walk_at "call ref") => `(tactic| ((have g9 := (show Gate 200 by with_reducible assumption)); k_dflt (refine' Cl.use (l_near _ _ _ ) ?B ?F ?X ?N ?T ?hk ?hdp ?hun ?_; (case B => k_asm); (case F => k_asm); (case X => k_asm); (case N => k_asm); (case T => k_asm); (case hk => first | exact rfl | assumption); (case hdp => ktr_room); (case hun => ktr_units);  skip); intro v9 h9 tk9 p9 F9 N9; obtain ⟨q9, k9, e9, qa9, qb9⟩ := p9; subst e9; (try dsimp only); (try k_fold)))
local macro_rules | `(tactic| walk_at "call ref") => `(tactic| ((have g9 := (show Gate 100 by with_reducible assumption)); k_dflt (refine' Cl.use (l_year_julian _ _ _ _ _ ?h0 ?h1 ?h2 ?h3) ?B ?F ?X ?N ?T ?hk ?hdp ?hun ?_; (case B => k_asm); (case F => k_asm); (case X => k_asm); (case N => k_asm); (case T => k_asm); (case hk => first | exact rfl | assumption); (case hdp => ktr_room); (case hun => ktr_units); (case h0 => with_reducible assumption); (case h1 => omega); (case h2 => omega); (case h3 => omega); skip); intro v9 h9 tk9 p9 F9 N9; obtain ⟨y9, k9, e9, py9, pz9, pv9, pw9⟩ := p9; subst e9; (try dsimp only); (try k_fold)))
local macro_rules | `(tactic| walk_at "call ref") => `(tactic| ((have g9 := (show Gate 100 by with_reducible assumption)); k_dflt (refine' Cl.use (l_dayb_julian _ _ _ _ _ _ _ _ ?h0 ?h1 ?h2 ?h3 ?h4 ?h5) ?B ?F ?X ?N ?T ?hk ?hdp ?hun ?_; (case B => k_asm); (case F => k_asm); (case X => k_asm); (case N => k_asm); (case T => k_asm); (case hk => first | exact rfl | assumption); (case hdp => ktr_room); (case hun => ktr_units); (case h0 => omega); (case h1 => omega); (case h2 => omega); (case h3 => omega); (case h4 => omega); (case h5 => omega); skip); intro v9 h9 tk9 p9 F9 N9; obtain ⟨x9, k9, e9, fx9, bx9, by9, ox9⟩ := p9; subst e9; (try dsimp only); (try k_fold)))
local macro_rules | `(tactic| walk_at "call ref") => `(tactic| ((have g9 := (show Gate 100 by with_reducible assumption)); k_dflt (refine' Cl.use (l_day_julian _ _ _ _ _ _ _ _ ?h0 ?h1 ?h2 ?h3 ?h4 ?h5) ?B ?F ?X ?N ?T ?hk ?hdp ?hun ?_; (case B => k_asm); (case F => k_asm); (case X => k_asm); (case N => k_asm); (case T => k_asm); (case hk => first | exact rfl | assumption); (case hdp => ktr_room); (case hun => ktr_units); (case h0 => omega); (case h1 => omega); (case h2 => omega); (case h3 => omega); (case h4 => omega); (case h5 => omega); skip); intro v9 h9 tk9 p9 F9 N9; obtain ⟨x9, k9, e9, fx9, bx9, by9, ox9⟩ := p9; subst e9; (try dsimp only); (try k_fold)))
local macro_rules | `(tactic| walk_at "call ref") => `(tactic| ((have g9 := (show Gate 100 by with_reducible assumption)); k_dflt (refine' Cl.use (l_even_float _ _ _ _ _ _ _ _ _ _ ?h0 ?h1 ?h2 ?h3 ?h4 ?h5 ?h6 ?h7 ?h8) ?B ?F ?X ?N ?T ?hk ?hdp ?hun ?_; (case B => k_asm); (case F => k_asm); (case X => k_asm); (case N => k_asm); (case T => k_asm); (case hk => first | exact rfl | assumption); (case hdp => ktr_room); (case hun => ktr_units); (case h0 => with_reducible assumption); (case h1 => omega); (case h2 => omega); (case h3 => omega); (case h4 => omega); (case h5 => omega); (case h6 => omega); (case h7 => exact jj_day.1); (case h8 => exact jj_day.2); skip); intro v9 h9 tk9 p9 F9 N9; subst p9; (try dsimp only); (try k_fold)))
local macro_rules | `(tactic| walk_at "call ref") => `(tactic| ((have g9 := (show Gate 100 by with_reducible assumption)); k_dflt (refine' Cl.use (l_even_int _ _ _ _ _ _ _ _ _ ?h0 ?h1 ?h2 ?h3 ?h4 ?h5 ?h6 ?h7) ?B ?F ?X ?N ?T ?hk ?hdp ?hun ?_; (case B => k_asm); (case F => k_asm); (case X => k_asm); (case N => k_asm); (case T => k_asm); (case hk => first | exact rfl | assumption); (case hdp => ktr_room); (case hun => ktr_units); (case h0 => omega); (case h1 => omega); (case h2 => omega); (case h3 => omega); (case h4 => omega); (case h5 => omega); (case h6 => first | ((refine' (jj_told ?ma ?mb ?mc ?md ?me ?mf).1; (case me => with_reducible assumption); (case mf => with_reducible assumption); (case ma => omega); (case mb => omega); (case mc => omega); (case md => omega))) | (have h9 := (jj_called (by with_reducible assumption)).1; omega)); (case h7 => first | ((refine' (jj_told ?na ?nb ?nc ?nd ?ne ?nf).2; (case ne => with_reducible assumption); (case nf => with_reducible assumption); (case na => omega); (case nb => omega); (case nc => omega); (case nd => omega))) | (have h9 := (jj_called (by with_reducible assumption)).2; omega)); skip); intro v9 h9 tk9 p9 F9 N9; subst p9; (try dsimp only); (try k_fold)))
local macro_rules | `(tactic| walk_at "call ref") => `(tactic| ((have g9 := (show Gate 100 by with_reducible assumption)); k_dflt (refine' Cl.use (c_long_julian _ _ _ _ ) ?B ?F ?X ?N ?T ?hk ?hdp ?hun ?_; (case B => k_asm); (case F => k_asm); (case X => k_asm); (case N => k_asm); (case T => k_asm); (case hk => first | exact rfl | assumption); (case hdp => ktr_room); (case hun => ktr_units);  skip); intro v9 h9 tk9 p9 F9 N9; subst p9; (try dsimp only); (try k_fold)))
local macro_rules | `(tactic| walk_at "call ref") => `(tactic| ((have g9 := (show Gate 101 by with_reducible assumption)); k_dflt (refine' Cl.use (l_year_coptic _ _ _ _ _ ?h0 ?h1 ?h2 ?h3) ?B ?F ?X ?N ?T ?hk ?hdp ?hun ?_; (case B => k_asm); (case F => k_asm); (case X => k_asm); (case N => k_asm); (case T => k_asm); (case hk => first | exact rfl | assumption); (case hdp => ktr_room); (case hun => ktr_units); (case h0 => with_reducible assumption); (case h1 => omega); (case h2 => omega); (case h3 => omega); skip); intro v9 h9 tk9 p9 F9 N9; obtain ⟨y9, k9, e9, py9, pz9, pv9, pw9⟩ := p9; subst e9; (try dsimp only); (try k_fold)))
local macro_rules | `(tactic| walk_at "call ref") => `(tactic| ((have g9 := (show Gate 101 by with_reducible assumption)); k_dflt (refine' Cl.use (l_dayb_coptic _ _ _ _ _ _ _ _ ?h0 ?h1 ?h2 ?h3 ?h4 ?h5) ?B ?F ?X ?N ?T ?hk ?hdp ?hun ?_; (case B => k_asm); (case F => k_asm); (case X => k_asm); (case N => k_asm); (case T => k_asm); (case hk => first | exact rfl | assumption); (case hdp => ktr_room); (case hun => ktr_units); (case h0 => omega); (case h1 => omega); (case h2 => omega); (case h3 => omega); (case h4 => omega); (case h5 => omega); skip); intro v9 h9 tk9 p9 F9 N9; obtain ⟨x9, k9, e9, fx9, bx9, by9, ox9⟩ := p9; subst e9; (try dsimp only); (try k_fold)))
local macro_rules | `(tactic| walk_at "call ref") => `(tactic| ((have g9 := (show Gate 101 by with_reducible assumption)); k_dflt (refine' Cl.use (l_day_coptic _ _ _ _ _ _ _ _ ?h0 ?h1 ?h2 ?h3 ?h4 ?h5) ?B ?F ?X ?N ?T ?hk ?hdp ?hun ?_; (case B => k_asm); (case F => k_asm); (case X => k_asm); (case N => k_asm); (case T => k_asm); (case hk => first | exact rfl | assumption); (case hdp => ktr_room); (case hun => ktr_units); (case h0 => omega); (case h1 => omega); (case h2 => omega); (case h3 => omega); (case h4 => omega); (case h5 => omega); skip); intro v9 h9 tk9 p9 F9 N9; obtain ⟨x9, k9, e9, fx9, bx9, by9, ox9⟩ := p9; subst e9; (try dsimp only); (try k_fold)))
local macro_rules | `(tactic| walk_at "call ref") => `(tactic| ((have g9 := (show Gate 101 by with_reducible assumption)); k_dflt (refine' Cl.use (l_even_float _ _ _ _ _ _ _ _ _ _ ?h0 ?h1 ?h2 ?h3 ?h4 ?h5 ?h6 ?h7 ?h8) ?B ?F ?X ?N ?T ?hk ?hdp ?hun ?_; (case B => k_asm); (case F => k_asm); (case X => k_asm); (case N => k_asm); (case T => k_asm); (case hk => first | exact rfl | assumption); (case hdp => ktr_room); (case hun => ktr_units); (case h0 => with_reducible assumption); (case h1 => omega); (case h2 => omega); (case h3 => omega); (case h4 => omega); (case h5 => omega); (case h6 => omega); (case h7 => exact jc_day.1); (case h8 => exact jc_day.2); skip); intro v9 h9 tk9 p9 F9 N9; subst p9; (try dsimp only); (try k_fold)))
local macro_rules | `(tactic| walk_at "call ref") => `(tactic| ((have g9 := (show Gate 101 by with_reducible assumption)); k_dflt (refine' Cl.use (l_even_int _ _ _ _ _ _ _ _ _ ?h0 ?h1 ?h2 ?h3 ?h4 ?h5 ?h6 ?h7) ?B ?F ?X ?N ?T ?hk ?hdp ?hun ?_; (case B => k_asm); (case F => k_asm); (case X => k_asm); (case N => k_asm); (case T => k_asm); (case hk => first | exact rfl | assumption); (case hdp => ktr_room); (case hun => ktr_units); (case h0 => omega); (case h1 => omega); (case h2 => omega); (case h3 => omega); (case h4 => omega); (case h5 => omega); (case h6 => first | ((refine' (jc_told ?ma ?mb ?mc ?md ?me ?mf).1; (case me => with_reducible assumption); (case mf => with_reducible assumption); (case ma => omega); (case mb => omega); (case mc => omega); (case md => omega))) | (have h9 := (jc_called (by with_reducible assumption)).1; omega)); (case h7 => first | ((refine' (jc_told ?na ?nb ?nc ?nd ?ne ?nf).2; (case ne => with_reducible assumption); (case nf => with_reducible assumption); (case na => omega); (case nb => omega); (case nc => omega); (case nd => omega))) | (have h9 := (jc_called (by with_reducible assumption)).2; omega)); skip); intro v9 h9 tk9 p9 F9 N9; subst p9; (try dsimp only); (try k_fold)))
local macro_rules | `(tactic| walk_at "call ref") => `(tactic| ((have g9 := (show Gate 101 by with_reducible assumption)); k_dflt (refine' Cl.use (c_long_coptic _ _ _ _ ) ?B ?F ?X ?N ?T ?hk ?hdp ?hun ?_; (case B => k_asm); (case F => k_asm); (case X => k_asm); (case N => k_asm); (case T => k_asm); (case hk => first | exact rfl | assumption); (case hdp => ktr_room); (case hun => ktr_units);  skip); intro v9 h9 tk9 p9 F9 N9; subst p9; (try dsimp only); (try k_fold)))
local macro_rules | `(tactic| walk_at "call ref") => `(tactic| ((have g9 := (show Gate 102 by with_reducible assumption)); k_dflt (refine' Cl.use (l_year_islamic _ _ _ _ _ ?h0 ?h1 ?h2 ?h3) ?B ?F ?X ?N ?T ?hk ?hdp ?hun ?_; (case B => k_asm); (case F => k_asm); (case X => k_asm); (case N => k_asm); (case T => k_asm); (case hk => first | exact rfl | assumption); (case hdp => ktr_room); (case hun => ktr_units); (case h0 => with_reducible assumption); (case h1 => omega); (case h2 => omega); (case h3 => omega); skip); intro v9 h9 tk9 p9 F9 N9; obtain ⟨y9, k9, e9, py9, pz9, pv9, pw9⟩ := p9; subst e9; (try dsimp only); (try k_fold)))
local macro_rules | `(tactic| walk_at "call ref") => `(tactic| ((have g9 := (show Gate 102 by with_reducible assumption)); k_dflt (refine' Cl.use (l_dayb_islamic _ _ _ _ _ _ _ _ ?h0 ?h1 ?h2 ?h3 ?h4 ?h5) ?B ?F ?X ?N ?T ?hk ?hdp ?hun ?_; (case B => k_asm); (case F => k_asm); (case X => k_asm); (case N => k_asm); (case T => k_asm); (case hk => first | exact rfl | assumption); (case hdp => ktr_room); (case hun => ktr_units); (case h0 => omega); (case h1 => omega); (case h2 => omega); (case h3 => omega); (case h4 => omega); (case h5 => omega); skip); intro v9 h9 tk9 p9 F9 N9; obtain ⟨x9, k9, e9, fx9, bx9, by9, ox9⟩ := p9; subst e9; (try dsimp only); (try k_fold)))
local macro_rules | `(tactic| walk_at "call ref") => `(tactic| ((have g9 := (show Gate 102 by with_reducible assumption)); k_dflt (refine' Cl.use (l_day_islamic _ _ _ _ _ _ _ _ ?h0 ?h1 ?h2 ?h3 ?h4 ?h5) ?B ?F ?X ?N ?T ?hk ?hdp ?hun ?_; (case B => k_asm); (case F => k_asm); (case X => k_asm); (case N => k_asm); (case T => k_asm); (case hk => first | exact rfl | assumption); (case hdp => ktr_room); (case hun => ktr_units); (case h0 => omega); (case h1 => omega); (case h2 => omega); (case h3 => omega); (case h4 => omega); (case h5 => omega); skip); intro v9 h9 tk9 p9 F9 N9; obtain ⟨x9, k9, e9, fx9, bx9, by9, ox9⟩ := p9; subst e9; (try dsimp only); (try k_fold)))
local macro_rules | `(tactic| walk_at "call ref") => `(tactic| ((have g9 := (show Gate 102 by with_reducible assumption)); k_dflt (refine' Cl.use (l_even_float _ _ _ _ _ _ _ _ _ _ ?h0 ?h1 ?h2 ?h3 ?h4 ?h5 ?h6 ?h7 ?h8) ?B ?F ?X ?N ?T ?hk ?hdp ?hun ?_; (case B => k_asm); (case F => k_asm); (case X => k_asm); (case N => k_asm); (case T => k_asm); (case hk => first | exact rfl | assumption); (case hdp => ktr_room); (case hun => ktr_units); (case h0 => with_reducible assumption); (case h1 => omega); (case h2 => omega); (case h3 => omega); (case h4 => omega); (case h5 => omega); (case h6 => omega); (case h7 => exact ji_day.1); (case h8 => exact ji_day.2); skip); intro v9 h9 tk9 p9 F9 N9; subst p9; (try dsimp only); (try k_fold)))
local macro_rules | `(tactic| walk_at "call ref") => `(tactic| ((have g9 := (show Gate 102 by with_reducible assumption)); k_dflt (refine' Cl.use (l_even_int _ _ _ _ _ _ _ _ _ ?h0 ?h1 ?h2 ?h3 ?h4 ?h5 ?h6 ?h7) ?B ?F ?X ?N ?T ?hk ?hdp ?hun ?_; (case B => k_asm); (case F => k_asm); (case X => k_asm); (case N => k_asm); (case T => k_asm); (case hk => first | exact rfl | assumption); (case hdp => ktr_room); (case hun => ktr_units); (case h0 => omega); (case h1 => omega); (case h2 => omega); (case h3 => omega); (case h4 => omega); (case h5 => omega); (case h6 => first | ((refine' (ji_told ?ma ?mb ?mc ?md ?me ?mf).1; (case me => with_reducible assumption); (case mf => with_reducible assumption); (case ma => omega); (case mb => omega); (case mc => omega); (case md => omega))) | (have h9 := (ji_called (by with_reducible assumption)).1; omega)); (case h7 => first | ((refine' (ji_told ?na ?nb ?nc ?nd ?ne ?nf).2; (case ne => with_reducible assumption); (case nf => with_reducible assumption); (case na => omega); (case nb => omega); (case nc => omega); (case nd => omega))) | (have h9 := (ji_called (by with_reducible assumption)).2; omega)); skip); intro v9 h9 tk9 p9 F9 N9; subst p9; (try dsimp only); (try k_fold)))
local macro_rules | `(tactic| walk_at "call ref") => `(tactic| ((have g9 := (show Gate 102 by with_reducible assumption)); k_dflt (refine' Cl.use (c_long_islamic _ _ _ _ ) ?B ?F ?X ?N ?T ?hk ?hdp ?hun ?_; (case B => k_asm); (case F => k_asm); (case X => k_asm); (case N => k_asm); (case T => k_asm); (case hk => first | exact rfl | assumption); (case hdp => ktr_room); (case hun => ktr_units);  skip); intro v9 h9 tk9 p9 F9 N9; subst p9; (try dsimp only); (try k_fold)))
local macro_rules | `(tactic| walk_at "call ref") => `(tactic| ((have g9 := (show Gate 103 by with_reducible assumption)); k_dflt (refine' Cl.use (l_year_gregorian _ _ _ _ _ ?h0 ?h1 ?h2 ?h3) ?B ?F ?X ?N ?T ?hk ?hdp ?hun ?_; (case B => k_asm); (case F => k_asm); (case X => k_asm); (case N => k_asm); (case T => k_asm); (case hk => first | exact rfl | assumption); (case hdp => ktr_room); (case hun => ktr_units); (case h0 => with_reducible assumption); (case h1 => omega); (case h2 => omega); (case h3 => omega); skip); intro v9 h9 tk9 p9 F9 N9; obtain ⟨y9, k9, e9, py9, pz9, pv9, pw9⟩ := p9; subst e9; (try dsimp only); (try k_fold)))
local macro_rules | `(tactic| walk_at "call ref") => `(tactic| ((have g9 := (show Gate 103 by with_reducible assumption)); k_dflt (refine' Cl.use (l_dayb_gregorian _ _ _ _ _ _ _ _ ?h0 ?h1 ?h2 ?h3 ?h4 ?h5) ?B ?F ?X ?N ?T ?hk ?hdp ?hun ?_; (case B => k_asm); (case F => k_asm); (case X => k_asm); (case N => k_asm); (case T => k_asm); (case hk => first | exact rfl | assumption); (case hdp => ktr_room); (case hun => ktr_units); (case h0 => omega); (case h1 => omega); (case h2 => omega); (case h3 => omega); (case h4 => omega); (case h5 => omega); skip); intro v9 h9 tk9 p9 F9 N9; obtain ⟨x9, k9, e9, fx9, bx9, by9, ox9⟩ := p9; subst e9; (try dsimp only); (try k_fold)))
local macro_rules | `(tactic| walk_at "call ref") => `(tactic| ((have g9 := (show Gate 103 by with_reducible assumption)); k_dflt (refine' Cl.use (l_day_gregorian _ _ _ _ _ _ _ _ ?h0 ?h1 ?h2 ?h3 ?h4 ?h5) ?B ?F ?X ?N ?T ?hk ?hdp ?hun ?_; (case B => k_asm); (case F => k_asm); (case X => k_asm); (case N => k_asm); (case T => k_asm); (case hk => first | exact rfl | assumption); (case hdp => ktr_room); (case hun => ktr_units); (case h0 => omega); (case h1 => omega); (case h2 => omega); (case h3 => omega); (case h4 => omega); (case h5 => omega); skip); intro v9 h9 tk9 p9 F9 N9; obtain ⟨x9, k9, e9, fx9, bx9, by9, ox9⟩ := p9; subst e9; (try dsimp only); (try k_fold)))
local macro_rules | `(tactic| walk_at "call ref") => `(tactic| ((have g9 := (show Gate 104 by with_reducible assumption)); k_dflt (refine' Cl.use (l_year_indian _ _ _ _ _ ?h0 ?h1 ?h2 ?h3) ?B ?F ?X ?N ?T ?hk ?hdp ?hun ?_; (case B => k_asm); (case F => k_asm); (case X => k_asm); (case N => k_asm); (case T => k_asm); (case hk => first | exact rfl | assumption); (case hdp => ktr_room); (case hun => ktr_units); (case h0 => with_reducible assumption); (case h1 => omega); (case h2 => omega); (case h3 => omega); skip); intro v9 h9 tk9 p9 F9 N9; obtain ⟨y9, k9, e9, py9, pz9, pv9, pw9⟩ := p9; subst e9; (try dsimp only); (try k_fold)))
local macro_rules | `(tactic| walk_at "call ref") => `(tactic| ((have g9 := (show Gate 104 by with_reducible assumption)); k_dflt (refine' Cl.use (l_dayb_indian _ _ _ _ _ _ _ _ ?h0 ?h1 ?h2 ?h3 ?h4 ?h5) ?B ?F ?X ?N ?T ?hk ?hdp ?hun ?_; (case B => k_asm); (case F => k_asm); (case X => k_asm); (case N => k_asm); (case T => k_asm); (case hk => first | exact rfl | assumption); (case hdp => ktr_room); (case hun => ktr_units); (case h0 => omega); (case h1 => omega); (case h2 => omega); (case h3 => omega); (case h4 => omega); (case h5 => omega); skip); intro v9 h9 tk9 p9 F9 N9; obtain ⟨x9, k9, e9, fx9, bx9, by9, ox9⟩ := p9; subst e9; (try dsimp only); (try k_fold)))
local macro_rules | `(tactic| walk_at "call ref") => `(tactic| ((have g9 := (show Gate 104 by with_reducible assumption)); k_dflt (refine' Cl.use (l_day_indian _ _ _ _ _ _ _ _ ?h0 ?h1 ?h2 ?h3 ?h4 ?h5) ?B ?F ?X ?N ?T ?hk ?hdp ?hun ?_; (case B => k_asm); (case F => k_asm); (case X => k_asm); (case N => k_asm); (case T => k_asm); (case hk => first | exact rfl | assumption); (case hdp => ktr_room); (case hun => ktr_units); (case h0 => omega); (case h1 => omega); (case h2 => omega); (case h3 => omega); (case h4 => omega); (case h5 => omega); skip); intro v9 h9 tk9 p9 F9 N9; obtain ⟨x9, k9, e9, fx9, bx9, by9, ox9⟩ := p9; subst e9; (try dsimp only); (try k_fold)))
local macro_rules | `(tactic| walk_at "call ref") => `(tactic| ((have g9 := (show Gate 105 by with_reducible assumption)); k_dflt (refine' Cl.use (l_to_jd_islamicb _ _ _ _ _ _ _ ?h0 ?h1 ?h2 ?h3 ?h4 ?h5) ?B ?F ?X ?N ?T ?hk ?hdp ?hun ?_; (case B => k_asm); (case F => k_asm); (case X => k_asm); (case N => k_asm); (case T => k_asm); (case hk => first | exact rfl | assumption); (case hdp => ktr_room); (case hun => ktr_units); (case h0 => omega); (case h1 => omega); (case h2 => omega); (case h3 => omega); (case h4 => omega); (case h5 => omega); skip); intro v9 h9 tk9 p9 F9 N9; obtain ⟨x9, k9, e9, fx9, bx9, by9, ox9⟩ := p9; subst e9; (try dsimp only); (try k_fold)))
local macro_rules | `(tactic| walk_at "call ref") => `(tactic| ((have g9 := (show Gate 105 by with_reducible assumption)); k_dflt (refine' Cl.use (l_to_jd_islamic _ _ _ _ _ _ _ ?h0 ?h1 ?h2 ?h3 ?h4 ?h5) ?B ?F ?X ?N ?T ?hk ?hdp ?hun ?_; (case B => k_asm); (case F => k_asm); (case X => k_asm); (case N => k_asm); (case T => k_asm); (case hk => first | exact rfl | assumption); (case hdp => ktr_room); (case hun => ktr_units); (case h0 => omega); (case h1 => omega); (case h2 => omega); (case h3 => omega); (case h4 => omega); (case h5 => omega); skip); intro v9 h9 tk9 p9 F9 N9; obtain ⟨x9, k9, e9, fx9, bx9, by9, ox9⟩ := p9; subst e9; (try dsimp only); (try k_fold)))
theorem law_holds : PySem.Challenge.rw_ad5026_01.Holds := by
  w_on
  refine hd ?_
  have g200 : Gate 200 := trivial
  w_strict (k_go0; (all_goals try k_fold); k_steps)
  refine Halt.out ?_
  clear g200
  rename Fr _ _ _ _ => F9
  rename News _ _ _ _ => N9
  k_dflt (refine' loopK [Str.ofString "part", Str.ofString "whole", Str.ofString "here", Str.ofString "count", Str.ofString "told", Str.ofString "called", Str.ofString "plain"] ?hh ?hr F9 N9 ?e1 ?hk ?hkd ?e2 ?hy ?e3 ?hc ?turn ?done; (case hh => rfl); (case hr => assumption); (case e1 => rfl); (case hk => k_mem); (case e2 => rfl); (case hy => k_mem); (case e3 => rfl); (case hc => k_mem))
  case hkd => assumption
  case turn =>
    clear F9 N9
    intro I k t it ρ o v s₁ hk hit hod i1 i2 i3 F N
    obtain ⟨h1, gg1, dr1, tk1, os1⟩ := s₁
    dsimp only [envOfC] at F N
    k_fold
    rcases hk with rfl | rfl | rfl
    · have g : Gate 100 := trivial
      k_steps
      refine Halt.out ?_
      rename Fr _ _ _ _ => F9
      rename News _ _ _ _ => N9
      replace N9 := news_tail (news_tail (news_tail (news_tail N9)))
      k_dflt (refine' loopC [Str.ofString "count", Str.ofString "told"] ?zh F9 N9 ?zm ?zt ?zd; (case zh => rfl); (case zm => k_mem))
      case zt =>
        clear F9 N9
        intro I2 c t2 it2 ρ2 s₂ hI2 hc hit2 F N
        obtain ⟨h2, gg2, dr2, tk2, os2⟩ := s₂
        dsimp only at F N
        have hc1 : -1000000 ≤ c := by omega
        have hc2 : c ≤ 1000000 := by omega
        (with_reducible show wpAny _ _ _ _ _ _)
        k_fold
        k_steps
        
        rename Fr _ _ _ _ => F9
        rename News _ _ _ _ => N9
        refine LEnd.mk rfl ⟨_, _, _, _, rfl, F9, N9, rfl, ?_⟩
        intro y9 hy9
        have n0 : y9 ≠ Str.ofString "count" := by rintro rfl; revert hy9; decide
        have n1 : y9 ≠ Str.ofString "told" := by rintro rfl; revert hy9; decide
        simp only [n0, n1, if_false, ov, hy9, Bool.false_eq_true]
        all_goals rfl
      case zd =>
        clear F9 N9
        intro ρ2 h2 tk2 F N
        (try dsimp only)
        (try k_fold)
        k_steps
        refine Halt.out ?_
        rename Fr _ _ _ _ => F9
        rename News _ _ _ _ => N9
        k_dflt (refine' r_comp (fun z => z % 4 = 0) JJ 365 jj_cnt ?yd ?yh F9 N9 ?yr ?y0 ?y1 ?yt ?yf; (case yd => with_reducible assumption); (case yh => rfl); (case yr => assumption); (case y0 => omega); (case y1 => omega))
        case yt =>
          clear F9 N9
          intro k3 t3 I3 oI3 C3 oC3 D3 m3 ys3 l3 h3 tk3 E3 hlo3 hhi3 hC3 hx3 F3 N3 off3 ne3
          (with_reducible show wpAny _ _ _ _ _ _)
          k_fold
          k_steps
        case yf =>
          clear F9 N9
          intro ys3 hl3 hcal D3 h3 tk3 F3 N3
          (try dsimp only)
          k_fold
          k_steps
          rename Fr _ _ _ _ => F9
          rename News _ _ _ _ => N9
          refine LEnd.mk rfl ⟨_, _, _, _, rfl, F9, news_tail N9, ⟨_, _, by assumption, rfl⟩, ?_⟩
          intro y9 hy9
          have n0 : y9 ≠ Str.ofString "part" := by rintro rfl; revert hy9; decide
          have n1 : y9 ≠ Str.ofString "whole" := by rintro rfl; revert hy9; decide
          have n2 : y9 ≠ Str.ofString "here" := by rintro rfl; revert hy9; decide
          have n3 : y9 ≠ Str.ofString "count" := by rintro rfl; revert hy9; decide
          have n4 : y9 ≠ Str.ofString "told" := by rintro rfl; revert hy9; decide
          have n5 : y9 ≠ Str.ofString "called" := by rintro rfl; revert hy9; decide
          have n6 : y9 ≠ Str.ofString "plain" := by rintro rfl; revert hy9; decide
          have hs9 : List.contains [Str.ofString "count", Str.ofString "told"] y9 = false := sub_out hy9 (by decide)
          simp only [n0, n1, n2, n3, n4, n5, n6, if_false, ov, hy9, hs9, Bool.false_eq_true]
          all_goals rfl
    · have g : Gate 101 := trivial
      k_steps
      refine Halt.out ?_
      rename Fr _ _ _ _ => F9
      rename News _ _ _ _ => N9
      replace N9 := news_tail (news_tail (news_tail (news_tail N9)))
      k_dflt (refine' loopC [Str.ofString "count", Str.ofString "told"] ?zh F9 N9 ?zm ?zt ?zd; (case zh => rfl); (case zm => k_mem))
      case zt =>
        clear F9 N9
        intro I2 c t2 it2 ρ2 s₂ hI2 hc hit2 F N
        obtain ⟨h2, gg2, dr2, tk2, os2⟩ := s₂
        dsimp only at F N
        have hc1 : -1000000 ≤ c := by omega
        have hc2 : c ≤ 1000000 := by omega
        (with_reducible show wpAny _ _ _ _ _ _)
        k_fold
        k_steps
        
        rename Fr _ _ _ _ => F9
        rename News _ _ _ _ => N9
        refine LEnd.mk rfl ⟨_, _, _, _, rfl, F9, N9, rfl, ?_⟩
        intro y9 hy9
        have n0 : y9 ≠ Str.ofString "count" := by rintro rfl; revert hy9; decide
        have n1 : y9 ≠ Str.ofString "told" := by rintro rfl; revert hy9; decide
        simp only [n0, n1, if_false, ov, hy9, Bool.false_eq_true]
        all_goals rfl
      case zd =>
        clear F9 N9
        intro ρ2 h2 tk2 F N
        (try dsimp only)
        (try k_fold)
        k_steps
        refine Halt.out ?_
        rename Fr _ _ _ _ => F9
        rename News _ _ _ _ => N9
        k_dflt (refine' r_comp (fun z => z % 4 = 3) JC 365 jc_cnt ?yd ?yh F9 N9 ?yr ?y0 ?y1 ?yt ?yf; (case yd => with_reducible assumption); (case yh => rfl); (case yr => assumption); (case y0 => omega); (case y1 => omega))
        case yt =>
          clear F9 N9
          intro k3 t3 I3 oI3 C3 oC3 D3 m3 ys3 l3 h3 tk3 E3 hlo3 hhi3 hC3 hx3 F3 N3 off3 ne3
          (with_reducible show wpAny _ _ _ _ _ _)
          k_fold
          k_steps
        case yf =>
          clear F9 N9
          intro ys3 hl3 hcal D3 h3 tk3 F3 N3
          (try dsimp only)
          k_fold
          k_steps
          rename Fr _ _ _ _ => F9
          rename News _ _ _ _ => N9
          refine LEnd.mk rfl ⟨_, _, _, _, rfl, F9, news_tail N9, ⟨_, _, by assumption, rfl⟩, ?_⟩
          intro y9 hy9
          have n0 : y9 ≠ Str.ofString "part" := by rintro rfl; revert hy9; decide
          have n1 : y9 ≠ Str.ofString "whole" := by rintro rfl; revert hy9; decide
          have n2 : y9 ≠ Str.ofString "here" := by rintro rfl; revert hy9; decide
          have n3 : y9 ≠ Str.ofString "count" := by rintro rfl; revert hy9; decide
          have n4 : y9 ≠ Str.ofString "told" := by rintro rfl; revert hy9; decide
          have n5 : y9 ≠ Str.ofString "called" := by rintro rfl; revert hy9; decide
          have n6 : y9 ≠ Str.ofString "plain" := by rintro rfl; revert hy9; decide
          have hs9 : List.contains [Str.ofString "count", Str.ofString "told"] y9 = false := sub_out hy9 (by decide)
          simp only [n0, n1, n2, n3, n4, n5, n6, if_false, ov, hy9, hs9, Bool.false_eq_true]
          all_goals rfl
    · have g : Gate 102 := trivial
      k_steps
      refine Halt.out ?_
      rename Fr _ _ _ _ => F9
      rename News _ _ _ _ => N9
      replace N9 := news_tail (news_tail (news_tail (news_tail N9)))
      k_dflt (refine' loopC [Str.ofString "count", Str.ofString "told"] ?zh F9 N9 ?zm ?zt ?zd; (case zh => rfl); (case zm => k_mem))
      case zt =>
        clear F9 N9
        intro I2 c t2 it2 ρ2 s₂ hI2 hc hit2 F N
        obtain ⟨h2, gg2, dr2, tk2, os2⟩ := s₂
        dsimp only at F N
        have hc1 : -1000000 ≤ c := by omega
        have hc2 : c ≤ 1000000 := by omega
        (with_reducible show wpAny _ _ _ _ _ _)
        k_fold
        k_steps
        
        rename Fr _ _ _ _ => F9
        rename News _ _ _ _ => N9
        refine LEnd.mk rfl ⟨_, _, _, _, rfl, F9, N9, rfl, ?_⟩
        intro y9 hy9
        have n0 : y9 ≠ Str.ofString "count" := by rintro rfl; revert hy9; decide
        have n1 : y9 ≠ Str.ofString "told" := by rintro rfl; revert hy9; decide
        simp only [n0, n1, if_false, ov, hy9, Bool.false_eq_true]
        all_goals rfl
      case zd =>
        clear F9 N9
        intro ρ2 h2 tk2 F N
        (try dsimp only)
        (try k_fold)
        k_steps
        refine Halt.out ?_
        rename Fr _ _ _ _ => F9
        rename News _ _ _ _ => N9
        k_dflt (refine' r_comp (fun z => (z * 11 + 14) % 30 < 11) JI 354 ji_cnt ?yd ?yh F9 N9 ?yr ?y0 ?y1 ?yt ?yf; (case yd => with_reducible assumption); (case yh => rfl); (case yr => assumption); (case y0 => omega); (case y1 => omega))
        case yt =>
          clear F9 N9
          intro k3 t3 I3 oI3 C3 oC3 D3 m3 ys3 l3 h3 tk3 E3 hlo3 hhi3 hC3 hx3 F3 N3 off3 ne3
          (with_reducible show wpAny _ _ _ _ _ _)
          k_fold
          k_steps
        case yf =>
          clear F9 N9
          intro ys3 hl3 hcal D3 h3 tk3 F3 N3
          (try dsimp only)
          k_fold
          k_steps
          rename Fr _ _ _ _ => F9
          rename News _ _ _ _ => N9
          refine LEnd.mk rfl ⟨_, _, _, _, rfl, F9, news_tail N9, ⟨_, _, by assumption, rfl⟩, ?_⟩
          intro y9 hy9
          have n0 : y9 ≠ Str.ofString "part" := by rintro rfl; revert hy9; decide
          have n1 : y9 ≠ Str.ofString "whole" := by rintro rfl; revert hy9; decide
          have n2 : y9 ≠ Str.ofString "here" := by rintro rfl; revert hy9; decide
          have n3 : y9 ≠ Str.ofString "count" := by rintro rfl; revert hy9; decide
          have n4 : y9 ≠ Str.ofString "told" := by rintro rfl; revert hy9; decide
          have n5 : y9 ≠ Str.ofString "called" := by rintro rfl; revert hy9; decide
          have n6 : y9 ≠ Str.ofString "plain" := by rintro rfl; revert hy9; decide
          have hs9 : List.contains [Str.ofString "count", Str.ofString "told"] y9 = false := sub_out hy9 (by decide)
          simp only [n0, n1, n2, n3, n4, n5, n6, if_false, ov, hy9, hs9, Bool.false_eq_true]
          all_goals rfl
  case done =>
    clear F9 N9
    intro ρ o v h1 tk1 hod F N
    (try dsimp only)
    (try k_fold)
    k_steps
    refine Halt.out ?_
    rename Fr _ _ _ _ => F9
    rename News _ _ _ _ => N9
    k_dflt (refine' loopC [Str.ofString "count", Str.ofString "months", Str.ofString "gap", Str.ofString "turn"] ?zh F9 N9 ?zm ?zt ?zd; (case zh => rfl); (case zm => k_mem))
    case zt =>
      clear F9 N9
      intro I2 c t2 it2 ρ2 s₂ hI2 hc hit2 F N
      obtain ⟨h2, gg2, dr2, tk2, os2⟩ := s₂
      dsimp only at F N
      have hc1 : -1000000 ≤ c := by omega
      have hc2 : c ≤ 1000000 := by omega
      have g : Gate 105 := trivial
      (with_reducible show wpAny _ _ _ _ _ _)
      k_fold
      k_steps
      all_goals first | exact absurd (ji_turn1 _ _) (by with_reducible assumption) | exact absurd (ji_turn2 _ _) (by with_reducible assumption) | (with_reducible show LEnd _ _ _ _ _ _ _ _ _ _) | (have h9 := (ji_m (by with_reducible assumption) (by with_reducible assumption) (by omega) (by omega)); omega) | skip
      rename Fr _ _ _ _ => F9
      rename News _ _ _ _ => N9
      refine LEnd.mk rfl ⟨_, _, _, _, rfl, F9, N9, rfl, ?_⟩
      intro y9 hy9
      have n0 : y9 ≠ Str.ofString "count" := by rintro rfl; revert hy9; decide
      have n1 : y9 ≠ Str.ofString "months" := by rintro rfl; revert hy9; decide
      have n2 : y9 ≠ Str.ofString "gap" := by rintro rfl; revert hy9; decide
      have n3 : y9 ≠ Str.ofString "turn" := by rintro rfl; revert hy9; decide
      simp only [n0, n1, n2, n3, if_false, ov, hy9, Bool.false_eq_true]
      all_goals rfl
    case zd =>
      clear F9 N9
      intro ρ2 h2 tk2 F N
      (try dsimp only)
      (try k_fold)
      k_steps
      refine Halt.out ?_
      rename Fr _ _ _ _ => F9
      rename News _ _ _ _ => N9
      k_dflt (refine' loopG [Str.ofString "here", Str.ofString "ahead", Str.ofString "count", Str.ofString "gap", Str.ofString "turn", Str.ofString "told"] ?xh F9 N9 ?xr ?x1 ?xk ?xkd ?x2 ?xy ?x3 ?xc ?xt ?xd; (case xh => rfl); (case xr => k_mem); (case x1 => rfl); (case xk => k_mem); (case x2 => rfl); (case xy => k_mem); (case x3 => rfl); (case xc => k_mem))
      case xkd => assumption
      case xt =>
        clear F9 N9
        intro I3 k3 t3 it3 ρ3 o3 v3 s₃ hk3 hit3 hod3 j1 j2 j3 j4 F N
        obtain ⟨h3, gg3, dr3, tk3, os3⟩ := s₃
        dsimp only [envOfC] at F N
        (with_reducible show wpAny _ _ _ _ _ _)
        k_fold
        rcases hk3 with rfl | rfl
        · have g : Gate 103 := trivial
          k_steps
          refine Halt.out ?_
          rename Fr _ _ _ _ => F9
          rename News _ _ _ _ => N9
          replace N9 := news_tail N9
          k_dflt (refine' loopC [Str.ofString "count", Str.ofString "gap", Str.ofString "turn", Str.ofString "told"] ?zh F9 N9 ?zm ?zt ?zd; (case zh => rfl); (case zm => k_mem))
          case zt =>
            clear F9 N9
            intro I2 c t2 it2 ρ2 s₂ hI2 hc hit2 F N
            obtain ⟨h2, gg2, dr2, tk2, os2⟩ := s₂
            dsimp only at F N
            have hc1 : -1000000 ≤ c := by omega
            have hc2 : c ≤ 1000000 := by omega
            (with_reducible show wpAny _ _ _ _ _ _)
            k_fold
            k_steps
            all_goals first | exact absurd jg_stray.1 (by with_reducible assumption) | exact absurd jg_stray.2 (by with_reducible assumption) | exact absurd (jg_turn1 rfl) (by with_reducible assumption) | exact absurd (jg_turn2 rfl) (by with_reducible assumption) | (with_reducible show LEnd _ _ _ _ _ _ _ _ _ _) | exact absurd (jg_t (by with_reducible assumption) (by with_reducible assumption) (by omega) (by omega) (by omega) (by omega)).1 (by with_reducible assumption) | exact absurd (jg_t (by with_reducible assumption) (by with_reducible assumption) (by omega) (by omega) (by omega) (by omega)).2 (by with_reducible assumption) | skip
            rename Fr _ _ _ _ => F9
            rename News _ _ _ _ => N9
            refine LEnd.mk rfl ⟨_, _, _, _, rfl, F9, N9, rfl, ?_⟩
            intro y9 hy9
            have n0 : y9 ≠ Str.ofString "count" := by rintro rfl; revert hy9; decide
            have n1 : y9 ≠ Str.ofString "gap" := by rintro rfl; revert hy9; decide
            have n2 : y9 ≠ Str.ofString "turn" := by rintro rfl; revert hy9; decide
            have n3 : y9 ≠ Str.ofString "told" := by rintro rfl; revert hy9; decide
            simp only [n0, n1, n2, n3, if_false, ov, hy9, Bool.false_eq_true]
            all_goals rfl
          case zd =>
            clear F9 N9
            intro ρ2 h2 tk2 F N
            (try dsimp only)
            (try k_fold)
            k_steps
            rename Fr _ _ _ _ => F9
            rename News _ _ _ _ => N9
            refine LEnd.mk rfl ⟨_, _, _, _, rfl, F9, N9, ⟨_, ⟨_, _, by assumption, rfl⟩, rfl⟩, ?_⟩
            intro y9 hy9
            have n0 : y9 ≠ Str.ofString "here" := by rintro rfl; revert hy9; decide
            have n1 : y9 ≠ Str.ofString "ahead" := by rintro rfl; revert hy9; decide
            have n2 : y9 ≠ Str.ofString "count" := by rintro rfl; revert hy9; decide
            have n3 : y9 ≠ Str.ofString "gap" := by rintro rfl; revert hy9; decide
            have n4 : y9 ≠ Str.ofString "turn" := by rintro rfl; revert hy9; decide
            have n5 : y9 ≠ Str.ofString "told" := by rintro rfl; revert hy9; decide
            have hs9 : List.contains [Str.ofString "count", Str.ofString "gap", Str.ofString "turn", Str.ofString "told"] y9 = false := sub_out hy9 (by decide)
            simp only [n0, n1, n2, n3, n4, n5, if_false, ov, hy9, hs9, Bool.false_eq_true]
            all_goals rfl
        · have g : Gate 104 := trivial
          k_steps
          refine Halt.out ?_
          rename Fr _ _ _ _ => F9
          rename News _ _ _ _ => N9
          replace N9 := news_tail N9
          k_dflt (refine' loopC [Str.ofString "count", Str.ofString "gap", Str.ofString "turn", Str.ofString "told"] ?zh F9 N9 ?zm ?zt ?zd; (case zh => rfl); (case zm => k_mem))
          case zt =>
            clear F9 N9
            intro I2 c t2 it2 ρ2 s₂ hI2 hc hit2 F N
            obtain ⟨h2, gg2, dr2, tk2, os2⟩ := s₂
            dsimp only at F N
            have hc1 : -1000000 ≤ c := by omega
            have hc2 : c ≤ 1000000 := by omega
            (with_reducible show wpAny _ _ _ _ _ _)
            k_fold
            k_steps
            all_goals first | exact absurd jn_stray.1 (by with_reducible assumption) | exact absurd jn_stray.2 (by with_reducible assumption) | exact absurd (jn_turn1 rfl) (by with_reducible assumption) | exact absurd (jn_turn2 rfl) (by with_reducible assumption) | (with_reducible show LEnd _ _ _ _ _ _ _ _ _ _) | exact absurd (jn_t (by with_reducible assumption) (by with_reducible assumption) (by omega) (by omega) (by omega) (by omega)).1 (by with_reducible assumption) | exact absurd (jn_t (by with_reducible assumption) (by with_reducible assumption) (by omega) (by omega) (by omega) (by omega)).2 (by with_reducible assumption) | skip
            rename Fr _ _ _ _ => F9
            rename News _ _ _ _ => N9
            refine LEnd.mk rfl ⟨_, _, _, _, rfl, F9, N9, rfl, ?_⟩
            intro y9 hy9
            have n0 : y9 ≠ Str.ofString "count" := by rintro rfl; revert hy9; decide
            have n1 : y9 ≠ Str.ofString "gap" := by rintro rfl; revert hy9; decide
            have n2 : y9 ≠ Str.ofString "turn" := by rintro rfl; revert hy9; decide
            have n3 : y9 ≠ Str.ofString "told" := by rintro rfl; revert hy9; decide
            simp only [n0, n1, n2, n3, if_false, ov, hy9, Bool.false_eq_true]
            all_goals rfl
          case zd =>
            clear F9 N9
            intro ρ2 h2 tk2 F N
            (try dsimp only)
            (try k_fold)
            k_steps
            rename Fr _ _ _ _ => F9
            rename News _ _ _ _ => N9
            refine LEnd.mk rfl ⟨_, _, _, _, rfl, F9, N9, ⟨_, ⟨_, _, by assumption, rfl⟩, rfl⟩, ?_⟩
            intro y9 hy9
            have n0 : y9 ≠ Str.ofString "here" := by rintro rfl; revert hy9; decide
            have n1 : y9 ≠ Str.ofString "ahead" := by rintro rfl; revert hy9; decide
            have n2 : y9 ≠ Str.ofString "count" := by rintro rfl; revert hy9; decide
            have n3 : y9 ≠ Str.ofString "gap" := by rintro rfl; revert hy9; decide
            have n4 : y9 ≠ Str.ofString "turn" := by rintro rfl; revert hy9; decide
            have n5 : y9 ≠ Str.ofString "told" := by rintro rfl; revert hy9; decide
            have hs9 : List.contains [Str.ofString "count", Str.ofString "gap", Str.ofString "turn", Str.ofString "told"] y9 = false := sub_out hy9 (by decide)
            simp only [n0, n1, n2, n3, n4, n5, if_false, ov, hy9, hs9, Bool.false_eq_true]
            all_goals rfl
      case xd =>
        clear F9 N9
        intro ρ3 o3 v3 h3 tk3 hod3 F N
        (try dsimp only)
        (try k_fold)
        k_steps
end Mine
end
theorem PySem.Challenge.cw_ad5026_01_holds : PySem.Challenge.rw_ad5026_01.Holds :=
  Mine.law_holds
