import JvmDerived
import JvmDerived.Pilot.@@N@@Statement
import JvmDerived.Pilot.@@N@@Code
set_option linter.unusedVariables false
set_option linter.unusedSimpArgs false
namespace Jvm.RoadKit
open Sem ClassFile Op Lib Jvm.Stand Jvm.Free Jvm.LawKit
section New
variable {p : Program} {l : Launch} {e : Env} {R : Room} {s : State} {m : MethodId} {args : Array Value} {below : List Frame} {meth : Method} {c : Code} {T : State} {locs : List Loc} {cells slots : Nat}
theorem retI (X : Stand p l e R s m args below meth c T locs cells slots) (hx : p.tables.exec = Jvm.exec) {pc : Nat} {Ls : Array Slot} {z : Int32} {rest : List Value} (hret : meth.sig.returnType = some .int) (hd : decode c.code pc = .ok (.ireturn, 1)) {fs : List Frame}
    (hl : ∀ (f : JFrame) (acts : List Action), f.method = m → f.locked = none → f.entered = [] → (doReturn e (T.setTop f) acts (some (.int z))).1 = T.setFrames fs) : Steps p.tables e below (T.setTop (mkF m pc Ls (.int z :: rest))) (T.setFrames fs) := by
  have hm' : T.vm.method? m = some meth := X.method'
  have hn : narrow .int (.int z) = .int z := rfl
  show Steps p.tables e below (T.setTop { method := m, pc := pc, locals := Ls, stack := _ :: rest, locked := none }) _
  jvm_step X.here [X.here.top, hx, hd, hm', hret, hn]
  first | (intro acts; rw [hl _ acts rfl rfl rfl]) | rw [hl _ _ rfl rfl rfl]
  exact Steps.refl _
end New
end Jvm.RoadKit
namespace Jvm.Pilot.@@N@@
open Jvm Jvm.ClassFile Sem Op Lib Jvm.Free Jvm.Stand Jvm.LawKit Jvm.RoadKit Bundle Jvm.Pilot.@@N@@.Jvm.D
theorem joinS {tb : Tables} {e : Env} {below : List Frame} {A B t : State} (h1 : Steps tb e below B t → Steps tb e below A t) (h2 : Steps tb e below B t) : Steps tb e below A t := h1 h2
theorem mvMN {Z s : State} {a0 args : Array Value} {own host : String} {index : Nat} {y : MethodName} (hZ : Z.Warmed39 s.vm) (w : (Cond.methodLinkNest own index y host).before a0 Z = true) : (Cond.methodLinkNest own index y host).before args s = true := (Cond.methodLinkNest_wide hZ w :)
open Jvm.FP.Core (val64 val64_fits val64_dadd val64_dsub val64_dmul val64_ddiv val64_i2d val64_l2d signed b64 good_b64 roundRatio roundRatio_exact roundRatio_congr Datum inUnits sumUnits sumSign exactSum exactProduct negate)
/-- the double u is the number m * 2^e -/
def own_rep (u : UInt64) (m e : Int) : Prop := ∃ (s : Bool) (c : Nat) (q : Int), val64 u = .fin s c q ∧ q ≤ e ∧ signed s c = m * 2 ^ (e - q).toNat
theorem own_signed_abs (s : Bool) (c : Nat) : (signed s c).natAbs = c := by cases s <;> simp [signed]
theorem own_pow_split {a b : Int} (ha : 0 ≤ a) (hb : 0 ≤ b) : (2 : Int) ^ (a + b).toNat = 2 ^ a.toNat * 2 ^ b.toNat := by rw [Int.toNat_add ha hb, Int.pow_add]
theorem own_npow_split {a b : Int} (ha : 0 ≤ a) (hb : 0 ≤ b) : 2 ^ (a + b).toNat = 2 ^ a.toNat * 2 ^ b.toNat := by rw [Int.toNat_add ha hb, Nat.pow_add]
/-- rounding a number that is written with at most 53 digits -/
theorem own_rr {s : Bool} {A : Nat} {Q E m : Int} (hQ : Q ≤ E) (h : signed s A = m * 2 ^ (E - Q).toNat) (hm : m.natAbs < 2 ^ 53) (h1 : -900 ≤ E) (h2 : E ≤ 900) : ∃ (c : Nat) (q : Int), roundRatio b64 s A 1 Q = .fin s c q ∧ q ≤ E ∧ signed s c = m * 2 ^ (E - q).toNat := by
  have hA : A = m.natAbs * 2 ^ (E - Q).toNat := by
    have := congrArg Int.natAbs h
    rw [own_signed_abs, Int.natAbs_mul, Int.natAbs_pow] at this; exact this
  by_cases hm0 : m = 0
  · subst hm0
    have hA0 : A = 0 := by rw [hA]; simp
    subst hA0
    refine ⟨0, b64.qmin, by unfold roundRatio; rw [if_pos rfl], ?_, ?_⟩
    · show (-1074 : Int) ≤ E; omega
    · cases s <;> simp [signed]
  · have hN : 0 < m.natAbs := Int.natAbs_pos.mpr hm0
    generalize hNN : m.natAbs = N at *
    have hl : N.log2 < 53 := (Nat.log2_lt (by omega)).mpr hm
    have l1 : 2 ^ N.log2 ≤ N := Nat.log2_self_le (by omega)
    have l2 : N < 2 ^ (N.log2 + 1) := Nat.lt_log2_self
    have hj : 52 - N.log2 + N.log2 = 52 := by omega
    generalize N.log2 = L at *
    have c1 : N * 2 ^ (52 - L) < 2 ^ 53 := by
      have : N * 2 ^ (52 - L) < 2 ^ (L + 1) * 2 ^ (52 - L) := Nat.mul_lt_mul_of_pos_right l2 (Nat.two_pow_pos _)
      rw [← Nat.pow_add, show L + 1 + (52 - L) = 53 by omega] at this; exact this
    have c2 : 2 ^ 52 ≤ N * 2 ^ (52 - L) := by
      have : 2 ^ L * 2 ^ (52 - L) ≤ N * 2 ^ (52 - L) := Nat.mul_le_mul_right _ l1
      rw [← Nat.pow_add, show L + (52 - L) = 52 by omega] at this; exact this
    have hfit : Jvm.FP.Core.fits b64 (.fin s (N * 2 ^ (52 - L)) (E - ((52 - L : Nat) : Int))) := by
      refine ⟨c1, ?_, ?_, Or.inr c2⟩
      · show (-1074 : Int) ≤ _; omega
      · show _ ≤ (971 : Int); omega
    have hq : E - ((52 - L : Nat) : Int) ≤ E := by omega
    have e52 : (E - (E - ((52 - L : Nat) : Int))).toNat = 52 - L := by omega
    refine ⟨_, _, roundRatio_exact good_b64 (by decide) hfit ?_, hq, ?_⟩
    · rw [hA, Nat.mul_one]
      by_cases z : Q ≤ E - ((52 - L : Nat) : Int)
      · rw [show (Q - (E - ((52 - L : Nat) : Int))).toNat = 0 by omega, Nat.pow_zero, Nat.mul_one]
        rw [show E - Q = ((52 - L : Nat) : Int) + ((E - ((52 - L : Nat) : Int)) - Q) by omega, own_npow_split (by omega) (by omega), Int.toNat_natCast, Nat.mul_assoc]
      · rw [show ((E - ((52 - L : Nat) : Int)) - Q).toNat = 0 by omega, Nat.pow_zero, Nat.mul_one, Nat.mul_assoc, ← own_npow_split (by omega) (by omega)]
        rw [show (E - Q + (Q - (E - ((52 - L : Nat) : Int)))).toNat = 52 - L by omega]
    · rw [e52]
      have hs : signed s A = m * 2 ^ (E - Q).toNat := h
      have hp : (0 : Int) < 2 ^ (E - Q).toNat := Int.pow_pos (by decide)
      cases s with
      | false =>
        have : 0 ≤ m := by
          have h0 : (0 : Int) ≤ m * 2 ^ (E - Q).toNat := by rw [← hs]; simp [signed]
          exact Int.le_of_not_gt fun q => absurd (Int.mul_neg_of_neg_of_pos q hp) (by omega)
        have e : ((m.natAbs : Nat) : Int) = m := Int.natAbs_of_nonneg this
        show ((N * 2 ^ (52 - L) : Nat) : Int) = _
        rw [← hNN, Int.natCast_mul, e, Int.natCast_pow]; rfl
      | true =>
        have : m ≤ 0 := by
          have h0 : m * 2 ^ (E - Q).toNat ≤ 0 := by rw [← hs]; simp [signed]
          exact Int.le_of_not_gt fun q => absurd (Int.mul_pos q hp) (by omega)
        have e : ((m.natAbs : Nat) : Int) = -m := Int.ofNat_natAbs_of_nonpos this
        show -((N * 2 ^ (52 - L) : Nat) : Int) = _
        rw [← hNN, Int.natCast_mul, e, Int.natCast_pow, Int.neg_mul, Int.neg_neg]; rfl
theorem own_rep.no {u : UInt64} {m e : Int} (h : own_rep u m e) : val64 u ≠ .nan := by
  obtain ⟨s, c, q, h1, -⟩ := h; rw [h1]; intro z; cases z
theorem own_ofInt {i : Int} : signed (decide (i < 0)) i.natAbs = i * 2 ^ ((0 : Int) - 0).toNat := by
  by_cases h : i < 0
  · simp [signed, h]; omega
  · simp [signed, h]; omega
theorem own_i2d (n : Int32) : own_rep (FP.i2d n) n.toInt 0 := by
  obtain ⟨c, q, h1, h2, h3⟩ := own_rr (E := 0) (Q := 0) (Int.le_refl _) (own_ofInt (i := n.toInt)) (by have := Int32.le_toInt n; have := Int32.toInt_lt n; omega) (by decide) (by decide)
  exact ⟨_, c, q, (val64_i2d n).trans h1, h2, h3⟩
theorem own_l2d (n : Int64) (hn : n.toInt.natAbs < 2 ^ 53) : own_rep (FP.l2d n) n.toInt 0 := by
  obtain ⟨c, q, h1, h2, h3⟩ := own_rr (E := 0) (Q := 0) (Int.le_refl _) (own_ofInt (i := n.toInt)) hn (by decide) (by decide)
  exact ⟨_, c, q, (val64_l2d n).trans h1, h2, h3⟩
theorem own_signed_mul (s t : Bool) (c d : Nat) : signed (s != t) (c * d) = signed s c * signed t d := by cases s <;> cases t <;> simp [signed, Int.mul_neg, Int.neg_mul]
theorem own_dmul {a b : UInt64} {m m' e e' : Int} (ha : own_rep a m e) (hb : own_rep b m' e') (hm : (m * m').natAbs < 2 ^ 53) (h1 : -900 ≤ e + e') (h2 : e + e' ≤ 900) : own_rep (FP.dmul a b) (m * m') (e + e') := by
  obtain ⟨s, c, q, v1, q1, w1⟩ := ha
  obtain ⟨t, d, r, v2, q2, w2⟩ := hb
  obtain ⟨c', q', h3, h4, h5⟩ := own_rr (s := (s != t)) (A := c * d) (Q := q + r) (E := e + e') (m := m * m') (by omega) (by
    rw [own_signed_mul, w1, w2, show e + e' - (q + r) = (e - q) + (e' - r) by omega, own_pow_split (by omega) (by omega)]; ac_rfl) hm h1 h2
  refine ⟨_, c', q', (val64_dmul a b).trans ?_, h4, h5⟩
  rw [v1, v2]; exact h3
theorem own_inUnits {s : Bool} {c : Nat} {q e k m : Int} (w : signed s c = m * 2 ^ (e - q).toNat) (h1 : q ≤ e) (h2 : k ≤ q) : signed s (inUnits c q k) = m * 2 ^ (e - k).toNat := by
  have : signed s (inUnits c q k) = signed s c * 2 ^ (q - k).toNat := by
    unfold inUnits; cases s <;> simp [signed, Int.natCast_mul, Int.neg_mul]
  rw [this, w, show e - k = (e - q) + (q - k) by omega, own_pow_split (by omega) (by omega), Int.mul_assoc]
theorem own_sumSign (s t : Bool) (v : Int) : signed (sumSign s t v) v.natAbs = v := by
  unfold sumSign
  by_cases h : v = 0
  · subst h; cases s <;> cases t <;> simp [signed]
  · rw [if_neg h]
    by_cases h' : v < 0
    · simp [signed, h']; omega
    · simp [signed, h']; omega
theorem own_dadd {a b : UInt64} {m m' e : Int} (ha : own_rep a m e) (hb : own_rep b m' e) (hm : (m + m').natAbs < 2 ^ 53) (h1 : -900 ≤ e) (h2 : e ≤ 900) : own_rep (FP.dadd a b) (m + m') e := by
  obtain ⟨s, c, q, v1, q1, w1⟩ := ha
  obtain ⟨t, d, r, v2, q2, w2⟩ := hb
  have hk1 : min q r ≤ q := Int.min_le_left _ _
  have hk2 : min q r ≤ r := Int.min_le_right _ _
  have hv : sumUnits s c q t d r (min q r) = (m + m') * 2 ^ (e - min q r).toNat := by
    unfold sumUnits; rw [own_inUnits w1 q1 hk1, own_inUnits w2 q2 hk2, Int.add_mul]
  obtain ⟨c', q', h3, h4, h5⟩ := own_rr (s := sumSign s t (sumUnits s c q t d r (min q r))) (A := (sumUnits s c q t d r (min q r)).natAbs) (Q := min q r) (E := e) (m := m + m') (by omega) ((own_sumSign _ _ _).trans hv) hm h1 h2
  refine ⟨_, c', q', (val64_dadd a b).trans ?_, h4, h5⟩
  rw [v1, v2]; exact h3
theorem own_dsub {a b : UInt64} {m m' e : Int} (ha : own_rep a m e) (hb : own_rep b m' e) (hm : (m - m').natAbs < 2 ^ 53) (h1 : -900 ≤ e) (h2 : e ≤ 900) : own_rep (FP.dsub a b) (m - m') e := by
  obtain ⟨s, c, q, v1, q1, w1⟩ := ha
  obtain ⟨t, d, r, v2, q2, w2⟩ := hb
  have hk1 : min q r ≤ q := Int.min_le_left _ _
  have hk2 : min q r ≤ r := Int.min_le_right _ _
  have w2' : signed (!t) d = (-m') * 2 ^ (e - r).toNat := by
    rw [Int.neg_mul, ← w2]; cases t <;> simp [signed]
  have hv : sumUnits s c q (!t) d r (min q r) = (m - m') * 2 ^ (e - min q r).toNat := by
    unfold sumUnits; rw [own_inUnits w1 q1 hk1, own_inUnits w2' q2 hk2, ← Int.add_mul]; rfl
  obtain ⟨c', q', h3, h4, h5⟩ := own_rr (s := sumSign s (!t) (sumUnits s c q (!t) d r (min q r))) (A := (sumUnits s c q (!t) d r (min q r)).natAbs) (Q := min q r) (E := e) (m := m - m') (by omega) ((own_sumSign _ _ _).trans hv) hm h1 h2
  refine ⟨_, c', q', (val64_dsub a b).trans ?_, h4, h5⟩
  rw [v1, v2]; exact h3
/-- division by 2^k: the divisor's significand is 2^52 -/
theorem own_ddiv {a b : UInt64} {m e k : Int} (ha : own_rep a m e) (hb : val64 b = .fin false (2 ^ 52) (k - 52)) (hm : m.natAbs < 2 ^ 53) (h1 : -900 ≤ e - k) (h2 : e - k ≤ 900) : own_rep (FP.ddiv a b) m (e - k) := by
  obtain ⟨s, c, q, v1, q1, w1⟩ := ha
  obtain ⟨c', q', h3, h4, h5⟩ := own_rr (s := s) (A := c) (Q := q - k) (E := e - k) (m := m) (by omega) (by rw [w1, show e - k - (q - k) = e - q by omega]) hm h1 h2
  refine ⟨_, c', q', (val64_ddiv a b).trans ?_, h4, h5⟩
  rw [v1, hb]
  have e0 : FP.Core.quotient b64 (.fin s c q) (.fin false (2 ^ 52) (k - 52)) = roundRatio b64 (s != false) c (2 ^ 52) (q - (k - 52)) := by
    simp only [FP.Core.quotient]; rw [if_neg (by decide)]
  rw [e0, roundRatio_congr (A' := c) (B' := 1) (e' := q - k) (by decide) (by decide) (by
    rw [show (q - (k - 52) - (q - k)).toNat = 52 by omega, show ((q - k) - (q - (k - 52))).toNat = 0 by omega]; simp)]
  cases s <;> exact h3
theorem own_dcmp {a b : UInt64} {m m' e : Int} (ha : own_rep a m e) (hb : own_rep b m' e) : FP.dcmp a b = some (compare m m') := by
  obtain ⟨s, c, q, v1, q1, w1⟩ := ha
  obtain ⟨t, d, r, v2, q2, w2⟩ := hb
  have hk1 : min q r ≤ q := Int.min_le_left _ _
  have hk2 : min q r ≤ r := Int.min_le_right _ _
  show Jvm.FP.Core.order (val64 a) (val64 b) = _
  rw [v1, v2]
  show some (compare (signed s (inUnits c q (min q r))) (signed t (inUnits d r (min q r)))) = _
  rw [own_inUnits w1 q1 hk1, own_inUnits w2 q2 hk2]
  have hp : (0 : Int) < 2 ^ (e - min q r).toNat := Int.pow_pos (by decide)
  generalize (2 : Int) ^ (e - min q r).toNat = P at hp
  congr 1
  rcases Int.lt_trichotomy m m' with z | z | z
  · rw [(Int.compare_eq_lt).mpr z, (Int.compare_eq_lt).mpr (Int.mul_lt_mul_of_pos_right z hp)]
  · subst z; rw [(Int.compare_eq_eq).mpr rfl, (Int.compare_eq_eq).mpr rfl]
  · rw [(Int.compare_eq_gt).mpr z, (Int.compare_eq_gt).mpr (Int.mul_lt_mul_of_pos_right z hp)]
section OwnD
variable {tb : Tables} [Ours tb] {e : Env} {below : List Frame} {T target : State} {m : MethodId} {c : Code} {pc : Nat} {Ls : Array Slot} {rest : List Value} {x y : UInt64}
theorem own_sadd (h : At T m c below) (hx : tb.exec = Jvm.exec) (hd : decode c.code pc = .ok (.dadd, 1)) (hn : Jvm.Free.Fl.NoNaN64 (FP.dadd x y)) (hr : Steps tb e below (T.setTop (mkF m (pc + 1) Ls (.double (FP.dadd x y) :: rest))) target) : Steps tb e below (T.setTop (mkF m pc Ls (.double y :: .double x :: rest))) target := by
  jvm_step h [h.top, hx, hd, Op.dadd.at_number h.top hn]
  exact hr
theorem own_ssub (h : At T m c below) (hx : tb.exec = Jvm.exec) (hd : decode c.code pc = .ok (.dsub, 1)) (hn : Jvm.Free.Fl.NoNaN64 (FP.dsub x y)) (hr : Steps tb e below (T.setTop (mkF m (pc + 1) Ls (.double (FP.dsub x y) :: rest))) target) : Steps tb e below (T.setTop (mkF m pc Ls (.double y :: .double x :: rest))) target := by
  jvm_step h [h.top, hx, hd, Op.dsub.at_number h.top hn]
  exact hr
theorem own_smul (h : At T m c below) (hx : tb.exec = Jvm.exec) (hd : decode c.code pc = .ok (.dmul, 1)) (hn : Jvm.Free.Fl.NoNaN64 (FP.dmul x y)) (hr : Steps tb e below (T.setTop (mkF m (pc + 1) Ls (.double (FP.dmul x y) :: rest))) target) : Steps tb e below (T.setTop (mkF m pc Ls (.double y :: .double x :: rest))) target := by
  jvm_step h [h.top, hx, hd, Op.dmul.at_number h.top hn]
  exact hr
theorem own_sdiv (h : At T m c below) (hx : tb.exec = Jvm.exec) (hd : decode c.code pc = .ok (.ddiv, 1)) (hn : Jvm.Free.Fl.NoNaN64 (FP.ddiv x y)) (hr : Steps tb e below (T.setTop (mkF m (pc + 1) Ls (.double (FP.ddiv x y) :: rest))) target) : Steps tb e below (T.setTop (mkF m pc Ls (.double y :: .double x :: rest))) target := by
  jvm_step h [h.top, hx, hd, Op.ddiv.at_number h.top hn]
  exact hr
theorem own_si2d (h : At T m c below) (hx : tb.exec = Jvm.exec) {n : Int32} (hd : decode c.code pc = .ok (.i2d, 1)) (hr : Steps tb e below (T.setTop (mkF m (pc + 1) Ls (.double (FP.i2d n) :: rest))) target) : Steps tb e below (T.setTop (mkF m pc Ls (.int n :: rest))) target := by
  jvm_step h [h.top, hx, hd]
  exact hr
theorem own_sl2d (h : At T m c below) (hx : tb.exec = Jvm.exec) {n : Int64} (hd : decode c.code pc = .ok (.l2d, 1)) (hr : Steps tb e below (T.setTop (mkF m (pc + 1) Ls (.double (FP.l2d n) :: rest))) target) : Steps tb e below (T.setTop (mkF m pc Ls (.long n :: rest))) target := by
  jvm_step h [h.top, hx, hd]
  exact hr
theorem own_sone (h : At T m c below) (hx : tb.exec = Jvm.exec) (hd : decode c.code pc = .ok (.dconst 1, 1)) (hr : Steps tb e below (T.setTop (mkF m (pc + 1) Ls (.double (4607182418800017408 : UInt64) :: rest))) target) : Steps tb e below (T.setTop (mkF m pc Ls rest)) target := by
  jvm_step h [h.top, hx, hd]
  exact hr
theorem own_szero (h : At T m c below) (hx : tb.exec = Jvm.exec) (hd : decode c.code pc = .ok (.dconst 0, 1)) (hr : Steps tb e below (T.setTop (mkF m (pc + 1) Ls (.double (0 : UInt64) :: rest))) target) : Steps tb e below (T.setTop (mkF m pc Ls rest)) target := by
  jvm_step h [h.top, hx, hd]
  exact hr
theorem own_sload (h : At T m c below) (hx : tb.exec = Jvm.exec) {k : Nat} (hd : decode c.code pc = .ok (.dload k, 2)) (hl : Ls[k]? = some (.val (.double x))) (hr : Steps tb e below (T.setTop (mkF m (pc + 2) Ls (.double x :: rest))) target) : Steps tb e below (T.setTop (mkF m pc Ls rest)) target := by
  jvm_step h [h.top, hx, hd, hl]
  exact hr
theorem own_sloadN (h : At T m c below) (hx : tb.exec = Jvm.exec) {k : Fin 4} (hd : decode c.code pc = .ok (.dload_n k, 1)) (hl : Ls[k.val]? = some (.val (.double x))) (hr : Steps tb e below (T.setTop (mkF m (pc + 1) Ls (.double x :: rest))) target) : Steps tb e below (T.setTop (mkF m pc Ls rest)) target := by
  jvm_step h [h.top, hx, hd, hl]
  exact hr
theorem own_sstore (h : At T m c below) (hx : tb.exec = Jvm.exec) {k : Nat} {l' : Array Slot} (hd : decode c.code pc = .ok (.dstore k, 2)) (hl : storeLocals Ls k (.double x) = some l') (hr : Steps tb e below (T.setTop (mkF m (pc + 2) l' rest)) target) : Steps tb e below (T.setTop (mkF m pc Ls (.double x :: rest))) target := by
  jvm_step h [h.top, hx, hd, hl]
  exact hr
theorem own_sstoreN (h : At T m c below) (hx : tb.exec = Jvm.exec) {k : Fin 4} {l' : Array Slot} (hd : decode c.code pc = .ok (.dstore_n k, 1)) (hl : storeLocals Ls k.val (.double x) = some l') (hr : Steps tb e below (T.setTop (mkF m (pc + 1) l' rest)) target) : Steps tb e below (T.setTop (mkF m pc Ls (.double x :: rest))) target := by
  jvm_step h [h.top, hx, hd, hl]
  exact hr
theorem own_scmp (h : At T m c below) (hx : tb.exec = Jvm.exec) {k : CmpOp} {z : Int32} (hd : decode c.code pc = .ok (.dcmp k, 1)) (hz : cmpValue (FP.dcmp x y) k = z) (hr : Steps tb e below (T.setTop (mkF m (pc + 1) Ls (.int z :: rest))) target) : Steps tb e below (T.setTop (mkF m pc Ls (.double y :: .double x :: rest))) target := by
  subst hz
  jvm_step h [h.top, hx, hd]
  exact hr
end OwnD
theorem own_one : own_rep (4607182418800017408 : UInt64) 1024 (-10) := ⟨false, 2 ^ 52, -52, by decide +kernel, by decide, by decide⟩
def own_b31 (m : Int) : Prop := -2 ^ 31 ≤ m ∧ m ≤ 2 ^ 31
theorem own_b31_of (n : Int32) : own_b31 n.toInt := ⟨Int32.le_toInt n, Int.le_of_lt (Int32.toInt_lt n)⟩
/-- |k * m| where 0 ≤ k ≤ 1024 -/
theorem own_mulb {k m : Int} {B : Nat} (hk : 0 ≤ k ∧ k ≤ 1024) (hm : m.natAbs ≤ B) : (k * m).natAbs ≤ 1024 * B := by
  rw [Int.natAbs_mul]; exact Nat.mul_le_mul (by omega) hm
theorem own_abs31 {m : Int} (h : own_b31 m) : m.natAbs ≤ 2 ^ 31 := by unfold own_b31 at h; omega
/-- a mean of two numbers -/
theorem own_mean {k x y : Int} {B : Nat} (hk : 0 ≤ k ∧ k ≤ 1024) (hx : x.natAbs ≤ B) (hy : y.natAbs ≤ B) : (k * x + (1024 - k) * y).natAbs ≤ 1024 * B := by
  obtain ⟨k', rfl⟩ := Int.eq_ofNat_of_zero_le hk.1
  have h1 : ((k' : Int) * x).natAbs ≤ k' * B := by rw [Int.natAbs_mul]; exact Nat.mul_le_mul (by omega) hx
  have h2 : ((1024 - (k' : Int)) * y).natAbs ≤ (1024 - k') * B := by rw [Int.natAbs_mul]; exact Nat.mul_le_mul (by omega) hy
  have h3 : k' * B + (1024 - k') * B = 1024 * B := by rw [← Nat.add_mul]; congr 1; omega
  have := Int.natAbs_add_le ((k' : Int) * x) ((1024 - (k' : Int)) * y)
  omega
section W
variable {db da u1 u2 u3 u4 : UInt64} {mb ma m1 m2 m3 m4 : Int}
theorem own_w1 (Rb : own_rep db mb (-10)) (R1 : own_rep u1 m1 0) (hb : 0 ≤ mb ∧ mb ≤ 1024) (h1 : own_b31 m1) : own_rep (FP.dmul db u1) (mb * m1) (-10) := own_dmul Rb R1 (by have := own_mulb hb (own_abs31 h1); omega) (by decide) (by decide)
theorem own_w2 (Rb : own_rep db mb (-10)) (hb : 0 ≤ mb ∧ mb ≤ 1024) : own_rep (FP.dsub (4607182418800017408 : UInt64) db) (1024 - mb) (-10) := own_dsub own_one Rb (by omega) (by decide) (by decide)
theorem own_w3 (Rb : own_rep db mb (-10)) (R3 : own_rep u3 m3 0) (hb : 0 ≤ mb ∧ mb ≤ 1024) (h3 : own_b31 m3) : own_rep (FP.dmul (FP.dsub (4607182418800017408 : UInt64) db) u3) ((1024 - mb) * m3) (-10) := own_dmul (own_w2 Rb hb) R3 (by have := own_mulb (k := 1024 - mb) (by omega) (own_abs31 h3); omega) (by decide) (by decide)
theorem own_w4 (Rb : own_rep db mb (-10)) (R1 : own_rep u1 m1 0) (R3 : own_rep u3 m3 0) (hb : 0 ≤ mb ∧ mb ≤ 1024) (h1 : own_b31 m1) (h3 : own_b31 m3) : own_rep (FP.dadd (FP.dmul db u1) (FP.dmul (FP.dsub (4607182418800017408 : UInt64) db) u3)) (mb * m1 + (1024 - mb) * m3) (-10) := own_dadd (own_w1 Rb R1 hb h1) (own_w3 Rb R3 hb h3) (by have := own_mean hb (own_abs31 h1) (own_abs31 h3); omega) (by decide) (by decide)
theorem own_w5 (Rb : own_rep db mb (-10)) (Ra : own_rep da ma (-10)) (R1 : own_rep u1 m1 0) (R3 : own_rep u3 m3 0) (hb : 0 ≤ mb ∧ mb ≤ 1024) (ha : 0 ≤ ma ∧ ma ≤ 1024) (h1 : own_b31 m1) (h3 : own_b31 m3) : own_rep (FP.dmul (FP.dsub (4607182418800017408 : UInt64) da) (FP.dadd (FP.dmul db u1) (FP.dmul (FP.dsub (4607182418800017408 : UInt64) db) u3))) ((1024 - ma) * (mb * m1 + (1024 - mb) * m3)) (-20) := own_dmul (own_w2 Ra ha) (own_w4 Rb R1 R3 hb h1 h3) (by have := own_mulb (k := 1024 - ma) (by omega) (own_mean hb (own_abs31 h1) (own_abs31 h3)); omega) (by decide) (by decide)
theorem own_w6 (Rb : own_rep db mb (-10)) (Ra : own_rep da ma (-10)) (R2 : own_rep u2 m2 0) (R4 : own_rep u4 m4 0) (hb : 0 ≤ mb ∧ mb ≤ 1024) (ha : 0 ≤ ma ∧ ma ≤ 1024) (h2 : own_b31 m2) (h4 : own_b31 m4) : own_rep (FP.dmul da (FP.dadd (FP.dmul db u2) (FP.dmul (FP.dsub (4607182418800017408 : UInt64) db) u4))) (ma * (mb * m2 + (1024 - mb) * m4)) (-20) := own_dmul Ra (own_w4 Rb R2 R4 hb h2 h4) (by have := own_mulb ha (own_mean hb (own_abs31 h2) (own_abs31 h4)); omega) (by decide) (by decide)
def own_ref (mb ma m1 m2 m3 m4 : Int) : Int := (1024 - ma) * (mb * m1 + (1024 - mb) * m3) + ma * (mb * m2 + (1024 - mb) * m4)
theorem own_ref_le (hb : 0 ≤ mb ∧ mb ≤ 1024) (ha : 0 ≤ ma ∧ ma ≤ 1024) (h1 : own_b31 m1) (h2 : own_b31 m2) (h3 : own_b31 m3) (h4 : own_b31 m4) : (own_ref mb ma m1 m2 m3 m4).natAbs ≤ 1024 * (1024 * 2 ^ 31) := by
  have := own_mean ha (own_mean hb (own_abs31 h2) (own_abs31 h4)) (own_mean hb (own_abs31 h1) (own_abs31 h3))
  unfold own_ref; rw [Int.add_comm]; exact this
theorem own_ref_lt (hb : 0 ≤ mb ∧ mb ≤ 1024) (ha : 0 ≤ ma ∧ ma ≤ 1024) (h1 : own_b31 m1) (h2 : own_b31 m2) (h3 : own_b31 m3) (h4 : own_b31 m4) : (own_ref mb ma m1 m2 m3 m4).natAbs < 2 ^ 53 := Nat.lt_of_le_of_lt (own_ref_le hb ha h1 h2 h3 h4) (by decide)
def own_weigh (db da u1 u2 u3 u4 : UInt64) : UInt64 := FP.dadd (FP.dmul (FP.dsub (4607182418800017408 : UInt64) da) (FP.dadd (FP.dmul db u1) (FP.dmul (FP.dsub (4607182418800017408 : UInt64) db) u3))) (FP.dmul da (FP.dadd (FP.dmul db u2) (FP.dmul (FP.dsub (4607182418800017408 : UInt64) db) u4)))
theorem own_w7 (Rb : own_rep db mb (-10)) (Ra : own_rep da ma (-10)) (R1 : own_rep u1 m1 0) (R2 : own_rep u2 m2 0) (R3 : own_rep u3 m3 0) (R4 : own_rep u4 m4 0) (hb : 0 ≤ mb ∧ mb ≤ 1024) (ha : 0 ≤ ma ∧ ma ≤ 1024) (h1 : own_b31 m1) (h2 : own_b31 m2) (h3 : own_b31 m3) (h4 : own_b31 m4) : own_rep (own_weigh db da u1 u2 u3 u4) (own_ref mb ma m1 m2 m3 m4) (-20) :=
  own_dadd (own_w5 Rb Ra R1 R3 hb ha h1 h3) (own_w6 Rb Ra R2 R4 hb ha h2 h4) (own_ref_lt hb ha h1 h2 h3 h4) (by decide) (by decide)
end W
theorem own_scale {u : UInt64} {m : Int} (R : own_rep u m (-20)) (hm : m.natAbs < 2 ^ 53) : own_rep (FP.dmul u (4697254411347427328 : UInt64)) m 0 := by
  have R1 : own_rep (4697254411347427328 : UInt64) 1 20 := ⟨false, 2 ^ 52, -32, by decide +kernel, by decide, by decide⟩
  have := own_dmul R R1 (by rw [Int.mul_one]; exact hm) (by decide) (by decide)
  rw [Int.mul_one] at this; exact this
theorem own_same {a b : UInt64} {m : Int} (ha : own_rep a m 0) (hb : own_rep b m 0) : cmpValue (FP.dcmp a b) .l = 0 := by
  rw [own_dcmp ha hb, (Int.compare_eq_eq).mpr rfl]; rfl
theorem own_irem {x y : Int32} (hx : 0 ≤ x.toInt) (hy : 0 < y.toInt) : x - x / y * y = x % y := by
  apply Int32.toInt_inj.mp
  rw [Int32.toInt_mod, Int32.toInt_sub, Int32.toInt_mul, Int32.toInt_div]
  have h1 := Int32.toInt_lt x
  have h2 := Int32.toInt_lt y
  rw [Int.tdiv_eq_ediv_of_nonneg hx, Int.tmod_eq_emod_of_nonneg hx]
  have e := Int.mul_ediv_add_emod x.toInt y.toInt
  have r0 := Int.emod_nonneg x.toInt (show y.toInt ≠ 0 by omega)
  have r1 := Int.emod_lt_of_pos x.toInt hy
  have d1 : 0 ≤ x.toInt / y.toInt := Int.ediv_nonneg hx (by omega)
  have d2 : x.toInt / y.toInt ≤ x.toInt := Int.ediv_le_self _ hx
  rw [Int.mul_comm] at e
  have m1 : 0 ≤ x.toInt / y.toInt * y.toInt := Int.mul_nonneg d1 (by omega)
  rw [show (x.toInt / y.toInt).bmod (2 ^ 32) = x.toInt / y.toInt from Int.bmod_eq_of_le (by omega) (by omega)]
  rw [show (x.toInt / y.toInt * y.toInt).bmod (2 ^ 32) = x.toInt / y.toInt * y.toInt from Int.bmod_eq_of_le (by omega) (by omega)]
  rw [Int.bmod_eq_of_le (by omega) (by omega)]
  omega
theorem own_and_nn (n : Int32) : 0 ≤ (n &&& (2147483647 : Int32)).toInt := by
  rw [← Int32.toInt_toBitVec, Int32.toBitVec_and, BitVec.toInt_eq_toNat_of_msb]
  · omega
  · rw [BitVec.msb_and]; simp; intro _; decide
theorem own_small (n : Int32) : ∃ k : Nat, k ≤ 1024 ∧ ((n &&& (2147483647 : Int32)) - (n &&& (2147483647 : Int32)) / (1025 : Int32) * (1025 : Int32)) = Int32.ofNat k := by
  rw [own_irem (own_and_nn n) (by decide)]
  have h0 := own_and_nn n
  generalize n &&& (2147483647 : Int32) = x at h0
  have e5 : (1025 : Int32).toInt = 1025 := rfl
  have e : (x % (1025 : Int32)).toInt = x.toInt % 1025 := by rw [Int32.toInt_mod, e5, Int.tmod_eq_emod_of_nonneg h0]
  have r0 := Int.emod_nonneg x.toInt (show (1025 : Int) ≠ 0 by decide)
  have r1 := Int.emod_lt_of_pos x.toInt (show (0 : Int) < 1025 by decide)
  refine ⟨(x.toInt % 1025).toNat, by omega, Int32.toInt_inj.mp ?_⟩
  rw [e, Int32.toInt_ofNat_of_lt (by omega)]; omega
theorem own_i2l {k : Nat} (h : k ≤ 1024) : (Int32.ofNat k).toInt64 = Int64.ofNat k := by
  apply Int64.toInt_inj.mp
  rw [Int32.toInt_toInt64, Int32.toInt_ofNat_of_lt (by omega), Int64.toInt_ofNat_of_lt (by omega)]
theorem own_nat {k : Nat} (h : k ≤ 1024) : (0 : Int) ≤ (k : Int) ∧ (k : Int) ≤ 1024 := by omega
theorem own_frac {k : Nat} (h : k ≤ 1024) : own_rep (FP.ddiv (FP.l2d (Int64.ofNat k)) (4652218415073722368 : UInt64)) (k : Int) (-10) := by
  have e : (Int64.ofNat k).toInt = k := Int64.toInt_ofNat_of_lt (by omega)
  have R := own_l2d (Int64.ofNat k) (by rw [e]; omega)
  rw [e] at R
  exact own_ddiv (k := 10) R (by decide +kernel) (by omega) (by decide) (by decide)
theorem own_a64 {x y : Int64} {a b : Int} (hx : x.toInt = a) (hy : y.toInt = b) (h : (a + b).natAbs < 2 ^ 62) : (x + y).toInt = a + b := by rw [Int64.toInt_add, hx, hy]; exact Int.bmod_eq_of_le (by omega) (by omega)
theorem own_s64 {x y : Int64} {a b : Int} (hx : x.toInt = a) (hy : y.toInt = b) (h : (a - b).natAbs < 2 ^ 62) : (x - y).toInt = a - b := by rw [Int64.toInt_sub, hx, hy]; exact Int.bmod_eq_of_le (by omega) (by omega)
theorem own_m64 {x y : Int64} {a b : Int} (hx : x.toInt = a) (hy : y.toInt = b) (h : (a * b).natAbs < 2 ^ 62) : (x * y).toInt = a * b := by rw [Int64.toInt_mul, hx, hy]; exact Int.bmod_eq_of_le (by omega) (by omega)
theorem own_abs3 {k l m : Int} (hk : 0 ≤ k ∧ k ≤ 1024) (hl : 0 ≤ l ∧ l ≤ 1024) (hm : own_b31 m) : (k * l * m).natAbs ≤ 1024 * (1024 * 2 ^ 31) := by
  rw [Int.mul_assoc]; exact own_mulb hk (own_mulb hl (own_abs31 hm))
theorem own_abs2 {k l : Int} (hk : 0 ≤ k ∧ k ≤ 1024) (hl : 0 ≤ l ∧ l ≤ 1024) : (k * l).natAbs ≤ 1024 * 1024 := own_mulb hk (by omega)
theorem own_long {b a : Nat} (hb : b ≤ 1024) (ha : a ≤ 1024) (r f g k : Int32) : (((((Int64.ofNat b) * ((1024 : Int64) - (Int64.ofNat a))) * r.toInt64) + ((((1024 : Int64) - (Int64.ofNat b)) * ((1024 : Int64) - (Int64.ofNat a))) * g.toInt64)) + (((Int64.ofNat b) * (Int64.ofNat a)) * f.toInt64) + ((((1024 : Int64) - (Int64.ofNat b)) * (Int64.ofNat a)) * k.toInt64)).toInt = own_ref b a r.toInt f.toInt g.toInt k.toInt := by
  have eb : (Int64.ofNat b).toInt = b := Int64.toInt_ofNat_of_lt (by omega)
  have ea : (Int64.ofNat a).toInt = a := Int64.toInt_ofNat_of_lt (by omega)
  have ed : (1024 : Int64).toInt = 1024 := rfl
  have er := Int32.toInt_toInt64 r
  have ef := Int32.toInt_toInt64 f
  have eg := Int32.toInt_toInt64 g
  have ek := Int32.toInt_toInt64 k
  have ea' := own_s64 ed ea (by omega)
  have eb' := own_s64 ed eb (by omega)
  have nb := own_nat hb
  have na := own_nat ha
  have nb' : (0 : Int) ≤ 1024 - (b : Int) ∧ 1024 - (b : Int) ≤ 1024 := by omega
  have na' : (0 : Int) ≤ 1024 - (a : Int) ∧ 1024 - (a : Int) ≤ 1024 := by omega
  have q1 := own_abs3 nb na' (own_b31_of r)
  have q2 := own_abs3 nb' na' (own_b31_of g)
  have q3 := own_abs3 nb na (own_b31_of f)
  have q4 := own_abs3 nb' na (own_b31_of k)
  have t1 := own_m64 (own_m64 eb ea' (by have := own_abs2 nb na'; omega)) er (by omega)
  have t2 := own_m64 (own_m64 eb' ea' (by have := own_abs2 nb' na'; omega)) eg (by omega)
  have t3 := own_m64 (own_m64 eb ea (by have := own_abs2 nb na; omega)) ef (by omega)
  have t4 := own_m64 (own_m64 eb' ea (by have := own_abs2 nb' na; omega)) ek (by omega)
  rw [own_a64 (own_a64 (own_a64 t1 t2 (by omega)) t3 (by omega)) t4 (by omega)]
  unfold own_ref
  simp only [Int.mul_add, Int.sub_mul, Int.mul_sub, Int.add_mul]
  simp only [Int.mul_assoc, Int.mul_left_comm, Int.mul_comm]
  omega
theorem d2_0 : decode jdk_30_method_1_code 0 = .ok (.aload_n 0, 1) := by decide +kernel
theorem d2_1 : decode jdk_30_method_1_code 1 = .ok (.invokespecial 1, 3) := by decide +kernel
theorem d2_4 : decode jdk_30_method_1_code 4 = .ok (.return_, 1) := by decide +kernel
theorem pn_java_lang_Record : plainName "java/lang/Record" = true := by first | (simp [plainName, overriddenIn]; done) | decide +kernel
theorem ef_rm2 (m : MethodId) (a1 : Addr) : entryFrame m #[(.ref a1)] 1 = mkF m 0 #[.val (.ref a1)] [] := by first | (simp [entryFrame, mkF, argsToLocals, Value.category]; done) | rfl
def Qrm2 (Z : State) (a1 : Addr) (h0 : Heap) (n0 : Nat) (v : Option Value) (h : Heap) (L : List Loc) : Prop := v = none ∧ Fr n0 L ∧ h = h0
set_option maxRecDepth 65536 in
set_option maxHeartbeats 40000000 in
theorem rm2 (l : Launch) (Z : State) (a0 : Array Value) (hw : ∀ d ∈ tables_1, d.before a0 Z = true) (ws : List Jvm.Cond) (a1 : Addr) (h0 : Heap) (n0 : Nat) (Z0 : n0 ≤ h0.size) :
    MetFree l (⟨"java/lang/Record", "<init>", "()V"⟩ : MethodName) (head1 (Jvm.Cond.code (⟨"java/lang/Record", "<init>", "()V"⟩ : MethodName) jdk_30_method_1_code 1 none :: ws) ({ frames := 1, cells := 0, slots := 0, locals := 12 } : Room)) (fun a U => a = #[(.ref a1)] ∧ Z.Warmed39 U.vm ∧ U.heap = h0) (fun _ _ _ _ _ => True) (fun _ U o U' => ∃ v L, o = .returned v ∧ Qrm2 Z a1 h0 n0 v U'.heap L ∧ FrameEnd U o U' L ({ frames := 1, cells := 0, slots := 0, locals := 12 } : Room).cells ({ frames := 1, cells := 0, slots := 0, locals := 12 } : Room).slots) := by
  refine MetFree.of_bodySF (plainFor_of_name pn_java_lang_Record) hisR ?_
  intro p e s m args below meth c s₁ Bd hml0 hP hK
  obtain ⟨rfl, hZ, hh⟩ := hP
  have hx := Bd.exec
  have hby := Bd.bytes
  have hml : c.maxLocals = 1 := hml0
  have hown : s.vm.findClass "java/lang/Record" = some m.cls := findClass_of_methodNamed Bd.named
  have hnm := (name_of_methodNamed Bd.named Bd.method).1
  have X0 : Stand p l e ({ frames := 1, cells := 0, slots := 0, locals := 12 } : Room) s m #[(.ref a1)] below meth c s₁ [] 0 0 := Stand.of_body Bd
  have e0 : s₁.heap = h0 := by rw [← hh, Bd.state]; rfl
  have N0 := Fr.nil n0
  have pre0 : ∀ t, Steps p.tables e below (s₁.setTop (mkF m 0 #[.val (.ref a1)] [])) t → Steps p.tables e below (s₁.setTop (entryFrame m #[(.ref a1)] 1)) t := fun t k => castTop (ef_rm2 m a1) k
  obtain ⟨T1, X1, e1, st1⟩ := initO X0 hx hZ hown (hw _ (List.mem_of_getElem? (i := 13) rfl)) (hw _ (List.mem_of_getElem? (i := 14) rfl)) (hw _ (List.mem_of_getElem? (i := 15) rfl)) e0 (g := (mkF m 1 #[.val (.ref a1)] [(.ref a1)])) rfl (by rw [hml]; rfl) rfl (hb hby d2_1) (by decide) (W := 0) (by show 2 * 0 + _ ≤ _; exact Nat.le_of_eq rfl) (by decide)
  obtain ⟨fs, hr, hrun, hended, hW, hsame⟩ := X1.leave (v := none) (fun _ => rfl)
  refine ⟨_, _, pre0 _ ?_, hrun, hended, _, _, rfl, ?_, ⟨_, rfl⟩, hW, hsame.mono (by decide) (by decide)⟩
  · show Steps p.tables e below (s₁.setTop (mkF m 0 #[.val (.ref a1)] [])) _
    refine XS.aloadN X0.here hx rfl (hb hby d2_0) rfl rfl ?_
    show Steps p.tables e below (s₁.setTop (mkF m 1 #[.val (.ref a1)] [(.ref a1)])) _
    refine st1 _ ?_
    show Steps p.tables e below (T1.setTop (mkF m 4 #[.val (.ref a1)] [])) _
    exact X1.returnOut hx Bd.returns (hb hby d2_4) hr
  · show Qrm2 Z a1 h0 n0 _ T1.heap _
    rw [e1]
    exact ⟨rfl, N0, rfl⟩
theorem d1_0 : decode prog_268_method_1_code 0 = .ok (.aload_n 0, 1) := by decide +kernel
theorem d1_1 : decode prog_268_method_1_code 1 = .ok (.invokespecial 1, 3) := by decide +kernel
theorem pd___V : parseMethodDescriptor "()V" = some ⟨[], none⟩ := by decide +kernel
theorem d1_4 : decode prog_268_method_1_code 4 = .ok (.aload_n 0, 1) := by decide +kernel
theorem d1_5 : decode prog_268_method_1_code 5 = .ok (.dload_n 1, 1) := by decide +kernel
theorem d1_6 : decode prog_268_method_1_code 6 = .ok (.putfield 7, 3) := by decide +kernel
theorem d1_9 : decode prog_268_method_1_code 9 = .ok (.aload_n 0, 1) := by decide +kernel
theorem d1_10 : decode prog_268_method_1_code 10 = .ok (.dload_n 3, 1) := by decide +kernel
theorem d1_11 : decode prog_268_method_1_code 11 = .ok (.putfield 13, 3) := by decide +kernel
theorem d1_14 : decode prog_268_method_1_code 14 = .ok (.aload_n 0, 1) := by decide +kernel
theorem d1_15 : decode prog_268_method_1_code 15 = .ok (.dload 5, 2) := by decide +kernel
theorem d1_17 : decode prog_268_method_1_code 17 = .ok (.putfield 16, 3) := by decide +kernel
theorem d1_20 : decode prog_268_method_1_code 20 = .ok (.aload_n 0, 1) := by decide +kernel
theorem d1_21 : decode prog_268_method_1_code 21 = .ok (.dload 7, 2) := by decide +kernel
theorem d1_23 : decode prog_268_method_1_code 23 = .ok (.putfield 19, 3) := by decide +kernel
theorem d1_26 : decode prog_268_method_1_code 26 = .ok (.return_, 1) := by decide +kernel
theorem pn_com_example_reshelve_reshelve_TargetBlocks : plainName "com/example/reshelve/reshelve/TargetBlocks" = true := by first | (simp [plainName, overriddenIn]; done) | decide +kernel
theorem ef_rm1 (m : MethodId) (a1 : Addr) (u1 : UInt64) (u2 : UInt64) (u3 : UInt64) (u4 : UInt64) : entryFrame m #[(.ref a1), (.double u1), (.double u2), (.double u3), (.double u4)] 9 = mkF m 0 #[.val (.ref a1), .val (.double u1), .second, .val (.double u2), .second, .val (.double u3), .second, .val (.double u4), .second] [] := by first | (simp [entryFrame, mkF, argsToLocals, Value.category]; done) | rfl
def Qrm1 (Z : State) (a1 : Addr) (u1 : UInt64) (u2 : UInt64) (u3 : UInt64) (u4 : UInt64) (h0 : Heap) (n0 : Nat) (v : Option Value) (h : Heap) (L : List Loc) : Prop := v = none ∧ Fr n0 L ∧ Keep h0 h [a1] ∧ Fld Z h a1 "com/example/reshelve/reshelve/TargetBlocks" "read" "D" (.double u1) ∧ Fld Z h a1 "com/example/reshelve/reshelve/TargetBlocks" "foundAlone" "D" (.double u2) ∧ Fld Z h a1 "com/example/reshelve/reshelve/TargetBlocks" "afresh" "D" (.double u3) ∧ Fld Z h a1 "com/example/reshelve/reshelve/TargetBlocks" "afreshFoundAlone" "D" (.double u4)
set_option maxRecDepth 65536 in
set_option maxHeartbeats 40000000 in
theorem rm1 (l : Launch) (Z : State) (a0 : Array Value) (hw : ∀ d ∈ tables_1, d.before a0 Z = true) (ws : List Jvm.Cond) (a1 : Addr) (u1 : UInt64) (u2 : UInt64) (u3 : UInt64) (u4 : UInt64) (h0 : Heap) (n0 : Nat) (Z0 : n0 ≤ h0.size) (E1 : Exa Z h0 a1 "com/example/reshelve/reshelve/TargetBlocks") (F0 : Fld Z h0 a1 "com/example/reshelve/reshelve/TargetBlocks" "read" "D" (.double (0 : UInt64))) (F1 : Fld Z h0 a1 "com/example/reshelve/reshelve/TargetBlocks" "foundAlone" "D" (.double (0 : UInt64))) (F2 : Fld Z h0 a1 "com/example/reshelve/reshelve/TargetBlocks" "afresh" "D" (.double (0 : UInt64))) (F3 : Fld Z h0 a1 "com/example/reshelve/reshelve/TargetBlocks" "afreshFoundAlone" "D" (.double (0 : UInt64))) (g1 : n0 ≤ a1) :
    MetFree l (⟨"com/example/reshelve/reshelve/TargetBlocks", "<init>", "(DDDD)V"⟩ : MethodName) (head1 (Jvm.Cond.code (⟨"com/example/reshelve/reshelve/TargetBlocks", "<init>", "(DDDD)V"⟩ : MethodName) prog_268_method_1_code 9 none :: ws) ({ frames := 2, cells := 0, slots := 0, locals := 24 } : Room)) (fun a U => a = #[(.ref a1), (.double u1), (.double u2), (.double u3), (.double u4)] ∧ Z.Warmed39 U.vm ∧ U.heap = h0) (fun _ _ _ _ _ => True) (fun _ U o U' => ∃ v L, o = .returned v ∧ Qrm1 Z a1 u1 u2 u3 u4 h0 n0 v U'.heap L ∧ FrameEnd U o U' L ({ frames := 2, cells := 0, slots := 0, locals := 24 } : Room).cells ({ frames := 2, cells := 0, slots := 0, locals := 24 } : Room).slots) := by
  refine MetFree.of_bodySF (plainFor_of_name pn_com_example_reshelve_reshelve_TargetBlocks) hisR ?_
  intro p e s m args below meth c s₁ Bd hml0 hP hK
  obtain ⟨rfl, hZ, hh⟩ := hP
  have hx := Bd.exec
  have hby := Bd.bytes
  have hml : c.maxLocals = 9 := hml0
  have hown : s.vm.findClass "com/example/reshelve/reshelve/TargetBlocks" = some m.cls := findClass_of_methodNamed Bd.named
  have hnm := (name_of_methodNamed Bd.named Bd.method).1
  have X0 : Stand p l e ({ frames := 2, cells := 0, slots := 0, locals := 24 } : Room) s m #[(.ref a1), (.double u1), (.double u2), (.double u3), (.double u4)] below meth c s₁ [] 0 0 := Stand.of_body Bd
  have e0 : s₁.heap = h0 := by rw [← hh, Bd.state]; rfl
  have N0 := Fr.nil n0
  have pre0 : ∀ t, Steps p.tables e below (s₁.setTop (mkF m 0 #[.val (.ref a1), .val (.double u1), .second, .val (.double u2), .second, .val (.double u3), .second, .val (.double u4), .second] [])) t → Steps p.tables e below (s₁.setTop (entryFrame m #[(.ref a1), (.double u1), (.double u2), (.double u3), (.double u4)] 9)) t := fun t k => castTop (ef_rm1 m a1 u1 u2 u3 u4) k
  have K0 := Keep.refl h0 [a1]
  obtain ⟨_, _, ⟨T2, L2, k2, n2⟩, -, X2, ⟨Lc2, hQ2, l2, y2, z2⟩, st2⟩ := X0.specialBack hx (y := (⟨"java/lang/Record", "<init>", "()V"⟩ : MethodName)) rfl hown (mvT hZ (hw _ (List.mem_of_getElem? (i := 8) rfl))) (mvT hZ (hw _ (List.mem_of_getElem? (i := 9) rfl))) (mvT hZ (hw _ (List.mem_of_getElem? (i := 12) rfl))) (by decide) (backOf (W := 0) (rm2 l Z a0 hw [] a1  h0 n0 Z0 ) hZ (hw _ (List.mem_of_getElem? (i := 12) rfl)) (hw _ (List.mem_of_getElem? (i := 11) rfl)) (by decide) (by decide)) (g := (mkF m 1 #[.val (.ref a1), .val (.double u1), .second, .val (.double u2), .second, .val (.double u3), .second, .val (.double u4), .second] [(.ref a1)])) rfl (by rw [hml]; rfl) (Steps.refl _) (a := a1) (argsL := []) (rest := []) (lenOf pd___V rfl) rfl (by show 2 * 0 + _ ≤ _; exact Nat.le_of_eq rfl) (hb hby d1_1) (fun _ _ => ⟨rfl, e0, (by decide : 0 + 0 ≤ _), (by decide : 0 + 0 ≤ _)⟩)
  dsimp only [Pt.U, Pt.locs, Pt.cells, Pt.slots] at X2 l2 y2 z2 st2 hQ2
  subst l2 y2 z2
  obtain ⟨rfl, N2q, e2⟩ := hQ2
  have N3 := Fr.app N0 N2q
  obtain ⟨T4, h4, X4, e4, W4, st4⟩ := putF X2 hx hZ hown (host := "") (Or.inl (hw _ (List.mem_of_getElem? (i := 16) rfl))) Via.refl e2 F0 E1 (Or.inr ⟨(hw _ (List.mem_of_getElem? (i := 17) rfl)), rfl, hnm⟩) (hw _ (List.mem_of_getElem? (i := 3) rfl)) (ty := .double) (by decide) rfl rfl (g := (mkF m 6 #[.val (.ref a1), .val (.double u1), .second, .val (.double u2), .second, .val (.double u3), .second, .val (.double u4), .second] [(.double u1), (.ref a1)])) rfl rfl (hb hby d1_6)
  have f5 := F0.same W4
  have f6 := E1.wr W4
  have f7 := F1.other W4 (Or.inr (slot_ne (Or.inr (hw _ (List.mem_of_getElem? (i := 19) rfl))) (Or.inr (hw _ (List.mem_of_getElem? (i := 17) rfl))) (by decide) (t := .double) (t' := .double) (by decide) (by decide)))
  have f8 := F2.other W4 (Or.inr (slot_ne (Or.inr (hw _ (List.mem_of_getElem? (i := 21) rfl))) (Or.inr (hw _ (List.mem_of_getElem? (i := 17) rfl))) (by decide) (t := .double) (t' := .double) (by decide) (by decide)))
  have f9 := F3.other W4 (Or.inr (slot_ne (Or.inr (hw _ (List.mem_of_getElem? (i := 23) rfl))) (Or.inr (hw _ (List.mem_of_getElem? (i := 17) rfl))) (by decide) (t := .double) (t' := .double) (by decide) (by decide)))
  have Zn10 := Nat.le_trans Z0 (Keep.of_wr W4).1
  have N11 := Fr.snoc X4 N3 g1
  have K12 := K0.wr W4 (Or.inl (List.mem_of_getElem? (i := 0) rfl))
  obtain ⟨T13, h13, X13, e13, W13, st13⟩ := putF X4 hx hZ hown (host := "") (Or.inl (hw _ (List.mem_of_getElem? (i := 18) rfl))) Via.refl e4 f7 f6 (Or.inr ⟨(hw _ (List.mem_of_getElem? (i := 19) rfl)), rfl, hnm⟩) (hw _ (List.mem_of_getElem? (i := 3) rfl)) (ty := .double) (by decide) rfl rfl (g := (mkF m 11 #[.val (.ref a1), .val (.double u1), .second, .val (.double u2), .second, .val (.double u3), .second, .val (.double u4), .second] [(.double u2), (.ref a1)])) rfl rfl (hb hby d1_11)
  have f14 := f7.same W13
  have f15 := f6.wr W13
  have f16 := f8.other W13 (Or.inr (slot_ne (Or.inr (hw _ (List.mem_of_getElem? (i := 21) rfl))) (Or.inr (hw _ (List.mem_of_getElem? (i := 19) rfl))) (by decide) (t := .double) (t' := .double) (by decide) (by decide)))
  have f17 := f9.other W13 (Or.inr (slot_ne (Or.inr (hw _ (List.mem_of_getElem? (i := 23) rfl))) (Or.inr (hw _ (List.mem_of_getElem? (i := 19) rfl))) (by decide) (t := .double) (t' := .double) (by decide) (by decide)))
  have f18 := f5.other W13 (Or.inr (slot_ne (Or.inr (hw _ (List.mem_of_getElem? (i := 17) rfl))) (Or.inr (hw _ (List.mem_of_getElem? (i := 19) rfl))) (by decide) (t := .double) (t' := .double) (by decide) (by decide)))
  have Zn19 := Nat.le_trans Zn10 (Keep.of_wr W13).1
  have N20 := Fr.snoc X13 N11 g1
  have K21 := K12.wr W13 (Or.inl (List.mem_of_getElem? (i := 0) rfl))
  obtain ⟨T22, h22, X22, e22, W22, st22⟩ := putF X13 hx hZ hown (host := "") (Or.inl (hw _ (List.mem_of_getElem? (i := 20) rfl))) Via.refl e13 f16 f15 (Or.inr ⟨(hw _ (List.mem_of_getElem? (i := 21) rfl)), rfl, hnm⟩) (hw _ (List.mem_of_getElem? (i := 3) rfl)) (ty := .double) (by decide) rfl rfl (g := (mkF m 17 #[.val (.ref a1), .val (.double u1), .second, .val (.double u2), .second, .val (.double u3), .second, .val (.double u4), .second] [(.double u3), (.ref a1)])) rfl rfl (hb hby d1_17)
  have f23 := f16.same W22
  have f24 := f15.wr W22
  have f25 := f17.other W22 (Or.inr (slot_ne (Or.inr (hw _ (List.mem_of_getElem? (i := 23) rfl))) (Or.inr (hw _ (List.mem_of_getElem? (i := 21) rfl))) (by decide) (t := .double) (t' := .double) (by decide) (by decide)))
  have f26 := f18.other W22 (Or.inr (slot_ne (Or.inr (hw _ (List.mem_of_getElem? (i := 17) rfl))) (Or.inr (hw _ (List.mem_of_getElem? (i := 21) rfl))) (by decide) (t := .double) (t' := .double) (by decide) (by decide)))
  have f27 := f14.other W22 (Or.inr (slot_ne (Or.inr (hw _ (List.mem_of_getElem? (i := 19) rfl))) (Or.inr (hw _ (List.mem_of_getElem? (i := 21) rfl))) (by decide) (t := .double) (t' := .double) (by decide) (by decide)))
  have Zn28 := Nat.le_trans Zn19 (Keep.of_wr W22).1
  have N29 := Fr.snoc X22 N20 g1
  have K30 := K21.wr W22 (Or.inl (List.mem_of_getElem? (i := 0) rfl))
  obtain ⟨T31, h31, X31, e31, W31, st31⟩ := putF X22 hx hZ hown (host := "") (Or.inl (hw _ (List.mem_of_getElem? (i := 22) rfl))) Via.refl e22 f25 f24 (Or.inr ⟨(hw _ (List.mem_of_getElem? (i := 23) rfl)), rfl, hnm⟩) (hw _ (List.mem_of_getElem? (i := 3) rfl)) (ty := .double) (by decide) rfl rfl (g := (mkF m 23 #[.val (.ref a1), .val (.double u1), .second, .val (.double u2), .second, .val (.double u3), .second, .val (.double u4), .second] [(.double u4), (.ref a1)])) rfl rfl (hb hby d1_23)
  have f32 := f25.same W31
  have f33 := f24.wr W31
  have f34 := f26.other W31 (Or.inr (slot_ne (Or.inr (hw _ (List.mem_of_getElem? (i := 17) rfl))) (Or.inr (hw _ (List.mem_of_getElem? (i := 23) rfl))) (by decide) (t := .double) (t' := .double) (by decide) (by decide)))
  have f35 := f27.other W31 (Or.inr (slot_ne (Or.inr (hw _ (List.mem_of_getElem? (i := 19) rfl))) (Or.inr (hw _ (List.mem_of_getElem? (i := 23) rfl))) (by decide) (t := .double) (t' := .double) (by decide) (by decide)))
  have f36 := f23.other W31 (Or.inr (slot_ne (Or.inr (hw _ (List.mem_of_getElem? (i := 21) rfl))) (Or.inr (hw _ (List.mem_of_getElem? (i := 23) rfl))) (by decide) (t := .double) (t' := .double) (by decide) (by decide)))
  have Zn37 := Nat.le_trans Zn28 (Keep.of_wr W31).1
  have N38 := Fr.snoc X31 N29 g1
  have K39 := K30.wr W31 (Or.inl (List.mem_of_getElem? (i := 0) rfl))
  obtain ⟨fs, hr, hrun, hended, hW, hsame⟩ := X31.leave (v := none) (fun _ => rfl)
  refine ⟨_, _, pre0 _ ?_, hrun, hended, _, _, rfl, ?_, ⟨_, rfl⟩, hW, hsame.mono (by decide) (by decide)⟩
  · show Steps p.tables e below (s₁.setTop (mkF m 0 #[.val (.ref a1), .val (.double u1), .second, .val (.double u2), .second, .val (.double u3), .second, .val (.double u4), .second] [])) _
    refine XS.aloadN X0.here hx rfl (hb hby d1_0) rfl rfl ?_
    show Steps p.tables e below (s₁.setTop (mkF m 1 #[.val (.ref a1), .val (.double u1), .second, .val (.double u2), .second, .val (.double u3), .second, .val (.double u4), .second] [(.ref a1)])) _
    refine st2.trans ?_
    show Steps p.tables e below (T2.setTop (mkF m 4 #[.val (.ref a1), .val (.double u1), .second, .val (.double u2), .second, .val (.double u3), .second, .val (.double u4), .second] [])) _
    refine XS.aloadN X2.here hx rfl (hb hby d1_4) rfl rfl ?_
    show Steps p.tables e below (T2.setTop (mkF m 5 #[.val (.ref a1), .val (.double u1), .second, .val (.double u2), .second, .val (.double u3), .second, .val (.double u4), .second] [(.ref a1)])) _
    refine own_sloadN X2.here hx (hb hby d1_5) rfl ?_
    show Steps p.tables e below (T2.setTop (mkF m 6 #[.val (.ref a1), .val (.double u1), .second, .val (.double u2), .second, .val (.double u3), .second, .val (.double u4), .second] [(.double u1), (.ref a1)])) _
    refine st4 _ ?_
    show Steps p.tables e below (T4.setTop (mkF m 9 #[.val (.ref a1), .val (.double u1), .second, .val (.double u2), .second, .val (.double u3), .second, .val (.double u4), .second] [])) _
    refine XS.aloadN X4.here hx rfl (hb hby d1_9) rfl rfl ?_
    show Steps p.tables e below (T4.setTop (mkF m 10 #[.val (.ref a1), .val (.double u1), .second, .val (.double u2), .second, .val (.double u3), .second, .val (.double u4), .second] [(.ref a1)])) _
    refine own_sloadN X4.here hx (hb hby d1_10) rfl ?_
    show Steps p.tables e below (T4.setTop (mkF m 11 #[.val (.ref a1), .val (.double u1), .second, .val (.double u2), .second, .val (.double u3), .second, .val (.double u4), .second] [(.double u2), (.ref a1)])) _
    refine st13 _ ?_
    show Steps p.tables e below (T13.setTop (mkF m 14 #[.val (.ref a1), .val (.double u1), .second, .val (.double u2), .second, .val (.double u3), .second, .val (.double u4), .second] [])) _
    refine XS.aloadN X13.here hx rfl (hb hby d1_14) rfl rfl ?_
    show Steps p.tables e below (T13.setTop (mkF m 15 #[.val (.ref a1), .val (.double u1), .second, .val (.double u2), .second, .val (.double u3), .second, .val (.double u4), .second] [(.ref a1)])) _
    refine own_sload X13.here hx (hb hby d1_15) rfl ?_
    show Steps p.tables e below (T13.setTop (mkF m 17 #[.val (.ref a1), .val (.double u1), .second, .val (.double u2), .second, .val (.double u3), .second, .val (.double u4), .second] [(.double u3), (.ref a1)])) _
    refine st22 _ ?_
    show Steps p.tables e below (T22.setTop (mkF m 20 #[.val (.ref a1), .val (.double u1), .second, .val (.double u2), .second, .val (.double u3), .second, .val (.double u4), .second] [])) _
    refine XS.aloadN X22.here hx rfl (hb hby d1_20) rfl rfl ?_
    show Steps p.tables e below (T22.setTop (mkF m 21 #[.val (.ref a1), .val (.double u1), .second, .val (.double u2), .second, .val (.double u3), .second, .val (.double u4), .second] [(.ref a1)])) _
    refine own_sload X22.here hx (hb hby d1_21) rfl ?_
    show Steps p.tables e below (T22.setTop (mkF m 23 #[.val (.ref a1), .val (.double u1), .second, .val (.double u2), .second, .val (.double u3), .second, .val (.double u4), .second] [(.double u4), (.ref a1)])) _
    refine st31 _ ?_
    show Steps p.tables e below (T31.setTop (mkF m 26 #[.val (.ref a1), .val (.double u1), .second, .val (.double u2), .second, .val (.double u3), .second, .val (.double u4), .second] [])) _
    exact X31.returnOut hx Bd.returns (hb hby d1_26) hr
  · show Qrm1 Z a1 u1 u2 u3 u4 h0 n0 _ T31.heap _
    rw [e31]
    exact ⟨rfl, N38, K39, f34, f35, f36, f32⟩
theorem d4_0 : decode prog_268_method_3_code 0 = .ok (.dload_n 1, 1) := by decide +kernel
theorem d4_1 : decode prog_268_method_3_code 1 = .ok (.aload_n 0, 1) := by decide +kernel
theorem d4_2 : decode prog_268_method_3_code 2 = .ok (.getfield 7, 3) := by decide +kernel
theorem d4_5 : decode prog_268_method_3_code 5 = .ok (.dmul, 1) := by decide +kernel
theorem d4_6 : decode prog_268_method_3_code 6 = .ok (.dconst 1, 1) := by decide +kernel
theorem d4_7 : decode prog_268_method_3_code 7 = .ok (.dload_n 1, 1) := by decide +kernel
theorem d4_8 : decode prog_268_method_3_code 8 = .ok (.dsub, 1) := by decide +kernel
theorem d4_9 : decode prog_268_method_3_code 9 = .ok (.aload_n 0, 1) := by decide +kernel
theorem d4_10 : decode prog_268_method_3_code 10 = .ok (.getfield 16, 3) := by decide +kernel
theorem d4_13 : decode prog_268_method_3_code 13 = .ok (.dmul, 1) := by decide +kernel
theorem d4_14 : decode prog_268_method_3_code 14 = .ok (.dadd, 1) := by decide +kernel
theorem d4_15 : decode prog_268_method_3_code 15 = .ok (.dstore 5, 2) := by decide +kernel
theorem d4_17 : decode prog_268_method_3_code 17 = .ok (.dload_n 1, 1) := by decide +kernel
theorem d4_18 : decode prog_268_method_3_code 18 = .ok (.aload_n 0, 1) := by decide +kernel
theorem d4_19 : decode prog_268_method_3_code 19 = .ok (.getfield 13, 3) := by decide +kernel
theorem d4_22 : decode prog_268_method_3_code 22 = .ok (.dmul, 1) := by decide +kernel
theorem d4_23 : decode prog_268_method_3_code 23 = .ok (.dconst 1, 1) := by decide +kernel
theorem d4_24 : decode prog_268_method_3_code 24 = .ok (.dload_n 1, 1) := by decide +kernel
theorem d4_25 : decode prog_268_method_3_code 25 = .ok (.dsub, 1) := by decide +kernel
theorem d4_26 : decode prog_268_method_3_code 26 = .ok (.aload_n 0, 1) := by decide +kernel
theorem d4_27 : decode prog_268_method_3_code 27 = .ok (.getfield 19, 3) := by decide +kernel
theorem d4_30 : decode prog_268_method_3_code 30 = .ok (.dmul, 1) := by decide +kernel
theorem d4_31 : decode prog_268_method_3_code 31 = .ok (.dadd, 1) := by decide +kernel
theorem d4_32 : decode prog_268_method_3_code 32 = .ok (.dstore 7, 2) := by decide +kernel
theorem d4_34 : decode prog_268_method_3_code 34 = .ok (.dconst 1, 1) := by decide +kernel
theorem d4_35 : decode prog_268_method_3_code 35 = .ok (.dload_n 3, 1) := by decide +kernel
theorem d4_36 : decode prog_268_method_3_code 36 = .ok (.dsub, 1) := by decide +kernel
theorem d4_37 : decode prog_268_method_3_code 37 = .ok (.dload 5, 2) := by decide +kernel
theorem d4_39 : decode prog_268_method_3_code 39 = .ok (.dmul, 1) := by decide +kernel
theorem d4_40 : decode prog_268_method_3_code 40 = .ok (.dload_n 3, 1) := by decide +kernel
theorem d4_41 : decode prog_268_method_3_code 41 = .ok (.dload 7, 2) := by decide +kernel
theorem d4_43 : decode prog_268_method_3_code 43 = .ok (.dmul, 1) := by decide +kernel
theorem d4_44 : decode prog_268_method_3_code 44 = .ok (.dadd, 1) := by decide +kernel
theorem d4_45 : decode prog_268_method_3_code 45 = .ok (.dreturn, 1) := by decide +kernel
theorem ef_rm4 (m : MethodId) (a1 : Addr) (db : UInt64) (da : UInt64) : entryFrame m #[(.ref a1), (.double db), (.double da)] 9 = mkF m 0 #[.val (.ref a1), .val (.double db), .second, .val (.double da), .second, .unset, .unset, .unset, .unset] [] := by first | (simp [entryFrame, mkF, argsToLocals, Value.category]; done) | rfl
def Qrm4 (Z : State) (a1 : Addr) (db : UInt64) (da : UInt64) (u1 : UInt64) (u2 : UInt64) (u3 : UInt64) (u4 : UInt64) (mb : Int) (ma : Int) (m1 : Int) (m2 : Int) (m3 : Int) (m4 : Int) (h0 : Heap) (n0 : Nat) (v : Option Value) (h : Heap) (L : List Loc) : Prop := v = some (.double (own_weigh db da u1 u2 u3 u4)) ∧ Fr n0 L ∧ h = h0
set_option maxRecDepth 65536 in
set_option maxHeartbeats 40000000 in
theorem rm4 (l : Launch) (Z : State) (a0 : Array Value) (hw : ∀ d ∈ tables_1, d.before a0 Z = true) (ws : List Jvm.Cond) (a1 : Addr) (db : UInt64) (da : UInt64) (u1 : UInt64) (u2 : UInt64) (u3 : UInt64) (u4 : UInt64) (mb : Int) (ma : Int) (m1 : Int) (m2 : Int) (m3 : Int) (m4 : Int) (h0 : Heap) (n0 : Nat) (Z0 : n0 ≤ h0.size) (F0 : Fld Z h0 a1 "com/example/reshelve/reshelve/TargetBlocks" "read" "D" (.double u1)) (F1 : Fld Z h0 a1 "com/example/reshelve/reshelve/TargetBlocks" "foundAlone" "D" (.double u2)) (F2 : Fld Z h0 a1 "com/example/reshelve/reshelve/TargetBlocks" "afresh" "D" (.double u3)) (F3 : Fld Z h0 a1 "com/example/reshelve/reshelve/TargetBlocks" "afreshFoundAlone" "D" (.double u4)) (Rb : own_rep db mb (-10)) (Ra : own_rep da ma (-10)) (R1 : own_rep u1 m1 0) (R2 : own_rep u2 m2 0) (R3 : own_rep u3 m3 0) (R4 : own_rep u4 m4 0) (hmb : 0 ≤ mb ∧ mb ≤ 1024) (hma : 0 ≤ ma ∧ ma ≤ 1024) (hm1 : own_b31 m1) (hm2 : own_b31 m2) (hm3 : own_b31 m3) (hm4 : own_b31 m4) :
    MetFree l (⟨"com/example/reshelve/reshelve/TargetBlocks", "weighed", "(DD)D"⟩ : MethodName) (head1 (Jvm.Cond.code (⟨"com/example/reshelve/reshelve/TargetBlocks", "weighed", "(DD)D"⟩ : MethodName) prog_268_method_3_code 9 (some .double) :: ws) ({ frames := 0, cells := 0, slots := 0, locals := 0 } : Room)) (fun a U => a = #[(.ref a1), (.double db), (.double da)] ∧ Z.Warmed39 U.vm ∧ U.heap = h0) (fun _ _ _ _ _ => True) (fun _ U o U' => ∃ v L, o = .returned v ∧ Qrm4 Z a1 db da u1 u2 u3 u4 mb ma m1 m2 m3 m4 h0 n0 v U'.heap L ∧ FrameEnd U o U' L ({ frames := 0, cells := 0, slots := 0, locals := 0 } : Room).cells ({ frames := 0, cells := 0, slots := 0, locals := 0 } : Room).slots) := by
  refine MetFree.of_bodySF (plainFor_of_name pn_com_example_reshelve_reshelve_TargetBlocks) hisR ?_
  intro p e s m args below meth c s₁ Bd hml0 hP hK
  obtain ⟨rfl, hZ, hh⟩ := hP
  have hx := Bd.exec
  have hby := Bd.bytes
  have hml : c.maxLocals = 9 := hml0
  have hown : s.vm.findClass "com/example/reshelve/reshelve/TargetBlocks" = some m.cls := findClass_of_methodNamed Bd.named
  have hnm := (name_of_methodNamed Bd.named Bd.method).1
  have X0 : Stand p l e ({ frames := 0, cells := 0, slots := 0, locals := 0 } : Room) s m #[(.ref a1), (.double db), (.double da)] below meth c s₁ [] 0 0 := Stand.of_body Bd
  have e0 : s₁.heap = h0 := by rw [← hh, Bd.state]; rfl
  have N0 := Fr.nil n0
  have pre0 : ∀ t, Steps p.tables e below (s₁.setTop (mkF m 0 #[.val (.ref a1), .val (.double db), .second, .val (.double da), .second, .unset, .unset, .unset, .unset] [])) t → Steps p.tables e below (s₁.setTop (entryFrame m #[(.ref a1), (.double db), (.double da)] 9)) t := fun t k => castTop (ef_rm4 m a1 db da) k
  obtain ⟨T40, X40, e40, st40⟩ := getF X0 hx hZ hown (host := "") (Or.inl (hw _ (List.mem_of_getElem? (i := 16) rfl))) Via.refl e0 F0 (g := (mkF m 2 #[.val (.ref a1), .val (.double db), .second, .val (.double da), .second, .unset, .unset, .unset, .unset] [(.ref a1), (.double db)])) rfl rfl (hb hby d4_2)
  obtain ⟨T41, X41, e41, st41⟩ := getF X40 hx hZ hown (host := "") (Or.inl (hw _ (List.mem_of_getElem? (i := 20) rfl))) Via.refl e40 F2 (g := (mkF m 10 #[.val (.ref a1), .val (.double db), .second, .val (.double da), .second, .unset, .unset, .unset, .unset] [(.ref a1), (.double (FP.dsub (4607182418800017408 : UInt64) db)), (.double (FP.dmul db u1))])) rfl rfl (hb hby d4_10)
  obtain ⟨T42, X42, e42, st42⟩ := getF X41 hx hZ hown (host := "") (Or.inl (hw _ (List.mem_of_getElem? (i := 18) rfl))) Via.refl e41 F1 (g := (mkF m 19 #[.val (.ref a1), .val (.double db), .second, .val (.double da), .second, .val (.double (FP.dadd (FP.dmul db u1) (FP.dmul (FP.dsub (4607182418800017408 : UInt64) db) u3))), .second, .unset, .unset] [(.ref a1), (.double db)])) rfl rfl (hb hby d4_19)
  obtain ⟨T43, X43, e43, st43⟩ := getF X42 hx hZ hown (host := "") (Or.inl (hw _ (List.mem_of_getElem? (i := 22) rfl))) Via.refl e42 F3 (g := (mkF m 27 #[.val (.ref a1), .val (.double db), .second, .val (.double da), .second, .val (.double (FP.dadd (FP.dmul db u1) (FP.dmul (FP.dsub (4607182418800017408 : UInt64) db) u3))), .second, .unset, .unset] [(.ref a1), (.double (FP.dsub (4607182418800017408 : UInt64) db)), (.double (FP.dmul db u2))])) rfl rfl (hb hby d4_27)
  obtain ⟨fs, hr, hrun, hended, hW, hsame⟩ := X43.leave (v := some (.double (own_weigh db da u1 u2 u3 u4))) (fun h => by rw [Bd.returns] at h; cases h)
  refine ⟨_, _, pre0 _ ?_, hrun, hended, _, _, rfl, ?_, ⟨_, rfl⟩, hW, hsame.mono (by decide) (by decide)⟩
  · show Steps p.tables e below (s₁.setTop (mkF m 0 #[.val (.ref a1), .val (.double db), .second, .val (.double da), .second, .unset, .unset, .unset, .unset] [])) _
    refine own_sloadN X0.here hx (hb hby d4_0) rfl ?_
    show Steps p.tables e below (s₁.setTop (mkF m 1 #[.val (.ref a1), .val (.double db), .second, .val (.double da), .second, .unset, .unset, .unset, .unset] [(.double db)])) _
    refine XS.aloadN X0.here hx rfl (hb hby d4_1) rfl rfl ?_
    show Steps p.tables e below (s₁.setTop (mkF m 2 #[.val (.ref a1), .val (.double db), .second, .val (.double da), .second, .unset, .unset, .unset, .unset] [(.ref a1), (.double db)])) _
    refine st40 _ ?_
    show Steps p.tables e below (T40.setTop (mkF m 5 #[.val (.ref a1), .val (.double db), .second, .val (.double da), .second, .unset, .unset, .unset, .unset] [(.double u1), (.double db)])) _
    refine own_smul X40.here hx (hb hby d4_5) (Jvm.Free.Fl.val64_no.mpr (own_rep.no (own_w1 Rb R1 hmb hm1))) ?_
    show Steps p.tables e below (T40.setTop (mkF m 6 #[.val (.ref a1), .val (.double db), .second, .val (.double da), .second, .unset, .unset, .unset, .unset] [(.double (FP.dmul db u1))])) _
    refine own_sone X40.here hx (hb hby d4_6) ?_
    show Steps p.tables e below (T40.setTop (mkF m 7 #[.val (.ref a1), .val (.double db), .second, .val (.double da), .second, .unset, .unset, .unset, .unset] [(.double (4607182418800017408 : UInt64)), (.double (FP.dmul db u1))])) _
    refine own_sloadN X40.here hx (hb hby d4_7) rfl ?_
    show Steps p.tables e below (T40.setTop (mkF m 8 #[.val (.ref a1), .val (.double db), .second, .val (.double da), .second, .unset, .unset, .unset, .unset] [(.double db), (.double (4607182418800017408 : UInt64)), (.double (FP.dmul db u1))])) _
    refine own_ssub X40.here hx (hb hby d4_8) (Jvm.Free.Fl.val64_no.mpr (own_rep.no (own_w2 Rb hmb))) ?_
    show Steps p.tables e below (T40.setTop (mkF m 9 #[.val (.ref a1), .val (.double db), .second, .val (.double da), .second, .unset, .unset, .unset, .unset] [(.double (FP.dsub (4607182418800017408 : UInt64) db)), (.double (FP.dmul db u1))])) _
    refine XS.aloadN X40.here hx rfl (hb hby d4_9) rfl rfl ?_
    show Steps p.tables e below (T40.setTop (mkF m 10 #[.val (.ref a1), .val (.double db), .second, .val (.double da), .second, .unset, .unset, .unset, .unset] [(.ref a1), (.double (FP.dsub (4607182418800017408 : UInt64) db)), (.double (FP.dmul db u1))])) _
    refine st41 _ ?_
    show Steps p.tables e below (T41.setTop (mkF m 13 #[.val (.ref a1), .val (.double db), .second, .val (.double da), .second, .unset, .unset, .unset, .unset] [(.double u3), (.double (FP.dsub (4607182418800017408 : UInt64) db)), (.double (FP.dmul db u1))])) _
    refine own_smul X41.here hx (hb hby d4_13) (Jvm.Free.Fl.val64_no.mpr (own_rep.no (own_w3 Rb R3 hmb hm3))) ?_
    show Steps p.tables e below (T41.setTop (mkF m 14 #[.val (.ref a1), .val (.double db), .second, .val (.double da), .second, .unset, .unset, .unset, .unset] [(.double (FP.dmul (FP.dsub (4607182418800017408 : UInt64) db) u3)), (.double (FP.dmul db u1))])) _
    refine own_sadd X41.here hx (hb hby d4_14) (Jvm.Free.Fl.val64_no.mpr (own_rep.no (own_w4 Rb R1 R3 hmb hm1 hm3))) ?_
    show Steps p.tables e below (T41.setTop (mkF m 15 #[.val (.ref a1), .val (.double db), .second, .val (.double da), .second, .unset, .unset, .unset, .unset] [(.double (FP.dadd (FP.dmul db u1) (FP.dmul (FP.dsub (4607182418800017408 : UInt64) db) u3)))])) _
    refine own_sstore X41.here hx (l' := #[.val (.ref a1), .val (.double db), .second, .val (.double da), .second, .val (.double (FP.dadd (FP.dmul db u1) (FP.dmul (FP.dsub (4607182418800017408 : UInt64) db) u3))), .second, .unset, .unset]) (hb hby d4_15) rfl ?_
    show Steps p.tables e below (T41.setTop (mkF m 17 #[.val (.ref a1), .val (.double db), .second, .val (.double da), .second, .val (.double (FP.dadd (FP.dmul db u1) (FP.dmul (FP.dsub (4607182418800017408 : UInt64) db) u3))), .second, .unset, .unset] [])) _
    refine own_sloadN X41.here hx (hb hby d4_17) rfl ?_
    show Steps p.tables e below (T41.setTop (mkF m 18 #[.val (.ref a1), .val (.double db), .second, .val (.double da), .second, .val (.double (FP.dadd (FP.dmul db u1) (FP.dmul (FP.dsub (4607182418800017408 : UInt64) db) u3))), .second, .unset, .unset] [(.double db)])) _
    refine XS.aloadN X41.here hx rfl (hb hby d4_18) rfl rfl ?_
    show Steps p.tables e below (T41.setTop (mkF m 19 #[.val (.ref a1), .val (.double db), .second, .val (.double da), .second, .val (.double (FP.dadd (FP.dmul db u1) (FP.dmul (FP.dsub (4607182418800017408 : UInt64) db) u3))), .second, .unset, .unset] [(.ref a1), (.double db)])) _
    refine st42 _ ?_
    show Steps p.tables e below (T42.setTop (mkF m 22 #[.val (.ref a1), .val (.double db), .second, .val (.double da), .second, .val (.double (FP.dadd (FP.dmul db u1) (FP.dmul (FP.dsub (4607182418800017408 : UInt64) db) u3))), .second, .unset, .unset] [(.double u2), (.double db)])) _
    refine own_smul X42.here hx (hb hby d4_22) (Jvm.Free.Fl.val64_no.mpr (own_rep.no (own_w1 Rb R2 hmb hm2))) ?_
    show Steps p.tables e below (T42.setTop (mkF m 23 #[.val (.ref a1), .val (.double db), .second, .val (.double da), .second, .val (.double (FP.dadd (FP.dmul db u1) (FP.dmul (FP.dsub (4607182418800017408 : UInt64) db) u3))), .second, .unset, .unset] [(.double (FP.dmul db u2))])) _
    refine own_sone X42.here hx (hb hby d4_23) ?_
    show Steps p.tables e below (T42.setTop (mkF m 24 #[.val (.ref a1), .val (.double db), .second, .val (.double da), .second, .val (.double (FP.dadd (FP.dmul db u1) (FP.dmul (FP.dsub (4607182418800017408 : UInt64) db) u3))), .second, .unset, .unset] [(.double (4607182418800017408 : UInt64)), (.double (FP.dmul db u2))])) _
    refine own_sloadN X42.here hx (hb hby d4_24) rfl ?_
    show Steps p.tables e below (T42.setTop (mkF m 25 #[.val (.ref a1), .val (.double db), .second, .val (.double da), .second, .val (.double (FP.dadd (FP.dmul db u1) (FP.dmul (FP.dsub (4607182418800017408 : UInt64) db) u3))), .second, .unset, .unset] [(.double db), (.double (4607182418800017408 : UInt64)), (.double (FP.dmul db u2))])) _
    refine own_ssub X42.here hx (hb hby d4_25) (Jvm.Free.Fl.val64_no.mpr (own_rep.no (own_w2 Rb hmb))) ?_
    show Steps p.tables e below (T42.setTop (mkF m 26 #[.val (.ref a1), .val (.double db), .second, .val (.double da), .second, .val (.double (FP.dadd (FP.dmul db u1) (FP.dmul (FP.dsub (4607182418800017408 : UInt64) db) u3))), .second, .unset, .unset] [(.double (FP.dsub (4607182418800017408 : UInt64) db)), (.double (FP.dmul db u2))])) _
    refine XS.aloadN X42.here hx rfl (hb hby d4_26) rfl rfl ?_
    show Steps p.tables e below (T42.setTop (mkF m 27 #[.val (.ref a1), .val (.double db), .second, .val (.double da), .second, .val (.double (FP.dadd (FP.dmul db u1) (FP.dmul (FP.dsub (4607182418800017408 : UInt64) db) u3))), .second, .unset, .unset] [(.ref a1), (.double (FP.dsub (4607182418800017408 : UInt64) db)), (.double (FP.dmul db u2))])) _
    refine st43 _ ?_
    show Steps p.tables e below (T43.setTop (mkF m 30 #[.val (.ref a1), .val (.double db), .second, .val (.double da), .second, .val (.double (FP.dadd (FP.dmul db u1) (FP.dmul (FP.dsub (4607182418800017408 : UInt64) db) u3))), .second, .unset, .unset] [(.double u4), (.double (FP.dsub (4607182418800017408 : UInt64) db)), (.double (FP.dmul db u2))])) _
    refine own_smul X43.here hx (hb hby d4_30) (Jvm.Free.Fl.val64_no.mpr (own_rep.no (own_w3 Rb R4 hmb hm4))) ?_
    show Steps p.tables e below (T43.setTop (mkF m 31 #[.val (.ref a1), .val (.double db), .second, .val (.double da), .second, .val (.double (FP.dadd (FP.dmul db u1) (FP.dmul (FP.dsub (4607182418800017408 : UInt64) db) u3))), .second, .unset, .unset] [(.double (FP.dmul (FP.dsub (4607182418800017408 : UInt64) db) u4)), (.double (FP.dmul db u2))])) _
    refine own_sadd X43.here hx (hb hby d4_31) (Jvm.Free.Fl.val64_no.mpr (own_rep.no (own_w4 Rb R2 R4 hmb hm2 hm4))) ?_
    show Steps p.tables e below (T43.setTop (mkF m 32 #[.val (.ref a1), .val (.double db), .second, .val (.double da), .second, .val (.double (FP.dadd (FP.dmul db u1) (FP.dmul (FP.dsub (4607182418800017408 : UInt64) db) u3))), .second, .unset, .unset] [(.double (FP.dadd (FP.dmul db u2) (FP.dmul (FP.dsub (4607182418800017408 : UInt64) db) u4)))])) _
    refine own_sstore X43.here hx (l' := #[.val (.ref a1), .val (.double db), .second, .val (.double da), .second, .val (.double (FP.dadd (FP.dmul db u1) (FP.dmul (FP.dsub (4607182418800017408 : UInt64) db) u3))), .second, .val (.double (FP.dadd (FP.dmul db u2) (FP.dmul (FP.dsub (4607182418800017408 : UInt64) db) u4))), .second]) (hb hby d4_32) rfl ?_
    show Steps p.tables e below (T43.setTop (mkF m 34 #[.val (.ref a1), .val (.double db), .second, .val (.double da), .second, .val (.double (FP.dadd (FP.dmul db u1) (FP.dmul (FP.dsub (4607182418800017408 : UInt64) db) u3))), .second, .val (.double (FP.dadd (FP.dmul db u2) (FP.dmul (FP.dsub (4607182418800017408 : UInt64) db) u4))), .second] [])) _
    refine own_sone X43.here hx (hb hby d4_34) ?_
    show Steps p.tables e below (T43.setTop (mkF m 35 #[.val (.ref a1), .val (.double db), .second, .val (.double da), .second, .val (.double (FP.dadd (FP.dmul db u1) (FP.dmul (FP.dsub (4607182418800017408 : UInt64) db) u3))), .second, .val (.double (FP.dadd (FP.dmul db u2) (FP.dmul (FP.dsub (4607182418800017408 : UInt64) db) u4))), .second] [(.double (4607182418800017408 : UInt64))])) _
    refine own_sloadN X43.here hx (hb hby d4_35) rfl ?_
    show Steps p.tables e below (T43.setTop (mkF m 36 #[.val (.ref a1), .val (.double db), .second, .val (.double da), .second, .val (.double (FP.dadd (FP.dmul db u1) (FP.dmul (FP.dsub (4607182418800017408 : UInt64) db) u3))), .second, .val (.double (FP.dadd (FP.dmul db u2) (FP.dmul (FP.dsub (4607182418800017408 : UInt64) db) u4))), .second] [(.double da), (.double (4607182418800017408 : UInt64))])) _
    refine own_ssub X43.here hx (hb hby d4_36) (Jvm.Free.Fl.val64_no.mpr (own_rep.no (own_w2 Ra hma))) ?_
    show Steps p.tables e below (T43.setTop (mkF m 37 #[.val (.ref a1), .val (.double db), .second, .val (.double da), .second, .val (.double (FP.dadd (FP.dmul db u1) (FP.dmul (FP.dsub (4607182418800017408 : UInt64) db) u3))), .second, .val (.double (FP.dadd (FP.dmul db u2) (FP.dmul (FP.dsub (4607182418800017408 : UInt64) db) u4))), .second] [(.double (FP.dsub (4607182418800017408 : UInt64) da))])) _
    refine own_sload X43.here hx (hb hby d4_37) rfl ?_
    show Steps p.tables e below (T43.setTop (mkF m 39 #[.val (.ref a1), .val (.double db), .second, .val (.double da), .second, .val (.double (FP.dadd (FP.dmul db u1) (FP.dmul (FP.dsub (4607182418800017408 : UInt64) db) u3))), .second, .val (.double (FP.dadd (FP.dmul db u2) (FP.dmul (FP.dsub (4607182418800017408 : UInt64) db) u4))), .second] [(.double (FP.dadd (FP.dmul db u1) (FP.dmul (FP.dsub (4607182418800017408 : UInt64) db) u3))), (.double (FP.dsub (4607182418800017408 : UInt64) da))])) _
    refine own_smul X43.here hx (hb hby d4_39) (Jvm.Free.Fl.val64_no.mpr (own_rep.no (own_w5 Rb Ra R1 R3 hmb hma hm1 hm3))) ?_
    show Steps p.tables e below (T43.setTop (mkF m 40 #[.val (.ref a1), .val (.double db), .second, .val (.double da), .second, .val (.double (FP.dadd (FP.dmul db u1) (FP.dmul (FP.dsub (4607182418800017408 : UInt64) db) u3))), .second, .val (.double (FP.dadd (FP.dmul db u2) (FP.dmul (FP.dsub (4607182418800017408 : UInt64) db) u4))), .second] [(.double (FP.dmul (FP.dsub (4607182418800017408 : UInt64) da) (FP.dadd (FP.dmul db u1) (FP.dmul (FP.dsub (4607182418800017408 : UInt64) db) u3))))])) _
    refine own_sloadN X43.here hx (hb hby d4_40) rfl ?_
    show Steps p.tables e below (T43.setTop (mkF m 41 #[.val (.ref a1), .val (.double db), .second, .val (.double da), .second, .val (.double (FP.dadd (FP.dmul db u1) (FP.dmul (FP.dsub (4607182418800017408 : UInt64) db) u3))), .second, .val (.double (FP.dadd (FP.dmul db u2) (FP.dmul (FP.dsub (4607182418800017408 : UInt64) db) u4))), .second] [(.double da), (.double (FP.dmul (FP.dsub (4607182418800017408 : UInt64) da) (FP.dadd (FP.dmul db u1) (FP.dmul (FP.dsub (4607182418800017408 : UInt64) db) u3))))])) _
    refine own_sload X43.here hx (hb hby d4_41) rfl ?_
    show Steps p.tables e below (T43.setTop (mkF m 43 #[.val (.ref a1), .val (.double db), .second, .val (.double da), .second, .val (.double (FP.dadd (FP.dmul db u1) (FP.dmul (FP.dsub (4607182418800017408 : UInt64) db) u3))), .second, .val (.double (FP.dadd (FP.dmul db u2) (FP.dmul (FP.dsub (4607182418800017408 : UInt64) db) u4))), .second] [(.double (FP.dadd (FP.dmul db u2) (FP.dmul (FP.dsub (4607182418800017408 : UInt64) db) u4))), (.double da), (.double (FP.dmul (FP.dsub (4607182418800017408 : UInt64) da) (FP.dadd (FP.dmul db u1) (FP.dmul (FP.dsub (4607182418800017408 : UInt64) db) u3))))])) _
    refine own_smul X43.here hx (hb hby d4_43) (Jvm.Free.Fl.val64_no.mpr (own_rep.no (own_w6 Rb Ra R2 R4 hmb hma hm2 hm4))) ?_
    show Steps p.tables e below (T43.setTop (mkF m 44 #[.val (.ref a1), .val (.double db), .second, .val (.double da), .second, .val (.double (FP.dadd (FP.dmul db u1) (FP.dmul (FP.dsub (4607182418800017408 : UInt64) db) u3))), .second, .val (.double (FP.dadd (FP.dmul db u2) (FP.dmul (FP.dsub (4607182418800017408 : UInt64) db) u4))), .second] [(.double (FP.dmul da (FP.dadd (FP.dmul db u2) (FP.dmul (FP.dsub (4607182418800017408 : UInt64) db) u4)))), (.double (FP.dmul (FP.dsub (4607182418800017408 : UInt64) da) (FP.dadd (FP.dmul db u1) (FP.dmul (FP.dsub (4607182418800017408 : UInt64) db) u3))))])) _
    refine own_sadd X43.here hx (hb hby d4_44) (Jvm.Free.Fl.val64_no.mpr (own_rep.no (own_w7 Rb Ra R1 R2 R3 R4 hmb hma hm1 hm2 hm3 hm4))) ?_
    show Steps p.tables e below (T43.setTop (mkF m 45 #[.val (.ref a1), .val (.double db), .second, .val (.double da), .second, .val (.double (FP.dadd (FP.dmul db u1) (FP.dmul (FP.dsub (4607182418800017408 : UInt64) db) u3))), .second, .val (.double (FP.dadd (FP.dmul db u2) (FP.dmul (FP.dsub (4607182418800017408 : UInt64) db) u4))), .second] [(.double (own_weigh db da u1 u2 u3 u4))])) _
    exact retOut X43 hx Bd.returns rfl (Or.inr (Or.inr (Or.inl ⟨rfl, rfl, _, rfl⟩))) (hb hby d4_45) hr
  · show Qrm4 Z a1 db da u1 u2 u3 u4 mb ma m1 m2 m3 m4 h0 n0 _ T43.heap _
    rw [e43]
    exact ⟨rfl, N0, rfl⟩
theorem pd__DDDD_V : parseMethodDescriptor "(DDDD)V" = some ⟨[.double, .double, .double, .double], none⟩ := by decide +kernel
theorem pd__DD_D : parseMethodDescriptor "(DD)D" = some ⟨[.double, .double], some .double⟩ := by decide +kernel
theorem pn_com_example_reshelve_reshelve_TargetBlocksWeighedPinLaw : plainName "com/example/reshelve/reshelve/TargetBlocksWeighedPinLaw" = true := by first | (simp [plainName, overriddenIn]; done) | decide +kernel
theorem ef_rm0 (m : MethodId) (p0 : Int32) (p1 : Int32) (p2 : Int32) (p3 : Int32) (p4 : Int32) (p5 : Int32) : entryFrame m #[(.int p0), (.int p1), (.int p2), (.int p3), (.int p4), (.int p5)] maxLocals = mkF m 0 #[.val (.int p0), .val (.int p1), .val (.int p2), .val (.int p3), .val (.int p4), .val (.int p5), .unset, .unset, .unset, .unset, .unset, .unset, .unset, .unset, .unset, .unset, .unset, .unset, .unset, .unset, .unset] [] := by first | (simp [entryFrame, mkF, argsToLocals, Value.category, maxLocals]; done) | rfl
def Qrm0 (Z : State) (p0 : Int32) (p1 : Int32) (p2 : Int32) (p3 : Int32) (p4 : Int32) (p5 : Int32) (h0 : Heap) (n0 : Nat) (v : Option Value) (h : Heap) (L : List Loc) : Prop := v = some (.int 1) ∧ Fr n0 L
set_option maxRecDepth 65536 in
set_option maxHeartbeats 40000000 in
theorem rm0 (l : Launch) (Z : State) (a0 : Array Value) (hw : ∀ d ∈ tables_1, d.before a0 Z = true) (ws : List Jvm.Cond) (p0 : Int32) (p1 : Int32) (p2 : Int32) (p3 : Int32) (p4 : Int32) (p5 : Int32) (h0 : Heap) (n0 : Nat) (Z0 : n0 ≤ h0.size) :
    MetFree l x (head1 (Jvm.Cond.code x code maxLocals ret :: ws) room_1) (fun a U => a = #[(.int p0), (.int p1), (.int p2), (.int p3), (.int p4), (.int p5)] ∧ Z.Warmed39 U.vm ∧ U.heap = h0) (fun _ _ _ _ _ => True) (fun _ U o U' => ∃ v L, o = .returned v ∧ Qrm0 Z p0 p1 p2 p3 p4 p5 h0 n0 v U'.heap L ∧ FrameEnd U o U' L room_1.cells room_1.slots) := by
  refine MetFree.of_bodySF (plainFor_of_name pn_com_example_reshelve_reshelve_TargetBlocksWeighedPinLaw) hisR ?_
  intro p e s m args below meth c s₁ Bd hml0 hP hK
  obtain ⟨rfl, hZ, hh⟩ := hP
  have hx := Bd.exec
  have hby := Bd.bytes
  have hml : c.maxLocals = 21 := hml0
  have hown : s.vm.findClass "com/example/reshelve/reshelve/TargetBlocksWeighedPinLaw" = some m.cls := findClass_of_methodNamed Bd.named
  have hnm := (name_of_methodNamed Bd.named Bd.method).1
  have X0 : Stand p l e room_1 s m #[(.int p0), (.int p1), (.int p2), (.int p3), (.int p4), (.int p5)] below meth c s₁ [] 0 0 := Stand.of_body Bd
  have e0 : s₁.heap = h0 := by rw [← hh, Bd.state]; rfl
  have N0 := Fr.nil n0
  have pre0 : ∀ t, Steps p.tables e below (s₁.setTop (mkF m 0 #[.val (.int p0), .val (.int p1), .val (.int p2), .val (.int p3), .val (.int p4), .val (.int p5), .unset, .unset, .unset, .unset, .unset, .unset, .unset, .unset, .unset, .unset, .unset, .unset, .unset, .unset, .unset] [])) t → Steps p.tables e below (s₁.setTop (entryFrame m #[(.int p0), (.int p1), (.int p2), (.int p3), (.int p4), (.int p5)] maxLocals)) t := fun t k => castTop (ef_rm0 m p0 p1 p2 p3 p4 p5) k
  obtain ⟨nb, hnb, enb⟩ := own_small p4
  have enbq : ((p4 &&& (2147483647 : Int32)) - (p4 &&& (2147483647 : Int32)) / (1025 : Int32) * (1025 : Int32)) = ((p4 &&& (2147483647 : Int32)) - (p4 &&& (2147483647 : Int32)) / (1025 : Int32) * (1025 : Int32)) := rfl
  have fnb : (Int32.ofNat nb).toInt64 = Int64.ofNat nb := own_i2l hnb
  obtain ⟨na, hna, ena⟩ := own_small p5
  have enaq : ((p5 &&& (2147483647 : Int32)) - (p5 &&& (2147483647 : Int32)) / (1025 : Int32) * (1025 : Int32)) = ((p5 &&& (2147483647 : Int32)) - (p5 &&& (2147483647 : Int32)) / (1025 : Int32) * (1025 : Int32)) := rfl
  have fna : (Int32.ofNat na).toInt64 = Int64.ofNat na := own_i2l hna
  obtain ⟨T44, h44, X44, e44, E44, A44, D44, U44, st44⟩ := newO X0 hx hZ hown (hw _ (List.mem_of_getElem? (i := 2) rfl)) (hw _ (List.mem_of_getElem? (i := 3) rfl)) (hw _ (List.mem_of_getElem? (i := 4) rfl)) e0 (g := (mkF m 29 #[.val (.int p0), .val (.int p1), .val (.int p2), .val (.int p3), .val (.int p4), .val (.int p5), .val (.long (1024 : Int64)), .second, .val (.long (Int64.ofNat nb)), .second, .val (.long (Int64.ofNat na)), .second, .unset, .unset, .unset, .unset, .unset, .unset, .unset, .unset, .unset] [])) rfl (hb hby at_29) (by decide) (by decide)
  obtain ⟨b44, g44⟩ : ∃ z, z = h0.size := ⟨_, rfl⟩
  rw [← g44] at A44 D44 st44
  have g45 : n0 ≤ b44 := Nat.le_trans Z0 (Nat.le_of_eq g44.symm)
  have Zn46 := Nat.le_trans Z0 E44.1
  have f47 : Fld Z h44 b44 "com/example/reshelve/reshelve/TargetBlocks" "read" "D" (.double (0 : UInt64)) := D44 (Or.inr (hw _ (List.mem_of_getElem? (i := 17) rfl))) (ty := .double) (by decide)
  have f48 : Fld Z h44 b44 "com/example/reshelve/reshelve/TargetBlocks" "foundAlone" "D" (.double (0 : UInt64)) := D44 (Or.inr (hw _ (List.mem_of_getElem? (i := 19) rfl))) (ty := .double) (by decide)
  have f49 : Fld Z h44 b44 "com/example/reshelve/reshelve/TargetBlocks" "afresh" "D" (.double (0 : UInt64)) := D44 (Or.inr (hw _ (List.mem_of_getElem? (i := 21) rfl))) (ty := .double) (by decide)
  have f50 : Fld Z h44 b44 "com/example/reshelve/reshelve/TargetBlocks" "afreshFoundAlone" "D" (.double (0 : UInt64)) := D44 (Or.inr (hw _ (List.mem_of_getElem? (i := 23) rfl))) (ty := .double) (by decide)
  obtain ⟨_, _, ⟨T51, L51, k51, n51⟩, -, X51, ⟨Lc51, hQ51, l51, y51, z51⟩, st51⟩ := X44.specialBack hx (y := (⟨"com/example/reshelve/reshelve/TargetBlocks", "<init>", "(DDDD)V"⟩ : MethodName)) rfl hown (mvT hZ (hw _ (List.mem_of_getElem? (i := 5) rfl))) (mvT hZ (hw _ (List.mem_of_getElem? (i := 6) rfl))) (mvT hZ (hw _ (List.mem_of_getElem? (i := 7) rfl))) (by decide) (backOf (W := 1) (rm1 l Z a0 hw [] b44 (FP.i2d p0) (FP.i2d p1) (FP.i2d p2) (FP.i2d p3)  h44 n0 Zn46 A44 f47 f48 f49 f50 g45) hZ (hw _ (List.mem_of_getElem? (i := 7) rfl)) (hw _ (List.mem_of_getElem? (i := 4) rfl)) (by decide) (by decide)) (g := (mkF m 41 #[.val (.int p0), .val (.int p1), .val (.int p2), .val (.int p3), .val (.int p4), .val (.int p5), .val (.long (1024 : Int64)), .second, .val (.long (Int64.ofNat nb)), .second, .val (.long (Int64.ofNat na)), .second, .unset, .unset, .unset, .unset, .unset, .unset, .unset, .unset, .unset] [(.double (FP.i2d p3)), (.double (FP.i2d p2)), (.double (FP.i2d p1)), (.double (FP.i2d p0)), (.ref b44), (.ref b44)])) rfl (by rw [hml]; rfl) (Steps.refl _) (a := b44) (argsL := [(.double (FP.i2d p0)), (.double (FP.i2d p1)), (.double (FP.i2d p2)), (.double (FP.i2d p3))]) (rest := [(.ref b44)]) (lenOf pd__DDDD_V rfl) rfl (by show 2 * 0 + _ ≤ _; exact Nat.le_of_eq rfl) (hb hby at_41) (fun _ _ => ⟨rfl, e44, (by decide : 1 + 0 ≤ _), (by decide : 4 + 0 ≤ _)⟩)
  dsimp only [Pt.U, Pt.locs, Pt.cells, Pt.slots] at X51 l51 y51 z51 st51 hQ51
  subst l51 y51 z51
  obtain ⟨rfl, N51q, K51, Fd0_51, Fd1_51, Fd2_51, Fd3_51⟩ := hQ51
  have N52 := Fr.app N0 N51q
  have f53 := A44.keep K51
  have Zn54 := Nat.le_trans Zn46 K51.1
  have RB := own_frac hnb
  have RA := own_frac hna
  have RW := own_w7 RB RA (own_i2d p0) (own_i2d p1) (own_i2d p2) (own_i2d p3) (own_nat hnb) (own_nat hna) (own_b31_of p0) (own_b31_of p1) (own_b31_of p2) (own_b31_of p3)
  obtain ⟨cq55, kq55, q55a, q55b, q55c⟩ := isOf hZ rfl f53
  obtain ⟨_, _, ⟨T55, L55, k55, n55⟩, -, X55, ⟨Lc55, hQ55, l55, y55, z55⟩, st55⟩ := X51.virtualBack hx (y := (⟨"com/example/reshelve/reshelve/TargetBlocks", "weighed", "(DD)D"⟩ : MethodName)) (z := (⟨"com/example/reshelve/reshelve/TargetBlocks", "weighed", "(DD)D"⟩ : MethodName)) hown (mvT hZ (hw _ (List.mem_of_getElem? (i := 25) rfl))) (mvT hZ (hw _ (List.mem_of_getElem? (i := 26) rfl))) (notFace_of_selects (args := #[]) (mvT hZ (hw _ (List.mem_of_getElem? (i := 28) rfl)))) (mvT hZ (hw _ (List.mem_of_getElem? (i := 28) rfl))) (mvT hZ (hw _ (List.mem_of_getElem? (i := 27) rfl))) (by decide) (backOf (W := 0) (rm4 l Z a0 hw [] b44 (FP.ddiv (FP.l2d (Int64.ofNat nb)) (4652218415073722368 : UInt64)) (FP.ddiv (FP.l2d (Int64.ofNat na)) (4652218415073722368 : UInt64)) (FP.i2d p0) (FP.i2d p1) (FP.i2d p2) (FP.i2d p3) nb na p0.toInt p1.toInt p2.toInt p3.toInt T51.heap n0 Zn54 Fd0_51 Fd1_51 Fd2_51 Fd3_51 RB RA (own_i2d p0) (own_i2d p1) (own_i2d p2) (own_i2d p3) (own_nat hnb) (own_nat hna) (own_b31_of p0) (own_b31_of p1) (own_b31_of p2) (own_b31_of p3)) hZ (hw _ (List.mem_of_getElem? (i := 29) rfl)) (hw _ (List.mem_of_getElem? (i := 4) rfl)) (by decide) (by decide)) q55a q55c (g := (mkF m 70 #[.val (.int p0), .val (.int p1), .val (.int p2), .val (.int p3), .val (.int p4), .val (.int p5), .val (.long (1024 : Int64)), .second, .val (.long (Int64.ofNat nb)), .second, .val (.long (Int64.ofNat na)), .second, .val (.ref b44), .val (.double (FP.ddiv (FP.l2d (Int64.ofNat nb)) (4652218415073722368 : UInt64))), .second, .val (.double (FP.ddiv (FP.l2d (Int64.ofNat na)) (4652218415073722368 : UInt64))), .second, .unset, .unset, .unset, .unset] [(.double (FP.ddiv (FP.l2d (Int64.ofNat na)) (4652218415073722368 : UInt64))), (.double (FP.ddiv (FP.l2d (Int64.ofNat nb)) (4652218415073722368 : UInt64))), (.ref b44)])) rfl (by rw [hml]; rfl) (Steps.refl _) (argsL := [(.double (FP.ddiv (FP.l2d (Int64.ofNat nb)) (4652218415073722368 : UInt64))), (.double (FP.ddiv (FP.l2d (Int64.ofNat na)) (4652218415073722368 : UInt64)))]) (rest := []) (lenOf pd__DD_D rfl) rfl (by show 2 * 0 + _ ≤ _; exact Nat.le_of_eq rfl) (hb hby at_70) (fun _ _ => ⟨rfl, rfl, (by decide : 1 + 0 ≤ _), (by decide : 4 + 0 ≤ _)⟩)
  dsimp only [Pt.U, Pt.locs, Pt.cells, Pt.slots] at X55 l55 y55 z55 st55 hQ55
  subst l55 y55 z55
  obtain ⟨rfl, N55q, e55⟩ := hQ55
  have N56 := Fr.app N52 N55q
  have hREF : ((((((Int64.ofNat nb) * ((1024 : Int64) - (Int64.ofNat na))) * p0.toInt64) + ((((1024 : Int64) - (Int64.ofNat nb)) * ((1024 : Int64) - (Int64.ofNat na))) * p2.toInt64)) + (((Int64.ofNat nb) * (Int64.ofNat na)) * p1.toInt64)) + ((((1024 : Int64) - (Int64.ofNat nb)) * (Int64.ofNat na)) * p3.toInt64)).toInt = own_ref nb na p0.toInt p1.toInt p2.toInt p3.toInt := own_long hnb hna p0 p1 p2 p3
  have RL : own_rep (FP.l2d ((((((Int64.ofNat nb) * ((1024 : Int64) - (Int64.ofNat na))) * p0.toInt64) + ((((1024 : Int64) - (Int64.ofNat nb)) * ((1024 : Int64) - (Int64.ofNat na))) * p2.toInt64)) + (((Int64.ofNat nb) * (Int64.ofNat na)) * p1.toInt64)) + ((((1024 : Int64) - (Int64.ofNat nb)) * (Int64.ofNat na)) * p3.toInt64))) (own_ref nb na p0.toInt p1.toInt p2.toInt p3.toInt) 0 := hREF ▸ own_l2d ((((((Int64.ofNat nb) * ((1024 : Int64) - (Int64.ofNat na))) * p0.toInt64) + ((((1024 : Int64) - (Int64.ofNat nb)) * ((1024 : Int64) - (Int64.ofNat na))) * p2.toInt64)) + (((Int64.ofNat nb) * (Int64.ofNat na)) * p1.toInt64)) + ((((1024 : Int64) - (Int64.ofNat nb)) * (Int64.ofNat na)) * p3.toInt64)) (hREF ▸ own_ref_lt (own_nat hnb) (own_nat hna) (own_b31_of p0) (own_b31_of p1) (own_b31_of p2) (own_b31_of p3))
  have RS := own_scale RW (own_ref_lt (own_nat hnb) (own_nat hna) (own_b31_of p0) (own_b31_of p1) (own_b31_of p2) (own_b31_of p3))
  obtain ⟨fs, hr, hrun, hended, hW, hsame⟩ := X55.leave (v := some (.int (1 : Int32))) (fun h => by rw [Bd.returns] at h; cases h)
  refine ⟨_, _, pre0 _ ?_, hrun, hended, _, _, rfl, ?_, ⟨_, rfl⟩, hW, hsame.mono (by decide) (by decide)⟩
  · show Steps p.tables e below (s₁.setTop (mkF m 0 #[.val (.int p0), .val (.int p1), .val (.int p2), .val (.int p3), .val (.int p4), .val (.int p5), .unset, .unset, .unset, .unset, .unset, .unset, .unset, .unset, .unset, .unset, .unset, .unset, .unset, .unset, .unset] [])) _
    refine X0.ldc2Long hx hown (mvT hZ (hw _ (List.mem_of_getElem? (i := 0) rfl))) (g := (mkF m 0 #[.val (.int p0), .val (.int p1), .val (.int p2), .val (.int p3), .val (.int p4), .val (.int p5), .unset, .unset, .unset, .unset, .unset, .unset, .unset, .unset, .unset, .unset, .unset, .unset, .unset, .unset, .unset] [])) rfl (hb hby at_0) _ ?_
    show Steps p.tables e below (s₁.setTop (mkF m 3 #[.val (.int p0), .val (.int p1), .val (.int p2), .val (.int p3), .val (.int p4), .val (.int p5), .unset, .unset, .unset, .unset, .unset, .unset, .unset, .unset, .unset, .unset, .unset, .unset, .unset, .unset, .unset] [(.long (1024 : Int64))])) _
    refine XS.lstore X0.here hx rfl (hb hby at_3) rfl (l' := #[.val (.int p0), .val (.int p1), .val (.int p2), .val (.int p3), .val (.int p4), .val (.int p5), .val (.long (1024 : Int64)), .second, .unset, .unset, .unset, .unset, .unset, .unset, .unset, .unset, .unset, .unset, .unset, .unset, .unset]) rfl ?_
    show Steps p.tables e below (s₁.setTop (mkF m 5 #[.val (.int p0), .val (.int p1), .val (.int p2), .val (.int p3), .val (.int p4), .val (.int p5), .val (.long (1024 : Int64)), .second, .unset, .unset, .unset, .unset, .unset, .unset, .unset, .unset, .unset, .unset, .unset, .unset, .unset] [])) _
    refine XS.iload X0.here hx rfl (hb hby at_5) rfl ?_
    show Steps p.tables e below (s₁.setTop (mkF m 7 #[.val (.int p0), .val (.int p1), .val (.int p2), .val (.int p3), .val (.int p4), .val (.int p5), .val (.long (1024 : Int64)), .second, .unset, .unset, .unset, .unset, .unset, .unset, .unset, .unset, .unset, .unset, .unset, .unset, .unset] [(.int p4)])) _
    refine X0.ldcInt hx hown (mvT hZ (hw _ (List.mem_of_getElem? (i := 1) rfl))) (g := (mkF m 7 #[.val (.int p0), .val (.int p1), .val (.int p2), .val (.int p3), .val (.int p4), .val (.int p5), .val (.long (1024 : Int64)), .second, .unset, .unset, .unset, .unset, .unset, .unset, .unset, .unset, .unset, .unset, .unset, .unset, .unset] [(.int p4)])) rfl (hb hby at_7) _ ?_
    show Steps p.tables e below (s₁.setTop (mkF m 9 #[.val (.int p0), .val (.int p1), .val (.int p2), .val (.int p3), .val (.int p4), .val (.int p5), .val (.long (1024 : Int64)), .second, .unset, .unset, .unset, .unset, .unset, .unset, .unset, .unset, .unset, .unset, .unset, .unset, .unset] [(.int (2147483647 : Int32)), (.int p4)])) _
    refine XS.iand X0.here hx rfl (hb hby at_9) rfl ?_
    show Steps p.tables e below (s₁.setTop (mkF m 10 #[.val (.int p0), .val (.int p1), .val (.int p2), .val (.int p3), .val (.int p4), .val (.int p5), .val (.long (1024 : Int64)), .second, .unset, .unset, .unset, .unset, .unset, .unset, .unset, .unset, .unset, .unset, .unset, .unset, .unset] [(.int (p4 &&& (2147483647 : Int32)))])) _
    refine XS.sipush X0.here hx rfl (hb hby at_10) ?_
    show Steps p.tables e below (s₁.setTop (mkF m 13 #[.val (.int p0), .val (.int p1), .val (.int p2), .val (.int p3), .val (.int p4), .val (.int p5), .val (.long (1024 : Int64)), .second, .unset, .unset, .unset, .unset, .unset, .unset, .unset, .unset, .unset, .unset, .unset, .unset, .unset] [(.int (1025 : Int32)), (.int (p4 &&& (2147483647 : Int32)))])) _
    refine XS.irem X0.here hx rfl (hb hby at_13) rfl (by decide) ?_
    show Steps p.tables e below (s₁.setTop (mkF m 14 #[.val (.int p0), .val (.int p1), .val (.int p2), .val (.int p3), .val (.int p4), .val (.int p5), .val (.long (1024 : Int64)), .second, .unset, .unset, .unset, .unset, .unset, .unset, .unset, .unset, .unset, .unset, .unset, .unset, .unset] [(.int ((p4 &&& (2147483647 : Int32)) - (p4 &&& (2147483647 : Int32)) / (1025 : Int32) * (1025 : Int32)))])) _
    rw [enb]
    show Steps p.tables e below (s₁.setTop (mkF m 14 #[.val (.int p0), .val (.int p1), .val (.int p2), .val (.int p3), .val (.int p4), .val (.int p5), .val (.long (1024 : Int64)), .second, .unset, .unset, .unset, .unset, .unset, .unset, .unset, .unset, .unset, .unset, .unset, .unset, .unset] [(.int (Int32.ofNat nb))])) _
    refine XS.i2l X0.here hx rfl (hb hby at_14) rfl ?_
    show Steps p.tables e below (s₁.setTop (mkF m 15 #[.val (.int p0), .val (.int p1), .val (.int p2), .val (.int p3), .val (.int p4), .val (.int p5), .val (.long (1024 : Int64)), .second, .unset, .unset, .unset, .unset, .unset, .unset, .unset, .unset, .unset, .unset, .unset, .unset, .unset] [(.long (Int32.ofNat nb).toInt64)])) _
    rw [fnb]
    show Steps p.tables e below (s₁.setTop (mkF m 15 #[.val (.int p0), .val (.int p1), .val (.int p2), .val (.int p3), .val (.int p4), .val (.int p5), .val (.long (1024 : Int64)), .second, .unset, .unset, .unset, .unset, .unset, .unset, .unset, .unset, .unset, .unset, .unset, .unset, .unset] [(.long (Int64.ofNat nb))])) _
    refine XS.lstore X0.here hx rfl (hb hby at_15) rfl (l' := #[.val (.int p0), .val (.int p1), .val (.int p2), .val (.int p3), .val (.int p4), .val (.int p5), .val (.long (1024 : Int64)), .second, .val (.long (Int64.ofNat nb)), .second, .unset, .unset, .unset, .unset, .unset, .unset, .unset, .unset, .unset, .unset, .unset]) rfl ?_
    show Steps p.tables e below (s₁.setTop (mkF m 17 #[.val (.int p0), .val (.int p1), .val (.int p2), .val (.int p3), .val (.int p4), .val (.int p5), .val (.long (1024 : Int64)), .second, .val (.long (Int64.ofNat nb)), .second, .unset, .unset, .unset, .unset, .unset, .unset, .unset, .unset, .unset, .unset, .unset] [])) _
    refine XS.iload X0.here hx rfl (hb hby at_17) rfl ?_
    show Steps p.tables e below (s₁.setTop (mkF m 19 #[.val (.int p0), .val (.int p1), .val (.int p2), .val (.int p3), .val (.int p4), .val (.int p5), .val (.long (1024 : Int64)), .second, .val (.long (Int64.ofNat nb)), .second, .unset, .unset, .unset, .unset, .unset, .unset, .unset, .unset, .unset, .unset, .unset] [(.int p5)])) _
    refine X0.ldcInt hx hown (mvT hZ (hw _ (List.mem_of_getElem? (i := 1) rfl))) (g := (mkF m 19 #[.val (.int p0), .val (.int p1), .val (.int p2), .val (.int p3), .val (.int p4), .val (.int p5), .val (.long (1024 : Int64)), .second, .val (.long (Int64.ofNat nb)), .second, .unset, .unset, .unset, .unset, .unset, .unset, .unset, .unset, .unset, .unset, .unset] [(.int p5)])) rfl (hb hby at_19) _ ?_
    show Steps p.tables e below (s₁.setTop (mkF m 21 #[.val (.int p0), .val (.int p1), .val (.int p2), .val (.int p3), .val (.int p4), .val (.int p5), .val (.long (1024 : Int64)), .second, .val (.long (Int64.ofNat nb)), .second, .unset, .unset, .unset, .unset, .unset, .unset, .unset, .unset, .unset, .unset, .unset] [(.int (2147483647 : Int32)), (.int p5)])) _
    refine XS.iand X0.here hx rfl (hb hby at_21) rfl ?_
    show Steps p.tables e below (s₁.setTop (mkF m 22 #[.val (.int p0), .val (.int p1), .val (.int p2), .val (.int p3), .val (.int p4), .val (.int p5), .val (.long (1024 : Int64)), .second, .val (.long (Int64.ofNat nb)), .second, .unset, .unset, .unset, .unset, .unset, .unset, .unset, .unset, .unset, .unset, .unset] [(.int (p5 &&& (2147483647 : Int32)))])) _
    refine XS.sipush X0.here hx rfl (hb hby at_22) ?_
    show Steps p.tables e below (s₁.setTop (mkF m 25 #[.val (.int p0), .val (.int p1), .val (.int p2), .val (.int p3), .val (.int p4), .val (.int p5), .val (.long (1024 : Int64)), .second, .val (.long (Int64.ofNat nb)), .second, .unset, .unset, .unset, .unset, .unset, .unset, .unset, .unset, .unset, .unset, .unset] [(.int (1025 : Int32)), (.int (p5 &&& (2147483647 : Int32)))])) _
    refine XS.irem X0.here hx rfl (hb hby at_25) rfl (by decide) ?_
    show Steps p.tables e below (s₁.setTop (mkF m 26 #[.val (.int p0), .val (.int p1), .val (.int p2), .val (.int p3), .val (.int p4), .val (.int p5), .val (.long (1024 : Int64)), .second, .val (.long (Int64.ofNat nb)), .second, .unset, .unset, .unset, .unset, .unset, .unset, .unset, .unset, .unset, .unset, .unset] [(.int ((p5 &&& (2147483647 : Int32)) - (p5 &&& (2147483647 : Int32)) / (1025 : Int32) * (1025 : Int32)))])) _
    rw [ena]
    show Steps p.tables e below (s₁.setTop (mkF m 26 #[.val (.int p0), .val (.int p1), .val (.int p2), .val (.int p3), .val (.int p4), .val (.int p5), .val (.long (1024 : Int64)), .second, .val (.long (Int64.ofNat nb)), .second, .unset, .unset, .unset, .unset, .unset, .unset, .unset, .unset, .unset, .unset, .unset] [(.int (Int32.ofNat na))])) _
    refine XS.i2l X0.here hx rfl (hb hby at_26) rfl ?_
    show Steps p.tables e below (s₁.setTop (mkF m 27 #[.val (.int p0), .val (.int p1), .val (.int p2), .val (.int p3), .val (.int p4), .val (.int p5), .val (.long (1024 : Int64)), .second, .val (.long (Int64.ofNat nb)), .second, .unset, .unset, .unset, .unset, .unset, .unset, .unset, .unset, .unset, .unset, .unset] [(.long (Int32.ofNat na).toInt64)])) _
    rw [fna]
    show Steps p.tables e below (s₁.setTop (mkF m 27 #[.val (.int p0), .val (.int p1), .val (.int p2), .val (.int p3), .val (.int p4), .val (.int p5), .val (.long (1024 : Int64)), .second, .val (.long (Int64.ofNat nb)), .second, .unset, .unset, .unset, .unset, .unset, .unset, .unset, .unset, .unset, .unset, .unset] [(.long (Int64.ofNat na))])) _
    refine XS.lstore X0.here hx rfl (hb hby at_27) rfl (l' := #[.val (.int p0), .val (.int p1), .val (.int p2), .val (.int p3), .val (.int p4), .val (.int p5), .val (.long (1024 : Int64)), .second, .val (.long (Int64.ofNat nb)), .second, .val (.long (Int64.ofNat na)), .second, .unset, .unset, .unset, .unset, .unset, .unset, .unset, .unset, .unset]) rfl ?_
    show Steps p.tables e below (s₁.setTop (mkF m 29 #[.val (.int p0), .val (.int p1), .val (.int p2), .val (.int p3), .val (.int p4), .val (.int p5), .val (.long (1024 : Int64)), .second, .val (.long (Int64.ofNat nb)), .second, .val (.long (Int64.ofNat na)), .second, .unset, .unset, .unset, .unset, .unset, .unset, .unset, .unset, .unset] [])) _
    refine st44 _ ?_
    show Steps p.tables e below (T44.setTop (mkF m 32 #[.val (.int p0), .val (.int p1), .val (.int p2), .val (.int p3), .val (.int p4), .val (.int p5), .val (.long (1024 : Int64)), .second, .val (.long (Int64.ofNat nb)), .second, .val (.long (Int64.ofNat na)), .second, .unset, .unset, .unset, .unset, .unset, .unset, .unset, .unset, .unset] [(.ref b44)])) _
    refine XS.dup X44.here hx rfl (hb hby at_32) rfl rfl ?_
    show Steps p.tables e below (T44.setTop (mkF m 33 #[.val (.int p0), .val (.int p1), .val (.int p2), .val (.int p3), .val (.int p4), .val (.int p5), .val (.long (1024 : Int64)), .second, .val (.long (Int64.ofNat nb)), .second, .val (.long (Int64.ofNat na)), .second, .unset, .unset, .unset, .unset, .unset, .unset, .unset, .unset, .unset] [(.ref b44), (.ref b44)])) _
    refine XS.iloadN X44.here hx rfl (hb hby at_33) rfl ?_
    show Steps p.tables e below (T44.setTop (mkF m 34 #[.val (.int p0), .val (.int p1), .val (.int p2), .val (.int p3), .val (.int p4), .val (.int p5), .val (.long (1024 : Int64)), .second, .val (.long (Int64.ofNat nb)), .second, .val (.long (Int64.ofNat na)), .second, .unset, .unset, .unset, .unset, .unset, .unset, .unset, .unset, .unset] [(.int p0), (.ref b44), (.ref b44)])) _
    refine own_si2d X44.here hx (hb hby at_34) ?_
    show Steps p.tables e below (T44.setTop (mkF m 35 #[.val (.int p0), .val (.int p1), .val (.int p2), .val (.int p3), .val (.int p4), .val (.int p5), .val (.long (1024 : Int64)), .second, .val (.long (Int64.ofNat nb)), .second, .val (.long (Int64.ofNat na)), .second, .unset, .unset, .unset, .unset, .unset, .unset, .unset, .unset, .unset] [(.double (FP.i2d p0)), (.ref b44), (.ref b44)])) _
    refine XS.iloadN X44.here hx rfl (hb hby at_35) rfl ?_
    show Steps p.tables e below (T44.setTop (mkF m 36 #[.val (.int p0), .val (.int p1), .val (.int p2), .val (.int p3), .val (.int p4), .val (.int p5), .val (.long (1024 : Int64)), .second, .val (.long (Int64.ofNat nb)), .second, .val (.long (Int64.ofNat na)), .second, .unset, .unset, .unset, .unset, .unset, .unset, .unset, .unset, .unset] [(.int p1), (.double (FP.i2d p0)), (.ref b44), (.ref b44)])) _
    refine own_si2d X44.here hx (hb hby at_36) ?_
    show Steps p.tables e below (T44.setTop (mkF m 37 #[.val (.int p0), .val (.int p1), .val (.int p2), .val (.int p3), .val (.int p4), .val (.int p5), .val (.long (1024 : Int64)), .second, .val (.long (Int64.ofNat nb)), .second, .val (.long (Int64.ofNat na)), .second, .unset, .unset, .unset, .unset, .unset, .unset, .unset, .unset, .unset] [(.double (FP.i2d p1)), (.double (FP.i2d p0)), (.ref b44), (.ref b44)])) _
    refine XS.iloadN X44.here hx rfl (hb hby at_37) rfl ?_
    show Steps p.tables e below (T44.setTop (mkF m 38 #[.val (.int p0), .val (.int p1), .val (.int p2), .val (.int p3), .val (.int p4), .val (.int p5), .val (.long (1024 : Int64)), .second, .val (.long (Int64.ofNat nb)), .second, .val (.long (Int64.ofNat na)), .second, .unset, .unset, .unset, .unset, .unset, .unset, .unset, .unset, .unset] [(.int p2), (.double (FP.i2d p1)), (.double (FP.i2d p0)), (.ref b44), (.ref b44)])) _
    refine own_si2d X44.here hx (hb hby at_38) ?_
    show Steps p.tables e below (T44.setTop (mkF m 39 #[.val (.int p0), .val (.int p1), .val (.int p2), .val (.int p3), .val (.int p4), .val (.int p5), .val (.long (1024 : Int64)), .second, .val (.long (Int64.ofNat nb)), .second, .val (.long (Int64.ofNat na)), .second, .unset, .unset, .unset, .unset, .unset, .unset, .unset, .unset, .unset] [(.double (FP.i2d p2)), (.double (FP.i2d p1)), (.double (FP.i2d p0)), (.ref b44), (.ref b44)])) _
    refine XS.iloadN X44.here hx rfl (hb hby at_39) rfl ?_
    show Steps p.tables e below (T44.setTop (mkF m 40 #[.val (.int p0), .val (.int p1), .val (.int p2), .val (.int p3), .val (.int p4), .val (.int p5), .val (.long (1024 : Int64)), .second, .val (.long (Int64.ofNat nb)), .second, .val (.long (Int64.ofNat na)), .second, .unset, .unset, .unset, .unset, .unset, .unset, .unset, .unset, .unset] [(.int p3), (.double (FP.i2d p2)), (.double (FP.i2d p1)), (.double (FP.i2d p0)), (.ref b44), (.ref b44)])) _
    refine own_si2d X44.here hx (hb hby at_40) ?_
    show Steps p.tables e below (T44.setTop (mkF m 41 #[.val (.int p0), .val (.int p1), .val (.int p2), .val (.int p3), .val (.int p4), .val (.int p5), .val (.long (1024 : Int64)), .second, .val (.long (Int64.ofNat nb)), .second, .val (.long (Int64.ofNat na)), .second, .unset, .unset, .unset, .unset, .unset, .unset, .unset, .unset, .unset] [(.double (FP.i2d p3)), (.double (FP.i2d p2)), (.double (FP.i2d p1)), (.double (FP.i2d p0)), (.ref b44), (.ref b44)])) _
    refine st51.trans ?_
    show Steps p.tables e below (T51.setTop (mkF m 44 #[.val (.int p0), .val (.int p1), .val (.int p2), .val (.int p3), .val (.int p4), .val (.int p5), .val (.long (1024 : Int64)), .second, .val (.long (Int64.ofNat nb)), .second, .val (.long (Int64.ofNat na)), .second, .unset, .unset, .unset, .unset, .unset, .unset, .unset, .unset, .unset] [(.ref b44)])) _
    refine XS.astore X51.here hx rfl (hb hby at_44) rfl rfl (l' := #[.val (.int p0), .val (.int p1), .val (.int p2), .val (.int p3), .val (.int p4), .val (.int p5), .val (.long (1024 : Int64)), .second, .val (.long (Int64.ofNat nb)), .second, .val (.long (Int64.ofNat na)), .second, .val (.ref b44), .unset, .unset, .unset, .unset, .unset, .unset, .unset, .unset]) rfl ?_
    show Steps p.tables e below (T51.setTop (mkF m 46 #[.val (.int p0), .val (.int p1), .val (.int p2), .val (.int p3), .val (.int p4), .val (.int p5), .val (.long (1024 : Int64)), .second, .val (.long (Int64.ofNat nb)), .second, .val (.long (Int64.ofNat na)), .second, .val (.ref b44), .unset, .unset, .unset, .unset, .unset, .unset, .unset, .unset] [])) _
    refine XS.lload X51.here hx rfl (hb hby at_46) rfl ?_
    show Steps p.tables e below (T51.setTop (mkF m 48 #[.val (.int p0), .val (.int p1), .val (.int p2), .val (.int p3), .val (.int p4), .val (.int p5), .val (.long (1024 : Int64)), .second, .val (.long (Int64.ofNat nb)), .second, .val (.long (Int64.ofNat na)), .second, .val (.ref b44), .unset, .unset, .unset, .unset, .unset, .unset, .unset, .unset] [(.long (Int64.ofNat nb))])) _
    refine own_sl2d X51.here hx (hb hby at_48) ?_
    show Steps p.tables e below (T51.setTop (mkF m 49 #[.val (.int p0), .val (.int p1), .val (.int p2), .val (.int p3), .val (.int p4), .val (.int p5), .val (.long (1024 : Int64)), .second, .val (.long (Int64.ofNat nb)), .second, .val (.long (Int64.ofNat na)), .second, .val (.ref b44), .unset, .unset, .unset, .unset, .unset, .unset, .unset, .unset] [(.double (FP.l2d (Int64.ofNat nb)))])) _
    refine X51.ldc2DoubleC hx hown (mvT hZ (hw _ (List.mem_of_getElem? (i := 24) rfl))) (g := (mkF m 49 #[.val (.int p0), .val (.int p1), .val (.int p2), .val (.int p3), .val (.int p4), .val (.int p5), .val (.long (1024 : Int64)), .second, .val (.long (Int64.ofNat nb)), .second, .val (.long (Int64.ofNat na)), .second, .val (.ref b44), .unset, .unset, .unset, .unset, .unset, .unset, .unset, .unset] [(.double (FP.l2d (Int64.ofNat nb)))])) rfl (hb hby at_49) _ ?_
    show Steps p.tables e below (T51.setTop (mkF m 52 #[.val (.int p0), .val (.int p1), .val (.int p2), .val (.int p3), .val (.int p4), .val (.int p5), .val (.long (1024 : Int64)), .second, .val (.long (Int64.ofNat nb)), .second, .val (.long (Int64.ofNat na)), .second, .val (.ref b44), .unset, .unset, .unset, .unset, .unset, .unset, .unset, .unset] [(.double (4652218415073722368 : UInt64)), (.double (FP.l2d (Int64.ofNat nb)))])) _
    refine own_sdiv X51.here hx (hb hby at_52) (Jvm.Free.Fl.val64_no.mpr (own_rep.no RB)) ?_
    show Steps p.tables e below (T51.setTop (mkF m 53 #[.val (.int p0), .val (.int p1), .val (.int p2), .val (.int p3), .val (.int p4), .val (.int p5), .val (.long (1024 : Int64)), .second, .val (.long (Int64.ofNat nb)), .second, .val (.long (Int64.ofNat na)), .second, .val (.ref b44), .unset, .unset, .unset, .unset, .unset, .unset, .unset, .unset] [(.double (FP.ddiv (FP.l2d (Int64.ofNat nb)) (4652218415073722368 : UInt64)))])) _
    refine own_sstore X51.here hx (l' := #[.val (.int p0), .val (.int p1), .val (.int p2), .val (.int p3), .val (.int p4), .val (.int p5), .val (.long (1024 : Int64)), .second, .val (.long (Int64.ofNat nb)), .second, .val (.long (Int64.ofNat na)), .second, .val (.ref b44), .val (.double (FP.ddiv (FP.l2d (Int64.ofNat nb)) (4652218415073722368 : UInt64))), .second, .unset, .unset, .unset, .unset, .unset, .unset]) (hb hby at_53) rfl ?_
    show Steps p.tables e below (T51.setTop (mkF m 55 #[.val (.int p0), .val (.int p1), .val (.int p2), .val (.int p3), .val (.int p4), .val (.int p5), .val (.long (1024 : Int64)), .second, .val (.long (Int64.ofNat nb)), .second, .val (.long (Int64.ofNat na)), .second, .val (.ref b44), .val (.double (FP.ddiv (FP.l2d (Int64.ofNat nb)) (4652218415073722368 : UInt64))), .second, .unset, .unset, .unset, .unset, .unset, .unset] [])) _
    refine XS.lload X51.here hx rfl (hb hby at_55) rfl ?_
    show Steps p.tables e below (T51.setTop (mkF m 57 #[.val (.int p0), .val (.int p1), .val (.int p2), .val (.int p3), .val (.int p4), .val (.int p5), .val (.long (1024 : Int64)), .second, .val (.long (Int64.ofNat nb)), .second, .val (.long (Int64.ofNat na)), .second, .val (.ref b44), .val (.double (FP.ddiv (FP.l2d (Int64.ofNat nb)) (4652218415073722368 : UInt64))), .second, .unset, .unset, .unset, .unset, .unset, .unset] [(.long (Int64.ofNat na))])) _
    refine own_sl2d X51.here hx (hb hby at_57) ?_
    show Steps p.tables e below (T51.setTop (mkF m 58 #[.val (.int p0), .val (.int p1), .val (.int p2), .val (.int p3), .val (.int p4), .val (.int p5), .val (.long (1024 : Int64)), .second, .val (.long (Int64.ofNat nb)), .second, .val (.long (Int64.ofNat na)), .second, .val (.ref b44), .val (.double (FP.ddiv (FP.l2d (Int64.ofNat nb)) (4652218415073722368 : UInt64))), .second, .unset, .unset, .unset, .unset, .unset, .unset] [(.double (FP.l2d (Int64.ofNat na)))])) _
    refine X51.ldc2DoubleC hx hown (mvT hZ (hw _ (List.mem_of_getElem? (i := 24) rfl))) (g := (mkF m 58 #[.val (.int p0), .val (.int p1), .val (.int p2), .val (.int p3), .val (.int p4), .val (.int p5), .val (.long (1024 : Int64)), .second, .val (.long (Int64.ofNat nb)), .second, .val (.long (Int64.ofNat na)), .second, .val (.ref b44), .val (.double (FP.ddiv (FP.l2d (Int64.ofNat nb)) (4652218415073722368 : UInt64))), .second, .unset, .unset, .unset, .unset, .unset, .unset] [(.double (FP.l2d (Int64.ofNat na)))])) rfl (hb hby at_58) _ ?_
    show Steps p.tables e below (T51.setTop (mkF m 61 #[.val (.int p0), .val (.int p1), .val (.int p2), .val (.int p3), .val (.int p4), .val (.int p5), .val (.long (1024 : Int64)), .second, .val (.long (Int64.ofNat nb)), .second, .val (.long (Int64.ofNat na)), .second, .val (.ref b44), .val (.double (FP.ddiv (FP.l2d (Int64.ofNat nb)) (4652218415073722368 : UInt64))), .second, .unset, .unset, .unset, .unset, .unset, .unset] [(.double (4652218415073722368 : UInt64)), (.double (FP.l2d (Int64.ofNat na)))])) _
    refine own_sdiv X51.here hx (hb hby at_61) (Jvm.Free.Fl.val64_no.mpr (own_rep.no RA)) ?_
    show Steps p.tables e below (T51.setTop (mkF m 62 #[.val (.int p0), .val (.int p1), .val (.int p2), .val (.int p3), .val (.int p4), .val (.int p5), .val (.long (1024 : Int64)), .second, .val (.long (Int64.ofNat nb)), .second, .val (.long (Int64.ofNat na)), .second, .val (.ref b44), .val (.double (FP.ddiv (FP.l2d (Int64.ofNat nb)) (4652218415073722368 : UInt64))), .second, .unset, .unset, .unset, .unset, .unset, .unset] [(.double (FP.ddiv (FP.l2d (Int64.ofNat na)) (4652218415073722368 : UInt64)))])) _
    refine own_sstore X51.here hx (l' := #[.val (.int p0), .val (.int p1), .val (.int p2), .val (.int p3), .val (.int p4), .val (.int p5), .val (.long (1024 : Int64)), .second, .val (.long (Int64.ofNat nb)), .second, .val (.long (Int64.ofNat na)), .second, .val (.ref b44), .val (.double (FP.ddiv (FP.l2d (Int64.ofNat nb)) (4652218415073722368 : UInt64))), .second, .val (.double (FP.ddiv (FP.l2d (Int64.ofNat na)) (4652218415073722368 : UInt64))), .second, .unset, .unset, .unset, .unset]) (hb hby at_62) rfl ?_
    show Steps p.tables e below (T51.setTop (mkF m 64 #[.val (.int p0), .val (.int p1), .val (.int p2), .val (.int p3), .val (.int p4), .val (.int p5), .val (.long (1024 : Int64)), .second, .val (.long (Int64.ofNat nb)), .second, .val (.long (Int64.ofNat na)), .second, .val (.ref b44), .val (.double (FP.ddiv (FP.l2d (Int64.ofNat nb)) (4652218415073722368 : UInt64))), .second, .val (.double (FP.ddiv (FP.l2d (Int64.ofNat na)) (4652218415073722368 : UInt64))), .second, .unset, .unset, .unset, .unset] [])) _
    refine XS.aload X51.here hx rfl (hb hby at_64) rfl rfl ?_
    show Steps p.tables e below (T51.setTop (mkF m 66 #[.val (.int p0), .val (.int p1), .val (.int p2), .val (.int p3), .val (.int p4), .val (.int p5), .val (.long (1024 : Int64)), .second, .val (.long (Int64.ofNat nb)), .second, .val (.long (Int64.ofNat na)), .second, .val (.ref b44), .val (.double (FP.ddiv (FP.l2d (Int64.ofNat nb)) (4652218415073722368 : UInt64))), .second, .val (.double (FP.ddiv (FP.l2d (Int64.ofNat na)) (4652218415073722368 : UInt64))), .second, .unset, .unset, .unset, .unset] [(.ref b44)])) _
    refine own_sload X51.here hx (hb hby at_66) rfl ?_
    show Steps p.tables e below (T51.setTop (mkF m 68 #[.val (.int p0), .val (.int p1), .val (.int p2), .val (.int p3), .val (.int p4), .val (.int p5), .val (.long (1024 : Int64)), .second, .val (.long (Int64.ofNat nb)), .second, .val (.long (Int64.ofNat na)), .second, .val (.ref b44), .val (.double (FP.ddiv (FP.l2d (Int64.ofNat nb)) (4652218415073722368 : UInt64))), .second, .val (.double (FP.ddiv (FP.l2d (Int64.ofNat na)) (4652218415073722368 : UInt64))), .second, .unset, .unset, .unset, .unset] [(.double (FP.ddiv (FP.l2d (Int64.ofNat nb)) (4652218415073722368 : UInt64))), (.ref b44)])) _
    refine own_sload X51.here hx (hb hby at_68) rfl ?_
    show Steps p.tables e below (T51.setTop (mkF m 70 #[.val (.int p0), .val (.int p1), .val (.int p2), .val (.int p3), .val (.int p4), .val (.int p5), .val (.long (1024 : Int64)), .second, .val (.long (Int64.ofNat nb)), .second, .val (.long (Int64.ofNat na)), .second, .val (.ref b44), .val (.double (FP.ddiv (FP.l2d (Int64.ofNat nb)) (4652218415073722368 : UInt64))), .second, .val (.double (FP.ddiv (FP.l2d (Int64.ofNat na)) (4652218415073722368 : UInt64))), .second, .unset, .unset, .unset, .unset] [(.double (FP.ddiv (FP.l2d (Int64.ofNat na)) (4652218415073722368 : UInt64))), (.double (FP.ddiv (FP.l2d (Int64.ofNat nb)) (4652218415073722368 : UInt64))), (.ref b44)])) _
    refine st55.trans ?_
    show Steps p.tables e below (T55.setTop (mkF m 73 #[.val (.int p0), .val (.int p1), .val (.int p2), .val (.int p3), .val (.int p4), .val (.int p5), .val (.long (1024 : Int64)), .second, .val (.long (Int64.ofNat nb)), .second, .val (.long (Int64.ofNat na)), .second, .val (.ref b44), .val (.double (FP.ddiv (FP.l2d (Int64.ofNat nb)) (4652218415073722368 : UInt64))), .second, .val (.double (FP.ddiv (FP.l2d (Int64.ofNat na)) (4652218415073722368 : UInt64))), .second, .unset, .unset, .unset, .unset] [(.double (own_weigh (FP.ddiv (FP.l2d (Int64.ofNat nb)) (4652218415073722368 : UInt64)) (FP.ddiv (FP.l2d (Int64.ofNat na)) (4652218415073722368 : UInt64)) (FP.i2d p0) (FP.i2d p1) (FP.i2d p2) (FP.i2d p3)))])) _
    refine own_sstore X55.here hx (l' := #[.val (.int p0), .val (.int p1), .val (.int p2), .val (.int p3), .val (.int p4), .val (.int p5), .val (.long (1024 : Int64)), .second, .val (.long (Int64.ofNat nb)), .second, .val (.long (Int64.ofNat na)), .second, .val (.ref b44), .val (.double (FP.ddiv (FP.l2d (Int64.ofNat nb)) (4652218415073722368 : UInt64))), .second, .val (.double (FP.ddiv (FP.l2d (Int64.ofNat na)) (4652218415073722368 : UInt64))), .second, .val (.double (own_weigh (FP.ddiv (FP.l2d (Int64.ofNat nb)) (4652218415073722368 : UInt64)) (FP.ddiv (FP.l2d (Int64.ofNat na)) (4652218415073722368 : UInt64)) (FP.i2d p0) (FP.i2d p1) (FP.i2d p2) (FP.i2d p3))), .second, .unset, .unset]) (hb hby at_73) rfl ?_
    show Steps p.tables e below (T55.setTop (mkF m 75 #[.val (.int p0), .val (.int p1), .val (.int p2), .val (.int p3), .val (.int p4), .val (.int p5), .val (.long (1024 : Int64)), .second, .val (.long (Int64.ofNat nb)), .second, .val (.long (Int64.ofNat na)), .second, .val (.ref b44), .val (.double (FP.ddiv (FP.l2d (Int64.ofNat nb)) (4652218415073722368 : UInt64))), .second, .val (.double (FP.ddiv (FP.l2d (Int64.ofNat na)) (4652218415073722368 : UInt64))), .second, .val (.double (own_weigh (FP.ddiv (FP.l2d (Int64.ofNat nb)) (4652218415073722368 : UInt64)) (FP.ddiv (FP.l2d (Int64.ofNat na)) (4652218415073722368 : UInt64)) (FP.i2d p0) (FP.i2d p1) (FP.i2d p2) (FP.i2d p3))), .second, .unset, .unset] [])) _
    refine XS.lload X55.here hx rfl (hb hby at_75) rfl ?_
    show Steps p.tables e below (T55.setTop (mkF m 77 #[.val (.int p0), .val (.int p1), .val (.int p2), .val (.int p3), .val (.int p4), .val (.int p5), .val (.long (1024 : Int64)), .second, .val (.long (Int64.ofNat nb)), .second, .val (.long (Int64.ofNat na)), .second, .val (.ref b44), .val (.double (FP.ddiv (FP.l2d (Int64.ofNat nb)) (4652218415073722368 : UInt64))), .second, .val (.double (FP.ddiv (FP.l2d (Int64.ofNat na)) (4652218415073722368 : UInt64))), .second, .val (.double (own_weigh (FP.ddiv (FP.l2d (Int64.ofNat nb)) (4652218415073722368 : UInt64)) (FP.ddiv (FP.l2d (Int64.ofNat na)) (4652218415073722368 : UInt64)) (FP.i2d p0) (FP.i2d p1) (FP.i2d p2) (FP.i2d p3))), .second, .unset, .unset] [(.long (Int64.ofNat nb))])) _
    refine XS.lload X55.here hx rfl (hb hby at_77) rfl ?_
    show Steps p.tables e below (T55.setTop (mkF m 79 #[.val (.int p0), .val (.int p1), .val (.int p2), .val (.int p3), .val (.int p4), .val (.int p5), .val (.long (1024 : Int64)), .second, .val (.long (Int64.ofNat nb)), .second, .val (.long (Int64.ofNat na)), .second, .val (.ref b44), .val (.double (FP.ddiv (FP.l2d (Int64.ofNat nb)) (4652218415073722368 : UInt64))), .second, .val (.double (FP.ddiv (FP.l2d (Int64.ofNat na)) (4652218415073722368 : UInt64))), .second, .val (.double (own_weigh (FP.ddiv (FP.l2d (Int64.ofNat nb)) (4652218415073722368 : UInt64)) (FP.ddiv (FP.l2d (Int64.ofNat na)) (4652218415073722368 : UInt64)) (FP.i2d p0) (FP.i2d p1) (FP.i2d p2) (FP.i2d p3))), .second, .unset, .unset] [(.long (1024 : Int64)), (.long (Int64.ofNat nb))])) _
    refine XS.lload X55.here hx rfl (hb hby at_79) rfl ?_
    show Steps p.tables e below (T55.setTop (mkF m 81 #[.val (.int p0), .val (.int p1), .val (.int p2), .val (.int p3), .val (.int p4), .val (.int p5), .val (.long (1024 : Int64)), .second, .val (.long (Int64.ofNat nb)), .second, .val (.long (Int64.ofNat na)), .second, .val (.ref b44), .val (.double (FP.ddiv (FP.l2d (Int64.ofNat nb)) (4652218415073722368 : UInt64))), .second, .val (.double (FP.ddiv (FP.l2d (Int64.ofNat na)) (4652218415073722368 : UInt64))), .second, .val (.double (own_weigh (FP.ddiv (FP.l2d (Int64.ofNat nb)) (4652218415073722368 : UInt64)) (FP.ddiv (FP.l2d (Int64.ofNat na)) (4652218415073722368 : UInt64)) (FP.i2d p0) (FP.i2d p1) (FP.i2d p2) (FP.i2d p3))), .second, .unset, .unset] [(.long (Int64.ofNat na)), (.long (1024 : Int64)), (.long (Int64.ofNat nb))])) _
    refine XS.lsub X55.here hx rfl (hb hby at_81) rfl ?_
    show Steps p.tables e below (T55.setTop (mkF m 82 #[.val (.int p0), .val (.int p1), .val (.int p2), .val (.int p3), .val (.int p4), .val (.int p5), .val (.long (1024 : Int64)), .second, .val (.long (Int64.ofNat nb)), .second, .val (.long (Int64.ofNat na)), .second, .val (.ref b44), .val (.double (FP.ddiv (FP.l2d (Int64.ofNat nb)) (4652218415073722368 : UInt64))), .second, .val (.double (FP.ddiv (FP.l2d (Int64.ofNat na)) (4652218415073722368 : UInt64))), .second, .val (.double (own_weigh (FP.ddiv (FP.l2d (Int64.ofNat nb)) (4652218415073722368 : UInt64)) (FP.ddiv (FP.l2d (Int64.ofNat na)) (4652218415073722368 : UInt64)) (FP.i2d p0) (FP.i2d p1) (FP.i2d p2) (FP.i2d p3))), .second, .unset, .unset] [(.long ((1024 : Int64) - (Int64.ofNat na))), (.long (Int64.ofNat nb))])) _
    refine XS.lmul X55.here hx rfl (hb hby at_82) rfl ?_
    show Steps p.tables e below (T55.setTop (mkF m 83 #[.val (.int p0), .val (.int p1), .val (.int p2), .val (.int p3), .val (.int p4), .val (.int p5), .val (.long (1024 : Int64)), .second, .val (.long (Int64.ofNat nb)), .second, .val (.long (Int64.ofNat na)), .second, .val (.ref b44), .val (.double (FP.ddiv (FP.l2d (Int64.ofNat nb)) (4652218415073722368 : UInt64))), .second, .val (.double (FP.ddiv (FP.l2d (Int64.ofNat na)) (4652218415073722368 : UInt64))), .second, .val (.double (own_weigh (FP.ddiv (FP.l2d (Int64.ofNat nb)) (4652218415073722368 : UInt64)) (FP.ddiv (FP.l2d (Int64.ofNat na)) (4652218415073722368 : UInt64)) (FP.i2d p0) (FP.i2d p1) (FP.i2d p2) (FP.i2d p3))), .second, .unset, .unset] [(.long ((Int64.ofNat nb) * ((1024 : Int64) - (Int64.ofNat na))))])) _
    refine XS.iloadN X55.here hx rfl (hb hby at_83) rfl ?_
    show Steps p.tables e below (T55.setTop (mkF m 84 #[.val (.int p0), .val (.int p1), .val (.int p2), .val (.int p3), .val (.int p4), .val (.int p5), .val (.long (1024 : Int64)), .second, .val (.long (Int64.ofNat nb)), .second, .val (.long (Int64.ofNat na)), .second, .val (.ref b44), .val (.double (FP.ddiv (FP.l2d (Int64.ofNat nb)) (4652218415073722368 : UInt64))), .second, .val (.double (FP.ddiv (FP.l2d (Int64.ofNat na)) (4652218415073722368 : UInt64))), .second, .val (.double (own_weigh (FP.ddiv (FP.l2d (Int64.ofNat nb)) (4652218415073722368 : UInt64)) (FP.ddiv (FP.l2d (Int64.ofNat na)) (4652218415073722368 : UInt64)) (FP.i2d p0) (FP.i2d p1) (FP.i2d p2) (FP.i2d p3))), .second, .unset, .unset] [(.int p0), (.long ((Int64.ofNat nb) * ((1024 : Int64) - (Int64.ofNat na))))])) _
    refine XS.i2l X55.here hx rfl (hb hby at_84) rfl ?_
    show Steps p.tables e below (T55.setTop (mkF m 85 #[.val (.int p0), .val (.int p1), .val (.int p2), .val (.int p3), .val (.int p4), .val (.int p5), .val (.long (1024 : Int64)), .second, .val (.long (Int64.ofNat nb)), .second, .val (.long (Int64.ofNat na)), .second, .val (.ref b44), .val (.double (FP.ddiv (FP.l2d (Int64.ofNat nb)) (4652218415073722368 : UInt64))), .second, .val (.double (FP.ddiv (FP.l2d (Int64.ofNat na)) (4652218415073722368 : UInt64))), .second, .val (.double (own_weigh (FP.ddiv (FP.l2d (Int64.ofNat nb)) (4652218415073722368 : UInt64)) (FP.ddiv (FP.l2d (Int64.ofNat na)) (4652218415073722368 : UInt64)) (FP.i2d p0) (FP.i2d p1) (FP.i2d p2) (FP.i2d p3))), .second, .unset, .unset] [(.long p0.toInt64), (.long ((Int64.ofNat nb) * ((1024 : Int64) - (Int64.ofNat na))))])) _
    refine XS.lmul X55.here hx rfl (hb hby at_85) rfl ?_
    show Steps p.tables e below (T55.setTop (mkF m 86 #[.val (.int p0), .val (.int p1), .val (.int p2), .val (.int p3), .val (.int p4), .val (.int p5), .val (.long (1024 : Int64)), .second, .val (.long (Int64.ofNat nb)), .second, .val (.long (Int64.ofNat na)), .second, .val (.ref b44), .val (.double (FP.ddiv (FP.l2d (Int64.ofNat nb)) (4652218415073722368 : UInt64))), .second, .val (.double (FP.ddiv (FP.l2d (Int64.ofNat na)) (4652218415073722368 : UInt64))), .second, .val (.double (own_weigh (FP.ddiv (FP.l2d (Int64.ofNat nb)) (4652218415073722368 : UInt64)) (FP.ddiv (FP.l2d (Int64.ofNat na)) (4652218415073722368 : UInt64)) (FP.i2d p0) (FP.i2d p1) (FP.i2d p2) (FP.i2d p3))), .second, .unset, .unset] [(.long (((Int64.ofNat nb) * ((1024 : Int64) - (Int64.ofNat na))) * p0.toInt64))])) _
    refine XS.lload X55.here hx rfl (hb hby at_86) rfl ?_
    show Steps p.tables e below (T55.setTop (mkF m 88 #[.val (.int p0), .val (.int p1), .val (.int p2), .val (.int p3), .val (.int p4), .val (.int p5), .val (.long (1024 : Int64)), .second, .val (.long (Int64.ofNat nb)), .second, .val (.long (Int64.ofNat na)), .second, .val (.ref b44), .val (.double (FP.ddiv (FP.l2d (Int64.ofNat nb)) (4652218415073722368 : UInt64))), .second, .val (.double (FP.ddiv (FP.l2d (Int64.ofNat na)) (4652218415073722368 : UInt64))), .second, .val (.double (own_weigh (FP.ddiv (FP.l2d (Int64.ofNat nb)) (4652218415073722368 : UInt64)) (FP.ddiv (FP.l2d (Int64.ofNat na)) (4652218415073722368 : UInt64)) (FP.i2d p0) (FP.i2d p1) (FP.i2d p2) (FP.i2d p3))), .second, .unset, .unset] [(.long (1024 : Int64)), (.long (((Int64.ofNat nb) * ((1024 : Int64) - (Int64.ofNat na))) * p0.toInt64))])) _
    refine XS.lload X55.here hx rfl (hb hby at_88) rfl ?_
    show Steps p.tables e below (T55.setTop (mkF m 90 #[.val (.int p0), .val (.int p1), .val (.int p2), .val (.int p3), .val (.int p4), .val (.int p5), .val (.long (1024 : Int64)), .second, .val (.long (Int64.ofNat nb)), .second, .val (.long (Int64.ofNat na)), .second, .val (.ref b44), .val (.double (FP.ddiv (FP.l2d (Int64.ofNat nb)) (4652218415073722368 : UInt64))), .second, .val (.double (FP.ddiv (FP.l2d (Int64.ofNat na)) (4652218415073722368 : UInt64))), .second, .val (.double (own_weigh (FP.ddiv (FP.l2d (Int64.ofNat nb)) (4652218415073722368 : UInt64)) (FP.ddiv (FP.l2d (Int64.ofNat na)) (4652218415073722368 : UInt64)) (FP.i2d p0) (FP.i2d p1) (FP.i2d p2) (FP.i2d p3))), .second, .unset, .unset] [(.long (Int64.ofNat nb)), (.long (1024 : Int64)), (.long (((Int64.ofNat nb) * ((1024 : Int64) - (Int64.ofNat na))) * p0.toInt64))])) _
    refine XS.lsub X55.here hx rfl (hb hby at_90) rfl ?_
    show Steps p.tables e below (T55.setTop (mkF m 91 #[.val (.int p0), .val (.int p1), .val (.int p2), .val (.int p3), .val (.int p4), .val (.int p5), .val (.long (1024 : Int64)), .second, .val (.long (Int64.ofNat nb)), .second, .val (.long (Int64.ofNat na)), .second, .val (.ref b44), .val (.double (FP.ddiv (FP.l2d (Int64.ofNat nb)) (4652218415073722368 : UInt64))), .second, .val (.double (FP.ddiv (FP.l2d (Int64.ofNat na)) (4652218415073722368 : UInt64))), .second, .val (.double (own_weigh (FP.ddiv (FP.l2d (Int64.ofNat nb)) (4652218415073722368 : UInt64)) (FP.ddiv (FP.l2d (Int64.ofNat na)) (4652218415073722368 : UInt64)) (FP.i2d p0) (FP.i2d p1) (FP.i2d p2) (FP.i2d p3))), .second, .unset, .unset] [(.long ((1024 : Int64) - (Int64.ofNat nb))), (.long (((Int64.ofNat nb) * ((1024 : Int64) - (Int64.ofNat na))) * p0.toInt64))])) _
    refine XS.lload X55.here hx rfl (hb hby at_91) rfl ?_
    show Steps p.tables e below (T55.setTop (mkF m 93 #[.val (.int p0), .val (.int p1), .val (.int p2), .val (.int p3), .val (.int p4), .val (.int p5), .val (.long (1024 : Int64)), .second, .val (.long (Int64.ofNat nb)), .second, .val (.long (Int64.ofNat na)), .second, .val (.ref b44), .val (.double (FP.ddiv (FP.l2d (Int64.ofNat nb)) (4652218415073722368 : UInt64))), .second, .val (.double (FP.ddiv (FP.l2d (Int64.ofNat na)) (4652218415073722368 : UInt64))), .second, .val (.double (own_weigh (FP.ddiv (FP.l2d (Int64.ofNat nb)) (4652218415073722368 : UInt64)) (FP.ddiv (FP.l2d (Int64.ofNat na)) (4652218415073722368 : UInt64)) (FP.i2d p0) (FP.i2d p1) (FP.i2d p2) (FP.i2d p3))), .second, .unset, .unset] [(.long (1024 : Int64)), (.long ((1024 : Int64) - (Int64.ofNat nb))), (.long (((Int64.ofNat nb) * ((1024 : Int64) - (Int64.ofNat na))) * p0.toInt64))])) _
    refine XS.lload X55.here hx rfl (hb hby at_93) rfl ?_
    show Steps p.tables e below (T55.setTop (mkF m 95 #[.val (.int p0), .val (.int p1), .val (.int p2), .val (.int p3), .val (.int p4), .val (.int p5), .val (.long (1024 : Int64)), .second, .val (.long (Int64.ofNat nb)), .second, .val (.long (Int64.ofNat na)), .second, .val (.ref b44), .val (.double (FP.ddiv (FP.l2d (Int64.ofNat nb)) (4652218415073722368 : UInt64))), .second, .val (.double (FP.ddiv (FP.l2d (Int64.ofNat na)) (4652218415073722368 : UInt64))), .second, .val (.double (own_weigh (FP.ddiv (FP.l2d (Int64.ofNat nb)) (4652218415073722368 : UInt64)) (FP.ddiv (FP.l2d (Int64.ofNat na)) (4652218415073722368 : UInt64)) (FP.i2d p0) (FP.i2d p1) (FP.i2d p2) (FP.i2d p3))), .second, .unset, .unset] [(.long (Int64.ofNat na)), (.long (1024 : Int64)), (.long ((1024 : Int64) - (Int64.ofNat nb))), (.long (((Int64.ofNat nb) * ((1024 : Int64) - (Int64.ofNat na))) * p0.toInt64))])) _
    refine XS.lsub X55.here hx rfl (hb hby at_95) rfl ?_
    show Steps p.tables e below (T55.setTop (mkF m 96 #[.val (.int p0), .val (.int p1), .val (.int p2), .val (.int p3), .val (.int p4), .val (.int p5), .val (.long (1024 : Int64)), .second, .val (.long (Int64.ofNat nb)), .second, .val (.long (Int64.ofNat na)), .second, .val (.ref b44), .val (.double (FP.ddiv (FP.l2d (Int64.ofNat nb)) (4652218415073722368 : UInt64))), .second, .val (.double (FP.ddiv (FP.l2d (Int64.ofNat na)) (4652218415073722368 : UInt64))), .second, .val (.double (own_weigh (FP.ddiv (FP.l2d (Int64.ofNat nb)) (4652218415073722368 : UInt64)) (FP.ddiv (FP.l2d (Int64.ofNat na)) (4652218415073722368 : UInt64)) (FP.i2d p0) (FP.i2d p1) (FP.i2d p2) (FP.i2d p3))), .second, .unset, .unset] [(.long ((1024 : Int64) - (Int64.ofNat na))), (.long ((1024 : Int64) - (Int64.ofNat nb))), (.long (((Int64.ofNat nb) * ((1024 : Int64) - (Int64.ofNat na))) * p0.toInt64))])) _
    refine XS.lmul X55.here hx rfl (hb hby at_96) rfl ?_
    show Steps p.tables e below (T55.setTop (mkF m 97 #[.val (.int p0), .val (.int p1), .val (.int p2), .val (.int p3), .val (.int p4), .val (.int p5), .val (.long (1024 : Int64)), .second, .val (.long (Int64.ofNat nb)), .second, .val (.long (Int64.ofNat na)), .second, .val (.ref b44), .val (.double (FP.ddiv (FP.l2d (Int64.ofNat nb)) (4652218415073722368 : UInt64))), .second, .val (.double (FP.ddiv (FP.l2d (Int64.ofNat na)) (4652218415073722368 : UInt64))), .second, .val (.double (own_weigh (FP.ddiv (FP.l2d (Int64.ofNat nb)) (4652218415073722368 : UInt64)) (FP.ddiv (FP.l2d (Int64.ofNat na)) (4652218415073722368 : UInt64)) (FP.i2d p0) (FP.i2d p1) (FP.i2d p2) (FP.i2d p3))), .second, .unset, .unset] [(.long (((1024 : Int64) - (Int64.ofNat nb)) * ((1024 : Int64) - (Int64.ofNat na)))), (.long (((Int64.ofNat nb) * ((1024 : Int64) - (Int64.ofNat na))) * p0.toInt64))])) _
    refine XS.iloadN X55.here hx rfl (hb hby at_97) rfl ?_
    show Steps p.tables e below (T55.setTop (mkF m 98 #[.val (.int p0), .val (.int p1), .val (.int p2), .val (.int p3), .val (.int p4), .val (.int p5), .val (.long (1024 : Int64)), .second, .val (.long (Int64.ofNat nb)), .second, .val (.long (Int64.ofNat na)), .second, .val (.ref b44), .val (.double (FP.ddiv (FP.l2d (Int64.ofNat nb)) (4652218415073722368 : UInt64))), .second, .val (.double (FP.ddiv (FP.l2d (Int64.ofNat na)) (4652218415073722368 : UInt64))), .second, .val (.double (own_weigh (FP.ddiv (FP.l2d (Int64.ofNat nb)) (4652218415073722368 : UInt64)) (FP.ddiv (FP.l2d (Int64.ofNat na)) (4652218415073722368 : UInt64)) (FP.i2d p0) (FP.i2d p1) (FP.i2d p2) (FP.i2d p3))), .second, .unset, .unset] [(.int p2), (.long (((1024 : Int64) - (Int64.ofNat nb)) * ((1024 : Int64) - (Int64.ofNat na)))), (.long (((Int64.ofNat nb) * ((1024 : Int64) - (Int64.ofNat na))) * p0.toInt64))])) _
    refine XS.i2l X55.here hx rfl (hb hby at_98) rfl ?_
    show Steps p.tables e below (T55.setTop (mkF m 99 #[.val (.int p0), .val (.int p1), .val (.int p2), .val (.int p3), .val (.int p4), .val (.int p5), .val (.long (1024 : Int64)), .second, .val (.long (Int64.ofNat nb)), .second, .val (.long (Int64.ofNat na)), .second, .val (.ref b44), .val (.double (FP.ddiv (FP.l2d (Int64.ofNat nb)) (4652218415073722368 : UInt64))), .second, .val (.double (FP.ddiv (FP.l2d (Int64.ofNat na)) (4652218415073722368 : UInt64))), .second, .val (.double (own_weigh (FP.ddiv (FP.l2d (Int64.ofNat nb)) (4652218415073722368 : UInt64)) (FP.ddiv (FP.l2d (Int64.ofNat na)) (4652218415073722368 : UInt64)) (FP.i2d p0) (FP.i2d p1) (FP.i2d p2) (FP.i2d p3))), .second, .unset, .unset] [(.long p2.toInt64), (.long (((1024 : Int64) - (Int64.ofNat nb)) * ((1024 : Int64) - (Int64.ofNat na)))), (.long (((Int64.ofNat nb) * ((1024 : Int64) - (Int64.ofNat na))) * p0.toInt64))])) _
    refine XS.lmul X55.here hx rfl (hb hby at_99) rfl ?_
    show Steps p.tables e below (T55.setTop (mkF m 100 #[.val (.int p0), .val (.int p1), .val (.int p2), .val (.int p3), .val (.int p4), .val (.int p5), .val (.long (1024 : Int64)), .second, .val (.long (Int64.ofNat nb)), .second, .val (.long (Int64.ofNat na)), .second, .val (.ref b44), .val (.double (FP.ddiv (FP.l2d (Int64.ofNat nb)) (4652218415073722368 : UInt64))), .second, .val (.double (FP.ddiv (FP.l2d (Int64.ofNat na)) (4652218415073722368 : UInt64))), .second, .val (.double (own_weigh (FP.ddiv (FP.l2d (Int64.ofNat nb)) (4652218415073722368 : UInt64)) (FP.ddiv (FP.l2d (Int64.ofNat na)) (4652218415073722368 : UInt64)) (FP.i2d p0) (FP.i2d p1) (FP.i2d p2) (FP.i2d p3))), .second, .unset, .unset] [(.long ((((1024 : Int64) - (Int64.ofNat nb)) * ((1024 : Int64) - (Int64.ofNat na))) * p2.toInt64)), (.long (((Int64.ofNat nb) * ((1024 : Int64) - (Int64.ofNat na))) * p0.toInt64))])) _
    refine XS.ladd X55.here hx rfl (hb hby at_100) rfl ?_
    show Steps p.tables e below (T55.setTop (mkF m 101 #[.val (.int p0), .val (.int p1), .val (.int p2), .val (.int p3), .val (.int p4), .val (.int p5), .val (.long (1024 : Int64)), .second, .val (.long (Int64.ofNat nb)), .second, .val (.long (Int64.ofNat na)), .second, .val (.ref b44), .val (.double (FP.ddiv (FP.l2d (Int64.ofNat nb)) (4652218415073722368 : UInt64))), .second, .val (.double (FP.ddiv (FP.l2d (Int64.ofNat na)) (4652218415073722368 : UInt64))), .second, .val (.double (own_weigh (FP.ddiv (FP.l2d (Int64.ofNat nb)) (4652218415073722368 : UInt64)) (FP.ddiv (FP.l2d (Int64.ofNat na)) (4652218415073722368 : UInt64)) (FP.i2d p0) (FP.i2d p1) (FP.i2d p2) (FP.i2d p3))), .second, .unset, .unset] [(.long ((((Int64.ofNat nb) * ((1024 : Int64) - (Int64.ofNat na))) * p0.toInt64) + ((((1024 : Int64) - (Int64.ofNat nb)) * ((1024 : Int64) - (Int64.ofNat na))) * p2.toInt64)))])) _
    refine XS.lload X55.here hx rfl (hb hby at_101) rfl ?_
    show Steps p.tables e below (T55.setTop (mkF m 103 #[.val (.int p0), .val (.int p1), .val (.int p2), .val (.int p3), .val (.int p4), .val (.int p5), .val (.long (1024 : Int64)), .second, .val (.long (Int64.ofNat nb)), .second, .val (.long (Int64.ofNat na)), .second, .val (.ref b44), .val (.double (FP.ddiv (FP.l2d (Int64.ofNat nb)) (4652218415073722368 : UInt64))), .second, .val (.double (FP.ddiv (FP.l2d (Int64.ofNat na)) (4652218415073722368 : UInt64))), .second, .val (.double (own_weigh (FP.ddiv (FP.l2d (Int64.ofNat nb)) (4652218415073722368 : UInt64)) (FP.ddiv (FP.l2d (Int64.ofNat na)) (4652218415073722368 : UInt64)) (FP.i2d p0) (FP.i2d p1) (FP.i2d p2) (FP.i2d p3))), .second, .unset, .unset] [(.long (Int64.ofNat nb)), (.long ((((Int64.ofNat nb) * ((1024 : Int64) - (Int64.ofNat na))) * p0.toInt64) + ((((1024 : Int64) - (Int64.ofNat nb)) * ((1024 : Int64) - (Int64.ofNat na))) * p2.toInt64)))])) _
    refine XS.lload X55.here hx rfl (hb hby at_103) rfl ?_
    show Steps p.tables e below (T55.setTop (mkF m 105 #[.val (.int p0), .val (.int p1), .val (.int p2), .val (.int p3), .val (.int p4), .val (.int p5), .val (.long (1024 : Int64)), .second, .val (.long (Int64.ofNat nb)), .second, .val (.long (Int64.ofNat na)), .second, .val (.ref b44), .val (.double (FP.ddiv (FP.l2d (Int64.ofNat nb)) (4652218415073722368 : UInt64))), .second, .val (.double (FP.ddiv (FP.l2d (Int64.ofNat na)) (4652218415073722368 : UInt64))), .second, .val (.double (own_weigh (FP.ddiv (FP.l2d (Int64.ofNat nb)) (4652218415073722368 : UInt64)) (FP.ddiv (FP.l2d (Int64.ofNat na)) (4652218415073722368 : UInt64)) (FP.i2d p0) (FP.i2d p1) (FP.i2d p2) (FP.i2d p3))), .second, .unset, .unset] [(.long (Int64.ofNat na)), (.long (Int64.ofNat nb)), (.long ((((Int64.ofNat nb) * ((1024 : Int64) - (Int64.ofNat na))) * p0.toInt64) + ((((1024 : Int64) - (Int64.ofNat nb)) * ((1024 : Int64) - (Int64.ofNat na))) * p2.toInt64)))])) _
    refine XS.lmul X55.here hx rfl (hb hby at_105) rfl ?_
    show Steps p.tables e below (T55.setTop (mkF m 106 #[.val (.int p0), .val (.int p1), .val (.int p2), .val (.int p3), .val (.int p4), .val (.int p5), .val (.long (1024 : Int64)), .second, .val (.long (Int64.ofNat nb)), .second, .val (.long (Int64.ofNat na)), .second, .val (.ref b44), .val (.double (FP.ddiv (FP.l2d (Int64.ofNat nb)) (4652218415073722368 : UInt64))), .second, .val (.double (FP.ddiv (FP.l2d (Int64.ofNat na)) (4652218415073722368 : UInt64))), .second, .val (.double (own_weigh (FP.ddiv (FP.l2d (Int64.ofNat nb)) (4652218415073722368 : UInt64)) (FP.ddiv (FP.l2d (Int64.ofNat na)) (4652218415073722368 : UInt64)) (FP.i2d p0) (FP.i2d p1) (FP.i2d p2) (FP.i2d p3))), .second, .unset, .unset] [(.long ((Int64.ofNat nb) * (Int64.ofNat na))), (.long ((((Int64.ofNat nb) * ((1024 : Int64) - (Int64.ofNat na))) * p0.toInt64) + ((((1024 : Int64) - (Int64.ofNat nb)) * ((1024 : Int64) - (Int64.ofNat na))) * p2.toInt64)))])) _
    refine XS.iloadN X55.here hx rfl (hb hby at_106) rfl ?_
    show Steps p.tables e below (T55.setTop (mkF m 107 #[.val (.int p0), .val (.int p1), .val (.int p2), .val (.int p3), .val (.int p4), .val (.int p5), .val (.long (1024 : Int64)), .second, .val (.long (Int64.ofNat nb)), .second, .val (.long (Int64.ofNat na)), .second, .val (.ref b44), .val (.double (FP.ddiv (FP.l2d (Int64.ofNat nb)) (4652218415073722368 : UInt64))), .second, .val (.double (FP.ddiv (FP.l2d (Int64.ofNat na)) (4652218415073722368 : UInt64))), .second, .val (.double (own_weigh (FP.ddiv (FP.l2d (Int64.ofNat nb)) (4652218415073722368 : UInt64)) (FP.ddiv (FP.l2d (Int64.ofNat na)) (4652218415073722368 : UInt64)) (FP.i2d p0) (FP.i2d p1) (FP.i2d p2) (FP.i2d p3))), .second, .unset, .unset] [(.int p1), (.long ((Int64.ofNat nb) * (Int64.ofNat na))), (.long ((((Int64.ofNat nb) * ((1024 : Int64) - (Int64.ofNat na))) * p0.toInt64) + ((((1024 : Int64) - (Int64.ofNat nb)) * ((1024 : Int64) - (Int64.ofNat na))) * p2.toInt64)))])) _
    refine XS.i2l X55.here hx rfl (hb hby at_107) rfl ?_
    show Steps p.tables e below (T55.setTop (mkF m 108 #[.val (.int p0), .val (.int p1), .val (.int p2), .val (.int p3), .val (.int p4), .val (.int p5), .val (.long (1024 : Int64)), .second, .val (.long (Int64.ofNat nb)), .second, .val (.long (Int64.ofNat na)), .second, .val (.ref b44), .val (.double (FP.ddiv (FP.l2d (Int64.ofNat nb)) (4652218415073722368 : UInt64))), .second, .val (.double (FP.ddiv (FP.l2d (Int64.ofNat na)) (4652218415073722368 : UInt64))), .second, .val (.double (own_weigh (FP.ddiv (FP.l2d (Int64.ofNat nb)) (4652218415073722368 : UInt64)) (FP.ddiv (FP.l2d (Int64.ofNat na)) (4652218415073722368 : UInt64)) (FP.i2d p0) (FP.i2d p1) (FP.i2d p2) (FP.i2d p3))), .second, .unset, .unset] [(.long p1.toInt64), (.long ((Int64.ofNat nb) * (Int64.ofNat na))), (.long ((((Int64.ofNat nb) * ((1024 : Int64) - (Int64.ofNat na))) * p0.toInt64) + ((((1024 : Int64) - (Int64.ofNat nb)) * ((1024 : Int64) - (Int64.ofNat na))) * p2.toInt64)))])) _
    refine XS.lmul X55.here hx rfl (hb hby at_108) rfl ?_
    show Steps p.tables e below (T55.setTop (mkF m 109 #[.val (.int p0), .val (.int p1), .val (.int p2), .val (.int p3), .val (.int p4), .val (.int p5), .val (.long (1024 : Int64)), .second, .val (.long (Int64.ofNat nb)), .second, .val (.long (Int64.ofNat na)), .second, .val (.ref b44), .val (.double (FP.ddiv (FP.l2d (Int64.ofNat nb)) (4652218415073722368 : UInt64))), .second, .val (.double (FP.ddiv (FP.l2d (Int64.ofNat na)) (4652218415073722368 : UInt64))), .second, .val (.double (own_weigh (FP.ddiv (FP.l2d (Int64.ofNat nb)) (4652218415073722368 : UInt64)) (FP.ddiv (FP.l2d (Int64.ofNat na)) (4652218415073722368 : UInt64)) (FP.i2d p0) (FP.i2d p1) (FP.i2d p2) (FP.i2d p3))), .second, .unset, .unset] [(.long (((Int64.ofNat nb) * (Int64.ofNat na)) * p1.toInt64)), (.long ((((Int64.ofNat nb) * ((1024 : Int64) - (Int64.ofNat na))) * p0.toInt64) + ((((1024 : Int64) - (Int64.ofNat nb)) * ((1024 : Int64) - (Int64.ofNat na))) * p2.toInt64)))])) _
    refine XS.ladd X55.here hx rfl (hb hby at_109) rfl ?_
    show Steps p.tables e below (T55.setTop (mkF m 110 #[.val (.int p0), .val (.int p1), .val (.int p2), .val (.int p3), .val (.int p4), .val (.int p5), .val (.long (1024 : Int64)), .second, .val (.long (Int64.ofNat nb)), .second, .val (.long (Int64.ofNat na)), .second, .val (.ref b44), .val (.double (FP.ddiv (FP.l2d (Int64.ofNat nb)) (4652218415073722368 : UInt64))), .second, .val (.double (FP.ddiv (FP.l2d (Int64.ofNat na)) (4652218415073722368 : UInt64))), .second, .val (.double (own_weigh (FP.ddiv (FP.l2d (Int64.ofNat nb)) (4652218415073722368 : UInt64)) (FP.ddiv (FP.l2d (Int64.ofNat na)) (4652218415073722368 : UInt64)) (FP.i2d p0) (FP.i2d p1) (FP.i2d p2) (FP.i2d p3))), .second, .unset, .unset] [(.long (((((Int64.ofNat nb) * ((1024 : Int64) - (Int64.ofNat na))) * p0.toInt64) + ((((1024 : Int64) - (Int64.ofNat nb)) * ((1024 : Int64) - (Int64.ofNat na))) * p2.toInt64)) + (((Int64.ofNat nb) * (Int64.ofNat na)) * p1.toInt64)))])) _
    refine XS.lload X55.here hx rfl (hb hby at_110) rfl ?_
    show Steps p.tables e below (T55.setTop (mkF m 112 #[.val (.int p0), .val (.int p1), .val (.int p2), .val (.int p3), .val (.int p4), .val (.int p5), .val (.long (1024 : Int64)), .second, .val (.long (Int64.ofNat nb)), .second, .val (.long (Int64.ofNat na)), .second, .val (.ref b44), .val (.double (FP.ddiv (FP.l2d (Int64.ofNat nb)) (4652218415073722368 : UInt64))), .second, .val (.double (FP.ddiv (FP.l2d (Int64.ofNat na)) (4652218415073722368 : UInt64))), .second, .val (.double (own_weigh (FP.ddiv (FP.l2d (Int64.ofNat nb)) (4652218415073722368 : UInt64)) (FP.ddiv (FP.l2d (Int64.ofNat na)) (4652218415073722368 : UInt64)) (FP.i2d p0) (FP.i2d p1) (FP.i2d p2) (FP.i2d p3))), .second, .unset, .unset] [(.long (1024 : Int64)), (.long (((((Int64.ofNat nb) * ((1024 : Int64) - (Int64.ofNat na))) * p0.toInt64) + ((((1024 : Int64) - (Int64.ofNat nb)) * ((1024 : Int64) - (Int64.ofNat na))) * p2.toInt64)) + (((Int64.ofNat nb) * (Int64.ofNat na)) * p1.toInt64)))])) _
    refine XS.lload X55.here hx rfl (hb hby at_112) rfl ?_
    show Steps p.tables e below (T55.setTop (mkF m 114 #[.val (.int p0), .val (.int p1), .val (.int p2), .val (.int p3), .val (.int p4), .val (.int p5), .val (.long (1024 : Int64)), .second, .val (.long (Int64.ofNat nb)), .second, .val (.long (Int64.ofNat na)), .second, .val (.ref b44), .val (.double (FP.ddiv (FP.l2d (Int64.ofNat nb)) (4652218415073722368 : UInt64))), .second, .val (.double (FP.ddiv (FP.l2d (Int64.ofNat na)) (4652218415073722368 : UInt64))), .second, .val (.double (own_weigh (FP.ddiv (FP.l2d (Int64.ofNat nb)) (4652218415073722368 : UInt64)) (FP.ddiv (FP.l2d (Int64.ofNat na)) (4652218415073722368 : UInt64)) (FP.i2d p0) (FP.i2d p1) (FP.i2d p2) (FP.i2d p3))), .second, .unset, .unset] [(.long (Int64.ofNat nb)), (.long (1024 : Int64)), (.long (((((Int64.ofNat nb) * ((1024 : Int64) - (Int64.ofNat na))) * p0.toInt64) + ((((1024 : Int64) - (Int64.ofNat nb)) * ((1024 : Int64) - (Int64.ofNat na))) * p2.toInt64)) + (((Int64.ofNat nb) * (Int64.ofNat na)) * p1.toInt64)))])) _
    refine XS.lsub X55.here hx rfl (hb hby at_114) rfl ?_
    show Steps p.tables e below (T55.setTop (mkF m 115 #[.val (.int p0), .val (.int p1), .val (.int p2), .val (.int p3), .val (.int p4), .val (.int p5), .val (.long (1024 : Int64)), .second, .val (.long (Int64.ofNat nb)), .second, .val (.long (Int64.ofNat na)), .second, .val (.ref b44), .val (.double (FP.ddiv (FP.l2d (Int64.ofNat nb)) (4652218415073722368 : UInt64))), .second, .val (.double (FP.ddiv (FP.l2d (Int64.ofNat na)) (4652218415073722368 : UInt64))), .second, .val (.double (own_weigh (FP.ddiv (FP.l2d (Int64.ofNat nb)) (4652218415073722368 : UInt64)) (FP.ddiv (FP.l2d (Int64.ofNat na)) (4652218415073722368 : UInt64)) (FP.i2d p0) (FP.i2d p1) (FP.i2d p2) (FP.i2d p3))), .second, .unset, .unset] [(.long ((1024 : Int64) - (Int64.ofNat nb))), (.long (((((Int64.ofNat nb) * ((1024 : Int64) - (Int64.ofNat na))) * p0.toInt64) + ((((1024 : Int64) - (Int64.ofNat nb)) * ((1024 : Int64) - (Int64.ofNat na))) * p2.toInt64)) + (((Int64.ofNat nb) * (Int64.ofNat na)) * p1.toInt64)))])) _
    refine XS.lload X55.here hx rfl (hb hby at_115) rfl ?_
    show Steps p.tables e below (T55.setTop (mkF m 117 #[.val (.int p0), .val (.int p1), .val (.int p2), .val (.int p3), .val (.int p4), .val (.int p5), .val (.long (1024 : Int64)), .second, .val (.long (Int64.ofNat nb)), .second, .val (.long (Int64.ofNat na)), .second, .val (.ref b44), .val (.double (FP.ddiv (FP.l2d (Int64.ofNat nb)) (4652218415073722368 : UInt64))), .second, .val (.double (FP.ddiv (FP.l2d (Int64.ofNat na)) (4652218415073722368 : UInt64))), .second, .val (.double (own_weigh (FP.ddiv (FP.l2d (Int64.ofNat nb)) (4652218415073722368 : UInt64)) (FP.ddiv (FP.l2d (Int64.ofNat na)) (4652218415073722368 : UInt64)) (FP.i2d p0) (FP.i2d p1) (FP.i2d p2) (FP.i2d p3))), .second, .unset, .unset] [(.long (Int64.ofNat na)), (.long ((1024 : Int64) - (Int64.ofNat nb))), (.long (((((Int64.ofNat nb) * ((1024 : Int64) - (Int64.ofNat na))) * p0.toInt64) + ((((1024 : Int64) - (Int64.ofNat nb)) * ((1024 : Int64) - (Int64.ofNat na))) * p2.toInt64)) + (((Int64.ofNat nb) * (Int64.ofNat na)) * p1.toInt64)))])) _
    refine XS.lmul X55.here hx rfl (hb hby at_117) rfl ?_
    show Steps p.tables e below (T55.setTop (mkF m 118 #[.val (.int p0), .val (.int p1), .val (.int p2), .val (.int p3), .val (.int p4), .val (.int p5), .val (.long (1024 : Int64)), .second, .val (.long (Int64.ofNat nb)), .second, .val (.long (Int64.ofNat na)), .second, .val (.ref b44), .val (.double (FP.ddiv (FP.l2d (Int64.ofNat nb)) (4652218415073722368 : UInt64))), .second, .val (.double (FP.ddiv (FP.l2d (Int64.ofNat na)) (4652218415073722368 : UInt64))), .second, .val (.double (own_weigh (FP.ddiv (FP.l2d (Int64.ofNat nb)) (4652218415073722368 : UInt64)) (FP.ddiv (FP.l2d (Int64.ofNat na)) (4652218415073722368 : UInt64)) (FP.i2d p0) (FP.i2d p1) (FP.i2d p2) (FP.i2d p3))), .second, .unset, .unset] [(.long (((1024 : Int64) - (Int64.ofNat nb)) * (Int64.ofNat na))), (.long (((((Int64.ofNat nb) * ((1024 : Int64) - (Int64.ofNat na))) * p0.toInt64) + ((((1024 : Int64) - (Int64.ofNat nb)) * ((1024 : Int64) - (Int64.ofNat na))) * p2.toInt64)) + (((Int64.ofNat nb) * (Int64.ofNat na)) * p1.toInt64)))])) _
    refine XS.iloadN X55.here hx rfl (hb hby at_118) rfl ?_
    show Steps p.tables e below (T55.setTop (mkF m 119 #[.val (.int p0), .val (.int p1), .val (.int p2), .val (.int p3), .val (.int p4), .val (.int p5), .val (.long (1024 : Int64)), .second, .val (.long (Int64.ofNat nb)), .second, .val (.long (Int64.ofNat na)), .second, .val (.ref b44), .val (.double (FP.ddiv (FP.l2d (Int64.ofNat nb)) (4652218415073722368 : UInt64))), .second, .val (.double (FP.ddiv (FP.l2d (Int64.ofNat na)) (4652218415073722368 : UInt64))), .second, .val (.double (own_weigh (FP.ddiv (FP.l2d (Int64.ofNat nb)) (4652218415073722368 : UInt64)) (FP.ddiv (FP.l2d (Int64.ofNat na)) (4652218415073722368 : UInt64)) (FP.i2d p0) (FP.i2d p1) (FP.i2d p2) (FP.i2d p3))), .second, .unset, .unset] [(.int p3), (.long (((1024 : Int64) - (Int64.ofNat nb)) * (Int64.ofNat na))), (.long (((((Int64.ofNat nb) * ((1024 : Int64) - (Int64.ofNat na))) * p0.toInt64) + ((((1024 : Int64) - (Int64.ofNat nb)) * ((1024 : Int64) - (Int64.ofNat na))) * p2.toInt64)) + (((Int64.ofNat nb) * (Int64.ofNat na)) * p1.toInt64)))])) _
    refine XS.i2l X55.here hx rfl (hb hby at_119) rfl ?_
    show Steps p.tables e below (T55.setTop (mkF m 120 #[.val (.int p0), .val (.int p1), .val (.int p2), .val (.int p3), .val (.int p4), .val (.int p5), .val (.long (1024 : Int64)), .second, .val (.long (Int64.ofNat nb)), .second, .val (.long (Int64.ofNat na)), .second, .val (.ref b44), .val (.double (FP.ddiv (FP.l2d (Int64.ofNat nb)) (4652218415073722368 : UInt64))), .second, .val (.double (FP.ddiv (FP.l2d (Int64.ofNat na)) (4652218415073722368 : UInt64))), .second, .val (.double (own_weigh (FP.ddiv (FP.l2d (Int64.ofNat nb)) (4652218415073722368 : UInt64)) (FP.ddiv (FP.l2d (Int64.ofNat na)) (4652218415073722368 : UInt64)) (FP.i2d p0) (FP.i2d p1) (FP.i2d p2) (FP.i2d p3))), .second, .unset, .unset] [(.long p3.toInt64), (.long (((1024 : Int64) - (Int64.ofNat nb)) * (Int64.ofNat na))), (.long (((((Int64.ofNat nb) * ((1024 : Int64) - (Int64.ofNat na))) * p0.toInt64) + ((((1024 : Int64) - (Int64.ofNat nb)) * ((1024 : Int64) - (Int64.ofNat na))) * p2.toInt64)) + (((Int64.ofNat nb) * (Int64.ofNat na)) * p1.toInt64)))])) _
    refine XS.lmul X55.here hx rfl (hb hby at_120) rfl ?_
    show Steps p.tables e below (T55.setTop (mkF m 121 #[.val (.int p0), .val (.int p1), .val (.int p2), .val (.int p3), .val (.int p4), .val (.int p5), .val (.long (1024 : Int64)), .second, .val (.long (Int64.ofNat nb)), .second, .val (.long (Int64.ofNat na)), .second, .val (.ref b44), .val (.double (FP.ddiv (FP.l2d (Int64.ofNat nb)) (4652218415073722368 : UInt64))), .second, .val (.double (FP.ddiv (FP.l2d (Int64.ofNat na)) (4652218415073722368 : UInt64))), .second, .val (.double (own_weigh (FP.ddiv (FP.l2d (Int64.ofNat nb)) (4652218415073722368 : UInt64)) (FP.ddiv (FP.l2d (Int64.ofNat na)) (4652218415073722368 : UInt64)) (FP.i2d p0) (FP.i2d p1) (FP.i2d p2) (FP.i2d p3))), .second, .unset, .unset] [(.long ((((1024 : Int64) - (Int64.ofNat nb)) * (Int64.ofNat na)) * p3.toInt64)), (.long (((((Int64.ofNat nb) * ((1024 : Int64) - (Int64.ofNat na))) * p0.toInt64) + ((((1024 : Int64) - (Int64.ofNat nb)) * ((1024 : Int64) - (Int64.ofNat na))) * p2.toInt64)) + (((Int64.ofNat nb) * (Int64.ofNat na)) * p1.toInt64)))])) _
    refine XS.ladd X55.here hx rfl (hb hby at_121) rfl ?_
    show Steps p.tables e below (T55.setTop (mkF m 122 #[.val (.int p0), .val (.int p1), .val (.int p2), .val (.int p3), .val (.int p4), .val (.int p5), .val (.long (1024 : Int64)), .second, .val (.long (Int64.ofNat nb)), .second, .val (.long (Int64.ofNat na)), .second, .val (.ref b44), .val (.double (FP.ddiv (FP.l2d (Int64.ofNat nb)) (4652218415073722368 : UInt64))), .second, .val (.double (FP.ddiv (FP.l2d (Int64.ofNat na)) (4652218415073722368 : UInt64))), .second, .val (.double (own_weigh (FP.ddiv (FP.l2d (Int64.ofNat nb)) (4652218415073722368 : UInt64)) (FP.ddiv (FP.l2d (Int64.ofNat na)) (4652218415073722368 : UInt64)) (FP.i2d p0) (FP.i2d p1) (FP.i2d p2) (FP.i2d p3))), .second, .unset, .unset] [(.long ((((((Int64.ofNat nb) * ((1024 : Int64) - (Int64.ofNat na))) * p0.toInt64) + ((((1024 : Int64) - (Int64.ofNat nb)) * ((1024 : Int64) - (Int64.ofNat na))) * p2.toInt64)) + (((Int64.ofNat nb) * (Int64.ofNat na)) * p1.toInt64)) + ((((1024 : Int64) - (Int64.ofNat nb)) * (Int64.ofNat na)) * p3.toInt64)))])) _
    refine XS.lstore X55.here hx rfl (hb hby at_122) rfl (l' := #[.val (.int p0), .val (.int p1), .val (.int p2), .val (.int p3), .val (.int p4), .val (.int p5), .val (.long (1024 : Int64)), .second, .val (.long (Int64.ofNat nb)), .second, .val (.long (Int64.ofNat na)), .second, .val (.ref b44), .val (.double (FP.ddiv (FP.l2d (Int64.ofNat nb)) (4652218415073722368 : UInt64))), .second, .val (.double (FP.ddiv (FP.l2d (Int64.ofNat na)) (4652218415073722368 : UInt64))), .second, .val (.double (own_weigh (FP.ddiv (FP.l2d (Int64.ofNat nb)) (4652218415073722368 : UInt64)) (FP.ddiv (FP.l2d (Int64.ofNat na)) (4652218415073722368 : UInt64)) (FP.i2d p0) (FP.i2d p1) (FP.i2d p2) (FP.i2d p3))), .second, .val (.long ((((((Int64.ofNat nb) * ((1024 : Int64) - (Int64.ofNat na))) * p0.toInt64) + ((((1024 : Int64) - (Int64.ofNat nb)) * ((1024 : Int64) - (Int64.ofNat na))) * p2.toInt64)) + (((Int64.ofNat nb) * (Int64.ofNat na)) * p1.toInt64)) + ((((1024 : Int64) - (Int64.ofNat nb)) * (Int64.ofNat na)) * p3.toInt64))), .second]) rfl ?_
    show Steps p.tables e below (T55.setTop (mkF m 124 #[.val (.int p0), .val (.int p1), .val (.int p2), .val (.int p3), .val (.int p4), .val (.int p5), .val (.long (1024 : Int64)), .second, .val (.long (Int64.ofNat nb)), .second, .val (.long (Int64.ofNat na)), .second, .val (.ref b44), .val (.double (FP.ddiv (FP.l2d (Int64.ofNat nb)) (4652218415073722368 : UInt64))), .second, .val (.double (FP.ddiv (FP.l2d (Int64.ofNat na)) (4652218415073722368 : UInt64))), .second, .val (.double (own_weigh (FP.ddiv (FP.l2d (Int64.ofNat nb)) (4652218415073722368 : UInt64)) (FP.ddiv (FP.l2d (Int64.ofNat na)) (4652218415073722368 : UInt64)) (FP.i2d p0) (FP.i2d p1) (FP.i2d p2) (FP.i2d p3))), .second, .val (.long ((((((Int64.ofNat nb) * ((1024 : Int64) - (Int64.ofNat na))) * p0.toInt64) + ((((1024 : Int64) - (Int64.ofNat nb)) * ((1024 : Int64) - (Int64.ofNat na))) * p2.toInt64)) + (((Int64.ofNat nb) * (Int64.ofNat na)) * p1.toInt64)) + ((((1024 : Int64) - (Int64.ofNat nb)) * (Int64.ofNat na)) * p3.toInt64))), .second] [])) _
    refine own_sload X55.here hx (hb hby at_124) rfl ?_
    show Steps p.tables e below (T55.setTop (mkF m 126 #[.val (.int p0), .val (.int p1), .val (.int p2), .val (.int p3), .val (.int p4), .val (.int p5), .val (.long (1024 : Int64)), .second, .val (.long (Int64.ofNat nb)), .second, .val (.long (Int64.ofNat na)), .second, .val (.ref b44), .val (.double (FP.ddiv (FP.l2d (Int64.ofNat nb)) (4652218415073722368 : UInt64))), .second, .val (.double (FP.ddiv (FP.l2d (Int64.ofNat na)) (4652218415073722368 : UInt64))), .second, .val (.double (own_weigh (FP.ddiv (FP.l2d (Int64.ofNat nb)) (4652218415073722368 : UInt64)) (FP.ddiv (FP.l2d (Int64.ofNat na)) (4652218415073722368 : UInt64)) (FP.i2d p0) (FP.i2d p1) (FP.i2d p2) (FP.i2d p3))), .second, .val (.long ((((((Int64.ofNat nb) * ((1024 : Int64) - (Int64.ofNat na))) * p0.toInt64) + ((((1024 : Int64) - (Int64.ofNat nb)) * ((1024 : Int64) - (Int64.ofNat na))) * p2.toInt64)) + (((Int64.ofNat nb) * (Int64.ofNat na)) * p1.toInt64)) + ((((1024 : Int64) - (Int64.ofNat nb)) * (Int64.ofNat na)) * p3.toInt64))), .second] [(.double (own_weigh (FP.ddiv (FP.l2d (Int64.ofNat nb)) (4652218415073722368 : UInt64)) (FP.ddiv (FP.l2d (Int64.ofNat na)) (4652218415073722368 : UInt64)) (FP.i2d p0) (FP.i2d p1) (FP.i2d p2) (FP.i2d p3)))])) _
    refine X55.ldc2DoubleC hx hown (mvT hZ (hw _ (List.mem_of_getElem? (i := 30) rfl))) (g := (mkF m 126 #[.val (.int p0), .val (.int p1), .val (.int p2), .val (.int p3), .val (.int p4), .val (.int p5), .val (.long (1024 : Int64)), .second, .val (.long (Int64.ofNat nb)), .second, .val (.long (Int64.ofNat na)), .second, .val (.ref b44), .val (.double (FP.ddiv (FP.l2d (Int64.ofNat nb)) (4652218415073722368 : UInt64))), .second, .val (.double (FP.ddiv (FP.l2d (Int64.ofNat na)) (4652218415073722368 : UInt64))), .second, .val (.double (own_weigh (FP.ddiv (FP.l2d (Int64.ofNat nb)) (4652218415073722368 : UInt64)) (FP.ddiv (FP.l2d (Int64.ofNat na)) (4652218415073722368 : UInt64)) (FP.i2d p0) (FP.i2d p1) (FP.i2d p2) (FP.i2d p3))), .second, .val (.long ((((((Int64.ofNat nb) * ((1024 : Int64) - (Int64.ofNat na))) * p0.toInt64) + ((((1024 : Int64) - (Int64.ofNat nb)) * ((1024 : Int64) - (Int64.ofNat na))) * p2.toInt64)) + (((Int64.ofNat nb) * (Int64.ofNat na)) * p1.toInt64)) + ((((1024 : Int64) - (Int64.ofNat nb)) * (Int64.ofNat na)) * p3.toInt64))), .second] [(.double (own_weigh (FP.ddiv (FP.l2d (Int64.ofNat nb)) (4652218415073722368 : UInt64)) (FP.ddiv (FP.l2d (Int64.ofNat na)) (4652218415073722368 : UInt64)) (FP.i2d p0) (FP.i2d p1) (FP.i2d p2) (FP.i2d p3)))])) rfl (hb hby at_126) _ ?_
    show Steps p.tables e below (T55.setTop (mkF m 129 #[.val (.int p0), .val (.int p1), .val (.int p2), .val (.int p3), .val (.int p4), .val (.int p5), .val (.long (1024 : Int64)), .second, .val (.long (Int64.ofNat nb)), .second, .val (.long (Int64.ofNat na)), .second, .val (.ref b44), .val (.double (FP.ddiv (FP.l2d (Int64.ofNat nb)) (4652218415073722368 : UInt64))), .second, .val (.double (FP.ddiv (FP.l2d (Int64.ofNat na)) (4652218415073722368 : UInt64))), .second, .val (.double (own_weigh (FP.ddiv (FP.l2d (Int64.ofNat nb)) (4652218415073722368 : UInt64)) (FP.ddiv (FP.l2d (Int64.ofNat na)) (4652218415073722368 : UInt64)) (FP.i2d p0) (FP.i2d p1) (FP.i2d p2) (FP.i2d p3))), .second, .val (.long ((((((Int64.ofNat nb) * ((1024 : Int64) - (Int64.ofNat na))) * p0.toInt64) + ((((1024 : Int64) - (Int64.ofNat nb)) * ((1024 : Int64) - (Int64.ofNat na))) * p2.toInt64)) + (((Int64.ofNat nb) * (Int64.ofNat na)) * p1.toInt64)) + ((((1024 : Int64) - (Int64.ofNat nb)) * (Int64.ofNat na)) * p3.toInt64))), .second] [(.double (4697254411347427328 : UInt64)), (.double (own_weigh (FP.ddiv (FP.l2d (Int64.ofNat nb)) (4652218415073722368 : UInt64)) (FP.ddiv (FP.l2d (Int64.ofNat na)) (4652218415073722368 : UInt64)) (FP.i2d p0) (FP.i2d p1) (FP.i2d p2) (FP.i2d p3)))])) _
    refine own_smul X55.here hx (hb hby at_129) (Jvm.Free.Fl.val64_no.mpr (own_rep.no RS)) ?_
    show Steps p.tables e below (T55.setTop (mkF m 130 #[.val (.int p0), .val (.int p1), .val (.int p2), .val (.int p3), .val (.int p4), .val (.int p5), .val (.long (1024 : Int64)), .second, .val (.long (Int64.ofNat nb)), .second, .val (.long (Int64.ofNat na)), .second, .val (.ref b44), .val (.double (FP.ddiv (FP.l2d (Int64.ofNat nb)) (4652218415073722368 : UInt64))), .second, .val (.double (FP.ddiv (FP.l2d (Int64.ofNat na)) (4652218415073722368 : UInt64))), .second, .val (.double (own_weigh (FP.ddiv (FP.l2d (Int64.ofNat nb)) (4652218415073722368 : UInt64)) (FP.ddiv (FP.l2d (Int64.ofNat na)) (4652218415073722368 : UInt64)) (FP.i2d p0) (FP.i2d p1) (FP.i2d p2) (FP.i2d p3))), .second, .val (.long ((((((Int64.ofNat nb) * ((1024 : Int64) - (Int64.ofNat na))) * p0.toInt64) + ((((1024 : Int64) - (Int64.ofNat nb)) * ((1024 : Int64) - (Int64.ofNat na))) * p2.toInt64)) + (((Int64.ofNat nb) * (Int64.ofNat na)) * p1.toInt64)) + ((((1024 : Int64) - (Int64.ofNat nb)) * (Int64.ofNat na)) * p3.toInt64))), .second] [(.double (FP.dmul (own_weigh (FP.ddiv (FP.l2d (Int64.ofNat nb)) (4652218415073722368 : UInt64)) (FP.ddiv (FP.l2d (Int64.ofNat na)) (4652218415073722368 : UInt64)) (FP.i2d p0) (FP.i2d p1) (FP.i2d p2) (FP.i2d p3)) (4697254411347427328 : UInt64)))])) _
    refine XS.lload X55.here hx rfl (hb hby at_130) rfl ?_
    show Steps p.tables e below (T55.setTop (mkF m 132 #[.val (.int p0), .val (.int p1), .val (.int p2), .val (.int p3), .val (.int p4), .val (.int p5), .val (.long (1024 : Int64)), .second, .val (.long (Int64.ofNat nb)), .second, .val (.long (Int64.ofNat na)), .second, .val (.ref b44), .val (.double (FP.ddiv (FP.l2d (Int64.ofNat nb)) (4652218415073722368 : UInt64))), .second, .val (.double (FP.ddiv (FP.l2d (Int64.ofNat na)) (4652218415073722368 : UInt64))), .second, .val (.double (own_weigh (FP.ddiv (FP.l2d (Int64.ofNat nb)) (4652218415073722368 : UInt64)) (FP.ddiv (FP.l2d (Int64.ofNat na)) (4652218415073722368 : UInt64)) (FP.i2d p0) (FP.i2d p1) (FP.i2d p2) (FP.i2d p3))), .second, .val (.long ((((((Int64.ofNat nb) * ((1024 : Int64) - (Int64.ofNat na))) * p0.toInt64) + ((((1024 : Int64) - (Int64.ofNat nb)) * ((1024 : Int64) - (Int64.ofNat na))) * p2.toInt64)) + (((Int64.ofNat nb) * (Int64.ofNat na)) * p1.toInt64)) + ((((1024 : Int64) - (Int64.ofNat nb)) * (Int64.ofNat na)) * p3.toInt64))), .second] [(.long ((((((Int64.ofNat nb) * ((1024 : Int64) - (Int64.ofNat na))) * p0.toInt64) + ((((1024 : Int64) - (Int64.ofNat nb)) * ((1024 : Int64) - (Int64.ofNat na))) * p2.toInt64)) + (((Int64.ofNat nb) * (Int64.ofNat na)) * p1.toInt64)) + ((((1024 : Int64) - (Int64.ofNat nb)) * (Int64.ofNat na)) * p3.toInt64))), (.double (FP.dmul (own_weigh (FP.ddiv (FP.l2d (Int64.ofNat nb)) (4652218415073722368 : UInt64)) (FP.ddiv (FP.l2d (Int64.ofNat na)) (4652218415073722368 : UInt64)) (FP.i2d p0) (FP.i2d p1) (FP.i2d p2) (FP.i2d p3)) (4697254411347427328 : UInt64)))])) _
    refine own_sl2d X55.here hx (hb hby at_132) ?_
    show Steps p.tables e below (T55.setTop (mkF m 133 #[.val (.int p0), .val (.int p1), .val (.int p2), .val (.int p3), .val (.int p4), .val (.int p5), .val (.long (1024 : Int64)), .second, .val (.long (Int64.ofNat nb)), .second, .val (.long (Int64.ofNat na)), .second, .val (.ref b44), .val (.double (FP.ddiv (FP.l2d (Int64.ofNat nb)) (4652218415073722368 : UInt64))), .second, .val (.double (FP.ddiv (FP.l2d (Int64.ofNat na)) (4652218415073722368 : UInt64))), .second, .val (.double (own_weigh (FP.ddiv (FP.l2d (Int64.ofNat nb)) (4652218415073722368 : UInt64)) (FP.ddiv (FP.l2d (Int64.ofNat na)) (4652218415073722368 : UInt64)) (FP.i2d p0) (FP.i2d p1) (FP.i2d p2) (FP.i2d p3))), .second, .val (.long ((((((Int64.ofNat nb) * ((1024 : Int64) - (Int64.ofNat na))) * p0.toInt64) + ((((1024 : Int64) - (Int64.ofNat nb)) * ((1024 : Int64) - (Int64.ofNat na))) * p2.toInt64)) + (((Int64.ofNat nb) * (Int64.ofNat na)) * p1.toInt64)) + ((((1024 : Int64) - (Int64.ofNat nb)) * (Int64.ofNat na)) * p3.toInt64))), .second] [(.double (FP.l2d ((((((Int64.ofNat nb) * ((1024 : Int64) - (Int64.ofNat na))) * p0.toInt64) + ((((1024 : Int64) - (Int64.ofNat nb)) * ((1024 : Int64) - (Int64.ofNat na))) * p2.toInt64)) + (((Int64.ofNat nb) * (Int64.ofNat na)) * p1.toInt64)) + ((((1024 : Int64) - (Int64.ofNat nb)) * (Int64.ofNat na)) * p3.toInt64)))), (.double (FP.dmul (own_weigh (FP.ddiv (FP.l2d (Int64.ofNat nb)) (4652218415073722368 : UInt64)) (FP.ddiv (FP.l2d (Int64.ofNat na)) (4652218415073722368 : UInt64)) (FP.i2d p0) (FP.i2d p1) (FP.i2d p2) (FP.i2d p3)) (4697254411347427328 : UInt64)))])) _
    refine own_scmp X55.here hx (z := (0 : Int32)) (hb hby at_133) (own_same RS RL) ?_
    show Steps p.tables e below (T55.setTop (mkF m 134 #[.val (.int p0), .val (.int p1), .val (.int p2), .val (.int p3), .val (.int p4), .val (.int p5), .val (.long (1024 : Int64)), .second, .val (.long (Int64.ofNat nb)), .second, .val (.long (Int64.ofNat na)), .second, .val (.ref b44), .val (.double (FP.ddiv (FP.l2d (Int64.ofNat nb)) (4652218415073722368 : UInt64))), .second, .val (.double (FP.ddiv (FP.l2d (Int64.ofNat na)) (4652218415073722368 : UInt64))), .second, .val (.double (own_weigh (FP.ddiv (FP.l2d (Int64.ofNat nb)) (4652218415073722368 : UInt64)) (FP.ddiv (FP.l2d (Int64.ofNat na)) (4652218415073722368 : UInt64)) (FP.i2d p0) (FP.i2d p1) (FP.i2d p2) (FP.i2d p3))), .second, .val (.long ((((((Int64.ofNat nb) * ((1024 : Int64) - (Int64.ofNat na))) * p0.toInt64) + ((((1024 : Int64) - (Int64.ofNat nb)) * ((1024 : Int64) - (Int64.ofNat na))) * p2.toInt64)) + (((Int64.ofNat nb) * (Int64.ofNat na)) * p1.toInt64)) + ((((1024 : Int64) - (Int64.ofNat nb)) * (Int64.ofNat na)) * p3.toInt64))), .second] [(.int (0 : Int32))])) _
    refine XS.ifNo X55.here hx rfl (hb hby at_134) rfl ((if0 _ _).trans (teq rfl).2) ?_
    show Steps p.tables e below (T55.setTop (mkF m 137 #[.val (.int p0), .val (.int p1), .val (.int p2), .val (.int p3), .val (.int p4), .val (.int p5), .val (.long (1024 : Int64)), .second, .val (.long (Int64.ofNat nb)), .second, .val (.long (Int64.ofNat na)), .second, .val (.ref b44), .val (.double (FP.ddiv (FP.l2d (Int64.ofNat nb)) (4652218415073722368 : UInt64))), .second, .val (.double (FP.ddiv (FP.l2d (Int64.ofNat na)) (4652218415073722368 : UInt64))), .second, .val (.double (own_weigh (FP.ddiv (FP.l2d (Int64.ofNat nb)) (4652218415073722368 : UInt64)) (FP.ddiv (FP.l2d (Int64.ofNat na)) (4652218415073722368 : UInt64)) (FP.i2d p0) (FP.i2d p1) (FP.i2d p2) (FP.i2d p3))), .second, .val (.long ((((((Int64.ofNat nb) * ((1024 : Int64) - (Int64.ofNat na))) * p0.toInt64) + ((((1024 : Int64) - (Int64.ofNat nb)) * ((1024 : Int64) - (Int64.ofNat na))) * p2.toInt64)) + (((Int64.ofNat nb) * (Int64.ofNat na)) * p1.toInt64)) + ((((1024 : Int64) - (Int64.ofNat nb)) * (Int64.ofNat na)) * p3.toInt64))), .second] [])) _
    refine XS.iconst X55.here hx rfl (hb hby at_137) ?_
    show Steps p.tables e below (T55.setTop (mkF m 138 #[.val (.int p0), .val (.int p1), .val (.int p2), .val (.int p3), .val (.int p4), .val (.int p5), .val (.long (1024 : Int64)), .second, .val (.long (Int64.ofNat nb)), .second, .val (.long (Int64.ofNat na)), .second, .val (.ref b44), .val (.double (FP.ddiv (FP.l2d (Int64.ofNat nb)) (4652218415073722368 : UInt64))), .second, .val (.double (FP.ddiv (FP.l2d (Int64.ofNat na)) (4652218415073722368 : UInt64))), .second, .val (.double (own_weigh (FP.ddiv (FP.l2d (Int64.ofNat nb)) (4652218415073722368 : UInt64)) (FP.ddiv (FP.l2d (Int64.ofNat na)) (4652218415073722368 : UInt64)) (FP.i2d p0) (FP.i2d p1) (FP.i2d p2) (FP.i2d p3))), .second, .val (.long ((((((Int64.ofNat nb) * ((1024 : Int64) - (Int64.ofNat na))) * p0.toInt64) + ((((1024 : Int64) - (Int64.ofNat nb)) * ((1024 : Int64) - (Int64.ofNat na))) * p2.toInt64)) + (((Int64.ofNat nb) * (Int64.ofNat na)) * p1.toInt64)) + ((((1024 : Int64) - (Int64.ofNat nb)) * (Int64.ofNat na)) * p3.toInt64))), .second] [(.int (1 : Int32))])) _
    refine XS.goto X55.here hx rfl (pc0 := 138) (pc' := 142) rfl (hb hby at_138) (by decide) (by decide) ?_
    show Steps p.tables e below (T55.setTop (mkF m 142 #[.val (.int p0), .val (.int p1), .val (.int p2), .val (.int p3), .val (.int p4), .val (.int p5), .val (.long (1024 : Int64)), .second, .val (.long (Int64.ofNat nb)), .second, .val (.long (Int64.ofNat na)), .second, .val (.ref b44), .val (.double (FP.ddiv (FP.l2d (Int64.ofNat nb)) (4652218415073722368 : UInt64))), .second, .val (.double (FP.ddiv (FP.l2d (Int64.ofNat na)) (4652218415073722368 : UInt64))), .second, .val (.double (own_weigh (FP.ddiv (FP.l2d (Int64.ofNat nb)) (4652218415073722368 : UInt64)) (FP.ddiv (FP.l2d (Int64.ofNat na)) (4652218415073722368 : UInt64)) (FP.i2d p0) (FP.i2d p1) (FP.i2d p2) (FP.i2d p3))), .second, .val (.long ((((((Int64.ofNat nb) * ((1024 : Int64) - (Int64.ofNat na))) * p0.toInt64) + ((((1024 : Int64) - (Int64.ofNat nb)) * ((1024 : Int64) - (Int64.ofNat na))) * p2.toInt64)) + (((Int64.ofNat nb) * (Int64.ofNat na)) * p1.toInt64)) + ((((1024 : Int64) - (Int64.ofNat nb)) * (Int64.ofNat na)) * p3.toInt64))), .second] [(.int (1 : Int32))])) _
    exact retN X55 hx (t := .boolean) Bd.returns (by simp) (hb hby at_142) hr
  · show Qrm0 Z p0 p1 p2 p3 p4 p5 h0 n0 _ T55.heap _
    rw [e55]
    exact ⟨rfl, N56⟩
set_option maxRecDepth 65536 in
set_option maxHeartbeats 40000000 in
theorem comes_1 {Post : Tables → Env → Array Value → State → Outcome → State → Prop} (hpost : ∀ tb e args s v u, (limb_1_1.after args s (.returned v) u = true ∧ limb_1_2.after args s (.returned v) u = true ∧ True) → FrameEnd s (.returned v) u (Jvm.fieldLocs frame_1_writes args s ++ Jvm.arrayLocs frame_1_arrays args s ++ Jvm.staticLocs frame_1_statics s) 16 128 → Post tb e args s (.returned v) u) :
    ArmFor flags0 classFile x code maxLocals ret World_1 tables_1 room_1 Calls_1 rest_1 Pre_1 Post := by
  intro l hfl _ _ p e ha hc hk s m args below hf hA hF happ hP
  obtain ⟨hcalls, hrest, hpre⟩ := hP
  obtain ⟨-, -, -, hnamed, -, -, -, hat⟩ := (Spec.applies_iff hf).mp happ
  obtain ⟨hg, hn⟩ := and_e (Cond.before_iff.mp (show (Jvm.Cond.and given_1 narrow_1).before args s = true from hpre))
  obtain ⟨hcount, hg0⟩ := and_e hg
  obtain ⟨ha0, hg1⟩ := and_e hg0
  obtain ⟨ha1, hg2⟩ := and_e hg1
  obtain ⟨ha2, hg3⟩ := and_e hg2
  obtain ⟨ha3, hg4⟩ := and_e hg3
  obtain ⟨ha4, hg5⟩ := and_e hg4
  have ha5 := hg5
  obtain ⟨w0, w1, w2, w3, w4, w5, rfl⟩ : ∃ w0 w1 w2 w3 w4 w5 : Value, args = #[w0, w1, w2, w3, w4, w5] := by
    have hs : args.size = 6 := by simpa [Cond.value, given_1] using hcount
    obtain ⟨L⟩ := args
    match L, hs with
    | [w0, w1, w2, w3, w4, w5], _ => exact ⟨w0, w1, w2, w3, w4, w5, rfl⟩
  have hw := fun d (hd : d ∈ tables_1) => atoms_spec (ws := Jvm.Cond.code x code maxLocals ret :: tables_1) hat d (List.mem_cons_of_mem _ hd)
  obtain ⟨i0, ei0⟩ := is_v ha0
  obtain rfl : w0 = (.int i0) := Option.some.inj ei0
  obtain ⟨i1, ei1⟩ := is_v ha1
  obtain rfl : w1 = (.int i1) := Option.some.inj ei1
  obtain ⟨i2, ei2⟩ := is_v ha2
  obtain rfl : w2 = (.int i2) := Option.some.inj ei2
  obtain ⟨i3, ei3⟩ := is_v ha3
  obtain rfl : w3 = (.int i3) := Option.some.inj ei3
  obtain ⟨i4, ei4⟩ := is_v ha4
  obtain rfl : w4 = (.int i4) := Option.some.inj ei4
  obtain ⟨i5, ei5⟩ := is_v ha5
  obtain rfl : w5 = (.int i5) := Option.some.inj ei5
  obtain ⟨n, o, h1, h2, h3, _, L, rfl, ⟨rfl, N⟩, hq⟩ := rm0 l s _ hw tables_1 i0 i1 i2 i3 i4 i5 s.heap s.heap.size (Nat.le_refl _)  p e ha hc hk s m _ below hf ((Spec.applies_iff_loose hf).mp happ).1 ⟨rfl, State.Warmed39.refl s, rfl⟩ trivial
  refine ⟨n, _, h1, h2, h3, hpost _ _ _ _ _ _ ⟨Cond.after_iff.mpr rfl, Cond.after_iff.mpr (eq_i res_at (Term.int_eval (1)) rfl), trivial⟩ ⟨hq.1, hq.2.1, (hq.2.2.sift fun y hy => Or.inr (N y hy)).mono (by decide) (by decide)⟩⟩
theorem main_1_1 : Claimed_1_1 := comes_1 fun _ _ _ _ _ _ h hF => ⟨h.1, hF⟩
theorem main_1_2 : Claimed_1_2 := comes_1 fun _ _ _ _ _ _ h hF => ⟨h.2.1, hF⟩
end Jvm.Pilot.@@N@@
namespace Jvm.Pilot.@@N@@
open Jvm Jvm.ClassFile Sem Op Lib Jvm.Free Jvm.Stand Jvm.Pilot.@@N@@.Jvm.D
/-! MADE BY PROGRAM (witnessworld.py) out of the Statement's table words and the real class files: 10 classes; the members and pool entries that the words name. The judged class is class 1, her method 1. -/
namespace start1
open Jvm.ClassFile
def u (s : String) : CpInfo := .utf8 (stringToUtf16 s)
/-- a pool by its gaps: so many unusable entries, then the entry; so many at the end -/
def gap : Nat → List CpInfo → List CpInfo
  | 0, r => r
  | n + 1, r => .unusable :: gap n r
def poolList (es : List (Nat × CpInfo)) (last : Nat) : List CpInfo := es.foldr (fun e r => gap e.1 (e.2 :: r)) (gap last [])
def pool (es : List (Nat × CpInfo)) (last : Nat) : Array CpInfo := ⟨poolList es last⟩
def fileOf (pool : Array CpInfo) (this : Nat) (attrs : Array Attribute := #[]) (ms : Array MethodInfo := #[]) (fl : Nat := 33) (sup : Nat := 0) (ifs : Array Nat := #[]) (fds : Array FieldInfo := #[]) : ClassFile where
  minorVersion := 0
  majorVersion := 65
  constantPool := pool
  accessFlags := fl
  thisClass := this
  superClass := sup
  interfaces := ifs
  fields := fds
  methods := ms
  attributes := attrs
def plain (name : String) (sup : Option ClassId) : Class where
  name := name
  kind := .ordinary
  loader := none
  accessFlags := 33
  super := sup
  interfaces := #[]
  cf := none
  fields := #[]
  methods := #[]
  instanceTypes := #[]
  staticTypes := #[]
  resolved := #[]
  callSites := []
  init := .initialized
  statics := none
  mirror := none

def pool0 : Array CpInfo := pool [(5, u "<init>"), (0, u "()V"), (1, .class_ 10), (1, u "java/lang/Object")] 113

def k0c0 : Code := { maxStack := 0, maxLocals := 1, code := object_method_1_code, exceptionTable := #[], attributes := #[] }
def k0m0 : Method := { name := "<init>", desc := "()V", sig := { parameters := [], returnType := none }, accessFlags := 1, code := some k0c0 }
/-- java/lang/Object -/
def k0 : Class := { plain "java/lang/Object" none with
  accessFlags := 33
  interfaces := #[]
  cf := some (fileOf pool0 8 #[] #[{ accessFlags := 1, nameIndex := 5, descriptorIndex := 6, attributes := #[] }] 33 0 #[] #[])
  fields := #[]
  methods := #[k0m0]
  instanceTypes := #[]
  staticTypes := #[]
  resolved := Array.replicate 124 none
  statics := none }

def pool1 : Array CpInfo := pool [(2, .class_ 4), (1, u "java/lang/Object"), (0, u "<init>"), (0, u "()V"), (0, .long 1024), (1, .integer 2147483647), (0, .class_ 11), (0, u "com/example/reshelve/reshelve/TargetBlocks"), (0, .methodref 10 13), (0, .nameAndType 5 14), (0, u "(DDDD)V"), (0, .double 4652218415073722368), (1, .methodref 10 18), (0, .nameAndType 19 20), (0, u "weighed"), (0, u "(DD)D"), (0, .double 4697254411347427328), (1, .class_ 24), (0, u "com/example/reshelve/reshelve/TargetBlocksWeighedPinLaw"), (2, u "law"), (0, u "(IIIIII)Z")] 3

def k1m0 : Method := { name := "<init>", desc := "()V", sig := { parameters := [], returnType := none }, accessFlags := 1, code := none }
def k1c1 : Code := { maxStack := 10, maxLocals := 21, code := code, exceptionTable := #[], attributes := #[] }
def k1m1 : Method := { name := "law", desc := "(IIIIII)Z", sig := { parameters := [.int, .int, .int, .int, .int, .int], returnType := some .boolean }, accessFlags := 9, code := some k1c1 }
/-- com/example/reshelve/reshelve/TargetBlocksWeighedPinLaw -/
def k1 : Class := { plain "com/example/reshelve/reshelve/TargetBlocksWeighedPinLaw" (some 0) with
  accessFlags := 49
  interfaces := #[]
  cf := some (fileOf pool1 23 #[] #[{ accessFlags := 1, nameIndex := 5, descriptorIndex := 6, attributes := #[] }, { accessFlags := 9, nameIndex := 27, descriptorIndex := 28, attributes := #[] }] 49 2 #[] #[])
  fields := #[]
  methods := #[k1m0, k1m1]
  instanceTypes := #[]
  staticTypes := #[]
  resolved := Array.replicate 32 none
  statics := none }

def pool2 : Array CpInfo := pool [(1, .methodref 2 3), (0, .class_ 4), (0, .nameAndType 5 6), (0, u "java/lang/Object"), (0, u "<init>"), (0, u "()V"), (0, .class_ 8), (0, u "java/lang/Record")] 13

def k2c0 : Code := { maxStack := 1, maxLocals := 1, code := jdk_30_method_1_code, exceptionTable := #[], attributes := #[] }
def k2m0 : Method := { name := "<init>", desc := "()V", sig := { parameters := [], returnType := none }, accessFlags := 4, code := some k2c0 }
/-- java/lang/Record -/
def k2 : Class := { plain "java/lang/Record" (some 0) with
  accessFlags := 1057
  interfaces := #[]
  cf := some (fileOf pool2 7 #[] #[{ accessFlags := 4, nameIndex := 5, descriptorIndex := 6, attributes := #[] }] 1057 2 #[] #[])
  fields := #[]
  methods := #[k2m0]
  instanceTypes := #[]
  staticTypes := #[]
  resolved := Array.replicate 22 none
  statics := none }

def pool3 : Array CpInfo := pool [(1, .methodref 2 3), (0, .class_ 4), (0, .nameAndType 5 6), (0, u "java/lang/Record"), (0, u "<init>"), (0, u "()V"), (0, .fieldref 8 9), (0, .class_ 10), (0, .nameAndType 11 12), (0, u "com/example/reshelve/reshelve/TargetBlocks"), (0, u "read"), (0, u "D"), (0, .fieldref 8 14), (0, .nameAndType 15 12), (0, u "foundAlone"), (0, .fieldref 8 17), (0, .nameAndType 18 12), (0, u "afresh"), (0, .fieldref 8 20), (0, .nameAndType 21 12), (0, u "afreshFoundAlone"), (2, u "(DDDD)V"), (14, u "NONE"), (0, u "Lcom/example/reshelve/reshelve/TargetBlocks;"), (5, u "weighed"), (0, u "(DD)D")] 28

def k3c0 : Code := { maxStack := 3, maxLocals := 9, code := prog_268_method_1_code, exceptionTable := #[], attributes := #[] }
def k3m0 : Method := { name := "<init>", desc := "(DDDD)V", sig := { parameters := [.double, .double, .double, .double], returnType := none }, accessFlags := 0, code := some k3c0 }
def k3c1 : Code := { maxStack := 6, maxLocals := 9, code := prog_268_method_3_code, exceptionTable := #[], attributes := #[] }
def k3m1 : Method := { name := "weighed", desc := "(DD)D", sig := { parameters := [.double, .double], returnType := some .double }, accessFlags := 0, code := some k3c1 }
/-- com/example/reshelve/reshelve/TargetBlocks -/
def k3 : Class := { plain "com/example/reshelve/reshelve/TargetBlocks" (some 2) with
  accessFlags := 48
  interfaces := #[]
  cf := some (fileOf pool3 8 #[] #[{ accessFlags := 0, nameIndex := 5, descriptorIndex := 24, attributes := #[] }, { accessFlags := 0, nameIndex := 46, descriptorIndex := 47, attributes := #[] }] 48 2 #[] #[{ accessFlags := 18, nameIndex := 11, descriptorIndex := 12, attributes := #[] }, { accessFlags := 18, nameIndex := 15, descriptorIndex := 12, attributes := #[] }, { accessFlags := 18, nameIndex := 18, descriptorIndex := 12, attributes := #[] }, { accessFlags := 18, nameIndex := 21, descriptorIndex := 12, attributes := #[] }, { accessFlags := 24, nameIndex := 39, descriptorIndex := 40, attributes := #[] }])
  fields := #[{ name := "read", type := .double, accessFlags := 18, slot := 0, constantValue := 0 }, { name := "foundAlone", type := .double, accessFlags := 18, slot := 1, constantValue := 0 }, { name := "afresh", type := .double, accessFlags := 18, slot := 2, constantValue := 0 }, { name := "afreshFoundAlone", type := .double, accessFlags := 18, slot := 3, constantValue := 0 }, { name := "NONE", type := (.object "com/example/reshelve/reshelve/TargetBlocks"), accessFlags := 24, slot := 0, constantValue := 0 }]
  methods := #[k3m0, k3m1]
  instanceTypes := #[.double, .double, .double, .double]
  staticTypes := #[(.object "com/example/reshelve/reshelve/TargetBlocks")]
  resolved := Array.replicate 76 none
  statics := none }

def pool4 : Array CpInfo := pool [(1, u "java/lang/Cloneable"), (0, .class_ 1), (0, u "java/lang/Object"), (0, .class_ 3)] 3

/-- java/lang/Cloneable -/
def k4 : Class := { plain "java/lang/Cloneable" (some 0) with
  accessFlags := 1537
  interfaces := #[]
  cf := some (fileOf pool4 2 #[] #[] 1537 4 #[] #[])
  fields := #[]
  methods := #[]
  instanceTypes := #[]
  staticTypes := #[]
  resolved := Array.replicate 8 none
  statics := none }

def pool5 : Array CpInfo := pool [(1, u "java/io/Serializable"), (0, .class_ 1), (0, u "java/lang/Object"), (0, .class_ 3)] 3

/-- java/io/Serializable -/
def k5 : Class := { plain "java/io/Serializable" (some 0) with
  accessFlags := 1537
  interfaces := #[]
  cf := some (fileOf pool5 2 #[] #[] 1537 4 #[] #[])
  fields := #[]
  methods := #[]
  instanceTypes := #[]
  staticTypes := #[]
  resolved := Array.replicate 8 none
  statics := none }

/-- the primitive byte -/
def k6 : Class := { plain "byte" none with kind := .primitive 'B', accessFlags := 0x411 }
/-- [B -/
def k7 : Class := { plain "[B" (some 0) with kind := .array 6 .byte, interfaces := #[4, 5], accessFlags := 1041 }

/-- the primitive int -/
def k8 : Class := { plain "int" none with kind := .primitive 'I', accessFlags := 0x411 }
/-- [I -/
def k9 : Class := { plain "[I" (some 0) with kind := .array 8 .int, interfaces := #[4, 5], accessFlags := 1041 }

def heap : Heap := #[]
def classes : Array Class := #[k0, k1, k2, k3, k4, k5, k6, k7, k8, k9]
def interned : List (Array UInt16 × Addr) := []
def slotsUsed : Nat := 0
def theMethod : MethodId := ⟨1, 1⟩
def args0 : Array Value := #[.int 1, .int 2, .int 3, .int 4, .int 5, .int 6]
def aboutOver (below : List Frame) : State where
  vm := { classes := classes, interned := interned.toArray }
  heap := heap
  slotsUsed := slotsUsed
  threads := #[{ frames := .invoking theMethod args0 :: below }]
def below0 : List Frame := [.native { method := ⟨0, 0⟩, args := #[] }]
def about1 : State := aboutOver below0
def p0 : Program := .bare "" "" ""
def e0 : Env := launch0.env 0 0 0
theorem w_frames : about1.frames = Frame.invoking theMethod args0 :: below0 := rfl
set_option maxRecDepth 65536 in
theorem w_args : argsFit about1.vm theMethod args0 = true := by decide +kernel
set_option maxRecDepth 65536 in
theorem w_heap : heapFits about1 = true := by decide +kernel
set_option maxRecDepth 65536 in
theorem w_runnable : about1.curStatus? = some .runnable := by decide +kernel
set_option maxRecDepth 65536 in
theorem w_alone : about1.alone = true := by decide +kernel
set_option maxRecDepth 65536 in
theorem w_named : about1.methodNamed? x = some theMethod := by decide +kernel
set_option maxRecDepth 65536 in
theorem w_hears : about1.hears theMethod below0 = true := by decide +kernel
set_option maxRecDepth 65536 in
theorem w_ripe : about1.ripe theMethod args0 below0 = true := by decide +kernel
theorem w_running : about1.status = .running := rfl
set_option maxRecDepth 65536 in
theorem w_room : about1.hasRoom e0.platform room_1 = true :=
  launch0.hasRoom_least _ room_1 (by decide +kernel) (by decide +kernel) (by decide +kernel) (by decide +kernel) (by decide +kernel) (by decide +kernel)
theorem allAtoms_all (ts : List Jvm.Cond) (a : Array Jvm.Value) (st : Jvm.State) : (allAtoms ts).before a st = ts.all (fun c => c.before a st) := by
  induction ts with
  | nil => rfl
  | cons c t ih =>
    show (Jvm.Cond.and c (allAtoms t)).before a st = _
    rw [Jvm.Cond.before_and, ih, List.all_cons]
def words1 : List Jvm.Cond := Jvm.Cond.code x code maxLocals ret :: tables_1
/-- a 'code' word, met by the world's own term for the bytes: nothing is compared byte by byte -/
theorem code_word {y : MethodName} {bytes : ByteArray} {mx : Nat} {rt : Option FieldType} {a : Array Value} {s : State} {m : MethodId} {meth : Method} {c : Code} (h1 : s.methodNamed? y = some m) (h2 : s.vm.method? m = some meth) (h3 : meth.code = some c) (h4 : c.code = bytes)
    (h5 : (c.maxLocals == mx && c.exceptionTable.isEmpty && decide (c.maxStack ≤ mostOperands) && decide (meth.sig.returnType = rt) && !meth.locks && decide (parseMethodDescriptor y.desc = some meth.sig)) = true) : (Jvm.Cond.code y bytes mx rt).before a s = true := by
  simp only [Bool.and_eq_true, beq_iff_eq, Bool.not_eq_true', decide_eq_true_eq] at h5
  obtain ⟨⟨⟨⟨⟨g1, g2⟩, g3⟩, g4⟩, g5⟩, g6⟩ := h5
  simp [Cond.before, Cond.holds, Cond.value, h1, h2, h3, h4, g1, g2, g3, g4, g5, g6]
def isCode : Jvm.Cond → Bool
  | .code _ _ _ _ => true
  | _ => false
theorem all_split {L : List Jvm.Cond} {P : Jvm.Cond → Bool} (h1 : L.all (fun c => isCode c || P c) = true) (h2 : ∀ c ∈ L.filter isCode, P c = true) : L.all P = true := by
  refine List.all_eq_true.mpr fun c hc => ?_
  have h := List.all_eq_true.mp h1 c hc
  rcases Bool.eq_false_or_eq_true (isCode c) with hi | hi
  · exact h2 c (List.mem_filter.mpr ⟨hc, hi⟩)
  · simpa [hi] using h
set_option maxRecDepth 65536 in
theorem w_c0 : (Jvm.Cond.code x code maxLocals ret).before args0 about1 = true := code_word (m := ⟨1, 1⟩) (meth := k1m1) (c := k1c1) (by decide +kernel) rfl rfl rfl (by decide +kernel)
set_option maxRecDepth 65536 in
theorem w_c1 : (Jvm.Cond.code ({ cls := "com/example/reshelve/reshelve/TargetBlocks", name := "<init>", desc := "(DDDD)V" } : Jvm.MethodName) prog_268_method_1_code (9 : Nat) (Option.none : Option Jvm.ClassFile.FieldType)).before args0 about1 = true := code_word (m := ⟨3, 0⟩) (meth := k3m0) (c := k3c0) (by decide +kernel) rfl rfl rfl (by decide +kernel)
set_option maxRecDepth 65536 in
theorem w_c2 : (Jvm.Cond.code ({ cls := "java/lang/Record", name := "<init>", desc := "()V" } : Jvm.MethodName) jdk_30_method_1_code (1 : Nat) (Option.none : Option Jvm.ClassFile.FieldType)).before args0 about1 = true := code_word (m := ⟨2, 0⟩) (meth := k2m0) (c := k2c0) (by decide +kernel) rfl rfl rfl (by decide +kernel)
set_option maxRecDepth 65536 in
theorem w_c3 : (Jvm.Cond.code ({ cls := "java/lang/Object", name := "<init>", desc := "()V" } : Jvm.MethodName) object_method_1_code (1 : Nat) (Option.none : Option Jvm.ClassFile.FieldType)).before args0 about1 = true := code_word (m := ⟨0, 0⟩) (meth := k0m0) (c := k0c0) (by decide +kernel) rfl rfl rfl (by decide +kernel)
set_option maxRecDepth 65536 in
theorem w_c4 : (Jvm.Cond.code ({ cls := "com/example/reshelve/reshelve/TargetBlocks", name := "weighed", desc := "(DD)D" } : Jvm.MethodName) prog_268_method_3_code (9 : Nat) (Option.some Jvm.ClassFile.FieldType.double)).before args0 about1 = true := code_word (m := ⟨3, 1⟩) (meth := k3m1) (c := k3c1) (by decide +kernel) rfl rfl rfl (by decide +kernel)
def codes1 : List Jvm.Cond := [Jvm.Cond.code x code maxLocals ret, Jvm.Cond.code ({ cls := "com/example/reshelve/reshelve/TargetBlocks", name := "<init>", desc := "(DDDD)V" } : Jvm.MethodName) prog_268_method_1_code (9 : Nat) (Option.none : Option Jvm.ClassFile.FieldType), Jvm.Cond.code ({ cls := "java/lang/Record", name := "<init>", desc := "()V" } : Jvm.MethodName) jdk_30_method_1_code (1 : Nat) (Option.none : Option Jvm.ClassFile.FieldType), Jvm.Cond.code ({ cls := "java/lang/Object", name := "<init>", desc := "()V" } : Jvm.MethodName) object_method_1_code (1 : Nat) (Option.none : Option Jvm.ClassFile.FieldType), Jvm.Cond.code ({ cls := "com/example/reshelve/reshelve/TargetBlocks", name := "weighed", desc := "(DD)D" } : Jvm.MethodName) prog_268_method_3_code (9 : Nat) (Option.some Jvm.ClassFile.FieldType.double)]
set_option maxRecDepth 65536 in
theorem codes_eq : words1.filter isCode = codes1 := rfl
theorem w_codes : ∀ c ∈ words1.filter isCode, c.before args0 about1 = true := by
  rw [codes_eq]
  intro c hc
  simp only [codes1, List.mem_cons, List.not_mem_nil, or_false] at hc
  rcases hc with rfl | rfl | rfl | rfl | rfl
  · exact w_c0
  · exact w_c1
  · exact w_c2
  · exact w_c3
  · exact w_c4
set_option maxRecDepth 65536 in
theorem w_t1 : (words1.take 24).all (fun c => isCode c || c.before args0 about1) = true := by decide +kernel
set_option maxRecDepth 65536 in
theorem w_t2 : (words1.drop 24).all (fun c => isCode c || c.before args0 about1) = true := by decide +kernel
theorem w_tables : (allAtoms (Jvm.Cond.code x code maxLocals ret :: tables_1)).before args0 about1 = true := by
  rw [allAtoms_all]
  show words1.all (fun c => c.before args0 about1) = true
  refine all_split ?_ w_codes
  rw [← List.take_append_drop 24 words1, List.all_append, w_t1, w_t2]
  rfl
set_option maxRecDepth 65536 in
theorem w_case : (Jvm.Cond.and given_1 narrow_1).before args0 about1 = true := by decide +kernel
theorem w_applies : (headSpec (Jvm.Cond.code x code maxLocals ret :: tables_1) room_1).applies x e0.platform about1 = true :=
  (Spec.applies_iff w_frames).mpr ⟨w_running, w_runnable, w_alone, w_named, w_hears, w_ripe, w_room, w_tables⟩
theorem atStart : AtStart classFile x code maxLocals ret World_1 tables_1 room_1 Calls_1 rest_1 Pre_1 launch0 p0 e0 about1 theMethod args0 below0 :=
  ⟨lists_1, trivial, launch0.admits_env _ _ _, launch0.least_env, fairChoices_fair.cas, fairChoices_fair.clock, w_frames, w_args, w_heap, w_applies, trivial, trivial, w_case⟩
end start1
theorem witness_1 : WitnessClaimed_1 := ⟨start1.p0, start1.e0, start1.about1, start1.theMethod, start1.args0, start1.below0, start1.atStart⟩
end Jvm.Pilot.@@N@@
