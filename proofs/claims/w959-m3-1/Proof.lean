import JvmDerived
import JvmDerived.Pilot.@@N@@Statement
import JvmDerived.Pilot.@@N@@Code
set_option linter.unusedVariables false
set_option linter.unusedSimpArgs false
namespace Jvm.RoadKit
open Sem ClassFile Op Lib Jvm.Stand Jvm.Free Jvm.LawKit
section New
variable {p : Program} {l : Launch} {e : Env} {R : Room} {s : State} {m : MethodId} {args : Array Value} {below : List Frame} {meth : Method} {c : Code} {T : State} {locs : List Loc} {cells slots : Nat}
theorem retI (X : Stand p l e R s m args below meth c T locs cells slots) (hx : p.tables.exec = Jvm.exec) {pc : Nat} {Ls : Array Slot} {z : Int32} {rest : List Value} (hret : meth.sig.returnType = some .int) (hd : decode c.code pc = .ok (.ireturn, 1)) {fs : List Frame}
    (hl : ∀ (f : JFrame) (acts : List Action), f.method = m → f.locked = none → f.entered = [] → (doReturn e (T.setTop f) acts (some (.int z))).1 = T.setFrames fs) : Steps p.tables e below (T.setTop (mkF m pc Ls (.int z :: rest))) (T.setFrames fs) := by
  have hm' : T.vm.method? m = some meth := X.method'
  have hn : narrow .int (.int z) = .int z := rfl
  show Steps p.tables e below (T.setTop { method := m, pc := pc, locals := Ls, stack := _ :: rest, locked := none }) _
  jvm_step X.here [X.here.top, hx, hd, hm', hret, hn]
  first | (intro acts; rw [hl _ acts rfl rfl rfl]) | rw [hl _ _ rfl rfl rfl]
  exact Steps.refl _
end New
end Jvm.RoadKit
namespace Jvm.Pilot.@@N@@
open Jvm Jvm.ClassFile Sem Op Lib Jvm.Free Jvm.Stand Jvm.LawKit Jvm.RoadKit Bundle Jvm.Pilot.@@N@@.Jvm.D
theorem joinS {tb : Tables} {e : Env} {below : List Frame} {A B t : State} (h1 : Steps tb e below B t → Steps tb e below A t) (h2 : Steps tb e below B t) : Steps tb e below A t := h1 h2
theorem mvMN {Z s : State} {a0 args : Array Value} {own host : String} {index : Nat} {y : MethodName} (hZ : Z.Warmed39 s.vm) (w : (Cond.methodLinkNest own index y host).before a0 Z = true) : (Cond.methodLinkNest own index y host).before args s = true := (Cond.methodLinkNest_wide hZ w :)
open Jvm.FP.Core (val64 val64_fits val64_dadd val64_dsub val64_dmul val64_ddiv val64_i2d val64_l2d signed b64 good_b64 roundRatio roundRatio_exact roundRatio_congr Datum inUnits sumUnits sumSign exactSum exactProduct negate)
/-- the double u is the number m * 2^e -/
def own_rep (u : UInt64) (m e : Int) : Prop := ∃ (s : Bool) (c : Nat) (q : Int), val64 u = .fin s c q ∧ q ≤ e ∧ signed s c = m * 2 ^ (e - q).toNat
theorem own_signed_abs (s : Bool) (c : Nat) : (signed s c).natAbs = c := by cases s <;> simp [signed]
theorem own_pow_split {a b : Int} (ha : 0 ≤ a) (hb : 0 ≤ b) : (2 : Int) ^ (a + b).toNat = 2 ^ a.toNat * 2 ^ b.toNat := by rw [Int.toNat_add ha hb, Int.pow_add]
theorem own_npow_split {a b : Int} (ha : 0 ≤ a) (hb : 0 ≤ b) : 2 ^ (a + b).toNat = 2 ^ a.toNat * 2 ^ b.toNat := by rw [Int.toNat_add ha hb, Nat.pow_add]
/-- rounding a number that is written with at most 53 digits -/
theorem own_rr {s : Bool} {A : Nat} {Q E m : Int} (hQ : Q ≤ E) (h : signed s A = m * 2 ^ (E - Q).toNat) (hm : m.natAbs < 2 ^ 53) (h1 : -900 ≤ E) (h2 : E ≤ 900) : ∃ (c : Nat) (q : Int), roundRatio b64 s A 1 Q = .fin s c q ∧ q ≤ E ∧ signed s c = m * 2 ^ (E - q).toNat := by
  have hA : A = m.natAbs * 2 ^ (E - Q).toNat := by
    have := congrArg Int.natAbs h
    rw [own_signed_abs, Int.natAbs_mul, Int.natAbs_pow] at this; exact this
  by_cases hm0 : m = 0
  · subst hm0
    have hA0 : A = 0 := by rw [hA]; simp
    subst hA0
    refine ⟨0, b64.qmin, by unfold roundRatio; rw [if_pos rfl], ?_, ?_⟩
    · show (-1074 : Int) ≤ E; omega
    · cases s <;> simp [signed]
  · have hN : 0 < m.natAbs := Int.natAbs_pos.mpr hm0
    generalize hNN : m.natAbs = N at *
    have hl : N.log2 < 53 := (Nat.log2_lt (by omega)).mpr hm
    have l1 : 2 ^ N.log2 ≤ N := Nat.log2_self_le (by omega)
    have l2 : N < 2 ^ (N.log2 + 1) := Nat.lt_log2_self
    have hj : 52 - N.log2 + N.log2 = 52 := by omega
    generalize N.log2 = L at *
    have c1 : N * 2 ^ (52 - L) < 2 ^ 53 := by
      have : N * 2 ^ (52 - L) < 2 ^ (L + 1) * 2 ^ (52 - L) := Nat.mul_lt_mul_of_pos_right l2 (Nat.two_pow_pos _)
      rw [← Nat.pow_add, show L + 1 + (52 - L) = 53 by omega] at this; exact this
    have c2 : 2 ^ 52 ≤ N * 2 ^ (52 - L) := by
      have : 2 ^ L * 2 ^ (52 - L) ≤ N * 2 ^ (52 - L) := Nat.mul_le_mul_right _ l1
      rw [← Nat.pow_add, show L + (52 - L) = 52 by omega] at this; exact this
    have hfit : Jvm.FP.Core.fits b64 (.fin s (N * 2 ^ (52 - L)) (E - ((52 - L : Nat) : Int))) := by
      refine ⟨c1, ?_, ?_, Or.inr c2⟩
      · show (-1074 : Int) ≤ _; omega
      · show _ ≤ (971 : Int); omega
    have hq : E - ((52 - L : Nat) : Int) ≤ E := by omega
    have e52 : (E - (E - ((52 - L : Nat) : Int))).toNat = 52 - L := by omega
    refine ⟨_, _, roundRatio_exact good_b64 (by decide) hfit ?_, hq, ?_⟩
    · rw [hA, Nat.mul_one]
      by_cases z : Q ≤ E - ((52 - L : Nat) : Int)
      · rw [show (Q - (E - ((52 - L : Nat) : Int))).toNat = 0 by omega, Nat.pow_zero, Nat.mul_one]
        rw [show E - Q = ((52 - L : Nat) : Int) + ((E - ((52 - L : Nat) : Int)) - Q) by omega, own_npow_split (by omega) (by omega), Int.toNat_natCast, Nat.mul_assoc]
      · rw [show ((E - ((52 - L : Nat) : Int)) - Q).toNat = 0 by omega, Nat.pow_zero, Nat.mul_one, Nat.mul_assoc, ← own_npow_split (by omega) (by omega)]
        rw [show (E - Q + (Q - (E - ((52 - L : Nat) : Int)))).toNat = 52 - L by omega]
    · rw [e52]
      have hs : signed s A = m * 2 ^ (E - Q).toNat := h
      have hp : (0 : Int) < 2 ^ (E - Q).toNat := Int.pow_pos (by decide)
      cases s with
      | false =>
        have : 0 ≤ m := by
          have h0 : (0 : Int) ≤ m * 2 ^ (E - Q).toNat := by rw [← hs]; simp [signed]
          exact Int.le_of_not_gt fun q => absurd (Int.mul_neg_of_neg_of_pos q hp) (by omega)
        have e : ((m.natAbs : Nat) : Int) = m := Int.natAbs_of_nonneg this
        show ((N * 2 ^ (52 - L) : Nat) : Int) = _
        rw [← hNN, Int.natCast_mul, e, Int.natCast_pow]; rfl
      | true =>
        have : m ≤ 0 := by
          have h0 : m * 2 ^ (E - Q).toNat ≤ 0 := by rw [← hs]; simp [signed]
          exact Int.le_of_not_gt fun q => absurd (Int.mul_pos q hp) (by omega)
        have e : ((m.natAbs : Nat) : Int) = -m := Int.ofNat_natAbs_of_nonpos this
        show -((N * 2 ^ (52 - L) : Nat) : Int) = _
        rw [← hNN, Int.natCast_mul, e, Int.natCast_pow, Int.neg_mul, Int.neg_neg]; rfl
theorem own_rep.no {u : UInt64} {m e : Int} (h : own_rep u m e) : val64 u ≠ .nan := by
  obtain ⟨s, c, q, h1, -⟩ := h; rw [h1]; intro z; cases z
theorem own_ofInt {i : Int} : signed (decide (i < 0)) i.natAbs = i * 2 ^ ((0 : Int) - 0).toNat := by
  by_cases h : i < 0
  · simp [signed, h]; omega
  · simp [signed, h]; omega
theorem own_i2d (n : Int32) : own_rep (FP.i2d n) n.toInt 0 := by
  obtain ⟨c, q, h1, h2, h3⟩ := own_rr (E := 0) (Q := 0) (Int.le_refl _) (own_ofInt (i := n.toInt)) (by have := Int32.le_toInt n; have := Int32.toInt_lt n; omega) (by decide) (by decide)
  exact ⟨_, c, q, (val64_i2d n).trans h1, h2, h3⟩
theorem own_l2d (n : Int64) (hn : n.toInt.natAbs < 2 ^ 53) : own_rep (FP.l2d n) n.toInt 0 := by
  obtain ⟨c, q, h1, h2, h3⟩ := own_rr (E := 0) (Q := 0) (Int.le_refl _) (own_ofInt (i := n.toInt)) hn (by decide) (by decide)
  exact ⟨_, c, q, (val64_l2d n).trans h1, h2, h3⟩
theorem own_signed_mul (s t : Bool) (c d : Nat) : signed (s != t) (c * d) = signed s c * signed t d := by cases s <;> cases t <;> simp [signed, Int.mul_neg, Int.neg_mul]
theorem own_dmul {a b : UInt64} {m m' e e' : Int} (ha : own_rep a m e) (hb : own_rep b m' e') (hm : (m * m').natAbs < 2 ^ 53) (h1 : -900 ≤ e + e') (h2 : e + e' ≤ 900) : own_rep (FP.dmul a b) (m * m') (e + e') := by
  obtain ⟨s, c, q, v1, q1, w1⟩ := ha
  obtain ⟨t, d, r, v2, q2, w2⟩ := hb
  obtain ⟨c', q', h3, h4, h5⟩ := own_rr (s := (s != t)) (A := c * d) (Q := q + r) (E := e + e') (m := m * m') (by omega) (by
    rw [own_signed_mul, w1, w2, show e + e' - (q + r) = (e - q) + (e' - r) by omega, own_pow_split (by omega) (by omega)]; ac_rfl) hm h1 h2
  refine ⟨_, c', q', (val64_dmul a b).trans ?_, h4, h5⟩
  rw [v1, v2]; exact h3
theorem own_inUnits {s : Bool} {c : Nat} {q e k m : Int} (w : signed s c = m * 2 ^ (e - q).toNat) (h1 : q ≤ e) (h2 : k ≤ q) : signed s (inUnits c q k) = m * 2 ^ (e - k).toNat := by
  have : signed s (inUnits c q k) = signed s c * 2 ^ (q - k).toNat := by
    unfold inUnits; cases s <;> simp [signed, Int.natCast_mul, Int.neg_mul]
  rw [this, w, show e - k = (e - q) + (q - k) by omega, own_pow_split (by omega) (by omega), Int.mul_assoc]
theorem own_sumSign (s t : Bool) (v : Int) : signed (sumSign s t v) v.natAbs = v := by
  unfold sumSign
  by_cases h : v = 0
  · subst h; cases s <;> cases t <;> simp [signed]
  · rw [if_neg h]
    by_cases h' : v < 0
    · simp [signed, h']; omega
    · simp [signed, h']; omega
theorem own_dadd {a b : UInt64} {m m' e : Int} (ha : own_rep a m e) (hb : own_rep b m' e) (hm : (m + m').natAbs < 2 ^ 53) (h1 : -900 ≤ e) (h2 : e ≤ 900) : own_rep (FP.dadd a b) (m + m') e := by
  obtain ⟨s, c, q, v1, q1, w1⟩ := ha
  obtain ⟨t, d, r, v2, q2, w2⟩ := hb
  have hk1 : min q r ≤ q := Int.min_le_left _ _
  have hk2 : min q r ≤ r := Int.min_le_right _ _
  have hv : sumUnits s c q t d r (min q r) = (m + m') * 2 ^ (e - min q r).toNat := by
    unfold sumUnits; rw [own_inUnits w1 q1 hk1, own_inUnits w2 q2 hk2, Int.add_mul]
  obtain ⟨c', q', h3, h4, h5⟩ := own_rr (s := sumSign s t (sumUnits s c q t d r (min q r))) (A := (sumUnits s c q t d r (min q r)).natAbs) (Q := min q r) (E := e) (m := m + m') (by omega) ((own_sumSign _ _ _).trans hv) hm h1 h2
  refine ⟨_, c', q', (val64_dadd a b).trans ?_, h4, h5⟩
  rw [v1, v2]; exact h3
theorem own_dsub {a b : UInt64} {m m' e : Int} (ha : own_rep a m e) (hb : own_rep b m' e) (hm : (m - m').natAbs < 2 ^ 53) (h1 : -900 ≤ e) (h2 : e ≤ 900) : own_rep (FP.dsub a b) (m - m') e := by
  obtain ⟨s, c, q, v1, q1, w1⟩ := ha
  obtain ⟨t, d, r, v2, q2, w2⟩ := hb
  have hk1 : min q r ≤ q := Int.min_le_left _ _
  have hk2 : min q r ≤ r := Int.min_le_right _ _
  have w2' : signed (!t) d = (-m') * 2 ^ (e - r).toNat := by
    rw [Int.neg_mul, ← w2]; cases t <;> simp [signed]
  have hv : sumUnits s c q (!t) d r (min q r) = (m - m') * 2 ^ (e - min q r).toNat := by
    unfold sumUnits; rw [own_inUnits w1 q1 hk1, own_inUnits w2' q2 hk2, ← Int.add_mul]; rfl
  obtain ⟨c', q', h3, h4, h5⟩ := own_rr (s := sumSign s (!t) (sumUnits s c q (!t) d r (min q r))) (A := (sumUnits s c q (!t) d r (min q r)).natAbs) (Q := min q r) (E := e) (m := m - m') (by omega) ((own_sumSign _ _ _).trans hv) hm h1 h2
  refine ⟨_, c', q', (val64_dsub a b).trans ?_, h4, h5⟩
  rw [v1, v2]; exact h3
/-- division by 2^k: the divisor's significand is 2^52 -/
theorem own_ddiv {a b : UInt64} {m e k : Int} (ha : own_rep a m e) (hb : val64 b = .fin false (2 ^ 52) (k - 52)) (hm : m.natAbs < 2 ^ 53) (h1 : -900 ≤ e - k) (h2 : e - k ≤ 900) : own_rep (FP.ddiv a b) m (e - k) := by
  obtain ⟨s, c, q, v1, q1, w1⟩ := ha
  obtain ⟨c', q', h3, h4, h5⟩ := own_rr (s := s) (A := c) (Q := q - k) (E := e - k) (m := m) (by omega) (by rw [w1, show e - k - (q - k) = e - q by omega]) hm h1 h2
  refine ⟨_, c', q', (val64_ddiv a b).trans ?_, h4, h5⟩
  rw [v1, hb]
  have e0 : FP.Core.quotient b64 (.fin s c q) (.fin false (2 ^ 52) (k - 52)) = roundRatio b64 (s != false) c (2 ^ 52) (q - (k - 52)) := by
    simp only [FP.Core.quotient]; rw [if_neg (by decide)]
  rw [e0, roundRatio_congr (A' := c) (B' := 1) (e' := q - k) (by decide) (by decide) (by
    rw [show (q - (k - 52) - (q - k)).toNat = 52 by omega, show ((q - k) - (q - (k - 52))).toNat = 0 by omega]; simp)]
  cases s <;> exact h3
theorem own_dcmp {a b : UInt64} {m m' e : Int} (ha : own_rep a m e) (hb : own_rep b m' e) : FP.dcmp a b = some (compare m m') := by
  obtain ⟨s, c, q, v1, q1, w1⟩ := ha
  obtain ⟨t, d, r, v2, q2, w2⟩ := hb
  have hk1 : min q r ≤ q := Int.min_le_left _ _
  have hk2 : min q r ≤ r := Int.min_le_right _ _
  show Jvm.FP.Core.order (val64 a) (val64 b) = _
  rw [v1, v2]
  show some (compare (signed s (inUnits c q (min q r))) (signed t (inUnits d r (min q r)))) = _
  rw [own_inUnits w1 q1 hk1, own_inUnits w2 q2 hk2]
  have hp : (0 : Int) < 2 ^ (e - min q r).toNat := Int.pow_pos (by decide)
  generalize (2 : Int) ^ (e - min q r).toNat = P at hp
  congr 1
  rcases Int.lt_trichotomy m m' with z | z | z
  · rw [(Int.compare_eq_lt).mpr z, (Int.compare_eq_lt).mpr (Int.mul_lt_mul_of_pos_right z hp)]
  · subst z; rw [(Int.compare_eq_eq).mpr rfl, (Int.compare_eq_eq).mpr rfl]
  · rw [(Int.compare_eq_gt).mpr z, (Int.compare_eq_gt).mpr (Int.mul_lt_mul_of_pos_right z hp)]
section OwnD
variable {tb : Tables} [Ours tb] {e : Env} {below : List Frame} {T target : State} {m : MethodId} {c : Code} {pc : Nat} {Ls : Array Slot} {rest : List Value} {x y : UInt64}
theorem own_sadd (h : At T m c below) (hx : tb.exec = Jvm.exec) (hd : decode c.code pc = .ok (.dadd, 1)) (hn : Jvm.Free.Fl.NoNaN64 (FP.dadd x y)) (hr : Steps tb e below (T.setTop (mkF m (pc + 1) Ls (.double (FP.dadd x y) :: rest))) target) : Steps tb e below (T.setTop (mkF m pc Ls (.double y :: .double x :: rest))) target := by
  jvm_step h [h.top, hx, hd, Op.dadd.at_number h.top hn]
  exact hr
theorem own_ssub (h : At T m c below) (hx : tb.exec = Jvm.exec) (hd : decode c.code pc = .ok (.dsub, 1)) (hn : Jvm.Free.Fl.NoNaN64 (FP.dsub x y)) (hr : Steps tb e below (T.setTop (mkF m (pc + 1) Ls (.double (FP.dsub x y) :: rest))) target) : Steps tb e below (T.setTop (mkF m pc Ls (.double y :: .double x :: rest))) target := by
  jvm_step h [h.top, hx, hd, Op.dsub.at_number h.top hn]
  exact hr
theorem own_smul (h : At T m c below) (hx : tb.exec = Jvm.exec) (hd : decode c.code pc = .ok (.dmul, 1)) (hn : Jvm.Free.Fl.NoNaN64 (FP.dmul x y)) (hr : Steps tb e below (T.setTop (mkF m (pc + 1) Ls (.double (FP.dmul x y) :: rest))) target) : Steps tb e below (T.setTop (mkF m pc Ls (.double y :: .double x :: rest))) target := by
  jvm_step h [h.top, hx, hd, Op.dmul.at_number h.top hn]
  exact hr
theorem own_sdiv (h : At T m c below) (hx : tb.exec = Jvm.exec) (hd : decode c.code pc = .ok (.ddiv, 1)) (hn : Jvm.Free.Fl.NoNaN64 (FP.ddiv x y)) (hr : Steps tb e below (T.setTop (mkF m (pc + 1) Ls (.double (FP.ddiv x y) :: rest))) target) : Steps tb e below (T.setTop (mkF m pc Ls (.double y :: .double x :: rest))) target := by
  jvm_step h [h.top, hx, hd, Op.ddiv.at_number h.top hn]
  exact hr
theorem own_si2d (h : At T m c below) (hx : tb.exec = Jvm.exec) {n : Int32} (hd : decode c.code pc = .ok (.i2d, 1)) (hr : Steps tb e below (T.setTop (mkF m (pc + 1) Ls (.double (FP.i2d n) :: rest))) target) : Steps tb e below (T.setTop (mkF m pc Ls (.int n :: rest))) target := by
  jvm_step h [h.top, hx, hd]
  exact hr
theorem own_sl2d (h : At T m c below) (hx : tb.exec = Jvm.exec) {n : Int64} (hd : decode c.code pc = .ok (.l2d, 1)) (hr : Steps tb e below (T.setTop (mkF m (pc + 1) Ls (.double (FP.l2d n) :: rest))) target) : Steps tb e below (T.setTop (mkF m pc Ls (.long n :: rest))) target := by
  jvm_step h [h.top, hx, hd]
  exact hr
theorem own_sone (h : At T m c below) (hx : tb.exec = Jvm.exec) (hd : decode c.code pc = .ok (.dconst 1, 1)) (hr : Steps tb e below (T.setTop (mkF m (pc + 1) Ls (.double (4607182418800017408 : UInt64) :: rest))) target) : Steps tb e below (T.setTop (mkF m pc Ls rest)) target := by
  jvm_step h [h.top, hx, hd]
  exact hr
theorem own_szero (h : At T m c below) (hx : tb.exec = Jvm.exec) (hd : decode c.code pc = .ok (.dconst 0, 1)) (hr : Steps tb e below (T.setTop (mkF m (pc + 1) Ls (.double (0 : UInt64) :: rest))) target) : Steps tb e below (T.setTop (mkF m pc Ls rest)) target := by
  jvm_step h [h.top, hx, hd]
  exact hr
theorem own_sload (h : At T m c below) (hx : tb.exec = Jvm.exec) {k : Nat} (hd : decode c.code pc = .ok (.dload k, 2)) (hl : Ls[k]? = some (.val (.double x))) (hr : Steps tb e below (T.setTop (mkF m (pc + 2) Ls (.double x :: rest))) target) : Steps tb e below (T.setTop (mkF m pc Ls rest)) target := by
  jvm_step h [h.top, hx, hd, hl]
  exact hr
theorem own_sloadN (h : At T m c below) (hx : tb.exec = Jvm.exec) {k : Fin 4} (hd : decode c.code pc = .ok (.dload_n k, 1)) (hl : Ls[k.val]? = some (.val (.double x))) (hr : Steps tb e below (T.setTop (mkF m (pc + 1) Ls (.double x :: rest))) target) : Steps tb e below (T.setTop (mkF m pc Ls rest)) target := by
  jvm_step h [h.top, hx, hd, hl]
  exact hr
theorem own_sstore (h : At T m c below) (hx : tb.exec = Jvm.exec) {k : Nat} {l' : Array Slot} (hd : decode c.code pc = .ok (.dstore k, 2)) (hl : storeLocals Ls k (.double x) = some l') (hr : Steps tb e below (T.setTop (mkF m (pc + 2) l' rest)) target) : Steps tb e below (T.setTop (mkF m pc Ls (.double x :: rest))) target := by
  jvm_step h [h.top, hx, hd, hl]
  exact hr
theorem own_sstoreN (h : At T m c below) (hx : tb.exec = Jvm.exec) {k : Fin 4} {l' : Array Slot} (hd : decode c.code pc = .ok (.dstore_n k, 1)) (hl : storeLocals Ls k.val (.double x) = some l') (hr : Steps tb e below (T.setTop (mkF m (pc + 1) l' rest)) target) : Steps tb e below (T.setTop (mkF m pc Ls (.double x :: rest))) target := by
  jvm_step h [h.top, hx, hd, hl]
  exact hr
theorem own_scmp (h : At T m c below) (hx : tb.exec = Jvm.exec) {k : CmpOp} {z : Int32} (hd : decode c.code pc = .ok (.dcmp k, 1)) (hz : cmpValue (FP.dcmp x y) k = z) (hr : Steps tb e below (T.setTop (mkF m (pc + 1) Ls (.int z :: rest))) target) : Steps tb e below (T.setTop (mkF m pc Ls (.double y :: .double x :: rest))) target := by
  subst hz
  jvm_step h [h.top, hx, hd]
  exact hr
end OwnD
/-- two numbers of different units compared -/
theorem own_dcmp2 {a b : UInt64} {m m' e e' : Int} (ha : own_rep a m e) (hb : own_rep b m' e') (he : e ≤ e') : FP.dcmp a b = some (compare m (m' * 2 ^ (e' - e).toNat)) := by
  obtain ⟨s, c, q, v1, q1, w1⟩ := ha
  obtain ⟨t, d, r, v2, q2, w2⟩ := hb
  have hk1 : min q r ≤ q := Int.min_le_left _ _
  have hk2 : min q r ≤ r := Int.min_le_right _ _
  show Jvm.FP.Core.order (val64 a) (val64 b) = _
  rw [v1, v2]
  show some (compare (signed s (inUnits c q (min q r))) (signed t (inUnits d r (min q r)))) = _
  rw [own_inUnits w1 q1 hk1, own_inUnits w2 q2 hk2, show e' - min q r = (e' - e) + (e - min q r) by omega, own_pow_split (by omega) (by omega), ← Int.mul_assoc]
  have hp : (0 : Int) < 2 ^ (e - min q r).toNat := Int.pow_pos (by decide)
  generalize (2 : Int) ^ (e - min q r).toNat = P at hp
  generalize m' * 2 ^ (e' - e).toNat = n
  congr 1
  rcases Int.lt_trichotomy m n with z | z | z
  · rw [(Int.compare_eq_lt).mpr z, (Int.compare_eq_lt).mpr (Int.mul_lt_mul_of_pos_right z hp)]
  · subst z; rw [(Int.compare_eq_eq).mpr rfl, (Int.compare_eq_eq).mpr rfl]
  · rw [(Int.compare_eq_gt).mpr z, (Int.compare_eq_gt).mpr (Int.mul_lt_mul_of_pos_right z hp)]
abbrev own_ONE : UInt64 := 4607182418800017408
theorem own_one0 : own_rep own_ONE 1 0 := ⟨false, 2 ^ 52, -52, by decide +kernel, by decide, by decide⟩
theorem own_one52 : own_rep own_ONE (2 ^ 52) (-52) := ⟨false, 2 ^ 52, -52, by decide +kernel, by decide, by decide⟩
theorem own_zero {e : Int} (h : -1074 ≤ e) : own_rep (0 : UInt64) 0 e := ⟨false, 0, -1074, by decide +kernel, h, by simp [signed]⟩
theorem own_raise0 {u : UInt64} {e e' : Int} (h : own_rep u 0 e) (he : e ≤ e') : own_rep u 0 e' := by
  obtain ⟨s, c, q, v1, q1, w1⟩ := h
  exact ⟨s, c, q, v1, by omega, by rw [w1]; simp⟩
/-- 1 - d * 2^-53 -/
theorem own_one_sub {b : UInt64} {d : Int} (hb : own_rep b d (-53)) (h0 : 0 < d) (h1 : d < 2 ^ 53) : own_rep (FP.dsub own_ONE b) (2 ^ 53 - d) (-53) := by
  obtain ⟨t, c, r, v2, q2, w2⟩ := hb
  have v1 : val64 own_ONE = .fin false (2 ^ 52) (-52) := by decide +kernel
  have hk : min (-52) r = r := by omega
  have w1 : signed false (2 ^ 52) = 1 * 2 ^ ((0 : Int) - (-52)).toNat := by decide
  have w2' : signed (!t) c = (-d) * 2 ^ (-53 - r).toNat := by
    rw [Int.neg_mul, ← w2]; cases t <;> simp [signed]
  have hv : sumUnits false (2 ^ 52) (-52) (!t) c r (min (-52) r) = (2 ^ 53 - d) * 2 ^ (-53 - r).toNat := by
    rw [hk]; unfold sumUnits
    rw [own_inUnits w1 (by decide) (by omega), own_inUnits w2' q2 (Int.le_refl _), show (0 : Int) - r = 53 + (-53 - r) by omega, own_pow_split (by decide) (by omega), Int.one_mul, ← Int.add_mul]; rfl
  obtain ⟨c', q', h3, h4, h5⟩ := own_rr (s := sumSign false (!t) (sumUnits false (2 ^ 52) (-52) (!t) c r (min (-52) r))) (A := (sumUnits false (2 ^ 52) (-52) (!t) c r (min (-52) r)).natAbs) (Q := r) (E := -53) (m := 2 ^ 53 - d) q2 ((own_sumSign _ _ _).trans hv) (by omega) (by decide) (by decide)
  refine ⟨_, c', q', (val64_dsub own_ONE b).trans ?_, h4, h5⟩
  rw [v1, v2]
  show roundRatio b64 _ _ 1 (min (-52) r) = _
  rw [hk]; rw [hk] at h3; exact h3
theorem own_mask (n k : Int32) (hk : 0 ≤ k.toInt) : 0 ≤ (n &&& k).toInt ∧ (n &&& k).toInt ≤ k.toInt := by
  have mk : k.toBitVec.msb = false := by
    rw [← Int32.toInt_toBitVec] at hk
    rw [BitVec.msb_eq_toInt]; simpa using hk
  have e1 : (n &&& k).toInt = ((n.toBitVec &&& k.toBitVec).toNat : Int) := by
    rw [← Int32.toInt_toBitVec, Int32.toBitVec_and, BitVec.toInt_eq_toNat_of_msb]
    rw [BitVec.msb_and, mk, Bool.and_false]
  have e2 : k.toInt = (k.toBitVec.toNat : Int) := by rw [← Int32.toInt_toBitVec, BitVec.toInt_eq_toNat_of_msb mk]
  rw [e1, e2, BitVec.toNat_and]
  have := @Nat.and_le_right n.toBitVec.toNat k.toBitVec.toNat
  omega
theorem own_d (n : Int32) : 0 ≤ (n &&& (255 : Int32)).toInt ∧ (n &&& (255 : Int32)).toInt ≤ 255 := own_mask n 255 (by decide)
theorem own_tn (n : Int32) : 0 < ((n &&& (65535 : Int32)) + (1 : Int32)).toInt ∧ ((n &&& (65535 : Int32)) + (1 : Int32)).toInt ≤ 65536 := by
  have h := own_mask n 65535 (by decide)
  rw [show (65535 : Int32).toInt = 65535 by decide] at h
  rw [Int32.toInt_add, show (1 : Int32).toInt = 1 by decide, Int.bmod_eq_of_le (by omega) (by omega)]
  omega
open Jvm.Free.Fl (NoNaN64 Fin64)
def own_Tp (T : UInt64) (t : Int32) : Prop := FP.dcmp T 0 = some .gt ∧ Fin64 T ∧ ((t = 0 ∧ cmpValue (FP.dcmp T own_ONE) .l ≠ 0) ∨ (t = 1 ∧ cmpValue (FP.dcmp T own_ONE) .l = 0))
def own_Op (O : UInt64) (k : Int32) : Prop := NoNaN64 O ∧ FP.dcmp O 9218868437227405312 = some .lt ∧ ((k = 0 ∧ cmpValue (FP.dcmp O 18442240474082181120) .l ≠ 0) ∨ (k = 1 ∧ cmpValue (FP.dcmp O 18442240474082181120) .l = 0))
theorem own_Tp_ite {P : Prop} [Decidable P] {T T' : UInt64} {t t' : Int32} (h : own_Tp T t) (h' : own_Tp T' t') : own_Tp (if P then T else T') (if P then t else t') := by
  by_cases p : P
  · rw [if_pos p, if_pos p]; exact h
  · rw [if_neg p, if_neg p]; exact h'
theorem own_Op_ite {P : Prop} [Decidable P] {T T' : UInt64} {t t' : Int32} (h : own_Op T t) (h' : own_Op T' t') : own_Op (if P then T else T') (if P then t else t') := by
  by_cases p : P
  · rw [if_pos p, if_pos p]; exact h
  · rw [if_neg p, if_neg p]; exact h'
theorem own_finite {u : UInt64} {m e : Int} (h : own_rep u m e) : Fin64 u := by
  obtain ⟨s, c, q, h1, -⟩ := h
  exact Jvm.Free.Fl.fin64_core.mpr ⟨s, c, q, h1⟩
theorem own_cmpne {a b : Int} (h : a ≠ b) : cmpValue (some (compare a b)) .l ≠ 0 := by
  rcases Int.lt_or_gt_of_ne h with z | z
  · rw [(Int.compare_eq_lt).mpr z]; decide
  · rw [(Int.compare_eq_gt).mpr z]; decide
/-- a temperature that is m * 2^e -/
theorem own_Tp_of {T : UInt64} {m e n : Int} {t : Int32} (R : own_rep T m e) (hm : 0 < m) (h1 : -1074 ≤ e) (h2 : e ≤ 0) (hn : (2 : Int) ^ (0 - e).toNat = n) (h : (t = 0 ∧ m ≠ n) ∨ (t = 1 ∧ m = n)) : own_Tp T t := by
  refine ⟨?_, own_finite R, ?_⟩
  · rw [own_dcmp R (own_zero h1), (Int.compare_eq_gt).mpr hm]
  · rw [own_dcmp2 R own_one0 h2, Int.one_mul, hn]
    rcases h with ⟨q, z⟩ | ⟨q, z⟩
    · exact Or.inl ⟨q, own_cmpne z⟩
    · exact Or.inr ⟨q, by rw [z, (Int.compare_eq_eq).mpr rfl]; rfl⟩
theorem own_ifz {a b : Int32} {t : Int32} (h : t = if a = b then (1 : Int32) else (0 : Int32)) : (t = 0 ∧ a.toInt ≠ b.toInt) ∨ (t = 1 ∧ a.toInt = b.toInt) := by
  by_cases p : a = b
  · rw [if_pos p] at h; exact Or.inr ⟨h, congrArg _ p⟩
  · rw [if_neg p] at h; exact Or.inl ⟨h, fun q => p (Int32.toInt_inj.mp q)⟩
theorem own_R0 (p : Int32) : own_rep (FP.ddiv (FP.i2d ((p &&& (65535 : Int32)) + (1 : Int32))) (4616189618054758400 : UInt64)) ((p &&& (65535 : Int32)) + (1 : Int32)).toInt (0 - 2) := own_ddiv (own_i2d _) (by decide +kernel) (by have := own_tn p; omega) (by decide) (by decide)
theorem own_T0 {p t : Int32} (h : t = if ((p &&& (65535 : Int32)) + (1 : Int32)) = (4 : Int32) then (1 : Int32) else (0 : Int32)) : own_Tp (FP.ddiv (FP.i2d ((p &&& (65535 : Int32)) + (1 : Int32))) (4616189618054758400 : UInt64)) t := own_Tp_of (own_R0 p) (own_tn p).1 (by decide) (by decide) (n := 4) (by decide) (own_ifz h)
theorem own_R1a (p : Int32) : own_rep (FP.ddiv (FP.i2d (p &&& (255 : Int32))) (4841369599423283200 : UInt64)) (p &&& (255 : Int32)).toInt (0 - 52) := own_ddiv (own_i2d _) (by decide +kernel) (by have := own_d p; omega) (by decide) (by decide)
theorem own_R1 (p : Int32) : own_rep (FP.dadd own_ONE (FP.ddiv (FP.i2d (p &&& (255 : Int32))) (4841369599423283200 : UInt64))) (2 ^ 52 + (p &&& (255 : Int32)).toInt) (-52) := own_dadd own_one52 (own_R1a p) (by have := own_d p; omega) (by decide) (by decide)
theorem own_T1 {p t : Int32} (h : t = if (p &&& (255 : Int32)) = (0 : Int32) then (1 : Int32) else (0 : Int32)) : own_Tp (FP.dadd own_ONE (FP.ddiv (FP.i2d (p &&& (255 : Int32))) (4841369599423283200 : UInt64))) t := own_Tp_of (own_R1 p) (by have := own_d p; omega) (by decide) (by decide) (n := 2 ^ 52) (by decide) (by
  have := own_ifz h
  rw [show (0 : Int32).toInt = 0 by decide] at this
  rcases this with ⟨a, b⟩ | ⟨a, b⟩
  · exact Or.inl ⟨a, by omega⟩
  · exact Or.inr ⟨a, by omega⟩)
theorem own_R2a (p : Int32) : own_rep (FP.ddiv (FP.i2d (p &&& (255 : Int32))) (4845873199050653696 : UInt64)) (p &&& (255 : Int32)).toInt (0 - 53) := own_ddiv (own_i2d _) (by decide +kernel) (by have := own_d p; omega) (by decide) (by decide)
theorem own_R2 (p : Int32) : ((p &&& (255 : Int32)).toInt = 0 ∧ own_rep (FP.dsub own_ONE (FP.ddiv (FP.i2d (p &&& (255 : Int32))) (4845873199050653696 : UInt64))) (2 ^ 52) (-52)) ∨ ((p &&& (255 : Int32)).toInt ≠ 0 ∧ own_rep (FP.dsub own_ONE (FP.ddiv (FP.i2d (p &&& (255 : Int32))) (4845873199050653696 : UInt64))) (2 ^ 53 - (p &&& (255 : Int32)).toInt) (-53)) := by
  have hd := own_d p
  have R := own_R2a p
  by_cases z : (p &&& (255 : Int32)).toInt = 0
  · rw [z] at R
    exact Or.inl ⟨z, own_dsub (m := 2 ^ 52) (m' := 0) own_one52 (own_raise0 R (by decide)) (by decide) (by decide) (by decide)⟩
  · exact Or.inr ⟨z, own_one_sub R (by omega) (by omega)⟩
theorem own_N2 (p : Int32) : val64 (FP.dsub own_ONE (FP.ddiv (FP.i2d (p &&& (255 : Int32))) (4845873199050653696 : UInt64))) ≠ .nan := by
  rcases own_R2 p with ⟨-, R⟩ | ⟨-, R⟩ <;> exact R.no
theorem own_T2 {p t : Int32} (h : t = if (p &&& (255 : Int32)) = (0 : Int32) then (1 : Int32) else (0 : Int32)) : own_Tp (FP.dsub own_ONE (FP.ddiv (FP.i2d (p &&& (255 : Int32))) (4845873199050653696 : UInt64))) t := by
  have hd := own_d p
  have hz := own_ifz h
  rw [show (0 : Int32).toInt = 0 by decide] at hz
  rcases own_R2 p with ⟨z, R⟩ | ⟨z, R⟩
  · exact own_Tp_of R (by decide) (by decide) (by decide) (n := 2 ^ 52) (by decide) (hz.imp (fun q => absurd z q.2) (fun q => ⟨q.1, rfl⟩))
  · exact own_Tp_of R (by omega) (by decide) (by decide) (n := 2 ^ 53) (by decide) (hz.imp (fun q => ⟨q.1, by omega⟩) (fun q => absurd q.2 z))
theorem own_T3 {p t : Int32} (h : t = if ((p &&& (65535 : Int32)) + (1 : Int32)) = (1 : Int32) then (1 : Int32) else (0 : Int32)) : own_Tp (FP.i2d ((p &&& (65535 : Int32)) + (1 : Int32))) t := own_Tp_of (own_i2d _) (own_tn p).1 (by decide) (by decide) (n := 1) (by decide) (own_ifz h)
theorem own_Op_of {O : UInt64} {s : Bool} {c : Nat} {q : Int} (h : val64 O = .fin s c q) : own_Op O (0 : Int32) := by
  refine ⟨Jvm.Free.Fl.val64_no.mpr (by rw [h]; intro z; cases z), ?_, Or.inl ⟨rfl, ?_⟩⟩
  · show Jvm.FP.Core.order (val64 O) (val64 9218868437227405312) = _
    rw [h, show val64 9218868437227405312 = .inf false by decide +kernel]; rfl
  · rw [show FP.dcmp O 18442240474082181120 = some .gt from by
      show Jvm.FP.Core.order (val64 O) (val64 18442240474082181120) = _
      rw [h, show val64 18442240474082181120 = .inf true by decide +kernel]; rfl]
    decide
theorem own_Op_rep {O : UInt64} {m e : Int} (h : own_rep O m e) : own_Op O (0 : Int32) := by obtain ⟨s, c, q, h1, -⟩ := h; exact own_Op_of h1
theorem own_O0 : own_Op (18442240474082181120 : UInt64) (1 : Int32) := ⟨Jvm.Free.Fl.val64_no.mpr (by decide +kernel), by decide +kernel, Or.inr ⟨rfl, by decide +kernel⟩⟩
theorem own_O2 : own_Op (18442240474082181119 : UInt64) (0 : Int32) := own_Op_of (s := true) (c := 2 ^ 53 - 1) (q := 971) (by decide +kernel)
theorem own_R3 (n : Int32) : own_rep (FP.ddiv (FP.i2d n) (4652218415073722368 : UInt64)) n.toInt (0 - 10) := own_ddiv (own_i2d _) (by decide +kernel) (by have := Int32.le_toInt n; have := Int32.toInt_lt n; omega) (by decide) (by decide)
theorem own_joint {T U : UInt64} {t u w1 w2 : Int32} (hT : own_Tp T t) (hO : own_Op U u) (h1 : w1 = if u = (0 : Int32) then (0 : Int32) else (1 : Int32)) (h2 : w2 = if t = (0 : Int32) then (0 : Int32) else w1) :
    (if cmpValue (FP.dcmp U 18442240474082181120) .l = (0 : Int32) then (if cmpValue (FP.dcmp T own_ONE) .l = (0 : Int32) then (1 : Int32) else (0 : Int32)) else (0 : Int32)) = w2 := by
  obtain ⟨-, -, hT⟩ := hT
  obtain ⟨-, -, hO⟩ := hO
  subst h1 h2
  rcases hO with ⟨rfl, b⟩ | ⟨rfl, b⟩
  · rw [if_neg b, if_pos rfl]
    rcases hT with ⟨rfl, c⟩ | ⟨rfl, c⟩ <;> rfl
  · rw [if_pos b]
    rcases hT with ⟨rfl, c⟩ | ⟨rfl, c⟩
    · rw [if_neg c]; rfl
    · rw [if_pos c]; rfl
theorem own_le {d : UInt64} (h : Fin64 d) : ¬ ((0 : Int32) < cmpValue (FP.dcmp (d &&& 0x7fffffffffffffff) Jvm.Free.Fl.maxD) .l) := by
  rcases Jvm.Free.Fl.relLe_iff.mp ((Jvm.Free.Fl.le_max_iff h.noNaN).mpr h) with q | q <;> rw [q] <;> decide
theorem own_self {d : UInt64} (h : NoNaN64 d) : cmpValue (FP.dcmp d d) .l = (0 : Int32) := by
  rw [show FP.dcmp d d = some .eq from Jvm.FP.Core.dcmp_self (Jvm.Free.Fl.val64_no.mp h)]; rfl
theorem own_eqD {args : Array Value} {first s : State} {q : Option Outcome} {idx : List Nat} {t : Term} {k : Int64} {u : UInt64} (h : (Cond.eq t (Term.op1 .bitsD (Term.long k))).value args first q s idx = some true) (hu : k.toUInt64 = u) : t.eval args first q idx s = some (.double u) := by
  obtain ⟨x, y, h1, h2, h3, -⟩ := cmp_v (Or.inl h)
  subst hu
  cases h2
  cases x <;> simp [Kin, Value.isRef] at h3
  rename_i z
  simp [Cond.value, h1, Term.eval, Unary.apply] at h
  rw [h1, h]
theorem own_Op_ite0 {P : Prop} [Decidable P] {T T' : UInt64} {t : Int32} (h : own_Op T t) (h' : own_Op T' t) : own_Op (if P then T else T') t := by
  by_cases p : P
  · rw [if_pos p]; exact h
  · rw [if_neg p]; exact h'
theorem d3_0 : decode jdk_117_method_7_code 0 = .ok (.dload_n 0, 1) := by decide +kernel
theorem d3_1 : decode jdk_117_method_7_code 1 = .ok (.invokestatic 38, 3) := by decide +kernel
theorem pd__D_D : parseMethodDescriptor "(D)D" = some ⟨[.double], some .double⟩ := by decide +kernel
theorem d3_4 : decode jdk_117_method_7_code 4 = .ok (.ldc2_w 111, 3) := by decide +kernel
theorem d3_7 : decode jdk_117_method_7_code 7 = .ok (.dcmp .l, 1) := by decide +kernel
theorem d3_8 : decode jdk_117_method_7_code 8 = .ok (.ifCond .le 7, 3) := by decide +kernel
theorem d3_15 : decode jdk_117_method_7_code 15 = .ok (.iconst 0, 1) := by decide +kernel
theorem d3_16 : decode jdk_117_method_7_code 16 = .ok (.ireturn, 1) := by decide +kernel
theorem pn_java_lang_Double : plainName "java/lang/Double" = true := by first | (simp [plainName, overriddenIn]; done) | decide +kernel
theorem ef_rm3 (m : MethodId) (d0 : UInt64) : entryFrame m #[(.double d0)] 2 = mkF m 0 #[.val (.double d0), .second] [] := by first | (simp [entryFrame, mkF, argsToLocals, Value.category]; done) | rfl
def Qrm3 (Z : State) (d0 : UInt64) (h0 : Heap) (n0 : Nat) (v : Option Value) (h : Heap) (L : List Loc) : Prop := v = some (.int 0) ∧ Fr n0 L ∧ h = h0
set_option maxRecDepth 65536 in
set_option maxHeartbeats 40000000 in
theorem rm3 (l : Launch) (Z : State) (a0 : Array Value) (hw : ∀ d ∈ tables_1, d.before a0 Z = true) (ws : List Jvm.Cond) (d0 : UInt64) (h0 : Heap) (n0 : Nat) (Z0 : n0 ≤ h0.size) (hF : Jvm.Free.Fl.Fin64 d0) :
    MetFree l (⟨"java/lang/Double", "isInfinite", "(D)Z"⟩ : MethodName) (head1 (Jvm.Cond.code (⟨"java/lang/Double", "isInfinite", "(D)Z"⟩ : MethodName) jdk_117_method_7_code 2 (some .boolean) :: ws) ({ frames := 1, cells := 0, slots := 0, locals := 13 } : Room)) (fun a U => a = #[(.double d0)] ∧ Z.Warmed39 U.vm ∧ U.heap = h0) (fun _ _ _ _ _ => True) (fun _ U o U' => ∃ v L, o = .returned v ∧ Qrm3 Z d0 h0 n0 v U'.heap L ∧ FrameEnd U o U' L ({ frames := 1, cells := 0, slots := 0, locals := 13 } : Room).cells ({ frames := 1, cells := 0, slots := 0, locals := 13 } : Room).slots) := by
  refine MetFree.of_bodySF (plainFor_of_name pn_java_lang_Double) hisR ?_
  intro p e s m args below meth c s₁ Bd hml0 hP hK
  obtain ⟨rfl, hZ, hh⟩ := hP
  have hx := Bd.exec
  have hby := Bd.bytes
  have hml : c.maxLocals = 2 := hml0
  have hown : s.vm.findClass "java/lang/Double" = some m.cls := findClass_of_methodNamed Bd.named
  have hnm := (name_of_methodNamed Bd.named Bd.method).1
  have X0 : Stand p l e ({ frames := 1, cells := 0, slots := 0, locals := 13 } : Room) s m #[(.double d0)] below meth c s₁ [] 0 0 := Stand.of_body Bd
  have e0 : s₁.heap = h0 := by rw [← hh, Bd.state]; rfl
  have N0 := Fr.nil n0
  have pre0 : ∀ t, Steps p.tables e below (s₁.setTop (mkF m 0 #[.val (.double d0), .second] [])) t → Steps p.tables e below (s₁.setTop (entryFrame m #[(.double d0)] 2)) t := fun t k => castTop (ef_rm3 m d0) k
  obtain ⟨_, vm1, ⟨Tq1, L1, k1, n1⟩, -, X1, ⟨hr1, hB1⟩, st1⟩ := Jvm.LawKit.callS X0 hx (y := (⟨"java/lang/Math", "abs", "(D)D"⟩ : MethodName)) hown (mvT hZ (hw _ (List.mem_of_getElem? (i := 16) rfl))) (mvT hZ (hw _ (List.mem_of_getElem? (i := 17) rfl))) (mvT hZ (hw _ (List.mem_of_getElem? (i := 18) rfl))) (mvT hZ (hw _ (List.mem_of_getElem? (i := 19) rfl))) (by decide) (Jvm.Free.Fl.Abs.absD_pays (W := 0) d0 (mvT hZ (hw _ (List.mem_of_getElem? (i := 19) rfl))) (by show 1 ≤ 1; omega) (by show 0 + 13 ≤ 13; omega)) (g := (mkF m 1 #[.val (.double d0), .second] [(.double d0)])) rfl (by rw [hml]; rfl) (argsL := [(.double d0)]) (rest := []) (lenOf pd__D_D rfl) rfl (by show 2 * 0 + _ ≤ _; exact Nat.le_of_eq rfl) (hb hby d3_1) (fun _ _ => ⟨Nat.zero_le _, Nat.zero_le _, rfl, hF.noNaN⟩)
  simp only [Prod.mk.injEq] at hB1
  obtain ⟨rfl, rfl, rfl, rfl⟩ := hB1
  subst hr1
  dsimp only [Pt.U, Pt.locs, Pt.cells, Pt.slots] at X1 st1
  have e1 : (s₁.setVm vm1).heap = h0 := e0
  generalize s₁.setVm vm1 = T1 at X1 st1 e1
  obtain ⟨fs, hr, hrun, hended, hW, hsame⟩ := X1.leave (v := some (.int (0 : Int32))) (fun h => by rw [Bd.returns] at h; cases h)
  refine ⟨_, _, pre0 _ ?_, hrun, hended, _, _, rfl, ?_, ⟨_, rfl⟩, hW, hsame.mono (by decide) (by decide)⟩
  · show Steps p.tables e below (s₁.setTop (mkF m 0 #[.val (.double d0), .second] [])) _
    refine own_sloadN X0.here hx (hb hby d3_0) rfl ?_
    show Steps p.tables e below (s₁.setTop (mkF m 1 #[.val (.double d0), .second] [(.double d0)])) _
    refine st1 _ ?_
    show Steps p.tables e below (T1.setTop (mkF m 4 #[.val (.double d0), .second] [(.double (d0 &&& 0x7fffffffffffffff))])) _
    refine X1.ldc2DoubleC hx hown (mvT hZ (hw _ (List.mem_of_getElem? (i := 20) rfl))) (g := (mkF m 4 #[.val (.double d0), .second] [(.double (d0 &&& 0x7fffffffffffffff))])) rfl (hb hby d3_4) _ ?_
    show Steps p.tables e below (T1.setTop (mkF m 7 #[.val (.double d0), .second] [(.double (9218868437227405311 : UInt64)), (.double (d0 &&& 0x7fffffffffffffff))])) _
    refine own_scmp X1.here hx (z := (cmpValue (FP.dcmp (d0 &&& 0x7fffffffffffffff) Jvm.Free.Fl.maxD) .l)) (hb hby d3_7) rfl ?_
    show Steps p.tables e below (T1.setTop (mkF m 8 #[.val (.double d0), .second] [(.int (cmpValue (FP.dcmp (d0 &&& 0x7fffffffffffffff) Jvm.Free.Fl.maxD) .l))])) _
    refine XS.ifYes X1.here hx rfl (pc0 := 8) (pc' := 15) rfl (hb hby d3_8) rfl ((if0 _ _).trans (flt (own_le hF)).2.2.2) (by decide) (by decide) ?_
    show Steps p.tables e below (T1.setTop (mkF m 15 #[.val (.double d0), .second] [])) _
    refine XS.iconst X1.here hx rfl (hb hby d3_15) ?_
    show Steps p.tables e below (T1.setTop (mkF m 16 #[.val (.double d0), .second] [(.int (0 : Int32))])) _
    exact retN X1 hx (t := .boolean) Bd.returns (by simp) (hb hby d3_16) hr
  · show Qrm3 Z d0 h0 n0 _ T1.heap _
    rw [e1]
    exact ⟨rfl, N0, rfl⟩
theorem d5_0 : decode jdk_117_method_6_code 0 = .ok (.dload_n 0, 1) := by decide +kernel
theorem d5_1 : decode jdk_117_method_6_code 1 = .ok (.dload_n 0, 1) := by decide +kernel
theorem d5_2 : decode jdk_117_method_6_code 2 = .ok (.dcmp .l, 1) := by decide +kernel
theorem d5_3 : decode jdk_117_method_6_code 3 = .ok (.ifCond .eq 7, 3) := by decide +kernel
theorem d5_10 : decode jdk_117_method_6_code 10 = .ok (.iconst 0, 1) := by decide +kernel
theorem d5_11 : decode jdk_117_method_6_code 11 = .ok (.ireturn, 1) := by decide +kernel
theorem ef_rm5 (m : MethodId) (d0 : UInt64) : entryFrame m #[(.double d0)] 2 = mkF m 0 #[.val (.double d0), .second] [] := by first | (simp [entryFrame, mkF, argsToLocals, Value.category]; done) | rfl
def Qrm5 (Z : State) (d0 : UInt64) (h0 : Heap) (n0 : Nat) (v : Option Value) (h : Heap) (L : List Loc) : Prop := v = some (.int 0) ∧ Fr n0 L ∧ h = h0
set_option maxRecDepth 65536 in
set_option maxHeartbeats 40000000 in
theorem rm5 (l : Launch) (Z : State) (a0 : Array Value) (hw : ∀ d ∈ tables_1, d.before a0 Z = true) (ws : List Jvm.Cond) (d0 : UInt64) (h0 : Heap) (n0 : Nat) (Z0 : n0 ≤ h0.size) (hN : Jvm.Free.Fl.NoNaN64 d0) :
    MetFree l (⟨"java/lang/Double", "isNaN", "(D)Z"⟩ : MethodName) (head1 (Jvm.Cond.code (⟨"java/lang/Double", "isNaN", "(D)Z"⟩ : MethodName) jdk_117_method_6_code 2 (some .boolean) :: ws) ({ frames := 0, cells := 0, slots := 0, locals := 0 } : Room)) (fun a U => a = #[(.double d0)] ∧ Z.Warmed39 U.vm ∧ U.heap = h0) (fun _ _ _ _ _ => True) (fun _ U o U' => ∃ v L, o = .returned v ∧ Qrm5 Z d0 h0 n0 v U'.heap L ∧ FrameEnd U o U' L ({ frames := 0, cells := 0, slots := 0, locals := 0 } : Room).cells ({ frames := 0, cells := 0, slots := 0, locals := 0 } : Room).slots) := by
  refine MetFree.of_bodySF (plainFor_of_name pn_java_lang_Double) hisR ?_
  intro p e s m args below meth c s₁ Bd hml0 hP hK
  obtain ⟨rfl, hZ, hh⟩ := hP
  have hx := Bd.exec
  have hby := Bd.bytes
  have hml : c.maxLocals = 2 := hml0
  have hown : s.vm.findClass "java/lang/Double" = some m.cls := findClass_of_methodNamed Bd.named
  have hnm := (name_of_methodNamed Bd.named Bd.method).1
  have X0 : Stand p l e ({ frames := 0, cells := 0, slots := 0, locals := 0 } : Room) s m #[(.double d0)] below meth c s₁ [] 0 0 := Stand.of_body Bd
  have e0 : s₁.heap = h0 := by rw [← hh, Bd.state]; rfl
  have N0 := Fr.nil n0
  have pre0 : ∀ t, Steps p.tables e below (s₁.setTop (mkF m 0 #[.val (.double d0), .second] [])) t → Steps p.tables e below (s₁.setTop (entryFrame m #[(.double d0)] 2)) t := fun t k => castTop (ef_rm5 m d0) k
  obtain ⟨fs, hr, hrun, hended, hW, hsame⟩ := X0.leave (v := some (.int (0 : Int32))) (fun h => by rw [Bd.returns] at h; cases h)
  refine ⟨_, _, pre0 _ ?_, hrun, hended, _, _, rfl, ?_, ⟨_, rfl⟩, hW, hsame.mono (by decide) (by decide)⟩
  · show Steps p.tables e below (s₁.setTop (mkF m 0 #[.val (.double d0), .second] [])) _
    refine own_sloadN X0.here hx (hb hby d5_0) rfl ?_
    show Steps p.tables e below (s₁.setTop (mkF m 1 #[.val (.double d0), .second] [(.double d0)])) _
    refine own_sloadN X0.here hx (hb hby d5_1) rfl ?_
    show Steps p.tables e below (s₁.setTop (mkF m 2 #[.val (.double d0), .second] [(.double d0), (.double d0)])) _
    refine own_scmp X0.here hx (z := (0 : Int32)) (hb hby d5_2) (own_self hN) ?_
    show Steps p.tables e below (s₁.setTop (mkF m 3 #[.val (.double d0), .second] [(.int (0 : Int32))])) _
    refine XS.ifYes X0.here hx rfl (pc0 := 3) (pc' := 10) rfl (hb hby d5_3) rfl ((if0 _ _).trans (teq rfl).1) (by decide) (by decide) ?_
    show Steps p.tables e below (s₁.setTop (mkF m 10 #[.val (.double d0), .second] [])) _
    refine XS.iconst X0.here hx rfl (hb hby d5_10) ?_
    show Steps p.tables e below (s₁.setTop (mkF m 11 #[.val (.double d0), .second] [(.int (0 : Int32))])) _
    exact retN X0 hx (t := .boolean) Bd.returns (by simp) (hb hby d5_11) hr
  · show Qrm5 Z d0 h0 n0 _ s₁.heap _
    rw [e0]
    exact ⟨rfl, N0, rfl⟩
theorem d1_0 : decode prog_34_method_1_code 0 = .ok (.aload_n 0, 1) := by decide +kernel
theorem d1_1 : decode prog_34_method_1_code 1 = .ok (.invokespecial 1, 3) := by decide +kernel
theorem d1_4 : decode prog_34_method_1_code 4 = .ok (.dload_n 1, 1) := by decide +kernel
theorem d1_5 : decode prog_34_method_1_code 5 = .ok (.dconst 0, 1) := by decide +kernel
theorem d1_6 : decode prog_34_method_1_code 6 = .ok (.dcmp .l, 1) := by decide +kernel
theorem d1_7 : decode prog_34_method_1_code 7 = .ok (.ifCond .le 10, 3) := by decide +kernel
theorem d1_10 : decode prog_34_method_1_code 10 = .ok (.dload_n 1, 1) := by decide +kernel
theorem d1_11 : decode prog_34_method_1_code 11 = .ok (.invokestatic 7, 3) := by decide +kernel
theorem pd__D_Z : parseMethodDescriptor "(D)Z" = some ⟨[.double], some .boolean⟩ := by decide +kernel
theorem d1_14 : decode prog_34_method_1_code 14 = .ok (.ifCond .eq 17, 3) := by decide +kernel
theorem d1_31 : decode prog_34_method_1_code 31 = .ok (.dload_n 3, 1) := by decide +kernel
theorem d1_32 : decode prog_34_method_1_code 32 = .ok (.invokestatic 22, 3) := by decide +kernel
theorem d1_35 : decode prog_34_method_1_code 35 = .ok (.ifCond .ne 11, 3) := by decide +kernel
theorem d1_38 : decode prog_34_method_1_code 38 = .ok (.dload_n 3, 1) := by decide +kernel
theorem d1_39 : decode prog_34_method_1_code 39 = .ok (.ldc2_w 25, 3) := by decide +kernel
theorem d1_42 : decode prog_34_method_1_code 42 = .ok (.dcmp .l, 1) := by decide +kernel
theorem d1_43 : decode prog_34_method_1_code 43 = .ok (.ifCond .ne 17, 3) := by decide +kernel
theorem d1_60 : decode prog_34_method_1_code 60 = .ok (.aload_n 0, 1) := by decide +kernel
theorem d1_61 : decode prog_34_method_1_code 61 = .ok (.dload_n 1, 1) := by decide +kernel
theorem d1_62 : decode prog_34_method_1_code 62 = .ok (.putfield 28, 3) := by decide +kernel
theorem d1_65 : decode prog_34_method_1_code 65 = .ok (.aload_n 0, 1) := by decide +kernel
theorem d1_66 : decode prog_34_method_1_code 66 = .ok (.dload_n 3, 1) := by decide +kernel
theorem d1_67 : decode prog_34_method_1_code 67 = .ok (.putfield 34, 3) := by decide +kernel
theorem d1_70 : decode prog_34_method_1_code 70 = .ok (.return_, 1) := by decide +kernel
theorem pn_com_example_hearer_hearer_engine_ScoreCalibration : plainName "com/example/hearer/hearer/engine/ScoreCalibration" = true := by first | (simp [plainName, overriddenIn]; done) | decide +kernel
theorem ef_rm1 (m : MethodId) (a1 : Addr) (u1 : UInt64) (u2 : UInt64) : entryFrame m #[(.ref a1), (.double u1), (.double u2)] 5 = mkF m 0 #[.val (.ref a1), .val (.double u1), .second, .val (.double u2), .second] [] := by first | (simp [entryFrame, mkF, argsToLocals, Value.category]; done) | rfl
def Qrm1 (Z : State) (a1 : Addr) (u1 : UInt64) (u2 : UInt64) (h0 : Heap) (n0 : Nat) (v : Option Value) (h : Heap) (L : List Loc) : Prop := v = none ∧ Fr n0 L ∧ Keep h0 h [a1] ∧ Fld Z h a1 "com/example/hearer/hearer/engine/ScoreCalibration" "temperature" "D" (.double u1) ∧ Fld Z h a1 "com/example/hearer/hearer/engine/ScoreCalibration" "outlierLogDensity" "D" (.double u2)
set_option maxRecDepth 65536 in
set_option maxHeartbeats 40000000 in
theorem rm1 (l : Launch) (Z : State) (a0 : Array Value) (hw : ∀ d ∈ tables_1, d.before a0 Z = true) (ws : List Jvm.Cond) (a1 : Addr) (u1 : UInt64) (u2 : UInt64) (h0 : Heap) (n0 : Nat) (Z0 : n0 ≤ h0.size) (E1 : Exa Z h0 a1 "com/example/hearer/hearer/engine/ScoreCalibration") (F0 : Fld Z h0 a1 "com/example/hearer/hearer/engine/ScoreCalibration" "temperature" "D" (.double (0 : UInt64))) (F1 : Fld Z h0 a1 "com/example/hearer/hearer/engine/ScoreCalibration" "outlierLogDensity" "D" (.double (0 : UInt64))) (g1 : n0 ≤ a1) (hgt : FP.dcmp u1 0 = some .gt) (hF : Jvm.Free.Fl.Fin64 u1) (hN : Jvm.Free.Fl.NoNaN64 u2) (hlt : FP.dcmp u2 9218868437227405312 = some .lt) :
    MetFree l (⟨"com/example/hearer/hearer/engine/ScoreCalibration", "<init>", "(DD)V"⟩ : MethodName) (head1 (Jvm.Cond.code (⟨"com/example/hearer/hearer/engine/ScoreCalibration", "<init>", "(DD)V"⟩ : MethodName) prog_34_method_1_code 5 none :: ws) ({ frames := 2, cells := 0, slots := 0, locals := 26 } : Room)) (fun a U => a = #[(.ref a1), (.double u1), (.double u2)] ∧ Z.Warmed39 U.vm ∧ U.heap = h0) (fun _ _ _ _ _ => True) (fun _ U o U' => ∃ v L, o = .returned v ∧ Qrm1 Z a1 u1 u2 h0 n0 v U'.heap L ∧ FrameEnd U o U' L ({ frames := 2, cells := 0, slots := 0, locals := 26 } : Room).cells ({ frames := 2, cells := 0, slots := 0, locals := 26 } : Room).slots) := by
  refine MetFree.of_bodySF (plainFor_of_name pn_com_example_hearer_hearer_engine_ScoreCalibration) hisR ?_
  intro p e s m args below meth c s₁ Bd hml0 hP hK
  obtain ⟨rfl, hZ, hh⟩ := hP
  have hx := Bd.exec
  have hby := Bd.bytes
  have hml : c.maxLocals = 5 := hml0
  have hown : s.vm.findClass "com/example/hearer/hearer/engine/ScoreCalibration" = some m.cls := findClass_of_methodNamed Bd.named
  have hnm := (name_of_methodNamed Bd.named Bd.method).1
  have X0 : Stand p l e ({ frames := 2, cells := 0, slots := 0, locals := 26 } : Room) s m #[(.ref a1), (.double u1), (.double u2)] below meth c s₁ [] 0 0 := Stand.of_body Bd
  have e0 : s₁.heap = h0 := by rw [← hh, Bd.state]; rfl
  have N0 := Fr.nil n0
  have pre0 : ∀ t, Steps p.tables e below (s₁.setTop (mkF m 0 #[.val (.ref a1), .val (.double u1), .second, .val (.double u2), .second] [])) t → Steps p.tables e below (s₁.setTop (entryFrame m #[(.ref a1), (.double u1), (.double u2)] 5)) t := fun t k => castTop (ef_rm1 m a1 u1 u2) k
  have K0 := Keep.refl h0 [a1]
  obtain ⟨T2, X2, e2, st2⟩ := initO X0 hx hZ hown (hw _ (List.mem_of_getElem? (i := 9) rfl)) (hw _ (List.mem_of_getElem? (i := 10) rfl)) (hw _ (List.mem_of_getElem? (i := 11) rfl)) e0 (g := (mkF m 1 #[.val (.ref a1), .val (.double u1), .second, .val (.double u2), .second] [(.ref a1)])) rfl (by rw [hml]; rfl) rfl (hb hby d1_1) (by decide) (W := 0) (by show 2 * 0 + _ ≤ _; exact Nat.le_of_eq rfl) (by decide)
  obtain ⟨_, _, ⟨T3, L3, k3, n3⟩, -, X3, ⟨Lc3, hQ3, l3, y3, z3⟩, st3⟩ := Jvm.LawKit.callS X2 hx (y := (⟨"java/lang/Double", "isInfinite", "(D)Z"⟩ : MethodName)) hown (mvT hZ (hw _ (List.mem_of_getElem? (i := 12) rfl))) (mvT hZ (hw _ (List.mem_of_getElem? (i := 13) rfl))) (mvT hZ (hw _ (List.mem_of_getElem? (i := 14) rfl))) (mvT hZ (hw _ (List.mem_of_getElem? (i := 15) rfl))) (by decide) (backOf (W := 0) (rm3 l Z a0 hw [] u1  h0 n0 Z0 hF) hZ (hw _ (List.mem_of_getElem? (i := 15) rfl)) (hw _ (List.mem_of_getElem? (i := 14) rfl)) (by decide) (by decide)) (g := (mkF m 11 #[.val (.ref a1), .val (.double u1), .second, .val (.double u2), .second] [(.double u1)])) rfl (by rw [hml]; rfl) (argsL := [(.double u1)]) (rest := []) (lenOf pd__D_Z rfl) rfl (by show 2 * 0 + _ ≤ _; exact Nat.le_of_eq rfl) (hb hby d1_11) (fun _ _ => ⟨rfl, e2, (by decide : 0 + 0 ≤ _), (by decide : 0 + 0 ≤ _)⟩)
  dsimp only [Pt.U, Pt.locs, Pt.cells, Pt.slots] at X3 l3 y3 z3 st3 hQ3
  subst l3 y3 z3
  obtain ⟨rfl, N3q, e3⟩ := hQ3
  have N4 := Fr.app N0 N3q
  obtain ⟨_, _, ⟨T5, L5, k5, n5⟩, -, X5, ⟨Lc5, hQ5, l5, y5, z5⟩, st5⟩ := Jvm.LawKit.callS X3 hx (y := (⟨"java/lang/Double", "isNaN", "(D)Z"⟩ : MethodName)) hown (mvT hZ (hw _ (List.mem_of_getElem? (i := 21) rfl))) (mvT hZ (hw _ (List.mem_of_getElem? (i := 22) rfl))) (mvT hZ (hw _ (List.mem_of_getElem? (i := 14) rfl))) (mvT hZ (hw _ (List.mem_of_getElem? (i := 23) rfl))) (by decide) (backOf (W := 0) (rm5 l Z a0 hw [] u2  h0 n0 Z0 hN) hZ (hw _ (List.mem_of_getElem? (i := 23) rfl)) (hw _ (List.mem_of_getElem? (i := 14) rfl)) (by decide) (by decide)) (g := (mkF m 32 #[.val (.ref a1), .val (.double u1), .second, .val (.double u2), .second] [(.double u2)])) rfl (by rw [hml]; rfl) (argsL := [(.double u2)]) (rest := []) (lenOf pd__D_Z rfl) rfl (by show 2 * 0 + _ ≤ _; exact Nat.le_of_eq rfl) (hb hby d1_32) (fun _ _ => ⟨rfl, e3, (by decide : 0 + 0 ≤ _), (by decide : 0 + 0 ≤ _)⟩)
  dsimp only [Pt.U, Pt.locs, Pt.cells, Pt.slots] at X5 l5 y5 z5 st5 hQ5
  subst l5 y5 z5
  obtain ⟨rfl, N5q, e5⟩ := hQ5
  have N6 := Fr.app N4 N5q
  obtain ⟨T7, h7, X7, e7, W7, st7⟩ := putF X5 hx hZ hown (host := "") (Or.inl (hw _ (List.mem_of_getElem? (i := 25) rfl))) Via.refl e5 F0 E1 (Or.inr ⟨(hw _ (List.mem_of_getElem? (i := 26) rfl)), rfl, hnm⟩) (hw _ (List.mem_of_getElem? (i := 4) rfl)) (ty := .double) (by decide) rfl rfl (g := (mkF m 62 #[.val (.ref a1), .val (.double u1), .second, .val (.double u2), .second] [(.double u1), (.ref a1)])) rfl rfl (hb hby d1_62)
  have f8 := F0.same W7
  have f9 := E1.wr W7
  have f10 := F1.other W7 (Or.inr (slot_ne (Or.inr (hw _ (List.mem_of_getElem? (i := 28) rfl))) (Or.inr (hw _ (List.mem_of_getElem? (i := 26) rfl))) (by decide) (t := .double) (t' := .double) (by decide) (by decide)))
  have Zn11 := Nat.le_trans Z0 (Keep.of_wr W7).1
  have N12 := Fr.snoc X7 N6 g1
  have K13 := K0.wr W7 (Or.inl (List.mem_of_getElem? (i := 0) rfl))
  obtain ⟨T14, h14, X14, e14, W14, st14⟩ := putF X7 hx hZ hown (host := "") (Or.inl (hw _ (List.mem_of_getElem? (i := 27) rfl))) Via.refl e7 f10 f9 (Or.inr ⟨(hw _ (List.mem_of_getElem? (i := 28) rfl)), rfl, hnm⟩) (hw _ (List.mem_of_getElem? (i := 4) rfl)) (ty := .double) (by decide) rfl rfl (g := (mkF m 67 #[.val (.ref a1), .val (.double u1), .second, .val (.double u2), .second] [(.double u2), (.ref a1)])) rfl rfl (hb hby d1_67)
  have f15 := f10.same W14
  have f16 := f9.wr W14
  have f17 := f8.other W14 (Or.inr (slot_ne (Or.inr (hw _ (List.mem_of_getElem? (i := 26) rfl))) (Or.inr (hw _ (List.mem_of_getElem? (i := 28) rfl))) (by decide) (t := .double) (t' := .double) (by decide) (by decide)))
  have Zn18 := Nat.le_trans Zn11 (Keep.of_wr W14).1
  have N19 := Fr.snoc X14 N12 g1
  have K20 := K13.wr W14 (Or.inl (List.mem_of_getElem? (i := 0) rfl))
  obtain ⟨fs, hr, hrun, hended, hW, hsame⟩ := X14.leave (v := none) (fun _ => rfl)
  refine ⟨_, _, pre0 _ ?_, hrun, hended, _, _, rfl, ?_, ⟨_, rfl⟩, hW, hsame.mono (by decide) (by decide)⟩
  · show Steps p.tables e below (s₁.setTop (mkF m 0 #[.val (.ref a1), .val (.double u1), .second, .val (.double u2), .second] [])) _
    refine XS.aloadN X0.here hx rfl (hb hby d1_0) rfl rfl ?_
    show Steps p.tables e below (s₁.setTop (mkF m 1 #[.val (.ref a1), .val (.double u1), .second, .val (.double u2), .second] [(.ref a1)])) _
    refine st2 _ ?_
    show Steps p.tables e below (T2.setTop (mkF m 4 #[.val (.ref a1), .val (.double u1), .second, .val (.double u2), .second] [])) _
    refine own_sloadN X2.here hx (hb hby d1_4) rfl ?_
    show Steps p.tables e below (T2.setTop (mkF m 5 #[.val (.ref a1), .val (.double u1), .second, .val (.double u2), .second] [(.double u1)])) _
    refine own_szero X2.here hx (hb hby d1_5) ?_
    show Steps p.tables e below (T2.setTop (mkF m 6 #[.val (.ref a1), .val (.double u1), .second, .val (.double u2), .second] [(.double (0 : UInt64)), (.double u1)])) _
    refine own_scmp X2.here hx (z := (1 : Int32)) (hb hby d1_6) (by rw [hgt]; rfl) ?_
    show Steps p.tables e below (T2.setTop (mkF m 7 #[.val (.ref a1), .val (.double u1), .second, .val (.double u2), .second] [(.int (1 : Int32))])) _
    refine XS.ifNo X2.here hx rfl (hb hby d1_7) rfl ((if0 _ _).trans (tlt (by decide)).2.2.2) ?_
    show Steps p.tables e below (T2.setTop (mkF m 10 #[.val (.ref a1), .val (.double u1), .second, .val (.double u2), .second] [])) _
    refine own_sloadN X2.here hx (hb hby d1_10) rfl ?_
    show Steps p.tables e below (T2.setTop (mkF m 11 #[.val (.ref a1), .val (.double u1), .second, .val (.double u2), .second] [(.double u1)])) _
    refine st3 _ ?_
    show Steps p.tables e below (T3.setTop (mkF m 14 #[.val (.ref a1), .val (.double u1), .second, .val (.double u2), .second] [(.int (0 : Int32))])) _
    refine XS.ifYes X3.here hx rfl (pc0 := 14) (pc' := 31) rfl (hb hby d1_14) rfl ((if0 _ _).trans (teq rfl).1) (by decide) (by decide) ?_
    show Steps p.tables e below (T3.setTop (mkF m 31 #[.val (.ref a1), .val (.double u1), .second, .val (.double u2), .second] [])) _
    refine own_sloadN X3.here hx (hb hby d1_31) rfl ?_
    show Steps p.tables e below (T3.setTop (mkF m 32 #[.val (.ref a1), .val (.double u1), .second, .val (.double u2), .second] [(.double u2)])) _
    refine st5 _ ?_
    show Steps p.tables e below (T5.setTop (mkF m 35 #[.val (.ref a1), .val (.double u1), .second, .val (.double u2), .second] [(.int (0 : Int32))])) _
    refine XS.ifNo X5.here hx rfl (hb hby d1_35) rfl ((if0 _ _).trans (teq rfl).2) ?_
    show Steps p.tables e below (T5.setTop (mkF m 38 #[.val (.ref a1), .val (.double u1), .second, .val (.double u2), .second] [])) _
    refine own_sloadN X5.here hx (hb hby d1_38) rfl ?_
    show Steps p.tables e below (T5.setTop (mkF m 39 #[.val (.ref a1), .val (.double u1), .second, .val (.double u2), .second] [(.double u2)])) _
    refine X5.ldc2DoubleC hx hown (mvT hZ (hw _ (List.mem_of_getElem? (i := 24) rfl))) (g := (mkF m 39 #[.val (.ref a1), .val (.double u1), .second, .val (.double u2), .second] [(.double u2)])) rfl (hb hby d1_39) _ ?_
    show Steps p.tables e below (T5.setTop (mkF m 42 #[.val (.ref a1), .val (.double u1), .second, .val (.double u2), .second] [(.double (9218868437227405312 : UInt64)), (.double u2)])) _
    refine own_scmp X5.here hx (z := (-1 : Int32)) (hb hby d1_42) (by rw [hlt]; rfl) ?_
    show Steps p.tables e below (T5.setTop (mkF m 43 #[.val (.ref a1), .val (.double u1), .second, .val (.double u2), .second] [(.int (-1 : Int32))])) _
    refine XS.ifYes X5.here hx rfl (pc0 := 43) (pc' := 60) rfl (hb hby d1_43) rfl ((if0 _ _).trans (feq (by decide)).2) (by decide) (by decide) ?_
    show Steps p.tables e below (T5.setTop (mkF m 60 #[.val (.ref a1), .val (.double u1), .second, .val (.double u2), .second] [])) _
    refine XS.aloadN X5.here hx rfl (hb hby d1_60) rfl rfl ?_
    show Steps p.tables e below (T5.setTop (mkF m 61 #[.val (.ref a1), .val (.double u1), .second, .val (.double u2), .second] [(.ref a1)])) _
    refine own_sloadN X5.here hx (hb hby d1_61) rfl ?_
    show Steps p.tables e below (T5.setTop (mkF m 62 #[.val (.ref a1), .val (.double u1), .second, .val (.double u2), .second] [(.double u1), (.ref a1)])) _
    refine st7 _ ?_
    show Steps p.tables e below (T7.setTop (mkF m 65 #[.val (.ref a1), .val (.double u1), .second, .val (.double u2), .second] [])) _
    refine XS.aloadN X7.here hx rfl (hb hby d1_65) rfl rfl ?_
    show Steps p.tables e below (T7.setTop (mkF m 66 #[.val (.ref a1), .val (.double u1), .second, .val (.double u2), .second] [(.ref a1)])) _
    refine own_sloadN X7.here hx (hb hby d1_66) rfl ?_
    show Steps p.tables e below (T7.setTop (mkF m 67 #[.val (.ref a1), .val (.double u1), .second, .val (.double u2), .second] [(.double u2), (.ref a1)])) _
    refine st14 _ ?_
    show Steps p.tables e below (T14.setTop (mkF m 70 #[.val (.ref a1), .val (.double u1), .second, .val (.double u2), .second] [])) _
    exact X14.returnOut hx Bd.returns (hb hby d1_70) hr
  · show Qrm1 Z a1 u1 u2 h0 n0 _ T14.heap _
    rw [e14]
    exact ⟨rfl, N19, K20, f17, f15⟩
theorem d6_0 : decode prog_34_method_5_code 0 = .ok (.aload_n 0, 1) := by decide +kernel
theorem d6_1 : decode prog_34_method_5_code 1 = .ok (.getfield 34, 3) := by decide +kernel
theorem d6_4 : decode prog_34_method_5_code 4 = .ok (.ldc2_w 69, 3) := by decide +kernel
theorem d6_7 : decode prog_34_method_5_code 7 = .ok (.dcmp .l, 1) := by decide +kernel
theorem d6_8 : decode prog_34_method_5_code 8 = .ok (.ifCond .ne 16, 3) := by decide +kernel
theorem d6_11 : decode prog_34_method_5_code 11 = .ok (.aload_n 0, 1) := by decide +kernel
theorem d6_12 : decode prog_34_method_5_code 12 = .ok (.getfield 28, 3) := by decide +kernel
theorem d6_15 : decode prog_34_method_5_code 15 = .ok (.dconst 1, 1) := by decide +kernel
theorem d6_16 : decode prog_34_method_5_code 16 = .ok (.dcmp .l, 1) := by decide +kernel
theorem d6_17 : decode prog_34_method_5_code 17 = .ok (.ifCond .ne 7, 3) := by decide +kernel
theorem d6_20 : decode prog_34_method_5_code 20 = .ok (.iconst 1, 1) := by decide +kernel
theorem d6_21 : decode prog_34_method_5_code 21 = .ok (.goto 4, 3) := by decide +kernel
theorem d6_25 : decode prog_34_method_5_code 25 = .ok (.ireturn, 1) := by decide +kernel
theorem d6_24 : decode prog_34_method_5_code 24 = .ok (.iconst 0, 1) := by decide +kernel
theorem ef_rm6 (m : MethodId) (a1 : Addr) : entryFrame m #[(.ref a1)] 1 = mkF m 0 #[.val (.ref a1)] [] := by first | (simp [entryFrame, mkF, argsToLocals, Value.category]; done) | rfl
def Qrm6 (Z : State) (a1 : Addr) (u1 : UInt64) (u2 : UInt64) (zt : Int32) (zo : Int32) (h0 : Heap) (n0 : Nat) (v : Option Value) (h : Heap) (L : List Loc) : Prop := v = some (.int (if zo = (0 : Int32) then (if zt = (0 : Int32) then (1 : Int32) else (0 : Int32)) else (0 : Int32))) ∧ Fr n0 L ∧ h = h0
set_option maxRecDepth 65536 in
set_option maxHeartbeats 40000000 in
theorem rm6 (l : Launch) (Z : State) (a0 : Array Value) (hw : ∀ d ∈ tables_1, d.before a0 Z = true) (ws : List Jvm.Cond) (a1 : Addr) (u1 : UInt64) (u2 : UInt64) (zt : Int32) (zo : Int32) (h0 : Heap) (n0 : Nat) (Z0 : n0 ≤ h0.size) (F0 : Fld Z h0 a1 "com/example/hearer/hearer/engine/ScoreCalibration" "temperature" "D" (.double u1)) (F1 : Fld Z h0 a1 "com/example/hearer/hearer/engine/ScoreCalibration" "outlierLogDensity" "D" (.double u2)) (hzt : cmpValue (FP.dcmp u1 (4607182418800017408 : UInt64)) .l = zt) (hzo : cmpValue (FP.dcmp u2 (18442240474082181120 : UInt64)) .l = zo) :
    MetFree l (⟨"com/example/hearer/hearer/engine/ScoreCalibration", "isNone", "()Z"⟩ : MethodName) (head1 (Jvm.Cond.code (⟨"com/example/hearer/hearer/engine/ScoreCalibration", "isNone", "()Z"⟩ : MethodName) prog_34_method_5_code 1 (some .boolean) :: ws) ({ frames := 0, cells := 0, slots := 0, locals := 0 } : Room)) (fun a U => a = #[(.ref a1)] ∧ Z.Warmed39 U.vm ∧ U.heap = h0) (fun _ _ _ _ _ => True) (fun _ U o U' => ∃ v L, o = .returned v ∧ Qrm6 Z a1 u1 u2 zt zo h0 n0 v U'.heap L ∧ FrameEnd U o U' L ({ frames := 0, cells := 0, slots := 0, locals := 0 } : Room).cells ({ frames := 0, cells := 0, slots := 0, locals := 0 } : Room).slots) := by
  refine MetFree.of_bodySF (plainFor_of_name pn_com_example_hearer_hearer_engine_ScoreCalibration) hisR ?_
  intro p e s m args below meth c s₁ Bd hml0 hP hK
  obtain ⟨rfl, hZ, hh⟩ := hP
  have hx := Bd.exec
  have hby := Bd.bytes
  have hml : c.maxLocals = 1 := hml0
  have hown : s.vm.findClass "com/example/hearer/hearer/engine/ScoreCalibration" = some m.cls := findClass_of_methodNamed Bd.named
  have hnm := (name_of_methodNamed Bd.named Bd.method).1
  have X0 : Stand p l e ({ frames := 0, cells := 0, slots := 0, locals := 0 } : Room) s m #[(.ref a1)] below meth c s₁ [] 0 0 := Stand.of_body Bd
  have e0 : s₁.heap = h0 := by rw [← hh, Bd.state]; rfl
  have N0 := Fr.nil n0
  have pre0 : ∀ t, Steps p.tables e below (s₁.setTop (mkF m 0 #[.val (.ref a1)] [])) t → Steps p.tables e below (s₁.setTop (entryFrame m #[(.ref a1)] 1)) t := fun t k => castTop (ef_rm6 m a1) k
  obtain ⟨T21, X21, e21, st21⟩ := getF X0 hx hZ hown (host := "") (Or.inl (hw _ (List.mem_of_getElem? (i := 27) rfl))) Via.refl e0 F1 (g := (mkF m 1 #[.val (.ref a1)] [(.ref a1)])) rfl rfl (hb hby d6_1)
  by_cases hA : zo = (0 : Int32)
  · obtain ⟨T22, X22, e22, st22⟩ := getF X21 hx hZ hown (host := "") (Or.inl (hw _ (List.mem_of_getElem? (i := 25) rfl))) Via.refl e21 F0 (g := (mkF m 12 #[.val (.ref a1)] [(.ref a1)])) rfl rfl (hb hby d6_12)
    obtain ⟨v24, hv24⟩ : ∃ v : Int32, v = if zt = (0 : Int32) then (1 : Int32) else (0 : Int32) := ⟨_, rfl⟩
    obtain ⟨fs, hr, hrun, hended, hW, hsame⟩ := X22.leave (v := some (.int v24)) (fun h => by rw [Bd.returns] at h; cases h)
    refine ⟨_, _, pre0 _ ?_, hrun, hended, _, _, rfl, ?_, ⟨_, rfl⟩, hW, hsame.mono (by decide) (by decide)⟩
    · show Steps p.tables e below (s₁.setTop (mkF m 0 #[.val (.ref a1)] [])) _
      refine XS.aloadN X0.here hx rfl (hb hby d6_0) rfl rfl ?_
      show Steps p.tables e below (s₁.setTop (mkF m 1 #[.val (.ref a1)] [(.ref a1)])) _
      refine st21 _ ?_
      show Steps p.tables e below (T21.setTop (mkF m 4 #[.val (.ref a1)] [(.double u2)])) _
      refine X21.ldc2DoubleC hx hown (mvT hZ (hw _ (List.mem_of_getElem? (i := 34) rfl))) (g := (mkF m 4 #[.val (.ref a1)] [(.double u2)])) rfl (hb hby d6_4) _ ?_
      show Steps p.tables e below (T21.setTop (mkF m 7 #[.val (.ref a1)] [(.double (18442240474082181120 : UInt64)), (.double u2)])) _
      refine own_scmp X21.here hx (z := zo) (hb hby d6_7) hzo ?_
      show Steps p.tables e below (T21.setTop (mkF m 8 #[.val (.ref a1)] [(.int zo)])) _
      refine XS.ifNo X21.here hx rfl (hb hby d6_8) rfl ((if0 _ _).trans (teq hA).2) ?_
      show Steps p.tables e below (T21.setTop (mkF m 11 #[.val (.ref a1)] [])) _
      refine XS.aloadN X21.here hx rfl (hb hby d6_11) rfl rfl ?_
      show Steps p.tables e below (T21.setTop (mkF m 12 #[.val (.ref a1)] [(.ref a1)])) _
      refine st22 _ ?_
      show Steps p.tables e below (T22.setTop (mkF m 15 #[.val (.ref a1)] [(.double u1)])) _
      refine own_sone X22.here hx (hb hby d6_15) ?_
      show Steps p.tables e below (T22.setTop (mkF m 16 #[.val (.ref a1)] [(.double (4607182418800017408 : UInt64)), (.double u1)])) _
      refine own_scmp X22.here hx (z := zt) (hb hby d6_16) hzt ?_
      by_cases hc23 : zt = (0 : Int32)
      · rw [show v24 = (1 : Int32) from by rw [hv24, if_pos hc23]] at hr
        show Steps p.tables e below (T22.setTop (mkF m 17 #[.val (.ref a1)] [(.int zt)])) _
        refine XS.ifNo X22.here hx rfl (hb hby d6_17) rfl ((if0 _ _).trans (teq hc23).2) ?_
        show Steps p.tables e below (T22.setTop (mkF m 20 #[.val (.ref a1)] [])) _
        refine XS.iconst X22.here hx rfl (hb hby d6_20) ?_
        show Steps p.tables e below (T22.setTop (mkF m 21 #[.val (.ref a1)] [(.int (1 : Int32))])) _
        refine XS.goto X22.here hx rfl (pc0 := 21) (pc' := 25) rfl (hb hby d6_21) (by decide) (by decide) ?_
        show Steps p.tables e below (T22.setTop (mkF m 25 #[.val (.ref a1)] [(.int (1 : Int32))])) _
        exact retN X22 hx (t := .boolean) Bd.returns (by simp) (hb hby d6_25) hr
      · rw [show v24 = (0 : Int32) from by rw [hv24, if_neg hc23]] at hr
        show Steps p.tables e below (T22.setTop (mkF m 17 #[.val (.ref a1)] [(.int zt)])) _
        refine XS.ifYes X22.here hx rfl (pc0 := 17) (pc' := 24) rfl (hb hby d6_17) rfl ((if0 _ _).trans (feq hc23).2) (by decide) (by decide) ?_
        show Steps p.tables e below (T22.setTop (mkF m 24 #[.val (.ref a1)] [])) _
        refine XS.iconst X22.here hx rfl (hb hby d6_24) ?_
        show Steps p.tables e below (T22.setTop (mkF m 25 #[.val (.ref a1)] [(.int (0 : Int32))])) _
        exact retN X22 hx (t := .boolean) Bd.returns (by simp) (hb hby d6_25) hr
    · show Qrm6 Z a1 u1 u2 zt zo h0 n0 _ T22.heap _
      rw [e22]
      exact ⟨by rw [hv24, if_pos hA], N0, rfl⟩
  · obtain ⟨fs, hr, hrun, hended, hW, hsame⟩ := X21.leave (v := some (.int (0 : Int32))) (fun h => by rw [Bd.returns] at h; cases h)
    refine ⟨_, _, pre0 _ ?_, hrun, hended, _, _, rfl, ?_, ⟨_, rfl⟩, hW, hsame.mono (by decide) (by decide)⟩
    · show Steps p.tables e below (s₁.setTop (mkF m 0 #[.val (.ref a1)] [])) _
      refine XS.aloadN X0.here hx rfl (hb hby d6_0) rfl rfl ?_
      show Steps p.tables e below (s₁.setTop (mkF m 1 #[.val (.ref a1)] [(.ref a1)])) _
      refine st21 _ ?_
      show Steps p.tables e below (T21.setTop (mkF m 4 #[.val (.ref a1)] [(.double u2)])) _
      refine X21.ldc2DoubleC hx hown (mvT hZ (hw _ (List.mem_of_getElem? (i := 34) rfl))) (g := (mkF m 4 #[.val (.ref a1)] [(.double u2)])) rfl (hb hby d6_4) _ ?_
      show Steps p.tables e below (T21.setTop (mkF m 7 #[.val (.ref a1)] [(.double (18442240474082181120 : UInt64)), (.double u2)])) _
      refine own_scmp X21.here hx (z := zo) (hb hby d6_7) hzo ?_
      show Steps p.tables e below (T21.setTop (mkF m 8 #[.val (.ref a1)] [(.int zo)])) _
      refine XS.ifYes X21.here hx rfl (pc0 := 8) (pc' := 24) rfl (hb hby d6_8) rfl ((if0 _ _).trans (feq hA).2) (by decide) (by decide) ?_
      show Steps p.tables e below (T21.setTop (mkF m 24 #[.val (.ref a1)] [])) _
      refine XS.iconst X21.here hx rfl (hb hby d6_24) ?_
      show Steps p.tables e below (T21.setTop (mkF m 25 #[.val (.ref a1)] [(.int (0 : Int32))])) _
      exact retN X21 hx (t := .boolean) Bd.returns (by simp) (hb hby d6_25) hr
    · show Qrm6 Z a1 u1 u2 zt zo h0 n0 _ T21.heap _
      rw [e21]
      exact ⟨by rw [if_neg hA], N0, rfl⟩
theorem pd__DD_V : parseMethodDescriptor "(DD)V" = some ⟨[.double, .double], none⟩ := by decide +kernel
theorem pd___Z : parseMethodDescriptor "()Z" = some ⟨[], some .boolean⟩ := by decide +kernel
theorem pn_com_example_hearer_hearer_engine_ScoreCalibrationIsNonePinLaw : plainName "com/example/hearer/hearer/engine/ScoreCalibrationIsNonePinLaw" = true := by first | (simp [plainName, overriddenIn]; done) | decide +kernel
theorem ef_rm0 (m : MethodId) (p0 : Int32) (p1 : Int32) (p2 : Int32) : entryFrame m #[(.int p0), (.int p1), (.int p2)] maxLocals = mkF m 0 #[.val (.int p0), .val (.int p1), .val (.int p2), .unset, .unset, .unset, .unset, .unset, .unset, .unset, .unset, .unset, .unset, .unset, .unset] [] := by first | (simp [entryFrame, mkF, argsToLocals, Value.category, maxLocals]; done) | rfl
def Qrm0 (Z : State) (p0 : Int32) (p1 : Int32) (p2 : Int32) (kN : Addr) (h0 : Heap) (n0 : Nat) (v : Option Value) (h : Heap) (L : List Loc) : Prop := v = some (.int 1) ∧ Fr n0 L
set_option maxRecDepth 65536 in
set_option maxHeartbeats 40000000 in
theorem rm0 (l : Launch) (Z : State) (a0 : Array Value) (hw : ∀ d ∈ tables_1, d.before a0 Z = true) (ws : List Jvm.Cond) (p0 : Int32) (p1 : Int32) (p2 : Int32) (kN : Addr) (h0 : Heap) (n0 : Nat) (Z0 : n0 ≤ h0.size) (X00 : Old Z n0 h0) (SN : Sta Z Z.heap "com/example/hearer/hearer/engine/ScoreCalibration" "NONE" "Lcom/example/hearer/hearer/engine/ScoreCalibration;" (.ref kN)) (EN : Exa Z Z.heap kN "com/example/hearer/hearer/engine/ScoreCalibration") (FT : Fld Z Z.heap kN "com/example/hearer/hearer/engine/ScoreCalibration" "temperature" "D" (.double (4607182418800017408 : UInt64))) (FO : Fld Z Z.heap kN "com/example/hearer/hearer/engine/ScoreCalibration" "outlierLogDensity" "D" (.double (18442240474082181120 : UInt64))) :
    MetFree l x (head1 (Jvm.Cond.code x code maxLocals ret :: ws) room_1) (fun a U => a = #[(.int p0), (.int p1), (.int p2)] ∧ Z.Warmed39 U.vm ∧ U.heap = h0) (fun _ _ _ _ _ => True) (fun _ U o U' => ∃ v L, o = .returned v ∧ Qrm0 Z p0 p1 p2 kN h0 n0 v U'.heap L ∧ FrameEnd U o U' L room_1.cells room_1.slots) := by
  refine MetFree.of_bodySF (plainFor_of_name pn_com_example_hearer_hearer_engine_ScoreCalibrationIsNonePinLaw) hisR ?_
  intro p e s m args below meth c s₁ Bd hml0 hP hK
  obtain ⟨rfl, hZ, hh⟩ := hP
  have hx := Bd.exec
  have hby := Bd.bytes
  have hml : c.maxLocals = 15 := hml0
  have hown : s.vm.findClass "com/example/hearer/hearer/engine/ScoreCalibrationIsNonePinLaw" = some m.cls := findClass_of_methodNamed Bd.named
  have hnm := (name_of_methodNamed Bd.named Bd.method).1
  have X0 : Stand p l e room_1 s m #[(.int p0), (.int p1), (.int p2)] below meth c s₁ [] 0 0 := Stand.of_body Bd
  have e0 : s₁.heap = h0 := by rw [← hh, Bd.state]; rfl
  have N0 := Fr.nil n0
  have pre0 : ∀ t, Steps p.tables e below (s₁.setTop (mkF m 0 #[.val (.int p0), .val (.int p1), .val (.int p2), .unset, .unset, .unset, .unset, .unset, .unset, .unset, .unset, .unset, .unset, .unset, .unset] [])) t → Steps p.tables e below (s₁.setTop (entryFrame m #[(.int p0), (.int p1), (.int p2)] maxLocals)) t := fun t k => castTop (ef_rm0 m p0 p1 p2) k
  obtain ⟨v27, hv27⟩ : ∃ v : Int32, v = if ((p1 &&& (65535 : Int32)) + (1 : Int32)) = (4 : Int32) then (1 : Int32) else (0 : Int32) := ⟨_, rfl⟩
  obtain ⟨v30, hv30⟩ : ∃ v : Int32, v = if (p1 &&& (255 : Int32)) = (0 : Int32) then (1 : Int32) else (0 : Int32) := ⟨_, rfl⟩
  obtain ⟨v33, hv33⟩ : ∃ v : Int32, v = if (p1 &&& (255 : Int32)) = (0 : Int32) then (1 : Int32) else (0 : Int32) := ⟨_, rfl⟩
  obtain ⟨v35, hv35⟩ : ∃ v : Int32, v = if ((p1 &&& (65535 : Int32)) + (1 : Int32)) = (1 : Int32) then (1 : Int32) else (0 : Int32) := ⟨_, rfl⟩
  obtain ⟨v36, hv36⟩ : ∃ v : UInt64, v = if (p0 &&& (3 : Int32)) = (2 : Int32) then (FP.dsub (4607182418800017408 : UInt64) (FP.ddiv (FP.i2d (p1 &&& (255 : Int32))) (4845873199050653696 : UInt64))) else (FP.i2d ((p1 &&& (65535 : Int32)) + (1 : Int32))) := ⟨_, rfl⟩
  obtain ⟨v37, hv37⟩ : ∃ v : Int32, v = if (p0 &&& (3 : Int32)) = (2 : Int32) then v33 else v35 := ⟨_, rfl⟩
  obtain ⟨v38, hv38⟩ : ∃ v : UInt64, v = if (p0 &&& (3 : Int32)) = (1 : Int32) then (FP.dadd (4607182418800017408 : UInt64) (FP.ddiv (FP.i2d (p1 &&& (255 : Int32))) (4841369599423283200 : UInt64))) else v36 := ⟨_, rfl⟩
  obtain ⟨v39, hv39⟩ : ∃ v : Int32, v = if (p0 &&& (3 : Int32)) = (1 : Int32) then v30 else v37 := ⟨_, rfl⟩
  obtain ⟨v40, hv40⟩ : ∃ v : UInt64, v = if (p0 &&& (3 : Int32)) = (0 : Int32) then (FP.ddiv (FP.i2d ((p1 &&& (65535 : Int32)) + (1 : Int32))) (4616189618054758400 : UInt64)) else v38 := ⟨_, rfl⟩
  obtain ⟨v41, hv41⟩ : ∃ v : Int32, v = if (p0 &&& (3 : Int32)) = (0 : Int32) then v27 else v39 := ⟨_, rfl⟩
  obtain ⟨v45, hv45⟩ : ∃ v : UInt64, v = if (((p0.toUInt32 >>> ((2 : Int32) &&& 31).toUInt32).toInt32) &&& (3 : Int32)) = (2 : Int32) then (18442240474082181119 : UInt64) else (FP.ddiv (FP.i2d p2) (4652218415073722368 : UInt64)) := ⟨_, rfl⟩
  obtain ⟨v46, hv46⟩ : ∃ v : UInt64, v = if (((p0.toUInt32 >>> ((2 : Int32) &&& 31).toUInt32).toInt32) &&& (3 : Int32)) = (1 : Int32) then (FP.i2d p2) else v45 := ⟨_, rfl⟩
  obtain ⟨v47, hv47⟩ : ∃ v : UInt64, v = if (((p0.toUInt32 >>> ((2 : Int32) &&& 31).toUInt32).toInt32) &&& (3 : Int32)) = (0 : Int32) then (18442240474082181120 : UInt64) else v46 := ⟨_, rfl⟩
  obtain ⟨v48, hv48⟩ : ∃ v : Int32, v = if (((p0.toUInt32 >>> ((2 : Int32) &&& 31).toUInt32).toInt32) &&& (3 : Int32)) = (0 : Int32) then (1 : Int32) else (0 : Int32) := ⟨_, rfl⟩
  have T2 : own_Tp v36 v37 := by rw [hv36, hv37]; exact own_Tp_ite (own_T2 hv33) (own_T3 hv35)
  have T1 : own_Tp v38 v39 := by rw [hv38, hv39]; exact own_Tp_ite (own_T1 hv30) T2
  have T0 : own_Tp v40 v41 := by rw [hv40, hv41]; exact own_Tp_ite (own_T0 hv27) T1
  have O2 : own_Op v45 (0 : Int32) := by rw [hv45]; exact own_Op_ite0 own_O2 (own_Op_rep (own_R3 p2))
  have O1 : own_Op v46 (0 : Int32) := by rw [hv46]; exact own_Op_ite0 (own_Op_rep (own_i2d p2)) O2
  have O0 : own_Op v47 v48 := by rw [hv47, hv48]; exact own_Op_ite own_O0 O1
  obtain ⟨T49, h49, X49, e49, E49, A49, D49, U49, st49⟩ := newO X0 hx hZ hown (hw _ (List.mem_of_getElem? (i := 3) rfl)) (hw _ (List.mem_of_getElem? (i := 4) rfl)) (hw _ (List.mem_of_getElem? (i := 5) rfl)) e0 (g := (mkF m 195 #[.val (.int p0), .val (.int p1), .val (.int p2), .val (.int (p0 &&& (3 : Int32))), .val (.int ((p1 &&& (65535 : Int32)) + (1 : Int32))), .val (.int (p1 &&& (255 : Int32))), .val (.double v40), .second, .val (.int v41), .val (.int (((p0.toUInt32 >>> ((2 : Int32) &&& 31).toUInt32).toInt32) &&& (3 : Int32))), .val (.double v47), .second, .val (.int v48), .unset, .unset] [])) rfl (hb hby at_195) (by decide) (by decide)
  obtain ⟨b49, g49⟩ : ∃ z, z = h0.size := ⟨_, rfl⟩
  rw [← g49] at A49 D49 st49
  have g50 : n0 ≤ b49 := Nat.le_trans Z0 (Nat.le_of_eq g49.symm)
  have Zn51 := Nat.le_trans Z0 E49.1
  have Od52 := X00.ext E49
  have f53 : Fld Z h49 b49 "com/example/hearer/hearer/engine/ScoreCalibration" "temperature" "D" (.double (0 : UInt64)) := D49 (Or.inr (hw _ (List.mem_of_getElem? (i := 26) rfl))) (ty := .double) (by decide)
  have f54 : Fld Z h49 b49 "com/example/hearer/hearer/engine/ScoreCalibration" "outlierLogDensity" "D" (.double (0 : UInt64)) := D49 (Or.inr (hw _ (List.mem_of_getElem? (i := 28) rfl))) (ty := .double) (by decide)
  obtain ⟨_, _, ⟨T55, L55, k55, n55⟩, -, X55, ⟨Lc55, hQ55, l55, y55, z55⟩, st55⟩ := X49.specialBack hx (y := (⟨"com/example/hearer/hearer/engine/ScoreCalibration", "<init>", "(DD)V"⟩ : MethodName)) rfl hown (mvT hZ (hw _ (List.mem_of_getElem? (i := 6) rfl))) (mvT hZ (hw _ (List.mem_of_getElem? (i := 7) rfl))) (mvT hZ (hw _ (List.mem_of_getElem? (i := 8) rfl))) (by decide) (backOf (W := 1) (rm1 l Z a0 hw [] b49 v40 v47  h49 n0 Zn51 A49 f53 f54 g50 T0.1 T0.2.1 O0.1 O0.2.1) hZ (hw _ (List.mem_of_getElem? (i := 8) rfl)) (hw _ (List.mem_of_getElem? (i := 5) rfl)) (by decide) (by decide)) (g := (mkF m 203 #[.val (.int p0), .val (.int p1), .val (.int p2), .val (.int (p0 &&& (3 : Int32))), .val (.int ((p1 &&& (65535 : Int32)) + (1 : Int32))), .val (.int (p1 &&& (255 : Int32))), .val (.double v40), .second, .val (.int v41), .val (.int (((p0.toUInt32 >>> ((2 : Int32) &&& 31).toUInt32).toInt32) &&& (3 : Int32))), .val (.double v47), .second, .val (.int v48), .unset, .unset] [(.double v47), (.double v40), (.ref b49), (.ref b49)])) rfl (by rw [hml]; rfl) (Steps.refl _) (a := b49) (argsL := [(.double v40), (.double v47)]) (rest := [(.ref b49)]) (lenOf pd__DD_V rfl) rfl (by show 2 * 0 + _ ≤ _; exact Nat.le_of_eq rfl) (hb hby at_203) (fun _ _ => ⟨rfl, e49, (by decide : 1 + 0 ≤ _), (by decide : 2 + 0 ≤ _)⟩)
  dsimp only [Pt.U, Pt.locs, Pt.cells, Pt.slots] at X55 l55 y55 z55 st55 hQ55
  subst l55 y55 z55
  obtain ⟨rfl, N55q, K55, Fd0_55, Fd1_55⟩ := hQ55
  have N56 := Fr.app N0 N55q
  have f57 := A49.keep K55
  have Zn58 := Nat.le_trans Zn51 K55.1
  have Od59 := Od52.keep K55 (allS g50 all0)
  obtain ⟨v62, hv62⟩ : ∃ v : Int32, v = if v48 = (0 : Int32) then (0 : Int32) else (1 : Int32) := ⟨_, rfl⟩
  obtain ⟨v63, hv63⟩ : ∃ v : Int32, v = if v41 = (0 : Int32) then (0 : Int32) else v62 := ⟨_, rfl⟩
  obtain ⟨cq64, kq64, q64a, q64b, q64c⟩ := isOf hZ rfl f57
  obtain ⟨_, _, ⟨T64, L64, k64, n64⟩, -, X64, ⟨Lc64, hQ64, l64, y64, z64⟩, st64⟩ := X55.virtualBack hx (y := (⟨"com/example/hearer/hearer/engine/ScoreCalibration", "isNone", "()Z"⟩ : MethodName)) (z := (⟨"com/example/hearer/hearer/engine/ScoreCalibration", "isNone", "()Z"⟩ : MethodName)) hown (mvT hZ (hw _ (List.mem_of_getElem? (i := 29) rfl))) (mvT hZ (hw _ (List.mem_of_getElem? (i := 30) rfl))) (notFace_of_selects (args := #[]) (mvT hZ (hw _ (List.mem_of_getElem? (i := 32) rfl)))) (mvT hZ (hw _ (List.mem_of_getElem? (i := 32) rfl))) (mvT hZ (hw _ (List.mem_of_getElem? (i := 31) rfl))) (by decide) (backOf (W := 0) (rm6 l Z a0 hw [] b49 v40 v47 (cmpValue (FP.dcmp v40 (4607182418800017408 : UInt64)) .l) (cmpValue (FP.dcmp v47 (18442240474082181120 : UInt64)) .l) T55.heap n0 Zn58 Fd0_55 Fd1_55 rfl rfl) hZ (hw _ (List.mem_of_getElem? (i := 33) rfl)) (hw _ (List.mem_of_getElem? (i := 5) rfl)) (by decide) (by decide)) q64a q64c (g := (mkF m 227 #[.val (.int p0), .val (.int p1), .val (.int p2), .val (.int (p0 &&& (3 : Int32))), .val (.int ((p1 &&& (65535 : Int32)) + (1 : Int32))), .val (.int (p1 &&& (255 : Int32))), .val (.double v40), .second, .val (.int v41), .val (.int (((p0.toUInt32 >>> ((2 : Int32) &&& 31).toUInt32).toInt32) &&& (3 : Int32))), .val (.double v47), .second, .val (.int v48), .val (.ref b49), .val (.int v63)] [(.ref b49)])) rfl (by rw [hml]; rfl) (Steps.refl _) (argsL := []) (rest := []) (lenOf pd___Z rfl) rfl (by show 2 * 0 + _ ≤ _; exact Nat.le_of_eq rfl) (hb hby at_227) (fun _ _ => ⟨rfl, rfl, (by decide : 1 + 0 ≤ _), (by decide : 2 + 0 ≤ _)⟩)
  dsimp only [Pt.U, Pt.locs, Pt.cells, Pt.slots] at X64 l64 y64 z64 st64 hQ64
  subst l64 y64 z64
  obtain ⟨rfl, N64q, e64⟩ := hQ64
  have N65 := Fr.app N56 N64q
  obtain ⟨T66, X66, e66, st66⟩ := getS2 X64 hx hZ hown (host := "") (Or.inl (hw _ (List.mem_of_getElem? (i := 35) rfl))) Via.refl e64 (SN.ext Od59.2) (g := (mkF m 235 #[.val (.int p0), .val (.int p1), .val (.int p2), .val (.int (p0 &&& (3 : Int32))), .val (.int ((p1 &&& (65535 : Int32)) + (1 : Int32))), .val (.int (p1 &&& (255 : Int32))), .val (.double v40), .second, .val (.int v41), .val (.int (((p0.toUInt32 >>> ((2 : Int32) &&& 31).toUInt32).toInt32) &&& (3 : Int32))), .val (.double v47), .second, .val (.int v48), .val (.ref b49), .val (.int v63)] [])) rfl (hb hby at_235)
  obtain ⟨cq67, kq67, q67a, q67b, q67c⟩ := isOf hZ e66 (EN.ext Od59.2)
  obtain ⟨_, _, ⟨T67, L67, k67, n67⟩, -, X67, ⟨Lc67, hQ67, l67, y67, z67⟩, st67⟩ := X66.virtualBack hx (y := (⟨"com/example/hearer/hearer/engine/ScoreCalibration", "isNone", "()Z"⟩ : MethodName)) (z := (⟨"com/example/hearer/hearer/engine/ScoreCalibration", "isNone", "()Z"⟩ : MethodName)) hown (mvT hZ (hw _ (List.mem_of_getElem? (i := 29) rfl))) (mvT hZ (hw _ (List.mem_of_getElem? (i := 30) rfl))) (notFace_of_selects (args := #[]) (mvT hZ (hw _ (List.mem_of_getElem? (i := 32) rfl)))) (mvT hZ (hw _ (List.mem_of_getElem? (i := 32) rfl))) (mvT hZ (hw _ (List.mem_of_getElem? (i := 31) rfl))) (by decide) (backOf (W := 0) (rm6 l Z a0 hw [] kN (4607182418800017408 : UInt64) (18442240474082181120 : UInt64) (0 : Int32) (0 : Int32) T55.heap n0 Zn58 (FT.ext Od59.2) (FO.ext Od59.2) (by decide +kernel) (by decide +kernel)) hZ (hw _ (List.mem_of_getElem? (i := 33) rfl)) (hw _ (List.mem_of_getElem? (i := 5) rfl)) (by decide) (by decide)) q67a q67c (g := (mkF m 238 #[.val (.int p0), .val (.int p1), .val (.int p2), .val (.int (p0 &&& (3 : Int32))), .val (.int ((p1 &&& (65535 : Int32)) + (1 : Int32))), .val (.int (p1 &&& (255 : Int32))), .val (.double v40), .second, .val (.int v41), .val (.int (((p0.toUInt32 >>> ((2 : Int32) &&& 31).toUInt32).toInt32) &&& (3 : Int32))), .val (.double v47), .second, .val (.int v48), .val (.ref b49), .val (.int v63)] [(.ref kN)])) rfl (by rw [hml]; rfl) (Steps.refl _) (argsL := []) (rest := []) (lenOf pd___Z rfl) rfl (by show 2 * 0 + _ ≤ _; exact Nat.le_of_eq rfl) (hb hby at_238) (fun _ _ => ⟨rfl, e66, (by decide : 1 + 0 ≤ _), (by decide : 2 + 0 ≤ _)⟩)
  dsimp only [Pt.U, Pt.locs, Pt.cells, Pt.slots] at X67 l67 y67 z67 st67 hQ67
  subst l67 y67 z67
  obtain ⟨rfl, N67q, e67⟩ := hQ67
  have N68 := Fr.app N65 N67q
  obtain ⟨fs, hr, hrun, hended, hW, hsame⟩ := X67.leave (v := some (.int (1 : Int32))) (fun h => by rw [Bd.returns] at h; cases h)
  refine ⟨_, _, pre0 _ ?_, hrun, hended, _, _, rfl, ?_, ⟨_, rfl⟩, hW, hsame.mono (by decide) (by decide)⟩
  · show Steps p.tables e below (s₁.setTop (mkF m 0 #[.val (.int p0), .val (.int p1), .val (.int p2), .unset, .unset, .unset, .unset, .unset, .unset, .unset, .unset, .unset, .unset, .unset, .unset] [])) _
    refine XS.iloadN X0.here hx rfl (hb hby at_0) rfl ?_
    show Steps p.tables e below (s₁.setTop (mkF m 1 #[.val (.int p0), .val (.int p1), .val (.int p2), .unset, .unset, .unset, .unset, .unset, .unset, .unset, .unset, .unset, .unset, .unset, .unset] [(.int p0)])) _
    refine XS.iconst X0.here hx rfl (hb hby at_1) ?_
    show Steps p.tables e below (s₁.setTop (mkF m 2 #[.val (.int p0), .val (.int p1), .val (.int p2), .unset, .unset, .unset, .unset, .unset, .unset, .unset, .unset, .unset, .unset, .unset, .unset] [(.int (3 : Int32)), (.int p0)])) _
    refine XS.iand X0.here hx rfl (hb hby at_2) rfl ?_
    show Steps p.tables e below (s₁.setTop (mkF m 3 #[.val (.int p0), .val (.int p1), .val (.int p2), .unset, .unset, .unset, .unset, .unset, .unset, .unset, .unset, .unset, .unset, .unset, .unset] [(.int (p0 &&& (3 : Int32)))])) _
    refine XS.istoreN X0.here hx rfl (hb hby at_3) rfl (l' := #[.val (.int p0), .val (.int p1), .val (.int p2), .val (.int (p0 &&& (3 : Int32))), .unset, .unset, .unset, .unset, .unset, .unset, .unset, .unset, .unset, .unset, .unset]) rfl ?_
    show Steps p.tables e below (s₁.setTop (mkF m 4 #[.val (.int p0), .val (.int p1), .val (.int p2), .val (.int (p0 &&& (3 : Int32))), .unset, .unset, .unset, .unset, .unset, .unset, .unset, .unset, .unset, .unset, .unset] [])) _
    refine XS.iloadN X0.here hx rfl (hb hby at_4) rfl ?_
    show Steps p.tables e below (s₁.setTop (mkF m 5 #[.val (.int p0), .val (.int p1), .val (.int p2), .val (.int (p0 &&& (3 : Int32))), .unset, .unset, .unset, .unset, .unset, .unset, .unset, .unset, .unset, .unset, .unset] [(.int p1)])) _
    refine X0.ldcInt hx hown (mvT hZ (hw _ (List.mem_of_getElem? (i := 0) rfl))) (g := (mkF m 5 #[.val (.int p0), .val (.int p1), .val (.int p2), .val (.int (p0 &&& (3 : Int32))), .unset, .unset, .unset, .unset, .unset, .unset, .unset, .unset, .unset, .unset, .unset] [(.int p1)])) rfl (hb hby at_5) _ ?_
    show Steps p.tables e below (s₁.setTop (mkF m 7 #[.val (.int p0), .val (.int p1), .val (.int p2), .val (.int (p0 &&& (3 : Int32))), .unset, .unset, .unset, .unset, .unset, .unset, .unset, .unset, .unset, .unset, .unset] [(.int (65535 : Int32)), (.int p1)])) _
    refine XS.iand X0.here hx rfl (hb hby at_7) rfl ?_
    show Steps p.tables e below (s₁.setTop (mkF m 8 #[.val (.int p0), .val (.int p1), .val (.int p2), .val (.int (p0 &&& (3 : Int32))), .unset, .unset, .unset, .unset, .unset, .unset, .unset, .unset, .unset, .unset, .unset] [(.int (p1 &&& (65535 : Int32)))])) _
    refine XS.iconst X0.here hx rfl (hb hby at_8) ?_
    show Steps p.tables e below (s₁.setTop (mkF m 9 #[.val (.int p0), .val (.int p1), .val (.int p2), .val (.int (p0 &&& (3 : Int32))), .unset, .unset, .unset, .unset, .unset, .unset, .unset, .unset, .unset, .unset, .unset] [(.int (1 : Int32)), (.int (p1 &&& (65535 : Int32)))])) _
    refine XS.iadd X0.here hx rfl (hb hby at_9) rfl ?_
    show Steps p.tables e below (s₁.setTop (mkF m 10 #[.val (.int p0), .val (.int p1), .val (.int p2), .val (.int (p0 &&& (3 : Int32))), .unset, .unset, .unset, .unset, .unset, .unset, .unset, .unset, .unset, .unset, .unset] [(.int ((p1 &&& (65535 : Int32)) + (1 : Int32)))])) _
    refine XS.istore X0.here hx rfl (hb hby at_10) rfl (l' := #[.val (.int p0), .val (.int p1), .val (.int p2), .val (.int (p0 &&& (3 : Int32))), .val (.int ((p1 &&& (65535 : Int32)) + (1 : Int32))), .unset, .unset, .unset, .unset, .unset, .unset, .unset, .unset, .unset, .unset]) rfl ?_
    show Steps p.tables e below (s₁.setTop (mkF m 12 #[.val (.int p0), .val (.int p1), .val (.int p2), .val (.int (p0 &&& (3 : Int32))), .val (.int ((p1 &&& (65535 : Int32)) + (1 : Int32))), .unset, .unset, .unset, .unset, .unset, .unset, .unset, .unset, .unset, .unset] [])) _
    refine XS.iloadN X0.here hx rfl (hb hby at_12) rfl ?_
    show Steps p.tables e below (s₁.setTop (mkF m 13 #[.val (.int p0), .val (.int p1), .val (.int p2), .val (.int (p0 &&& (3 : Int32))), .val (.int ((p1 &&& (65535 : Int32)) + (1 : Int32))), .unset, .unset, .unset, .unset, .unset, .unset, .unset, .unset, .unset, .unset] [(.int p1)])) _
    refine XS.sipush X0.here hx rfl (hb hby at_13) ?_
    show Steps p.tables e below (s₁.setTop (mkF m 16 #[.val (.int p0), .val (.int p1), .val (.int p2), .val (.int (p0 &&& (3 : Int32))), .val (.int ((p1 &&& (65535 : Int32)) + (1 : Int32))), .unset, .unset, .unset, .unset, .unset, .unset, .unset, .unset, .unset, .unset] [(.int (255 : Int32)), (.int p1)])) _
    refine XS.iand X0.here hx rfl (hb hby at_16) rfl ?_
    show Steps p.tables e below (s₁.setTop (mkF m 17 #[.val (.int p0), .val (.int p1), .val (.int p2), .val (.int (p0 &&& (3 : Int32))), .val (.int ((p1 &&& (65535 : Int32)) + (1 : Int32))), .unset, .unset, .unset, .unset, .unset, .unset, .unset, .unset, .unset, .unset] [(.int (p1 &&& (255 : Int32)))])) _
    refine XS.istore X0.here hx rfl (hb hby at_17) rfl (l' := #[.val (.int p0), .val (.int p1), .val (.int p2), .val (.int (p0 &&& (3 : Int32))), .val (.int ((p1 &&& (65535 : Int32)) + (1 : Int32))), .val (.int (p1 &&& (255 : Int32))), .unset, .unset, .unset, .unset, .unset, .unset, .unset, .unset, .unset]) rfl ?_
    show Steps p.tables e below (s₁.setTop (mkF m 19 #[.val (.int p0), .val (.int p1), .val (.int p2), .val (.int (p0 &&& (3 : Int32))), .val (.int ((p1 &&& (65535 : Int32)) + (1 : Int32))), .val (.int (p1 &&& (255 : Int32))), .unset, .unset, .unset, .unset, .unset, .unset, .unset, .unset, .unset] [])) _
    refine XS.iloadN X0.here hx rfl (hb hby at_19) rfl ?_
    refine joinS (B := s₁.setTop (mkF m 128 #[.val (.int p0), .val (.int p1), .val (.int p2), .val (.int (p0 &&& (3 : Int32))), .val (.int ((p1 &&& (65535 : Int32)) + (1 : Int32))), .val (.int (p1 &&& (255 : Int32))), .val (.double v40), .second, .val (.int v41), .unset, .unset, .unset, .unset, .unset, .unset] [])) (fun kt => ?_) ?_
    · by_cases hc25 : (p0 &&& (3 : Int32)) = (0 : Int32)
      · rw [show v40 = (FP.ddiv (FP.i2d ((p1 &&& (65535 : Int32)) + (1 : Int32))) (4616189618054758400 : UInt64)) from by rw [hv40, if_pos hc25]] at kt
        rw [show v41 = v27 from by rw [hv41, if_pos hc25]] at kt
        show Steps p.tables e below (s₁.setTop (mkF m 20 #[.val (.int p0), .val (.int p1), .val (.int p2), .val (.int (p0 &&& (3 : Int32))), .val (.int ((p1 &&& (65535 : Int32)) + (1 : Int32))), .val (.int (p1 &&& (255 : Int32))), .unset, .unset, .unset, .unset, .unset, .unset, .unset, .unset, .unset] [(.int (p0 &&& (3 : Int32)))])) _
        refine XS.ifNo X0.here hx rfl (hb hby at_20) rfl ((if0 _ _).trans (teq hc25).2) ?_
        show Steps p.tables e below (s₁.setTop (mkF m 23 #[.val (.int p0), .val (.int p1), .val (.int p2), .val (.int (p0 &&& (3 : Int32))), .val (.int ((p1 &&& (65535 : Int32)) + (1 : Int32))), .val (.int (p1 &&& (255 : Int32))), .unset, .unset, .unset, .unset, .unset, .unset, .unset, .unset, .unset] [])) _
        refine XS.iload X0.here hx rfl (hb hby at_23) rfl ?_
        show Steps p.tables e below (s₁.setTop (mkF m 25 #[.val (.int p0), .val (.int p1), .val (.int p2), .val (.int (p0 &&& (3 : Int32))), .val (.int ((p1 &&& (65535 : Int32)) + (1 : Int32))), .val (.int (p1 &&& (255 : Int32))), .unset, .unset, .unset, .unset, .unset, .unset, .unset, .unset, .unset] [(.int ((p1 &&& (65535 : Int32)) + (1 : Int32)))])) _
        refine own_si2d X0.here hx (hb hby at_25) ?_
        show Steps p.tables e below (s₁.setTop (mkF m 26 #[.val (.int p0), .val (.int p1), .val (.int p2), .val (.int (p0 &&& (3 : Int32))), .val (.int ((p1 &&& (65535 : Int32)) + (1 : Int32))), .val (.int (p1 &&& (255 : Int32))), .unset, .unset, .unset, .unset, .unset, .unset, .unset, .unset, .unset] [(.double (FP.i2d ((p1 &&& (65535 : Int32)) + (1 : Int32))))])) _
        refine X0.ldc2DoubleC hx hown (mvT hZ (hw _ (List.mem_of_getElem? (i := 1) rfl))) (g := (mkF m 26 #[.val (.int p0), .val (.int p1), .val (.int p2), .val (.int (p0 &&& (3 : Int32))), .val (.int ((p1 &&& (65535 : Int32)) + (1 : Int32))), .val (.int (p1 &&& (255 : Int32))), .unset, .unset, .unset, .unset, .unset, .unset, .unset, .unset, .unset] [(.double (FP.i2d ((p1 &&& (65535 : Int32)) + (1 : Int32))))])) rfl (hb hby at_26) _ ?_
        show Steps p.tables e below (s₁.setTop (mkF m 29 #[.val (.int p0), .val (.int p1), .val (.int p2), .val (.int (p0 &&& (3 : Int32))), .val (.int ((p1 &&& (65535 : Int32)) + (1 : Int32))), .val (.int (p1 &&& (255 : Int32))), .unset, .unset, .unset, .unset, .unset, .unset, .unset, .unset, .unset] [(.double (4616189618054758400 : UInt64)), (.double (FP.i2d ((p1 &&& (65535 : Int32)) + (1 : Int32))))])) _
        refine own_sdiv X0.here hx (hb hby at_29) (Jvm.Free.Fl.val64_no.mpr (own_rep.no (own_R0 p1))) ?_
        show Steps p.tables e below (s₁.setTop (mkF m 30 #[.val (.int p0), .val (.int p1), .val (.int p2), .val (.int (p0 &&& (3 : Int32))), .val (.int ((p1 &&& (65535 : Int32)) + (1 : Int32))), .val (.int (p1 &&& (255 : Int32))), .unset, .unset, .unset, .unset, .unset, .unset, .unset, .unset, .unset] [(.double (FP.ddiv (FP.i2d ((p1 &&& (65535 : Int32)) + (1 : Int32))) (4616189618054758400 : UInt64)))])) _
        refine own_sstore X0.here hx (l' := #[.val (.int p0), .val (.int p1), .val (.int p2), .val (.int (p0 &&& (3 : Int32))), .val (.int ((p1 &&& (65535 : Int32)) + (1 : Int32))), .val (.int (p1 &&& (255 : Int32))), .val (.double (FP.ddiv (FP.i2d ((p1 &&& (65535 : Int32)) + (1 : Int32))) (4616189618054758400 : UInt64))), .second, .unset, .unset, .unset, .unset, .unset, .unset, .unset]) (hb hby at_30) rfl ?_
        show Steps p.tables e below (s₁.setTop (mkF m 32 #[.val (.int p0), .val (.int p1), .val (.int p2), .val (.int (p0 &&& (3 : Int32))), .val (.int ((p1 &&& (65535 : Int32)) + (1 : Int32))), .val (.int (p1 &&& (255 : Int32))), .val (.double (FP.ddiv (FP.i2d ((p1 &&& (65535 : Int32)) + (1 : Int32))) (4616189618054758400 : UInt64))), .second, .unset, .unset, .unset, .unset, .unset, .unset, .unset] [])) _
        refine XS.iload X0.here hx rfl (hb hby at_32) rfl ?_
        show Steps p.tables e below (s₁.setTop (mkF m 34 #[.val (.int p0), .val (.int p1), .val (.int p2), .val (.int (p0 &&& (3 : Int32))), .val (.int ((p1 &&& (65535 : Int32)) + (1 : Int32))), .val (.int (p1 &&& (255 : Int32))), .val (.double (FP.ddiv (FP.i2d ((p1 &&& (65535 : Int32)) + (1 : Int32))) (4616189618054758400 : UInt64))), .second, .unset, .unset, .unset, .unset, .unset, .unset, .unset] [(.int ((p1 &&& (65535 : Int32)) + (1 : Int32)))])) _
        refine XS.iconst X0.here hx rfl (hb hby at_34) ?_
        refine joinS (B := s₁.setTop (mkF m 43 #[.val (.int p0), .val (.int p1), .val (.int p2), .val (.int (p0 &&& (3 : Int32))), .val (.int ((p1 &&& (65535 : Int32)) + (1 : Int32))), .val (.int (p1 &&& (255 : Int32))), .val (.double (FP.ddiv (FP.i2d ((p1 &&& (65535 : Int32)) + (1 : Int32))) (4616189618054758400 : UInt64))), .second, .unset, .unset, .unset, .unset, .unset, .unset, .unset] [(.int v27)])) (fun kt => ?_) ?_
        · by_cases hc26 : ((p1 &&& (65535 : Int32)) + (1 : Int32)) = (4 : Int32)
          · rw [show v27 = (1 : Int32) from by rw [hv27, if_pos hc26]] at kt
            show Steps p.tables e below (s₁.setTop (mkF m 35 #[.val (.int p0), .val (.int p1), .val (.int p2), .val (.int (p0 &&& (3 : Int32))), .val (.int ((p1 &&& (65535 : Int32)) + (1 : Int32))), .val (.int (p1 &&& (255 : Int32))), .val (.double (FP.ddiv (FP.i2d ((p1 &&& (65535 : Int32)) + (1 : Int32))) (4616189618054758400 : UInt64))), .second, .unset, .unset, .unset, .unset, .unset, .unset, .unset] [(.int (4 : Int32)), (.int ((p1 &&& (65535 : Int32)) + (1 : Int32)))])) _
            refine XS.icmpNo X0.here hx rfl (hb hby at_35) rfl (teq hc26).2 ?_
            show Steps p.tables e below (s₁.setTop (mkF m 38 #[.val (.int p0), .val (.int p1), .val (.int p2), .val (.int (p0 &&& (3 : Int32))), .val (.int ((p1 &&& (65535 : Int32)) + (1 : Int32))), .val (.int (p1 &&& (255 : Int32))), .val (.double (FP.ddiv (FP.i2d ((p1 &&& (65535 : Int32)) + (1 : Int32))) (4616189618054758400 : UInt64))), .second, .unset, .unset, .unset, .unset, .unset, .unset, .unset] [])) _
            refine XS.iconst X0.here hx rfl (hb hby at_38) ?_
            show Steps p.tables e below (s₁.setTop (mkF m 39 #[.val (.int p0), .val (.int p1), .val (.int p2), .val (.int (p0 &&& (3 : Int32))), .val (.int ((p1 &&& (65535 : Int32)) + (1 : Int32))), .val (.int (p1 &&& (255 : Int32))), .val (.double (FP.ddiv (FP.i2d ((p1 &&& (65535 : Int32)) + (1 : Int32))) (4616189618054758400 : UInt64))), .second, .unset, .unset, .unset, .unset, .unset, .unset, .unset] [(.int (1 : Int32))])) _
            refine XS.goto X0.here hx rfl (pc0 := 39) (pc' := 43) rfl (hb hby at_39) (by decide) (by decide) ?_
            exact kt
          · rw [show v27 = (0 : Int32) from by rw [hv27, if_neg hc26]] at kt
            show Steps p.tables e below (s₁.setTop (mkF m 35 #[.val (.int p0), .val (.int p1), .val (.int p2), .val (.int (p0 &&& (3 : Int32))), .val (.int ((p1 &&& (65535 : Int32)) + (1 : Int32))), .val (.int (p1 &&& (255 : Int32))), .val (.double (FP.ddiv (FP.i2d ((p1 &&& (65535 : Int32)) + (1 : Int32))) (4616189618054758400 : UInt64))), .second, .unset, .unset, .unset, .unset, .unset, .unset, .unset] [(.int (4 : Int32)), (.int ((p1 &&& (65535 : Int32)) + (1 : Int32)))])) _
            refine XS.icmpYes X0.here hx rfl (pc0 := 35) (pc' := 42) rfl (hb hby at_35) rfl (feq hc26).2 (by decide) (by decide) ?_
            show Steps p.tables e below (s₁.setTop (mkF m 42 #[.val (.int p0), .val (.int p1), .val (.int p2), .val (.int (p0 &&& (3 : Int32))), .val (.int ((p1 &&& (65535 : Int32)) + (1 : Int32))), .val (.int (p1 &&& (255 : Int32))), .val (.double (FP.ddiv (FP.i2d ((p1 &&& (65535 : Int32)) + (1 : Int32))) (4616189618054758400 : UInt64))), .second, .unset, .unset, .unset, .unset, .unset, .unset, .unset] [])) _
            refine XS.iconst X0.here hx rfl (hb hby at_42) ?_
            exact kt
        show Steps p.tables e below (s₁.setTop (mkF m 43 #[.val (.int p0), .val (.int p1), .val (.int p2), .val (.int (p0 &&& (3 : Int32))), .val (.int ((p1 &&& (65535 : Int32)) + (1 : Int32))), .val (.int (p1 &&& (255 : Int32))), .val (.double (FP.ddiv (FP.i2d ((p1 &&& (65535 : Int32)) + (1 : Int32))) (4616189618054758400 : UInt64))), .second, .unset, .unset, .unset, .unset, .unset, .unset, .unset] [(.int v27)])) _
        refine XS.istore X0.here hx rfl (hb hby at_43) rfl (l' := #[.val (.int p0), .val (.int p1), .val (.int p2), .val (.int (p0 &&& (3 : Int32))), .val (.int ((p1 &&& (65535 : Int32)) + (1 : Int32))), .val (.int (p1 &&& (255 : Int32))), .val (.double (FP.ddiv (FP.i2d ((p1 &&& (65535 : Int32)) + (1 : Int32))) (4616189618054758400 : UInt64))), .second, .val (.int v27), .unset, .unset, .unset, .unset, .unset, .unset]) rfl ?_
        show Steps p.tables e below (s₁.setTop (mkF m 45 #[.val (.int p0), .val (.int p1), .val (.int p2), .val (.int (p0 &&& (3 : Int32))), .val (.int ((p1 &&& (65535 : Int32)) + (1 : Int32))), .val (.int (p1 &&& (255 : Int32))), .val (.double (FP.ddiv (FP.i2d ((p1 &&& (65535 : Int32)) + (1 : Int32))) (4616189618054758400 : UInt64))), .second, .val (.int v27), .unset, .unset, .unset, .unset, .unset, .unset] [])) _
        refine XS.goto X0.here hx rfl (pc0 := 45) (pc' := 128) rfl (hb hby at_45) (by decide) (by decide) ?_
        exact kt
      · rw [show v40 = v38 from by rw [hv40, if_neg hc25]] at kt
        rw [show v41 = v39 from by rw [hv41, if_neg hc25]] at kt
        show Steps p.tables e below (s₁.setTop (mkF m 20 #[.val (.int p0), .val (.int p1), .val (.int p2), .val (.int (p0 &&& (3 : Int32))), .val (.int ((p1 &&& (65535 : Int32)) + (1 : Int32))), .val (.int (p1 &&& (255 : Int32))), .unset, .unset, .unset, .unset, .unset, .unset, .unset, .unset, .unset] [(.int (p0 &&& (3 : Int32)))])) _
        refine XS.ifYes X0.here hx rfl (pc0 := 20) (pc' := 48) rfl (hb hby at_20) rfl ((if0 _ _).trans (feq hc25).2) (by decide) (by decide) ?_
        show Steps p.tables e below (s₁.setTop (mkF m 48 #[.val (.int p0), .val (.int p1), .val (.int p2), .val (.int (p0 &&& (3 : Int32))), .val (.int ((p1 &&& (65535 : Int32)) + (1 : Int32))), .val (.int (p1 &&& (255 : Int32))), .unset, .unset, .unset, .unset, .unset, .unset, .unset, .unset, .unset] [])) _
        refine XS.iloadN X0.here hx rfl (hb hby at_48) rfl ?_
        show Steps p.tables e below (s₁.setTop (mkF m 49 #[.val (.int p0), .val (.int p1), .val (.int p2), .val (.int (p0 &&& (3 : Int32))), .val (.int ((p1 &&& (65535 : Int32)) + (1 : Int32))), .val (.int (p1 &&& (255 : Int32))), .unset, .unset, .unset, .unset, .unset, .unset, .unset, .unset, .unset] [(.int (p0 &&& (3 : Int32)))])) _
        refine XS.iconst X0.here hx rfl (hb hby at_49) ?_
        refine joinS (B := s₁.setTop (mkF m 128 #[.val (.int p0), .val (.int p1), .val (.int p2), .val (.int (p0 &&& (3 : Int32))), .val (.int ((p1 &&& (65535 : Int32)) + (1 : Int32))), .val (.int (p1 &&& (255 : Int32))), .val (.double v38), .second, .val (.int v39), .unset, .unset, .unset, .unset, .unset, .unset] [])) (fun kt => ?_) ?_
        · by_cases hc28 : (p0 &&& (3 : Int32)) = (1 : Int32)
          · rw [show v38 = (FP.dadd (4607182418800017408 : UInt64) (FP.ddiv (FP.i2d (p1 &&& (255 : Int32))) (4841369599423283200 : UInt64))) from by rw [hv38, if_pos hc28]] at kt
            rw [show v39 = v30 from by rw [hv39, if_pos hc28]] at kt
            show Steps p.tables e below (s₁.setTop (mkF m 50 #[.val (.int p0), .val (.int p1), .val (.int p2), .val (.int (p0 &&& (3 : Int32))), .val (.int ((p1 &&& (65535 : Int32)) + (1 : Int32))), .val (.int (p1 &&& (255 : Int32))), .unset, .unset, .unset, .unset, .unset, .unset, .unset, .unset, .unset] [(.int (1 : Int32)), (.int (p0 &&& (3 : Int32)))])) _
            refine XS.icmpNo X0.here hx rfl (hb hby at_50) rfl (teq hc28).2 ?_
            show Steps p.tables e below (s₁.setTop (mkF m 53 #[.val (.int p0), .val (.int p1), .val (.int p2), .val (.int (p0 &&& (3 : Int32))), .val (.int ((p1 &&& (65535 : Int32)) + (1 : Int32))), .val (.int (p1 &&& (255 : Int32))), .unset, .unset, .unset, .unset, .unset, .unset, .unset, .unset, .unset] [])) _
            refine own_sone X0.here hx (hb hby at_53) ?_
            show Steps p.tables e below (s₁.setTop (mkF m 54 #[.val (.int p0), .val (.int p1), .val (.int p2), .val (.int (p0 &&& (3 : Int32))), .val (.int ((p1 &&& (65535 : Int32)) + (1 : Int32))), .val (.int (p1 &&& (255 : Int32))), .unset, .unset, .unset, .unset, .unset, .unset, .unset, .unset, .unset] [(.double (4607182418800017408 : UInt64))])) _
            refine XS.iload X0.here hx rfl (hb hby at_54) rfl ?_
            show Steps p.tables e below (s₁.setTop (mkF m 56 #[.val (.int p0), .val (.int p1), .val (.int p2), .val (.int (p0 &&& (3 : Int32))), .val (.int ((p1 &&& (65535 : Int32)) + (1 : Int32))), .val (.int (p1 &&& (255 : Int32))), .unset, .unset, .unset, .unset, .unset, .unset, .unset, .unset, .unset] [(.int (p1 &&& (255 : Int32))), (.double (4607182418800017408 : UInt64))])) _
            refine own_si2d X0.here hx (hb hby at_56) ?_
            show Steps p.tables e below (s₁.setTop (mkF m 57 #[.val (.int p0), .val (.int p1), .val (.int p2), .val (.int (p0 &&& (3 : Int32))), .val (.int ((p1 &&& (65535 : Int32)) + (1 : Int32))), .val (.int (p1 &&& (255 : Int32))), .unset, .unset, .unset, .unset, .unset, .unset, .unset, .unset, .unset] [(.double (FP.i2d (p1 &&& (255 : Int32)))), (.double (4607182418800017408 : UInt64))])) _
            refine X0.ldc2DoubleC hx hown (mvT hZ (hw _ (List.mem_of_getElem? (i := 37) rfl))) (g := (mkF m 57 #[.val (.int p0), .val (.int p1), .val (.int p2), .val (.int (p0 &&& (3 : Int32))), .val (.int ((p1 &&& (65535 : Int32)) + (1 : Int32))), .val (.int (p1 &&& (255 : Int32))), .unset, .unset, .unset, .unset, .unset, .unset, .unset, .unset, .unset] [(.double (FP.i2d (p1 &&& (255 : Int32)))), (.double (4607182418800017408 : UInt64))])) rfl (hb hby at_57) _ ?_
            show Steps p.tables e below (s₁.setTop (mkF m 60 #[.val (.int p0), .val (.int p1), .val (.int p2), .val (.int (p0 &&& (3 : Int32))), .val (.int ((p1 &&& (65535 : Int32)) + (1 : Int32))), .val (.int (p1 &&& (255 : Int32))), .unset, .unset, .unset, .unset, .unset, .unset, .unset, .unset, .unset] [(.double (4841369599423283200 : UInt64)), (.double (FP.i2d (p1 &&& (255 : Int32)))), (.double (4607182418800017408 : UInt64))])) _
            refine own_sdiv X0.here hx (hb hby at_60) (Jvm.Free.Fl.val64_no.mpr (own_rep.no (own_R1a p1))) ?_
            show Steps p.tables e below (s₁.setTop (mkF m 61 #[.val (.int p0), .val (.int p1), .val (.int p2), .val (.int (p0 &&& (3 : Int32))), .val (.int ((p1 &&& (65535 : Int32)) + (1 : Int32))), .val (.int (p1 &&& (255 : Int32))), .unset, .unset, .unset, .unset, .unset, .unset, .unset, .unset, .unset] [(.double (FP.ddiv (FP.i2d (p1 &&& (255 : Int32))) (4841369599423283200 : UInt64))), (.double (4607182418800017408 : UInt64))])) _
            refine own_sadd X0.here hx (hb hby at_61) (Jvm.Free.Fl.val64_no.mpr (own_rep.no (own_R1 p1))) ?_
            show Steps p.tables e below (s₁.setTop (mkF m 62 #[.val (.int p0), .val (.int p1), .val (.int p2), .val (.int (p0 &&& (3 : Int32))), .val (.int ((p1 &&& (65535 : Int32)) + (1 : Int32))), .val (.int (p1 &&& (255 : Int32))), .unset, .unset, .unset, .unset, .unset, .unset, .unset, .unset, .unset] [(.double (FP.dadd (4607182418800017408 : UInt64) (FP.ddiv (FP.i2d (p1 &&& (255 : Int32))) (4841369599423283200 : UInt64))))])) _
            refine own_sstore X0.here hx (l' := #[.val (.int p0), .val (.int p1), .val (.int p2), .val (.int (p0 &&& (3 : Int32))), .val (.int ((p1 &&& (65535 : Int32)) + (1 : Int32))), .val (.int (p1 &&& (255 : Int32))), .val (.double (FP.dadd (4607182418800017408 : UInt64) (FP.ddiv (FP.i2d (p1 &&& (255 : Int32))) (4841369599423283200 : UInt64)))), .second, .unset, .unset, .unset, .unset, .unset, .unset, .unset]) (hb hby at_62) rfl ?_
            show Steps p.tables e below (s₁.setTop (mkF m 64 #[.val (.int p0), .val (.int p1), .val (.int p2), .val (.int (p0 &&& (3 : Int32))), .val (.int ((p1 &&& (65535 : Int32)) + (1 : Int32))), .val (.int (p1 &&& (255 : Int32))), .val (.double (FP.dadd (4607182418800017408 : UInt64) (FP.ddiv (FP.i2d (p1 &&& (255 : Int32))) (4841369599423283200 : UInt64)))), .second, .unset, .unset, .unset, .unset, .unset, .unset, .unset] [])) _
            refine XS.iload X0.here hx rfl (hb hby at_64) rfl ?_
            refine joinS (B := s₁.setTop (mkF m 74 #[.val (.int p0), .val (.int p1), .val (.int p2), .val (.int (p0 &&& (3 : Int32))), .val (.int ((p1 &&& (65535 : Int32)) + (1 : Int32))), .val (.int (p1 &&& (255 : Int32))), .val (.double (FP.dadd (4607182418800017408 : UInt64) (FP.ddiv (FP.i2d (p1 &&& (255 : Int32))) (4841369599423283200 : UInt64)))), .second, .unset, .unset, .unset, .unset, .unset, .unset, .unset] [(.int v30)])) (fun kt => ?_) ?_
            · by_cases hc29 : (p1 &&& (255 : Int32)) = (0 : Int32)
              · rw [show v30 = (1 : Int32) from by rw [hv30, if_pos hc29]] at kt
                show Steps p.tables e below (s₁.setTop (mkF m 66 #[.val (.int p0), .val (.int p1), .val (.int p2), .val (.int (p0 &&& (3 : Int32))), .val (.int ((p1 &&& (65535 : Int32)) + (1 : Int32))), .val (.int (p1 &&& (255 : Int32))), .val (.double (FP.dadd (4607182418800017408 : UInt64) (FP.ddiv (FP.i2d (p1 &&& (255 : Int32))) (4841369599423283200 : UInt64)))), .second, .unset, .unset, .unset, .unset, .unset, .unset, .unset] [(.int (p1 &&& (255 : Int32)))])) _
                refine XS.ifNo X0.here hx rfl (hb hby at_66) rfl ((if0 _ _).trans (teq hc29).2) ?_
                show Steps p.tables e below (s₁.setTop (mkF m 69 #[.val (.int p0), .val (.int p1), .val (.int p2), .val (.int (p0 &&& (3 : Int32))), .val (.int ((p1 &&& (65535 : Int32)) + (1 : Int32))), .val (.int (p1 &&& (255 : Int32))), .val (.double (FP.dadd (4607182418800017408 : UInt64) (FP.ddiv (FP.i2d (p1 &&& (255 : Int32))) (4841369599423283200 : UInt64)))), .second, .unset, .unset, .unset, .unset, .unset, .unset, .unset] [])) _
                refine XS.iconst X0.here hx rfl (hb hby at_69) ?_
                show Steps p.tables e below (s₁.setTop (mkF m 70 #[.val (.int p0), .val (.int p1), .val (.int p2), .val (.int (p0 &&& (3 : Int32))), .val (.int ((p1 &&& (65535 : Int32)) + (1 : Int32))), .val (.int (p1 &&& (255 : Int32))), .val (.double (FP.dadd (4607182418800017408 : UInt64) (FP.ddiv (FP.i2d (p1 &&& (255 : Int32))) (4841369599423283200 : UInt64)))), .second, .unset, .unset, .unset, .unset, .unset, .unset, .unset] [(.int (1 : Int32))])) _
                refine XS.goto X0.here hx rfl (pc0 := 70) (pc' := 74) rfl (hb hby at_70) (by decide) (by decide) ?_
                exact kt
              · rw [show v30 = (0 : Int32) from by rw [hv30, if_neg hc29]] at kt
                show Steps p.tables e below (s₁.setTop (mkF m 66 #[.val (.int p0), .val (.int p1), .val (.int p2), .val (.int (p0 &&& (3 : Int32))), .val (.int ((p1 &&& (65535 : Int32)) + (1 : Int32))), .val (.int (p1 &&& (255 : Int32))), .val (.double (FP.dadd (4607182418800017408 : UInt64) (FP.ddiv (FP.i2d (p1 &&& (255 : Int32))) (4841369599423283200 : UInt64)))), .second, .unset, .unset, .unset, .unset, .unset, .unset, .unset] [(.int (p1 &&& (255 : Int32)))])) _
                refine XS.ifYes X0.here hx rfl (pc0 := 66) (pc' := 73) rfl (hb hby at_66) rfl ((if0 _ _).trans (feq hc29).2) (by decide) (by decide) ?_
                show Steps p.tables e below (s₁.setTop (mkF m 73 #[.val (.int p0), .val (.int p1), .val (.int p2), .val (.int (p0 &&& (3 : Int32))), .val (.int ((p1 &&& (65535 : Int32)) + (1 : Int32))), .val (.int (p1 &&& (255 : Int32))), .val (.double (FP.dadd (4607182418800017408 : UInt64) (FP.ddiv (FP.i2d (p1 &&& (255 : Int32))) (4841369599423283200 : UInt64)))), .second, .unset, .unset, .unset, .unset, .unset, .unset, .unset] [])) _
                refine XS.iconst X0.here hx rfl (hb hby at_73) ?_
                exact kt
            show Steps p.tables e below (s₁.setTop (mkF m 74 #[.val (.int p0), .val (.int p1), .val (.int p2), .val (.int (p0 &&& (3 : Int32))), .val (.int ((p1 &&& (65535 : Int32)) + (1 : Int32))), .val (.int (p1 &&& (255 : Int32))), .val (.double (FP.dadd (4607182418800017408 : UInt64) (FP.ddiv (FP.i2d (p1 &&& (255 : Int32))) (4841369599423283200 : UInt64)))), .second, .unset, .unset, .unset, .unset, .unset, .unset, .unset] [(.int v30)])) _
            refine XS.istore X0.here hx rfl (hb hby at_74) rfl (l' := #[.val (.int p0), .val (.int p1), .val (.int p2), .val (.int (p0 &&& (3 : Int32))), .val (.int ((p1 &&& (65535 : Int32)) + (1 : Int32))), .val (.int (p1 &&& (255 : Int32))), .val (.double (FP.dadd (4607182418800017408 : UInt64) (FP.ddiv (FP.i2d (p1 &&& (255 : Int32))) (4841369599423283200 : UInt64)))), .second, .val (.int v30), .unset, .unset, .unset, .unset, .unset, .unset]) rfl ?_
            show Steps p.tables e below (s₁.setTop (mkF m 76 #[.val (.int p0), .val (.int p1), .val (.int p2), .val (.int (p0 &&& (3 : Int32))), .val (.int ((p1 &&& (65535 : Int32)) + (1 : Int32))), .val (.int (p1 &&& (255 : Int32))), .val (.double (FP.dadd (4607182418800017408 : UInt64) (FP.ddiv (FP.i2d (p1 &&& (255 : Int32))) (4841369599423283200 : UInt64)))), .second, .val (.int v30), .unset, .unset, .unset, .unset, .unset, .unset] [])) _
            refine XS.goto X0.here hx rfl (pc0 := 76) (pc' := 128) rfl (hb hby at_76) (by decide) (by decide) ?_
            exact kt
          · rw [show v38 = v36 from by rw [hv38, if_neg hc28]] at kt
            rw [show v39 = v37 from by rw [hv39, if_neg hc28]] at kt
            show Steps p.tables e below (s₁.setTop (mkF m 50 #[.val (.int p0), .val (.int p1), .val (.int p2), .val (.int (p0 &&& (3 : Int32))), .val (.int ((p1 &&& (65535 : Int32)) + (1 : Int32))), .val (.int (p1 &&& (255 : Int32))), .unset, .unset, .unset, .unset, .unset, .unset, .unset, .unset, .unset] [(.int (1 : Int32)), (.int (p0 &&& (3 : Int32)))])) _
            refine XS.icmpYes X0.here hx rfl (pc0 := 50) (pc' := 79) rfl (hb hby at_50) rfl (feq hc28).2 (by decide) (by decide) ?_
            show Steps p.tables e below (s₁.setTop (mkF m 79 #[.val (.int p0), .val (.int p1), .val (.int p2), .val (.int (p0 &&& (3 : Int32))), .val (.int ((p1 &&& (65535 : Int32)) + (1 : Int32))), .val (.int (p1 &&& (255 : Int32))), .unset, .unset, .unset, .unset, .unset, .unset, .unset, .unset, .unset] [])) _
            refine XS.iloadN X0.here hx rfl (hb hby at_79) rfl ?_
            show Steps p.tables e below (s₁.setTop (mkF m 80 #[.val (.int p0), .val (.int p1), .val (.int p2), .val (.int (p0 &&& (3 : Int32))), .val (.int ((p1 &&& (65535 : Int32)) + (1 : Int32))), .val (.int (p1 &&& (255 : Int32))), .unset, .unset, .unset, .unset, .unset, .unset, .unset, .unset, .unset] [(.int (p0 &&& (3 : Int32)))])) _
            refine XS.iconst X0.here hx rfl (hb hby at_80) ?_
            refine joinS (B := s₁.setTop (mkF m 128 #[.val (.int p0), .val (.int p1), .val (.int p2), .val (.int (p0 &&& (3 : Int32))), .val (.int ((p1 &&& (65535 : Int32)) + (1 : Int32))), .val (.int (p1 &&& (255 : Int32))), .val (.double v36), .second, .val (.int v37), .unset, .unset, .unset, .unset, .unset, .unset] [])) (fun kt => ?_) ?_
            · by_cases hc31 : (p0 &&& (3 : Int32)) = (2 : Int32)
              · rw [show v36 = (FP.dsub (4607182418800017408 : UInt64) (FP.ddiv (FP.i2d (p1 &&& (255 : Int32))) (4845873199050653696 : UInt64))) from by rw [hv36, if_pos hc31]] at kt
                rw [show v37 = v33 from by rw [hv37, if_pos hc31]] at kt
                show Steps p.tables e below (s₁.setTop (mkF m 81 #[.val (.int p0), .val (.int p1), .val (.int p2), .val (.int (p0 &&& (3 : Int32))), .val (.int ((p1 &&& (65535 : Int32)) + (1 : Int32))), .val (.int (p1 &&& (255 : Int32))), .unset, .unset, .unset, .unset, .unset, .unset, .unset, .unset, .unset] [(.int (2 : Int32)), (.int (p0 &&& (3 : Int32)))])) _
                refine XS.icmpNo X0.here hx rfl (hb hby at_81) rfl (teq hc31).2 ?_
                show Steps p.tables e below (s₁.setTop (mkF m 84 #[.val (.int p0), .val (.int p1), .val (.int p2), .val (.int (p0 &&& (3 : Int32))), .val (.int ((p1 &&& (65535 : Int32)) + (1 : Int32))), .val (.int (p1 &&& (255 : Int32))), .unset, .unset, .unset, .unset, .unset, .unset, .unset, .unset, .unset] [])) _
                refine own_sone X0.here hx (hb hby at_84) ?_
                show Steps p.tables e below (s₁.setTop (mkF m 85 #[.val (.int p0), .val (.int p1), .val (.int p2), .val (.int (p0 &&& (3 : Int32))), .val (.int ((p1 &&& (65535 : Int32)) + (1 : Int32))), .val (.int (p1 &&& (255 : Int32))), .unset, .unset, .unset, .unset, .unset, .unset, .unset, .unset, .unset] [(.double (4607182418800017408 : UInt64))])) _
                refine XS.iload X0.here hx rfl (hb hby at_85) rfl ?_
                show Steps p.tables e below (s₁.setTop (mkF m 87 #[.val (.int p0), .val (.int p1), .val (.int p2), .val (.int (p0 &&& (3 : Int32))), .val (.int ((p1 &&& (65535 : Int32)) + (1 : Int32))), .val (.int (p1 &&& (255 : Int32))), .unset, .unset, .unset, .unset, .unset, .unset, .unset, .unset, .unset] [(.int (p1 &&& (255 : Int32))), (.double (4607182418800017408 : UInt64))])) _
                refine own_si2d X0.here hx (hb hby at_87) ?_
                show Steps p.tables e below (s₁.setTop (mkF m 88 #[.val (.int p0), .val (.int p1), .val (.int p2), .val (.int (p0 &&& (3 : Int32))), .val (.int ((p1 &&& (65535 : Int32)) + (1 : Int32))), .val (.int (p1 &&& (255 : Int32))), .unset, .unset, .unset, .unset, .unset, .unset, .unset, .unset, .unset] [(.double (FP.i2d (p1 &&& (255 : Int32)))), (.double (4607182418800017408 : UInt64))])) _
                refine X0.ldc2DoubleC hx hown (mvT hZ (hw _ (List.mem_of_getElem? (i := 40) rfl))) (g := (mkF m 88 #[.val (.int p0), .val (.int p1), .val (.int p2), .val (.int (p0 &&& (3 : Int32))), .val (.int ((p1 &&& (65535 : Int32)) + (1 : Int32))), .val (.int (p1 &&& (255 : Int32))), .unset, .unset, .unset, .unset, .unset, .unset, .unset, .unset, .unset] [(.double (FP.i2d (p1 &&& (255 : Int32)))), (.double (4607182418800017408 : UInt64))])) rfl (hb hby at_88) _ ?_
                show Steps p.tables e below (s₁.setTop (mkF m 91 #[.val (.int p0), .val (.int p1), .val (.int p2), .val (.int (p0 &&& (3 : Int32))), .val (.int ((p1 &&& (65535 : Int32)) + (1 : Int32))), .val (.int (p1 &&& (255 : Int32))), .unset, .unset, .unset, .unset, .unset, .unset, .unset, .unset, .unset] [(.double (4845873199050653696 : UInt64)), (.double (FP.i2d (p1 &&& (255 : Int32)))), (.double (4607182418800017408 : UInt64))])) _
                refine own_sdiv X0.here hx (hb hby at_91) (Jvm.Free.Fl.val64_no.mpr (own_rep.no (own_R2a p1))) ?_
                show Steps p.tables e below (s₁.setTop (mkF m 92 #[.val (.int p0), .val (.int p1), .val (.int p2), .val (.int (p0 &&& (3 : Int32))), .val (.int ((p1 &&& (65535 : Int32)) + (1 : Int32))), .val (.int (p1 &&& (255 : Int32))), .unset, .unset, .unset, .unset, .unset, .unset, .unset, .unset, .unset] [(.double (FP.ddiv (FP.i2d (p1 &&& (255 : Int32))) (4845873199050653696 : UInt64))), (.double (4607182418800017408 : UInt64))])) _
                refine own_ssub X0.here hx (hb hby at_92) (Jvm.Free.Fl.val64_no.mpr (own_N2 p1)) ?_
                show Steps p.tables e below (s₁.setTop (mkF m 93 #[.val (.int p0), .val (.int p1), .val (.int p2), .val (.int (p0 &&& (3 : Int32))), .val (.int ((p1 &&& (65535 : Int32)) + (1 : Int32))), .val (.int (p1 &&& (255 : Int32))), .unset, .unset, .unset, .unset, .unset, .unset, .unset, .unset, .unset] [(.double (FP.dsub (4607182418800017408 : UInt64) (FP.ddiv (FP.i2d (p1 &&& (255 : Int32))) (4845873199050653696 : UInt64))))])) _
                refine own_sstore X0.here hx (l' := #[.val (.int p0), .val (.int p1), .val (.int p2), .val (.int (p0 &&& (3 : Int32))), .val (.int ((p1 &&& (65535 : Int32)) + (1 : Int32))), .val (.int (p1 &&& (255 : Int32))), .val (.double (FP.dsub (4607182418800017408 : UInt64) (FP.ddiv (FP.i2d (p1 &&& (255 : Int32))) (4845873199050653696 : UInt64)))), .second, .unset, .unset, .unset, .unset, .unset, .unset, .unset]) (hb hby at_93) rfl ?_
                show Steps p.tables e below (s₁.setTop (mkF m 95 #[.val (.int p0), .val (.int p1), .val (.int p2), .val (.int (p0 &&& (3 : Int32))), .val (.int ((p1 &&& (65535 : Int32)) + (1 : Int32))), .val (.int (p1 &&& (255 : Int32))), .val (.double (FP.dsub (4607182418800017408 : UInt64) (FP.ddiv (FP.i2d (p1 &&& (255 : Int32))) (4845873199050653696 : UInt64)))), .second, .unset, .unset, .unset, .unset, .unset, .unset, .unset] [])) _
                refine XS.iload X0.here hx rfl (hb hby at_95) rfl ?_
                refine joinS (B := s₁.setTop (mkF m 105 #[.val (.int p0), .val (.int p1), .val (.int p2), .val (.int (p0 &&& (3 : Int32))), .val (.int ((p1 &&& (65535 : Int32)) + (1 : Int32))), .val (.int (p1 &&& (255 : Int32))), .val (.double (FP.dsub (4607182418800017408 : UInt64) (FP.ddiv (FP.i2d (p1 &&& (255 : Int32))) (4845873199050653696 : UInt64)))), .second, .unset, .unset, .unset, .unset, .unset, .unset, .unset] [(.int v33)])) (fun kt => ?_) ?_
                · by_cases hc32 : (p1 &&& (255 : Int32)) = (0 : Int32)
                  · rw [show v33 = (1 : Int32) from by rw [hv33, if_pos hc32]] at kt
                    show Steps p.tables e below (s₁.setTop (mkF m 97 #[.val (.int p0), .val (.int p1), .val (.int p2), .val (.int (p0 &&& (3 : Int32))), .val (.int ((p1 &&& (65535 : Int32)) + (1 : Int32))), .val (.int (p1 &&& (255 : Int32))), .val (.double (FP.dsub (4607182418800017408 : UInt64) (FP.ddiv (FP.i2d (p1 &&& (255 : Int32))) (4845873199050653696 : UInt64)))), .second, .unset, .unset, .unset, .unset, .unset, .unset, .unset] [(.int (p1 &&& (255 : Int32)))])) _
                    refine XS.ifNo X0.here hx rfl (hb hby at_97) rfl ((if0 _ _).trans (teq hc32).2) ?_
                    show Steps p.tables e below (s₁.setTop (mkF m 100 #[.val (.int p0), .val (.int p1), .val (.int p2), .val (.int (p0 &&& (3 : Int32))), .val (.int ((p1 &&& (65535 : Int32)) + (1 : Int32))), .val (.int (p1 &&& (255 : Int32))), .val (.double (FP.dsub (4607182418800017408 : UInt64) (FP.ddiv (FP.i2d (p1 &&& (255 : Int32))) (4845873199050653696 : UInt64)))), .second, .unset, .unset, .unset, .unset, .unset, .unset, .unset] [])) _
                    refine XS.iconst X0.here hx rfl (hb hby at_100) ?_
                    show Steps p.tables e below (s₁.setTop (mkF m 101 #[.val (.int p0), .val (.int p1), .val (.int p2), .val (.int (p0 &&& (3 : Int32))), .val (.int ((p1 &&& (65535 : Int32)) + (1 : Int32))), .val (.int (p1 &&& (255 : Int32))), .val (.double (FP.dsub (4607182418800017408 : UInt64) (FP.ddiv (FP.i2d (p1 &&& (255 : Int32))) (4845873199050653696 : UInt64)))), .second, .unset, .unset, .unset, .unset, .unset, .unset, .unset] [(.int (1 : Int32))])) _
                    refine XS.goto X0.here hx rfl (pc0 := 101) (pc' := 105) rfl (hb hby at_101) (by decide) (by decide) ?_
                    exact kt
                  · rw [show v33 = (0 : Int32) from by rw [hv33, if_neg hc32]] at kt
                    show Steps p.tables e below (s₁.setTop (mkF m 97 #[.val (.int p0), .val (.int p1), .val (.int p2), .val (.int (p0 &&& (3 : Int32))), .val (.int ((p1 &&& (65535 : Int32)) + (1 : Int32))), .val (.int (p1 &&& (255 : Int32))), .val (.double (FP.dsub (4607182418800017408 : UInt64) (FP.ddiv (FP.i2d (p1 &&& (255 : Int32))) (4845873199050653696 : UInt64)))), .second, .unset, .unset, .unset, .unset, .unset, .unset, .unset] [(.int (p1 &&& (255 : Int32)))])) _
                    refine XS.ifYes X0.here hx rfl (pc0 := 97) (pc' := 104) rfl (hb hby at_97) rfl ((if0 _ _).trans (feq hc32).2) (by decide) (by decide) ?_
                    show Steps p.tables e below (s₁.setTop (mkF m 104 #[.val (.int p0), .val (.int p1), .val (.int p2), .val (.int (p0 &&& (3 : Int32))), .val (.int ((p1 &&& (65535 : Int32)) + (1 : Int32))), .val (.int (p1 &&& (255 : Int32))), .val (.double (FP.dsub (4607182418800017408 : UInt64) (FP.ddiv (FP.i2d (p1 &&& (255 : Int32))) (4845873199050653696 : UInt64)))), .second, .unset, .unset, .unset, .unset, .unset, .unset, .unset] [])) _
                    refine XS.iconst X0.here hx rfl (hb hby at_104) ?_
                    exact kt
                show Steps p.tables e below (s₁.setTop (mkF m 105 #[.val (.int p0), .val (.int p1), .val (.int p2), .val (.int (p0 &&& (3 : Int32))), .val (.int ((p1 &&& (65535 : Int32)) + (1 : Int32))), .val (.int (p1 &&& (255 : Int32))), .val (.double (FP.dsub (4607182418800017408 : UInt64) (FP.ddiv (FP.i2d (p1 &&& (255 : Int32))) (4845873199050653696 : UInt64)))), .second, .unset, .unset, .unset, .unset, .unset, .unset, .unset] [(.int v33)])) _
                refine XS.istore X0.here hx rfl (hb hby at_105) rfl (l' := #[.val (.int p0), .val (.int p1), .val (.int p2), .val (.int (p0 &&& (3 : Int32))), .val (.int ((p1 &&& (65535 : Int32)) + (1 : Int32))), .val (.int (p1 &&& (255 : Int32))), .val (.double (FP.dsub (4607182418800017408 : UInt64) (FP.ddiv (FP.i2d (p1 &&& (255 : Int32))) (4845873199050653696 : UInt64)))), .second, .val (.int v33), .unset, .unset, .unset, .unset, .unset, .unset]) rfl ?_
                show Steps p.tables e below (s₁.setTop (mkF m 107 #[.val (.int p0), .val (.int p1), .val (.int p2), .val (.int (p0 &&& (3 : Int32))), .val (.int ((p1 &&& (65535 : Int32)) + (1 : Int32))), .val (.int (p1 &&& (255 : Int32))), .val (.double (FP.dsub (4607182418800017408 : UInt64) (FP.ddiv (FP.i2d (p1 &&& (255 : Int32))) (4845873199050653696 : UInt64)))), .second, .val (.int v33), .unset, .unset, .unset, .unset, .unset, .unset] [])) _
                refine XS.goto X0.here hx rfl (pc0 := 107) (pc' := 128) rfl (hb hby at_107) (by decide) (by decide) ?_
                exact kt
              · rw [show v36 = (FP.i2d ((p1 &&& (65535 : Int32)) + (1 : Int32))) from by rw [hv36, if_neg hc31]] at kt
                rw [show v37 = v35 from by rw [hv37, if_neg hc31]] at kt
                show Steps p.tables e below (s₁.setTop (mkF m 81 #[.val (.int p0), .val (.int p1), .val (.int p2), .val (.int (p0 &&& (3 : Int32))), .val (.int ((p1 &&& (65535 : Int32)) + (1 : Int32))), .val (.int (p1 &&& (255 : Int32))), .unset, .unset, .unset, .unset, .unset, .unset, .unset, .unset, .unset] [(.int (2 : Int32)), (.int (p0 &&& (3 : Int32)))])) _
                refine XS.icmpYes X0.here hx rfl (pc0 := 81) (pc' := 110) rfl (hb hby at_81) rfl (feq hc31).2 (by decide) (by decide) ?_
                show Steps p.tables e below (s₁.setTop (mkF m 110 #[.val (.int p0), .val (.int p1), .val (.int p2), .val (.int (p0 &&& (3 : Int32))), .val (.int ((p1 &&& (65535 : Int32)) + (1 : Int32))), .val (.int (p1 &&& (255 : Int32))), .unset, .unset, .unset, .unset, .unset, .unset, .unset, .unset, .unset] [])) _
                refine XS.iload X0.here hx rfl (hb hby at_110) rfl ?_
                show Steps p.tables e below (s₁.setTop (mkF m 112 #[.val (.int p0), .val (.int p1), .val (.int p2), .val (.int (p0 &&& (3 : Int32))), .val (.int ((p1 &&& (65535 : Int32)) + (1 : Int32))), .val (.int (p1 &&& (255 : Int32))), .unset, .unset, .unset, .unset, .unset, .unset, .unset, .unset, .unset] [(.int ((p1 &&& (65535 : Int32)) + (1 : Int32)))])) _
                refine own_si2d X0.here hx (hb hby at_112) ?_
                show Steps p.tables e below (s₁.setTop (mkF m 113 #[.val (.int p0), .val (.int p1), .val (.int p2), .val (.int (p0 &&& (3 : Int32))), .val (.int ((p1 &&& (65535 : Int32)) + (1 : Int32))), .val (.int (p1 &&& (255 : Int32))), .unset, .unset, .unset, .unset, .unset, .unset, .unset, .unset, .unset] [(.double (FP.i2d ((p1 &&& (65535 : Int32)) + (1 : Int32))))])) _
                refine own_sstore X0.here hx (l' := #[.val (.int p0), .val (.int p1), .val (.int p2), .val (.int (p0 &&& (3 : Int32))), .val (.int ((p1 &&& (65535 : Int32)) + (1 : Int32))), .val (.int (p1 &&& (255 : Int32))), .val (.double (FP.i2d ((p1 &&& (65535 : Int32)) + (1 : Int32)))), .second, .unset, .unset, .unset, .unset, .unset, .unset, .unset]) (hb hby at_113) rfl ?_
                show Steps p.tables e below (s₁.setTop (mkF m 115 #[.val (.int p0), .val (.int p1), .val (.int p2), .val (.int (p0 &&& (3 : Int32))), .val (.int ((p1 &&& (65535 : Int32)) + (1 : Int32))), .val (.int (p1 &&& (255 : Int32))), .val (.double (FP.i2d ((p1 &&& (65535 : Int32)) + (1 : Int32)))), .second, .unset, .unset, .unset, .unset, .unset, .unset, .unset] [])) _
                refine XS.iload X0.here hx rfl (hb hby at_115) rfl ?_
                show Steps p.tables e below (s₁.setTop (mkF m 117 #[.val (.int p0), .val (.int p1), .val (.int p2), .val (.int (p0 &&& (3 : Int32))), .val (.int ((p1 &&& (65535 : Int32)) + (1 : Int32))), .val (.int (p1 &&& (255 : Int32))), .val (.double (FP.i2d ((p1 &&& (65535 : Int32)) + (1 : Int32)))), .second, .unset, .unset, .unset, .unset, .unset, .unset, .unset] [(.int ((p1 &&& (65535 : Int32)) + (1 : Int32)))])) _
                refine XS.iconst X0.here hx rfl (hb hby at_117) ?_
                refine joinS (B := s₁.setTop (mkF m 126 #[.val (.int p0), .val (.int p1), .val (.int p2), .val (.int (p0 &&& (3 : Int32))), .val (.int ((p1 &&& (65535 : Int32)) + (1 : Int32))), .val (.int (p1 &&& (255 : Int32))), .val (.double (FP.i2d ((p1 &&& (65535 : Int32)) + (1 : Int32)))), .second, .unset, .unset, .unset, .unset, .unset, .unset, .unset] [(.int v35)])) (fun kt => ?_) ?_
                · by_cases hc34 : ((p1 &&& (65535 : Int32)) + (1 : Int32)) = (1 : Int32)
                  · rw [show v35 = (1 : Int32) from by rw [hv35, if_pos hc34]] at kt
                    show Steps p.tables e below (s₁.setTop (mkF m 118 #[.val (.int p0), .val (.int p1), .val (.int p2), .val (.int (p0 &&& (3 : Int32))), .val (.int ((p1 &&& (65535 : Int32)) + (1 : Int32))), .val (.int (p1 &&& (255 : Int32))), .val (.double (FP.i2d ((p1 &&& (65535 : Int32)) + (1 : Int32)))), .second, .unset, .unset, .unset, .unset, .unset, .unset, .unset] [(.int (1 : Int32)), (.int ((p1 &&& (65535 : Int32)) + (1 : Int32)))])) _
                    refine XS.icmpNo X0.here hx rfl (hb hby at_118) rfl (teq hc34).2 ?_
                    show Steps p.tables e below (s₁.setTop (mkF m 121 #[.val (.int p0), .val (.int p1), .val (.int p2), .val (.int (p0 &&& (3 : Int32))), .val (.int ((p1 &&& (65535 : Int32)) + (1 : Int32))), .val (.int (p1 &&& (255 : Int32))), .val (.double (FP.i2d ((p1 &&& (65535 : Int32)) + (1 : Int32)))), .second, .unset, .unset, .unset, .unset, .unset, .unset, .unset] [])) _
                    refine XS.iconst X0.here hx rfl (hb hby at_121) ?_
                    show Steps p.tables e below (s₁.setTop (mkF m 122 #[.val (.int p0), .val (.int p1), .val (.int p2), .val (.int (p0 &&& (3 : Int32))), .val (.int ((p1 &&& (65535 : Int32)) + (1 : Int32))), .val (.int (p1 &&& (255 : Int32))), .val (.double (FP.i2d ((p1 &&& (65535 : Int32)) + (1 : Int32)))), .second, .unset, .unset, .unset, .unset, .unset, .unset, .unset] [(.int (1 : Int32))])) _
                    refine XS.goto X0.here hx rfl (pc0 := 122) (pc' := 126) rfl (hb hby at_122) (by decide) (by decide) ?_
                    exact kt
                  · rw [show v35 = (0 : Int32) from by rw [hv35, if_neg hc34]] at kt
                    show Steps p.tables e below (s₁.setTop (mkF m 118 #[.val (.int p0), .val (.int p1), .val (.int p2), .val (.int (p0 &&& (3 : Int32))), .val (.int ((p1 &&& (65535 : Int32)) + (1 : Int32))), .val (.int (p1 &&& (255 : Int32))), .val (.double (FP.i2d ((p1 &&& (65535 : Int32)) + (1 : Int32)))), .second, .unset, .unset, .unset, .unset, .unset, .unset, .unset] [(.int (1 : Int32)), (.int ((p1 &&& (65535 : Int32)) + (1 : Int32)))])) _
                    refine XS.icmpYes X0.here hx rfl (pc0 := 118) (pc' := 125) rfl (hb hby at_118) rfl (feq hc34).2 (by decide) (by decide) ?_
                    show Steps p.tables e below (s₁.setTop (mkF m 125 #[.val (.int p0), .val (.int p1), .val (.int p2), .val (.int (p0 &&& (3 : Int32))), .val (.int ((p1 &&& (65535 : Int32)) + (1 : Int32))), .val (.int (p1 &&& (255 : Int32))), .val (.double (FP.i2d ((p1 &&& (65535 : Int32)) + (1 : Int32)))), .second, .unset, .unset, .unset, .unset, .unset, .unset, .unset] [])) _
                    refine XS.iconst X0.here hx rfl (hb hby at_125) ?_
                    exact kt
                show Steps p.tables e below (s₁.setTop (mkF m 126 #[.val (.int p0), .val (.int p1), .val (.int p2), .val (.int (p0 &&& (3 : Int32))), .val (.int ((p1 &&& (65535 : Int32)) + (1 : Int32))), .val (.int (p1 &&& (255 : Int32))), .val (.double (FP.i2d ((p1 &&& (65535 : Int32)) + (1 : Int32)))), .second, .unset, .unset, .unset, .unset, .unset, .unset, .unset] [(.int v35)])) _
                refine XS.istore X0.here hx rfl (hb hby at_126) rfl (l' := #[.val (.int p0), .val (.int p1), .val (.int p2), .val (.int (p0 &&& (3 : Int32))), .val (.int ((p1 &&& (65535 : Int32)) + (1 : Int32))), .val (.int (p1 &&& (255 : Int32))), .val (.double (FP.i2d ((p1 &&& (65535 : Int32)) + (1 : Int32)))), .second, .val (.int v35), .unset, .unset, .unset, .unset, .unset, .unset]) rfl ?_
                exact kt
            exact kt
        exact kt
    show Steps p.tables e below (s₁.setTop (mkF m 128 #[.val (.int p0), .val (.int p1), .val (.int p2), .val (.int (p0 &&& (3 : Int32))), .val (.int ((p1 &&& (65535 : Int32)) + (1 : Int32))), .val (.int (p1 &&& (255 : Int32))), .val (.double v40), .second, .val (.int v41), .unset, .unset, .unset, .unset, .unset, .unset] [])) _
    refine XS.iloadN X0.here hx rfl (hb hby at_128) rfl ?_
    show Steps p.tables e below (s₁.setTop (mkF m 129 #[.val (.int p0), .val (.int p1), .val (.int p2), .val (.int (p0 &&& (3 : Int32))), .val (.int ((p1 &&& (65535 : Int32)) + (1 : Int32))), .val (.int (p1 &&& (255 : Int32))), .val (.double v40), .second, .val (.int v41), .unset, .unset, .unset, .unset, .unset, .unset] [(.int p0)])) _
    refine XS.iconst X0.here hx rfl (hb hby at_129) ?_
    show Steps p.tables e below (s₁.setTop (mkF m 130 #[.val (.int p0), .val (.int p1), .val (.int p2), .val (.int (p0 &&& (3 : Int32))), .val (.int ((p1 &&& (65535 : Int32)) + (1 : Int32))), .val (.int (p1 &&& (255 : Int32))), .val (.double v40), .second, .val (.int v41), .unset, .unset, .unset, .unset, .unset, .unset] [(.int (2 : Int32)), (.int p0)])) _
    refine XS.iushr X0.here hx rfl (hb hby at_130) rfl ?_
    show Steps p.tables e below (s₁.setTop (mkF m 131 #[.val (.int p0), .val (.int p1), .val (.int p2), .val (.int (p0 &&& (3 : Int32))), .val (.int ((p1 &&& (65535 : Int32)) + (1 : Int32))), .val (.int (p1 &&& (255 : Int32))), .val (.double v40), .second, .val (.int v41), .unset, .unset, .unset, .unset, .unset, .unset] [(.int ((p0.toUInt32 >>> ((2 : Int32) &&& 31).toUInt32).toInt32))])) _
    refine XS.iconst X0.here hx rfl (hb hby at_131) ?_
    show Steps p.tables e below (s₁.setTop (mkF m 132 #[.val (.int p0), .val (.int p1), .val (.int p2), .val (.int (p0 &&& (3 : Int32))), .val (.int ((p1 &&& (65535 : Int32)) + (1 : Int32))), .val (.int (p1 &&& (255 : Int32))), .val (.double v40), .second, .val (.int v41), .unset, .unset, .unset, .unset, .unset, .unset] [(.int (3 : Int32)), (.int ((p0.toUInt32 >>> ((2 : Int32) &&& 31).toUInt32).toInt32))])) _
    refine XS.iand X0.here hx rfl (hb hby at_132) rfl ?_
    show Steps p.tables e below (s₁.setTop (mkF m 133 #[.val (.int p0), .val (.int p1), .val (.int p2), .val (.int (p0 &&& (3 : Int32))), .val (.int ((p1 &&& (65535 : Int32)) + (1 : Int32))), .val (.int (p1 &&& (255 : Int32))), .val (.double v40), .second, .val (.int v41), .unset, .unset, .unset, .unset, .unset, .unset] [(.int (((p0.toUInt32 >>> ((2 : Int32) &&& 31).toUInt32).toInt32) &&& (3 : Int32)))])) _
    refine XS.istore X0.here hx rfl (hb hby at_133) rfl (l' := #[.val (.int p0), .val (.int p1), .val (.int p2), .val (.int (p0 &&& (3 : Int32))), .val (.int ((p1 &&& (65535 : Int32)) + (1 : Int32))), .val (.int (p1 &&& (255 : Int32))), .val (.double v40), .second, .val (.int v41), .val (.int (((p0.toUInt32 >>> ((2 : Int32) &&& 31).toUInt32).toInt32) &&& (3 : Int32))), .unset, .unset, .unset, .unset, .unset]) rfl ?_
    show Steps p.tables e below (s₁.setTop (mkF m 135 #[.val (.int p0), .val (.int p1), .val (.int p2), .val (.int (p0 &&& (3 : Int32))), .val (.int ((p1 &&& (65535 : Int32)) + (1 : Int32))), .val (.int (p1 &&& (255 : Int32))), .val (.double v40), .second, .val (.int v41), .val (.int (((p0.toUInt32 >>> ((2 : Int32) &&& 31).toUInt32).toInt32) &&& (3 : Int32))), .unset, .unset, .unset, .unset, .unset] [])) _
    refine XS.iload X0.here hx rfl (hb hby at_135) rfl ?_
    refine joinS (B := s₁.setTop (mkF m 195 #[.val (.int p0), .val (.int p1), .val (.int p2), .val (.int (p0 &&& (3 : Int32))), .val (.int ((p1 &&& (65535 : Int32)) + (1 : Int32))), .val (.int (p1 &&& (255 : Int32))), .val (.double v40), .second, .val (.int v41), .val (.int (((p0.toUInt32 >>> ((2 : Int32) &&& 31).toUInt32).toInt32) &&& (3 : Int32))), .val (.double v47), .second, .val (.int v48), .unset, .unset] [])) (fun kt => ?_) ?_
    · by_cases hc42 : (((p0.toUInt32 >>> ((2 : Int32) &&& 31).toUInt32).toInt32) &&& (3 : Int32)) = (0 : Int32)
      · rw [show v47 = (18442240474082181120 : UInt64) from by rw [hv47, if_pos hc42]] at kt
        rw [show v48 = (1 : Int32) from by rw [hv48, if_pos hc42]] at kt
        show Steps p.tables e below (s₁.setTop (mkF m 137 #[.val (.int p0), .val (.int p1), .val (.int p2), .val (.int (p0 &&& (3 : Int32))), .val (.int ((p1 &&& (65535 : Int32)) + (1 : Int32))), .val (.int (p1 &&& (255 : Int32))), .val (.double v40), .second, .val (.int v41), .val (.int (((p0.toUInt32 >>> ((2 : Int32) &&& 31).toUInt32).toInt32) &&& (3 : Int32))), .unset, .unset, .unset, .unset, .unset] [(.int (((p0.toUInt32 >>> ((2 : Int32) &&& 31).toUInt32).toInt32) &&& (3 : Int32)))])) _
        refine XS.ifNo X0.here hx rfl (hb hby at_137) rfl ((if0 _ _).trans (teq hc42).2) ?_
        show Steps p.tables e below (s₁.setTop (mkF m 140 #[.val (.int p0), .val (.int p1), .val (.int p2), .val (.int (p0 &&& (3 : Int32))), .val (.int ((p1 &&& (65535 : Int32)) + (1 : Int32))), .val (.int (p1 &&& (255 : Int32))), .val (.double v40), .second, .val (.int v41), .val (.int (((p0.toUInt32 >>> ((2 : Int32) &&& 31).toUInt32).toInt32) &&& (3 : Int32))), .unset, .unset, .unset, .unset, .unset] [])) _
        refine X0.ldc2DoubleC hx hown (mvT hZ (hw _ (List.mem_of_getElem? (i := 2) rfl))) (g := (mkF m 140 #[.val (.int p0), .val (.int p1), .val (.int p2), .val (.int (p0 &&& (3 : Int32))), .val (.int ((p1 &&& (65535 : Int32)) + (1 : Int32))), .val (.int (p1 &&& (255 : Int32))), .val (.double v40), .second, .val (.int v41), .val (.int (((p0.toUInt32 >>> ((2 : Int32) &&& 31).toUInt32).toInt32) &&& (3 : Int32))), .unset, .unset, .unset, .unset, .unset] [])) rfl (hb hby at_140) _ ?_
        show Steps p.tables e below (s₁.setTop (mkF m 143 #[.val (.int p0), .val (.int p1), .val (.int p2), .val (.int (p0 &&& (3 : Int32))), .val (.int ((p1 &&& (65535 : Int32)) + (1 : Int32))), .val (.int (p1 &&& (255 : Int32))), .val (.double v40), .second, .val (.int v41), .val (.int (((p0.toUInt32 >>> ((2 : Int32) &&& 31).toUInt32).toInt32) &&& (3 : Int32))), .unset, .unset, .unset, .unset, .unset] [(.double (18442240474082181120 : UInt64))])) _
        refine own_sstore X0.here hx (l' := #[.val (.int p0), .val (.int p1), .val (.int p2), .val (.int (p0 &&& (3 : Int32))), .val (.int ((p1 &&& (65535 : Int32)) + (1 : Int32))), .val (.int (p1 &&& (255 : Int32))), .val (.double v40), .second, .val (.int v41), .val (.int (((p0.toUInt32 >>> ((2 : Int32) &&& 31).toUInt32).toInt32) &&& (3 : Int32))), .val (.double (18442240474082181120 : UInt64)), .second, .unset, .unset, .unset]) (hb hby at_143) rfl ?_
        show Steps p.tables e below (s₁.setTop (mkF m 145 #[.val (.int p0), .val (.int p1), .val (.int p2), .val (.int (p0 &&& (3 : Int32))), .val (.int ((p1 &&& (65535 : Int32)) + (1 : Int32))), .val (.int (p1 &&& (255 : Int32))), .val (.double v40), .second, .val (.int v41), .val (.int (((p0.toUInt32 >>> ((2 : Int32) &&& 31).toUInt32).toInt32) &&& (3 : Int32))), .val (.double (18442240474082181120 : UInt64)), .second, .unset, .unset, .unset] [])) _
        refine XS.iconst X0.here hx rfl (hb hby at_145) ?_
        show Steps p.tables e below (s₁.setTop (mkF m 146 #[.val (.int p0), .val (.int p1), .val (.int p2), .val (.int (p0 &&& (3 : Int32))), .val (.int ((p1 &&& (65535 : Int32)) + (1 : Int32))), .val (.int (p1 &&& (255 : Int32))), .val (.double v40), .second, .val (.int v41), .val (.int (((p0.toUInt32 >>> ((2 : Int32) &&& 31).toUInt32).toInt32) &&& (3 : Int32))), .val (.double (18442240474082181120 : UInt64)), .second, .unset, .unset, .unset] [(.int (1 : Int32))])) _
        refine XS.istore X0.here hx rfl (hb hby at_146) rfl (l' := #[.val (.int p0), .val (.int p1), .val (.int p2), .val (.int (p0 &&& (3 : Int32))), .val (.int ((p1 &&& (65535 : Int32)) + (1 : Int32))), .val (.int (p1 &&& (255 : Int32))), .val (.double v40), .second, .val (.int v41), .val (.int (((p0.toUInt32 >>> ((2 : Int32) &&& 31).toUInt32).toInt32) &&& (3 : Int32))), .val (.double (18442240474082181120 : UInt64)), .second, .val (.int (1 : Int32)), .unset, .unset]) rfl ?_
        show Steps p.tables e below (s₁.setTop (mkF m 148 #[.val (.int p0), .val (.int p1), .val (.int p2), .val (.int (p0 &&& (3 : Int32))), .val (.int ((p1 &&& (65535 : Int32)) + (1 : Int32))), .val (.int (p1 &&& (255 : Int32))), .val (.double v40), .second, .val (.int v41), .val (.int (((p0.toUInt32 >>> ((2 : Int32) &&& 31).toUInt32).toInt32) &&& (3 : Int32))), .val (.double (18442240474082181120 : UInt64)), .second, .val (.int (1 : Int32)), .unset, .unset] [])) _
        refine XS.goto X0.here hx rfl (pc0 := 148) (pc' := 195) rfl (hb hby at_148) (by decide) (by decide) ?_
        exact kt
      · rw [show v47 = v46 from by rw [hv47, if_neg hc42]] at kt
        rw [show v48 = (0 : Int32) from by rw [hv48, if_neg hc42]] at kt
        show Steps p.tables e below (s₁.setTop (mkF m 137 #[.val (.int p0), .val (.int p1), .val (.int p2), .val (.int (p0 &&& (3 : Int32))), .val (.int ((p1 &&& (65535 : Int32)) + (1 : Int32))), .val (.int (p1 &&& (255 : Int32))), .val (.double v40), .second, .val (.int v41), .val (.int (((p0.toUInt32 >>> ((2 : Int32) &&& 31).toUInt32).toInt32) &&& (3 : Int32))), .unset, .unset, .unset, .unset, .unset] [(.int (((p0.toUInt32 >>> ((2 : Int32) &&& 31).toUInt32).toInt32) &&& (3 : Int32)))])) _
        refine XS.ifYes X0.here hx rfl (pc0 := 137) (pc' := 151) rfl (hb hby at_137) rfl ((if0 _ _).trans (feq hc42).2) (by decide) (by decide) ?_
        show Steps p.tables e below (s₁.setTop (mkF m 151 #[.val (.int p0), .val (.int p1), .val (.int p2), .val (.int (p0 &&& (3 : Int32))), .val (.int ((p1 &&& (65535 : Int32)) + (1 : Int32))), .val (.int (p1 &&& (255 : Int32))), .val (.double v40), .second, .val (.int v41), .val (.int (((p0.toUInt32 >>> ((2 : Int32) &&& 31).toUInt32).toInt32) &&& (3 : Int32))), .unset, .unset, .unset, .unset, .unset] [])) _
        refine XS.iload X0.here hx rfl (hb hby at_151) rfl ?_
        show Steps p.tables e below (s₁.setTop (mkF m 153 #[.val (.int p0), .val (.int p1), .val (.int p2), .val (.int (p0 &&& (3 : Int32))), .val (.int ((p1 &&& (65535 : Int32)) + (1 : Int32))), .val (.int (p1 &&& (255 : Int32))), .val (.double v40), .second, .val (.int v41), .val (.int (((p0.toUInt32 >>> ((2 : Int32) &&& 31).toUInt32).toInt32) &&& (3 : Int32))), .unset, .unset, .unset, .unset, .unset] [(.int (((p0.toUInt32 >>> ((2 : Int32) &&& 31).toUInt32).toInt32) &&& (3 : Int32)))])) _
        refine XS.iconst X0.here hx rfl (hb hby at_153) ?_
        refine joinS (B := s₁.setTop (mkF m 195 #[.val (.int p0), .val (.int p1), .val (.int p2), .val (.int (p0 &&& (3 : Int32))), .val (.int ((p1 &&& (65535 : Int32)) + (1 : Int32))), .val (.int (p1 &&& (255 : Int32))), .val (.double v40), .second, .val (.int v41), .val (.int (((p0.toUInt32 >>> ((2 : Int32) &&& 31).toUInt32).toInt32) &&& (3 : Int32))), .val (.double v46), .second, .val (.int (0 : Int32)), .unset, .unset] [])) (fun kt => ?_) ?_
        · by_cases hc43 : (((p0.toUInt32 >>> ((2 : Int32) &&& 31).toUInt32).toInt32) &&& (3 : Int32)) = (1 : Int32)
          · rw [show v46 = (FP.i2d p2) from by rw [hv46, if_pos hc43]] at kt
            show Steps p.tables e below (s₁.setTop (mkF m 154 #[.val (.int p0), .val (.int p1), .val (.int p2), .val (.int (p0 &&& (3 : Int32))), .val (.int ((p1 &&& (65535 : Int32)) + (1 : Int32))), .val (.int (p1 &&& (255 : Int32))), .val (.double v40), .second, .val (.int v41), .val (.int (((p0.toUInt32 >>> ((2 : Int32) &&& 31).toUInt32).toInt32) &&& (3 : Int32))), .unset, .unset, .unset, .unset, .unset] [(.int (1 : Int32)), (.int (((p0.toUInt32 >>> ((2 : Int32) &&& 31).toUInt32).toInt32) &&& (3 : Int32)))])) _
            refine XS.icmpNo X0.here hx rfl (hb hby at_154) rfl (teq hc43).2 ?_
            show Steps p.tables e below (s₁.setTop (mkF m 157 #[.val (.int p0), .val (.int p1), .val (.int p2), .val (.int (p0 &&& (3 : Int32))), .val (.int ((p1 &&& (65535 : Int32)) + (1 : Int32))), .val (.int (p1 &&& (255 : Int32))), .val (.double v40), .second, .val (.int v41), .val (.int (((p0.toUInt32 >>> ((2 : Int32) &&& 31).toUInt32).toInt32) &&& (3 : Int32))), .unset, .unset, .unset, .unset, .unset] [])) _
            refine XS.iloadN X0.here hx rfl (hb hby at_157) rfl ?_
            show Steps p.tables e below (s₁.setTop (mkF m 158 #[.val (.int p0), .val (.int p1), .val (.int p2), .val (.int (p0 &&& (3 : Int32))), .val (.int ((p1 &&& (65535 : Int32)) + (1 : Int32))), .val (.int (p1 &&& (255 : Int32))), .val (.double v40), .second, .val (.int v41), .val (.int (((p0.toUInt32 >>> ((2 : Int32) &&& 31).toUInt32).toInt32) &&& (3 : Int32))), .unset, .unset, .unset, .unset, .unset] [(.int p2)])) _
            refine own_si2d X0.here hx (hb hby at_158) ?_
            show Steps p.tables e below (s₁.setTop (mkF m 159 #[.val (.int p0), .val (.int p1), .val (.int p2), .val (.int (p0 &&& (3 : Int32))), .val (.int ((p1 &&& (65535 : Int32)) + (1 : Int32))), .val (.int (p1 &&& (255 : Int32))), .val (.double v40), .second, .val (.int v41), .val (.int (((p0.toUInt32 >>> ((2 : Int32) &&& 31).toUInt32).toInt32) &&& (3 : Int32))), .unset, .unset, .unset, .unset, .unset] [(.double (FP.i2d p2))])) _
            refine own_sstore X0.here hx (l' := #[.val (.int p0), .val (.int p1), .val (.int p2), .val (.int (p0 &&& (3 : Int32))), .val (.int ((p1 &&& (65535 : Int32)) + (1 : Int32))), .val (.int (p1 &&& (255 : Int32))), .val (.double v40), .second, .val (.int v41), .val (.int (((p0.toUInt32 >>> ((2 : Int32) &&& 31).toUInt32).toInt32) &&& (3 : Int32))), .val (.double (FP.i2d p2)), .second, .unset, .unset, .unset]) (hb hby at_159) rfl ?_
            show Steps p.tables e below (s₁.setTop (mkF m 161 #[.val (.int p0), .val (.int p1), .val (.int p2), .val (.int (p0 &&& (3 : Int32))), .val (.int ((p1 &&& (65535 : Int32)) + (1 : Int32))), .val (.int (p1 &&& (255 : Int32))), .val (.double v40), .second, .val (.int v41), .val (.int (((p0.toUInt32 >>> ((2 : Int32) &&& 31).toUInt32).toInt32) &&& (3 : Int32))), .val (.double (FP.i2d p2)), .second, .unset, .unset, .unset] [])) _
            refine XS.iconst X0.here hx rfl (hb hby at_161) ?_
            show Steps p.tables e below (s₁.setTop (mkF m 162 #[.val (.int p0), .val (.int p1), .val (.int p2), .val (.int (p0 &&& (3 : Int32))), .val (.int ((p1 &&& (65535 : Int32)) + (1 : Int32))), .val (.int (p1 &&& (255 : Int32))), .val (.double v40), .second, .val (.int v41), .val (.int (((p0.toUInt32 >>> ((2 : Int32) &&& 31).toUInt32).toInt32) &&& (3 : Int32))), .val (.double (FP.i2d p2)), .second, .unset, .unset, .unset] [(.int (0 : Int32))])) _
            refine XS.istore X0.here hx rfl (hb hby at_162) rfl (l' := #[.val (.int p0), .val (.int p1), .val (.int p2), .val (.int (p0 &&& (3 : Int32))), .val (.int ((p1 &&& (65535 : Int32)) + (1 : Int32))), .val (.int (p1 &&& (255 : Int32))), .val (.double v40), .second, .val (.int v41), .val (.int (((p0.toUInt32 >>> ((2 : Int32) &&& 31).toUInt32).toInt32) &&& (3 : Int32))), .val (.double (FP.i2d p2)), .second, .val (.int (0 : Int32)), .unset, .unset]) rfl ?_
            show Steps p.tables e below (s₁.setTop (mkF m 164 #[.val (.int p0), .val (.int p1), .val (.int p2), .val (.int (p0 &&& (3 : Int32))), .val (.int ((p1 &&& (65535 : Int32)) + (1 : Int32))), .val (.int (p1 &&& (255 : Int32))), .val (.double v40), .second, .val (.int v41), .val (.int (((p0.toUInt32 >>> ((2 : Int32) &&& 31).toUInt32).toInt32) &&& (3 : Int32))), .val (.double (FP.i2d p2)), .second, .val (.int (0 : Int32)), .unset, .unset] [])) _
            refine XS.goto X0.here hx rfl (pc0 := 164) (pc' := 195) rfl (hb hby at_164) (by decide) (by decide) ?_
            exact kt
          · rw [show v46 = v45 from by rw [hv46, if_neg hc43]] at kt
            show Steps p.tables e below (s₁.setTop (mkF m 154 #[.val (.int p0), .val (.int p1), .val (.int p2), .val (.int (p0 &&& (3 : Int32))), .val (.int ((p1 &&& (65535 : Int32)) + (1 : Int32))), .val (.int (p1 &&& (255 : Int32))), .val (.double v40), .second, .val (.int v41), .val (.int (((p0.toUInt32 >>> ((2 : Int32) &&& 31).toUInt32).toInt32) &&& (3 : Int32))), .unset, .unset, .unset, .unset, .unset] [(.int (1 : Int32)), (.int (((p0.toUInt32 >>> ((2 : Int32) &&& 31).toUInt32).toInt32) &&& (3 : Int32)))])) _
            refine XS.icmpYes X0.here hx rfl (pc0 := 154) (pc' := 167) rfl (hb hby at_154) rfl (feq hc43).2 (by decide) (by decide) ?_
            show Steps p.tables e below (s₁.setTop (mkF m 167 #[.val (.int p0), .val (.int p1), .val (.int p2), .val (.int (p0 &&& (3 : Int32))), .val (.int ((p1 &&& (65535 : Int32)) + (1 : Int32))), .val (.int (p1 &&& (255 : Int32))), .val (.double v40), .second, .val (.int v41), .val (.int (((p0.toUInt32 >>> ((2 : Int32) &&& 31).toUInt32).toInt32) &&& (3 : Int32))), .unset, .unset, .unset, .unset, .unset] [])) _
            refine XS.iload X0.here hx rfl (hb hby at_167) rfl ?_
            show Steps p.tables e below (s₁.setTop (mkF m 169 #[.val (.int p0), .val (.int p1), .val (.int p2), .val (.int (p0 &&& (3 : Int32))), .val (.int ((p1 &&& (65535 : Int32)) + (1 : Int32))), .val (.int (p1 &&& (255 : Int32))), .val (.double v40), .second, .val (.int v41), .val (.int (((p0.toUInt32 >>> ((2 : Int32) &&& 31).toUInt32).toInt32) &&& (3 : Int32))), .unset, .unset, .unset, .unset, .unset] [(.int (((p0.toUInt32 >>> ((2 : Int32) &&& 31).toUInt32).toInt32) &&& (3 : Int32)))])) _
            refine XS.iconst X0.here hx rfl (hb hby at_169) ?_
            refine joinS (B := s₁.setTop (mkF m 195 #[.val (.int p0), .val (.int p1), .val (.int p2), .val (.int (p0 &&& (3 : Int32))), .val (.int ((p1 &&& (65535 : Int32)) + (1 : Int32))), .val (.int (p1 &&& (255 : Int32))), .val (.double v40), .second, .val (.int v41), .val (.int (((p0.toUInt32 >>> ((2 : Int32) &&& 31).toUInt32).toInt32) &&& (3 : Int32))), .val (.double v45), .second, .val (.int (0 : Int32)), .unset, .unset] [])) (fun kt => ?_) ?_
            · by_cases hc44 : (((p0.toUInt32 >>> ((2 : Int32) &&& 31).toUInt32).toInt32) &&& (3 : Int32)) = (2 : Int32)
              · rw [show v45 = (18442240474082181119 : UInt64) from by rw [hv45, if_pos hc44]] at kt
                show Steps p.tables e below (s₁.setTop (mkF m 170 #[.val (.int p0), .val (.int p1), .val (.int p2), .val (.int (p0 &&& (3 : Int32))), .val (.int ((p1 &&& (65535 : Int32)) + (1 : Int32))), .val (.int (p1 &&& (255 : Int32))), .val (.double v40), .second, .val (.int v41), .val (.int (((p0.toUInt32 >>> ((2 : Int32) &&& 31).toUInt32).toInt32) &&& (3 : Int32))), .unset, .unset, .unset, .unset, .unset] [(.int (2 : Int32)), (.int (((p0.toUInt32 >>> ((2 : Int32) &&& 31).toUInt32).toInt32) &&& (3 : Int32)))])) _
                refine XS.icmpNo X0.here hx rfl (hb hby at_170) rfl (teq hc44).2 ?_
                show Steps p.tables e below (s₁.setTop (mkF m 173 #[.val (.int p0), .val (.int p1), .val (.int p2), .val (.int (p0 &&& (3 : Int32))), .val (.int ((p1 &&& (65535 : Int32)) + (1 : Int32))), .val (.int (p1 &&& (255 : Int32))), .val (.double v40), .second, .val (.int v41), .val (.int (((p0.toUInt32 >>> ((2 : Int32) &&& 31).toUInt32).toInt32) &&& (3 : Int32))), .unset, .unset, .unset, .unset, .unset] [])) _
                refine X0.ldc2DoubleC hx hown (mvT hZ (hw _ (List.mem_of_getElem? (i := 39) rfl))) (g := (mkF m 173 #[.val (.int p0), .val (.int p1), .val (.int p2), .val (.int (p0 &&& (3 : Int32))), .val (.int ((p1 &&& (65535 : Int32)) + (1 : Int32))), .val (.int (p1 &&& (255 : Int32))), .val (.double v40), .second, .val (.int v41), .val (.int (((p0.toUInt32 >>> ((2 : Int32) &&& 31).toUInt32).toInt32) &&& (3 : Int32))), .unset, .unset, .unset, .unset, .unset] [])) rfl (hb hby at_173) _ ?_
                show Steps p.tables e below (s₁.setTop (mkF m 176 #[.val (.int p0), .val (.int p1), .val (.int p2), .val (.int (p0 &&& (3 : Int32))), .val (.int ((p1 &&& (65535 : Int32)) + (1 : Int32))), .val (.int (p1 &&& (255 : Int32))), .val (.double v40), .second, .val (.int v41), .val (.int (((p0.toUInt32 >>> ((2 : Int32) &&& 31).toUInt32).toInt32) &&& (3 : Int32))), .unset, .unset, .unset, .unset, .unset] [(.double (18442240474082181119 : UInt64))])) _
                refine own_sstore X0.here hx (l' := #[.val (.int p0), .val (.int p1), .val (.int p2), .val (.int (p0 &&& (3 : Int32))), .val (.int ((p1 &&& (65535 : Int32)) + (1 : Int32))), .val (.int (p1 &&& (255 : Int32))), .val (.double v40), .second, .val (.int v41), .val (.int (((p0.toUInt32 >>> ((2 : Int32) &&& 31).toUInt32).toInt32) &&& (3 : Int32))), .val (.double (18442240474082181119 : UInt64)), .second, .unset, .unset, .unset]) (hb hby at_176) rfl ?_
                show Steps p.tables e below (s₁.setTop (mkF m 178 #[.val (.int p0), .val (.int p1), .val (.int p2), .val (.int (p0 &&& (3 : Int32))), .val (.int ((p1 &&& (65535 : Int32)) + (1 : Int32))), .val (.int (p1 &&& (255 : Int32))), .val (.double v40), .second, .val (.int v41), .val (.int (((p0.toUInt32 >>> ((2 : Int32) &&& 31).toUInt32).toInt32) &&& (3 : Int32))), .val (.double (18442240474082181119 : UInt64)), .second, .unset, .unset, .unset] [])) _
                refine XS.iconst X0.here hx rfl (hb hby at_178) ?_
                show Steps p.tables e below (s₁.setTop (mkF m 179 #[.val (.int p0), .val (.int p1), .val (.int p2), .val (.int (p0 &&& (3 : Int32))), .val (.int ((p1 &&& (65535 : Int32)) + (1 : Int32))), .val (.int (p1 &&& (255 : Int32))), .val (.double v40), .second, .val (.int v41), .val (.int (((p0.toUInt32 >>> ((2 : Int32) &&& 31).toUInt32).toInt32) &&& (3 : Int32))), .val (.double (18442240474082181119 : UInt64)), .second, .unset, .unset, .unset] [(.int (0 : Int32))])) _
                refine XS.istore X0.here hx rfl (hb hby at_179) rfl (l' := #[.val (.int p0), .val (.int p1), .val (.int p2), .val (.int (p0 &&& (3 : Int32))), .val (.int ((p1 &&& (65535 : Int32)) + (1 : Int32))), .val (.int (p1 &&& (255 : Int32))), .val (.double v40), .second, .val (.int v41), .val (.int (((p0.toUInt32 >>> ((2 : Int32) &&& 31).toUInt32).toInt32) &&& (3 : Int32))), .val (.double (18442240474082181119 : UInt64)), .second, .val (.int (0 : Int32)), .unset, .unset]) rfl ?_
                show Steps p.tables e below (s₁.setTop (mkF m 181 #[.val (.int p0), .val (.int p1), .val (.int p2), .val (.int (p0 &&& (3 : Int32))), .val (.int ((p1 &&& (65535 : Int32)) + (1 : Int32))), .val (.int (p1 &&& (255 : Int32))), .val (.double v40), .second, .val (.int v41), .val (.int (((p0.toUInt32 >>> ((2 : Int32) &&& 31).toUInt32).toInt32) &&& (3 : Int32))), .val (.double (18442240474082181119 : UInt64)), .second, .val (.int (0 : Int32)), .unset, .unset] [])) _
                refine XS.goto X0.here hx rfl (pc0 := 181) (pc' := 195) rfl (hb hby at_181) (by decide) (by decide) ?_
                exact kt
              · rw [show v45 = (FP.ddiv (FP.i2d p2) (4652218415073722368 : UInt64)) from by rw [hv45, if_neg hc44]] at kt
                show Steps p.tables e below (s₁.setTop (mkF m 170 #[.val (.int p0), .val (.int p1), .val (.int p2), .val (.int (p0 &&& (3 : Int32))), .val (.int ((p1 &&& (65535 : Int32)) + (1 : Int32))), .val (.int (p1 &&& (255 : Int32))), .val (.double v40), .second, .val (.int v41), .val (.int (((p0.toUInt32 >>> ((2 : Int32) &&& 31).toUInt32).toInt32) &&& (3 : Int32))), .unset, .unset, .unset, .unset, .unset] [(.int (2 : Int32)), (.int (((p0.toUInt32 >>> ((2 : Int32) &&& 31).toUInt32).toInt32) &&& (3 : Int32)))])) _
                refine XS.icmpYes X0.here hx rfl (pc0 := 170) (pc' := 184) rfl (hb hby at_170) rfl (feq hc44).2 (by decide) (by decide) ?_
                show Steps p.tables e below (s₁.setTop (mkF m 184 #[.val (.int p0), .val (.int p1), .val (.int p2), .val (.int (p0 &&& (3 : Int32))), .val (.int ((p1 &&& (65535 : Int32)) + (1 : Int32))), .val (.int (p1 &&& (255 : Int32))), .val (.double v40), .second, .val (.int v41), .val (.int (((p0.toUInt32 >>> ((2 : Int32) &&& 31).toUInt32).toInt32) &&& (3 : Int32))), .unset, .unset, .unset, .unset, .unset] [])) _
                refine XS.iloadN X0.here hx rfl (hb hby at_184) rfl ?_
                show Steps p.tables e below (s₁.setTop (mkF m 185 #[.val (.int p0), .val (.int p1), .val (.int p2), .val (.int (p0 &&& (3 : Int32))), .val (.int ((p1 &&& (65535 : Int32)) + (1 : Int32))), .val (.int (p1 &&& (255 : Int32))), .val (.double v40), .second, .val (.int v41), .val (.int (((p0.toUInt32 >>> ((2 : Int32) &&& 31).toUInt32).toInt32) &&& (3 : Int32))), .unset, .unset, .unset, .unset, .unset] [(.int p2)])) _
                refine own_si2d X0.here hx (hb hby at_185) ?_
                show Steps p.tables e below (s₁.setTop (mkF m 186 #[.val (.int p0), .val (.int p1), .val (.int p2), .val (.int (p0 &&& (3 : Int32))), .val (.int ((p1 &&& (65535 : Int32)) + (1 : Int32))), .val (.int (p1 &&& (255 : Int32))), .val (.double v40), .second, .val (.int v41), .val (.int (((p0.toUInt32 >>> ((2 : Int32) &&& 31).toUInt32).toInt32) &&& (3 : Int32))), .unset, .unset, .unset, .unset, .unset] [(.double (FP.i2d p2))])) _
                refine X0.ldc2DoubleC hx hown (mvT hZ (hw _ (List.mem_of_getElem? (i := 38) rfl))) (g := (mkF m 186 #[.val (.int p0), .val (.int p1), .val (.int p2), .val (.int (p0 &&& (3 : Int32))), .val (.int ((p1 &&& (65535 : Int32)) + (1 : Int32))), .val (.int (p1 &&& (255 : Int32))), .val (.double v40), .second, .val (.int v41), .val (.int (((p0.toUInt32 >>> ((2 : Int32) &&& 31).toUInt32).toInt32) &&& (3 : Int32))), .unset, .unset, .unset, .unset, .unset] [(.double (FP.i2d p2))])) rfl (hb hby at_186) _ ?_
                show Steps p.tables e below (s₁.setTop (mkF m 189 #[.val (.int p0), .val (.int p1), .val (.int p2), .val (.int (p0 &&& (3 : Int32))), .val (.int ((p1 &&& (65535 : Int32)) + (1 : Int32))), .val (.int (p1 &&& (255 : Int32))), .val (.double v40), .second, .val (.int v41), .val (.int (((p0.toUInt32 >>> ((2 : Int32) &&& 31).toUInt32).toInt32) &&& (3 : Int32))), .unset, .unset, .unset, .unset, .unset] [(.double (4652218415073722368 : UInt64)), (.double (FP.i2d p2))])) _
                refine own_sdiv X0.here hx (hb hby at_189) (Jvm.Free.Fl.val64_no.mpr (own_rep.no (own_R3 p2))) ?_
                show Steps p.tables e below (s₁.setTop (mkF m 190 #[.val (.int p0), .val (.int p1), .val (.int p2), .val (.int (p0 &&& (3 : Int32))), .val (.int ((p1 &&& (65535 : Int32)) + (1 : Int32))), .val (.int (p1 &&& (255 : Int32))), .val (.double v40), .second, .val (.int v41), .val (.int (((p0.toUInt32 >>> ((2 : Int32) &&& 31).toUInt32).toInt32) &&& (3 : Int32))), .unset, .unset, .unset, .unset, .unset] [(.double (FP.ddiv (FP.i2d p2) (4652218415073722368 : UInt64)))])) _
                refine own_sstore X0.here hx (l' := #[.val (.int p0), .val (.int p1), .val (.int p2), .val (.int (p0 &&& (3 : Int32))), .val (.int ((p1 &&& (65535 : Int32)) + (1 : Int32))), .val (.int (p1 &&& (255 : Int32))), .val (.double v40), .second, .val (.int v41), .val (.int (((p0.toUInt32 >>> ((2 : Int32) &&& 31).toUInt32).toInt32) &&& (3 : Int32))), .val (.double (FP.ddiv (FP.i2d p2) (4652218415073722368 : UInt64))), .second, .unset, .unset, .unset]) (hb hby at_190) rfl ?_
                show Steps p.tables e below (s₁.setTop (mkF m 192 #[.val (.int p0), .val (.int p1), .val (.int p2), .val (.int (p0 &&& (3 : Int32))), .val (.int ((p1 &&& (65535 : Int32)) + (1 : Int32))), .val (.int (p1 &&& (255 : Int32))), .val (.double v40), .second, .val (.int v41), .val (.int (((p0.toUInt32 >>> ((2 : Int32) &&& 31).toUInt32).toInt32) &&& (3 : Int32))), .val (.double (FP.ddiv (FP.i2d p2) (4652218415073722368 : UInt64))), .second, .unset, .unset, .unset] [])) _
                refine XS.iconst X0.here hx rfl (hb hby at_192) ?_
                show Steps p.tables e below (s₁.setTop (mkF m 193 #[.val (.int p0), .val (.int p1), .val (.int p2), .val (.int (p0 &&& (3 : Int32))), .val (.int ((p1 &&& (65535 : Int32)) + (1 : Int32))), .val (.int (p1 &&& (255 : Int32))), .val (.double v40), .second, .val (.int v41), .val (.int (((p0.toUInt32 >>> ((2 : Int32) &&& 31).toUInt32).toInt32) &&& (3 : Int32))), .val (.double (FP.ddiv (FP.i2d p2) (4652218415073722368 : UInt64))), .second, .unset, .unset, .unset] [(.int (0 : Int32))])) _
                refine XS.istore X0.here hx rfl (hb hby at_193) rfl (l' := #[.val (.int p0), .val (.int p1), .val (.int p2), .val (.int (p0 &&& (3 : Int32))), .val (.int ((p1 &&& (65535 : Int32)) + (1 : Int32))), .val (.int (p1 &&& (255 : Int32))), .val (.double v40), .second, .val (.int v41), .val (.int (((p0.toUInt32 >>> ((2 : Int32) &&& 31).toUInt32).toInt32) &&& (3 : Int32))), .val (.double (FP.ddiv (FP.i2d p2) (4652218415073722368 : UInt64))), .second, .val (.int (0 : Int32)), .unset, .unset]) rfl ?_
                exact kt
            exact kt
        exact kt
    show Steps p.tables e below (s₁.setTop (mkF m 195 #[.val (.int p0), .val (.int p1), .val (.int p2), .val (.int (p0 &&& (3 : Int32))), .val (.int ((p1 &&& (65535 : Int32)) + (1 : Int32))), .val (.int (p1 &&& (255 : Int32))), .val (.double v40), .second, .val (.int v41), .val (.int (((p0.toUInt32 >>> ((2 : Int32) &&& 31).toUInt32).toInt32) &&& (3 : Int32))), .val (.double v47), .second, .val (.int v48), .unset, .unset] [])) _
    refine st49 _ ?_
    show Steps p.tables e below (T49.setTop (mkF m 198 #[.val (.int p0), .val (.int p1), .val (.int p2), .val (.int (p0 &&& (3 : Int32))), .val (.int ((p1 &&& (65535 : Int32)) + (1 : Int32))), .val (.int (p1 &&& (255 : Int32))), .val (.double v40), .second, .val (.int v41), .val (.int (((p0.toUInt32 >>> ((2 : Int32) &&& 31).toUInt32).toInt32) &&& (3 : Int32))), .val (.double v47), .second, .val (.int v48), .unset, .unset] [(.ref b49)])) _
    refine XS.dup X49.here hx rfl (hb hby at_198) rfl rfl ?_
    show Steps p.tables e below (T49.setTop (mkF m 199 #[.val (.int p0), .val (.int p1), .val (.int p2), .val (.int (p0 &&& (3 : Int32))), .val (.int ((p1 &&& (65535 : Int32)) + (1 : Int32))), .val (.int (p1 &&& (255 : Int32))), .val (.double v40), .second, .val (.int v41), .val (.int (((p0.toUInt32 >>> ((2 : Int32) &&& 31).toUInt32).toInt32) &&& (3 : Int32))), .val (.double v47), .second, .val (.int v48), .unset, .unset] [(.ref b49), (.ref b49)])) _
    refine own_sload X49.here hx (hb hby at_199) rfl ?_
    show Steps p.tables e below (T49.setTop (mkF m 201 #[.val (.int p0), .val (.int p1), .val (.int p2), .val (.int (p0 &&& (3 : Int32))), .val (.int ((p1 &&& (65535 : Int32)) + (1 : Int32))), .val (.int (p1 &&& (255 : Int32))), .val (.double v40), .second, .val (.int v41), .val (.int (((p0.toUInt32 >>> ((2 : Int32) &&& 31).toUInt32).toInt32) &&& (3 : Int32))), .val (.double v47), .second, .val (.int v48), .unset, .unset] [(.double v40), (.ref b49), (.ref b49)])) _
    refine own_sload X49.here hx (hb hby at_201) rfl ?_
    show Steps p.tables e below (T49.setTop (mkF m 203 #[.val (.int p0), .val (.int p1), .val (.int p2), .val (.int (p0 &&& (3 : Int32))), .val (.int ((p1 &&& (65535 : Int32)) + (1 : Int32))), .val (.int (p1 &&& (255 : Int32))), .val (.double v40), .second, .val (.int v41), .val (.int (((p0.toUInt32 >>> ((2 : Int32) &&& 31).toUInt32).toInt32) &&& (3 : Int32))), .val (.double v47), .second, .val (.int v48), .unset, .unset] [(.double v47), (.double v40), (.ref b49), (.ref b49)])) _
    refine st55.trans ?_
    show Steps p.tables e below (T55.setTop (mkF m 206 #[.val (.int p0), .val (.int p1), .val (.int p2), .val (.int (p0 &&& (3 : Int32))), .val (.int ((p1 &&& (65535 : Int32)) + (1 : Int32))), .val (.int (p1 &&& (255 : Int32))), .val (.double v40), .second, .val (.int v41), .val (.int (((p0.toUInt32 >>> ((2 : Int32) &&& 31).toUInt32).toInt32) &&& (3 : Int32))), .val (.double v47), .second, .val (.int v48), .unset, .unset] [(.ref b49)])) _
    refine XS.astore X55.here hx rfl (hb hby at_206) rfl rfl (l' := #[.val (.int p0), .val (.int p1), .val (.int p2), .val (.int (p0 &&& (3 : Int32))), .val (.int ((p1 &&& (65535 : Int32)) + (1 : Int32))), .val (.int (p1 &&& (255 : Int32))), .val (.double v40), .second, .val (.int v41), .val (.int (((p0.toUInt32 >>> ((2 : Int32) &&& 31).toUInt32).toInt32) &&& (3 : Int32))), .val (.double v47), .second, .val (.int v48), .val (.ref b49), .unset]) rfl ?_
    show Steps p.tables e below (T55.setTop (mkF m 208 #[.val (.int p0), .val (.int p1), .val (.int p2), .val (.int (p0 &&& (3 : Int32))), .val (.int ((p1 &&& (65535 : Int32)) + (1 : Int32))), .val (.int (p1 &&& (255 : Int32))), .val (.double v40), .second, .val (.int v41), .val (.int (((p0.toUInt32 >>> ((2 : Int32) &&& 31).toUInt32).toInt32) &&& (3 : Int32))), .val (.double v47), .second, .val (.int v48), .val (.ref b49), .unset] [])) _
    refine XS.iload X55.here hx rfl (hb hby at_208) rfl ?_
    refine joinS (B := T55.setTop (mkF m 223 #[.val (.int p0), .val (.int p1), .val (.int p2), .val (.int (p0 &&& (3 : Int32))), .val (.int ((p1 &&& (65535 : Int32)) + (1 : Int32))), .val (.int (p1 &&& (255 : Int32))), .val (.double v40), .second, .val (.int v41), .val (.int (((p0.toUInt32 >>> ((2 : Int32) &&& 31).toUInt32).toInt32) &&& (3 : Int32))), .val (.double v47), .second, .val (.int v48), .val (.ref b49), .unset] [(.int v63)])) (fun kt => ?_) ?_
    · by_cases hc60 : v41 = (0 : Int32)
      · rw [show v63 = (0 : Int32) from by rw [hv63, if_pos hc60]] at kt
        show Steps p.tables e below (T55.setTop (mkF m 210 #[.val (.int p0), .val (.int p1), .val (.int p2), .val (.int (p0 &&& (3 : Int32))), .val (.int ((p1 &&& (65535 : Int32)) + (1 : Int32))), .val (.int (p1 &&& (255 : Int32))), .val (.double v40), .second, .val (.int v41), .val (.int (((p0.toUInt32 >>> ((2 : Int32) &&& 31).toUInt32).toInt32) &&& (3 : Int32))), .val (.double v47), .second, .val (.int v48), .val (.ref b49), .unset] [(.int v41)])) _
        refine XS.ifYes X55.here hx rfl (pc0 := 210) (pc' := 222) rfl (hb hby at_210) rfl ((if0 _ _).trans (teq hc60).1) (by decide) (by decide) ?_
        show Steps p.tables e below (T55.setTop (mkF m 222 #[.val (.int p0), .val (.int p1), .val (.int p2), .val (.int (p0 &&& (3 : Int32))), .val (.int ((p1 &&& (65535 : Int32)) + (1 : Int32))), .val (.int (p1 &&& (255 : Int32))), .val (.double v40), .second, .val (.int v41), .val (.int (((p0.toUInt32 >>> ((2 : Int32) &&& 31).toUInt32).toInt32) &&& (3 : Int32))), .val (.double v47), .second, .val (.int v48), .val (.ref b49), .unset] [])) _
        refine XS.iconst X55.here hx rfl (hb hby at_222) ?_
        exact kt
      · rw [show v63 = v62 from by rw [hv63, if_neg hc60]] at kt
        show Steps p.tables e below (T55.setTop (mkF m 210 #[.val (.int p0), .val (.int p1), .val (.int p2), .val (.int (p0 &&& (3 : Int32))), .val (.int ((p1 &&& (65535 : Int32)) + (1 : Int32))), .val (.int (p1 &&& (255 : Int32))), .val (.double v40), .second, .val (.int v41), .val (.int (((p0.toUInt32 >>> ((2 : Int32) &&& 31).toUInt32).toInt32) &&& (3 : Int32))), .val (.double v47), .second, .val (.int v48), .val (.ref b49), .unset] [(.int v41)])) _
        refine XS.ifNo X55.here hx rfl (hb hby at_210) rfl ((if0 _ _).trans (feq hc60).1) ?_
        show Steps p.tables e below (T55.setTop (mkF m 213 #[.val (.int p0), .val (.int p1), .val (.int p2), .val (.int (p0 &&& (3 : Int32))), .val (.int ((p1 &&& (65535 : Int32)) + (1 : Int32))), .val (.int (p1 &&& (255 : Int32))), .val (.double v40), .second, .val (.int v41), .val (.int (((p0.toUInt32 >>> ((2 : Int32) &&& 31).toUInt32).toInt32) &&& (3 : Int32))), .val (.double v47), .second, .val (.int v48), .val (.ref b49), .unset] [])) _
        refine XS.iload X55.here hx rfl (hb hby at_213) rfl ?_
        refine joinS (B := T55.setTop (mkF m 223 #[.val (.int p0), .val (.int p1), .val (.int p2), .val (.int (p0 &&& (3 : Int32))), .val (.int ((p1 &&& (65535 : Int32)) + (1 : Int32))), .val (.int (p1 &&& (255 : Int32))), .val (.double v40), .second, .val (.int v41), .val (.int (((p0.toUInt32 >>> ((2 : Int32) &&& 31).toUInt32).toInt32) &&& (3 : Int32))), .val (.double v47), .second, .val (.int v48), .val (.ref b49), .unset] [(.int v62)])) (fun kt => ?_) ?_
        · by_cases hc61 : v48 = (0 : Int32)
          · rw [show v62 = (0 : Int32) from by rw [hv62, if_pos hc61]] at kt
            show Steps p.tables e below (T55.setTop (mkF m 215 #[.val (.int p0), .val (.int p1), .val (.int p2), .val (.int (p0 &&& (3 : Int32))), .val (.int ((p1 &&& (65535 : Int32)) + (1 : Int32))), .val (.int (p1 &&& (255 : Int32))), .val (.double v40), .second, .val (.int v41), .val (.int (((p0.toUInt32 >>> ((2 : Int32) &&& 31).toUInt32).toInt32) &&& (3 : Int32))), .val (.double v47), .second, .val (.int v48), .val (.ref b49), .unset] [(.int v48)])) _
            refine XS.ifYes X55.here hx rfl (pc0 := 215) (pc' := 222) rfl (hb hby at_215) rfl ((if0 _ _).trans (teq hc61).1) (by decide) (by decide) ?_
            show Steps p.tables e below (T55.setTop (mkF m 222 #[.val (.int p0), .val (.int p1), .val (.int p2), .val (.int (p0 &&& (3 : Int32))), .val (.int ((p1 &&& (65535 : Int32)) + (1 : Int32))), .val (.int (p1 &&& (255 : Int32))), .val (.double v40), .second, .val (.int v41), .val (.int (((p0.toUInt32 >>> ((2 : Int32) &&& 31).toUInt32).toInt32) &&& (3 : Int32))), .val (.double v47), .second, .val (.int v48), .val (.ref b49), .unset] [])) _
            refine XS.iconst X55.here hx rfl (hb hby at_222) ?_
            exact kt
          · rw [show v62 = (1 : Int32) from by rw [hv62, if_neg hc61]] at kt
            show Steps p.tables e below (T55.setTop (mkF m 215 #[.val (.int p0), .val (.int p1), .val (.int p2), .val (.int (p0 &&& (3 : Int32))), .val (.int ((p1 &&& (65535 : Int32)) + (1 : Int32))), .val (.int (p1 &&& (255 : Int32))), .val (.double v40), .second, .val (.int v41), .val (.int (((p0.toUInt32 >>> ((2 : Int32) &&& 31).toUInt32).toInt32) &&& (3 : Int32))), .val (.double v47), .second, .val (.int v48), .val (.ref b49), .unset] [(.int v48)])) _
            refine XS.ifNo X55.here hx rfl (hb hby at_215) rfl ((if0 _ _).trans (feq hc61).1) ?_
            show Steps p.tables e below (T55.setTop (mkF m 218 #[.val (.int p0), .val (.int p1), .val (.int p2), .val (.int (p0 &&& (3 : Int32))), .val (.int ((p1 &&& (65535 : Int32)) + (1 : Int32))), .val (.int (p1 &&& (255 : Int32))), .val (.double v40), .second, .val (.int v41), .val (.int (((p0.toUInt32 >>> ((2 : Int32) &&& 31).toUInt32).toInt32) &&& (3 : Int32))), .val (.double v47), .second, .val (.int v48), .val (.ref b49), .unset] [])) _
            refine XS.iconst X55.here hx rfl (hb hby at_218) ?_
            show Steps p.tables e below (T55.setTop (mkF m 219 #[.val (.int p0), .val (.int p1), .val (.int p2), .val (.int (p0 &&& (3 : Int32))), .val (.int ((p1 &&& (65535 : Int32)) + (1 : Int32))), .val (.int (p1 &&& (255 : Int32))), .val (.double v40), .second, .val (.int v41), .val (.int (((p0.toUInt32 >>> ((2 : Int32) &&& 31).toUInt32).toInt32) &&& (3 : Int32))), .val (.double v47), .second, .val (.int v48), .val (.ref b49), .unset] [(.int (1 : Int32))])) _
            refine XS.goto X55.here hx rfl (pc0 := 219) (pc' := 223) rfl (hb hby at_219) (by decide) (by decide) ?_
            exact kt
        exact kt
    show Steps p.tables e below (T55.setTop (mkF m 223 #[.val (.int p0), .val (.int p1), .val (.int p2), .val (.int (p0 &&& (3 : Int32))), .val (.int ((p1 &&& (65535 : Int32)) + (1 : Int32))), .val (.int (p1 &&& (255 : Int32))), .val (.double v40), .second, .val (.int v41), .val (.int (((p0.toUInt32 >>> ((2 : Int32) &&& 31).toUInt32).toInt32) &&& (3 : Int32))), .val (.double v47), .second, .val (.int v48), .val (.ref b49), .unset] [(.int v63)])) _
    refine XS.istore X55.here hx rfl (hb hby at_223) rfl (l' := #[.val (.int p0), .val (.int p1), .val (.int p2), .val (.int (p0 &&& (3 : Int32))), .val (.int ((p1 &&& (65535 : Int32)) + (1 : Int32))), .val (.int (p1 &&& (255 : Int32))), .val (.double v40), .second, .val (.int v41), .val (.int (((p0.toUInt32 >>> ((2 : Int32) &&& 31).toUInt32).toInt32) &&& (3 : Int32))), .val (.double v47), .second, .val (.int v48), .val (.ref b49), .val (.int v63)]) rfl ?_
    show Steps p.tables e below (T55.setTop (mkF m 225 #[.val (.int p0), .val (.int p1), .val (.int p2), .val (.int (p0 &&& (3 : Int32))), .val (.int ((p1 &&& (65535 : Int32)) + (1 : Int32))), .val (.int (p1 &&& (255 : Int32))), .val (.double v40), .second, .val (.int v41), .val (.int (((p0.toUInt32 >>> ((2 : Int32) &&& 31).toUInt32).toInt32) &&& (3 : Int32))), .val (.double v47), .second, .val (.int v48), .val (.ref b49), .val (.int v63)] [])) _
    refine XS.aload X55.here hx rfl (hb hby at_225) rfl rfl ?_
    show Steps p.tables e below (T55.setTop (mkF m 227 #[.val (.int p0), .val (.int p1), .val (.int p2), .val (.int (p0 &&& (3 : Int32))), .val (.int ((p1 &&& (65535 : Int32)) + (1 : Int32))), .val (.int (p1 &&& (255 : Int32))), .val (.double v40), .second, .val (.int v41), .val (.int (((p0.toUInt32 >>> ((2 : Int32) &&& 31).toUInt32).toInt32) &&& (3 : Int32))), .val (.double v47), .second, .val (.int v48), .val (.ref b49), .val (.int v63)] [(.ref b49)])) _
    refine st64.trans ?_
    show Steps p.tables e below (T64.setTop (mkF m 230 #[.val (.int p0), .val (.int p1), .val (.int p2), .val (.int (p0 &&& (3 : Int32))), .val (.int ((p1 &&& (65535 : Int32)) + (1 : Int32))), .val (.int (p1 &&& (255 : Int32))), .val (.double v40), .second, .val (.int v41), .val (.int (((p0.toUInt32 >>> ((2 : Int32) &&& 31).toUInt32).toInt32) &&& (3 : Int32))), .val (.double v47), .second, .val (.int v48), .val (.ref b49), .val (.int v63)] [(.int (if (cmpValue (FP.dcmp v47 (18442240474082181120 : UInt64)) .l) = (0 : Int32) then (if (cmpValue (FP.dcmp v40 (4607182418800017408 : UInt64)) .l) = (0 : Int32) then (1 : Int32) else (0 : Int32)) else (0 : Int32)))])) _
    refine XS.iload X64.here hx rfl (hb hby at_230) rfl ?_
    show Steps p.tables e below (T64.setTop (mkF m 232 #[.val (.int p0), .val (.int p1), .val (.int p2), .val (.int (p0 &&& (3 : Int32))), .val (.int ((p1 &&& (65535 : Int32)) + (1 : Int32))), .val (.int (p1 &&& (255 : Int32))), .val (.double v40), .second, .val (.int v41), .val (.int (((p0.toUInt32 >>> ((2 : Int32) &&& 31).toUInt32).toInt32) &&& (3 : Int32))), .val (.double v47), .second, .val (.int v48), .val (.ref b49), .val (.int v63)] [(.int v63), (.int (if (cmpValue (FP.dcmp v47 (18442240474082181120 : UInt64)) .l) = (0 : Int32) then (if (cmpValue (FP.dcmp v40 (4607182418800017408 : UInt64)) .l) = (0 : Int32) then (1 : Int32) else (0 : Int32)) else (0 : Int32)))])) _
    refine XS.icmpNo X64.here hx rfl (hb hby at_232) rfl (teq (own_joint T0 O0 hv62 hv63)).2 ?_
    show Steps p.tables e below (T64.setTop (mkF m 235 #[.val (.int p0), .val (.int p1), .val (.int p2), .val (.int (p0 &&& (3 : Int32))), .val (.int ((p1 &&& (65535 : Int32)) + (1 : Int32))), .val (.int (p1 &&& (255 : Int32))), .val (.double v40), .second, .val (.int v41), .val (.int (((p0.toUInt32 >>> ((2 : Int32) &&& 31).toUInt32).toInt32) &&& (3 : Int32))), .val (.double v47), .second, .val (.int v48), .val (.ref b49), .val (.int v63)] [])) _
    refine st66 _ ?_
    show Steps p.tables e below (T66.setTop (mkF m 238 #[.val (.int p0), .val (.int p1), .val (.int p2), .val (.int (p0 &&& (3 : Int32))), .val (.int ((p1 &&& (65535 : Int32)) + (1 : Int32))), .val (.int (p1 &&& (255 : Int32))), .val (.double v40), .second, .val (.int v41), .val (.int (((p0.toUInt32 >>> ((2 : Int32) &&& 31).toUInt32).toInt32) &&& (3 : Int32))), .val (.double v47), .second, .val (.int v48), .val (.ref b49), .val (.int v63)] [(.ref kN)])) _
    refine st67.trans ?_
    show Steps p.tables e below (T67.setTop (mkF m 241 #[.val (.int p0), .val (.int p1), .val (.int p2), .val (.int (p0 &&& (3 : Int32))), .val (.int ((p1 &&& (65535 : Int32)) + (1 : Int32))), .val (.int (p1 &&& (255 : Int32))), .val (.double v40), .second, .val (.int v41), .val (.int (((p0.toUInt32 >>> ((2 : Int32) &&& 31).toUInt32).toInt32) &&& (3 : Int32))), .val (.double v47), .second, .val (.int v48), .val (.ref b49), .val (.int v63)] [(.int (if (0 : Int32) = (0 : Int32) then (if (0 : Int32) = (0 : Int32) then (1 : Int32) else (0 : Int32)) else (0 : Int32)))])) _
    refine XS.ifNo X67.here hx rfl (hb hby at_241) rfl ((if0 _ _).trans (feq (by decide)).1) ?_
    show Steps p.tables e below (T67.setTop (mkF m 244 #[.val (.int p0), .val (.int p1), .val (.int p2), .val (.int (p0 &&& (3 : Int32))), .val (.int ((p1 &&& (65535 : Int32)) + (1 : Int32))), .val (.int (p1 &&& (255 : Int32))), .val (.double v40), .second, .val (.int v41), .val (.int (((p0.toUInt32 >>> ((2 : Int32) &&& 31).toUInt32).toInt32) &&& (3 : Int32))), .val (.double v47), .second, .val (.int v48), .val (.ref b49), .val (.int v63)] [])) _
    refine XS.iconst X67.here hx rfl (hb hby at_244) ?_
    show Steps p.tables e below (T67.setTop (mkF m 245 #[.val (.int p0), .val (.int p1), .val (.int p2), .val (.int (p0 &&& (3 : Int32))), .val (.int ((p1 &&& (65535 : Int32)) + (1 : Int32))), .val (.int (p1 &&& (255 : Int32))), .val (.double v40), .second, .val (.int v41), .val (.int (((p0.toUInt32 >>> ((2 : Int32) &&& 31).toUInt32).toInt32) &&& (3 : Int32))), .val (.double v47), .second, .val (.int v48), .val (.ref b49), .val (.int v63)] [(.int (1 : Int32))])) _
    refine XS.goto X67.here hx rfl (pc0 := 245) (pc' := 249) rfl (hb hby at_245) (by decide) (by decide) ?_
    show Steps p.tables e below (T67.setTop (mkF m 249 #[.val (.int p0), .val (.int p1), .val (.int p2), .val (.int (p0 &&& (3 : Int32))), .val (.int ((p1 &&& (65535 : Int32)) + (1 : Int32))), .val (.int (p1 &&& (255 : Int32))), .val (.double v40), .second, .val (.int v41), .val (.int (((p0.toUInt32 >>> ((2 : Int32) &&& 31).toUInt32).toInt32) &&& (3 : Int32))), .val (.double v47), .second, .val (.int v48), .val (.ref b49), .val (.int v63)] [(.int (1 : Int32))])) _
    exact retN X67 hx (t := .boolean) Bd.returns (by simp) (hb hby at_249) hr
  · show Qrm0 Z p0 p1 p2 kN h0 n0 _ T67.heap _
    rw [e67]
    exact ⟨rfl, N68⟩
set_option maxRecDepth 65536 in
set_option maxHeartbeats 40000000 in
theorem comes_1 {Post : Tables → Env → Array Value → State → Outcome → State → Prop} (hpost : ∀ tb e args s v u, (limb_1_1.after args s (.returned v) u = true ∧ limb_1_2.after args s (.returned v) u = true ∧ True) → FrameEnd s (.returned v) u (Jvm.fieldLocs frame_1_writes args s ++ Jvm.arrayLocs frame_1_arrays args s ++ Jvm.staticLocs frame_1_statics s) 16 128 → Post tb e args s (.returned v) u) :
    ArmFor flags0 classFile x code maxLocals ret World_1 tables_1 room_1 Calls_1 rest_1 Pre_1 Post := by
  intro l hfl _ _ p e ha hc hk s m args below hf hA hF happ hP
  obtain ⟨hcalls, hrest, hpre⟩ := hP
  obtain ⟨-, -, -, hnamed, -, -, -, hat⟩ := (Spec.applies_iff hf).mp happ
  obtain ⟨hg, hn⟩ := and_e (Cond.before_iff.mp (show (Jvm.Cond.and given_1 narrow_1).before args s = true from hpre))
  obtain ⟨hcount, hg0⟩ := and_e hg
  obtain ⟨ha0, hg1⟩ := and_e hg0
  obtain ⟨ha1, hg2⟩ := and_e hg1
  have ha2 := hg2
  obtain ⟨w0, w1, w2, rfl⟩ : ∃ w0 w1 w2 : Value, args = #[w0, w1, w2] := by
    have hs : args.size = 3 := by simpa [Cond.value, given_1] using hcount
    obtain ⟨L⟩ := args
    match L, hs with
    | [w0, w1, w2], _ => exact ⟨w0, w1, w2, rfl⟩
  have hw := fun d (hd : d ∈ tables_1) => atoms_spec (ws := Jvm.Cond.code x code maxLocals ret :: tables_1) hat d (List.mem_cons_of_mem _ hd)
  obtain ⟨i0, ei0⟩ := is_v ha0
  obtain rfl : w0 = (.int i0) := Option.some.inj ei0
  obtain ⟨i1, ei1⟩ := is_v ha1
  obtain rfl : w1 = (.int i1) := Option.some.inj ei1
  obtain ⟨i2, ei2⟩ := is_v ha2
  obtain rfl : w2 = (.int i2) := Option.some.inj ei2
  obtain ⟨hnE, hn1⟩ := and_e hn
  obtain ⟨hnO, hnT⟩ := and_e hn1
  obtain ⟨kN, ekN⟩ := exa_v hnE
  have EN := Exa.start ekN hnE
  have SN := Sta.start ekN (Or.inr ⟨(hw _ (List.mem_of_getElem? (i := 5) rfl)), (hw _ (List.mem_of_getElem? (i := 36) rfl))⟩)
  have FT := Fld.start ((fld_at ekN).symm.trans (own_eqD hnT (u := (4607182418800017408 : UInt64)) (by decide)))
  have FO := Fld.start ((fld_at ekN).symm.trans (own_eqD hnO (u := (18442240474082181120 : UInt64)) (by decide)))
  obtain ⟨n, o, h1, h2, h3, _, L, rfl, ⟨rfl, N⟩, hq⟩ := rm0 l s _ hw tables_1 i0 i1 i2 kN s.heap s.heap.size (Nat.le_refl _) (Old.start s) SN EN FT FO p e ha hc hk s m _ below hf ((Spec.applies_iff_loose hf).mp happ).1 ⟨rfl, State.Warmed39.refl s, rfl⟩ trivial
  refine ⟨n, _, h1, h2, h3, hpost _ _ _ _ _ _ ⟨Cond.after_iff.mpr rfl, Cond.after_iff.mpr (eq_i res_at (Term.int_eval (1)) rfl), trivial⟩ ⟨hq.1, hq.2.1, (hq.2.2.sift fun y hy => Or.inr (N y hy)).mono (by decide) (by decide)⟩⟩
theorem main_1_1 : Claimed_1_1 := comes_1 fun _ _ _ _ _ _ h hF => ⟨h.1, hF⟩
theorem main_1_2 : Claimed_1_2 := comes_1 fun _ _ _ _ _ _ h hF => ⟨h.2.1, hF⟩
end Jvm.Pilot.@@N@@
namespace Jvm.Pilot.@@N@@
open Jvm Jvm.ClassFile Sem Op Lib Jvm.Free Jvm.Stand Jvm.Pilot.@@N@@.Jvm.D
/-! MADE BY PROGRAM (witnessworld.py) out of the Statement's table words and the real class files: 15 classes; the members and pool entries that the words name. The judged class is class 1, her method 1. -/
namespace start1
open Jvm.ClassFile
def u (s : String) : CpInfo := .utf8 (stringToUtf16 s)
/-- a pool by its gaps: so many unusable entries, then the entry; so many at the end -/
def gap : Nat → List CpInfo → List CpInfo
  | 0, r => r
  | n + 1, r => .unusable :: gap n r
def poolList (es : List (Nat × CpInfo)) (last : Nat) : List CpInfo := es.foldr (fun e r => gap e.1 (e.2 :: r)) (gap last [])
def pool (es : List (Nat × CpInfo)) (last : Nat) : Array CpInfo := ⟨poolList es last⟩
def fileOf (pool : Array CpInfo) (this : Nat) (attrs : Array Attribute := #[]) (ms : Array MethodInfo := #[]) (fl : Nat := 33) (sup : Nat := 0) (ifs : Array Nat := #[]) (fds : Array FieldInfo := #[]) : ClassFile where
  minorVersion := 0
  majorVersion := 65
  constantPool := pool
  accessFlags := fl
  thisClass := this
  superClass := sup
  interfaces := ifs
  fields := fds
  methods := ms
  attributes := attrs
def plain (name : String) (sup : Option ClassId) : Class where
  name := name
  kind := .ordinary
  loader := none
  accessFlags := 33
  super := sup
  interfaces := #[]
  cf := none
  fields := #[]
  methods := #[]
  instanceTypes := #[]
  staticTypes := #[]
  resolved := #[]
  callSites := []
  init := .initialized
  statics := none
  mirror := none

def pool0 : Array CpInfo := pool [(5, u "<init>"), (0, u "()V"), (1, .class_ 10), (1, u "java/lang/Object")] 113

def k0c0 : Code := { maxStack := 0, maxLocals := 1, code := object_method_1_code, exceptionTable := #[], attributes := #[] }
def k0m0 : Method := { name := "<init>", desc := "()V", sig := { parameters := [], returnType := none }, accessFlags := 1, code := some k0c0 }
/-- java/lang/Object -/
def k0 : Class := { plain "java/lang/Object" none with
  accessFlags := 33
  interfaces := #[]
  cf := some (fileOf pool0 8 #[] #[{ accessFlags := 1, nameIndex := 5, descriptorIndex := 6, attributes := #[] }] 33 0 #[] #[])
  fields := #[]
  methods := #[k0m0]
  instanceTypes := #[]
  staticTypes := #[]
  resolved := Array.replicate 124 none
  statics := none }

def pool1 : Array CpInfo := pool [(2, .class_ 4), (1, u "java/lang/Object"), (0, u "<init>"), (0, u "()V"), (0, .integer 65535), (0, .double 4616189618054758400), (1, .double 4841369599423283200), (1, .double 4845873199050653696), (3, .double 18442240474082181120), (1, .double 18442240474082181119), (1, .double 4652218415073722368), (1, .class_ 23), (0, u "com/example/hearer/hearer/engine/ScoreCalibration"), (0, .methodref 22 25), (0, .nameAndType 5 26), (0, u "(DD)V"), (0, .methodref 22 28), (0, .nameAndType 29 30), (0, u "isNone"), (0, u "()Z"), (0, .fieldref 22 32), (0, .nameAndType 33 34), (0, u "NONE"), (0, u "Lcom/example/hearer/hearer/engine/ScoreCalibration;"), (0, .class_ 36), (0, u "com/example/hearer/hearer/engine/ScoreCalibrationIsNonePinLaw"), (2, u "law"), (0, u "(III)Z")] 3

def k1m0 : Method := { name := "<init>", desc := "()V", sig := { parameters := [], returnType := none }, accessFlags := 1, code := none }
def k1c1 : Code := { maxStack := 6, maxLocals := 15, code := code, exceptionTable := #[], attributes := #[] }
def k1m1 : Method := { name := "law", desc := "(III)Z", sig := { parameters := [.int, .int, .int], returnType := some .boolean }, accessFlags := 9, code := some k1c1 }
/-- com/example/hearer/hearer/engine/ScoreCalibrationIsNonePinLaw -/
def k1 : Class := { plain "com/example/hearer/hearer/engine/ScoreCalibrationIsNonePinLaw" (some 0) with
  accessFlags := 49
  interfaces := #[]
  cf := some (fileOf pool1 35 #[] #[{ accessFlags := 1, nameIndex := 5, descriptorIndex := 6, attributes := #[] }, { accessFlags := 9, nameIndex := 39, descriptorIndex := 40, attributes := #[] }] 49 2 #[] #[])
  fields := #[]
  methods := #[k1m0, k1m1]
  instanceTypes := #[]
  staticTypes := #[]
  resolved := Array.replicate 44 none
  statics := none }

def pool2 : Array CpInfo := pool [(1, .methodref 2 3), (0, .class_ 4), (0, .nameAndType 5 6), (0, u "java/lang/Object"), (0, u "<init>"), (0, u "()V"), (0, .methodref 8 9), (0, .class_ 10), (0, .nameAndType 11 12), (0, u "java/lang/Double"), (0, u "isInfinite"), (0, u "(D)Z"), (9, .methodref 8 23), (0, .nameAndType 24 12), (0, u "isNaN"), (0, .double 9218868437227405312), (2, .fieldref 29 30), (0, .class_ 31), (0, .nameAndType 32 33), (0, u "com/example/hearer/hearer/engine/ScoreCalibration"), (0, u "temperature"), (0, u "D"), (0, .fieldref 29 35), (0, .nameAndType 36 33), (0, u "outlierLogDensity"), (2, .class_ 40), (0, u "com/example/hearer/hearer/engine/ScoreCalibration$Objective"), (5, u "WEIGHTS"), (0, u "[D"), (20, u "(DD)V"), (0, .double 18442240474082181120), (36, u "GOLDEN"), (13, u "NONE"), (0, u "Lcom/example/hearer/hearer/engine/ScoreCalibration;"), (16, u "OUTLIER_LOG_DENSITIES"), (3, u "REFINEMENTS"), (0, u "I"), (8, u "isNone"), (0, u "()Z")] 37

def k2c0 : Code := { maxStack := 4, maxLocals := 5, code := prog_34_method_1_code, exceptionTable := #[], attributes := #[] }
def k2m0 : Method := { name := "<init>", desc := "(DD)V", sig := { parameters := [.double, .double], returnType := none }, accessFlags := 0, code := some k2c0 }
def k2c1 : Code := { maxStack := 4, maxLocals := 1, code := prog_34_method_5_code, exceptionTable := #[], attributes := #[] }
def k2m1 : Method := { name := "isNone", desc := "()Z", sig := { parameters := [], returnType := some .boolean }, accessFlags := 0, code := some k2c1 }
/-- com/example/hearer/hearer/engine/ScoreCalibration -/
def k2 : Class := { plain "com/example/hearer/hearer/engine/ScoreCalibration" (some 0) with
  accessFlags := 48
  interfaces := #[]
  cf := some (fileOf pool2 29 #[.nestMembers #[39]] #[{ accessFlags := 0, nameIndex := 5, descriptorIndex := 68, attributes := #[] }, { accessFlags := 0, nameIndex := 152, descriptorIndex := 153, attributes := #[] }] 48 2 #[] #[{ accessFlags := 24, nameIndex := 120, descriptorIndex := 121, attributes := #[] }, { accessFlags := 26, nameIndex := 46, descriptorIndex := 47, attributes := #[] }, { accessFlags := 26, nameIndex := 138, descriptorIndex := 47, attributes := #[] }, { accessFlags := 26, nameIndex := 142, descriptorIndex := 143, attributes := #[] }, { accessFlags := 26, nameIndex := 106, descriptorIndex := 33, attributes := #[] }, { accessFlags := 18, nameIndex := 32, descriptorIndex := 33, attributes := #[] }, { accessFlags := 18, nameIndex := 36, descriptorIndex := 33, attributes := #[] }])
  fields := #[{ name := "NONE", type := (.object "com/example/hearer/hearer/engine/ScoreCalibration"), accessFlags := 24, slot := 0, constantValue := 0 }, { name := "WEIGHTS", type := (.array .double), accessFlags := 26, slot := 1, constantValue := 0 }, { name := "OUTLIER_LOG_DENSITIES", type := (.array .double), accessFlags := 26, slot := 2, constantValue := 0 }, { name := "REFINEMENTS", type := .int, accessFlags := 26, slot := 3, constantValue := 0 }, { name := "GOLDEN", type := .double, accessFlags := 26, slot := 4, constantValue := 0 }, { name := "temperature", type := .double, accessFlags := 18, slot := 0, constantValue := 0 }, { name := "outlierLogDensity", type := .double, accessFlags := 18, slot := 1, constantValue := 0 }]
  methods := #[k2m0, k2m1]
  instanceTypes := #[.double, .double]
  staticTypes := #[(.object "com/example/hearer/hearer/engine/ScoreCalibration"), (.array .double), (.array .double), .int, .double]
  resolved := Array.replicate 191 none
  statics := some 0 }

def pool3 : Array CpInfo := pool [(1, .class_ 2), (0, u "java/io/Serializable"), (0, .class_ 4), (0, u "java/lang/Object")] 2

/-- java/io/Serializable -/
def k3 : Class := { plain "java/io/Serializable" (some 0) with
  accessFlags := 1537
  interfaces := #[]
  cf := some (fileOf pool3 1 #[] #[] 1537 3 #[] #[])
  fields := #[]
  methods := #[]
  instanceTypes := #[]
  staticTypes := #[]
  resolved := Array.replicate 7 none
  statics := none }

def pool4 : Array CpInfo := pool [(2, .class_ 4), (1, u "java/lang/Object"), (0, u "<init>"), (0, u "()V"), (1, .class_ 10), (1, u "java/lang/Number"), (2, .class_ 14), (0, u "java/io/Serializable"), (0, u "serialVersionUID"), (0, u "J")] 20

def k4m0 : Method := { name := "<init>", desc := "()V", sig := { parameters := [], returnType := none }, accessFlags := 1, code := none }
/-- java/lang/Number -/
def k4 : Class := { plain "java/lang/Number" (some 0) with
  accessFlags := 1057
  interfaces := #[3]
  cf := some (fileOf pool4 8 #[] #[{ accessFlags := 1, nameIndex := 5, descriptorIndex := 6, attributes := #[] }] 1057 2 #[13] #[{ accessFlags := 26, nameIndex := 15, descriptorIndex := 16, attributes := #[] }])
  fields := #[{ name := "serialVersionUID", type := .long, accessFlags := 26, slot := 0, constantValue := 0 }]
  methods := #[k4m0]
  instanceTypes := #[]
  staticTypes := #[.long]
  resolved := Array.replicate 37 none
  statics := none }

def pool5 : Array CpInfo := pool [(1, .class_ 2), (0, u "java/lang/Comparable"), (0, .class_ 4), (0, u "java/lang/Object")] 7

/-- java/lang/Comparable -/
def k5 : Class := { plain "java/lang/Comparable" (some 0) with
  accessFlags := 1537
  interfaces := #[]
  cf := some (fileOf pool5 1 #[] #[] 1537 3 #[] #[])
  fields := #[]
  methods := #[]
  instanceTypes := #[]
  staticTypes := #[]
  resolved := Array.replicate 12 none
  statics := none }

def pool6 : Array CpInfo := pool [(1, .class_ 2), (0, u "java/lang/constant/Constable"), (0, .class_ 4), (0, u "java/lang/Object")] 6

/-- java/lang/constant/Constable -/
def k6 : Class := { plain "java/lang/constant/Constable" (some 0) with
  accessFlags := 1537
  interfaces := #[]
  cf := some (fileOf pool6 1 #[] #[] 1537 3 #[] #[])
  fields := #[]
  methods := #[]
  instanceTypes := #[]
  staticTypes := #[]
  resolved := Array.replicate 11 none
  statics := none }

def pool7 : Array CpInfo := pool [(1, .class_ 2), (0, u "java/lang/constant/ConstantDesc"), (0, .class_ 4), (0, u "java/lang/Object")] 32

/-- java/lang/constant/ConstantDesc -/
def k7 : Class := { plain "java/lang/constant/ConstantDesc" (some 0) with
  accessFlags := 1537
  interfaces := #[]
  cf := some (fileOf pool7 1 #[] #[] 1537 3 #[] #[])
  fields := #[]
  methods := #[]
  instanceTypes := #[]
  staticTypes := #[]
  resolved := Array.replicate 37 none
  statics := none }

def pool8 : Array CpInfo := pool [(1, .class_ 2), (0, u "java/lang/Double"), (11, u "(D)Z"), (8, .class_ 25), (1, u "java/lang/Math"), (12, .methodref 23 39), (0, .nameAndType 40 41), (0, u "abs"), (0, u "(D)D"), (69, .double 9218868437227405311), (2, .class_ 116), (1, u "java/lang/Number"), (3, u "value"), (0, u "D"), (2, u "isNaN"), (2, u "isInfinite"), (45, u "TYPE"), (0, u "Ljava/lang/Class;"), (0, .class_ 176), (0, u "java/lang/Comparable"), (0, .class_ 178), (0, u "java/lang/constant/Constable"), (0, .class_ 180), (0, u "java/lang/constant/ConstantDesc"), (0, u "POSITIVE_INFINITY"), (3, u "NEGATIVE_INFINITY"), (2, u "NaN"), (2, u "MAX_VALUE"), (0, u "MIN_NORMAL"), (0, u "MIN_VALUE"), (2, u "SIZE"), (0, u "I"), (1, u "PRECISION"), (1, u "MAX_EXPONENT"), (1, u "MIN_EXPONENT"), (1, u "BYTES"), (3, u "serialVersionUID"), (0, u "J")] 79

def k8c0 : Code := { maxStack := 4, maxLocals := 2, code := jdk_117_method_6_code, exceptionTable := #[], attributes := #[] }
def k8m0 : Method := { name := "isNaN", desc := "(D)Z", sig := { parameters := [.double], returnType := some .boolean }, accessFlags := 9, code := some k8c0 }
def k8c1 : Code := { maxStack := 4, maxLocals := 2, code := jdk_117_method_7_code, exceptionTable := #[], attributes := #[] }
def k8m1 : Method := { name := "isInfinite", desc := "(D)Z", sig := { parameters := [.double], returnType := some .boolean }, accessFlags := 9, code := some k8c1 }
/-- java/lang/Double -/
def k8 : Class := { plain "java/lang/Double" (some 4) with
  accessFlags := 49
  interfaces := #[5, 6, 7]
  cf := some (fileOf pool8 1 #[] #[{ accessFlags := 9, nameIndex := 124, descriptorIndex := 14, attributes := #[] }, { accessFlags := 9, nameIndex := 127, descriptorIndex := 14, attributes := #[] }] 49 114 #[175, 177, 179] #[{ accessFlags := 25, nameIndex := 181, descriptorIndex := 121, attributes := #[] }, { accessFlags := 25, nameIndex := 185, descriptorIndex := 121, attributes := #[] }, { accessFlags := 25, nameIndex := 188, descriptorIndex := 121, attributes := #[] }, { accessFlags := 25, nameIndex := 191, descriptorIndex := 121, attributes := #[] }, { accessFlags := 25, nameIndex := 192, descriptorIndex := 121, attributes := #[] }, { accessFlags := 25, nameIndex := 193, descriptorIndex := 121, attributes := #[] }, { accessFlags := 25, nameIndex := 196, descriptorIndex := 197, attributes := #[] }, { accessFlags := 25, nameIndex := 199, descriptorIndex := 197, attributes := #[] }, { accessFlags := 25, nameIndex := 201, descriptorIndex := 197, attributes := #[] }, { accessFlags := 25, nameIndex := 203, descriptorIndex := 197, attributes := #[] }, { accessFlags := 25, nameIndex := 205, descriptorIndex := 197, attributes := #[] }, { accessFlags := 25, nameIndex := 173, descriptorIndex := 174, attributes := #[] }, { accessFlags := 18, nameIndex := 120, descriptorIndex := 121, attributes := #[] }, { accessFlags := 26, nameIndex := 209, descriptorIndex := 210, attributes := #[] }])
  fields := #[{ name := "POSITIVE_INFINITY", type := .double, accessFlags := 25, slot := 0, constantValue := 0 }, { name := "NEGATIVE_INFINITY", type := .double, accessFlags := 25, slot := 1, constantValue := 0 }, { name := "NaN", type := .double, accessFlags := 25, slot := 2, constantValue := 0 }, { name := "MAX_VALUE", type := .double, accessFlags := 25, slot := 3, constantValue := 0 }, { name := "MIN_NORMAL", type := .double, accessFlags := 25, slot := 4, constantValue := 0 }, { name := "MIN_VALUE", type := .double, accessFlags := 25, slot := 5, constantValue := 0 }, { name := "SIZE", type := .int, accessFlags := 25, slot := 6, constantValue := 0 }, { name := "PRECISION", type := .int, accessFlags := 25, slot := 7, constantValue := 0 }, { name := "MAX_EXPONENT", type := .int, accessFlags := 25, slot := 8, constantValue := 0 }, { name := "MIN_EXPONENT", type := .int, accessFlags := 25, slot := 9, constantValue := 0 }, { name := "BYTES", type := .int, accessFlags := 25, slot := 10, constantValue := 0 }, { name := "TYPE", type := (.object "java/lang/Class"), accessFlags := 25, slot := 11, constantValue := 0 }, { name := "value", type := .double, accessFlags := 18, slot := 0, constantValue := 0 }, { name := "serialVersionUID", type := .long, accessFlags := 26, slot := 12, constantValue := 0 }]
  methods := #[k8m0, k8m1]
  instanceTypes := #[.double]
  staticTypes := #[.double, .double, .double, .double, .double, .double, .int, .int, .int, .int, .int, (.object "java/lang/Class"), .long]
  resolved := Array.replicate 290 none
  statics := none }

def pool9 : Array CpInfo := pool [(1, .class_ 2), (0, u "java/lang/Math"), (1, .class_ 6), (1, u "java/lang/Object"), (0, u "<init>"), (0, u "()V"), (5, u "(D)D"), (83, .class_ 100), (1, u "java/lang/Math$RandomNumberGeneratorHolder"), (23, u "abs"), (47, u "negativeZeroFloatBits"), (0, u "J"), (2, u "negativeZeroDoubleBits"), (68, u "$assertionsDisabled"), (0, u "Z"), (91, u "twoToTheDoubleScaleDown"), (0, u "D"), (4, u "twoToTheDoubleScaleUp"), (9, u "E"), (3, u "PI"), (2, u "TAU"), (2, u "DEGREES_TO_RADIANS"), (0, u "RADIANS_TO_DEGREES")] 94

def k9m0 : Method := { name := "<init>", desc := "()V", sig := { parameters := [], returnType := none }, accessFlags := 2, code := none }
def k9c1 : Code := { maxStack := 4, maxLocals := 2, code := jdk_29_method_64_code, exceptionTable := #[], attributes := #[] }
def k9m1 : Method := { name := "abs", desc := "(D)D", sig := { parameters := [.double], returnType := some .double }, accessFlags := 9, code := some k9c1 }
/-- java/lang/Math -/
def k9 : Class := { plain "java/lang/Math" (some 0) with
  accessFlags := 49
  interfaces := #[]
  cf := some (fileOf pool9 1 #[.nestMembers #[98]] #[{ accessFlags := 2, nameIndex := 7, descriptorIndex := 8, attributes := #[] }, { accessFlags := 9, nameIndex := 124, descriptorIndex := 14, attributes := #[] }] 49 4 #[] #[{ accessFlags := 25, nameIndex := 354, descriptorIndex := 339, attributes := #[] }, { accessFlags := 25, nameIndex := 358, descriptorIndex := 339, attributes := #[] }, { accessFlags := 25, nameIndex := 361, descriptorIndex := 339, attributes := #[] }, { accessFlags := 26, nameIndex := 364, descriptorIndex := 339, attributes := #[] }, { accessFlags := 26, nameIndex := 365, descriptorIndex := 339, attributes := #[] }, { accessFlags := 26, nameIndex := 172, descriptorIndex := 173, attributes := #[] }, { accessFlags := 26, nameIndex := 176, descriptorIndex := 173, attributes := #[] }, { accessFlags := 8, nameIndex := 344, descriptorIndex := 339, attributes := #[] }, { accessFlags := 8, nameIndex := 338, descriptorIndex := 339, attributes := #[] }, { accessFlags := 4120, nameIndex := 245, descriptorIndex := 246, attributes := #[] }])
  fields := #[{ name := "E", type := .double, accessFlags := 25, slot := 0, constantValue := 0 }, { name := "PI", type := .double, accessFlags := 25, slot := 1, constantValue := 0 }, { name := "TAU", type := .double, accessFlags := 25, slot := 2, constantValue := 0 }, { name := "DEGREES_TO_RADIANS", type := .double, accessFlags := 26, slot := 3, constantValue := 0 }, { name := "RADIANS_TO_DEGREES", type := .double, accessFlags := 26, slot := 4, constantValue := 0 }, { name := "negativeZeroFloatBits", type := .long, accessFlags := 26, slot := 5, constantValue := 0 }, { name := "negativeZeroDoubleBits", type := .long, accessFlags := 26, slot := 6, constantValue := 0 }, { name := "twoToTheDoubleScaleUp", type := .double, accessFlags := 8, slot := 7, constantValue := 0 }, { name := "twoToTheDoubleScaleDown", type := .double, accessFlags := 8, slot := 8, constantValue := 0 }, { name := "$assertionsDisabled", type := .boolean, accessFlags := 4120, slot := 9, constantValue := 0 }]
  methods := #[k9m0, k9m1]
  instanceTypes := #[]
  staticTypes := #[.double, .double, .double, .double, .double, .long, .long, .double, .double, .boolean]
  resolved := Array.replicate 460 none
  statics := none }

def pool10 : Array CpInfo := pool [(1, u "java/lang/Cloneable"), (0, .class_ 1), (0, u "java/lang/Object"), (0, .class_ 3)] 3

/-- java/lang/Cloneable -/
def k10 : Class := { plain "java/lang/Cloneable" (some 0) with
  accessFlags := 1537
  interfaces := #[]
  cf := some (fileOf pool10 2 #[] #[] 1537 4 #[] #[])
  fields := #[]
  methods := #[]
  instanceTypes := #[]
  staticTypes := #[]
  resolved := Array.replicate 8 none
  statics := none }

/-- the primitive byte -/
def k11 : Class := { plain "byte" none with kind := .primitive 'B', accessFlags := 0x411 }
/-- [B -/
def k12 : Class := { plain "[B" (some 0) with kind := .array 11 .byte, interfaces := #[10, 3], accessFlags := 1041 }

/-- the primitive int -/
def k13 : Class := { plain "int" none with kind := .primitive 'I', accessFlags := 0x411 }
/-- [I -/
def k14 : Class := { plain "[I" (some 0) with kind := .array 13 .int, interfaces := #[10, 3], accessFlags := 1041 }

def heap : Heap := #[{ cls := 2, slots := #[.ref 1, .null, .null, .int 0, .double 0], vm := .statics 2 },
  { cls := 2, slots := #[.double 4607182418800017408, .double 18442240474082181120], vm := .none }]
def classes : Array Class := #[k0, k1, k2, k3, k4, k5, k6, k7, k8, k9, k10, k11, k12, k13, k14]
def interned : List (Array UInt16 × Addr) := []
def slotsUsed : Nat := 7
def theMethod : MethodId := ⟨1, 1⟩
def args0 : Array Value := #[.int 1, .int 1, .int 1]
def aboutOver (below : List Frame) : State where
  vm := { classes := classes, interned := interned.toArray }
  heap := heap
  slotsUsed := slotsUsed
  threads := #[{ frames := .invoking theMethod args0 :: below }]
def below0 : List Frame := [.native { method := ⟨0, 0⟩, args := #[] }]
def about1 : State := aboutOver below0
def p0 : Program := .bare "" "" ""
def e0 : Env := launch0.env 0 0 0
theorem w_frames : about1.frames = Frame.invoking theMethod args0 :: below0 := rfl
set_option maxRecDepth 65536 in
theorem w_args : argsFit about1.vm theMethod args0 = true := by decide +kernel
set_option maxRecDepth 65536 in
theorem w_heap : heapFits about1 = true := by decide +kernel
set_option maxRecDepth 65536 in
theorem w_runnable : about1.curStatus? = some .runnable := by decide +kernel
set_option maxRecDepth 65536 in
theorem w_alone : about1.alone = true := by decide +kernel
set_option maxRecDepth 65536 in
theorem w_named : about1.methodNamed? x = some theMethod := by decide +kernel
set_option maxRecDepth 65536 in
theorem w_hears : about1.hears theMethod below0 = true := by decide +kernel
set_option maxRecDepth 65536 in
theorem w_ripe : about1.ripe theMethod args0 below0 = true := by decide +kernel
theorem w_running : about1.status = .running := rfl
set_option maxRecDepth 65536 in
theorem w_room : about1.hasRoom e0.platform room_1 = true :=
  launch0.hasRoom_least _ room_1 (by decide +kernel) (by decide +kernel) (by decide +kernel) (by decide +kernel) (by decide +kernel) (by decide +kernel)
theorem allAtoms_all (ts : List Jvm.Cond) (a : Array Jvm.Value) (st : Jvm.State) : (allAtoms ts).before a st = ts.all (fun c => c.before a st) := by
  induction ts with
  | nil => rfl
  | cons c t ih =>
    show (Jvm.Cond.and c (allAtoms t)).before a st = _
    rw [Jvm.Cond.before_and, ih, List.all_cons]
def words1 : List Jvm.Cond := Jvm.Cond.code x code maxLocals ret :: tables_1
/-- a 'code' word, met by the world's own term for the bytes: nothing is compared byte by byte -/
theorem code_word {y : MethodName} {bytes : ByteArray} {mx : Nat} {rt : Option FieldType} {a : Array Value} {s : State} {m : MethodId} {meth : Method} {c : Code} (h1 : s.methodNamed? y = some m) (h2 : s.vm.method? m = some meth) (h3 : meth.code = some c) (h4 : c.code = bytes)
    (h5 : (c.maxLocals == mx && c.exceptionTable.isEmpty && decide (c.maxStack ≤ mostOperands) && decide (meth.sig.returnType = rt) && !meth.locks && decide (parseMethodDescriptor y.desc = some meth.sig)) = true) : (Jvm.Cond.code y bytes mx rt).before a s = true := by
  simp only [Bool.and_eq_true, beq_iff_eq, Bool.not_eq_true', decide_eq_true_eq] at h5
  obtain ⟨⟨⟨⟨⟨g1, g2⟩, g3⟩, g4⟩, g5⟩, g6⟩ := h5
  simp [Cond.before, Cond.holds, Cond.value, h1, h2, h3, h4, g1, g2, g3, g4, g5, g6]
def isCode : Jvm.Cond → Bool
  | .code _ _ _ _ => true
  | _ => false
theorem all_split {L : List Jvm.Cond} {P : Jvm.Cond → Bool} (h1 : L.all (fun c => isCode c || P c) = true) (h2 : ∀ c ∈ L.filter isCode, P c = true) : L.all P = true := by
  refine List.all_eq_true.mpr fun c hc => ?_
  have h := List.all_eq_true.mp h1 c hc
  rcases Bool.eq_false_or_eq_true (isCode c) with hi | hi
  · exact h2 c (List.mem_filter.mpr ⟨hc, hi⟩)
  · simpa [hi] using h
set_option maxRecDepth 65536 in
theorem w_c0 : (Jvm.Cond.code x code maxLocals ret).before args0 about1 = true := code_word (m := ⟨1, 1⟩) (meth := k1m1) (c := k1c1) (by decide +kernel) rfl rfl rfl (by decide +kernel)
set_option maxRecDepth 65536 in
theorem w_c1 : (Jvm.Cond.code ({ cls := "com/example/hearer/hearer/engine/ScoreCalibration", name := "<init>", desc := "(DD)V" } : Jvm.MethodName) prog_34_method_1_code (5 : Nat) (Option.none : Option Jvm.ClassFile.FieldType)).before args0 about1 = true := code_word (m := ⟨2, 0⟩) (meth := k2m0) (c := k2c0) (by decide +kernel) rfl rfl rfl (by decide +kernel)
set_option maxRecDepth 65536 in
theorem w_c2 : (Jvm.Cond.code ({ cls := "java/lang/Object", name := "<init>", desc := "()V" } : Jvm.MethodName) object_method_1_code (1 : Nat) (Option.none : Option Jvm.ClassFile.FieldType)).before args0 about1 = true := code_word (m := ⟨0, 0⟩) (meth := k0m0) (c := k0c0) (by decide +kernel) rfl rfl rfl (by decide +kernel)
set_option maxRecDepth 65536 in
theorem w_c3 : (Jvm.Cond.code ({ cls := "java/lang/Double", name := "isInfinite", desc := "(D)Z" } : Jvm.MethodName) jdk_117_method_7_code (2 : Nat) (Option.some Jvm.ClassFile.FieldType.boolean)).before args0 about1 = true := code_word (m := ⟨8, 1⟩) (meth := k8m1) (c := k8c1) (by decide +kernel) rfl rfl rfl (by decide +kernel)
set_option maxRecDepth 65536 in
theorem w_c4 : (Jvm.Cond.code ({ cls := "java/lang/Math", name := "abs", desc := "(D)D" } : Jvm.MethodName) jdk_29_method_64_code (2 : Nat) (Option.some Jvm.ClassFile.FieldType.double)).before args0 about1 = true := code_word (m := ⟨9, 1⟩) (meth := k9m1) (c := k9c1) (by decide +kernel) rfl rfl rfl (by decide +kernel)
set_option maxRecDepth 65536 in
theorem w_c5 : (Jvm.Cond.code ({ cls := "java/lang/Double", name := "isNaN", desc := "(D)Z" } : Jvm.MethodName) jdk_117_method_6_code (2 : Nat) (Option.some Jvm.ClassFile.FieldType.boolean)).before args0 about1 = true := code_word (m := ⟨8, 0⟩) (meth := k8m0) (c := k8c0) (by decide +kernel) rfl rfl rfl (by decide +kernel)
set_option maxRecDepth 65536 in
theorem w_c6 : (Jvm.Cond.code ({ cls := "com/example/hearer/hearer/engine/ScoreCalibration", name := "isNone", desc := "()Z" } : Jvm.MethodName) prog_34_method_5_code (1 : Nat) (Option.some Jvm.ClassFile.FieldType.boolean)).before args0 about1 = true := code_word (m := ⟨2, 1⟩) (meth := k2m1) (c := k2c1) (by decide +kernel) rfl rfl rfl (by decide +kernel)
def codes1 : List Jvm.Cond := [Jvm.Cond.code x code maxLocals ret, Jvm.Cond.code ({ cls := "com/example/hearer/hearer/engine/ScoreCalibration", name := "<init>", desc := "(DD)V" } : Jvm.MethodName) prog_34_method_1_code (5 : Nat) (Option.none : Option Jvm.ClassFile.FieldType), Jvm.Cond.code ({ cls := "java/lang/Object", name := "<init>", desc := "()V" } : Jvm.MethodName) object_method_1_code (1 : Nat) (Option.none : Option Jvm.ClassFile.FieldType), Jvm.Cond.code ({ cls := "java/lang/Double", name := "isInfinite", desc := "(D)Z" } : Jvm.MethodName) jdk_117_method_7_code (2 : Nat) (Option.some Jvm.ClassFile.FieldType.boolean), Jvm.Cond.code ({ cls := "java/lang/Math", name := "abs", desc := "(D)D" } : Jvm.MethodName) jdk_29_method_64_code (2 : Nat) (Option.some Jvm.ClassFile.FieldType.double), Jvm.Cond.code ({ cls := "java/lang/Double", name := "isNaN", desc := "(D)Z" } : Jvm.MethodName) jdk_117_method_6_code (2 : Nat) (Option.some Jvm.ClassFile.FieldType.boolean), Jvm.Cond.code ({ cls := "com/example/hearer/hearer/engine/ScoreCalibration", name := "isNone", desc := "()Z" } : Jvm.MethodName) prog_34_method_5_code (1 : Nat) (Option.some Jvm.ClassFile.FieldType.boolean)]
set_option maxRecDepth 65536 in
theorem codes_eq : words1.filter isCode = codes1 := rfl
theorem w_codes : ∀ c ∈ words1.filter isCode, c.before args0 about1 = true := by
  rw [codes_eq]
  intro c hc
  simp only [codes1, List.mem_cons, List.not_mem_nil, or_false] at hc
  rcases hc with rfl | rfl | rfl | rfl | rfl | rfl | rfl
  · exact w_c0
  · exact w_c1
  · exact w_c2
  · exact w_c3
  · exact w_c4
  · exact w_c5
  · exact w_c6
set_option maxRecDepth 65536 in
theorem w_t1 : (words1.take 24).all (fun c => isCode c || c.before args0 about1) = true := by decide +kernel
set_option maxRecDepth 65536 in
theorem w_t2 : (words1.drop 24).all (fun c => isCode c || c.before args0 about1) = true := by decide +kernel
theorem w_tables : (allAtoms (Jvm.Cond.code x code maxLocals ret :: tables_1)).before args0 about1 = true := by
  rw [allAtoms_all]
  show words1.all (fun c => c.before args0 about1) = true
  refine all_split ?_ w_codes
  rw [← List.take_append_drop 24 words1, List.all_append, w_t1, w_t2]
  rfl
set_option maxRecDepth 65536 in
theorem w_case : (Jvm.Cond.and given_1 narrow_1).before args0 about1 = true := by decide +kernel
theorem w_applies : (headSpec (Jvm.Cond.code x code maxLocals ret :: tables_1) room_1).applies x e0.platform about1 = true :=
  (Spec.applies_iff w_frames).mpr ⟨w_running, w_runnable, w_alone, w_named, w_hears, w_ripe, w_room, w_tables⟩
theorem atStart : AtStart classFile x code maxLocals ret World_1 tables_1 room_1 Calls_1 rest_1 Pre_1 launch0 p0 e0 about1 theMethod args0 below0 :=
  ⟨lists_1, trivial, launch0.admits_env _ _ _, launch0.least_env, fairChoices_fair.cas, fairChoices_fair.clock, w_frames, w_args, w_heap, w_applies, trivial, trivial, w_case⟩
end start1
theorem witness_1 : WitnessClaimed_1 := ⟨start1.p0, start1.e0, start1.about1, start1.theMethod, start1.args0, start1.below0, start1.atStart⟩
end Jvm.Pilot.@@N@@
