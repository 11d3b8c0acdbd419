import JvmDerived
import JvmDerived.Pilot.@@N@@Statement
import JvmDerived.Pilot.@@N@@Code
set_option linter.unusedVariables false
set_option linter.unusedSimpArgs false
namespace Jvm.RoadKit
open Sem ClassFile Op Lib Jvm.Stand Jvm.Free Jvm.LawKit
section New
variable {p : Program} {l : Launch} {e : Env} {R : Room} {s : State} {m : MethodId} {args : Array Value} {below : List Frame} {meth : Method} {c : Code} {T : State} {locs : List Loc} {cells slots : Nat}
theorem retI (X : Stand p l e R s m args below meth c T locs cells slots) (hx : p.tables.exec = Jvm.exec) {pc : Nat} {Ls : Array Slot} {z : Int32} {rest : List Value} (hret : meth.sig.returnType = some .int) (hd : decode c.code pc = .ok (.ireturn, 1)) {fs : List Frame}
    (hl : ∀ (f : JFrame) (acts : List Action), f.method = m → f.locked = none → f.entered = [] → (doReturn e (T.setTop f) acts (some (.int z))).1 = T.setFrames fs) : Steps p.tables e below (T.setTop (mkF m pc Ls (.int z :: rest))) (T.setFrames fs) := by
  have hm' : T.vm.method? m = some meth := X.method'
  have hn : narrow .int (.int z) = .int z := rfl
  show Steps p.tables e below (T.setTop { method := m, pc := pc, locals := Ls, stack := _ :: rest, locked := none }) _
  jvm_step X.here [X.here.top, hx, hd, hm', hret, hn]
  first | (intro acts; rw [hl _ acts rfl rfl rfl]) | rw [hl _ _ rfl rfl rfl]
  exact Steps.refl _
end New
end Jvm.RoadKit
namespace Jvm.Pilot.@@N@@
open Jvm Jvm.ClassFile Sem Op Lib Jvm.Free Jvm.Stand Jvm.LawKit Jvm.RoadKit Bundle Jvm.Pilot.@@N@@.Jvm.D
theorem joinS {tb : Tables} {e : Env} {below : List Frame} {A B t : State} (h1 : Steps tb e below B t → Steps tb e below A t) (h2 : Steps tb e below B t) : Steps tb e below A t := h1 h2
theorem mvMN {Z s : State} {a0 args : Array Value} {own host : String} {index : Nat} {y : MethodName} (hZ : Z.Warmed39 s.vm) (w : (Cond.methodLinkNest own index y host).before a0 Z = true) : (Cond.methodLinkNest own index y host).before args s = true := (Cond.methodLinkNest_wide hZ w :)
theorem own_i0 : (0 : Int32).toInt = 0 := rfl
theorem own_or_lt (x y : Int32) : (x ||| y) < 0 ↔ x < 0 ∨ y < 0 := by
  have key : ∀ z : Int32, z < 0 ↔ z.toBitVec.msb = true := fun z => by
    rw [Int32.lt_iff_toInt_lt, own_i0, ← Int32.toInt_toBitVec, BitVec.msb_eq_toInt]; simp
  rw [key, key, key, Int32.toBitVec_or, BitVec.msb_or]; simp
/-- a small index -/
def own_sm (z : Int32) : Prop := 0 ≤ z.toInt ∧ z.toInt ≤ 24
theorem own_add {z : Int32} (h : own_sm z) (k : Int32) (hk : 0 ≤ k.toInt ∧ k.toInt ≤ 8) : (z + k).toInt = z.toInt + k.toInt := by
  obtain ⟨h1, h2⟩ := h
  rw [Int32.toInt_add]; exact Int.bmod_eq_of_le (by omega) (by omega)
def own_aft2 (B : Int32 → Int32) (to nx i lo hi : Int32) : Int32 := if to < i + (2 : Int32) then i else if (B (i + (1 : Int32)) &&& (255 : Int32)) < lo then i else if hi < (B (i + (1 : Int32)) &&& (255 : Int32)) then i else nx
def own_aft3 (B : Int32 → Int32) (to nx i lo hi : Int32) : Int32 := if to < i + (3 : Int32) then i else if (B (i + (1 : Int32)) &&& (255 : Int32)) < lo then i else if hi < (B (i + (1 : Int32)) &&& (255 : Int32)) then i else if (B (i + (2 : Int32)) &&& (192 : Int32)) = (128 : Int32) then nx else i
def own_aft4 (B : Int32 → Int32) (to nx i lo hi : Int32) : Int32 := if to < i + (4 : Int32) then i else if (B (i + (1 : Int32)) &&& (255 : Int32)) < lo then i else if hi < (B (i + (1 : Int32)) &&& (255 : Int32)) then i else if (B (i + (2 : Int32)) &&& (192 : Int32)) = (128 : Int32) then (if (B (i + (3 : Int32)) &&& (192 : Int32)) = (128 : Int32) then nx else i) else i
def own_cls (B : Int32 → Int32) (to : Int32) (nx : Int32 → Int32) (i c : Int32) : Int32 :=
  if c < (194 : Int32) ∨ (223 : Int32) < c then
    (if c < (224 : Int32) ∨ (239 : Int32) < c then
      (if c < (240 : Int32) ∨ (244 : Int32) < c then i
       else own_aft4 B to (nx (i + (4 : Int32))) i (if c = (240 : Int32) then (144 : Int32) else (128 : Int32)) (if c = (244 : Int32) then (143 : Int32) else (191 : Int32)))
     else own_aft3 B to (nx (i + (3 : Int32))) i (if c = (224 : Int32) then (160 : Int32) else (128 : Int32)) (if c = (237 : Int32) then (159 : Int32) else (191 : Int32)))
  else own_aft2 B to (nx (i + (2 : Int32))) i (128 : Int32) (191 : Int32)
def own_or8 (B : Int32 → Int32) (i : Int32) : Int32 := B i ||| B (i + (1 : Int32)) ||| B (i + (2 : Int32)) ||| B (i + (3 : Int32)) ||| B (i + (4 : Int32)) ||| B (i + (5 : Int32)) ||| B (i + (6 : Int32)) ||| B (i + (7 : Int32))
def own_tail (B : Int32 → Int32) (to : Int32) (nx : Int32 → Int32) (i : Int32) : Int32 := if i = to then (-1 : Int32) else if (B i &&& (255 : Int32)) < (128 : Int32) then nx (i + (1 : Int32)) else own_cls B to nx i (B i &&& (255 : Int32))
def own_in (B : Int32 → Int32) (to : Int32) : Nat → Int32 → Int32
  | 0, _ => 0
  | n + 1, i => if to < i + (8 : Int32) then own_tail B to (fun j => if j < to then own_in B to n j else (-1 : Int32)) i else if own_or8 B i < 0 then own_tail B to (fun j => if j < to then own_in B to n j else (-1 : Int32)) i else own_in B to n (i + (8 : Int32))
def own_out (B : Int32 → Int32) (to : Int32) (n : Nat) (j : Int32) : Int32 := if j < to then own_in B to n j else (-1 : Int32)
/-- a byte, as a signed int -/
def own_by (x : Int32) : Prop := -128 ≤ x.toInt ∧ x.toInt ≤ 127
theorem own_pos {x : Int32} (h : own_by x) (h0 : 0 ≤ x.toInt) : (x &&& (255 : Int32)) < (128 : Int32) := by
  have : x &&& (255 : Int32) = x := by
    apply Int32.toBitVec_inj.mp
    rw [Int32.toBitVec_and]
    apply BitVec.eq_of_toNat_eq
    rw [BitVec.toNat_and]
    have e : (255 : Int32).toBitVec.toNat = 2 ^ 8 - 1 := rfl
    rw [e, Nat.and_two_pow_sub_one_eq_mod]
    have hx := x.toInt_toBitVec
    have := BitVec.toInt_eq_toNat_cond x.toBitVec
    obtain ⟨h1, h2⟩ := h
    apply Nat.mod_eq_of_lt
    rw [hx] at this
    split at this <;> omega
  rw [this, Int32.lt_iff_toInt_lt]
  obtain ⟨h1, h2⟩ := h
  have e : (128 : Int32).toInt = 128 := rfl
  omega
theorem own_neg {x : Int32} (h : own_by x) (h0 : x.toInt < 0) : ¬ (x &&& (255 : Int32)) < (128 : Int32) := by
  have : (x &&& (255 : Int32)).toBitVec.toNat = x.toBitVec.toNat % 256 := by
    rw [Int32.toBitVec_and, BitVec.toNat_and]
    have e : (255 : Int32).toBitVec.toNat = 2 ^ 8 - 1 := rfl
    rw [e, Nat.and_two_pow_sub_one_eq_mod]
  rw [Int32.lt_iff_toInt_lt]
  have hx := x.toInt_toBitVec
  have q := BitVec.toInt_eq_toNat_cond x.toBitVec
  have hy := (x &&& (255 : Int32)).toInt_toBitVec
  have q' := BitVec.toInt_eq_toNat_cond (x &&& (255 : Int32)).toBitVec
  obtain ⟨h1, h2⟩ := h
  have e : (128 : Int32).toInt = 128 := rfl
  rw [hx] at q
  rw [hy, this] at q'
  rw [e]
  split at q <;> split at q' <;> omega
theorem own_asc (B : Int32 → Int32) (to : Int32) (hto : own_sm to) (hB : ∀ j, own_sm j → own_by (B j)) : ∀ (n : Nat) (i : Int32), own_sm i → i.toInt ≤ to.toInt → (to.toInt - i.toInt).toNat < n → (∀ j : Int32, i.toInt ≤ j.toInt → j.toInt < to.toInt → 0 ≤ (B j).toInt) → own_in B to n i = -1
  | 0, i, _, _, hn, _ => absurd hn (Nat.not_lt_zero _)
  | n + 1, i, hi, hle, hn, hA => by
    have e1 := own_add hi 1 (by decide)
    have e8 := own_add hi 8 (by decide)
    have f1 : (1 : Int32).toInt = 1 := rfl
    have f8 : (8 : Int32).toInt = 8 := rfl
    rw [f1] at e1; rw [f8] at e8
    have st := hto; have si := hi
    obtain ⟨t1, t2⟩ := hto
    obtain ⟨i1, i2⟩ := hi
    have tail : own_tail B to (fun j => if j < to then own_in B to n j else (-1 : Int32)) i = -1 := by
      unfold own_tail
      by_cases q : i = to
      · rw [if_pos q]
      · have q' : i.toInt ≠ to.toInt := fun z => q (Int32.toInt_inj.mp z)
        rw [if_neg q, if_pos (own_pos (hB i si) (hA i (Int.le_refl _) (by omega)))]
        dsimp only
        by_cases r : i + (1 : Int32) < to
        · rw [if_pos r]
          rw [Int32.lt_iff_toInt_lt] at r
          exact own_asc B to st hB n _ ⟨by omega, by omega⟩ (by omega) (by omega) (fun j h1 h2 => hA j (by omega) h2)
        · rw [if_neg r]
    rw [own_in]
    by_cases q : to < i + (8 : Int32)
    · rw [if_pos q]; exact tail
    · rw [if_neg q]
      by_cases r : own_or8 B i < 0
      · rw [if_pos r]; exact tail
      · rw [if_neg r]
        rw [Int32.lt_iff_toInt_lt] at q
        exact own_asc B to st hB n _ ⟨by omega, by omega⟩ (by omega) (by omega) (fun j h1 h2 => hA j (by omega) h2)
theorem own_or8_lt (B : Int32 → Int32) (i : Int32) : own_or8 B i < 0 ↔ B i < 0 ∨ B (i + 1) < 0 ∨ B (i + 2) < 0 ∨ B (i + 3) < 0 ∨ B (i + 4) < 0 ∨ B (i + 5) < 0 ∨ B (i + 6) < 0 ∨ B (i + 7) < 0 := by
  unfold own_or8; simp only [own_or_lt, or_assoc]
set_option maxHeartbeats 4000000 in
theorem own_reach (B : Int32 → Int32) (to q : Int32) (hto : own_sm to) (hB : ∀ j, own_sm j → own_by (B j)) (hq : q.toInt < to.toInt) (hBq : (B q).toInt < 0) : ∀ (n : Nat) (i : Int32), own_sm i → i.toInt ≤ q.toInt → (to.toInt - i.toInt).toNat < n → (∀ j : Int32, i.toInt ≤ j.toInt → j.toInt < q.toInt → 0 ≤ (B j).toInt) →
    ∃ k, (to.toInt - q.toInt).toNat < k + 1 ∧ own_in B to n i = own_cls B to (own_out B to k) q (B q &&& (255 : Int32))
  | 0, i, _, _, hn, _ => absurd hn (Nat.not_lt_zero _)
  | n + 1, i, hi, hle, hn, hA => by
    have e1 := own_add hi 1 (by decide)
    have e2 := own_add hi 2 (by decide)
    have e3 := own_add hi 3 (by decide)
    have e4 := own_add hi 4 (by decide)
    have e5 := own_add hi 5 (by decide)
    have e6 := own_add hi 6 (by decide)
    have e7 := own_add hi 7 (by decide)
    have e8 := own_add hi 8 (by decide)
    have f1 : (1 : Int32).toInt = 1 := rfl
    have f2 : (2 : Int32).toInt = 2 := rfl
    have f3 : (3 : Int32).toInt = 3 := rfl
    have f4 : (4 : Int32).toInt = 4 := rfl
    have f5 : (5 : Int32).toInt = 5 := rfl
    have f6 : (6 : Int32).toInt = 6 := rfl
    have f7 : (7 : Int32).toInt = 7 := rfl
    have f8 : (8 : Int32).toInt = 8 := rfl
    rw [f1] at e1; rw [f2] at e2; rw [f3] at e3; rw [f4] at e4; rw [f5] at e5; rw [f6] at e6; rw [f7] at e7; rw [f8] at e8
    have st := hto; have si := hi
    obtain ⟨t1, t2⟩ := hto
    obtain ⟨i1, i2⟩ := hi
    have ne : i ≠ to := fun z => by rw [z] at hle; omega
    by_cases iq : i = q
    · subst iq
      refine ⟨n, by omega, ?_⟩
      have tail : own_tail B to (own_out B to n) i = own_cls B to (own_out B to n) i (B i &&& (255 : Int32)) := by
        unfold own_tail; rw [if_neg ne, if_neg (own_neg (hB i si) hBq)]
      rw [own_in]
      show (if to < i + 8 then own_tail B to (own_out B to n) i else if own_or8 B i < 0 then own_tail B to (own_out B to n) i else _) = _
      by_cases q8 : to < i + (8 : Int32)
      · rw [if_pos q8]; exact tail
      · rw [if_neg q8, if_pos ((own_or8_lt B i).mpr (Or.inl (by rw [Int32.lt_iff_toInt_lt]; exact hBq)))]; exact tail
    · have iq' : i.toInt ≠ q.toInt := fun z => iq (Int32.toInt_inj.mp z)
      have lt1 : i + (1 : Int32) < to := by rw [Int32.lt_iff_toInt_lt]; omega
      have tail : own_tail B to (fun j => if j < to then own_in B to n j else (-1 : Int32)) i = own_in B to n (i + 1) := by
        unfold own_tail; rw [if_neg ne, if_pos (own_pos (hB i si) (hA i (Int.le_refl _) (by omega)))]; dsimp only; rw [if_pos lt1]
      have go1 := own_reach B to q st hB hq hBq n (i + 1) ⟨by omega, by omega⟩ (by omega) (by omega) (fun j h1 h2 => hA j (by omega) h2)
      rw [own_in]
      by_cases q8 : to < i + (8 : Int32)
      · rw [if_pos q8, tail]; exact go1
      · rw [if_neg q8]
        by_cases r : own_or8 B i < 0
        · rw [if_pos r, tail]; exact go1
        · rw [if_neg r]
          rw [Int32.lt_iff_toInt_lt] at q8
          rw [own_or8_lt] at r
          simp only [Int32.lt_iff_toInt_lt, own_i0, not_or] at r
          have far : i.toInt + 8 ≤ q.toInt := by
            have key : ∀ k : Int32, (i + k).toInt = q.toInt → ¬ (B (i + k)).toInt < 0 → False := fun k h1 h2 => by
              rw [Int32.toInt_inj.mp h1] at h2; exact h2 hBq
            refine Int.not_lt.mp fun hlt => ?_
            have : q.toInt = i.toInt + 1 ∨ q.toInt = i.toInt + 2 ∨ q.toInt = i.toInt + 3 ∨ q.toInt = i.toInt + 4 ∨ q.toInt = i.toInt + 5 ∨ q.toInt = i.toInt + 6 ∨ q.toInt = i.toInt + 7 := by omega
            rcases this with z | z | z | z | z | z | z
            · exact key 1 (by omega) r.2.1
            · exact key 2 (by omega) r.2.2.1
            · exact key 3 (by omega) r.2.2.2.1
            · exact key 4 (by omega) r.2.2.2.2.1
            · exact key 5 (by omega) r.2.2.2.2.2.1
            · exact key 6 (by omega) r.2.2.2.2.2.2.1
            · exact key 7 (by omega) r.2.2.2.2.2.2.2
          exact own_reach B to q st hB hq hBq n (i + 8) ⟨by omega, by omega⟩ (by omega) (by omega) (fun j h1 h2 => hA j (by omega) h2)
def own_lenOf (c : Int32) : Int32 := if c < (128 : Int32) then (1 : Int32) else if (c &&& (224 : Int32)) = (192 : Int32) then (2 : Int32) else if (c &&& (240 : Int32)) = (224 : Int32) then (3 : Int32) else if (c &&& (248 : Int32)) = (240 : Int32) then (4 : Int32) else (1 : Int32)
def own_cont (c : Int32) : Int32 := if (c &&& (192 : Int32)) = (128 : Int32) then (1 : Int32) else (0 : Int32)
def own_cp2 (c0 c1 : Int32) : Int32 := (((c0 &&& (31 : Int32)) <<< ((6 : Int32) &&& 31)) ||| (c1 &&& (63 : Int32)))
def own_cp3 (c0 c1 c2 : Int32) : Int32 := ((((c0 &&& (15 : Int32)) <<< ((12 : Int32) &&& 31)) ||| ((c1 &&& (63 : Int32)) <<< ((6 : Int32) &&& 31))) ||| (c2 &&& (63 : Int32)))
def own_cp4 (c0 c1 c2 c3 : Int32) : Int32 := (((((c0 &&& (7 : Int32)) <<< ((18 : Int32) &&& 31)) ||| ((c1 &&& (63 : Int32)) <<< ((12 : Int32) &&& 31))) ||| ((c2 &&& (63 : Int32)) <<< ((6 : Int32) &&& 31))) ||| (c3 &&& (63 : Int32)))
def own_wf (len c0 c1 c2 c3 : Int32) : Int32 :=
  if len = (1 : Int32) then (if c0 < (128 : Int32) then (1 : Int32) else (0 : Int32))
  else if len = (2 : Int32) then (if own_cont c1 = (0 : Int32) then (0 : Int32) else if own_cp2 c0 c1 < (128 : Int32) then (0 : Int32) else (1 : Int32))
  else if len = (3 : Int32) then (if own_cont c1 = (0 : Int32) then (0 : Int32) else if own_cont c2 = (0 : Int32) then (0 : Int32) else if own_cp3 c0 c1 c2 < (2048 : Int32) then (0 : Int32) else if own_cp3 c0 c1 c2 < (55296 : Int32) then (1 : Int32) else if (57343 : Int32) < own_cp3 c0 c1 c2 then (1 : Int32) else (0 : Int32))
  else (if own_cont c1 = (0 : Int32) then (0 : Int32) else if own_cont c2 = (0 : Int32) then (0 : Int32) else if own_cont c3 = (0 : Int32) then (0 : Int32) else if own_cp4 c0 c1 c2 c3 < (65536 : Int32) then (0 : Int32) else if (1114111 : Int32) < own_cp4 c0 c1 c2 c3 then (0 : Int32) else (1 : Int32))
theorem own_nlt {a b : Nat} (ha : a < 2 ^ 31) (hb : b < 2 ^ 31) : Int32.ofNat a < Int32.ofNat b ↔ a < b := by
  rw [Int32.lt_iff_toInt_lt, Int32.toInt_ofNat_of_lt ha, Int32.toInt_ofNat_of_lt hb]; omega
theorem own_neq {a b : Nat} (ha : a < 2 ^ 31) (hb : b < 2 ^ 31) : Int32.ofNat a = Int32.ofNat b ↔ a = b := by
  rw [← Int32.toInt_inj, Int32.toInt_ofNat_of_lt ha, Int32.toInt_ofNat_of_lt hb]; omega
theorem own_nand (a b : Nat) : Int32.ofNat a &&& Int32.ofNat b = Int32.ofNat (a &&& b) := by
  apply Int32.toBitVec_inj.mp
  rw [Int32.toBitVec_and, Int32.toBitVec_ofNat', Int32.toBitVec_ofNat', Int32.toBitVec_ofNat', BitVec.ofNat_and]
theorem own_nor (a b : Nat) : Int32.ofNat a ||| Int32.ofNat b = Int32.ofNat (a ||| b) := by
  apply Int32.toBitVec_inj.mp
  rw [Int32.toBitVec_or, Int32.toBitVec_ofNat', Int32.toBitVec_ofNat', Int32.toBitVec_ofNat', BitVec.ofNat_or]
theorem own_nmask (a k : Nat) : Int32.ofNat a &&& Int32.ofNat (2 ^ k - 1) = Int32.ofNat (a % 2 ^ k) := by rw [own_nand, Nat.and_two_pow_sub_one_eq_mod]
theorem own_nshl (a k : Nat) (s : Int32) (hs : (s &&& 31).toBitVec.smod 32 = BitVec.ofNat 32 k) (hk : k < 2 ^ 32) : Int32.ofNat a <<< (s &&& 31) = Int32.ofNat (a * 2 ^ k) := by
  apply Int32.toBitVec_inj.mp
  show (Int32.ofNat a).toBitVec <<< (s &&& 31).toBitVec.smod 32 = _
  rw [hs, BitVec.shiftLeft_eq', BitVec.toNat_ofNat, Nat.mod_eq_of_lt hk]
  apply BitVec.eq_of_toNat_eq
  simp [Nat.shiftLeft_eq]
theorem own_noradd (a b k : Nat) (hb : b < 2 ^ k) : Int32.ofNat (a * 2 ^ k) ||| Int32.ofNat b = Int32.ofNat (a * 2 ^ k + b) := by
  rw [own_nor, ← Nat.shiftLeft_eq, Nat.shiftLeft_add_eq_or_of_lt hb]
theorem own_cp2_eq (a b : Nat) : own_cp2 (Int32.ofNat a) (Int32.ofNat b) = Int32.ofNat (a % 32 * 64 + b % 64) := by
  unfold own_cp2
  rw [show (31 : Int32) = Int32.ofNat (2 ^ 5 - 1) from rfl, show (63 : Int32) = Int32.ofNat (2 ^ 6 - 1) from rfl, own_nmask, own_nmask]
  show _ <<< ((6 : Int32) &&& 31) ||| _ = _
  rw [own_nshl _ 6 6 (by decide) (by decide), own_noradd _ _ _ (Nat.mod_lt _ (by decide))]
theorem own_cp3_eq (a b c : Nat) : own_cp3 (Int32.ofNat a) (Int32.ofNat b) (Int32.ofNat c) = Int32.ofNat (a % 16 * 4096 + b % 64 * 64 + c % 64) := by
  unfold own_cp3
  rw [show (15 : Int32) = Int32.ofNat (2 ^ 4 - 1) from rfl, show (63 : Int32) = Int32.ofNat (2 ^ 6 - 1) from rfl, own_nmask, own_nmask, own_nmask, own_nshl _ 12 12 (by decide) (by decide), own_nshl _ 6 6 (by decide) (by decide), own_noradd _ (b % 2 ^ 6 * 2 ^ 6) 12 (by omega)]
  rw [show a % 2 ^ 4 * 2 ^ 12 + b % 2 ^ 6 * 2 ^ 6 = (a % 2 ^ 4 * 2 ^ 6 + b % 2 ^ 6) * 2 ^ 6 from by omega, own_noradd _ _ 6 (Nat.mod_lt _ (by decide))]
  first | done | (congr 1; omega)
theorem own_cp4_eq (a b c d : Nat) : own_cp4 (Int32.ofNat a) (Int32.ofNat b) (Int32.ofNat c) (Int32.ofNat d) = Int32.ofNat (a % 8 * 262144 + b % 64 * 4096 + c % 64 * 64 + d % 64) := by
  unfold own_cp4
  rw [show (7 : Int32) = Int32.ofNat (2 ^ 3 - 1) from rfl, show (63 : Int32) = Int32.ofNat (2 ^ 6 - 1) from rfl, own_nmask, own_nmask, own_nmask, own_nmask, own_nshl _ 18 18 (by decide) (by decide), own_nshl _ 12 12 (by decide) (by decide), own_nshl _ 6 6 (by decide) (by decide), own_noradd _ (b % 2 ^ 6 * 2 ^ 12) 18 (by omega)]
  rw [show a % 2 ^ 3 * 2 ^ 18 + b % 2 ^ 6 * 2 ^ 12 = (a % 2 ^ 3 * 2 ^ 6 + b % 2 ^ 6) * 2 ^ 12 from by omega, own_noradd _ (c % 2 ^ 6 * 2 ^ 6) 12 (by omega)]
  rw [show (a % 2 ^ 3 * 2 ^ 6 + b % 2 ^ 6) * 2 ^ 12 + c % 2 ^ 6 * 2 ^ 6 = ((a % 2 ^ 3 * 2 ^ 6 + b % 2 ^ 6) * 2 ^ 6 + c % 2 ^ 6) * 2 ^ 6 from by omega, own_noradd _ _ 6 (Nat.mod_lt _ (by decide))]
  first | done | (congr 1; omega)
theorem own_len_tab : ∀ a : Fin 256, own_lenOf (Int32.ofNat a.val) = (if a.val < 192 then 1 else if a.val < 224 then 2 else if a.val < 240 then 3 else if a.val < 248 then 4 else 1) := by decide +kernel
theorem own_cont_tab : ∀ a : Fin 256, (Int32.ofNat a.val &&& (192 : Int32)) = (128 : Int32) ↔ (128 ≤ a.val ∧ a.val < 192) := by decide +kernel
theorem own_cont_iff {a : Nat} (h : a < 256) : (Int32.ofNat a &&& (192 : Int32)) = (128 : Int32) ↔ (128 ≤ a ∧ a < 192) := own_cont_tab ⟨a, h⟩
theorem own_cont0 {a : Nat} (h : a < 256) : own_cont (Int32.ofNat a) = 0 ↔ ¬ (128 ≤ a ∧ a < 192) := by
  unfold own_cont
  by_cases q : (Int32.ofNat a &&& (192 : Int32)) = (128 : Int32)
  · rw [if_pos q]; have := (own_cont_iff h).mp q; constructor
    · intro z; exact absurd z (by decide)
    · intro z; exact absurd this z
  · rw [if_neg q]; exact ⟨fun _ z => q ((own_cont_iff h).mpr z), fun _ => rfl⟩
theorem own_wf2 {a b : Nat} {c d : Int32} (ha : 192 ≤ a) (ha' : a < 224) (hb : b < 256) : own_wf 2 (Int32.ofNat a) (Int32.ofNat b) c d = 0 ↔ ¬ (194 ≤ a ∧ 128 ≤ b ∧ b ≤ 191) := by
  unfold own_wf
  rw [if_neg (by decide), if_pos rfl, own_cp2_eq]
  by_cases q : own_cont (Int32.ofNat b) = 0
  · rw [if_pos q]; rw [own_cont0 hb] at q; simp; omega
  · rw [if_neg q]; rw [own_cont0 hb] at q
    by_cases r : Int32.ofNat (a % 32 * 64 + b % 64) < (128 : Int32)
    · rw [if_pos r]; have r' := (own_nlt (a := a % 32 * 64 + b % 64) (b := 128) (by omega) (by omega)).mp r; simp; omega
    · rw [if_neg r]; have r' := mt (own_nlt (a := a % 32 * 64 + b % 64) (b := 128) (by omega) (by omega)).mpr r
      constructor
      · intro z; exact absurd z (by decide)
      · intro z; omega
theorem own_wf3 {a b c : Nat} {d : Int32} (ha : 224 ≤ a) (ha' : a < 240) (hb : b < 256) (hc : c < 256) : own_wf 3 (Int32.ofNat a) (Int32.ofNat b) (Int32.ofNat c) d = 0 ↔ ¬ ((if a = 224 then 160 else 128) ≤ b ∧ b ≤ (if a = 237 then 159 else 191) ∧ 128 ≤ c ∧ c < 192) := by
  unfold own_wf
  rw [if_neg (by decide), if_neg (by decide), if_pos rfl, own_cp3_eq]
  generalize hN : a % 16 * 4096 + b % 64 * 64 + c % 64 = N
  have hN' : N < 2 ^ 31 := by omega
  by_cases q : own_cont (Int32.ofNat b) = 0
  · rw [if_pos q]; rw [own_cont0 hb] at q; simp; split <;> split <;> omega
  · rw [if_neg q]; rw [own_cont0 hb] at q
    by_cases q2 : own_cont (Int32.ofNat c) = 0
    · rw [if_pos q2]; rw [own_cont0 hc] at q2; simp; split <;> split <;> omega
    · rw [if_neg q2]; rw [own_cont0 hc] at q2
      have r1 : Int32.ofNat N < (2048 : Int32) ↔ N < 2048 := own_nlt (b := 2048) hN' (by omega)
      have r2 : Int32.ofNat N < (55296 : Int32) ↔ N < 55296 := own_nlt (b := 55296) hN' (by omega)
      have r3 : (57343 : Int32) < Int32.ofNat N ↔ 57343 < N := own_nlt (a := 57343) (by omega) hN'
      simp only [r1, r2, r3]
      split
      · simp; split <;> split <;> omega
      · split
        · constructor
          · intro z; exact absurd z (by decide)
          · split <;> split <;> intro z <;> omega
        · split
          · constructor
            · intro z; exact absurd z (by decide)
            · split <;> split <;> intro z <;> omega
          · simp; split <;> split <;> omega
theorem own_wf4 {a b c d : Nat} (ha : 240 ≤ a) (ha' : a < 248) (hb : b < 256) (hc : c < 256) (hd : d < 256) : own_wf 4 (Int32.ofNat a) (Int32.ofNat b) (Int32.ofNat c) (Int32.ofNat d) = 0 ↔ ¬ (a ≤ 244 ∧ (if a = 240 then 144 else 128) ≤ b ∧ b ≤ (if a = 244 then 143 else 191) ∧ (128 ≤ c ∧ c < 192) ∧ 128 ≤ d ∧ d < 192) := by
  unfold own_wf
  rw [if_neg (by decide), if_neg (by decide), if_neg (by decide), own_cp4_eq]
  generalize hN : a % 8 * 262144 + b % 64 * 4096 + c % 64 * 64 + d % 64 = N
  have hN' : N < 2 ^ 31 := by omega
  by_cases q : own_cont (Int32.ofNat b) = 0
  · rw [if_pos q]; rw [own_cont0 hb] at q; simp; split <;> split <;> omega
  · rw [if_neg q]; rw [own_cont0 hb] at q
    by_cases q2 : own_cont (Int32.ofNat c) = 0
    · rw [if_pos q2]; rw [own_cont0 hc] at q2; simp; split <;> split <;> omega
    · rw [if_neg q2]; rw [own_cont0 hc] at q2
      by_cases q3 : own_cont (Int32.ofNat d) = 0
      · rw [if_pos q3]; rw [own_cont0 hd] at q3; simp; split <;> split <;> omega
      · rw [if_neg q3]; rw [own_cont0 hd] at q3
        have r1 : Int32.ofNat N < (65536 : Int32) ↔ N < 65536 := own_nlt (b := 65536) hN' (by omega)
        have r3 : (1114111 : Int32) < Int32.ofNat N ↔ 1114111 < N := own_nlt (a := 1114111) (by omega) hN'
        simp only [r1, r3]
        split
        · simp; split <;> split <;> omega
        · split
          · simp; split <;> split <;> omega
          · constructor
            · intro z; exact absurd z (by decide)
            · split <;> split <;> intro z <;> omega
theorem own_cls_eq (B : Int32 → Int32) (to q : Int32) (nx : Int32 → Int32) {a b c d : Nat} (ha : 128 ≤ a) (ha' : a < 256) (hb : b < 256) (hc : c < 256) (hd : d < 256) (h0 : ¬ to < q + (1 : Int32))
    (h1 : own_lenOf (Int32.ofNat a) ≠ 1 → (B (q + (1 : Int32)) &&& (255 : Int32)) = Int32.ofNat b) (h2 : own_lenOf (Int32.ofNat a) = 3 ∨ own_lenOf (Int32.ofNat a) = 4 → ((B (q + (2 : Int32)) &&& (192 : Int32)) = (128 : Int32) ↔ (128 ≤ c ∧ c < 192)))
    (h3 : own_lenOf (Int32.ofNat a) = 4 → ((B (q + (3 : Int32)) &&& (192 : Int32)) = (128 : Int32) ↔ (128 ≤ d ∧ d < 192))) (hnx : ¬ to < q + own_lenOf (Int32.ofNat a) → nx (q + own_lenOf (Int32.ofNat a)) = -1) :
    own_cls B to nx q (Int32.ofNat a) = if to < q + own_lenOf (Int32.ofNat a) then q else if own_wf (own_lenOf (Int32.ofNat a)) (Int32.ofNat a) (Int32.ofNat b) (Int32.ofNat c) (Int32.ofNat d) = 0 then q else -1 := by
  have L := own_len_tab ⟨a, ha'⟩
  dsimp only at L
  have sm : a < 2 ^ 31 := by omega
  have c1 : Int32.ofNat a < (194 : Int32) ↔ a < 194 := own_nlt (b := 194) sm (by omega)
  have c2 : (223 : Int32) < Int32.ofNat a ↔ 223 < a := own_nlt (a := 223) (by omega) sm
  have c3 : Int32.ofNat a < (224 : Int32) ↔ a < 224 := own_nlt (b := 224) sm (by omega)
  have c4 : (239 : Int32) < Int32.ofNat a ↔ 239 < a := own_nlt (a := 239) (by omega) sm
  have c5 : Int32.ofNat a < (240 : Int32) ↔ a < 240 := own_nlt (b := 240) sm (by omega)
  have c6 : (244 : Int32) < Int32.ofNat a ↔ 244 < a := own_nlt (a := 244) (by omega) sm
  have d1 : Int32.ofNat a = (224 : Int32) ↔ a = 224 := own_neq (b := 224) sm (by omega)
  have d2 : Int32.ofNat a = (237 : Int32) ↔ a = 237 := own_neq (b := 237) sm (by omega)
  have d3 : Int32.ofNat a = (240 : Int32) ↔ a = 240 := own_neq (b := 240) sm (by omega)
  have d4 : Int32.ofNat a = (244 : Int32) ↔ a = 244 := own_neq (b := 244) sm (by omega)
  have bl : ∀ k : Nat, k < 256 → (Int32.ofNat b < Int32.ofNat k ↔ b < k) := fun k hk => own_nlt (by omega) (by omega)
  have br : ∀ k : Nat, k < 256 → (Int32.ofNat k < Int32.ofNat b ↔ k < b) := fun k hk => own_nlt (by omega) (by omega)
  unfold own_cls
  simp only [c1, c2, c3, c4, c5, c6, d1, d2, d3, d4]
  by_cases k1 : a < 192
  · rw [if_pos k1] at L
    rw [if_pos (by omega), if_pos (by omega), if_pos (by omega), L, if_neg h0]
    have : own_wf 1 (Int32.ofNat a) (Int32.ofNat b) (Int32.ofNat c) (Int32.ofNat d) = 0 := by
      unfold own_wf; rw [if_pos rfl, if_neg]; exact mt (own_nlt (b := 128) sm (by omega)).mp (by omega)
    rw [if_pos this]
  rw [if_neg k1] at L
  by_cases k2 : a < 224
  · rw [if_pos k2] at L
    rw [L] at h1 hnx ⊢
    have W := own_wf2 (c := Int32.ofNat c) (d := Int32.ofNat d) (by omega : 192 ≤ a) k2 hb
    by_cases k3 : a < 194
    · rw [if_pos (by omega), if_pos (by omega), if_pos (by omega), if_pos (W.mpr (by omega))]; simp
    · rw [if_neg (by omega)]
      unfold own_aft2
      by_cases t : to < q + (2 : Int32)
      · rw [if_pos t, if_pos t]
      · rw [if_neg t, if_neg t, h1 (by decide), hnx t]
        have e1 : Int32.ofNat b < (128 : Int32) ↔ b < 128 := bl 128 (by omega)
        have e2 : (191 : Int32) < Int32.ofNat b ↔ 191 < b := br 191 (by omega)
        simp only [e1, e2, W]
        by_cases u1 : b < 128
        · rw [if_pos u1, if_pos (by omega)]
        · rw [if_neg u1]
          by_cases u2 : 191 < b
          · rw [if_pos u2, if_pos (by omega)]
          · rw [if_neg u2, if_neg (by omega)]
  rw [if_neg k2] at L
  by_cases k3 : a < 240
  · rw [if_pos k3] at L
    rw [L] at h1 h2 hnx ⊢
    have W := own_wf3 (d := Int32.ofNat d) (by omega : 224 ≤ a) k3 hb hc
    rw [if_pos (by omega), if_neg (by omega)]
    unfold own_aft3
    by_cases t : to < q + (3 : Int32)
    · rw [if_pos t, if_pos t]
    · rw [if_neg t, if_neg t, h1 (by decide), hnx t]
      have e1 : Int32.ofNat b < (if a = 224 then (160 : Int32) else (128 : Int32)) ↔ b < (if a = 224 then 160 else 128) := by
        split
        · exact bl 160 (by omega)
        · exact bl 128 (by omega)
      have e2 : (if a = 237 then (159 : Int32) else (191 : Int32)) < Int32.ofNat b ↔ (if a = 237 then 159 else 191) < b := by
        split
        · exact br 159 (by omega)
        · exact br 191 (by omega)
      simp only [e1, e2, W, h2 (Or.inl rfl)]
      by_cases u1 : b < (if a = 224 then 160 else 128)
      · rw [if_pos u1, if_pos (by omega)]
      · rw [if_neg u1]
        by_cases u2 : (if a = 237 then 159 else 191) < b
        · rw [if_pos u2, if_pos (by omega)]
        · rw [if_neg u2]
          by_cases u3 : 128 ≤ c ∧ c < 192
          · rw [if_pos u3, if_neg (by omega)]
          · rw [if_neg u3, if_pos (by omega)]
  rw [if_neg k3] at L
  by_cases k4 : a < 248
  · rw [if_pos k4] at L
    rw [L] at h1 h2 h3 hnx ⊢
    have W := own_wf4 (by omega : 240 ≤ a) k4 hb hc hd
    rw [if_pos (by omega), if_pos (by omega)]
    by_cases k5 : 244 < a
    · rw [if_pos (by omega), if_pos (W.mpr (by omega))]; simp
    · rw [if_neg (by omega)]
      unfold own_aft4
      by_cases t : to < q + (4 : Int32)
      · rw [if_pos t, if_pos t]
      · rw [if_neg t, if_neg t, h1 (by decide), hnx t]
        have e1 : Int32.ofNat b < (if a = 240 then (144 : Int32) else (128 : Int32)) ↔ b < (if a = 240 then 144 else 128) := by
          split
          · exact bl 144 (by omega)
          · exact bl 128 (by omega)
        have e2 : (if a = 244 then (143 : Int32) else (191 : Int32)) < Int32.ofNat b ↔ (if a = 244 then 143 else 191) < b := by
          split
          · exact br 143 (by omega)
          · exact br 191 (by omega)
        simp only [e1, e2, W, h2 (Or.inr rfl), h3 rfl]
        by_cases u1 : b < (if a = 240 then 144 else 128)
        · rw [if_pos u1, if_pos (by omega)]
        · rw [if_neg u1]
          by_cases u2 : (if a = 244 then 143 else 191) < b
          · rw [if_pos u2, if_pos (by omega)]
          · rw [if_neg u2]
            by_cases u3 : 128 ≤ c ∧ c < 192
            · rw [if_pos u3]
              by_cases u4 : 128 ≤ d ∧ d < 192
              · rw [if_pos u4, if_neg (by omega)]
              · rw [if_neg u4, if_pos (by omega)]
            · rw [if_neg u3, if_pos (by omega)]
  rw [if_neg k4] at L
  rw [if_pos (by omega), if_pos (by omega), if_pos (by omega), L, if_neg h0]
  have : own_wf 1 (Int32.ofNat a) (Int32.ofNat b) (Int32.ofNat c) (Int32.ofNat d) = 0 := by
    unfold own_wf; rw [if_pos rfl, if_neg]; exact mt (own_nlt (b := 128) sm (by omega)).mp (by omega)
  rw [if_pos this]
theorem own_low (x : Int32) (k : Nat) : ∃ m, m < 2 ^ k ∧ x &&& Int32.ofNat (2 ^ k - 1) = Int32.ofNat m := by
  refine ⟨x.toBitVec.toNat % 2 ^ k, Nat.mod_lt _ (Nat.two_pow_pos k), ?_⟩
  have : x = Int32.ofNat x.toBitVec.toNat := by
    apply Int32.toBitVec_inj.mp; rw [Int32.toBitVec_ofNat']; simp
  rw [← own_nmask, ← this]
theorem own_ushr (x s : Int32) (k : Nat) (hs : (s &&& 31).toUInt32.toBitVec = BitVec.ofNat 32 k) (hk : k < 32) : ((x.toUInt32 >>> (s &&& 31).toUInt32).toInt32) = Int32.ofNat (x.toBitVec.toNat / 2 ^ k) := by
  apply Int32.toBitVec_inj.mp
  show (x.toUInt32 >>> (s &&& 31).toUInt32).toBitVec = _
  rw [UInt32.toBitVec_shiftRight, hs, Int32.toBitVec_ofNat']
  show x.toBitVec >>> (BitVec.ofNat 32 k % 32#32) = _
  rw [BitVec.ushiftRight_eq', BitVec.toNat_umod, BitVec.toNat_ofNat]
  have e : k % 2 ^ 32 % (32#32).toNat = k := by show k % 2 ^ 32 % 32 = k; omega
  rw [e]
  apply BitVec.eq_of_toNat_eq
  rw [BitVec.toNat_ushiftRight, BitVec.toNat_ofNat, Nat.shiftRight_eq_div_pow, Nat.mod_eq_of_lt]
  exact Nat.lt_of_le_of_lt (Nat.div_le_self _ _) x.toBitVec.isLt
theorem own_nmod {a b : Nat} (ha : a < 2 ^ 31) (hb : b < 2 ^ 31) : Int32.ofNat a % Int32.ofNat b = Int32.ofNat (a % b) := by
  apply Int32.toInt_inj.mp
  have h : a % b < 2 ^ 31 := Nat.lt_of_le_of_lt (Nat.mod_le a b) ha
  rw [Int32.toInt_mod, Int32.toInt_ofNat_of_lt ha, Int32.toInt_ofNat_of_lt hb, Int32.toInt_ofNat_of_lt h]
  rfl
theorem own_nadd (a b : Nat) : Int32.ofNat a + Int32.ofNat b = Int32.ofNat (a + b) := (Int32.ofNat_add a b).symm
theorem own_nint {a : Nat} (h : a < 2 ^ 31) : (Int32.ofNat a).toInt = a := Int32.toInt_ofNat_of_lt h
theorem own_byte_tab : ∀ a : Fin 256, ((Int32.ofNat a.val).toInt8.toInt32.toInt8.toInt32 &&& (255 : Int32)) = Int32.ofNat a.val ∧ ((Int32.ofNat a.val).toInt8.toInt32.toInt8.toInt32.toInt < 0 ↔ 128 ≤ a.val) ∧ (((Int32.ofNat a.val).toInt8.toInt32.toInt8.toInt32 &&& (192 : Int32)) = (128 : Int32) ↔ (128 ≤ a.val ∧ a.val < 192)) := by decide +kernel
theorem own_byte {a : Nat} (h : a < 256) : ((Int32.ofNat a).toInt8.toInt32.toInt8.toInt32 &&& (255 : Int32)) = Int32.ofNat a ∧ ((Int32.ofNat a).toInt8.toInt32.toInt8.toInt32.toInt < 0 ↔ 128 ≤ a) ∧ (((Int32.ofNat a).toInt8.toInt32.toInt8.toInt32 &&& (192 : Int32)) = (128 : Int32) ↔ (128 ≤ a ∧ a < 192)) := own_byte_tab ⟨a, h⟩
theorem own_by_of (x : Int32) : own_by x.toInt8.toInt32 := by
  unfold own_by
  rw [Int8.toInt_toInt32]
  have h1 := Int8.le_toInt x.toInt8
  have h2 := Int8.toInt_lt x.toInt8
  omega
theorem own_asc_tab : ∀ a : Fin 128, 0 ≤ (Int32.ofNat a.val).toInt8.toInt32.toInt8.toInt32.toInt8.toInt32.toInt := by decide +kernel
theorem own_len_range {a : Nat} (h : a < 256) : 1 ≤ (own_lenOf (Int32.ofNat a)).toInt ∧ (own_lenOf (Int32.ofNat a)).toInt ≤ 4 := by
  have L := own_len_tab ⟨a, h⟩
  dsimp only at L
  rw [L]; repeat' split
  all_goals decide
theorem own_law (B : Int32 → Int32) (fr q to : Int32) (hfr : own_sm fr) (hto : own_sm to) (hq : own_sm q) (hq20 : q.toInt ≤ 20) (h1 : fr.toInt ≤ q.toInt) (h2 : fr.toInt ≤ to.toInt) {a b c d : Nat} (ha : a < 256) (hb : b < 256) (hc : c < 256) (hd : d < 256)
    (hB : ∀ j, own_sm j → own_by (B j)) (hA : ∀ j : Int32, fr.toInt ≤ j.toInt → j.toInt < to.toInt → (j.toInt < q.toInt ∨ q.toInt + (own_lenOf (Int32.ofNat a)).toInt ≤ j.toInt) → 0 ≤ (B j).toInt)
    (b0 : B q = (Int32.ofNat a).toInt8.toInt32.toInt8.toInt32) (b1 : own_lenOf (Int32.ofNat a) ≠ 1 → B (q + (1 : Int32)) = (Int32.ofNat b).toInt8.toInt32.toInt8.toInt32)
    (b2 : own_lenOf (Int32.ofNat a) = 3 ∨ own_lenOf (Int32.ofNat a) = 4 → B (q + (2 : Int32)) = (Int32.ofNat c).toInt8.toInt32.toInt8.toInt32) (b3 : own_lenOf (Int32.ofNat a) = 4 → B (q + (3 : Int32)) = (Int32.ofNat d).toInt8.toInt32.toInt8.toInt32) :
    own_out B to 26 fr = if q < to then (if to < q + own_lenOf (Int32.ofNat a) then q else if own_wf (own_lenOf (Int32.ofNat a)) (Int32.ofNat a) (Int32.ofNat b) (Int32.ofNat c) (Int32.ofNat d) = 0 then q else -1) else -1 := by
  have lr := own_len_range ha
  have el : (q + own_lenOf (Int32.ofNat a)).toInt = q.toInt + (own_lenOf (Int32.ofNat a)).toInt := own_add hq _ ⟨by omega, by omega⟩
  have e1 : (q + (1 : Int32)).toInt = q.toInt + 1 := own_add hq 1 (by decide)
  have f := hfr; have t := hto
  obtain ⟨f1, f2⟩ := hfr
  obtain ⟨t1, t2⟩ := hto
  by_cases hqt : q < to
  · rw [if_pos hqt]
    rw [Int32.lt_iff_toInt_lt] at hqt
    unfold own_out
    rw [if_pos (by rw [Int32.lt_iff_toInt_lt]; omega)]
    by_cases k : a < 128
    · have L : own_lenOf (Int32.ofNat a) = 1 := by have := own_len_tab ⟨a, ha⟩; dsimp only at this; rw [if_pos (by omega)] at this; exact this
      rw [L, if_neg (by rw [Int32.lt_iff_toInt_lt]; omega)]
      have W : own_wf 1 (Int32.ofNat a) (Int32.ofNat b) (Int32.ofNat c) (Int32.ofNat d) = 1 := by
        unfold own_wf; rw [if_pos rfl, if_pos]; exact (own_nlt (b := 128) (by omega) (by omega)).mpr k
      rw [W, if_neg (by decide)]
      refine own_asc B to t hB 26 fr f h2 (by omega) fun j j1 j2 => ?_
      by_cases jq : j.toInt = q.toInt
      · rw [Int32.toInt_inj.mp jq, b0]
        have := (own_byte ha).2.1
        omega
      · rw [L] at hA; have : (1 : Int32).toInt = 1 := rfl
        exact hA j j1 j2 (by omega)
    · have neg : (B q).toInt < 0 := by rw [b0]; exact (own_byte ha).2.1.mpr (by omega)
      obtain ⟨n, hn, e⟩ := own_reach B to q t hB hqt neg 26 fr f h1 (by omega) fun j j1 j2 => hA j j1 (by omega) (Or.inl j2)
      rw [e, b0, (own_byte ha).1]
      refine own_cls_eq B to q _ (by omega) ha hb hc hd (by rw [Int32.lt_iff_toInt_lt]; omega) (fun z => by rw [b1 z]; exact (own_byte hb).1) (fun z => by rw [b2 z]; exact (own_byte hc).2.2) (fun z => by rw [b3 z]; exact (own_byte hd).2.2) fun z => ?_
      rw [Int32.lt_iff_toInt_lt] at z
      unfold own_out
      by_cases y : q + own_lenOf (Int32.ofNat a) < to
      · rw [if_pos y]
        rw [Int32.lt_iff_toInt_lt] at y
        exact own_asc B to t hB n _ ⟨by omega, by omega⟩ (by omega) (by omega) fun j j1 j2 => hA j (by omega) j2 (Or.inr (by omega))
      · rw [if_neg y]
  · rw [if_neg hqt]
    rw [Int32.lt_iff_toInt_lt] at hqt
    unfold own_out
    by_cases y : fr < to
    · rw [if_pos y]
      exact own_asc B to t hB 26 fr f h2 (by omega) fun j j1 j2 => hA j j1 j2 (Or.inl (by omega))
    · rw [if_neg y]
theorem own_irem {x y : Int32} (hx : 0 ≤ x.toInt) (hy : 0 < y.toInt) : x - x / y * y = x % y := by
  apply Int32.toInt_inj.mp
  rw [Int32.toInt_mod, Int32.toInt_sub, Int32.toInt_mul, Int32.toInt_div]
  have h1 := Int32.toInt_lt x
  have h2 := Int32.toInt_lt y
  rw [Int.tdiv_eq_ediv_of_nonneg hx, Int.tmod_eq_emod_of_nonneg hx]
  have e := Int.mul_ediv_add_emod x.toInt y.toInt
  have r0 := Int.emod_nonneg x.toInt (show y.toInt ≠ 0 by omega)
  have r1 := Int.emod_lt_of_pos x.toInt hy
  have d1 : 0 ≤ x.toInt / y.toInt := Int.ediv_nonneg hx (by omega)
  have d2 : x.toInt / y.toInt ≤ x.toInt := Int.ediv_le_self _ hx
  rw [Int.mul_comm] at e
  have m1 : 0 ≤ x.toInt / y.toInt * y.toInt := Int.mul_nonneg d1 (by omega)
  rw [show (x.toInt / y.toInt).bmod (2 ^ 32) = x.toInt / y.toInt from Int.bmod_eq_of_le (by omega) (by omega)]
  rw [show (x.toInt / y.toInt * y.toInt).bmod (2 ^ 32) = x.toInt / y.toInt * y.toInt from Int.bmod_eq_of_le (by omega) (by omega)]
  rw [Int.bmod_eq_of_le (by omega) (by omega)]
  omega
def own_raw (x : Int64) (j : Int32) : Int32 := (((x.toUInt64 >>> (((8 : Int32) * j) &&& 0x3f).toInt64.toUInt64).toInt64).toInt32 &&& (255 : Int32))
def own_cell (x : Int64) (j i fr to : Int32) : Int32 := if i < fr then nar .byte (own_raw x j).toInt8.toInt32 else if i < to then nar .byte (own_raw x j &&& (127 : Int32)).toInt8.toInt32 else nar .byte (own_raw x j).toInt8.toInt32
def own_B (us : List Int32) (j : Int32) : Int32 := us.getD j.toNatClampNeg 0
def own_fill (b : Nat) (x : Int64) (fr to : Int32) (us : List Int32) : List Int32 := (((((((us.set b (nar .byte (own_cell x (0 : Int32) (Int32.ofNat b) fr to))).set (b + 1) (nar .byte (own_cell x (1 : Int32) (Int32.ofNat (b + 1)) fr to))).set (b + 2) (nar .byte (own_cell x (2 : Int32) (Int32.ofNat (b + 2)) fr to))).set (b + 3) (nar .byte (own_cell x (3 : Int32) (Int32.ofNat (b + 3)) fr to))).set (b + 4) (nar .byte (own_cell x (4 : Int32) (Int32.ofNat (b + 4)) fr to))).set (b + 5) (nar .byte (own_cell x (5 : Int32) (Int32.ofNat (b + 5)) fr to))).set (b + 6) (nar .byte (own_cell x (6 : Int32) (Int32.ofNat (b + 6)) fr to))).set (b + 7) (nar .byte (own_cell x (7 : Int32) (Int32.ofNat (b + 7)) fr to))
theorem own_map_set {us : List Int32} {i : Nat} {v : Int32} : (us.map Value.int).set i (.int v) = (us.set i v).map Value.int := by rw [List.map_set]
theorem own_get (us : List Int32) (j : Int32) : (us.map Value.int).getD j.toNatClampNeg (.int (0 : Int32)) = .int (own_B us j) := by
  unfold own_B; simp only [List.getD_eq_getElem?_getD, List.getElem?_map]; cases us[j.toNatClampNeg]? <;> rfl
theorem own_ix0 {i to : Int32} (hi : own_sm i) (hto : own_sm to) (h : i.toInt < to.toInt) : ¬ i < 0 ∧ i < (24 : Int32) := by
  obtain ⟨h1, h2⟩ := hi; obtain ⟨t1, t2⟩ := hto
  rw [Int32.lt_iff_toInt_lt, Int32.lt_iff_toInt_lt]; have e : (24 : Int32).toInt = 24 := rfl; have e0 : (0 : Int32).toInt = 0 := rfl; omega
theorem own_ix {i to : Int32} (k m : Int32) (hi : own_sm i) (hto : own_sm to) (h : ¬ to < i + m) (hk : 0 ≤ k.toInt ∧ k.toInt < m.toInt ∧ m.toInt ≤ 8) : ¬ (i + k) < 0 ∧ (i + k) < (24 : Int32) := by
  have e1 := own_add hi k ⟨by omega, by omega⟩
  have e2 := own_add hi m ⟨by omega, by omega⟩
  obtain ⟨h1, h2⟩ := hi; obtain ⟨t1, t2⟩ := hto
  rw [Int32.lt_iff_toInt_lt] at h
  rw [Int32.lt_iff_toInt_lt, Int32.lt_iff_toInt_lt]; have e : (24 : Int32).toInt = 24 := rfl; have e0 : (0 : Int32).toInt = 0 := rfl; omega
def own_One (s : Slot) : Prop := s = .unset ∨ ∃ z : Int32, s = .val (.int z)
theorem own_One.v {z : Int32} : own_One (.val (.int z)) := Or.inr ⟨z, rfl⟩
def own_HR (e : Env) (T0 : State) (m : MethodId) (fs : List Frame) (v : Int32) : Prop := ∀ (f : JFrame) (acts : List Action), f.method = m → f.locked = none → f.entered = [] → (doReturn e (T0.setTop f) acts (some (.int v))).1 = T0.setFrames fs
theorem d2_0 : decode method_3_code 0 = .ok (.lload_n 0, 1) := by decide +kernel
theorem d2_1 : decode method_3_code 1 = .ok (.bipush 8, 2) := by decide +kernel
theorem d2_3 : decode method_3_code 3 = .ok (.iload_n 2, 1) := by decide +kernel
theorem d2_4 : decode method_3_code 4 = .ok (.imul, 1) := by decide +kernel
theorem d2_5 : decode method_3_code 5 = .ok (.lushr, 1) := by decide +kernel
theorem d2_6 : decode method_3_code 6 = .ok (.l2i, 1) := by decide +kernel
theorem d2_7 : decode method_3_code 7 = .ok (.sipush 255, 3) := by decide +kernel
theorem d2_10 : decode method_3_code 10 = .ok (.iand, 1) := by decide +kernel
theorem d2_11 : decode method_3_code 11 = .ok (.istore 6, 2) := by decide +kernel
theorem d2_13 : decode method_3_code 13 = .ok (.iload_n 3, 1) := by decide +kernel
theorem d2_14 : decode method_3_code 14 = .ok (.iload 4, 2) := by decide +kernel
theorem d2_16 : decode method_3_code 16 = .ok (.if_icmp .lt 16, 3) := by decide +kernel
theorem d2_32 : decode method_3_code 32 = .ok (.iload 6, 2) := by decide +kernel
theorem d2_34 : decode method_3_code 34 = .ok (.i2b, 1) := by decide +kernel
theorem d2_35 : decode method_3_code 35 = .ok (.ireturn, 1) := by decide +kernel
theorem d2_19 : decode method_3_code 19 = .ok (.iload_n 3, 1) := by decide +kernel
theorem d2_20 : decode method_3_code 20 = .ok (.iload 5, 2) := by decide +kernel
theorem d2_22 : decode method_3_code 22 = .ok (.if_icmp .ge 10, 3) := by decide +kernel
theorem d2_25 : decode method_3_code 25 = .ok (.iload 6, 2) := by decide +kernel
theorem d2_27 : decode method_3_code 27 = .ok (.bipush 127, 2) := by decide +kernel
theorem d2_29 : decode method_3_code 29 = .ok (.iand, 1) := by decide +kernel
theorem d2_30 : decode method_3_code 30 = .ok (.i2b, 1) := by decide +kernel
theorem d2_31 : decode method_3_code 31 = .ok (.ireturn, 1) := by decide +kernel
theorem pn_com_example_reshelve_reshelve_Utf8FirstFaultPinLaw : plainName "com/example/reshelve/reshelve/Utf8FirstFaultPinLaw" = true := by first | (simp [plainName, overriddenIn]; done) | decide +kernel
theorem ef_rm2 (m : MethodId) (q0 : Int64) (p2 : Int32) (p3 : Int32) (p4 : Int32) (p5 : Int32) : entryFrame m #[(.long q0), (.int p2), (.int p3), (.int p4), (.int p5)] 7 = mkF m 0 #[.val (.long q0), .second, .val (.int p2), .val (.int p3), .val (.int p4), .val (.int p5), .unset] [] := by first | (simp [entryFrame, mkF, argsToLocals, Value.category]; done) | rfl
def Qrm2 (Z : State) (q0 : Int64) (p2 : Int32) (p3 : Int32) (p4 : Int32) (p5 : Int32) (h0 : Heap) (n0 : Nat) (v : Option Value) (h : Heap) (L : List Loc) : Prop := v = some (.int (own_cell q0 p2 p3 p4 p5)) ∧ Fr n0 L ∧ h = h0
set_option maxRecDepth 65536 in
set_option maxHeartbeats 40000000 in
theorem rm2 (l : Launch) (Z : State) (a0 : Array Value) (hw : ∀ d ∈ tables_1, d.before a0 Z = true) (ws : List Jvm.Cond) (q0 : Int64) (p2 : Int32) (p3 : Int32) (p4 : Int32) (p5 : Int32) (h0 : Heap) (n0 : Nat) (Z0 : n0 ≤ h0.size) :
    MetFree l (⟨"com/example/reshelve/reshelve/Utf8FirstFaultPinLaw", "cell", "(JIIII)B"⟩ : MethodName) (head1 (Jvm.Cond.code (⟨"com/example/reshelve/reshelve/Utf8FirstFaultPinLaw", "cell", "(JIIII)B"⟩ : MethodName) method_3_code 7 (some .byte) :: ws) ({ frames := 0, cells := 0, slots := 0, locals := 0 } : Room)) (fun a U => a = #[(.long q0), (.int p2), (.int p3), (.int p4), (.int p5)] ∧ Z.Warmed39 U.vm ∧ U.heap = h0) (fun _ _ _ _ _ => True) (fun _ U o U' => ∃ v L, o = .returned v ∧ Qrm2 Z q0 p2 p3 p4 p5 h0 n0 v U'.heap L ∧ FrameEnd U o U' L ({ frames := 0, cells := 0, slots := 0, locals := 0 } : Room).cells ({ frames := 0, cells := 0, slots := 0, locals := 0 } : Room).slots) := by
  refine MetFree.of_bodySF (plainFor_of_name pn_com_example_reshelve_reshelve_Utf8FirstFaultPinLaw) hisR ?_
  intro p e s m args below meth c s₁ Bd hml0 hP hK
  obtain ⟨rfl, hZ, hh⟩ := hP
  have hx := Bd.exec
  have hby := Bd.bytes
  have hml : c.maxLocals = 7 := hml0
  have hown : s.vm.findClass "com/example/reshelve/reshelve/Utf8FirstFaultPinLaw" = some m.cls := findClass_of_methodNamed Bd.named
  have hnm := (name_of_methodNamed Bd.named Bd.method).1
  have X0 : Stand p l e ({ frames := 0, cells := 0, slots := 0, locals := 0 } : Room) s m #[(.long q0), (.int p2), (.int p3), (.int p4), (.int p5)] below meth c s₁ [] 0 0 := Stand.of_body Bd
  have e0 : s₁.heap = h0 := by rw [← hh, Bd.state]; rfl
  have N0 := Fr.nil n0
  have pre0 : ∀ t, Steps p.tables e below (s₁.setTop (mkF m 0 #[.val (.long q0), .second, .val (.int p2), .val (.int p3), .val (.int p4), .val (.int p5), .unset] [])) t → Steps p.tables e below (s₁.setTop (entryFrame m #[(.long q0), (.int p2), (.int p3), (.int p4), (.int p5)] 7)) t := fun t k => castTop (ef_rm2 m q0 p2 p3 p4 p5) k
  obtain ⟨v3, hv3⟩ : ∃ v : Int32, v = if p3 < p5 then (nar .byte ((own_raw q0 p2) &&& (127 : Int32)).toInt8.toInt32) else (nar .byte (own_raw q0 p2).toInt8.toInt32) := ⟨_, rfl⟩
  obtain ⟨v4, hv4⟩ : ∃ v : Int32, v = if p3 < p4 then (nar .byte (own_raw q0 p2).toInt8.toInt32) else v3 := ⟨_, rfl⟩
  obtain ⟨fs, hr, hrun, hended, hW, hsame⟩ := X0.leave (v := some (.int v4)) (fun h => by rw [Bd.returns] at h; cases h)
  refine ⟨_, _, pre0 _ ?_, hrun, hended, _, _, rfl, ?_, ⟨_, rfl⟩, hW, hsame.mono (by decide) (by decide)⟩
  · show Steps p.tables e below (s₁.setTop (mkF m 0 #[.val (.long q0), .second, .val (.int p2), .val (.int p3), .val (.int p4), .val (.int p5), .unset] [])) _
    refine XS.lloadN X0.here hx rfl (hb hby d2_0) rfl ?_
    show Steps p.tables e below (s₁.setTop (mkF m 1 #[.val (.long q0), .second, .val (.int p2), .val (.int p3), .val (.int p4), .val (.int p5), .unset] [(.long q0)])) _
    refine XS.bipush X0.here hx rfl (hb hby d2_1) ?_
    show Steps p.tables e below (s₁.setTop (mkF m 3 #[.val (.long q0), .second, .val (.int p2), .val (.int p3), .val (.int p4), .val (.int p5), .unset] [(.int (8 : Int32)), (.long q0)])) _
    refine XS.iloadN X0.here hx rfl (hb hby d2_3) rfl ?_
    show Steps p.tables e below (s₁.setTop (mkF m 4 #[.val (.long q0), .second, .val (.int p2), .val (.int p3), .val (.int p4), .val (.int p5), .unset] [(.int p2), (.int (8 : Int32)), (.long q0)])) _
    refine XS.imul X0.here hx rfl (hb hby d2_4) rfl ?_
    show Steps p.tables e below (s₁.setTop (mkF m 5 #[.val (.long q0), .second, .val (.int p2), .val (.int p3), .val (.int p4), .val (.int p5), .unset] [(.int ((8 : Int32) * p2)), (.long q0)])) _
    refine XS.lushr X0.here hx rfl (hb hby d2_5) rfl ?_
    show Steps p.tables e below (s₁.setTop (mkF m 6 #[.val (.long q0), .second, .val (.int p2), .val (.int p3), .val (.int p4), .val (.int p5), .unset] [(.long ((q0.toUInt64 >>> (((8 : Int32) * p2) &&& 0x3f).toInt64.toUInt64).toInt64))])) _
    refine XS.l2i X0.here hx rfl (hb hby d2_6) rfl ?_
    show Steps p.tables e below (s₁.setTop (mkF m 7 #[.val (.long q0), .second, .val (.int p2), .val (.int p3), .val (.int p4), .val (.int p5), .unset] [(.int ((q0.toUInt64 >>> (((8 : Int32) * p2) &&& 0x3f).toInt64.toUInt64).toInt64).toInt32)])) _
    refine XS.sipush X0.here hx rfl (hb hby d2_7) ?_
    show Steps p.tables e below (s₁.setTop (mkF m 10 #[.val (.long q0), .second, .val (.int p2), .val (.int p3), .val (.int p4), .val (.int p5), .unset] [(.int (255 : Int32)), (.int ((q0.toUInt64 >>> (((8 : Int32) * p2) &&& 0x3f).toInt64.toUInt64).toInt64).toInt32)])) _
    refine XS.iand X0.here hx rfl (hb hby d2_10) rfl ?_
    show Steps p.tables e below (s₁.setTop (mkF m 11 #[.val (.long q0), .second, .val (.int p2), .val (.int p3), .val (.int p4), .val (.int p5), .unset] [(.int (own_raw q0 p2))])) _
    refine XS.istore X0.here hx rfl (hb hby d2_11) rfl (l' := #[.val (.long q0), .second, .val (.int p2), .val (.int p3), .val (.int p4), .val (.int p5), .val (.int (own_raw q0 p2))]) rfl ?_
    show Steps p.tables e below (s₁.setTop (mkF m 13 #[.val (.long q0), .second, .val (.int p2), .val (.int p3), .val (.int p4), .val (.int p5), .val (.int (own_raw q0 p2))] [])) _
    refine XS.iloadN X0.here hx rfl (hb hby d2_13) rfl ?_
    show Steps p.tables e below (s₁.setTop (mkF m 14 #[.val (.long q0), .second, .val (.int p2), .val (.int p3), .val (.int p4), .val (.int p5), .val (.int (own_raw q0 p2))] [(.int p3)])) _
    refine XS.iload X0.here hx rfl (hb hby d2_14) rfl ?_
    by_cases hc1 : p3 < p4
    · rw [show v4 = (nar .byte (own_raw q0 p2).toInt8.toInt32) from by rw [hv4, if_pos hc1]] at hr
      show Steps p.tables e below (s₁.setTop (mkF m 16 #[.val (.long q0), .second, .val (.int p2), .val (.int p3), .val (.int p4), .val (.int p5), .val (.int (own_raw q0 p2))] [(.int p4), (.int p3)])) _
      refine XS.icmpYes X0.here hx rfl (pc0 := 16) (pc' := 32) rfl (hb hby d2_16) rfl (tlt hc1).1 (by decide) (by decide) ?_
      show Steps p.tables e below (s₁.setTop (mkF m 32 #[.val (.long q0), .second, .val (.int p2), .val (.int p3), .val (.int p4), .val (.int p5), .val (.int (own_raw q0 p2))] [])) _
      refine XS.iload X0.here hx rfl (hb hby d2_32) rfl ?_
      show Steps p.tables e below (s₁.setTop (mkF m 34 #[.val (.long q0), .second, .val (.int p2), .val (.int p3), .val (.int p4), .val (.int p5), .val (.int (own_raw q0 p2))] [(.int (own_raw q0 p2))])) _
      refine XS.i2b X0.here hx rfl (hb hby d2_34) rfl ?_
      show Steps p.tables e below (s₁.setTop (mkF m 35 #[.val (.long q0), .second, .val (.int p2), .val (.int p3), .val (.int p4), .val (.int p5), .val (.int (own_raw q0 p2))] [(.int (own_raw q0 p2).toInt8.toInt32)])) _
      exact retN X0 hx (t := .byte) Bd.returns (by simp) (hb hby d2_35) hr
    · rw [show v4 = v3 from by rw [hv4, if_neg hc1]] at hr
      show Steps p.tables e below (s₁.setTop (mkF m 16 #[.val (.long q0), .second, .val (.int p2), .val (.int p3), .val (.int p4), .val (.int p5), .val (.int (own_raw q0 p2))] [(.int p4), (.int p3)])) _
      refine XS.icmpNo X0.here hx rfl (hb hby d2_16) rfl (flt hc1).1 ?_
      show Steps p.tables e below (s₁.setTop (mkF m 19 #[.val (.long q0), .second, .val (.int p2), .val (.int p3), .val (.int p4), .val (.int p5), .val (.int (own_raw q0 p2))] [])) _
      refine XS.iloadN X0.here hx rfl (hb hby d2_19) rfl ?_
      show Steps p.tables e below (s₁.setTop (mkF m 20 #[.val (.long q0), .second, .val (.int p2), .val (.int p3), .val (.int p4), .val (.int p5), .val (.int (own_raw q0 p2))] [(.int p3)])) _
      refine XS.iload X0.here hx rfl (hb hby d2_20) rfl ?_
      by_cases hc2 : p3 < p5
      · rw [show v3 = (nar .byte ((own_raw q0 p2) &&& (127 : Int32)).toInt8.toInt32) from by rw [hv3, if_pos hc2]] at hr
        show Steps p.tables e below (s₁.setTop (mkF m 22 #[.val (.long q0), .second, .val (.int p2), .val (.int p3), .val (.int p4), .val (.int p5), .val (.int (own_raw q0 p2))] [(.int p5), (.int p3)])) _
        refine XS.icmpNo X0.here hx rfl (hb hby d2_22) rfl (tlt hc2).2.1 ?_
        show Steps p.tables e below (s₁.setTop (mkF m 25 #[.val (.long q0), .second, .val (.int p2), .val (.int p3), .val (.int p4), .val (.int p5), .val (.int (own_raw q0 p2))] [])) _
        refine XS.iload X0.here hx rfl (hb hby d2_25) rfl ?_
        show Steps p.tables e below (s₁.setTop (mkF m 27 #[.val (.long q0), .second, .val (.int p2), .val (.int p3), .val (.int p4), .val (.int p5), .val (.int (own_raw q0 p2))] [(.int (own_raw q0 p2))])) _
        refine XS.bipush X0.here hx rfl (hb hby d2_27) ?_
        show Steps p.tables e below (s₁.setTop (mkF m 29 #[.val (.long q0), .second, .val (.int p2), .val (.int p3), .val (.int p4), .val (.int p5), .val (.int (own_raw q0 p2))] [(.int (127 : Int32)), (.int (own_raw q0 p2))])) _
        refine XS.iand X0.here hx rfl (hb hby d2_29) rfl ?_
        show Steps p.tables e below (s₁.setTop (mkF m 30 #[.val (.long q0), .second, .val (.int p2), .val (.int p3), .val (.int p4), .val (.int p5), .val (.int (own_raw q0 p2))] [(.int ((own_raw q0 p2) &&& (127 : Int32)))])) _
        refine XS.i2b X0.here hx rfl (hb hby d2_30) rfl ?_
        show Steps p.tables e below (s₁.setTop (mkF m 31 #[.val (.long q0), .second, .val (.int p2), .val (.int p3), .val (.int p4), .val (.int p5), .val (.int (own_raw q0 p2))] [(.int ((own_raw q0 p2) &&& (127 : Int32)).toInt8.toInt32)])) _
        exact retN X0 hx (t := .byte) Bd.returns (by simp) (hb hby d2_31) hr
      · rw [show v3 = (nar .byte (own_raw q0 p2).toInt8.toInt32) from by rw [hv3, if_neg hc2]] at hr
        show Steps p.tables e below (s₁.setTop (mkF m 22 #[.val (.long q0), .second, .val (.int p2), .val (.int p3), .val (.int p4), .val (.int p5), .val (.int (own_raw q0 p2))] [(.int p5), (.int p3)])) _
        refine XS.icmpYes X0.here hx rfl (pc0 := 22) (pc' := 32) rfl (hb hby d2_22) rfl (flt hc2).2.1 (by decide) (by decide) ?_
        show Steps p.tables e below (s₁.setTop (mkF m 32 #[.val (.long q0), .second, .val (.int p2), .val (.int p3), .val (.int p4), .val (.int p5), .val (.int (own_raw q0 p2))] [])) _
        refine XS.iload X0.here hx rfl (hb hby d2_32) rfl ?_
        show Steps p.tables e below (s₁.setTop (mkF m 34 #[.val (.long q0), .second, .val (.int p2), .val (.int p3), .val (.int p4), .val (.int p5), .val (.int (own_raw q0 p2))] [(.int (own_raw q0 p2))])) _
        refine XS.i2b X0.here hx rfl (hb hby d2_34) rfl ?_
        show Steps p.tables e below (s₁.setTop (mkF m 35 #[.val (.long q0), .second, .val (.int p2), .val (.int p3), .val (.int p4), .val (.int p5), .val (.int (own_raw q0 p2))] [(.int (own_raw q0 p2).toInt8.toInt32)])) _
        exact retN X0 hx (t := .byte) Bd.returns (by simp) (hb hby d2_35) hr
  · show Qrm2 Z q0 p2 p3 p4 p5 h0 n0 _ s₁.heap _
    rw [e0]
    exact ⟨by rw [hv4, hv3]; rfl, N0, rfl⟩
theorem d1_0 : decode method_4_code 0 = .ok (.aload_n 0, 1) := by decide +kernel
theorem d1_1 : decode method_4_code 1 = .ok (.iload_n 1, 1) := by decide +kernel
theorem d1_2 : decode method_4_code 2 = .ok (.lload_n 2, 1) := by decide +kernel
theorem d1_3 : decode method_4_code 3 = .ok (.iconst 0, 1) := by decide +kernel
theorem d1_4 : decode method_4_code 4 = .ok (.iload_n 1, 1) := by decide +kernel
theorem d1_5 : decode method_4_code 5 = .ok (.iload 4, 2) := by decide +kernel
theorem d1_7 : decode method_4_code 7 = .ok (.iload 5, 2) := by decide +kernel
theorem d1_9 : decode method_4_code 9 = .ok (.invokestatic 27, 3) := by decide +kernel
theorem pd__JIIII_B : parseMethodDescriptor "(JIIII)B" = some ⟨[.long, .int, .int, .int, .int], some .byte⟩ := by decide +kernel
theorem d1_12 : decode method_4_code 12 = .ok (.bastore, 1) := by decide +kernel
theorem d1_13 : decode method_4_code 13 = .ok (.aload_n 0, 1) := by decide +kernel
theorem d1_14 : decode method_4_code 14 = .ok (.iload_n 1, 1) := by decide +kernel
theorem d1_15 : decode method_4_code 15 = .ok (.iconst 1, 1) := by decide +kernel
theorem d1_16 : decode method_4_code 16 = .ok (.iadd, 1) := by decide +kernel
theorem d1_17 : decode method_4_code 17 = .ok (.lload_n 2, 1) := by decide +kernel
theorem d1_18 : decode method_4_code 18 = .ok (.iconst 1, 1) := by decide +kernel
theorem d1_19 : decode method_4_code 19 = .ok (.iload_n 1, 1) := by decide +kernel
theorem d1_20 : decode method_4_code 20 = .ok (.iconst 1, 1) := by decide +kernel
theorem d1_21 : decode method_4_code 21 = .ok (.iadd, 1) := by decide +kernel
theorem d1_22 : decode method_4_code 22 = .ok (.iload 4, 2) := by decide +kernel
theorem d1_24 : decode method_4_code 24 = .ok (.iload 5, 2) := by decide +kernel
theorem d1_26 : decode method_4_code 26 = .ok (.invokestatic 27, 3) := by decide +kernel
theorem d1_29 : decode method_4_code 29 = .ok (.bastore, 1) := by decide +kernel
theorem d1_30 : decode method_4_code 30 = .ok (.aload_n 0, 1) := by decide +kernel
theorem d1_31 : decode method_4_code 31 = .ok (.iload_n 1, 1) := by decide +kernel
theorem d1_32 : decode method_4_code 32 = .ok (.iconst 2, 1) := by decide +kernel
theorem d1_33 : decode method_4_code 33 = .ok (.iadd, 1) := by decide +kernel
theorem d1_34 : decode method_4_code 34 = .ok (.lload_n 2, 1) := by decide +kernel
theorem d1_35 : decode method_4_code 35 = .ok (.iconst 2, 1) := by decide +kernel
theorem d1_36 : decode method_4_code 36 = .ok (.iload_n 1, 1) := by decide +kernel
theorem d1_37 : decode method_4_code 37 = .ok (.iconst 2, 1) := by decide +kernel
theorem d1_38 : decode method_4_code 38 = .ok (.iadd, 1) := by decide +kernel
theorem d1_39 : decode method_4_code 39 = .ok (.iload 4, 2) := by decide +kernel
theorem d1_41 : decode method_4_code 41 = .ok (.iload 5, 2) := by decide +kernel
theorem d1_43 : decode method_4_code 43 = .ok (.invokestatic 27, 3) := by decide +kernel
theorem d1_46 : decode method_4_code 46 = .ok (.bastore, 1) := by decide +kernel
theorem d1_47 : decode method_4_code 47 = .ok (.aload_n 0, 1) := by decide +kernel
theorem d1_48 : decode method_4_code 48 = .ok (.iload_n 1, 1) := by decide +kernel
theorem d1_49 : decode method_4_code 49 = .ok (.iconst 3, 1) := by decide +kernel
theorem d1_50 : decode method_4_code 50 = .ok (.iadd, 1) := by decide +kernel
theorem d1_51 : decode method_4_code 51 = .ok (.lload_n 2, 1) := by decide +kernel
theorem d1_52 : decode method_4_code 52 = .ok (.iconst 3, 1) := by decide +kernel
theorem d1_53 : decode method_4_code 53 = .ok (.iload_n 1, 1) := by decide +kernel
theorem d1_54 : decode method_4_code 54 = .ok (.iconst 3, 1) := by decide +kernel
theorem d1_55 : decode method_4_code 55 = .ok (.iadd, 1) := by decide +kernel
theorem d1_56 : decode method_4_code 56 = .ok (.iload 4, 2) := by decide +kernel
theorem d1_58 : decode method_4_code 58 = .ok (.iload 5, 2) := by decide +kernel
theorem d1_60 : decode method_4_code 60 = .ok (.invokestatic 27, 3) := by decide +kernel
theorem d1_63 : decode method_4_code 63 = .ok (.bastore, 1) := by decide +kernel
theorem d1_64 : decode method_4_code 64 = .ok (.aload_n 0, 1) := by decide +kernel
theorem d1_65 : decode method_4_code 65 = .ok (.iload_n 1, 1) := by decide +kernel
theorem d1_66 : decode method_4_code 66 = .ok (.iconst 4, 1) := by decide +kernel
theorem d1_67 : decode method_4_code 67 = .ok (.iadd, 1) := by decide +kernel
theorem d1_68 : decode method_4_code 68 = .ok (.lload_n 2, 1) := by decide +kernel
theorem d1_69 : decode method_4_code 69 = .ok (.iconst 4, 1) := by decide +kernel
theorem d1_70 : decode method_4_code 70 = .ok (.iload_n 1, 1) := by decide +kernel
theorem d1_71 : decode method_4_code 71 = .ok (.iconst 4, 1) := by decide +kernel
theorem d1_72 : decode method_4_code 72 = .ok (.iadd, 1) := by decide +kernel
theorem d1_73 : decode method_4_code 73 = .ok (.iload 4, 2) := by decide +kernel
theorem d1_75 : decode method_4_code 75 = .ok (.iload 5, 2) := by decide +kernel
theorem d1_77 : decode method_4_code 77 = .ok (.invokestatic 27, 3) := by decide +kernel
theorem d1_80 : decode method_4_code 80 = .ok (.bastore, 1) := by decide +kernel
theorem d1_81 : decode method_4_code 81 = .ok (.aload_n 0, 1) := by decide +kernel
theorem d1_82 : decode method_4_code 82 = .ok (.iload_n 1, 1) := by decide +kernel
theorem d1_83 : decode method_4_code 83 = .ok (.iconst 5, 1) := by decide +kernel
theorem d1_84 : decode method_4_code 84 = .ok (.iadd, 1) := by decide +kernel
theorem d1_85 : decode method_4_code 85 = .ok (.lload_n 2, 1) := by decide +kernel
theorem d1_86 : decode method_4_code 86 = .ok (.iconst 5, 1) := by decide +kernel
theorem d1_87 : decode method_4_code 87 = .ok (.iload_n 1, 1) := by decide +kernel
theorem d1_88 : decode method_4_code 88 = .ok (.iconst 5, 1) := by decide +kernel
theorem d1_89 : decode method_4_code 89 = .ok (.iadd, 1) := by decide +kernel
theorem d1_90 : decode method_4_code 90 = .ok (.iload 4, 2) := by decide +kernel
theorem d1_92 : decode method_4_code 92 = .ok (.iload 5, 2) := by decide +kernel
theorem d1_94 : decode method_4_code 94 = .ok (.invokestatic 27, 3) := by decide +kernel
theorem d1_97 : decode method_4_code 97 = .ok (.bastore, 1) := by decide +kernel
theorem d1_98 : decode method_4_code 98 = .ok (.aload_n 0, 1) := by decide +kernel
theorem d1_99 : decode method_4_code 99 = .ok (.iload_n 1, 1) := by decide +kernel
theorem d1_100 : decode method_4_code 100 = .ok (.bipush 6, 2) := by decide +kernel
theorem d1_102 : decode method_4_code 102 = .ok (.iadd, 1) := by decide +kernel
theorem d1_103 : decode method_4_code 103 = .ok (.lload_n 2, 1) := by decide +kernel
theorem d1_104 : decode method_4_code 104 = .ok (.bipush 6, 2) := by decide +kernel
theorem d1_106 : decode method_4_code 106 = .ok (.iload_n 1, 1) := by decide +kernel
theorem d1_107 : decode method_4_code 107 = .ok (.bipush 6, 2) := by decide +kernel
theorem d1_109 : decode method_4_code 109 = .ok (.iadd, 1) := by decide +kernel
theorem d1_110 : decode method_4_code 110 = .ok (.iload 4, 2) := by decide +kernel
theorem d1_112 : decode method_4_code 112 = .ok (.iload 5, 2) := by decide +kernel
theorem d1_114 : decode method_4_code 114 = .ok (.invokestatic 27, 3) := by decide +kernel
theorem d1_117 : decode method_4_code 117 = .ok (.bastore, 1) := by decide +kernel
theorem d1_118 : decode method_4_code 118 = .ok (.aload_n 0, 1) := by decide +kernel
theorem d1_119 : decode method_4_code 119 = .ok (.iload_n 1, 1) := by decide +kernel
theorem d1_120 : decode method_4_code 120 = .ok (.bipush 7, 2) := by decide +kernel
theorem d1_122 : decode method_4_code 122 = .ok (.iadd, 1) := by decide +kernel
theorem d1_123 : decode method_4_code 123 = .ok (.lload_n 2, 1) := by decide +kernel
theorem d1_124 : decode method_4_code 124 = .ok (.bipush 7, 2) := by decide +kernel
theorem d1_126 : decode method_4_code 126 = .ok (.iload_n 1, 1) := by decide +kernel
theorem d1_127 : decode method_4_code 127 = .ok (.bipush 7, 2) := by decide +kernel
theorem d1_129 : decode method_4_code 129 = .ok (.iadd, 1) := by decide +kernel
theorem d1_130 : decode method_4_code 130 = .ok (.iload 4, 2) := by decide +kernel
theorem d1_132 : decode method_4_code 132 = .ok (.iload 5, 2) := by decide +kernel
theorem d1_134 : decode method_4_code 134 = .ok (.invokestatic 27, 3) := by decide +kernel
theorem d1_137 : decode method_4_code 137 = .ok (.bastore, 1) := by decide +kernel
theorem d1_138 : decode method_4_code 138 = .ok (.return_, 1) := by decide +kernel
theorem ef_rm1_0 (m : MethodId) (a1 : Addr) (q2 : Int64) (p4 : Int32) (p5 : Int32) : entryFrame m #[(.ref a1), (.int (0 : Int32)), (.long q2), (.int p4), (.int p5)] 6 = mkF m 0 #[.val (.ref a1), .val (.int (0 : Int32)), .val (.long q2), .second, .val (.int p4), .val (.int p5)] [] := by first | (simp [entryFrame, mkF, argsToLocals, Value.category]; done) | rfl
def Qrm1_0 (Z : State) (a1 : Addr) (q2 : Int64) (p4 : Int32) (p5 : Int32) (us : List Int32) (ka : ClassId) (h0 : Heap) (n0 : Nat) (v : Option Value) (h : Heap) (L : List Loc) : Prop := v = none ∧ Fr n0 L ∧ Keep h0 h [a1] ∧ Arv Z h a1 ka .byte (24 : Int32) ((own_fill 0 q2 p4 p5 us).map Value.int) (.int (0 : Int32))
set_option maxRecDepth 65536 in
set_option maxHeartbeats 40000000 in
theorem rm1_0 (l : Launch) (Z : State) (a0 : Array Value) (hw : ∀ d ∈ tables_1, d.before a0 Z = true) (ws : List Jvm.Cond) (a1 : Addr) (q2 : Int64) (p4 : Int32) (p5 : Int32) (us : List Int32) (ka : ClassId) (h0 : Heap) (n0 : Nat) (Z0 : n0 ≤ h0.size) (V1 : Arv Z h0 a1 ka .byte (24 : Int32) (us.map Value.int) (.int (0 : Int32))) (hl : us.length = 24) (g1 : n0 ≤ a1) :
    MetFree l (⟨"com/example/reshelve/reshelve/Utf8FirstFaultPinLaw", "fill8", "([BIJII)V"⟩ : MethodName) (head1 (Jvm.Cond.code (⟨"com/example/reshelve/reshelve/Utf8FirstFaultPinLaw", "fill8", "([BIJII)V"⟩ : MethodName) method_4_code 6 none :: ws) ({ frames := 1, cells := 0, slots := 0, locals := 20 } : Room)) (fun a U => a = #[(.ref a1), (.int (0 : Int32)), (.long q2), (.int p4), (.int p5)] ∧ Z.Warmed39 U.vm ∧ U.heap = h0) (fun _ _ _ _ _ => True) (fun _ U o U' => ∃ v L, o = .returned v ∧ Qrm1_0 Z a1 q2 p4 p5 us ka h0 n0 v U'.heap L ∧ FrameEnd U o U' L ({ frames := 1, cells := 0, slots := 0, locals := 20 } : Room).cells ({ frames := 1, cells := 0, slots := 0, locals := 20 } : Room).slots) := by
  refine MetFree.of_bodySF (plainFor_of_name pn_com_example_reshelve_reshelve_Utf8FirstFaultPinLaw) hisR ?_
  intro p e s m args below meth c s₁ Bd hml0 hP hK
  obtain ⟨rfl, hZ, hh⟩ := hP
  have hx := Bd.exec
  have hby := Bd.bytes
  have hml : c.maxLocals = 6 := hml0
  have hown : s.vm.findClass "com/example/reshelve/reshelve/Utf8FirstFaultPinLaw" = some m.cls := findClass_of_methodNamed Bd.named
  have hnm := (name_of_methodNamed Bd.named Bd.method).1
  have X0 : Stand p l e ({ frames := 1, cells := 0, slots := 0, locals := 20 } : Room) s m #[(.ref a1), (.int (0 : Int32)), (.long q2), (.int p4), (.int p5)] below meth c s₁ [] 0 0 := Stand.of_body Bd
  have e0 : s₁.heap = h0 := by rw [← hh, Bd.state]; rfl
  have N0 := Fr.nil n0
  have pre0 : ∀ t, Steps p.tables e below (s₁.setTop (mkF m 0 #[.val (.ref a1), .val (.int (0 : Int32)), .val (.long q2), .second, .val (.int p4), .val (.int p5)] [])) t → Steps p.tables e below (s₁.setTop (entryFrame m #[(.ref a1), (.int (0 : Int32)), (.long q2), (.int p4), (.int p5)] 6)) t := fun t k => castTop (ef_rm1_0 m a1 q2 p4 p5) k
  have K0 := Keep.refl h0 [a1]
  obtain ⟨_, _, ⟨T5, L5, k5, n5⟩, -, X5, ⟨Lc5, hQ5, l5, y5, z5⟩, st5⟩ := Jvm.LawKit.callS X0 hx (y := (⟨"com/example/reshelve/reshelve/Utf8FirstFaultPinLaw", "cell", "(JIIII)B"⟩ : MethodName)) hown (mvT hZ (hw _ (List.mem_of_getElem? (i := 5) rfl))) (mvT hZ (hw _ (List.mem_of_getElem? (i := 6) rfl))) (mvT hZ (hw _ (List.mem_of_getElem? (i := 3) rfl))) (mvT hZ (hw _ (List.mem_of_getElem? (i := 7) rfl))) (by decide) (backOf (W := 2) (rm2 l Z a0 hw [] q2 (0 : Int32) (0 : Int32) p4 p5  h0 n0 Z0 ) hZ (hw _ (List.mem_of_getElem? (i := 7) rfl)) (hw _ (List.mem_of_getElem? (i := 3) rfl)) (by decide) (by decide)) (g := (mkF m 9 #[.val (.ref a1), .val (.int (0 : Int32)), .val (.long q2), .second, .val (.int p4), .val (.int p5)] [(.int p5), (.int p4), (.int (0 : Int32)), (.int (0 : Int32)), (.long q2), (.int (0 : Int32)), (.ref a1)])) rfl (by rw [hml]; rfl) (argsL := [(.long q2), (.int (0 : Int32)), (.int (0 : Int32)), (.int p4), (.int p5)]) (rest := [(.int (0 : Int32)), (.ref a1)]) (lenOf pd__JIIII_B rfl) rfl (by show 2 * 0 + _ ≤ _; exact Nat.le_of_eq rfl) (hb hby d1_9) (fun _ _ => ⟨rfl, e0, (by decide : 0 + 0 ≤ _), (by decide : 0 + 0 ≤ _)⟩)
  dsimp only [Pt.U, Pt.locs, Pt.cells, Pt.slots] at X5 l5 y5 z5 st5 hQ5
  subst l5 y5 z5
  obtain ⟨rfl, N5q, e5⟩ := hQ5
  have N6 := Fr.app N0 N5q
  obtain ⟨c7, r7, q7, s7, n7, H7, G7⟩ := id V1
  have i7 : ¬ ((0 : Int32) < 0 ∨ c7.slots.size ≤ ((0 : Int32)).toNatClampNeg) := inb_of s7 ⟨by decide, by decide⟩
  obtain ⟨T7, h7, X7, e7, W7, st7⟩ := stB X5 hx hZ e5 r7 (j := (0 : Int32)) i7 (g := (mkF m 12 #[.val (.ref a1), .val (.int (0 : Int32)), .val (.long q2), .second, .val (.int p4), .val (.int p5)] [(.int (own_cell q2 (0 : Int32) (0 : Int32) p4 p5)), (.int (0 : Int32)), (.ref a1)])) rfl rfl (hb hby d1_12)
  have f8 := Arv.set r7 q7 s7 n7 H7 G7 (fits_nar_byte _) W7 0 rfl (by simp [hl])
  have Zn9 := Nat.le_trans Z0 (Keep.of_wr W7).1
  have N10 := Fr.snoc X7 N6 g1
  have K11 := K0.wr W7 (Or.inl (List.mem_of_getElem? (i := 0) rfl))
  have f12 : Arv Z h7 a1 ka .byte (24 : Int32) ((us.set 0 (nar .byte (own_cell q2 (0 : Int32) (0 : Int32) p4 p5))).map Value.int) (.int (0 : Int32)) := own_map_set ▸ f8
  obtain ⟨_, _, ⟨T13, L13, k13, n13⟩, -, X13, ⟨Lc13, hQ13, l13, y13, z13⟩, st13⟩ := Jvm.LawKit.callS X7 hx (y := (⟨"com/example/reshelve/reshelve/Utf8FirstFaultPinLaw", "cell", "(JIIII)B"⟩ : MethodName)) hown (mvT hZ (hw _ (List.mem_of_getElem? (i := 5) rfl))) (mvT hZ (hw _ (List.mem_of_getElem? (i := 6) rfl))) (mvT hZ (hw _ (List.mem_of_getElem? (i := 3) rfl))) (mvT hZ (hw _ (List.mem_of_getElem? (i := 7) rfl))) (by decide) (backOf (W := 2) (rm2 l Z a0 hw [] q2 (1 : Int32) (1 : Int32) p4 p5  h7 n0 Zn9 ) hZ (hw _ (List.mem_of_getElem? (i := 7) rfl)) (hw _ (List.mem_of_getElem? (i := 3) rfl)) (by decide) (by decide)) (g := (mkF m 26 #[.val (.ref a1), .val (.int (0 : Int32)), .val (.long q2), .second, .val (.int p4), .val (.int p5)] [(.int p5), (.int p4), (.int (1 : Int32)), (.int (1 : Int32)), (.long q2), (.int (1 : Int32)), (.ref a1)])) rfl (by rw [hml]; rfl) (argsL := [(.long q2), (.int (1 : Int32)), (.int (1 : Int32)), (.int p4), (.int p5)]) (rest := [(.int (1 : Int32)), (.ref a1)]) (lenOf pd__JIIII_B rfl) rfl (by show 2 * 0 + _ ≤ _; exact Nat.le_of_eq rfl) (hb hby d1_26) (fun _ _ => ⟨rfl, e7, (by decide : 0 + 0 ≤ _), (by decide : 0 + 0 ≤ _)⟩)
  dsimp only [Pt.U, Pt.locs, Pt.cells, Pt.slots] at X13 l13 y13 z13 st13 hQ13
  subst l13 y13 z13
  obtain ⟨rfl, N13q, e13⟩ := hQ13
  have N14 := Fr.app N10 N13q
  obtain ⟨c15, r15, q15, s15, n15, H15, G15⟩ := id f12
  have i15 : ¬ ((1 : Int32) < 0 ∨ c15.slots.size ≤ ((1 : Int32)).toNatClampNeg) := inb_of s15 ⟨by decide, by decide⟩
  obtain ⟨T15, h15, X15, e15, W15, st15⟩ := stB X13 hx hZ e13 r15 (j := (1 : Int32)) i15 (g := (mkF m 29 #[.val (.ref a1), .val (.int (0 : Int32)), .val (.long q2), .second, .val (.int p4), .val (.int p5)] [(.int (own_cell q2 (1 : Int32) (1 : Int32) p4 p5)), (.int (1 : Int32)), (.ref a1)])) rfl rfl (hb hby d1_29)
  have f16 := Arv.set r15 q15 s15 n15 H15 G15 (fits_nar_byte _) W15 1 rfl (by simp [hl])
  have Zn17 := Nat.le_trans Zn9 (Keep.of_wr W15).1
  have N18 := Fr.snoc X15 N14 g1
  have K19 := K11.wr W15 (Or.inl (List.mem_of_getElem? (i := 0) rfl))
  have f20 : Arv Z h15 a1 ka .byte (24 : Int32) (((us.set 0 (nar .byte (own_cell q2 (0 : Int32) (0 : Int32) p4 p5))).set 1 (nar .byte (own_cell q2 (1 : Int32) (1 : Int32) p4 p5))).map Value.int) (.int (0 : Int32)) := own_map_set ▸ f16
  obtain ⟨_, _, ⟨T21, L21, k21, n21⟩, -, X21, ⟨Lc21, hQ21, l21, y21, z21⟩, st21⟩ := Jvm.LawKit.callS X15 hx (y := (⟨"com/example/reshelve/reshelve/Utf8FirstFaultPinLaw", "cell", "(JIIII)B"⟩ : MethodName)) hown (mvT hZ (hw _ (List.mem_of_getElem? (i := 5) rfl))) (mvT hZ (hw _ (List.mem_of_getElem? (i := 6) rfl))) (mvT hZ (hw _ (List.mem_of_getElem? (i := 3) rfl))) (mvT hZ (hw _ (List.mem_of_getElem? (i := 7) rfl))) (by decide) (backOf (W := 2) (rm2 l Z a0 hw [] q2 (2 : Int32) (2 : Int32) p4 p5  h15 n0 Zn17 ) hZ (hw _ (List.mem_of_getElem? (i := 7) rfl)) (hw _ (List.mem_of_getElem? (i := 3) rfl)) (by decide) (by decide)) (g := (mkF m 43 #[.val (.ref a1), .val (.int (0 : Int32)), .val (.long q2), .second, .val (.int p4), .val (.int p5)] [(.int p5), (.int p4), (.int (2 : Int32)), (.int (2 : Int32)), (.long q2), (.int (2 : Int32)), (.ref a1)])) rfl (by rw [hml]; rfl) (argsL := [(.long q2), (.int (2 : Int32)), (.int (2 : Int32)), (.int p4), (.int p5)]) (rest := [(.int (2 : Int32)), (.ref a1)]) (lenOf pd__JIIII_B rfl) rfl (by show 2 * 0 + _ ≤ _; exact Nat.le_of_eq rfl) (hb hby d1_43) (fun _ _ => ⟨rfl, e15, (by decide : 0 + 0 ≤ _), (by decide : 0 + 0 ≤ _)⟩)
  dsimp only [Pt.U, Pt.locs, Pt.cells, Pt.slots] at X21 l21 y21 z21 st21 hQ21
  subst l21 y21 z21
  obtain ⟨rfl, N21q, e21⟩ := hQ21
  have N22 := Fr.app N18 N21q
  obtain ⟨c23, r23, q23, s23, n23, H23, G23⟩ := id f20
  have i23 : ¬ ((2 : Int32) < 0 ∨ c23.slots.size ≤ ((2 : Int32)).toNatClampNeg) := inb_of s23 ⟨by decide, by decide⟩
  obtain ⟨T23, h23, X23, e23, W23, st23⟩ := stB X21 hx hZ e21 r23 (j := (2 : Int32)) i23 (g := (mkF m 46 #[.val (.ref a1), .val (.int (0 : Int32)), .val (.long q2), .second, .val (.int p4), .val (.int p5)] [(.int (own_cell q2 (2 : Int32) (2 : Int32) p4 p5)), (.int (2 : Int32)), (.ref a1)])) rfl rfl (hb hby d1_46)
  have f24 := Arv.set r23 q23 s23 n23 H23 G23 (fits_nar_byte _) W23 2 rfl (by simp [hl])
  have Zn25 := Nat.le_trans Zn17 (Keep.of_wr W23).1
  have N26 := Fr.snoc X23 N22 g1
  have K27 := K19.wr W23 (Or.inl (List.mem_of_getElem? (i := 0) rfl))
  have f28 : Arv Z h23 a1 ka .byte (24 : Int32) ((((us.set 0 (nar .byte (own_cell q2 (0 : Int32) (0 : Int32) p4 p5))).set 1 (nar .byte (own_cell q2 (1 : Int32) (1 : Int32) p4 p5))).set 2 (nar .byte (own_cell q2 (2 : Int32) (2 : Int32) p4 p5))).map Value.int) (.int (0 : Int32)) := own_map_set ▸ f24
  obtain ⟨_, _, ⟨T29, L29, k29, n29⟩, -, X29, ⟨Lc29, hQ29, l29, y29, z29⟩, st29⟩ := Jvm.LawKit.callS X23 hx (y := (⟨"com/example/reshelve/reshelve/Utf8FirstFaultPinLaw", "cell", "(JIIII)B"⟩ : MethodName)) hown (mvT hZ (hw _ (List.mem_of_getElem? (i := 5) rfl))) (mvT hZ (hw _ (List.mem_of_getElem? (i := 6) rfl))) (mvT hZ (hw _ (List.mem_of_getElem? (i := 3) rfl))) (mvT hZ (hw _ (List.mem_of_getElem? (i := 7) rfl))) (by decide) (backOf (W := 2) (rm2 l Z a0 hw [] q2 (3 : Int32) (3 : Int32) p4 p5  h23 n0 Zn25 ) hZ (hw _ (List.mem_of_getElem? (i := 7) rfl)) (hw _ (List.mem_of_getElem? (i := 3) rfl)) (by decide) (by decide)) (g := (mkF m 60 #[.val (.ref a1), .val (.int (0 : Int32)), .val (.long q2), .second, .val (.int p4), .val (.int p5)] [(.int p5), (.int p4), (.int (3 : Int32)), (.int (3 : Int32)), (.long q2), (.int (3 : Int32)), (.ref a1)])) rfl (by rw [hml]; rfl) (argsL := [(.long q2), (.int (3 : Int32)), (.int (3 : Int32)), (.int p4), (.int p5)]) (rest := [(.int (3 : Int32)), (.ref a1)]) (lenOf pd__JIIII_B rfl) rfl (by show 2 * 0 + _ ≤ _; exact Nat.le_of_eq rfl) (hb hby d1_60) (fun _ _ => ⟨rfl, e23, (by decide : 0 + 0 ≤ _), (by decide : 0 + 0 ≤ _)⟩)
  dsimp only [Pt.U, Pt.locs, Pt.cells, Pt.slots] at X29 l29 y29 z29 st29 hQ29
  subst l29 y29 z29
  obtain ⟨rfl, N29q, e29⟩ := hQ29
  have N30 := Fr.app N26 N29q
  obtain ⟨c31, r31, q31, s31, n31, H31, G31⟩ := id f28
  have i31 : ¬ ((3 : Int32) < 0 ∨ c31.slots.size ≤ ((3 : Int32)).toNatClampNeg) := inb_of s31 ⟨by decide, by decide⟩
  obtain ⟨T31, h31, X31, e31, W31, st31⟩ := stB X29 hx hZ e29 r31 (j := (3 : Int32)) i31 (g := (mkF m 63 #[.val (.ref a1), .val (.int (0 : Int32)), .val (.long q2), .second, .val (.int p4), .val (.int p5)] [(.int (own_cell q2 (3 : Int32) (3 : Int32) p4 p5)), (.int (3 : Int32)), (.ref a1)])) rfl rfl (hb hby d1_63)
  have f32 := Arv.set r31 q31 s31 n31 H31 G31 (fits_nar_byte _) W31 3 rfl (by simp [hl])
  have Zn33 := Nat.le_trans Zn25 (Keep.of_wr W31).1
  have N34 := Fr.snoc X31 N30 g1
  have K35 := K27.wr W31 (Or.inl (List.mem_of_getElem? (i := 0) rfl))
  have f36 : Arv Z h31 a1 ka .byte (24 : Int32) (((((us.set 0 (nar .byte (own_cell q2 (0 : Int32) (0 : Int32) p4 p5))).set 1 (nar .byte (own_cell q2 (1 : Int32) (1 : Int32) p4 p5))).set 2 (nar .byte (own_cell q2 (2 : Int32) (2 : Int32) p4 p5))).set 3 (nar .byte (own_cell q2 (3 : Int32) (3 : Int32) p4 p5))).map Value.int) (.int (0 : Int32)) := own_map_set ▸ f32
  obtain ⟨_, _, ⟨T37, L37, k37, n37⟩, -, X37, ⟨Lc37, hQ37, l37, y37, z37⟩, st37⟩ := Jvm.LawKit.callS X31 hx (y := (⟨"com/example/reshelve/reshelve/Utf8FirstFaultPinLaw", "cell", "(JIIII)B"⟩ : MethodName)) hown (mvT hZ (hw _ (List.mem_of_getElem? (i := 5) rfl))) (mvT hZ (hw _ (List.mem_of_getElem? (i := 6) rfl))) (mvT hZ (hw _ (List.mem_of_getElem? (i := 3) rfl))) (mvT hZ (hw _ (List.mem_of_getElem? (i := 7) rfl))) (by decide) (backOf (W := 2) (rm2 l Z a0 hw [] q2 (4 : Int32) (4 : Int32) p4 p5  h31 n0 Zn33 ) hZ (hw _ (List.mem_of_getElem? (i := 7) rfl)) (hw _ (List.mem_of_getElem? (i := 3) rfl)) (by decide) (by decide)) (g := (mkF m 77 #[.val (.ref a1), .val (.int (0 : Int32)), .val (.long q2), .second, .val (.int p4), .val (.int p5)] [(.int p5), (.int p4), (.int (4 : Int32)), (.int (4 : Int32)), (.long q2), (.int (4 : Int32)), (.ref a1)])) rfl (by rw [hml]; rfl) (argsL := [(.long q2), (.int (4 : Int32)), (.int (4 : Int32)), (.int p4), (.int p5)]) (rest := [(.int (4 : Int32)), (.ref a1)]) (lenOf pd__JIIII_B rfl) rfl (by show 2 * 0 + _ ≤ _; exact Nat.le_of_eq rfl) (hb hby d1_77) (fun _ _ => ⟨rfl, e31, (by decide : 0 + 0 ≤ _), (by decide : 0 + 0 ≤ _)⟩)
  dsimp only [Pt.U, Pt.locs, Pt.cells, Pt.slots] at X37 l37 y37 z37 st37 hQ37
  subst l37 y37 z37
  obtain ⟨rfl, N37q, e37⟩ := hQ37
  have N38 := Fr.app N34 N37q
  obtain ⟨c39, r39, q39, s39, n39, H39, G39⟩ := id f36
  have i39 : ¬ ((4 : Int32) < 0 ∨ c39.slots.size ≤ ((4 : Int32)).toNatClampNeg) := inb_of s39 ⟨by decide, by decide⟩
  obtain ⟨T39, h39, X39, e39, W39, st39⟩ := stB X37 hx hZ e37 r39 (j := (4 : Int32)) i39 (g := (mkF m 80 #[.val (.ref a1), .val (.int (0 : Int32)), .val (.long q2), .second, .val (.int p4), .val (.int p5)] [(.int (own_cell q2 (4 : Int32) (4 : Int32) p4 p5)), (.int (4 : Int32)), (.ref a1)])) rfl rfl (hb hby d1_80)
  have f40 := Arv.set r39 q39 s39 n39 H39 G39 (fits_nar_byte _) W39 4 rfl (by simp [hl])
  have Zn41 := Nat.le_trans Zn33 (Keep.of_wr W39).1
  have N42 := Fr.snoc X39 N38 g1
  have K43 := K35.wr W39 (Or.inl (List.mem_of_getElem? (i := 0) rfl))
  have f44 : Arv Z h39 a1 ka .byte (24 : Int32) ((((((us.set 0 (nar .byte (own_cell q2 (0 : Int32) (0 : Int32) p4 p5))).set 1 (nar .byte (own_cell q2 (1 : Int32) (1 : Int32) p4 p5))).set 2 (nar .byte (own_cell q2 (2 : Int32) (2 : Int32) p4 p5))).set 3 (nar .byte (own_cell q2 (3 : Int32) (3 : Int32) p4 p5))).set 4 (nar .byte (own_cell q2 (4 : Int32) (4 : Int32) p4 p5))).map Value.int) (.int (0 : Int32)) := own_map_set ▸ f40
  obtain ⟨_, _, ⟨T45, L45, k45, n45⟩, -, X45, ⟨Lc45, hQ45, l45, y45, z45⟩, st45⟩ := Jvm.LawKit.callS X39 hx (y := (⟨"com/example/reshelve/reshelve/Utf8FirstFaultPinLaw", "cell", "(JIIII)B"⟩ : MethodName)) hown (mvT hZ (hw _ (List.mem_of_getElem? (i := 5) rfl))) (mvT hZ (hw _ (List.mem_of_getElem? (i := 6) rfl))) (mvT hZ (hw _ (List.mem_of_getElem? (i := 3) rfl))) (mvT hZ (hw _ (List.mem_of_getElem? (i := 7) rfl))) (by decide) (backOf (W := 2) (rm2 l Z a0 hw [] q2 (5 : Int32) (5 : Int32) p4 p5  h39 n0 Zn41 ) hZ (hw _ (List.mem_of_getElem? (i := 7) rfl)) (hw _ (List.mem_of_getElem? (i := 3) rfl)) (by decide) (by decide)) (g := (mkF m 94 #[.val (.ref a1), .val (.int (0 : Int32)), .val (.long q2), .second, .val (.int p4), .val (.int p5)] [(.int p5), (.int p4), (.int (5 : Int32)), (.int (5 : Int32)), (.long q2), (.int (5 : Int32)), (.ref a1)])) rfl (by rw [hml]; rfl) (argsL := [(.long q2), (.int (5 : Int32)), (.int (5 : Int32)), (.int p4), (.int p5)]) (rest := [(.int (5 : Int32)), (.ref a1)]) (lenOf pd__JIIII_B rfl) rfl (by show 2 * 0 + _ ≤ _; exact Nat.le_of_eq rfl) (hb hby d1_94) (fun _ _ => ⟨rfl, e39, (by decide : 0 + 0 ≤ _), (by decide : 0 + 0 ≤ _)⟩)
  dsimp only [Pt.U, Pt.locs, Pt.cells, Pt.slots] at X45 l45 y45 z45 st45 hQ45
  subst l45 y45 z45
  obtain ⟨rfl, N45q, e45⟩ := hQ45
  have N46 := Fr.app N42 N45q
  obtain ⟨c47, r47, q47, s47, n47, H47, G47⟩ := id f44
  have i47 : ¬ ((5 : Int32) < 0 ∨ c47.slots.size ≤ ((5 : Int32)).toNatClampNeg) := inb_of s47 ⟨by decide, by decide⟩
  obtain ⟨T47, h47, X47, e47, W47, st47⟩ := stB X45 hx hZ e45 r47 (j := (5 : Int32)) i47 (g := (mkF m 97 #[.val (.ref a1), .val (.int (0 : Int32)), .val (.long q2), .second, .val (.int p4), .val (.int p5)] [(.int (own_cell q2 (5 : Int32) (5 : Int32) p4 p5)), (.int (5 : Int32)), (.ref a1)])) rfl rfl (hb hby d1_97)
  have f48 := Arv.set r47 q47 s47 n47 H47 G47 (fits_nar_byte _) W47 5 rfl (by simp [hl])
  have Zn49 := Nat.le_trans Zn41 (Keep.of_wr W47).1
  have N50 := Fr.snoc X47 N46 g1
  have K51 := K43.wr W47 (Or.inl (List.mem_of_getElem? (i := 0) rfl))
  have f52 : Arv Z h47 a1 ka .byte (24 : Int32) (((((((us.set 0 (nar .byte (own_cell q2 (0 : Int32) (0 : Int32) p4 p5))).set 1 (nar .byte (own_cell q2 (1 : Int32) (1 : Int32) p4 p5))).set 2 (nar .byte (own_cell q2 (2 : Int32) (2 : Int32) p4 p5))).set 3 (nar .byte (own_cell q2 (3 : Int32) (3 : Int32) p4 p5))).set 4 (nar .byte (own_cell q2 (4 : Int32) (4 : Int32) p4 p5))).set 5 (nar .byte (own_cell q2 (5 : Int32) (5 : Int32) p4 p5))).map Value.int) (.int (0 : Int32)) := own_map_set ▸ f48
  obtain ⟨_, _, ⟨T53, L53, k53, n53⟩, -, X53, ⟨Lc53, hQ53, l53, y53, z53⟩, st53⟩ := Jvm.LawKit.callS X47 hx (y := (⟨"com/example/reshelve/reshelve/Utf8FirstFaultPinLaw", "cell", "(JIIII)B"⟩ : MethodName)) hown (mvT hZ (hw _ (List.mem_of_getElem? (i := 5) rfl))) (mvT hZ (hw _ (List.mem_of_getElem? (i := 6) rfl))) (mvT hZ (hw _ (List.mem_of_getElem? (i := 3) rfl))) (mvT hZ (hw _ (List.mem_of_getElem? (i := 7) rfl))) (by decide) (backOf (W := 2) (rm2 l Z a0 hw [] q2 (6 : Int32) (6 : Int32) p4 p5  h47 n0 Zn49 ) hZ (hw _ (List.mem_of_getElem? (i := 7) rfl)) (hw _ (List.mem_of_getElem? (i := 3) rfl)) (by decide) (by decide)) (g := (mkF m 114 #[.val (.ref a1), .val (.int (0 : Int32)), .val (.long q2), .second, .val (.int p4), .val (.int p5)] [(.int p5), (.int p4), (.int (6 : Int32)), (.int (6 : Int32)), (.long q2), (.int (6 : Int32)), (.ref a1)])) rfl (by rw [hml]; rfl) (argsL := [(.long q2), (.int (6 : Int32)), (.int (6 : Int32)), (.int p4), (.int p5)]) (rest := [(.int (6 : Int32)), (.ref a1)]) (lenOf pd__JIIII_B rfl) rfl (by show 2 * 0 + _ ≤ _; exact Nat.le_of_eq rfl) (hb hby d1_114) (fun _ _ => ⟨rfl, e47, (by decide : 0 + 0 ≤ _), (by decide : 0 + 0 ≤ _)⟩)
  dsimp only [Pt.U, Pt.locs, Pt.cells, Pt.slots] at X53 l53 y53 z53 st53 hQ53
  subst l53 y53 z53
  obtain ⟨rfl, N53q, e53⟩ := hQ53
  have N54 := Fr.app N50 N53q
  obtain ⟨c55, r55, q55, s55, n55, H55, G55⟩ := id f52
  have i55 : ¬ ((6 : Int32) < 0 ∨ c55.slots.size ≤ ((6 : Int32)).toNatClampNeg) := inb_of s55 ⟨by decide, by decide⟩
  obtain ⟨T55, h55, X55, e55, W55, st55⟩ := stB X53 hx hZ e53 r55 (j := (6 : Int32)) i55 (g := (mkF m 117 #[.val (.ref a1), .val (.int (0 : Int32)), .val (.long q2), .second, .val (.int p4), .val (.int p5)] [(.int (own_cell q2 (6 : Int32) (6 : Int32) p4 p5)), (.int (6 : Int32)), (.ref a1)])) rfl rfl (hb hby d1_117)
  have f56 := Arv.set r55 q55 s55 n55 H55 G55 (fits_nar_byte _) W55 6 rfl (by simp [hl])
  have Zn57 := Nat.le_trans Zn49 (Keep.of_wr W55).1
  have N58 := Fr.snoc X55 N54 g1
  have K59 := K51.wr W55 (Or.inl (List.mem_of_getElem? (i := 0) rfl))
  have f60 : Arv Z h55 a1 ka .byte (24 : Int32) ((((((((us.set 0 (nar .byte (own_cell q2 (0 : Int32) (0 : Int32) p4 p5))).set 1 (nar .byte (own_cell q2 (1 : Int32) (1 : Int32) p4 p5))).set 2 (nar .byte (own_cell q2 (2 : Int32) (2 : Int32) p4 p5))).set 3 (nar .byte (own_cell q2 (3 : Int32) (3 : Int32) p4 p5))).set 4 (nar .byte (own_cell q2 (4 : Int32) (4 : Int32) p4 p5))).set 5 (nar .byte (own_cell q2 (5 : Int32) (5 : Int32) p4 p5))).set 6 (nar .byte (own_cell q2 (6 : Int32) (6 : Int32) p4 p5))).map Value.int) (.int (0 : Int32)) := own_map_set ▸ f56
  obtain ⟨_, _, ⟨T61, L61, k61, n61⟩, -, X61, ⟨Lc61, hQ61, l61, y61, z61⟩, st61⟩ := Jvm.LawKit.callS X55 hx (y := (⟨"com/example/reshelve/reshelve/Utf8FirstFaultPinLaw", "cell", "(JIIII)B"⟩ : MethodName)) hown (mvT hZ (hw _ (List.mem_of_getElem? (i := 5) rfl))) (mvT hZ (hw _ (List.mem_of_getElem? (i := 6) rfl))) (mvT hZ (hw _ (List.mem_of_getElem? (i := 3) rfl))) (mvT hZ (hw _ (List.mem_of_getElem? (i := 7) rfl))) (by decide) (backOf (W := 2) (rm2 l Z a0 hw [] q2 (7 : Int32) (7 : Int32) p4 p5  h55 n0 Zn57 ) hZ (hw _ (List.mem_of_getElem? (i := 7) rfl)) (hw _ (List.mem_of_getElem? (i := 3) rfl)) (by decide) (by decide)) (g := (mkF m 134 #[.val (.ref a1), .val (.int (0 : Int32)), .val (.long q2), .second, .val (.int p4), .val (.int p5)] [(.int p5), (.int p4), (.int (7 : Int32)), (.int (7 : Int32)), (.long q2), (.int (7 : Int32)), (.ref a1)])) rfl (by rw [hml]; rfl) (argsL := [(.long q2), (.int (7 : Int32)), (.int (7 : Int32)), (.int p4), (.int p5)]) (rest := [(.int (7 : Int32)), (.ref a1)]) (lenOf pd__JIIII_B rfl) rfl (by show 2 * 0 + _ ≤ _; exact Nat.le_of_eq rfl) (hb hby d1_134) (fun _ _ => ⟨rfl, e55, (by decide : 0 + 0 ≤ _), (by decide : 0 + 0 ≤ _)⟩)
  dsimp only [Pt.U, Pt.locs, Pt.cells, Pt.slots] at X61 l61 y61 z61 st61 hQ61
  subst l61 y61 z61
  obtain ⟨rfl, N61q, e61⟩ := hQ61
  have N62 := Fr.app N58 N61q
  obtain ⟨c63, r63, q63, s63, n63, H63, G63⟩ := id f60
  have i63 : ¬ ((7 : Int32) < 0 ∨ c63.slots.size ≤ ((7 : Int32)).toNatClampNeg) := inb_of s63 ⟨by decide, by decide⟩
  obtain ⟨T63, h63, X63, e63, W63, st63⟩ := stB X61 hx hZ e61 r63 (j := (7 : Int32)) i63 (g := (mkF m 137 #[.val (.ref a1), .val (.int (0 : Int32)), .val (.long q2), .second, .val (.int p4), .val (.int p5)] [(.int (own_cell q2 (7 : Int32) (7 : Int32) p4 p5)), (.int (7 : Int32)), (.ref a1)])) rfl rfl (hb hby d1_137)
  have f64 := Arv.set r63 q63 s63 n63 H63 G63 (fits_nar_byte _) W63 7 rfl (by simp [hl])
  have Zn65 := Nat.le_trans Zn57 (Keep.of_wr W63).1
  have N66 := Fr.snoc X63 N62 g1
  have K67 := K59.wr W63 (Or.inl (List.mem_of_getElem? (i := 0) rfl))
  have f68 : Arv Z h63 a1 ka .byte (24 : Int32) (((((((((us.set 0 (nar .byte (own_cell q2 (0 : Int32) (0 : Int32) p4 p5))).set 1 (nar .byte (own_cell q2 (1 : Int32) (1 : Int32) p4 p5))).set 2 (nar .byte (own_cell q2 (2 : Int32) (2 : Int32) p4 p5))).set 3 (nar .byte (own_cell q2 (3 : Int32) (3 : Int32) p4 p5))).set 4 (nar .byte (own_cell q2 (4 : Int32) (4 : Int32) p4 p5))).set 5 (nar .byte (own_cell q2 (5 : Int32) (5 : Int32) p4 p5))).set 6 (nar .byte (own_cell q2 (6 : Int32) (6 : Int32) p4 p5))).set 7 (nar .byte (own_cell q2 (7 : Int32) (7 : Int32) p4 p5))).map Value.int) (.int (0 : Int32)) := own_map_set ▸ f64
  obtain ⟨fs, hr, hrun, hended, hW, hsame⟩ := X63.leave (v := none) (fun _ => rfl)
  refine ⟨_, _, pre0 _ ?_, hrun, hended, _, _, rfl, ?_, ⟨_, rfl⟩, hW, hsame.mono (by decide) (by decide)⟩
  · show Steps p.tables e below (s₁.setTop (mkF m 0 #[.val (.ref a1), .val (.int (0 : Int32)), .val (.long q2), .second, .val (.int p4), .val (.int p5)] [])) _
    refine XS.aloadN X0.here hx rfl (hb hby d1_0) rfl rfl ?_
    show Steps p.tables e below (s₁.setTop (mkF m 1 #[.val (.ref a1), .val (.int (0 : Int32)), .val (.long q2), .second, .val (.int p4), .val (.int p5)] [(.ref a1)])) _
    refine XS.iloadN X0.here hx rfl (hb hby d1_1) rfl ?_
    show Steps p.tables e below (s₁.setTop (mkF m 2 #[.val (.ref a1), .val (.int (0 : Int32)), .val (.long q2), .second, .val (.int p4), .val (.int p5)] [(.int (0 : Int32)), (.ref a1)])) _
    refine XS.lloadN X0.here hx rfl (hb hby d1_2) rfl ?_
    show Steps p.tables e below (s₁.setTop (mkF m 3 #[.val (.ref a1), .val (.int (0 : Int32)), .val (.long q2), .second, .val (.int p4), .val (.int p5)] [(.long q2), (.int (0 : Int32)), (.ref a1)])) _
    refine XS.iconst X0.here hx rfl (hb hby d1_3) ?_
    show Steps p.tables e below (s₁.setTop (mkF m 4 #[.val (.ref a1), .val (.int (0 : Int32)), .val (.long q2), .second, .val (.int p4), .val (.int p5)] [(.int (0 : Int32)), (.long q2), (.int (0 : Int32)), (.ref a1)])) _
    refine XS.iloadN X0.here hx rfl (hb hby d1_4) rfl ?_
    show Steps p.tables e below (s₁.setTop (mkF m 5 #[.val (.ref a1), .val (.int (0 : Int32)), .val (.long q2), .second, .val (.int p4), .val (.int p5)] [(.int (0 : Int32)), (.int (0 : Int32)), (.long q2), (.int (0 : Int32)), (.ref a1)])) _
    refine XS.iload X0.here hx rfl (hb hby d1_5) rfl ?_
    show Steps p.tables e below (s₁.setTop (mkF m 7 #[.val (.ref a1), .val (.int (0 : Int32)), .val (.long q2), .second, .val (.int p4), .val (.int p5)] [(.int p4), (.int (0 : Int32)), (.int (0 : Int32)), (.long q2), (.int (0 : Int32)), (.ref a1)])) _
    refine XS.iload X0.here hx rfl (hb hby d1_7) rfl ?_
    show Steps p.tables e below (s₁.setTop (mkF m 9 #[.val (.ref a1), .val (.int (0 : Int32)), .val (.long q2), .second, .val (.int p4), .val (.int p5)] [(.int p5), (.int p4), (.int (0 : Int32)), (.int (0 : Int32)), (.long q2), (.int (0 : Int32)), (.ref a1)])) _
    refine st5 _ ?_
    show Steps p.tables e below (T5.setTop (mkF m 12 #[.val (.ref a1), .val (.int (0 : Int32)), .val (.long q2), .second, .val (.int p4), .val (.int p5)] [(.int (own_cell q2 (0 : Int32) (0 : Int32) p4 p5)), (.int (0 : Int32)), (.ref a1)])) _
    refine st7 _ ?_
    show Steps p.tables e below (T7.setTop (mkF m 13 #[.val (.ref a1), .val (.int (0 : Int32)), .val (.long q2), .second, .val (.int p4), .val (.int p5)] [])) _
    refine XS.aloadN X7.here hx rfl (hb hby d1_13) rfl rfl ?_
    show Steps p.tables e below (T7.setTop (mkF m 14 #[.val (.ref a1), .val (.int (0 : Int32)), .val (.long q2), .second, .val (.int p4), .val (.int p5)] [(.ref a1)])) _
    refine XS.iloadN X7.here hx rfl (hb hby d1_14) rfl ?_
    show Steps p.tables e below (T7.setTop (mkF m 15 #[.val (.ref a1), .val (.int (0 : Int32)), .val (.long q2), .second, .val (.int p4), .val (.int p5)] [(.int (0 : Int32)), (.ref a1)])) _
    refine XS.iconst X7.here hx rfl (hb hby d1_15) ?_
    show Steps p.tables e below (T7.setTop (mkF m 16 #[.val (.ref a1), .val (.int (0 : Int32)), .val (.long q2), .second, .val (.int p4), .val (.int p5)] [(.int (1 : Int32)), (.int (0 : Int32)), (.ref a1)])) _
    refine XS.iadd X7.here hx rfl (hb hby d1_16) rfl ?_
    show Steps p.tables e below (T7.setTop (mkF m 17 #[.val (.ref a1), .val (.int (0 : Int32)), .val (.long q2), .second, .val (.int p4), .val (.int p5)] [(.int (1 : Int32)), (.ref a1)])) _
    refine XS.lloadN X7.here hx rfl (hb hby d1_17) rfl ?_
    show Steps p.tables e below (T7.setTop (mkF m 18 #[.val (.ref a1), .val (.int (0 : Int32)), .val (.long q2), .second, .val (.int p4), .val (.int p5)] [(.long q2), (.int (1 : Int32)), (.ref a1)])) _
    refine XS.iconst X7.here hx rfl (hb hby d1_18) ?_
    show Steps p.tables e below (T7.setTop (mkF m 19 #[.val (.ref a1), .val (.int (0 : Int32)), .val (.long q2), .second, .val (.int p4), .val (.int p5)] [(.int (1 : Int32)), (.long q2), (.int (1 : Int32)), (.ref a1)])) _
    refine XS.iloadN X7.here hx rfl (hb hby d1_19) rfl ?_
    show Steps p.tables e below (T7.setTop (mkF m 20 #[.val (.ref a1), .val (.int (0 : Int32)), .val (.long q2), .second, .val (.int p4), .val (.int p5)] [(.int (0 : Int32)), (.int (1 : Int32)), (.long q2), (.int (1 : Int32)), (.ref a1)])) _
    refine XS.iconst X7.here hx rfl (hb hby d1_20) ?_
    show Steps p.tables e below (T7.setTop (mkF m 21 #[.val (.ref a1), .val (.int (0 : Int32)), .val (.long q2), .second, .val (.int p4), .val (.int p5)] [(.int (1 : Int32)), (.int (0 : Int32)), (.int (1 : Int32)), (.long q2), (.int (1 : Int32)), (.ref a1)])) _
    refine XS.iadd X7.here hx rfl (hb hby d1_21) rfl ?_
    show Steps p.tables e below (T7.setTop (mkF m 22 #[.val (.ref a1), .val (.int (0 : Int32)), .val (.long q2), .second, .val (.int p4), .val (.int p5)] [(.int (1 : Int32)), (.int (1 : Int32)), (.long q2), (.int (1 : Int32)), (.ref a1)])) _
    refine XS.iload X7.here hx rfl (hb hby d1_22) rfl ?_
    show Steps p.tables e below (T7.setTop (mkF m 24 #[.val (.ref a1), .val (.int (0 : Int32)), .val (.long q2), .second, .val (.int p4), .val (.int p5)] [(.int p4), (.int (1 : Int32)), (.int (1 : Int32)), (.long q2), (.int (1 : Int32)), (.ref a1)])) _
    refine XS.iload X7.here hx rfl (hb hby d1_24) rfl ?_
    show Steps p.tables e below (T7.setTop (mkF m 26 #[.val (.ref a1), .val (.int (0 : Int32)), .val (.long q2), .second, .val (.int p4), .val (.int p5)] [(.int p5), (.int p4), (.int (1 : Int32)), (.int (1 : Int32)), (.long q2), (.int (1 : Int32)), (.ref a1)])) _
    refine st13 _ ?_
    show Steps p.tables e below (T13.setTop (mkF m 29 #[.val (.ref a1), .val (.int (0 : Int32)), .val (.long q2), .second, .val (.int p4), .val (.int p5)] [(.int (own_cell q2 (1 : Int32) (1 : Int32) p4 p5)), (.int (1 : Int32)), (.ref a1)])) _
    refine st15 _ ?_
    show Steps p.tables e below (T15.setTop (mkF m 30 #[.val (.ref a1), .val (.int (0 : Int32)), .val (.long q2), .second, .val (.int p4), .val (.int p5)] [])) _
    refine XS.aloadN X15.here hx rfl (hb hby d1_30) rfl rfl ?_
    show Steps p.tables e below (T15.setTop (mkF m 31 #[.val (.ref a1), .val (.int (0 : Int32)), .val (.long q2), .second, .val (.int p4), .val (.int p5)] [(.ref a1)])) _
    refine XS.iloadN X15.here hx rfl (hb hby d1_31) rfl ?_
    show Steps p.tables e below (T15.setTop (mkF m 32 #[.val (.ref a1), .val (.int (0 : Int32)), .val (.long q2), .second, .val (.int p4), .val (.int p5)] [(.int (0 : Int32)), (.ref a1)])) _
    refine XS.iconst X15.here hx rfl (hb hby d1_32) ?_
    show Steps p.tables e below (T15.setTop (mkF m 33 #[.val (.ref a1), .val (.int (0 : Int32)), .val (.long q2), .second, .val (.int p4), .val (.int p5)] [(.int (2 : Int32)), (.int (0 : Int32)), (.ref a1)])) _
    refine XS.iadd X15.here hx rfl (hb hby d1_33) rfl ?_
    show Steps p.tables e below (T15.setTop (mkF m 34 #[.val (.ref a1), .val (.int (0 : Int32)), .val (.long q2), .second, .val (.int p4), .val (.int p5)] [(.int (2 : Int32)), (.ref a1)])) _
    refine XS.lloadN X15.here hx rfl (hb hby d1_34) rfl ?_
    show Steps p.tables e below (T15.setTop (mkF m 35 #[.val (.ref a1), .val (.int (0 : Int32)), .val (.long q2), .second, .val (.int p4), .val (.int p5)] [(.long q2), (.int (2 : Int32)), (.ref a1)])) _
    refine XS.iconst X15.here hx rfl (hb hby d1_35) ?_
    show Steps p.tables e below (T15.setTop (mkF m 36 #[.val (.ref a1), .val (.int (0 : Int32)), .val (.long q2), .second, .val (.int p4), .val (.int p5)] [(.int (2 : Int32)), (.long q2), (.int (2 : Int32)), (.ref a1)])) _
    refine XS.iloadN X15.here hx rfl (hb hby d1_36) rfl ?_
    show Steps p.tables e below (T15.setTop (mkF m 37 #[.val (.ref a1), .val (.int (0 : Int32)), .val (.long q2), .second, .val (.int p4), .val (.int p5)] [(.int (0 : Int32)), (.int (2 : Int32)), (.long q2), (.int (2 : Int32)), (.ref a1)])) _
    refine XS.iconst X15.here hx rfl (hb hby d1_37) ?_
    show Steps p.tables e below (T15.setTop (mkF m 38 #[.val (.ref a1), .val (.int (0 : Int32)), .val (.long q2), .second, .val (.int p4), .val (.int p5)] [(.int (2 : Int32)), (.int (0 : Int32)), (.int (2 : Int32)), (.long q2), (.int (2 : Int32)), (.ref a1)])) _
    refine XS.iadd X15.here hx rfl (hb hby d1_38) rfl ?_
    show Steps p.tables e below (T15.setTop (mkF m 39 #[.val (.ref a1), .val (.int (0 : Int32)), .val (.long q2), .second, .val (.int p4), .val (.int p5)] [(.int (2 : Int32)), (.int (2 : Int32)), (.long q2), (.int (2 : Int32)), (.ref a1)])) _
    refine XS.iload X15.here hx rfl (hb hby d1_39) rfl ?_
    show Steps p.tables e below (T15.setTop (mkF m 41 #[.val (.ref a1), .val (.int (0 : Int32)), .val (.long q2), .second, .val (.int p4), .val (.int p5)] [(.int p4), (.int (2 : Int32)), (.int (2 : Int32)), (.long q2), (.int (2 : Int32)), (.ref a1)])) _
    refine XS.iload X15.here hx rfl (hb hby d1_41) rfl ?_
    show Steps p.tables e below (T15.setTop (mkF m 43 #[.val (.ref a1), .val (.int (0 : Int32)), .val (.long q2), .second, .val (.int p4), .val (.int p5)] [(.int p5), (.int p4), (.int (2 : Int32)), (.int (2 : Int32)), (.long q2), (.int (2 : Int32)), (.ref a1)])) _
    refine st21 _ ?_
    show Steps p.tables e below (T21.setTop (mkF m 46 #[.val (.ref a1), .val (.int (0 : Int32)), .val (.long q2), .second, .val (.int p4), .val (.int p5)] [(.int (own_cell q2 (2 : Int32) (2 : Int32) p4 p5)), (.int (2 : Int32)), (.ref a1)])) _
    refine st23 _ ?_
    show Steps p.tables e below (T23.setTop (mkF m 47 #[.val (.ref a1), .val (.int (0 : Int32)), .val (.long q2), .second, .val (.int p4), .val (.int p5)] [])) _
    refine XS.aloadN X23.here hx rfl (hb hby d1_47) rfl rfl ?_
    show Steps p.tables e below (T23.setTop (mkF m 48 #[.val (.ref a1), .val (.int (0 : Int32)), .val (.long q2), .second, .val (.int p4), .val (.int p5)] [(.ref a1)])) _
    refine XS.iloadN X23.here hx rfl (hb hby d1_48) rfl ?_
    show Steps p.tables e below (T23.setTop (mkF m 49 #[.val (.ref a1), .val (.int (0 : Int32)), .val (.long q2), .second, .val (.int p4), .val (.int p5)] [(.int (0 : Int32)), (.ref a1)])) _
    refine XS.iconst X23.here hx rfl (hb hby d1_49) ?_
    show Steps p.tables e below (T23.setTop (mkF m 50 #[.val (.ref a1), .val (.int (0 : Int32)), .val (.long q2), .second, .val (.int p4), .val (.int p5)] [(.int (3 : Int32)), (.int (0 : Int32)), (.ref a1)])) _
    refine XS.iadd X23.here hx rfl (hb hby d1_50) rfl ?_
    show Steps p.tables e below (T23.setTop (mkF m 51 #[.val (.ref a1), .val (.int (0 : Int32)), .val (.long q2), .second, .val (.int p4), .val (.int p5)] [(.int (3 : Int32)), (.ref a1)])) _
    refine XS.lloadN X23.here hx rfl (hb hby d1_51) rfl ?_
    show Steps p.tables e below (T23.setTop (mkF m 52 #[.val (.ref a1), .val (.int (0 : Int32)), .val (.long q2), .second, .val (.int p4), .val (.int p5)] [(.long q2), (.int (3 : Int32)), (.ref a1)])) _
    refine XS.iconst X23.here hx rfl (hb hby d1_52) ?_
    show Steps p.tables e below (T23.setTop (mkF m 53 #[.val (.ref a1), .val (.int (0 : Int32)), .val (.long q2), .second, .val (.int p4), .val (.int p5)] [(.int (3 : Int32)), (.long q2), (.int (3 : Int32)), (.ref a1)])) _
    refine XS.iloadN X23.here hx rfl (hb hby d1_53) rfl ?_
    show Steps p.tables e below (T23.setTop (mkF m 54 #[.val (.ref a1), .val (.int (0 : Int32)), .val (.long q2), .second, .val (.int p4), .val (.int p5)] [(.int (0 : Int32)), (.int (3 : Int32)), (.long q2), (.int (3 : Int32)), (.ref a1)])) _
    refine XS.iconst X23.here hx rfl (hb hby d1_54) ?_
    show Steps p.tables e below (T23.setTop (mkF m 55 #[.val (.ref a1), .val (.int (0 : Int32)), .val (.long q2), .second, .val (.int p4), .val (.int p5)] [(.int (3 : Int32)), (.int (0 : Int32)), (.int (3 : Int32)), (.long q2), (.int (3 : Int32)), (.ref a1)])) _
    refine XS.iadd X23.here hx rfl (hb hby d1_55) rfl ?_
    show Steps p.tables e below (T23.setTop (mkF m 56 #[.val (.ref a1), .val (.int (0 : Int32)), .val (.long q2), .second, .val (.int p4), .val (.int p5)] [(.int (3 : Int32)), (.int (3 : Int32)), (.long q2), (.int (3 : Int32)), (.ref a1)])) _
    refine XS.iload X23.here hx rfl (hb hby d1_56) rfl ?_
    show Steps p.tables e below (T23.setTop (mkF m 58 #[.val (.ref a1), .val (.int (0 : Int32)), .val (.long q2), .second, .val (.int p4), .val (.int p5)] [(.int p4), (.int (3 : Int32)), (.int (3 : Int32)), (.long q2), (.int (3 : Int32)), (.ref a1)])) _
    refine XS.iload X23.here hx rfl (hb hby d1_58) rfl ?_
    show Steps p.tables e below (T23.setTop (mkF m 60 #[.val (.ref a1), .val (.int (0 : Int32)), .val (.long q2), .second, .val (.int p4), .val (.int p5)] [(.int p5), (.int p4), (.int (3 : Int32)), (.int (3 : Int32)), (.long q2), (.int (3 : Int32)), (.ref a1)])) _
    refine st29 _ ?_
    show Steps p.tables e below (T29.setTop (mkF m 63 #[.val (.ref a1), .val (.int (0 : Int32)), .val (.long q2), .second, .val (.int p4), .val (.int p5)] [(.int (own_cell q2 (3 : Int32) (3 : Int32) p4 p5)), (.int (3 : Int32)), (.ref a1)])) _
    refine st31 _ ?_
    show Steps p.tables e below (T31.setTop (mkF m 64 #[.val (.ref a1), .val (.int (0 : Int32)), .val (.long q2), .second, .val (.int p4), .val (.int p5)] [])) _
    refine XS.aloadN X31.here hx rfl (hb hby d1_64) rfl rfl ?_
    show Steps p.tables e below (T31.setTop (mkF m 65 #[.val (.ref a1), .val (.int (0 : Int32)), .val (.long q2), .second, .val (.int p4), .val (.int p5)] [(.ref a1)])) _
    refine XS.iloadN X31.here hx rfl (hb hby d1_65) rfl ?_
    show Steps p.tables e below (T31.setTop (mkF m 66 #[.val (.ref a1), .val (.int (0 : Int32)), .val (.long q2), .second, .val (.int p4), .val (.int p5)] [(.int (0 : Int32)), (.ref a1)])) _
    refine XS.iconst X31.here hx rfl (hb hby d1_66) ?_
    show Steps p.tables e below (T31.setTop (mkF m 67 #[.val (.ref a1), .val (.int (0 : Int32)), .val (.long q2), .second, .val (.int p4), .val (.int p5)] [(.int (4 : Int32)), (.int (0 : Int32)), (.ref a1)])) _
    refine XS.iadd X31.here hx rfl (hb hby d1_67) rfl ?_
    show Steps p.tables e below (T31.setTop (mkF m 68 #[.val (.ref a1), .val (.int (0 : Int32)), .val (.long q2), .second, .val (.int p4), .val (.int p5)] [(.int (4 : Int32)), (.ref a1)])) _
    refine XS.lloadN X31.here hx rfl (hb hby d1_68) rfl ?_
    show Steps p.tables e below (T31.setTop (mkF m 69 #[.val (.ref a1), .val (.int (0 : Int32)), .val (.long q2), .second, .val (.int p4), .val (.int p5)] [(.long q2), (.int (4 : Int32)), (.ref a1)])) _
    refine XS.iconst X31.here hx rfl (hb hby d1_69) ?_
    show Steps p.tables e below (T31.setTop (mkF m 70 #[.val (.ref a1), .val (.int (0 : Int32)), .val (.long q2), .second, .val (.int p4), .val (.int p5)] [(.int (4 : Int32)), (.long q2), (.int (4 : Int32)), (.ref a1)])) _
    refine XS.iloadN X31.here hx rfl (hb hby d1_70) rfl ?_
    show Steps p.tables e below (T31.setTop (mkF m 71 #[.val (.ref a1), .val (.int (0 : Int32)), .val (.long q2), .second, .val (.int p4), .val (.int p5)] [(.int (0 : Int32)), (.int (4 : Int32)), (.long q2), (.int (4 : Int32)), (.ref a1)])) _
    refine XS.iconst X31.here hx rfl (hb hby d1_71) ?_
    show Steps p.tables e below (T31.setTop (mkF m 72 #[.val (.ref a1), .val (.int (0 : Int32)), .val (.long q2), .second, .val (.int p4), .val (.int p5)] [(.int (4 : Int32)), (.int (0 : Int32)), (.int (4 : Int32)), (.long q2), (.int (4 : Int32)), (.ref a1)])) _
    refine XS.iadd X31.here hx rfl (hb hby d1_72) rfl ?_
    show Steps p.tables e below (T31.setTop (mkF m 73 #[.val (.ref a1), .val (.int (0 : Int32)), .val (.long q2), .second, .val (.int p4), .val (.int p5)] [(.int (4 : Int32)), (.int (4 : Int32)), (.long q2), (.int (4 : Int32)), (.ref a1)])) _
    refine XS.iload X31.here hx rfl (hb hby d1_73) rfl ?_
    show Steps p.tables e below (T31.setTop (mkF m 75 #[.val (.ref a1), .val (.int (0 : Int32)), .val (.long q2), .second, .val (.int p4), .val (.int p5)] [(.int p4), (.int (4 : Int32)), (.int (4 : Int32)), (.long q2), (.int (4 : Int32)), (.ref a1)])) _
    refine XS.iload X31.here hx rfl (hb hby d1_75) rfl ?_
    show Steps p.tables e below (T31.setTop (mkF m 77 #[.val (.ref a1), .val (.int (0 : Int32)), .val (.long q2), .second, .val (.int p4), .val (.int p5)] [(.int p5), (.int p4), (.int (4 : Int32)), (.int (4 : Int32)), (.long q2), (.int (4 : Int32)), (.ref a1)])) _
    refine st37 _ ?_
    show Steps p.tables e below (T37.setTop (mkF m 80 #[.val (.ref a1), .val (.int (0 : Int32)), .val (.long q2), .second, .val (.int p4), .val (.int p5)] [(.int (own_cell q2 (4 : Int32) (4 : Int32) p4 p5)), (.int (4 : Int32)), (.ref a1)])) _
    refine st39 _ ?_
    show Steps p.tables e below (T39.setTop (mkF m 81 #[.val (.ref a1), .val (.int (0 : Int32)), .val (.long q2), .second, .val (.int p4), .val (.int p5)] [])) _
    refine XS.aloadN X39.here hx rfl (hb hby d1_81) rfl rfl ?_
    show Steps p.tables e below (T39.setTop (mkF m 82 #[.val (.ref a1), .val (.int (0 : Int32)), .val (.long q2), .second, .val (.int p4), .val (.int p5)] [(.ref a1)])) _
    refine XS.iloadN X39.here hx rfl (hb hby d1_82) rfl ?_
    show Steps p.tables e below (T39.setTop (mkF m 83 #[.val (.ref a1), .val (.int (0 : Int32)), .val (.long q2), .second, .val (.int p4), .val (.int p5)] [(.int (0 : Int32)), (.ref a1)])) _
    refine XS.iconst X39.here hx rfl (hb hby d1_83) ?_
    show Steps p.tables e below (T39.setTop (mkF m 84 #[.val (.ref a1), .val (.int (0 : Int32)), .val (.long q2), .second, .val (.int p4), .val (.int p5)] [(.int (5 : Int32)), (.int (0 : Int32)), (.ref a1)])) _
    refine XS.iadd X39.here hx rfl (hb hby d1_84) rfl ?_
    show Steps p.tables e below (T39.setTop (mkF m 85 #[.val (.ref a1), .val (.int (0 : Int32)), .val (.long q2), .second, .val (.int p4), .val (.int p5)] [(.int (5 : Int32)), (.ref a1)])) _
    refine XS.lloadN X39.here hx rfl (hb hby d1_85) rfl ?_
    show Steps p.tables e below (T39.setTop (mkF m 86 #[.val (.ref a1), .val (.int (0 : Int32)), .val (.long q2), .second, .val (.int p4), .val (.int p5)] [(.long q2), (.int (5 : Int32)), (.ref a1)])) _
    refine XS.iconst X39.here hx rfl (hb hby d1_86) ?_
    show Steps p.tables e below (T39.setTop (mkF m 87 #[.val (.ref a1), .val (.int (0 : Int32)), .val (.long q2), .second, .val (.int p4), .val (.int p5)] [(.int (5 : Int32)), (.long q2), (.int (5 : Int32)), (.ref a1)])) _
    refine XS.iloadN X39.here hx rfl (hb hby d1_87) rfl ?_
    show Steps p.tables e below (T39.setTop (mkF m 88 #[.val (.ref a1), .val (.int (0 : Int32)), .val (.long q2), .second, .val (.int p4), .val (.int p5)] [(.int (0 : Int32)), (.int (5 : Int32)), (.long q2), (.int (5 : Int32)), (.ref a1)])) _
    refine XS.iconst X39.here hx rfl (hb hby d1_88) ?_
    show Steps p.tables e below (T39.setTop (mkF m 89 #[.val (.ref a1), .val (.int (0 : Int32)), .val (.long q2), .second, .val (.int p4), .val (.int p5)] [(.int (5 : Int32)), (.int (0 : Int32)), (.int (5 : Int32)), (.long q2), (.int (5 : Int32)), (.ref a1)])) _
    refine XS.iadd X39.here hx rfl (hb hby d1_89) rfl ?_
    show Steps p.tables e below (T39.setTop (mkF m 90 #[.val (.ref a1), .val (.int (0 : Int32)), .val (.long q2), .second, .val (.int p4), .val (.int p5)] [(.int (5 : Int32)), (.int (5 : Int32)), (.long q2), (.int (5 : Int32)), (.ref a1)])) _
    refine XS.iload X39.here hx rfl (hb hby d1_90) rfl ?_
    show Steps p.tables e below (T39.setTop (mkF m 92 #[.val (.ref a1), .val (.int (0 : Int32)), .val (.long q2), .second, .val (.int p4), .val (.int p5)] [(.int p4), (.int (5 : Int32)), (.int (5 : Int32)), (.long q2), (.int (5 : Int32)), (.ref a1)])) _
    refine XS.iload X39.here hx rfl (hb hby d1_92) rfl ?_
    show Steps p.tables e below (T39.setTop (mkF m 94 #[.val (.ref a1), .val (.int (0 : Int32)), .val (.long q2), .second, .val (.int p4), .val (.int p5)] [(.int p5), (.int p4), (.int (5 : Int32)), (.int (5 : Int32)), (.long q2), (.int (5 : Int32)), (.ref a1)])) _
    refine st45 _ ?_
    show Steps p.tables e below (T45.setTop (mkF m 97 #[.val (.ref a1), .val (.int (0 : Int32)), .val (.long q2), .second, .val (.int p4), .val (.int p5)] [(.int (own_cell q2 (5 : Int32) (5 : Int32) p4 p5)), (.int (5 : Int32)), (.ref a1)])) _
    refine st47 _ ?_
    show Steps p.tables e below (T47.setTop (mkF m 98 #[.val (.ref a1), .val (.int (0 : Int32)), .val (.long q2), .second, .val (.int p4), .val (.int p5)] [])) _
    refine XS.aloadN X47.here hx rfl (hb hby d1_98) rfl rfl ?_
    show Steps p.tables e below (T47.setTop (mkF m 99 #[.val (.ref a1), .val (.int (0 : Int32)), .val (.long q2), .second, .val (.int p4), .val (.int p5)] [(.ref a1)])) _
    refine XS.iloadN X47.here hx rfl (hb hby d1_99) rfl ?_
    show Steps p.tables e below (T47.setTop (mkF m 100 #[.val (.ref a1), .val (.int (0 : Int32)), .val (.long q2), .second, .val (.int p4), .val (.int p5)] [(.int (0 : Int32)), (.ref a1)])) _
    refine XS.bipush X47.here hx rfl (hb hby d1_100) ?_
    show Steps p.tables e below (T47.setTop (mkF m 102 #[.val (.ref a1), .val (.int (0 : Int32)), .val (.long q2), .second, .val (.int p4), .val (.int p5)] [(.int (6 : Int32)), (.int (0 : Int32)), (.ref a1)])) _
    refine XS.iadd X47.here hx rfl (hb hby d1_102) rfl ?_
    show Steps p.tables e below (T47.setTop (mkF m 103 #[.val (.ref a1), .val (.int (0 : Int32)), .val (.long q2), .second, .val (.int p4), .val (.int p5)] [(.int (6 : Int32)), (.ref a1)])) _
    refine XS.lloadN X47.here hx rfl (hb hby d1_103) rfl ?_
    show Steps p.tables e below (T47.setTop (mkF m 104 #[.val (.ref a1), .val (.int (0 : Int32)), .val (.long q2), .second, .val (.int p4), .val (.int p5)] [(.long q2), (.int (6 : Int32)), (.ref a1)])) _
    refine XS.bipush X47.here hx rfl (hb hby d1_104) ?_
    show Steps p.tables e below (T47.setTop (mkF m 106 #[.val (.ref a1), .val (.int (0 : Int32)), .val (.long q2), .second, .val (.int p4), .val (.int p5)] [(.int (6 : Int32)), (.long q2), (.int (6 : Int32)), (.ref a1)])) _
    refine XS.iloadN X47.here hx rfl (hb hby d1_106) rfl ?_
    show Steps p.tables e below (T47.setTop (mkF m 107 #[.val (.ref a1), .val (.int (0 : Int32)), .val (.long q2), .second, .val (.int p4), .val (.int p5)] [(.int (0 : Int32)), (.int (6 : Int32)), (.long q2), (.int (6 : Int32)), (.ref a1)])) _
    refine XS.bipush X47.here hx rfl (hb hby d1_107) ?_
    show Steps p.tables e below (T47.setTop (mkF m 109 #[.val (.ref a1), .val (.int (0 : Int32)), .val (.long q2), .second, .val (.int p4), .val (.int p5)] [(.int (6 : Int32)), (.int (0 : Int32)), (.int (6 : Int32)), (.long q2), (.int (6 : Int32)), (.ref a1)])) _
    refine XS.iadd X47.here hx rfl (hb hby d1_109) rfl ?_
    show Steps p.tables e below (T47.setTop (mkF m 110 #[.val (.ref a1), .val (.int (0 : Int32)), .val (.long q2), .second, .val (.int p4), .val (.int p5)] [(.int (6 : Int32)), (.int (6 : Int32)), (.long q2), (.int (6 : Int32)), (.ref a1)])) _
    refine XS.iload X47.here hx rfl (hb hby d1_110) rfl ?_
    show Steps p.tables e below (T47.setTop (mkF m 112 #[.val (.ref a1), .val (.int (0 : Int32)), .val (.long q2), .second, .val (.int p4), .val (.int p5)] [(.int p4), (.int (6 : Int32)), (.int (6 : Int32)), (.long q2), (.int (6 : Int32)), (.ref a1)])) _
    refine XS.iload X47.here hx rfl (hb hby d1_112) rfl ?_
    show Steps p.tables e below (T47.setTop (mkF m 114 #[.val (.ref a1), .val (.int (0 : Int32)), .val (.long q2), .second, .val (.int p4), .val (.int p5)] [(.int p5), (.int p4), (.int (6 : Int32)), (.int (6 : Int32)), (.long q2), (.int (6 : Int32)), (.ref a1)])) _
    refine st53 _ ?_
    show Steps p.tables e below (T53.setTop (mkF m 117 #[.val (.ref a1), .val (.int (0 : Int32)), .val (.long q2), .second, .val (.int p4), .val (.int p5)] [(.int (own_cell q2 (6 : Int32) (6 : Int32) p4 p5)), (.int (6 : Int32)), (.ref a1)])) _
    refine st55 _ ?_
    show Steps p.tables e below (T55.setTop (mkF m 118 #[.val (.ref a1), .val (.int (0 : Int32)), .val (.long q2), .second, .val (.int p4), .val (.int p5)] [])) _
    refine XS.aloadN X55.here hx rfl (hb hby d1_118) rfl rfl ?_
    show Steps p.tables e below (T55.setTop (mkF m 119 #[.val (.ref a1), .val (.int (0 : Int32)), .val (.long q2), .second, .val (.int p4), .val (.int p5)] [(.ref a1)])) _
    refine XS.iloadN X55.here hx rfl (hb hby d1_119) rfl ?_
    show Steps p.tables e below (T55.setTop (mkF m 120 #[.val (.ref a1), .val (.int (0 : Int32)), .val (.long q2), .second, .val (.int p4), .val (.int p5)] [(.int (0 : Int32)), (.ref a1)])) _
    refine XS.bipush X55.here hx rfl (hb hby d1_120) ?_
    show Steps p.tables e below (T55.setTop (mkF m 122 #[.val (.ref a1), .val (.int (0 : Int32)), .val (.long q2), .second, .val (.int p4), .val (.int p5)] [(.int (7 : Int32)), (.int (0 : Int32)), (.ref a1)])) _
    refine XS.iadd X55.here hx rfl (hb hby d1_122) rfl ?_
    show Steps p.tables e below (T55.setTop (mkF m 123 #[.val (.ref a1), .val (.int (0 : Int32)), .val (.long q2), .second, .val (.int p4), .val (.int p5)] [(.int (7 : Int32)), (.ref a1)])) _
    refine XS.lloadN X55.here hx rfl (hb hby d1_123) rfl ?_
    show Steps p.tables e below (T55.setTop (mkF m 124 #[.val (.ref a1), .val (.int (0 : Int32)), .val (.long q2), .second, .val (.int p4), .val (.int p5)] [(.long q2), (.int (7 : Int32)), (.ref a1)])) _
    refine XS.bipush X55.here hx rfl (hb hby d1_124) ?_
    show Steps p.tables e below (T55.setTop (mkF m 126 #[.val (.ref a1), .val (.int (0 : Int32)), .val (.long q2), .second, .val (.int p4), .val (.int p5)] [(.int (7 : Int32)), (.long q2), (.int (7 : Int32)), (.ref a1)])) _
    refine XS.iloadN X55.here hx rfl (hb hby d1_126) rfl ?_
    show Steps p.tables e below (T55.setTop (mkF m 127 #[.val (.ref a1), .val (.int (0 : Int32)), .val (.long q2), .second, .val (.int p4), .val (.int p5)] [(.int (0 : Int32)), (.int (7 : Int32)), (.long q2), (.int (7 : Int32)), (.ref a1)])) _
    refine XS.bipush X55.here hx rfl (hb hby d1_127) ?_
    show Steps p.tables e below (T55.setTop (mkF m 129 #[.val (.ref a1), .val (.int (0 : Int32)), .val (.long q2), .second, .val (.int p4), .val (.int p5)] [(.int (7 : Int32)), (.int (0 : Int32)), (.int (7 : Int32)), (.long q2), (.int (7 : Int32)), (.ref a1)])) _
    refine XS.iadd X55.here hx rfl (hb hby d1_129) rfl ?_
    show Steps p.tables e below (T55.setTop (mkF m 130 #[.val (.ref a1), .val (.int (0 : Int32)), .val (.long q2), .second, .val (.int p4), .val (.int p5)] [(.int (7 : Int32)), (.int (7 : Int32)), (.long q2), (.int (7 : Int32)), (.ref a1)])) _
    refine XS.iload X55.here hx rfl (hb hby d1_130) rfl ?_
    show Steps p.tables e below (T55.setTop (mkF m 132 #[.val (.ref a1), .val (.int (0 : Int32)), .val (.long q2), .second, .val (.int p4), .val (.int p5)] [(.int p4), (.int (7 : Int32)), (.int (7 : Int32)), (.long q2), (.int (7 : Int32)), (.ref a1)])) _
    refine XS.iload X55.here hx rfl (hb hby d1_132) rfl ?_
    show Steps p.tables e below (T55.setTop (mkF m 134 #[.val (.ref a1), .val (.int (0 : Int32)), .val (.long q2), .second, .val (.int p4), .val (.int p5)] [(.int p5), (.int p4), (.int (7 : Int32)), (.int (7 : Int32)), (.long q2), (.int (7 : Int32)), (.ref a1)])) _
    refine st61 _ ?_
    show Steps p.tables e below (T61.setTop (mkF m 137 #[.val (.ref a1), .val (.int (0 : Int32)), .val (.long q2), .second, .val (.int p4), .val (.int p5)] [(.int (own_cell q2 (7 : Int32) (7 : Int32) p4 p5)), (.int (7 : Int32)), (.ref a1)])) _
    refine st63 _ ?_
    show Steps p.tables e below (T63.setTop (mkF m 138 #[.val (.ref a1), .val (.int (0 : Int32)), .val (.long q2), .second, .val (.int p4), .val (.int p5)] [])) _
    exact X63.returnOut hx Bd.returns (hb hby d1_138) hr
  · show Qrm1_0 Z a1 q2 p4 p5 us ka h0 n0 _ T63.heap _
    rw [e63]
    exact ⟨rfl, N66, K67, f68⟩
theorem ef_rm1_8 (m : MethodId) (a1 : Addr) (q2 : Int64) (p4 : Int32) (p5 : Int32) : entryFrame m #[(.ref a1), (.int (8 : Int32)), (.long q2), (.int p4), (.int p5)] 6 = mkF m 0 #[.val (.ref a1), .val (.int (8 : Int32)), .val (.long q2), .second, .val (.int p4), .val (.int p5)] [] := by first | (simp [entryFrame, mkF, argsToLocals, Value.category]; done) | rfl
def Qrm1_8 (Z : State) (a1 : Addr) (q2 : Int64) (p4 : Int32) (p5 : Int32) (us : List Int32) (ka : ClassId) (h0 : Heap) (n0 : Nat) (v : Option Value) (h : Heap) (L : List Loc) : Prop := v = none ∧ Fr n0 L ∧ Keep h0 h [a1] ∧ Arv Z h a1 ka .byte (24 : Int32) ((own_fill 8 q2 p4 p5 us).map Value.int) (.int (0 : Int32))
set_option maxRecDepth 65536 in
set_option maxHeartbeats 40000000 in
theorem rm1_8 (l : Launch) (Z : State) (a0 : Array Value) (hw : ∀ d ∈ tables_1, d.before a0 Z = true) (ws : List Jvm.Cond) (a1 : Addr) (q2 : Int64) (p4 : Int32) (p5 : Int32) (us : List Int32) (ka : ClassId) (h0 : Heap) (n0 : Nat) (Z0 : n0 ≤ h0.size) (V1 : Arv Z h0 a1 ka .byte (24 : Int32) (us.map Value.int) (.int (0 : Int32))) (hl : us.length = 24) (g1 : n0 ≤ a1) :
    MetFree l (⟨"com/example/reshelve/reshelve/Utf8FirstFaultPinLaw", "fill8", "([BIJII)V"⟩ : MethodName) (head1 (Jvm.Cond.code (⟨"com/example/reshelve/reshelve/Utf8FirstFaultPinLaw", "fill8", "([BIJII)V"⟩ : MethodName) method_4_code 6 none :: ws) ({ frames := 1, cells := 0, slots := 0, locals := 20 } : Room)) (fun a U => a = #[(.ref a1), (.int (8 : Int32)), (.long q2), (.int p4), (.int p5)] ∧ Z.Warmed39 U.vm ∧ U.heap = h0) (fun _ _ _ _ _ => True) (fun _ U o U' => ∃ v L, o = .returned v ∧ Qrm1_8 Z a1 q2 p4 p5 us ka h0 n0 v U'.heap L ∧ FrameEnd U o U' L ({ frames := 1, cells := 0, slots := 0, locals := 20 } : Room).cells ({ frames := 1, cells := 0, slots := 0, locals := 20 } : Room).slots) := by
  refine MetFree.of_bodySF (plainFor_of_name pn_com_example_reshelve_reshelve_Utf8FirstFaultPinLaw) hisR ?_
  intro p e s m args below meth c s₁ Bd hml0 hP hK
  obtain ⟨rfl, hZ, hh⟩ := hP
  have hx := Bd.exec
  have hby := Bd.bytes
  have hml : c.maxLocals = 6 := hml0
  have hown : s.vm.findClass "com/example/reshelve/reshelve/Utf8FirstFaultPinLaw" = some m.cls := findClass_of_methodNamed Bd.named
  have hnm := (name_of_methodNamed Bd.named Bd.method).1
  have X0 : Stand p l e ({ frames := 1, cells := 0, slots := 0, locals := 20 } : Room) s m #[(.ref a1), (.int (8 : Int32)), (.long q2), (.int p4), (.int p5)] below meth c s₁ [] 0 0 := Stand.of_body Bd
  have e0 : s₁.heap = h0 := by rw [← hh, Bd.state]; rfl
  have N0 := Fr.nil n0
  have pre0 : ∀ t, Steps p.tables e below (s₁.setTop (mkF m 0 #[.val (.ref a1), .val (.int (8 : Int32)), .val (.long q2), .second, .val (.int p4), .val (.int p5)] [])) t → Steps p.tables e below (s₁.setTop (entryFrame m #[(.ref a1), (.int (8 : Int32)), (.long q2), (.int p4), (.int p5)] 6)) t := fun t k => castTop (ef_rm1_8 m a1 q2 p4 p5) k
  have K0 := Keep.refl h0 [a1]
  obtain ⟨_, _, ⟨T69, L69, k69, n69⟩, -, X69, ⟨Lc69, hQ69, l69, y69, z69⟩, st69⟩ := Jvm.LawKit.callS X0 hx (y := (⟨"com/example/reshelve/reshelve/Utf8FirstFaultPinLaw", "cell", "(JIIII)B"⟩ : MethodName)) hown (mvT hZ (hw _ (List.mem_of_getElem? (i := 5) rfl))) (mvT hZ (hw _ (List.mem_of_getElem? (i := 6) rfl))) (mvT hZ (hw _ (List.mem_of_getElem? (i := 3) rfl))) (mvT hZ (hw _ (List.mem_of_getElem? (i := 7) rfl))) (by decide) (backOf (W := 2) (rm2 l Z a0 hw [] q2 (0 : Int32) (8 : Int32) p4 p5  h0 n0 Z0 ) hZ (hw _ (List.mem_of_getElem? (i := 7) rfl)) (hw _ (List.mem_of_getElem? (i := 3) rfl)) (by decide) (by decide)) (g := (mkF m 9 #[.val (.ref a1), .val (.int (8 : Int32)), .val (.long q2), .second, .val (.int p4), .val (.int p5)] [(.int p5), (.int p4), (.int (8 : Int32)), (.int (0 : Int32)), (.long q2), (.int (8 : Int32)), (.ref a1)])) rfl (by rw [hml]; rfl) (argsL := [(.long q2), (.int (0 : Int32)), (.int (8 : Int32)), (.int p4), (.int p5)]) (rest := [(.int (8 : Int32)), (.ref a1)]) (lenOf pd__JIIII_B rfl) rfl (by show 2 * 0 + _ ≤ _; exact Nat.le_of_eq rfl) (hb hby d1_9) (fun _ _ => ⟨rfl, e0, (by decide : 0 + 0 ≤ _), (by decide : 0 + 0 ≤ _)⟩)
  dsimp only [Pt.U, Pt.locs, Pt.cells, Pt.slots] at X69 l69 y69 z69 st69 hQ69
  subst l69 y69 z69
  obtain ⟨rfl, N69q, e69⟩ := hQ69
  have N70 := Fr.app N0 N69q
  obtain ⟨c71, r71, q71, s71, n71, H71, G71⟩ := id V1
  have i71 : ¬ ((8 : Int32) < 0 ∨ c71.slots.size ≤ ((8 : Int32)).toNatClampNeg) := inb_of s71 ⟨by decide, by decide⟩
  obtain ⟨T71, h71, X71, e71, W71, st71⟩ := stB X69 hx hZ e69 r71 (j := (8 : Int32)) i71 (g := (mkF m 12 #[.val (.ref a1), .val (.int (8 : Int32)), .val (.long q2), .second, .val (.int p4), .val (.int p5)] [(.int (own_cell q2 (0 : Int32) (8 : Int32) p4 p5)), (.int (8 : Int32)), (.ref a1)])) rfl rfl (hb hby d1_12)
  have f72 := Arv.set r71 q71 s71 n71 H71 G71 (fits_nar_byte _) W71 8 rfl (by simp [hl])
  have Zn73 := Nat.le_trans Z0 (Keep.of_wr W71).1
  have N74 := Fr.snoc X71 N70 g1
  have K75 := K0.wr W71 (Or.inl (List.mem_of_getElem? (i := 0) rfl))
  have f76 : Arv Z h71 a1 ka .byte (24 : Int32) ((us.set 8 (nar .byte (own_cell q2 (0 : Int32) (8 : Int32) p4 p5))).map Value.int) (.int (0 : Int32)) := own_map_set ▸ f72
  obtain ⟨_, _, ⟨T77, L77, k77, n77⟩, -, X77, ⟨Lc77, hQ77, l77, y77, z77⟩, st77⟩ := Jvm.LawKit.callS X71 hx (y := (⟨"com/example/reshelve/reshelve/Utf8FirstFaultPinLaw", "cell", "(JIIII)B"⟩ : MethodName)) hown (mvT hZ (hw _ (List.mem_of_getElem? (i := 5) rfl))) (mvT hZ (hw _ (List.mem_of_getElem? (i := 6) rfl))) (mvT hZ (hw _ (List.mem_of_getElem? (i := 3) rfl))) (mvT hZ (hw _ (List.mem_of_getElem? (i := 7) rfl))) (by decide) (backOf (W := 2) (rm2 l Z a0 hw [] q2 (1 : Int32) (9 : Int32) p4 p5  h71 n0 Zn73 ) hZ (hw _ (List.mem_of_getElem? (i := 7) rfl)) (hw _ (List.mem_of_getElem? (i := 3) rfl)) (by decide) (by decide)) (g := (mkF m 26 #[.val (.ref a1), .val (.int (8 : Int32)), .val (.long q2), .second, .val (.int p4), .val (.int p5)] [(.int p5), (.int p4), (.int (9 : Int32)), (.int (1 : Int32)), (.long q2), (.int (9 : Int32)), (.ref a1)])) rfl (by rw [hml]; rfl) (argsL := [(.long q2), (.int (1 : Int32)), (.int (9 : Int32)), (.int p4), (.int p5)]) (rest := [(.int (9 : Int32)), (.ref a1)]) (lenOf pd__JIIII_B rfl) rfl (by show 2 * 0 + _ ≤ _; exact Nat.le_of_eq rfl) (hb hby d1_26) (fun _ _ => ⟨rfl, e71, (by decide : 0 + 0 ≤ _), (by decide : 0 + 0 ≤ _)⟩)
  dsimp only [Pt.U, Pt.locs, Pt.cells, Pt.slots] at X77 l77 y77 z77 st77 hQ77
  subst l77 y77 z77
  obtain ⟨rfl, N77q, e77⟩ := hQ77
  have N78 := Fr.app N74 N77q
  obtain ⟨c79, r79, q79, s79, n79, H79, G79⟩ := id f76
  have i79 : ¬ ((9 : Int32) < 0 ∨ c79.slots.size ≤ ((9 : Int32)).toNatClampNeg) := inb_of s79 ⟨by decide, by decide⟩
  obtain ⟨T79, h79, X79, e79, W79, st79⟩ := stB X77 hx hZ e77 r79 (j := (9 : Int32)) i79 (g := (mkF m 29 #[.val (.ref a1), .val (.int (8 : Int32)), .val (.long q2), .second, .val (.int p4), .val (.int p5)] [(.int (own_cell q2 (1 : Int32) (9 : Int32) p4 p5)), (.int (9 : Int32)), (.ref a1)])) rfl rfl (hb hby d1_29)
  have f80 := Arv.set r79 q79 s79 n79 H79 G79 (fits_nar_byte _) W79 9 rfl (by simp [hl])
  have Zn81 := Nat.le_trans Zn73 (Keep.of_wr W79).1
  have N82 := Fr.snoc X79 N78 g1
  have K83 := K75.wr W79 (Or.inl (List.mem_of_getElem? (i := 0) rfl))
  have f84 : Arv Z h79 a1 ka .byte (24 : Int32) (((us.set 8 (nar .byte (own_cell q2 (0 : Int32) (8 : Int32) p4 p5))).set 9 (nar .byte (own_cell q2 (1 : Int32) (9 : Int32) p4 p5))).map Value.int) (.int (0 : Int32)) := own_map_set ▸ f80
  obtain ⟨_, _, ⟨T85, L85, k85, n85⟩, -, X85, ⟨Lc85, hQ85, l85, y85, z85⟩, st85⟩ := Jvm.LawKit.callS X79 hx (y := (⟨"com/example/reshelve/reshelve/Utf8FirstFaultPinLaw", "cell", "(JIIII)B"⟩ : MethodName)) hown (mvT hZ (hw _ (List.mem_of_getElem? (i := 5) rfl))) (mvT hZ (hw _ (List.mem_of_getElem? (i := 6) rfl))) (mvT hZ (hw _ (List.mem_of_getElem? (i := 3) rfl))) (mvT hZ (hw _ (List.mem_of_getElem? (i := 7) rfl))) (by decide) (backOf (W := 2) (rm2 l Z a0 hw [] q2 (2 : Int32) (10 : Int32) p4 p5  h79 n0 Zn81 ) hZ (hw _ (List.mem_of_getElem? (i := 7) rfl)) (hw _ (List.mem_of_getElem? (i := 3) rfl)) (by decide) (by decide)) (g := (mkF m 43 #[.val (.ref a1), .val (.int (8 : Int32)), .val (.long q2), .second, .val (.int p4), .val (.int p5)] [(.int p5), (.int p4), (.int (10 : Int32)), (.int (2 : Int32)), (.long q2), (.int (10 : Int32)), (.ref a1)])) rfl (by rw [hml]; rfl) (argsL := [(.long q2), (.int (2 : Int32)), (.int (10 : Int32)), (.int p4), (.int p5)]) (rest := [(.int (10 : Int32)), (.ref a1)]) (lenOf pd__JIIII_B rfl) rfl (by show 2 * 0 + _ ≤ _; exact Nat.le_of_eq rfl) (hb hby d1_43) (fun _ _ => ⟨rfl, e79, (by decide : 0 + 0 ≤ _), (by decide : 0 + 0 ≤ _)⟩)
  dsimp only [Pt.U, Pt.locs, Pt.cells, Pt.slots] at X85 l85 y85 z85 st85 hQ85
  subst l85 y85 z85
  obtain ⟨rfl, N85q, e85⟩ := hQ85
  have N86 := Fr.app N82 N85q
  obtain ⟨c87, r87, q87, s87, n87, H87, G87⟩ := id f84
  have i87 : ¬ ((10 : Int32) < 0 ∨ c87.slots.size ≤ ((10 : Int32)).toNatClampNeg) := inb_of s87 ⟨by decide, by decide⟩
  obtain ⟨T87, h87, X87, e87, W87, st87⟩ := stB X85 hx hZ e85 r87 (j := (10 : Int32)) i87 (g := (mkF m 46 #[.val (.ref a1), .val (.int (8 : Int32)), .val (.long q2), .second, .val (.int p4), .val (.int p5)] [(.int (own_cell q2 (2 : Int32) (10 : Int32) p4 p5)), (.int (10 : Int32)), (.ref a1)])) rfl rfl (hb hby d1_46)
  have f88 := Arv.set r87 q87 s87 n87 H87 G87 (fits_nar_byte _) W87 10 rfl (by simp [hl])
  have Zn89 := Nat.le_trans Zn81 (Keep.of_wr W87).1
  have N90 := Fr.snoc X87 N86 g1
  have K91 := K83.wr W87 (Or.inl (List.mem_of_getElem? (i := 0) rfl))
  have f92 : Arv Z h87 a1 ka .byte (24 : Int32) ((((us.set 8 (nar .byte (own_cell q2 (0 : Int32) (8 : Int32) p4 p5))).set 9 (nar .byte (own_cell q2 (1 : Int32) (9 : Int32) p4 p5))).set 10 (nar .byte (own_cell q2 (2 : Int32) (10 : Int32) p4 p5))).map Value.int) (.int (0 : Int32)) := own_map_set ▸ f88
  obtain ⟨_, _, ⟨T93, L93, k93, n93⟩, -, X93, ⟨Lc93, hQ93, l93, y93, z93⟩, st93⟩ := Jvm.LawKit.callS X87 hx (y := (⟨"com/example/reshelve/reshelve/Utf8FirstFaultPinLaw", "cell", "(JIIII)B"⟩ : MethodName)) hown (mvT hZ (hw _ (List.mem_of_getElem? (i := 5) rfl))) (mvT hZ (hw _ (List.mem_of_getElem? (i := 6) rfl))) (mvT hZ (hw _ (List.mem_of_getElem? (i := 3) rfl))) (mvT hZ (hw _ (List.mem_of_getElem? (i := 7) rfl))) (by decide) (backOf (W := 2) (rm2 l Z a0 hw [] q2 (3 : Int32) (11 : Int32) p4 p5  h87 n0 Zn89 ) hZ (hw _ (List.mem_of_getElem? (i := 7) rfl)) (hw _ (List.mem_of_getElem? (i := 3) rfl)) (by decide) (by decide)) (g := (mkF m 60 #[.val (.ref a1), .val (.int (8 : Int32)), .val (.long q2), .second, .val (.int p4), .val (.int p5)] [(.int p5), (.int p4), (.int (11 : Int32)), (.int (3 : Int32)), (.long q2), (.int (11 : Int32)), (.ref a1)])) rfl (by rw [hml]; rfl) (argsL := [(.long q2), (.int (3 : Int32)), (.int (11 : Int32)), (.int p4), (.int p5)]) (rest := [(.int (11 : Int32)), (.ref a1)]) (lenOf pd__JIIII_B rfl) rfl (by show 2 * 0 + _ ≤ _; exact Nat.le_of_eq rfl) (hb hby d1_60) (fun _ _ => ⟨rfl, e87, (by decide : 0 + 0 ≤ _), (by decide : 0 + 0 ≤ _)⟩)
  dsimp only [Pt.U, Pt.locs, Pt.cells, Pt.slots] at X93 l93 y93 z93 st93 hQ93
  subst l93 y93 z93
  obtain ⟨rfl, N93q, e93⟩ := hQ93
  have N94 := Fr.app N90 N93q
  obtain ⟨c95, r95, q95, s95, n95, H95, G95⟩ := id f92
  have i95 : ¬ ((11 : Int32) < 0 ∨ c95.slots.size ≤ ((11 : Int32)).toNatClampNeg) := inb_of s95 ⟨by decide, by decide⟩
  obtain ⟨T95, h95, X95, e95, W95, st95⟩ := stB X93 hx hZ e93 r95 (j := (11 : Int32)) i95 (g := (mkF m 63 #[.val (.ref a1), .val (.int (8 : Int32)), .val (.long q2), .second, .val (.int p4), .val (.int p5)] [(.int (own_cell q2 (3 : Int32) (11 : Int32) p4 p5)), (.int (11 : Int32)), (.ref a1)])) rfl rfl (hb hby d1_63)
  have f96 := Arv.set r95 q95 s95 n95 H95 G95 (fits_nar_byte _) W95 11 rfl (by simp [hl])
  have Zn97 := Nat.le_trans Zn89 (Keep.of_wr W95).1
  have N98 := Fr.snoc X95 N94 g1
  have K99 := K91.wr W95 (Or.inl (List.mem_of_getElem? (i := 0) rfl))
  have f100 : Arv Z h95 a1 ka .byte (24 : Int32) (((((us.set 8 (nar .byte (own_cell q2 (0 : Int32) (8 : Int32) p4 p5))).set 9 (nar .byte (own_cell q2 (1 : Int32) (9 : Int32) p4 p5))).set 10 (nar .byte (own_cell q2 (2 : Int32) (10 : Int32) p4 p5))).set 11 (nar .byte (own_cell q2 (3 : Int32) (11 : Int32) p4 p5))).map Value.int) (.int (0 : Int32)) := own_map_set ▸ f96
  obtain ⟨_, _, ⟨T101, L101, k101, n101⟩, -, X101, ⟨Lc101, hQ101, l101, y101, z101⟩, st101⟩ := Jvm.LawKit.callS X95 hx (y := (⟨"com/example/reshelve/reshelve/Utf8FirstFaultPinLaw", "cell", "(JIIII)B"⟩ : MethodName)) hown (mvT hZ (hw _ (List.mem_of_getElem? (i := 5) rfl))) (mvT hZ (hw _ (List.mem_of_getElem? (i := 6) rfl))) (mvT hZ (hw _ (List.mem_of_getElem? (i := 3) rfl))) (mvT hZ (hw _ (List.mem_of_getElem? (i := 7) rfl))) (by decide) (backOf (W := 2) (rm2 l Z a0 hw [] q2 (4 : Int32) (12 : Int32) p4 p5  h95 n0 Zn97 ) hZ (hw _ (List.mem_of_getElem? (i := 7) rfl)) (hw _ (List.mem_of_getElem? (i := 3) rfl)) (by decide) (by decide)) (g := (mkF m 77 #[.val (.ref a1), .val (.int (8 : Int32)), .val (.long q2), .second, .val (.int p4), .val (.int p5)] [(.int p5), (.int p4), (.int (12 : Int32)), (.int (4 : Int32)), (.long q2), (.int (12 : Int32)), (.ref a1)])) rfl (by rw [hml]; rfl) (argsL := [(.long q2), (.int (4 : Int32)), (.int (12 : Int32)), (.int p4), (.int p5)]) (rest := [(.int (12 : Int32)), (.ref a1)]) (lenOf pd__JIIII_B rfl) rfl (by show 2 * 0 + _ ≤ _; exact Nat.le_of_eq rfl) (hb hby d1_77) (fun _ _ => ⟨rfl, e95, (by decide : 0 + 0 ≤ _), (by decide : 0 + 0 ≤ _)⟩)
  dsimp only [Pt.U, Pt.locs, Pt.cells, Pt.slots] at X101 l101 y101 z101 st101 hQ101
  subst l101 y101 z101
  obtain ⟨rfl, N101q, e101⟩ := hQ101
  have N102 := Fr.app N98 N101q
  obtain ⟨c103, r103, q103, s103, n103, H103, G103⟩ := id f100
  have i103 : ¬ ((12 : Int32) < 0 ∨ c103.slots.size ≤ ((12 : Int32)).toNatClampNeg) := inb_of s103 ⟨by decide, by decide⟩
  obtain ⟨T103, h103, X103, e103, W103, st103⟩ := stB X101 hx hZ e101 r103 (j := (12 : Int32)) i103 (g := (mkF m 80 #[.val (.ref a1), .val (.int (8 : Int32)), .val (.long q2), .second, .val (.int p4), .val (.int p5)] [(.int (own_cell q2 (4 : Int32) (12 : Int32) p4 p5)), (.int (12 : Int32)), (.ref a1)])) rfl rfl (hb hby d1_80)
  have f104 := Arv.set r103 q103 s103 n103 H103 G103 (fits_nar_byte _) W103 12 rfl (by simp [hl])
  have Zn105 := Nat.le_trans Zn97 (Keep.of_wr W103).1
  have N106 := Fr.snoc X103 N102 g1
  have K107 := K99.wr W103 (Or.inl (List.mem_of_getElem? (i := 0) rfl))
  have f108 : Arv Z h103 a1 ka .byte (24 : Int32) ((((((us.set 8 (nar .byte (own_cell q2 (0 : Int32) (8 : Int32) p4 p5))).set 9 (nar .byte (own_cell q2 (1 : Int32) (9 : Int32) p4 p5))).set 10 (nar .byte (own_cell q2 (2 : Int32) (10 : Int32) p4 p5))).set 11 (nar .byte (own_cell q2 (3 : Int32) (11 : Int32) p4 p5))).set 12 (nar .byte (own_cell q2 (4 : Int32) (12 : Int32) p4 p5))).map Value.int) (.int (0 : Int32)) := own_map_set ▸ f104
  obtain ⟨_, _, ⟨T109, L109, k109, n109⟩, -, X109, ⟨Lc109, hQ109, l109, y109, z109⟩, st109⟩ := Jvm.LawKit.callS X103 hx (y := (⟨"com/example/reshelve/reshelve/Utf8FirstFaultPinLaw", "cell", "(JIIII)B"⟩ : MethodName)) hown (mvT hZ (hw _ (List.mem_of_getElem? (i := 5) rfl))) (mvT hZ (hw _ (List.mem_of_getElem? (i := 6) rfl))) (mvT hZ (hw _ (List.mem_of_getElem? (i := 3) rfl))) (mvT hZ (hw _ (List.mem_of_getElem? (i := 7) rfl))) (by decide) (backOf (W := 2) (rm2 l Z a0 hw [] q2 (5 : Int32) (13 : Int32) p4 p5  h103 n0 Zn105 ) hZ (hw _ (List.mem_of_getElem? (i := 7) rfl)) (hw _ (List.mem_of_getElem? (i := 3) rfl)) (by decide) (by decide)) (g := (mkF m 94 #[.val (.ref a1), .val (.int (8 : Int32)), .val (.long q2), .second, .val (.int p4), .val (.int p5)] [(.int p5), (.int p4), (.int (13 : Int32)), (.int (5 : Int32)), (.long q2), (.int (13 : Int32)), (.ref a1)])) rfl (by rw [hml]; rfl) (argsL := [(.long q2), (.int (5 : Int32)), (.int (13 : Int32)), (.int p4), (.int p5)]) (rest := [(.int (13 : Int32)), (.ref a1)]) (lenOf pd__JIIII_B rfl) rfl (by show 2 * 0 + _ ≤ _; exact Nat.le_of_eq rfl) (hb hby d1_94) (fun _ _ => ⟨rfl, e103, (by decide : 0 + 0 ≤ _), (by decide : 0 + 0 ≤ _)⟩)
  dsimp only [Pt.U, Pt.locs, Pt.cells, Pt.slots] at X109 l109 y109 z109 st109 hQ109
  subst l109 y109 z109
  obtain ⟨rfl, N109q, e109⟩ := hQ109
  have N110 := Fr.app N106 N109q
  obtain ⟨c111, r111, q111, s111, n111, H111, G111⟩ := id f108
  have i111 : ¬ ((13 : Int32) < 0 ∨ c111.slots.size ≤ ((13 : Int32)).toNatClampNeg) := inb_of s111 ⟨by decide, by decide⟩
  obtain ⟨T111, h111, X111, e111, W111, st111⟩ := stB X109 hx hZ e109 r111 (j := (13 : Int32)) i111 (g := (mkF m 97 #[.val (.ref a1), .val (.int (8 : Int32)), .val (.long q2), .second, .val (.int p4), .val (.int p5)] [(.int (own_cell q2 (5 : Int32) (13 : Int32) p4 p5)), (.int (13 : Int32)), (.ref a1)])) rfl rfl (hb hby d1_97)
  have f112 := Arv.set r111 q111 s111 n111 H111 G111 (fits_nar_byte _) W111 13 rfl (by simp [hl])
  have Zn113 := Nat.le_trans Zn105 (Keep.of_wr W111).1
  have N114 := Fr.snoc X111 N110 g1
  have K115 := K107.wr W111 (Or.inl (List.mem_of_getElem? (i := 0) rfl))
  have f116 : Arv Z h111 a1 ka .byte (24 : Int32) (((((((us.set 8 (nar .byte (own_cell q2 (0 : Int32) (8 : Int32) p4 p5))).set 9 (nar .byte (own_cell q2 (1 : Int32) (9 : Int32) p4 p5))).set 10 (nar .byte (own_cell q2 (2 : Int32) (10 : Int32) p4 p5))).set 11 (nar .byte (own_cell q2 (3 : Int32) (11 : Int32) p4 p5))).set 12 (nar .byte (own_cell q2 (4 : Int32) (12 : Int32) p4 p5))).set 13 (nar .byte (own_cell q2 (5 : Int32) (13 : Int32) p4 p5))).map Value.int) (.int (0 : Int32)) := own_map_set ▸ f112
  obtain ⟨_, _, ⟨T117, L117, k117, n117⟩, -, X117, ⟨Lc117, hQ117, l117, y117, z117⟩, st117⟩ := Jvm.LawKit.callS X111 hx (y := (⟨"com/example/reshelve/reshelve/Utf8FirstFaultPinLaw", "cell", "(JIIII)B"⟩ : MethodName)) hown (mvT hZ (hw _ (List.mem_of_getElem? (i := 5) rfl))) (mvT hZ (hw _ (List.mem_of_getElem? (i := 6) rfl))) (mvT hZ (hw _ (List.mem_of_getElem? (i := 3) rfl))) (mvT hZ (hw _ (List.mem_of_getElem? (i := 7) rfl))) (by decide) (backOf (W := 2) (rm2 l Z a0 hw [] q2 (6 : Int32) (14 : Int32) p4 p5  h111 n0 Zn113 ) hZ (hw _ (List.mem_of_getElem? (i := 7) rfl)) (hw _ (List.mem_of_getElem? (i := 3) rfl)) (by decide) (by decide)) (g := (mkF m 114 #[.val (.ref a1), .val (.int (8 : Int32)), .val (.long q2), .second, .val (.int p4), .val (.int p5)] [(.int p5), (.int p4), (.int (14 : Int32)), (.int (6 : Int32)), (.long q2), (.int (14 : Int32)), (.ref a1)])) rfl (by rw [hml]; rfl) (argsL := [(.long q2), (.int (6 : Int32)), (.int (14 : Int32)), (.int p4), (.int p5)]) (rest := [(.int (14 : Int32)), (.ref a1)]) (lenOf pd__JIIII_B rfl) rfl (by show 2 * 0 + _ ≤ _; exact Nat.le_of_eq rfl) (hb hby d1_114) (fun _ _ => ⟨rfl, e111, (by decide : 0 + 0 ≤ _), (by decide : 0 + 0 ≤ _)⟩)
  dsimp only [Pt.U, Pt.locs, Pt.cells, Pt.slots] at X117 l117 y117 z117 st117 hQ117
  subst l117 y117 z117
  obtain ⟨rfl, N117q, e117⟩ := hQ117
  have N118 := Fr.app N114 N117q
  obtain ⟨c119, r119, q119, s119, n119, H119, G119⟩ := id f116
  have i119 : ¬ ((14 : Int32) < 0 ∨ c119.slots.size ≤ ((14 : Int32)).toNatClampNeg) := inb_of s119 ⟨by decide, by decide⟩
  obtain ⟨T119, h119, X119, e119, W119, st119⟩ := stB X117 hx hZ e117 r119 (j := (14 : Int32)) i119 (g := (mkF m 117 #[.val (.ref a1), .val (.int (8 : Int32)), .val (.long q2), .second, .val (.int p4), .val (.int p5)] [(.int (own_cell q2 (6 : Int32) (14 : Int32) p4 p5)), (.int (14 : Int32)), (.ref a1)])) rfl rfl (hb hby d1_117)
  have f120 := Arv.set r119 q119 s119 n119 H119 G119 (fits_nar_byte _) W119 14 rfl (by simp [hl])
  have Zn121 := Nat.le_trans Zn113 (Keep.of_wr W119).1
  have N122 := Fr.snoc X119 N118 g1
  have K123 := K115.wr W119 (Or.inl (List.mem_of_getElem? (i := 0) rfl))
  have f124 : Arv Z h119 a1 ka .byte (24 : Int32) ((((((((us.set 8 (nar .byte (own_cell q2 (0 : Int32) (8 : Int32) p4 p5))).set 9 (nar .byte (own_cell q2 (1 : Int32) (9 : Int32) p4 p5))).set 10 (nar .byte (own_cell q2 (2 : Int32) (10 : Int32) p4 p5))).set 11 (nar .byte (own_cell q2 (3 : Int32) (11 : Int32) p4 p5))).set 12 (nar .byte (own_cell q2 (4 : Int32) (12 : Int32) p4 p5))).set 13 (nar .byte (own_cell q2 (5 : Int32) (13 : Int32) p4 p5))).set 14 (nar .byte (own_cell q2 (6 : Int32) (14 : Int32) p4 p5))).map Value.int) (.int (0 : Int32)) := own_map_set ▸ f120
  obtain ⟨_, _, ⟨T125, L125, k125, n125⟩, -, X125, ⟨Lc125, hQ125, l125, y125, z125⟩, st125⟩ := Jvm.LawKit.callS X119 hx (y := (⟨"com/example/reshelve/reshelve/Utf8FirstFaultPinLaw", "cell", "(JIIII)B"⟩ : MethodName)) hown (mvT hZ (hw _ (List.mem_of_getElem? (i := 5) rfl))) (mvT hZ (hw _ (List.mem_of_getElem? (i := 6) rfl))) (mvT hZ (hw _ (List.mem_of_getElem? (i := 3) rfl))) (mvT hZ (hw _ (List.mem_of_getElem? (i := 7) rfl))) (by decide) (backOf (W := 2) (rm2 l Z a0 hw [] q2 (7 : Int32) (15 : Int32) p4 p5  h119 n0 Zn121 ) hZ (hw _ (List.mem_of_getElem? (i := 7) rfl)) (hw _ (List.mem_of_getElem? (i := 3) rfl)) (by decide) (by decide)) (g := (mkF m 134 #[.val (.ref a1), .val (.int (8 : Int32)), .val (.long q2), .second, .val (.int p4), .val (.int p5)] [(.int p5), (.int p4), (.int (15 : Int32)), (.int (7 : Int32)), (.long q2), (.int (15 : Int32)), (.ref a1)])) rfl (by rw [hml]; rfl) (argsL := [(.long q2), (.int (7 : Int32)), (.int (15 : Int32)), (.int p4), (.int p5)]) (rest := [(.int (15 : Int32)), (.ref a1)]) (lenOf pd__JIIII_B rfl) rfl (by show 2 * 0 + _ ≤ _; exact Nat.le_of_eq rfl) (hb hby d1_134) (fun _ _ => ⟨rfl, e119, (by decide : 0 + 0 ≤ _), (by decide : 0 + 0 ≤ _)⟩)
  dsimp only [Pt.U, Pt.locs, Pt.cells, Pt.slots] at X125 l125 y125 z125 st125 hQ125
  subst l125 y125 z125
  obtain ⟨rfl, N125q, e125⟩ := hQ125
  have N126 := Fr.app N122 N125q
  obtain ⟨c127, r127, q127, s127, n127, H127, G127⟩ := id f124
  have i127 : ¬ ((15 : Int32) < 0 ∨ c127.slots.size ≤ ((15 : Int32)).toNatClampNeg) := inb_of s127 ⟨by decide, by decide⟩
  obtain ⟨T127, h127, X127, e127, W127, st127⟩ := stB X125 hx hZ e125 r127 (j := (15 : Int32)) i127 (g := (mkF m 137 #[.val (.ref a1), .val (.int (8 : Int32)), .val (.long q2), .second, .val (.int p4), .val (.int p5)] [(.int (own_cell q2 (7 : Int32) (15 : Int32) p4 p5)), (.int (15 : Int32)), (.ref a1)])) rfl rfl (hb hby d1_137)
  have f128 := Arv.set r127 q127 s127 n127 H127 G127 (fits_nar_byte _) W127 15 rfl (by simp [hl])
  have Zn129 := Nat.le_trans Zn121 (Keep.of_wr W127).1
  have N130 := Fr.snoc X127 N126 g1
  have K131 := K123.wr W127 (Or.inl (List.mem_of_getElem? (i := 0) rfl))
  have f132 : Arv Z h127 a1 ka .byte (24 : Int32) (((((((((us.set 8 (nar .byte (own_cell q2 (0 : Int32) (8 : Int32) p4 p5))).set 9 (nar .byte (own_cell q2 (1 : Int32) (9 : Int32) p4 p5))).set 10 (nar .byte (own_cell q2 (2 : Int32) (10 : Int32) p4 p5))).set 11 (nar .byte (own_cell q2 (3 : Int32) (11 : Int32) p4 p5))).set 12 (nar .byte (own_cell q2 (4 : Int32) (12 : Int32) p4 p5))).set 13 (nar .byte (own_cell q2 (5 : Int32) (13 : Int32) p4 p5))).set 14 (nar .byte (own_cell q2 (6 : Int32) (14 : Int32) p4 p5))).set 15 (nar .byte (own_cell q2 (7 : Int32) (15 : Int32) p4 p5))).map Value.int) (.int (0 : Int32)) := own_map_set ▸ f128
  obtain ⟨fs, hr, hrun, hended, hW, hsame⟩ := X127.leave (v := none) (fun _ => rfl)
  refine ⟨_, _, pre0 _ ?_, hrun, hended, _, _, rfl, ?_, ⟨_, rfl⟩, hW, hsame.mono (by decide) (by decide)⟩
  · show Steps p.tables e below (s₁.setTop (mkF m 0 #[.val (.ref a1), .val (.int (8 : Int32)), .val (.long q2), .second, .val (.int p4), .val (.int p5)] [])) _
    refine XS.aloadN X0.here hx rfl (hb hby d1_0) rfl rfl ?_
    show Steps p.tables e below (s₁.setTop (mkF m 1 #[.val (.ref a1), .val (.int (8 : Int32)), .val (.long q2), .second, .val (.int p4), .val (.int p5)] [(.ref a1)])) _
    refine XS.iloadN X0.here hx rfl (hb hby d1_1) rfl ?_
    show Steps p.tables e below (s₁.setTop (mkF m 2 #[.val (.ref a1), .val (.int (8 : Int32)), .val (.long q2), .second, .val (.int p4), .val (.int p5)] [(.int (8 : Int32)), (.ref a1)])) _
    refine XS.lloadN X0.here hx rfl (hb hby d1_2) rfl ?_
    show Steps p.tables e below (s₁.setTop (mkF m 3 #[.val (.ref a1), .val (.int (8 : Int32)), .val (.long q2), .second, .val (.int p4), .val (.int p5)] [(.long q2), (.int (8 : Int32)), (.ref a1)])) _
    refine XS.iconst X0.here hx rfl (hb hby d1_3) ?_
    show Steps p.tables e below (s₁.setTop (mkF m 4 #[.val (.ref a1), .val (.int (8 : Int32)), .val (.long q2), .second, .val (.int p4), .val (.int p5)] [(.int (0 : Int32)), (.long q2), (.int (8 : Int32)), (.ref a1)])) _
    refine XS.iloadN X0.here hx rfl (hb hby d1_4) rfl ?_
    show Steps p.tables e below (s₁.setTop (mkF m 5 #[.val (.ref a1), .val (.int (8 : Int32)), .val (.long q2), .second, .val (.int p4), .val (.int p5)] [(.int (8 : Int32)), (.int (0 : Int32)), (.long q2), (.int (8 : Int32)), (.ref a1)])) _
    refine XS.iload X0.here hx rfl (hb hby d1_5) rfl ?_
    show Steps p.tables e below (s₁.setTop (mkF m 7 #[.val (.ref a1), .val (.int (8 : Int32)), .val (.long q2), .second, .val (.int p4), .val (.int p5)] [(.int p4), (.int (8 : Int32)), (.int (0 : Int32)), (.long q2), (.int (8 : Int32)), (.ref a1)])) _
    refine XS.iload X0.here hx rfl (hb hby d1_7) rfl ?_
    show Steps p.tables e below (s₁.setTop (mkF m 9 #[.val (.ref a1), .val (.int (8 : Int32)), .val (.long q2), .second, .val (.int p4), .val (.int p5)] [(.int p5), (.int p4), (.int (8 : Int32)), (.int (0 : Int32)), (.long q2), (.int (8 : Int32)), (.ref a1)])) _
    refine st69 _ ?_
    show Steps p.tables e below (T69.setTop (mkF m 12 #[.val (.ref a1), .val (.int (8 : Int32)), .val (.long q2), .second, .val (.int p4), .val (.int p5)] [(.int (own_cell q2 (0 : Int32) (8 : Int32) p4 p5)), (.int (8 : Int32)), (.ref a1)])) _
    refine st71 _ ?_
    show Steps p.tables e below (T71.setTop (mkF m 13 #[.val (.ref a1), .val (.int (8 : Int32)), .val (.long q2), .second, .val (.int p4), .val (.int p5)] [])) _
    refine XS.aloadN X71.here hx rfl (hb hby d1_13) rfl rfl ?_
    show Steps p.tables e below (T71.setTop (mkF m 14 #[.val (.ref a1), .val (.int (8 : Int32)), .val (.long q2), .second, .val (.int p4), .val (.int p5)] [(.ref a1)])) _
    refine XS.iloadN X71.here hx rfl (hb hby d1_14) rfl ?_
    show Steps p.tables e below (T71.setTop (mkF m 15 #[.val (.ref a1), .val (.int (8 : Int32)), .val (.long q2), .second, .val (.int p4), .val (.int p5)] [(.int (8 : Int32)), (.ref a1)])) _
    refine XS.iconst X71.here hx rfl (hb hby d1_15) ?_
    show Steps p.tables e below (T71.setTop (mkF m 16 #[.val (.ref a1), .val (.int (8 : Int32)), .val (.long q2), .second, .val (.int p4), .val (.int p5)] [(.int (1 : Int32)), (.int (8 : Int32)), (.ref a1)])) _
    refine XS.iadd X71.here hx rfl (hb hby d1_16) rfl ?_
    show Steps p.tables e below (T71.setTop (mkF m 17 #[.val (.ref a1), .val (.int (8 : Int32)), .val (.long q2), .second, .val (.int p4), .val (.int p5)] [(.int (9 : Int32)), (.ref a1)])) _
    refine XS.lloadN X71.here hx rfl (hb hby d1_17) rfl ?_
    show Steps p.tables e below (T71.setTop (mkF m 18 #[.val (.ref a1), .val (.int (8 : Int32)), .val (.long q2), .second, .val (.int p4), .val (.int p5)] [(.long q2), (.int (9 : Int32)), (.ref a1)])) _
    refine XS.iconst X71.here hx rfl (hb hby d1_18) ?_
    show Steps p.tables e below (T71.setTop (mkF m 19 #[.val (.ref a1), .val (.int (8 : Int32)), .val (.long q2), .second, .val (.int p4), .val (.int p5)] [(.int (1 : Int32)), (.long q2), (.int (9 : Int32)), (.ref a1)])) _
    refine XS.iloadN X71.here hx rfl (hb hby d1_19) rfl ?_
    show Steps p.tables e below (T71.setTop (mkF m 20 #[.val (.ref a1), .val (.int (8 : Int32)), .val (.long q2), .second, .val (.int p4), .val (.int p5)] [(.int (8 : Int32)), (.int (1 : Int32)), (.long q2), (.int (9 : Int32)), (.ref a1)])) _
    refine XS.iconst X71.here hx rfl (hb hby d1_20) ?_
    show Steps p.tables e below (T71.setTop (mkF m 21 #[.val (.ref a1), .val (.int (8 : Int32)), .val (.long q2), .second, .val (.int p4), .val (.int p5)] [(.int (1 : Int32)), (.int (8 : Int32)), (.int (1 : Int32)), (.long q2), (.int (9 : Int32)), (.ref a1)])) _
    refine XS.iadd X71.here hx rfl (hb hby d1_21) rfl ?_
    show Steps p.tables e below (T71.setTop (mkF m 22 #[.val (.ref a1), .val (.int (8 : Int32)), .val (.long q2), .second, .val (.int p4), .val (.int p5)] [(.int (9 : Int32)), (.int (1 : Int32)), (.long q2), (.int (9 : Int32)), (.ref a1)])) _
    refine XS.iload X71.here hx rfl (hb hby d1_22) rfl ?_
    show Steps p.tables e below (T71.setTop (mkF m 24 #[.val (.ref a1), .val (.int (8 : Int32)), .val (.long q2), .second, .val (.int p4), .val (.int p5)] [(.int p4), (.int (9 : Int32)), (.int (1 : Int32)), (.long q2), (.int (9 : Int32)), (.ref a1)])) _
    refine XS.iload X71.here hx rfl (hb hby d1_24) rfl ?_
    show Steps p.tables e below (T71.setTop (mkF m 26 #[.val (.ref a1), .val (.int (8 : Int32)), .val (.long q2), .second, .val (.int p4), .val (.int p5)] [(.int p5), (.int p4), (.int (9 : Int32)), (.int (1 : Int32)), (.long q2), (.int (9 : Int32)), (.ref a1)])) _
    refine st77 _ ?_
    show Steps p.tables e below (T77.setTop (mkF m 29 #[.val (.ref a1), .val (.int (8 : Int32)), .val (.long q2), .second, .val (.int p4), .val (.int p5)] [(.int (own_cell q2 (1 : Int32) (9 : Int32) p4 p5)), (.int (9 : Int32)), (.ref a1)])) _
    refine st79 _ ?_
    show Steps p.tables e below (T79.setTop (mkF m 30 #[.val (.ref a1), .val (.int (8 : Int32)), .val (.long q2), .second, .val (.int p4), .val (.int p5)] [])) _
    refine XS.aloadN X79.here hx rfl (hb hby d1_30) rfl rfl ?_
    show Steps p.tables e below (T79.setTop (mkF m 31 #[.val (.ref a1), .val (.int (8 : Int32)), .val (.long q2), .second, .val (.int p4), .val (.int p5)] [(.ref a1)])) _
    refine XS.iloadN X79.here hx rfl (hb hby d1_31) rfl ?_
    show Steps p.tables e below (T79.setTop (mkF m 32 #[.val (.ref a1), .val (.int (8 : Int32)), .val (.long q2), .second, .val (.int p4), .val (.int p5)] [(.int (8 : Int32)), (.ref a1)])) _
    refine XS.iconst X79.here hx rfl (hb hby d1_32) ?_
    show Steps p.tables e below (T79.setTop (mkF m 33 #[.val (.ref a1), .val (.int (8 : Int32)), .val (.long q2), .second, .val (.int p4), .val (.int p5)] [(.int (2 : Int32)), (.int (8 : Int32)), (.ref a1)])) _
    refine XS.iadd X79.here hx rfl (hb hby d1_33) rfl ?_
    show Steps p.tables e below (T79.setTop (mkF m 34 #[.val (.ref a1), .val (.int (8 : Int32)), .val (.long q2), .second, .val (.int p4), .val (.int p5)] [(.int (10 : Int32)), (.ref a1)])) _
    refine XS.lloadN X79.here hx rfl (hb hby d1_34) rfl ?_
    show Steps p.tables e below (T79.setTop (mkF m 35 #[.val (.ref a1), .val (.int (8 : Int32)), .val (.long q2), .second, .val (.int p4), .val (.int p5)] [(.long q2), (.int (10 : Int32)), (.ref a1)])) _
    refine XS.iconst X79.here hx rfl (hb hby d1_35) ?_
    show Steps p.tables e below (T79.setTop (mkF m 36 #[.val (.ref a1), .val (.int (8 : Int32)), .val (.long q2), .second, .val (.int p4), .val (.int p5)] [(.int (2 : Int32)), (.long q2), (.int (10 : Int32)), (.ref a1)])) _
    refine XS.iloadN X79.here hx rfl (hb hby d1_36) rfl ?_
    show Steps p.tables e below (T79.setTop (mkF m 37 #[.val (.ref a1), .val (.int (8 : Int32)), .val (.long q2), .second, .val (.int p4), .val (.int p5)] [(.int (8 : Int32)), (.int (2 : Int32)), (.long q2), (.int (10 : Int32)), (.ref a1)])) _
    refine XS.iconst X79.here hx rfl (hb hby d1_37) ?_
    show Steps p.tables e below (T79.setTop (mkF m 38 #[.val (.ref a1), .val (.int (8 : Int32)), .val (.long q2), .second, .val (.int p4), .val (.int p5)] [(.int (2 : Int32)), (.int (8 : Int32)), (.int (2 : Int32)), (.long q2), (.int (10 : Int32)), (.ref a1)])) _
    refine XS.iadd X79.here hx rfl (hb hby d1_38) rfl ?_
    show Steps p.tables e below (T79.setTop (mkF m 39 #[.val (.ref a1), .val (.int (8 : Int32)), .val (.long q2), .second, .val (.int p4), .val (.int p5)] [(.int (10 : Int32)), (.int (2 : Int32)), (.long q2), (.int (10 : Int32)), (.ref a1)])) _
    refine XS.iload X79.here hx rfl (hb hby d1_39) rfl ?_
    show Steps p.tables e below (T79.setTop (mkF m 41 #[.val (.ref a1), .val (.int (8 : Int32)), .val (.long q2), .second, .val (.int p4), .val (.int p5)] [(.int p4), (.int (10 : Int32)), (.int (2 : Int32)), (.long q2), (.int (10 : Int32)), (.ref a1)])) _
    refine XS.iload X79.here hx rfl (hb hby d1_41) rfl ?_
    show Steps p.tables e below (T79.setTop (mkF m 43 #[.val (.ref a1), .val (.int (8 : Int32)), .val (.long q2), .second, .val (.int p4), .val (.int p5)] [(.int p5), (.int p4), (.int (10 : Int32)), (.int (2 : Int32)), (.long q2), (.int (10 : Int32)), (.ref a1)])) _
    refine st85 _ ?_
    show Steps p.tables e below (T85.setTop (mkF m 46 #[.val (.ref a1), .val (.int (8 : Int32)), .val (.long q2), .second, .val (.int p4), .val (.int p5)] [(.int (own_cell q2 (2 : Int32) (10 : Int32) p4 p5)), (.int (10 : Int32)), (.ref a1)])) _
    refine st87 _ ?_
    show Steps p.tables e below (T87.setTop (mkF m 47 #[.val (.ref a1), .val (.int (8 : Int32)), .val (.long q2), .second, .val (.int p4), .val (.int p5)] [])) _
    refine XS.aloadN X87.here hx rfl (hb hby d1_47) rfl rfl ?_
    show Steps p.tables e below (T87.setTop (mkF m 48 #[.val (.ref a1), .val (.int (8 : Int32)), .val (.long q2), .second, .val (.int p4), .val (.int p5)] [(.ref a1)])) _
    refine XS.iloadN X87.here hx rfl (hb hby d1_48) rfl ?_
    show Steps p.tables e below (T87.setTop (mkF m 49 #[.val (.ref a1), .val (.int (8 : Int32)), .val (.long q2), .second, .val (.int p4), .val (.int p5)] [(.int (8 : Int32)), (.ref a1)])) _
    refine XS.iconst X87.here hx rfl (hb hby d1_49) ?_
    show Steps p.tables e below (T87.setTop (mkF m 50 #[.val (.ref a1), .val (.int (8 : Int32)), .val (.long q2), .second, .val (.int p4), .val (.int p5)] [(.int (3 : Int32)), (.int (8 : Int32)), (.ref a1)])) _
    refine XS.iadd X87.here hx rfl (hb hby d1_50) rfl ?_
    show Steps p.tables e below (T87.setTop (mkF m 51 #[.val (.ref a1), .val (.int (8 : Int32)), .val (.long q2), .second, .val (.int p4), .val (.int p5)] [(.int (11 : Int32)), (.ref a1)])) _
    refine XS.lloadN X87.here hx rfl (hb hby d1_51) rfl ?_
    show Steps p.tables e below (T87.setTop (mkF m 52 #[.val (.ref a1), .val (.int (8 : Int32)), .val (.long q2), .second, .val (.int p4), .val (.int p5)] [(.long q2), (.int (11 : Int32)), (.ref a1)])) _
    refine XS.iconst X87.here hx rfl (hb hby d1_52) ?_
    show Steps p.tables e below (T87.setTop (mkF m 53 #[.val (.ref a1), .val (.int (8 : Int32)), .val (.long q2), .second, .val (.int p4), .val (.int p5)] [(.int (3 : Int32)), (.long q2), (.int (11 : Int32)), (.ref a1)])) _
    refine XS.iloadN X87.here hx rfl (hb hby d1_53) rfl ?_
    show Steps p.tables e below (T87.setTop (mkF m 54 #[.val (.ref a1), .val (.int (8 : Int32)), .val (.long q2), .second, .val (.int p4), .val (.int p5)] [(.int (8 : Int32)), (.int (3 : Int32)), (.long q2), (.int (11 : Int32)), (.ref a1)])) _
    refine XS.iconst X87.here hx rfl (hb hby d1_54) ?_
    show Steps p.tables e below (T87.setTop (mkF m 55 #[.val (.ref a1), .val (.int (8 : Int32)), .val (.long q2), .second, .val (.int p4), .val (.int p5)] [(.int (3 : Int32)), (.int (8 : Int32)), (.int (3 : Int32)), (.long q2), (.int (11 : Int32)), (.ref a1)])) _
    refine XS.iadd X87.here hx rfl (hb hby d1_55) rfl ?_
    show Steps p.tables e below (T87.setTop (mkF m 56 #[.val (.ref a1), .val (.int (8 : Int32)), .val (.long q2), .second, .val (.int p4), .val (.int p5)] [(.int (11 : Int32)), (.int (3 : Int32)), (.long q2), (.int (11 : Int32)), (.ref a1)])) _
    refine XS.iload X87.here hx rfl (hb hby d1_56) rfl ?_
    show Steps p.tables e below (T87.setTop (mkF m 58 #[.val (.ref a1), .val (.int (8 : Int32)), .val (.long q2), .second, .val (.int p4), .val (.int p5)] [(.int p4), (.int (11 : Int32)), (.int (3 : Int32)), (.long q2), (.int (11 : Int32)), (.ref a1)])) _
    refine XS.iload X87.here hx rfl (hb hby d1_58) rfl ?_
    show Steps p.tables e below (T87.setTop (mkF m 60 #[.val (.ref a1), .val (.int (8 : Int32)), .val (.long q2), .second, .val (.int p4), .val (.int p5)] [(.int p5), (.int p4), (.int (11 : Int32)), (.int (3 : Int32)), (.long q2), (.int (11 : Int32)), (.ref a1)])) _
    refine st93 _ ?_
    show Steps p.tables e below (T93.setTop (mkF m 63 #[.val (.ref a1), .val (.int (8 : Int32)), .val (.long q2), .second, .val (.int p4), .val (.int p5)] [(.int (own_cell q2 (3 : Int32) (11 : Int32) p4 p5)), (.int (11 : Int32)), (.ref a1)])) _
    refine st95 _ ?_
    show Steps p.tables e below (T95.setTop (mkF m 64 #[.val (.ref a1), .val (.int (8 : Int32)), .val (.long q2), .second, .val (.int p4), .val (.int p5)] [])) _
    refine XS.aloadN X95.here hx rfl (hb hby d1_64) rfl rfl ?_
    show Steps p.tables e below (T95.setTop (mkF m 65 #[.val (.ref a1), .val (.int (8 : Int32)), .val (.long q2), .second, .val (.int p4), .val (.int p5)] [(.ref a1)])) _
    refine XS.iloadN X95.here hx rfl (hb hby d1_65) rfl ?_
    show Steps p.tables e below (T95.setTop (mkF m 66 #[.val (.ref a1), .val (.int (8 : Int32)), .val (.long q2), .second, .val (.int p4), .val (.int p5)] [(.int (8 : Int32)), (.ref a1)])) _
    refine XS.iconst X95.here hx rfl (hb hby d1_66) ?_
    show Steps p.tables e below (T95.setTop (mkF m 67 #[.val (.ref a1), .val (.int (8 : Int32)), .val (.long q2), .second, .val (.int p4), .val (.int p5)] [(.int (4 : Int32)), (.int (8 : Int32)), (.ref a1)])) _
    refine XS.iadd X95.here hx rfl (hb hby d1_67) rfl ?_
    show Steps p.tables e below (T95.setTop (mkF m 68 #[.val (.ref a1), .val (.int (8 : Int32)), .val (.long q2), .second, .val (.int p4), .val (.int p5)] [(.int (12 : Int32)), (.ref a1)])) _
    refine XS.lloadN X95.here hx rfl (hb hby d1_68) rfl ?_
    show Steps p.tables e below (T95.setTop (mkF m 69 #[.val (.ref a1), .val (.int (8 : Int32)), .val (.long q2), .second, .val (.int p4), .val (.int p5)] [(.long q2), (.int (12 : Int32)), (.ref a1)])) _
    refine XS.iconst X95.here hx rfl (hb hby d1_69) ?_
    show Steps p.tables e below (T95.setTop (mkF m 70 #[.val (.ref a1), .val (.int (8 : Int32)), .val (.long q2), .second, .val (.int p4), .val (.int p5)] [(.int (4 : Int32)), (.long q2), (.int (12 : Int32)), (.ref a1)])) _
    refine XS.iloadN X95.here hx rfl (hb hby d1_70) rfl ?_
    show Steps p.tables e below (T95.setTop (mkF m 71 #[.val (.ref a1), .val (.int (8 : Int32)), .val (.long q2), .second, .val (.int p4), .val (.int p5)] [(.int (8 : Int32)), (.int (4 : Int32)), (.long q2), (.int (12 : Int32)), (.ref a1)])) _
    refine XS.iconst X95.here hx rfl (hb hby d1_71) ?_
    show Steps p.tables e below (T95.setTop (mkF m 72 #[.val (.ref a1), .val (.int (8 : Int32)), .val (.long q2), .second, .val (.int p4), .val (.int p5)] [(.int (4 : Int32)), (.int (8 : Int32)), (.int (4 : Int32)), (.long q2), (.int (12 : Int32)), (.ref a1)])) _
    refine XS.iadd X95.here hx rfl (hb hby d1_72) rfl ?_
    show Steps p.tables e below (T95.setTop (mkF m 73 #[.val (.ref a1), .val (.int (8 : Int32)), .val (.long q2), .second, .val (.int p4), .val (.int p5)] [(.int (12 : Int32)), (.int (4 : Int32)), (.long q2), (.int (12 : Int32)), (.ref a1)])) _
    refine XS.iload X95.here hx rfl (hb hby d1_73) rfl ?_
    show Steps p.tables e below (T95.setTop (mkF m 75 #[.val (.ref a1), .val (.int (8 : Int32)), .val (.long q2), .second, .val (.int p4), .val (.int p5)] [(.int p4), (.int (12 : Int32)), (.int (4 : Int32)), (.long q2), (.int (12 : Int32)), (.ref a1)])) _
    refine XS.iload X95.here hx rfl (hb hby d1_75) rfl ?_
    show Steps p.tables e below (T95.setTop (mkF m 77 #[.val (.ref a1), .val (.int (8 : Int32)), .val (.long q2), .second, .val (.int p4), .val (.int p5)] [(.int p5), (.int p4), (.int (12 : Int32)), (.int (4 : Int32)), (.long q2), (.int (12 : Int32)), (.ref a1)])) _
    refine st101 _ ?_
    show Steps p.tables e below (T101.setTop (mkF m 80 #[.val (.ref a1), .val (.int (8 : Int32)), .val (.long q2), .second, .val (.int p4), .val (.int p5)] [(.int (own_cell q2 (4 : Int32) (12 : Int32) p4 p5)), (.int (12 : Int32)), (.ref a1)])) _
    refine st103 _ ?_
    show Steps p.tables e below (T103.setTop (mkF m 81 #[.val (.ref a1), .val (.int (8 : Int32)), .val (.long q2), .second, .val (.int p4), .val (.int p5)] [])) _
    refine XS.aloadN X103.here hx rfl (hb hby d1_81) rfl rfl ?_
    show Steps p.tables e below (T103.setTop (mkF m 82 #[.val (.ref a1), .val (.int (8 : Int32)), .val (.long q2), .second, .val (.int p4), .val (.int p5)] [(.ref a1)])) _
    refine XS.iloadN X103.here hx rfl (hb hby d1_82) rfl ?_
    show Steps p.tables e below (T103.setTop (mkF m 83 #[.val (.ref a1), .val (.int (8 : Int32)), .val (.long q2), .second, .val (.int p4), .val (.int p5)] [(.int (8 : Int32)), (.ref a1)])) _
    refine XS.iconst X103.here hx rfl (hb hby d1_83) ?_
    show Steps p.tables e below (T103.setTop (mkF m 84 #[.val (.ref a1), .val (.int (8 : Int32)), .val (.long q2), .second, .val (.int p4), .val (.int p5)] [(.int (5 : Int32)), (.int (8 : Int32)), (.ref a1)])) _
    refine XS.iadd X103.here hx rfl (hb hby d1_84) rfl ?_
    show Steps p.tables e below (T103.setTop (mkF m 85 #[.val (.ref a1), .val (.int (8 : Int32)), .val (.long q2), .second, .val (.int p4), .val (.int p5)] [(.int (13 : Int32)), (.ref a1)])) _
    refine XS.lloadN X103.here hx rfl (hb hby d1_85) rfl ?_
    show Steps p.tables e below (T103.setTop (mkF m 86 #[.val (.ref a1), .val (.int (8 : Int32)), .val (.long q2), .second, .val (.int p4), .val (.int p5)] [(.long q2), (.int (13 : Int32)), (.ref a1)])) _
    refine XS.iconst X103.here hx rfl (hb hby d1_86) ?_
    show Steps p.tables e below (T103.setTop (mkF m 87 #[.val (.ref a1), .val (.int (8 : Int32)), .val (.long q2), .second, .val (.int p4), .val (.int p5)] [(.int (5 : Int32)), (.long q2), (.int (13 : Int32)), (.ref a1)])) _
    refine XS.iloadN X103.here hx rfl (hb hby d1_87) rfl ?_
    show Steps p.tables e below (T103.setTop (mkF m 88 #[.val (.ref a1), .val (.int (8 : Int32)), .val (.long q2), .second, .val (.int p4), .val (.int p5)] [(.int (8 : Int32)), (.int (5 : Int32)), (.long q2), (.int (13 : Int32)), (.ref a1)])) _
    refine XS.iconst X103.here hx rfl (hb hby d1_88) ?_
    show Steps p.tables e below (T103.setTop (mkF m 89 #[.val (.ref a1), .val (.int (8 : Int32)), .val (.long q2), .second, .val (.int p4), .val (.int p5)] [(.int (5 : Int32)), (.int (8 : Int32)), (.int (5 : Int32)), (.long q2), (.int (13 : Int32)), (.ref a1)])) _
    refine XS.iadd X103.here hx rfl (hb hby d1_89) rfl ?_
    show Steps p.tables e below (T103.setTop (mkF m 90 #[.val (.ref a1), .val (.int (8 : Int32)), .val (.long q2), .second, .val (.int p4), .val (.int p5)] [(.int (13 : Int32)), (.int (5 : Int32)), (.long q2), (.int (13 : Int32)), (.ref a1)])) _
    refine XS.iload X103.here hx rfl (hb hby d1_90) rfl ?_
    show Steps p.tables e below (T103.setTop (mkF m 92 #[.val (.ref a1), .val (.int (8 : Int32)), .val (.long q2), .second, .val (.int p4), .val (.int p5)] [(.int p4), (.int (13 : Int32)), (.int (5 : Int32)), (.long q2), (.int (13 : Int32)), (.ref a1)])) _
    refine XS.iload X103.here hx rfl (hb hby d1_92) rfl ?_
    show Steps p.tables e below (T103.setTop (mkF m 94 #[.val (.ref a1), .val (.int (8 : Int32)), .val (.long q2), .second, .val (.int p4), .val (.int p5)] [(.int p5), (.int p4), (.int (13 : Int32)), (.int (5 : Int32)), (.long q2), (.int (13 : Int32)), (.ref a1)])) _
    refine st109 _ ?_
    show Steps p.tables e below (T109.setTop (mkF m 97 #[.val (.ref a1), .val (.int (8 : Int32)), .val (.long q2), .second, .val (.int p4), .val (.int p5)] [(.int (own_cell q2 (5 : Int32) (13 : Int32) p4 p5)), (.int (13 : Int32)), (.ref a1)])) _
    refine st111 _ ?_
    show Steps p.tables e below (T111.setTop (mkF m 98 #[.val (.ref a1), .val (.int (8 : Int32)), .val (.long q2), .second, .val (.int p4), .val (.int p5)] [])) _
    refine XS.aloadN X111.here hx rfl (hb hby d1_98) rfl rfl ?_
    show Steps p.tables e below (T111.setTop (mkF m 99 #[.val (.ref a1), .val (.int (8 : Int32)), .val (.long q2), .second, .val (.int p4), .val (.int p5)] [(.ref a1)])) _
    refine XS.iloadN X111.here hx rfl (hb hby d1_99) rfl ?_
    show Steps p.tables e below (T111.setTop (mkF m 100 #[.val (.ref a1), .val (.int (8 : Int32)), .val (.long q2), .second, .val (.int p4), .val (.int p5)] [(.int (8 : Int32)), (.ref a1)])) _
    refine XS.bipush X111.here hx rfl (hb hby d1_100) ?_
    show Steps p.tables e below (T111.setTop (mkF m 102 #[.val (.ref a1), .val (.int (8 : Int32)), .val (.long q2), .second, .val (.int p4), .val (.int p5)] [(.int (6 : Int32)), (.int (8 : Int32)), (.ref a1)])) _
    refine XS.iadd X111.here hx rfl (hb hby d1_102) rfl ?_
    show Steps p.tables e below (T111.setTop (mkF m 103 #[.val (.ref a1), .val (.int (8 : Int32)), .val (.long q2), .second, .val (.int p4), .val (.int p5)] [(.int (14 : Int32)), (.ref a1)])) _
    refine XS.lloadN X111.here hx rfl (hb hby d1_103) rfl ?_
    show Steps p.tables e below (T111.setTop (mkF m 104 #[.val (.ref a1), .val (.int (8 : Int32)), .val (.long q2), .second, .val (.int p4), .val (.int p5)] [(.long q2), (.int (14 : Int32)), (.ref a1)])) _
    refine XS.bipush X111.here hx rfl (hb hby d1_104) ?_
    show Steps p.tables e below (T111.setTop (mkF m 106 #[.val (.ref a1), .val (.int (8 : Int32)), .val (.long q2), .second, .val (.int p4), .val (.int p5)] [(.int (6 : Int32)), (.long q2), (.int (14 : Int32)), (.ref a1)])) _
    refine XS.iloadN X111.here hx rfl (hb hby d1_106) rfl ?_
    show Steps p.tables e below (T111.setTop (mkF m 107 #[.val (.ref a1), .val (.int (8 : Int32)), .val (.long q2), .second, .val (.int p4), .val (.int p5)] [(.int (8 : Int32)), (.int (6 : Int32)), (.long q2), (.int (14 : Int32)), (.ref a1)])) _
    refine XS.bipush X111.here hx rfl (hb hby d1_107) ?_
    show Steps p.tables e below (T111.setTop (mkF m 109 #[.val (.ref a1), .val (.int (8 : Int32)), .val (.long q2), .second, .val (.int p4), .val (.int p5)] [(.int (6 : Int32)), (.int (8 : Int32)), (.int (6 : Int32)), (.long q2), (.int (14 : Int32)), (.ref a1)])) _
    refine XS.iadd X111.here hx rfl (hb hby d1_109) rfl ?_
    show Steps p.tables e below (T111.setTop (mkF m 110 #[.val (.ref a1), .val (.int (8 : Int32)), .val (.long q2), .second, .val (.int p4), .val (.int p5)] [(.int (14 : Int32)), (.int (6 : Int32)), (.long q2), (.int (14 : Int32)), (.ref a1)])) _
    refine XS.iload X111.here hx rfl (hb hby d1_110) rfl ?_
    show Steps p.tables e below (T111.setTop (mkF m 112 #[.val (.ref a1), .val (.int (8 : Int32)), .val (.long q2), .second, .val (.int p4), .val (.int p5)] [(.int p4), (.int (14 : Int32)), (.int (6 : Int32)), (.long q2), (.int (14 : Int32)), (.ref a1)])) _
    refine XS.iload X111.here hx rfl (hb hby d1_112) rfl ?_
    show Steps p.tables e below (T111.setTop (mkF m 114 #[.val (.ref a1), .val (.int (8 : Int32)), .val (.long q2), .second, .val (.int p4), .val (.int p5)] [(.int p5), (.int p4), (.int (14 : Int32)), (.int (6 : Int32)), (.long q2), (.int (14 : Int32)), (.ref a1)])) _
    refine st117 _ ?_
    show Steps p.tables e below (T117.setTop (mkF m 117 #[.val (.ref a1), .val (.int (8 : Int32)), .val (.long q2), .second, .val (.int p4), .val (.int p5)] [(.int (own_cell q2 (6 : Int32) (14 : Int32) p4 p5)), (.int (14 : Int32)), (.ref a1)])) _
    refine st119 _ ?_
    show Steps p.tables e below (T119.setTop (mkF m 118 #[.val (.ref a1), .val (.int (8 : Int32)), .val (.long q2), .second, .val (.int p4), .val (.int p5)] [])) _
    refine XS.aloadN X119.here hx rfl (hb hby d1_118) rfl rfl ?_
    show Steps p.tables e below (T119.setTop (mkF m 119 #[.val (.ref a1), .val (.int (8 : Int32)), .val (.long q2), .second, .val (.int p4), .val (.int p5)] [(.ref a1)])) _
    refine XS.iloadN X119.here hx rfl (hb hby d1_119) rfl ?_
    show Steps p.tables e below (T119.setTop (mkF m 120 #[.val (.ref a1), .val (.int (8 : Int32)), .val (.long q2), .second, .val (.int p4), .val (.int p5)] [(.int (8 : Int32)), (.ref a1)])) _
    refine XS.bipush X119.here hx rfl (hb hby d1_120) ?_
    show Steps p.tables e below (T119.setTop (mkF m 122 #[.val (.ref a1), .val (.int (8 : Int32)), .val (.long q2), .second, .val (.int p4), .val (.int p5)] [(.int (7 : Int32)), (.int (8 : Int32)), (.ref a1)])) _
    refine XS.iadd X119.here hx rfl (hb hby d1_122) rfl ?_
    show Steps p.tables e below (T119.setTop (mkF m 123 #[.val (.ref a1), .val (.int (8 : Int32)), .val (.long q2), .second, .val (.int p4), .val (.int p5)] [(.int (15 : Int32)), (.ref a1)])) _
    refine XS.lloadN X119.here hx rfl (hb hby d1_123) rfl ?_
    show Steps p.tables e below (T119.setTop (mkF m 124 #[.val (.ref a1), .val (.int (8 : Int32)), .val (.long q2), .second, .val (.int p4), .val (.int p5)] [(.long q2), (.int (15 : Int32)), (.ref a1)])) _
    refine XS.bipush X119.here hx rfl (hb hby d1_124) ?_
    show Steps p.tables e below (T119.setTop (mkF m 126 #[.val (.ref a1), .val (.int (8 : Int32)), .val (.long q2), .second, .val (.int p4), .val (.int p5)] [(.int (7 : Int32)), (.long q2), (.int (15 : Int32)), (.ref a1)])) _
    refine XS.iloadN X119.here hx rfl (hb hby d1_126) rfl ?_
    show Steps p.tables e below (T119.setTop (mkF m 127 #[.val (.ref a1), .val (.int (8 : Int32)), .val (.long q2), .second, .val (.int p4), .val (.int p5)] [(.int (8 : Int32)), (.int (7 : Int32)), (.long q2), (.int (15 : Int32)), (.ref a1)])) _
    refine XS.bipush X119.here hx rfl (hb hby d1_127) ?_
    show Steps p.tables e below (T119.setTop (mkF m 129 #[.val (.ref a1), .val (.int (8 : Int32)), .val (.long q2), .second, .val (.int p4), .val (.int p5)] [(.int (7 : Int32)), (.int (8 : Int32)), (.int (7 : Int32)), (.long q2), (.int (15 : Int32)), (.ref a1)])) _
    refine XS.iadd X119.here hx rfl (hb hby d1_129) rfl ?_
    show Steps p.tables e below (T119.setTop (mkF m 130 #[.val (.ref a1), .val (.int (8 : Int32)), .val (.long q2), .second, .val (.int p4), .val (.int p5)] [(.int (15 : Int32)), (.int (7 : Int32)), (.long q2), (.int (15 : Int32)), (.ref a1)])) _
    refine XS.iload X119.here hx rfl (hb hby d1_130) rfl ?_
    show Steps p.tables e below (T119.setTop (mkF m 132 #[.val (.ref a1), .val (.int (8 : Int32)), .val (.long q2), .second, .val (.int p4), .val (.int p5)] [(.int p4), (.int (15 : Int32)), (.int (7 : Int32)), (.long q2), (.int (15 : Int32)), (.ref a1)])) _
    refine XS.iload X119.here hx rfl (hb hby d1_132) rfl ?_
    show Steps p.tables e below (T119.setTop (mkF m 134 #[.val (.ref a1), .val (.int (8 : Int32)), .val (.long q2), .second, .val (.int p4), .val (.int p5)] [(.int p5), (.int p4), (.int (15 : Int32)), (.int (7 : Int32)), (.long q2), (.int (15 : Int32)), (.ref a1)])) _
    refine st125 _ ?_
    show Steps p.tables e below (T125.setTop (mkF m 137 #[.val (.ref a1), .val (.int (8 : Int32)), .val (.long q2), .second, .val (.int p4), .val (.int p5)] [(.int (own_cell q2 (7 : Int32) (15 : Int32) p4 p5)), (.int (15 : Int32)), (.ref a1)])) _
    refine st127 _ ?_
    show Steps p.tables e below (T127.setTop (mkF m 138 #[.val (.ref a1), .val (.int (8 : Int32)), .val (.long q2), .second, .val (.int p4), .val (.int p5)] [])) _
    exact X127.returnOut hx Bd.returns (hb hby d1_138) hr
  · show Qrm1_8 Z a1 q2 p4 p5 us ka h0 n0 _ T127.heap _
    rw [e127]
    exact ⟨rfl, N130, K131, f132⟩
theorem ef_rm1_16 (m : MethodId) (a1 : Addr) (q2 : Int64) (p4 : Int32) (p5 : Int32) : entryFrame m #[(.ref a1), (.int (16 : Int32)), (.long q2), (.int p4), (.int p5)] 6 = mkF m 0 #[.val (.ref a1), .val (.int (16 : Int32)), .val (.long q2), .second, .val (.int p4), .val (.int p5)] [] := by first | (simp [entryFrame, mkF, argsToLocals, Value.category]; done) | rfl
def Qrm1_16 (Z : State) (a1 : Addr) (q2 : Int64) (p4 : Int32) (p5 : Int32) (us : List Int32) (ka : ClassId) (h0 : Heap) (n0 : Nat) (v : Option Value) (h : Heap) (L : List Loc) : Prop := v = none ∧ Fr n0 L ∧ Keep h0 h [a1] ∧ Arv Z h a1 ka .byte (24 : Int32) ((own_fill 16 q2 p4 p5 us).map Value.int) (.int (0 : Int32))
set_option maxRecDepth 65536 in
set_option maxHeartbeats 40000000 in
theorem rm1_16 (l : Launch) (Z : State) (a0 : Array Value) (hw : ∀ d ∈ tables_1, d.before a0 Z = true) (ws : List Jvm.Cond) (a1 : Addr) (q2 : Int64) (p4 : Int32) (p5 : Int32) (us : List Int32) (ka : ClassId) (h0 : Heap) (n0 : Nat) (Z0 : n0 ≤ h0.size) (V1 : Arv Z h0 a1 ka .byte (24 : Int32) (us.map Value.int) (.int (0 : Int32))) (hl : us.length = 24) (g1 : n0 ≤ a1) :
    MetFree l (⟨"com/example/reshelve/reshelve/Utf8FirstFaultPinLaw", "fill8", "([BIJII)V"⟩ : MethodName) (head1 (Jvm.Cond.code (⟨"com/example/reshelve/reshelve/Utf8FirstFaultPinLaw", "fill8", "([BIJII)V"⟩ : MethodName) method_4_code 6 none :: ws) ({ frames := 1, cells := 0, slots := 0, locals := 20 } : Room)) (fun a U => a = #[(.ref a1), (.int (16 : Int32)), (.long q2), (.int p4), (.int p5)] ∧ Z.Warmed39 U.vm ∧ U.heap = h0) (fun _ _ _ _ _ => True) (fun _ U o U' => ∃ v L, o = .returned v ∧ Qrm1_16 Z a1 q2 p4 p5 us ka h0 n0 v U'.heap L ∧ FrameEnd U o U' L ({ frames := 1, cells := 0, slots := 0, locals := 20 } : Room).cells ({ frames := 1, cells := 0, slots := 0, locals := 20 } : Room).slots) := by
  refine MetFree.of_bodySF (plainFor_of_name pn_com_example_reshelve_reshelve_Utf8FirstFaultPinLaw) hisR ?_
  intro p e s m args below meth c s₁ Bd hml0 hP hK
  obtain ⟨rfl, hZ, hh⟩ := hP
  have hx := Bd.exec
  have hby := Bd.bytes
  have hml : c.maxLocals = 6 := hml0
  have hown : s.vm.findClass "com/example/reshelve/reshelve/Utf8FirstFaultPinLaw" = some m.cls := findClass_of_methodNamed Bd.named
  have hnm := (name_of_methodNamed Bd.named Bd.method).1
  have X0 : Stand p l e ({ frames := 1, cells := 0, slots := 0, locals := 20 } : Room) s m #[(.ref a1), (.int (16 : Int32)), (.long q2), (.int p4), (.int p5)] below meth c s₁ [] 0 0 := Stand.of_body Bd
  have e0 : s₁.heap = h0 := by rw [← hh, Bd.state]; rfl
  have N0 := Fr.nil n0
  have pre0 : ∀ t, Steps p.tables e below (s₁.setTop (mkF m 0 #[.val (.ref a1), .val (.int (16 : Int32)), .val (.long q2), .second, .val (.int p4), .val (.int p5)] [])) t → Steps p.tables e below (s₁.setTop (entryFrame m #[(.ref a1), (.int (16 : Int32)), (.long q2), (.int p4), (.int p5)] 6)) t := fun t k => castTop (ef_rm1_16 m a1 q2 p4 p5) k
  have K0 := Keep.refl h0 [a1]
  obtain ⟨_, _, ⟨T133, L133, k133, n133⟩, -, X133, ⟨Lc133, hQ133, l133, y133, z133⟩, st133⟩ := Jvm.LawKit.callS X0 hx (y := (⟨"com/example/reshelve/reshelve/Utf8FirstFaultPinLaw", "cell", "(JIIII)B"⟩ : MethodName)) hown (mvT hZ (hw _ (List.mem_of_getElem? (i := 5) rfl))) (mvT hZ (hw _ (List.mem_of_getElem? (i := 6) rfl))) (mvT hZ (hw _ (List.mem_of_getElem? (i := 3) rfl))) (mvT hZ (hw _ (List.mem_of_getElem? (i := 7) rfl))) (by decide) (backOf (W := 2) (rm2 l Z a0 hw [] q2 (0 : Int32) (16 : Int32) p4 p5  h0 n0 Z0 ) hZ (hw _ (List.mem_of_getElem? (i := 7) rfl)) (hw _ (List.mem_of_getElem? (i := 3) rfl)) (by decide) (by decide)) (g := (mkF m 9 #[.val (.ref a1), .val (.int (16 : Int32)), .val (.long q2), .second, .val (.int p4), .val (.int p5)] [(.int p5), (.int p4), (.int (16 : Int32)), (.int (0 : Int32)), (.long q2), (.int (16 : Int32)), (.ref a1)])) rfl (by rw [hml]; rfl) (argsL := [(.long q2), (.int (0 : Int32)), (.int (16 : Int32)), (.int p4), (.int p5)]) (rest := [(.int (16 : Int32)), (.ref a1)]) (lenOf pd__JIIII_B rfl) rfl (by show 2 * 0 + _ ≤ _; exact Nat.le_of_eq rfl) (hb hby d1_9) (fun _ _ => ⟨rfl, e0, (by decide : 0 + 0 ≤ _), (by decide : 0 + 0 ≤ _)⟩)
  dsimp only [Pt.U, Pt.locs, Pt.cells, Pt.slots] at X133 l133 y133 z133 st133 hQ133
  subst l133 y133 z133
  obtain ⟨rfl, N133q, e133⟩ := hQ133
  have N134 := Fr.app N0 N133q
  obtain ⟨c135, r135, q135, s135, n135, H135, G135⟩ := id V1
  have i135 : ¬ ((16 : Int32) < 0 ∨ c135.slots.size ≤ ((16 : Int32)).toNatClampNeg) := inb_of s135 ⟨by decide, by decide⟩
  obtain ⟨T135, h135, X135, e135, W135, st135⟩ := stB X133 hx hZ e133 r135 (j := (16 : Int32)) i135 (g := (mkF m 12 #[.val (.ref a1), .val (.int (16 : Int32)), .val (.long q2), .second, .val (.int p4), .val (.int p5)] [(.int (own_cell q2 (0 : Int32) (16 : Int32) p4 p5)), (.int (16 : Int32)), (.ref a1)])) rfl rfl (hb hby d1_12)
  have f136 := Arv.set r135 q135 s135 n135 H135 G135 (fits_nar_byte _) W135 16 rfl (by simp [hl])
  have Zn137 := Nat.le_trans Z0 (Keep.of_wr W135).1
  have N138 := Fr.snoc X135 N134 g1
  have K139 := K0.wr W135 (Or.inl (List.mem_of_getElem? (i := 0) rfl))
  have f140 : Arv Z h135 a1 ka .byte (24 : Int32) ((us.set 16 (nar .byte (own_cell q2 (0 : Int32) (16 : Int32) p4 p5))).map Value.int) (.int (0 : Int32)) := own_map_set ▸ f136
  obtain ⟨_, _, ⟨T141, L141, k141, n141⟩, -, X141, ⟨Lc141, hQ141, l141, y141, z141⟩, st141⟩ := Jvm.LawKit.callS X135 hx (y := (⟨"com/example/reshelve/reshelve/Utf8FirstFaultPinLaw", "cell", "(JIIII)B"⟩ : MethodName)) hown (mvT hZ (hw _ (List.mem_of_getElem? (i := 5) rfl))) (mvT hZ (hw _ (List.mem_of_getElem? (i := 6) rfl))) (mvT hZ (hw _ (List.mem_of_getElem? (i := 3) rfl))) (mvT hZ (hw _ (List.mem_of_getElem? (i := 7) rfl))) (by decide) (backOf (W := 2) (rm2 l Z a0 hw [] q2 (1 : Int32) (17 : Int32) p4 p5  h135 n0 Zn137 ) hZ (hw _ (List.mem_of_getElem? (i := 7) rfl)) (hw _ (List.mem_of_getElem? (i := 3) rfl)) (by decide) (by decide)) (g := (mkF m 26 #[.val (.ref a1), .val (.int (16 : Int32)), .val (.long q2), .second, .val (.int p4), .val (.int p5)] [(.int p5), (.int p4), (.int (17 : Int32)), (.int (1 : Int32)), (.long q2), (.int (17 : Int32)), (.ref a1)])) rfl (by rw [hml]; rfl) (argsL := [(.long q2), (.int (1 : Int32)), (.int (17 : Int32)), (.int p4), (.int p5)]) (rest := [(.int (17 : Int32)), (.ref a1)]) (lenOf pd__JIIII_B rfl) rfl (by show 2 * 0 + _ ≤ _; exact Nat.le_of_eq rfl) (hb hby d1_26) (fun _ _ => ⟨rfl, e135, (by decide : 0 + 0 ≤ _), (by decide : 0 + 0 ≤ _)⟩)
  dsimp only [Pt.U, Pt.locs, Pt.cells, Pt.slots] at X141 l141 y141 z141 st141 hQ141
  subst l141 y141 z141
  obtain ⟨rfl, N141q, e141⟩ := hQ141
  have N142 := Fr.app N138 N141q
  obtain ⟨c143, r143, q143, s143, n143, H143, G143⟩ := id f140
  have i143 : ¬ ((17 : Int32) < 0 ∨ c143.slots.size ≤ ((17 : Int32)).toNatClampNeg) := inb_of s143 ⟨by decide, by decide⟩
  obtain ⟨T143, h143, X143, e143, W143, st143⟩ := stB X141 hx hZ e141 r143 (j := (17 : Int32)) i143 (g := (mkF m 29 #[.val (.ref a1), .val (.int (16 : Int32)), .val (.long q2), .second, .val (.int p4), .val (.int p5)] [(.int (own_cell q2 (1 : Int32) (17 : Int32) p4 p5)), (.int (17 : Int32)), (.ref a1)])) rfl rfl (hb hby d1_29)
  have f144 := Arv.set r143 q143 s143 n143 H143 G143 (fits_nar_byte _) W143 17 rfl (by simp [hl])
  have Zn145 := Nat.le_trans Zn137 (Keep.of_wr W143).1
  have N146 := Fr.snoc X143 N142 g1
  have K147 := K139.wr W143 (Or.inl (List.mem_of_getElem? (i := 0) rfl))
  have f148 : Arv Z h143 a1 ka .byte (24 : Int32) (((us.set 16 (nar .byte (own_cell q2 (0 : Int32) (16 : Int32) p4 p5))).set 17 (nar .byte (own_cell q2 (1 : Int32) (17 : Int32) p4 p5))).map Value.int) (.int (0 : Int32)) := own_map_set ▸ f144
  obtain ⟨_, _, ⟨T149, L149, k149, n149⟩, -, X149, ⟨Lc149, hQ149, l149, y149, z149⟩, st149⟩ := Jvm.LawKit.callS X143 hx (y := (⟨"com/example/reshelve/reshelve/Utf8FirstFaultPinLaw", "cell", "(JIIII)B"⟩ : MethodName)) hown (mvT hZ (hw _ (List.mem_of_getElem? (i := 5) rfl))) (mvT hZ (hw _ (List.mem_of_getElem? (i := 6) rfl))) (mvT hZ (hw _ (List.mem_of_getElem? (i := 3) rfl))) (mvT hZ (hw _ (List.mem_of_getElem? (i := 7) rfl))) (by decide) (backOf (W := 2) (rm2 l Z a0 hw [] q2 (2 : Int32) (18 : Int32) p4 p5  h143 n0 Zn145 ) hZ (hw _ (List.mem_of_getElem? (i := 7) rfl)) (hw _ (List.mem_of_getElem? (i := 3) rfl)) (by decide) (by decide)) (g := (mkF m 43 #[.val (.ref a1), .val (.int (16 : Int32)), .val (.long q2), .second, .val (.int p4), .val (.int p5)] [(.int p5), (.int p4), (.int (18 : Int32)), (.int (2 : Int32)), (.long q2), (.int (18 : Int32)), (.ref a1)])) rfl (by rw [hml]; rfl) (argsL := [(.long q2), (.int (2 : Int32)), (.int (18 : Int32)), (.int p4), (.int p5)]) (rest := [(.int (18 : Int32)), (.ref a1)]) (lenOf pd__JIIII_B rfl) rfl (by show 2 * 0 + _ ≤ _; exact Nat.le_of_eq rfl) (hb hby d1_43) (fun _ _ => ⟨rfl, e143, (by decide : 0 + 0 ≤ _), (by decide : 0 + 0 ≤ _)⟩)
  dsimp only [Pt.U, Pt.locs, Pt.cells, Pt.slots] at X149 l149 y149 z149 st149 hQ149
  subst l149 y149 z149
  obtain ⟨rfl, N149q, e149⟩ := hQ149
  have N150 := Fr.app N146 N149q
  obtain ⟨c151, r151, q151, s151, n151, H151, G151⟩ := id f148
  have i151 : ¬ ((18 : Int32) < 0 ∨ c151.slots.size ≤ ((18 : Int32)).toNatClampNeg) := inb_of s151 ⟨by decide, by decide⟩
  obtain ⟨T151, h151, X151, e151, W151, st151⟩ := stB X149 hx hZ e149 r151 (j := (18 : Int32)) i151 (g := (mkF m 46 #[.val (.ref a1), .val (.int (16 : Int32)), .val (.long q2), .second, .val (.int p4), .val (.int p5)] [(.int (own_cell q2 (2 : Int32) (18 : Int32) p4 p5)), (.int (18 : Int32)), (.ref a1)])) rfl rfl (hb hby d1_46)
  have f152 := Arv.set r151 q151 s151 n151 H151 G151 (fits_nar_byte _) W151 18 rfl (by simp [hl])
  have Zn153 := Nat.le_trans Zn145 (Keep.of_wr W151).1
  have N154 := Fr.snoc X151 N150 g1
  have K155 := K147.wr W151 (Or.inl (List.mem_of_getElem? (i := 0) rfl))
  have f156 : Arv Z h151 a1 ka .byte (24 : Int32) ((((us.set 16 (nar .byte (own_cell q2 (0 : Int32) (16 : Int32) p4 p5))).set 17 (nar .byte (own_cell q2 (1 : Int32) (17 : Int32) p4 p5))).set 18 (nar .byte (own_cell q2 (2 : Int32) (18 : Int32) p4 p5))).map Value.int) (.int (0 : Int32)) := own_map_set ▸ f152
  obtain ⟨_, _, ⟨T157, L157, k157, n157⟩, -, X157, ⟨Lc157, hQ157, l157, y157, z157⟩, st157⟩ := Jvm.LawKit.callS X151 hx (y := (⟨"com/example/reshelve/reshelve/Utf8FirstFaultPinLaw", "cell", "(JIIII)B"⟩ : MethodName)) hown (mvT hZ (hw _ (List.mem_of_getElem? (i := 5) rfl))) (mvT hZ (hw _ (List.mem_of_getElem? (i := 6) rfl))) (mvT hZ (hw _ (List.mem_of_getElem? (i := 3) rfl))) (mvT hZ (hw _ (List.mem_of_getElem? (i := 7) rfl))) (by decide) (backOf (W := 2) (rm2 l Z a0 hw [] q2 (3 : Int32) (19 : Int32) p4 p5  h151 n0 Zn153 ) hZ (hw _ (List.mem_of_getElem? (i := 7) rfl)) (hw _ (List.mem_of_getElem? (i := 3) rfl)) (by decide) (by decide)) (g := (mkF m 60 #[.val (.ref a1), .val (.int (16 : Int32)), .val (.long q2), .second, .val (.int p4), .val (.int p5)] [(.int p5), (.int p4), (.int (19 : Int32)), (.int (3 : Int32)), (.long q2), (.int (19 : Int32)), (.ref a1)])) rfl (by rw [hml]; rfl) (argsL := [(.long q2), (.int (3 : Int32)), (.int (19 : Int32)), (.int p4), (.int p5)]) (rest := [(.int (19 : Int32)), (.ref a1)]) (lenOf pd__JIIII_B rfl) rfl (by show 2 * 0 + _ ≤ _; exact Nat.le_of_eq rfl) (hb hby d1_60) (fun _ _ => ⟨rfl, e151, (by decide : 0 + 0 ≤ _), (by decide : 0 + 0 ≤ _)⟩)
  dsimp only [Pt.U, Pt.locs, Pt.cells, Pt.slots] at X157 l157 y157 z157 st157 hQ157
  subst l157 y157 z157
  obtain ⟨rfl, N157q, e157⟩ := hQ157
  have N158 := Fr.app N154 N157q
  obtain ⟨c159, r159, q159, s159, n159, H159, G159⟩ := id f156
  have i159 : ¬ ((19 : Int32) < 0 ∨ c159.slots.size ≤ ((19 : Int32)).toNatClampNeg) := inb_of s159 ⟨by decide, by decide⟩
  obtain ⟨T159, h159, X159, e159, W159, st159⟩ := stB X157 hx hZ e157 r159 (j := (19 : Int32)) i159 (g := (mkF m 63 #[.val (.ref a1), .val (.int (16 : Int32)), .val (.long q2), .second, .val (.int p4), .val (.int p5)] [(.int (own_cell q2 (3 : Int32) (19 : Int32) p4 p5)), (.int (19 : Int32)), (.ref a1)])) rfl rfl (hb hby d1_63)
  have f160 := Arv.set r159 q159 s159 n159 H159 G159 (fits_nar_byte _) W159 19 rfl (by simp [hl])
  have Zn161 := Nat.le_trans Zn153 (Keep.of_wr W159).1
  have N162 := Fr.snoc X159 N158 g1
  have K163 := K155.wr W159 (Or.inl (List.mem_of_getElem? (i := 0) rfl))
  have f164 : Arv Z h159 a1 ka .byte (24 : Int32) (((((us.set 16 (nar .byte (own_cell q2 (0 : Int32) (16 : Int32) p4 p5))).set 17 (nar .byte (own_cell q2 (1 : Int32) (17 : Int32) p4 p5))).set 18 (nar .byte (own_cell q2 (2 : Int32) (18 : Int32) p4 p5))).set 19 (nar .byte (own_cell q2 (3 : Int32) (19 : Int32) p4 p5))).map Value.int) (.int (0 : Int32)) := own_map_set ▸ f160
  obtain ⟨_, _, ⟨T165, L165, k165, n165⟩, -, X165, ⟨Lc165, hQ165, l165, y165, z165⟩, st165⟩ := Jvm.LawKit.callS X159 hx (y := (⟨"com/example/reshelve/reshelve/Utf8FirstFaultPinLaw", "cell", "(JIIII)B"⟩ : MethodName)) hown (mvT hZ (hw _ (List.mem_of_getElem? (i := 5) rfl))) (mvT hZ (hw _ (List.mem_of_getElem? (i := 6) rfl))) (mvT hZ (hw _ (List.mem_of_getElem? (i := 3) rfl))) (mvT hZ (hw _ (List.mem_of_getElem? (i := 7) rfl))) (by decide) (backOf (W := 2) (rm2 l Z a0 hw [] q2 (4 : Int32) (20 : Int32) p4 p5  h159 n0 Zn161 ) hZ (hw _ (List.mem_of_getElem? (i := 7) rfl)) (hw _ (List.mem_of_getElem? (i := 3) rfl)) (by decide) (by decide)) (g := (mkF m 77 #[.val (.ref a1), .val (.int (16 : Int32)), .val (.long q2), .second, .val (.int p4), .val (.int p5)] [(.int p5), (.int p4), (.int (20 : Int32)), (.int (4 : Int32)), (.long q2), (.int (20 : Int32)), (.ref a1)])) rfl (by rw [hml]; rfl) (argsL := [(.long q2), (.int (4 : Int32)), (.int (20 : Int32)), (.int p4), (.int p5)]) (rest := [(.int (20 : Int32)), (.ref a1)]) (lenOf pd__JIIII_B rfl) rfl (by show 2 * 0 + _ ≤ _; exact Nat.le_of_eq rfl) (hb hby d1_77) (fun _ _ => ⟨rfl, e159, (by decide : 0 + 0 ≤ _), (by decide : 0 + 0 ≤ _)⟩)
  dsimp only [Pt.U, Pt.locs, Pt.cells, Pt.slots] at X165 l165 y165 z165 st165 hQ165
  subst l165 y165 z165
  obtain ⟨rfl, N165q, e165⟩ := hQ165
  have N166 := Fr.app N162 N165q
  obtain ⟨c167, r167, q167, s167, n167, H167, G167⟩ := id f164
  have i167 : ¬ ((20 : Int32) < 0 ∨ c167.slots.size ≤ ((20 : Int32)).toNatClampNeg) := inb_of s167 ⟨by decide, by decide⟩
  obtain ⟨T167, h167, X167, e167, W167, st167⟩ := stB X165 hx hZ e165 r167 (j := (20 : Int32)) i167 (g := (mkF m 80 #[.val (.ref a1), .val (.int (16 : Int32)), .val (.long q2), .second, .val (.int p4), .val (.int p5)] [(.int (own_cell q2 (4 : Int32) (20 : Int32) p4 p5)), (.int (20 : Int32)), (.ref a1)])) rfl rfl (hb hby d1_80)
  have f168 := Arv.set r167 q167 s167 n167 H167 G167 (fits_nar_byte _) W167 20 rfl (by simp [hl])
  have Zn169 := Nat.le_trans Zn161 (Keep.of_wr W167).1
  have N170 := Fr.snoc X167 N166 g1
  have K171 := K163.wr W167 (Or.inl (List.mem_of_getElem? (i := 0) rfl))
  have f172 : Arv Z h167 a1 ka .byte (24 : Int32) ((((((us.set 16 (nar .byte (own_cell q2 (0 : Int32) (16 : Int32) p4 p5))).set 17 (nar .byte (own_cell q2 (1 : Int32) (17 : Int32) p4 p5))).set 18 (nar .byte (own_cell q2 (2 : Int32) (18 : Int32) p4 p5))).set 19 (nar .byte (own_cell q2 (3 : Int32) (19 : Int32) p4 p5))).set 20 (nar .byte (own_cell q2 (4 : Int32) (20 : Int32) p4 p5))).map Value.int) (.int (0 : Int32)) := own_map_set ▸ f168
  obtain ⟨_, _, ⟨T173, L173, k173, n173⟩, -, X173, ⟨Lc173, hQ173, l173, y173, z173⟩, st173⟩ := Jvm.LawKit.callS X167 hx (y := (⟨"com/example/reshelve/reshelve/Utf8FirstFaultPinLaw", "cell", "(JIIII)B"⟩ : MethodName)) hown (mvT hZ (hw _ (List.mem_of_getElem? (i := 5) rfl))) (mvT hZ (hw _ (List.mem_of_getElem? (i := 6) rfl))) (mvT hZ (hw _ (List.mem_of_getElem? (i := 3) rfl))) (mvT hZ (hw _ (List.mem_of_getElem? (i := 7) rfl))) (by decide) (backOf (W := 2) (rm2 l Z a0 hw [] q2 (5 : Int32) (21 : Int32) p4 p5  h167 n0 Zn169 ) hZ (hw _ (List.mem_of_getElem? (i := 7) rfl)) (hw _ (List.mem_of_getElem? (i := 3) rfl)) (by decide) (by decide)) (g := (mkF m 94 #[.val (.ref a1), .val (.int (16 : Int32)), .val (.long q2), .second, .val (.int p4), .val (.int p5)] [(.int p5), (.int p4), (.int (21 : Int32)), (.int (5 : Int32)), (.long q2), (.int (21 : Int32)), (.ref a1)])) rfl (by rw [hml]; rfl) (argsL := [(.long q2), (.int (5 : Int32)), (.int (21 : Int32)), (.int p4), (.int p5)]) (rest := [(.int (21 : Int32)), (.ref a1)]) (lenOf pd__JIIII_B rfl) rfl (by show 2 * 0 + _ ≤ _; exact Nat.le_of_eq rfl) (hb hby d1_94) (fun _ _ => ⟨rfl, e167, (by decide : 0 + 0 ≤ _), (by decide : 0 + 0 ≤ _)⟩)
  dsimp only [Pt.U, Pt.locs, Pt.cells, Pt.slots] at X173 l173 y173 z173 st173 hQ173
  subst l173 y173 z173
  obtain ⟨rfl, N173q, e173⟩ := hQ173
  have N174 := Fr.app N170 N173q
  obtain ⟨c175, r175, q175, s175, n175, H175, G175⟩ := id f172
  have i175 : ¬ ((21 : Int32) < 0 ∨ c175.slots.size ≤ ((21 : Int32)).toNatClampNeg) := inb_of s175 ⟨by decide, by decide⟩
  obtain ⟨T175, h175, X175, e175, W175, st175⟩ := stB X173 hx hZ e173 r175 (j := (21 : Int32)) i175 (g := (mkF m 97 #[.val (.ref a1), .val (.int (16 : Int32)), .val (.long q2), .second, .val (.int p4), .val (.int p5)] [(.int (own_cell q2 (5 : Int32) (21 : Int32) p4 p5)), (.int (21 : Int32)), (.ref a1)])) rfl rfl (hb hby d1_97)
  have f176 := Arv.set r175 q175 s175 n175 H175 G175 (fits_nar_byte _) W175 21 rfl (by simp [hl])
  have Zn177 := Nat.le_trans Zn169 (Keep.of_wr W175).1
  have N178 := Fr.snoc X175 N174 g1
  have K179 := K171.wr W175 (Or.inl (List.mem_of_getElem? (i := 0) rfl))
  have f180 : Arv Z h175 a1 ka .byte (24 : Int32) (((((((us.set 16 (nar .byte (own_cell q2 (0 : Int32) (16 : Int32) p4 p5))).set 17 (nar .byte (own_cell q2 (1 : Int32) (17 : Int32) p4 p5))).set 18 (nar .byte (own_cell q2 (2 : Int32) (18 : Int32) p4 p5))).set 19 (nar .byte (own_cell q2 (3 : Int32) (19 : Int32) p4 p5))).set 20 (nar .byte (own_cell q2 (4 : Int32) (20 : Int32) p4 p5))).set 21 (nar .byte (own_cell q2 (5 : Int32) (21 : Int32) p4 p5))).map Value.int) (.int (0 : Int32)) := own_map_set ▸ f176
  obtain ⟨_, _, ⟨T181, L181, k181, n181⟩, -, X181, ⟨Lc181, hQ181, l181, y181, z181⟩, st181⟩ := Jvm.LawKit.callS X175 hx (y := (⟨"com/example/reshelve/reshelve/Utf8FirstFaultPinLaw", "cell", "(JIIII)B"⟩ : MethodName)) hown (mvT hZ (hw _ (List.mem_of_getElem? (i := 5) rfl))) (mvT hZ (hw _ (List.mem_of_getElem? (i := 6) rfl))) (mvT hZ (hw _ (List.mem_of_getElem? (i := 3) rfl))) (mvT hZ (hw _ (List.mem_of_getElem? (i := 7) rfl))) (by decide) (backOf (W := 2) (rm2 l Z a0 hw [] q2 (6 : Int32) (22 : Int32) p4 p5  h175 n0 Zn177 ) hZ (hw _ (List.mem_of_getElem? (i := 7) rfl)) (hw _ (List.mem_of_getElem? (i := 3) rfl)) (by decide) (by decide)) (g := (mkF m 114 #[.val (.ref a1), .val (.int (16 : Int32)), .val (.long q2), .second, .val (.int p4), .val (.int p5)] [(.int p5), (.int p4), (.int (22 : Int32)), (.int (6 : Int32)), (.long q2), (.int (22 : Int32)), (.ref a1)])) rfl (by rw [hml]; rfl) (argsL := [(.long q2), (.int (6 : Int32)), (.int (22 : Int32)), (.int p4), (.int p5)]) (rest := [(.int (22 : Int32)), (.ref a1)]) (lenOf pd__JIIII_B rfl) rfl (by show 2 * 0 + _ ≤ _; exact Nat.le_of_eq rfl) (hb hby d1_114) (fun _ _ => ⟨rfl, e175, (by decide : 0 + 0 ≤ _), (by decide : 0 + 0 ≤ _)⟩)
  dsimp only [Pt.U, Pt.locs, Pt.cells, Pt.slots] at X181 l181 y181 z181 st181 hQ181
  subst l181 y181 z181
  obtain ⟨rfl, N181q, e181⟩ := hQ181
  have N182 := Fr.app N178 N181q
  obtain ⟨c183, r183, q183, s183, n183, H183, G183⟩ := id f180
  have i183 : ¬ ((22 : Int32) < 0 ∨ c183.slots.size ≤ ((22 : Int32)).toNatClampNeg) := inb_of s183 ⟨by decide, by decide⟩
  obtain ⟨T183, h183, X183, e183, W183, st183⟩ := stB X181 hx hZ e181 r183 (j := (22 : Int32)) i183 (g := (mkF m 117 #[.val (.ref a1), .val (.int (16 : Int32)), .val (.long q2), .second, .val (.int p4), .val (.int p5)] [(.int (own_cell q2 (6 : Int32) (22 : Int32) p4 p5)), (.int (22 : Int32)), (.ref a1)])) rfl rfl (hb hby d1_117)
  have f184 := Arv.set r183 q183 s183 n183 H183 G183 (fits_nar_byte _) W183 22 rfl (by simp [hl])
  have Zn185 := Nat.le_trans Zn177 (Keep.of_wr W183).1
  have N186 := Fr.snoc X183 N182 g1
  have K187 := K179.wr W183 (Or.inl (List.mem_of_getElem? (i := 0) rfl))
  have f188 : Arv Z h183 a1 ka .byte (24 : Int32) ((((((((us.set 16 (nar .byte (own_cell q2 (0 : Int32) (16 : Int32) p4 p5))).set 17 (nar .byte (own_cell q2 (1 : Int32) (17 : Int32) p4 p5))).set 18 (nar .byte (own_cell q2 (2 : Int32) (18 : Int32) p4 p5))).set 19 (nar .byte (own_cell q2 (3 : Int32) (19 : Int32) p4 p5))).set 20 (nar .byte (own_cell q2 (4 : Int32) (20 : Int32) p4 p5))).set 21 (nar .byte (own_cell q2 (5 : Int32) (21 : Int32) p4 p5))).set 22 (nar .byte (own_cell q2 (6 : Int32) (22 : Int32) p4 p5))).map Value.int) (.int (0 : Int32)) := own_map_set ▸ f184
  obtain ⟨_, _, ⟨T189, L189, k189, n189⟩, -, X189, ⟨Lc189, hQ189, l189, y189, z189⟩, st189⟩ := Jvm.LawKit.callS X183 hx (y := (⟨"com/example/reshelve/reshelve/Utf8FirstFaultPinLaw", "cell", "(JIIII)B"⟩ : MethodName)) hown (mvT hZ (hw _ (List.mem_of_getElem? (i := 5) rfl))) (mvT hZ (hw _ (List.mem_of_getElem? (i := 6) rfl))) (mvT hZ (hw _ (List.mem_of_getElem? (i := 3) rfl))) (mvT hZ (hw _ (List.mem_of_getElem? (i := 7) rfl))) (by decide) (backOf (W := 2) (rm2 l Z a0 hw [] q2 (7 : Int32) (23 : Int32) p4 p5  h183 n0 Zn185 ) hZ (hw _ (List.mem_of_getElem? (i := 7) rfl)) (hw _ (List.mem_of_getElem? (i := 3) rfl)) (by decide) (by decide)) (g := (mkF m 134 #[.val (.ref a1), .val (.int (16 : Int32)), .val (.long q2), .second, .val (.int p4), .val (.int p5)] [(.int p5), (.int p4), (.int (23 : Int32)), (.int (7 : Int32)), (.long q2), (.int (23 : Int32)), (.ref a1)])) rfl (by rw [hml]; rfl) (argsL := [(.long q2), (.int (7 : Int32)), (.int (23 : Int32)), (.int p4), (.int p5)]) (rest := [(.int (23 : Int32)), (.ref a1)]) (lenOf pd__JIIII_B rfl) rfl (by show 2 * 0 + _ ≤ _; exact Nat.le_of_eq rfl) (hb hby d1_134) (fun _ _ => ⟨rfl, e183, (by decide : 0 + 0 ≤ _), (by decide : 0 + 0 ≤ _)⟩)
  dsimp only [Pt.U, Pt.locs, Pt.cells, Pt.slots] at X189 l189 y189 z189 st189 hQ189
  subst l189 y189 z189
  obtain ⟨rfl, N189q, e189⟩ := hQ189
  have N190 := Fr.app N186 N189q
  obtain ⟨c191, r191, q191, s191, n191, H191, G191⟩ := id f188
  have i191 : ¬ ((23 : Int32) < 0 ∨ c191.slots.size ≤ ((23 : Int32)).toNatClampNeg) := inb_of s191 ⟨by decide, by decide⟩
  obtain ⟨T191, h191, X191, e191, W191, st191⟩ := stB X189 hx hZ e189 r191 (j := (23 : Int32)) i191 (g := (mkF m 137 #[.val (.ref a1), .val (.int (16 : Int32)), .val (.long q2), .second, .val (.int p4), .val (.int p5)] [(.int (own_cell q2 (7 : Int32) (23 : Int32) p4 p5)), (.int (23 : Int32)), (.ref a1)])) rfl rfl (hb hby d1_137)
  have f192 := Arv.set r191 q191 s191 n191 H191 G191 (fits_nar_byte _) W191 23 rfl (by simp [hl])
  have Zn193 := Nat.le_trans Zn185 (Keep.of_wr W191).1
  have N194 := Fr.snoc X191 N190 g1
  have K195 := K187.wr W191 (Or.inl (List.mem_of_getElem? (i := 0) rfl))
  have f196 : Arv Z h191 a1 ka .byte (24 : Int32) (((((((((us.set 16 (nar .byte (own_cell q2 (0 : Int32) (16 : Int32) p4 p5))).set 17 (nar .byte (own_cell q2 (1 : Int32) (17 : Int32) p4 p5))).set 18 (nar .byte (own_cell q2 (2 : Int32) (18 : Int32) p4 p5))).set 19 (nar .byte (own_cell q2 (3 : Int32) (19 : Int32) p4 p5))).set 20 (nar .byte (own_cell q2 (4 : Int32) (20 : Int32) p4 p5))).set 21 (nar .byte (own_cell q2 (5 : Int32) (21 : Int32) p4 p5))).set 22 (nar .byte (own_cell q2 (6 : Int32) (22 : Int32) p4 p5))).set 23 (nar .byte (own_cell q2 (7 : Int32) (23 : Int32) p4 p5))).map Value.int) (.int (0 : Int32)) := own_map_set ▸ f192
  obtain ⟨fs, hr, hrun, hended, hW, hsame⟩ := X191.leave (v := none) (fun _ => rfl)
  refine ⟨_, _, pre0 _ ?_, hrun, hended, _, _, rfl, ?_, ⟨_, rfl⟩, hW, hsame.mono (by decide) (by decide)⟩
  · show Steps p.tables e below (s₁.setTop (mkF m 0 #[.val (.ref a1), .val (.int (16 : Int32)), .val (.long q2), .second, .val (.int p4), .val (.int p5)] [])) _
    refine XS.aloadN X0.here hx rfl (hb hby d1_0) rfl rfl ?_
    show Steps p.tables e below (s₁.setTop (mkF m 1 #[.val (.ref a1), .val (.int (16 : Int32)), .val (.long q2), .second, .val (.int p4), .val (.int p5)] [(.ref a1)])) _
    refine XS.iloadN X0.here hx rfl (hb hby d1_1) rfl ?_
    show Steps p.tables e below (s₁.setTop (mkF m 2 #[.val (.ref a1), .val (.int (16 : Int32)), .val (.long q2), .second, .val (.int p4), .val (.int p5)] [(.int (16 : Int32)), (.ref a1)])) _
    refine XS.lloadN X0.here hx rfl (hb hby d1_2) rfl ?_
    show Steps p.tables e below (s₁.setTop (mkF m 3 #[.val (.ref a1), .val (.int (16 : Int32)), .val (.long q2), .second, .val (.int p4), .val (.int p5)] [(.long q2), (.int (16 : Int32)), (.ref a1)])) _
    refine XS.iconst X0.here hx rfl (hb hby d1_3) ?_
    show Steps p.tables e below (s₁.setTop (mkF m 4 #[.val (.ref a1), .val (.int (16 : Int32)), .val (.long q2), .second, .val (.int p4), .val (.int p5)] [(.int (0 : Int32)), (.long q2), (.int (16 : Int32)), (.ref a1)])) _
    refine XS.iloadN X0.here hx rfl (hb hby d1_4) rfl ?_
    show Steps p.tables e below (s₁.setTop (mkF m 5 #[.val (.ref a1), .val (.int (16 : Int32)), .val (.long q2), .second, .val (.int p4), .val (.int p5)] [(.int (16 : Int32)), (.int (0 : Int32)), (.long q2), (.int (16 : Int32)), (.ref a1)])) _
    refine XS.iload X0.here hx rfl (hb hby d1_5) rfl ?_
    show Steps p.tables e below (s₁.setTop (mkF m 7 #[.val (.ref a1), .val (.int (16 : Int32)), .val (.long q2), .second, .val (.int p4), .val (.int p5)] [(.int p4), (.int (16 : Int32)), (.int (0 : Int32)), (.long q2), (.int (16 : Int32)), (.ref a1)])) _
    refine XS.iload X0.here hx rfl (hb hby d1_7) rfl ?_
    show Steps p.tables e below (s₁.setTop (mkF m 9 #[.val (.ref a1), .val (.int (16 : Int32)), .val (.long q2), .second, .val (.int p4), .val (.int p5)] [(.int p5), (.int p4), (.int (16 : Int32)), (.int (0 : Int32)), (.long q2), (.int (16 : Int32)), (.ref a1)])) _
    refine st133 _ ?_
    show Steps p.tables e below (T133.setTop (mkF m 12 #[.val (.ref a1), .val (.int (16 : Int32)), .val (.long q2), .second, .val (.int p4), .val (.int p5)] [(.int (own_cell q2 (0 : Int32) (16 : Int32) p4 p5)), (.int (16 : Int32)), (.ref a1)])) _
    refine st135 _ ?_
    show Steps p.tables e below (T135.setTop (mkF m 13 #[.val (.ref a1), .val (.int (16 : Int32)), .val (.long q2), .second, .val (.int p4), .val (.int p5)] [])) _
    refine XS.aloadN X135.here hx rfl (hb hby d1_13) rfl rfl ?_
    show Steps p.tables e below (T135.setTop (mkF m 14 #[.val (.ref a1), .val (.int (16 : Int32)), .val (.long q2), .second, .val (.int p4), .val (.int p5)] [(.ref a1)])) _
    refine XS.iloadN X135.here hx rfl (hb hby d1_14) rfl ?_
    show Steps p.tables e below (T135.setTop (mkF m 15 #[.val (.ref a1), .val (.int (16 : Int32)), .val (.long q2), .second, .val (.int p4), .val (.int p5)] [(.int (16 : Int32)), (.ref a1)])) _
    refine XS.iconst X135.here hx rfl (hb hby d1_15) ?_
    show Steps p.tables e below (T135.setTop (mkF m 16 #[.val (.ref a1), .val (.int (16 : Int32)), .val (.long q2), .second, .val (.int p4), .val (.int p5)] [(.int (1 : Int32)), (.int (16 : Int32)), (.ref a1)])) _
    refine XS.iadd X135.here hx rfl (hb hby d1_16) rfl ?_
    show Steps p.tables e below (T135.setTop (mkF m 17 #[.val (.ref a1), .val (.int (16 : Int32)), .val (.long q2), .second, .val (.int p4), .val (.int p5)] [(.int (17 : Int32)), (.ref a1)])) _
    refine XS.lloadN X135.here hx rfl (hb hby d1_17) rfl ?_
    show Steps p.tables e below (T135.setTop (mkF m 18 #[.val (.ref a1), .val (.int (16 : Int32)), .val (.long q2), .second, .val (.int p4), .val (.int p5)] [(.long q2), (.int (17 : Int32)), (.ref a1)])) _
    refine XS.iconst X135.here hx rfl (hb hby d1_18) ?_
    show Steps p.tables e below (T135.setTop (mkF m 19 #[.val (.ref a1), .val (.int (16 : Int32)), .val (.long q2), .second, .val (.int p4), .val (.int p5)] [(.int (1 : Int32)), (.long q2), (.int (17 : Int32)), (.ref a1)])) _
    refine XS.iloadN X135.here hx rfl (hb hby d1_19) rfl ?_
    show Steps p.tables e below (T135.setTop (mkF m 20 #[.val (.ref a1), .val (.int (16 : Int32)), .val (.long q2), .second, .val (.int p4), .val (.int p5)] [(.int (16 : Int32)), (.int (1 : Int32)), (.long q2), (.int (17 : Int32)), (.ref a1)])) _
    refine XS.iconst X135.here hx rfl (hb hby d1_20) ?_
    show Steps p.tables e below (T135.setTop (mkF m 21 #[.val (.ref a1), .val (.int (16 : Int32)), .val (.long q2), .second, .val (.int p4), .val (.int p5)] [(.int (1 : Int32)), (.int (16 : Int32)), (.int (1 : Int32)), (.long q2), (.int (17 : Int32)), (.ref a1)])) _
    refine XS.iadd X135.here hx rfl (hb hby d1_21) rfl ?_
    show Steps p.tables e below (T135.setTop (mkF m 22 #[.val (.ref a1), .val (.int (16 : Int32)), .val (.long q2), .second, .val (.int p4), .val (.int p5)] [(.int (17 : Int32)), (.int (1 : Int32)), (.long q2), (.int (17 : Int32)), (.ref a1)])) _
    refine XS.iload X135.here hx rfl (hb hby d1_22) rfl ?_
    show Steps p.tables e below (T135.setTop (mkF m 24 #[.val (.ref a1), .val (.int (16 : Int32)), .val (.long q2), .second, .val (.int p4), .val (.int p5)] [(.int p4), (.int (17 : Int32)), (.int (1 : Int32)), (.long q2), (.int (17 : Int32)), (.ref a1)])) _
    refine XS.iload X135.here hx rfl (hb hby d1_24) rfl ?_
    show Steps p.tables e below (T135.setTop (mkF m 26 #[.val (.ref a1), .val (.int (16 : Int32)), .val (.long q2), .second, .val (.int p4), .val (.int p5)] [(.int p5), (.int p4), (.int (17 : Int32)), (.int (1 : Int32)), (.long q2), (.int (17 : Int32)), (.ref a1)])) _
    refine st141 _ ?_
    show Steps p.tables e below (T141.setTop (mkF m 29 #[.val (.ref a1), .val (.int (16 : Int32)), .val (.long q2), .second, .val (.int p4), .val (.int p5)] [(.int (own_cell q2 (1 : Int32) (17 : Int32) p4 p5)), (.int (17 : Int32)), (.ref a1)])) _
    refine st143 _ ?_
    show Steps p.tables e below (T143.setTop (mkF m 30 #[.val (.ref a1), .val (.int (16 : Int32)), .val (.long q2), .second, .val (.int p4), .val (.int p5)] [])) _
    refine XS.aloadN X143.here hx rfl (hb hby d1_30) rfl rfl ?_
    show Steps p.tables e below (T143.setTop (mkF m 31 #[.val (.ref a1), .val (.int (16 : Int32)), .val (.long q2), .second, .val (.int p4), .val (.int p5)] [(.ref a1)])) _
    refine XS.iloadN X143.here hx rfl (hb hby d1_31) rfl ?_
    show Steps p.tables e below (T143.setTop (mkF m 32 #[.val (.ref a1), .val (.int (16 : Int32)), .val (.long q2), .second, .val (.int p4), .val (.int p5)] [(.int (16 : Int32)), (.ref a1)])) _
    refine XS.iconst X143.here hx rfl (hb hby d1_32) ?_
    show Steps p.tables e below (T143.setTop (mkF m 33 #[.val (.ref a1), .val (.int (16 : Int32)), .val (.long q2), .second, .val (.int p4), .val (.int p5)] [(.int (2 : Int32)), (.int (16 : Int32)), (.ref a1)])) _
    refine XS.iadd X143.here hx rfl (hb hby d1_33) rfl ?_
    show Steps p.tables e below (T143.setTop (mkF m 34 #[.val (.ref a1), .val (.int (16 : Int32)), .val (.long q2), .second, .val (.int p4), .val (.int p5)] [(.int (18 : Int32)), (.ref a1)])) _
    refine XS.lloadN X143.here hx rfl (hb hby d1_34) rfl ?_
    show Steps p.tables e below (T143.setTop (mkF m 35 #[.val (.ref a1), .val (.int (16 : Int32)), .val (.long q2), .second, .val (.int p4), .val (.int p5)] [(.long q2), (.int (18 : Int32)), (.ref a1)])) _
    refine XS.iconst X143.here hx rfl (hb hby d1_35) ?_
    show Steps p.tables e below (T143.setTop (mkF m 36 #[.val (.ref a1), .val (.int (16 : Int32)), .val (.long q2), .second, .val (.int p4), .val (.int p5)] [(.int (2 : Int32)), (.long q2), (.int (18 : Int32)), (.ref a1)])) _
    refine XS.iloadN X143.here hx rfl (hb hby d1_36) rfl ?_
    show Steps p.tables e below (T143.setTop (mkF m 37 #[.val (.ref a1), .val (.int (16 : Int32)), .val (.long q2), .second, .val (.int p4), .val (.int p5)] [(.int (16 : Int32)), (.int (2 : Int32)), (.long q2), (.int (18 : Int32)), (.ref a1)])) _
    refine XS.iconst X143.here hx rfl (hb hby d1_37) ?_
    show Steps p.tables e below (T143.setTop (mkF m 38 #[.val (.ref a1), .val (.int (16 : Int32)), .val (.long q2), .second, .val (.int p4), .val (.int p5)] [(.int (2 : Int32)), (.int (16 : Int32)), (.int (2 : Int32)), (.long q2), (.int (18 : Int32)), (.ref a1)])) _
    refine XS.iadd X143.here hx rfl (hb hby d1_38) rfl ?_
    show Steps p.tables e below (T143.setTop (mkF m 39 #[.val (.ref a1), .val (.int (16 : Int32)), .val (.long q2), .second, .val (.int p4), .val (.int p5)] [(.int (18 : Int32)), (.int (2 : Int32)), (.long q2), (.int (18 : Int32)), (.ref a1)])) _
    refine XS.iload X143.here hx rfl (hb hby d1_39) rfl ?_
    show Steps p.tables e below (T143.setTop (mkF m 41 #[.val (.ref a1), .val (.int (16 : Int32)), .val (.long q2), .second, .val (.int p4), .val (.int p5)] [(.int p4), (.int (18 : Int32)), (.int (2 : Int32)), (.long q2), (.int (18 : Int32)), (.ref a1)])) _
    refine XS.iload X143.here hx rfl (hb hby d1_41) rfl ?_
    show Steps p.tables e below (T143.setTop (mkF m 43 #[.val (.ref a1), .val (.int (16 : Int32)), .val (.long q2), .second, .val (.int p4), .val (.int p5)] [(.int p5), (.int p4), (.int (18 : Int32)), (.int (2 : Int32)), (.long q2), (.int (18 : Int32)), (.ref a1)])) _
    refine st149 _ ?_
    show Steps p.tables e below (T149.setTop (mkF m 46 #[.val (.ref a1), .val (.int (16 : Int32)), .val (.long q2), .second, .val (.int p4), .val (.int p5)] [(.int (own_cell q2 (2 : Int32) (18 : Int32) p4 p5)), (.int (18 : Int32)), (.ref a1)])) _
    refine st151 _ ?_
    show Steps p.tables e below (T151.setTop (mkF m 47 #[.val (.ref a1), .val (.int (16 : Int32)), .val (.long q2), .second, .val (.int p4), .val (.int p5)] [])) _
    refine XS.aloadN X151.here hx rfl (hb hby d1_47) rfl rfl ?_
    show Steps p.tables e below (T151.setTop (mkF m 48 #[.val (.ref a1), .val (.int (16 : Int32)), .val (.long q2), .second, .val (.int p4), .val (.int p5)] [(.ref a1)])) _
    refine XS.iloadN X151.here hx rfl (hb hby d1_48) rfl ?_
    show Steps p.tables e below (T151.setTop (mkF m 49 #[.val (.ref a1), .val (.int (16 : Int32)), .val (.long q2), .second, .val (.int p4), .val (.int p5)] [(.int (16 : Int32)), (.ref a1)])) _
    refine XS.iconst X151.here hx rfl (hb hby d1_49) ?_
    show Steps p.tables e below (T151.setTop (mkF m 50 #[.val (.ref a1), .val (.int (16 : Int32)), .val (.long q2), .second, .val (.int p4), .val (.int p5)] [(.int (3 : Int32)), (.int (16 : Int32)), (.ref a1)])) _
    refine XS.iadd X151.here hx rfl (hb hby d1_50) rfl ?_
    show Steps p.tables e below (T151.setTop (mkF m 51 #[.val (.ref a1), .val (.int (16 : Int32)), .val (.long q2), .second, .val (.int p4), .val (.int p5)] [(.int (19 : Int32)), (.ref a1)])) _
    refine XS.lloadN X151.here hx rfl (hb hby d1_51) rfl ?_
    show Steps p.tables e below (T151.setTop (mkF m 52 #[.val (.ref a1), .val (.int (16 : Int32)), .val (.long q2), .second, .val (.int p4), .val (.int p5)] [(.long q2), (.int (19 : Int32)), (.ref a1)])) _
    refine XS.iconst X151.here hx rfl (hb hby d1_52) ?_
    show Steps p.tables e below (T151.setTop (mkF m 53 #[.val (.ref a1), .val (.int (16 : Int32)), .val (.long q2), .second, .val (.int p4), .val (.int p5)] [(.int (3 : Int32)), (.long q2), (.int (19 : Int32)), (.ref a1)])) _
    refine XS.iloadN X151.here hx rfl (hb hby d1_53) rfl ?_
    show Steps p.tables e below (T151.setTop (mkF m 54 #[.val (.ref a1), .val (.int (16 : Int32)), .val (.long q2), .second, .val (.int p4), .val (.int p5)] [(.int (16 : Int32)), (.int (3 : Int32)), (.long q2), (.int (19 : Int32)), (.ref a1)])) _
    refine XS.iconst X151.here hx rfl (hb hby d1_54) ?_
    show Steps p.tables e below (T151.setTop (mkF m 55 #[.val (.ref a1), .val (.int (16 : Int32)), .val (.long q2), .second, .val (.int p4), .val (.int p5)] [(.int (3 : Int32)), (.int (16 : Int32)), (.int (3 : Int32)), (.long q2), (.int (19 : Int32)), (.ref a1)])) _
    refine XS.iadd X151.here hx rfl (hb hby d1_55) rfl ?_
    show Steps p.tables e below (T151.setTop (mkF m 56 #[.val (.ref a1), .val (.int (16 : Int32)), .val (.long q2), .second, .val (.int p4), .val (.int p5)] [(.int (19 : Int32)), (.int (3 : Int32)), (.long q2), (.int (19 : Int32)), (.ref a1)])) _
    refine XS.iload X151.here hx rfl (hb hby d1_56) rfl ?_
    show Steps p.tables e below (T151.setTop (mkF m 58 #[.val (.ref a1), .val (.int (16 : Int32)), .val (.long q2), .second, .val (.int p4), .val (.int p5)] [(.int p4), (.int (19 : Int32)), (.int (3 : Int32)), (.long q2), (.int (19 : Int32)), (.ref a1)])) _
    refine XS.iload X151.here hx rfl (hb hby d1_58) rfl ?_
    show Steps p.tables e below (T151.setTop (mkF m 60 #[.val (.ref a1), .val (.int (16 : Int32)), .val (.long q2), .second, .val (.int p4), .val (.int p5)] [(.int p5), (.int p4), (.int (19 : Int32)), (.int (3 : Int32)), (.long q2), (.int (19 : Int32)), (.ref a1)])) _
    refine st157 _ ?_
    show Steps p.tables e below (T157.setTop (mkF m 63 #[.val (.ref a1), .val (.int (16 : Int32)), .val (.long q2), .second, .val (.int p4), .val (.int p5)] [(.int (own_cell q2 (3 : Int32) (19 : Int32) p4 p5)), (.int (19 : Int32)), (.ref a1)])) _
    refine st159 _ ?_
    show Steps p.tables e below (T159.setTop (mkF m 64 #[.val (.ref a1), .val (.int (16 : Int32)), .val (.long q2), .second, .val (.int p4), .val (.int p5)] [])) _
    refine XS.aloadN X159.here hx rfl (hb hby d1_64) rfl rfl ?_
    show Steps p.tables e below (T159.setTop (mkF m 65 #[.val (.ref a1), .val (.int (16 : Int32)), .val (.long q2), .second, .val (.int p4), .val (.int p5)] [(.ref a1)])) _
    refine XS.iloadN X159.here hx rfl (hb hby d1_65) rfl ?_
    show Steps p.tables e below (T159.setTop (mkF m 66 #[.val (.ref a1), .val (.int (16 : Int32)), .val (.long q2), .second, .val (.int p4), .val (.int p5)] [(.int (16 : Int32)), (.ref a1)])) _
    refine XS.iconst X159.here hx rfl (hb hby d1_66) ?_
    show Steps p.tables e below (T159.setTop (mkF m 67 #[.val (.ref a1), .val (.int (16 : Int32)), .val (.long q2), .second, .val (.int p4), .val (.int p5)] [(.int (4 : Int32)), (.int (16 : Int32)), (.ref a1)])) _
    refine XS.iadd X159.here hx rfl (hb hby d1_67) rfl ?_
    show Steps p.tables e below (T159.setTop (mkF m 68 #[.val (.ref a1), .val (.int (16 : Int32)), .val (.long q2), .second, .val (.int p4), .val (.int p5)] [(.int (20 : Int32)), (.ref a1)])) _
    refine XS.lloadN X159.here hx rfl (hb hby d1_68) rfl ?_
    show Steps p.tables e below (T159.setTop (mkF m 69 #[.val (.ref a1), .val (.int (16 : Int32)), .val (.long q2), .second, .val (.int p4), .val (.int p5)] [(.long q2), (.int (20 : Int32)), (.ref a1)])) _
    refine XS.iconst X159.here hx rfl (hb hby d1_69) ?_
    show Steps p.tables e below (T159.setTop (mkF m 70 #[.val (.ref a1), .val (.int (16 : Int32)), .val (.long q2), .second, .val (.int p4), .val (.int p5)] [(.int (4 : Int32)), (.long q2), (.int (20 : Int32)), (.ref a1)])) _
    refine XS.iloadN X159.here hx rfl (hb hby d1_70) rfl ?_
    show Steps p.tables e below (T159.setTop (mkF m 71 #[.val (.ref a1), .val (.int (16 : Int32)), .val (.long q2), .second, .val (.int p4), .val (.int p5)] [(.int (16 : Int32)), (.int (4 : Int32)), (.long q2), (.int (20 : Int32)), (.ref a1)])) _
    refine XS.iconst X159.here hx rfl (hb hby d1_71) ?_
    show Steps p.tables e below (T159.setTop (mkF m 72 #[.val (.ref a1), .val (.int (16 : Int32)), .val (.long q2), .second, .val (.int p4), .val (.int p5)] [(.int (4 : Int32)), (.int (16 : Int32)), (.int (4 : Int32)), (.long q2), (.int (20 : Int32)), (.ref a1)])) _
    refine XS.iadd X159.here hx rfl (hb hby d1_72) rfl ?_
    show Steps p.tables e below (T159.setTop (mkF m 73 #[.val (.ref a1), .val (.int (16 : Int32)), .val (.long q2), .second, .val (.int p4), .val (.int p5)] [(.int (20 : Int32)), (.int (4 : Int32)), (.long q2), (.int (20 : Int32)), (.ref a1)])) _
    refine XS.iload X159.here hx rfl (hb hby d1_73) rfl ?_
    show Steps p.tables e below (T159.setTop (mkF m 75 #[.val (.ref a1), .val (.int (16 : Int32)), .val (.long q2), .second, .val (.int p4), .val (.int p5)] [(.int p4), (.int (20 : Int32)), (.int (4 : Int32)), (.long q2), (.int (20 : Int32)), (.ref a1)])) _
    refine XS.iload X159.here hx rfl (hb hby d1_75) rfl ?_
    show Steps p.tables e below (T159.setTop (mkF m 77 #[.val (.ref a1), .val (.int (16 : Int32)), .val (.long q2), .second, .val (.int p4), .val (.int p5)] [(.int p5), (.int p4), (.int (20 : Int32)), (.int (4 : Int32)), (.long q2), (.int (20 : Int32)), (.ref a1)])) _
    refine st165 _ ?_
    show Steps p.tables e below (T165.setTop (mkF m 80 #[.val (.ref a1), .val (.int (16 : Int32)), .val (.long q2), .second, .val (.int p4), .val (.int p5)] [(.int (own_cell q2 (4 : Int32) (20 : Int32) p4 p5)), (.int (20 : Int32)), (.ref a1)])) _
    refine st167 _ ?_
    show Steps p.tables e below (T167.setTop (mkF m 81 #[.val (.ref a1), .val (.int (16 : Int32)), .val (.long q2), .second, .val (.int p4), .val (.int p5)] [])) _
    refine XS.aloadN X167.here hx rfl (hb hby d1_81) rfl rfl ?_
    show Steps p.tables e below (T167.setTop (mkF m 82 #[.val (.ref a1), .val (.int (16 : Int32)), .val (.long q2), .second, .val (.int p4), .val (.int p5)] [(.ref a1)])) _
    refine XS.iloadN X167.here hx rfl (hb hby d1_82) rfl ?_
    show Steps p.tables e below (T167.setTop (mkF m 83 #[.val (.ref a1), .val (.int (16 : Int32)), .val (.long q2), .second, .val (.int p4), .val (.int p5)] [(.int (16 : Int32)), (.ref a1)])) _
    refine XS.iconst X167.here hx rfl (hb hby d1_83) ?_
    show Steps p.tables e below (T167.setTop (mkF m 84 #[.val (.ref a1), .val (.int (16 : Int32)), .val (.long q2), .second, .val (.int p4), .val (.int p5)] [(.int (5 : Int32)), (.int (16 : Int32)), (.ref a1)])) _
    refine XS.iadd X167.here hx rfl (hb hby d1_84) rfl ?_
    show Steps p.tables e below (T167.setTop (mkF m 85 #[.val (.ref a1), .val (.int (16 : Int32)), .val (.long q2), .second, .val (.int p4), .val (.int p5)] [(.int (21 : Int32)), (.ref a1)])) _
    refine XS.lloadN X167.here hx rfl (hb hby d1_85) rfl ?_
    show Steps p.tables e below (T167.setTop (mkF m 86 #[.val (.ref a1), .val (.int (16 : Int32)), .val (.long q2), .second, .val (.int p4), .val (.int p5)] [(.long q2), (.int (21 : Int32)), (.ref a1)])) _
    refine XS.iconst X167.here hx rfl (hb hby d1_86) ?_
    show Steps p.tables e below (T167.setTop (mkF m 87 #[.val (.ref a1), .val (.int (16 : Int32)), .val (.long q2), .second, .val (.int p4), .val (.int p5)] [(.int (5 : Int32)), (.long q2), (.int (21 : Int32)), (.ref a1)])) _
    refine XS.iloadN X167.here hx rfl (hb hby d1_87) rfl ?_
    show Steps p.tables e below (T167.setTop (mkF m 88 #[.val (.ref a1), .val (.int (16 : Int32)), .val (.long q2), .second, .val (.int p4), .val (.int p5)] [(.int (16 : Int32)), (.int (5 : Int32)), (.long q2), (.int (21 : Int32)), (.ref a1)])) _
    refine XS.iconst X167.here hx rfl (hb hby d1_88) ?_
    show Steps p.tables e below (T167.setTop (mkF m 89 #[.val (.ref a1), .val (.int (16 : Int32)), .val (.long q2), .second, .val (.int p4), .val (.int p5)] [(.int (5 : Int32)), (.int (16 : Int32)), (.int (5 : Int32)), (.long q2), (.int (21 : Int32)), (.ref a1)])) _
    refine XS.iadd X167.here hx rfl (hb hby d1_89) rfl ?_
    show Steps p.tables e below (T167.setTop (mkF m 90 #[.val (.ref a1), .val (.int (16 : Int32)), .val (.long q2), .second, .val (.int p4), .val (.int p5)] [(.int (21 : Int32)), (.int (5 : Int32)), (.long q2), (.int (21 : Int32)), (.ref a1)])) _
    refine XS.iload X167.here hx rfl (hb hby d1_90) rfl ?_
    show Steps p.tables e below (T167.setTop (mkF m 92 #[.val (.ref a1), .val (.int (16 : Int32)), .val (.long q2), .second, .val (.int p4), .val (.int p5)] [(.int p4), (.int (21 : Int32)), (.int (5 : Int32)), (.long q2), (.int (21 : Int32)), (.ref a1)])) _
    refine XS.iload X167.here hx rfl (hb hby d1_92) rfl ?_
    show Steps p.tables e below (T167.setTop (mkF m 94 #[.val (.ref a1), .val (.int (16 : Int32)), .val (.long q2), .second, .val (.int p4), .val (.int p5)] [(.int p5), (.int p4), (.int (21 : Int32)), (.int (5 : Int32)), (.long q2), (.int (21 : Int32)), (.ref a1)])) _
    refine st173 _ ?_
    show Steps p.tables e below (T173.setTop (mkF m 97 #[.val (.ref a1), .val (.int (16 : Int32)), .val (.long q2), .second, .val (.int p4), .val (.int p5)] [(.int (own_cell q2 (5 : Int32) (21 : Int32) p4 p5)), (.int (21 : Int32)), (.ref a1)])) _
    refine st175 _ ?_
    show Steps p.tables e below (T175.setTop (mkF m 98 #[.val (.ref a1), .val (.int (16 : Int32)), .val (.long q2), .second, .val (.int p4), .val (.int p5)] [])) _
    refine XS.aloadN X175.here hx rfl (hb hby d1_98) rfl rfl ?_
    show Steps p.tables e below (T175.setTop (mkF m 99 #[.val (.ref a1), .val (.int (16 : Int32)), .val (.long q2), .second, .val (.int p4), .val (.int p5)] [(.ref a1)])) _
    refine XS.iloadN X175.here hx rfl (hb hby d1_99) rfl ?_
    show Steps p.tables e below (T175.setTop (mkF m 100 #[.val (.ref a1), .val (.int (16 : Int32)), .val (.long q2), .second, .val (.int p4), .val (.int p5)] [(.int (16 : Int32)), (.ref a1)])) _
    refine XS.bipush X175.here hx rfl (hb hby d1_100) ?_
    show Steps p.tables e below (T175.setTop (mkF m 102 #[.val (.ref a1), .val (.int (16 : Int32)), .val (.long q2), .second, .val (.int p4), .val (.int p5)] [(.int (6 : Int32)), (.int (16 : Int32)), (.ref a1)])) _
    refine XS.iadd X175.here hx rfl (hb hby d1_102) rfl ?_
    show Steps p.tables e below (T175.setTop (mkF m 103 #[.val (.ref a1), .val (.int (16 : Int32)), .val (.long q2), .second, .val (.int p4), .val (.int p5)] [(.int (22 : Int32)), (.ref a1)])) _
    refine XS.lloadN X175.here hx rfl (hb hby d1_103) rfl ?_
    show Steps p.tables e below (T175.setTop (mkF m 104 #[.val (.ref a1), .val (.int (16 : Int32)), .val (.long q2), .second, .val (.int p4), .val (.int p5)] [(.long q2), (.int (22 : Int32)), (.ref a1)])) _
    refine XS.bipush X175.here hx rfl (hb hby d1_104) ?_
    show Steps p.tables e below (T175.setTop (mkF m 106 #[.val (.ref a1), .val (.int (16 : Int32)), .val (.long q2), .second, .val (.int p4), .val (.int p5)] [(.int (6 : Int32)), (.long q2), (.int (22 : Int32)), (.ref a1)])) _
    refine XS.iloadN X175.here hx rfl (hb hby d1_106) rfl ?_
    show Steps p.tables e below (T175.setTop (mkF m 107 #[.val (.ref a1), .val (.int (16 : Int32)), .val (.long q2), .second, .val (.int p4), .val (.int p5)] [(.int (16 : Int32)), (.int (6 : Int32)), (.long q2), (.int (22 : Int32)), (.ref a1)])) _
    refine XS.bipush X175.here hx rfl (hb hby d1_107) ?_
    show Steps p.tables e below (T175.setTop (mkF m 109 #[.val (.ref a1), .val (.int (16 : Int32)), .val (.long q2), .second, .val (.int p4), .val (.int p5)] [(.int (6 : Int32)), (.int (16 : Int32)), (.int (6 : Int32)), (.long q2), (.int (22 : Int32)), (.ref a1)])) _
    refine XS.iadd X175.here hx rfl (hb hby d1_109) rfl ?_
    show Steps p.tables e below (T175.setTop (mkF m 110 #[.val (.ref a1), .val (.int (16 : Int32)), .val (.long q2), .second, .val (.int p4), .val (.int p5)] [(.int (22 : Int32)), (.int (6 : Int32)), (.long q2), (.int (22 : Int32)), (.ref a1)])) _
    refine XS.iload X175.here hx rfl (hb hby d1_110) rfl ?_
    show Steps p.tables e below (T175.setTop (mkF m 112 #[.val (.ref a1), .val (.int (16 : Int32)), .val (.long q2), .second, .val (.int p4), .val (.int p5)] [(.int p4), (.int (22 : Int32)), (.int (6 : Int32)), (.long q2), (.int (22 : Int32)), (.ref a1)])) _
    refine XS.iload X175.here hx rfl (hb hby d1_112) rfl ?_
    show Steps p.tables e below (T175.setTop (mkF m 114 #[.val (.ref a1), .val (.int (16 : Int32)), .val (.long q2), .second, .val (.int p4), .val (.int p5)] [(.int p5), (.int p4), (.int (22 : Int32)), (.int (6 : Int32)), (.long q2), (.int (22 : Int32)), (.ref a1)])) _
    refine st181 _ ?_
    show Steps p.tables e below (T181.setTop (mkF m 117 #[.val (.ref a1), .val (.int (16 : Int32)), .val (.long q2), .second, .val (.int p4), .val (.int p5)] [(.int (own_cell q2 (6 : Int32) (22 : Int32) p4 p5)), (.int (22 : Int32)), (.ref a1)])) _
    refine st183 _ ?_
    show Steps p.tables e below (T183.setTop (mkF m 118 #[.val (.ref a1), .val (.int (16 : Int32)), .val (.long q2), .second, .val (.int p4), .val (.int p5)] [])) _
    refine XS.aloadN X183.here hx rfl (hb hby d1_118) rfl rfl ?_
    show Steps p.tables e below (T183.setTop (mkF m 119 #[.val (.ref a1), .val (.int (16 : Int32)), .val (.long q2), .second, .val (.int p4), .val (.int p5)] [(.ref a1)])) _
    refine XS.iloadN X183.here hx rfl (hb hby d1_119) rfl ?_
    show Steps p.tables e below (T183.setTop (mkF m 120 #[.val (.ref a1), .val (.int (16 : Int32)), .val (.long q2), .second, .val (.int p4), .val (.int p5)] [(.int (16 : Int32)), (.ref a1)])) _
    refine XS.bipush X183.here hx rfl (hb hby d1_120) ?_
    show Steps p.tables e below (T183.setTop (mkF m 122 #[.val (.ref a1), .val (.int (16 : Int32)), .val (.long q2), .second, .val (.int p4), .val (.int p5)] [(.int (7 : Int32)), (.int (16 : Int32)), (.ref a1)])) _
    refine XS.iadd X183.here hx rfl (hb hby d1_122) rfl ?_
    show Steps p.tables e below (T183.setTop (mkF m 123 #[.val (.ref a1), .val (.int (16 : Int32)), .val (.long q2), .second, .val (.int p4), .val (.int p5)] [(.int (23 : Int32)), (.ref a1)])) _
    refine XS.lloadN X183.here hx rfl (hb hby d1_123) rfl ?_
    show Steps p.tables e below (T183.setTop (mkF m 124 #[.val (.ref a1), .val (.int (16 : Int32)), .val (.long q2), .second, .val (.int p4), .val (.int p5)] [(.long q2), (.int (23 : Int32)), (.ref a1)])) _
    refine XS.bipush X183.here hx rfl (hb hby d1_124) ?_
    show Steps p.tables e below (T183.setTop (mkF m 126 #[.val (.ref a1), .val (.int (16 : Int32)), .val (.long q2), .second, .val (.int p4), .val (.int p5)] [(.int (7 : Int32)), (.long q2), (.int (23 : Int32)), (.ref a1)])) _
    refine XS.iloadN X183.here hx rfl (hb hby d1_126) rfl ?_
    show Steps p.tables e below (T183.setTop (mkF m 127 #[.val (.ref a1), .val (.int (16 : Int32)), .val (.long q2), .second, .val (.int p4), .val (.int p5)] [(.int (16 : Int32)), (.int (7 : Int32)), (.long q2), (.int (23 : Int32)), (.ref a1)])) _
    refine XS.bipush X183.here hx rfl (hb hby d1_127) ?_
    show Steps p.tables e below (T183.setTop (mkF m 129 #[.val (.ref a1), .val (.int (16 : Int32)), .val (.long q2), .second, .val (.int p4), .val (.int p5)] [(.int (7 : Int32)), (.int (16 : Int32)), (.int (7 : Int32)), (.long q2), (.int (23 : Int32)), (.ref a1)])) _
    refine XS.iadd X183.here hx rfl (hb hby d1_129) rfl ?_
    show Steps p.tables e below (T183.setTop (mkF m 130 #[.val (.ref a1), .val (.int (16 : Int32)), .val (.long q2), .second, .val (.int p4), .val (.int p5)] [(.int (23 : Int32)), (.int (7 : Int32)), (.long q2), (.int (23 : Int32)), (.ref a1)])) _
    refine XS.iload X183.here hx rfl (hb hby d1_130) rfl ?_
    show Steps p.tables e below (T183.setTop (mkF m 132 #[.val (.ref a1), .val (.int (16 : Int32)), .val (.long q2), .second, .val (.int p4), .val (.int p5)] [(.int p4), (.int (23 : Int32)), (.int (7 : Int32)), (.long q2), (.int (23 : Int32)), (.ref a1)])) _
    refine XS.iload X183.here hx rfl (hb hby d1_132) rfl ?_
    show Steps p.tables e below (T183.setTop (mkF m 134 #[.val (.ref a1), .val (.int (16 : Int32)), .val (.long q2), .second, .val (.int p4), .val (.int p5)] [(.int p5), (.int p4), (.int (23 : Int32)), (.int (7 : Int32)), (.long q2), (.int (23 : Int32)), (.ref a1)])) _
    refine st189 _ ?_
    show Steps p.tables e below (T189.setTop (mkF m 137 #[.val (.ref a1), .val (.int (16 : Int32)), .val (.long q2), .second, .val (.int p4), .val (.int p5)] [(.int (own_cell q2 (7 : Int32) (23 : Int32) p4 p5)), (.int (23 : Int32)), (.ref a1)])) _
    refine st191 _ ?_
    show Steps p.tables e below (T191.setTop (mkF m 138 #[.val (.ref a1), .val (.int (16 : Int32)), .val (.long q2), .second, .val (.int p4), .val (.int p5)] [])) _
    exact X191.returnOut hx Bd.returns (hb hby d1_138) hr
  · show Qrm1_16 Z a1 q2 p4 p5 us ka h0 n0 _ T191.heap _
    rw [e191]
    exact ⟨rfl, N194, K195, f196⟩
theorem d3_0 : decode method_5_code 0 = .ok (.iload_n 0, 1) := by decide +kernel
theorem d3_1 : decode method_5_code 1 = .ok (.sipush 128, 3) := by decide +kernel
theorem d3_4 : decode method_5_code 4 = .ok (.if_icmp .ge 5, 3) := by decide +kernel
theorem d3_7 : decode method_5_code 7 = .ok (.iconst 1, 1) := by decide +kernel
theorem d3_8 : decode method_5_code 8 = .ok (.ireturn, 1) := by decide +kernel
theorem d3_9 : decode method_5_code 9 = .ok (.iload_n 0, 1) := by decide +kernel
theorem d3_10 : decode method_5_code 10 = .ok (.sipush 224, 3) := by decide +kernel
theorem d3_13 : decode method_5_code 13 = .ok (.iand, 1) := by decide +kernel
theorem d3_14 : decode method_5_code 14 = .ok (.sipush 192, 3) := by decide +kernel
theorem d3_17 : decode method_5_code 17 = .ok (.if_icmp .ne 5, 3) := by decide +kernel
theorem d3_20 : decode method_5_code 20 = .ok (.iconst 2, 1) := by decide +kernel
theorem d3_21 : decode method_5_code 21 = .ok (.ireturn, 1) := by decide +kernel
theorem d3_22 : decode method_5_code 22 = .ok (.iload_n 0, 1) := by decide +kernel
theorem d3_23 : decode method_5_code 23 = .ok (.sipush 240, 3) := by decide +kernel
theorem d3_26 : decode method_5_code 26 = .ok (.iand, 1) := by decide +kernel
theorem d3_27 : decode method_5_code 27 = .ok (.sipush 224, 3) := by decide +kernel
theorem d3_30 : decode method_5_code 30 = .ok (.if_icmp .ne 5, 3) := by decide +kernel
theorem d3_33 : decode method_5_code 33 = .ok (.iconst 3, 1) := by decide +kernel
theorem d3_34 : decode method_5_code 34 = .ok (.ireturn, 1) := by decide +kernel
theorem d3_35 : decode method_5_code 35 = .ok (.iload_n 0, 1) := by decide +kernel
theorem d3_36 : decode method_5_code 36 = .ok (.sipush 248, 3) := by decide +kernel
theorem d3_39 : decode method_5_code 39 = .ok (.iand, 1) := by decide +kernel
theorem d3_40 : decode method_5_code 40 = .ok (.sipush 240, 3) := by decide +kernel
theorem d3_43 : decode method_5_code 43 = .ok (.if_icmp .ne 5, 3) := by decide +kernel
theorem d3_46 : decode method_5_code 46 = .ok (.iconst 4, 1) := by decide +kernel
theorem d3_47 : decode method_5_code 47 = .ok (.ireturn, 1) := by decide +kernel
theorem d3_48 : decode method_5_code 48 = .ok (.iconst 1, 1) := by decide +kernel
theorem d3_49 : decode method_5_code 49 = .ok (.ireturn, 1) := by decide +kernel
theorem ef_rm3 (m : MethodId) (p0 : Int32) : entryFrame m #[(.int p0)] 1 = mkF m 0 #[.val (.int p0)] [] := by first | (simp [entryFrame, mkF, argsToLocals, Value.category]; done) | rfl
def Qrm3 (Z : State) (p0 : Int32) (h0 : Heap) (n0 : Nat) (v : Option Value) (h : Heap) (L : List Loc) : Prop := v = some (.int (own_lenOf p0)) ∧ Fr n0 L ∧ h = h0
set_option maxRecDepth 65536 in
set_option maxHeartbeats 40000000 in
theorem rm3 (l : Launch) (Z : State) (a0 : Array Value) (hw : ∀ d ∈ tables_1, d.before a0 Z = true) (ws : List Jvm.Cond) (p0 : Int32) (h0 : Heap) (n0 : Nat) (Z0 : n0 ≤ h0.size) :
    MetFree l (⟨"com/example/reshelve/reshelve/Utf8FirstFaultPinLaw", "lengthOf", "(I)I"⟩ : MethodName) (head1 (Jvm.Cond.code (⟨"com/example/reshelve/reshelve/Utf8FirstFaultPinLaw", "lengthOf", "(I)I"⟩ : MethodName) method_5_code 1 (some .int) :: ws) ({ frames := 0, cells := 0, slots := 0, locals := 0 } : Room)) (fun a U => a = #[(.int p0)] ∧ Z.Warmed39 U.vm ∧ U.heap = h0) (fun _ _ _ _ _ => True) (fun _ U o U' => ∃ v L, o = .returned v ∧ Qrm3 Z p0 h0 n0 v U'.heap L ∧ FrameEnd U o U' L ({ frames := 0, cells := 0, slots := 0, locals := 0 } : Room).cells ({ frames := 0, cells := 0, slots := 0, locals := 0 } : Room).slots) := by
  refine MetFree.of_bodySF (plainFor_of_name pn_com_example_reshelve_reshelve_Utf8FirstFaultPinLaw) hisR ?_
  intro p e s m args below meth c s₁ Bd hml0 hP hK
  obtain ⟨rfl, hZ, hh⟩ := hP
  have hx := Bd.exec
  have hby := Bd.bytes
  have hml : c.maxLocals = 1 := hml0
  have hown : s.vm.findClass "com/example/reshelve/reshelve/Utf8FirstFaultPinLaw" = some m.cls := findClass_of_methodNamed Bd.named
  have hnm := (name_of_methodNamed Bd.named Bd.method).1
  have X0 : Stand p l e ({ frames := 0, cells := 0, slots := 0, locals := 0 } : Room) s m #[(.int p0)] below meth c s₁ [] 0 0 := Stand.of_body Bd
  have e0 : s₁.heap = h0 := by rw [← hh, Bd.state]; rfl
  have N0 := Fr.nil n0
  have pre0 : ∀ t, Steps p.tables e below (s₁.setTop (mkF m 0 #[.val (.int p0)] [])) t → Steps p.tables e below (s₁.setTop (entryFrame m #[(.int p0)] 1)) t := fun t k => castTop (ef_rm3 m p0) k
  obtain ⟨v201, hv201⟩ : ∃ v : Int32, v = if (p0 &&& (248 : Int32)) = (240 : Int32) then (4 : Int32) else (1 : Int32) := ⟨_, rfl⟩
  obtain ⟨v202, hv202⟩ : ∃ v : Int32, v = if (p0 &&& (240 : Int32)) = (224 : Int32) then (3 : Int32) else v201 := ⟨_, rfl⟩
  obtain ⟨v203, hv203⟩ : ∃ v : Int32, v = if (p0 &&& (224 : Int32)) = (192 : Int32) then (2 : Int32) else v202 := ⟨_, rfl⟩
  obtain ⟨v204, hv204⟩ : ∃ v : Int32, v = if p0 < (128 : Int32) then (1 : Int32) else v203 := ⟨_, rfl⟩
  obtain ⟨fs, hr, hrun, hended, hW, hsame⟩ := X0.leave (v := some (.int v204)) (fun h => by rw [Bd.returns] at h; cases h)
  refine ⟨_, _, pre0 _ ?_, hrun, hended, _, _, rfl, ?_, ⟨_, rfl⟩, hW, hsame.mono (by decide) (by decide)⟩
  · show Steps p.tables e below (s₁.setTop (mkF m 0 #[.val (.int p0)] [])) _
    refine XS.iloadN X0.here hx rfl (hb hby d3_0) rfl ?_
    show Steps p.tables e below (s₁.setTop (mkF m 1 #[.val (.int p0)] [(.int p0)])) _
    refine XS.sipush X0.here hx rfl (hb hby d3_1) ?_
    by_cases hc197 : p0 < (128 : Int32)
    · rw [show v204 = (1 : Int32) from by rw [hv204, if_pos hc197]] at hr
      show Steps p.tables e below (s₁.setTop (mkF m 4 #[.val (.int p0)] [(.int (128 : Int32)), (.int p0)])) _
      refine XS.icmpNo X0.here hx rfl (hb hby d3_4) rfl (tlt hc197).2.1 ?_
      show Steps p.tables e below (s₁.setTop (mkF m 7 #[.val (.int p0)] [])) _
      refine XS.iconst X0.here hx rfl (hb hby d3_7) ?_
      show Steps p.tables e below (s₁.setTop (mkF m 8 #[.val (.int p0)] [(.int (1 : Int32))])) _
      exact retI X0 hx Bd.returns (hb hby d3_8) hr
    · rw [show v204 = v203 from by rw [hv204, if_neg hc197]] at hr
      show Steps p.tables e below (s₁.setTop (mkF m 4 #[.val (.int p0)] [(.int (128 : Int32)), (.int p0)])) _
      refine XS.icmpYes X0.here hx rfl (pc0 := 4) (pc' := 9) rfl (hb hby d3_4) rfl (flt hc197).2.1 (by decide) (by decide) ?_
      show Steps p.tables e below (s₁.setTop (mkF m 9 #[.val (.int p0)] [])) _
      refine XS.iloadN X0.here hx rfl (hb hby d3_9) rfl ?_
      show Steps p.tables e below (s₁.setTop (mkF m 10 #[.val (.int p0)] [(.int p0)])) _
      refine XS.sipush X0.here hx rfl (hb hby d3_10) ?_
      show Steps p.tables e below (s₁.setTop (mkF m 13 #[.val (.int p0)] [(.int (224 : Int32)), (.int p0)])) _
      refine XS.iand X0.here hx rfl (hb hby d3_13) rfl ?_
      show Steps p.tables e below (s₁.setTop (mkF m 14 #[.val (.int p0)] [(.int (p0 &&& (224 : Int32)))])) _
      refine XS.sipush X0.here hx rfl (hb hby d3_14) ?_
      by_cases hc198 : (p0 &&& (224 : Int32)) = (192 : Int32)
      · rw [show v203 = (2 : Int32) from by rw [hv203, if_pos hc198]] at hr
        show Steps p.tables e below (s₁.setTop (mkF m 17 #[.val (.int p0)] [(.int (192 : Int32)), (.int (p0 &&& (224 : Int32)))])) _
        refine XS.icmpNo X0.here hx rfl (hb hby d3_17) rfl (teq hc198).2 ?_
        show Steps p.tables e below (s₁.setTop (mkF m 20 #[.val (.int p0)] [])) _
        refine XS.iconst X0.here hx rfl (hb hby d3_20) ?_
        show Steps p.tables e below (s₁.setTop (mkF m 21 #[.val (.int p0)] [(.int (2 : Int32))])) _
        exact retI X0 hx Bd.returns (hb hby d3_21) hr
      · rw [show v203 = v202 from by rw [hv203, if_neg hc198]] at hr
        show Steps p.tables e below (s₁.setTop (mkF m 17 #[.val (.int p0)] [(.int (192 : Int32)), (.int (p0 &&& (224 : Int32)))])) _
        refine XS.icmpYes X0.here hx rfl (pc0 := 17) (pc' := 22) rfl (hb hby d3_17) rfl (feq hc198).2 (by decide) (by decide) ?_
        show Steps p.tables e below (s₁.setTop (mkF m 22 #[.val (.int p0)] [])) _
        refine XS.iloadN X0.here hx rfl (hb hby d3_22) rfl ?_
        show Steps p.tables e below (s₁.setTop (mkF m 23 #[.val (.int p0)] [(.int p0)])) _
        refine XS.sipush X0.here hx rfl (hb hby d3_23) ?_
        show Steps p.tables e below (s₁.setTop (mkF m 26 #[.val (.int p0)] [(.int (240 : Int32)), (.int p0)])) _
        refine XS.iand X0.here hx rfl (hb hby d3_26) rfl ?_
        show Steps p.tables e below (s₁.setTop (mkF m 27 #[.val (.int p0)] [(.int (p0 &&& (240 : Int32)))])) _
        refine XS.sipush X0.here hx rfl (hb hby d3_27) ?_
        by_cases hc199 : (p0 &&& (240 : Int32)) = (224 : Int32)
        · rw [show v202 = (3 : Int32) from by rw [hv202, if_pos hc199]] at hr
          show Steps p.tables e below (s₁.setTop (mkF m 30 #[.val (.int p0)] [(.int (224 : Int32)), (.int (p0 &&& (240 : Int32)))])) _
          refine XS.icmpNo X0.here hx rfl (hb hby d3_30) rfl (teq hc199).2 ?_
          show Steps p.tables e below (s₁.setTop (mkF m 33 #[.val (.int p0)] [])) _
          refine XS.iconst X0.here hx rfl (hb hby d3_33) ?_
          show Steps p.tables e below (s₁.setTop (mkF m 34 #[.val (.int p0)] [(.int (3 : Int32))])) _
          exact retI X0 hx Bd.returns (hb hby d3_34) hr
        · rw [show v202 = v201 from by rw [hv202, if_neg hc199]] at hr
          show Steps p.tables e below (s₁.setTop (mkF m 30 #[.val (.int p0)] [(.int (224 : Int32)), (.int (p0 &&& (240 : Int32)))])) _
          refine XS.icmpYes X0.here hx rfl (pc0 := 30) (pc' := 35) rfl (hb hby d3_30) rfl (feq hc199).2 (by decide) (by decide) ?_
          show Steps p.tables e below (s₁.setTop (mkF m 35 #[.val (.int p0)] [])) _
          refine XS.iloadN X0.here hx rfl (hb hby d3_35) rfl ?_
          show Steps p.tables e below (s₁.setTop (mkF m 36 #[.val (.int p0)] [(.int p0)])) _
          refine XS.sipush X0.here hx rfl (hb hby d3_36) ?_
          show Steps p.tables e below (s₁.setTop (mkF m 39 #[.val (.int p0)] [(.int (248 : Int32)), (.int p0)])) _
          refine XS.iand X0.here hx rfl (hb hby d3_39) rfl ?_
          show Steps p.tables e below (s₁.setTop (mkF m 40 #[.val (.int p0)] [(.int (p0 &&& (248 : Int32)))])) _
          refine XS.sipush X0.here hx rfl (hb hby d3_40) ?_
          by_cases hc200 : (p0 &&& (248 : Int32)) = (240 : Int32)
          · rw [show v201 = (4 : Int32) from by rw [hv201, if_pos hc200]] at hr
            show Steps p.tables e below (s₁.setTop (mkF m 43 #[.val (.int p0)] [(.int (240 : Int32)), (.int (p0 &&& (248 : Int32)))])) _
            refine XS.icmpNo X0.here hx rfl (hb hby d3_43) rfl (teq hc200).2 ?_
            show Steps p.tables e below (s₁.setTop (mkF m 46 #[.val (.int p0)] [])) _
            refine XS.iconst X0.here hx rfl (hb hby d3_46) ?_
            show Steps p.tables e below (s₁.setTop (mkF m 47 #[.val (.int p0)] [(.int (4 : Int32))])) _
            exact retI X0 hx Bd.returns (hb hby d3_47) hr
          · rw [show v201 = (1 : Int32) from by rw [hv201, if_neg hc200]] at hr
            show Steps p.tables e below (s₁.setTop (mkF m 43 #[.val (.int p0)] [(.int (240 : Int32)), (.int (p0 &&& (248 : Int32)))])) _
            refine XS.icmpYes X0.here hx rfl (pc0 := 43) (pc' := 48) rfl (hb hby d3_43) rfl (feq hc200).2 (by decide) (by decide) ?_
            show Steps p.tables e below (s₁.setTop (mkF m 48 #[.val (.int p0)] [])) _
            refine XS.iconst X0.here hx rfl (hb hby d3_48) ?_
            show Steps p.tables e below (s₁.setTop (mkF m 49 #[.val (.int p0)] [(.int (1 : Int32))])) _
            exact retI X0 hx Bd.returns (hb hby d3_49) hr
  · show Qrm3 Z p0 h0 n0 _ s₁.heap _
    rw [e0]
    exact ⟨by rw [hv204, hv203, hv202, hv201]; rfl, N0, rfl⟩
theorem d6_0 : decode method_6_code 0 = .ok (.iload_n 0, 1) := by decide +kernel
theorem d6_1 : decode method_6_code 1 = .ok (.sipush 192, 3) := by decide +kernel
theorem d6_4 : decode method_6_code 4 = .ok (.iand, 1) := by decide +kernel
theorem d6_5 : decode method_6_code 5 = .ok (.sipush 128, 3) := by decide +kernel
theorem d6_8 : decode method_6_code 8 = .ok (.if_icmp .ne 7, 3) := by decide +kernel
theorem d6_11 : decode method_6_code 11 = .ok (.iconst 1, 1) := by decide +kernel
theorem d6_12 : decode method_6_code 12 = .ok (.goto 4, 3) := by decide +kernel
theorem d6_16 : decode method_6_code 16 = .ok (.ireturn, 1) := by decide +kernel
theorem d6_15 : decode method_6_code 15 = .ok (.iconst 0, 1) := by decide +kernel
theorem ef_rm6 (m : MethodId) (p0 : Int32) : entryFrame m #[(.int p0)] 1 = mkF m 0 #[.val (.int p0)] [] := by first | (simp [entryFrame, mkF, argsToLocals, Value.category]; done) | rfl
def Qrm6 (Z : State) (p0 : Int32) (h0 : Heap) (n0 : Nat) (v : Option Value) (h : Heap) (L : List Loc) : Prop := v = some (.int (own_cont p0)) ∧ Fr n0 L ∧ h = h0
set_option maxRecDepth 65536 in
set_option maxHeartbeats 40000000 in
theorem rm6 (l : Launch) (Z : State) (a0 : Array Value) (hw : ∀ d ∈ tables_1, d.before a0 Z = true) (ws : List Jvm.Cond) (p0 : Int32) (h0 : Heap) (n0 : Nat) (Z0 : n0 ≤ h0.size) :
    MetFree l (⟨"com/example/reshelve/reshelve/Utf8FirstFaultPinLaw", "cont", "(I)Z"⟩ : MethodName) (head1 (Jvm.Cond.code (⟨"com/example/reshelve/reshelve/Utf8FirstFaultPinLaw", "cont", "(I)Z"⟩ : MethodName) method_6_code 1 (some .boolean) :: ws) ({ frames := 0, cells := 0, slots := 0, locals := 0 } : Room)) (fun a U => a = #[(.int p0)] ∧ Z.Warmed39 U.vm ∧ U.heap = h0) (fun _ _ _ _ _ => True) (fun _ U o U' => ∃ v L, o = .returned v ∧ Qrm6 Z p0 h0 n0 v U'.heap L ∧ FrameEnd U o U' L ({ frames := 0, cells := 0, slots := 0, locals := 0 } : Room).cells ({ frames := 0, cells := 0, slots := 0, locals := 0 } : Room).slots) := by
  refine MetFree.of_bodySF (plainFor_of_name pn_com_example_reshelve_reshelve_Utf8FirstFaultPinLaw) hisR ?_
  intro p e s m args below meth c s₁ Bd hml0 hP hK
  obtain ⟨rfl, hZ, hh⟩ := hP
  have hx := Bd.exec
  have hby := Bd.bytes
  have hml : c.maxLocals = 1 := hml0
  have hown : s.vm.findClass "com/example/reshelve/reshelve/Utf8FirstFaultPinLaw" = some m.cls := findClass_of_methodNamed Bd.named
  have hnm := (name_of_methodNamed Bd.named Bd.method).1
  have X0 : Stand p l e ({ frames := 0, cells := 0, slots := 0, locals := 0 } : Room) s m #[(.int p0)] below meth c s₁ [] 0 0 := Stand.of_body Bd
  have e0 : s₁.heap = h0 := by rw [← hh, Bd.state]; rfl
  have N0 := Fr.nil n0
  have pre0 : ∀ t, Steps p.tables e below (s₁.setTop (mkF m 0 #[.val (.int p0)] [])) t → Steps p.tables e below (s₁.setTop (entryFrame m #[(.int p0)] 1)) t := fun t k => castTop (ef_rm6 m p0) k
  obtain ⟨v206, hv206⟩ : ∃ v : Int32, v = if (p0 &&& (192 : Int32)) = (128 : Int32) then (1 : Int32) else (0 : Int32) := ⟨_, rfl⟩
  obtain ⟨fs, hr, hrun, hended, hW, hsame⟩ := X0.leave (v := some (.int v206)) (fun h => by rw [Bd.returns] at h; cases h)
  refine ⟨_, _, pre0 _ ?_, hrun, hended, _, _, rfl, ?_, ⟨_, rfl⟩, hW, hsame.mono (by decide) (by decide)⟩
  · show Steps p.tables e below (s₁.setTop (mkF m 0 #[.val (.int p0)] [])) _
    refine XS.iloadN X0.here hx rfl (hb hby d6_0) rfl ?_
    show Steps p.tables e below (s₁.setTop (mkF m 1 #[.val (.int p0)] [(.int p0)])) _
    refine XS.sipush X0.here hx rfl (hb hby d6_1) ?_
    show Steps p.tables e below (s₁.setTop (mkF m 4 #[.val (.int p0)] [(.int (192 : Int32)), (.int p0)])) _
    refine XS.iand X0.here hx rfl (hb hby d6_4) rfl ?_
    show Steps p.tables e below (s₁.setTop (mkF m 5 #[.val (.int p0)] [(.int (p0 &&& (192 : Int32)))])) _
    refine XS.sipush X0.here hx rfl (hb hby d6_5) ?_
    by_cases hc205 : (p0 &&& (192 : Int32)) = (128 : Int32)
    · rw [show v206 = (1 : Int32) from by rw [hv206, if_pos hc205]] at hr
      show Steps p.tables e below (s₁.setTop (mkF m 8 #[.val (.int p0)] [(.int (128 : Int32)), (.int (p0 &&& (192 : Int32)))])) _
      refine XS.icmpNo X0.here hx rfl (hb hby d6_8) rfl (teq hc205).2 ?_
      show Steps p.tables e below (s₁.setTop (mkF m 11 #[.val (.int p0)] [])) _
      refine XS.iconst X0.here hx rfl (hb hby d6_11) ?_
      show Steps p.tables e below (s₁.setTop (mkF m 12 #[.val (.int p0)] [(.int (1 : Int32))])) _
      refine XS.goto X0.here hx rfl (pc0 := 12) (pc' := 16) rfl (hb hby d6_12) (by decide) (by decide) ?_
      show Steps p.tables e below (s₁.setTop (mkF m 16 #[.val (.int p0)] [(.int (1 : Int32))])) _
      exact retN X0 hx (t := .boolean) Bd.returns (by simp) (hb hby d6_16) hr
    · rw [show v206 = (0 : Int32) from by rw [hv206, if_neg hc205]] at hr
      show Steps p.tables e below (s₁.setTop (mkF m 8 #[.val (.int p0)] [(.int (128 : Int32)), (.int (p0 &&& (192 : Int32)))])) _
      refine XS.icmpYes X0.here hx rfl (pc0 := 8) (pc' := 15) rfl (hb hby d6_8) rfl (feq hc205).2 (by decide) (by decide) ?_
      show Steps p.tables e below (s₁.setTop (mkF m 15 #[.val (.int p0)] [])) _
      refine XS.iconst X0.here hx rfl (hb hby d6_15) ?_
      show Steps p.tables e below (s₁.setTop (mkF m 16 #[.val (.int p0)] [(.int (0 : Int32))])) _
      exact retN X0 hx (t := .boolean) Bd.returns (by simp) (hb hby d6_16) hr
  · show Qrm6 Z p0 h0 n0 _ s₁.heap _
    rw [e0]
    exact ⟨by rw [hv206]; rfl, N0, rfl⟩
theorem d5_0 : decode method_7_code 0 = .ok (.iload_n 0, 1) := by decide +kernel
theorem d5_1 : decode method_7_code 1 = .ok (.iconst 1, 1) := by decide +kernel
theorem d5_2 : decode method_7_code 2 = .ok (.if_icmp .ne 16, 3) := by decide +kernel
theorem d5_5 : decode method_7_code 5 = .ok (.iload_n 1, 1) := by decide +kernel
theorem d5_6 : decode method_7_code 6 = .ok (.sipush 128, 3) := by decide +kernel
theorem d5_9 : decode method_7_code 9 = .ok (.if_icmp .ge 7, 3) := by decide +kernel
theorem d5_12 : decode method_7_code 12 = .ok (.iconst 1, 1) := by decide +kernel
theorem d5_13 : decode method_7_code 13 = .ok (.goto 4, 3) := by decide +kernel
theorem d5_17 : decode method_7_code 17 = .ok (.ireturn, 1) := by decide +kernel
theorem d5_16 : decode method_7_code 16 = .ok (.iconst 0, 1) := by decide +kernel
theorem d5_18 : decode method_7_code 18 = .ok (.iload_n 0, 1) := by decide +kernel
theorem d5_19 : decode method_7_code 19 = .ok (.iconst 2, 1) := by decide +kernel
theorem d5_20 : decode method_7_code 20 = .ok (.if_icmp .ne 38, 3) := by decide +kernel
theorem d5_23 : decode method_7_code 23 = .ok (.iload_n 1, 1) := by decide +kernel
theorem d5_24 : decode method_7_code 24 = .ok (.bipush 31, 2) := by decide +kernel
theorem d5_26 : decode method_7_code 26 = .ok (.iand, 1) := by decide +kernel
theorem d5_27 : decode method_7_code 27 = .ok (.bipush 6, 2) := by decide +kernel
theorem d5_29 : decode method_7_code 29 = .ok (.ishl, 1) := by decide +kernel
theorem d5_30 : decode method_7_code 30 = .ok (.iload_n 2, 1) := by decide +kernel
theorem d5_31 : decode method_7_code 31 = .ok (.bipush 63, 2) := by decide +kernel
theorem d5_33 : decode method_7_code 33 = .ok (.iand, 1) := by decide +kernel
theorem d5_34 : decode method_7_code 34 = .ok (.ior, 1) := by decide +kernel
theorem d5_35 : decode method_7_code 35 = .ok (.istore 5, 2) := by decide +kernel
theorem d5_37 : decode method_7_code 37 = .ok (.iload_n 2, 1) := by decide +kernel
theorem d5_38 : decode method_7_code 38 = .ok (.invokestatic 31, 3) := by decide +kernel
theorem pd__I_Z : parseMethodDescriptor "(I)Z" = some ⟨[.int], some .boolean⟩ := by decide +kernel
theorem d5_41 : decode method_7_code 41 = .ok (.ifCond .eq 15, 3) := by decide +kernel
theorem d5_56 : decode method_7_code 56 = .ok (.iconst 0, 1) := by decide +kernel
theorem d5_57 : decode method_7_code 57 = .ok (.ireturn, 1) := by decide +kernel
theorem d5_44 : decode method_7_code 44 = .ok (.iload 5, 2) := by decide +kernel
theorem d5_46 : decode method_7_code 46 = .ok (.sipush 128, 3) := by decide +kernel
theorem d5_49 : decode method_7_code 49 = .ok (.if_icmp .lt 7, 3) := by decide +kernel
theorem d5_52 : decode method_7_code 52 = .ok (.iconst 1, 1) := by decide +kernel
theorem d5_53 : decode method_7_code 53 = .ok (.goto 4, 3) := by decide +kernel
theorem d5_58 : decode method_7_code 58 = .ok (.iload_n 0, 1) := by decide +kernel
theorem d5_59 : decode method_7_code 59 = .ok (.iconst 3, 1) := by decide +kernel
theorem d5_60 : decode method_7_code 60 = .ok (.if_icmp .ne 67, 3) := by decide +kernel
theorem d5_63 : decode method_7_code 63 = .ok (.iload_n 1, 1) := by decide +kernel
theorem d5_64 : decode method_7_code 64 = .ok (.bipush 15, 2) := by decide +kernel
theorem d5_66 : decode method_7_code 66 = .ok (.iand, 1) := by decide +kernel
theorem d5_67 : decode method_7_code 67 = .ok (.bipush 12, 2) := by decide +kernel
theorem d5_69 : decode method_7_code 69 = .ok (.ishl, 1) := by decide +kernel
theorem d5_70 : decode method_7_code 70 = .ok (.iload_n 2, 1) := by decide +kernel
theorem d5_71 : decode method_7_code 71 = .ok (.bipush 63, 2) := by decide +kernel
theorem d5_73 : decode method_7_code 73 = .ok (.iand, 1) := by decide +kernel
theorem d5_74 : decode method_7_code 74 = .ok (.bipush 6, 2) := by decide +kernel
theorem d5_76 : decode method_7_code 76 = .ok (.ishl, 1) := by decide +kernel
theorem d5_77 : decode method_7_code 77 = .ok (.ior, 1) := by decide +kernel
theorem d5_78 : decode method_7_code 78 = .ok (.iload_n 3, 1) := by decide +kernel
theorem d5_79 : decode method_7_code 79 = .ok (.bipush 63, 2) := by decide +kernel
theorem d5_81 : decode method_7_code 81 = .ok (.iand, 1) := by decide +kernel
theorem d5_82 : decode method_7_code 82 = .ok (.ior, 1) := by decide +kernel
theorem d5_83 : decode method_7_code 83 = .ok (.istore 5, 2) := by decide +kernel
theorem d5_85 : decode method_7_code 85 = .ok (.iload_n 2, 1) := by decide +kernel
theorem d5_86 : decode method_7_code 86 = .ok (.invokestatic 31, 3) := by decide +kernel
theorem d5_89 : decode method_7_code 89 = .ok (.ifCond .eq 36, 3) := by decide +kernel
theorem d5_125 : decode method_7_code 125 = .ok (.iconst 0, 1) := by decide +kernel
theorem d5_126 : decode method_7_code 126 = .ok (.ireturn, 1) := by decide +kernel
theorem d5_92 : decode method_7_code 92 = .ok (.iload_n 3, 1) := by decide +kernel
theorem d5_93 : decode method_7_code 93 = .ok (.invokestatic 31, 3) := by decide +kernel
theorem d5_96 : decode method_7_code 96 = .ok (.ifCond .eq 29, 3) := by decide +kernel
theorem d5_99 : decode method_7_code 99 = .ok (.iload 5, 2) := by decide +kernel
theorem d5_101 : decode method_7_code 101 = .ok (.sipush 2048, 3) := by decide +kernel
theorem d5_104 : decode method_7_code 104 = .ok (.if_icmp .lt 21, 3) := by decide +kernel
theorem d5_107 : decode method_7_code 107 = .ok (.iload 5, 2) := by decide +kernel
theorem d5_109 : decode method_7_code 109 = .ok (.ldc 35, 2) := by decide +kernel
theorem d5_111 : decode method_7_code 111 = .ok (.if_icmp .lt 10, 3) := by decide +kernel
theorem d5_121 : decode method_7_code 121 = .ok (.iconst 1, 1) := by decide +kernel
theorem d5_122 : decode method_7_code 122 = .ok (.goto 4, 3) := by decide +kernel
theorem d5_114 : decode method_7_code 114 = .ok (.iload 5, 2) := by decide +kernel
theorem d5_116 : decode method_7_code 116 = .ok (.ldc 36, 2) := by decide +kernel
theorem d5_118 : decode method_7_code 118 = .ok (.if_icmp .le 7, 3) := by decide +kernel
theorem d5_127 : decode method_7_code 127 = .ok (.iload_n 1, 1) := by decide +kernel
theorem d5_128 : decode method_7_code 128 = .ok (.bipush 7, 2) := by decide +kernel
theorem d5_130 : decode method_7_code 130 = .ok (.iand, 1) := by decide +kernel
theorem d5_131 : decode method_7_code 131 = .ok (.bipush 18, 2) := by decide +kernel
theorem d5_133 : decode method_7_code 133 = .ok (.ishl, 1) := by decide +kernel
theorem d5_134 : decode method_7_code 134 = .ok (.iload_n 2, 1) := by decide +kernel
theorem d5_135 : decode method_7_code 135 = .ok (.bipush 63, 2) := by decide +kernel
theorem d5_137 : decode method_7_code 137 = .ok (.iand, 1) := by decide +kernel
theorem d5_138 : decode method_7_code 138 = .ok (.bipush 12, 2) := by decide +kernel
theorem d5_140 : decode method_7_code 140 = .ok (.ishl, 1) := by decide +kernel
theorem d5_141 : decode method_7_code 141 = .ok (.ior, 1) := by decide +kernel
theorem d5_142 : decode method_7_code 142 = .ok (.iload_n 3, 1) := by decide +kernel
theorem d5_143 : decode method_7_code 143 = .ok (.bipush 63, 2) := by decide +kernel
theorem d5_145 : decode method_7_code 145 = .ok (.iand, 1) := by decide +kernel
theorem d5_146 : decode method_7_code 146 = .ok (.bipush 6, 2) := by decide +kernel
theorem d5_148 : decode method_7_code 148 = .ok (.ishl, 1) := by decide +kernel
theorem d5_149 : decode method_7_code 149 = .ok (.ior, 1) := by decide +kernel
theorem d5_150 : decode method_7_code 150 = .ok (.iload 4, 2) := by decide +kernel
theorem d5_152 : decode method_7_code 152 = .ok (.bipush 63, 2) := by decide +kernel
theorem d5_154 : decode method_7_code 154 = .ok (.iand, 1) := by decide +kernel
theorem d5_155 : decode method_7_code 155 = .ok (.ior, 1) := by decide +kernel
theorem d5_156 : decode method_7_code 156 = .ok (.istore 5, 2) := by decide +kernel
theorem d5_158 : decode method_7_code 158 = .ok (.iload_n 2, 1) := by decide +kernel
theorem d5_159 : decode method_7_code 159 = .ok (.invokestatic 31, 3) := by decide +kernel
theorem d5_162 : decode method_7_code 162 = .ok (.ifCond .eq 36, 3) := by decide +kernel
theorem d5_198 : decode method_7_code 198 = .ok (.iconst 0, 1) := by decide +kernel
theorem d5_199 : decode method_7_code 199 = .ok (.ireturn, 1) := by decide +kernel
theorem d5_165 : decode method_7_code 165 = .ok (.iload_n 3, 1) := by decide +kernel
theorem d5_166 : decode method_7_code 166 = .ok (.invokestatic 31, 3) := by decide +kernel
theorem d5_169 : decode method_7_code 169 = .ok (.ifCond .eq 29, 3) := by decide +kernel
theorem d5_172 : decode method_7_code 172 = .ok (.iload 4, 2) := by decide +kernel
theorem d5_174 : decode method_7_code 174 = .ok (.invokestatic 31, 3) := by decide +kernel
theorem d5_177 : decode method_7_code 177 = .ok (.ifCond .eq 21, 3) := by decide +kernel
theorem d5_180 : decode method_7_code 180 = .ok (.iload 5, 2) := by decide +kernel
theorem d5_182 : decode method_7_code 182 = .ok (.ldc 37, 2) := by decide +kernel
theorem d5_184 : decode method_7_code 184 = .ok (.if_icmp .lt 14, 3) := by decide +kernel
theorem d5_187 : decode method_7_code 187 = .ok (.iload 5, 2) := by decide +kernel
theorem d5_189 : decode method_7_code 189 = .ok (.ldc 38, 2) := by decide +kernel
theorem d5_191 : decode method_7_code 191 = .ok (.if_icmp .gt 7, 3) := by decide +kernel
theorem d5_194 : decode method_7_code 194 = .ok (.iconst 1, 1) := by decide +kernel
theorem d5_195 : decode method_7_code 195 = .ok (.goto 4, 3) := by decide +kernel
theorem ef_rm5 (m : MethodId) (p0 : Int32) (p1 : Int32) (p2 : Int32) (p3 : Int32) (p4 : Int32) : entryFrame m #[(.int p0), (.int p1), (.int p2), (.int p3), (.int p4)] 6 = mkF m 0 #[.val (.int p0), .val (.int p1), .val (.int p2), .val (.int p3), .val (.int p4), .unset] [] := by first | (simp [entryFrame, mkF, argsToLocals, Value.category]; done) | rfl
def Qrm5 (Z : State) (p0 : Int32) (p1 : Int32) (p2 : Int32) (p3 : Int32) (p4 : Int32) (h0 : Heap) (n0 : Nat) (v : Option Value) (h : Heap) (L : List Loc) : Prop := v = some (.int (own_wf p0 p1 p2 p3 p4)) ∧ Fr n0 L ∧ h = h0
set_option maxRecDepth 65536 in
set_option maxHeartbeats 40000000 in
theorem rm5 (l : Launch) (Z : State) (a0 : Array Value) (hw : ∀ d ∈ tables_1, d.before a0 Z = true) (ws : List Jvm.Cond) (p0 : Int32) (p1 : Int32) (p2 : Int32) (p3 : Int32) (p4 : Int32) (h0 : Heap) (n0 : Nat) (Z0 : n0 ≤ h0.size) :
    MetFree l (⟨"com/example/reshelve/reshelve/Utf8FirstFaultPinLaw", "wellFormed", "(IIIII)Z"⟩ : MethodName) (head1 (Jvm.Cond.code (⟨"com/example/reshelve/reshelve/Utf8FirstFaultPinLaw", "wellFormed", "(IIIII)Z"⟩ : MethodName) method_7_code 6 (some .boolean) :: ws) ({ frames := 1, cells := 0, slots := 0, locals := 12 } : Room)) (fun a U => a = #[(.int p0), (.int p1), (.int p2), (.int p3), (.int p4)] ∧ Z.Warmed39 U.vm ∧ U.heap = h0) (fun _ _ _ _ _ => True) (fun _ U o U' => ∃ v L, o = .returned v ∧ Qrm5 Z p0 p1 p2 p3 p4 h0 n0 v U'.heap L ∧ FrameEnd U o U' L ({ frames := 1, cells := 0, slots := 0, locals := 12 } : Room).cells ({ frames := 1, cells := 0, slots := 0, locals := 12 } : Room).slots) := by
  refine MetFree.of_bodySF (plainFor_of_name pn_com_example_reshelve_reshelve_Utf8FirstFaultPinLaw) hisR ?_
  intro p e s m args below meth c s₁ Bd hml0 hP hK
  obtain ⟨rfl, hZ, hh⟩ := hP
  have hx := Bd.exec
  have hby := Bd.bytes
  have hml : c.maxLocals = 6 := hml0
  have hown : s.vm.findClass "com/example/reshelve/reshelve/Utf8FirstFaultPinLaw" = some m.cls := findClass_of_methodNamed Bd.named
  have hnm := (name_of_methodNamed Bd.named Bd.method).1
  have X0 : Stand p l e ({ frames := 1, cells := 0, slots := 0, locals := 12 } : Room) s m #[(.int p0), (.int p1), (.int p2), (.int p3), (.int p4)] below meth c s₁ [] 0 0 := Stand.of_body Bd
  have e0 : s₁.heap = h0 := by rw [← hh, Bd.state]; rfl
  have N0 := Fr.nil n0
  have pre0 : ∀ t, Steps p.tables e below (s₁.setTop (mkF m 0 #[.val (.int p0), .val (.int p1), .val (.int p2), .val (.int p3), .val (.int p4), .unset] [])) t → Steps p.tables e below (s₁.setTop (entryFrame m #[(.int p0), (.int p1), (.int p2), (.int p3), (.int p4)] 6)) t := fun t k => castTop (ef_rm5 m p0 p1 p2 p3 p4) k
  by_cases hA : p0 = (1 : Int32)
  · obtain ⟨v208, hv208⟩ : ∃ v : Int32, v = if p1 < (128 : Int32) then (1 : Int32) else (0 : Int32) := ⟨_, rfl⟩
    obtain ⟨fs, hr, hrun, hended, hW, hsame⟩ := X0.leave (v := some (.int v208)) (fun h => by rw [Bd.returns] at h; cases h)
    refine ⟨_, _, pre0 _ ?_, hrun, hended, _, _, rfl, ?_, ⟨_, rfl⟩, hW, hsame.mono (by decide) (by decide)⟩
    · show Steps p.tables e below (s₁.setTop (mkF m 0 #[.val (.int p0), .val (.int p1), .val (.int p2), .val (.int p3), .val (.int p4), .unset] [])) _
      refine XS.iloadN X0.here hx rfl (hb hby d5_0) rfl ?_
      show Steps p.tables e below (s₁.setTop (mkF m 1 #[.val (.int p0), .val (.int p1), .val (.int p2), .val (.int p3), .val (.int p4), .unset] [(.int p0)])) _
      refine XS.iconst X0.here hx rfl (hb hby d5_1) ?_
      show Steps p.tables e below (s₁.setTop (mkF m 2 #[.val (.int p0), .val (.int p1), .val (.int p2), .val (.int p3), .val (.int p4), .unset] [(.int (1 : Int32)), (.int p0)])) _
      refine XS.icmpNo X0.here hx rfl (hb hby d5_2) rfl (teq hA).2 ?_
      show Steps p.tables e below (s₁.setTop (mkF m 5 #[.val (.int p0), .val (.int p1), .val (.int p2), .val (.int p3), .val (.int p4), .unset] [])) _
      refine XS.iloadN X0.here hx rfl (hb hby d5_5) rfl ?_
      show Steps p.tables e below (s₁.setTop (mkF m 6 #[.val (.int p0), .val (.int p1), .val (.int p2), .val (.int p3), .val (.int p4), .unset] [(.int p1)])) _
      refine XS.sipush X0.here hx rfl (hb hby d5_6) ?_
      by_cases hc207 : p1 < (128 : Int32)
      · rw [show v208 = (1 : Int32) from by rw [hv208, if_pos hc207]] at hr
        show Steps p.tables e below (s₁.setTop (mkF m 9 #[.val (.int p0), .val (.int p1), .val (.int p2), .val (.int p3), .val (.int p4), .unset] [(.int (128 : Int32)), (.int p1)])) _
        refine XS.icmpNo X0.here hx rfl (hb hby d5_9) rfl (tlt hc207).2.1 ?_
        show Steps p.tables e below (s₁.setTop (mkF m 12 #[.val (.int p0), .val (.int p1), .val (.int p2), .val (.int p3), .val (.int p4), .unset] [])) _
        refine XS.iconst X0.here hx rfl (hb hby d5_12) ?_
        show Steps p.tables e below (s₁.setTop (mkF m 13 #[.val (.int p0), .val (.int p1), .val (.int p2), .val (.int p3), .val (.int p4), .unset] [(.int (1 : Int32))])) _
        refine XS.goto X0.here hx rfl (pc0 := 13) (pc' := 17) rfl (hb hby d5_13) (by decide) (by decide) ?_
        show Steps p.tables e below (s₁.setTop (mkF m 17 #[.val (.int p0), .val (.int p1), .val (.int p2), .val (.int p3), .val (.int p4), .unset] [(.int (1 : Int32))])) _
        exact retN X0 hx (t := .boolean) Bd.returns (by simp) (hb hby d5_17) hr
      · rw [show v208 = (0 : Int32) from by rw [hv208, if_neg hc207]] at hr
        show Steps p.tables e below (s₁.setTop (mkF m 9 #[.val (.int p0), .val (.int p1), .val (.int p2), .val (.int p3), .val (.int p4), .unset] [(.int (128 : Int32)), (.int p1)])) _
        refine XS.icmpYes X0.here hx rfl (pc0 := 9) (pc' := 16) rfl (hb hby d5_9) rfl (flt hc207).2.1 (by decide) (by decide) ?_
        show Steps p.tables e below (s₁.setTop (mkF m 16 #[.val (.int p0), .val (.int p1), .val (.int p2), .val (.int p3), .val (.int p4), .unset] [])) _
        refine XS.iconst X0.here hx rfl (hb hby d5_16) ?_
        show Steps p.tables e below (s₁.setTop (mkF m 17 #[.val (.int p0), .val (.int p1), .val (.int p2), .val (.int p3), .val (.int p4), .unset] [(.int (0 : Int32))])) _
        exact retN X0 hx (t := .boolean) Bd.returns (by simp) (hb hby d5_17) hr
    · show Qrm5 Z p0 p1 p2 p3 p4 h0 n0 _ s₁.heap _
      rw [e0]
      exact ⟨by rw [hv208]; unfold own_wf; rw [if_pos hA], N0, rfl⟩
  · by_cases hB : p0 = (2 : Int32)
    · obtain ⟨_, _, ⟨T209, L209, k209, n209⟩, -, X209, ⟨Lc209, hQ209, l209, y209, z209⟩, st209⟩ := Jvm.LawKit.callS X0 hx (y := (⟨"com/example/reshelve/reshelve/Utf8FirstFaultPinLaw", "cont", "(I)Z"⟩ : MethodName)) hown (mvT hZ (hw _ (List.mem_of_getElem? (i := 18) rfl))) (mvT hZ (hw _ (List.mem_of_getElem? (i := 19) rfl))) (mvT hZ (hw _ (List.mem_of_getElem? (i := 3) rfl))) (mvT hZ (hw _ (List.mem_of_getElem? (i := 20) rfl))) (by decide) (backOf (W := 0) (rm6 l Z a0 hw [] p2  h0 n0 Z0 ) hZ (hw _ (List.mem_of_getElem? (i := 20) rfl)) (hw _ (List.mem_of_getElem? (i := 3) rfl)) (by decide) (by decide)) (g := (mkF m 38 #[.val (.int p0), .val (.int p1), .val (.int p2), .val (.int p3), .val (.int p4), .val (.int (own_cp2 p1 p2))] [(.int p2)])) rfl (by rw [hml]; rfl) (argsL := [(.int p2)]) (rest := []) (lenOf pd__I_Z rfl) rfl (by show 2 * 0 + _ ≤ _; exact Nat.le_of_eq rfl) (hb hby d5_38) (fun _ _ => ⟨rfl, e0, (by decide : 0 + 0 ≤ _), (by decide : 0 + 0 ≤ _)⟩)
      dsimp only [Pt.U, Pt.locs, Pt.cells, Pt.slots] at X209 l209 y209 z209 st209 hQ209
      subst l209 y209 z209
      obtain ⟨rfl, N209q, e209⟩ := hQ209
      have N210 := Fr.app N0 N209q
      obtain ⟨v213, hv213⟩ : ∃ v : Int32, v = if (own_cp2 p1 p2) < (128 : Int32) then (0 : Int32) else (1 : Int32) := ⟨_, rfl⟩
      obtain ⟨v214, hv214⟩ : ∃ v : Int32, v = if (own_cont p2) = (0 : Int32) then (0 : Int32) else v213 := ⟨_, rfl⟩
      obtain ⟨fs, hr, hrun, hended, hW, hsame⟩ := X209.leave (v := some (.int v214)) (fun h => by rw [Bd.returns] at h; cases h)
      refine ⟨_, _, pre0 _ ?_, hrun, hended, _, _, rfl, ?_, ⟨_, rfl⟩, hW, hsame.mono (by decide) (by decide)⟩
      · show Steps p.tables e below (s₁.setTop (mkF m 0 #[.val (.int p0), .val (.int p1), .val (.int p2), .val (.int p3), .val (.int p4), .unset] [])) _
        refine XS.iloadN X0.here hx rfl (hb hby d5_0) rfl ?_
        show Steps p.tables e below (s₁.setTop (mkF m 1 #[.val (.int p0), .val (.int p1), .val (.int p2), .val (.int p3), .val (.int p4), .unset] [(.int p0)])) _
        refine XS.iconst X0.here hx rfl (hb hby d5_1) ?_
        show Steps p.tables e below (s₁.setTop (mkF m 2 #[.val (.int p0), .val (.int p1), .val (.int p2), .val (.int p3), .val (.int p4), .unset] [(.int (1 : Int32)), (.int p0)])) _
        refine XS.icmpYes X0.here hx rfl (pc0 := 2) (pc' := 18) rfl (hb hby d5_2) rfl (feq hA).2 (by decide) (by decide) ?_
        show Steps p.tables e below (s₁.setTop (mkF m 18 #[.val (.int p0), .val (.int p1), .val (.int p2), .val (.int p3), .val (.int p4), .unset] [])) _
        refine XS.iloadN X0.here hx rfl (hb hby d5_18) rfl ?_
        show Steps p.tables e below (s₁.setTop (mkF m 19 #[.val (.int p0), .val (.int p1), .val (.int p2), .val (.int p3), .val (.int p4), .unset] [(.int p0)])) _
        refine XS.iconst X0.here hx rfl (hb hby d5_19) ?_
        show Steps p.tables e below (s₁.setTop (mkF m 20 #[.val (.int p0), .val (.int p1), .val (.int p2), .val (.int p3), .val (.int p4), .unset] [(.int (2 : Int32)), (.int p0)])) _
        refine XS.icmpNo X0.here hx rfl (hb hby d5_20) rfl (teq hB).2 ?_
        show Steps p.tables e below (s₁.setTop (mkF m 23 #[.val (.int p0), .val (.int p1), .val (.int p2), .val (.int p3), .val (.int p4), .unset] [])) _
        refine XS.iloadN X0.here hx rfl (hb hby d5_23) rfl ?_
        show Steps p.tables e below (s₁.setTop (mkF m 24 #[.val (.int p0), .val (.int p1), .val (.int p2), .val (.int p3), .val (.int p4), .unset] [(.int p1)])) _
        refine XS.bipush X0.here hx rfl (hb hby d5_24) ?_
        show Steps p.tables e below (s₁.setTop (mkF m 26 #[.val (.int p0), .val (.int p1), .val (.int p2), .val (.int p3), .val (.int p4), .unset] [(.int (31 : Int32)), (.int p1)])) _
        refine XS.iand X0.here hx rfl (hb hby d5_26) rfl ?_
        show Steps p.tables e below (s₁.setTop (mkF m 27 #[.val (.int p0), .val (.int p1), .val (.int p2), .val (.int p3), .val (.int p4), .unset] [(.int (p1 &&& (31 : Int32)))])) _
        refine XS.bipush X0.here hx rfl (hb hby d5_27) ?_
        show Steps p.tables e below (s₁.setTop (mkF m 29 #[.val (.int p0), .val (.int p1), .val (.int p2), .val (.int p3), .val (.int p4), .unset] [(.int (6 : Int32)), (.int (p1 &&& (31 : Int32)))])) _
        refine XS.ishl X0.here hx rfl (hb hby d5_29) rfl ?_
        show Steps p.tables e below (s₁.setTop (mkF m 30 #[.val (.int p0), .val (.int p1), .val (.int p2), .val (.int p3), .val (.int p4), .unset] [(.int ((p1 &&& (31 : Int32)) <<< ((6 : Int32) &&& 31)))])) _
        refine XS.iloadN X0.here hx rfl (hb hby d5_30) rfl ?_
        show Steps p.tables e below (s₁.setTop (mkF m 31 #[.val (.int p0), .val (.int p1), .val (.int p2), .val (.int p3), .val (.int p4), .unset] [(.int p2), (.int ((p1 &&& (31 : Int32)) <<< ((6 : Int32) &&& 31)))])) _
        refine XS.bipush X0.here hx rfl (hb hby d5_31) ?_
        show Steps p.tables e below (s₁.setTop (mkF m 33 #[.val (.int p0), .val (.int p1), .val (.int p2), .val (.int p3), .val (.int p4), .unset] [(.int (63 : Int32)), (.int p2), (.int ((p1 &&& (31 : Int32)) <<< ((6 : Int32) &&& 31)))])) _
        refine XS.iand X0.here hx rfl (hb hby d5_33) rfl ?_
        show Steps p.tables e below (s₁.setTop (mkF m 34 #[.val (.int p0), .val (.int p1), .val (.int p2), .val (.int p3), .val (.int p4), .unset] [(.int (p2 &&& (63 : Int32))), (.int ((p1 &&& (31 : Int32)) <<< ((6 : Int32) &&& 31)))])) _
        refine XS.ior X0.here hx rfl (hb hby d5_34) rfl ?_
        show Steps p.tables e below (s₁.setTop (mkF m 35 #[.val (.int p0), .val (.int p1), .val (.int p2), .val (.int p3), .val (.int p4), .unset] [(.int (own_cp2 p1 p2))])) _
        refine XS.istore X0.here hx rfl (hb hby d5_35) rfl (l' := #[.val (.int p0), .val (.int p1), .val (.int p2), .val (.int p3), .val (.int p4), .val (.int (own_cp2 p1 p2))]) rfl ?_
        show Steps p.tables e below (s₁.setTop (mkF m 37 #[.val (.int p0), .val (.int p1), .val (.int p2), .val (.int p3), .val (.int p4), .val (.int (own_cp2 p1 p2))] [])) _
        refine XS.iloadN X0.here hx rfl (hb hby d5_37) rfl ?_
        show Steps p.tables e below (s₁.setTop (mkF m 38 #[.val (.int p0), .val (.int p1), .val (.int p2), .val (.int p3), .val (.int p4), .val (.int (own_cp2 p1 p2))] [(.int p2)])) _
        refine st209 _ ?_
        by_cases hc211 : (own_cont p2) = (0 : Int32)
        · rw [show v214 = (0 : Int32) from by rw [hv214, if_pos hc211]] at hr
          show Steps p.tables e below (T209.setTop (mkF m 41 #[.val (.int p0), .val (.int p1), .val (.int p2), .val (.int p3), .val (.int p4), .val (.int (own_cp2 p1 p2))] [(.int (own_cont p2))])) _
          refine XS.ifYes X209.here hx rfl (pc0 := 41) (pc' := 56) rfl (hb hby d5_41) rfl ((if0 _ _).trans (teq hc211).1) (by decide) (by decide) ?_
          show Steps p.tables e below (T209.setTop (mkF m 56 #[.val (.int p0), .val (.int p1), .val (.int p2), .val (.int p3), .val (.int p4), .val (.int (own_cp2 p1 p2))] [])) _
          refine XS.iconst X209.here hx rfl (hb hby d5_56) ?_
          show Steps p.tables e below (T209.setTop (mkF m 57 #[.val (.int p0), .val (.int p1), .val (.int p2), .val (.int p3), .val (.int p4), .val (.int (own_cp2 p1 p2))] [(.int (0 : Int32))])) _
          exact retN X209 hx (t := .boolean) Bd.returns (by simp) (hb hby d5_57) hr
        · rw [show v214 = v213 from by rw [hv214, if_neg hc211]] at hr
          show Steps p.tables e below (T209.setTop (mkF m 41 #[.val (.int p0), .val (.int p1), .val (.int p2), .val (.int p3), .val (.int p4), .val (.int (own_cp2 p1 p2))] [(.int (own_cont p2))])) _
          refine XS.ifNo X209.here hx rfl (hb hby d5_41) rfl ((if0 _ _).trans (feq hc211).1) ?_
          show Steps p.tables e below (T209.setTop (mkF m 44 #[.val (.int p0), .val (.int p1), .val (.int p2), .val (.int p3), .val (.int p4), .val (.int (own_cp2 p1 p2))] [])) _
          refine XS.iload X209.here hx rfl (hb hby d5_44) rfl ?_
          show Steps p.tables e below (T209.setTop (mkF m 46 #[.val (.int p0), .val (.int p1), .val (.int p2), .val (.int p3), .val (.int p4), .val (.int (own_cp2 p1 p2))] [(.int (own_cp2 p1 p2))])) _
          refine XS.sipush X209.here hx rfl (hb hby d5_46) ?_
          by_cases hc212 : (own_cp2 p1 p2) < (128 : Int32)
          · rw [show v213 = (0 : Int32) from by rw [hv213, if_pos hc212]] at hr
            show Steps p.tables e below (T209.setTop (mkF m 49 #[.val (.int p0), .val (.int p1), .val (.int p2), .val (.int p3), .val (.int p4), .val (.int (own_cp2 p1 p2))] [(.int (128 : Int32)), (.int (own_cp2 p1 p2))])) _
            refine XS.icmpYes X209.here hx rfl (pc0 := 49) (pc' := 56) rfl (hb hby d5_49) rfl (tlt hc212).1 (by decide) (by decide) ?_
            show Steps p.tables e below (T209.setTop (mkF m 56 #[.val (.int p0), .val (.int p1), .val (.int p2), .val (.int p3), .val (.int p4), .val (.int (own_cp2 p1 p2))] [])) _
            refine XS.iconst X209.here hx rfl (hb hby d5_56) ?_
            show Steps p.tables e below (T209.setTop (mkF m 57 #[.val (.int p0), .val (.int p1), .val (.int p2), .val (.int p3), .val (.int p4), .val (.int (own_cp2 p1 p2))] [(.int (0 : Int32))])) _
            exact retN X209 hx (t := .boolean) Bd.returns (by simp) (hb hby d5_57) hr
          · rw [show v213 = (1 : Int32) from by rw [hv213, if_neg hc212]] at hr
            show Steps p.tables e below (T209.setTop (mkF m 49 #[.val (.int p0), .val (.int p1), .val (.int p2), .val (.int p3), .val (.int p4), .val (.int (own_cp2 p1 p2))] [(.int (128 : Int32)), (.int (own_cp2 p1 p2))])) _
            refine XS.icmpNo X209.here hx rfl (hb hby d5_49) rfl (flt hc212).1 ?_
            show Steps p.tables e below (T209.setTop (mkF m 52 #[.val (.int p0), .val (.int p1), .val (.int p2), .val (.int p3), .val (.int p4), .val (.int (own_cp2 p1 p2))] [])) _
            refine XS.iconst X209.here hx rfl (hb hby d5_52) ?_
            show Steps p.tables e below (T209.setTop (mkF m 53 #[.val (.int p0), .val (.int p1), .val (.int p2), .val (.int p3), .val (.int p4), .val (.int (own_cp2 p1 p2))] [(.int (1 : Int32))])) _
            refine XS.goto X209.here hx rfl (pc0 := 53) (pc' := 57) rfl (hb hby d5_53) (by decide) (by decide) ?_
            show Steps p.tables e below (T209.setTop (mkF m 57 #[.val (.int p0), .val (.int p1), .val (.int p2), .val (.int p3), .val (.int p4), .val (.int (own_cp2 p1 p2))] [(.int (1 : Int32))])) _
            exact retN X209 hx (t := .boolean) Bd.returns (by simp) (hb hby d5_57) hr
      · show Qrm5 Z p0 p1 p2 p3 p4 h0 n0 _ T209.heap _
        rw [e209]
        exact ⟨by rw [hv214, hv213]; unfold own_wf; rw [if_neg hA, if_pos hB], N210, rfl⟩
    · by_cases hC : p0 = (3 : Int32)
      · obtain ⟨_, _, ⟨T215, L215, k215, n215⟩, -, X215, ⟨Lc215, hQ215, l215, y215, z215⟩, st215⟩ := Jvm.LawKit.callS X0 hx (y := (⟨"com/example/reshelve/reshelve/Utf8FirstFaultPinLaw", "cont", "(I)Z"⟩ : MethodName)) hown (mvT hZ (hw _ (List.mem_of_getElem? (i := 18) rfl))) (mvT hZ (hw _ (List.mem_of_getElem? (i := 19) rfl))) (mvT hZ (hw _ (List.mem_of_getElem? (i := 3) rfl))) (mvT hZ (hw _ (List.mem_of_getElem? (i := 20) rfl))) (by decide) (backOf (W := 0) (rm6 l Z a0 hw [] p2  h0 n0 Z0 ) hZ (hw _ (List.mem_of_getElem? (i := 20) rfl)) (hw _ (List.mem_of_getElem? (i := 3) rfl)) (by decide) (by decide)) (g := (mkF m 86 #[.val (.int p0), .val (.int p1), .val (.int p2), .val (.int p3), .val (.int p4), .val (.int (own_cp3 p1 p2 p3))] [(.int p2)])) rfl (by rw [hml]; rfl) (argsL := [(.int p2)]) (rest := []) (lenOf pd__I_Z rfl) rfl (by show 2 * 0 + _ ≤ _; exact Nat.le_of_eq rfl) (hb hby d5_86) (fun _ _ => ⟨rfl, e0, (by decide : 0 + 0 ≤ _), (by decide : 0 + 0 ≤ _)⟩)
        dsimp only [Pt.U, Pt.locs, Pt.cells, Pt.slots] at X215 l215 y215 z215 st215 hQ215
        subst l215 y215 z215
        obtain ⟨rfl, N215q, e215⟩ := hQ215
        have N216 := Fr.app N0 N215q
        by_cases hD : own_cont p2 = (0 : Int32)
        · obtain ⟨fs, hr, hrun, hended, hW, hsame⟩ := X215.leave (v := some (.int (0 : Int32))) (fun h => by rw [Bd.returns] at h; cases h)
          refine ⟨_, _, pre0 _ ?_, hrun, hended, _, _, rfl, ?_, ⟨_, rfl⟩, hW, hsame.mono (by decide) (by decide)⟩
          · show Steps p.tables e below (s₁.setTop (mkF m 0 #[.val (.int p0), .val (.int p1), .val (.int p2), .val (.int p3), .val (.int p4), .unset] [])) _
            refine XS.iloadN X0.here hx rfl (hb hby d5_0) rfl ?_
            show Steps p.tables e below (s₁.setTop (mkF m 1 #[.val (.int p0), .val (.int p1), .val (.int p2), .val (.int p3), .val (.int p4), .unset] [(.int p0)])) _
            refine XS.iconst X0.here hx rfl (hb hby d5_1) ?_
            show Steps p.tables e below (s₁.setTop (mkF m 2 #[.val (.int p0), .val (.int p1), .val (.int p2), .val (.int p3), .val (.int p4), .unset] [(.int (1 : Int32)), (.int p0)])) _
            refine XS.icmpYes X0.here hx rfl (pc0 := 2) (pc' := 18) rfl (hb hby d5_2) rfl (feq hA).2 (by decide) (by decide) ?_
            show Steps p.tables e below (s₁.setTop (mkF m 18 #[.val (.int p0), .val (.int p1), .val (.int p2), .val (.int p3), .val (.int p4), .unset] [])) _
            refine XS.iloadN X0.here hx rfl (hb hby d5_18) rfl ?_
            show Steps p.tables e below (s₁.setTop (mkF m 19 #[.val (.int p0), .val (.int p1), .val (.int p2), .val (.int p3), .val (.int p4), .unset] [(.int p0)])) _
            refine XS.iconst X0.here hx rfl (hb hby d5_19) ?_
            show Steps p.tables e below (s₁.setTop (mkF m 20 #[.val (.int p0), .val (.int p1), .val (.int p2), .val (.int p3), .val (.int p4), .unset] [(.int (2 : Int32)), (.int p0)])) _
            refine XS.icmpYes X0.here hx rfl (pc0 := 20) (pc' := 58) rfl (hb hby d5_20) rfl (feq hB).2 (by decide) (by decide) ?_
            show Steps p.tables e below (s₁.setTop (mkF m 58 #[.val (.int p0), .val (.int p1), .val (.int p2), .val (.int p3), .val (.int p4), .unset] [])) _
            refine XS.iloadN X0.here hx rfl (hb hby d5_58) rfl ?_
            show Steps p.tables e below (s₁.setTop (mkF m 59 #[.val (.int p0), .val (.int p1), .val (.int p2), .val (.int p3), .val (.int p4), .unset] [(.int p0)])) _
            refine XS.iconst X0.here hx rfl (hb hby d5_59) ?_
            show Steps p.tables e below (s₁.setTop (mkF m 60 #[.val (.int p0), .val (.int p1), .val (.int p2), .val (.int p3), .val (.int p4), .unset] [(.int (3 : Int32)), (.int p0)])) _
            refine XS.icmpNo X0.here hx rfl (hb hby d5_60) rfl (teq hC).2 ?_
            show Steps p.tables e below (s₁.setTop (mkF m 63 #[.val (.int p0), .val (.int p1), .val (.int p2), .val (.int p3), .val (.int p4), .unset] [])) _
            refine XS.iloadN X0.here hx rfl (hb hby d5_63) rfl ?_
            show Steps p.tables e below (s₁.setTop (mkF m 64 #[.val (.int p0), .val (.int p1), .val (.int p2), .val (.int p3), .val (.int p4), .unset] [(.int p1)])) _
            refine XS.bipush X0.here hx rfl (hb hby d5_64) ?_
            show Steps p.tables e below (s₁.setTop (mkF m 66 #[.val (.int p0), .val (.int p1), .val (.int p2), .val (.int p3), .val (.int p4), .unset] [(.int (15 : Int32)), (.int p1)])) _
            refine XS.iand X0.here hx rfl (hb hby d5_66) rfl ?_
            show Steps p.tables e below (s₁.setTop (mkF m 67 #[.val (.int p0), .val (.int p1), .val (.int p2), .val (.int p3), .val (.int p4), .unset] [(.int (p1 &&& (15 : Int32)))])) _
            refine XS.bipush X0.here hx rfl (hb hby d5_67) ?_
            show Steps p.tables e below (s₁.setTop (mkF m 69 #[.val (.int p0), .val (.int p1), .val (.int p2), .val (.int p3), .val (.int p4), .unset] [(.int (12 : Int32)), (.int (p1 &&& (15 : Int32)))])) _
            refine XS.ishl X0.here hx rfl (hb hby d5_69) rfl ?_
            show Steps p.tables e below (s₁.setTop (mkF m 70 #[.val (.int p0), .val (.int p1), .val (.int p2), .val (.int p3), .val (.int p4), .unset] [(.int ((p1 &&& (15 : Int32)) <<< ((12 : Int32) &&& 31)))])) _
            refine XS.iloadN X0.here hx rfl (hb hby d5_70) rfl ?_
            show Steps p.tables e below (s₁.setTop (mkF m 71 #[.val (.int p0), .val (.int p1), .val (.int p2), .val (.int p3), .val (.int p4), .unset] [(.int p2), (.int ((p1 &&& (15 : Int32)) <<< ((12 : Int32) &&& 31)))])) _
            refine XS.bipush X0.here hx rfl (hb hby d5_71) ?_
            show Steps p.tables e below (s₁.setTop (mkF m 73 #[.val (.int p0), .val (.int p1), .val (.int p2), .val (.int p3), .val (.int p4), .unset] [(.int (63 : Int32)), (.int p2), (.int ((p1 &&& (15 : Int32)) <<< ((12 : Int32) &&& 31)))])) _
            refine XS.iand X0.here hx rfl (hb hby d5_73) rfl ?_
            show Steps p.tables e below (s₁.setTop (mkF m 74 #[.val (.int p0), .val (.int p1), .val (.int p2), .val (.int p3), .val (.int p4), .unset] [(.int (p2 &&& (63 : Int32))), (.int ((p1 &&& (15 : Int32)) <<< ((12 : Int32) &&& 31)))])) _
            refine XS.bipush X0.here hx rfl (hb hby d5_74) ?_
            show Steps p.tables e below (s₁.setTop (mkF m 76 #[.val (.int p0), .val (.int p1), .val (.int p2), .val (.int p3), .val (.int p4), .unset] [(.int (6 : Int32)), (.int (p2 &&& (63 : Int32))), (.int ((p1 &&& (15 : Int32)) <<< ((12 : Int32) &&& 31)))])) _
            refine XS.ishl X0.here hx rfl (hb hby d5_76) rfl ?_
            show Steps p.tables e below (s₁.setTop (mkF m 77 #[.val (.int p0), .val (.int p1), .val (.int p2), .val (.int p3), .val (.int p4), .unset] [(.int ((p2 &&& (63 : Int32)) <<< ((6 : Int32) &&& 31))), (.int ((p1 &&& (15 : Int32)) <<< ((12 : Int32) &&& 31)))])) _
            refine XS.ior X0.here hx rfl (hb hby d5_77) rfl ?_
            show Steps p.tables e below (s₁.setTop (mkF m 78 #[.val (.int p0), .val (.int p1), .val (.int p2), .val (.int p3), .val (.int p4), .unset] [(.int (((p1 &&& (15 : Int32)) <<< ((12 : Int32) &&& 31)) ||| ((p2 &&& (63 : Int32)) <<< ((6 : Int32) &&& 31))))])) _
            refine XS.iloadN X0.here hx rfl (hb hby d5_78) rfl ?_
            show Steps p.tables e below (s₁.setTop (mkF m 79 #[.val (.int p0), .val (.int p1), .val (.int p2), .val (.int p3), .val (.int p4), .unset] [(.int p3), (.int (((p1 &&& (15 : Int32)) <<< ((12 : Int32) &&& 31)) ||| ((p2 &&& (63 : Int32)) <<< ((6 : Int32) &&& 31))))])) _
            refine XS.bipush X0.here hx rfl (hb hby d5_79) ?_
            show Steps p.tables e below (s₁.setTop (mkF m 81 #[.val (.int p0), .val (.int p1), .val (.int p2), .val (.int p3), .val (.int p4), .unset] [(.int (63 : Int32)), (.int p3), (.int (((p1 &&& (15 : Int32)) <<< ((12 : Int32) &&& 31)) ||| ((p2 &&& (63 : Int32)) <<< ((6 : Int32) &&& 31))))])) _
            refine XS.iand X0.here hx rfl (hb hby d5_81) rfl ?_
            show Steps p.tables e below (s₁.setTop (mkF m 82 #[.val (.int p0), .val (.int p1), .val (.int p2), .val (.int p3), .val (.int p4), .unset] [(.int (p3 &&& (63 : Int32))), (.int (((p1 &&& (15 : Int32)) <<< ((12 : Int32) &&& 31)) ||| ((p2 &&& (63 : Int32)) <<< ((6 : Int32) &&& 31))))])) _
            refine XS.ior X0.here hx rfl (hb hby d5_82) rfl ?_
            show Steps p.tables e below (s₁.setTop (mkF m 83 #[.val (.int p0), .val (.int p1), .val (.int p2), .val (.int p3), .val (.int p4), .unset] [(.int (own_cp3 p1 p2 p3))])) _
            refine XS.istore X0.here hx rfl (hb hby d5_83) rfl (l' := #[.val (.int p0), .val (.int p1), .val (.int p2), .val (.int p3), .val (.int p4), .val (.int (own_cp3 p1 p2 p3))]) rfl ?_
            show Steps p.tables e below (s₁.setTop (mkF m 85 #[.val (.int p0), .val (.int p1), .val (.int p2), .val (.int p3), .val (.int p4), .val (.int (own_cp3 p1 p2 p3))] [])) _
            refine XS.iloadN X0.here hx rfl (hb hby d5_85) rfl ?_
            show Steps p.tables e below (s₁.setTop (mkF m 86 #[.val (.int p0), .val (.int p1), .val (.int p2), .val (.int p3), .val (.int p4), .val (.int (own_cp3 p1 p2 p3))] [(.int p2)])) _
            refine st215 _ ?_
            show Steps p.tables e below (T215.setTop (mkF m 89 #[.val (.int p0), .val (.int p1), .val (.int p2), .val (.int p3), .val (.int p4), .val (.int (own_cp3 p1 p2 p3))] [(.int (own_cont p2))])) _
            refine XS.ifYes X215.here hx rfl (pc0 := 89) (pc' := 125) rfl (hb hby d5_89) rfl ((if0 _ _).trans (teq hD).1) (by decide) (by decide) ?_
            show Steps p.tables e below (T215.setTop (mkF m 125 #[.val (.int p0), .val (.int p1), .val (.int p2), .val (.int p3), .val (.int p4), .val (.int (own_cp3 p1 p2 p3))] [])) _
            refine XS.iconst X215.here hx rfl (hb hby d5_125) ?_
            show Steps p.tables e below (T215.setTop (mkF m 126 #[.val (.int p0), .val (.int p1), .val (.int p2), .val (.int p3), .val (.int p4), .val (.int (own_cp3 p1 p2 p3))] [(.int (0 : Int32))])) _
            exact retN X215 hx (t := .boolean) Bd.returns (by simp) (hb hby d5_126) hr
          · show Qrm5 Z p0 p1 p2 p3 p4 h0 n0 _ T215.heap _
            rw [e215]
            exact ⟨by unfold own_wf; rw [if_neg hA, if_neg hB, if_pos hC, if_pos hD], N216, rfl⟩
        · obtain ⟨_, _, ⟨T217, L217, k217, n217⟩, -, X217, ⟨Lc217, hQ217, l217, y217, z217⟩, st217⟩ := Jvm.LawKit.callS X215 hx (y := (⟨"com/example/reshelve/reshelve/Utf8FirstFaultPinLaw", "cont", "(I)Z"⟩ : MethodName)) hown (mvT hZ (hw _ (List.mem_of_getElem? (i := 18) rfl))) (mvT hZ (hw _ (List.mem_of_getElem? (i := 19) rfl))) (mvT hZ (hw _ (List.mem_of_getElem? (i := 3) rfl))) (mvT hZ (hw _ (List.mem_of_getElem? (i := 20) rfl))) (by decide) (backOf (W := 0) (rm6 l Z a0 hw [] p3  h0 n0 Z0 ) hZ (hw _ (List.mem_of_getElem? (i := 20) rfl)) (hw _ (List.mem_of_getElem? (i := 3) rfl)) (by decide) (by decide)) (g := (mkF m 93 #[.val (.int p0), .val (.int p1), .val (.int p2), .val (.int p3), .val (.int p4), .val (.int (own_cp3 p1 p2 p3))] [(.int p3)])) rfl (by rw [hml]; rfl) (argsL := [(.int p3)]) (rest := []) (lenOf pd__I_Z rfl) rfl (by show 2 * 0 + _ ≤ _; exact Nat.le_of_eq rfl) (hb hby d5_93) (fun _ _ => ⟨rfl, e215, (by decide : 0 + 0 ≤ _), (by decide : 0 + 0 ≤ _)⟩)
          dsimp only [Pt.U, Pt.locs, Pt.cells, Pt.slots] at X217 l217 y217 z217 st217 hQ217
          subst l217 y217 z217
          obtain ⟨rfl, N217q, e217⟩ := hQ217
          have N218 := Fr.app N216 N217q
          obtain ⟨v223, hv223⟩ : ∃ v : Int32, v = if (57343 : Int32) < (own_cp3 p1 p2 p3) then (1 : Int32) else (0 : Int32) := ⟨_, rfl⟩
          obtain ⟨v224, hv224⟩ : ∃ v : Int32, v = if (own_cp3 p1 p2 p3) < (55296 : Int32) then (1 : Int32) else v223 := ⟨_, rfl⟩
          obtain ⟨v225, hv225⟩ : ∃ v : Int32, v = if (own_cp3 p1 p2 p3) < (2048 : Int32) then (0 : Int32) else v224 := ⟨_, rfl⟩
          obtain ⟨v226, hv226⟩ : ∃ v : Int32, v = if (own_cont p3) = (0 : Int32) then (0 : Int32) else v225 := ⟨_, rfl⟩
          obtain ⟨fs, hr, hrun, hended, hW, hsame⟩ := X217.leave (v := some (.int v226)) (fun h => by rw [Bd.returns] at h; cases h)
          refine ⟨_, _, pre0 _ ?_, hrun, hended, _, _, rfl, ?_, ⟨_, rfl⟩, hW, hsame.mono (by decide) (by decide)⟩
          · show Steps p.tables e below (s₁.setTop (mkF m 0 #[.val (.int p0), .val (.int p1), .val (.int p2), .val (.int p3), .val (.int p4), .unset] [])) _
            refine XS.iloadN X0.here hx rfl (hb hby d5_0) rfl ?_
            show Steps p.tables e below (s₁.setTop (mkF m 1 #[.val (.int p0), .val (.int p1), .val (.int p2), .val (.int p3), .val (.int p4), .unset] [(.int p0)])) _
            refine XS.iconst X0.here hx rfl (hb hby d5_1) ?_
            show Steps p.tables e below (s₁.setTop (mkF m 2 #[.val (.int p0), .val (.int p1), .val (.int p2), .val (.int p3), .val (.int p4), .unset] [(.int (1 : Int32)), (.int p0)])) _
            refine XS.icmpYes X0.here hx rfl (pc0 := 2) (pc' := 18) rfl (hb hby d5_2) rfl (feq hA).2 (by decide) (by decide) ?_
            show Steps p.tables e below (s₁.setTop (mkF m 18 #[.val (.int p0), .val (.int p1), .val (.int p2), .val (.int p3), .val (.int p4), .unset] [])) _
            refine XS.iloadN X0.here hx rfl (hb hby d5_18) rfl ?_
            show Steps p.tables e below (s₁.setTop (mkF m 19 #[.val (.int p0), .val (.int p1), .val (.int p2), .val (.int p3), .val (.int p4), .unset] [(.int p0)])) _
            refine XS.iconst X0.here hx rfl (hb hby d5_19) ?_
            show Steps p.tables e below (s₁.setTop (mkF m 20 #[.val (.int p0), .val (.int p1), .val (.int p2), .val (.int p3), .val (.int p4), .unset] [(.int (2 : Int32)), (.int p0)])) _
            refine XS.icmpYes X0.here hx rfl (pc0 := 20) (pc' := 58) rfl (hb hby d5_20) rfl (feq hB).2 (by decide) (by decide) ?_
            show Steps p.tables e below (s₁.setTop (mkF m 58 #[.val (.int p0), .val (.int p1), .val (.int p2), .val (.int p3), .val (.int p4), .unset] [])) _
            refine XS.iloadN X0.here hx rfl (hb hby d5_58) rfl ?_
            show Steps p.tables e below (s₁.setTop (mkF m 59 #[.val (.int p0), .val (.int p1), .val (.int p2), .val (.int p3), .val (.int p4), .unset] [(.int p0)])) _
            refine XS.iconst X0.here hx rfl (hb hby d5_59) ?_
            show Steps p.tables e below (s₁.setTop (mkF m 60 #[.val (.int p0), .val (.int p1), .val (.int p2), .val (.int p3), .val (.int p4), .unset] [(.int (3 : Int32)), (.int p0)])) _
            refine XS.icmpNo X0.here hx rfl (hb hby d5_60) rfl (teq hC).2 ?_
            show Steps p.tables e below (s₁.setTop (mkF m 63 #[.val (.int p0), .val (.int p1), .val (.int p2), .val (.int p3), .val (.int p4), .unset] [])) _
            refine XS.iloadN X0.here hx rfl (hb hby d5_63) rfl ?_
            show Steps p.tables e below (s₁.setTop (mkF m 64 #[.val (.int p0), .val (.int p1), .val (.int p2), .val (.int p3), .val (.int p4), .unset] [(.int p1)])) _
            refine XS.bipush X0.here hx rfl (hb hby d5_64) ?_
            show Steps p.tables e below (s₁.setTop (mkF m 66 #[.val (.int p0), .val (.int p1), .val (.int p2), .val (.int p3), .val (.int p4), .unset] [(.int (15 : Int32)), (.int p1)])) _
            refine XS.iand X0.here hx rfl (hb hby d5_66) rfl ?_
            show Steps p.tables e below (s₁.setTop (mkF m 67 #[.val (.int p0), .val (.int p1), .val (.int p2), .val (.int p3), .val (.int p4), .unset] [(.int (p1 &&& (15 : Int32)))])) _
            refine XS.bipush X0.here hx rfl (hb hby d5_67) ?_
            show Steps p.tables e below (s₁.setTop (mkF m 69 #[.val (.int p0), .val (.int p1), .val (.int p2), .val (.int p3), .val (.int p4), .unset] [(.int (12 : Int32)), (.int (p1 &&& (15 : Int32)))])) _
            refine XS.ishl X0.here hx rfl (hb hby d5_69) rfl ?_
            show Steps p.tables e below (s₁.setTop (mkF m 70 #[.val (.int p0), .val (.int p1), .val (.int p2), .val (.int p3), .val (.int p4), .unset] [(.int ((p1 &&& (15 : Int32)) <<< ((12 : Int32) &&& 31)))])) _
            refine XS.iloadN X0.here hx rfl (hb hby d5_70) rfl ?_
            show Steps p.tables e below (s₁.setTop (mkF m 71 #[.val (.int p0), .val (.int p1), .val (.int p2), .val (.int p3), .val (.int p4), .unset] [(.int p2), (.int ((p1 &&& (15 : Int32)) <<< ((12 : Int32) &&& 31)))])) _
            refine XS.bipush X0.here hx rfl (hb hby d5_71) ?_
            show Steps p.tables e below (s₁.setTop (mkF m 73 #[.val (.int p0), .val (.int p1), .val (.int p2), .val (.int p3), .val (.int p4), .unset] [(.int (63 : Int32)), (.int p2), (.int ((p1 &&& (15 : Int32)) <<< ((12 : Int32) &&& 31)))])) _
            refine XS.iand X0.here hx rfl (hb hby d5_73) rfl ?_
            show Steps p.tables e below (s₁.setTop (mkF m 74 #[.val (.int p0), .val (.int p1), .val (.int p2), .val (.int p3), .val (.int p4), .unset] [(.int (p2 &&& (63 : Int32))), (.int ((p1 &&& (15 : Int32)) <<< ((12 : Int32) &&& 31)))])) _
            refine XS.bipush X0.here hx rfl (hb hby d5_74) ?_
            show Steps p.tables e below (s₁.setTop (mkF m 76 #[.val (.int p0), .val (.int p1), .val (.int p2), .val (.int p3), .val (.int p4), .unset] [(.int (6 : Int32)), (.int (p2 &&& (63 : Int32))), (.int ((p1 &&& (15 : Int32)) <<< ((12 : Int32) &&& 31)))])) _
            refine XS.ishl X0.here hx rfl (hb hby d5_76) rfl ?_
            show Steps p.tables e below (s₁.setTop (mkF m 77 #[.val (.int p0), .val (.int p1), .val (.int p2), .val (.int p3), .val (.int p4), .unset] [(.int ((p2 &&& (63 : Int32)) <<< ((6 : Int32) &&& 31))), (.int ((p1 &&& (15 : Int32)) <<< ((12 : Int32) &&& 31)))])) _
            refine XS.ior X0.here hx rfl (hb hby d5_77) rfl ?_
            show Steps p.tables e below (s₁.setTop (mkF m 78 #[.val (.int p0), .val (.int p1), .val (.int p2), .val (.int p3), .val (.int p4), .unset] [(.int (((p1 &&& (15 : Int32)) <<< ((12 : Int32) &&& 31)) ||| ((p2 &&& (63 : Int32)) <<< ((6 : Int32) &&& 31))))])) _
            refine XS.iloadN X0.here hx rfl (hb hby d5_78) rfl ?_
            show Steps p.tables e below (s₁.setTop (mkF m 79 #[.val (.int p0), .val (.int p1), .val (.int p2), .val (.int p3), .val (.int p4), .unset] [(.int p3), (.int (((p1 &&& (15 : Int32)) <<< ((12 : Int32) &&& 31)) ||| ((p2 &&& (63 : Int32)) <<< ((6 : Int32) &&& 31))))])) _
            refine XS.bipush X0.here hx rfl (hb hby d5_79) ?_
            show Steps p.tables e below (s₁.setTop (mkF m 81 #[.val (.int p0), .val (.int p1), .val (.int p2), .val (.int p3), .val (.int p4), .unset] [(.int (63 : Int32)), (.int p3), (.int (((p1 &&& (15 : Int32)) <<< ((12 : Int32) &&& 31)) ||| ((p2 &&& (63 : Int32)) <<< ((6 : Int32) &&& 31))))])) _
            refine XS.iand X0.here hx rfl (hb hby d5_81) rfl ?_
            show Steps p.tables e below (s₁.setTop (mkF m 82 #[.val (.int p0), .val (.int p1), .val (.int p2), .val (.int p3), .val (.int p4), .unset] [(.int (p3 &&& (63 : Int32))), (.int (((p1 &&& (15 : Int32)) <<< ((12 : Int32) &&& 31)) ||| ((p2 &&& (63 : Int32)) <<< ((6 : Int32) &&& 31))))])) _
            refine XS.ior X0.here hx rfl (hb hby d5_82) rfl ?_
            show Steps p.tables e below (s₁.setTop (mkF m 83 #[.val (.int p0), .val (.int p1), .val (.int p2), .val (.int p3), .val (.int p4), .unset] [(.int (own_cp3 p1 p2 p3))])) _
            refine XS.istore X0.here hx rfl (hb hby d5_83) rfl (l' := #[.val (.int p0), .val (.int p1), .val (.int p2), .val (.int p3), .val (.int p4), .val (.int (own_cp3 p1 p2 p3))]) rfl ?_
            show Steps p.tables e below (s₁.setTop (mkF m 85 #[.val (.int p0), .val (.int p1), .val (.int p2), .val (.int p3), .val (.int p4), .val (.int (own_cp3 p1 p2 p3))] [])) _
            refine XS.iloadN X0.here hx rfl (hb hby d5_85) rfl ?_
            show Steps p.tables e below (s₁.setTop (mkF m 86 #[.val (.int p0), .val (.int p1), .val (.int p2), .val (.int p3), .val (.int p4), .val (.int (own_cp3 p1 p2 p3))] [(.int p2)])) _
            refine st215 _ ?_
            show Steps p.tables e below (T215.setTop (mkF m 89 #[.val (.int p0), .val (.int p1), .val (.int p2), .val (.int p3), .val (.int p4), .val (.int (own_cp3 p1 p2 p3))] [(.int (own_cont p2))])) _
            refine XS.ifNo X215.here hx rfl (hb hby d5_89) rfl ((if0 _ _).trans (feq hD).1) ?_
            show Steps p.tables e below (T215.setTop (mkF m 92 #[.val (.int p0), .val (.int p1), .val (.int p2), .val (.int p3), .val (.int p4), .val (.int (own_cp3 p1 p2 p3))] [])) _
            refine XS.iloadN X215.here hx rfl (hb hby d5_92) rfl ?_
            show Steps p.tables e below (T215.setTop (mkF m 93 #[.val (.int p0), .val (.int p1), .val (.int p2), .val (.int p3), .val (.int p4), .val (.int (own_cp3 p1 p2 p3))] [(.int p3)])) _
            refine st217 _ ?_
            by_cases hc219 : (own_cont p3) = (0 : Int32)
            · rw [show v226 = (0 : Int32) from by rw [hv226, if_pos hc219]] at hr
              show Steps p.tables e below (T217.setTop (mkF m 96 #[.val (.int p0), .val (.int p1), .val (.int p2), .val (.int p3), .val (.int p4), .val (.int (own_cp3 p1 p2 p3))] [(.int (own_cont p3))])) _
              refine XS.ifYes X217.here hx rfl (pc0 := 96) (pc' := 125) rfl (hb hby d5_96) rfl ((if0 _ _).trans (teq hc219).1) (by decide) (by decide) ?_
              show Steps p.tables e below (T217.setTop (mkF m 125 #[.val (.int p0), .val (.int p1), .val (.int p2), .val (.int p3), .val (.int p4), .val (.int (own_cp3 p1 p2 p3))] [])) _
              refine XS.iconst X217.here hx rfl (hb hby d5_125) ?_
              show Steps p.tables e below (T217.setTop (mkF m 126 #[.val (.int p0), .val (.int p1), .val (.int p2), .val (.int p3), .val (.int p4), .val (.int (own_cp3 p1 p2 p3))] [(.int (0 : Int32))])) _
              exact retN X217 hx (t := .boolean) Bd.returns (by simp) (hb hby d5_126) hr
            · rw [show v226 = v225 from by rw [hv226, if_neg hc219]] at hr
              show Steps p.tables e below (T217.setTop (mkF m 96 #[.val (.int p0), .val (.int p1), .val (.int p2), .val (.int p3), .val (.int p4), .val (.int (own_cp3 p1 p2 p3))] [(.int (own_cont p3))])) _
              refine XS.ifNo X217.here hx rfl (hb hby d5_96) rfl ((if0 _ _).trans (feq hc219).1) ?_
              show Steps p.tables e below (T217.setTop (mkF m 99 #[.val (.int p0), .val (.int p1), .val (.int p2), .val (.int p3), .val (.int p4), .val (.int (own_cp3 p1 p2 p3))] [])) _
              refine XS.iload X217.here hx rfl (hb hby d5_99) rfl ?_
              show Steps p.tables e below (T217.setTop (mkF m 101 #[.val (.int p0), .val (.int p1), .val (.int p2), .val (.int p3), .val (.int p4), .val (.int (own_cp3 p1 p2 p3))] [(.int (own_cp3 p1 p2 p3))])) _
              refine XS.sipush X217.here hx rfl (hb hby d5_101) ?_
              by_cases hc220 : (own_cp3 p1 p2 p3) < (2048 : Int32)
              · rw [show v225 = (0 : Int32) from by rw [hv225, if_pos hc220]] at hr
                show Steps p.tables e below (T217.setTop (mkF m 104 #[.val (.int p0), .val (.int p1), .val (.int p2), .val (.int p3), .val (.int p4), .val (.int (own_cp3 p1 p2 p3))] [(.int (2048 : Int32)), (.int (own_cp3 p1 p2 p3))])) _
                refine XS.icmpYes X217.here hx rfl (pc0 := 104) (pc' := 125) rfl (hb hby d5_104) rfl (tlt hc220).1 (by decide) (by decide) ?_
                show Steps p.tables e below (T217.setTop (mkF m 125 #[.val (.int p0), .val (.int p1), .val (.int p2), .val (.int p3), .val (.int p4), .val (.int (own_cp3 p1 p2 p3))] [])) _
                refine XS.iconst X217.here hx rfl (hb hby d5_125) ?_
                show Steps p.tables e below (T217.setTop (mkF m 126 #[.val (.int p0), .val (.int p1), .val (.int p2), .val (.int p3), .val (.int p4), .val (.int (own_cp3 p1 p2 p3))] [(.int (0 : Int32))])) _
                exact retN X217 hx (t := .boolean) Bd.returns (by simp) (hb hby d5_126) hr
              · rw [show v225 = v224 from by rw [hv225, if_neg hc220]] at hr
                show Steps p.tables e below (T217.setTop (mkF m 104 #[.val (.int p0), .val (.int p1), .val (.int p2), .val (.int p3), .val (.int p4), .val (.int (own_cp3 p1 p2 p3))] [(.int (2048 : Int32)), (.int (own_cp3 p1 p2 p3))])) _
                refine XS.icmpNo X217.here hx rfl (hb hby d5_104) rfl (flt hc220).1 ?_
                show Steps p.tables e below (T217.setTop (mkF m 107 #[.val (.int p0), .val (.int p1), .val (.int p2), .val (.int p3), .val (.int p4), .val (.int (own_cp3 p1 p2 p3))] [])) _
                refine XS.iload X217.here hx rfl (hb hby d5_107) rfl ?_
                show Steps p.tables e below (T217.setTop (mkF m 109 #[.val (.int p0), .val (.int p1), .val (.int p2), .val (.int p3), .val (.int p4), .val (.int (own_cp3 p1 p2 p3))] [(.int (own_cp3 p1 p2 p3))])) _
                refine X217.ldcInt hx hown (mvT hZ (hw _ (List.mem_of_getElem? (i := 21) rfl))) (g := (mkF m 109 #[.val (.int p0), .val (.int p1), .val (.int p2), .val (.int p3), .val (.int p4), .val (.int (own_cp3 p1 p2 p3))] [(.int (own_cp3 p1 p2 p3))])) rfl (hb hby d5_109) _ ?_
                by_cases hc221 : (own_cp3 p1 p2 p3) < (55296 : Int32)
                · rw [show v224 = (1 : Int32) from by rw [hv224, if_pos hc221]] at hr
                  show Steps p.tables e below (T217.setTop (mkF m 111 #[.val (.int p0), .val (.int p1), .val (.int p2), .val (.int p3), .val (.int p4), .val (.int (own_cp3 p1 p2 p3))] [(.int (55296 : Int32)), (.int (own_cp3 p1 p2 p3))])) _
                  refine XS.icmpYes X217.here hx rfl (pc0 := 111) (pc' := 121) rfl (hb hby d5_111) rfl (tlt hc221).1 (by decide) (by decide) ?_
                  show Steps p.tables e below (T217.setTop (mkF m 121 #[.val (.int p0), .val (.int p1), .val (.int p2), .val (.int p3), .val (.int p4), .val (.int (own_cp3 p1 p2 p3))] [])) _
                  refine XS.iconst X217.here hx rfl (hb hby d5_121) ?_
                  show Steps p.tables e below (T217.setTop (mkF m 122 #[.val (.int p0), .val (.int p1), .val (.int p2), .val (.int p3), .val (.int p4), .val (.int (own_cp3 p1 p2 p3))] [(.int (1 : Int32))])) _
                  refine XS.goto X217.here hx rfl (pc0 := 122) (pc' := 126) rfl (hb hby d5_122) (by decide) (by decide) ?_
                  show Steps p.tables e below (T217.setTop (mkF m 126 #[.val (.int p0), .val (.int p1), .val (.int p2), .val (.int p3), .val (.int p4), .val (.int (own_cp3 p1 p2 p3))] [(.int (1 : Int32))])) _
                  exact retN X217 hx (t := .boolean) Bd.returns (by simp) (hb hby d5_126) hr
                · rw [show v224 = v223 from by rw [hv224, if_neg hc221]] at hr
                  show Steps p.tables e below (T217.setTop (mkF m 111 #[.val (.int p0), .val (.int p1), .val (.int p2), .val (.int p3), .val (.int p4), .val (.int (own_cp3 p1 p2 p3))] [(.int (55296 : Int32)), (.int (own_cp3 p1 p2 p3))])) _
                  refine XS.icmpNo X217.here hx rfl (hb hby d5_111) rfl (flt hc221).1 ?_
                  show Steps p.tables e below (T217.setTop (mkF m 114 #[.val (.int p0), .val (.int p1), .val (.int p2), .val (.int p3), .val (.int p4), .val (.int (own_cp3 p1 p2 p3))] [])) _
                  refine XS.iload X217.here hx rfl (hb hby d5_114) rfl ?_
                  show Steps p.tables e below (T217.setTop (mkF m 116 #[.val (.int p0), .val (.int p1), .val (.int p2), .val (.int p3), .val (.int p4), .val (.int (own_cp3 p1 p2 p3))] [(.int (own_cp3 p1 p2 p3))])) _
                  refine X217.ldcInt hx hown (mvT hZ (hw _ (List.mem_of_getElem? (i := 22) rfl))) (g := (mkF m 116 #[.val (.int p0), .val (.int p1), .val (.int p2), .val (.int p3), .val (.int p4), .val (.int (own_cp3 p1 p2 p3))] [(.int (own_cp3 p1 p2 p3))])) rfl (hb hby d5_116) _ ?_
                  by_cases hc222 : (57343 : Int32) < (own_cp3 p1 p2 p3)
                  · rw [show v223 = (1 : Int32) from by rw [hv223, if_pos hc222]] at hr
                    show Steps p.tables e below (T217.setTop (mkF m 118 #[.val (.int p0), .val (.int p1), .val (.int p2), .val (.int p3), .val (.int p4), .val (.int (own_cp3 p1 p2 p3))] [(.int (57343 : Int32)), (.int (own_cp3 p1 p2 p3))])) _
                    refine XS.icmpNo X217.here hx rfl (hb hby d5_118) rfl (tlt hc222).2.2.2 ?_
                    show Steps p.tables e below (T217.setTop (mkF m 121 #[.val (.int p0), .val (.int p1), .val (.int p2), .val (.int p3), .val (.int p4), .val (.int (own_cp3 p1 p2 p3))] [])) _
                    refine XS.iconst X217.here hx rfl (hb hby d5_121) ?_
                    show Steps p.tables e below (T217.setTop (mkF m 122 #[.val (.int p0), .val (.int p1), .val (.int p2), .val (.int p3), .val (.int p4), .val (.int (own_cp3 p1 p2 p3))] [(.int (1 : Int32))])) _
                    refine XS.goto X217.here hx rfl (pc0 := 122) (pc' := 126) rfl (hb hby d5_122) (by decide) (by decide) ?_
                    show Steps p.tables e below (T217.setTop (mkF m 126 #[.val (.int p0), .val (.int p1), .val (.int p2), .val (.int p3), .val (.int p4), .val (.int (own_cp3 p1 p2 p3))] [(.int (1 : Int32))])) _
                    exact retN X217 hx (t := .boolean) Bd.returns (by simp) (hb hby d5_126) hr
                  · rw [show v223 = (0 : Int32) from by rw [hv223, if_neg hc222]] at hr
                    show Steps p.tables e below (T217.setTop (mkF m 118 #[.val (.int p0), .val (.int p1), .val (.int p2), .val (.int p3), .val (.int p4), .val (.int (own_cp3 p1 p2 p3))] [(.int (57343 : Int32)), (.int (own_cp3 p1 p2 p3))])) _
                    refine XS.icmpYes X217.here hx rfl (pc0 := 118) (pc' := 125) rfl (hb hby d5_118) rfl (flt hc222).2.2.2 (by decide) (by decide) ?_
                    show Steps p.tables e below (T217.setTop (mkF m 125 #[.val (.int p0), .val (.int p1), .val (.int p2), .val (.int p3), .val (.int p4), .val (.int (own_cp3 p1 p2 p3))] [])) _
                    refine XS.iconst X217.here hx rfl (hb hby d5_125) ?_
                    show Steps p.tables e below (T217.setTop (mkF m 126 #[.val (.int p0), .val (.int p1), .val (.int p2), .val (.int p3), .val (.int p4), .val (.int (own_cp3 p1 p2 p3))] [(.int (0 : Int32))])) _
                    exact retN X217 hx (t := .boolean) Bd.returns (by simp) (hb hby d5_126) hr
          · show Qrm5 Z p0 p1 p2 p3 p4 h0 n0 _ T217.heap _
            rw [e217]
            exact ⟨by rw [hv226, hv225, hv224, hv223]; unfold own_wf; rw [if_neg hA, if_neg hB, if_pos hC, if_neg hD], N218, rfl⟩
      · obtain ⟨_, _, ⟨T227, L227, k227, n227⟩, -, X227, ⟨Lc227, hQ227, l227, y227, z227⟩, st227⟩ := Jvm.LawKit.callS X0 hx (y := (⟨"com/example/reshelve/reshelve/Utf8FirstFaultPinLaw", "cont", "(I)Z"⟩ : MethodName)) hown (mvT hZ (hw _ (List.mem_of_getElem? (i := 18) rfl))) (mvT hZ (hw _ (List.mem_of_getElem? (i := 19) rfl))) (mvT hZ (hw _ (List.mem_of_getElem? (i := 3) rfl))) (mvT hZ (hw _ (List.mem_of_getElem? (i := 20) rfl))) (by decide) (backOf (W := 0) (rm6 l Z a0 hw [] p2  h0 n0 Z0 ) hZ (hw _ (List.mem_of_getElem? (i := 20) rfl)) (hw _ (List.mem_of_getElem? (i := 3) rfl)) (by decide) (by decide)) (g := (mkF m 159 #[.val (.int p0), .val (.int p1), .val (.int p2), .val (.int p3), .val (.int p4), .val (.int (own_cp4 p1 p2 p3 p4))] [(.int p2)])) rfl (by rw [hml]; rfl) (argsL := [(.int p2)]) (rest := []) (lenOf pd__I_Z rfl) rfl (by show 2 * 0 + _ ≤ _; exact Nat.le_of_eq rfl) (hb hby d5_159) (fun _ _ => ⟨rfl, e0, (by decide : 0 + 0 ≤ _), (by decide : 0 + 0 ≤ _)⟩)
        dsimp only [Pt.U, Pt.locs, Pt.cells, Pt.slots] at X227 l227 y227 z227 st227 hQ227
        subst l227 y227 z227
        obtain ⟨rfl, N227q, e227⟩ := hQ227
        have N228 := Fr.app N0 N227q
        by_cases hD : own_cont p2 = (0 : Int32)
        · obtain ⟨fs, hr, hrun, hended, hW, hsame⟩ := X227.leave (v := some (.int (0 : Int32))) (fun h => by rw [Bd.returns] at h; cases h)
          refine ⟨_, _, pre0 _ ?_, hrun, hended, _, _, rfl, ?_, ⟨_, rfl⟩, hW, hsame.mono (by decide) (by decide)⟩
          · show Steps p.tables e below (s₁.setTop (mkF m 0 #[.val (.int p0), .val (.int p1), .val (.int p2), .val (.int p3), .val (.int p4), .unset] [])) _
            refine XS.iloadN X0.here hx rfl (hb hby d5_0) rfl ?_
            show Steps p.tables e below (s₁.setTop (mkF m 1 #[.val (.int p0), .val (.int p1), .val (.int p2), .val (.int p3), .val (.int p4), .unset] [(.int p0)])) _
            refine XS.iconst X0.here hx rfl (hb hby d5_1) ?_
            show Steps p.tables e below (s₁.setTop (mkF m 2 #[.val (.int p0), .val (.int p1), .val (.int p2), .val (.int p3), .val (.int p4), .unset] [(.int (1 : Int32)), (.int p0)])) _
            refine XS.icmpYes X0.here hx rfl (pc0 := 2) (pc' := 18) rfl (hb hby d5_2) rfl (feq hA).2 (by decide) (by decide) ?_
            show Steps p.tables e below (s₁.setTop (mkF m 18 #[.val (.int p0), .val (.int p1), .val (.int p2), .val (.int p3), .val (.int p4), .unset] [])) _
            refine XS.iloadN X0.here hx rfl (hb hby d5_18) rfl ?_
            show Steps p.tables e below (s₁.setTop (mkF m 19 #[.val (.int p0), .val (.int p1), .val (.int p2), .val (.int p3), .val (.int p4), .unset] [(.int p0)])) _
            refine XS.iconst X0.here hx rfl (hb hby d5_19) ?_
            show Steps p.tables e below (s₁.setTop (mkF m 20 #[.val (.int p0), .val (.int p1), .val (.int p2), .val (.int p3), .val (.int p4), .unset] [(.int (2 : Int32)), (.int p0)])) _
            refine XS.icmpYes X0.here hx rfl (pc0 := 20) (pc' := 58) rfl (hb hby d5_20) rfl (feq hB).2 (by decide) (by decide) ?_
            show Steps p.tables e below (s₁.setTop (mkF m 58 #[.val (.int p0), .val (.int p1), .val (.int p2), .val (.int p3), .val (.int p4), .unset] [])) _
            refine XS.iloadN X0.here hx rfl (hb hby d5_58) rfl ?_
            show Steps p.tables e below (s₁.setTop (mkF m 59 #[.val (.int p0), .val (.int p1), .val (.int p2), .val (.int p3), .val (.int p4), .unset] [(.int p0)])) _
            refine XS.iconst X0.here hx rfl (hb hby d5_59) ?_
            show Steps p.tables e below (s₁.setTop (mkF m 60 #[.val (.int p0), .val (.int p1), .val (.int p2), .val (.int p3), .val (.int p4), .unset] [(.int (3 : Int32)), (.int p0)])) _
            refine XS.icmpYes X0.here hx rfl (pc0 := 60) (pc' := 127) rfl (hb hby d5_60) rfl (feq hC).2 (by decide) (by decide) ?_
            show Steps p.tables e below (s₁.setTop (mkF m 127 #[.val (.int p0), .val (.int p1), .val (.int p2), .val (.int p3), .val (.int p4), .unset] [])) _
            refine XS.iloadN X0.here hx rfl (hb hby d5_127) rfl ?_
            show Steps p.tables e below (s₁.setTop (mkF m 128 #[.val (.int p0), .val (.int p1), .val (.int p2), .val (.int p3), .val (.int p4), .unset] [(.int p1)])) _
            refine XS.bipush X0.here hx rfl (hb hby d5_128) ?_
            show Steps p.tables e below (s₁.setTop (mkF m 130 #[.val (.int p0), .val (.int p1), .val (.int p2), .val (.int p3), .val (.int p4), .unset] [(.int (7 : Int32)), (.int p1)])) _
            refine XS.iand X0.here hx rfl (hb hby d5_130) rfl ?_
            show Steps p.tables e below (s₁.setTop (mkF m 131 #[.val (.int p0), .val (.int p1), .val (.int p2), .val (.int p3), .val (.int p4), .unset] [(.int (p1 &&& (7 : Int32)))])) _
            refine XS.bipush X0.here hx rfl (hb hby d5_131) ?_
            show Steps p.tables e below (s₁.setTop (mkF m 133 #[.val (.int p0), .val (.int p1), .val (.int p2), .val (.int p3), .val (.int p4), .unset] [(.int (18 : Int32)), (.int (p1 &&& (7 : Int32)))])) _
            refine XS.ishl X0.here hx rfl (hb hby d5_133) rfl ?_
            show Steps p.tables e below (s₁.setTop (mkF m 134 #[.val (.int p0), .val (.int p1), .val (.int p2), .val (.int p3), .val (.int p4), .unset] [(.int ((p1 &&& (7 : Int32)) <<< ((18 : Int32) &&& 31)))])) _
            refine XS.iloadN X0.here hx rfl (hb hby d5_134) rfl ?_
            show Steps p.tables e below (s₁.setTop (mkF m 135 #[.val (.int p0), .val (.int p1), .val (.int p2), .val (.int p3), .val (.int p4), .unset] [(.int p2), (.int ((p1 &&& (7 : Int32)) <<< ((18 : Int32) &&& 31)))])) _
            refine XS.bipush X0.here hx rfl (hb hby d5_135) ?_
            show Steps p.tables e below (s₁.setTop (mkF m 137 #[.val (.int p0), .val (.int p1), .val (.int p2), .val (.int p3), .val (.int p4), .unset] [(.int (63 : Int32)), (.int p2), (.int ((p1 &&& (7 : Int32)) <<< ((18 : Int32) &&& 31)))])) _
            refine XS.iand X0.here hx rfl (hb hby d5_137) rfl ?_
            show Steps p.tables e below (s₁.setTop (mkF m 138 #[.val (.int p0), .val (.int p1), .val (.int p2), .val (.int p3), .val (.int p4), .unset] [(.int (p2 &&& (63 : Int32))), (.int ((p1 &&& (7 : Int32)) <<< ((18 : Int32) &&& 31)))])) _
            refine XS.bipush X0.here hx rfl (hb hby d5_138) ?_
            show Steps p.tables e below (s₁.setTop (mkF m 140 #[.val (.int p0), .val (.int p1), .val (.int p2), .val (.int p3), .val (.int p4), .unset] [(.int (12 : Int32)), (.int (p2 &&& (63 : Int32))), (.int ((p1 &&& (7 : Int32)) <<< ((18 : Int32) &&& 31)))])) _
            refine XS.ishl X0.here hx rfl (hb hby d5_140) rfl ?_
            show Steps p.tables e below (s₁.setTop (mkF m 141 #[.val (.int p0), .val (.int p1), .val (.int p2), .val (.int p3), .val (.int p4), .unset] [(.int ((p2 &&& (63 : Int32)) <<< ((12 : Int32) &&& 31))), (.int ((p1 &&& (7 : Int32)) <<< ((18 : Int32) &&& 31)))])) _
            refine XS.ior X0.here hx rfl (hb hby d5_141) rfl ?_
            show Steps p.tables e below (s₁.setTop (mkF m 142 #[.val (.int p0), .val (.int p1), .val (.int p2), .val (.int p3), .val (.int p4), .unset] [(.int (((p1 &&& (7 : Int32)) <<< ((18 : Int32) &&& 31)) ||| ((p2 &&& (63 : Int32)) <<< ((12 : Int32) &&& 31))))])) _
            refine XS.iloadN X0.here hx rfl (hb hby d5_142) rfl ?_
            show Steps p.tables e below (s₁.setTop (mkF m 143 #[.val (.int p0), .val (.int p1), .val (.int p2), .val (.int p3), .val (.int p4), .unset] [(.int p3), (.int (((p1 &&& (7 : Int32)) <<< ((18 : Int32) &&& 31)) ||| ((p2 &&& (63 : Int32)) <<< ((12 : Int32) &&& 31))))])) _
            refine XS.bipush X0.here hx rfl (hb hby d5_143) ?_
            show Steps p.tables e below (s₁.setTop (mkF m 145 #[.val (.int p0), .val (.int p1), .val (.int p2), .val (.int p3), .val (.int p4), .unset] [(.int (63 : Int32)), (.int p3), (.int (((p1 &&& (7 : Int32)) <<< ((18 : Int32) &&& 31)) ||| ((p2 &&& (63 : Int32)) <<< ((12 : Int32) &&& 31))))])) _
            refine XS.iand X0.here hx rfl (hb hby d5_145) rfl ?_
            show Steps p.tables e below (s₁.setTop (mkF m 146 #[.val (.int p0), .val (.int p1), .val (.int p2), .val (.int p3), .val (.int p4), .unset] [(.int (p3 &&& (63 : Int32))), (.int (((p1 &&& (7 : Int32)) <<< ((18 : Int32) &&& 31)) ||| ((p2 &&& (63 : Int32)) <<< ((12 : Int32) &&& 31))))])) _
            refine XS.bipush X0.here hx rfl (hb hby d5_146) ?_
            show Steps p.tables e below (s₁.setTop (mkF m 148 #[.val (.int p0), .val (.int p1), .val (.int p2), .val (.int p3), .val (.int p4), .unset] [(.int (6 : Int32)), (.int (p3 &&& (63 : Int32))), (.int (((p1 &&& (7 : Int32)) <<< ((18 : Int32) &&& 31)) ||| ((p2 &&& (63 : Int32)) <<< ((12 : Int32) &&& 31))))])) _
            refine XS.ishl X0.here hx rfl (hb hby d5_148) rfl ?_
            show Steps p.tables e below (s₁.setTop (mkF m 149 #[.val (.int p0), .val (.int p1), .val (.int p2), .val (.int p3), .val (.int p4), .unset] [(.int ((p3 &&& (63 : Int32)) <<< ((6 : Int32) &&& 31))), (.int (((p1 &&& (7 : Int32)) <<< ((18 : Int32) &&& 31)) ||| ((p2 &&& (63 : Int32)) <<< ((12 : Int32) &&& 31))))])) _
            refine XS.ior X0.here hx rfl (hb hby d5_149) rfl ?_
            show Steps p.tables e below (s₁.setTop (mkF m 150 #[.val (.int p0), .val (.int p1), .val (.int p2), .val (.int p3), .val (.int p4), .unset] [(.int ((((p1 &&& (7 : Int32)) <<< ((18 : Int32) &&& 31)) ||| ((p2 &&& (63 : Int32)) <<< ((12 : Int32) &&& 31))) ||| ((p3 &&& (63 : Int32)) <<< ((6 : Int32) &&& 31))))])) _
            refine XS.iload X0.here hx rfl (hb hby d5_150) rfl ?_
            show Steps p.tables e below (s₁.setTop (mkF m 152 #[.val (.int p0), .val (.int p1), .val (.int p2), .val (.int p3), .val (.int p4), .unset] [(.int p4), (.int ((((p1 &&& (7 : Int32)) <<< ((18 : Int32) &&& 31)) ||| ((p2 &&& (63 : Int32)) <<< ((12 : Int32) &&& 31))) ||| ((p3 &&& (63 : Int32)) <<< ((6 : Int32) &&& 31))))])) _
            refine XS.bipush X0.here hx rfl (hb hby d5_152) ?_
            show Steps p.tables e below (s₁.setTop (mkF m 154 #[.val (.int p0), .val (.int p1), .val (.int p2), .val (.int p3), .val (.int p4), .unset] [(.int (63 : Int32)), (.int p4), (.int ((((p1 &&& (7 : Int32)) <<< ((18 : Int32) &&& 31)) ||| ((p2 &&& (63 : Int32)) <<< ((12 : Int32) &&& 31))) ||| ((p3 &&& (63 : Int32)) <<< ((6 : Int32) &&& 31))))])) _
            refine XS.iand X0.here hx rfl (hb hby d5_154) rfl ?_
            show Steps p.tables e below (s₁.setTop (mkF m 155 #[.val (.int p0), .val (.int p1), .val (.int p2), .val (.int p3), .val (.int p4), .unset] [(.int (p4 &&& (63 : Int32))), (.int ((((p1 &&& (7 : Int32)) <<< ((18 : Int32) &&& 31)) ||| ((p2 &&& (63 : Int32)) <<< ((12 : Int32) &&& 31))) ||| ((p3 &&& (63 : Int32)) <<< ((6 : Int32) &&& 31))))])) _
            refine XS.ior X0.here hx rfl (hb hby d5_155) rfl ?_
            show Steps p.tables e below (s₁.setTop (mkF m 156 #[.val (.int p0), .val (.int p1), .val (.int p2), .val (.int p3), .val (.int p4), .unset] [(.int (own_cp4 p1 p2 p3 p4))])) _
            refine XS.istore X0.here hx rfl (hb hby d5_156) rfl (l' := #[.val (.int p0), .val (.int p1), .val (.int p2), .val (.int p3), .val (.int p4), .val (.int (own_cp4 p1 p2 p3 p4))]) rfl ?_
            show Steps p.tables e below (s₁.setTop (mkF m 158 #[.val (.int p0), .val (.int p1), .val (.int p2), .val (.int p3), .val (.int p4), .val (.int (own_cp4 p1 p2 p3 p4))] [])) _
            refine XS.iloadN X0.here hx rfl (hb hby d5_158) rfl ?_
            show Steps p.tables e below (s₁.setTop (mkF m 159 #[.val (.int p0), .val (.int p1), .val (.int p2), .val (.int p3), .val (.int p4), .val (.int (own_cp4 p1 p2 p3 p4))] [(.int p2)])) _
            refine st227 _ ?_
            show Steps p.tables e below (T227.setTop (mkF m 162 #[.val (.int p0), .val (.int p1), .val (.int p2), .val (.int p3), .val (.int p4), .val (.int (own_cp4 p1 p2 p3 p4))] [(.int (own_cont p2))])) _
            refine XS.ifYes X227.here hx rfl (pc0 := 162) (pc' := 198) rfl (hb hby d5_162) rfl ((if0 _ _).trans (teq hD).1) (by decide) (by decide) ?_
            show Steps p.tables e below (T227.setTop (mkF m 198 #[.val (.int p0), .val (.int p1), .val (.int p2), .val (.int p3), .val (.int p4), .val (.int (own_cp4 p1 p2 p3 p4))] [])) _
            refine XS.iconst X227.here hx rfl (hb hby d5_198) ?_
            show Steps p.tables e below (T227.setTop (mkF m 199 #[.val (.int p0), .val (.int p1), .val (.int p2), .val (.int p3), .val (.int p4), .val (.int (own_cp4 p1 p2 p3 p4))] [(.int (0 : Int32))])) _
            exact retN X227 hx (t := .boolean) Bd.returns (by simp) (hb hby d5_199) hr
          · show Qrm5 Z p0 p1 p2 p3 p4 h0 n0 _ T227.heap _
            rw [e227]
            exact ⟨by unfold own_wf; rw [if_neg hA, if_neg hB, if_neg hC, if_pos hD], N228, rfl⟩
        · obtain ⟨_, _, ⟨T229, L229, k229, n229⟩, -, X229, ⟨Lc229, hQ229, l229, y229, z229⟩, st229⟩ := Jvm.LawKit.callS X227 hx (y := (⟨"com/example/reshelve/reshelve/Utf8FirstFaultPinLaw", "cont", "(I)Z"⟩ : MethodName)) hown (mvT hZ (hw _ (List.mem_of_getElem? (i := 18) rfl))) (mvT hZ (hw _ (List.mem_of_getElem? (i := 19) rfl))) (mvT hZ (hw _ (List.mem_of_getElem? (i := 3) rfl))) (mvT hZ (hw _ (List.mem_of_getElem? (i := 20) rfl))) (by decide) (backOf (W := 0) (rm6 l Z a0 hw [] p3  h0 n0 Z0 ) hZ (hw _ (List.mem_of_getElem? (i := 20) rfl)) (hw _ (List.mem_of_getElem? (i := 3) rfl)) (by decide) (by decide)) (g := (mkF m 166 #[.val (.int p0), .val (.int p1), .val (.int p2), .val (.int p3), .val (.int p4), .val (.int (own_cp4 p1 p2 p3 p4))] [(.int p3)])) rfl (by rw [hml]; rfl) (argsL := [(.int p3)]) (rest := []) (lenOf pd__I_Z rfl) rfl (by show 2 * 0 + _ ≤ _; exact Nat.le_of_eq rfl) (hb hby d5_166) (fun _ _ => ⟨rfl, e227, (by decide : 0 + 0 ≤ _), (by decide : 0 + 0 ≤ _)⟩)
          dsimp only [Pt.U, Pt.locs, Pt.cells, Pt.slots] at X229 l229 y229 z229 st229 hQ229
          subst l229 y229 z229
          obtain ⟨rfl, N229q, e229⟩ := hQ229
          have N230 := Fr.app N228 N229q
          by_cases hE : own_cont p3 = (0 : Int32)
          · obtain ⟨fs, hr, hrun, hended, hW, hsame⟩ := X229.leave (v := some (.int (0 : Int32))) (fun h => by rw [Bd.returns] at h; cases h)
            refine ⟨_, _, pre0 _ ?_, hrun, hended, _, _, rfl, ?_, ⟨_, rfl⟩, hW, hsame.mono (by decide) (by decide)⟩
            · show Steps p.tables e below (s₁.setTop (mkF m 0 #[.val (.int p0), .val (.int p1), .val (.int p2), .val (.int p3), .val (.int p4), .unset] [])) _
              refine XS.iloadN X0.here hx rfl (hb hby d5_0) rfl ?_
              show Steps p.tables e below (s₁.setTop (mkF m 1 #[.val (.int p0), .val (.int p1), .val (.int p2), .val (.int p3), .val (.int p4), .unset] [(.int p0)])) _
              refine XS.iconst X0.here hx rfl (hb hby d5_1) ?_
              show Steps p.tables e below (s₁.setTop (mkF m 2 #[.val (.int p0), .val (.int p1), .val (.int p2), .val (.int p3), .val (.int p4), .unset] [(.int (1 : Int32)), (.int p0)])) _
              refine XS.icmpYes X0.here hx rfl (pc0 := 2) (pc' := 18) rfl (hb hby d5_2) rfl (feq hA).2 (by decide) (by decide) ?_
              show Steps p.tables e below (s₁.setTop (mkF m 18 #[.val (.int p0), .val (.int p1), .val (.int p2), .val (.int p3), .val (.int p4), .unset] [])) _
              refine XS.iloadN X0.here hx rfl (hb hby d5_18) rfl ?_
              show Steps p.tables e below (s₁.setTop (mkF m 19 #[.val (.int p0), .val (.int p1), .val (.int p2), .val (.int p3), .val (.int p4), .unset] [(.int p0)])) _
              refine XS.iconst X0.here hx rfl (hb hby d5_19) ?_
              show Steps p.tables e below (s₁.setTop (mkF m 20 #[.val (.int p0), .val (.int p1), .val (.int p2), .val (.int p3), .val (.int p4), .unset] [(.int (2 : Int32)), (.int p0)])) _
              refine XS.icmpYes X0.here hx rfl (pc0 := 20) (pc' := 58) rfl (hb hby d5_20) rfl (feq hB).2 (by decide) (by decide) ?_
              show Steps p.tables e below (s₁.setTop (mkF m 58 #[.val (.int p0), .val (.int p1), .val (.int p2), .val (.int p3), .val (.int p4), .unset] [])) _
              refine XS.iloadN X0.here hx rfl (hb hby d5_58) rfl ?_
              show Steps p.tables e below (s₁.setTop (mkF m 59 #[.val (.int p0), .val (.int p1), .val (.int p2), .val (.int p3), .val (.int p4), .unset] [(.int p0)])) _
              refine XS.iconst X0.here hx rfl (hb hby d5_59) ?_
              show Steps p.tables e below (s₁.setTop (mkF m 60 #[.val (.int p0), .val (.int p1), .val (.int p2), .val (.int p3), .val (.int p4), .unset] [(.int (3 : Int32)), (.int p0)])) _
              refine XS.icmpYes X0.here hx rfl (pc0 := 60) (pc' := 127) rfl (hb hby d5_60) rfl (feq hC).2 (by decide) (by decide) ?_
              show Steps p.tables e below (s₁.setTop (mkF m 127 #[.val (.int p0), .val (.int p1), .val (.int p2), .val (.int p3), .val (.int p4), .unset] [])) _
              refine XS.iloadN X0.here hx rfl (hb hby d5_127) rfl ?_
              show Steps p.tables e below (s₁.setTop (mkF m 128 #[.val (.int p0), .val (.int p1), .val (.int p2), .val (.int p3), .val (.int p4), .unset] [(.int p1)])) _
              refine XS.bipush X0.here hx rfl (hb hby d5_128) ?_
              show Steps p.tables e below (s₁.setTop (mkF m 130 #[.val (.int p0), .val (.int p1), .val (.int p2), .val (.int p3), .val (.int p4), .unset] [(.int (7 : Int32)), (.int p1)])) _
              refine XS.iand X0.here hx rfl (hb hby d5_130) rfl ?_
              show Steps p.tables e below (s₁.setTop (mkF m 131 #[.val (.int p0), .val (.int p1), .val (.int p2), .val (.int p3), .val (.int p4), .unset] [(.int (p1 &&& (7 : Int32)))])) _
              refine XS.bipush X0.here hx rfl (hb hby d5_131) ?_
              show Steps p.tables e below (s₁.setTop (mkF m 133 #[.val (.int p0), .val (.int p1), .val (.int p2), .val (.int p3), .val (.int p4), .unset] [(.int (18 : Int32)), (.int (p1 &&& (7 : Int32)))])) _
              refine XS.ishl X0.here hx rfl (hb hby d5_133) rfl ?_
              show Steps p.tables e below (s₁.setTop (mkF m 134 #[.val (.int p0), .val (.int p1), .val (.int p2), .val (.int p3), .val (.int p4), .unset] [(.int ((p1 &&& (7 : Int32)) <<< ((18 : Int32) &&& 31)))])) _
              refine XS.iloadN X0.here hx rfl (hb hby d5_134) rfl ?_
              show Steps p.tables e below (s₁.setTop (mkF m 135 #[.val (.int p0), .val (.int p1), .val (.int p2), .val (.int p3), .val (.int p4), .unset] [(.int p2), (.int ((p1 &&& (7 : Int32)) <<< ((18 : Int32) &&& 31)))])) _
              refine XS.bipush X0.here hx rfl (hb hby d5_135) ?_
              show Steps p.tables e below (s₁.setTop (mkF m 137 #[.val (.int p0), .val (.int p1), .val (.int p2), .val (.int p3), .val (.int p4), .unset] [(.int (63 : Int32)), (.int p2), (.int ((p1 &&& (7 : Int32)) <<< ((18 : Int32) &&& 31)))])) _
              refine XS.iand X0.here hx rfl (hb hby d5_137) rfl ?_
              show Steps p.tables e below (s₁.setTop (mkF m 138 #[.val (.int p0), .val (.int p1), .val (.int p2), .val (.int p3), .val (.int p4), .unset] [(.int (p2 &&& (63 : Int32))), (.int ((p1 &&& (7 : Int32)) <<< ((18 : Int32) &&& 31)))])) _
              refine XS.bipush X0.here hx rfl (hb hby d5_138) ?_
              show Steps p.tables e below (s₁.setTop (mkF m 140 #[.val (.int p0), .val (.int p1), .val (.int p2), .val (.int p3), .val (.int p4), .unset] [(.int (12 : Int32)), (.int (p2 &&& (63 : Int32))), (.int ((p1 &&& (7 : Int32)) <<< ((18 : Int32) &&& 31)))])) _
              refine XS.ishl X0.here hx rfl (hb hby d5_140) rfl ?_
              show Steps p.tables e below (s₁.setTop (mkF m 141 #[.val (.int p0), .val (.int p1), .val (.int p2), .val (.int p3), .val (.int p4), .unset] [(.int ((p2 &&& (63 : Int32)) <<< ((12 : Int32) &&& 31))), (.int ((p1 &&& (7 : Int32)) <<< ((18 : Int32) &&& 31)))])) _
              refine XS.ior X0.here hx rfl (hb hby d5_141) rfl ?_
              show Steps p.tables e below (s₁.setTop (mkF m 142 #[.val (.int p0), .val (.int p1), .val (.int p2), .val (.int p3), .val (.int p4), .unset] [(.int (((p1 &&& (7 : Int32)) <<< ((18 : Int32) &&& 31)) ||| ((p2 &&& (63 : Int32)) <<< ((12 : Int32) &&& 31))))])) _
              refine XS.iloadN X0.here hx rfl (hb hby d5_142) rfl ?_
              show Steps p.tables e below (s₁.setTop (mkF m 143 #[.val (.int p0), .val (.int p1), .val (.int p2), .val (.int p3), .val (.int p4), .unset] [(.int p3), (.int (((p1 &&& (7 : Int32)) <<< ((18 : Int32) &&& 31)) ||| ((p2 &&& (63 : Int32)) <<< ((12 : Int32) &&& 31))))])) _
              refine XS.bipush X0.here hx rfl (hb hby d5_143) ?_
              show Steps p.tables e below (s₁.setTop (mkF m 145 #[.val (.int p0), .val (.int p1), .val (.int p2), .val (.int p3), .val (.int p4), .unset] [(.int (63 : Int32)), (.int p3), (.int (((p1 &&& (7 : Int32)) <<< ((18 : Int32) &&& 31)) ||| ((p2 &&& (63 : Int32)) <<< ((12 : Int32) &&& 31))))])) _
              refine XS.iand X0.here hx rfl (hb hby d5_145) rfl ?_
              show Steps p.tables e below (s₁.setTop (mkF m 146 #[.val (.int p0), .val (.int p1), .val (.int p2), .val (.int p3), .val (.int p4), .unset] [(.int (p3 &&& (63 : Int32))), (.int (((p1 &&& (7 : Int32)) <<< ((18 : Int32) &&& 31)) ||| ((p2 &&& (63 : Int32)) <<< ((12 : Int32) &&& 31))))])) _
              refine XS.bipush X0.here hx rfl (hb hby d5_146) ?_
              show Steps p.tables e below (s₁.setTop (mkF m 148 #[.val (.int p0), .val (.int p1), .val (.int p2), .val (.int p3), .val (.int p4), .unset] [(.int (6 : Int32)), (.int (p3 &&& (63 : Int32))), (.int (((p1 &&& (7 : Int32)) <<< ((18 : Int32) &&& 31)) ||| ((p2 &&& (63 : Int32)) <<< ((12 : Int32) &&& 31))))])) _
              refine XS.ishl X0.here hx rfl (hb hby d5_148) rfl ?_
              show Steps p.tables e below (s₁.setTop (mkF m 149 #[.val (.int p0), .val (.int p1), .val (.int p2), .val (.int p3), .val (.int p4), .unset] [(.int ((p3 &&& (63 : Int32)) <<< ((6 : Int32) &&& 31))), (.int (((p1 &&& (7 : Int32)) <<< ((18 : Int32) &&& 31)) ||| ((p2 &&& (63 : Int32)) <<< ((12 : Int32) &&& 31))))])) _
              refine XS.ior X0.here hx rfl (hb hby d5_149) rfl ?_
              show Steps p.tables e below (s₁.setTop (mkF m 150 #[.val (.int p0), .val (.int p1), .val (.int p2), .val (.int p3), .val (.int p4), .unset] [(.int ((((p1 &&& (7 : Int32)) <<< ((18 : Int32) &&& 31)) ||| ((p2 &&& (63 : Int32)) <<< ((12 : Int32) &&& 31))) ||| ((p3 &&& (63 : Int32)) <<< ((6 : Int32) &&& 31))))])) _
              refine XS.iload X0.here hx rfl (hb hby d5_150) rfl ?_
              show Steps p.tables e below (s₁.setTop (mkF m 152 #[.val (.int p0), .val (.int p1), .val (.int p2), .val (.int p3), .val (.int p4), .unset] [(.int p4), (.int ((((p1 &&& (7 : Int32)) <<< ((18 : Int32) &&& 31)) ||| ((p2 &&& (63 : Int32)) <<< ((12 : Int32) &&& 31))) ||| ((p3 &&& (63 : Int32)) <<< ((6 : Int32) &&& 31))))])) _
              refine XS.bipush X0.here hx rfl (hb hby d5_152) ?_
              show Steps p.tables e below (s₁.setTop (mkF m 154 #[.val (.int p0), .val (.int p1), .val (.int p2), .val (.int p3), .val (.int p4), .unset] [(.int (63 : Int32)), (.int p4), (.int ((((p1 &&& (7 : Int32)) <<< ((18 : Int32) &&& 31)) ||| ((p2 &&& (63 : Int32)) <<< ((12 : Int32) &&& 31))) ||| ((p3 &&& (63 : Int32)) <<< ((6 : Int32) &&& 31))))])) _
              refine XS.iand X0.here hx rfl (hb hby d5_154) rfl ?_
              show Steps p.tables e below (s₁.setTop (mkF m 155 #[.val (.int p0), .val (.int p1), .val (.int p2), .val (.int p3), .val (.int p4), .unset] [(.int (p4 &&& (63 : Int32))), (.int ((((p1 &&& (7 : Int32)) <<< ((18 : Int32) &&& 31)) ||| ((p2 &&& (63 : Int32)) <<< ((12 : Int32) &&& 31))) ||| ((p3 &&& (63 : Int32)) <<< ((6 : Int32) &&& 31))))])) _
              refine XS.ior X0.here hx rfl (hb hby d5_155) rfl ?_
              show Steps p.tables e below (s₁.setTop (mkF m 156 #[.val (.int p0), .val (.int p1), .val (.int p2), .val (.int p3), .val (.int p4), .unset] [(.int (own_cp4 p1 p2 p3 p4))])) _
              refine XS.istore X0.here hx rfl (hb hby d5_156) rfl (l' := #[.val (.int p0), .val (.int p1), .val (.int p2), .val (.int p3), .val (.int p4), .val (.int (own_cp4 p1 p2 p3 p4))]) rfl ?_
              show Steps p.tables e below (s₁.setTop (mkF m 158 #[.val (.int p0), .val (.int p1), .val (.int p2), .val (.int p3), .val (.int p4), .val (.int (own_cp4 p1 p2 p3 p4))] [])) _
              refine XS.iloadN X0.here hx rfl (hb hby d5_158) rfl ?_
              show Steps p.tables e below (s₁.setTop (mkF m 159 #[.val (.int p0), .val (.int p1), .val (.int p2), .val (.int p3), .val (.int p4), .val (.int (own_cp4 p1 p2 p3 p4))] [(.int p2)])) _
              refine st227 _ ?_
              show Steps p.tables e below (T227.setTop (mkF m 162 #[.val (.int p0), .val (.int p1), .val (.int p2), .val (.int p3), .val (.int p4), .val (.int (own_cp4 p1 p2 p3 p4))] [(.int (own_cont p2))])) _
              refine XS.ifNo X227.here hx rfl (hb hby d5_162) rfl ((if0 _ _).trans (feq hD).1) ?_
              show Steps p.tables e below (T227.setTop (mkF m 165 #[.val (.int p0), .val (.int p1), .val (.int p2), .val (.int p3), .val (.int p4), .val (.int (own_cp4 p1 p2 p3 p4))] [])) _
              refine XS.iloadN X227.here hx rfl (hb hby d5_165) rfl ?_
              show Steps p.tables e below (T227.setTop (mkF m 166 #[.val (.int p0), .val (.int p1), .val (.int p2), .val (.int p3), .val (.int p4), .val (.int (own_cp4 p1 p2 p3 p4))] [(.int p3)])) _
              refine st229 _ ?_
              show Steps p.tables e below (T229.setTop (mkF m 169 #[.val (.int p0), .val (.int p1), .val (.int p2), .val (.int p3), .val (.int p4), .val (.int (own_cp4 p1 p2 p3 p4))] [(.int (own_cont p3))])) _
              refine XS.ifYes X229.here hx rfl (pc0 := 169) (pc' := 198) rfl (hb hby d5_169) rfl ((if0 _ _).trans (teq hE).1) (by decide) (by decide) ?_
              show Steps p.tables e below (T229.setTop (mkF m 198 #[.val (.int p0), .val (.int p1), .val (.int p2), .val (.int p3), .val (.int p4), .val (.int (own_cp4 p1 p2 p3 p4))] [])) _
              refine XS.iconst X229.here hx rfl (hb hby d5_198) ?_
              show Steps p.tables e below (T229.setTop (mkF m 199 #[.val (.int p0), .val (.int p1), .val (.int p2), .val (.int p3), .val (.int p4), .val (.int (own_cp4 p1 p2 p3 p4))] [(.int (0 : Int32))])) _
              exact retN X229 hx (t := .boolean) Bd.returns (by simp) (hb hby d5_199) hr
            · show Qrm5 Z p0 p1 p2 p3 p4 h0 n0 _ T229.heap _
              rw [e229]
              exact ⟨by unfold own_wf; rw [if_neg hA, if_neg hB, if_neg hC, if_neg hD, if_pos hE], N230, rfl⟩
          · obtain ⟨_, _, ⟨T231, L231, k231, n231⟩, -, X231, ⟨Lc231, hQ231, l231, y231, z231⟩, st231⟩ := Jvm.LawKit.callS X229 hx (y := (⟨"com/example/reshelve/reshelve/Utf8FirstFaultPinLaw", "cont", "(I)Z"⟩ : MethodName)) hown (mvT hZ (hw _ (List.mem_of_getElem? (i := 18) rfl))) (mvT hZ (hw _ (List.mem_of_getElem? (i := 19) rfl))) (mvT hZ (hw _ (List.mem_of_getElem? (i := 3) rfl))) (mvT hZ (hw _ (List.mem_of_getElem? (i := 20) rfl))) (by decide) (backOf (W := 0) (rm6 l Z a0 hw [] p4  h0 n0 Z0 ) hZ (hw _ (List.mem_of_getElem? (i := 20) rfl)) (hw _ (List.mem_of_getElem? (i := 3) rfl)) (by decide) (by decide)) (g := (mkF m 174 #[.val (.int p0), .val (.int p1), .val (.int p2), .val (.int p3), .val (.int p4), .val (.int (own_cp4 p1 p2 p3 p4))] [(.int p4)])) rfl (by rw [hml]; rfl) (argsL := [(.int p4)]) (rest := []) (lenOf pd__I_Z rfl) rfl (by show 2 * 0 + _ ≤ _; exact Nat.le_of_eq rfl) (hb hby d5_174) (fun _ _ => ⟨rfl, e229, (by decide : 0 + 0 ≤ _), (by decide : 0 + 0 ≤ _)⟩)
            dsimp only [Pt.U, Pt.locs, Pt.cells, Pt.slots] at X231 l231 y231 z231 st231 hQ231
            subst l231 y231 z231
            obtain ⟨rfl, N231q, e231⟩ := hQ231
            have N232 := Fr.app N230 N231q
            obtain ⟨v236, hv236⟩ : ∃ v : Int32, v = if (1114111 : Int32) < (own_cp4 p1 p2 p3 p4) then (0 : Int32) else (1 : Int32) := ⟨_, rfl⟩
            obtain ⟨v237, hv237⟩ : ∃ v : Int32, v = if (own_cp4 p1 p2 p3 p4) < (65536 : Int32) then (0 : Int32) else v236 := ⟨_, rfl⟩
            obtain ⟨v238, hv238⟩ : ∃ v : Int32, v = if (own_cont p4) = (0 : Int32) then (0 : Int32) else v237 := ⟨_, rfl⟩
            obtain ⟨fs, hr, hrun, hended, hW, hsame⟩ := X231.leave (v := some (.int v238)) (fun h => by rw [Bd.returns] at h; cases h)
            refine ⟨_, _, pre0 _ ?_, hrun, hended, _, _, rfl, ?_, ⟨_, rfl⟩, hW, hsame.mono (by decide) (by decide)⟩
            · show Steps p.tables e below (s₁.setTop (mkF m 0 #[.val (.int p0), .val (.int p1), .val (.int p2), .val (.int p3), .val (.int p4), .unset] [])) _
              refine XS.iloadN X0.here hx rfl (hb hby d5_0) rfl ?_
              show Steps p.tables e below (s₁.setTop (mkF m 1 #[.val (.int p0), .val (.int p1), .val (.int p2), .val (.int p3), .val (.int p4), .unset] [(.int p0)])) _
              refine XS.iconst X0.here hx rfl (hb hby d5_1) ?_
              show Steps p.tables e below (s₁.setTop (mkF m 2 #[.val (.int p0), .val (.int p1), .val (.int p2), .val (.int p3), .val (.int p4), .unset] [(.int (1 : Int32)), (.int p0)])) _
              refine XS.icmpYes X0.here hx rfl (pc0 := 2) (pc' := 18) rfl (hb hby d5_2) rfl (feq hA).2 (by decide) (by decide) ?_
              show Steps p.tables e below (s₁.setTop (mkF m 18 #[.val (.int p0), .val (.int p1), .val (.int p2), .val (.int p3), .val (.int p4), .unset] [])) _
              refine XS.iloadN X0.here hx rfl (hb hby d5_18) rfl ?_
              show Steps p.tables e below (s₁.setTop (mkF m 19 #[.val (.int p0), .val (.int p1), .val (.int p2), .val (.int p3), .val (.int p4), .unset] [(.int p0)])) _
              refine XS.iconst X0.here hx rfl (hb hby d5_19) ?_
              show Steps p.tables e below (s₁.setTop (mkF m 20 #[.val (.int p0), .val (.int p1), .val (.int p2), .val (.int p3), .val (.int p4), .unset] [(.int (2 : Int32)), (.int p0)])) _
              refine XS.icmpYes X0.here hx rfl (pc0 := 20) (pc' := 58) rfl (hb hby d5_20) rfl (feq hB).2 (by decide) (by decide) ?_
              show Steps p.tables e below (s₁.setTop (mkF m 58 #[.val (.int p0), .val (.int p1), .val (.int p2), .val (.int p3), .val (.int p4), .unset] [])) _
              refine XS.iloadN X0.here hx rfl (hb hby d5_58) rfl ?_
              show Steps p.tables e below (s₁.setTop (mkF m 59 #[.val (.int p0), .val (.int p1), .val (.int p2), .val (.int p3), .val (.int p4), .unset] [(.int p0)])) _
              refine XS.iconst X0.here hx rfl (hb hby d5_59) ?_
              show Steps p.tables e below (s₁.setTop (mkF m 60 #[.val (.int p0), .val (.int p1), .val (.int p2), .val (.int p3), .val (.int p4), .unset] [(.int (3 : Int32)), (.int p0)])) _
              refine XS.icmpYes X0.here hx rfl (pc0 := 60) (pc' := 127) rfl (hb hby d5_60) rfl (feq hC).2 (by decide) (by decide) ?_
              show Steps p.tables e below (s₁.setTop (mkF m 127 #[.val (.int p0), .val (.int p1), .val (.int p2), .val (.int p3), .val (.int p4), .unset] [])) _
              refine XS.iloadN X0.here hx rfl (hb hby d5_127) rfl ?_
              show Steps p.tables e below (s₁.setTop (mkF m 128 #[.val (.int p0), .val (.int p1), .val (.int p2), .val (.int p3), .val (.int p4), .unset] [(.int p1)])) _
              refine XS.bipush X0.here hx rfl (hb hby d5_128) ?_
              show Steps p.tables e below (s₁.setTop (mkF m 130 #[.val (.int p0), .val (.int p1), .val (.int p2), .val (.int p3), .val (.int p4), .unset] [(.int (7 : Int32)), (.int p1)])) _
              refine XS.iand X0.here hx rfl (hb hby d5_130) rfl ?_
              show Steps p.tables e below (s₁.setTop (mkF m 131 #[.val (.int p0), .val (.int p1), .val (.int p2), .val (.int p3), .val (.int p4), .unset] [(.int (p1 &&& (7 : Int32)))])) _
              refine XS.bipush X0.here hx rfl (hb hby d5_131) ?_
              show Steps p.tables e below (s₁.setTop (mkF m 133 #[.val (.int p0), .val (.int p1), .val (.int p2), .val (.int p3), .val (.int p4), .unset] [(.int (18 : Int32)), (.int (p1 &&& (7 : Int32)))])) _
              refine XS.ishl X0.here hx rfl (hb hby d5_133) rfl ?_
              show Steps p.tables e below (s₁.setTop (mkF m 134 #[.val (.int p0), .val (.int p1), .val (.int p2), .val (.int p3), .val (.int p4), .unset] [(.int ((p1 &&& (7 : Int32)) <<< ((18 : Int32) &&& 31)))])) _
              refine XS.iloadN X0.here hx rfl (hb hby d5_134) rfl ?_
              show Steps p.tables e below (s₁.setTop (mkF m 135 #[.val (.int p0), .val (.int p1), .val (.int p2), .val (.int p3), .val (.int p4), .unset] [(.int p2), (.int ((p1 &&& (7 : Int32)) <<< ((18 : Int32) &&& 31)))])) _
              refine XS.bipush X0.here hx rfl (hb hby d5_135) ?_
              show Steps p.tables e below (s₁.setTop (mkF m 137 #[.val (.int p0), .val (.int p1), .val (.int p2), .val (.int p3), .val (.int p4), .unset] [(.int (63 : Int32)), (.int p2), (.int ((p1 &&& (7 : Int32)) <<< ((18 : Int32) &&& 31)))])) _
              refine XS.iand X0.here hx rfl (hb hby d5_137) rfl ?_
              show Steps p.tables e below (s₁.setTop (mkF m 138 #[.val (.int p0), .val (.int p1), .val (.int p2), .val (.int p3), .val (.int p4), .unset] [(.int (p2 &&& (63 : Int32))), (.int ((p1 &&& (7 : Int32)) <<< ((18 : Int32) &&& 31)))])) _
              refine XS.bipush X0.here hx rfl (hb hby d5_138) ?_
              show Steps p.tables e below (s₁.setTop (mkF m 140 #[.val (.int p0), .val (.int p1), .val (.int p2), .val (.int p3), .val (.int p4), .unset] [(.int (12 : Int32)), (.int (p2 &&& (63 : Int32))), (.int ((p1 &&& (7 : Int32)) <<< ((18 : Int32) &&& 31)))])) _
              refine XS.ishl X0.here hx rfl (hb hby d5_140) rfl ?_
              show Steps p.tables e below (s₁.setTop (mkF m 141 #[.val (.int p0), .val (.int p1), .val (.int p2), .val (.int p3), .val (.int p4), .unset] [(.int ((p2 &&& (63 : Int32)) <<< ((12 : Int32) &&& 31))), (.int ((p1 &&& (7 : Int32)) <<< ((18 : Int32) &&& 31)))])) _
              refine XS.ior X0.here hx rfl (hb hby d5_141) rfl ?_
              show Steps p.tables e below (s₁.setTop (mkF m 142 #[.val (.int p0), .val (.int p1), .val (.int p2), .val (.int p3), .val (.int p4), .unset] [(.int (((p1 &&& (7 : Int32)) <<< ((18 : Int32) &&& 31)) ||| ((p2 &&& (63 : Int32)) <<< ((12 : Int32) &&& 31))))])) _
              refine XS.iloadN X0.here hx rfl (hb hby d5_142) rfl ?_
              show Steps p.tables e below (s₁.setTop (mkF m 143 #[.val (.int p0), .val (.int p1), .val (.int p2), .val (.int p3), .val (.int p4), .unset] [(.int p3), (.int (((p1 &&& (7 : Int32)) <<< ((18 : Int32) &&& 31)) ||| ((p2 &&& (63 : Int32)) <<< ((12 : Int32) &&& 31))))])) _
              refine XS.bipush X0.here hx rfl (hb hby d5_143) ?_
              show Steps p.tables e below (s₁.setTop (mkF m 145 #[.val (.int p0), .val (.int p1), .val (.int p2), .val (.int p3), .val (.int p4), .unset] [(.int (63 : Int32)), (.int p3), (.int (((p1 &&& (7 : Int32)) <<< ((18 : Int32) &&& 31)) ||| ((p2 &&& (63 : Int32)) <<< ((12 : Int32) &&& 31))))])) _
              refine XS.iand X0.here hx rfl (hb hby d5_145) rfl ?_
              show Steps p.tables e below (s₁.setTop (mkF m 146 #[.val (.int p0), .val (.int p1), .val (.int p2), .val (.int p3), .val (.int p4), .unset] [(.int (p3 &&& (63 : Int32))), (.int (((p1 &&& (7 : Int32)) <<< ((18 : Int32) &&& 31)) ||| ((p2 &&& (63 : Int32)) <<< ((12 : Int32) &&& 31))))])) _
              refine XS.bipush X0.here hx rfl (hb hby d5_146) ?_
              show Steps p.tables e below (s₁.setTop (mkF m 148 #[.val (.int p0), .val (.int p1), .val (.int p2), .val (.int p3), .val (.int p4), .unset] [(.int (6 : Int32)), (.int (p3 &&& (63 : Int32))), (.int (((p1 &&& (7 : Int32)) <<< ((18 : Int32) &&& 31)) ||| ((p2 &&& (63 : Int32)) <<< ((12 : Int32) &&& 31))))])) _
              refine XS.ishl X0.here hx rfl (hb hby d5_148) rfl ?_
              show Steps p.tables e below (s₁.setTop (mkF m 149 #[.val (.int p0), .val (.int p1), .val (.int p2), .val (.int p3), .val (.int p4), .unset] [(.int ((p3 &&& (63 : Int32)) <<< ((6 : Int32) &&& 31))), (.int (((p1 &&& (7 : Int32)) <<< ((18 : Int32) &&& 31)) ||| ((p2 &&& (63 : Int32)) <<< ((12 : Int32) &&& 31))))])) _
              refine XS.ior X0.here hx rfl (hb hby d5_149) rfl ?_
              show Steps p.tables e below (s₁.setTop (mkF m 150 #[.val (.int p0), .val (.int p1), .val (.int p2), .val (.int p3), .val (.int p4), .unset] [(.int ((((p1 &&& (7 : Int32)) <<< ((18 : Int32) &&& 31)) ||| ((p2 &&& (63 : Int32)) <<< ((12 : Int32) &&& 31))) ||| ((p3 &&& (63 : Int32)) <<< ((6 : Int32) &&& 31))))])) _
              refine XS.iload X0.here hx rfl (hb hby d5_150) rfl ?_
              show Steps p.tables e below (s₁.setTop (mkF m 152 #[.val (.int p0), .val (.int p1), .val (.int p2), .val (.int p3), .val (.int p4), .unset] [(.int p4), (.int ((((p1 &&& (7 : Int32)) <<< ((18 : Int32) &&& 31)) ||| ((p2 &&& (63 : Int32)) <<< ((12 : Int32) &&& 31))) ||| ((p3 &&& (63 : Int32)) <<< ((6 : Int32) &&& 31))))])) _
              refine XS.bipush X0.here hx rfl (hb hby d5_152) ?_
              show Steps p.tables e below (s₁.setTop (mkF m 154 #[.val (.int p0), .val (.int p1), .val (.int p2), .val (.int p3), .val (.int p4), .unset] [(.int (63 : Int32)), (.int p4), (.int ((((p1 &&& (7 : Int32)) <<< ((18 : Int32) &&& 31)) ||| ((p2 &&& (63 : Int32)) <<< ((12 : Int32) &&& 31))) ||| ((p3 &&& (63 : Int32)) <<< ((6 : Int32) &&& 31))))])) _
              refine XS.iand X0.here hx rfl (hb hby d5_154) rfl ?_
              show Steps p.tables e below (s₁.setTop (mkF m 155 #[.val (.int p0), .val (.int p1), .val (.int p2), .val (.int p3), .val (.int p4), .unset] [(.int (p4 &&& (63 : Int32))), (.int ((((p1 &&& (7 : Int32)) <<< ((18 : Int32) &&& 31)) ||| ((p2 &&& (63 : Int32)) <<< ((12 : Int32) &&& 31))) ||| ((p3 &&& (63 : Int32)) <<< ((6 : Int32) &&& 31))))])) _
              refine XS.ior X0.here hx rfl (hb hby d5_155) rfl ?_
              show Steps p.tables e below (s₁.setTop (mkF m 156 #[.val (.int p0), .val (.int p1), .val (.int p2), .val (.int p3), .val (.int p4), .unset] [(.int (own_cp4 p1 p2 p3 p4))])) _
              refine XS.istore X0.here hx rfl (hb hby d5_156) rfl (l' := #[.val (.int p0), .val (.int p1), .val (.int p2), .val (.int p3), .val (.int p4), .val (.int (own_cp4 p1 p2 p3 p4))]) rfl ?_
              show Steps p.tables e below (s₁.setTop (mkF m 158 #[.val (.int p0), .val (.int p1), .val (.int p2), .val (.int p3), .val (.int p4), .val (.int (own_cp4 p1 p2 p3 p4))] [])) _
              refine XS.iloadN X0.here hx rfl (hb hby d5_158) rfl ?_
              show Steps p.tables e below (s₁.setTop (mkF m 159 #[.val (.int p0), .val (.int p1), .val (.int p2), .val (.int p3), .val (.int p4), .val (.int (own_cp4 p1 p2 p3 p4))] [(.int p2)])) _
              refine st227 _ ?_
              show Steps p.tables e below (T227.setTop (mkF m 162 #[.val (.int p0), .val (.int p1), .val (.int p2), .val (.int p3), .val (.int p4), .val (.int (own_cp4 p1 p2 p3 p4))] [(.int (own_cont p2))])) _
              refine XS.ifNo X227.here hx rfl (hb hby d5_162) rfl ((if0 _ _).trans (feq hD).1) ?_
              show Steps p.tables e below (T227.setTop (mkF m 165 #[.val (.int p0), .val (.int p1), .val (.int p2), .val (.int p3), .val (.int p4), .val (.int (own_cp4 p1 p2 p3 p4))] [])) _
              refine XS.iloadN X227.here hx rfl (hb hby d5_165) rfl ?_
              show Steps p.tables e below (T227.setTop (mkF m 166 #[.val (.int p0), .val (.int p1), .val (.int p2), .val (.int p3), .val (.int p4), .val (.int (own_cp4 p1 p2 p3 p4))] [(.int p3)])) _
              refine st229 _ ?_
              show Steps p.tables e below (T229.setTop (mkF m 169 #[.val (.int p0), .val (.int p1), .val (.int p2), .val (.int p3), .val (.int p4), .val (.int (own_cp4 p1 p2 p3 p4))] [(.int (own_cont p3))])) _
              refine XS.ifNo X229.here hx rfl (hb hby d5_169) rfl ((if0 _ _).trans (feq hE).1) ?_
              show Steps p.tables e below (T229.setTop (mkF m 172 #[.val (.int p0), .val (.int p1), .val (.int p2), .val (.int p3), .val (.int p4), .val (.int (own_cp4 p1 p2 p3 p4))] [])) _
              refine XS.iload X229.here hx rfl (hb hby d5_172) rfl ?_
              show Steps p.tables e below (T229.setTop (mkF m 174 #[.val (.int p0), .val (.int p1), .val (.int p2), .val (.int p3), .val (.int p4), .val (.int (own_cp4 p1 p2 p3 p4))] [(.int p4)])) _
              refine st231 _ ?_
              by_cases hc233 : (own_cont p4) = (0 : Int32)
              · rw [show v238 = (0 : Int32) from by rw [hv238, if_pos hc233]] at hr
                show Steps p.tables e below (T231.setTop (mkF m 177 #[.val (.int p0), .val (.int p1), .val (.int p2), .val (.int p3), .val (.int p4), .val (.int (own_cp4 p1 p2 p3 p4))] [(.int (own_cont p4))])) _
                refine XS.ifYes X231.here hx rfl (pc0 := 177) (pc' := 198) rfl (hb hby d5_177) rfl ((if0 _ _).trans (teq hc233).1) (by decide) (by decide) ?_
                show Steps p.tables e below (T231.setTop (mkF m 198 #[.val (.int p0), .val (.int p1), .val (.int p2), .val (.int p3), .val (.int p4), .val (.int (own_cp4 p1 p2 p3 p4))] [])) _
                refine XS.iconst X231.here hx rfl (hb hby d5_198) ?_
                show Steps p.tables e below (T231.setTop (mkF m 199 #[.val (.int p0), .val (.int p1), .val (.int p2), .val (.int p3), .val (.int p4), .val (.int (own_cp4 p1 p2 p3 p4))] [(.int (0 : Int32))])) _
                exact retN X231 hx (t := .boolean) Bd.returns (by simp) (hb hby d5_199) hr
              · rw [show v238 = v237 from by rw [hv238, if_neg hc233]] at hr
                show Steps p.tables e below (T231.setTop (mkF m 177 #[.val (.int p0), .val (.int p1), .val (.int p2), .val (.int p3), .val (.int p4), .val (.int (own_cp4 p1 p2 p3 p4))] [(.int (own_cont p4))])) _
                refine XS.ifNo X231.here hx rfl (hb hby d5_177) rfl ((if0 _ _).trans (feq hc233).1) ?_
                show Steps p.tables e below (T231.setTop (mkF m 180 #[.val (.int p0), .val (.int p1), .val (.int p2), .val (.int p3), .val (.int p4), .val (.int (own_cp4 p1 p2 p3 p4))] [])) _
                refine XS.iload X231.here hx rfl (hb hby d5_180) rfl ?_
                show Steps p.tables e below (T231.setTop (mkF m 182 #[.val (.int p0), .val (.int p1), .val (.int p2), .val (.int p3), .val (.int p4), .val (.int (own_cp4 p1 p2 p3 p4))] [(.int (own_cp4 p1 p2 p3 p4))])) _
                refine X231.ldcInt hx hown (mvT hZ (hw _ (List.mem_of_getElem? (i := 23) rfl))) (g := (mkF m 182 #[.val (.int p0), .val (.int p1), .val (.int p2), .val (.int p3), .val (.int p4), .val (.int (own_cp4 p1 p2 p3 p4))] [(.int (own_cp4 p1 p2 p3 p4))])) rfl (hb hby d5_182) _ ?_
                by_cases hc234 : (own_cp4 p1 p2 p3 p4) < (65536 : Int32)
                · rw [show v237 = (0 : Int32) from by rw [hv237, if_pos hc234]] at hr
                  show Steps p.tables e below (T231.setTop (mkF m 184 #[.val (.int p0), .val (.int p1), .val (.int p2), .val (.int p3), .val (.int p4), .val (.int (own_cp4 p1 p2 p3 p4))] [(.int (65536 : Int32)), (.int (own_cp4 p1 p2 p3 p4))])) _
                  refine XS.icmpYes X231.here hx rfl (pc0 := 184) (pc' := 198) rfl (hb hby d5_184) rfl (tlt hc234).1 (by decide) (by decide) ?_
                  show Steps p.tables e below (T231.setTop (mkF m 198 #[.val (.int p0), .val (.int p1), .val (.int p2), .val (.int p3), .val (.int p4), .val (.int (own_cp4 p1 p2 p3 p4))] [])) _
                  refine XS.iconst X231.here hx rfl (hb hby d5_198) ?_
                  show Steps p.tables e below (T231.setTop (mkF m 199 #[.val (.int p0), .val (.int p1), .val (.int p2), .val (.int p3), .val (.int p4), .val (.int (own_cp4 p1 p2 p3 p4))] [(.int (0 : Int32))])) _
                  exact retN X231 hx (t := .boolean) Bd.returns (by simp) (hb hby d5_199) hr
                · rw [show v237 = v236 from by rw [hv237, if_neg hc234]] at hr
                  show Steps p.tables e below (T231.setTop (mkF m 184 #[.val (.int p0), .val (.int p1), .val (.int p2), .val (.int p3), .val (.int p4), .val (.int (own_cp4 p1 p2 p3 p4))] [(.int (65536 : Int32)), (.int (own_cp4 p1 p2 p3 p4))])) _
                  refine XS.icmpNo X231.here hx rfl (hb hby d5_184) rfl (flt hc234).1 ?_
                  show Steps p.tables e below (T231.setTop (mkF m 187 #[.val (.int p0), .val (.int p1), .val (.int p2), .val (.int p3), .val (.int p4), .val (.int (own_cp4 p1 p2 p3 p4))] [])) _
                  refine XS.iload X231.here hx rfl (hb hby d5_187) rfl ?_
                  show Steps p.tables e below (T231.setTop (mkF m 189 #[.val (.int p0), .val (.int p1), .val (.int p2), .val (.int p3), .val (.int p4), .val (.int (own_cp4 p1 p2 p3 p4))] [(.int (own_cp4 p1 p2 p3 p4))])) _
                  refine X231.ldcInt hx hown (mvT hZ (hw _ (List.mem_of_getElem? (i := 24) rfl))) (g := (mkF m 189 #[.val (.int p0), .val (.int p1), .val (.int p2), .val (.int p3), .val (.int p4), .val (.int (own_cp4 p1 p2 p3 p4))] [(.int (own_cp4 p1 p2 p3 p4))])) rfl (hb hby d5_189) _ ?_
                  by_cases hc235 : (1114111 : Int32) < (own_cp4 p1 p2 p3 p4)
                  · rw [show v236 = (0 : Int32) from by rw [hv236, if_pos hc235]] at hr
                    show Steps p.tables e below (T231.setTop (mkF m 191 #[.val (.int p0), .val (.int p1), .val (.int p2), .val (.int p3), .val (.int p4), .val (.int (own_cp4 p1 p2 p3 p4))] [(.int (1114111 : Int32)), (.int (own_cp4 p1 p2 p3 p4))])) _
                    refine XS.icmpYes X231.here hx rfl (pc0 := 191) (pc' := 198) rfl (hb hby d5_191) rfl (tlt hc235).2.2.1 (by decide) (by decide) ?_
                    show Steps p.tables e below (T231.setTop (mkF m 198 #[.val (.int p0), .val (.int p1), .val (.int p2), .val (.int p3), .val (.int p4), .val (.int (own_cp4 p1 p2 p3 p4))] [])) _
                    refine XS.iconst X231.here hx rfl (hb hby d5_198) ?_
                    show Steps p.tables e below (T231.setTop (mkF m 199 #[.val (.int p0), .val (.int p1), .val (.int p2), .val (.int p3), .val (.int p4), .val (.int (own_cp4 p1 p2 p3 p4))] [(.int (0 : Int32))])) _
                    exact retN X231 hx (t := .boolean) Bd.returns (by simp) (hb hby d5_199) hr
                  · rw [show v236 = (1 : Int32) from by rw [hv236, if_neg hc235]] at hr
                    show Steps p.tables e below (T231.setTop (mkF m 191 #[.val (.int p0), .val (.int p1), .val (.int p2), .val (.int p3), .val (.int p4), .val (.int (own_cp4 p1 p2 p3 p4))] [(.int (1114111 : Int32)), (.int (own_cp4 p1 p2 p3 p4))])) _
                    refine XS.icmpNo X231.here hx rfl (hb hby d5_191) rfl (flt hc235).2.2.1 ?_
                    show Steps p.tables e below (T231.setTop (mkF m 194 #[.val (.int p0), .val (.int p1), .val (.int p2), .val (.int p3), .val (.int p4), .val (.int (own_cp4 p1 p2 p3 p4))] [])) _
                    refine XS.iconst X231.here hx rfl (hb hby d5_194) ?_
                    show Steps p.tables e below (T231.setTop (mkF m 195 #[.val (.int p0), .val (.int p1), .val (.int p2), .val (.int p3), .val (.int p4), .val (.int (own_cp4 p1 p2 p3 p4))] [(.int (1 : Int32))])) _
                    refine XS.goto X231.here hx rfl (pc0 := 195) (pc' := 199) rfl (hb hby d5_195) (by decide) (by decide) ?_
                    show Steps p.tables e below (T231.setTop (mkF m 199 #[.val (.int p0), .val (.int p1), .val (.int p2), .val (.int p3), .val (.int p4), .val (.int (own_cp4 p1 p2 p3 p4))] [(.int (1 : Int32))])) _
                    exact retN X231 hx (t := .boolean) Bd.returns (by simp) (hb hby d5_199) hr
            · show Qrm5 Z p0 p1 p2 p3 p4 h0 n0 _ T231.heap _
              rw [e231]
              exact ⟨by rw [hv238, hv237, hv236]; unfold own_wf; rw [if_neg hA, if_neg hB, if_neg hC, if_neg hD, if_neg hE], N232, rfl⟩
theorem d4_252 : decode prog_315_method_2_code 252 = .ok (.iload_n 3, 1) := by decide +kernel
theorem d4_253 : decode prog_315_method_2_code 253 = .ok (.iload 5, 2) := by decide +kernel
theorem d4_255 : decode prog_315_method_2_code 255 = .ok (.iadd, 1) := by decide +kernel
theorem d4_256 : decode prog_315_method_2_code 256 = .ok (.iload_n 2, 1) := by decide +kernel
theorem d4_257 : decode prog_315_method_2_code 257 = .ok (.if_icmp .le 5, 3) := by decide +kernel
theorem d4_260 : decode prog_315_method_2_code 260 = .ok (.iload_n 3, 1) := by decide +kernel
theorem d4_261 : decode prog_315_method_2_code 261 = .ok (.ireturn, 1) := by decide +kernel
theorem d4_262 : decode prog_315_method_2_code 262 = .ok (.aload_n 0, 1) := by decide +kernel
theorem d4_263 : decode prog_315_method_2_code 263 = .ok (.iload_n 3, 1) := by decide +kernel
theorem d4_264 : decode prog_315_method_2_code 264 = .ok (.iconst 1, 1) := by decide +kernel
theorem d4_265 : decode prog_315_method_2_code 265 = .ok (.iadd, 1) := by decide +kernel
theorem d4_266 : decode prog_315_method_2_code 266 = .ok (.baload, 1) := by decide +kernel
theorem d4_267 : decode prog_315_method_2_code 267 = .ok (.sipush 255, 3) := by decide +kernel
theorem d4_270 : decode prog_315_method_2_code 270 = .ok (.iand, 1) := by decide +kernel
theorem d4_271 : decode prog_315_method_2_code 271 = .ok (.istore 8, 2) := by decide +kernel
theorem d4_273 : decode prog_315_method_2_code 273 = .ok (.iload 8, 2) := by decide +kernel
theorem d4_275 : decode prog_315_method_2_code 275 = .ok (.iload 6, 2) := by decide +kernel
theorem d4_277 : decode prog_315_method_2_code 277 = .ok (.if_icmp .lt 10, 3) := by decide +kernel
theorem d4_287 : decode prog_315_method_2_code 287 = .ok (.iload_n 3, 1) := by decide +kernel
theorem d4_288 : decode prog_315_method_2_code 288 = .ok (.ireturn, 1) := by decide +kernel
theorem d4_280 : decode prog_315_method_2_code 280 = .ok (.iload 8, 2) := by decide +kernel
theorem d4_282 : decode prog_315_method_2_code 282 = .ok (.iload 7, 2) := by decide +kernel
theorem d4_284 : decode prog_315_method_2_code 284 = .ok (.if_icmp .le 5, 3) := by decide +kernel
theorem d4_289 : decode prog_315_method_2_code 289 = .ok (.iconst 2, 1) := by decide +kernel
theorem d4_290 : decode prog_315_method_2_code 290 = .ok (.istore 9, 2) := by decide +kernel
theorem d4_292 : decode prog_315_method_2_code 292 = .ok (.iload 9, 2) := by decide +kernel
theorem d4_294 : decode prog_315_method_2_code 294 = .ok (.iload 5, 2) := by decide +kernel
theorem d4_296 : decode prog_315_method_2_code 296 = .ok (.if_icmp .ge 27, 3) := by decide +kernel
theorem d4_323 : decode prog_315_method_2_code 323 = .ok (.iload_n 3, 1) := by decide +kernel
theorem d4_324 : decode prog_315_method_2_code 324 = .ok (.iload 5, 2) := by decide +kernel
theorem d4_326 : decode prog_315_method_2_code 326 = .ok (.iadd, 1) := by decide +kernel
theorem d4_327 : decode prog_315_method_2_code 327 = .ok (.istore_n 3, 1) := by decide +kernel
theorem d4_328 : decode prog_315_method_2_code 328 = .ok (.goto (-326), 3) := by decide +kernel
set_option maxRecDepth 65536 in
set_option maxHeartbeats 40000000 in
theorem t252_2 {p : Program} {l : Launch} {e : Env} {R : Room} {s : State} {m : MethodId} {args : Array Value} {below : List Frame} {meth : Method} {c : Code} {T0 : State} {locs : List Loc} {cells slots : Nat} {Z : State} {h0 : Heap} {a1 : Addr} {p1 p2 : Int32} {us : List Int32} {ka : ClassId} {fs : List Frame}
    (X0 : Stand p l e R s m args below meth c T0 locs cells slots) (hx : p.tables.exec = Jvm.exec) (hZ : Z.Warmed39 s.vm) (hby : c.code = prog_315_method_2_code) (hret : meth.sig.returnType = some .int) (e0 : T0.heap = h0) (V1 : Arv Z h0 a1 ka .byte (24 : Int32) (us.map Value.int) (.int (0 : Int32))) (hto : own_sm p2) {i x4 lo hi nx : Int32} {s8 s9 : Slot} (hs8 : own_One s8) (hs9 : own_One s9) (hi0 : own_sm i)
    (hk : ¬ p2 < i + (2 : Int32) → ∀ t8 t9, own_One t8 → own_One t9 → own_HR e T0 m fs nx → Steps p.tables e below (T0.setTop (mkF m 2 #[.val (.ref a1), .val (.int p1), .val (.int p2), .val (.int (i + (2 : Int32))), .val (.int x4), .val (.int (2 : Int32)), .val (.int lo), .val (.int hi), t8, t9] [])) (T0.setFrames fs)) (hr : own_HR e T0 m fs (own_aft2 (own_B us) p2 nx i lo hi)) :
    Steps p.tables e below (T0.setTop (mkF m 252 #[.val (.ref a1), .val (.int p1), .val (.int p2), .val (.int i), .val (.int x4), .val (.int (2 : Int32)), .val (.int lo), .val (.int hi), s8, s9] [])) (T0.setFrames fs) := by
  unfold own_aft2 at hr
  show Steps p.tables e below (T0.setTop (mkF m 252 #[.val (.ref a1), .val (.int p1), .val (.int p2), .val (.int i), .val (.int x4), .val (.int (2 : Int32)), .val (.int lo), .val (.int hi), s8, s9] [])) _
  refine XS.iloadN X0.here hx rfl (hb hby d4_252) rfl ?_
  show Steps p.tables e below (T0.setTop (mkF m 253 #[.val (.ref a1), .val (.int p1), .val (.int p2), .val (.int i), .val (.int x4), .val (.int (2 : Int32)), .val (.int lo), .val (.int hi), s8, s9] [(.int i)])) _
  refine XS.iload X0.here hx rfl (hb hby d4_253) rfl ?_
  show Steps p.tables e below (T0.setTop (mkF m 255 #[.val (.ref a1), .val (.int p1), .val (.int p2), .val (.int i), .val (.int x4), .val (.int (2 : Int32)), .val (.int lo), .val (.int hi), s8, s9] [(.int (2 : Int32)), (.int i)])) _
  refine XS.iadd X0.here hx rfl (hb hby d4_255) rfl ?_
  show Steps p.tables e below (T0.setTop (mkF m 256 #[.val (.ref a1), .val (.int p1), .val (.int p2), .val (.int i), .val (.int x4), .val (.int (2 : Int32)), .val (.int lo), .val (.int hi), s8, s9] [(.int (i + (2 : Int32)))])) _
  refine XS.iloadN X0.here hx rfl (hb hby d4_256) rfl ?_
  by_cases ht : p2 < i + (2 : Int32)
  · rw [if_pos ht] at hr
    show Steps p.tables e below (T0.setTop (mkF m 257 #[.val (.ref a1), .val (.int p1), .val (.int p2), .val (.int i), .val (.int x4), .val (.int (2 : Int32)), .val (.int lo), .val (.int hi), s8, s9] [(.int p2), (.int (i + (2 : Int32)))])) _
    refine XS.icmpNo X0.here hx rfl (hb hby d4_257) rfl (tlt ht).2.2.2 ?_
    show Steps p.tables e below (T0.setTop (mkF m 260 #[.val (.ref a1), .val (.int p1), .val (.int p2), .val (.int i), .val (.int x4), .val (.int (2 : Int32)), .val (.int lo), .val (.int hi), s8, s9] [])) _
    refine XS.iloadN X0.here hx rfl (hb hby d4_260) rfl ?_
    show Steps p.tables e below (T0.setTop (mkF m 261 #[.val (.ref a1), .val (.int p1), .val (.int p2), .val (.int i), .val (.int x4), .val (.int (2 : Int32)), .val (.int lo), .val (.int hi), s8, s9] [(.int i)])) _
    exact retI X0 hx hret (hb hby d4_261) hr
  · rw [if_neg ht] at hr
    obtain ⟨c239, r239, q239, s239, n239, H239, G239⟩ := id V1
    have i239 : ¬ ((i + (1 : Int32)) < 0 ∨ c239.slots.size ≤ ((i + (1 : Int32))).toNatClampNeg) := inb_of s239 (own_ix 1 2 hi0 hto ht (by decide))
    have a239 : c239.slots[((i + (1 : Int32))).toNatClampNeg]? = some (.int (own_B us (i + (1 : Int32)))) := Has.at H239 i239 (own_get us _)
    show Steps p.tables e below (T0.setTop (mkF m 257 #[.val (.ref a1), .val (.int p1), .val (.int p2), .val (.int i), .val (.int x4), .val (.int (2 : Int32)), .val (.int lo), .val (.int hi), s8, s9] [(.int p2), (.int (i + (2 : Int32)))])) _
    refine XS.icmpYes X0.here hx rfl (pc0 := 257) (pc' := 262) rfl (hb hby d4_257) rfl (flt ht).2.2.2 (by decide) (by decide) ?_
    show Steps p.tables e below (T0.setTop (mkF m 262 #[.val (.ref a1), .val (.int p1), .val (.int p2), .val (.int i), .val (.int x4), .val (.int (2 : Int32)), .val (.int lo), .val (.int hi), s8, s9] [])) _
    refine XS.aloadN X0.here hx rfl (hb hby d4_262) rfl rfl ?_
    show Steps p.tables e below (T0.setTop (mkF m 263 #[.val (.ref a1), .val (.int p1), .val (.int p2), .val (.int i), .val (.int x4), .val (.int (2 : Int32)), .val (.int lo), .val (.int hi), s8, s9] [(.ref a1)])) _
    refine XS.iloadN X0.here hx rfl (hb hby d4_263) rfl ?_
    show Steps p.tables e below (T0.setTop (mkF m 264 #[.val (.ref a1), .val (.int p1), .val (.int p2), .val (.int i), .val (.int x4), .val (.int (2 : Int32)), .val (.int lo), .val (.int hi), s8, s9] [(.int i), (.ref a1)])) _
    refine XS.iconst X0.here hx rfl (hb hby d4_264) ?_
    show Steps p.tables e below (T0.setTop (mkF m 265 #[.val (.ref a1), .val (.int p1), .val (.int p2), .val (.int i), .val (.int x4), .val (.int (2 : Int32)), .val (.int lo), .val (.int hi), s8, s9] [(.int (1 : Int32)), (.int i), (.ref a1)])) _
    refine XS.iadd X0.here hx rfl (hb hby d4_265) rfl ?_
    show Steps p.tables e below (T0.setTop (mkF m 266 #[.val (.ref a1), .val (.int p1), .val (.int p2), .val (.int i), .val (.int x4), .val (.int (2 : Int32)), .val (.int lo), .val (.int hi), s8, s9] [(.int (i + (1 : Int32))), (.ref a1)])) _
    refine X0.baloadBytes hx (j := (i + (1 : Int32))) (v := (.int (own_B us (i + (1 : Int32))))) (by rw [e0]; exact r239.1) (State.isArrayOf_alike hZ.alike r239.2.1) r239.2.2 i239 a239 (g := (mkF m 266 #[.val (.ref a1), .val (.int p1), .val (.int p2), .val (.int i), .val (.int x4), .val (.int (2 : Int32)), .val (.int lo), .val (.int hi), s8, s9] [(.int (i + (1 : Int32))), (.ref a1)])) rfl rfl (hb hby d4_266) _ ?_
    show Steps p.tables e below (T0.setTop (mkF m 267 #[.val (.ref a1), .val (.int p1), .val (.int p2), .val (.int i), .val (.int x4), .val (.int (2 : Int32)), .val (.int lo), .val (.int hi), s8, s9] [(.int (own_B us (i + (1 : Int32))))])) _
    refine XS.sipush X0.here hx rfl (hb hby d4_267) ?_
    show Steps p.tables e below (T0.setTop (mkF m 270 #[.val (.ref a1), .val (.int p1), .val (.int p2), .val (.int i), .val (.int x4), .val (.int (2 : Int32)), .val (.int lo), .val (.int hi), s8, s9] [(.int (255 : Int32)), (.int (own_B us (i + (1 : Int32))))])) _
    refine XS.iand X0.here hx rfl (hb hby d4_270) rfl ?_
    show Steps p.tables e below (T0.setTop (mkF m 271 #[.val (.ref a1), .val (.int p1), .val (.int p2), .val (.int i), .val (.int x4), .val (.int (2 : Int32)), .val (.int lo), .val (.int hi), s8, s9] [(.int ((own_B us (i + (1 : Int32))) &&& (255 : Int32)))])) _
    refine XS.istore X0.here hx rfl (hb hby d4_271) rfl (l' := #[.val (.ref a1), .val (.int p1), .val (.int p2), .val (.int i), .val (.int x4), .val (.int (2 : Int32)), .val (.int lo), .val (.int hi), .val (.int ((own_B us (i + (1 : Int32))) &&& (255 : Int32))), s9]) (by rcases hs8 with q | ⟨_, q⟩ <;> subst q <;> rfl) ?_
    show Steps p.tables e below (T0.setTop (mkF m 273 #[.val (.ref a1), .val (.int p1), .val (.int p2), .val (.int i), .val (.int x4), .val (.int (2 : Int32)), .val (.int lo), .val (.int hi), .val (.int ((own_B us (i + (1 : Int32))) &&& (255 : Int32))), s9] [])) _
    refine XS.iload X0.here hx rfl (hb hby d4_273) rfl ?_
    show Steps p.tables e below (T0.setTop (mkF m 275 #[.val (.ref a1), .val (.int p1), .val (.int p2), .val (.int i), .val (.int x4), .val (.int (2 : Int32)), .val (.int lo), .val (.int hi), .val (.int ((own_B us (i + (1 : Int32))) &&& (255 : Int32))), s9] [(.int ((own_B us (i + (1 : Int32))) &&& (255 : Int32)))])) _
    refine XS.iload X0.here hx rfl (hb hby d4_275) rfl ?_
    by_cases h1 : (own_B us (i + (1 : Int32)) &&& (255 : Int32)) < lo
    · rw [if_pos h1] at hr
      show Steps p.tables e below (T0.setTop (mkF m 277 #[.val (.ref a1), .val (.int p1), .val (.int p2), .val (.int i), .val (.int x4), .val (.int (2 : Int32)), .val (.int lo), .val (.int hi), .val (.int ((own_B us (i + (1 : Int32))) &&& (255 : Int32))), s9] [(.int lo), (.int ((own_B us (i + (1 : Int32))) &&& (255 : Int32)))])) _
      refine XS.icmpYes X0.here hx rfl (pc0 := 277) (pc' := 287) rfl (hb hby d4_277) rfl (tlt h1).1 (by decide) (by decide) ?_
      show Steps p.tables e below (T0.setTop (mkF m 287 #[.val (.ref a1), .val (.int p1), .val (.int p2), .val (.int i), .val (.int x4), .val (.int (2 : Int32)), .val (.int lo), .val (.int hi), .val (.int ((own_B us (i + (1 : Int32))) &&& (255 : Int32))), s9] [])) _
      refine XS.iloadN X0.here hx rfl (hb hby d4_287) rfl ?_
      show Steps p.tables e below (T0.setTop (mkF m 288 #[.val (.ref a1), .val (.int p1), .val (.int p2), .val (.int i), .val (.int x4), .val (.int (2 : Int32)), .val (.int lo), .val (.int hi), .val (.int ((own_B us (i + (1 : Int32))) &&& (255 : Int32))), s9] [(.int i)])) _
      exact retI X0 hx hret (hb hby d4_288) hr
    · rw [if_neg h1] at hr
      show Steps p.tables e below (T0.setTop (mkF m 277 #[.val (.ref a1), .val (.int p1), .val (.int p2), .val (.int i), .val (.int x4), .val (.int (2 : Int32)), .val (.int lo), .val (.int hi), .val (.int ((own_B us (i + (1 : Int32))) &&& (255 : Int32))), s9] [(.int lo), (.int ((own_B us (i + (1 : Int32))) &&& (255 : Int32)))])) _
      refine XS.icmpNo X0.here hx rfl (hb hby d4_277) rfl (flt h1).1 ?_
      show Steps p.tables e below (T0.setTop (mkF m 280 #[.val (.ref a1), .val (.int p1), .val (.int p2), .val (.int i), .val (.int x4), .val (.int (2 : Int32)), .val (.int lo), .val (.int hi), .val (.int ((own_B us (i + (1 : Int32))) &&& (255 : Int32))), s9] [])) _
      refine XS.iload X0.here hx rfl (hb hby d4_280) rfl ?_
      show Steps p.tables e below (T0.setTop (mkF m 282 #[.val (.ref a1), .val (.int p1), .val (.int p2), .val (.int i), .val (.int x4), .val (.int (2 : Int32)), .val (.int lo), .val (.int hi), .val (.int ((own_B us (i + (1 : Int32))) &&& (255 : Int32))), s9] [(.int ((own_B us (i + (1 : Int32))) &&& (255 : Int32)))])) _
      refine XS.iload X0.here hx rfl (hb hby d4_282) rfl ?_
      by_cases h2 : hi < (own_B us (i + (1 : Int32)) &&& (255 : Int32))
      · rw [if_pos h2] at hr
        show Steps p.tables e below (T0.setTop (mkF m 284 #[.val (.ref a1), .val (.int p1), .val (.int p2), .val (.int i), .val (.int x4), .val (.int (2 : Int32)), .val (.int lo), .val (.int hi), .val (.int ((own_B us (i + (1 : Int32))) &&& (255 : Int32))), s9] [(.int hi), (.int ((own_B us (i + (1 : Int32))) &&& (255 : Int32)))])) _
        refine XS.icmpNo X0.here hx rfl (hb hby d4_284) rfl (tlt h2).2.2.2 ?_
        show Steps p.tables e below (T0.setTop (mkF m 287 #[.val (.ref a1), .val (.int p1), .val (.int p2), .val (.int i), .val (.int x4), .val (.int (2 : Int32)), .val (.int lo), .val (.int hi), .val (.int ((own_B us (i + (1 : Int32))) &&& (255 : Int32))), s9] [])) _
        refine XS.iloadN X0.here hx rfl (hb hby d4_287) rfl ?_
        show Steps p.tables e below (T0.setTop (mkF m 288 #[.val (.ref a1), .val (.int p1), .val (.int p2), .val (.int i), .val (.int x4), .val (.int (2 : Int32)), .val (.int lo), .val (.int hi), .val (.int ((own_B us (i + (1 : Int32))) &&& (255 : Int32))), s9] [(.int i)])) _
        exact retI X0 hx hret (hb hby d4_288) hr
      · rw [if_neg h2] at hr
        show Steps p.tables e below (T0.setTop (mkF m 284 #[.val (.ref a1), .val (.int p1), .val (.int p2), .val (.int i), .val (.int x4), .val (.int (2 : Int32)), .val (.int lo), .val (.int hi), .val (.int ((own_B us (i + (1 : Int32))) &&& (255 : Int32))), s9] [(.int hi), (.int ((own_B us (i + (1 : Int32))) &&& (255 : Int32)))])) _
        refine XS.icmpYes X0.here hx rfl (pc0 := 284) (pc' := 289) rfl (hb hby d4_284) rfl (flt h2).2.2.2 (by decide) (by decide) ?_
        show Steps p.tables e below (T0.setTop (mkF m 289 #[.val (.ref a1), .val (.int p1), .val (.int p2), .val (.int i), .val (.int x4), .val (.int (2 : Int32)), .val (.int lo), .val (.int hi), .val (.int ((own_B us (i + (1 : Int32))) &&& (255 : Int32))), s9] [])) _
        refine XS.iconst X0.here hx rfl (hb hby d4_289) ?_
        show Steps p.tables e below (T0.setTop (mkF m 290 #[.val (.ref a1), .val (.int p1), .val (.int p2), .val (.int i), .val (.int x4), .val (.int (2 : Int32)), .val (.int lo), .val (.int hi), .val (.int ((own_B us (i + (1 : Int32))) &&& (255 : Int32))), s9] [(.int (2 : Int32))])) _
        refine XS.istore X0.here hx rfl (hb hby d4_290) rfl (l' := #[.val (.ref a1), .val (.int p1), .val (.int p2), .val (.int i), .val (.int x4), .val (.int (2 : Int32)), .val (.int lo), .val (.int hi), .val (.int ((own_B us (i + (1 : Int32))) &&& (255 : Int32))), .val (.int (2 : Int32))]) (by rcases hs9 with q | ⟨_, q⟩ <;> subst q <;> rfl) ?_
        show Steps p.tables e below (T0.setTop (mkF m 292 #[.val (.ref a1), .val (.int p1), .val (.int p2), .val (.int i), .val (.int x4), .val (.int (2 : Int32)), .val (.int lo), .val (.int hi), .val (.int ((own_B us (i + (1 : Int32))) &&& (255 : Int32))), .val (.int (2 : Int32))] [])) _
        refine XS.iload X0.here hx rfl (hb hby d4_292) rfl ?_
        show Steps p.tables e below (T0.setTop (mkF m 294 #[.val (.ref a1), .val (.int p1), .val (.int p2), .val (.int i), .val (.int x4), .val (.int (2 : Int32)), .val (.int lo), .val (.int hi), .val (.int ((own_B us (i + (1 : Int32))) &&& (255 : Int32))), .val (.int (2 : Int32))] [(.int (2 : Int32))])) _
        refine XS.iload X0.here hx rfl (hb hby d4_294) rfl ?_
        show Steps p.tables e below (T0.setTop (mkF m 296 #[.val (.ref a1), .val (.int p1), .val (.int p2), .val (.int i), .val (.int x4), .val (.int (2 : Int32)), .val (.int lo), .val (.int hi), .val (.int ((own_B us (i + (1 : Int32))) &&& (255 : Int32))), .val (.int (2 : Int32))] [(.int (2 : Int32)), (.int (2 : Int32))])) _
        refine XS.icmpYes X0.here hx rfl (pc0 := 296) (pc' := 323) rfl (hb hby d4_296) rfl (flt (by decide)).2.1 (by decide) (by decide) ?_
        show Steps p.tables e below (T0.setTop (mkF m 323 #[.val (.ref a1), .val (.int p1), .val (.int p2), .val (.int i), .val (.int x4), .val (.int (2 : Int32)), .val (.int lo), .val (.int hi), .val (.int ((own_B us (i + (1 : Int32))) &&& (255 : Int32))), .val (.int (2 : Int32))] [])) _
        refine XS.iloadN X0.here hx rfl (hb hby d4_323) rfl ?_
        show Steps p.tables e below (T0.setTop (mkF m 324 #[.val (.ref a1), .val (.int p1), .val (.int p2), .val (.int i), .val (.int x4), .val (.int (2 : Int32)), .val (.int lo), .val (.int hi), .val (.int ((own_B us (i + (1 : Int32))) &&& (255 : Int32))), .val (.int (2 : Int32))] [(.int i)])) _
        refine XS.iload X0.here hx rfl (hb hby d4_324) rfl ?_
        show Steps p.tables e below (T0.setTop (mkF m 326 #[.val (.ref a1), .val (.int p1), .val (.int p2), .val (.int i), .val (.int x4), .val (.int (2 : Int32)), .val (.int lo), .val (.int hi), .val (.int ((own_B us (i + (1 : Int32))) &&& (255 : Int32))), .val (.int (2 : Int32))] [(.int (2 : Int32)), (.int i)])) _
        refine XS.iadd X0.here hx rfl (hb hby d4_326) rfl ?_
        show Steps p.tables e below (T0.setTop (mkF m 327 #[.val (.ref a1), .val (.int p1), .val (.int p2), .val (.int i), .val (.int x4), .val (.int (2 : Int32)), .val (.int lo), .val (.int hi), .val (.int ((own_B us (i + (1 : Int32))) &&& (255 : Int32))), .val (.int (2 : Int32))] [(.int (i + (2 : Int32)))])) _
        refine XS.istoreN X0.here hx rfl (hb hby d4_327) rfl (l' := #[.val (.ref a1), .val (.int p1), .val (.int p2), .val (.int (i + (2 : Int32))), .val (.int x4), .val (.int (2 : Int32)), .val (.int lo), .val (.int hi), .val (.int ((own_B us (i + (1 : Int32))) &&& (255 : Int32))), .val (.int (2 : Int32))]) rfl ?_
        show Steps p.tables e below (T0.setTop (mkF m 328 #[.val (.ref a1), .val (.int p1), .val (.int p2), .val (.int (i + (2 : Int32))), .val (.int x4), .val (.int (2 : Int32)), .val (.int lo), .val (.int hi), .val (.int ((own_B us (i + (1 : Int32))) &&& (255 : Int32))), .val (.int (2 : Int32))] [])) _
        refine XS.goto X0.here hx rfl (pc0 := 328) (pc' := 2) rfl (hb hby d4_328) (by decide) (by decide) ?_
        show Steps p.tables e below (T0.setTop (mkF m 2 #[.val (.ref a1), .val (.int p1), .val (.int p2), .val (.int (i + (2 : Int32))), .val (.int x4), .val (.int (2 : Int32)), .val (.int lo), .val (.int hi), .val (.int ((own_B us (i + (1 : Int32))) &&& (255 : Int32))), .val (.int (2 : Int32))] [])) _
        exact hk ht _ _ own_One.v own_One.v hr
theorem d4_299 : decode prog_315_method_2_code 299 = .ok (.aload_n 0, 1) := by decide +kernel
theorem d4_300 : decode prog_315_method_2_code 300 = .ok (.iload_n 3, 1) := by decide +kernel
theorem d4_301 : decode prog_315_method_2_code 301 = .ok (.iload 9, 2) := by decide +kernel
theorem d4_303 : decode prog_315_method_2_code 303 = .ok (.iadd, 1) := by decide +kernel
theorem d4_304 : decode prog_315_method_2_code 304 = .ok (.baload, 1) := by decide +kernel
theorem d4_305 : decode prog_315_method_2_code 305 = .ok (.sipush 192, 3) := by decide +kernel
theorem d4_308 : decode prog_315_method_2_code 308 = .ok (.iand, 1) := by decide +kernel
theorem d4_309 : decode prog_315_method_2_code 309 = .ok (.sipush 128, 3) := by decide +kernel
theorem d4_312 : decode prog_315_method_2_code 312 = .ok (.if_icmp .eq 5, 3) := by decide +kernel
theorem d4_315 : decode prog_315_method_2_code 315 = .ok (.iload_n 3, 1) := by decide +kernel
theorem d4_316 : decode prog_315_method_2_code 316 = .ok (.ireturn, 1) := by decide +kernel
theorem d4_317 : decode prog_315_method_2_code 317 = .ok (.iinc 9 1, 3) := by decide +kernel
theorem d4_320 : decode prog_315_method_2_code 320 = .ok (.goto (-28), 3) := by decide +kernel
set_option maxRecDepth 65536 in
set_option maxHeartbeats 40000000 in
theorem t252_3 {p : Program} {l : Launch} {e : Env} {R : Room} {s : State} {m : MethodId} {args : Array Value} {below : List Frame} {meth : Method} {c : Code} {T0 : State} {locs : List Loc} {cells slots : Nat} {Z : State} {h0 : Heap} {a1 : Addr} {p1 p2 : Int32} {us : List Int32} {ka : ClassId} {fs : List Frame}
    (X0 : Stand p l e R s m args below meth c T0 locs cells slots) (hx : p.tables.exec = Jvm.exec) (hZ : Z.Warmed39 s.vm) (hby : c.code = prog_315_method_2_code) (hret : meth.sig.returnType = some .int) (e0 : T0.heap = h0) (V1 : Arv Z h0 a1 ka .byte (24 : Int32) (us.map Value.int) (.int (0 : Int32))) (hto : own_sm p2) {i x4 lo hi nx : Int32} {s8 s9 : Slot} (hs8 : own_One s8) (hs9 : own_One s9) (hi0 : own_sm i)
    (hk : ¬ p2 < i + (3 : Int32) → ∀ t8 t9, own_One t8 → own_One t9 → own_HR e T0 m fs nx → Steps p.tables e below (T0.setTop (mkF m 2 #[.val (.ref a1), .val (.int p1), .val (.int p2), .val (.int (i + (3 : Int32))), .val (.int x4), .val (.int (3 : Int32)), .val (.int lo), .val (.int hi), t8, t9] [])) (T0.setFrames fs)) (hr : own_HR e T0 m fs (own_aft3 (own_B us) p2 nx i lo hi)) :
    Steps p.tables e below (T0.setTop (mkF m 252 #[.val (.ref a1), .val (.int p1), .val (.int p2), .val (.int i), .val (.int x4), .val (.int (3 : Int32)), .val (.int lo), .val (.int hi), s8, s9] [])) (T0.setFrames fs) := by
  unfold own_aft3 at hr
  show Steps p.tables e below (T0.setTop (mkF m 252 #[.val (.ref a1), .val (.int p1), .val (.int p2), .val (.int i), .val (.int x4), .val (.int (3 : Int32)), .val (.int lo), .val (.int hi), s8, s9] [])) _
  refine XS.iloadN X0.here hx rfl (hb hby d4_252) rfl ?_
  show Steps p.tables e below (T0.setTop (mkF m 253 #[.val (.ref a1), .val (.int p1), .val (.int p2), .val (.int i), .val (.int x4), .val (.int (3 : Int32)), .val (.int lo), .val (.int hi), s8, s9] [(.int i)])) _
  refine XS.iload X0.here hx rfl (hb hby d4_253) rfl ?_
  show Steps p.tables e below (T0.setTop (mkF m 255 #[.val (.ref a1), .val (.int p1), .val (.int p2), .val (.int i), .val (.int x4), .val (.int (3 : Int32)), .val (.int lo), .val (.int hi), s8, s9] [(.int (3 : Int32)), (.int i)])) _
  refine XS.iadd X0.here hx rfl (hb hby d4_255) rfl ?_
  show Steps p.tables e below (T0.setTop (mkF m 256 #[.val (.ref a1), .val (.int p1), .val (.int p2), .val (.int i), .val (.int x4), .val (.int (3 : Int32)), .val (.int lo), .val (.int hi), s8, s9] [(.int (i + (3 : Int32)))])) _
  refine XS.iloadN X0.here hx rfl (hb hby d4_256) rfl ?_
  by_cases ht : p2 < i + (3 : Int32)
  · rw [if_pos ht] at hr
    show Steps p.tables e below (T0.setTop (mkF m 257 #[.val (.ref a1), .val (.int p1), .val (.int p2), .val (.int i), .val (.int x4), .val (.int (3 : Int32)), .val (.int lo), .val (.int hi), s8, s9] [(.int p2), (.int (i + (3 : Int32)))])) _
    refine XS.icmpNo X0.here hx rfl (hb hby d4_257) rfl (tlt ht).2.2.2 ?_
    show Steps p.tables e below (T0.setTop (mkF m 260 #[.val (.ref a1), .val (.int p1), .val (.int p2), .val (.int i), .val (.int x4), .val (.int (3 : Int32)), .val (.int lo), .val (.int hi), s8, s9] [])) _
    refine XS.iloadN X0.here hx rfl (hb hby d4_260) rfl ?_
    show Steps p.tables e below (T0.setTop (mkF m 261 #[.val (.ref a1), .val (.int p1), .val (.int p2), .val (.int i), .val (.int x4), .val (.int (3 : Int32)), .val (.int lo), .val (.int hi), s8, s9] [(.int i)])) _
    exact retI X0 hx hret (hb hby d4_261) hr
  · rw [if_neg ht] at hr
    obtain ⟨c240, r240, q240, s240, n240, H240, G240⟩ := id V1
    have i240 : ¬ ((i + (1 : Int32)) < 0 ∨ c240.slots.size ≤ ((i + (1 : Int32))).toNatClampNeg) := inb_of s240 (own_ix 1 3 hi0 hto ht (by decide))
    have a240 : c240.slots[((i + (1 : Int32))).toNatClampNeg]? = some (.int (own_B us (i + (1 : Int32)))) := Has.at H240 i240 (own_get us _)
    show Steps p.tables e below (T0.setTop (mkF m 257 #[.val (.ref a1), .val (.int p1), .val (.int p2), .val (.int i), .val (.int x4), .val (.int (3 : Int32)), .val (.int lo), .val (.int hi), s8, s9] [(.int p2), (.int (i + (3 : Int32)))])) _
    refine XS.icmpYes X0.here hx rfl (pc0 := 257) (pc' := 262) rfl (hb hby d4_257) rfl (flt ht).2.2.2 (by decide) (by decide) ?_
    show Steps p.tables e below (T0.setTop (mkF m 262 #[.val (.ref a1), .val (.int p1), .val (.int p2), .val (.int i), .val (.int x4), .val (.int (3 : Int32)), .val (.int lo), .val (.int hi), s8, s9] [])) _
    refine XS.aloadN X0.here hx rfl (hb hby d4_262) rfl rfl ?_
    show Steps p.tables e below (T0.setTop (mkF m 263 #[.val (.ref a1), .val (.int p1), .val (.int p2), .val (.int i), .val (.int x4), .val (.int (3 : Int32)), .val (.int lo), .val (.int hi), s8, s9] [(.ref a1)])) _
    refine XS.iloadN X0.here hx rfl (hb hby d4_263) rfl ?_
    show Steps p.tables e below (T0.setTop (mkF m 264 #[.val (.ref a1), .val (.int p1), .val (.int p2), .val (.int i), .val (.int x4), .val (.int (3 : Int32)), .val (.int lo), .val (.int hi), s8, s9] [(.int i), (.ref a1)])) _
    refine XS.iconst X0.here hx rfl (hb hby d4_264) ?_
    show Steps p.tables e below (T0.setTop (mkF m 265 #[.val (.ref a1), .val (.int p1), .val (.int p2), .val (.int i), .val (.int x4), .val (.int (3 : Int32)), .val (.int lo), .val (.int hi), s8, s9] [(.int (1 : Int32)), (.int i), (.ref a1)])) _
    refine XS.iadd X0.here hx rfl (hb hby d4_265) rfl ?_
    show Steps p.tables e below (T0.setTop (mkF m 266 #[.val (.ref a1), .val (.int p1), .val (.int p2), .val (.int i), .val (.int x4), .val (.int (3 : Int32)), .val (.int lo), .val (.int hi), s8, s9] [(.int (i + (1 : Int32))), (.ref a1)])) _
    refine X0.baloadBytes hx (j := (i + (1 : Int32))) (v := (.int (own_B us (i + (1 : Int32))))) (by rw [e0]; exact r240.1) (State.isArrayOf_alike hZ.alike r240.2.1) r240.2.2 i240 a240 (g := (mkF m 266 #[.val (.ref a1), .val (.int p1), .val (.int p2), .val (.int i), .val (.int x4), .val (.int (3 : Int32)), .val (.int lo), .val (.int hi), s8, s9] [(.int (i + (1 : Int32))), (.ref a1)])) rfl rfl (hb hby d4_266) _ ?_
    show Steps p.tables e below (T0.setTop (mkF m 267 #[.val (.ref a1), .val (.int p1), .val (.int p2), .val (.int i), .val (.int x4), .val (.int (3 : Int32)), .val (.int lo), .val (.int hi), s8, s9] [(.int (own_B us (i + (1 : Int32))))])) _
    refine XS.sipush X0.here hx rfl (hb hby d4_267) ?_
    show Steps p.tables e below (T0.setTop (mkF m 270 #[.val (.ref a1), .val (.int p1), .val (.int p2), .val (.int i), .val (.int x4), .val (.int (3 : Int32)), .val (.int lo), .val (.int hi), s8, s9] [(.int (255 : Int32)), (.int (own_B us (i + (1 : Int32))))])) _
    refine XS.iand X0.here hx rfl (hb hby d4_270) rfl ?_
    show Steps p.tables e below (T0.setTop (mkF m 271 #[.val (.ref a1), .val (.int p1), .val (.int p2), .val (.int i), .val (.int x4), .val (.int (3 : Int32)), .val (.int lo), .val (.int hi), s8, s9] [(.int ((own_B us (i + (1 : Int32))) &&& (255 : Int32)))])) _
    refine XS.istore X0.here hx rfl (hb hby d4_271) rfl (l' := #[.val (.ref a1), .val (.int p1), .val (.int p2), .val (.int i), .val (.int x4), .val (.int (3 : Int32)), .val (.int lo), .val (.int hi), .val (.int ((own_B us (i + (1 : Int32))) &&& (255 : Int32))), s9]) (by rcases hs8 with q | ⟨_, q⟩ <;> subst q <;> rfl) ?_
    show Steps p.tables e below (T0.setTop (mkF m 273 #[.val (.ref a1), .val (.int p1), .val (.int p2), .val (.int i), .val (.int x4), .val (.int (3 : Int32)), .val (.int lo), .val (.int hi), .val (.int ((own_B us (i + (1 : Int32))) &&& (255 : Int32))), s9] [])) _
    refine XS.iload X0.here hx rfl (hb hby d4_273) rfl ?_
    show Steps p.tables e below (T0.setTop (mkF m 275 #[.val (.ref a1), .val (.int p1), .val (.int p2), .val (.int i), .val (.int x4), .val (.int (3 : Int32)), .val (.int lo), .val (.int hi), .val (.int ((own_B us (i + (1 : Int32))) &&& (255 : Int32))), s9] [(.int ((own_B us (i + (1 : Int32))) &&& (255 : Int32)))])) _
    refine XS.iload X0.here hx rfl (hb hby d4_275) rfl ?_
    by_cases h1 : (own_B us (i + (1 : Int32)) &&& (255 : Int32)) < lo
    · rw [if_pos h1] at hr
      show Steps p.tables e below (T0.setTop (mkF m 277 #[.val (.ref a1), .val (.int p1), .val (.int p2), .val (.int i), .val (.int x4), .val (.int (3 : Int32)), .val (.int lo), .val (.int hi), .val (.int ((own_B us (i + (1 : Int32))) &&& (255 : Int32))), s9] [(.int lo), (.int ((own_B us (i + (1 : Int32))) &&& (255 : Int32)))])) _
      refine XS.icmpYes X0.here hx rfl (pc0 := 277) (pc' := 287) rfl (hb hby d4_277) rfl (tlt h1).1 (by decide) (by decide) ?_
      show Steps p.tables e below (T0.setTop (mkF m 287 #[.val (.ref a1), .val (.int p1), .val (.int p2), .val (.int i), .val (.int x4), .val (.int (3 : Int32)), .val (.int lo), .val (.int hi), .val (.int ((own_B us (i + (1 : Int32))) &&& (255 : Int32))), s9] [])) _
      refine XS.iloadN X0.here hx rfl (hb hby d4_287) rfl ?_
      show Steps p.tables e below (T0.setTop (mkF m 288 #[.val (.ref a1), .val (.int p1), .val (.int p2), .val (.int i), .val (.int x4), .val (.int (3 : Int32)), .val (.int lo), .val (.int hi), .val (.int ((own_B us (i + (1 : Int32))) &&& (255 : Int32))), s9] [(.int i)])) _
      exact retI X0 hx hret (hb hby d4_288) hr
    · rw [if_neg h1] at hr
      show Steps p.tables e below (T0.setTop (mkF m 277 #[.val (.ref a1), .val (.int p1), .val (.int p2), .val (.int i), .val (.int x4), .val (.int (3 : Int32)), .val (.int lo), .val (.int hi), .val (.int ((own_B us (i + (1 : Int32))) &&& (255 : Int32))), s9] [(.int lo), (.int ((own_B us (i + (1 : Int32))) &&& (255 : Int32)))])) _
      refine XS.icmpNo X0.here hx rfl (hb hby d4_277) rfl (flt h1).1 ?_
      show Steps p.tables e below (T0.setTop (mkF m 280 #[.val (.ref a1), .val (.int p1), .val (.int p2), .val (.int i), .val (.int x4), .val (.int (3 : Int32)), .val (.int lo), .val (.int hi), .val (.int ((own_B us (i + (1 : Int32))) &&& (255 : Int32))), s9] [])) _
      refine XS.iload X0.here hx rfl (hb hby d4_280) rfl ?_
      show Steps p.tables e below (T0.setTop (mkF m 282 #[.val (.ref a1), .val (.int p1), .val (.int p2), .val (.int i), .val (.int x4), .val (.int (3 : Int32)), .val (.int lo), .val (.int hi), .val (.int ((own_B us (i + (1 : Int32))) &&& (255 : Int32))), s9] [(.int ((own_B us (i + (1 : Int32))) &&& (255 : Int32)))])) _
      refine XS.iload X0.here hx rfl (hb hby d4_282) rfl ?_
      by_cases h2 : hi < (own_B us (i + (1 : Int32)) &&& (255 : Int32))
      · rw [if_pos h2] at hr
        show Steps p.tables e below (T0.setTop (mkF m 284 #[.val (.ref a1), .val (.int p1), .val (.int p2), .val (.int i), .val (.int x4), .val (.int (3 : Int32)), .val (.int lo), .val (.int hi), .val (.int ((own_B us (i + (1 : Int32))) &&& (255 : Int32))), s9] [(.int hi), (.int ((own_B us (i + (1 : Int32))) &&& (255 : Int32)))])) _
        refine XS.icmpNo X0.here hx rfl (hb hby d4_284) rfl (tlt h2).2.2.2 ?_
        show Steps p.tables e below (T0.setTop (mkF m 287 #[.val (.ref a1), .val (.int p1), .val (.int p2), .val (.int i), .val (.int x4), .val (.int (3 : Int32)), .val (.int lo), .val (.int hi), .val (.int ((own_B us (i + (1 : Int32))) &&& (255 : Int32))), s9] [])) _
        refine XS.iloadN X0.here hx rfl (hb hby d4_287) rfl ?_
        show Steps p.tables e below (T0.setTop (mkF m 288 #[.val (.ref a1), .val (.int p1), .val (.int p2), .val (.int i), .val (.int x4), .val (.int (3 : Int32)), .val (.int lo), .val (.int hi), .val (.int ((own_B us (i + (1 : Int32))) &&& (255 : Int32))), s9] [(.int i)])) _
        exact retI X0 hx hret (hb hby d4_288) hr
      · rw [if_neg h2] at hr
        show Steps p.tables e below (T0.setTop (mkF m 284 #[.val (.ref a1), .val (.int p1), .val (.int p2), .val (.int i), .val (.int x4), .val (.int (3 : Int32)), .val (.int lo), .val (.int hi), .val (.int ((own_B us (i + (1 : Int32))) &&& (255 : Int32))), s9] [(.int hi), (.int ((own_B us (i + (1 : Int32))) &&& (255 : Int32)))])) _
        refine XS.icmpYes X0.here hx rfl (pc0 := 284) (pc' := 289) rfl (hb hby d4_284) rfl (flt h2).2.2.2 (by decide) (by decide) ?_
        show Steps p.tables e below (T0.setTop (mkF m 289 #[.val (.ref a1), .val (.int p1), .val (.int p2), .val (.int i), .val (.int x4), .val (.int (3 : Int32)), .val (.int lo), .val (.int hi), .val (.int ((own_B us (i + (1 : Int32))) &&& (255 : Int32))), s9] [])) _
        refine XS.iconst X0.here hx rfl (hb hby d4_289) ?_
        show Steps p.tables e below (T0.setTop (mkF m 290 #[.val (.ref a1), .val (.int p1), .val (.int p2), .val (.int i), .val (.int x4), .val (.int (3 : Int32)), .val (.int lo), .val (.int hi), .val (.int ((own_B us (i + (1 : Int32))) &&& (255 : Int32))), s9] [(.int (2 : Int32))])) _
        refine XS.istore X0.here hx rfl (hb hby d4_290) rfl (l' := #[.val (.ref a1), .val (.int p1), .val (.int p2), .val (.int i), .val (.int x4), .val (.int (3 : Int32)), .val (.int lo), .val (.int hi), .val (.int ((own_B us (i + (1 : Int32))) &&& (255 : Int32))), .val (.int (2 : Int32))]) (by rcases hs9 with q | ⟨_, q⟩ <;> subst q <;> rfl) ?_
        show Steps p.tables e below (T0.setTop (mkF m 292 #[.val (.ref a1), .val (.int p1), .val (.int p2), .val (.int i), .val (.int x4), .val (.int (3 : Int32)), .val (.int lo), .val (.int hi), .val (.int ((own_B us (i + (1 : Int32))) &&& (255 : Int32))), .val (.int (2 : Int32))] [])) _
        refine XS.iload X0.here hx rfl (hb hby d4_292) rfl ?_
        show Steps p.tables e below (T0.setTop (mkF m 294 #[.val (.ref a1), .val (.int p1), .val (.int p2), .val (.int i), .val (.int x4), .val (.int (3 : Int32)), .val (.int lo), .val (.int hi), .val (.int ((own_B us (i + (1 : Int32))) &&& (255 : Int32))), .val (.int (2 : Int32))] [(.int (2 : Int32))])) _
        refine XS.iload X0.here hx rfl (hb hby d4_294) rfl ?_
        obtain ⟨c241, r241, q241, s241, n241, H241, G241⟩ := id V1
        have i241 : ¬ ((i + (2 : Int32)) < 0 ∨ c241.slots.size ≤ ((i + (2 : Int32))).toNatClampNeg) := inb_of s241 (own_ix 2 3 hi0 hto ht (by decide))
        have a241 : c241.slots[((i + (2 : Int32))).toNatClampNeg]? = some (.int (own_B us (i + (2 : Int32)))) := Has.at H241 i241 (own_get us _)
        show Steps p.tables e below (T0.setTop (mkF m 296 #[.val (.ref a1), .val (.int p1), .val (.int p2), .val (.int i), .val (.int x4), .val (.int (3 : Int32)), .val (.int lo), .val (.int hi), .val (.int ((own_B us (i + (1 : Int32))) &&& (255 : Int32))), .val (.int (2 : Int32))] [(.int (3 : Int32)), (.int (2 : Int32))])) _
        refine XS.icmpNo X0.here hx rfl (hb hby d4_296) rfl (tlt (by decide)).2.1 ?_
        show Steps p.tables e below (T0.setTop (mkF m 299 #[.val (.ref a1), .val (.int p1), .val (.int p2), .val (.int i), .val (.int x4), .val (.int (3 : Int32)), .val (.int lo), .val (.int hi), .val (.int ((own_B us (i + (1 : Int32))) &&& (255 : Int32))), .val (.int (2 : Int32))] [])) _
        refine XS.aloadN X0.here hx rfl (hb hby d4_299) rfl rfl ?_
        show Steps p.tables e below (T0.setTop (mkF m 300 #[.val (.ref a1), .val (.int p1), .val (.int p2), .val (.int i), .val (.int x4), .val (.int (3 : Int32)), .val (.int lo), .val (.int hi), .val (.int ((own_B us (i + (1 : Int32))) &&& (255 : Int32))), .val (.int (2 : Int32))] [(.ref a1)])) _
        refine XS.iloadN X0.here hx rfl (hb hby d4_300) rfl ?_
        show Steps p.tables e below (T0.setTop (mkF m 301 #[.val (.ref a1), .val (.int p1), .val (.int p2), .val (.int i), .val (.int x4), .val (.int (3 : Int32)), .val (.int lo), .val (.int hi), .val (.int ((own_B us (i + (1 : Int32))) &&& (255 : Int32))), .val (.int (2 : Int32))] [(.int i), (.ref a1)])) _
        refine XS.iload X0.here hx rfl (hb hby d4_301) rfl ?_
        show Steps p.tables e below (T0.setTop (mkF m 303 #[.val (.ref a1), .val (.int p1), .val (.int p2), .val (.int i), .val (.int x4), .val (.int (3 : Int32)), .val (.int lo), .val (.int hi), .val (.int ((own_B us (i + (1 : Int32))) &&& (255 : Int32))), .val (.int (2 : Int32))] [(.int (2 : Int32)), (.int i), (.ref a1)])) _
        refine XS.iadd X0.here hx rfl (hb hby d4_303) rfl ?_
        show Steps p.tables e below (T0.setTop (mkF m 304 #[.val (.ref a1), .val (.int p1), .val (.int p2), .val (.int i), .val (.int x4), .val (.int (3 : Int32)), .val (.int lo), .val (.int hi), .val (.int ((own_B us (i + (1 : Int32))) &&& (255 : Int32))), .val (.int (2 : Int32))] [(.int (i + (2 : Int32))), (.ref a1)])) _
        refine X0.baloadBytes hx (j := (i + (2 : Int32))) (v := (.int (own_B us (i + (2 : Int32))))) (by rw [e0]; exact r241.1) (State.isArrayOf_alike hZ.alike r241.2.1) r241.2.2 i241 a241 (g := (mkF m 304 #[.val (.ref a1), .val (.int p1), .val (.int p2), .val (.int i), .val (.int x4), .val (.int (3 : Int32)), .val (.int lo), .val (.int hi), .val (.int ((own_B us (i + (1 : Int32))) &&& (255 : Int32))), .val (.int (2 : Int32))] [(.int (i + (2 : Int32))), (.ref a1)])) rfl rfl (hb hby d4_304) _ ?_
        show Steps p.tables e below (T0.setTop (mkF m 305 #[.val (.ref a1), .val (.int p1), .val (.int p2), .val (.int i), .val (.int x4), .val (.int (3 : Int32)), .val (.int lo), .val (.int hi), .val (.int ((own_B us (i + (1 : Int32))) &&& (255 : Int32))), .val (.int (2 : Int32))] [(.int (own_B us (i + (2 : Int32))))])) _
        refine XS.sipush X0.here hx rfl (hb hby d4_305) ?_
        show Steps p.tables e below (T0.setTop (mkF m 308 #[.val (.ref a1), .val (.int p1), .val (.int p2), .val (.int i), .val (.int x4), .val (.int (3 : Int32)), .val (.int lo), .val (.int hi), .val (.int ((own_B us (i + (1 : Int32))) &&& (255 : Int32))), .val (.int (2 : Int32))] [(.int (192 : Int32)), (.int (own_B us (i + (2 : Int32))))])) _
        refine XS.iand X0.here hx rfl (hb hby d4_308) rfl ?_
        show Steps p.tables e below (T0.setTop (mkF m 309 #[.val (.ref a1), .val (.int p1), .val (.int p2), .val (.int i), .val (.int x4), .val (.int (3 : Int32)), .val (.int lo), .val (.int hi), .val (.int ((own_B us (i + (1 : Int32))) &&& (255 : Int32))), .val (.int (2 : Int32))] [(.int ((own_B us (i + (2 : Int32))) &&& (192 : Int32)))])) _
        refine XS.sipush X0.here hx rfl (hb hby d4_309) ?_
        by_cases hk2 : (own_B us (i + (2 : Int32)) &&& (192 : Int32)) = (128 : Int32)
        · rw [if_pos hk2] at hr
          show Steps p.tables e below (T0.setTop (mkF m 312 #[.val (.ref a1), .val (.int p1), .val (.int p2), .val (.int i), .val (.int x4), .val (.int (3 : Int32)), .val (.int lo), .val (.int hi), .val (.int ((own_B us (i + (1 : Int32))) &&& (255 : Int32))), .val (.int (2 : Int32))] [(.int (128 : Int32)), (.int ((own_B us (i + (2 : Int32))) &&& (192 : Int32)))])) _
          refine XS.icmpYes X0.here hx rfl (pc0 := 312) (pc' := 317) rfl (hb hby d4_312) rfl (teq hk2).1 (by decide) (by decide) ?_
          show Steps p.tables e below (T0.setTop (mkF m 317 #[.val (.ref a1), .val (.int p1), .val (.int p2), .val (.int i), .val (.int x4), .val (.int (3 : Int32)), .val (.int lo), .val (.int hi), .val (.int ((own_B us (i + (1 : Int32))) &&& (255 : Int32))), .val (.int (2 : Int32))] [])) _
          refine XS.iinc X0.here hx rfl (hb hby d4_317) rfl (l' := #[.val (.ref a1), .val (.int p1), .val (.int p2), .val (.int i), .val (.int x4), .val (.int (3 : Int32)), .val (.int lo), .val (.int hi), .val (.int ((own_B us (i + (1 : Int32))) &&& (255 : Int32))), .val (.int (3 : Int32))]) rfl ?_
          show Steps p.tables e below (T0.setTop (mkF m 320 #[.val (.ref a1), .val (.int p1), .val (.int p2), .val (.int i), .val (.int x4), .val (.int (3 : Int32)), .val (.int lo), .val (.int hi), .val (.int ((own_B us (i + (1 : Int32))) &&& (255 : Int32))), .val (.int (3 : Int32))] [])) _
          refine XS.goto X0.here hx rfl (pc0 := 320) (pc' := 292) rfl (hb hby d4_320) (by decide) (by decide) ?_
          show Steps p.tables e below (T0.setTop (mkF m 292 #[.val (.ref a1), .val (.int p1), .val (.int p2), .val (.int i), .val (.int x4), .val (.int (3 : Int32)), .val (.int lo), .val (.int hi), .val (.int ((own_B us (i + (1 : Int32))) &&& (255 : Int32))), .val (.int (3 : Int32))] [])) _
          refine XS.iload X0.here hx rfl (hb hby d4_292) rfl ?_
          show Steps p.tables e below (T0.setTop (mkF m 294 #[.val (.ref a1), .val (.int p1), .val (.int p2), .val (.int i), .val (.int x4), .val (.int (3 : Int32)), .val (.int lo), .val (.int hi), .val (.int ((own_B us (i + (1 : Int32))) &&& (255 : Int32))), .val (.int (3 : Int32))] [(.int (3 : Int32))])) _
          refine XS.iload X0.here hx rfl (hb hby d4_294) rfl ?_
          show Steps p.tables e below (T0.setTop (mkF m 296 #[.val (.ref a1), .val (.int p1), .val (.int p2), .val (.int i), .val (.int x4), .val (.int (3 : Int32)), .val (.int lo), .val (.int hi), .val (.int ((own_B us (i + (1 : Int32))) &&& (255 : Int32))), .val (.int (3 : Int32))] [(.int (3 : Int32)), (.int (3 : Int32))])) _
          refine XS.icmpYes X0.here hx rfl (pc0 := 296) (pc' := 323) rfl (hb hby d4_296) rfl (flt (by decide)).2.1 (by decide) (by decide) ?_
          show Steps p.tables e below (T0.setTop (mkF m 323 #[.val (.ref a1), .val (.int p1), .val (.int p2), .val (.int i), .val (.int x4), .val (.int (3 : Int32)), .val (.int lo), .val (.int hi), .val (.int ((own_B us (i + (1 : Int32))) &&& (255 : Int32))), .val (.int (3 : Int32))] [])) _
          refine XS.iloadN X0.here hx rfl (hb hby d4_323) rfl ?_
          show Steps p.tables e below (T0.setTop (mkF m 324 #[.val (.ref a1), .val (.int p1), .val (.int p2), .val (.int i), .val (.int x4), .val (.int (3 : Int32)), .val (.int lo), .val (.int hi), .val (.int ((own_B us (i + (1 : Int32))) &&& (255 : Int32))), .val (.int (3 : Int32))] [(.int i)])) _
          refine XS.iload X0.here hx rfl (hb hby d4_324) rfl ?_
          show Steps p.tables e below (T0.setTop (mkF m 326 #[.val (.ref a1), .val (.int p1), .val (.int p2), .val (.int i), .val (.int x4), .val (.int (3 : Int32)), .val (.int lo), .val (.int hi), .val (.int ((own_B us (i + (1 : Int32))) &&& (255 : Int32))), .val (.int (3 : Int32))] [(.int (3 : Int32)), (.int i)])) _
          refine XS.iadd X0.here hx rfl (hb hby d4_326) rfl ?_
          show Steps p.tables e below (T0.setTop (mkF m 327 #[.val (.ref a1), .val (.int p1), .val (.int p2), .val (.int i), .val (.int x4), .val (.int (3 : Int32)), .val (.int lo), .val (.int hi), .val (.int ((own_B us (i + (1 : Int32))) &&& (255 : Int32))), .val (.int (3 : Int32))] [(.int (i + (3 : Int32)))])) _
          refine XS.istoreN X0.here hx rfl (hb hby d4_327) rfl (l' := #[.val (.ref a1), .val (.int p1), .val (.int p2), .val (.int (i + (3 : Int32))), .val (.int x4), .val (.int (3 : Int32)), .val (.int lo), .val (.int hi), .val (.int ((own_B us (i + (1 : Int32))) &&& (255 : Int32))), .val (.int (3 : Int32))]) rfl ?_
          show Steps p.tables e below (T0.setTop (mkF m 328 #[.val (.ref a1), .val (.int p1), .val (.int p2), .val (.int (i + (3 : Int32))), .val (.int x4), .val (.int (3 : Int32)), .val (.int lo), .val (.int hi), .val (.int ((own_B us (i + (1 : Int32))) &&& (255 : Int32))), .val (.int (3 : Int32))] [])) _
          refine XS.goto X0.here hx rfl (pc0 := 328) (pc' := 2) rfl (hb hby d4_328) (by decide) (by decide) ?_
          show Steps p.tables e below (T0.setTop (mkF m 2 #[.val (.ref a1), .val (.int p1), .val (.int p2), .val (.int (i + (3 : Int32))), .val (.int x4), .val (.int (3 : Int32)), .val (.int lo), .val (.int hi), .val (.int ((own_B us (i + (1 : Int32))) &&& (255 : Int32))), .val (.int (3 : Int32))] [])) _
          exact hk ht _ _ own_One.v own_One.v hr
        · rw [if_neg hk2] at hr
          show Steps p.tables e below (T0.setTop (mkF m 312 #[.val (.ref a1), .val (.int p1), .val (.int p2), .val (.int i), .val (.int x4), .val (.int (3 : Int32)), .val (.int lo), .val (.int hi), .val (.int ((own_B us (i + (1 : Int32))) &&& (255 : Int32))), .val (.int (2 : Int32))] [(.int (128 : Int32)), (.int ((own_B us (i + (2 : Int32))) &&& (192 : Int32)))])) _
          refine XS.icmpNo X0.here hx rfl (hb hby d4_312) rfl (feq hk2).1 ?_
          show Steps p.tables e below (T0.setTop (mkF m 315 #[.val (.ref a1), .val (.int p1), .val (.int p2), .val (.int i), .val (.int x4), .val (.int (3 : Int32)), .val (.int lo), .val (.int hi), .val (.int ((own_B us (i + (1 : Int32))) &&& (255 : Int32))), .val (.int (2 : Int32))] [])) _
          refine XS.iloadN X0.here hx rfl (hb hby d4_315) rfl ?_
          show Steps p.tables e below (T0.setTop (mkF m 316 #[.val (.ref a1), .val (.int p1), .val (.int p2), .val (.int i), .val (.int x4), .val (.int (3 : Int32)), .val (.int lo), .val (.int hi), .val (.int ((own_B us (i + (1 : Int32))) &&& (255 : Int32))), .val (.int (2 : Int32))] [(.int i)])) _
          exact retI X0 hx hret (hb hby d4_316) hr
set_option maxRecDepth 65536 in
set_option maxHeartbeats 40000000 in
theorem t252_4 {p : Program} {l : Launch} {e : Env} {R : Room} {s : State} {m : MethodId} {args : Array Value} {below : List Frame} {meth : Method} {c : Code} {T0 : State} {locs : List Loc} {cells slots : Nat} {Z : State} {h0 : Heap} {a1 : Addr} {p1 p2 : Int32} {us : List Int32} {ka : ClassId} {fs : List Frame}
    (X0 : Stand p l e R s m args below meth c T0 locs cells slots) (hx : p.tables.exec = Jvm.exec) (hZ : Z.Warmed39 s.vm) (hby : c.code = prog_315_method_2_code) (hret : meth.sig.returnType = some .int) (e0 : T0.heap = h0) (V1 : Arv Z h0 a1 ka .byte (24 : Int32) (us.map Value.int) (.int (0 : Int32))) (hto : own_sm p2) {i x4 lo hi nx : Int32} {s8 s9 : Slot} (hs8 : own_One s8) (hs9 : own_One s9) (hi0 : own_sm i)
    (hk : ¬ p2 < i + (4 : Int32) → ∀ t8 t9, own_One t8 → own_One t9 → own_HR e T0 m fs nx → Steps p.tables e below (T0.setTop (mkF m 2 #[.val (.ref a1), .val (.int p1), .val (.int p2), .val (.int (i + (4 : Int32))), .val (.int x4), .val (.int (4 : Int32)), .val (.int lo), .val (.int hi), t8, t9] [])) (T0.setFrames fs)) (hr : own_HR e T0 m fs (own_aft4 (own_B us) p2 nx i lo hi)) :
    Steps p.tables e below (T0.setTop (mkF m 252 #[.val (.ref a1), .val (.int p1), .val (.int p2), .val (.int i), .val (.int x4), .val (.int (4 : Int32)), .val (.int lo), .val (.int hi), s8, s9] [])) (T0.setFrames fs) := by
  unfold own_aft4 at hr
  show Steps p.tables e below (T0.setTop (mkF m 252 #[.val (.ref a1), .val (.int p1), .val (.int p2), .val (.int i), .val (.int x4), .val (.int (4 : Int32)), .val (.int lo), .val (.int hi), s8, s9] [])) _
  refine XS.iloadN X0.here hx rfl (hb hby d4_252) rfl ?_
  show Steps p.tables e below (T0.setTop (mkF m 253 #[.val (.ref a1), .val (.int p1), .val (.int p2), .val (.int i), .val (.int x4), .val (.int (4 : Int32)), .val (.int lo), .val (.int hi), s8, s9] [(.int i)])) _
  refine XS.iload X0.here hx rfl (hb hby d4_253) rfl ?_
  show Steps p.tables e below (T0.setTop (mkF m 255 #[.val (.ref a1), .val (.int p1), .val (.int p2), .val (.int i), .val (.int x4), .val (.int (4 : Int32)), .val (.int lo), .val (.int hi), s8, s9] [(.int (4 : Int32)), (.int i)])) _
  refine XS.iadd X0.here hx rfl (hb hby d4_255) rfl ?_
  show Steps p.tables e below (T0.setTop (mkF m 256 #[.val (.ref a1), .val (.int p1), .val (.int p2), .val (.int i), .val (.int x4), .val (.int (4 : Int32)), .val (.int lo), .val (.int hi), s8, s9] [(.int (i + (4 : Int32)))])) _
  refine XS.iloadN X0.here hx rfl (hb hby d4_256) rfl ?_
  by_cases ht : p2 < i + (4 : Int32)
  · rw [if_pos ht] at hr
    show Steps p.tables e below (T0.setTop (mkF m 257 #[.val (.ref a1), .val (.int p1), .val (.int p2), .val (.int i), .val (.int x4), .val (.int (4 : Int32)), .val (.int lo), .val (.int hi), s8, s9] [(.int p2), (.int (i + (4 : Int32)))])) _
    refine XS.icmpNo X0.here hx rfl (hb hby d4_257) rfl (tlt ht).2.2.2 ?_
    show Steps p.tables e below (T0.setTop (mkF m 260 #[.val (.ref a1), .val (.int p1), .val (.int p2), .val (.int i), .val (.int x4), .val (.int (4 : Int32)), .val (.int lo), .val (.int hi), s8, s9] [])) _
    refine XS.iloadN X0.here hx rfl (hb hby d4_260) rfl ?_
    show Steps p.tables e below (T0.setTop (mkF m 261 #[.val (.ref a1), .val (.int p1), .val (.int p2), .val (.int i), .val (.int x4), .val (.int (4 : Int32)), .val (.int lo), .val (.int hi), s8, s9] [(.int i)])) _
    exact retI X0 hx hret (hb hby d4_261) hr
  · rw [if_neg ht] at hr
    obtain ⟨c242, r242, q242, s242, n242, H242, G242⟩ := id V1
    have i242 : ¬ ((i + (1 : Int32)) < 0 ∨ c242.slots.size ≤ ((i + (1 : Int32))).toNatClampNeg) := inb_of s242 (own_ix 1 4 hi0 hto ht (by decide))
    have a242 : c242.slots[((i + (1 : Int32))).toNatClampNeg]? = some (.int (own_B us (i + (1 : Int32)))) := Has.at H242 i242 (own_get us _)
    show Steps p.tables e below (T0.setTop (mkF m 257 #[.val (.ref a1), .val (.int p1), .val (.int p2), .val (.int i), .val (.int x4), .val (.int (4 : Int32)), .val (.int lo), .val (.int hi), s8, s9] [(.int p2), (.int (i + (4 : Int32)))])) _
    refine XS.icmpYes X0.here hx rfl (pc0 := 257) (pc' := 262) rfl (hb hby d4_257) rfl (flt ht).2.2.2 (by decide) (by decide) ?_
    show Steps p.tables e below (T0.setTop (mkF m 262 #[.val (.ref a1), .val (.int p1), .val (.int p2), .val (.int i), .val (.int x4), .val (.int (4 : Int32)), .val (.int lo), .val (.int hi), s8, s9] [])) _
    refine XS.aloadN X0.here hx rfl (hb hby d4_262) rfl rfl ?_
    show Steps p.tables e below (T0.setTop (mkF m 263 #[.val (.ref a1), .val (.int p1), .val (.int p2), .val (.int i), .val (.int x4), .val (.int (4 : Int32)), .val (.int lo), .val (.int hi), s8, s9] [(.ref a1)])) _
    refine XS.iloadN X0.here hx rfl (hb hby d4_263) rfl ?_
    show Steps p.tables e below (T0.setTop (mkF m 264 #[.val (.ref a1), .val (.int p1), .val (.int p2), .val (.int i), .val (.int x4), .val (.int (4 : Int32)), .val (.int lo), .val (.int hi), s8, s9] [(.int i), (.ref a1)])) _
    refine XS.iconst X0.here hx rfl (hb hby d4_264) ?_
    show Steps p.tables e below (T0.setTop (mkF m 265 #[.val (.ref a1), .val (.int p1), .val (.int p2), .val (.int i), .val (.int x4), .val (.int (4 : Int32)), .val (.int lo), .val (.int hi), s8, s9] [(.int (1 : Int32)), (.int i), (.ref a1)])) _
    refine XS.iadd X0.here hx rfl (hb hby d4_265) rfl ?_
    show Steps p.tables e below (T0.setTop (mkF m 266 #[.val (.ref a1), .val (.int p1), .val (.int p2), .val (.int i), .val (.int x4), .val (.int (4 : Int32)), .val (.int lo), .val (.int hi), s8, s9] [(.int (i + (1 : Int32))), (.ref a1)])) _
    refine X0.baloadBytes hx (j := (i + (1 : Int32))) (v := (.int (own_B us (i + (1 : Int32))))) (by rw [e0]; exact r242.1) (State.isArrayOf_alike hZ.alike r242.2.1) r242.2.2 i242 a242 (g := (mkF m 266 #[.val (.ref a1), .val (.int p1), .val (.int p2), .val (.int i), .val (.int x4), .val (.int (4 : Int32)), .val (.int lo), .val (.int hi), s8, s9] [(.int (i + (1 : Int32))), (.ref a1)])) rfl rfl (hb hby d4_266) _ ?_
    show Steps p.tables e below (T0.setTop (mkF m 267 #[.val (.ref a1), .val (.int p1), .val (.int p2), .val (.int i), .val (.int x4), .val (.int (4 : Int32)), .val (.int lo), .val (.int hi), s8, s9] [(.int (own_B us (i + (1 : Int32))))])) _
    refine XS.sipush X0.here hx rfl (hb hby d4_267) ?_
    show Steps p.tables e below (T0.setTop (mkF m 270 #[.val (.ref a1), .val (.int p1), .val (.int p2), .val (.int i), .val (.int x4), .val (.int (4 : Int32)), .val (.int lo), .val (.int hi), s8, s9] [(.int (255 : Int32)), (.int (own_B us (i + (1 : Int32))))])) _
    refine XS.iand X0.here hx rfl (hb hby d4_270) rfl ?_
    show Steps p.tables e below (T0.setTop (mkF m 271 #[.val (.ref a1), .val (.int p1), .val (.int p2), .val (.int i), .val (.int x4), .val (.int (4 : Int32)), .val (.int lo), .val (.int hi), s8, s9] [(.int ((own_B us (i + (1 : Int32))) &&& (255 : Int32)))])) _
    refine XS.istore X0.here hx rfl (hb hby d4_271) rfl (l' := #[.val (.ref a1), .val (.int p1), .val (.int p2), .val (.int i), .val (.int x4), .val (.int (4 : Int32)), .val (.int lo), .val (.int hi), .val (.int ((own_B us (i + (1 : Int32))) &&& (255 : Int32))), s9]) (by rcases hs8 with q | ⟨_, q⟩ <;> subst q <;> rfl) ?_
    show Steps p.tables e below (T0.setTop (mkF m 273 #[.val (.ref a1), .val (.int p1), .val (.int p2), .val (.int i), .val (.int x4), .val (.int (4 : Int32)), .val (.int lo), .val (.int hi), .val (.int ((own_B us (i + (1 : Int32))) &&& (255 : Int32))), s9] [])) _
    refine XS.iload X0.here hx rfl (hb hby d4_273) rfl ?_
    show Steps p.tables e below (T0.setTop (mkF m 275 #[.val (.ref a1), .val (.int p1), .val (.int p2), .val (.int i), .val (.int x4), .val (.int (4 : Int32)), .val (.int lo), .val (.int hi), .val (.int ((own_B us (i + (1 : Int32))) &&& (255 : Int32))), s9] [(.int ((own_B us (i + (1 : Int32))) &&& (255 : Int32)))])) _
    refine XS.iload X0.here hx rfl (hb hby d4_275) rfl ?_
    by_cases h1 : (own_B us (i + (1 : Int32)) &&& (255 : Int32)) < lo
    · rw [if_pos h1] at hr
      show Steps p.tables e below (T0.setTop (mkF m 277 #[.val (.ref a1), .val (.int p1), .val (.int p2), .val (.int i), .val (.int x4), .val (.int (4 : Int32)), .val (.int lo), .val (.int hi), .val (.int ((own_B us (i + (1 : Int32))) &&& (255 : Int32))), s9] [(.int lo), (.int ((own_B us (i + (1 : Int32))) &&& (255 : Int32)))])) _
      refine XS.icmpYes X0.here hx rfl (pc0 := 277) (pc' := 287) rfl (hb hby d4_277) rfl (tlt h1).1 (by decide) (by decide) ?_
      show Steps p.tables e below (T0.setTop (mkF m 287 #[.val (.ref a1), .val (.int p1), .val (.int p2), .val (.int i), .val (.int x4), .val (.int (4 : Int32)), .val (.int lo), .val (.int hi), .val (.int ((own_B us (i + (1 : Int32))) &&& (255 : Int32))), s9] [])) _
      refine XS.iloadN X0.here hx rfl (hb hby d4_287) rfl ?_
      show Steps p.tables e below (T0.setTop (mkF m 288 #[.val (.ref a1), .val (.int p1), .val (.int p2), .val (.int i), .val (.int x4), .val (.int (4 : Int32)), .val (.int lo), .val (.int hi), .val (.int ((own_B us (i + (1 : Int32))) &&& (255 : Int32))), s9] [(.int i)])) _
      exact retI X0 hx hret (hb hby d4_288) hr
    · rw [if_neg h1] at hr
      show Steps p.tables e below (T0.setTop (mkF m 277 #[.val (.ref a1), .val (.int p1), .val (.int p2), .val (.int i), .val (.int x4), .val (.int (4 : Int32)), .val (.int lo), .val (.int hi), .val (.int ((own_B us (i + (1 : Int32))) &&& (255 : Int32))), s9] [(.int lo), (.int ((own_B us (i + (1 : Int32))) &&& (255 : Int32)))])) _
      refine XS.icmpNo X0.here hx rfl (hb hby d4_277) rfl (flt h1).1 ?_
      show Steps p.tables e below (T0.setTop (mkF m 280 #[.val (.ref a1), .val (.int p1), .val (.int p2), .val (.int i), .val (.int x4), .val (.int (4 : Int32)), .val (.int lo), .val (.int hi), .val (.int ((own_B us (i + (1 : Int32))) &&& (255 : Int32))), s9] [])) _
      refine XS.iload X0.here hx rfl (hb hby d4_280) rfl ?_
      show Steps p.tables e below (T0.setTop (mkF m 282 #[.val (.ref a1), .val (.int p1), .val (.int p2), .val (.int i), .val (.int x4), .val (.int (4 : Int32)), .val (.int lo), .val (.int hi), .val (.int ((own_B us (i + (1 : Int32))) &&& (255 : Int32))), s9] [(.int ((own_B us (i + (1 : Int32))) &&& (255 : Int32)))])) _
      refine XS.iload X0.here hx rfl (hb hby d4_282) rfl ?_
      by_cases h2 : hi < (own_B us (i + (1 : Int32)) &&& (255 : Int32))
      · rw [if_pos h2] at hr
        show Steps p.tables e below (T0.setTop (mkF m 284 #[.val (.ref a1), .val (.int p1), .val (.int p2), .val (.int i), .val (.int x4), .val (.int (4 : Int32)), .val (.int lo), .val (.int hi), .val (.int ((own_B us (i + (1 : Int32))) &&& (255 : Int32))), s9] [(.int hi), (.int ((own_B us (i + (1 : Int32))) &&& (255 : Int32)))])) _
        refine XS.icmpNo X0.here hx rfl (hb hby d4_284) rfl (tlt h2).2.2.2 ?_
        show Steps p.tables e below (T0.setTop (mkF m 287 #[.val (.ref a1), .val (.int p1), .val (.int p2), .val (.int i), .val (.int x4), .val (.int (4 : Int32)), .val (.int lo), .val (.int hi), .val (.int ((own_B us (i + (1 : Int32))) &&& (255 : Int32))), s9] [])) _
        refine XS.iloadN X0.here hx rfl (hb hby d4_287) rfl ?_
        show Steps p.tables e below (T0.setTop (mkF m 288 #[.val (.ref a1), .val (.int p1), .val (.int p2), .val (.int i), .val (.int x4), .val (.int (4 : Int32)), .val (.int lo), .val (.int hi), .val (.int ((own_B us (i + (1 : Int32))) &&& (255 : Int32))), s9] [(.int i)])) _
        exact retI X0 hx hret (hb hby d4_288) hr
      · rw [if_neg h2] at hr
        show Steps p.tables e below (T0.setTop (mkF m 284 #[.val (.ref a1), .val (.int p1), .val (.int p2), .val (.int i), .val (.int x4), .val (.int (4 : Int32)), .val (.int lo), .val (.int hi), .val (.int ((own_B us (i + (1 : Int32))) &&& (255 : Int32))), s9] [(.int hi), (.int ((own_B us (i + (1 : Int32))) &&& (255 : Int32)))])) _
        refine XS.icmpYes X0.here hx rfl (pc0 := 284) (pc' := 289) rfl (hb hby d4_284) rfl (flt h2).2.2.2 (by decide) (by decide) ?_
        show Steps p.tables e below (T0.setTop (mkF m 289 #[.val (.ref a1), .val (.int p1), .val (.int p2), .val (.int i), .val (.int x4), .val (.int (4 : Int32)), .val (.int lo), .val (.int hi), .val (.int ((own_B us (i + (1 : Int32))) &&& (255 : Int32))), s9] [])) _
        refine XS.iconst X0.here hx rfl (hb hby d4_289) ?_
        show Steps p.tables e below (T0.setTop (mkF m 290 #[.val (.ref a1), .val (.int p1), .val (.int p2), .val (.int i), .val (.int x4), .val (.int (4 : Int32)), .val (.int lo), .val (.int hi), .val (.int ((own_B us (i + (1 : Int32))) &&& (255 : Int32))), s9] [(.int (2 : Int32))])) _
        refine XS.istore X0.here hx rfl (hb hby d4_290) rfl (l' := #[.val (.ref a1), .val (.int p1), .val (.int p2), .val (.int i), .val (.int x4), .val (.int (4 : Int32)), .val (.int lo), .val (.int hi), .val (.int ((own_B us (i + (1 : Int32))) &&& (255 : Int32))), .val (.int (2 : Int32))]) (by rcases hs9 with q | ⟨_, q⟩ <;> subst q <;> rfl) ?_
        show Steps p.tables e below (T0.setTop (mkF m 292 #[.val (.ref a1), .val (.int p1), .val (.int p2), .val (.int i), .val (.int x4), .val (.int (4 : Int32)), .val (.int lo), .val (.int hi), .val (.int ((own_B us (i + (1 : Int32))) &&& (255 : Int32))), .val (.int (2 : Int32))] [])) _
        refine XS.iload X0.here hx rfl (hb hby d4_292) rfl ?_
        show Steps p.tables e below (T0.setTop (mkF m 294 #[.val (.ref a1), .val (.int p1), .val (.int p2), .val (.int i), .val (.int x4), .val (.int (4 : Int32)), .val (.int lo), .val (.int hi), .val (.int ((own_B us (i + (1 : Int32))) &&& (255 : Int32))), .val (.int (2 : Int32))] [(.int (2 : Int32))])) _
        refine XS.iload X0.here hx rfl (hb hby d4_294) rfl ?_
        obtain ⟨c243, r243, q243, s243, n243, H243, G243⟩ := id V1
        have i243 : ¬ ((i + (2 : Int32)) < 0 ∨ c243.slots.size ≤ ((i + (2 : Int32))).toNatClampNeg) := inb_of s243 (own_ix 2 4 hi0 hto ht (by decide))
        have a243 : c243.slots[((i + (2 : Int32))).toNatClampNeg]? = some (.int (own_B us (i + (2 : Int32)))) := Has.at H243 i243 (own_get us _)
        show Steps p.tables e below (T0.setTop (mkF m 296 #[.val (.ref a1), .val (.int p1), .val (.int p2), .val (.int i), .val (.int x4), .val (.int (4 : Int32)), .val (.int lo), .val (.int hi), .val (.int ((own_B us (i + (1 : Int32))) &&& (255 : Int32))), .val (.int (2 : Int32))] [(.int (4 : Int32)), (.int (2 : Int32))])) _
        refine XS.icmpNo X0.here hx rfl (hb hby d4_296) rfl (tlt (by decide)).2.1 ?_
        show Steps p.tables e below (T0.setTop (mkF m 299 #[.val (.ref a1), .val (.int p1), .val (.int p2), .val (.int i), .val (.int x4), .val (.int (4 : Int32)), .val (.int lo), .val (.int hi), .val (.int ((own_B us (i + (1 : Int32))) &&& (255 : Int32))), .val (.int (2 : Int32))] [])) _
        refine XS.aloadN X0.here hx rfl (hb hby d4_299) rfl rfl ?_
        show Steps p.tables e below (T0.setTop (mkF m 300 #[.val (.ref a1), .val (.int p1), .val (.int p2), .val (.int i), .val (.int x4), .val (.int (4 : Int32)), .val (.int lo), .val (.int hi), .val (.int ((own_B us (i + (1 : Int32))) &&& (255 : Int32))), .val (.int (2 : Int32))] [(.ref a1)])) _
        refine XS.iloadN X0.here hx rfl (hb hby d4_300) rfl ?_
        show Steps p.tables e below (T0.setTop (mkF m 301 #[.val (.ref a1), .val (.int p1), .val (.int p2), .val (.int i), .val (.int x4), .val (.int (4 : Int32)), .val (.int lo), .val (.int hi), .val (.int ((own_B us (i + (1 : Int32))) &&& (255 : Int32))), .val (.int (2 : Int32))] [(.int i), (.ref a1)])) _
        refine XS.iload X0.here hx rfl (hb hby d4_301) rfl ?_
        show Steps p.tables e below (T0.setTop (mkF m 303 #[.val (.ref a1), .val (.int p1), .val (.int p2), .val (.int i), .val (.int x4), .val (.int (4 : Int32)), .val (.int lo), .val (.int hi), .val (.int ((own_B us (i + (1 : Int32))) &&& (255 : Int32))), .val (.int (2 : Int32))] [(.int (2 : Int32)), (.int i), (.ref a1)])) _
        refine XS.iadd X0.here hx rfl (hb hby d4_303) rfl ?_
        show Steps p.tables e below (T0.setTop (mkF m 304 #[.val (.ref a1), .val (.int p1), .val (.int p2), .val (.int i), .val (.int x4), .val (.int (4 : Int32)), .val (.int lo), .val (.int hi), .val (.int ((own_B us (i + (1 : Int32))) &&& (255 : Int32))), .val (.int (2 : Int32))] [(.int (i + (2 : Int32))), (.ref a1)])) _
        refine X0.baloadBytes hx (j := (i + (2 : Int32))) (v := (.int (own_B us (i + (2 : Int32))))) (by rw [e0]; exact r243.1) (State.isArrayOf_alike hZ.alike r243.2.1) r243.2.2 i243 a243 (g := (mkF m 304 #[.val (.ref a1), .val (.int p1), .val (.int p2), .val (.int i), .val (.int x4), .val (.int (4 : Int32)), .val (.int lo), .val (.int hi), .val (.int ((own_B us (i + (1 : Int32))) &&& (255 : Int32))), .val (.int (2 : Int32))] [(.int (i + (2 : Int32))), (.ref a1)])) rfl rfl (hb hby d4_304) _ ?_
        show Steps p.tables e below (T0.setTop (mkF m 305 #[.val (.ref a1), .val (.int p1), .val (.int p2), .val (.int i), .val (.int x4), .val (.int (4 : Int32)), .val (.int lo), .val (.int hi), .val (.int ((own_B us (i + (1 : Int32))) &&& (255 : Int32))), .val (.int (2 : Int32))] [(.int (own_B us (i + (2 : Int32))))])) _
        refine XS.sipush X0.here hx rfl (hb hby d4_305) ?_
        show Steps p.tables e below (T0.setTop (mkF m 308 #[.val (.ref a1), .val (.int p1), .val (.int p2), .val (.int i), .val (.int x4), .val (.int (4 : Int32)), .val (.int lo), .val (.int hi), .val (.int ((own_B us (i + (1 : Int32))) &&& (255 : Int32))), .val (.int (2 : Int32))] [(.int (192 : Int32)), (.int (own_B us (i + (2 : Int32))))])) _
        refine XS.iand X0.here hx rfl (hb hby d4_308) rfl ?_
        show Steps p.tables e below (T0.setTop (mkF m 309 #[.val (.ref a1), .val (.int p1), .val (.int p2), .val (.int i), .val (.int x4), .val (.int (4 : Int32)), .val (.int lo), .val (.int hi), .val (.int ((own_B us (i + (1 : Int32))) &&& (255 : Int32))), .val (.int (2 : Int32))] [(.int ((own_B us (i + (2 : Int32))) &&& (192 : Int32)))])) _
        refine XS.sipush X0.here hx rfl (hb hby d4_309) ?_
        by_cases hk2 : (own_B us (i + (2 : Int32)) &&& (192 : Int32)) = (128 : Int32)
        · rw [if_pos hk2] at hr
          obtain ⟨c244, r244, q244, s244, n244, H244, G244⟩ := id V1
          have i244 : ¬ ((i + (3 : Int32)) < 0 ∨ c244.slots.size ≤ ((i + (3 : Int32))).toNatClampNeg) := inb_of s244 (own_ix 3 4 hi0 hto ht (by decide))
          have a244 : c244.slots[((i + (3 : Int32))).toNatClampNeg]? = some (.int (own_B us (i + (3 : Int32)))) := Has.at H244 i244 (own_get us _)
          show Steps p.tables e below (T0.setTop (mkF m 312 #[.val (.ref a1), .val (.int p1), .val (.int p2), .val (.int i), .val (.int x4), .val (.int (4 : Int32)), .val (.int lo), .val (.int hi), .val (.int ((own_B us (i + (1 : Int32))) &&& (255 : Int32))), .val (.int (2 : Int32))] [(.int (128 : Int32)), (.int ((own_B us (i + (2 : Int32))) &&& (192 : Int32)))])) _
          refine XS.icmpYes X0.here hx rfl (pc0 := 312) (pc' := 317) rfl (hb hby d4_312) rfl (teq hk2).1 (by decide) (by decide) ?_
          show Steps p.tables e below (T0.setTop (mkF m 317 #[.val (.ref a1), .val (.int p1), .val (.int p2), .val (.int i), .val (.int x4), .val (.int (4 : Int32)), .val (.int lo), .val (.int hi), .val (.int ((own_B us (i + (1 : Int32))) &&& (255 : Int32))), .val (.int (2 : Int32))] [])) _
          refine XS.iinc X0.here hx rfl (hb hby d4_317) rfl (l' := #[.val (.ref a1), .val (.int p1), .val (.int p2), .val (.int i), .val (.int x4), .val (.int (4 : Int32)), .val (.int lo), .val (.int hi), .val (.int ((own_B us (i + (1 : Int32))) &&& (255 : Int32))), .val (.int (3 : Int32))]) rfl ?_
          show Steps p.tables e below (T0.setTop (mkF m 320 #[.val (.ref a1), .val (.int p1), .val (.int p2), .val (.int i), .val (.int x4), .val (.int (4 : Int32)), .val (.int lo), .val (.int hi), .val (.int ((own_B us (i + (1 : Int32))) &&& (255 : Int32))), .val (.int (3 : Int32))] [])) _
          refine XS.goto X0.here hx rfl (pc0 := 320) (pc' := 292) rfl (hb hby d4_320) (by decide) (by decide) ?_
          show Steps p.tables e below (T0.setTop (mkF m 292 #[.val (.ref a1), .val (.int p1), .val (.int p2), .val (.int i), .val (.int x4), .val (.int (4 : Int32)), .val (.int lo), .val (.int hi), .val (.int ((own_B us (i + (1 : Int32))) &&& (255 : Int32))), .val (.int (3 : Int32))] [])) _
          refine XS.iload X0.here hx rfl (hb hby d4_292) rfl ?_
          show Steps p.tables e below (T0.setTop (mkF m 294 #[.val (.ref a1), .val (.int p1), .val (.int p2), .val (.int i), .val (.int x4), .val (.int (4 : Int32)), .val (.int lo), .val (.int hi), .val (.int ((own_B us (i + (1 : Int32))) &&& (255 : Int32))), .val (.int (3 : Int32))] [(.int (3 : Int32))])) _
          refine XS.iload X0.here hx rfl (hb hby d4_294) rfl ?_
          show Steps p.tables e below (T0.setTop (mkF m 296 #[.val (.ref a1), .val (.int p1), .val (.int p2), .val (.int i), .val (.int x4), .val (.int (4 : Int32)), .val (.int lo), .val (.int hi), .val (.int ((own_B us (i + (1 : Int32))) &&& (255 : Int32))), .val (.int (3 : Int32))] [(.int (4 : Int32)), (.int (3 : Int32))])) _
          refine XS.icmpNo X0.here hx rfl (hb hby d4_296) rfl (tlt (by decide)).2.1 ?_
          show Steps p.tables e below (T0.setTop (mkF m 299 #[.val (.ref a1), .val (.int p1), .val (.int p2), .val (.int i), .val (.int x4), .val (.int (4 : Int32)), .val (.int lo), .val (.int hi), .val (.int ((own_B us (i + (1 : Int32))) &&& (255 : Int32))), .val (.int (3 : Int32))] [])) _
          refine XS.aloadN X0.here hx rfl (hb hby d4_299) rfl rfl ?_
          show Steps p.tables e below (T0.setTop (mkF m 300 #[.val (.ref a1), .val (.int p1), .val (.int p2), .val (.int i), .val (.int x4), .val (.int (4 : Int32)), .val (.int lo), .val (.int hi), .val (.int ((own_B us (i + (1 : Int32))) &&& (255 : Int32))), .val (.int (3 : Int32))] [(.ref a1)])) _
          refine XS.iloadN X0.here hx rfl (hb hby d4_300) rfl ?_
          show Steps p.tables e below (T0.setTop (mkF m 301 #[.val (.ref a1), .val (.int p1), .val (.int p2), .val (.int i), .val (.int x4), .val (.int (4 : Int32)), .val (.int lo), .val (.int hi), .val (.int ((own_B us (i + (1 : Int32))) &&& (255 : Int32))), .val (.int (3 : Int32))] [(.int i), (.ref a1)])) _
          refine XS.iload X0.here hx rfl (hb hby d4_301) rfl ?_
          show Steps p.tables e below (T0.setTop (mkF m 303 #[.val (.ref a1), .val (.int p1), .val (.int p2), .val (.int i), .val (.int x4), .val (.int (4 : Int32)), .val (.int lo), .val (.int hi), .val (.int ((own_B us (i + (1 : Int32))) &&& (255 : Int32))), .val (.int (3 : Int32))] [(.int (3 : Int32)), (.int i), (.ref a1)])) _
          refine XS.iadd X0.here hx rfl (hb hby d4_303) rfl ?_
          show Steps p.tables e below (T0.setTop (mkF m 304 #[.val (.ref a1), .val (.int p1), .val (.int p2), .val (.int i), .val (.int x4), .val (.int (4 : Int32)), .val (.int lo), .val (.int hi), .val (.int ((own_B us (i + (1 : Int32))) &&& (255 : Int32))), .val (.int (3 : Int32))] [(.int (i + (3 : Int32))), (.ref a1)])) _
          refine X0.baloadBytes hx (j := (i + (3 : Int32))) (v := (.int (own_B us (i + (3 : Int32))))) (by rw [e0]; exact r244.1) (State.isArrayOf_alike hZ.alike r244.2.1) r244.2.2 i244 a244 (g := (mkF m 304 #[.val (.ref a1), .val (.int p1), .val (.int p2), .val (.int i), .val (.int x4), .val (.int (4 : Int32)), .val (.int lo), .val (.int hi), .val (.int ((own_B us (i + (1 : Int32))) &&& (255 : Int32))), .val (.int (3 : Int32))] [(.int (i + (3 : Int32))), (.ref a1)])) rfl rfl (hb hby d4_304) _ ?_
          show Steps p.tables e below (T0.setTop (mkF m 305 #[.val (.ref a1), .val (.int p1), .val (.int p2), .val (.int i), .val (.int x4), .val (.int (4 : Int32)), .val (.int lo), .val (.int hi), .val (.int ((own_B us (i + (1 : Int32))) &&& (255 : Int32))), .val (.int (3 : Int32))] [(.int (own_B us (i + (3 : Int32))))])) _
          refine XS.sipush X0.here hx rfl (hb hby d4_305) ?_
          show Steps p.tables e below (T0.setTop (mkF m 308 #[.val (.ref a1), .val (.int p1), .val (.int p2), .val (.int i), .val (.int x4), .val (.int (4 : Int32)), .val (.int lo), .val (.int hi), .val (.int ((own_B us (i + (1 : Int32))) &&& (255 : Int32))), .val (.int (3 : Int32))] [(.int (192 : Int32)), (.int (own_B us (i + (3 : Int32))))])) _
          refine XS.iand X0.here hx rfl (hb hby d4_308) rfl ?_
          show Steps p.tables e below (T0.setTop (mkF m 309 #[.val (.ref a1), .val (.int p1), .val (.int p2), .val (.int i), .val (.int x4), .val (.int (4 : Int32)), .val (.int lo), .val (.int hi), .val (.int ((own_B us (i + (1 : Int32))) &&& (255 : Int32))), .val (.int (3 : Int32))] [(.int ((own_B us (i + (3 : Int32))) &&& (192 : Int32)))])) _
          refine XS.sipush X0.here hx rfl (hb hby d4_309) ?_
          by_cases hk3 : (own_B us (i + (3 : Int32)) &&& (192 : Int32)) = (128 : Int32)
          · rw [if_pos hk3] at hr
            show Steps p.tables e below (T0.setTop (mkF m 312 #[.val (.ref a1), .val (.int p1), .val (.int p2), .val (.int i), .val (.int x4), .val (.int (4 : Int32)), .val (.int lo), .val (.int hi), .val (.int ((own_B us (i + (1 : Int32))) &&& (255 : Int32))), .val (.int (3 : Int32))] [(.int (128 : Int32)), (.int ((own_B us (i + (3 : Int32))) &&& (192 : Int32)))])) _
            refine XS.icmpYes X0.here hx rfl (pc0 := 312) (pc' := 317) rfl (hb hby d4_312) rfl (teq hk3).1 (by decide) (by decide) ?_
            show Steps p.tables e below (T0.setTop (mkF m 317 #[.val (.ref a1), .val (.int p1), .val (.int p2), .val (.int i), .val (.int x4), .val (.int (4 : Int32)), .val (.int lo), .val (.int hi), .val (.int ((own_B us (i + (1 : Int32))) &&& (255 : Int32))), .val (.int (3 : Int32))] [])) _
            refine XS.iinc X0.here hx rfl (hb hby d4_317) rfl (l' := #[.val (.ref a1), .val (.int p1), .val (.int p2), .val (.int i), .val (.int x4), .val (.int (4 : Int32)), .val (.int lo), .val (.int hi), .val (.int ((own_B us (i + (1 : Int32))) &&& (255 : Int32))), .val (.int (4 : Int32))]) rfl ?_
            show Steps p.tables e below (T0.setTop (mkF m 320 #[.val (.ref a1), .val (.int p1), .val (.int p2), .val (.int i), .val (.int x4), .val (.int (4 : Int32)), .val (.int lo), .val (.int hi), .val (.int ((own_B us (i + (1 : Int32))) &&& (255 : Int32))), .val (.int (4 : Int32))] [])) _
            refine XS.goto X0.here hx rfl (pc0 := 320) (pc' := 292) rfl (hb hby d4_320) (by decide) (by decide) ?_
            show Steps p.tables e below (T0.setTop (mkF m 292 #[.val (.ref a1), .val (.int p1), .val (.int p2), .val (.int i), .val (.int x4), .val (.int (4 : Int32)), .val (.int lo), .val (.int hi), .val (.int ((own_B us (i + (1 : Int32))) &&& (255 : Int32))), .val (.int (4 : Int32))] [])) _
            refine XS.iload X0.here hx rfl (hb hby d4_292) rfl ?_
            show Steps p.tables e below (T0.setTop (mkF m 294 #[.val (.ref a1), .val (.int p1), .val (.int p2), .val (.int i), .val (.int x4), .val (.int (4 : Int32)), .val (.int lo), .val (.int hi), .val (.int ((own_B us (i + (1 : Int32))) &&& (255 : Int32))), .val (.int (4 : Int32))] [(.int (4 : Int32))])) _
            refine XS.iload X0.here hx rfl (hb hby d4_294) rfl ?_
            show Steps p.tables e below (T0.setTop (mkF m 296 #[.val (.ref a1), .val (.int p1), .val (.int p2), .val (.int i), .val (.int x4), .val (.int (4 : Int32)), .val (.int lo), .val (.int hi), .val (.int ((own_B us (i + (1 : Int32))) &&& (255 : Int32))), .val (.int (4 : Int32))] [(.int (4 : Int32)), (.int (4 : Int32))])) _
            refine XS.icmpYes X0.here hx rfl (pc0 := 296) (pc' := 323) rfl (hb hby d4_296) rfl (flt (by decide)).2.1 (by decide) (by decide) ?_
            show Steps p.tables e below (T0.setTop (mkF m 323 #[.val (.ref a1), .val (.int p1), .val (.int p2), .val (.int i), .val (.int x4), .val (.int (4 : Int32)), .val (.int lo), .val (.int hi), .val (.int ((own_B us (i + (1 : Int32))) &&& (255 : Int32))), .val (.int (4 : Int32))] [])) _
            refine XS.iloadN X0.here hx rfl (hb hby d4_323) rfl ?_
            show Steps p.tables e below (T0.setTop (mkF m 324 #[.val (.ref a1), .val (.int p1), .val (.int p2), .val (.int i), .val (.int x4), .val (.int (4 : Int32)), .val (.int lo), .val (.int hi), .val (.int ((own_B us (i + (1 : Int32))) &&& (255 : Int32))), .val (.int (4 : Int32))] [(.int i)])) _
            refine XS.iload X0.here hx rfl (hb hby d4_324) rfl ?_
            show Steps p.tables e below (T0.setTop (mkF m 326 #[.val (.ref a1), .val (.int p1), .val (.int p2), .val (.int i), .val (.int x4), .val (.int (4 : Int32)), .val (.int lo), .val (.int hi), .val (.int ((own_B us (i + (1 : Int32))) &&& (255 : Int32))), .val (.int (4 : Int32))] [(.int (4 : Int32)), (.int i)])) _
            refine XS.iadd X0.here hx rfl (hb hby d4_326) rfl ?_
            show Steps p.tables e below (T0.setTop (mkF m 327 #[.val (.ref a1), .val (.int p1), .val (.int p2), .val (.int i), .val (.int x4), .val (.int (4 : Int32)), .val (.int lo), .val (.int hi), .val (.int ((own_B us (i + (1 : Int32))) &&& (255 : Int32))), .val (.int (4 : Int32))] [(.int (i + (4 : Int32)))])) _
            refine XS.istoreN X0.here hx rfl (hb hby d4_327) rfl (l' := #[.val (.ref a1), .val (.int p1), .val (.int p2), .val (.int (i + (4 : Int32))), .val (.int x4), .val (.int (4 : Int32)), .val (.int lo), .val (.int hi), .val (.int ((own_B us (i + (1 : Int32))) &&& (255 : Int32))), .val (.int (4 : Int32))]) rfl ?_
            show Steps p.tables e below (T0.setTop (mkF m 328 #[.val (.ref a1), .val (.int p1), .val (.int p2), .val (.int (i + (4 : Int32))), .val (.int x4), .val (.int (4 : Int32)), .val (.int lo), .val (.int hi), .val (.int ((own_B us (i + (1 : Int32))) &&& (255 : Int32))), .val (.int (4 : Int32))] [])) _
            refine XS.goto X0.here hx rfl (pc0 := 328) (pc' := 2) rfl (hb hby d4_328) (by decide) (by decide) ?_
            show Steps p.tables e below (T0.setTop (mkF m 2 #[.val (.ref a1), .val (.int p1), .val (.int p2), .val (.int (i + (4 : Int32))), .val (.int x4), .val (.int (4 : Int32)), .val (.int lo), .val (.int hi), .val (.int ((own_B us (i + (1 : Int32))) &&& (255 : Int32))), .val (.int (4 : Int32))] [])) _
            exact hk ht _ _ own_One.v own_One.v hr
          · rw [if_neg hk3] at hr
            show Steps p.tables e below (T0.setTop (mkF m 312 #[.val (.ref a1), .val (.int p1), .val (.int p2), .val (.int i), .val (.int x4), .val (.int (4 : Int32)), .val (.int lo), .val (.int hi), .val (.int ((own_B us (i + (1 : Int32))) &&& (255 : Int32))), .val (.int (3 : Int32))] [(.int (128 : Int32)), (.int ((own_B us (i + (3 : Int32))) &&& (192 : Int32)))])) _
            refine XS.icmpNo X0.here hx rfl (hb hby d4_312) rfl (feq hk3).1 ?_
            show Steps p.tables e below (T0.setTop (mkF m 315 #[.val (.ref a1), .val (.int p1), .val (.int p2), .val (.int i), .val (.int x4), .val (.int (4 : Int32)), .val (.int lo), .val (.int hi), .val (.int ((own_B us (i + (1 : Int32))) &&& (255 : Int32))), .val (.int (3 : Int32))] [])) _
            refine XS.iloadN X0.here hx rfl (hb hby d4_315) rfl ?_
            show Steps p.tables e below (T0.setTop (mkF m 316 #[.val (.ref a1), .val (.int p1), .val (.int p2), .val (.int i), .val (.int x4), .val (.int (4 : Int32)), .val (.int lo), .val (.int hi), .val (.int ((own_B us (i + (1 : Int32))) &&& (255 : Int32))), .val (.int (3 : Int32))] [(.int i)])) _
            exact retI X0 hx hret (hb hby d4_316) hr
        · rw [if_neg hk2] at hr
          show Steps p.tables e below (T0.setTop (mkF m 312 #[.val (.ref a1), .val (.int p1), .val (.int p2), .val (.int i), .val (.int x4), .val (.int (4 : Int32)), .val (.int lo), .val (.int hi), .val (.int ((own_B us (i + (1 : Int32))) &&& (255 : Int32))), .val (.int (2 : Int32))] [(.int (128 : Int32)), (.int ((own_B us (i + (2 : Int32))) &&& (192 : Int32)))])) _
          refine XS.icmpNo X0.here hx rfl (hb hby d4_312) rfl (feq hk2).1 ?_
          show Steps p.tables e below (T0.setTop (mkF m 315 #[.val (.ref a1), .val (.int p1), .val (.int p2), .val (.int i), .val (.int x4), .val (.int (4 : Int32)), .val (.int lo), .val (.int hi), .val (.int ((own_B us (i + (1 : Int32))) &&& (255 : Int32))), .val (.int (2 : Int32))] [])) _
          refine XS.iloadN X0.here hx rfl (hb hby d4_315) rfl ?_
          show Steps p.tables e below (T0.setTop (mkF m 316 #[.val (.ref a1), .val (.int p1), .val (.int p2), .val (.int i), .val (.int x4), .val (.int (4 : Int32)), .val (.int lo), .val (.int hi), .val (.int ((own_B us (i + (1 : Int32))) &&& (255 : Int32))), .val (.int (2 : Int32))] [(.int i)])) _
          exact retI X0 hx hret (hb hby d4_316) hr
theorem d4_192 : decode prog_315_method_2_code 192 = .ok (.iload 4, 2) := by decide +kernel
theorem d4_194 : decode prog_315_method_2_code 194 = .ok (.sipush 240, 3) := by decide +kernel
theorem d4_197 : decode prog_315_method_2_code 197 = .ok (.if_icmp .lt 53, 3) := by decide +kernel
theorem d4_200 : decode prog_315_method_2_code 200 = .ok (.iload 4, 2) := by decide +kernel
theorem d4_202 : decode prog_315_method_2_code 202 = .ok (.sipush 244, 3) := by decide +kernel
theorem d4_205 : decode prog_315_method_2_code 205 = .ok (.if_icmp .gt 45, 3) := by decide +kernel
theorem d4_250 : decode prog_315_method_2_code 250 = .ok (.iload_n 3, 1) := by decide +kernel
theorem d4_251 : decode prog_315_method_2_code 251 = .ok (.ireturn, 1) := by decide +kernel
theorem d4_208 : decode prog_315_method_2_code 208 = .ok (.iconst 4, 1) := by decide +kernel
theorem d4_209 : decode prog_315_method_2_code 209 = .ok (.istore 5, 2) := by decide +kernel
theorem d4_211 : decode prog_315_method_2_code 211 = .ok (.iload 4, 2) := by decide +kernel
theorem d4_213 : decode prog_315_method_2_code 213 = .ok (.sipush 240, 3) := by decide +kernel
theorem d4_216 : decode prog_315_method_2_code 216 = .ok (.if_icmp .ne 9, 3) := by decide +kernel
theorem d4_219 : decode prog_315_method_2_code 219 = .ok (.sipush 144, 3) := by decide +kernel
theorem d4_222 : decode prog_315_method_2_code 222 = .ok (.goto 5, 3) := by decide +kernel
theorem d4_225 : decode prog_315_method_2_code 225 = .ok (.iload 6, 2) := by decide +kernel
theorem d4_227 : decode prog_315_method_2_code 227 = .ok (.istore 6, 2) := by decide +kernel
theorem d4_229 : decode prog_315_method_2_code 229 = .ok (.iload 4, 2) := by decide +kernel
theorem d4_231 : decode prog_315_method_2_code 231 = .ok (.sipush 244, 3) := by decide +kernel
theorem d4_234 : decode prog_315_method_2_code 234 = .ok (.if_icmp .ne 9, 3) := by decide +kernel
theorem d4_237 : decode prog_315_method_2_code 237 = .ok (.sipush 143, 3) := by decide +kernel
theorem d4_240 : decode prog_315_method_2_code 240 = .ok (.goto 5, 3) := by decide +kernel
theorem d4_243 : decode prog_315_method_2_code 243 = .ok (.iload 7, 2) := by decide +kernel
theorem d4_245 : decode prog_315_method_2_code 245 = .ok (.istore 7, 2) := by decide +kernel
theorem d4_247 : decode prog_315_method_2_code 247 = .ok (.goto 5, 3) := by decide +kernel
set_option maxRecDepth 65536 in
set_option maxHeartbeats 40000000 in
theorem t192 {p : Program} {l : Launch} {e : Env} {R : Room} {s : State} {m : MethodId} {args : Array Value} {below : List Frame} {meth : Method} {c : Code} {T0 : State} {locs : List Loc} {cells slots : Nat} {Z : State} {h0 : Heap} {a1 : Addr} {p1 p2 : Int32} {us : List Int32} {ka : ClassId} {fs : List Frame}
    (X0 : Stand p l e R s m args below meth c T0 locs cells slots) (hx : p.tables.exec = Jvm.exec) (hZ : Z.Warmed39 s.vm) (hby : c.code = prog_315_method_2_code) (hret : meth.sig.returnType = some .int) (e0 : T0.heap = h0) (V1 : Arv Z h0 a1 ka .byte (24 : Int32) (us.map Value.int) (.int (0 : Int32))) (hto : own_sm p2) {i x4 : Int32} {nx : Int32 → Int32} {s5 s8 s9 : Slot} (hs5 : own_One s5) (hs8 : own_One s8) (hs9 : own_One s9) (hi0 : own_sm i)
    (hk : ∀ (j : Int32) (t5 t6 t7 t8 t9 : Slot), (j = i + (2 : Int32) ∨ j = i + (3 : Int32) ∨ j = i + (4 : Int32)) → ¬ p2 < j → own_One t5 → own_One t6 → own_One t7 → own_One t8 → own_One t9 → own_HR e T0 m fs (nx j) → Steps p.tables e below (T0.setTop (mkF m 2 #[.val (.ref a1), .val (.int p1), .val (.int p2), .val (.int j), .val (.int x4), t5, t6, t7, t8, t9] [])) (T0.setFrames fs)) (hr : own_HR e T0 m fs (if x4 < (240 : Int32) ∨ (244 : Int32) < x4 then i else own_aft4 (own_B us) p2 (nx (i + (4 : Int32))) i (if x4 = (240 : Int32) then (144 : Int32) else (128 : Int32)) (if x4 = (244 : Int32) then (143 : Int32) else (191 : Int32)))) :
    Steps p.tables e below (T0.setTop (mkF m 192 #[.val (.ref a1), .val (.int p1), .val (.int p2), .val (.int i), .val (.int x4), s5, .val (.int (128 : Int32)), .val (.int (191 : Int32)), s8, s9] [])) (T0.setFrames fs) := by
  show Steps p.tables e below (T0.setTop (mkF m 192 #[.val (.ref a1), .val (.int p1), .val (.int p2), .val (.int i), .val (.int x4), s5, .val (.int (128 : Int32)), .val (.int (191 : Int32)), s8, s9] [])) _
  refine XS.iload X0.here hx rfl (hb hby d4_192) rfl ?_
  show Steps p.tables e below (T0.setTop (mkF m 194 #[.val (.ref a1), .val (.int p1), .val (.int p2), .val (.int i), .val (.int x4), s5, .val (.int (128 : Int32)), .val (.int (191 : Int32)), s8, s9] [(.int x4)])) _
  refine XS.sipush X0.here hx rfl (hb hby d4_194) ?_
  by_cases h1 : x4 < (240 : Int32)
  · rw [if_pos (Or.inl h1)] at hr
    show Steps p.tables e below (T0.setTop (mkF m 197 #[.val (.ref a1), .val (.int p1), .val (.int p2), .val (.int i), .val (.int x4), s5, .val (.int (128 : Int32)), .val (.int (191 : Int32)), s8, s9] [(.int (240 : Int32)), (.int x4)])) _
    refine XS.icmpYes X0.here hx rfl (pc0 := 197) (pc' := 250) rfl (hb hby d4_197) rfl (tlt h1).1 (by decide) (by decide) ?_
    show Steps p.tables e below (T0.setTop (mkF m 250 #[.val (.ref a1), .val (.int p1), .val (.int p2), .val (.int i), .val (.int x4), s5, .val (.int (128 : Int32)), .val (.int (191 : Int32)), s8, s9] [])) _
    refine XS.iloadN X0.here hx rfl (hb hby d4_250) rfl ?_
    show Steps p.tables e below (T0.setTop (mkF m 251 #[.val (.ref a1), .val (.int p1), .val (.int p2), .val (.int i), .val (.int x4), s5, .val (.int (128 : Int32)), .val (.int (191 : Int32)), s8, s9] [(.int i)])) _
    exact retI X0 hx hret (hb hby d4_251) hr
  · skip
    show Steps p.tables e below (T0.setTop (mkF m 197 #[.val (.ref a1), .val (.int p1), .val (.int p2), .val (.int i), .val (.int x4), s5, .val (.int (128 : Int32)), .val (.int (191 : Int32)), s8, s9] [(.int (240 : Int32)), (.int x4)])) _
    refine XS.icmpNo X0.here hx rfl (hb hby d4_197) rfl (flt h1).1 ?_
    show Steps p.tables e below (T0.setTop (mkF m 200 #[.val (.ref a1), .val (.int p1), .val (.int p2), .val (.int i), .val (.int x4), s5, .val (.int (128 : Int32)), .val (.int (191 : Int32)), s8, s9] [])) _
    refine XS.iload X0.here hx rfl (hb hby d4_200) rfl ?_
    show Steps p.tables e below (T0.setTop (mkF m 202 #[.val (.ref a1), .val (.int p1), .val (.int p2), .val (.int i), .val (.int x4), s5, .val (.int (128 : Int32)), .val (.int (191 : Int32)), s8, s9] [(.int x4)])) _
    refine XS.sipush X0.here hx rfl (hb hby d4_202) ?_
    by_cases h2 : (244 : Int32) < x4
    · rw [if_pos (Or.inr h2)] at hr
      show Steps p.tables e below (T0.setTop (mkF m 205 #[.val (.ref a1), .val (.int p1), .val (.int p2), .val (.int i), .val (.int x4), s5, .val (.int (128 : Int32)), .val (.int (191 : Int32)), s8, s9] [(.int (244 : Int32)), (.int x4)])) _
      refine XS.icmpYes X0.here hx rfl (pc0 := 205) (pc' := 250) rfl (hb hby d4_205) rfl (tlt h2).2.2.1 (by decide) (by decide) ?_
      show Steps p.tables e below (T0.setTop (mkF m 250 #[.val (.ref a1), .val (.int p1), .val (.int p2), .val (.int i), .val (.int x4), s5, .val (.int (128 : Int32)), .val (.int (191 : Int32)), s8, s9] [])) _
      refine XS.iloadN X0.here hx rfl (hb hby d4_250) rfl ?_
      show Steps p.tables e below (T0.setTop (mkF m 251 #[.val (.ref a1), .val (.int p1), .val (.int p2), .val (.int i), .val (.int x4), s5, .val (.int (128 : Int32)), .val (.int (191 : Int32)), s8, s9] [(.int i)])) _
      exact retI X0 hx hret (hb hby d4_251) hr
    · rw [if_neg (fun z => z.elim h1 h2)] at hr
      obtain ⟨v246, hv246⟩ : ∃ v : Int32, v = if x4 = (240 : Int32) then (144 : Int32) else (128 : Int32) := ⟨_, rfl⟩
      obtain ⟨v248, hv248⟩ : ∃ v : Int32, v = if x4 = (244 : Int32) then (143 : Int32) else (191 : Int32) := ⟨_, rfl⟩
      rw [← hv246, ← hv248] at hr
      show Steps p.tables e below (T0.setTop (mkF m 205 #[.val (.ref a1), .val (.int p1), .val (.int p2), .val (.int i), .val (.int x4), s5, .val (.int (128 : Int32)), .val (.int (191 : Int32)), s8, s9] [(.int (244 : Int32)), (.int x4)])) _
      refine XS.icmpNo X0.here hx rfl (hb hby d4_205) rfl (flt h2).2.2.1 ?_
      show Steps p.tables e below (T0.setTop (mkF m 208 #[.val (.ref a1), .val (.int p1), .val (.int p2), .val (.int i), .val (.int x4), s5, .val (.int (128 : Int32)), .val (.int (191 : Int32)), s8, s9] [])) _
      refine XS.iconst X0.here hx rfl (hb hby d4_208) ?_
      show Steps p.tables e below (T0.setTop (mkF m 209 #[.val (.ref a1), .val (.int p1), .val (.int p2), .val (.int i), .val (.int x4), s5, .val (.int (128 : Int32)), .val (.int (191 : Int32)), s8, s9] [(.int (4 : Int32))])) _
      refine XS.istore X0.here hx rfl (hb hby d4_209) rfl (l' := #[.val (.ref a1), .val (.int p1), .val (.int p2), .val (.int i), .val (.int x4), .val (.int (4 : Int32)), .val (.int (128 : Int32)), .val (.int (191 : Int32)), s8, s9]) (by rcases hs5 with q | ⟨_, q⟩ <;> subst q <;> rfl) ?_
      show Steps p.tables e below (T0.setTop (mkF m 211 #[.val (.ref a1), .val (.int p1), .val (.int p2), .val (.int i), .val (.int x4), .val (.int (4 : Int32)), .val (.int (128 : Int32)), .val (.int (191 : Int32)), s8, s9] [])) _
      refine XS.iload X0.here hx rfl (hb hby d4_211) rfl ?_
      show Steps p.tables e below (T0.setTop (mkF m 213 #[.val (.ref a1), .val (.int p1), .val (.int p2), .val (.int i), .val (.int x4), .val (.int (4 : Int32)), .val (.int (128 : Int32)), .val (.int (191 : Int32)), s8, s9] [(.int x4)])) _
      refine XS.sipush X0.here hx rfl (hb hby d4_213) ?_
      refine joinS (B := T0.setTop (mkF m 227 #[.val (.ref a1), .val (.int p1), .val (.int p2), .val (.int i), .val (.int x4), .val (.int (4 : Int32)), .val (.int (128 : Int32)), .val (.int (191 : Int32)), s8, s9] [(.int v246)])) (fun kt => ?_) ?_
      · by_cases hc245 : x4 = (240 : Int32)
        · rw [show v246 = (144 : Int32) from by rw [hv246, if_pos hc245]] at kt
          show Steps p.tables e below (T0.setTop (mkF m 216 #[.val (.ref a1), .val (.int p1), .val (.int p2), .val (.int i), .val (.int x4), .val (.int (4 : Int32)), .val (.int (128 : Int32)), .val (.int (191 : Int32)), s8, s9] [(.int (240 : Int32)), (.int x4)])) _
          refine XS.icmpNo X0.here hx rfl (hb hby d4_216) rfl (teq hc245).2 ?_
          show Steps p.tables e below (T0.setTop (mkF m 219 #[.val (.ref a1), .val (.int p1), .val (.int p2), .val (.int i), .val (.int x4), .val (.int (4 : Int32)), .val (.int (128 : Int32)), .val (.int (191 : Int32)), s8, s9] [])) _
          refine XS.sipush X0.here hx rfl (hb hby d4_219) ?_
          show Steps p.tables e below (T0.setTop (mkF m 222 #[.val (.ref a1), .val (.int p1), .val (.int p2), .val (.int i), .val (.int x4), .val (.int (4 : Int32)), .val (.int (128 : Int32)), .val (.int (191 : Int32)), s8, s9] [(.int (144 : Int32))])) _
          refine XS.goto X0.here hx rfl (pc0 := 222) (pc' := 227) rfl (hb hby d4_222) (by decide) (by decide) ?_
          exact kt
        · rw [show v246 = (128 : Int32) from by rw [hv246, if_neg hc245]] at kt
          show Steps p.tables e below (T0.setTop (mkF m 216 #[.val (.ref a1), .val (.int p1), .val (.int p2), .val (.int i), .val (.int x4), .val (.int (4 : Int32)), .val (.int (128 : Int32)), .val (.int (191 : Int32)), s8, s9] [(.int (240 : Int32)), (.int x4)])) _
          refine XS.icmpYes X0.here hx rfl (pc0 := 216) (pc' := 225) rfl (hb hby d4_216) rfl (feq hc245).2 (by decide) (by decide) ?_
          show Steps p.tables e below (T0.setTop (mkF m 225 #[.val (.ref a1), .val (.int p1), .val (.int p2), .val (.int i), .val (.int x4), .val (.int (4 : Int32)), .val (.int (128 : Int32)), .val (.int (191 : Int32)), s8, s9] [])) _
          refine XS.iload X0.here hx rfl (hb hby d4_225) rfl ?_
          exact kt
      show Steps p.tables e below (T0.setTop (mkF m 227 #[.val (.ref a1), .val (.int p1), .val (.int p2), .val (.int i), .val (.int x4), .val (.int (4 : Int32)), .val (.int (128 : Int32)), .val (.int (191 : Int32)), s8, s9] [(.int v246)])) _
      refine XS.istore X0.here hx rfl (hb hby d4_227) rfl (l' := #[.val (.ref a1), .val (.int p1), .val (.int p2), .val (.int i), .val (.int x4), .val (.int (4 : Int32)), .val (.int v246), .val (.int (191 : Int32)), s8, s9]) rfl ?_
      show Steps p.tables e below (T0.setTop (mkF m 229 #[.val (.ref a1), .val (.int p1), .val (.int p2), .val (.int i), .val (.int x4), .val (.int (4 : Int32)), .val (.int v246), .val (.int (191 : Int32)), s8, s9] [])) _
      refine XS.iload X0.here hx rfl (hb hby d4_229) rfl ?_
      show Steps p.tables e below (T0.setTop (mkF m 231 #[.val (.ref a1), .val (.int p1), .val (.int p2), .val (.int i), .val (.int x4), .val (.int (4 : Int32)), .val (.int v246), .val (.int (191 : Int32)), s8, s9] [(.int x4)])) _
      refine XS.sipush X0.here hx rfl (hb hby d4_231) ?_
      refine joinS (B := T0.setTop (mkF m 245 #[.val (.ref a1), .val (.int p1), .val (.int p2), .val (.int i), .val (.int x4), .val (.int (4 : Int32)), .val (.int v246), .val (.int (191 : Int32)), s8, s9] [(.int v248)])) (fun kt => ?_) ?_
      · by_cases hc247 : x4 = (244 : Int32)
        · rw [show v248 = (143 : Int32) from by rw [hv248, if_pos hc247]] at kt
          show Steps p.tables e below (T0.setTop (mkF m 234 #[.val (.ref a1), .val (.int p1), .val (.int p2), .val (.int i), .val (.int x4), .val (.int (4 : Int32)), .val (.int v246), .val (.int (191 : Int32)), s8, s9] [(.int (244 : Int32)), (.int x4)])) _
          refine XS.icmpNo X0.here hx rfl (hb hby d4_234) rfl (teq hc247).2 ?_
          show Steps p.tables e below (T0.setTop (mkF m 237 #[.val (.ref a1), .val (.int p1), .val (.int p2), .val (.int i), .val (.int x4), .val (.int (4 : Int32)), .val (.int v246), .val (.int (191 : Int32)), s8, s9] [])) _
          refine XS.sipush X0.here hx rfl (hb hby d4_237) ?_
          show Steps p.tables e below (T0.setTop (mkF m 240 #[.val (.ref a1), .val (.int p1), .val (.int p2), .val (.int i), .val (.int x4), .val (.int (4 : Int32)), .val (.int v246), .val (.int (191 : Int32)), s8, s9] [(.int (143 : Int32))])) _
          refine XS.goto X0.here hx rfl (pc0 := 240) (pc' := 245) rfl (hb hby d4_240) (by decide) (by decide) ?_
          exact kt
        · rw [show v248 = (191 : Int32) from by rw [hv248, if_neg hc247]] at kt
          show Steps p.tables e below (T0.setTop (mkF m 234 #[.val (.ref a1), .val (.int p1), .val (.int p2), .val (.int i), .val (.int x4), .val (.int (4 : Int32)), .val (.int v246), .val (.int (191 : Int32)), s8, s9] [(.int (244 : Int32)), (.int x4)])) _
          refine XS.icmpYes X0.here hx rfl (pc0 := 234) (pc' := 243) rfl (hb hby d4_234) rfl (feq hc247).2 (by decide) (by decide) ?_
          show Steps p.tables e below (T0.setTop (mkF m 243 #[.val (.ref a1), .val (.int p1), .val (.int p2), .val (.int i), .val (.int x4), .val (.int (4 : Int32)), .val (.int v246), .val (.int (191 : Int32)), s8, s9] [])) _
          refine XS.iload X0.here hx rfl (hb hby d4_243) rfl ?_
          exact kt
      show Steps p.tables e below (T0.setTop (mkF m 245 #[.val (.ref a1), .val (.int p1), .val (.int p2), .val (.int i), .val (.int x4), .val (.int (4 : Int32)), .val (.int v246), .val (.int (191 : Int32)), s8, s9] [(.int v248)])) _
      refine XS.istore X0.here hx rfl (hb hby d4_245) rfl (l' := #[.val (.ref a1), .val (.int p1), .val (.int p2), .val (.int i), .val (.int x4), .val (.int (4 : Int32)), .val (.int v246), .val (.int v248), s8, s9]) rfl ?_
      show Steps p.tables e below (T0.setTop (mkF m 247 #[.val (.ref a1), .val (.int p1), .val (.int p2), .val (.int i), .val (.int x4), .val (.int (4 : Int32)), .val (.int v246), .val (.int v248), s8, s9] [])) _
      refine XS.goto X0.here hx rfl (pc0 := 247) (pc' := 252) rfl (hb hby d4_247) (by decide) (by decide) ?_
      show Steps p.tables e below (T0.setTop (mkF m 252 #[.val (.ref a1), .val (.int p1), .val (.int p2), .val (.int i), .val (.int x4), .val (.int (4 : Int32)), .val (.int v246), .val (.int v248), s8, s9] [])) _
      exact t252_4 X0 hx hZ hby hret e0 V1 hto hs8 hs9 hi0 (fun ht t8 t9 o8 o9 h => hk _ _ _ _ _ _ (by simp) ht own_One.v own_One.v own_One.v o8 o9 h) hr
theorem d4_134 : decode prog_315_method_2_code 134 = .ok (.iload 4, 2) := by decide +kernel
theorem d4_136 : decode prog_315_method_2_code 136 = .ok (.sipush 224, 3) := by decide +kernel
theorem d4_139 : decode prog_315_method_2_code 139 = .ok (.if_icmp .lt 53, 3) := by decide +kernel
theorem d4_142 : decode prog_315_method_2_code 142 = .ok (.iload 4, 2) := by decide +kernel
theorem d4_144 : decode prog_315_method_2_code 144 = .ok (.sipush 239, 3) := by decide +kernel
theorem d4_147 : decode prog_315_method_2_code 147 = .ok (.if_icmp .gt 45, 3) := by decide +kernel
theorem d4_150 : decode prog_315_method_2_code 150 = .ok (.iconst 3, 1) := by decide +kernel
theorem d4_151 : decode prog_315_method_2_code 151 = .ok (.istore 5, 2) := by decide +kernel
theorem d4_153 : decode prog_315_method_2_code 153 = .ok (.iload 4, 2) := by decide +kernel
theorem d4_155 : decode prog_315_method_2_code 155 = .ok (.sipush 224, 3) := by decide +kernel
theorem d4_158 : decode prog_315_method_2_code 158 = .ok (.if_icmp .ne 9, 3) := by decide +kernel
theorem d4_161 : decode prog_315_method_2_code 161 = .ok (.sipush 160, 3) := by decide +kernel
theorem d4_164 : decode prog_315_method_2_code 164 = .ok (.goto 5, 3) := by decide +kernel
theorem d4_167 : decode prog_315_method_2_code 167 = .ok (.iload 6, 2) := by decide +kernel
theorem d4_169 : decode prog_315_method_2_code 169 = .ok (.istore 6, 2) := by decide +kernel
theorem d4_171 : decode prog_315_method_2_code 171 = .ok (.iload 4, 2) := by decide +kernel
theorem d4_173 : decode prog_315_method_2_code 173 = .ok (.sipush 237, 3) := by decide +kernel
theorem d4_176 : decode prog_315_method_2_code 176 = .ok (.if_icmp .ne 9, 3) := by decide +kernel
theorem d4_179 : decode prog_315_method_2_code 179 = .ok (.sipush 159, 3) := by decide +kernel
theorem d4_182 : decode prog_315_method_2_code 182 = .ok (.goto 5, 3) := by decide +kernel
theorem d4_185 : decode prog_315_method_2_code 185 = .ok (.iload 7, 2) := by decide +kernel
theorem d4_187 : decode prog_315_method_2_code 187 = .ok (.istore 7, 2) := by decide +kernel
theorem d4_189 : decode prog_315_method_2_code 189 = .ok (.goto 63, 3) := by decide +kernel
set_option maxRecDepth 65536 in
set_option maxHeartbeats 40000000 in
theorem t134 {p : Program} {l : Launch} {e : Env} {R : Room} {s : State} {m : MethodId} {args : Array Value} {below : List Frame} {meth : Method} {c : Code} {T0 : State} {locs : List Loc} {cells slots : Nat} {Z : State} {h0 : Heap} {a1 : Addr} {p1 p2 : Int32} {us : List Int32} {ka : ClassId} {fs : List Frame}
    (X0 : Stand p l e R s m args below meth c T0 locs cells slots) (hx : p.tables.exec = Jvm.exec) (hZ : Z.Warmed39 s.vm) (hby : c.code = prog_315_method_2_code) (hret : meth.sig.returnType = some .int) (e0 : T0.heap = h0) (V1 : Arv Z h0 a1 ka .byte (24 : Int32) (us.map Value.int) (.int (0 : Int32))) (hto : own_sm p2) {i x4 : Int32} {nx : Int32 → Int32} {s5 s8 s9 : Slot} (hs5 : own_One s5) (hs8 : own_One s8) (hs9 : own_One s9) (hi0 : own_sm i)
    (hk : ∀ (j : Int32) (t5 t6 t7 t8 t9 : Slot), (j = i + (2 : Int32) ∨ j = i + (3 : Int32) ∨ j = i + (4 : Int32)) → ¬ p2 < j → own_One t5 → own_One t6 → own_One t7 → own_One t8 → own_One t9 → own_HR e T0 m fs (nx j) → Steps p.tables e below (T0.setTop (mkF m 2 #[.val (.ref a1), .val (.int p1), .val (.int p2), .val (.int j), .val (.int x4), t5, t6, t7, t8, t9] [])) (T0.setFrames fs)) (hr : own_HR e T0 m fs (if x4 < (224 : Int32) ∨ (239 : Int32) < x4 then (if x4 < (240 : Int32) ∨ (244 : Int32) < x4 then i else own_aft4 (own_B us) p2 (nx (i + (4 : Int32))) i (if x4 = (240 : Int32) then (144 : Int32) else (128 : Int32)) (if x4 = (244 : Int32) then (143 : Int32) else (191 : Int32))) else own_aft3 (own_B us) p2 (nx (i + (3 : Int32))) i (if x4 = (224 : Int32) then (160 : Int32) else (128 : Int32)) (if x4 = (237 : Int32) then (159 : Int32) else (191 : Int32)))) :
    Steps p.tables e below (T0.setTop (mkF m 134 #[.val (.ref a1), .val (.int p1), .val (.int p2), .val (.int i), .val (.int x4), s5, .val (.int (128 : Int32)), .val (.int (191 : Int32)), s8, s9] [])) (T0.setFrames fs) := by
  show Steps p.tables e below (T0.setTop (mkF m 134 #[.val (.ref a1), .val (.int p1), .val (.int p2), .val (.int i), .val (.int x4), s5, .val (.int (128 : Int32)), .val (.int (191 : Int32)), s8, s9] [])) _
  refine XS.iload X0.here hx rfl (hb hby d4_134) rfl ?_
  show Steps p.tables e below (T0.setTop (mkF m 136 #[.val (.ref a1), .val (.int p1), .val (.int p2), .val (.int i), .val (.int x4), s5, .val (.int (128 : Int32)), .val (.int (191 : Int32)), s8, s9] [(.int x4)])) _
  refine XS.sipush X0.here hx rfl (hb hby d4_136) ?_
  by_cases h1 : x4 < (224 : Int32)
  · rw [if_pos (Or.inl h1)] at hr
    show Steps p.tables e below (T0.setTop (mkF m 139 #[.val (.ref a1), .val (.int p1), .val (.int p2), .val (.int i), .val (.int x4), s5, .val (.int (128 : Int32)), .val (.int (191 : Int32)), s8, s9] [(.int (224 : Int32)), (.int x4)])) _
    refine XS.icmpYes X0.here hx rfl (pc0 := 139) (pc' := 192) rfl (hb hby d4_139) rfl (tlt h1).1 (by decide) (by decide) ?_
    show Steps p.tables e below (T0.setTop (mkF m 192 #[.val (.ref a1), .val (.int p1), .val (.int p2), .val (.int i), .val (.int x4), s5, .val (.int (128 : Int32)), .val (.int (191 : Int32)), s8, s9] [])) _
    exact t192 X0 hx hZ hby hret e0 V1 hto hs5 hs8 hs9 hi0 hk hr
  · skip
    show Steps p.tables e below (T0.setTop (mkF m 139 #[.val (.ref a1), .val (.int p1), .val (.int p2), .val (.int i), .val (.int x4), s5, .val (.int (128 : Int32)), .val (.int (191 : Int32)), s8, s9] [(.int (224 : Int32)), (.int x4)])) _
    refine XS.icmpNo X0.here hx rfl (hb hby d4_139) rfl (flt h1).1 ?_
    show Steps p.tables e below (T0.setTop (mkF m 142 #[.val (.ref a1), .val (.int p1), .val (.int p2), .val (.int i), .val (.int x4), s5, .val (.int (128 : Int32)), .val (.int (191 : Int32)), s8, s9] [])) _
    refine XS.iload X0.here hx rfl (hb hby d4_142) rfl ?_
    show Steps p.tables e below (T0.setTop (mkF m 144 #[.val (.ref a1), .val (.int p1), .val (.int p2), .val (.int i), .val (.int x4), s5, .val (.int (128 : Int32)), .val (.int (191 : Int32)), s8, s9] [(.int x4)])) _
    refine XS.sipush X0.here hx rfl (hb hby d4_144) ?_
    by_cases h2 : (239 : Int32) < x4
    · rw [if_pos (Or.inr h2)] at hr
      show Steps p.tables e below (T0.setTop (mkF m 147 #[.val (.ref a1), .val (.int p1), .val (.int p2), .val (.int i), .val (.int x4), s5, .val (.int (128 : Int32)), .val (.int (191 : Int32)), s8, s9] [(.int (239 : Int32)), (.int x4)])) _
      refine XS.icmpYes X0.here hx rfl (pc0 := 147) (pc' := 192) rfl (hb hby d4_147) rfl (tlt h2).2.2.1 (by decide) (by decide) ?_
      show Steps p.tables e below (T0.setTop (mkF m 192 #[.val (.ref a1), .val (.int p1), .val (.int p2), .val (.int i), .val (.int x4), s5, .val (.int (128 : Int32)), .val (.int (191 : Int32)), s8, s9] [])) _
      exact t192 X0 hx hZ hby hret e0 V1 hto hs5 hs8 hs9 hi0 hk hr
    · rw [if_neg (fun z => z.elim h1 h2)] at hr
      obtain ⟨v250, hv250⟩ : ∃ v : Int32, v = if x4 = (224 : Int32) then (160 : Int32) else (128 : Int32) := ⟨_, rfl⟩
      obtain ⟨v252, hv252⟩ : ∃ v : Int32, v = if x4 = (237 : Int32) then (159 : Int32) else (191 : Int32) := ⟨_, rfl⟩
      rw [← hv250, ← hv252] at hr
      show Steps p.tables e below (T0.setTop (mkF m 147 #[.val (.ref a1), .val (.int p1), .val (.int p2), .val (.int i), .val (.int x4), s5, .val (.int (128 : Int32)), .val (.int (191 : Int32)), s8, s9] [(.int (239 : Int32)), (.int x4)])) _
      refine XS.icmpNo X0.here hx rfl (hb hby d4_147) rfl (flt h2).2.2.1 ?_
      show Steps p.tables e below (T0.setTop (mkF m 150 #[.val (.ref a1), .val (.int p1), .val (.int p2), .val (.int i), .val (.int x4), s5, .val (.int (128 : Int32)), .val (.int (191 : Int32)), s8, s9] [])) _
      refine XS.iconst X0.here hx rfl (hb hby d4_150) ?_
      show Steps p.tables e below (T0.setTop (mkF m 151 #[.val (.ref a1), .val (.int p1), .val (.int p2), .val (.int i), .val (.int x4), s5, .val (.int (128 : Int32)), .val (.int (191 : Int32)), s8, s9] [(.int (3 : Int32))])) _
      refine XS.istore X0.here hx rfl (hb hby d4_151) rfl (l' := #[.val (.ref a1), .val (.int p1), .val (.int p2), .val (.int i), .val (.int x4), .val (.int (3 : Int32)), .val (.int (128 : Int32)), .val (.int (191 : Int32)), s8, s9]) (by rcases hs5 with q | ⟨_, q⟩ <;> subst q <;> rfl) ?_
      show Steps p.tables e below (T0.setTop (mkF m 153 #[.val (.ref a1), .val (.int p1), .val (.int p2), .val (.int i), .val (.int x4), .val (.int (3 : Int32)), .val (.int (128 : Int32)), .val (.int (191 : Int32)), s8, s9] [])) _
      refine XS.iload X0.here hx rfl (hb hby d4_153) rfl ?_
      show Steps p.tables e below (T0.setTop (mkF m 155 #[.val (.ref a1), .val (.int p1), .val (.int p2), .val (.int i), .val (.int x4), .val (.int (3 : Int32)), .val (.int (128 : Int32)), .val (.int (191 : Int32)), s8, s9] [(.int x4)])) _
      refine XS.sipush X0.here hx rfl (hb hby d4_155) ?_
      refine joinS (B := T0.setTop (mkF m 169 #[.val (.ref a1), .val (.int p1), .val (.int p2), .val (.int i), .val (.int x4), .val (.int (3 : Int32)), .val (.int (128 : Int32)), .val (.int (191 : Int32)), s8, s9] [(.int v250)])) (fun kt => ?_) ?_
      · by_cases hc249 : x4 = (224 : Int32)
        · rw [show v250 = (160 : Int32) from by rw [hv250, if_pos hc249]] at kt
          show Steps p.tables e below (T0.setTop (mkF m 158 #[.val (.ref a1), .val (.int p1), .val (.int p2), .val (.int i), .val (.int x4), .val (.int (3 : Int32)), .val (.int (128 : Int32)), .val (.int (191 : Int32)), s8, s9] [(.int (224 : Int32)), (.int x4)])) _
          refine XS.icmpNo X0.here hx rfl (hb hby d4_158) rfl (teq hc249).2 ?_
          show Steps p.tables e below (T0.setTop (mkF m 161 #[.val (.ref a1), .val (.int p1), .val (.int p2), .val (.int i), .val (.int x4), .val (.int (3 : Int32)), .val (.int (128 : Int32)), .val (.int (191 : Int32)), s8, s9] [])) _
          refine XS.sipush X0.here hx rfl (hb hby d4_161) ?_
          show Steps p.tables e below (T0.setTop (mkF m 164 #[.val (.ref a1), .val (.int p1), .val (.int p2), .val (.int i), .val (.int x4), .val (.int (3 : Int32)), .val (.int (128 : Int32)), .val (.int (191 : Int32)), s8, s9] [(.int (160 : Int32))])) _
          refine XS.goto X0.here hx rfl (pc0 := 164) (pc' := 169) rfl (hb hby d4_164) (by decide) (by decide) ?_
          exact kt
        · rw [show v250 = (128 : Int32) from by rw [hv250, if_neg hc249]] at kt
          show Steps p.tables e below (T0.setTop (mkF m 158 #[.val (.ref a1), .val (.int p1), .val (.int p2), .val (.int i), .val (.int x4), .val (.int (3 : Int32)), .val (.int (128 : Int32)), .val (.int (191 : Int32)), s8, s9] [(.int (224 : Int32)), (.int x4)])) _
          refine XS.icmpYes X0.here hx rfl (pc0 := 158) (pc' := 167) rfl (hb hby d4_158) rfl (feq hc249).2 (by decide) (by decide) ?_
          show Steps p.tables e below (T0.setTop (mkF m 167 #[.val (.ref a1), .val (.int p1), .val (.int p2), .val (.int i), .val (.int x4), .val (.int (3 : Int32)), .val (.int (128 : Int32)), .val (.int (191 : Int32)), s8, s9] [])) _
          refine XS.iload X0.here hx rfl (hb hby d4_167) rfl ?_
          exact kt
      show Steps p.tables e below (T0.setTop (mkF m 169 #[.val (.ref a1), .val (.int p1), .val (.int p2), .val (.int i), .val (.int x4), .val (.int (3 : Int32)), .val (.int (128 : Int32)), .val (.int (191 : Int32)), s8, s9] [(.int v250)])) _
      refine XS.istore X0.here hx rfl (hb hby d4_169) rfl (l' := #[.val (.ref a1), .val (.int p1), .val (.int p2), .val (.int i), .val (.int x4), .val (.int (3 : Int32)), .val (.int v250), .val (.int (191 : Int32)), s8, s9]) rfl ?_
      show Steps p.tables e below (T0.setTop (mkF m 171 #[.val (.ref a1), .val (.int p1), .val (.int p2), .val (.int i), .val (.int x4), .val (.int (3 : Int32)), .val (.int v250), .val (.int (191 : Int32)), s8, s9] [])) _
      refine XS.iload X0.here hx rfl (hb hby d4_171) rfl ?_
      show Steps p.tables e below (T0.setTop (mkF m 173 #[.val (.ref a1), .val (.int p1), .val (.int p2), .val (.int i), .val (.int x4), .val (.int (3 : Int32)), .val (.int v250), .val (.int (191 : Int32)), s8, s9] [(.int x4)])) _
      refine XS.sipush X0.here hx rfl (hb hby d4_173) ?_
      refine joinS (B := T0.setTop (mkF m 187 #[.val (.ref a1), .val (.int p1), .val (.int p2), .val (.int i), .val (.int x4), .val (.int (3 : Int32)), .val (.int v250), .val (.int (191 : Int32)), s8, s9] [(.int v252)])) (fun kt => ?_) ?_
      · by_cases hc251 : x4 = (237 : Int32)
        · rw [show v252 = (159 : Int32) from by rw [hv252, if_pos hc251]] at kt
          show Steps p.tables e below (T0.setTop (mkF m 176 #[.val (.ref a1), .val (.int p1), .val (.int p2), .val (.int i), .val (.int x4), .val (.int (3 : Int32)), .val (.int v250), .val (.int (191 : Int32)), s8, s9] [(.int (237 : Int32)), (.int x4)])) _
          refine XS.icmpNo X0.here hx rfl (hb hby d4_176) rfl (teq hc251).2 ?_
          show Steps p.tables e below (T0.setTop (mkF m 179 #[.val (.ref a1), .val (.int p1), .val (.int p2), .val (.int i), .val (.int x4), .val (.int (3 : Int32)), .val (.int v250), .val (.int (191 : Int32)), s8, s9] [])) _
          refine XS.sipush X0.here hx rfl (hb hby d4_179) ?_
          show Steps p.tables e below (T0.setTop (mkF m 182 #[.val (.ref a1), .val (.int p1), .val (.int p2), .val (.int i), .val (.int x4), .val (.int (3 : Int32)), .val (.int v250), .val (.int (191 : Int32)), s8, s9] [(.int (159 : Int32))])) _
          refine XS.goto X0.here hx rfl (pc0 := 182) (pc' := 187) rfl (hb hby d4_182) (by decide) (by decide) ?_
          exact kt
        · rw [show v252 = (191 : Int32) from by rw [hv252, if_neg hc251]] at kt
          show Steps p.tables e below (T0.setTop (mkF m 176 #[.val (.ref a1), .val (.int p1), .val (.int p2), .val (.int i), .val (.int x4), .val (.int (3 : Int32)), .val (.int v250), .val (.int (191 : Int32)), s8, s9] [(.int (237 : Int32)), (.int x4)])) _
          refine XS.icmpYes X0.here hx rfl (pc0 := 176) (pc' := 185) rfl (hb hby d4_176) rfl (feq hc251).2 (by decide) (by decide) ?_
          show Steps p.tables e below (T0.setTop (mkF m 185 #[.val (.ref a1), .val (.int p1), .val (.int p2), .val (.int i), .val (.int x4), .val (.int (3 : Int32)), .val (.int v250), .val (.int (191 : Int32)), s8, s9] [])) _
          refine XS.iload X0.here hx rfl (hb hby d4_185) rfl ?_
          exact kt
      show Steps p.tables e below (T0.setTop (mkF m 187 #[.val (.ref a1), .val (.int p1), .val (.int p2), .val (.int i), .val (.int x4), .val (.int (3 : Int32)), .val (.int v250), .val (.int (191 : Int32)), s8, s9] [(.int v252)])) _
      refine XS.istore X0.here hx rfl (hb hby d4_187) rfl (l' := #[.val (.ref a1), .val (.int p1), .val (.int p2), .val (.int i), .val (.int x4), .val (.int (3 : Int32)), .val (.int v250), .val (.int v252), s8, s9]) rfl ?_
      show Steps p.tables e below (T0.setTop (mkF m 189 #[.val (.ref a1), .val (.int p1), .val (.int p2), .val (.int i), .val (.int x4), .val (.int (3 : Int32)), .val (.int v250), .val (.int v252), s8, s9] [])) _
      refine XS.goto X0.here hx rfl (pc0 := 189) (pc' := 252) rfl (hb hby d4_189) (by decide) (by decide) ?_
      show Steps p.tables e below (T0.setTop (mkF m 252 #[.val (.ref a1), .val (.int p1), .val (.int p2), .val (.int i), .val (.int x4), .val (.int (3 : Int32)), .val (.int v250), .val (.int v252), s8, s9] [])) _
      exact t252_3 X0 hx hZ hby hret e0 V1 hto hs8 hs9 hi0 (fun ht t8 t9 o8 o9 h => hk _ _ _ _ _ _ (by simp) ht own_One.v own_One.v own_One.v o8 o9 h) hr
theorem d4_112 : decode prog_315_method_2_code 112 = .ok (.iload 4, 2) := by decide +kernel
theorem d4_114 : decode prog_315_method_2_code 114 = .ok (.sipush 194, 3) := by decide +kernel
theorem d4_117 : decode prog_315_method_2_code 117 = .ok (.if_icmp .lt 17, 3) := by decide +kernel
theorem d4_120 : decode prog_315_method_2_code 120 = .ok (.iload 4, 2) := by decide +kernel
theorem d4_122 : decode prog_315_method_2_code 122 = .ok (.sipush 223, 3) := by decide +kernel
theorem d4_125 : decode prog_315_method_2_code 125 = .ok (.if_icmp .gt 9, 3) := by decide +kernel
theorem d4_128 : decode prog_315_method_2_code 128 = .ok (.iconst 2, 1) := by decide +kernel
theorem d4_129 : decode prog_315_method_2_code 129 = .ok (.istore 5, 2) := by decide +kernel
theorem d4_131 : decode prog_315_method_2_code 131 = .ok (.goto 121, 3) := by decide +kernel
set_option maxRecDepth 65536 in
set_option maxHeartbeats 40000000 in
theorem t112 {p : Program} {l : Launch} {e : Env} {R : Room} {s : State} {m : MethodId} {args : Array Value} {below : List Frame} {meth : Method} {c : Code} {T0 : State} {locs : List Loc} {cells slots : Nat} {Z : State} {h0 : Heap} {a1 : Addr} {p1 p2 : Int32} {us : List Int32} {ka : ClassId} {fs : List Frame}
    (X0 : Stand p l e R s m args below meth c T0 locs cells slots) (hx : p.tables.exec = Jvm.exec) (hZ : Z.Warmed39 s.vm) (hby : c.code = prog_315_method_2_code) (hret : meth.sig.returnType = some .int) (e0 : T0.heap = h0) (V1 : Arv Z h0 a1 ka .byte (24 : Int32) (us.map Value.int) (.int (0 : Int32))) (hto : own_sm p2) {i x4 : Int32} {nx : Int32 → Int32} {s5 s8 s9 : Slot} (hs5 : own_One s5) (hs8 : own_One s8) (hs9 : own_One s9) (hi0 : own_sm i)
    (hk : ∀ (j : Int32) (t5 t6 t7 t8 t9 : Slot), (j = i + (2 : Int32) ∨ j = i + (3 : Int32) ∨ j = i + (4 : Int32)) → ¬ p2 < j → own_One t5 → own_One t6 → own_One t7 → own_One t8 → own_One t9 → own_HR e T0 m fs (nx j) → Steps p.tables e below (T0.setTop (mkF m 2 #[.val (.ref a1), .val (.int p1), .val (.int p2), .val (.int j), .val (.int x4), t5, t6, t7, t8, t9] [])) (T0.setFrames fs)) (hr : own_HR e T0 m fs (own_cls (own_B us) p2 nx i x4)) :
    Steps p.tables e below (T0.setTop (mkF m 112 #[.val (.ref a1), .val (.int p1), .val (.int p2), .val (.int i), .val (.int x4), s5, .val (.int (128 : Int32)), .val (.int (191 : Int32)), s8, s9] [])) (T0.setFrames fs) := by
  unfold own_cls at hr
  show Steps p.tables e below (T0.setTop (mkF m 112 #[.val (.ref a1), .val (.int p1), .val (.int p2), .val (.int i), .val (.int x4), s5, .val (.int (128 : Int32)), .val (.int (191 : Int32)), s8, s9] [])) _
  refine XS.iload X0.here hx rfl (hb hby d4_112) rfl ?_
  show Steps p.tables e below (T0.setTop (mkF m 114 #[.val (.ref a1), .val (.int p1), .val (.int p2), .val (.int i), .val (.int x4), s5, .val (.int (128 : Int32)), .val (.int (191 : Int32)), s8, s9] [(.int x4)])) _
  refine XS.sipush X0.here hx rfl (hb hby d4_114) ?_
  by_cases h1 : x4 < (194 : Int32)
  · rw [if_pos (Or.inl h1)] at hr
    show Steps p.tables e below (T0.setTop (mkF m 117 #[.val (.ref a1), .val (.int p1), .val (.int p2), .val (.int i), .val (.int x4), s5, .val (.int (128 : Int32)), .val (.int (191 : Int32)), s8, s9] [(.int (194 : Int32)), (.int x4)])) _
    refine XS.icmpYes X0.here hx rfl (pc0 := 117) (pc' := 134) rfl (hb hby d4_117) rfl (tlt h1).1 (by decide) (by decide) ?_
    show Steps p.tables e below (T0.setTop (mkF m 134 #[.val (.ref a1), .val (.int p1), .val (.int p2), .val (.int i), .val (.int x4), s5, .val (.int (128 : Int32)), .val (.int (191 : Int32)), s8, s9] [])) _
    exact t134 X0 hx hZ hby hret e0 V1 hto hs5 hs8 hs9 hi0 hk hr
  · skip
    show Steps p.tables e below (T0.setTop (mkF m 117 #[.val (.ref a1), .val (.int p1), .val (.int p2), .val (.int i), .val (.int x4), s5, .val (.int (128 : Int32)), .val (.int (191 : Int32)), s8, s9] [(.int (194 : Int32)), (.int x4)])) _
    refine XS.icmpNo X0.here hx rfl (hb hby d4_117) rfl (flt h1).1 ?_
    show Steps p.tables e below (T0.setTop (mkF m 120 #[.val (.ref a1), .val (.int p1), .val (.int p2), .val (.int i), .val (.int x4), s5, .val (.int (128 : Int32)), .val (.int (191 : Int32)), s8, s9] [])) _
    refine XS.iload X0.here hx rfl (hb hby d4_120) rfl ?_
    show Steps p.tables e below (T0.setTop (mkF m 122 #[.val (.ref a1), .val (.int p1), .val (.int p2), .val (.int i), .val (.int x4), s5, .val (.int (128 : Int32)), .val (.int (191 : Int32)), s8, s9] [(.int x4)])) _
    refine XS.sipush X0.here hx rfl (hb hby d4_122) ?_
    by_cases h2 : (223 : Int32) < x4
    · rw [if_pos (Or.inr h2)] at hr
      show Steps p.tables e below (T0.setTop (mkF m 125 #[.val (.ref a1), .val (.int p1), .val (.int p2), .val (.int i), .val (.int x4), s5, .val (.int (128 : Int32)), .val (.int (191 : Int32)), s8, s9] [(.int (223 : Int32)), (.int x4)])) _
      refine XS.icmpYes X0.here hx rfl (pc0 := 125) (pc' := 134) rfl (hb hby d4_125) rfl (tlt h2).2.2.1 (by decide) (by decide) ?_
      show Steps p.tables e below (T0.setTop (mkF m 134 #[.val (.ref a1), .val (.int p1), .val (.int p2), .val (.int i), .val (.int x4), s5, .val (.int (128 : Int32)), .val (.int (191 : Int32)), s8, s9] [])) _
      exact t134 X0 hx hZ hby hret e0 V1 hto hs5 hs8 hs9 hi0 hk hr
    · rw [if_neg (fun z => z.elim h1 h2)] at hr
      show Steps p.tables e below (T0.setTop (mkF m 125 #[.val (.ref a1), .val (.int p1), .val (.int p2), .val (.int i), .val (.int x4), s5, .val (.int (128 : Int32)), .val (.int (191 : Int32)), s8, s9] [(.int (223 : Int32)), (.int x4)])) _
      refine XS.icmpNo X0.here hx rfl (hb hby d4_125) rfl (flt h2).2.2.1 ?_
      show Steps p.tables e below (T0.setTop (mkF m 128 #[.val (.ref a1), .val (.int p1), .val (.int p2), .val (.int i), .val (.int x4), s5, .val (.int (128 : Int32)), .val (.int (191 : Int32)), s8, s9] [])) _
      refine XS.iconst X0.here hx rfl (hb hby d4_128) ?_
      show Steps p.tables e below (T0.setTop (mkF m 129 #[.val (.ref a1), .val (.int p1), .val (.int p2), .val (.int i), .val (.int x4), s5, .val (.int (128 : Int32)), .val (.int (191 : Int32)), s8, s9] [(.int (2 : Int32))])) _
      refine XS.istore X0.here hx rfl (hb hby d4_129) rfl (l' := #[.val (.ref a1), .val (.int p1), .val (.int p2), .val (.int i), .val (.int x4), .val (.int (2 : Int32)), .val (.int (128 : Int32)), .val (.int (191 : Int32)), s8, s9]) (by rcases hs5 with q | ⟨_, q⟩ <;> subst q <;> rfl) ?_
      show Steps p.tables e below (T0.setTop (mkF m 131 #[.val (.ref a1), .val (.int p1), .val (.int p2), .val (.int i), .val (.int x4), .val (.int (2 : Int32)), .val (.int (128 : Int32)), .val (.int (191 : Int32)), s8, s9] [])) _
      refine XS.goto X0.here hx rfl (pc0 := 131) (pc' := 252) rfl (hb hby d4_131) (by decide) (by decide) ?_
      show Steps p.tables e below (T0.setTop (mkF m 252 #[.val (.ref a1), .val (.int p1), .val (.int p2), .val (.int i), .val (.int x4), .val (.int (2 : Int32)), .val (.int (128 : Int32)), .val (.int (191 : Int32)), s8, s9] [])) _
      exact t252_2 X0 hx hZ hby hret e0 V1 hto hs8 hs9 hi0 (fun ht t8 t9 o8 o9 h => hk _ _ _ _ _ _ (by simp) ht own_One.v own_One.v own_One.v o8 o9 h) hr
theorem d4_7 : decode prog_315_method_2_code 7 = .ok (.iload_n 3, 1) := by decide +kernel
theorem d4_8 : decode prog_315_method_2_code 8 = .ok (.bipush 8, 2) := by decide +kernel
theorem d4_10 : decode prog_315_method_2_code 10 = .ok (.iadd, 1) := by decide +kernel
theorem d4_11 : decode prog_315_method_2_code 11 = .ok (.iload_n 2, 1) := by decide +kernel
theorem d4_12 : decode prog_315_method_2_code 12 = .ok (.if_icmp .gt 59, 3) := by decide +kernel
theorem d4_15 : decode prog_315_method_2_code 15 = .ok (.aload_n 0, 1) := by decide +kernel
theorem d4_16 : decode prog_315_method_2_code 16 = .ok (.iload_n 3, 1) := by decide +kernel
theorem d4_17 : decode prog_315_method_2_code 17 = .ok (.baload, 1) := by decide +kernel
theorem d4_18 : decode prog_315_method_2_code 18 = .ok (.aload_n 0, 1) := by decide +kernel
theorem d4_19 : decode prog_315_method_2_code 19 = .ok (.iload_n 3, 1) := by decide +kernel
theorem d4_20 : decode prog_315_method_2_code 20 = .ok (.iconst 1, 1) := by decide +kernel
theorem d4_21 : decode prog_315_method_2_code 21 = .ok (.iadd, 1) := by decide +kernel
theorem d4_22 : decode prog_315_method_2_code 22 = .ok (.baload, 1) := by decide +kernel
theorem d4_23 : decode prog_315_method_2_code 23 = .ok (.ior, 1) := by decide +kernel
theorem d4_24 : decode prog_315_method_2_code 24 = .ok (.aload_n 0, 1) := by decide +kernel
theorem d4_25 : decode prog_315_method_2_code 25 = .ok (.iload_n 3, 1) := by decide +kernel
theorem d4_26 : decode prog_315_method_2_code 26 = .ok (.iconst 2, 1) := by decide +kernel
theorem d4_27 : decode prog_315_method_2_code 27 = .ok (.iadd, 1) := by decide +kernel
theorem d4_28 : decode prog_315_method_2_code 28 = .ok (.baload, 1) := by decide +kernel
theorem d4_29 : decode prog_315_method_2_code 29 = .ok (.ior, 1) := by decide +kernel
theorem d4_30 : decode prog_315_method_2_code 30 = .ok (.aload_n 0, 1) := by decide +kernel
theorem d4_31 : decode prog_315_method_2_code 31 = .ok (.iload_n 3, 1) := by decide +kernel
theorem d4_32 : decode prog_315_method_2_code 32 = .ok (.iconst 3, 1) := by decide +kernel
theorem d4_33 : decode prog_315_method_2_code 33 = .ok (.iadd, 1) := by decide +kernel
theorem d4_34 : decode prog_315_method_2_code 34 = .ok (.baload, 1) := by decide +kernel
theorem d4_35 : decode prog_315_method_2_code 35 = .ok (.ior, 1) := by decide +kernel
theorem d4_36 : decode prog_315_method_2_code 36 = .ok (.aload_n 0, 1) := by decide +kernel
theorem d4_37 : decode prog_315_method_2_code 37 = .ok (.iload_n 3, 1) := by decide +kernel
theorem d4_38 : decode prog_315_method_2_code 38 = .ok (.iconst 4, 1) := by decide +kernel
theorem d4_39 : decode prog_315_method_2_code 39 = .ok (.iadd, 1) := by decide +kernel
theorem d4_40 : decode prog_315_method_2_code 40 = .ok (.baload, 1) := by decide +kernel
theorem d4_41 : decode prog_315_method_2_code 41 = .ok (.ior, 1) := by decide +kernel
theorem d4_42 : decode prog_315_method_2_code 42 = .ok (.aload_n 0, 1) := by decide +kernel
theorem d4_43 : decode prog_315_method_2_code 43 = .ok (.iload_n 3, 1) := by decide +kernel
theorem d4_44 : decode prog_315_method_2_code 44 = .ok (.iconst 5, 1) := by decide +kernel
theorem d4_45 : decode prog_315_method_2_code 45 = .ok (.iadd, 1) := by decide +kernel
theorem d4_46 : decode prog_315_method_2_code 46 = .ok (.baload, 1) := by decide +kernel
theorem d4_47 : decode prog_315_method_2_code 47 = .ok (.ior, 1) := by decide +kernel
theorem d4_48 : decode prog_315_method_2_code 48 = .ok (.aload_n 0, 1) := by decide +kernel
theorem d4_49 : decode prog_315_method_2_code 49 = .ok (.iload_n 3, 1) := by decide +kernel
theorem d4_50 : decode prog_315_method_2_code 50 = .ok (.bipush 6, 2) := by decide +kernel
theorem d4_52 : decode prog_315_method_2_code 52 = .ok (.iadd, 1) := by decide +kernel
theorem d4_53 : decode prog_315_method_2_code 53 = .ok (.baload, 1) := by decide +kernel
theorem d4_54 : decode prog_315_method_2_code 54 = .ok (.ior, 1) := by decide +kernel
theorem d4_55 : decode prog_315_method_2_code 55 = .ok (.aload_n 0, 1) := by decide +kernel
theorem d4_56 : decode prog_315_method_2_code 56 = .ok (.iload_n 3, 1) := by decide +kernel
theorem d4_57 : decode prog_315_method_2_code 57 = .ok (.bipush 7, 2) := by decide +kernel
theorem d4_59 : decode prog_315_method_2_code 59 = .ok (.iadd, 1) := by decide +kernel
theorem d4_60 : decode prog_315_method_2_code 60 = .ok (.baload, 1) := by decide +kernel
theorem d4_61 : decode prog_315_method_2_code 61 = .ok (.ior, 1) := by decide +kernel
theorem d4_62 : decode prog_315_method_2_code 62 = .ok (.ifCond .lt 9, 3) := by decide +kernel
theorem d4_65 : decode prog_315_method_2_code 65 = .ok (.iinc 3 8, 3) := by decide +kernel
theorem d4_68 : decode prog_315_method_2_code 68 = .ok (.goto (-61), 3) := by decide +kernel
theorem d4_71 : decode prog_315_method_2_code 71 = .ok (.iload_n 3, 1) := by decide +kernel
theorem d4_72 : decode prog_315_method_2_code 72 = .ok (.iload_n 2, 1) := by decide +kernel
theorem d4_73 : decode prog_315_method_2_code 73 = .ok (.if_icmp .ne 6, 3) := by decide +kernel
theorem d4_76 : decode prog_315_method_2_code 76 = .ok (.goto 255, 3) := by decide +kernel
theorem d4_331 : decode prog_315_method_2_code 331 = .ok (.iconst (-1), 1) := by decide +kernel
theorem d4_332 : decode prog_315_method_2_code 332 = .ok (.ireturn, 1) := by decide +kernel
theorem d4_79 : decode prog_315_method_2_code 79 = .ok (.aload_n 0, 1) := by decide +kernel
theorem d4_80 : decode prog_315_method_2_code 80 = .ok (.iload_n 3, 1) := by decide +kernel
theorem d4_81 : decode prog_315_method_2_code 81 = .ok (.baload, 1) := by decide +kernel
theorem d4_82 : decode prog_315_method_2_code 82 = .ok (.sipush 255, 3) := by decide +kernel
theorem d4_85 : decode prog_315_method_2_code 85 = .ok (.iand, 1) := by decide +kernel
theorem d4_86 : decode prog_315_method_2_code 86 = .ok (.istore 4, 2) := by decide +kernel
theorem d4_88 : decode prog_315_method_2_code 88 = .ok (.iload 4, 2) := by decide +kernel
theorem d4_90 : decode prog_315_method_2_code 90 = .ok (.sipush 128, 3) := by decide +kernel
theorem d4_93 : decode prog_315_method_2_code 93 = .ok (.if_icmp .ge 9, 3) := by decide +kernel
theorem d4_96 : decode prog_315_method_2_code 96 = .ok (.iinc 3 1, 3) := by decide +kernel
theorem d4_99 : decode prog_315_method_2_code 99 = .ok (.goto (-97), 3) := by decide +kernel
theorem d4_102 : decode prog_315_method_2_code 102 = .ok (.sipush 128, 3) := by decide +kernel
theorem d4_105 : decode prog_315_method_2_code 105 = .ok (.istore 6, 2) := by decide +kernel
theorem d4_107 : decode prog_315_method_2_code 107 = .ok (.sipush 191, 3) := by decide +kernel
theorem d4_110 : decode prog_315_method_2_code 110 = .ok (.istore 7, 2) := by decide +kernel
theorem d4_2 : decode prog_315_method_2_code 2 = .ok (.iload_n 3, 1) := by decide +kernel
theorem d4_3 : decode prog_315_method_2_code 3 = .ok (.iload_n 2, 1) := by decide +kernel
theorem d4_4 : decode prog_315_method_2_code 4 = .ok (.if_icmp .ge 327, 3) := by decide +kernel
theorem own_i8 {i to : Int32} (hi : own_sm i) (hto : own_sm to) (h : ¬ to < i + (8 : Int32)) : ¬ i < 0 ∧ i < (24 : Int32) := by
  have e2 : (i + (8 : Int32)).toInt = i.toInt + 8 := own_add hi 8 (by decide)
  rw [Int32.lt_iff_toInt_lt] at h
  exact own_ix0 hi hto (by omega)
theorem own_ltne {i to : Int32} (h : i.toInt ≤ to.toInt) (h1 : ¬ i = to) : i.toInt < to.toInt := by
  have : i.toInt ≠ to.toInt := fun z => h1 (Int32.toInt_inj.mp z)
  omega
set_option maxRecDepth 65536 in
set_option maxHeartbeats 40000000 in
theorem loop4 {p : Program} {l : Launch} {e : Env} {R : Room} {s : State} {m : MethodId} {args : Array Value} {below : List Frame} {meth : Method} {c : Code} {T0 : State} {locs : List Loc} {cells slots : Nat} {Z : State} {h0 : Heap} {a1 : Addr} {p1 p2 : Int32} {us : List Int32} {ka : ClassId} {fs : List Frame}
    (X0 : Stand p l e R s m args below meth c T0 locs cells slots) (hx : p.tables.exec = Jvm.exec) (hZ : Z.Warmed39 s.vm) (hby : c.code = prog_315_method_2_code) (hret : meth.sig.returnType = some .int) (e0 : T0.heap = h0) (V1 : Arv Z h0 a1 ka .byte (24 : Int32) (us.map Value.int) (.int (0 : Int32))) (hto : own_sm p2) :
    ∀ (n : Nat) (i : Int32) (s4 s5 s6 s7 s8 s9 : Slot) (hs4 : own_One s4) (hs5 : own_One s5) (hs6 : own_One s6) (hs7 : own_One s7) (hs8 : own_One s8) (hs9 : own_One s9) (hi0 : own_sm i) (hle : i.toInt ≤ p2.toInt) (hn : (p2.toInt - i.toInt).toNat < n) (hr : own_HR e T0 m fs (own_in (own_B us) p2 n i)),
      Steps p.tables e below (T0.setTop (mkF m 7 #[.val (.ref a1), .val (.int p1), .val (.int p2), .val (.int i), s4, s5, s6, s7, s8, s9] [])) (T0.setFrames fs) := by
  intro n
  induction n with
  | zero => intro i s4 s5 s6 s7 s8 s9 hs4 hs5 hs6 hs7 hs8 hs9 hi0 hle hn; exact absurd hn (Nat.not_lt_zero _)
  | succ n ih =>
    intro i s4 s5 s6 s7 s8 s9 hs4 hs5 hs6 hs7 hs8 hs9 hi0 hle hn hr
    have j2 : ∀ (j : Int32) (t4 t5 t6 t7 t8 t9 : Slot), own_One t4 → own_One t5 → own_One t6 → own_One t7 → own_One t8 → own_One t9 → own_sm j → (p2.toInt - j.toInt).toNat < n → own_HR e T0 m fs (own_out (own_B us) p2 n j) → Steps p.tables e below (T0.setTop (mkF m 2 #[.val (.ref a1), .val (.int p1), .val (.int p2), .val (.int j), t4, t5, t6, t7, t8, t9] [])) (T0.setFrames fs) := by
      intro j t4 t5 t6 t7 t8 t9 os4 os5 os6 os7 os8 os9 sj hnj hrj
      unfold own_out at hrj
      show Steps p.tables e below (T0.setTop (mkF m 2 #[.val (.ref a1), .val (.int p1), .val (.int p2), .val (.int j), t4, t5, t6, t7, t8, t9] [])) _
      refine XS.iloadN X0.here hx rfl (hb hby d4_2) rfl ?_
      show Steps p.tables e below (T0.setTop (mkF m 3 #[.val (.ref a1), .val (.int p1), .val (.int p2), .val (.int j), t4, t5, t6, t7, t8, t9] [(.int j)])) _
      refine XS.iloadN X0.here hx rfl (hb hby d4_3) rfl ?_
      by_cases hj : j < p2
      · rw [if_pos hj] at hrj
        show Steps p.tables e below (T0.setTop (mkF m 4 #[.val (.ref a1), .val (.int p1), .val (.int p2), .val (.int j), t4, t5, t6, t7, t8, t9] [(.int p2), (.int j)])) _
        refine XS.icmpNo X0.here hx rfl (hb hby d4_4) rfl (tlt hj).2.1 ?_
        show Steps p.tables e below (T0.setTop (mkF m 7 #[.val (.ref a1), .val (.int p1), .val (.int p2), .val (.int j), t4, t5, t6, t7, t8, t9] [])) _
        exact ih j t4 t5 t6 t7 t8 t9 os4 os5 os6 os7 os8 os9 sj (by rw [Int32.lt_iff_toInt_lt] at hj; omega) hnj hrj
      · rw [if_neg hj] at hrj
        show Steps p.tables e below (T0.setTop (mkF m 4 #[.val (.ref a1), .val (.int p1), .val (.int p2), .val (.int j), t4, t5, t6, t7, t8, t9] [(.int p2), (.int j)])) _
        refine XS.icmpYes X0.here hx rfl (pc0 := 4) (pc' := 331) rfl (hb hby d4_4) rfl (flt hj).2.1 (by decide) (by decide) ?_
        show Steps p.tables e below (T0.setTop (mkF m 331 #[.val (.ref a1), .val (.int p1), .val (.int p2), .val (.int j), t4, t5, t6, t7, t8, t9] [])) _
        refine XS.iconst X0.here hx rfl (hb hby d4_331) ?_
        show Steps p.tables e below (T0.setTop (mkF m 332 #[.val (.ref a1), .val (.int p1), .val (.int p2), .val (.int j), t4, t5, t6, t7, t8, t9] [(.int (-1 : Int32))])) _
        exact retI X0 hx hret (hb hby d4_332) hrj
    have tail : own_HR e T0 m fs (own_tail (own_B us) p2 (own_out (own_B us) p2 n) i) → Steps p.tables e below (T0.setTop (mkF m 71 #[.val (.ref a1), .val (.int p1), .val (.int p2), .val (.int i), s4, s5, s6, s7, s8, s9] [])) (T0.setFrames fs) := by
      intro hrt
      unfold own_tail at hrt
      show Steps p.tables e below (T0.setTop (mkF m 71 #[.val (.ref a1), .val (.int p1), .val (.int p2), .val (.int i), s4, s5, s6, s7, s8, s9] [])) _
      refine XS.iloadN X0.here hx rfl (hb hby d4_71) rfl ?_
      show Steps p.tables e below (T0.setTop (mkF m 72 #[.val (.ref a1), .val (.int p1), .val (.int p2), .val (.int i), s4, s5, s6, s7, s8, s9] [(.int i)])) _
      refine XS.iloadN X0.here hx rfl (hb hby d4_72) rfl ?_
      by_cases h1 : i = p2
      · rw [if_pos h1] at hrt
        show Steps p.tables e below (T0.setTop (mkF m 73 #[.val (.ref a1), .val (.int p1), .val (.int p2), .val (.int i), s4, s5, s6, s7, s8, s9] [(.int p2), (.int i)])) _
        refine XS.icmpNo X0.here hx rfl (hb hby d4_73) rfl (teq h1).2 ?_
        show Steps p.tables e below (T0.setTop (mkF m 76 #[.val (.ref a1), .val (.int p1), .val (.int p2), .val (.int i), s4, s5, s6, s7, s8, s9] [])) _
        refine XS.goto X0.here hx rfl (pc0 := 76) (pc' := 331) rfl (hb hby d4_76) (by decide) (by decide) ?_
        show Steps p.tables e below (T0.setTop (mkF m 331 #[.val (.ref a1), .val (.int p1), .val (.int p2), .val (.int i), s4, s5, s6, s7, s8, s9] [])) _
        refine XS.iconst X0.here hx rfl (hb hby d4_331) ?_
        show Steps p.tables e below (T0.setTop (mkF m 332 #[.val (.ref a1), .val (.int p1), .val (.int p2), .val (.int i), s4, s5, s6, s7, s8, s9] [(.int (-1 : Int32))])) _
        exact retI X0 hx hret (hb hby d4_332) hrt
      · rw [if_neg h1] at hrt
        have lt1 := own_ltne hle h1
        obtain ⟨c261, r261, q261, s261, n261, H261, G261⟩ := id V1
        have i261 : ¬ (i < 0 ∨ c261.slots.size ≤ (i).toNatClampNeg) := inb_of s261 (own_ix0 hi0 hto (own_ltne hle h1))
        have a261 : c261.slots[(i).toNatClampNeg]? = some (.int (own_B us i)) := Has.at H261 i261 (own_get us _)
        show Steps p.tables e below (T0.setTop (mkF m 73 #[.val (.ref a1), .val (.int p1), .val (.int p2), .val (.int i), s4, s5, s6, s7, s8, s9] [(.int p2), (.int i)])) _
        refine XS.icmpYes X0.here hx rfl (pc0 := 73) (pc' := 79) rfl (hb hby d4_73) rfl (feq h1).2 (by decide) (by decide) ?_
        show Steps p.tables e below (T0.setTop (mkF m 79 #[.val (.ref a1), .val (.int p1), .val (.int p2), .val (.int i), s4, s5, s6, s7, s8, s9] [])) _
        refine XS.aloadN X0.here hx rfl (hb hby d4_79) rfl rfl ?_
        show Steps p.tables e below (T0.setTop (mkF m 80 #[.val (.ref a1), .val (.int p1), .val (.int p2), .val (.int i), s4, s5, s6, s7, s8, s9] [(.ref a1)])) _
        refine XS.iloadN X0.here hx rfl (hb hby d4_80) rfl ?_
        show Steps p.tables e below (T0.setTop (mkF m 81 #[.val (.ref a1), .val (.int p1), .val (.int p2), .val (.int i), s4, s5, s6, s7, s8, s9] [(.int i), (.ref a1)])) _
        refine X0.baloadBytes hx (j := i) (v := (.int (own_B us i))) (by rw [e0]; exact r261.1) (State.isArrayOf_alike hZ.alike r261.2.1) r261.2.2 i261 a261 (g := (mkF m 81 #[.val (.ref a1), .val (.int p1), .val (.int p2), .val (.int i), s4, s5, s6, s7, s8, s9] [(.int i), (.ref a1)])) rfl rfl (hb hby d4_81) _ ?_
        show Steps p.tables e below (T0.setTop (mkF m 82 #[.val (.ref a1), .val (.int p1), .val (.int p2), .val (.int i), s4, s5, s6, s7, s8, s9] [(.int (own_B us i))])) _
        refine XS.sipush X0.here hx rfl (hb hby d4_82) ?_
        show Steps p.tables e below (T0.setTop (mkF m 85 #[.val (.ref a1), .val (.int p1), .val (.int p2), .val (.int i), s4, s5, s6, s7, s8, s9] [(.int (255 : Int32)), (.int (own_B us i))])) _
        refine XS.iand X0.here hx rfl (hb hby d4_85) rfl ?_
        show Steps p.tables e below (T0.setTop (mkF m 86 #[.val (.ref a1), .val (.int p1), .val (.int p2), .val (.int i), s4, s5, s6, s7, s8, s9] [(.int ((own_B us i) &&& (255 : Int32)))])) _
        refine XS.istore X0.here hx rfl (hb hby d4_86) rfl (l' := #[.val (.ref a1), .val (.int p1), .val (.int p2), .val (.int i), .val (.int ((own_B us i) &&& (255 : Int32))), s5, s6, s7, s8, s9]) (by rcases hs4 with q | ⟨_, q⟩ <;> subst q <;> rfl) ?_
        show Steps p.tables e below (T0.setTop (mkF m 88 #[.val (.ref a1), .val (.int p1), .val (.int p2), .val (.int i), .val (.int ((own_B us i) &&& (255 : Int32))), s5, s6, s7, s8, s9] [])) _
        refine XS.iload X0.here hx rfl (hb hby d4_88) rfl ?_
        show Steps p.tables e below (T0.setTop (mkF m 90 #[.val (.ref a1), .val (.int p1), .val (.int p2), .val (.int i), .val (.int ((own_B us i) &&& (255 : Int32))), s5, s6, s7, s8, s9] [(.int ((own_B us i) &&& (255 : Int32)))])) _
        refine XS.sipush X0.here hx rfl (hb hby d4_90) ?_
        by_cases h2 : (own_B us i &&& (255 : Int32)) < (128 : Int32)
        · rw [if_pos h2] at hrt
          show Steps p.tables e below (T0.setTop (mkF m 93 #[.val (.ref a1), .val (.int p1), .val (.int p2), .val (.int i), .val (.int ((own_B us i) &&& (255 : Int32))), s5, s6, s7, s8, s9] [(.int (128 : Int32)), (.int ((own_B us i) &&& (255 : Int32)))])) _
          refine XS.icmpNo X0.here hx rfl (hb hby d4_93) rfl (tlt h2).2.1 ?_
          show Steps p.tables e below (T0.setTop (mkF m 96 #[.val (.ref a1), .val (.int p1), .val (.int p2), .val (.int i), .val (.int ((own_B us i) &&& (255 : Int32))), s5, s6, s7, s8, s9] [])) _
          refine XS.iinc X0.here hx rfl (hb hby d4_96) rfl (l' := #[.val (.ref a1), .val (.int p1), .val (.int p2), .val (.int (i + (1 : Int32))), .val (.int ((own_B us i) &&& (255 : Int32))), s5, s6, s7, s8, s9]) rfl ?_
          show Steps p.tables e below (T0.setTop (mkF m 99 #[.val (.ref a1), .val (.int p1), .val (.int p2), .val (.int (i + (1 : Int32))), .val (.int ((own_B us i) &&& (255 : Int32))), s5, s6, s7, s8, s9] [])) _
          refine XS.goto X0.here hx rfl (pc0 := 99) (pc' := 2) rfl (hb hby d4_99) (by decide) (by decide) ?_
          show Steps p.tables e below (T0.setTop (mkF m 2 #[.val (.ref a1), .val (.int p1), .val (.int p2), .val (.int (i + (1 : Int32))), .val (.int ((own_B us i) &&& (255 : Int32))), s5, s6, s7, s8, s9] [])) _
          have e1 : (i + (1 : Int32)).toInt = i.toInt + 1 := own_add hi0 1 (by decide)
          exact j2 _ _ _ _ _ _ _ own_One.v hs5 hs6 hs7 hs8 hs9 ⟨by have := hi0.1; omega, by have := hto.2; omega⟩ (by omega) hrt
        · rw [if_neg h2] at hrt
          show Steps p.tables e below (T0.setTop (mkF m 93 #[.val (.ref a1), .val (.int p1), .val (.int p2), .val (.int i), .val (.int ((own_B us i) &&& (255 : Int32))), s5, s6, s7, s8, s9] [(.int (128 : Int32)), (.int ((own_B us i) &&& (255 : Int32)))])) _
          refine XS.icmpYes X0.here hx rfl (pc0 := 93) (pc' := 102) rfl (hb hby d4_93) rfl (flt h2).2.1 (by decide) (by decide) ?_
          show Steps p.tables e below (T0.setTop (mkF m 102 #[.val (.ref a1), .val (.int p1), .val (.int p2), .val (.int i), .val (.int ((own_B us i) &&& (255 : Int32))), s5, s6, s7, s8, s9] [])) _
          refine XS.sipush X0.here hx rfl (hb hby d4_102) ?_
          show Steps p.tables e below (T0.setTop (mkF m 105 #[.val (.ref a1), .val (.int p1), .val (.int p2), .val (.int i), .val (.int ((own_B us i) &&& (255 : Int32))), s5, s6, s7, s8, s9] [(.int (128 : Int32))])) _
          refine XS.istore X0.here hx rfl (hb hby d4_105) rfl (l' := #[.val (.ref a1), .val (.int p1), .val (.int p2), .val (.int i), .val (.int ((own_B us i) &&& (255 : Int32))), s5, .val (.int (128 : Int32)), s7, s8, s9]) (by rcases hs6 with q | ⟨_, q⟩ <;> subst q <;> rfl) ?_
          show Steps p.tables e below (T0.setTop (mkF m 107 #[.val (.ref a1), .val (.int p1), .val (.int p2), .val (.int i), .val (.int ((own_B us i) &&& (255 : Int32))), s5, .val (.int (128 : Int32)), s7, s8, s9] [])) _
          refine XS.sipush X0.here hx rfl (hb hby d4_107) ?_
          show Steps p.tables e below (T0.setTop (mkF m 110 #[.val (.ref a1), .val (.int p1), .val (.int p2), .val (.int i), .val (.int ((own_B us i) &&& (255 : Int32))), s5, .val (.int (128 : Int32)), s7, s8, s9] [(.int (191 : Int32))])) _
          refine XS.istore X0.here hx rfl (hb hby d4_110) rfl (l' := #[.val (.ref a1), .val (.int p1), .val (.int p2), .val (.int i), .val (.int ((own_B us i) &&& (255 : Int32))), s5, .val (.int (128 : Int32)), .val (.int (191 : Int32)), s8, s9]) (by rcases hs7 with q | ⟨_, q⟩ <;> subst q <;> rfl) ?_
          show Steps p.tables e below (T0.setTop (mkF m 112 #[.val (.ref a1), .val (.int p1), .val (.int p2), .val (.int i), .val (.int ((own_B us i) &&& (255 : Int32))), s5, .val (.int (128 : Int32)), .val (.int (191 : Int32)), s8, s9] [])) _
          refine t112 X0 hx hZ hby hret e0 V1 hto hs5 hs8 hs9 hi0 (fun j t5 t6 t7 t8 t9 hj htj o5 o6 o7 o8 o9 h => ?_) hrt
          have a2 : (i + (2 : Int32)).toInt = i.toInt + 2 := own_add hi0 2 (by decide)
          have a3 : (i + (3 : Int32)).toInt = i.toInt + 3 := own_add hi0 3 (by decide)
          have a4 : (i + (4 : Int32)).toInt = i.toInt + 4 := own_add hi0 4 (by decide)
          have hj' : i.toInt + 2 ≤ j.toInt ∧ j.toInt ≤ i.toInt + 4 := by rcases hj with rfl | rfl | rfl <;> omega
          rw [Int32.lt_iff_toInt_lt] at htj
          exact j2 _ _ _ _ _ _ _ own_One.v o5 o6 o7 o8 o9 ⟨by have := hi0.1; omega, by have := hto.2; omega⟩ (by omega) h
    show Steps p.tables e below (T0.setTop (mkF m 7 #[.val (.ref a1), .val (.int p1), .val (.int p2), .val (.int i), s4, s5, s6, s7, s8, s9] [])) _
    refine XS.iloadN X0.here hx rfl (hb hby d4_7) rfl ?_
    show Steps p.tables e below (T0.setTop (mkF m 8 #[.val (.ref a1), .val (.int p1), .val (.int p2), .val (.int i), s4, s5, s6, s7, s8, s9] [(.int i)])) _
    refine XS.bipush X0.here hx rfl (hb hby d4_8) ?_
    show Steps p.tables e below (T0.setTop (mkF m 10 #[.val (.ref a1), .val (.int p1), .val (.int p2), .val (.int i), s4, s5, s6, s7, s8, s9] [(.int (8 : Int32)), (.int i)])) _
    refine XS.iadd X0.here hx rfl (hb hby d4_10) rfl ?_
    show Steps p.tables e below (T0.setTop (mkF m 11 #[.val (.ref a1), .val (.int p1), .val (.int p2), .val (.int i), s4, s5, s6, s7, s8, s9] [(.int (i + (8 : Int32)))])) _
    refine XS.iloadN X0.here hx rfl (hb hby d4_11) rfl ?_
    rw [own_in] at hr
    by_cases h8 : p2 < i + (8 : Int32)
    · rw [if_pos h8] at hr
      show Steps p.tables e below (T0.setTop (mkF m 12 #[.val (.ref a1), .val (.int p1), .val (.int p2), .val (.int i), s4, s5, s6, s7, s8, s9] [(.int p2), (.int (i + (8 : Int32)))])) _
      refine XS.icmpYes X0.here hx rfl (pc0 := 12) (pc' := 71) rfl (hb hby d4_12) rfl (tlt h8).2.2.1 (by decide) (by decide) ?_
      show Steps p.tables e below (T0.setTop (mkF m 71 #[.val (.ref a1), .val (.int p1), .val (.int p2), .val (.int i), s4, s5, s6, s7, s8, s9] [])) _
      exact tail hr
    · rw [if_neg h8] at hr
      obtain ⟨c253, r253, q253, s253, n253, H253, G253⟩ := id V1
      have i253 : ¬ (i < 0 ∨ c253.slots.size ≤ (i).toNatClampNeg) := inb_of s253 (own_i8 hi0 hto h8)
      have a253 : c253.slots[(i).toNatClampNeg]? = some (.int (own_B us i)) := Has.at H253 i253 (own_get us _)
      obtain ⟨c254, r254, q254, s254, n254, H254, G254⟩ := id V1
      have i254 : ¬ ((i + (1 : Int32)) < 0 ∨ c254.slots.size ≤ ((i + (1 : Int32))).toNatClampNeg) := inb_of s254 (own_ix 1 8 hi0 hto h8 (by decide))
      have a254 : c254.slots[((i + (1 : Int32))).toNatClampNeg]? = some (.int (own_B us (i + (1 : Int32)))) := Has.at H254 i254 (own_get us _)
      obtain ⟨c255, r255, q255, s255, n255, H255, G255⟩ := id V1
      have i255 : ¬ ((i + (2 : Int32)) < 0 ∨ c255.slots.size ≤ ((i + (2 : Int32))).toNatClampNeg) := inb_of s255 (own_ix 2 8 hi0 hto h8 (by decide))
      have a255 : c255.slots[((i + (2 : Int32))).toNatClampNeg]? = some (.int (own_B us (i + (2 : Int32)))) := Has.at H255 i255 (own_get us _)
      obtain ⟨c256, r256, q256, s256, n256, H256, G256⟩ := id V1
      have i256 : ¬ ((i + (3 : Int32)) < 0 ∨ c256.slots.size ≤ ((i + (3 : Int32))).toNatClampNeg) := inb_of s256 (own_ix 3 8 hi0 hto h8 (by decide))
      have a256 : c256.slots[((i + (3 : Int32))).toNatClampNeg]? = some (.int (own_B us (i + (3 : Int32)))) := Has.at H256 i256 (own_get us _)
      obtain ⟨c257, r257, q257, s257, n257, H257, G257⟩ := id V1
      have i257 : ¬ ((i + (4 : Int32)) < 0 ∨ c257.slots.size ≤ ((i + (4 : Int32))).toNatClampNeg) := inb_of s257 (own_ix 4 8 hi0 hto h8 (by decide))
      have a257 : c257.slots[((i + (4 : Int32))).toNatClampNeg]? = some (.int (own_B us (i + (4 : Int32)))) := Has.at H257 i257 (own_get us _)
      obtain ⟨c258, r258, q258, s258, n258, H258, G258⟩ := id V1
      have i258 : ¬ ((i + (5 : Int32)) < 0 ∨ c258.slots.size ≤ ((i + (5 : Int32))).toNatClampNeg) := inb_of s258 (own_ix 5 8 hi0 hto h8 (by decide))
      have a258 : c258.slots[((i + (5 : Int32))).toNatClampNeg]? = some (.int (own_B us (i + (5 : Int32)))) := Has.at H258 i258 (own_get us _)
      obtain ⟨c259, r259, q259, s259, n259, H259, G259⟩ := id V1
      have i259 : ¬ ((i + (6 : Int32)) < 0 ∨ c259.slots.size ≤ ((i + (6 : Int32))).toNatClampNeg) := inb_of s259 (own_ix 6 8 hi0 hto h8 (by decide))
      have a259 : c259.slots[((i + (6 : Int32))).toNatClampNeg]? = some (.int (own_B us (i + (6 : Int32)))) := Has.at H259 i259 (own_get us _)
      obtain ⟨c260, r260, q260, s260, n260, H260, G260⟩ := id V1
      have i260 : ¬ ((i + (7 : Int32)) < 0 ∨ c260.slots.size ≤ ((i + (7 : Int32))).toNatClampNeg) := inb_of s260 (own_ix 7 8 hi0 hto h8 (by decide))
      have a260 : c260.slots[((i + (7 : Int32))).toNatClampNeg]? = some (.int (own_B us (i + (7 : Int32)))) := Has.at H260 i260 (own_get us _)
      show Steps p.tables e below (T0.setTop (mkF m 12 #[.val (.ref a1), .val (.int p1), .val (.int p2), .val (.int i), s4, s5, s6, s7, s8, s9] [(.int p2), (.int (i + (8 : Int32)))])) _
      refine XS.icmpNo X0.here hx rfl (hb hby d4_12) rfl (flt h8).2.2.1 ?_
      show Steps p.tables e below (T0.setTop (mkF m 15 #[.val (.ref a1), .val (.int p1), .val (.int p2), .val (.int i), s4, s5, s6, s7, s8, s9] [])) _
      refine XS.aloadN X0.here hx rfl (hb hby d4_15) rfl rfl ?_
      show Steps p.tables e below (T0.setTop (mkF m 16 #[.val (.ref a1), .val (.int p1), .val (.int p2), .val (.int i), s4, s5, s6, s7, s8, s9] [(.ref a1)])) _
      refine XS.iloadN X0.here hx rfl (hb hby d4_16) rfl ?_
      show Steps p.tables e below (T0.setTop (mkF m 17 #[.val (.ref a1), .val (.int p1), .val (.int p2), .val (.int i), s4, s5, s6, s7, s8, s9] [(.int i), (.ref a1)])) _
      refine X0.baloadBytes hx (j := i) (v := (.int (own_B us i))) (by rw [e0]; exact r253.1) (State.isArrayOf_alike hZ.alike r253.2.1) r253.2.2 i253 a253 (g := (mkF m 17 #[.val (.ref a1), .val (.int p1), .val (.int p2), .val (.int i), s4, s5, s6, s7, s8, s9] [(.int i), (.ref a1)])) rfl rfl (hb hby d4_17) _ ?_
      show Steps p.tables e below (T0.setTop (mkF m 18 #[.val (.ref a1), .val (.int p1), .val (.int p2), .val (.int i), s4, s5, s6, s7, s8, s9] [(.int (own_B us i))])) _
      refine XS.aloadN X0.here hx rfl (hb hby d4_18) rfl rfl ?_
      show Steps p.tables e below (T0.setTop (mkF m 19 #[.val (.ref a1), .val (.int p1), .val (.int p2), .val (.int i), s4, s5, s6, s7, s8, s9] [(.ref a1), (.int (own_B us i))])) _
      refine XS.iloadN X0.here hx rfl (hb hby d4_19) rfl ?_
      show Steps p.tables e below (T0.setTop (mkF m 20 #[.val (.ref a1), .val (.int p1), .val (.int p2), .val (.int i), s4, s5, s6, s7, s8, s9] [(.int i), (.ref a1), (.int (own_B us i))])) _
      refine XS.iconst X0.here hx rfl (hb hby d4_20) ?_
      show Steps p.tables e below (T0.setTop (mkF m 21 #[.val (.ref a1), .val (.int p1), .val (.int p2), .val (.int i), s4, s5, s6, s7, s8, s9] [(.int (1 : Int32)), (.int i), (.ref a1), (.int (own_B us i))])) _
      refine XS.iadd X0.here hx rfl (hb hby d4_21) rfl ?_
      show Steps p.tables e below (T0.setTop (mkF m 22 #[.val (.ref a1), .val (.int p1), .val (.int p2), .val (.int i), s4, s5, s6, s7, s8, s9] [(.int (i + (1 : Int32))), (.ref a1), (.int (own_B us i))])) _
      refine X0.baloadBytes hx (j := (i + (1 : Int32))) (v := (.int (own_B us (i + (1 : Int32))))) (by rw [e0]; exact r254.1) (State.isArrayOf_alike hZ.alike r254.2.1) r254.2.2 i254 a254 (g := (mkF m 22 #[.val (.ref a1), .val (.int p1), .val (.int p2), .val (.int i), s4, s5, s6, s7, s8, s9] [(.int (i + (1 : Int32))), (.ref a1), (.int (own_B us i))])) rfl rfl (hb hby d4_22) _ ?_
      show Steps p.tables e below (T0.setTop (mkF m 23 #[.val (.ref a1), .val (.int p1), .val (.int p2), .val (.int i), s4, s5, s6, s7, s8, s9] [(.int (own_B us (i + (1 : Int32)))), (.int (own_B us i))])) _
      refine XS.ior X0.here hx rfl (hb hby d4_23) rfl ?_
      show Steps p.tables e below (T0.setTop (mkF m 24 #[.val (.ref a1), .val (.int p1), .val (.int p2), .val (.int i), s4, s5, s6, s7, s8, s9] [(.int ((own_B us i) ||| (own_B us (i + (1 : Int32)))))])) _
      refine XS.aloadN X0.here hx rfl (hb hby d4_24) rfl rfl ?_
      show Steps p.tables e below (T0.setTop (mkF m 25 #[.val (.ref a1), .val (.int p1), .val (.int p2), .val (.int i), s4, s5, s6, s7, s8, s9] [(.ref a1), (.int ((own_B us i) ||| (own_B us (i + (1 : Int32)))))])) _
      refine XS.iloadN X0.here hx rfl (hb hby d4_25) rfl ?_
      show Steps p.tables e below (T0.setTop (mkF m 26 #[.val (.ref a1), .val (.int p1), .val (.int p2), .val (.int i), s4, s5, s6, s7, s8, s9] [(.int i), (.ref a1), (.int ((own_B us i) ||| (own_B us (i + (1 : Int32)))))])) _
      refine XS.iconst X0.here hx rfl (hb hby d4_26) ?_
      show Steps p.tables e below (T0.setTop (mkF m 27 #[.val (.ref a1), .val (.int p1), .val (.int p2), .val (.int i), s4, s5, s6, s7, s8, s9] [(.int (2 : Int32)), (.int i), (.ref a1), (.int ((own_B us i) ||| (own_B us (i + (1 : Int32)))))])) _
      refine XS.iadd X0.here hx rfl (hb hby d4_27) rfl ?_
      show Steps p.tables e below (T0.setTop (mkF m 28 #[.val (.ref a1), .val (.int p1), .val (.int p2), .val (.int i), s4, s5, s6, s7, s8, s9] [(.int (i + (2 : Int32))), (.ref a1), (.int ((own_B us i) ||| (own_B us (i + (1 : Int32)))))])) _
      refine X0.baloadBytes hx (j := (i + (2 : Int32))) (v := (.int (own_B us (i + (2 : Int32))))) (by rw [e0]; exact r255.1) (State.isArrayOf_alike hZ.alike r255.2.1) r255.2.2 i255 a255 (g := (mkF m 28 #[.val (.ref a1), .val (.int p1), .val (.int p2), .val (.int i), s4, s5, s6, s7, s8, s9] [(.int (i + (2 : Int32))), (.ref a1), (.int ((own_B us i) ||| (own_B us (i + (1 : Int32)))))])) rfl rfl (hb hby d4_28) _ ?_
      show Steps p.tables e below (T0.setTop (mkF m 29 #[.val (.ref a1), .val (.int p1), .val (.int p2), .val (.int i), s4, s5, s6, s7, s8, s9] [(.int (own_B us (i + (2 : Int32)))), (.int ((own_B us i) ||| (own_B us (i + (1 : Int32)))))])) _
      refine XS.ior X0.here hx rfl (hb hby d4_29) rfl ?_
      show Steps p.tables e below (T0.setTop (mkF m 30 #[.val (.ref a1), .val (.int p1), .val (.int p2), .val (.int i), s4, s5, s6, s7, s8, s9] [(.int (((own_B us i) ||| (own_B us (i + (1 : Int32)))) ||| (own_B us (i + (2 : Int32)))))])) _
      refine XS.aloadN X0.here hx rfl (hb hby d4_30) rfl rfl ?_
      show Steps p.tables e below (T0.setTop (mkF m 31 #[.val (.ref a1), .val (.int p1), .val (.int p2), .val (.int i), s4, s5, s6, s7, s8, s9] [(.ref a1), (.int (((own_B us i) ||| (own_B us (i + (1 : Int32)))) ||| (own_B us (i + (2 : Int32)))))])) _
      refine XS.iloadN X0.here hx rfl (hb hby d4_31) rfl ?_
      show Steps p.tables e below (T0.setTop (mkF m 32 #[.val (.ref a1), .val (.int p1), .val (.int p2), .val (.int i), s4, s5, s6, s7, s8, s9] [(.int i), (.ref a1), (.int (((own_B us i) ||| (own_B us (i + (1 : Int32)))) ||| (own_B us (i + (2 : Int32)))))])) _
      refine XS.iconst X0.here hx rfl (hb hby d4_32) ?_
      show Steps p.tables e below (T0.setTop (mkF m 33 #[.val (.ref a1), .val (.int p1), .val (.int p2), .val (.int i), s4, s5, s6, s7, s8, s9] [(.int (3 : Int32)), (.int i), (.ref a1), (.int (((own_B us i) ||| (own_B us (i + (1 : Int32)))) ||| (own_B us (i + (2 : Int32)))))])) _
      refine XS.iadd X0.here hx rfl (hb hby d4_33) rfl ?_
      show Steps p.tables e below (T0.setTop (mkF m 34 #[.val (.ref a1), .val (.int p1), .val (.int p2), .val (.int i), s4, s5, s6, s7, s8, s9] [(.int (i + (3 : Int32))), (.ref a1), (.int (((own_B us i) ||| (own_B us (i + (1 : Int32)))) ||| (own_B us (i + (2 : Int32)))))])) _
      refine X0.baloadBytes hx (j := (i + (3 : Int32))) (v := (.int (own_B us (i + (3 : Int32))))) (by rw [e0]; exact r256.1) (State.isArrayOf_alike hZ.alike r256.2.1) r256.2.2 i256 a256 (g := (mkF m 34 #[.val (.ref a1), .val (.int p1), .val (.int p2), .val (.int i), s4, s5, s6, s7, s8, s9] [(.int (i + (3 : Int32))), (.ref a1), (.int (((own_B us i) ||| (own_B us (i + (1 : Int32)))) ||| (own_B us (i + (2 : Int32)))))])) rfl rfl (hb hby d4_34) _ ?_
      show Steps p.tables e below (T0.setTop (mkF m 35 #[.val (.ref a1), .val (.int p1), .val (.int p2), .val (.int i), s4, s5, s6, s7, s8, s9] [(.int (own_B us (i + (3 : Int32)))), (.int (((own_B us i) ||| (own_B us (i + (1 : Int32)))) ||| (own_B us (i + (2 : Int32)))))])) _
      refine XS.ior X0.here hx rfl (hb hby d4_35) rfl ?_
      show Steps p.tables e below (T0.setTop (mkF m 36 #[.val (.ref a1), .val (.int p1), .val (.int p2), .val (.int i), s4, s5, s6, s7, s8, s9] [(.int ((((own_B us i) ||| (own_B us (i + (1 : Int32)))) ||| (own_B us (i + (2 : Int32)))) ||| (own_B us (i + (3 : Int32)))))])) _
      refine XS.aloadN X0.here hx rfl (hb hby d4_36) rfl rfl ?_
      show Steps p.tables e below (T0.setTop (mkF m 37 #[.val (.ref a1), .val (.int p1), .val (.int p2), .val (.int i), s4, s5, s6, s7, s8, s9] [(.ref a1), (.int ((((own_B us i) ||| (own_B us (i + (1 : Int32)))) ||| (own_B us (i + (2 : Int32)))) ||| (own_B us (i + (3 : Int32)))))])) _
      refine XS.iloadN X0.here hx rfl (hb hby d4_37) rfl ?_
      show Steps p.tables e below (T0.setTop (mkF m 38 #[.val (.ref a1), .val (.int p1), .val (.int p2), .val (.int i), s4, s5, s6, s7, s8, s9] [(.int i), (.ref a1), (.int ((((own_B us i) ||| (own_B us (i + (1 : Int32)))) ||| (own_B us (i + (2 : Int32)))) ||| (own_B us (i + (3 : Int32)))))])) _
      refine XS.iconst X0.here hx rfl (hb hby d4_38) ?_
      show Steps p.tables e below (T0.setTop (mkF m 39 #[.val (.ref a1), .val (.int p1), .val (.int p2), .val (.int i), s4, s5, s6, s7, s8, s9] [(.int (4 : Int32)), (.int i), (.ref a1), (.int ((((own_B us i) ||| (own_B us (i + (1 : Int32)))) ||| (own_B us (i + (2 : Int32)))) ||| (own_B us (i + (3 : Int32)))))])) _
      refine XS.iadd X0.here hx rfl (hb hby d4_39) rfl ?_
      show Steps p.tables e below (T0.setTop (mkF m 40 #[.val (.ref a1), .val (.int p1), .val (.int p2), .val (.int i), s4, s5, s6, s7, s8, s9] [(.int (i + (4 : Int32))), (.ref a1), (.int ((((own_B us i) ||| (own_B us (i + (1 : Int32)))) ||| (own_B us (i + (2 : Int32)))) ||| (own_B us (i + (3 : Int32)))))])) _
      refine X0.baloadBytes hx (j := (i + (4 : Int32))) (v := (.int (own_B us (i + (4 : Int32))))) (by rw [e0]; exact r257.1) (State.isArrayOf_alike hZ.alike r257.2.1) r257.2.2 i257 a257 (g := (mkF m 40 #[.val (.ref a1), .val (.int p1), .val (.int p2), .val (.int i), s4, s5, s6, s7, s8, s9] [(.int (i + (4 : Int32))), (.ref a1), (.int ((((own_B us i) ||| (own_B us (i + (1 : Int32)))) ||| (own_B us (i + (2 : Int32)))) ||| (own_B us (i + (3 : Int32)))))])) rfl rfl (hb hby d4_40) _ ?_
      show Steps p.tables e below (T0.setTop (mkF m 41 #[.val (.ref a1), .val (.int p1), .val (.int p2), .val (.int i), s4, s5, s6, s7, s8, s9] [(.int (own_B us (i + (4 : Int32)))), (.int ((((own_B us i) ||| (own_B us (i + (1 : Int32)))) ||| (own_B us (i + (2 : Int32)))) ||| (own_B us (i + (3 : Int32)))))])) _
      refine XS.ior X0.here hx rfl (hb hby d4_41) rfl ?_
      show Steps p.tables e below (T0.setTop (mkF m 42 #[.val (.ref a1), .val (.int p1), .val (.int p2), .val (.int i), s4, s5, s6, s7, s8, s9] [(.int (((((own_B us i) ||| (own_B us (i + (1 : Int32)))) ||| (own_B us (i + (2 : Int32)))) ||| (own_B us (i + (3 : Int32)))) ||| (own_B us (i + (4 : Int32)))))])) _
      refine XS.aloadN X0.here hx rfl (hb hby d4_42) rfl rfl ?_
      show Steps p.tables e below (T0.setTop (mkF m 43 #[.val (.ref a1), .val (.int p1), .val (.int p2), .val (.int i), s4, s5, s6, s7, s8, s9] [(.ref a1), (.int (((((own_B us i) ||| (own_B us (i + (1 : Int32)))) ||| (own_B us (i + (2 : Int32)))) ||| (own_B us (i + (3 : Int32)))) ||| (own_B us (i + (4 : Int32)))))])) _
      refine XS.iloadN X0.here hx rfl (hb hby d4_43) rfl ?_
      show Steps p.tables e below (T0.setTop (mkF m 44 #[.val (.ref a1), .val (.int p1), .val (.int p2), .val (.int i), s4, s5, s6, s7, s8, s9] [(.int i), (.ref a1), (.int (((((own_B us i) ||| (own_B us (i + (1 : Int32)))) ||| (own_B us (i + (2 : Int32)))) ||| (own_B us (i + (3 : Int32)))) ||| (own_B us (i + (4 : Int32)))))])) _
      refine XS.iconst X0.here hx rfl (hb hby d4_44) ?_
      show Steps p.tables e below (T0.setTop (mkF m 45 #[.val (.ref a1), .val (.int p1), .val (.int p2), .val (.int i), s4, s5, s6, s7, s8, s9] [(.int (5 : Int32)), (.int i), (.ref a1), (.int (((((own_B us i) ||| (own_B us (i + (1 : Int32)))) ||| (own_B us (i + (2 : Int32)))) ||| (own_B us (i + (3 : Int32)))) ||| (own_B us (i + (4 : Int32)))))])) _
      refine XS.iadd X0.here hx rfl (hb hby d4_45) rfl ?_
      show Steps p.tables e below (T0.setTop (mkF m 46 #[.val (.ref a1), .val (.int p1), .val (.int p2), .val (.int i), s4, s5, s6, s7, s8, s9] [(.int (i + (5 : Int32))), (.ref a1), (.int (((((own_B us i) ||| (own_B us (i + (1 : Int32)))) ||| (own_B us (i + (2 : Int32)))) ||| (own_B us (i + (3 : Int32)))) ||| (own_B us (i + (4 : Int32)))))])) _
      refine X0.baloadBytes hx (j := (i + (5 : Int32))) (v := (.int (own_B us (i + (5 : Int32))))) (by rw [e0]; exact r258.1) (State.isArrayOf_alike hZ.alike r258.2.1) r258.2.2 i258 a258 (g := (mkF m 46 #[.val (.ref a1), .val (.int p1), .val (.int p2), .val (.int i), s4, s5, s6, s7, s8, s9] [(.int (i + (5 : Int32))), (.ref a1), (.int (((((own_B us i) ||| (own_B us (i + (1 : Int32)))) ||| (own_B us (i + (2 : Int32)))) ||| (own_B us (i + (3 : Int32)))) ||| (own_B us (i + (4 : Int32)))))])) rfl rfl (hb hby d4_46) _ ?_
      show Steps p.tables e below (T0.setTop (mkF m 47 #[.val (.ref a1), .val (.int p1), .val (.int p2), .val (.int i), s4, s5, s6, s7, s8, s9] [(.int (own_B us (i + (5 : Int32)))), (.int (((((own_B us i) ||| (own_B us (i + (1 : Int32)))) ||| (own_B us (i + (2 : Int32)))) ||| (own_B us (i + (3 : Int32)))) ||| (own_B us (i + (4 : Int32)))))])) _
      refine XS.ior X0.here hx rfl (hb hby d4_47) rfl ?_
      show Steps p.tables e below (T0.setTop (mkF m 48 #[.val (.ref a1), .val (.int p1), .val (.int p2), .val (.int i), s4, s5, s6, s7, s8, s9] [(.int ((((((own_B us i) ||| (own_B us (i + (1 : Int32)))) ||| (own_B us (i + (2 : Int32)))) ||| (own_B us (i + (3 : Int32)))) ||| (own_B us (i + (4 : Int32)))) ||| (own_B us (i + (5 : Int32)))))])) _
      refine XS.aloadN X0.here hx rfl (hb hby d4_48) rfl rfl ?_
      show Steps p.tables e below (T0.setTop (mkF m 49 #[.val (.ref a1), .val (.int p1), .val (.int p2), .val (.int i), s4, s5, s6, s7, s8, s9] [(.ref a1), (.int ((((((own_B us i) ||| (own_B us (i + (1 : Int32)))) ||| (own_B us (i + (2 : Int32)))) ||| (own_B us (i + (3 : Int32)))) ||| (own_B us (i + (4 : Int32)))) ||| (own_B us (i + (5 : Int32)))))])) _
      refine XS.iloadN X0.here hx rfl (hb hby d4_49) rfl ?_
      show Steps p.tables e below (T0.setTop (mkF m 50 #[.val (.ref a1), .val (.int p1), .val (.int p2), .val (.int i), s4, s5, s6, s7, s8, s9] [(.int i), (.ref a1), (.int ((((((own_B us i) ||| (own_B us (i + (1 : Int32)))) ||| (own_B us (i + (2 : Int32)))) ||| (own_B us (i + (3 : Int32)))) ||| (own_B us (i + (4 : Int32)))) ||| (own_B us (i + (5 : Int32)))))])) _
      refine XS.bipush X0.here hx rfl (hb hby d4_50) ?_
      show Steps p.tables e below (T0.setTop (mkF m 52 #[.val (.ref a1), .val (.int p1), .val (.int p2), .val (.int i), s4, s5, s6, s7, s8, s9] [(.int (6 : Int32)), (.int i), (.ref a1), (.int ((((((own_B us i) ||| (own_B us (i + (1 : Int32)))) ||| (own_B us (i + (2 : Int32)))) ||| (own_B us (i + (3 : Int32)))) ||| (own_B us (i + (4 : Int32)))) ||| (own_B us (i + (5 : Int32)))))])) _
      refine XS.iadd X0.here hx rfl (hb hby d4_52) rfl ?_
      show Steps p.tables e below (T0.setTop (mkF m 53 #[.val (.ref a1), .val (.int p1), .val (.int p2), .val (.int i), s4, s5, s6, s7, s8, s9] [(.int (i + (6 : Int32))), (.ref a1), (.int ((((((own_B us i) ||| (own_B us (i + (1 : Int32)))) ||| (own_B us (i + (2 : Int32)))) ||| (own_B us (i + (3 : Int32)))) ||| (own_B us (i + (4 : Int32)))) ||| (own_B us (i + (5 : Int32)))))])) _
      refine X0.baloadBytes hx (j := (i + (6 : Int32))) (v := (.int (own_B us (i + (6 : Int32))))) (by rw [e0]; exact r259.1) (State.isArrayOf_alike hZ.alike r259.2.1) r259.2.2 i259 a259 (g := (mkF m 53 #[.val (.ref a1), .val (.int p1), .val (.int p2), .val (.int i), s4, s5, s6, s7, s8, s9] [(.int (i + (6 : Int32))), (.ref a1), (.int ((((((own_B us i) ||| (own_B us (i + (1 : Int32)))) ||| (own_B us (i + (2 : Int32)))) ||| (own_B us (i + (3 : Int32)))) ||| (own_B us (i + (4 : Int32)))) ||| (own_B us (i + (5 : Int32)))))])) rfl rfl (hb hby d4_53) _ ?_
      show Steps p.tables e below (T0.setTop (mkF m 54 #[.val (.ref a1), .val (.int p1), .val (.int p2), .val (.int i), s4, s5, s6, s7, s8, s9] [(.int (own_B us (i + (6 : Int32)))), (.int ((((((own_B us i) ||| (own_B us (i + (1 : Int32)))) ||| (own_B us (i + (2 : Int32)))) ||| (own_B us (i + (3 : Int32)))) ||| (own_B us (i + (4 : Int32)))) ||| (own_B us (i + (5 : Int32)))))])) _
      refine XS.ior X0.here hx rfl (hb hby d4_54) rfl ?_
      show Steps p.tables e below (T0.setTop (mkF m 55 #[.val (.ref a1), .val (.int p1), .val (.int p2), .val (.int i), s4, s5, s6, s7, s8, s9] [(.int (((((((own_B us i) ||| (own_B us (i + (1 : Int32)))) ||| (own_B us (i + (2 : Int32)))) ||| (own_B us (i + (3 : Int32)))) ||| (own_B us (i + (4 : Int32)))) ||| (own_B us (i + (5 : Int32)))) ||| (own_B us (i + (6 : Int32)))))])) _
      refine XS.aloadN X0.here hx rfl (hb hby d4_55) rfl rfl ?_
      show Steps p.tables e below (T0.setTop (mkF m 56 #[.val (.ref a1), .val (.int p1), .val (.int p2), .val (.int i), s4, s5, s6, s7, s8, s9] [(.ref a1), (.int (((((((own_B us i) ||| (own_B us (i + (1 : Int32)))) ||| (own_B us (i + (2 : Int32)))) ||| (own_B us (i + (3 : Int32)))) ||| (own_B us (i + (4 : Int32)))) ||| (own_B us (i + (5 : Int32)))) ||| (own_B us (i + (6 : Int32)))))])) _
      refine XS.iloadN X0.here hx rfl (hb hby d4_56) rfl ?_
      show Steps p.tables e below (T0.setTop (mkF m 57 #[.val (.ref a1), .val (.int p1), .val (.int p2), .val (.int i), s4, s5, s6, s7, s8, s9] [(.int i), (.ref a1), (.int (((((((own_B us i) ||| (own_B us (i + (1 : Int32)))) ||| (own_B us (i + (2 : Int32)))) ||| (own_B us (i + (3 : Int32)))) ||| (own_B us (i + (4 : Int32)))) ||| (own_B us (i + (5 : Int32)))) ||| (own_B us (i + (6 : Int32)))))])) _
      refine XS.bipush X0.here hx rfl (hb hby d4_57) ?_
      show Steps p.tables e below (T0.setTop (mkF m 59 #[.val (.ref a1), .val (.int p1), .val (.int p2), .val (.int i), s4, s5, s6, s7, s8, s9] [(.int (7 : Int32)), (.int i), (.ref a1), (.int (((((((own_B us i) ||| (own_B us (i + (1 : Int32)))) ||| (own_B us (i + (2 : Int32)))) ||| (own_B us (i + (3 : Int32)))) ||| (own_B us (i + (4 : Int32)))) ||| (own_B us (i + (5 : Int32)))) ||| (own_B us (i + (6 : Int32)))))])) _
      refine XS.iadd X0.here hx rfl (hb hby d4_59) rfl ?_
      show Steps p.tables e below (T0.setTop (mkF m 60 #[.val (.ref a1), .val (.int p1), .val (.int p2), .val (.int i), s4, s5, s6, s7, s8, s9] [(.int (i + (7 : Int32))), (.ref a1), (.int (((((((own_B us i) ||| (own_B us (i + (1 : Int32)))) ||| (own_B us (i + (2 : Int32)))) ||| (own_B us (i + (3 : Int32)))) ||| (own_B us (i + (4 : Int32)))) ||| (own_B us (i + (5 : Int32)))) ||| (own_B us (i + (6 : Int32)))))])) _
      refine X0.baloadBytes hx (j := (i + (7 : Int32))) (v := (.int (own_B us (i + (7 : Int32))))) (by rw [e0]; exact r260.1) (State.isArrayOf_alike hZ.alike r260.2.1) r260.2.2 i260 a260 (g := (mkF m 60 #[.val (.ref a1), .val (.int p1), .val (.int p2), .val (.int i), s4, s5, s6, s7, s8, s9] [(.int (i + (7 : Int32))), (.ref a1), (.int (((((((own_B us i) ||| (own_B us (i + (1 : Int32)))) ||| (own_B us (i + (2 : Int32)))) ||| (own_B us (i + (3 : Int32)))) ||| (own_B us (i + (4 : Int32)))) ||| (own_B us (i + (5 : Int32)))) ||| (own_B us (i + (6 : Int32)))))])) rfl rfl (hb hby d4_60) _ ?_
      show Steps p.tables e below (T0.setTop (mkF m 61 #[.val (.ref a1), .val (.int p1), .val (.int p2), .val (.int i), s4, s5, s6, s7, s8, s9] [(.int (own_B us (i + (7 : Int32)))), (.int (((((((own_B us i) ||| (own_B us (i + (1 : Int32)))) ||| (own_B us (i + (2 : Int32)))) ||| (own_B us (i + (3 : Int32)))) ||| (own_B us (i + (4 : Int32)))) ||| (own_B us (i + (5 : Int32)))) ||| (own_B us (i + (6 : Int32)))))])) _
      refine XS.ior X0.here hx rfl (hb hby d4_61) rfl ?_
      by_cases h9 : own_or8 (own_B us) i < (0 : Int32)
      · rw [if_pos h9] at hr
        show Steps p.tables e below (T0.setTop (mkF m 62 #[.val (.ref a1), .val (.int p1), .val (.int p2), .val (.int i), s4, s5, s6, s7, s8, s9] [(.int (own_or8 (own_B us) i))])) _
        refine XS.ifYes X0.here hx rfl (pc0 := 62) (pc' := 71) rfl (hb hby d4_62) rfl ((if0 _ _).trans (tlt h9).1) (by decide) (by decide) ?_
        show Steps p.tables e below (T0.setTop (mkF m 71 #[.val (.ref a1), .val (.int p1), .val (.int p2), .val (.int i), s4, s5, s6, s7, s8, s9] [])) _
        exact tail hr
      · rw [if_neg h9] at hr
        show Steps p.tables e below (T0.setTop (mkF m 62 #[.val (.ref a1), .val (.int p1), .val (.int p2), .val (.int i), s4, s5, s6, s7, s8, s9] [(.int (own_or8 (own_B us) i))])) _
        refine XS.ifNo X0.here hx rfl (hb hby d4_62) rfl ((if0 _ _).trans (flt h9).1) ?_
        show Steps p.tables e below (T0.setTop (mkF m 65 #[.val (.ref a1), .val (.int p1), .val (.int p2), .val (.int i), s4, s5, s6, s7, s8, s9] [])) _
        refine XS.iinc X0.here hx rfl (hb hby d4_65) rfl (l' := #[.val (.ref a1), .val (.int p1), .val (.int p2), .val (.int (i + (8 : Int32))), s4, s5, s6, s7, s8, s9]) rfl ?_
        show Steps p.tables e below (T0.setTop (mkF m 68 #[.val (.ref a1), .val (.int p1), .val (.int p2), .val (.int (i + (8 : Int32))), s4, s5, s6, s7, s8, s9] [])) _
        refine XS.goto X0.here hx rfl (pc0 := 68) (pc' := 7) rfl (hb hby d4_68) (by decide) (by decide) ?_
        show Steps p.tables e below (T0.setTop (mkF m 7 #[.val (.ref a1), .val (.int p1), .val (.int p2), .val (.int (i + (8 : Int32))), s4, s5, s6, s7, s8, s9] [])) _
        have e8 : (i + (8 : Int32)).toInt = i.toInt + 8 := own_add hi0 8 (by decide)
        rw [Int32.lt_iff_toInt_lt] at h8
        exact ih _ _ _ _ _ _ _ hs4 hs5 hs6 hs7 hs8 hs9 ⟨by have := hi0.1; omega, by have := hto.2; omega⟩ (by omega) (by omega) hr
theorem d4_0 : decode prog_315_method_2_code 0 = .ok (.iload_n 1, 1) := by decide +kernel
theorem d4_1 : decode prog_315_method_2_code 1 = .ok (.istore_n 3, 1) := by decide +kernel
theorem pn_com_example_reshelve_reshelve_Utf8 : plainName "com/example/reshelve/reshelve/Utf8" = true := by first | (simp [plainName, overriddenIn]; done) | decide +kernel
theorem ef_rm4 (m : MethodId) (a1 : Addr) (p1 : Int32) (p2 : Int32) : entryFrame m #[(.ref a1), (.int p1), (.int p2)] 10 = mkF m 0 #[.val (.ref a1), .val (.int p1), .val (.int p2), .unset, .unset, .unset, .unset, .unset, .unset, .unset] [] := by first | (simp [entryFrame, mkF, argsToLocals, Value.category]; done) | rfl
def Qrm4 (Z : State) (a1 : Addr) (p1 : Int32) (p2 : Int32) (us : List Int32) (ka : ClassId) (h0 : Heap) (n0 : Nat) (v : Option Value) (h : Heap) (L : List Loc) : Prop := v = some (.int (own_out (own_B us) p2 26 p1)) ∧ Fr n0 L ∧ h = h0
set_option maxRecDepth 65536 in
set_option maxHeartbeats 40000000 in
theorem rm4 (l : Launch) (Z : State) (a0 : Array Value) (hw : ∀ d ∈ tables_1, d.before a0 Z = true) (ws : List Jvm.Cond) (a1 : Addr) (p1 : Int32) (p2 : Int32) (us : List Int32) (ka : ClassId) (h0 : Heap) (n0 : Nat) (Z0 : n0 ≤ h0.size) (V1 : Arv Z h0 a1 ka .byte (24 : Int32) (us.map Value.int) (.int (0 : Int32))) (hfr : own_sm p1) (hto : own_sm p2) :
    MetFree l (⟨"com/example/reshelve/reshelve/Utf8", "firstFault", "([BII)I"⟩ : MethodName) (head1 (Jvm.Cond.code (⟨"com/example/reshelve/reshelve/Utf8", "firstFault", "([BII)I"⟩ : MethodName) prog_315_method_2_code 10 (some .int) :: ws) ({ frames := 0, cells := 0, slots := 0, locals := 0 } : Room)) (fun a U => a = #[(.ref a1), (.int p1), (.int p2)] ∧ Z.Warmed39 U.vm ∧ U.heap = h0) (fun _ _ _ _ _ => True) (fun _ U o U' => ∃ v L, o = .returned v ∧ Qrm4 Z a1 p1 p2 us ka h0 n0 v U'.heap L ∧ FrameEnd U o U' L ({ frames := 0, cells := 0, slots := 0, locals := 0 } : Room).cells ({ frames := 0, cells := 0, slots := 0, locals := 0 } : Room).slots) := by
  refine MetFree.of_bodySF (plainFor_of_name pn_com_example_reshelve_reshelve_Utf8) hisR ?_
  intro p e s m args below meth c s₁ Bd hml0 hP hK
  obtain ⟨rfl, hZ, hh⟩ := hP
  have hx := Bd.exec
  have hby := Bd.bytes
  have hml : c.maxLocals = 10 := hml0
  have hown : s.vm.findClass "com/example/reshelve/reshelve/Utf8" = some m.cls := findClass_of_methodNamed Bd.named
  have hnm := (name_of_methodNamed Bd.named Bd.method).1
  have X0 : Stand p l e ({ frames := 0, cells := 0, slots := 0, locals := 0 } : Room) s m #[(.ref a1), (.int p1), (.int p2)] below meth c s₁ [] 0 0 := Stand.of_body Bd
  have e0 : s₁.heap = h0 := by rw [← hh, Bd.state]; rfl
  have N0 := Fr.nil n0
  have pre0 : ∀ t, Steps p.tables e below (s₁.setTop (mkF m 0 #[.val (.ref a1), .val (.int p1), .val (.int p2), .unset, .unset, .unset, .unset, .unset, .unset, .unset] [])) t → Steps p.tables e below (s₁.setTop (entryFrame m #[(.ref a1), (.int p1), (.int p2)] 10)) t := fun t k => castTop (ef_rm4 m a1 p1 p2) k
  obtain ⟨fs, hr, hrun, hended, hW, hsame⟩ := X0.leave (v := some (.int (own_out (own_B us) p2 26 p1))) (fun h => by rw [Bd.returns] at h; cases h)
  refine ⟨_, _, pre0 _ ?_, hrun, hended, _, _, rfl, ?_, ⟨_, rfl⟩, hW, hsame.mono (by decide) (by decide)⟩
  · show Steps p.tables e below (s₁.setTop (mkF m 0 #[.val (.ref a1), .val (.int p1), .val (.int p2), .unset, .unset, .unset, .unset, .unset, .unset, .unset] [])) _
    refine XS.iloadN X0.here hx rfl (hb hby d4_0) rfl ?_
    show Steps p.tables e below (s₁.setTop (mkF m 1 #[.val (.ref a1), .val (.int p1), .val (.int p2), .unset, .unset, .unset, .unset, .unset, .unset, .unset] [(.int p1)])) _
    refine XS.istoreN X0.here hx rfl (hb hby d4_1) rfl (l' := #[.val (.ref a1), .val (.int p1), .val (.int p2), .val (.int p1), .unset, .unset, .unset, .unset, .unset, .unset]) rfl ?_
    show Steps p.tables e below (s₁.setTop (mkF m 2 #[.val (.ref a1), .val (.int p1), .val (.int p2), .val (.int p1), .unset, .unset, .unset, .unset, .unset, .unset] [])) _
    refine XS.iloadN X0.here hx rfl (hb hby d4_2) rfl ?_
    show Steps p.tables e below (s₁.setTop (mkF m 3 #[.val (.ref a1), .val (.int p1), .val (.int p2), .val (.int p1), .unset, .unset, .unset, .unset, .unset, .unset] [(.int p1)])) _
    refine XS.iloadN X0.here hx rfl (hb hby d4_3) rfl ?_
    unfold own_out at hr
    by_cases hj : p1 < p2
    · rw [if_pos hj] at hr
      show Steps p.tables e below (s₁.setTop (mkF m 4 #[.val (.ref a1), .val (.int p1), .val (.int p2), .val (.int p1), .unset, .unset, .unset, .unset, .unset, .unset] [(.int p2), (.int p1)])) _
      refine XS.icmpNo X0.here hx rfl (hb hby d4_4) rfl (tlt hj).2.1 ?_
      show Steps p.tables e below (s₁.setTop (mkF m 7 #[.val (.ref a1), .val (.int p1), .val (.int p2), .val (.int p1), .unset, .unset, .unset, .unset, .unset, .unset] [])) _
      exact loop4 X0 hx hZ hby Bd.returns e0 V1 hto 26 p1 _ _ _ _ _ _ (Or.inl rfl) (Or.inl rfl) (Or.inl rfl) (Or.inl rfl) (Or.inl rfl) (Or.inl rfl) hfr (by rw [Int32.lt_iff_toInt_lt] at hj; omega) (by have := hfr.1; have := hto.2; omega) hr
    · rw [if_neg hj] at hr
      show Steps p.tables e below (s₁.setTop (mkF m 4 #[.val (.ref a1), .val (.int p1), .val (.int p2), .val (.int p1), .unset, .unset, .unset, .unset, .unset, .unset] [(.int p2), (.int p1)])) _
      refine XS.icmpYes X0.here hx rfl (pc0 := 4) (pc' := 331) rfl (hb hby d4_4) rfl (flt hj).2.1 (by decide) (by decide) ?_
      show Steps p.tables e below (s₁.setTop (mkF m 331 #[.val (.ref a1), .val (.int p1), .val (.int p2), .val (.int p1), .unset, .unset, .unset, .unset, .unset, .unset] [])) _
      refine XS.iconst X0.here hx rfl (hb hby d4_331) ?_
      show Steps p.tables e below (s₁.setTop (mkF m 332 #[.val (.ref a1), .val (.int p1), .val (.int p2), .val (.int p1), .unset, .unset, .unset, .unset, .unset, .unset] [(.int (-1 : Int32))])) _
      exact retI X0 hx Bd.returns (hb hby d4_332) hr
  · show Qrm4 Z a1 p1 p2 us ka h0 n0 _ s₁.heap _
    rw [e0]
    exact ⟨rfl, N0, rfl⟩
theorem pd___BII_I : parseMethodDescriptor "([BII)I" = some ⟨[(.array .byte), .int, .int], some .int⟩ := by decide +kernel
theorem pd__IIIII_Z : parseMethodDescriptor "(IIIII)Z" = some ⟨[.int, .int, .int, .int, .int], some .boolean⟩ := by decide +kernel
set_option maxRecDepth 65536 in
set_option maxHeartbeats 40000000 in
theorem tl0 {p : Program} {l : Launch} {e : Env} {s : State} {m : MethodId} {args : Array Value} {below : List Frame} {meth : Method} {c : Code} {T0 : State} {locs : List Loc} {Z : State} {a0 : Array Value} {h0 : Heap} {n0 : Nat} {a1 : Addr} {x0 x1 x2 : Int64} {pc pk fr q to : Int32} {a b cc d : Nat} {us : List Int32} {ka : ClassId}
    (X0 : Stand p l e room_1 s m args below meth c T0 locs 1 24) (hx : p.tables.exec = Jvm.exec) (hZ : Z.Warmed39 s.vm) (hw : ∀ d ∈ tables_1, d.before a0 Z = true) (hby : c.code = code) (hml : c.maxLocals = 18) (hown : s.vm.findClass "com/example/reshelve/reshelve/Utf8FirstFaultPinLaw" = some m.cls) (e0 : T0.heap = h0) (N0 : Fr n0 locs) (Z0 : n0 ≤ h0.size) (V1 : Arv Z h0 a1 ka .byte (24 : Int32) (us.map Value.int) (.int (0 : Int32))) (hfr : own_sm fr) (hto : own_sm to)
    (hlaw : (own_out (own_B us) to 26 fr) = if q < to then (if to < q + (own_lenOf (Int32.ofNat a)) then q else if own_wf (own_lenOf (Int32.ofNat a)) (Int32.ofNat a) (Int32.ofNat b) (Int32.ofNat cc) (Int32.ofNat d) = 0 then q else -1) else -1) :
    ∃ (T' : State) (locs' : List Loc) (s17 : Slot), Stand p l e room_1 s m args below meth c T' locs' 1 24 ∧ Fr n0 locs' ∧ ∀ target, Steps p.tables e below (T'.setTop (mkF m 255 #[.val (.long x0), .second, .val (.long x1), .second, .val (.long x2), .second, .val (.int pc), .val (.int pk), .val (.int fr), .val (.int q), .val (.int to), .val (.ref a1), .val (.int (Int32.ofNat a)), .val (.int (Int32.ofNat b)), .val (.int (Int32.ofNat cc)), .val (.int (Int32.ofNat d)), .val (.int (own_lenOf (Int32.ofNat a))), s17] [(.int (1 : Int32))])) target → Steps p.tables e below (T0.setTop (mkF m 180 #[.val (.long x0), .second, .val (.long x1), .second, .val (.long x2), .second, .val (.int pc), .val (.int pk), .val (.int fr), .val (.int q), .val (.int to), .val (.ref a1), .val (.int (Int32.ofNat a)), .val (.int (Int32.ofNat b)), .val (.int (Int32.ofNat cc)), .val (.int (Int32.ofNat d)), .val (.int (own_lenOf (Int32.ofNat a))), .unset] [])) target := by
  by_cases h1 : q < to
  · by_cases h2 : to < q + (own_lenOf (Int32.ofNat a))
    · obtain ⟨_, _, ⟨T262, L262, k262, n262⟩, -, X262, ⟨Lc262, hQ262, l262, y262, z262⟩, st262⟩ := Jvm.LawKit.callS X0 hx (y := (⟨"com/example/reshelve/reshelve/Utf8", "firstFault", "([BII)I"⟩ : MethodName)) hown (mvT hZ (hw _ (List.mem_of_getElem? (i := 11) rfl))) (mvT hZ (hw _ (List.mem_of_getElem? (i := 12) rfl))) (mvT hZ (hw _ (List.mem_of_getElem? (i := 13) rfl))) (mvT hZ (hw _ (List.mem_of_getElem? (i := 14) rfl))) (by decide) (backOf (W := 0) (rm4 l Z a0 hw [] a1 fr to us ka h0 n0 Z0 V1 hfr hto) hZ (hw _ (List.mem_of_getElem? (i := 14) rfl)) (hw _ (List.mem_of_getElem? (i := 13) rfl)) (by decide) (by decide)) (g := (mkF m 242 #[.val (.long x0), .second, .val (.long x1), .second, .val (.long x2), .second, .val (.int pc), .val (.int pk), .val (.int fr), .val (.int q), .val (.int to), .val (.ref a1), .val (.int (Int32.ofNat a)), .val (.int (Int32.ofNat b)), .val (.int (Int32.ofNat cc)), .val (.int (Int32.ofNat d)), .val (.int (own_lenOf (Int32.ofNat a))), .val (.int q)] [(.int to), (.int fr), (.ref a1)])) rfl (by rw [hml]; rfl) (argsL := [(.ref a1), (.int fr), (.int to)]) (rest := []) (lenOf pd___BII_I rfl) rfl (by show 2 * 0 + _ ≤ _; exact Nat.le_of_eq rfl) (hb hby at_242) (fun _ _ => ⟨rfl, e0, (by decide : 1 + 0 ≤ _), (by decide : 24 + 0 ≤ _)⟩)
      dsimp only [Pt.U, Pt.locs, Pt.cells, Pt.slots] at X262 l262 y262 z262 st262 hQ262
      subst l262 y262 z262
      obtain ⟨rfl, N262q, e262⟩ := hQ262
      have N263 := Fr.app N0 N262q
      refine ⟨T262, _, .val (.int q), X262, N263, fun target kt => ?_⟩
      show Steps p.tables e below (T0.setTop (mkF m 180 #[.val (.long x0), .second, .val (.long x1), .second, .val (.long x2), .second, .val (.int pc), .val (.int pk), .val (.int fr), .val (.int q), .val (.int to), .val (.ref a1), .val (.int (Int32.ofNat a)), .val (.int (Int32.ofNat b)), .val (.int (Int32.ofNat cc)), .val (.int (Int32.ofNat d)), .val (.int (own_lenOf (Int32.ofNat a))), .unset] [])) _
      refine XS.iload X0.here hx rfl (hb hby at_180) rfl ?_
      show Steps p.tables e below (T0.setTop (mkF m 182 #[.val (.long x0), .second, .val (.long x1), .second, .val (.long x2), .second, .val (.int pc), .val (.int pk), .val (.int fr), .val (.int q), .val (.int to), .val (.ref a1), .val (.int (Int32.ofNat a)), .val (.int (Int32.ofNat b)), .val (.int (Int32.ofNat cc)), .val (.int (Int32.ofNat d)), .val (.int (own_lenOf (Int32.ofNat a))), .unset] [(.int q)])) _
      refine XS.iload X0.here hx rfl (hb hby at_182) rfl ?_
      show Steps p.tables e below (T0.setTop (mkF m 184 #[.val (.long x0), .second, .val (.long x1), .second, .val (.long x2), .second, .val (.int pc), .val (.int pk), .val (.int fr), .val (.int q), .val (.int to), .val (.ref a1), .val (.int (Int32.ofNat a)), .val (.int (Int32.ofNat b)), .val (.int (Int32.ofNat cc)), .val (.int (Int32.ofNat d)), .val (.int (own_lenOf (Int32.ofNat a))), .unset] [(.int to), (.int q)])) _
      refine XS.icmpYes X0.here hx rfl (pc0 := 184) (pc' := 193) rfl (hb hby at_184) rfl (tlt h1).1 (by decide) (by decide) ?_
      show Steps p.tables e below (T0.setTop (mkF m 193 #[.val (.long x0), .second, .val (.long x1), .second, .val (.long x2), .second, .val (.int pc), .val (.int pk), .val (.int fr), .val (.int q), .val (.int to), .val (.ref a1), .val (.int (Int32.ofNat a)), .val (.int (Int32.ofNat b)), .val (.int (Int32.ofNat cc)), .val (.int (Int32.ofNat d)), .val (.int (own_lenOf (Int32.ofNat a))), .unset] [])) _
      refine XS.iload X0.here hx rfl (hb hby at_193) rfl ?_
      show Steps p.tables e below (T0.setTop (mkF m 195 #[.val (.long x0), .second, .val (.long x1), .second, .val (.long x2), .second, .val (.int pc), .val (.int pk), .val (.int fr), .val (.int q), .val (.int to), .val (.ref a1), .val (.int (Int32.ofNat a)), .val (.int (Int32.ofNat b)), .val (.int (Int32.ofNat cc)), .val (.int (Int32.ofNat d)), .val (.int (own_lenOf (Int32.ofNat a))), .unset] [(.int q)])) _
      refine XS.iload X0.here hx rfl (hb hby at_195) rfl ?_
      show Steps p.tables e below (T0.setTop (mkF m 197 #[.val (.long x0), .second, .val (.long x1), .second, .val (.long x2), .second, .val (.int pc), .val (.int pk), .val (.int fr), .val (.int q), .val (.int to), .val (.ref a1), .val (.int (Int32.ofNat a)), .val (.int (Int32.ofNat b)), .val (.int (Int32.ofNat cc)), .val (.int (Int32.ofNat d)), .val (.int (own_lenOf (Int32.ofNat a))), .unset] [(.int (own_lenOf (Int32.ofNat a))), (.int q)])) _
      refine XS.iadd X0.here hx rfl (hb hby at_197) rfl ?_
      show Steps p.tables e below (T0.setTop (mkF m 198 #[.val (.long x0), .second, .val (.long x1), .second, .val (.long x2), .second, .val (.int pc), .val (.int pk), .val (.int fr), .val (.int q), .val (.int to), .val (.ref a1), .val (.int (Int32.ofNat a)), .val (.int (Int32.ofNat b)), .val (.int (Int32.ofNat cc)), .val (.int (Int32.ofNat d)), .val (.int (own_lenOf (Int32.ofNat a))), .unset] [(.int (q + (own_lenOf (Int32.ofNat a))))])) _
      refine XS.iload X0.here hx rfl (hb hby at_198) rfl ?_
      show Steps p.tables e below (T0.setTop (mkF m 200 #[.val (.long x0), .second, .val (.long x1), .second, .val (.long x2), .second, .val (.int pc), .val (.int pk), .val (.int fr), .val (.int q), .val (.int to), .val (.ref a1), .val (.int (Int32.ofNat a)), .val (.int (Int32.ofNat b)), .val (.int (Int32.ofNat cc)), .val (.int (Int32.ofNat d)), .val (.int (own_lenOf (Int32.ofNat a))), .unset] [(.int to), (.int (q + (own_lenOf (Int32.ofNat a))))])) _
      refine XS.icmpNo X0.here hx rfl (hb hby at_200) rfl (tlt h2).2.2.2 ?_
      show Steps p.tables e below (T0.setTop (mkF m 203 #[.val (.long x0), .second, .val (.long x1), .second, .val (.long x2), .second, .val (.int pc), .val (.int pk), .val (.int fr), .val (.int q), .val (.int to), .val (.ref a1), .val (.int (Int32.ofNat a)), .val (.int (Int32.ofNat b)), .val (.int (Int32.ofNat cc)), .val (.int (Int32.ofNat d)), .val (.int (own_lenOf (Int32.ofNat a))), .unset] [])) _
      refine XS.iload X0.here hx rfl (hb hby at_203) rfl ?_
      show Steps p.tables e below (T0.setTop (mkF m 205 #[.val (.long x0), .second, .val (.long x1), .second, .val (.long x2), .second, .val (.int pc), .val (.int pk), .val (.int fr), .val (.int q), .val (.int to), .val (.ref a1), .val (.int (Int32.ofNat a)), .val (.int (Int32.ofNat b)), .val (.int (Int32.ofNat cc)), .val (.int (Int32.ofNat d)), .val (.int (own_lenOf (Int32.ofNat a))), .unset] [(.int q)])) _
      refine XS.istore X0.here hx rfl (hb hby at_205) rfl (l' := #[.val (.long x0), .second, .val (.long x1), .second, .val (.long x2), .second, .val (.int pc), .val (.int pk), .val (.int fr), .val (.int q), .val (.int to), .val (.ref a1), .val (.int (Int32.ofNat a)), .val (.int (Int32.ofNat b)), .val (.int (Int32.ofNat cc)), .val (.int (Int32.ofNat d)), .val (.int (own_lenOf (Int32.ofNat a))), .val (.int q)]) rfl ?_
      show Steps p.tables e below (T0.setTop (mkF m 207 #[.val (.long x0), .second, .val (.long x1), .second, .val (.long x2), .second, .val (.int pc), .val (.int pk), .val (.int fr), .val (.int q), .val (.int to), .val (.ref a1), .val (.int (Int32.ofNat a)), .val (.int (Int32.ofNat b)), .val (.int (Int32.ofNat cc)), .val (.int (Int32.ofNat d)), .val (.int (own_lenOf (Int32.ofNat a))), .val (.int q)] [])) _
      refine XS.goto X0.here hx rfl (pc0 := 207) (pc' := 236) rfl (hb hby at_207) (by decide) (by decide) ?_
      show Steps p.tables e below (T0.setTop (mkF m 236 #[.val (.long x0), .second, .val (.long x1), .second, .val (.long x2), .second, .val (.int pc), .val (.int pk), .val (.int fr), .val (.int q), .val (.int to), .val (.ref a1), .val (.int (Int32.ofNat a)), .val (.int (Int32.ofNat b)), .val (.int (Int32.ofNat cc)), .val (.int (Int32.ofNat d)), .val (.int (own_lenOf (Int32.ofNat a))), .val (.int q)] [])) _
      refine XS.aload X0.here hx rfl (hb hby at_236) rfl rfl ?_
      show Steps p.tables e below (T0.setTop (mkF m 238 #[.val (.long x0), .second, .val (.long x1), .second, .val (.long x2), .second, .val (.int pc), .val (.int pk), .val (.int fr), .val (.int q), .val (.int to), .val (.ref a1), .val (.int (Int32.ofNat a)), .val (.int (Int32.ofNat b)), .val (.int (Int32.ofNat cc)), .val (.int (Int32.ofNat d)), .val (.int (own_lenOf (Int32.ofNat a))), .val (.int q)] [(.ref a1)])) _
      refine XS.iload X0.here hx rfl (hb hby at_238) rfl ?_
      show Steps p.tables e below (T0.setTop (mkF m 240 #[.val (.long x0), .second, .val (.long x1), .second, .val (.long x2), .second, .val (.int pc), .val (.int pk), .val (.int fr), .val (.int q), .val (.int to), .val (.ref a1), .val (.int (Int32.ofNat a)), .val (.int (Int32.ofNat b)), .val (.int (Int32.ofNat cc)), .val (.int (Int32.ofNat d)), .val (.int (own_lenOf (Int32.ofNat a))), .val (.int q)] [(.int fr), (.ref a1)])) _
      refine XS.iload X0.here hx rfl (hb hby at_240) rfl ?_
      show Steps p.tables e below (T0.setTop (mkF m 242 #[.val (.long x0), .second, .val (.long x1), .second, .val (.long x2), .second, .val (.int pc), .val (.int pk), .val (.int fr), .val (.int q), .val (.int to), .val (.ref a1), .val (.int (Int32.ofNat a)), .val (.int (Int32.ofNat b)), .val (.int (Int32.ofNat cc)), .val (.int (Int32.ofNat d)), .val (.int (own_lenOf (Int32.ofNat a))), .val (.int q)] [(.int to), (.int fr), (.ref a1)])) _
      refine st262 _ ?_
      show Steps p.tables e below (T262.setTop (mkF m 245 #[.val (.long x0), .second, .val (.long x1), .second, .val (.long x2), .second, .val (.int pc), .val (.int pk), .val (.int fr), .val (.int q), .val (.int to), .val (.ref a1), .val (.int (Int32.ofNat a)), .val (.int (Int32.ofNat b)), .val (.int (Int32.ofNat cc)), .val (.int (Int32.ofNat d)), .val (.int (own_lenOf (Int32.ofNat a))), .val (.int q)] [(.int (own_out (own_B us) to 26 fr))])) _
      refine XS.iload X262.here hx rfl (hb hby at_245) rfl ?_
      show Steps p.tables e below (T262.setTop (mkF m 247 #[.val (.long x0), .second, .val (.long x1), .second, .val (.long x2), .second, .val (.int pc), .val (.int pk), .val (.int fr), .val (.int q), .val (.int to), .val (.ref a1), .val (.int (Int32.ofNat a)), .val (.int (Int32.ofNat b)), .val (.int (Int32.ofNat cc)), .val (.int (Int32.ofNat d)), .val (.int (own_lenOf (Int32.ofNat a))), .val (.int q)] [(.int q), (.int (own_out (own_B us) to 26 fr))])) _
      refine XS.icmpNo X262.here hx rfl (hb hby at_247) rfl (teq (hlaw.trans (by rw [if_pos h1, if_pos h2]))).2 ?_
      show Steps p.tables e below (T262.setTop (mkF m 250 #[.val (.long x0), .second, .val (.long x1), .second, .val (.long x2), .second, .val (.int pc), .val (.int pk), .val (.int fr), .val (.int q), .val (.int to), .val (.ref a1), .val (.int (Int32.ofNat a)), .val (.int (Int32.ofNat b)), .val (.int (Int32.ofNat cc)), .val (.int (Int32.ofNat d)), .val (.int (own_lenOf (Int32.ofNat a))), .val (.int q)] [])) _
      refine XS.iconst X262.here hx rfl (hb hby at_250) ?_
      show Steps p.tables e below (T262.setTop (mkF m 251 #[.val (.long x0), .second, .val (.long x1), .second, .val (.long x2), .second, .val (.int pc), .val (.int pk), .val (.int fr), .val (.int q), .val (.int to), .val (.ref a1), .val (.int (Int32.ofNat a)), .val (.int (Int32.ofNat b)), .val (.int (Int32.ofNat cc)), .val (.int (Int32.ofNat d)), .val (.int (own_lenOf (Int32.ofNat a))), .val (.int q)] [(.int (1 : Int32))])) _
      refine XS.goto X262.here hx rfl (pc0 := 251) (pc' := 255) rfl (hb hby at_251) (by decide) (by decide) ?_
      show Steps p.tables e below (T262.setTop (mkF m 255 #[.val (.long x0), .second, .val (.long x1), .second, .val (.long x2), .second, .val (.int pc), .val (.int pk), .val (.int fr), .val (.int q), .val (.int to), .val (.ref a1), .val (.int (Int32.ofNat a)), .val (.int (Int32.ofNat b)), .val (.int (Int32.ofNat cc)), .val (.int (Int32.ofNat d)), .val (.int (own_lenOf (Int32.ofNat a))), .val (.int q)] [(.int (1 : Int32))])) _
      exact kt
    · obtain ⟨_, _, ⟨T264, L264, k264, n264⟩, -, X264, ⟨Lc264, hQ264, l264, y264, z264⟩, st264⟩ := Jvm.LawKit.callS X0 hx (y := (⟨"com/example/reshelve/reshelve/Utf8FirstFaultPinLaw", "wellFormed", "(IIIII)Z"⟩ : MethodName)) hown (mvT hZ (hw _ (List.mem_of_getElem? (i := 15) rfl))) (mvT hZ (hw _ (List.mem_of_getElem? (i := 16) rfl))) (mvT hZ (hw _ (List.mem_of_getElem? (i := 3) rfl))) (mvT hZ (hw _ (List.mem_of_getElem? (i := 17) rfl))) (by decide) (backOf (W := 0) (rm5 l Z a0 hw [] (own_lenOf (Int32.ofNat a)) (Int32.ofNat a) (Int32.ofNat b) (Int32.ofNat cc) (Int32.ofNat d)  h0 n0 Z0 ) hZ (hw _ (List.mem_of_getElem? (i := 17) rfl)) (hw _ (List.mem_of_getElem? (i := 3) rfl)) (by decide) (by decide)) (g := (mkF m 220 #[.val (.long x0), .second, .val (.long x1), .second, .val (.long x2), .second, .val (.int pc), .val (.int pk), .val (.int fr), .val (.int q), .val (.int to), .val (.ref a1), .val (.int (Int32.ofNat a)), .val (.int (Int32.ofNat b)), .val (.int (Int32.ofNat cc)), .val (.int (Int32.ofNat d)), .val (.int (own_lenOf (Int32.ofNat a))), .unset] [(.int (Int32.ofNat d)), (.int (Int32.ofNat cc)), (.int (Int32.ofNat b)), (.int (Int32.ofNat a)), (.int (own_lenOf (Int32.ofNat a)))])) rfl (by rw [hml]; rfl) (argsL := [(.int (own_lenOf (Int32.ofNat a))), (.int (Int32.ofNat a)), (.int (Int32.ofNat b)), (.int (Int32.ofNat cc)), (.int (Int32.ofNat d))]) (rest := []) (lenOf pd__IIIII_Z rfl) rfl (by show 2 * 0 + _ ≤ _; exact Nat.le_of_eq rfl) (hb hby at_220) (fun _ _ => ⟨rfl, e0, (by decide : 1 + 0 ≤ _), (by decide : 24 + 0 ≤ _)⟩)
      dsimp only [Pt.U, Pt.locs, Pt.cells, Pt.slots] at X264 l264 y264 z264 st264 hQ264
      subst l264 y264 z264
      obtain ⟨rfl, N264q, e264⟩ := hQ264
      have N265 := Fr.app N0 N264q
      by_cases h3 : own_wf (own_lenOf (Int32.ofNat a)) (Int32.ofNat a) (Int32.ofNat b) (Int32.ofNat cc) (Int32.ofNat d) = (0 : Int32)
      · obtain ⟨_, _, ⟨T266, L266, k266, n266⟩, -, X266, ⟨Lc266, hQ266, l266, y266, z266⟩, st266⟩ := Jvm.LawKit.callS X264 hx (y := (⟨"com/example/reshelve/reshelve/Utf8", "firstFault", "([BII)I"⟩ : MethodName)) hown (mvT hZ (hw _ (List.mem_of_getElem? (i := 11) rfl))) (mvT hZ (hw _ (List.mem_of_getElem? (i := 12) rfl))) (mvT hZ (hw _ (List.mem_of_getElem? (i := 13) rfl))) (mvT hZ (hw _ (List.mem_of_getElem? (i := 14) rfl))) (by decide) (backOf (W := 0) (rm4 l Z a0 hw [] a1 fr to us ka h0 n0 Z0 V1 hfr hto) hZ (hw _ (List.mem_of_getElem? (i := 14) rfl)) (hw _ (List.mem_of_getElem? (i := 13) rfl)) (by decide) (by decide)) (g := (mkF m 242 #[.val (.long x0), .second, .val (.long x1), .second, .val (.long x2), .second, .val (.int pc), .val (.int pk), .val (.int fr), .val (.int q), .val (.int to), .val (.ref a1), .val (.int (Int32.ofNat a)), .val (.int (Int32.ofNat b)), .val (.int (Int32.ofNat cc)), .val (.int (Int32.ofNat d)), .val (.int (own_lenOf (Int32.ofNat a))), .val (.int q)] [(.int to), (.int fr), (.ref a1)])) rfl (by rw [hml]; rfl) (argsL := [(.ref a1), (.int fr), (.int to)]) (rest := []) (lenOf pd___BII_I rfl) rfl (by show 2 * 0 + _ ≤ _; exact Nat.le_of_eq rfl) (hb hby at_242) (fun _ _ => ⟨rfl, e264, (by decide : 1 + 0 ≤ _), (by decide : 24 + 0 ≤ _)⟩)
        dsimp only [Pt.U, Pt.locs, Pt.cells, Pt.slots] at X266 l266 y266 z266 st266 hQ266
        subst l266 y266 z266
        obtain ⟨rfl, N266q, e266⟩ := hQ266
        have N267 := Fr.app N265 N266q
        refine ⟨T266, _, .val (.int q), X266, N267, fun target kt => ?_⟩
        show Steps p.tables e below (T0.setTop (mkF m 180 #[.val (.long x0), .second, .val (.long x1), .second, .val (.long x2), .second, .val (.int pc), .val (.int pk), .val (.int fr), .val (.int q), .val (.int to), .val (.ref a1), .val (.int (Int32.ofNat a)), .val (.int (Int32.ofNat b)), .val (.int (Int32.ofNat cc)), .val (.int (Int32.ofNat d)), .val (.int (own_lenOf (Int32.ofNat a))), .unset] [])) _
        refine XS.iload X0.here hx rfl (hb hby at_180) rfl ?_
        show Steps p.tables e below (T0.setTop (mkF m 182 #[.val (.long x0), .second, .val (.long x1), .second, .val (.long x2), .second, .val (.int pc), .val (.int pk), .val (.int fr), .val (.int q), .val (.int to), .val (.ref a1), .val (.int (Int32.ofNat a)), .val (.int (Int32.ofNat b)), .val (.int (Int32.ofNat cc)), .val (.int (Int32.ofNat d)), .val (.int (own_lenOf (Int32.ofNat a))), .unset] [(.int q)])) _
        refine XS.iload X0.here hx rfl (hb hby at_182) rfl ?_
        show Steps p.tables e below (T0.setTop (mkF m 184 #[.val (.long x0), .second, .val (.long x1), .second, .val (.long x2), .second, .val (.int pc), .val (.int pk), .val (.int fr), .val (.int q), .val (.int to), .val (.ref a1), .val (.int (Int32.ofNat a)), .val (.int (Int32.ofNat b)), .val (.int (Int32.ofNat cc)), .val (.int (Int32.ofNat d)), .val (.int (own_lenOf (Int32.ofNat a))), .unset] [(.int to), (.int q)])) _
        refine XS.icmpYes X0.here hx rfl (pc0 := 184) (pc' := 193) rfl (hb hby at_184) rfl (tlt h1).1 (by decide) (by decide) ?_
        show Steps p.tables e below (T0.setTop (mkF m 193 #[.val (.long x0), .second, .val (.long x1), .second, .val (.long x2), .second, .val (.int pc), .val (.int pk), .val (.int fr), .val (.int q), .val (.int to), .val (.ref a1), .val (.int (Int32.ofNat a)), .val (.int (Int32.ofNat b)), .val (.int (Int32.ofNat cc)), .val (.int (Int32.ofNat d)), .val (.int (own_lenOf (Int32.ofNat a))), .unset] [])) _
        refine XS.iload X0.here hx rfl (hb hby at_193) rfl ?_
        show Steps p.tables e below (T0.setTop (mkF m 195 #[.val (.long x0), .second, .val (.long x1), .second, .val (.long x2), .second, .val (.int pc), .val (.int pk), .val (.int fr), .val (.int q), .val (.int to), .val (.ref a1), .val (.int (Int32.ofNat a)), .val (.int (Int32.ofNat b)), .val (.int (Int32.ofNat cc)), .val (.int (Int32.ofNat d)), .val (.int (own_lenOf (Int32.ofNat a))), .unset] [(.int q)])) _
        refine XS.iload X0.here hx rfl (hb hby at_195) rfl ?_
        show Steps p.tables e below (T0.setTop (mkF m 197 #[.val (.long x0), .second, .val (.long x1), .second, .val (.long x2), .second, .val (.int pc), .val (.int pk), .val (.int fr), .val (.int q), .val (.int to), .val (.ref a1), .val (.int (Int32.ofNat a)), .val (.int (Int32.ofNat b)), .val (.int (Int32.ofNat cc)), .val (.int (Int32.ofNat d)), .val (.int (own_lenOf (Int32.ofNat a))), .unset] [(.int (own_lenOf (Int32.ofNat a))), (.int q)])) _
        refine XS.iadd X0.here hx rfl (hb hby at_197) rfl ?_
        show Steps p.tables e below (T0.setTop (mkF m 198 #[.val (.long x0), .second, .val (.long x1), .second, .val (.long x2), .second, .val (.int pc), .val (.int pk), .val (.int fr), .val (.int q), .val (.int to), .val (.ref a1), .val (.int (Int32.ofNat a)), .val (.int (Int32.ofNat b)), .val (.int (Int32.ofNat cc)), .val (.int (Int32.ofNat d)), .val (.int (own_lenOf (Int32.ofNat a))), .unset] [(.int (q + (own_lenOf (Int32.ofNat a))))])) _
        refine XS.iload X0.here hx rfl (hb hby at_198) rfl ?_
        show Steps p.tables e below (T0.setTop (mkF m 200 #[.val (.long x0), .second, .val (.long x1), .second, .val (.long x2), .second, .val (.int pc), .val (.int pk), .val (.int fr), .val (.int q), .val (.int to), .val (.ref a1), .val (.int (Int32.ofNat a)), .val (.int (Int32.ofNat b)), .val (.int (Int32.ofNat cc)), .val (.int (Int32.ofNat d)), .val (.int (own_lenOf (Int32.ofNat a))), .unset] [(.int to), (.int (q + (own_lenOf (Int32.ofNat a))))])) _
        refine XS.icmpYes X0.here hx rfl (pc0 := 200) (pc' := 210) rfl (hb hby at_200) rfl (flt h2).2.2.2 (by decide) (by decide) ?_
        show Steps p.tables e below (T0.setTop (mkF m 210 #[.val (.long x0), .second, .val (.long x1), .second, .val (.long x2), .second, .val (.int pc), .val (.int pk), .val (.int fr), .val (.int q), .val (.int to), .val (.ref a1), .val (.int (Int32.ofNat a)), .val (.int (Int32.ofNat b)), .val (.int (Int32.ofNat cc)), .val (.int (Int32.ofNat d)), .val (.int (own_lenOf (Int32.ofNat a))), .unset] [])) _
        refine XS.iload X0.here hx rfl (hb hby at_210) rfl ?_
        show Steps p.tables e below (T0.setTop (mkF m 212 #[.val (.long x0), .second, .val (.long x1), .second, .val (.long x2), .second, .val (.int pc), .val (.int pk), .val (.int fr), .val (.int q), .val (.int to), .val (.ref a1), .val (.int (Int32.ofNat a)), .val (.int (Int32.ofNat b)), .val (.int (Int32.ofNat cc)), .val (.int (Int32.ofNat d)), .val (.int (own_lenOf (Int32.ofNat a))), .unset] [(.int (own_lenOf (Int32.ofNat a)))])) _
        refine XS.iload X0.here hx rfl (hb hby at_212) rfl ?_
        show Steps p.tables e below (T0.setTop (mkF m 214 #[.val (.long x0), .second, .val (.long x1), .second, .val (.long x2), .second, .val (.int pc), .val (.int pk), .val (.int fr), .val (.int q), .val (.int to), .val (.ref a1), .val (.int (Int32.ofNat a)), .val (.int (Int32.ofNat b)), .val (.int (Int32.ofNat cc)), .val (.int (Int32.ofNat d)), .val (.int (own_lenOf (Int32.ofNat a))), .unset] [(.int (Int32.ofNat a)), (.int (own_lenOf (Int32.ofNat a)))])) _
        refine XS.iload X0.here hx rfl (hb hby at_214) rfl ?_
        show Steps p.tables e below (T0.setTop (mkF m 216 #[.val (.long x0), .second, .val (.long x1), .second, .val (.long x2), .second, .val (.int pc), .val (.int pk), .val (.int fr), .val (.int q), .val (.int to), .val (.ref a1), .val (.int (Int32.ofNat a)), .val (.int (Int32.ofNat b)), .val (.int (Int32.ofNat cc)), .val (.int (Int32.ofNat d)), .val (.int (own_lenOf (Int32.ofNat a))), .unset] [(.int (Int32.ofNat b)), (.int (Int32.ofNat a)), (.int (own_lenOf (Int32.ofNat a)))])) _
        refine XS.iload X0.here hx rfl (hb hby at_216) rfl ?_
        show Steps p.tables e below (T0.setTop (mkF m 218 #[.val (.long x0), .second, .val (.long x1), .second, .val (.long x2), .second, .val (.int pc), .val (.int pk), .val (.int fr), .val (.int q), .val (.int to), .val (.ref a1), .val (.int (Int32.ofNat a)), .val (.int (Int32.ofNat b)), .val (.int (Int32.ofNat cc)), .val (.int (Int32.ofNat d)), .val (.int (own_lenOf (Int32.ofNat a))), .unset] [(.int (Int32.ofNat cc)), (.int (Int32.ofNat b)), (.int (Int32.ofNat a)), (.int (own_lenOf (Int32.ofNat a)))])) _
        refine XS.iload X0.here hx rfl (hb hby at_218) rfl ?_
        show Steps p.tables e below (T0.setTop (mkF m 220 #[.val (.long x0), .second, .val (.long x1), .second, .val (.long x2), .second, .val (.int pc), .val (.int pk), .val (.int fr), .val (.int q), .val (.int to), .val (.ref a1), .val (.int (Int32.ofNat a)), .val (.int (Int32.ofNat b)), .val (.int (Int32.ofNat cc)), .val (.int (Int32.ofNat d)), .val (.int (own_lenOf (Int32.ofNat a))), .unset] [(.int (Int32.ofNat d)), (.int (Int32.ofNat cc)), (.int (Int32.ofNat b)), (.int (Int32.ofNat a)), (.int (own_lenOf (Int32.ofNat a)))])) _
        refine st264 _ ?_
        show Steps p.tables e below (T264.setTop (mkF m 223 #[.val (.long x0), .second, .val (.long x1), .second, .val (.long x2), .second, .val (.int pc), .val (.int pk), .val (.int fr), .val (.int q), .val (.int to), .val (.ref a1), .val (.int (Int32.ofNat a)), .val (.int (Int32.ofNat b)), .val (.int (Int32.ofNat cc)), .val (.int (Int32.ofNat d)), .val (.int (own_lenOf (Int32.ofNat a))), .unset] [(.int (own_wf (own_lenOf (Int32.ofNat a)) (Int32.ofNat a) (Int32.ofNat b) (Int32.ofNat cc) (Int32.ofNat d)))])) _
        refine XS.ifYes X264.here hx rfl (pc0 := 223) (pc' := 232) rfl (hb hby at_223) rfl ((if0 _ _).trans (teq h3).1) (by decide) (by decide) ?_
        show Steps p.tables e below (T264.setTop (mkF m 232 #[.val (.long x0), .second, .val (.long x1), .second, .val (.long x2), .second, .val (.int pc), .val (.int pk), .val (.int fr), .val (.int q), .val (.int to), .val (.ref a1), .val (.int (Int32.ofNat a)), .val (.int (Int32.ofNat b)), .val (.int (Int32.ofNat cc)), .val (.int (Int32.ofNat d)), .val (.int (own_lenOf (Int32.ofNat a))), .unset] [])) _
        refine XS.iload X264.here hx rfl (hb hby at_232) rfl ?_
        show Steps p.tables e below (T264.setTop (mkF m 234 #[.val (.long x0), .second, .val (.long x1), .second, .val (.long x2), .second, .val (.int pc), .val (.int pk), .val (.int fr), .val (.int q), .val (.int to), .val (.ref a1), .val (.int (Int32.ofNat a)), .val (.int (Int32.ofNat b)), .val (.int (Int32.ofNat cc)), .val (.int (Int32.ofNat d)), .val (.int (own_lenOf (Int32.ofNat a))), .unset] [(.int q)])) _
        refine XS.istore X264.here hx rfl (hb hby at_234) rfl (l' := #[.val (.long x0), .second, .val (.long x1), .second, .val (.long x2), .second, .val (.int pc), .val (.int pk), .val (.int fr), .val (.int q), .val (.int to), .val (.ref a1), .val (.int (Int32.ofNat a)), .val (.int (Int32.ofNat b)), .val (.int (Int32.ofNat cc)), .val (.int (Int32.ofNat d)), .val (.int (own_lenOf (Int32.ofNat a))), .val (.int q)]) rfl ?_
        show Steps p.tables e below (T264.setTop (mkF m 236 #[.val (.long x0), .second, .val (.long x1), .second, .val (.long x2), .second, .val (.int pc), .val (.int pk), .val (.int fr), .val (.int q), .val (.int to), .val (.ref a1), .val (.int (Int32.ofNat a)), .val (.int (Int32.ofNat b)), .val (.int (Int32.ofNat cc)), .val (.int (Int32.ofNat d)), .val (.int (own_lenOf (Int32.ofNat a))), .val (.int q)] [])) _
        refine XS.aload X264.here hx rfl (hb hby at_236) rfl rfl ?_
        show Steps p.tables e below (T264.setTop (mkF m 238 #[.val (.long x0), .second, .val (.long x1), .second, .val (.long x2), .second, .val (.int pc), .val (.int pk), .val (.int fr), .val (.int q), .val (.int to), .val (.ref a1), .val (.int (Int32.ofNat a)), .val (.int (Int32.ofNat b)), .val (.int (Int32.ofNat cc)), .val (.int (Int32.ofNat d)), .val (.int (own_lenOf (Int32.ofNat a))), .val (.int q)] [(.ref a1)])) _
        refine XS.iload X264.here hx rfl (hb hby at_238) rfl ?_
        show Steps p.tables e below (T264.setTop (mkF m 240 #[.val (.long x0), .second, .val (.long x1), .second, .val (.long x2), .second, .val (.int pc), .val (.int pk), .val (.int fr), .val (.int q), .val (.int to), .val (.ref a1), .val (.int (Int32.ofNat a)), .val (.int (Int32.ofNat b)), .val (.int (Int32.ofNat cc)), .val (.int (Int32.ofNat d)), .val (.int (own_lenOf (Int32.ofNat a))), .val (.int q)] [(.int fr), (.ref a1)])) _
        refine XS.iload X264.here hx rfl (hb hby at_240) rfl ?_
        show Steps p.tables e below (T264.setTop (mkF m 242 #[.val (.long x0), .second, .val (.long x1), .second, .val (.long x2), .second, .val (.int pc), .val (.int pk), .val (.int fr), .val (.int q), .val (.int to), .val (.ref a1), .val (.int (Int32.ofNat a)), .val (.int (Int32.ofNat b)), .val (.int (Int32.ofNat cc)), .val (.int (Int32.ofNat d)), .val (.int (own_lenOf (Int32.ofNat a))), .val (.int q)] [(.int to), (.int fr), (.ref a1)])) _
        refine st266 _ ?_
        show Steps p.tables e below (T266.setTop (mkF m 245 #[.val (.long x0), .second, .val (.long x1), .second, .val (.long x2), .second, .val (.int pc), .val (.int pk), .val (.int fr), .val (.int q), .val (.int to), .val (.ref a1), .val (.int (Int32.ofNat a)), .val (.int (Int32.ofNat b)), .val (.int (Int32.ofNat cc)), .val (.int (Int32.ofNat d)), .val (.int (own_lenOf (Int32.ofNat a))), .val (.int q)] [(.int (own_out (own_B us) to 26 fr))])) _
        refine XS.iload X266.here hx rfl (hb hby at_245) rfl ?_
        show Steps p.tables e below (T266.setTop (mkF m 247 #[.val (.long x0), .second, .val (.long x1), .second, .val (.long x2), .second, .val (.int pc), .val (.int pk), .val (.int fr), .val (.int q), .val (.int to), .val (.ref a1), .val (.int (Int32.ofNat a)), .val (.int (Int32.ofNat b)), .val (.int (Int32.ofNat cc)), .val (.int (Int32.ofNat d)), .val (.int (own_lenOf (Int32.ofNat a))), .val (.int q)] [(.int q), (.int (own_out (own_B us) to 26 fr))])) _
        refine XS.icmpNo X266.here hx rfl (hb hby at_247) rfl (teq (hlaw.trans (by rw [if_pos h1, if_neg h2, if_pos h3]))).2 ?_
        show Steps p.tables e below (T266.setTop (mkF m 250 #[.val (.long x0), .second, .val (.long x1), .second, .val (.long x2), .second, .val (.int pc), .val (.int pk), .val (.int fr), .val (.int q), .val (.int to), .val (.ref a1), .val (.int (Int32.ofNat a)), .val (.int (Int32.ofNat b)), .val (.int (Int32.ofNat cc)), .val (.int (Int32.ofNat d)), .val (.int (own_lenOf (Int32.ofNat a))), .val (.int q)] [])) _
        refine XS.iconst X266.here hx rfl (hb hby at_250) ?_
        show Steps p.tables e below (T266.setTop (mkF m 251 #[.val (.long x0), .second, .val (.long x1), .second, .val (.long x2), .second, .val (.int pc), .val (.int pk), .val (.int fr), .val (.int q), .val (.int to), .val (.ref a1), .val (.int (Int32.ofNat a)), .val (.int (Int32.ofNat b)), .val (.int (Int32.ofNat cc)), .val (.int (Int32.ofNat d)), .val (.int (own_lenOf (Int32.ofNat a))), .val (.int q)] [(.int (1 : Int32))])) _
        refine XS.goto X266.here hx rfl (pc0 := 251) (pc' := 255) rfl (hb hby at_251) (by decide) (by decide) ?_
        show Steps p.tables e below (T266.setTop (mkF m 255 #[.val (.long x0), .second, .val (.long x1), .second, .val (.long x2), .second, .val (.int pc), .val (.int pk), .val (.int fr), .val (.int q), .val (.int to), .val (.ref a1), .val (.int (Int32.ofNat a)), .val (.int (Int32.ofNat b)), .val (.int (Int32.ofNat cc)), .val (.int (Int32.ofNat d)), .val (.int (own_lenOf (Int32.ofNat a))), .val (.int q)] [(.int (1 : Int32))])) _
        exact kt
      · obtain ⟨_, _, ⟨T268, L268, k268, n268⟩, -, X268, ⟨Lc268, hQ268, l268, y268, z268⟩, st268⟩ := Jvm.LawKit.callS X264 hx (y := (⟨"com/example/reshelve/reshelve/Utf8", "firstFault", "([BII)I"⟩ : MethodName)) hown (mvT hZ (hw _ (List.mem_of_getElem? (i := 11) rfl))) (mvT hZ (hw _ (List.mem_of_getElem? (i := 12) rfl))) (mvT hZ (hw _ (List.mem_of_getElem? (i := 13) rfl))) (mvT hZ (hw _ (List.mem_of_getElem? (i := 14) rfl))) (by decide) (backOf (W := 0) (rm4 l Z a0 hw [] a1 fr to us ka h0 n0 Z0 V1 hfr hto) hZ (hw _ (List.mem_of_getElem? (i := 14) rfl)) (hw _ (List.mem_of_getElem? (i := 13) rfl)) (by decide) (by decide)) (g := (mkF m 242 #[.val (.long x0), .second, .val (.long x1), .second, .val (.long x2), .second, .val (.int pc), .val (.int pk), .val (.int fr), .val (.int q), .val (.int to), .val (.ref a1), .val (.int (Int32.ofNat a)), .val (.int (Int32.ofNat b)), .val (.int (Int32.ofNat cc)), .val (.int (Int32.ofNat d)), .val (.int (own_lenOf (Int32.ofNat a))), .val (.int (-1 : Int32))] [(.int to), (.int fr), (.ref a1)])) rfl (by rw [hml]; rfl) (argsL := [(.ref a1), (.int fr), (.int to)]) (rest := []) (lenOf pd___BII_I rfl) rfl (by show 2 * 0 + _ ≤ _; exact Nat.le_of_eq rfl) (hb hby at_242) (fun _ _ => ⟨rfl, e264, (by decide : 1 + 0 ≤ _), (by decide : 24 + 0 ≤ _)⟩)
        dsimp only [Pt.U, Pt.locs, Pt.cells, Pt.slots] at X268 l268 y268 z268 st268 hQ268
        subst l268 y268 z268
        obtain ⟨rfl, N268q, e268⟩ := hQ268
        have N269 := Fr.app N265 N268q
        refine ⟨T268, _, .val (.int (-1 : Int32)), X268, N269, fun target kt => ?_⟩
        show Steps p.tables e below (T0.setTop (mkF m 180 #[.val (.long x0), .second, .val (.long x1), .second, .val (.long x2), .second, .val (.int pc), .val (.int pk), .val (.int fr), .val (.int q), .val (.int to), .val (.ref a1), .val (.int (Int32.ofNat a)), .val (.int (Int32.ofNat b)), .val (.int (Int32.ofNat cc)), .val (.int (Int32.ofNat d)), .val (.int (own_lenOf (Int32.ofNat a))), .unset] [])) _
        refine XS.iload X0.here hx rfl (hb hby at_180) rfl ?_
        show Steps p.tables e below (T0.setTop (mkF m 182 #[.val (.long x0), .second, .val (.long x1), .second, .val (.long x2), .second, .val (.int pc), .val (.int pk), .val (.int fr), .val (.int q), .val (.int to), .val (.ref a1), .val (.int (Int32.ofNat a)), .val (.int (Int32.ofNat b)), .val (.int (Int32.ofNat cc)), .val (.int (Int32.ofNat d)), .val (.int (own_lenOf (Int32.ofNat a))), .unset] [(.int q)])) _
        refine XS.iload X0.here hx rfl (hb hby at_182) rfl ?_
        show Steps p.tables e below (T0.setTop (mkF m 184 #[.val (.long x0), .second, .val (.long x1), .second, .val (.long x2), .second, .val (.int pc), .val (.int pk), .val (.int fr), .val (.int q), .val (.int to), .val (.ref a1), .val (.int (Int32.ofNat a)), .val (.int (Int32.ofNat b)), .val (.int (Int32.ofNat cc)), .val (.int (Int32.ofNat d)), .val (.int (own_lenOf (Int32.ofNat a))), .unset] [(.int to), (.int q)])) _
        refine XS.icmpYes X0.here hx rfl (pc0 := 184) (pc' := 193) rfl (hb hby at_184) rfl (tlt h1).1 (by decide) (by decide) ?_
        show Steps p.tables e below (T0.setTop (mkF m 193 #[.val (.long x0), .second, .val (.long x1), .second, .val (.long x2), .second, .val (.int pc), .val (.int pk), .val (.int fr), .val (.int q), .val (.int to), .val (.ref a1), .val (.int (Int32.ofNat a)), .val (.int (Int32.ofNat b)), .val (.int (Int32.ofNat cc)), .val (.int (Int32.ofNat d)), .val (.int (own_lenOf (Int32.ofNat a))), .unset] [])) _
        refine XS.iload X0.here hx rfl (hb hby at_193) rfl ?_
        show Steps p.tables e below (T0.setTop (mkF m 195 #[.val (.long x0), .second, .val (.long x1), .second, .val (.long x2), .second, .val (.int pc), .val (.int pk), .val (.int fr), .val (.int q), .val (.int to), .val (.ref a1), .val (.int (Int32.ofNat a)), .val (.int (Int32.ofNat b)), .val (.int (Int32.ofNat cc)), .val (.int (Int32.ofNat d)), .val (.int (own_lenOf (Int32.ofNat a))), .unset] [(.int q)])) _
        refine XS.iload X0.here hx rfl (hb hby at_195) rfl ?_
        show Steps p.tables e below (T0.setTop (mkF m 197 #[.val (.long x0), .second, .val (.long x1), .second, .val (.long x2), .second, .val (.int pc), .val (.int pk), .val (.int fr), .val (.int q), .val (.int to), .val (.ref a1), .val (.int (Int32.ofNat a)), .val (.int (Int32.ofNat b)), .val (.int (Int32.ofNat cc)), .val (.int (Int32.ofNat d)), .val (.int (own_lenOf (Int32.ofNat a))), .unset] [(.int (own_lenOf (Int32.ofNat a))), (.int q)])) _
        refine XS.iadd X0.here hx rfl (hb hby at_197) rfl ?_
        show Steps p.tables e below (T0.setTop (mkF m 198 #[.val (.long x0), .second, .val (.long x1), .second, .val (.long x2), .second, .val (.int pc), .val (.int pk), .val (.int fr), .val (.int q), .val (.int to), .val (.ref a1), .val (.int (Int32.ofNat a)), .val (.int (Int32.ofNat b)), .val (.int (Int32.ofNat cc)), .val (.int (Int32.ofNat d)), .val (.int (own_lenOf (Int32.ofNat a))), .unset] [(.int (q + (own_lenOf (Int32.ofNat a))))])) _
        refine XS.iload X0.here hx rfl (hb hby at_198) rfl ?_
        show Steps p.tables e below (T0.setTop (mkF m 200 #[.val (.long x0), .second, .val (.long x1), .second, .val (.long x2), .second, .val (.int pc), .val (.int pk), .val (.int fr), .val (.int q), .val (.int to), .val (.ref a1), .val (.int (Int32.ofNat a)), .val (.int (Int32.ofNat b)), .val (.int (Int32.ofNat cc)), .val (.int (Int32.ofNat d)), .val (.int (own_lenOf (Int32.ofNat a))), .unset] [(.int to), (.int (q + (own_lenOf (Int32.ofNat a))))])) _
        refine XS.icmpYes X0.here hx rfl (pc0 := 200) (pc' := 210) rfl (hb hby at_200) rfl (flt h2).2.2.2 (by decide) (by decide) ?_
        show Steps p.tables e below (T0.setTop (mkF m 210 #[.val (.long x0), .second, .val (.long x1), .second, .val (.long x2), .second, .val (.int pc), .val (.int pk), .val (.int fr), .val (.int q), .val (.int to), .val (.ref a1), .val (.int (Int32.ofNat a)), .val (.int (Int32.ofNat b)), .val (.int (Int32.ofNat cc)), .val (.int (Int32.ofNat d)), .val (.int (own_lenOf (Int32.ofNat a))), .unset] [])) _
        refine XS.iload X0.here hx rfl (hb hby at_210) rfl ?_
        show Steps p.tables e below (T0.setTop (mkF m 212 #[.val (.long x0), .second, .val (.long x1), .second, .val (.long x2), .second, .val (.int pc), .val (.int pk), .val (.int fr), .val (.int q), .val (.int to), .val (.ref a1), .val (.int (Int32.ofNat a)), .val (.int (Int32.ofNat b)), .val (.int (Int32.ofNat cc)), .val (.int (Int32.ofNat d)), .val (.int (own_lenOf (Int32.ofNat a))), .unset] [(.int (own_lenOf (Int32.ofNat a)))])) _
        refine XS.iload X0.here hx rfl (hb hby at_212) rfl ?_
        show Steps p.tables e below (T0.setTop (mkF m 214 #[.val (.long x0), .second, .val (.long x1), .second, .val (.long x2), .second, .val (.int pc), .val (.int pk), .val (.int fr), .val (.int q), .val (.int to), .val (.ref a1), .val (.int (Int32.ofNat a)), .val (.int (Int32.ofNat b)), .val (.int (Int32.ofNat cc)), .val (.int (Int32.ofNat d)), .val (.int (own_lenOf (Int32.ofNat a))), .unset] [(.int (Int32.ofNat a)), (.int (own_lenOf (Int32.ofNat a)))])) _
        refine XS.iload X0.here hx rfl (hb hby at_214) rfl ?_
        show Steps p.tables e below (T0.setTop (mkF m 216 #[.val (.long x0), .second, .val (.long x1), .second, .val (.long x2), .second, .val (.int pc), .val (.int pk), .val (.int fr), .val (.int q), .val (.int to), .val (.ref a1), .val (.int (Int32.ofNat a)), .val (.int (Int32.ofNat b)), .val (.int (Int32.ofNat cc)), .val (.int (Int32.ofNat d)), .val (.int (own_lenOf (Int32.ofNat a))), .unset] [(.int (Int32.ofNat b)), (.int (Int32.ofNat a)), (.int (own_lenOf (Int32.ofNat a)))])) _
        refine XS.iload X0.here hx rfl (hb hby at_216) rfl ?_
        show Steps p.tables e below (T0.setTop (mkF m 218 #[.val (.long x0), .second, .val (.long x1), .second, .val (.long x2), .second, .val (.int pc), .val (.int pk), .val (.int fr), .val (.int q), .val (.int to), .val (.ref a1), .val (.int (Int32.ofNat a)), .val (.int (Int32.ofNat b)), .val (.int (Int32.ofNat cc)), .val (.int (Int32.ofNat d)), .val (.int (own_lenOf (Int32.ofNat a))), .unset] [(.int (Int32.ofNat cc)), (.int (Int32.ofNat b)), (.int (Int32.ofNat a)), (.int (own_lenOf (Int32.ofNat a)))])) _
        refine XS.iload X0.here hx rfl (hb hby at_218) rfl ?_
        show Steps p.tables e below (T0.setTop (mkF m 220 #[.val (.long x0), .second, .val (.long x1), .second, .val (.long x2), .second, .val (.int pc), .val (.int pk), .val (.int fr), .val (.int q), .val (.int to), .val (.ref a1), .val (.int (Int32.ofNat a)), .val (.int (Int32.ofNat b)), .val (.int (Int32.ofNat cc)), .val (.int (Int32.ofNat d)), .val (.int (own_lenOf (Int32.ofNat a))), .unset] [(.int (Int32.ofNat d)), (.int (Int32.ofNat cc)), (.int (Int32.ofNat b)), (.int (Int32.ofNat a)), (.int (own_lenOf (Int32.ofNat a)))])) _
        refine st264 _ ?_
        show Steps p.tables e below (T264.setTop (mkF m 223 #[.val (.long x0), .second, .val (.long x1), .second, .val (.long x2), .second, .val (.int pc), .val (.int pk), .val (.int fr), .val (.int q), .val (.int to), .val (.ref a1), .val (.int (Int32.ofNat a)), .val (.int (Int32.ofNat b)), .val (.int (Int32.ofNat cc)), .val (.int (Int32.ofNat d)), .val (.int (own_lenOf (Int32.ofNat a))), .unset] [(.int (own_wf (own_lenOf (Int32.ofNat a)) (Int32.ofNat a) (Int32.ofNat b) (Int32.ofNat cc) (Int32.ofNat d)))])) _
        refine XS.ifNo X264.here hx rfl (hb hby at_223) rfl ((if0 _ _).trans (feq h3).1) ?_
        show Steps p.tables e below (T264.setTop (mkF m 226 #[.val (.long x0), .second, .val (.long x1), .second, .val (.long x2), .second, .val (.int pc), .val (.int pk), .val (.int fr), .val (.int q), .val (.int to), .val (.ref a1), .val (.int (Int32.ofNat a)), .val (.int (Int32.ofNat b)), .val (.int (Int32.ofNat cc)), .val (.int (Int32.ofNat d)), .val (.int (own_lenOf (Int32.ofNat a))), .unset] [])) _
        refine XS.iconst X264.here hx rfl (hb hby at_226) ?_
        show Steps p.tables e below (T264.setTop (mkF m 227 #[.val (.long x0), .second, .val (.long x1), .second, .val (.long x2), .second, .val (.int pc), .val (.int pk), .val (.int fr), .val (.int q), .val (.int to), .val (.ref a1), .val (.int (Int32.ofNat a)), .val (.int (Int32.ofNat b)), .val (.int (Int32.ofNat cc)), .val (.int (Int32.ofNat d)), .val (.int (own_lenOf (Int32.ofNat a))), .unset] [(.int (-1 : Int32))])) _
        refine XS.istore X264.here hx rfl (hb hby at_227) rfl (l' := #[.val (.long x0), .second, .val (.long x1), .second, .val (.long x2), .second, .val (.int pc), .val (.int pk), .val (.int fr), .val (.int q), .val (.int to), .val (.ref a1), .val (.int (Int32.ofNat a)), .val (.int (Int32.ofNat b)), .val (.int (Int32.ofNat cc)), .val (.int (Int32.ofNat d)), .val (.int (own_lenOf (Int32.ofNat a))), .val (.int (-1 : Int32))]) rfl ?_
        show Steps p.tables e below (T264.setTop (mkF m 229 #[.val (.long x0), .second, .val (.long x1), .second, .val (.long x2), .second, .val (.int pc), .val (.int pk), .val (.int fr), .val (.int q), .val (.int to), .val (.ref a1), .val (.int (Int32.ofNat a)), .val (.int (Int32.ofNat b)), .val (.int (Int32.ofNat cc)), .val (.int (Int32.ofNat d)), .val (.int (own_lenOf (Int32.ofNat a))), .val (.int (-1 : Int32))] [])) _
        refine XS.goto X264.here hx rfl (pc0 := 229) (pc' := 236) rfl (hb hby at_229) (by decide) (by decide) ?_
        show Steps p.tables e below (T264.setTop (mkF m 236 #[.val (.long x0), .second, .val (.long x1), .second, .val (.long x2), .second, .val (.int pc), .val (.int pk), .val (.int fr), .val (.int q), .val (.int to), .val (.ref a1), .val (.int (Int32.ofNat a)), .val (.int (Int32.ofNat b)), .val (.int (Int32.ofNat cc)), .val (.int (Int32.ofNat d)), .val (.int (own_lenOf (Int32.ofNat a))), .val (.int (-1 : Int32))] [])) _
        refine XS.aload X264.here hx rfl (hb hby at_236) rfl rfl ?_
        show Steps p.tables e below (T264.setTop (mkF m 238 #[.val (.long x0), .second, .val (.long x1), .second, .val (.long x2), .second, .val (.int pc), .val (.int pk), .val (.int fr), .val (.int q), .val (.int to), .val (.ref a1), .val (.int (Int32.ofNat a)), .val (.int (Int32.ofNat b)), .val (.int (Int32.ofNat cc)), .val (.int (Int32.ofNat d)), .val (.int (own_lenOf (Int32.ofNat a))), .val (.int (-1 : Int32))] [(.ref a1)])) _
        refine XS.iload X264.here hx rfl (hb hby at_238) rfl ?_
        show Steps p.tables e below (T264.setTop (mkF m 240 #[.val (.long x0), .second, .val (.long x1), .second, .val (.long x2), .second, .val (.int pc), .val (.int pk), .val (.int fr), .val (.int q), .val (.int to), .val (.ref a1), .val (.int (Int32.ofNat a)), .val (.int (Int32.ofNat b)), .val (.int (Int32.ofNat cc)), .val (.int (Int32.ofNat d)), .val (.int (own_lenOf (Int32.ofNat a))), .val (.int (-1 : Int32))] [(.int fr), (.ref a1)])) _
        refine XS.iload X264.here hx rfl (hb hby at_240) rfl ?_
        show Steps p.tables e below (T264.setTop (mkF m 242 #[.val (.long x0), .second, .val (.long x1), .second, .val (.long x2), .second, .val (.int pc), .val (.int pk), .val (.int fr), .val (.int q), .val (.int to), .val (.ref a1), .val (.int (Int32.ofNat a)), .val (.int (Int32.ofNat b)), .val (.int (Int32.ofNat cc)), .val (.int (Int32.ofNat d)), .val (.int (own_lenOf (Int32.ofNat a))), .val (.int (-1 : Int32))] [(.int to), (.int fr), (.ref a1)])) _
        refine st268 _ ?_
        show Steps p.tables e below (T268.setTop (mkF m 245 #[.val (.long x0), .second, .val (.long x1), .second, .val (.long x2), .second, .val (.int pc), .val (.int pk), .val (.int fr), .val (.int q), .val (.int to), .val (.ref a1), .val (.int (Int32.ofNat a)), .val (.int (Int32.ofNat b)), .val (.int (Int32.ofNat cc)), .val (.int (Int32.ofNat d)), .val (.int (own_lenOf (Int32.ofNat a))), .val (.int (-1 : Int32))] [(.int (own_out (own_B us) to 26 fr))])) _
        refine XS.iload X268.here hx rfl (hb hby at_245) rfl ?_
        show Steps p.tables e below (T268.setTop (mkF m 247 #[.val (.long x0), .second, .val (.long x1), .second, .val (.long x2), .second, .val (.int pc), .val (.int pk), .val (.int fr), .val (.int q), .val (.int to), .val (.ref a1), .val (.int (Int32.ofNat a)), .val (.int (Int32.ofNat b)), .val (.int (Int32.ofNat cc)), .val (.int (Int32.ofNat d)), .val (.int (own_lenOf (Int32.ofNat a))), .val (.int (-1 : Int32))] [(.int (-1 : Int32)), (.int (own_out (own_B us) to 26 fr))])) _
        refine XS.icmpNo X268.here hx rfl (hb hby at_247) rfl (teq (hlaw.trans (by rw [if_pos h1, if_neg h2, if_neg h3]))).2 ?_
        show Steps p.tables e below (T268.setTop (mkF m 250 #[.val (.long x0), .second, .val (.long x1), .second, .val (.long x2), .second, .val (.int pc), .val (.int pk), .val (.int fr), .val (.int q), .val (.int to), .val (.ref a1), .val (.int (Int32.ofNat a)), .val (.int (Int32.ofNat b)), .val (.int (Int32.ofNat cc)), .val (.int (Int32.ofNat d)), .val (.int (own_lenOf (Int32.ofNat a))), .val (.int (-1 : Int32))] [])) _
        refine XS.iconst X268.here hx rfl (hb hby at_250) ?_
        show Steps p.tables e below (T268.setTop (mkF m 251 #[.val (.long x0), .second, .val (.long x1), .second, .val (.long x2), .second, .val (.int pc), .val (.int pk), .val (.int fr), .val (.int q), .val (.int to), .val (.ref a1), .val (.int (Int32.ofNat a)), .val (.int (Int32.ofNat b)), .val (.int (Int32.ofNat cc)), .val (.int (Int32.ofNat d)), .val (.int (own_lenOf (Int32.ofNat a))), .val (.int (-1 : Int32))] [(.int (1 : Int32))])) _
        refine XS.goto X268.here hx rfl (pc0 := 251) (pc' := 255) rfl (hb hby at_251) (by decide) (by decide) ?_
        show Steps p.tables e below (T268.setTop (mkF m 255 #[.val (.long x0), .second, .val (.long x1), .second, .val (.long x2), .second, .val (.int pc), .val (.int pk), .val (.int fr), .val (.int q), .val (.int to), .val (.ref a1), .val (.int (Int32.ofNat a)), .val (.int (Int32.ofNat b)), .val (.int (Int32.ofNat cc)), .val (.int (Int32.ofNat d)), .val (.int (own_lenOf (Int32.ofNat a))), .val (.int (-1 : Int32))] [(.int (1 : Int32))])) _
        exact kt
  · obtain ⟨_, _, ⟨T270, L270, k270, n270⟩, -, X270, ⟨Lc270, hQ270, l270, y270, z270⟩, st270⟩ := Jvm.LawKit.callS X0 hx (y := (⟨"com/example/reshelve/reshelve/Utf8", "firstFault", "([BII)I"⟩ : MethodName)) hown (mvT hZ (hw _ (List.mem_of_getElem? (i := 11) rfl))) (mvT hZ (hw _ (List.mem_of_getElem? (i := 12) rfl))) (mvT hZ (hw _ (List.mem_of_getElem? (i := 13) rfl))) (mvT hZ (hw _ (List.mem_of_getElem? (i := 14) rfl))) (by decide) (backOf (W := 0) (rm4 l Z a0 hw [] a1 fr to us ka h0 n0 Z0 V1 hfr hto) hZ (hw _ (List.mem_of_getElem? (i := 14) rfl)) (hw _ (List.mem_of_getElem? (i := 13) rfl)) (by decide) (by decide)) (g := (mkF m 242 #[.val (.long x0), .second, .val (.long x1), .second, .val (.long x2), .second, .val (.int pc), .val (.int pk), .val (.int fr), .val (.int q), .val (.int to), .val (.ref a1), .val (.int (Int32.ofNat a)), .val (.int (Int32.ofNat b)), .val (.int (Int32.ofNat cc)), .val (.int (Int32.ofNat d)), .val (.int (own_lenOf (Int32.ofNat a))), .val (.int (-1 : Int32))] [(.int to), (.int fr), (.ref a1)])) rfl (by rw [hml]; rfl) (argsL := [(.ref a1), (.int fr), (.int to)]) (rest := []) (lenOf pd___BII_I rfl) rfl (by show 2 * 0 + _ ≤ _; exact Nat.le_of_eq rfl) (hb hby at_242) (fun _ _ => ⟨rfl, e0, (by decide : 1 + 0 ≤ _), (by decide : 24 + 0 ≤ _)⟩)
    dsimp only [Pt.U, Pt.locs, Pt.cells, Pt.slots] at X270 l270 y270 z270 st270 hQ270
    subst l270 y270 z270
    obtain ⟨rfl, N270q, e270⟩ := hQ270
    have N271 := Fr.app N0 N270q
    refine ⟨T270, _, .val (.int (-1 : Int32)), X270, N271, fun target kt => ?_⟩
    show Steps p.tables e below (T0.setTop (mkF m 180 #[.val (.long x0), .second, .val (.long x1), .second, .val (.long x2), .second, .val (.int pc), .val (.int pk), .val (.int fr), .val (.int q), .val (.int to), .val (.ref a1), .val (.int (Int32.ofNat a)), .val (.int (Int32.ofNat b)), .val (.int (Int32.ofNat cc)), .val (.int (Int32.ofNat d)), .val (.int (own_lenOf (Int32.ofNat a))), .unset] [])) _
    refine XS.iload X0.here hx rfl (hb hby at_180) rfl ?_
    show Steps p.tables e below (T0.setTop (mkF m 182 #[.val (.long x0), .second, .val (.long x1), .second, .val (.long x2), .second, .val (.int pc), .val (.int pk), .val (.int fr), .val (.int q), .val (.int to), .val (.ref a1), .val (.int (Int32.ofNat a)), .val (.int (Int32.ofNat b)), .val (.int (Int32.ofNat cc)), .val (.int (Int32.ofNat d)), .val (.int (own_lenOf (Int32.ofNat a))), .unset] [(.int q)])) _
    refine XS.iload X0.here hx rfl (hb hby at_182) rfl ?_
    show Steps p.tables e below (T0.setTop (mkF m 184 #[.val (.long x0), .second, .val (.long x1), .second, .val (.long x2), .second, .val (.int pc), .val (.int pk), .val (.int fr), .val (.int q), .val (.int to), .val (.ref a1), .val (.int (Int32.ofNat a)), .val (.int (Int32.ofNat b)), .val (.int (Int32.ofNat cc)), .val (.int (Int32.ofNat d)), .val (.int (own_lenOf (Int32.ofNat a))), .unset] [(.int to), (.int q)])) _
    refine XS.icmpNo X0.here hx rfl (hb hby at_184) rfl (flt h1).1 ?_
    show Steps p.tables e below (T0.setTop (mkF m 187 #[.val (.long x0), .second, .val (.long x1), .second, .val (.long x2), .second, .val (.int pc), .val (.int pk), .val (.int fr), .val (.int q), .val (.int to), .val (.ref a1), .val (.int (Int32.ofNat a)), .val (.int (Int32.ofNat b)), .val (.int (Int32.ofNat cc)), .val (.int (Int32.ofNat d)), .val (.int (own_lenOf (Int32.ofNat a))), .unset] [])) _
    refine XS.iconst X0.here hx rfl (hb hby at_187) ?_
    show Steps p.tables e below (T0.setTop (mkF m 188 #[.val (.long x0), .second, .val (.long x1), .second, .val (.long x2), .second, .val (.int pc), .val (.int pk), .val (.int fr), .val (.int q), .val (.int to), .val (.ref a1), .val (.int (Int32.ofNat a)), .val (.int (Int32.ofNat b)), .val (.int (Int32.ofNat cc)), .val (.int (Int32.ofNat d)), .val (.int (own_lenOf (Int32.ofNat a))), .unset] [(.int (-1 : Int32))])) _
    refine XS.istore X0.here hx rfl (hb hby at_188) rfl (l' := #[.val (.long x0), .second, .val (.long x1), .second, .val (.long x2), .second, .val (.int pc), .val (.int pk), .val (.int fr), .val (.int q), .val (.int to), .val (.ref a1), .val (.int (Int32.ofNat a)), .val (.int (Int32.ofNat b)), .val (.int (Int32.ofNat cc)), .val (.int (Int32.ofNat d)), .val (.int (own_lenOf (Int32.ofNat a))), .val (.int (-1 : Int32))]) rfl ?_
    show Steps p.tables e below (T0.setTop (mkF m 190 #[.val (.long x0), .second, .val (.long x1), .second, .val (.long x2), .second, .val (.int pc), .val (.int pk), .val (.int fr), .val (.int q), .val (.int to), .val (.ref a1), .val (.int (Int32.ofNat a)), .val (.int (Int32.ofNat b)), .val (.int (Int32.ofNat cc)), .val (.int (Int32.ofNat d)), .val (.int (own_lenOf (Int32.ofNat a))), .val (.int (-1 : Int32))] [])) _
    refine XS.goto X0.here hx rfl (pc0 := 190) (pc' := 236) rfl (hb hby at_190) (by decide) (by decide) ?_
    show Steps p.tables e below (T0.setTop (mkF m 236 #[.val (.long x0), .second, .val (.long x1), .second, .val (.long x2), .second, .val (.int pc), .val (.int pk), .val (.int fr), .val (.int q), .val (.int to), .val (.ref a1), .val (.int (Int32.ofNat a)), .val (.int (Int32.ofNat b)), .val (.int (Int32.ofNat cc)), .val (.int (Int32.ofNat d)), .val (.int (own_lenOf (Int32.ofNat a))), .val (.int (-1 : Int32))] [])) _
    refine XS.aload X0.here hx rfl (hb hby at_236) rfl rfl ?_
    show Steps p.tables e below (T0.setTop (mkF m 238 #[.val (.long x0), .second, .val (.long x1), .second, .val (.long x2), .second, .val (.int pc), .val (.int pk), .val (.int fr), .val (.int q), .val (.int to), .val (.ref a1), .val (.int (Int32.ofNat a)), .val (.int (Int32.ofNat b)), .val (.int (Int32.ofNat cc)), .val (.int (Int32.ofNat d)), .val (.int (own_lenOf (Int32.ofNat a))), .val (.int (-1 : Int32))] [(.ref a1)])) _
    refine XS.iload X0.here hx rfl (hb hby at_238) rfl ?_
    show Steps p.tables e below (T0.setTop (mkF m 240 #[.val (.long x0), .second, .val (.long x1), .second, .val (.long x2), .second, .val (.int pc), .val (.int pk), .val (.int fr), .val (.int q), .val (.int to), .val (.ref a1), .val (.int (Int32.ofNat a)), .val (.int (Int32.ofNat b)), .val (.int (Int32.ofNat cc)), .val (.int (Int32.ofNat d)), .val (.int (own_lenOf (Int32.ofNat a))), .val (.int (-1 : Int32))] [(.int fr), (.ref a1)])) _
    refine XS.iload X0.here hx rfl (hb hby at_240) rfl ?_
    show Steps p.tables e below (T0.setTop (mkF m 242 #[.val (.long x0), .second, .val (.long x1), .second, .val (.long x2), .second, .val (.int pc), .val (.int pk), .val (.int fr), .val (.int q), .val (.int to), .val (.ref a1), .val (.int (Int32.ofNat a)), .val (.int (Int32.ofNat b)), .val (.int (Int32.ofNat cc)), .val (.int (Int32.ofNat d)), .val (.int (own_lenOf (Int32.ofNat a))), .val (.int (-1 : Int32))] [(.int to), (.int fr), (.ref a1)])) _
    refine st270 _ ?_
    show Steps p.tables e below (T270.setTop (mkF m 245 #[.val (.long x0), .second, .val (.long x1), .second, .val (.long x2), .second, .val (.int pc), .val (.int pk), .val (.int fr), .val (.int q), .val (.int to), .val (.ref a1), .val (.int (Int32.ofNat a)), .val (.int (Int32.ofNat b)), .val (.int (Int32.ofNat cc)), .val (.int (Int32.ofNat d)), .val (.int (own_lenOf (Int32.ofNat a))), .val (.int (-1 : Int32))] [(.int (own_out (own_B us) to 26 fr))])) _
    refine XS.iload X270.here hx rfl (hb hby at_245) rfl ?_
    show Steps p.tables e below (T270.setTop (mkF m 247 #[.val (.long x0), .second, .val (.long x1), .second, .val (.long x2), .second, .val (.int pc), .val (.int pk), .val (.int fr), .val (.int q), .val (.int to), .val (.ref a1), .val (.int (Int32.ofNat a)), .val (.int (Int32.ofNat b)), .val (.int (Int32.ofNat cc)), .val (.int (Int32.ofNat d)), .val (.int (own_lenOf (Int32.ofNat a))), .val (.int (-1 : Int32))] [(.int (-1 : Int32)), (.int (own_out (own_B us) to 26 fr))])) _
    refine XS.icmpNo X270.here hx rfl (hb hby at_247) rfl (teq (hlaw.trans (by rw [if_neg h1]))).2 ?_
    show Steps p.tables e below (T270.setTop (mkF m 250 #[.val (.long x0), .second, .val (.long x1), .second, .val (.long x2), .second, .val (.int pc), .val (.int pk), .val (.int fr), .val (.int q), .val (.int to), .val (.ref a1), .val (.int (Int32.ofNat a)), .val (.int (Int32.ofNat b)), .val (.int (Int32.ofNat cc)), .val (.int (Int32.ofNat d)), .val (.int (own_lenOf (Int32.ofNat a))), .val (.int (-1 : Int32))] [])) _
    refine XS.iconst X270.here hx rfl (hb hby at_250) ?_
    show Steps p.tables e below (T270.setTop (mkF m 251 #[.val (.long x0), .second, .val (.long x1), .second, .val (.long x2), .second, .val (.int pc), .val (.int pk), .val (.int fr), .val (.int q), .val (.int to), .val (.ref a1), .val (.int (Int32.ofNat a)), .val (.int (Int32.ofNat b)), .val (.int (Int32.ofNat cc)), .val (.int (Int32.ofNat d)), .val (.int (own_lenOf (Int32.ofNat a))), .val (.int (-1 : Int32))] [(.int (1 : Int32))])) _
    refine XS.goto X270.here hx rfl (pc0 := 251) (pc' := 255) rfl (hb hby at_251) (by decide) (by decide) ?_
    show Steps p.tables e below (T270.setTop (mkF m 255 #[.val (.long x0), .second, .val (.long x1), .second, .val (.long x2), .second, .val (.int pc), .val (.int pk), .val (.int fr), .val (.int q), .val (.int to), .val (.ref a1), .val (.int (Int32.ofNat a)), .val (.int (Int32.ofNat b)), .val (.int (Int32.ofNat cc)), .val (.int (Int32.ofNat d)), .val (.int (own_lenOf (Int32.ofNat a))), .val (.int (-1 : Int32))] [(.int (1 : Int32))])) _
    exact kt
def own_U (x0 x1 x2 : Int64) (fr to : Int32) : List Int32 := own_fill 16 x2 fr to (own_fill 8 x1 fr to (own_fill 0 x0 fr to (List.replicate 24 (0 : Int32))))
theorem own_fill_len (b : Nat) (x : Int64) (fr to : Int32) (us : List Int32) : (own_fill b x fr to us).length = us.length := by unfold own_fill; simp only [List.length_set]
theorem own_U_len (x0 x1 x2 : Int64) (fr to : Int32) : (own_U x0 x1 x2 fr to).length = 24 := by unfold own_U; simp only [own_fill_len, List.length_replicate]
theorem own_getD_set {us : List Int32} {i k : Nat} {v : Int32} : (us.set i v).getD k 0 = if k = i ∧ i < us.length then v else us.getD k 0 := by
  simp only [List.getD_eq_getElem?_getD]
  by_cases q : k = i
  · subst q
    by_cases r : k < us.length
    · rw [if_pos ⟨rfl, r⟩, List.getElem?_set_self r]; rfl
    · rw [if_neg (fun z => r z.2), List.getElem?_eq_none (by rw [List.length_set]; omega), List.getElem?_eq_none (by omega)]
  · rw [if_neg (fun z => q z.1), List.getElem?_set_ne (Ne.symm q)]
theorem own_fill_out {b : Nat} {x : Int64} {fr to : Int32} {us : List Int32} {k : Nat} (h : k < b ∨ b + 8 ≤ k) : (own_fill b x fr to us).getD k 0 = us.getD k 0 := by
  unfold own_fill
  rw [own_getD_set, if_neg (by omega), own_getD_set, if_neg (by omega), own_getD_set, if_neg (by omega), own_getD_set, if_neg (by omega), own_getD_set, if_neg (by omega), own_getD_set, if_neg (by omega), own_getD_set, if_neg (by omega), own_getD_set, if_neg (by omega)]
theorem own_fill_in {b : Nat} {x : Int64} {fr to : Int32} {us : List Int32} {k : Nat} (hl : b + 8 ≤ us.length) (h1 : b ≤ k) (h2 : k < b + 8) : ∃ jj, (own_fill b x fr to us).getD k 0 = nar .byte (own_cell x jj (Int32.ofNat k) fr to) := by
  unfold own_fill
  have : k = b ∨ k = b + 1 ∨ k = b + 2 ∨ k = b + 3 ∨ k = b + 4 ∨ k = b + 5 ∨ k = b + 6 ∨ k = b + 7 := by omega
  rcases this with rfl | rfl | rfl | rfl | rfl | rfl | rfl | rfl
  · rw [own_getD_set, if_neg (by omega), own_getD_set, if_neg (by omega), own_getD_set, if_neg (by omega), own_getD_set, if_neg (by omega), own_getD_set, if_neg (by omega), own_getD_set, if_neg (by omega), own_getD_set, if_neg (by omega), own_getD_set, if_pos ⟨rfl, by first | omega | (simp only [List.length_set]; omega)⟩]; exact ⟨_, rfl⟩
  · rw [own_getD_set, if_neg (by omega), own_getD_set, if_neg (by omega), own_getD_set, if_neg (by omega), own_getD_set, if_neg (by omega), own_getD_set, if_neg (by omega), own_getD_set, if_neg (by omega), own_getD_set, if_pos ⟨rfl, by first | omega | (simp only [List.length_set]; omega)⟩]; exact ⟨_, rfl⟩
  · rw [own_getD_set, if_neg (by omega), own_getD_set, if_neg (by omega), own_getD_set, if_neg (by omega), own_getD_set, if_neg (by omega), own_getD_set, if_neg (by omega), own_getD_set, if_pos ⟨rfl, by first | omega | (simp only [List.length_set]; omega)⟩]; exact ⟨_, rfl⟩
  · rw [own_getD_set, if_neg (by omega), own_getD_set, if_neg (by omega), own_getD_set, if_neg (by omega), own_getD_set, if_neg (by omega), own_getD_set, if_pos ⟨rfl, by first | omega | (simp only [List.length_set]; omega)⟩]; exact ⟨_, rfl⟩
  · rw [own_getD_set, if_neg (by omega), own_getD_set, if_neg (by omega), own_getD_set, if_neg (by omega), own_getD_set, if_pos ⟨rfl, by first | omega | (simp only [List.length_set]; omega)⟩]; exact ⟨_, rfl⟩
  · rw [own_getD_set, if_neg (by omega), own_getD_set, if_neg (by omega), own_getD_set, if_pos ⟨rfl, by first | omega | (simp only [List.length_set]; omega)⟩]; exact ⟨_, rfl⟩
  · rw [own_getD_set, if_neg (by omega), own_getD_set, if_pos ⟨rfl, by first | omega | (simp only [List.length_set]; omega)⟩]; exact ⟨_, rfl⟩
  · rw [own_getD_set, if_pos ⟨rfl, by first | omega | (simp only [List.length_set]; omega)⟩]; exact ⟨_, rfl⟩
theorem own_U_get (x0 x1 x2 : Int64) (fr to : Int32) (k : Nat) (h : k < 24) : ∃ x jj, (own_U x0 x1 x2 fr to).getD k 0 = nar .byte (own_cell x jj (Int32.ofNat k) fr to) := by
  unfold own_U
  by_cases k1 : 16 ≤ k
  · obtain ⟨jj, e⟩ := own_fill_in (b := 16) (x := x2) (fr := fr) (to := to) (us := own_fill 8 x1 fr to (own_fill 0 x0 fr to (List.replicate 24 (0 : Int32)))) (k := k) (by simp only [own_fill_len, List.length_replicate]; omega) k1 (by omega)
    exact ⟨_, jj, e⟩
  · rw [own_fill_out (Or.inl (by omega))]
    by_cases k2 : 8 ≤ k
    · obtain ⟨jj, e⟩ := own_fill_in (b := 8) (x := x1) (fr := fr) (to := to) (us := own_fill 0 x0 fr to (List.replicate 24 (0 : Int32))) (k := k) (by simp only [own_fill_len, List.length_replicate]; omega) k2 (by omega)
      exact ⟨_, jj, e⟩
    · rw [own_fill_out (Or.inl (by omega))]
      obtain ⟨jj, e⟩ := own_fill_in (b := 0) (x := x0) (fr := fr) (to := to) (us := List.replicate 24 (0 : Int32)) (k := k) (by simp only [List.length_replicate]; omega) (by omega) (by omega)
      exact ⟨_, jj, e⟩
theorem own_sm_n {n : Nat} (h : n ≤ 24) : own_sm (Int32.ofNat n) := by unfold own_sm; rw [own_nint (by omega)]; omega
theorem own_of (j : Int32) (h : 0 ≤ j.toInt) : Int32.ofNat j.toInt.toNat = j := by
  apply Int32.toInt_inj.mp
  have := Int32.toInt_lt j
  rw [own_nint (by omega)]; omega
theorem own_U_by (x0 x1 x2 : Int64) (fr to : Int32) (j : Int32) : own_by (own_B (own_U x0 x1 x2 fr to) j) := by
  unfold own_B
  by_cases h : j.toNatClampNeg < 24
  · obtain ⟨x, jj, e⟩ := own_U_get x0 x1 x2 fr to _ h
    rw [e]; exact own_by_of _
  · rw [List.getD_eq_getElem?_getD, List.getElem?_eq_none (by rw [own_U_len]; omega)]; exact (by decide : (-128 : Int) ≤ 0 ∧ (0 : Int) ≤ 127)
theorem own_U_asc (x0 x1 x2 : Int64) (fr to : Int32) (j : Int32) (hj : own_sm j) (hto : own_sm to) (h1 : fr.toInt ≤ j.toInt) (h2 : j.toInt < to.toInt) : 0 ≤ (own_B (own_U x0 x1 x2 fr to) j).toInt := by
  unfold own_B
  obtain ⟨t1, t2⟩ := hto
  obtain ⟨j1, j2⟩ := hj
  obtain ⟨x, jj, e⟩ := own_U_get x0 x1 x2 fr to j.toInt.toNat (by omega)
  rw [own_of j j1] at e
  show 0 ≤ ((own_U x0 x1 x2 fr to).getD j.toInt.toNat 0).toInt
  rw [e]
  unfold own_cell
  rw [if_neg (by rw [Int32.lt_iff_toInt_lt]; omega), if_pos (by rw [Int32.lt_iff_toInt_lt]; omega)]
  obtain ⟨q, hq, eq⟩ := own_low (own_raw x jj) 7
  have eq' : own_raw x jj &&& (127 : Int32) = Int32.ofNat q := eq
  rw [eq']
  exact own_asc_tab ⟨q, hq⟩
theorem own_set_B {us : List Int32} {i : Nat} {v j : Int32} (hi : i < us.length) : own_B (us.set i v) j = if j.toInt.toNat = i then v else own_B us j := by
  unfold own_B
  show (us.set i v).getD j.toInt.toNat 0 = if j.toInt.toNat = i then v else us.getD j.toInt.toNat 0
  simp only [List.getD_eq_getElem?_getD]
  by_cases q : j.toInt.toNat = i
  · rw [if_pos q, q, List.getElem?_set_self hi]; rfl
  · rw [if_neg q, List.getElem?_set_ne (Ne.symm q)]
set_option maxHeartbeats 40000000 in
theorem own_hl1 {x0 x1 x2 : Int64} {f r g a b c d : Nat} (hf : f ≤ 3) (hr : r ≤ 15) (hg : f + g ≤ 24) (ha : a < 256) (hb : b < 256) (hc : c < 256) (hd : d < 256) (hL : own_lenOf (Int32.ofNat a) = (1 : Int32)) :
    own_out (own_B ((own_U x0 x1 x2 (Int32.ofNat f) (Int32.ofNat (f + g))).set (f + r) (nar .byte (Int32.ofNat a).toInt8.toInt32))) (Int32.ofNat (f + g)) 26 (Int32.ofNat f) = if Int32.ofNat (f + r) < Int32.ofNat (f + g) then (if Int32.ofNat (f + g) < Int32.ofNat (f + r) + own_lenOf (Int32.ofNat a) then Int32.ofNat (f + r) else if own_wf (own_lenOf (Int32.ofNat a)) (Int32.ofNat a) (Int32.ofNat b) (Int32.ofNat c) (Int32.ofNat d) = 0 then Int32.ofNat (f + r) else -1) else -1 := by
  have e0 : (Int32.ofNat f).toInt = f := own_nint (by omega)
  have e1 : (Int32.ofNat (f + r)).toInt = (f + r : Nat) := own_nint (by omega)
  have e2 : (Int32.ofNat (f + g)).toInt = (f + g : Nat) := own_nint (by omega)
  have sq : own_sm (Int32.ofNat (f + r)) := own_sm_n (by omega)
  have q1 : (Int32.ofNat (f + r) + (1 : Int32)).toInt = (f + r : Nat) + 1 := by rw [own_add sq 1 (by decide), e1]; rfl
  have q2 : (Int32.ofNat (f + r) + (2 : Int32)).toInt = (f + r : Nat) + 2 := by rw [own_add sq 2 (by decide), e1]; rfl
  have q3 : (Int32.ofNat (f + r) + (3 : Int32)).toInt = (f + r : Nat) + 3 := by rw [own_add sq 3 (by decide), e1]; rfl
  have hl' : (own_lenOf (Int32.ofNat a)).toInt = 1 := by rw [hL]; rfl
  have step : ∀ j : Int32, own_B ((own_U x0 x1 x2 (Int32.ofNat f) (Int32.ofNat (f + g))).set (f + r) (nar .byte (Int32.ofNat a).toInt8.toInt32)) j = (if j.toInt.toNat = f + r then (nar .byte (Int32.ofNat a).toInt8.toInt32) else own_B (own_U x0 x1 x2 (Int32.ofNat f) (Int32.ofNat (f + g))) j) := fun j => by rw [own_set_B (i := f + r) (by simp only [List.length_set, own_U_len]; omega)]
  have get : ∀ (j : Int32), (∀ i : Nat, i < 1 → j.toInt.toNat ≠ f + r + i) → own_B ((own_U x0 x1 x2 (Int32.ofNat f) (Int32.ofNat (f + g))).set (f + r) (nar .byte (Int32.ofNat a).toInt8.toInt32)) j = own_B (own_U x0 x1 x2 (Int32.ofNat f) (Int32.ofNat (f + g))) j := fun j hj => by
    rw [step]; rw [if_neg (by have := hj 0 (by omega); omega)]
  refine own_law _ _ _ _ (own_sm_n (by omega)) (own_sm_n hg) sq (by omega) (by omega) (by omega) ha hb hc hd (fun j sj => ?_) (fun j h1 h2 h3 => ?_) ?_ ?_ ?_ ?_
  · rw [step]
    by_cases z0 : j.toInt.toNat = f + r
    · rw [if_pos z0]; exact own_by_of (Int32.ofNat a).toInt8.toInt32
    rw [if_neg z0]
    exact own_U_by _ _ _ _ _ _
  · rw [get j (fun i hi => by omega)]
    exact own_U_asc _ _ _ _ _ j ⟨by omega, by omega⟩ (own_sm_n hg) h1 h2
  · rw [step]; rw [if_pos (by omega)]; rfl
  · intro z; rw [hL] at z; exact absurd z (by decide)
  · intro z; rw [hL] at z; exact absurd z (by decide)
  · intro z; rw [hL] at z; exact absurd z (by decide)
set_option maxHeartbeats 40000000 in
theorem own_hl2 {x0 x1 x2 : Int64} {f r g a b c d : Nat} (hf : f ≤ 3) (hr : r ≤ 15) (hg : f + g ≤ 24) (ha : a < 256) (hb : b < 256) (hc : c < 256) (hd : d < 256) (hL : own_lenOf (Int32.ofNat a) = (2 : Int32)) :
    own_out (own_B (((own_U x0 x1 x2 (Int32.ofNat f) (Int32.ofNat (f + g))).set (f + r) (nar .byte (Int32.ofNat a).toInt8.toInt32)).set (f + r + 1) (nar .byte (Int32.ofNat b).toInt8.toInt32))) (Int32.ofNat (f + g)) 26 (Int32.ofNat f) = if Int32.ofNat (f + r) < Int32.ofNat (f + g) then (if Int32.ofNat (f + g) < Int32.ofNat (f + r) + own_lenOf (Int32.ofNat a) then Int32.ofNat (f + r) else if own_wf (own_lenOf (Int32.ofNat a)) (Int32.ofNat a) (Int32.ofNat b) (Int32.ofNat c) (Int32.ofNat d) = 0 then Int32.ofNat (f + r) else -1) else -1 := by
  have e0 : (Int32.ofNat f).toInt = f := own_nint (by omega)
  have e1 : (Int32.ofNat (f + r)).toInt = (f + r : Nat) := own_nint (by omega)
  have e2 : (Int32.ofNat (f + g)).toInt = (f + g : Nat) := own_nint (by omega)
  have sq : own_sm (Int32.ofNat (f + r)) := own_sm_n (by omega)
  have q1 : (Int32.ofNat (f + r) + (1 : Int32)).toInt = (f + r : Nat) + 1 := by rw [own_add sq 1 (by decide), e1]; rfl
  have q2 : (Int32.ofNat (f + r) + (2 : Int32)).toInt = (f + r : Nat) + 2 := by rw [own_add sq 2 (by decide), e1]; rfl
  have q3 : (Int32.ofNat (f + r) + (3 : Int32)).toInt = (f + r : Nat) + 3 := by rw [own_add sq 3 (by decide), e1]; rfl
  have hl' : (own_lenOf (Int32.ofNat a)).toInt = 2 := by rw [hL]; rfl
  have step : ∀ j : Int32, own_B (((own_U x0 x1 x2 (Int32.ofNat f) (Int32.ofNat (f + g))).set (f + r) (nar .byte (Int32.ofNat a).toInt8.toInt32)).set (f + r + 1) (nar .byte (Int32.ofNat b).toInt8.toInt32)) j = (if j.toInt.toNat = f + r + 1 then (nar .byte (Int32.ofNat b).toInt8.toInt32) else (if j.toInt.toNat = f + r then (nar .byte (Int32.ofNat a).toInt8.toInt32) else own_B (own_U x0 x1 x2 (Int32.ofNat f) (Int32.ofNat (f + g))) j)) := fun j => by rw [own_set_B (i := f + r + 1) (by simp only [List.length_set, own_U_len]; omega), own_set_B (i := f + r) (by simp only [List.length_set, own_U_len]; omega)]
  have get : ∀ (j : Int32), (∀ i : Nat, i < 2 → j.toInt.toNat ≠ f + r + i) → own_B (((own_U x0 x1 x2 (Int32.ofNat f) (Int32.ofNat (f + g))).set (f + r) (nar .byte (Int32.ofNat a).toInt8.toInt32)).set (f + r + 1) (nar .byte (Int32.ofNat b).toInt8.toInt32)) j = own_B (own_U x0 x1 x2 (Int32.ofNat f) (Int32.ofNat (f + g))) j := fun j hj => by
    rw [step]; rw [if_neg (hj 1 (by omega))]; rw [if_neg (by have := hj 0 (by omega); omega)]
  refine own_law _ _ _ _ (own_sm_n (by omega)) (own_sm_n hg) sq (by omega) (by omega) (by omega) ha hb hc hd (fun j sj => ?_) (fun j h1 h2 h3 => ?_) ?_ ?_ ?_ ?_
  · rw [step]
    by_cases z1 : j.toInt.toNat = f + r + 1
    · rw [if_pos z1]; exact own_by_of (Int32.ofNat b).toInt8.toInt32
    rw [if_neg z1]
    by_cases z0 : j.toInt.toNat = f + r
    · rw [if_pos z0]; exact own_by_of (Int32.ofNat a).toInt8.toInt32
    rw [if_neg z0]
    exact own_U_by _ _ _ _ _ _
  · rw [get j (fun i hi => by omega)]
    exact own_U_asc _ _ _ _ _ j ⟨by omega, by omega⟩ (own_sm_n hg) h1 h2
  · rw [step]; rw [if_neg (by omega)]; rw [if_pos (by omega)]; rfl
  · intro _; rw [step]; rw [if_pos (by omega)]; rfl
  · intro z; rw [hL] at z; exact absurd z (by decide)
  · intro z; rw [hL] at z; exact absurd z (by decide)
set_option maxHeartbeats 40000000 in
theorem own_hl3 {x0 x1 x2 : Int64} {f r g a b c d : Nat} (hf : f ≤ 3) (hr : r ≤ 15) (hg : f + g ≤ 24) (ha : a < 256) (hb : b < 256) (hc : c < 256) (hd : d < 256) (hL : own_lenOf (Int32.ofNat a) = (3 : Int32)) :
    own_out (own_B ((((own_U x0 x1 x2 (Int32.ofNat f) (Int32.ofNat (f + g))).set (f + r) (nar .byte (Int32.ofNat a).toInt8.toInt32)).set (f + r + 1) (nar .byte (Int32.ofNat b).toInt8.toInt32)).set (f + r + 2) (nar .byte (Int32.ofNat c).toInt8.toInt32))) (Int32.ofNat (f + g)) 26 (Int32.ofNat f) = if Int32.ofNat (f + r) < Int32.ofNat (f + g) then (if Int32.ofNat (f + g) < Int32.ofNat (f + r) + own_lenOf (Int32.ofNat a) then Int32.ofNat (f + r) else if own_wf (own_lenOf (Int32.ofNat a)) (Int32.ofNat a) (Int32.ofNat b) (Int32.ofNat c) (Int32.ofNat d) = 0 then Int32.ofNat (f + r) else -1) else -1 := by
  have e0 : (Int32.ofNat f).toInt = f := own_nint (by omega)
  have e1 : (Int32.ofNat (f + r)).toInt = (f + r : Nat) := own_nint (by omega)
  have e2 : (Int32.ofNat (f + g)).toInt = (f + g : Nat) := own_nint (by omega)
  have sq : own_sm (Int32.ofNat (f + r)) := own_sm_n (by omega)
  have q1 : (Int32.ofNat (f + r) + (1 : Int32)).toInt = (f + r : Nat) + 1 := by rw [own_add sq 1 (by decide), e1]; rfl
  have q2 : (Int32.ofNat (f + r) + (2 : Int32)).toInt = (f + r : Nat) + 2 := by rw [own_add sq 2 (by decide), e1]; rfl
  have q3 : (Int32.ofNat (f + r) + (3 : Int32)).toInt = (f + r : Nat) + 3 := by rw [own_add sq 3 (by decide), e1]; rfl
  have hl' : (own_lenOf (Int32.ofNat a)).toInt = 3 := by rw [hL]; rfl
  have step : ∀ j : Int32, own_B ((((own_U x0 x1 x2 (Int32.ofNat f) (Int32.ofNat (f + g))).set (f + r) (nar .byte (Int32.ofNat a).toInt8.toInt32)).set (f + r + 1) (nar .byte (Int32.ofNat b).toInt8.toInt32)).set (f + r + 2) (nar .byte (Int32.ofNat c).toInt8.toInt32)) j = (if j.toInt.toNat = f + r + 2 then (nar .byte (Int32.ofNat c).toInt8.toInt32) else (if j.toInt.toNat = f + r + 1 then (nar .byte (Int32.ofNat b).toInt8.toInt32) else (if j.toInt.toNat = f + r then (nar .byte (Int32.ofNat a).toInt8.toInt32) else own_B (own_U x0 x1 x2 (Int32.ofNat f) (Int32.ofNat (f + g))) j))) := fun j => by rw [own_set_B (i := f + r + 2) (by simp only [List.length_set, own_U_len]; omega), own_set_B (i := f + r + 1) (by simp only [List.length_set, own_U_len]; omega), own_set_B (i := f + r) (by simp only [List.length_set, own_U_len]; omega)]
  have get : ∀ (j : Int32), (∀ i : Nat, i < 3 → j.toInt.toNat ≠ f + r + i) → own_B ((((own_U x0 x1 x2 (Int32.ofNat f) (Int32.ofNat (f + g))).set (f + r) (nar .byte (Int32.ofNat a).toInt8.toInt32)).set (f + r + 1) (nar .byte (Int32.ofNat b).toInt8.toInt32)).set (f + r + 2) (nar .byte (Int32.ofNat c).toInt8.toInt32)) j = own_B (own_U x0 x1 x2 (Int32.ofNat f) (Int32.ofNat (f + g))) j := fun j hj => by
    rw [step]; rw [if_neg (hj 2 (by omega))]; rw [if_neg (hj 1 (by omega))]; rw [if_neg (by have := hj 0 (by omega); omega)]
  refine own_law _ _ _ _ (own_sm_n (by omega)) (own_sm_n hg) sq (by omega) (by omega) (by omega) ha hb hc hd (fun j sj => ?_) (fun j h1 h2 h3 => ?_) ?_ ?_ ?_ ?_
  · rw [step]
    by_cases z2 : j.toInt.toNat = f + r + 2
    · rw [if_pos z2]; exact own_by_of (Int32.ofNat c).toInt8.toInt32
    rw [if_neg z2]
    by_cases z1 : j.toInt.toNat = f + r + 1
    · rw [if_pos z1]; exact own_by_of (Int32.ofNat b).toInt8.toInt32
    rw [if_neg z1]
    by_cases z0 : j.toInt.toNat = f + r
    · rw [if_pos z0]; exact own_by_of (Int32.ofNat a).toInt8.toInt32
    rw [if_neg z0]
    exact own_U_by _ _ _ _ _ _
  · rw [get j (fun i hi => by omega)]
    exact own_U_asc _ _ _ _ _ j ⟨by omega, by omega⟩ (own_sm_n hg) h1 h2
  · rw [step]; rw [if_neg (by omega)]; rw [if_neg (by omega)]; rw [if_pos (by omega)]; rfl
  · intro _; rw [step]; rw [if_neg (by omega)]; rw [if_pos (by omega)]; rfl
  · intro _; rw [step]; rw [if_pos (by omega)]; rfl
  · intro z; rw [hL] at z; exact absurd z (by decide)
set_option maxHeartbeats 40000000 in
theorem own_hl4 {x0 x1 x2 : Int64} {f r g a b c d : Nat} (hf : f ≤ 3) (hr : r ≤ 15) (hg : f + g ≤ 24) (ha : a < 256) (hb : b < 256) (hc : c < 256) (hd : d < 256) (hL : own_lenOf (Int32.ofNat a) = (4 : Int32)) :
    own_out (own_B (((((own_U x0 x1 x2 (Int32.ofNat f) (Int32.ofNat (f + g))).set (f + r) (nar .byte (Int32.ofNat a).toInt8.toInt32)).set (f + r + 1) (nar .byte (Int32.ofNat b).toInt8.toInt32)).set (f + r + 2) (nar .byte (Int32.ofNat c).toInt8.toInt32)).set (f + r + 3) (nar .byte (Int32.ofNat d).toInt8.toInt32))) (Int32.ofNat (f + g)) 26 (Int32.ofNat f) = if Int32.ofNat (f + r) < Int32.ofNat (f + g) then (if Int32.ofNat (f + g) < Int32.ofNat (f + r) + own_lenOf (Int32.ofNat a) then Int32.ofNat (f + r) else if own_wf (own_lenOf (Int32.ofNat a)) (Int32.ofNat a) (Int32.ofNat b) (Int32.ofNat c) (Int32.ofNat d) = 0 then Int32.ofNat (f + r) else -1) else -1 := by
  have e0 : (Int32.ofNat f).toInt = f := own_nint (by omega)
  have e1 : (Int32.ofNat (f + r)).toInt = (f + r : Nat) := own_nint (by omega)
  have e2 : (Int32.ofNat (f + g)).toInt = (f + g : Nat) := own_nint (by omega)
  have sq : own_sm (Int32.ofNat (f + r)) := own_sm_n (by omega)
  have q1 : (Int32.ofNat (f + r) + (1 : Int32)).toInt = (f + r : Nat) + 1 := by rw [own_add sq 1 (by decide), e1]; rfl
  have q2 : (Int32.ofNat (f + r) + (2 : Int32)).toInt = (f + r : Nat) + 2 := by rw [own_add sq 2 (by decide), e1]; rfl
  have q3 : (Int32.ofNat (f + r) + (3 : Int32)).toInt = (f + r : Nat) + 3 := by rw [own_add sq 3 (by decide), e1]; rfl
  have hl' : (own_lenOf (Int32.ofNat a)).toInt = 4 := by rw [hL]; rfl
  have step : ∀ j : Int32, own_B (((((own_U x0 x1 x2 (Int32.ofNat f) (Int32.ofNat (f + g))).set (f + r) (nar .byte (Int32.ofNat a).toInt8.toInt32)).set (f + r + 1) (nar .byte (Int32.ofNat b).toInt8.toInt32)).set (f + r + 2) (nar .byte (Int32.ofNat c).toInt8.toInt32)).set (f + r + 3) (nar .byte (Int32.ofNat d).toInt8.toInt32)) j = (if j.toInt.toNat = f + r + 3 then (nar .byte (Int32.ofNat d).toInt8.toInt32) else (if j.toInt.toNat = f + r + 2 then (nar .byte (Int32.ofNat c).toInt8.toInt32) else (if j.toInt.toNat = f + r + 1 then (nar .byte (Int32.ofNat b).toInt8.toInt32) else (if j.toInt.toNat = f + r then (nar .byte (Int32.ofNat a).toInt8.toInt32) else own_B (own_U x0 x1 x2 (Int32.ofNat f) (Int32.ofNat (f + g))) j)))) := fun j => by rw [own_set_B (i := f + r + 3) (by simp only [List.length_set, own_U_len]; omega), own_set_B (i := f + r + 2) (by simp only [List.length_set, own_U_len]; omega), own_set_B (i := f + r + 1) (by simp only [List.length_set, own_U_len]; omega), own_set_B (i := f + r) (by simp only [List.length_set, own_U_len]; omega)]
  have get : ∀ (j : Int32), (∀ i : Nat, i < 4 → j.toInt.toNat ≠ f + r + i) → own_B (((((own_U x0 x1 x2 (Int32.ofNat f) (Int32.ofNat (f + g))).set (f + r) (nar .byte (Int32.ofNat a).toInt8.toInt32)).set (f + r + 1) (nar .byte (Int32.ofNat b).toInt8.toInt32)).set (f + r + 2) (nar .byte (Int32.ofNat c).toInt8.toInt32)).set (f + r + 3) (nar .byte (Int32.ofNat d).toInt8.toInt32)) j = own_B (own_U x0 x1 x2 (Int32.ofNat f) (Int32.ofNat (f + g))) j := fun j hj => by
    rw [step]; rw [if_neg (hj 3 (by omega))]; rw [if_neg (hj 2 (by omega))]; rw [if_neg (hj 1 (by omega))]; rw [if_neg (by have := hj 0 (by omega); omega)]
  refine own_law _ _ _ _ (own_sm_n (by omega)) (own_sm_n hg) sq (by omega) (by omega) (by omega) ha hb hc hd (fun j sj => ?_) (fun j h1 h2 h3 => ?_) ?_ ?_ ?_ ?_
  · rw [step]
    by_cases z3 : j.toInt.toNat = f + r + 3
    · rw [if_pos z3]; exact own_by_of (Int32.ofNat d).toInt8.toInt32
    rw [if_neg z3]
    by_cases z2 : j.toInt.toNat = f + r + 2
    · rw [if_pos z2]; exact own_by_of (Int32.ofNat c).toInt8.toInt32
    rw [if_neg z2]
    by_cases z1 : j.toInt.toNat = f + r + 1
    · rw [if_pos z1]; exact own_by_of (Int32.ofNat b).toInt8.toInt32
    rw [if_neg z1]
    by_cases z0 : j.toInt.toNat = f + r
    · rw [if_pos z0]; exact own_by_of (Int32.ofNat a).toInt8.toInt32
    rw [if_neg z0]
    exact own_U_by _ _ _ _ _ _
  · rw [get j (fun i hi => by omega)]
    exact own_U_asc _ _ _ _ _ j ⟨by omega, by omega⟩ (own_sm_n hg) h1 h2
  · rw [step]; rw [if_neg (by omega)]; rw [if_neg (by omega)]; rw [if_neg (by omega)]; rw [if_pos (by omega)]; rfl
  · intro _; rw [step]; rw [if_neg (by omega)]; rw [if_neg (by omega)]; rw [if_pos (by omega)]; rfl
  · intro _; rw [step]; rw [if_neg (by omega)]; rw [if_pos (by omega)]; rfl
  · intro _; rw [step]; rw [if_pos (by omega)]; rfl
theorem pd___BIJII_V : parseMethodDescriptor "([BIJII)V" = some ⟨[(.array .byte), .int, .long, .int, .int], none⟩ := by decide +kernel
theorem pd__I_I : parseMethodDescriptor "(I)I" = some ⟨[.int], some .int⟩ := by decide +kernel
theorem ef_rm0 (m : MethodId) (q0 : Int64) (q1 : Int64) (q2 : Int64) (p3 : Int32) (p4 : Int32) : entryFrame m #[(.long q0), (.long q1), (.long q2), (.int p3), (.int p4)] maxLocals = mkF m 0 #[.val (.long q0), .second, .val (.long q1), .second, .val (.long q2), .second, .val (.int p3), .val (.int p4), .unset, .unset, .unset, .unset, .unset, .unset, .unset, .unset, .unset, .unset] [] := by first | (simp [entryFrame, mkF, argsToLocals, Value.category, maxLocals]; done) | rfl
def Qrm0 (Z : State) (q0 : Int64) (q1 : Int64) (q2 : Int64) (p3 : Int32) (p4 : Int32) (h0 : Heap) (n0 : Nat) (v : Option Value) (h : Heap) (L : List Loc) : Prop := v = some (.int 1) ∧ Fr n0 L
set_option maxRecDepth 65536 in
set_option maxHeartbeats 40000000 in
theorem rm0 (l : Launch) (Z : State) (a0 : Array Value) (hw : ∀ d ∈ tables_1, d.before a0 Z = true) (ws : List Jvm.Cond) (q0 : Int64) (q1 : Int64) (q2 : Int64) (p3 : Int32) (p4 : Int32) (h0 : Heap) (n0 : Nat) (Z0 : n0 ≤ h0.size) :
    MetFree l x (head1 (Jvm.Cond.code x code maxLocals ret :: ws) room_1) (fun a U => a = #[(.long q0), (.long q1), (.long q2), (.int p3), (.int p4)] ∧ Z.Warmed39 U.vm ∧ U.heap = h0) (fun _ _ _ _ _ => True) (fun _ U o U' => ∃ v L, o = .returned v ∧ Qrm0 Z q0 q1 q2 p3 p4 h0 n0 v U'.heap L ∧ FrameEnd U o U' L room_1.cells room_1.slots) := by
  refine MetFree.of_bodySF (plainFor_of_name pn_com_example_reshelve_reshelve_Utf8FirstFaultPinLaw) hisR ?_
  intro p e s m args below meth c s₁ Bd hml0 hP hK
  obtain ⟨rfl, hZ, hh⟩ := hP
  have hx := Bd.exec
  have hby := Bd.bytes
  have hml : c.maxLocals = 18 := hml0
  have hown : s.vm.findClass "com/example/reshelve/reshelve/Utf8FirstFaultPinLaw" = some m.cls := findClass_of_methodNamed Bd.named
  have hnm := (name_of_methodNamed Bd.named Bd.method).1
  have X0 : Stand p l e room_1 s m #[(.long q0), (.long q1), (.long q2), (.int p3), (.int p4)] below meth c s₁ [] 0 0 := Stand.of_body Bd
  have e0 : s₁.heap = h0 := by rw [← hh, Bd.state]; rfl
  have N0 := Fr.nil n0
  have pre0 : ∀ t, Steps p.tables e below (s₁.setTop (mkF m 0 #[.val (.long q0), .second, .val (.long q1), .second, .val (.long q2), .second, .val (.int p3), .val (.int p4), .unset, .unset, .unset, .unset, .unset, .unset, .unset, .unset, .unset, .unset] [])) t → Steps p.tables e below (s₁.setTop (entryFrame m #[(.long q0), (.long q1), (.long q2), (.int p3), (.int p4)] maxLocals)) t := fun t k => castTop (ef_rm0 m q0 q1 q2 p3 p4) k
  obtain ⟨f, hf, ef⟩ := own_low p4 2
  have ef : (p4 &&& (3 : Int32)) = (Int32.ofNat f) := ef
  have hf3 : f ≤ 3 := by omega
  obtain ⟨r, hr16, er⟩ := own_low ((p4.toUInt32 >>> ((2 : Int32) &&& 31).toUInt32).toInt32) 4
  have er : (((p4.toUInt32 >>> ((2 : Int32) &&& 31).toUInt32).toInt32) &&& (15 : Int32)) = (Int32.ofNat r) := er
  have hr15 : r ≤ 15 := by omega
  obtain ⟨u, hu, eu⟩ : ∃ u, u < 2 ^ 31 ∧ ((p4.toUInt32 >>> ((6 : Int32) &&& 31).toUInt32).toInt32) = (Int32.ofNat u) := ⟨_, by have := p4.toBitVec.isLt; omega, own_ushr p4 6 6 (by decide) (by decide)⟩
  have e25 : ((25 : Int32) - (Int32.ofNat f)) = (Int32.ofNat (25 - f)) := by rcases (show f = 0 ∨ f = 1 ∨ f = 2 ∨ f = 3 by omega) with rfl | rfl | rfl | rfl <;> decide
  obtain ⟨g, hg, eg⟩ : ∃ g, f + g ≤ 24 ∧ ((Int32.ofNat u) - (Int32.ofNat u) / (Int32.ofNat (25 - f)) * (Int32.ofNat (25 - f))) = (Int32.ofNat g) := ⟨u % (25 - f), by have := Nat.mod_lt u (show 25 - f > 0 by omega); omega, (own_irem (by rw [own_nint hu]; omega) (by rw [own_nint (by omega)]; omega)).trans (own_nmod hu (by omega))⟩
  obtain ⟨T272, h272, k272, X272, e272, E272, A272, st272⟩ := newP X0 hx hZ (hw _ (List.mem_of_getElem? (i := 0) rfl)) e0 (g := (mkF m 36 #[.val (.long q0), .second, .val (.long q1), .second, .val (.long q2), .second, .val (.int p3), .val (.int p4), .val (.int (Int32.ofNat f)), .val (.int (Int32.ofNat (f + r))), .val (.int (Int32.ofNat (f + g))), .unset, .unset, .unset, .unset, .unset, .unset, .unset] [(.int (24 : Int32))])) rfl (hb hby at_36) rfl (by decide) (cap := 24) (by decide) (by decide) (by decide) (by decide)
  obtain ⟨b272, g272⟩ : ∃ z, z = h0.size := ⟨_, rfl⟩
  rw [← g272] at A272 st272
  have g273 : n0 ≤ b272 := Nat.le_trans Z0 (Nat.le_of_eq g272.symm)
  have Zn274 := Nat.le_trans Z0 E272.1
  have f275 := Arv.new A272 (by decide)
  have f276 : Arv Z h272 b272 k272 .byte (24 : Int32) [(.int (0 : Int32)), (.int (0 : Int32)), (.int (0 : Int32)), (.int (0 : Int32)), (.int (0 : Int32)), (.int (0 : Int32)), (.int (0 : Int32)), (.int (0 : Int32)), (.int (0 : Int32)), (.int (0 : Int32)), (.int (0 : Int32)), (.int (0 : Int32)), (.int (0 : Int32)), (.int (0 : Int32)), (.int (0 : Int32)), (.int (0 : Int32)), (.int (0 : Int32)), (.int (0 : Int32)), (.int (0 : Int32)), (.int (0 : Int32)), (.int (0 : Int32)), (.int (0 : Int32)), (.int (0 : Int32)), (.int (0 : Int32))] (.int (0 : Int32)) := f275.pad (pad_rep [] (.int (0 : Int32)) 24)
  have f277 : Arv Z h272 b272 k272 .byte (24 : Int32) ((List.replicate 24 (0 : Int32)).map Value.int) (.int (0 : Int32)) := f276
  obtain ⟨_, _, ⟨T278, L278, k278, n278⟩, -, X278, ⟨Lc278, hQ278, l278, y278, z278⟩, st278⟩ := Jvm.LawKit.callS X272 hx (y := (⟨"com/example/reshelve/reshelve/Utf8FirstFaultPinLaw", "fill8", "([BIJII)V"⟩ : MethodName)) hown (mvT hZ (hw _ (List.mem_of_getElem? (i := 1) rfl))) (mvT hZ (hw _ (List.mem_of_getElem? (i := 2) rfl))) (mvT hZ (hw _ (List.mem_of_getElem? (i := 3) rfl))) (mvT hZ (hw _ (List.mem_of_getElem? (i := 4) rfl))) (by decide) (backOf (W := 0) (rm1_0 l Z a0 hw [] b272 q0 (Int32.ofNat f) (Int32.ofNat (f + g)) (List.replicate 24 (0 : Int32)) k272 h272 n0 Zn274 f277 (by simp only [own_fill_len, List.length_replicate]) g273) hZ (hw _ (List.mem_of_getElem? (i := 4) rfl)) (hw _ (List.mem_of_getElem? (i := 3) rfl)) (by decide) (by decide)) (g := (mkF m 48 #[.val (.long q0), .second, .val (.long q1), .second, .val (.long q2), .second, .val (.int p3), .val (.int p4), .val (.int (Int32.ofNat f)), .val (.int (Int32.ofNat (f + r))), .val (.int (Int32.ofNat (f + g))), .val (.ref b272), .unset, .unset, .unset, .unset, .unset, .unset] [(.int (Int32.ofNat (f + g))), (.int (Int32.ofNat f)), (.long q0), (.int (0 : Int32)), (.ref b272)])) rfl (by rw [hml]; rfl) (argsL := [(.ref b272), (.int (0 : Int32)), (.long q0), (.int (Int32.ofNat f)), (.int (Int32.ofNat (f + g)))]) (rest := []) (lenOf pd___BIJII_V rfl) rfl (by show 2 * 0 + _ ≤ _; exact Nat.le_of_eq rfl) (hb hby at_48) (fun _ _ => ⟨rfl, e272, (by decide : 1 + 0 ≤ _), (by decide : 24 + 0 ≤ _)⟩)
  dsimp only [Pt.U, Pt.locs, Pt.cells, Pt.slots] at X278 l278 y278 z278 st278 hQ278
  subst l278 y278 z278
  obtain ⟨rfl, N278q, K278, Va278⟩ := hQ278
  have N279 := Fr.app N0 N278q
  have Zn280 := Nat.le_trans Zn274 K278.1
  obtain ⟨_, _, ⟨T281, L281, k281, n281⟩, -, X281, ⟨Lc281, hQ281, l281, y281, z281⟩, st281⟩ := Jvm.LawKit.callS X278 hx (y := (⟨"com/example/reshelve/reshelve/Utf8FirstFaultPinLaw", "fill8", "([BIJII)V"⟩ : MethodName)) hown (mvT hZ (hw _ (List.mem_of_getElem? (i := 1) rfl))) (mvT hZ (hw _ (List.mem_of_getElem? (i := 2) rfl))) (mvT hZ (hw _ (List.mem_of_getElem? (i := 3) rfl))) (mvT hZ (hw _ (List.mem_of_getElem? (i := 4) rfl))) (by decide) (backOf (W := 0) (rm1_8 l Z a0 hw [] b272 q1 (Int32.ofNat f) (Int32.ofNat (f + g)) (own_fill 0 q0 (Int32.ofNat f) (Int32.ofNat (f + g)) (List.replicate 24 (0 : Int32))) k272 T278.heap n0 Zn280 Va278 (by simp only [own_fill_len, List.length_replicate]) g273) hZ (hw _ (List.mem_of_getElem? (i := 4) rfl)) (hw _ (List.mem_of_getElem? (i := 3) rfl)) (by decide) (by decide)) (g := (mkF m 60 #[.val (.long q0), .second, .val (.long q1), .second, .val (.long q2), .second, .val (.int p3), .val (.int p4), .val (.int (Int32.ofNat f)), .val (.int (Int32.ofNat (f + r))), .val (.int (Int32.ofNat (f + g))), .val (.ref b272), .unset, .unset, .unset, .unset, .unset, .unset] [(.int (Int32.ofNat (f + g))), (.int (Int32.ofNat f)), (.long q1), (.int (8 : Int32)), (.ref b272)])) rfl (by rw [hml]; rfl) (argsL := [(.ref b272), (.int (8 : Int32)), (.long q1), (.int (Int32.ofNat f)), (.int (Int32.ofNat (f + g)))]) (rest := []) (lenOf pd___BIJII_V rfl) rfl (by show 2 * 0 + _ ≤ _; exact Nat.le_of_eq rfl) (hb hby at_60) (fun _ _ => ⟨rfl, rfl, (by decide : 1 + 0 ≤ _), (by decide : 24 + 0 ≤ _)⟩)
  dsimp only [Pt.U, Pt.locs, Pt.cells, Pt.slots] at X281 l281 y281 z281 st281 hQ281
  subst l281 y281 z281
  obtain ⟨rfl, N281q, K281, Va281⟩ := hQ281
  have N282 := Fr.app N279 N281q
  have Zn283 := Nat.le_trans Zn280 K281.1
  obtain ⟨_, _, ⟨T284, L284, k284, n284⟩, -, X284, ⟨Lc284, hQ284, l284, y284, z284⟩, st284⟩ := Jvm.LawKit.callS X281 hx (y := (⟨"com/example/reshelve/reshelve/Utf8FirstFaultPinLaw", "fill8", "([BIJII)V"⟩ : MethodName)) hown (mvT hZ (hw _ (List.mem_of_getElem? (i := 1) rfl))) (mvT hZ (hw _ (List.mem_of_getElem? (i := 2) rfl))) (mvT hZ (hw _ (List.mem_of_getElem? (i := 3) rfl))) (mvT hZ (hw _ (List.mem_of_getElem? (i := 4) rfl))) (by decide) (backOf (W := 0) (rm1_16 l Z a0 hw [] b272 q2 (Int32.ofNat f) (Int32.ofNat (f + g)) (own_fill 8 q1 (Int32.ofNat f) (Int32.ofNat (f + g)) (own_fill 0 q0 (Int32.ofNat f) (Int32.ofNat (f + g)) (List.replicate 24 (0 : Int32)))) k272 T281.heap n0 Zn283 Va281 (by simp only [own_fill_len, List.length_replicate]) g273) hZ (hw _ (List.mem_of_getElem? (i := 4) rfl)) (hw _ (List.mem_of_getElem? (i := 3) rfl)) (by decide) (by decide)) (g := (mkF m 73 #[.val (.long q0), .second, .val (.long q1), .second, .val (.long q2), .second, .val (.int p3), .val (.int p4), .val (.int (Int32.ofNat f)), .val (.int (Int32.ofNat (f + r))), .val (.int (Int32.ofNat (f + g))), .val (.ref b272), .unset, .unset, .unset, .unset, .unset, .unset] [(.int (Int32.ofNat (f + g))), (.int (Int32.ofNat f)), (.long q2), (.int (16 : Int32)), (.ref b272)])) rfl (by rw [hml]; rfl) (argsL := [(.ref b272), (.int (16 : Int32)), (.long q2), (.int (Int32.ofNat f)), (.int (Int32.ofNat (f + g)))]) (rest := []) (lenOf pd___BIJII_V rfl) rfl (by show 2 * 0 + _ ≤ _; exact Nat.le_of_eq rfl) (hb hby at_73) (fun _ _ => ⟨rfl, rfl, (by decide : 1 + 0 ≤ _), (by decide : 24 + 0 ≤ _)⟩)
  dsimp only [Pt.U, Pt.locs, Pt.cells, Pt.slots] at X284 l284 y284 z284 st284 hQ284
  subst l284 y284 z284
  obtain ⟨rfl, N284q, K284, Va284⟩ := hQ284
  have N285 := Fr.app N282 N284q
  have Zn286 := Nat.le_trans Zn283 K284.1
  have f287 : Arv Z T284.heap b272 k272 .byte (24 : Int32) ((own_U q0 q1 q2 (Int32.ofNat f) (Int32.ofNat (f + g))).map Value.int) (.int (0 : Int32)) := Va284
  obtain ⟨a, hlt_a, ea⟩ := own_low p3 8
  have ea : (p3 &&& (255 : Int32)) = (Int32.ofNat a) := ea
  obtain ⟨b, hlt_b, eb⟩ := own_low ((p3.toUInt32 >>> ((8 : Int32) &&& 31).toUInt32).toInt32) 8
  have eb : (((p3.toUInt32 >>> ((8 : Int32) &&& 31).toUInt32).toInt32) &&& (255 : Int32)) = (Int32.ofNat b) := eb
  obtain ⟨cc, hlt_cc, ecc⟩ := own_low ((p3.toUInt32 >>> ((16 : Int32) &&& 31).toUInt32).toInt32) 8
  have ecc : (((p3.toUInt32 >>> ((16 : Int32) &&& 31).toUInt32).toInt32) &&& (255 : Int32)) = (Int32.ofNat cc) := ecc
  obtain ⟨d, hlt_d, ed⟩ := own_low ((p3.toUInt32 >>> ((24 : Int32) &&& 31).toUInt32).toInt32) 8
  have ed : (((p3.toUInt32 >>> ((24 : Int32) &&& 31).toUInt32).toInt32) &&& (255 : Int32)) = (Int32.ofNat d) := ed
  obtain ⟨_, _, ⟨T288, L288, k288, n288⟩, -, X288, ⟨Lc288, hQ288, l288, y288, z288⟩, st288⟩ := Jvm.LawKit.callS X284 hx (y := (⟨"com/example/reshelve/reshelve/Utf8FirstFaultPinLaw", "lengthOf", "(I)I"⟩ : MethodName)) hown (mvT hZ (hw _ (List.mem_of_getElem? (i := 8) rfl))) (mvT hZ (hw _ (List.mem_of_getElem? (i := 9) rfl))) (mvT hZ (hw _ (List.mem_of_getElem? (i := 3) rfl))) (mvT hZ (hw _ (List.mem_of_getElem? (i := 10) rfl))) (by decide) (backOf (W := 0) (rm3 l Z a0 hw [] (Int32.ofNat a)  T284.heap n0 Zn286 ) hZ (hw _ (List.mem_of_getElem? (i := 10) rfl)) (hw _ (List.mem_of_getElem? (i := 3) rfl)) (by decide) (by decide)) (g := (mkF m 119 #[.val (.long q0), .second, .val (.long q1), .second, .val (.long q2), .second, .val (.int p3), .val (.int p4), .val (.int (Int32.ofNat f)), .val (.int (Int32.ofNat (f + r))), .val (.int (Int32.ofNat (f + g))), .val (.ref b272), .val (.int (Int32.ofNat a)), .val (.int (Int32.ofNat b)), .val (.int (Int32.ofNat cc)), .val (.int (Int32.ofNat d)), .unset, .unset] [(.int (Int32.ofNat a))])) rfl (by rw [hml]; rfl) (argsL := [(.int (Int32.ofNat a))]) (rest := []) (lenOf pd__I_I rfl) rfl (by show 2 * 0 + _ ≤ _; exact Nat.le_of_eq rfl) (hb hby at_119) (fun _ _ => ⟨rfl, rfl, (by decide : 1 + 0 ≤ _), (by decide : 24 + 0 ≤ _)⟩)
  dsimp only [Pt.U, Pt.locs, Pt.cells, Pt.slots] at X288 l288 y288 z288 st288 hQ288
  subst l288 y288 z288
  obtain ⟨rfl, N288q, e288⟩ := hQ288
  have N289 := Fr.app N285 N288q
  have hlr := own_len_range (a := a) (by omega)
  have sq := own_sm_n (n := f + r) (by omega)
  have eq0 : (Int32.ofNat (f + r)).toInt = (f + r : Nat) := own_nint (by omega)
  have eq1 : ((Int32.ofNat (f + r)) + (1 : Int32)).toInt = (f + r : Nat) + 1 := by rw [own_add sq 1 (by decide), eq0]; rfl
  have eq2 : ((Int32.ofNat (f + r)) + (2 : Int32)).toInt = (f + r : Nat) + 2 := by rw [own_add sq 2 (by decide), eq0]; rfl
  have eq3 : ((Int32.ofNat (f + r)) + (3 : Int32)).toInt = (f + r : Nat) + 3 := by rw [own_add sq 3 (by decide), eq0]; rfl
  obtain ⟨c290, r290, q290, s290, n290, H290, G290⟩ := id f287
  have i290 : ¬ ((Int32.ofNat (f + r)) < 0 ∨ c290.slots.size ≤ ((Int32.ofNat (f + r))).toNatClampNeg) := inb_of s290 ⟨by rw [Int32.lt_iff_toInt_lt, eq0]; show ¬ (_ < (0 : Int)); omega, by rw [Int32.lt_iff_toInt_lt, eq0]; show _ < (24 : Int); omega⟩
  obtain ⟨T290, h290, X290, e290, W290, st290⟩ := stB X288 hx hZ e288 r290 (j := (Int32.ofNat (f + r))) i290 (g := (mkF m 131 #[.val (.long q0), .second, .val (.long q1), .second, .val (.long q2), .second, .val (.int p3), .val (.int p4), .val (.int (Int32.ofNat f)), .val (.int (Int32.ofNat (f + r))), .val (.int (Int32.ofNat (f + g))), .val (.ref b272), .val (.int (Int32.ofNat a)), .val (.int (Int32.ofNat b)), .val (.int (Int32.ofNat cc)), .val (.int (Int32.ofNat d)), .val (.int (own_lenOf (Int32.ofNat a))), .unset] [(.int (Int32.ofNat a).toInt8.toInt32), (.int (Int32.ofNat (f + r))), (.ref b272)])) rfl rfl (hb hby at_131)
  have f291 := Arv.set r290 q290 s290 n290 H290 G290 (fits_nar_byte _) W290 (f + r) (by show Int.toNat _ = _; rw [eq0]; omega) (by simp only [List.length_map, List.length_set, own_U_len]; omega)
  have Zn292 := Nat.le_trans Zn286 (Keep.of_wr W290).1
  have N293 := Fr.snoc X290 N289 g273
  have f294 : Arv Z h290 b272 k272 .byte (24 : Int32) (((own_U q0 q1 q2 (Int32.ofNat f) (Int32.ofNat (f + g))).set (f + r) (nar .byte (Int32.ofNat a).toInt8.toInt32)).map Value.int) (.int (0 : Int32)) := own_map_set ▸ f291
  by_cases k2 : (own_lenOf (Int32.ofNat a)) < (2 : Int32)
  · have hLn : own_lenOf (Int32.ofNat a) = (1 : Int32) := Int32.toInt_inj.mp (by have z0 : (own_lenOf (Int32.ofNat a)).toInt < 2 := (by have := k2; rw [Int32.lt_iff_toInt_lt] at this; exact this); show _ = (1 : Int); omega)
    obtain ⟨Tz, lcz, s17, Xz, Nz, stz⟩ := tl0 X290 hx hZ hw hby hml hown e290 N293 Zn292 f294 (own_sm_n (by omega)) (own_sm_n hg) (own_hl1 hf3 hr15 hg hlt_a hlt_b hlt_cc hlt_d hLn)
    obtain ⟨fs, hr, hrun, hended, hW, hsame⟩ := Xz.leave (v := some (.int (1 : Int32))) (fun h => by rw [Bd.returns] at h; cases h)
    refine ⟨_, _, pre0 _ ?_, hrun, hended, _, _, rfl, ?_, ⟨_, rfl⟩, hW, hsame.mono (by decide) (by decide)⟩
    · show Steps p.tables e below (s₁.setTop (mkF m 0 #[.val (.long q0), .second, .val (.long q1), .second, .val (.long q2), .second, .val (.int p3), .val (.int p4), .unset, .unset, .unset, .unset, .unset, .unset, .unset, .unset, .unset, .unset] [])) _
      refine XS.iload X0.here hx rfl (hb hby at_0) rfl ?_
      show Steps p.tables e below (s₁.setTop (mkF m 2 #[.val (.long q0), .second, .val (.long q1), .second, .val (.long q2), .second, .val (.int p3), .val (.int p4), .unset, .unset, .unset, .unset, .unset, .unset, .unset, .unset, .unset, .unset] [(.int p4)])) _
      refine XS.iconst X0.here hx rfl (hb hby at_2) ?_
      show Steps p.tables e below (s₁.setTop (mkF m 3 #[.val (.long q0), .second, .val (.long q1), .second, .val (.long q2), .second, .val (.int p3), .val (.int p4), .unset, .unset, .unset, .unset, .unset, .unset, .unset, .unset, .unset, .unset] [(.int (3 : Int32)), (.int p4)])) _
      refine XS.iand X0.here hx rfl (hb hby at_3) rfl ?_
      show Steps p.tables e below (s₁.setTop (mkF m 4 #[.val (.long q0), .second, .val (.long q1), .second, .val (.long q2), .second, .val (.int p3), .val (.int p4), .unset, .unset, .unset, .unset, .unset, .unset, .unset, .unset, .unset, .unset] [(.int (p4 &&& (3 : Int32)))])) _
      rw [ef]
      show Steps p.tables e below (s₁.setTop (mkF m 4 #[.val (.long q0), .second, .val (.long q1), .second, .val (.long q2), .second, .val (.int p3), .val (.int p4), .unset, .unset, .unset, .unset, .unset, .unset, .unset, .unset, .unset, .unset] [(.int (Int32.ofNat f))])) _
      refine XS.istore X0.here hx rfl (hb hby at_4) rfl (l' := #[.val (.long q0), .second, .val (.long q1), .second, .val (.long q2), .second, .val (.int p3), .val (.int p4), .val (.int (Int32.ofNat f)), .unset, .unset, .unset, .unset, .unset, .unset, .unset, .unset, .unset]) rfl ?_
      show Steps p.tables e below (s₁.setTop (mkF m 6 #[.val (.long q0), .second, .val (.long q1), .second, .val (.long q2), .second, .val (.int p3), .val (.int p4), .val (.int (Int32.ofNat f)), .unset, .unset, .unset, .unset, .unset, .unset, .unset, .unset, .unset] [])) _
      refine XS.iload X0.here hx rfl (hb hby at_6) rfl ?_
      show Steps p.tables e below (s₁.setTop (mkF m 8 #[.val (.long q0), .second, .val (.long q1), .second, .val (.long q2), .second, .val (.int p3), .val (.int p4), .val (.int (Int32.ofNat f)), .unset, .unset, .unset, .unset, .unset, .unset, .unset, .unset, .unset] [(.int (Int32.ofNat f))])) _
      refine XS.iload X0.here hx rfl (hb hby at_8) rfl ?_
      show Steps p.tables e below (s₁.setTop (mkF m 10 #[.val (.long q0), .second, .val (.long q1), .second, .val (.long q2), .second, .val (.int p3), .val (.int p4), .val (.int (Int32.ofNat f)), .unset, .unset, .unset, .unset, .unset, .unset, .unset, .unset, .unset] [(.int p4), (.int (Int32.ofNat f))])) _
      refine XS.iconst X0.here hx rfl (hb hby at_10) ?_
      show Steps p.tables e below (s₁.setTop (mkF m 11 #[.val (.long q0), .second, .val (.long q1), .second, .val (.long q2), .second, .val (.int p3), .val (.int p4), .val (.int (Int32.ofNat f)), .unset, .unset, .unset, .unset, .unset, .unset, .unset, .unset, .unset] [(.int (2 : Int32)), (.int p4), (.int (Int32.ofNat f))])) _
      refine XS.iushr X0.here hx rfl (hb hby at_11) rfl ?_
      show Steps p.tables e below (s₁.setTop (mkF m 12 #[.val (.long q0), .second, .val (.long q1), .second, .val (.long q2), .second, .val (.int p3), .val (.int p4), .val (.int (Int32.ofNat f)), .unset, .unset, .unset, .unset, .unset, .unset, .unset, .unset, .unset] [(.int ((p4.toUInt32 >>> ((2 : Int32) &&& 31).toUInt32).toInt32)), (.int (Int32.ofNat f))])) _
      refine XS.bipush X0.here hx rfl (hb hby at_12) ?_
      show Steps p.tables e below (s₁.setTop (mkF m 14 #[.val (.long q0), .second, .val (.long q1), .second, .val (.long q2), .second, .val (.int p3), .val (.int p4), .val (.int (Int32.ofNat f)), .unset, .unset, .unset, .unset, .unset, .unset, .unset, .unset, .unset] [(.int (15 : Int32)), (.int ((p4.toUInt32 >>> ((2 : Int32) &&& 31).toUInt32).toInt32)), (.int (Int32.ofNat f))])) _
      refine XS.iand X0.here hx rfl (hb hby at_14) rfl ?_
      show Steps p.tables e below (s₁.setTop (mkF m 15 #[.val (.long q0), .second, .val (.long q1), .second, .val (.long q2), .second, .val (.int p3), .val (.int p4), .val (.int (Int32.ofNat f)), .unset, .unset, .unset, .unset, .unset, .unset, .unset, .unset, .unset] [(.int (((p4.toUInt32 >>> ((2 : Int32) &&& 31).toUInt32).toInt32) &&& (15 : Int32))), (.int (Int32.ofNat f))])) _
      rw [er]
      show Steps p.tables e below (s₁.setTop (mkF m 15 #[.val (.long q0), .second, .val (.long q1), .second, .val (.long q2), .second, .val (.int p3), .val (.int p4), .val (.int (Int32.ofNat f)), .unset, .unset, .unset, .unset, .unset, .unset, .unset, .unset, .unset] [(.int (Int32.ofNat r)), (.int (Int32.ofNat f))])) _
      refine XS.iadd X0.here hx rfl (hb hby at_15) rfl ?_
      show Steps p.tables e below (s₁.setTop (mkF m 16 #[.val (.long q0), .second, .val (.long q1), .second, .val (.long q2), .second, .val (.int p3), .val (.int p4), .val (.int (Int32.ofNat f)), .unset, .unset, .unset, .unset, .unset, .unset, .unset, .unset, .unset] [(.int ((Int32.ofNat f) + (Int32.ofNat r)))])) _
      rw [own_nadd f r]
      show Steps p.tables e below (s₁.setTop (mkF m 16 #[.val (.long q0), .second, .val (.long q1), .second, .val (.long q2), .second, .val (.int p3), .val (.int p4), .val (.int (Int32.ofNat f)), .unset, .unset, .unset, .unset, .unset, .unset, .unset, .unset, .unset] [(.int (Int32.ofNat (f + r)))])) _
      refine XS.istore X0.here hx rfl (hb hby at_16) rfl (l' := #[.val (.long q0), .second, .val (.long q1), .second, .val (.long q2), .second, .val (.int p3), .val (.int p4), .val (.int (Int32.ofNat f)), .val (.int (Int32.ofNat (f + r))), .unset, .unset, .unset, .unset, .unset, .unset, .unset, .unset]) rfl ?_
      show Steps p.tables e below (s₁.setTop (mkF m 18 #[.val (.long q0), .second, .val (.long q1), .second, .val (.long q2), .second, .val (.int p3), .val (.int p4), .val (.int (Int32.ofNat f)), .val (.int (Int32.ofNat (f + r))), .unset, .unset, .unset, .unset, .unset, .unset, .unset, .unset] [])) _
      refine XS.iload X0.here hx rfl (hb hby at_18) rfl ?_
      show Steps p.tables e below (s₁.setTop (mkF m 20 #[.val (.long q0), .second, .val (.long q1), .second, .val (.long q2), .second, .val (.int p3), .val (.int p4), .val (.int (Int32.ofNat f)), .val (.int (Int32.ofNat (f + r))), .unset, .unset, .unset, .unset, .unset, .unset, .unset, .unset] [(.int (Int32.ofNat f))])) _
      refine XS.iload X0.here hx rfl (hb hby at_20) rfl ?_
      show Steps p.tables e below (s₁.setTop (mkF m 22 #[.val (.long q0), .second, .val (.long q1), .second, .val (.long q2), .second, .val (.int p3), .val (.int p4), .val (.int (Int32.ofNat f)), .val (.int (Int32.ofNat (f + r))), .unset, .unset, .unset, .unset, .unset, .unset, .unset, .unset] [(.int p4), (.int (Int32.ofNat f))])) _
      refine XS.bipush X0.here hx rfl (hb hby at_22) ?_
      show Steps p.tables e below (s₁.setTop (mkF m 24 #[.val (.long q0), .second, .val (.long q1), .second, .val (.long q2), .second, .val (.int p3), .val (.int p4), .val (.int (Int32.ofNat f)), .val (.int (Int32.ofNat (f + r))), .unset, .unset, .unset, .unset, .unset, .unset, .unset, .unset] [(.int (6 : Int32)), (.int p4), (.int (Int32.ofNat f))])) _
      refine XS.iushr X0.here hx rfl (hb hby at_24) rfl ?_
      show Steps p.tables e below (s₁.setTop (mkF m 25 #[.val (.long q0), .second, .val (.long q1), .second, .val (.long q2), .second, .val (.int p3), .val (.int p4), .val (.int (Int32.ofNat f)), .val (.int (Int32.ofNat (f + r))), .unset, .unset, .unset, .unset, .unset, .unset, .unset, .unset] [(.int ((p4.toUInt32 >>> ((6 : Int32) &&& 31).toUInt32).toInt32)), (.int (Int32.ofNat f))])) _
      rw [eu]
      show Steps p.tables e below (s₁.setTop (mkF m 25 #[.val (.long q0), .second, .val (.long q1), .second, .val (.long q2), .second, .val (.int p3), .val (.int p4), .val (.int (Int32.ofNat f)), .val (.int (Int32.ofNat (f + r))), .unset, .unset, .unset, .unset, .unset, .unset, .unset, .unset] [(.int (Int32.ofNat u)), (.int (Int32.ofNat f))])) _
      refine XS.bipush X0.here hx rfl (hb hby at_25) ?_
      show Steps p.tables e below (s₁.setTop (mkF m 27 #[.val (.long q0), .second, .val (.long q1), .second, .val (.long q2), .second, .val (.int p3), .val (.int p4), .val (.int (Int32.ofNat f)), .val (.int (Int32.ofNat (f + r))), .unset, .unset, .unset, .unset, .unset, .unset, .unset, .unset] [(.int (25 : Int32)), (.int (Int32.ofNat u)), (.int (Int32.ofNat f))])) _
      refine XS.iload X0.here hx rfl (hb hby at_27) rfl ?_
      show Steps p.tables e below (s₁.setTop (mkF m 29 #[.val (.long q0), .second, .val (.long q1), .second, .val (.long q2), .second, .val (.int p3), .val (.int p4), .val (.int (Int32.ofNat f)), .val (.int (Int32.ofNat (f + r))), .unset, .unset, .unset, .unset, .unset, .unset, .unset, .unset] [(.int (Int32.ofNat f)), (.int (25 : Int32)), (.int (Int32.ofNat u)), (.int (Int32.ofNat f))])) _
      refine XS.isub X0.here hx rfl (hb hby at_29) rfl ?_
      show Steps p.tables e below (s₁.setTop (mkF m 30 #[.val (.long q0), .second, .val (.long q1), .second, .val (.long q2), .second, .val (.int p3), .val (.int p4), .val (.int (Int32.ofNat f)), .val (.int (Int32.ofNat (f + r))), .unset, .unset, .unset, .unset, .unset, .unset, .unset, .unset] [(.int ((25 : Int32) - (Int32.ofNat f))), (.int (Int32.ofNat u)), (.int (Int32.ofNat f))])) _
      rw [e25]
      show Steps p.tables e below (s₁.setTop (mkF m 30 #[.val (.long q0), .second, .val (.long q1), .second, .val (.long q2), .second, .val (.int p3), .val (.int p4), .val (.int (Int32.ofNat f)), .val (.int (Int32.ofNat (f + r))), .unset, .unset, .unset, .unset, .unset, .unset, .unset, .unset] [(.int (Int32.ofNat (25 - f))), (.int (Int32.ofNat u)), (.int (Int32.ofNat f))])) _
      refine XS.irem X0.here hx rfl (hb hby at_30) rfl (fun z => by have := (own_neq (a := 25 - f) (b := 0) (by omega) (by omega)).mp z; omega) ?_
      show Steps p.tables e below (s₁.setTop (mkF m 31 #[.val (.long q0), .second, .val (.long q1), .second, .val (.long q2), .second, .val (.int p3), .val (.int p4), .val (.int (Int32.ofNat f)), .val (.int (Int32.ofNat (f + r))), .unset, .unset, .unset, .unset, .unset, .unset, .unset, .unset] [(.int ((Int32.ofNat u) - (Int32.ofNat u) / (Int32.ofNat (25 - f)) * (Int32.ofNat (25 - f)))), (.int (Int32.ofNat f))])) _
      rw [eg]
      show Steps p.tables e below (s₁.setTop (mkF m 31 #[.val (.long q0), .second, .val (.long q1), .second, .val (.long q2), .second, .val (.int p3), .val (.int p4), .val (.int (Int32.ofNat f)), .val (.int (Int32.ofNat (f + r))), .unset, .unset, .unset, .unset, .unset, .unset, .unset, .unset] [(.int (Int32.ofNat g)), (.int (Int32.ofNat f))])) _
      refine XS.iadd X0.here hx rfl (hb hby at_31) rfl ?_
      show Steps p.tables e below (s₁.setTop (mkF m 32 #[.val (.long q0), .second, .val (.long q1), .second, .val (.long q2), .second, .val (.int p3), .val (.int p4), .val (.int (Int32.ofNat f)), .val (.int (Int32.ofNat (f + r))), .unset, .unset, .unset, .unset, .unset, .unset, .unset, .unset] [(.int ((Int32.ofNat f) + (Int32.ofNat g)))])) _
      rw [own_nadd f g]
      show Steps p.tables e below (s₁.setTop (mkF m 32 #[.val (.long q0), .second, .val (.long q1), .second, .val (.long q2), .second, .val (.int p3), .val (.int p4), .val (.int (Int32.ofNat f)), .val (.int (Int32.ofNat (f + r))), .unset, .unset, .unset, .unset, .unset, .unset, .unset, .unset] [(.int (Int32.ofNat (f + g)))])) _
      refine XS.istore X0.here hx rfl (hb hby at_32) rfl (l' := #[.val (.long q0), .second, .val (.long q1), .second, .val (.long q2), .second, .val (.int p3), .val (.int p4), .val (.int (Int32.ofNat f)), .val (.int (Int32.ofNat (f + r))), .val (.int (Int32.ofNat (f + g))), .unset, .unset, .unset, .unset, .unset, .unset, .unset]) rfl ?_
      show Steps p.tables e below (s₁.setTop (mkF m 34 #[.val (.long q0), .second, .val (.long q1), .second, .val (.long q2), .second, .val (.int p3), .val (.int p4), .val (.int (Int32.ofNat f)), .val (.int (Int32.ofNat (f + r))), .val (.int (Int32.ofNat (f + g))), .unset, .unset, .unset, .unset, .unset, .unset, .unset] [])) _
      refine XS.bipush X0.here hx rfl (hb hby at_34) ?_
      show Steps p.tables e below (s₁.setTop (mkF m 36 #[.val (.long q0), .second, .val (.long q1), .second, .val (.long q2), .second, .val (.int p3), .val (.int p4), .val (.int (Int32.ofNat f)), .val (.int (Int32.ofNat (f + r))), .val (.int (Int32.ofNat (f + g))), .unset, .unset, .unset, .unset, .unset, .unset, .unset] [(.int (24 : Int32))])) _
      refine st272 _ ?_
      show Steps p.tables e below (T272.setTop (mkF m 38 #[.val (.long q0), .second, .val (.long q1), .second, .val (.long q2), .second, .val (.int p3), .val (.int p4), .val (.int (Int32.ofNat f)), .val (.int (Int32.ofNat (f + r))), .val (.int (Int32.ofNat (f + g))), .unset, .unset, .unset, .unset, .unset, .unset, .unset] [(.ref b272)])) _
      refine XS.astore X272.here hx rfl (hb hby at_38) rfl rfl (l' := #[.val (.long q0), .second, .val (.long q1), .second, .val (.long q2), .second, .val (.int p3), .val (.int p4), .val (.int (Int32.ofNat f)), .val (.int (Int32.ofNat (f + r))), .val (.int (Int32.ofNat (f + g))), .val (.ref b272), .unset, .unset, .unset, .unset, .unset, .unset]) rfl ?_
      show Steps p.tables e below (T272.setTop (mkF m 40 #[.val (.long q0), .second, .val (.long q1), .second, .val (.long q2), .second, .val (.int p3), .val (.int p4), .val (.int (Int32.ofNat f)), .val (.int (Int32.ofNat (f + r))), .val (.int (Int32.ofNat (f + g))), .val (.ref b272), .unset, .unset, .unset, .unset, .unset, .unset] [])) _
      refine XS.aload X272.here hx rfl (hb hby at_40) rfl rfl ?_
      show Steps p.tables e below (T272.setTop (mkF m 42 #[.val (.long q0), .second, .val (.long q1), .second, .val (.long q2), .second, .val (.int p3), .val (.int p4), .val (.int (Int32.ofNat f)), .val (.int (Int32.ofNat (f + r))), .val (.int (Int32.ofNat (f + g))), .val (.ref b272), .unset, .unset, .unset, .unset, .unset, .unset] [(.ref b272)])) _
      refine XS.iconst X272.here hx rfl (hb hby at_42) ?_
      show Steps p.tables e below (T272.setTop (mkF m 43 #[.val (.long q0), .second, .val (.long q1), .second, .val (.long q2), .second, .val (.int p3), .val (.int p4), .val (.int (Int32.ofNat f)), .val (.int (Int32.ofNat (f + r))), .val (.int (Int32.ofNat (f + g))), .val (.ref b272), .unset, .unset, .unset, .unset, .unset, .unset] [(.int (0 : Int32)), (.ref b272)])) _
      refine XS.lloadN X272.here hx rfl (hb hby at_43) rfl ?_
      show Steps p.tables e below (T272.setTop (mkF m 44 #[.val (.long q0), .second, .val (.long q1), .second, .val (.long q2), .second, .val (.int p3), .val (.int p4), .val (.int (Int32.ofNat f)), .val (.int (Int32.ofNat (f + r))), .val (.int (Int32.ofNat (f + g))), .val (.ref b272), .unset, .unset, .unset, .unset, .unset, .unset] [(.long q0), (.int (0 : Int32)), (.ref b272)])) _
      refine XS.iload X272.here hx rfl (hb hby at_44) rfl ?_
      show Steps p.tables e below (T272.setTop (mkF m 46 #[.val (.long q0), .second, .val (.long q1), .second, .val (.long q2), .second, .val (.int p3), .val (.int p4), .val (.int (Int32.ofNat f)), .val (.int (Int32.ofNat (f + r))), .val (.int (Int32.ofNat (f + g))), .val (.ref b272), .unset, .unset, .unset, .unset, .unset, .unset] [(.int (Int32.ofNat f)), (.long q0), (.int (0 : Int32)), (.ref b272)])) _
      refine XS.iload X272.here hx rfl (hb hby at_46) rfl ?_
      show Steps p.tables e below (T272.setTop (mkF m 48 #[.val (.long q0), .second, .val (.long q1), .second, .val (.long q2), .second, .val (.int p3), .val (.int p4), .val (.int (Int32.ofNat f)), .val (.int (Int32.ofNat (f + r))), .val (.int (Int32.ofNat (f + g))), .val (.ref b272), .unset, .unset, .unset, .unset, .unset, .unset] [(.int (Int32.ofNat (f + g))), (.int (Int32.ofNat f)), (.long q0), (.int (0 : Int32)), (.ref b272)])) _
      refine st278 _ ?_
      show Steps p.tables e below (T278.setTop (mkF m 51 #[.val (.long q0), .second, .val (.long q1), .second, .val (.long q2), .second, .val (.int p3), .val (.int p4), .val (.int (Int32.ofNat f)), .val (.int (Int32.ofNat (f + r))), .val (.int (Int32.ofNat (f + g))), .val (.ref b272), .unset, .unset, .unset, .unset, .unset, .unset] [])) _
      refine XS.aload X278.here hx rfl (hb hby at_51) rfl rfl ?_
      show Steps p.tables e below (T278.setTop (mkF m 53 #[.val (.long q0), .second, .val (.long q1), .second, .val (.long q2), .second, .val (.int p3), .val (.int p4), .val (.int (Int32.ofNat f)), .val (.int (Int32.ofNat (f + r))), .val (.int (Int32.ofNat (f + g))), .val (.ref b272), .unset, .unset, .unset, .unset, .unset, .unset] [(.ref b272)])) _
      refine XS.bipush X278.here hx rfl (hb hby at_53) ?_
      show Steps p.tables e below (T278.setTop (mkF m 55 #[.val (.long q0), .second, .val (.long q1), .second, .val (.long q2), .second, .val (.int p3), .val (.int p4), .val (.int (Int32.ofNat f)), .val (.int (Int32.ofNat (f + r))), .val (.int (Int32.ofNat (f + g))), .val (.ref b272), .unset, .unset, .unset, .unset, .unset, .unset] [(.int (8 : Int32)), (.ref b272)])) _
      refine XS.lloadN X278.here hx rfl (hb hby at_55) rfl ?_
      show Steps p.tables e below (T278.setTop (mkF m 56 #[.val (.long q0), .second, .val (.long q1), .second, .val (.long q2), .second, .val (.int p3), .val (.int p4), .val (.int (Int32.ofNat f)), .val (.int (Int32.ofNat (f + r))), .val (.int (Int32.ofNat (f + g))), .val (.ref b272), .unset, .unset, .unset, .unset, .unset, .unset] [(.long q1), (.int (8 : Int32)), (.ref b272)])) _
      refine XS.iload X278.here hx rfl (hb hby at_56) rfl ?_
      show Steps p.tables e below (T278.setTop (mkF m 58 #[.val (.long q0), .second, .val (.long q1), .second, .val (.long q2), .second, .val (.int p3), .val (.int p4), .val (.int (Int32.ofNat f)), .val (.int (Int32.ofNat (f + r))), .val (.int (Int32.ofNat (f + g))), .val (.ref b272), .unset, .unset, .unset, .unset, .unset, .unset] [(.int (Int32.ofNat f)), (.long q1), (.int (8 : Int32)), (.ref b272)])) _
      refine XS.iload X278.here hx rfl (hb hby at_58) rfl ?_
      show Steps p.tables e below (T278.setTop (mkF m 60 #[.val (.long q0), .second, .val (.long q1), .second, .val (.long q2), .second, .val (.int p3), .val (.int p4), .val (.int (Int32.ofNat f)), .val (.int (Int32.ofNat (f + r))), .val (.int (Int32.ofNat (f + g))), .val (.ref b272), .unset, .unset, .unset, .unset, .unset, .unset] [(.int (Int32.ofNat (f + g))), (.int (Int32.ofNat f)), (.long q1), (.int (8 : Int32)), (.ref b272)])) _
      refine st281 _ ?_
      show Steps p.tables e below (T281.setTop (mkF m 63 #[.val (.long q0), .second, .val (.long q1), .second, .val (.long q2), .second, .val (.int p3), .val (.int p4), .val (.int (Int32.ofNat f)), .val (.int (Int32.ofNat (f + r))), .val (.int (Int32.ofNat (f + g))), .val (.ref b272), .unset, .unset, .unset, .unset, .unset, .unset] [])) _
      refine XS.aload X281.here hx rfl (hb hby at_63) rfl rfl ?_
      show Steps p.tables e below (T281.setTop (mkF m 65 #[.val (.long q0), .second, .val (.long q1), .second, .val (.long q2), .second, .val (.int p3), .val (.int p4), .val (.int (Int32.ofNat f)), .val (.int (Int32.ofNat (f + r))), .val (.int (Int32.ofNat (f + g))), .val (.ref b272), .unset, .unset, .unset, .unset, .unset, .unset] [(.ref b272)])) _
      refine XS.bipush X281.here hx rfl (hb hby at_65) ?_
      show Steps p.tables e below (T281.setTop (mkF m 67 #[.val (.long q0), .second, .val (.long q1), .second, .val (.long q2), .second, .val (.int p3), .val (.int p4), .val (.int (Int32.ofNat f)), .val (.int (Int32.ofNat (f + r))), .val (.int (Int32.ofNat (f + g))), .val (.ref b272), .unset, .unset, .unset, .unset, .unset, .unset] [(.int (16 : Int32)), (.ref b272)])) _
      refine XS.lload X281.here hx rfl (hb hby at_67) rfl ?_
      show Steps p.tables e below (T281.setTop (mkF m 69 #[.val (.long q0), .second, .val (.long q1), .second, .val (.long q2), .second, .val (.int p3), .val (.int p4), .val (.int (Int32.ofNat f)), .val (.int (Int32.ofNat (f + r))), .val (.int (Int32.ofNat (f + g))), .val (.ref b272), .unset, .unset, .unset, .unset, .unset, .unset] [(.long q2), (.int (16 : Int32)), (.ref b272)])) _
      refine XS.iload X281.here hx rfl (hb hby at_69) rfl ?_
      show Steps p.tables e below (T281.setTop (mkF m 71 #[.val (.long q0), .second, .val (.long q1), .second, .val (.long q2), .second, .val (.int p3), .val (.int p4), .val (.int (Int32.ofNat f)), .val (.int (Int32.ofNat (f + r))), .val (.int (Int32.ofNat (f + g))), .val (.ref b272), .unset, .unset, .unset, .unset, .unset, .unset] [(.int (Int32.ofNat f)), (.long q2), (.int (16 : Int32)), (.ref b272)])) _
      refine XS.iload X281.here hx rfl (hb hby at_71) rfl ?_
      show Steps p.tables e below (T281.setTop (mkF m 73 #[.val (.long q0), .second, .val (.long q1), .second, .val (.long q2), .second, .val (.int p3), .val (.int p4), .val (.int (Int32.ofNat f)), .val (.int (Int32.ofNat (f + r))), .val (.int (Int32.ofNat (f + g))), .val (.ref b272), .unset, .unset, .unset, .unset, .unset, .unset] [(.int (Int32.ofNat (f + g))), (.int (Int32.ofNat f)), (.long q2), (.int (16 : Int32)), (.ref b272)])) _
      refine st284 _ ?_
      show Steps p.tables e below (T284.setTop (mkF m 76 #[.val (.long q0), .second, .val (.long q1), .second, .val (.long q2), .second, .val (.int p3), .val (.int p4), .val (.int (Int32.ofNat f)), .val (.int (Int32.ofNat (f + r))), .val (.int (Int32.ofNat (f + g))), .val (.ref b272), .unset, .unset, .unset, .unset, .unset, .unset] [])) _
      refine XS.iload X284.here hx rfl (hb hby at_76) rfl ?_
      show Steps p.tables e below (T284.setTop (mkF m 78 #[.val (.long q0), .second, .val (.long q1), .second, .val (.long q2), .second, .val (.int p3), .val (.int p4), .val (.int (Int32.ofNat f)), .val (.int (Int32.ofNat (f + r))), .val (.int (Int32.ofNat (f + g))), .val (.ref b272), .unset, .unset, .unset, .unset, .unset, .unset] [(.int p3)])) _
      refine XS.sipush X284.here hx rfl (hb hby at_78) ?_
      show Steps p.tables e below (T284.setTop (mkF m 81 #[.val (.long q0), .second, .val (.long q1), .second, .val (.long q2), .second, .val (.int p3), .val (.int p4), .val (.int (Int32.ofNat f)), .val (.int (Int32.ofNat (f + r))), .val (.int (Int32.ofNat (f + g))), .val (.ref b272), .unset, .unset, .unset, .unset, .unset, .unset] [(.int (255 : Int32)), (.int p3)])) _
      refine XS.iand X284.here hx rfl (hb hby at_81) rfl ?_
      show Steps p.tables e below (T284.setTop (mkF m 82 #[.val (.long q0), .second, .val (.long q1), .second, .val (.long q2), .second, .val (.int p3), .val (.int p4), .val (.int (Int32.ofNat f)), .val (.int (Int32.ofNat (f + r))), .val (.int (Int32.ofNat (f + g))), .val (.ref b272), .unset, .unset, .unset, .unset, .unset, .unset] [(.int (p3 &&& (255 : Int32)))])) _
      rw [ea]
      show Steps p.tables e below (T284.setTop (mkF m 82 #[.val (.long q0), .second, .val (.long q1), .second, .val (.long q2), .second, .val (.int p3), .val (.int p4), .val (.int (Int32.ofNat f)), .val (.int (Int32.ofNat (f + r))), .val (.int (Int32.ofNat (f + g))), .val (.ref b272), .unset, .unset, .unset, .unset, .unset, .unset] [(.int (Int32.ofNat a))])) _
      refine XS.istore X284.here hx rfl (hb hby at_82) rfl (l' := #[.val (.long q0), .second, .val (.long q1), .second, .val (.long q2), .second, .val (.int p3), .val (.int p4), .val (.int (Int32.ofNat f)), .val (.int (Int32.ofNat (f + r))), .val (.int (Int32.ofNat (f + g))), .val (.ref b272), .val (.int (Int32.ofNat a)), .unset, .unset, .unset, .unset, .unset]) rfl ?_
      show Steps p.tables e below (T284.setTop (mkF m 84 #[.val (.long q0), .second, .val (.long q1), .second, .val (.long q2), .second, .val (.int p3), .val (.int p4), .val (.int (Int32.ofNat f)), .val (.int (Int32.ofNat (f + r))), .val (.int (Int32.ofNat (f + g))), .val (.ref b272), .val (.int (Int32.ofNat a)), .unset, .unset, .unset, .unset, .unset] [])) _
      refine XS.iload X284.here hx rfl (hb hby at_84) rfl ?_
      show Steps p.tables e below (T284.setTop (mkF m 86 #[.val (.long q0), .second, .val (.long q1), .second, .val (.long q2), .second, .val (.int p3), .val (.int p4), .val (.int (Int32.ofNat f)), .val (.int (Int32.ofNat (f + r))), .val (.int (Int32.ofNat (f + g))), .val (.ref b272), .val (.int (Int32.ofNat a)), .unset, .unset, .unset, .unset, .unset] [(.int p3)])) _
      refine XS.bipush X284.here hx rfl (hb hby at_86) ?_
      show Steps p.tables e below (T284.setTop (mkF m 88 #[.val (.long q0), .second, .val (.long q1), .second, .val (.long q2), .second, .val (.int p3), .val (.int p4), .val (.int (Int32.ofNat f)), .val (.int (Int32.ofNat (f + r))), .val (.int (Int32.ofNat (f + g))), .val (.ref b272), .val (.int (Int32.ofNat a)), .unset, .unset, .unset, .unset, .unset] [(.int (8 : Int32)), (.int p3)])) _
      refine XS.iushr X284.here hx rfl (hb hby at_88) rfl ?_
      show Steps p.tables e below (T284.setTop (mkF m 89 #[.val (.long q0), .second, .val (.long q1), .second, .val (.long q2), .second, .val (.int p3), .val (.int p4), .val (.int (Int32.ofNat f)), .val (.int (Int32.ofNat (f + r))), .val (.int (Int32.ofNat (f + g))), .val (.ref b272), .val (.int (Int32.ofNat a)), .unset, .unset, .unset, .unset, .unset] [(.int ((p3.toUInt32 >>> ((8 : Int32) &&& 31).toUInt32).toInt32))])) _
      refine XS.sipush X284.here hx rfl (hb hby at_89) ?_
      show Steps p.tables e below (T284.setTop (mkF m 92 #[.val (.long q0), .second, .val (.long q1), .second, .val (.long q2), .second, .val (.int p3), .val (.int p4), .val (.int (Int32.ofNat f)), .val (.int (Int32.ofNat (f + r))), .val (.int (Int32.ofNat (f + g))), .val (.ref b272), .val (.int (Int32.ofNat a)), .unset, .unset, .unset, .unset, .unset] [(.int (255 : Int32)), (.int ((p3.toUInt32 >>> ((8 : Int32) &&& 31).toUInt32).toInt32))])) _
      refine XS.iand X284.here hx rfl (hb hby at_92) rfl ?_
      show Steps p.tables e below (T284.setTop (mkF m 93 #[.val (.long q0), .second, .val (.long q1), .second, .val (.long q2), .second, .val (.int p3), .val (.int p4), .val (.int (Int32.ofNat f)), .val (.int (Int32.ofNat (f + r))), .val (.int (Int32.ofNat (f + g))), .val (.ref b272), .val (.int (Int32.ofNat a)), .unset, .unset, .unset, .unset, .unset] [(.int (((p3.toUInt32 >>> ((8 : Int32) &&& 31).toUInt32).toInt32) &&& (255 : Int32)))])) _
      rw [eb]
      show Steps p.tables e below (T284.setTop (mkF m 93 #[.val (.long q0), .second, .val (.long q1), .second, .val (.long q2), .second, .val (.int p3), .val (.int p4), .val (.int (Int32.ofNat f)), .val (.int (Int32.ofNat (f + r))), .val (.int (Int32.ofNat (f + g))), .val (.ref b272), .val (.int (Int32.ofNat a)), .unset, .unset, .unset, .unset, .unset] [(.int (Int32.ofNat b))])) _
      refine XS.istore X284.here hx rfl (hb hby at_93) rfl (l' := #[.val (.long q0), .second, .val (.long q1), .second, .val (.long q2), .second, .val (.int p3), .val (.int p4), .val (.int (Int32.ofNat f)), .val (.int (Int32.ofNat (f + r))), .val (.int (Int32.ofNat (f + g))), .val (.ref b272), .val (.int (Int32.ofNat a)), .val (.int (Int32.ofNat b)), .unset, .unset, .unset, .unset]) rfl ?_
      show Steps p.tables e below (T284.setTop (mkF m 95 #[.val (.long q0), .second, .val (.long q1), .second, .val (.long q2), .second, .val (.int p3), .val (.int p4), .val (.int (Int32.ofNat f)), .val (.int (Int32.ofNat (f + r))), .val (.int (Int32.ofNat (f + g))), .val (.ref b272), .val (.int (Int32.ofNat a)), .val (.int (Int32.ofNat b)), .unset, .unset, .unset, .unset] [])) _
      refine XS.iload X284.here hx rfl (hb hby at_95) rfl ?_
      show Steps p.tables e below (T284.setTop (mkF m 97 #[.val (.long q0), .second, .val (.long q1), .second, .val (.long q2), .second, .val (.int p3), .val (.int p4), .val (.int (Int32.ofNat f)), .val (.int (Int32.ofNat (f + r))), .val (.int (Int32.ofNat (f + g))), .val (.ref b272), .val (.int (Int32.ofNat a)), .val (.int (Int32.ofNat b)), .unset, .unset, .unset, .unset] [(.int p3)])) _
      refine XS.bipush X284.here hx rfl (hb hby at_97) ?_
      show Steps p.tables e below (T284.setTop (mkF m 99 #[.val (.long q0), .second, .val (.long q1), .second, .val (.long q2), .second, .val (.int p3), .val (.int p4), .val (.int (Int32.ofNat f)), .val (.int (Int32.ofNat (f + r))), .val (.int (Int32.ofNat (f + g))), .val (.ref b272), .val (.int (Int32.ofNat a)), .val (.int (Int32.ofNat b)), .unset, .unset, .unset, .unset] [(.int (16 : Int32)), (.int p3)])) _
      refine XS.iushr X284.here hx rfl (hb hby at_99) rfl ?_
      show Steps p.tables e below (T284.setTop (mkF m 100 #[.val (.long q0), .second, .val (.long q1), .second, .val (.long q2), .second, .val (.int p3), .val (.int p4), .val (.int (Int32.ofNat f)), .val (.int (Int32.ofNat (f + r))), .val (.int (Int32.ofNat (f + g))), .val (.ref b272), .val (.int (Int32.ofNat a)), .val (.int (Int32.ofNat b)), .unset, .unset, .unset, .unset] [(.int ((p3.toUInt32 >>> ((16 : Int32) &&& 31).toUInt32).toInt32))])) _
      refine XS.sipush X284.here hx rfl (hb hby at_100) ?_
      show Steps p.tables e below (T284.setTop (mkF m 103 #[.val (.long q0), .second, .val (.long q1), .second, .val (.long q2), .second, .val (.int p3), .val (.int p4), .val (.int (Int32.ofNat f)), .val (.int (Int32.ofNat (f + r))), .val (.int (Int32.ofNat (f + g))), .val (.ref b272), .val (.int (Int32.ofNat a)), .val (.int (Int32.ofNat b)), .unset, .unset, .unset, .unset] [(.int (255 : Int32)), (.int ((p3.toUInt32 >>> ((16 : Int32) &&& 31).toUInt32).toInt32))])) _
      refine XS.iand X284.here hx rfl (hb hby at_103) rfl ?_
      show Steps p.tables e below (T284.setTop (mkF m 104 #[.val (.long q0), .second, .val (.long q1), .second, .val (.long q2), .second, .val (.int p3), .val (.int p4), .val (.int (Int32.ofNat f)), .val (.int (Int32.ofNat (f + r))), .val (.int (Int32.ofNat (f + g))), .val (.ref b272), .val (.int (Int32.ofNat a)), .val (.int (Int32.ofNat b)), .unset, .unset, .unset, .unset] [(.int (((p3.toUInt32 >>> ((16 : Int32) &&& 31).toUInt32).toInt32) &&& (255 : Int32)))])) _
      rw [ecc]
      show Steps p.tables e below (T284.setTop (mkF m 104 #[.val (.long q0), .second, .val (.long q1), .second, .val (.long q2), .second, .val (.int p3), .val (.int p4), .val (.int (Int32.ofNat f)), .val (.int (Int32.ofNat (f + r))), .val (.int (Int32.ofNat (f + g))), .val (.ref b272), .val (.int (Int32.ofNat a)), .val (.int (Int32.ofNat b)), .unset, .unset, .unset, .unset] [(.int (Int32.ofNat cc))])) _
      refine XS.istore X284.here hx rfl (hb hby at_104) rfl (l' := #[.val (.long q0), .second, .val (.long q1), .second, .val (.long q2), .second, .val (.int p3), .val (.int p4), .val (.int (Int32.ofNat f)), .val (.int (Int32.ofNat (f + r))), .val (.int (Int32.ofNat (f + g))), .val (.ref b272), .val (.int (Int32.ofNat a)), .val (.int (Int32.ofNat b)), .val (.int (Int32.ofNat cc)), .unset, .unset, .unset]) rfl ?_
      show Steps p.tables e below (T284.setTop (mkF m 106 #[.val (.long q0), .second, .val (.long q1), .second, .val (.long q2), .second, .val (.int p3), .val (.int p4), .val (.int (Int32.ofNat f)), .val (.int (Int32.ofNat (f + r))), .val (.int (Int32.ofNat (f + g))), .val (.ref b272), .val (.int (Int32.ofNat a)), .val (.int (Int32.ofNat b)), .val (.int (Int32.ofNat cc)), .unset, .unset, .unset] [])) _
      refine XS.iload X284.here hx rfl (hb hby at_106) rfl ?_
      show Steps p.tables e below (T284.setTop (mkF m 108 #[.val (.long q0), .second, .val (.long q1), .second, .val (.long q2), .second, .val (.int p3), .val (.int p4), .val (.int (Int32.ofNat f)), .val (.int (Int32.ofNat (f + r))), .val (.int (Int32.ofNat (f + g))), .val (.ref b272), .val (.int (Int32.ofNat a)), .val (.int (Int32.ofNat b)), .val (.int (Int32.ofNat cc)), .unset, .unset, .unset] [(.int p3)])) _
      refine XS.bipush X284.here hx rfl (hb hby at_108) ?_
      show Steps p.tables e below (T284.setTop (mkF m 110 #[.val (.long q0), .second, .val (.long q1), .second, .val (.long q2), .second, .val (.int p3), .val (.int p4), .val (.int (Int32.ofNat f)), .val (.int (Int32.ofNat (f + r))), .val (.int (Int32.ofNat (f + g))), .val (.ref b272), .val (.int (Int32.ofNat a)), .val (.int (Int32.ofNat b)), .val (.int (Int32.ofNat cc)), .unset, .unset, .unset] [(.int (24 : Int32)), (.int p3)])) _
      refine XS.iushr X284.here hx rfl (hb hby at_110) rfl ?_
      show Steps p.tables e below (T284.setTop (mkF m 111 #[.val (.long q0), .second, .val (.long q1), .second, .val (.long q2), .second, .val (.int p3), .val (.int p4), .val (.int (Int32.ofNat f)), .val (.int (Int32.ofNat (f + r))), .val (.int (Int32.ofNat (f + g))), .val (.ref b272), .val (.int (Int32.ofNat a)), .val (.int (Int32.ofNat b)), .val (.int (Int32.ofNat cc)), .unset, .unset, .unset] [(.int ((p3.toUInt32 >>> ((24 : Int32) &&& 31).toUInt32).toInt32))])) _
      refine XS.sipush X284.here hx rfl (hb hby at_111) ?_
      show Steps p.tables e below (T284.setTop (mkF m 114 #[.val (.long q0), .second, .val (.long q1), .second, .val (.long q2), .second, .val (.int p3), .val (.int p4), .val (.int (Int32.ofNat f)), .val (.int (Int32.ofNat (f + r))), .val (.int (Int32.ofNat (f + g))), .val (.ref b272), .val (.int (Int32.ofNat a)), .val (.int (Int32.ofNat b)), .val (.int (Int32.ofNat cc)), .unset, .unset, .unset] [(.int (255 : Int32)), (.int ((p3.toUInt32 >>> ((24 : Int32) &&& 31).toUInt32).toInt32))])) _
      refine XS.iand X284.here hx rfl (hb hby at_114) rfl ?_
      show Steps p.tables e below (T284.setTop (mkF m 115 #[.val (.long q0), .second, .val (.long q1), .second, .val (.long q2), .second, .val (.int p3), .val (.int p4), .val (.int (Int32.ofNat f)), .val (.int (Int32.ofNat (f + r))), .val (.int (Int32.ofNat (f + g))), .val (.ref b272), .val (.int (Int32.ofNat a)), .val (.int (Int32.ofNat b)), .val (.int (Int32.ofNat cc)), .unset, .unset, .unset] [(.int (((p3.toUInt32 >>> ((24 : Int32) &&& 31).toUInt32).toInt32) &&& (255 : Int32)))])) _
      rw [ed]
      show Steps p.tables e below (T284.setTop (mkF m 115 #[.val (.long q0), .second, .val (.long q1), .second, .val (.long q2), .second, .val (.int p3), .val (.int p4), .val (.int (Int32.ofNat f)), .val (.int (Int32.ofNat (f + r))), .val (.int (Int32.ofNat (f + g))), .val (.ref b272), .val (.int (Int32.ofNat a)), .val (.int (Int32.ofNat b)), .val (.int (Int32.ofNat cc)), .unset, .unset, .unset] [(.int (Int32.ofNat d))])) _
      refine XS.istore X284.here hx rfl (hb hby at_115) rfl (l' := #[.val (.long q0), .second, .val (.long q1), .second, .val (.long q2), .second, .val (.int p3), .val (.int p4), .val (.int (Int32.ofNat f)), .val (.int (Int32.ofNat (f + r))), .val (.int (Int32.ofNat (f + g))), .val (.ref b272), .val (.int (Int32.ofNat a)), .val (.int (Int32.ofNat b)), .val (.int (Int32.ofNat cc)), .val (.int (Int32.ofNat d)), .unset, .unset]) rfl ?_
      show Steps p.tables e below (T284.setTop (mkF m 117 #[.val (.long q0), .second, .val (.long q1), .second, .val (.long q2), .second, .val (.int p3), .val (.int p4), .val (.int (Int32.ofNat f)), .val (.int (Int32.ofNat (f + r))), .val (.int (Int32.ofNat (f + g))), .val (.ref b272), .val (.int (Int32.ofNat a)), .val (.int (Int32.ofNat b)), .val (.int (Int32.ofNat cc)), .val (.int (Int32.ofNat d)), .unset, .unset] [])) _
      refine XS.iload X284.here hx rfl (hb hby at_117) rfl ?_
      show Steps p.tables e below (T284.setTop (mkF m 119 #[.val (.long q0), .second, .val (.long q1), .second, .val (.long q2), .second, .val (.int p3), .val (.int p4), .val (.int (Int32.ofNat f)), .val (.int (Int32.ofNat (f + r))), .val (.int (Int32.ofNat (f + g))), .val (.ref b272), .val (.int (Int32.ofNat a)), .val (.int (Int32.ofNat b)), .val (.int (Int32.ofNat cc)), .val (.int (Int32.ofNat d)), .unset, .unset] [(.int (Int32.ofNat a))])) _
      refine st288 _ ?_
      show Steps p.tables e below (T288.setTop (mkF m 122 #[.val (.long q0), .second, .val (.long q1), .second, .val (.long q2), .second, .val (.int p3), .val (.int p4), .val (.int (Int32.ofNat f)), .val (.int (Int32.ofNat (f + r))), .val (.int (Int32.ofNat (f + g))), .val (.ref b272), .val (.int (Int32.ofNat a)), .val (.int (Int32.ofNat b)), .val (.int (Int32.ofNat cc)), .val (.int (Int32.ofNat d)), .unset, .unset] [(.int (own_lenOf (Int32.ofNat a)))])) _
      refine XS.istore X288.here hx rfl (hb hby at_122) rfl (l' := #[.val (.long q0), .second, .val (.long q1), .second, .val (.long q2), .second, .val (.int p3), .val (.int p4), .val (.int (Int32.ofNat f)), .val (.int (Int32.ofNat (f + r))), .val (.int (Int32.ofNat (f + g))), .val (.ref b272), .val (.int (Int32.ofNat a)), .val (.int (Int32.ofNat b)), .val (.int (Int32.ofNat cc)), .val (.int (Int32.ofNat d)), .val (.int (own_lenOf (Int32.ofNat a))), .unset]) rfl ?_
      show Steps p.tables e below (T288.setTop (mkF m 124 #[.val (.long q0), .second, .val (.long q1), .second, .val (.long q2), .second, .val (.int p3), .val (.int p4), .val (.int (Int32.ofNat f)), .val (.int (Int32.ofNat (f + r))), .val (.int (Int32.ofNat (f + g))), .val (.ref b272), .val (.int (Int32.ofNat a)), .val (.int (Int32.ofNat b)), .val (.int (Int32.ofNat cc)), .val (.int (Int32.ofNat d)), .val (.int (own_lenOf (Int32.ofNat a))), .unset] [])) _
      refine XS.aload X288.here hx rfl (hb hby at_124) rfl rfl ?_
      show Steps p.tables e below (T288.setTop (mkF m 126 #[.val (.long q0), .second, .val (.long q1), .second, .val (.long q2), .second, .val (.int p3), .val (.int p4), .val (.int (Int32.ofNat f)), .val (.int (Int32.ofNat (f + r))), .val (.int (Int32.ofNat (f + g))), .val (.ref b272), .val (.int (Int32.ofNat a)), .val (.int (Int32.ofNat b)), .val (.int (Int32.ofNat cc)), .val (.int (Int32.ofNat d)), .val (.int (own_lenOf (Int32.ofNat a))), .unset] [(.ref b272)])) _
      refine XS.iload X288.here hx rfl (hb hby at_126) rfl ?_
      show Steps p.tables e below (T288.setTop (mkF m 128 #[.val (.long q0), .second, .val (.long q1), .second, .val (.long q2), .second, .val (.int p3), .val (.int p4), .val (.int (Int32.ofNat f)), .val (.int (Int32.ofNat (f + r))), .val (.int (Int32.ofNat (f + g))), .val (.ref b272), .val (.int (Int32.ofNat a)), .val (.int (Int32.ofNat b)), .val (.int (Int32.ofNat cc)), .val (.int (Int32.ofNat d)), .val (.int (own_lenOf (Int32.ofNat a))), .unset] [(.int (Int32.ofNat (f + r))), (.ref b272)])) _
      refine XS.iload X288.here hx rfl (hb hby at_128) rfl ?_
      show Steps p.tables e below (T288.setTop (mkF m 130 #[.val (.long q0), .second, .val (.long q1), .second, .val (.long q2), .second, .val (.int p3), .val (.int p4), .val (.int (Int32.ofNat f)), .val (.int (Int32.ofNat (f + r))), .val (.int (Int32.ofNat (f + g))), .val (.ref b272), .val (.int (Int32.ofNat a)), .val (.int (Int32.ofNat b)), .val (.int (Int32.ofNat cc)), .val (.int (Int32.ofNat d)), .val (.int (own_lenOf (Int32.ofNat a))), .unset] [(.int (Int32.ofNat a)), (.int (Int32.ofNat (f + r))), (.ref b272)])) _
      refine XS.i2b X288.here hx rfl (hb hby at_130) rfl ?_
      show Steps p.tables e below (T288.setTop (mkF m 131 #[.val (.long q0), .second, .val (.long q1), .second, .val (.long q2), .second, .val (.int p3), .val (.int p4), .val (.int (Int32.ofNat f)), .val (.int (Int32.ofNat (f + r))), .val (.int (Int32.ofNat (f + g))), .val (.ref b272), .val (.int (Int32.ofNat a)), .val (.int (Int32.ofNat b)), .val (.int (Int32.ofNat cc)), .val (.int (Int32.ofNat d)), .val (.int (own_lenOf (Int32.ofNat a))), .unset] [(.int (Int32.ofNat a).toInt8.toInt32), (.int (Int32.ofNat (f + r))), (.ref b272)])) _
      refine st290 _ ?_
      show Steps p.tables e below (T290.setTop (mkF m 132 #[.val (.long q0), .second, .val (.long q1), .second, .val (.long q2), .second, .val (.int p3), .val (.int p4), .val (.int (Int32.ofNat f)), .val (.int (Int32.ofNat (f + r))), .val (.int (Int32.ofNat (f + g))), .val (.ref b272), .val (.int (Int32.ofNat a)), .val (.int (Int32.ofNat b)), .val (.int (Int32.ofNat cc)), .val (.int (Int32.ofNat d)), .val (.int (own_lenOf (Int32.ofNat a))), .unset] [])) _
      refine XS.iload X290.here hx rfl (hb hby at_132) rfl ?_
      show Steps p.tables e below (T290.setTop (mkF m 134 #[.val (.long q0), .second, .val (.long q1), .second, .val (.long q2), .second, .val (.int p3), .val (.int p4), .val (.int (Int32.ofNat f)), .val (.int (Int32.ofNat (f + r))), .val (.int (Int32.ofNat (f + g))), .val (.ref b272), .val (.int (Int32.ofNat a)), .val (.int (Int32.ofNat b)), .val (.int (Int32.ofNat cc)), .val (.int (Int32.ofNat d)), .val (.int (own_lenOf (Int32.ofNat a))), .unset] [(.int (own_lenOf (Int32.ofNat a)))])) _
      refine XS.iconst X290.here hx rfl (hb hby at_134) ?_
      show Steps p.tables e below (T290.setTop (mkF m 135 #[.val (.long q0), .second, .val (.long q1), .second, .val (.long q2), .second, .val (.int p3), .val (.int p4), .val (.int (Int32.ofNat f)), .val (.int (Int32.ofNat (f + r))), .val (.int (Int32.ofNat (f + g))), .val (.ref b272), .val (.int (Int32.ofNat a)), .val (.int (Int32.ofNat b)), .val (.int (Int32.ofNat cc)), .val (.int (Int32.ofNat d)), .val (.int (own_lenOf (Int32.ofNat a))), .unset] [(.int (2 : Int32)), (.int (own_lenOf (Int32.ofNat a)))])) _
      refine XS.icmpYes X290.here hx rfl (pc0 := 135) (pc' := 148) rfl (hb hby at_135) rfl (tlt k2).1 (by decide) (by decide) ?_
      show Steps p.tables e below (T290.setTop (mkF m 148 #[.val (.long q0), .second, .val (.long q1), .second, .val (.long q2), .second, .val (.int p3), .val (.int p4), .val (.int (Int32.ofNat f)), .val (.int (Int32.ofNat (f + r))), .val (.int (Int32.ofNat (f + g))), .val (.ref b272), .val (.int (Int32.ofNat a)), .val (.int (Int32.ofNat b)), .val (.int (Int32.ofNat cc)), .val (.int (Int32.ofNat d)), .val (.int (own_lenOf (Int32.ofNat a))), .unset] [])) _
      refine XS.iload X290.here hx rfl (hb hby at_148) rfl ?_
      show Steps p.tables e below (T290.setTop (mkF m 150 #[.val (.long q0), .second, .val (.long q1), .second, .val (.long q2), .second, .val (.int p3), .val (.int p4), .val (.int (Int32.ofNat f)), .val (.int (Int32.ofNat (f + r))), .val (.int (Int32.ofNat (f + g))), .val (.ref b272), .val (.int (Int32.ofNat a)), .val (.int (Int32.ofNat b)), .val (.int (Int32.ofNat cc)), .val (.int (Int32.ofNat d)), .val (.int (own_lenOf (Int32.ofNat a))), .unset] [(.int (own_lenOf (Int32.ofNat a)))])) _
      refine XS.iconst X290.here hx rfl (hb hby at_150) ?_
      show Steps p.tables e below (T290.setTop (mkF m 151 #[.val (.long q0), .second, .val (.long q1), .second, .val (.long q2), .second, .val (.int p3), .val (.int p4), .val (.int (Int32.ofNat f)), .val (.int (Int32.ofNat (f + r))), .val (.int (Int32.ofNat (f + g))), .val (.ref b272), .val (.int (Int32.ofNat a)), .val (.int (Int32.ofNat b)), .val (.int (Int32.ofNat cc)), .val (.int (Int32.ofNat d)), .val (.int (own_lenOf (Int32.ofNat a))), .unset] [(.int (3 : Int32)), (.int (own_lenOf (Int32.ofNat a)))])) _
      refine XS.icmpYes X290.here hx rfl (pc0 := 151) (pc' := 164) rfl (hb hby at_151) rfl (tlt (by rw [Int32.lt_iff_toInt_lt, show (own_lenOf (Int32.ofNat a)).toInt = 1 from by rw [hLn]; rfl]; decide)).1 (by decide) (by decide) ?_
      show Steps p.tables e below (T290.setTop (mkF m 164 #[.val (.long q0), .second, .val (.long q1), .second, .val (.long q2), .second, .val (.int p3), .val (.int p4), .val (.int (Int32.ofNat f)), .val (.int (Int32.ofNat (f + r))), .val (.int (Int32.ofNat (f + g))), .val (.ref b272), .val (.int (Int32.ofNat a)), .val (.int (Int32.ofNat b)), .val (.int (Int32.ofNat cc)), .val (.int (Int32.ofNat d)), .val (.int (own_lenOf (Int32.ofNat a))), .unset] [])) _
      refine XS.iload X290.here hx rfl (hb hby at_164) rfl ?_
      show Steps p.tables e below (T290.setTop (mkF m 166 #[.val (.long q0), .second, .val (.long q1), .second, .val (.long q2), .second, .val (.int p3), .val (.int p4), .val (.int (Int32.ofNat f)), .val (.int (Int32.ofNat (f + r))), .val (.int (Int32.ofNat (f + g))), .val (.ref b272), .val (.int (Int32.ofNat a)), .val (.int (Int32.ofNat b)), .val (.int (Int32.ofNat cc)), .val (.int (Int32.ofNat d)), .val (.int (own_lenOf (Int32.ofNat a))), .unset] [(.int (own_lenOf (Int32.ofNat a)))])) _
      refine XS.iconst X290.here hx rfl (hb hby at_166) ?_
      show Steps p.tables e below (T290.setTop (mkF m 167 #[.val (.long q0), .second, .val (.long q1), .second, .val (.long q2), .second, .val (.int p3), .val (.int p4), .val (.int (Int32.ofNat f)), .val (.int (Int32.ofNat (f + r))), .val (.int (Int32.ofNat (f + g))), .val (.ref b272), .val (.int (Int32.ofNat a)), .val (.int (Int32.ofNat b)), .val (.int (Int32.ofNat cc)), .val (.int (Int32.ofNat d)), .val (.int (own_lenOf (Int32.ofNat a))), .unset] [(.int (4 : Int32)), (.int (own_lenOf (Int32.ofNat a)))])) _
      refine XS.icmpYes X290.here hx rfl (pc0 := 167) (pc' := 180) rfl (hb hby at_167) rfl (tlt (by rw [Int32.lt_iff_toInt_lt, show (own_lenOf (Int32.ofNat a)).toInt = 1 from by rw [hLn]; rfl]; decide)).1 (by decide) (by decide) ?_
      show Steps p.tables e below (T290.setTop (mkF m 180 #[.val (.long q0), .second, .val (.long q1), .second, .val (.long q2), .second, .val (.int p3), .val (.int p4), .val (.int (Int32.ofNat f)), .val (.int (Int32.ofNat (f + r))), .val (.int (Int32.ofNat (f + g))), .val (.ref b272), .val (.int (Int32.ofNat a)), .val (.int (Int32.ofNat b)), .val (.int (Int32.ofNat cc)), .val (.int (Int32.ofNat d)), .val (.int (own_lenOf (Int32.ofNat a))), .unset] [])) _
      refine stz _ ?_
      show Steps p.tables e below (Tz.setTop (mkF m 255 #[.val (.long q0), .second, .val (.long q1), .second, .val (.long q2), .second, .val (.int p3), .val (.int p4), .val (.int (Int32.ofNat f)), .val (.int (Int32.ofNat (f + r))), .val (.int (Int32.ofNat (f + g))), .val (.ref b272), .val (.int (Int32.ofNat a)), .val (.int (Int32.ofNat b)), .val (.int (Int32.ofNat cc)), .val (.int (Int32.ofNat d)), .val (.int (own_lenOf (Int32.ofNat a))), s17] [(.int (1 : Int32))])) _
      exact retN Xz hx (t := .boolean) Bd.returns (by simp) (hb hby at_255) hr
    · show Qrm0 Z q0 q1 q2 p3 p4 h0 n0 _ Tz.heap _
      exact ⟨rfl, Nz⟩
  · obtain ⟨c295, r295, q295, s295, n295, H295, G295⟩ := id f294
    have i295 : ¬ (((Int32.ofNat (f + r)) + (1 : Int32)) < 0 ∨ c295.slots.size ≤ (((Int32.ofNat (f + r)) + (1 : Int32))).toNatClampNeg) := inb_of s295 ⟨by rw [Int32.lt_iff_toInt_lt, eq1]; show ¬ (_ < (0 : Int)); omega, by rw [Int32.lt_iff_toInt_lt, eq1]; show _ < (24 : Int); omega⟩
    obtain ⟨T295, h295, X295, e295, W295, st295⟩ := stB X290 hx hZ e290 r295 (j := ((Int32.ofNat (f + r)) + (1 : Int32))) i295 (g := (mkF m 147 #[.val (.long q0), .second, .val (.long q1), .second, .val (.long q2), .second, .val (.int p3), .val (.int p4), .val (.int (Int32.ofNat f)), .val (.int (Int32.ofNat (f + r))), .val (.int (Int32.ofNat (f + g))), .val (.ref b272), .val (.int (Int32.ofNat a)), .val (.int (Int32.ofNat b)), .val (.int (Int32.ofNat cc)), .val (.int (Int32.ofNat d)), .val (.int (own_lenOf (Int32.ofNat a))), .unset] [(.int (Int32.ofNat b).toInt8.toInt32), (.int ((Int32.ofNat (f + r)) + (1 : Int32))), (.ref b272)])) rfl rfl (hb hby at_147)
    have f296 := Arv.set r295 q295 s295 n295 H295 G295 (fits_nar_byte _) W295 (f + r + 1) (by show Int.toNat _ = _; rw [eq1]; omega) (by simp only [List.length_map, List.length_set, own_U_len]; omega)
    have Zn297 := Nat.le_trans Zn292 (Keep.of_wr W295).1
    have N298 := Fr.snoc X295 N293 g273
    have f299 : Arv Z h295 b272 k272 .byte (24 : Int32) ((((own_U q0 q1 q2 (Int32.ofNat f) (Int32.ofNat (f + g))).set (f + r) (nar .byte (Int32.ofNat a).toInt8.toInt32)).set (f + r + 1) (nar .byte (Int32.ofNat b).toInt8.toInt32)).map Value.int) (.int (0 : Int32)) := own_map_set ▸ f296
    by_cases k3 : (own_lenOf (Int32.ofNat a)) < (3 : Int32)
    · have hLn : own_lenOf (Int32.ofNat a) = (2 : Int32) := Int32.toInt_inj.mp (by have z0 : ¬ ((own_lenOf (Int32.ofNat a)).toInt < 2) := (by have := k2; rw [Int32.lt_iff_toInt_lt] at this; exact this); have z1 : (own_lenOf (Int32.ofNat a)).toInt < 3 := (by have := k3; rw [Int32.lt_iff_toInt_lt] at this; exact this); show _ = (2 : Int); omega)
      obtain ⟨Tz, lcz, s17, Xz, Nz, stz⟩ := tl0 X295 hx hZ hw hby hml hown e295 N298 Zn297 f299 (own_sm_n (by omega)) (own_sm_n hg) (own_hl2 hf3 hr15 hg hlt_a hlt_b hlt_cc hlt_d hLn)
      obtain ⟨fs, hr, hrun, hended, hW, hsame⟩ := Xz.leave (v := some (.int (1 : Int32))) (fun h => by rw [Bd.returns] at h; cases h)
      refine ⟨_, _, pre0 _ ?_, hrun, hended, _, _, rfl, ?_, ⟨_, rfl⟩, hW, hsame.mono (by decide) (by decide)⟩
      · show Steps p.tables e below (s₁.setTop (mkF m 0 #[.val (.long q0), .second, .val (.long q1), .second, .val (.long q2), .second, .val (.int p3), .val (.int p4), .unset, .unset, .unset, .unset, .unset, .unset, .unset, .unset, .unset, .unset] [])) _
        refine XS.iload X0.here hx rfl (hb hby at_0) rfl ?_
        show Steps p.tables e below (s₁.setTop (mkF m 2 #[.val (.long q0), .second, .val (.long q1), .second, .val (.long q2), .second, .val (.int p3), .val (.int p4), .unset, .unset, .unset, .unset, .unset, .unset, .unset, .unset, .unset, .unset] [(.int p4)])) _
        refine XS.iconst X0.here hx rfl (hb hby at_2) ?_
        show Steps p.tables e below (s₁.setTop (mkF m 3 #[.val (.long q0), .second, .val (.long q1), .second, .val (.long q2), .second, .val (.int p3), .val (.int p4), .unset, .unset, .unset, .unset, .unset, .unset, .unset, .unset, .unset, .unset] [(.int (3 : Int32)), (.int p4)])) _
        refine XS.iand X0.here hx rfl (hb hby at_3) rfl ?_
        show Steps p.tables e below (s₁.setTop (mkF m 4 #[.val (.long q0), .second, .val (.long q1), .second, .val (.long q2), .second, .val (.int p3), .val (.int p4), .unset, .unset, .unset, .unset, .unset, .unset, .unset, .unset, .unset, .unset] [(.int (p4 &&& (3 : Int32)))])) _
        rw [ef]
        show Steps p.tables e below (s₁.setTop (mkF m 4 #[.val (.long q0), .second, .val (.long q1), .second, .val (.long q2), .second, .val (.int p3), .val (.int p4), .unset, .unset, .unset, .unset, .unset, .unset, .unset, .unset, .unset, .unset] [(.int (Int32.ofNat f))])) _
        refine XS.istore X0.here hx rfl (hb hby at_4) rfl (l' := #[.val (.long q0), .second, .val (.long q1), .second, .val (.long q2), .second, .val (.int p3), .val (.int p4), .val (.int (Int32.ofNat f)), .unset, .unset, .unset, .unset, .unset, .unset, .unset, .unset, .unset]) rfl ?_
        show Steps p.tables e below (s₁.setTop (mkF m 6 #[.val (.long q0), .second, .val (.long q1), .second, .val (.long q2), .second, .val (.int p3), .val (.int p4), .val (.int (Int32.ofNat f)), .unset, .unset, .unset, .unset, .unset, .unset, .unset, .unset, .unset] [])) _
        refine XS.iload X0.here hx rfl (hb hby at_6) rfl ?_
        show Steps p.tables e below (s₁.setTop (mkF m 8 #[.val (.long q0), .second, .val (.long q1), .second, .val (.long q2), .second, .val (.int p3), .val (.int p4), .val (.int (Int32.ofNat f)), .unset, .unset, .unset, .unset, .unset, .unset, .unset, .unset, .unset] [(.int (Int32.ofNat f))])) _
        refine XS.iload X0.here hx rfl (hb hby at_8) rfl ?_
        show Steps p.tables e below (s₁.setTop (mkF m 10 #[.val (.long q0), .second, .val (.long q1), .second, .val (.long q2), .second, .val (.int p3), .val (.int p4), .val (.int (Int32.ofNat f)), .unset, .unset, .unset, .unset, .unset, .unset, .unset, .unset, .unset] [(.int p4), (.int (Int32.ofNat f))])) _
        refine XS.iconst X0.here hx rfl (hb hby at_10) ?_
        show Steps p.tables e below (s₁.setTop (mkF m 11 #[.val (.long q0), .second, .val (.long q1), .second, .val (.long q2), .second, .val (.int p3), .val (.int p4), .val (.int (Int32.ofNat f)), .unset, .unset, .unset, .unset, .unset, .unset, .unset, .unset, .unset] [(.int (2 : Int32)), (.int p4), (.int (Int32.ofNat f))])) _
        refine XS.iushr X0.here hx rfl (hb hby at_11) rfl ?_
        show Steps p.tables e below (s₁.setTop (mkF m 12 #[.val (.long q0), .second, .val (.long q1), .second, .val (.long q2), .second, .val (.int p3), .val (.int p4), .val (.int (Int32.ofNat f)), .unset, .unset, .unset, .unset, .unset, .unset, .unset, .unset, .unset] [(.int ((p4.toUInt32 >>> ((2 : Int32) &&& 31).toUInt32).toInt32)), (.int (Int32.ofNat f))])) _
        refine XS.bipush X0.here hx rfl (hb hby at_12) ?_
        show Steps p.tables e below (s₁.setTop (mkF m 14 #[.val (.long q0), .second, .val (.long q1), .second, .val (.long q2), .second, .val (.int p3), .val (.int p4), .val (.int (Int32.ofNat f)), .unset, .unset, .unset, .unset, .unset, .unset, .unset, .unset, .unset] [(.int (15 : Int32)), (.int ((p4.toUInt32 >>> ((2 : Int32) &&& 31).toUInt32).toInt32)), (.int (Int32.ofNat f))])) _
        refine XS.iand X0.here hx rfl (hb hby at_14) rfl ?_
        show Steps p.tables e below (s₁.setTop (mkF m 15 #[.val (.long q0), .second, .val (.long q1), .second, .val (.long q2), .second, .val (.int p3), .val (.int p4), .val (.int (Int32.ofNat f)), .unset, .unset, .unset, .unset, .unset, .unset, .unset, .unset, .unset] [(.int (((p4.toUInt32 >>> ((2 : Int32) &&& 31).toUInt32).toInt32) &&& (15 : Int32))), (.int (Int32.ofNat f))])) _
        rw [er]
        show Steps p.tables e below (s₁.setTop (mkF m 15 #[.val (.long q0), .second, .val (.long q1), .second, .val (.long q2), .second, .val (.int p3), .val (.int p4), .val (.int (Int32.ofNat f)), .unset, .unset, .unset, .unset, .unset, .unset, .unset, .unset, .unset] [(.int (Int32.ofNat r)), (.int (Int32.ofNat f))])) _
        refine XS.iadd X0.here hx rfl (hb hby at_15) rfl ?_
        show Steps p.tables e below (s₁.setTop (mkF m 16 #[.val (.long q0), .second, .val (.long q1), .second, .val (.long q2), .second, .val (.int p3), .val (.int p4), .val (.int (Int32.ofNat f)), .unset, .unset, .unset, .unset, .unset, .unset, .unset, .unset, .unset] [(.int ((Int32.ofNat f) + (Int32.ofNat r)))])) _
        rw [own_nadd f r]
        show Steps p.tables e below (s₁.setTop (mkF m 16 #[.val (.long q0), .second, .val (.long q1), .second, .val (.long q2), .second, .val (.int p3), .val (.int p4), .val (.int (Int32.ofNat f)), .unset, .unset, .unset, .unset, .unset, .unset, .unset, .unset, .unset] [(.int (Int32.ofNat (f + r)))])) _
        refine XS.istore X0.here hx rfl (hb hby at_16) rfl (l' := #[.val (.long q0), .second, .val (.long q1), .second, .val (.long q2), .second, .val (.int p3), .val (.int p4), .val (.int (Int32.ofNat f)), .val (.int (Int32.ofNat (f + r))), .unset, .unset, .unset, .unset, .unset, .unset, .unset, .unset]) rfl ?_
        show Steps p.tables e below (s₁.setTop (mkF m 18 #[.val (.long q0), .second, .val (.long q1), .second, .val (.long q2), .second, .val (.int p3), .val (.int p4), .val (.int (Int32.ofNat f)), .val (.int (Int32.ofNat (f + r))), .unset, .unset, .unset, .unset, .unset, .unset, .unset, .unset] [])) _
        refine XS.iload X0.here hx rfl (hb hby at_18) rfl ?_
        show Steps p.tables e below (s₁.setTop (mkF m 20 #[.val (.long q0), .second, .val (.long q1), .second, .val (.long q2), .second, .val (.int p3), .val (.int p4), .val (.int (Int32.ofNat f)), .val (.int (Int32.ofNat (f + r))), .unset, .unset, .unset, .unset, .unset, .unset, .unset, .unset] [(.int (Int32.ofNat f))])) _
        refine XS.iload X0.here hx rfl (hb hby at_20) rfl ?_
        show Steps p.tables e below (s₁.setTop (mkF m 22 #[.val (.long q0), .second, .val (.long q1), .second, .val (.long q2), .second, .val (.int p3), .val (.int p4), .val (.int (Int32.ofNat f)), .val (.int (Int32.ofNat (f + r))), .unset, .unset, .unset, .unset, .unset, .unset, .unset, .unset] [(.int p4), (.int (Int32.ofNat f))])) _
        refine XS.bipush X0.here hx rfl (hb hby at_22) ?_
        show Steps p.tables e below (s₁.setTop (mkF m 24 #[.val (.long q0), .second, .val (.long q1), .second, .val (.long q2), .second, .val (.int p3), .val (.int p4), .val (.int (Int32.ofNat f)), .val (.int (Int32.ofNat (f + r))), .unset, .unset, .unset, .unset, .unset, .unset, .unset, .unset] [(.int (6 : Int32)), (.int p4), (.int (Int32.ofNat f))])) _
        refine XS.iushr X0.here hx rfl (hb hby at_24) rfl ?_
        show Steps p.tables e below (s₁.setTop (mkF m 25 #[.val (.long q0), .second, .val (.long q1), .second, .val (.long q2), .second, .val (.int p3), .val (.int p4), .val (.int (Int32.ofNat f)), .val (.int (Int32.ofNat (f + r))), .unset, .unset, .unset, .unset, .unset, .unset, .unset, .unset] [(.int ((p4.toUInt32 >>> ((6 : Int32) &&& 31).toUInt32).toInt32)), (.int (Int32.ofNat f))])) _
        rw [eu]
        show Steps p.tables e below (s₁.setTop (mkF m 25 #[.val (.long q0), .second, .val (.long q1), .second, .val (.long q2), .second, .val (.int p3), .val (.int p4), .val (.int (Int32.ofNat f)), .val (.int (Int32.ofNat (f + r))), .unset, .unset, .unset, .unset, .unset, .unset, .unset, .unset] [(.int (Int32.ofNat u)), (.int (Int32.ofNat f))])) _
        refine XS.bipush X0.here hx rfl (hb hby at_25) ?_
        show Steps p.tables e below (s₁.setTop (mkF m 27 #[.val (.long q0), .second, .val (.long q1), .second, .val (.long q2), .second, .val (.int p3), .val (.int p4), .val (.int (Int32.ofNat f)), .val (.int (Int32.ofNat (f + r))), .unset, .unset, .unset, .unset, .unset, .unset, .unset, .unset] [(.int (25 : Int32)), (.int (Int32.ofNat u)), (.int (Int32.ofNat f))])) _
        refine XS.iload X0.here hx rfl (hb hby at_27) rfl ?_
        show Steps p.tables e below (s₁.setTop (mkF m 29 #[.val (.long q0), .second, .val (.long q1), .second, .val (.long q2), .second, .val (.int p3), .val (.int p4), .val (.int (Int32.ofNat f)), .val (.int (Int32.ofNat (f + r))), .unset, .unset, .unset, .unset, .unset, .unset, .unset, .unset] [(.int (Int32.ofNat f)), (.int (25 : Int32)), (.int (Int32.ofNat u)), (.int (Int32.ofNat f))])) _
        refine XS.isub X0.here hx rfl (hb hby at_29) rfl ?_
        show Steps p.tables e below (s₁.setTop (mkF m 30 #[.val (.long q0), .second, .val (.long q1), .second, .val (.long q2), .second, .val (.int p3), .val (.int p4), .val (.int (Int32.ofNat f)), .val (.int (Int32.ofNat (f + r))), .unset, .unset, .unset, .unset, .unset, .unset, .unset, .unset] [(.int ((25 : Int32) - (Int32.ofNat f))), (.int (Int32.ofNat u)), (.int (Int32.ofNat f))])) _
        rw [e25]
        show Steps p.tables e below (s₁.setTop (mkF m 30 #[.val (.long q0), .second, .val (.long q1), .second, .val (.long q2), .second, .val (.int p3), .val (.int p4), .val (.int (Int32.ofNat f)), .val (.int (Int32.ofNat (f + r))), .unset, .unset, .unset, .unset, .unset, .unset, .unset, .unset] [(.int (Int32.ofNat (25 - f))), (.int (Int32.ofNat u)), (.int (Int32.ofNat f))])) _
        refine XS.irem X0.here hx rfl (hb hby at_30) rfl (fun z => by have := (own_neq (a := 25 - f) (b := 0) (by omega) (by omega)).mp z; omega) ?_
        show Steps p.tables e below (s₁.setTop (mkF m 31 #[.val (.long q0), .second, .val (.long q1), .second, .val (.long q2), .second, .val (.int p3), .val (.int p4), .val (.int (Int32.ofNat f)), .val (.int (Int32.ofNat (f + r))), .unset, .unset, .unset, .unset, .unset, .unset, .unset, .unset] [(.int ((Int32.ofNat u) - (Int32.ofNat u) / (Int32.ofNat (25 - f)) * (Int32.ofNat (25 - f)))), (.int (Int32.ofNat f))])) _
        rw [eg]
        show Steps p.tables e below (s₁.setTop (mkF m 31 #[.val (.long q0), .second, .val (.long q1), .second, .val (.long q2), .second, .val (.int p3), .val (.int p4), .val (.int (Int32.ofNat f)), .val (.int (Int32.ofNat (f + r))), .unset, .unset, .unset, .unset, .unset, .unset, .unset, .unset] [(.int (Int32.ofNat g)), (.int (Int32.ofNat f))])) _
        refine XS.iadd X0.here hx rfl (hb hby at_31) rfl ?_
        show Steps p.tables e below (s₁.setTop (mkF m 32 #[.val (.long q0), .second, .val (.long q1), .second, .val (.long q2), .second, .val (.int p3), .val (.int p4), .val (.int (Int32.ofNat f)), .val (.int (Int32.ofNat (f + r))), .unset, .unset, .unset, .unset, .unset, .unset, .unset, .unset] [(.int ((Int32.ofNat f) + (Int32.ofNat g)))])) _
        rw [own_nadd f g]
        show Steps p.tables e below (s₁.setTop (mkF m 32 #[.val (.long q0), .second, .val (.long q1), .second, .val (.long q2), .second, .val (.int p3), .val (.int p4), .val (.int (Int32.ofNat f)), .val (.int (Int32.ofNat (f + r))), .unset, .unset, .unset, .unset, .unset, .unset, .unset, .unset] [(.int (Int32.ofNat (f + g)))])) _
        refine XS.istore X0.here hx rfl (hb hby at_32) rfl (l' := #[.val (.long q0), .second, .val (.long q1), .second, .val (.long q2), .second, .val (.int p3), .val (.int p4), .val (.int (Int32.ofNat f)), .val (.int (Int32.ofNat (f + r))), .val (.int (Int32.ofNat (f + g))), .unset, .unset, .unset, .unset, .unset, .unset, .unset]) rfl ?_
        show Steps p.tables e below (s₁.setTop (mkF m 34 #[.val (.long q0), .second, .val (.long q1), .second, .val (.long q2), .second, .val (.int p3), .val (.int p4), .val (.int (Int32.ofNat f)), .val (.int (Int32.ofNat (f + r))), .val (.int (Int32.ofNat (f + g))), .unset, .unset, .unset, .unset, .unset, .unset, .unset] [])) _
        refine XS.bipush X0.here hx rfl (hb hby at_34) ?_
        show Steps p.tables e below (s₁.setTop (mkF m 36 #[.val (.long q0), .second, .val (.long q1), .second, .val (.long q2), .second, .val (.int p3), .val (.int p4), .val (.int (Int32.ofNat f)), .val (.int (Int32.ofNat (f + r))), .val (.int (Int32.ofNat (f + g))), .unset, .unset, .unset, .unset, .unset, .unset, .unset] [(.int (24 : Int32))])) _
        refine st272 _ ?_
        show Steps p.tables e below (T272.setTop (mkF m 38 #[.val (.long q0), .second, .val (.long q1), .second, .val (.long q2), .second, .val (.int p3), .val (.int p4), .val (.int (Int32.ofNat f)), .val (.int (Int32.ofNat (f + r))), .val (.int (Int32.ofNat (f + g))), .unset, .unset, .unset, .unset, .unset, .unset, .unset] [(.ref b272)])) _
        refine XS.astore X272.here hx rfl (hb hby at_38) rfl rfl (l' := #[.val (.long q0), .second, .val (.long q1), .second, .val (.long q2), .second, .val (.int p3), .val (.int p4), .val (.int (Int32.ofNat f)), .val (.int (Int32.ofNat (f + r))), .val (.int (Int32.ofNat (f + g))), .val (.ref b272), .unset, .unset, .unset, .unset, .unset, .unset]) rfl ?_
        show Steps p.tables e below (T272.setTop (mkF m 40 #[.val (.long q0), .second, .val (.long q1), .second, .val (.long q2), .second, .val (.int p3), .val (.int p4), .val (.int (Int32.ofNat f)), .val (.int (Int32.ofNat (f + r))), .val (.int (Int32.ofNat (f + g))), .val (.ref b272), .unset, .unset, .unset, .unset, .unset, .unset] [])) _
        refine XS.aload X272.here hx rfl (hb hby at_40) rfl rfl ?_
        show Steps p.tables e below (T272.setTop (mkF m 42 #[.val (.long q0), .second, .val (.long q1), .second, .val (.long q2), .second, .val (.int p3), .val (.int p4), .val (.int (Int32.ofNat f)), .val (.int (Int32.ofNat (f + r))), .val (.int (Int32.ofNat (f + g))), .val (.ref b272), .unset, .unset, .unset, .unset, .unset, .unset] [(.ref b272)])) _
        refine XS.iconst X272.here hx rfl (hb hby at_42) ?_
        show Steps p.tables e below (T272.setTop (mkF m 43 #[.val (.long q0), .second, .val (.long q1), .second, .val (.long q2), .second, .val (.int p3), .val (.int p4), .val (.int (Int32.ofNat f)), .val (.int (Int32.ofNat (f + r))), .val (.int (Int32.ofNat (f + g))), .val (.ref b272), .unset, .unset, .unset, .unset, .unset, .unset] [(.int (0 : Int32)), (.ref b272)])) _
        refine XS.lloadN X272.here hx rfl (hb hby at_43) rfl ?_
        show Steps p.tables e below (T272.setTop (mkF m 44 #[.val (.long q0), .second, .val (.long q1), .second, .val (.long q2), .second, .val (.int p3), .val (.int p4), .val (.int (Int32.ofNat f)), .val (.int (Int32.ofNat (f + r))), .val (.int (Int32.ofNat (f + g))), .val (.ref b272), .unset, .unset, .unset, .unset, .unset, .unset] [(.long q0), (.int (0 : Int32)), (.ref b272)])) _
        refine XS.iload X272.here hx rfl (hb hby at_44) rfl ?_
        show Steps p.tables e below (T272.setTop (mkF m 46 #[.val (.long q0), .second, .val (.long q1), .second, .val (.long q2), .second, .val (.int p3), .val (.int p4), .val (.int (Int32.ofNat f)), .val (.int (Int32.ofNat (f + r))), .val (.int (Int32.ofNat (f + g))), .val (.ref b272), .unset, .unset, .unset, .unset, .unset, .unset] [(.int (Int32.ofNat f)), (.long q0), (.int (0 : Int32)), (.ref b272)])) _
        refine XS.iload X272.here hx rfl (hb hby at_46) rfl ?_
        show Steps p.tables e below (T272.setTop (mkF m 48 #[.val (.long q0), .second, .val (.long q1), .second, .val (.long q2), .second, .val (.int p3), .val (.int p4), .val (.int (Int32.ofNat f)), .val (.int (Int32.ofNat (f + r))), .val (.int (Int32.ofNat (f + g))), .val (.ref b272), .unset, .unset, .unset, .unset, .unset, .unset] [(.int (Int32.ofNat (f + g))), (.int (Int32.ofNat f)), (.long q0), (.int (0 : Int32)), (.ref b272)])) _
        refine st278 _ ?_
        show Steps p.tables e below (T278.setTop (mkF m 51 #[.val (.long q0), .second, .val (.long q1), .second, .val (.long q2), .second, .val (.int p3), .val (.int p4), .val (.int (Int32.ofNat f)), .val (.int (Int32.ofNat (f + r))), .val (.int (Int32.ofNat (f + g))), .val (.ref b272), .unset, .unset, .unset, .unset, .unset, .unset] [])) _
        refine XS.aload X278.here hx rfl (hb hby at_51) rfl rfl ?_
        show Steps p.tables e below (T278.setTop (mkF m 53 #[.val (.long q0), .second, .val (.long q1), .second, .val (.long q2), .second, .val (.int p3), .val (.int p4), .val (.int (Int32.ofNat f)), .val (.int (Int32.ofNat (f + r))), .val (.int (Int32.ofNat (f + g))), .val (.ref b272), .unset, .unset, .unset, .unset, .unset, .unset] [(.ref b272)])) _
        refine XS.bipush X278.here hx rfl (hb hby at_53) ?_
        show Steps p.tables e below (T278.setTop (mkF m 55 #[.val (.long q0), .second, .val (.long q1), .second, .val (.long q2), .second, .val (.int p3), .val (.int p4), .val (.int (Int32.ofNat f)), .val (.int (Int32.ofNat (f + r))), .val (.int (Int32.ofNat (f + g))), .val (.ref b272), .unset, .unset, .unset, .unset, .unset, .unset] [(.int (8 : Int32)), (.ref b272)])) _
        refine XS.lloadN X278.here hx rfl (hb hby at_55) rfl ?_
        show Steps p.tables e below (T278.setTop (mkF m 56 #[.val (.long q0), .second, .val (.long q1), .second, .val (.long q2), .second, .val (.int p3), .val (.int p4), .val (.int (Int32.ofNat f)), .val (.int (Int32.ofNat (f + r))), .val (.int (Int32.ofNat (f + g))), .val (.ref b272), .unset, .unset, .unset, .unset, .unset, .unset] [(.long q1), (.int (8 : Int32)), (.ref b272)])) _
        refine XS.iload X278.here hx rfl (hb hby at_56) rfl ?_
        show Steps p.tables e below (T278.setTop (mkF m 58 #[.val (.long q0), .second, .val (.long q1), .second, .val (.long q2), .second, .val (.int p3), .val (.int p4), .val (.int (Int32.ofNat f)), .val (.int (Int32.ofNat (f + r))), .val (.int (Int32.ofNat (f + g))), .val (.ref b272), .unset, .unset, .unset, .unset, .unset, .unset] [(.int (Int32.ofNat f)), (.long q1), (.int (8 : Int32)), (.ref b272)])) _
        refine XS.iload X278.here hx rfl (hb hby at_58) rfl ?_
        show Steps p.tables e below (T278.setTop (mkF m 60 #[.val (.long q0), .second, .val (.long q1), .second, .val (.long q2), .second, .val (.int p3), .val (.int p4), .val (.int (Int32.ofNat f)), .val (.int (Int32.ofNat (f + r))), .val (.int (Int32.ofNat (f + g))), .val (.ref b272), .unset, .unset, .unset, .unset, .unset, .unset] [(.int (Int32.ofNat (f + g))), (.int (Int32.ofNat f)), (.long q1), (.int (8 : Int32)), (.ref b272)])) _
        refine st281 _ ?_
        show Steps p.tables e below (T281.setTop (mkF m 63 #[.val (.long q0), .second, .val (.long q1), .second, .val (.long q2), .second, .val (.int p3), .val (.int p4), .val (.int (Int32.ofNat f)), .val (.int (Int32.ofNat (f + r))), .val (.int (Int32.ofNat (f + g))), .val (.ref b272), .unset, .unset, .unset, .unset, .unset, .unset] [])) _
        refine XS.aload X281.here hx rfl (hb hby at_63) rfl rfl ?_
        show Steps p.tables e below (T281.setTop (mkF m 65 #[.val (.long q0), .second, .val (.long q1), .second, .val (.long q2), .second, .val (.int p3), .val (.int p4), .val (.int (Int32.ofNat f)), .val (.int (Int32.ofNat (f + r))), .val (.int (Int32.ofNat (f + g))), .val (.ref b272), .unset, .unset, .unset, .unset, .unset, .unset] [(.ref b272)])) _
        refine XS.bipush X281.here hx rfl (hb hby at_65) ?_
        show Steps p.tables e below (T281.setTop (mkF m 67 #[.val (.long q0), .second, .val (.long q1), .second, .val (.long q2), .second, .val (.int p3), .val (.int p4), .val (.int (Int32.ofNat f)), .val (.int (Int32.ofNat (f + r))), .val (.int (Int32.ofNat (f + g))), .val (.ref b272), .unset, .unset, .unset, .unset, .unset, .unset] [(.int (16 : Int32)), (.ref b272)])) _
        refine XS.lload X281.here hx rfl (hb hby at_67) rfl ?_
        show Steps p.tables e below (T281.setTop (mkF m 69 #[.val (.long q0), .second, .val (.long q1), .second, .val (.long q2), .second, .val (.int p3), .val (.int p4), .val (.int (Int32.ofNat f)), .val (.int (Int32.ofNat (f + r))), .val (.int (Int32.ofNat (f + g))), .val (.ref b272), .unset, .unset, .unset, .unset, .unset, .unset] [(.long q2), (.int (16 : Int32)), (.ref b272)])) _
        refine XS.iload X281.here hx rfl (hb hby at_69) rfl ?_
        show Steps p.tables e below (T281.setTop (mkF m 71 #[.val (.long q0), .second, .val (.long q1), .second, .val (.long q2), .second, .val (.int p3), .val (.int p4), .val (.int (Int32.ofNat f)), .val (.int (Int32.ofNat (f + r))), .val (.int (Int32.ofNat (f + g))), .val (.ref b272), .unset, .unset, .unset, .unset, .unset, .unset] [(.int (Int32.ofNat f)), (.long q2), (.int (16 : Int32)), (.ref b272)])) _
        refine XS.iload X281.here hx rfl (hb hby at_71) rfl ?_
        show Steps p.tables e below (T281.setTop (mkF m 73 #[.val (.long q0), .second, .val (.long q1), .second, .val (.long q2), .second, .val (.int p3), .val (.int p4), .val (.int (Int32.ofNat f)), .val (.int (Int32.ofNat (f + r))), .val (.int (Int32.ofNat (f + g))), .val (.ref b272), .unset, .unset, .unset, .unset, .unset, .unset] [(.int (Int32.ofNat (f + g))), (.int (Int32.ofNat f)), (.long q2), (.int (16 : Int32)), (.ref b272)])) _
        refine st284 _ ?_
        show Steps p.tables e below (T284.setTop (mkF m 76 #[.val (.long q0), .second, .val (.long q1), .second, .val (.long q2), .second, .val (.int p3), .val (.int p4), .val (.int (Int32.ofNat f)), .val (.int (Int32.ofNat (f + r))), .val (.int (Int32.ofNat (f + g))), .val (.ref b272), .unset, .unset, .unset, .unset, .unset, .unset] [])) _
        refine XS.iload X284.here hx rfl (hb hby at_76) rfl ?_
        show Steps p.tables e below (T284.setTop (mkF m 78 #[.val (.long q0), .second, .val (.long q1), .second, .val (.long q2), .second, .val (.int p3), .val (.int p4), .val (.int (Int32.ofNat f)), .val (.int (Int32.ofNat (f + r))), .val (.int (Int32.ofNat (f + g))), .val (.ref b272), .unset, .unset, .unset, .unset, .unset, .unset] [(.int p3)])) _
        refine XS.sipush X284.here hx rfl (hb hby at_78) ?_
        show Steps p.tables e below (T284.setTop (mkF m 81 #[.val (.long q0), .second, .val (.long q1), .second, .val (.long q2), .second, .val (.int p3), .val (.int p4), .val (.int (Int32.ofNat f)), .val (.int (Int32.ofNat (f + r))), .val (.int (Int32.ofNat (f + g))), .val (.ref b272), .unset, .unset, .unset, .unset, .unset, .unset] [(.int (255 : Int32)), (.int p3)])) _
        refine XS.iand X284.here hx rfl (hb hby at_81) rfl ?_
        show Steps p.tables e below (T284.setTop (mkF m 82 #[.val (.long q0), .second, .val (.long q1), .second, .val (.long q2), .second, .val (.int p3), .val (.int p4), .val (.int (Int32.ofNat f)), .val (.int (Int32.ofNat (f + r))), .val (.int (Int32.ofNat (f + g))), .val (.ref b272), .unset, .unset, .unset, .unset, .unset, .unset] [(.int (p3 &&& (255 : Int32)))])) _
        rw [ea]
        show Steps p.tables e below (T284.setTop (mkF m 82 #[.val (.long q0), .second, .val (.long q1), .second, .val (.long q2), .second, .val (.int p3), .val (.int p4), .val (.int (Int32.ofNat f)), .val (.int (Int32.ofNat (f + r))), .val (.int (Int32.ofNat (f + g))), .val (.ref b272), .unset, .unset, .unset, .unset, .unset, .unset] [(.int (Int32.ofNat a))])) _
        refine XS.istore X284.here hx rfl (hb hby at_82) rfl (l' := #[.val (.long q0), .second, .val (.long q1), .second, .val (.long q2), .second, .val (.int p3), .val (.int p4), .val (.int (Int32.ofNat f)), .val (.int (Int32.ofNat (f + r))), .val (.int (Int32.ofNat (f + g))), .val (.ref b272), .val (.int (Int32.ofNat a)), .unset, .unset, .unset, .unset, .unset]) rfl ?_
        show Steps p.tables e below (T284.setTop (mkF m 84 #[.val (.long q0), .second, .val (.long q1), .second, .val (.long q2), .second, .val (.int p3), .val (.int p4), .val (.int (Int32.ofNat f)), .val (.int (Int32.ofNat (f + r))), .val (.int (Int32.ofNat (f + g))), .val (.ref b272), .val (.int (Int32.ofNat a)), .unset, .unset, .unset, .unset, .unset] [])) _
        refine XS.iload X284.here hx rfl (hb hby at_84) rfl ?_
        show Steps p.tables e below (T284.setTop (mkF m 86 #[.val (.long q0), .second, .val (.long q1), .second, .val (.long q2), .second, .val (.int p3), .val (.int p4), .val (.int (Int32.ofNat f)), .val (.int (Int32.ofNat (f + r))), .val (.int (Int32.ofNat (f + g))), .val (.ref b272), .val (.int (Int32.ofNat a)), .unset, .unset, .unset, .unset, .unset] [(.int p3)])) _
        refine XS.bipush X284.here hx rfl (hb hby at_86) ?_
        show Steps p.tables e below (T284.setTop (mkF m 88 #[.val (.long q0), .second, .val (.long q1), .second, .val (.long q2), .second, .val (.int p3), .val (.int p4), .val (.int (Int32.ofNat f)), .val (.int (Int32.ofNat (f + r))), .val (.int (Int32.ofNat (f + g))), .val (.ref b272), .val (.int (Int32.ofNat a)), .unset, .unset, .unset, .unset, .unset] [(.int (8 : Int32)), (.int p3)])) _
        refine XS.iushr X284.here hx rfl (hb hby at_88) rfl ?_
        show Steps p.tables e below (T284.setTop (mkF m 89 #[.val (.long q0), .second, .val (.long q1), .second, .val (.long q2), .second, .val (.int p3), .val (.int p4), .val (.int (Int32.ofNat f)), .val (.int (Int32.ofNat (f + r))), .val (.int (Int32.ofNat (f + g))), .val (.ref b272), .val (.int (Int32.ofNat a)), .unset, .unset, .unset, .unset, .unset] [(.int ((p3.toUInt32 >>> ((8 : Int32) &&& 31).toUInt32).toInt32))])) _
        refine XS.sipush X284.here hx rfl (hb hby at_89) ?_
        show Steps p.tables e below (T284.setTop (mkF m 92 #[.val (.long q0), .second, .val (.long q1), .second, .val (.long q2), .second, .val (.int p3), .val (.int p4), .val (.int (Int32.ofNat f)), .val (.int (Int32.ofNat (f + r))), .val (.int (Int32.ofNat (f + g))), .val (.ref b272), .val (.int (Int32.ofNat a)), .unset, .unset, .unset, .unset, .unset] [(.int (255 : Int32)), (.int ((p3.toUInt32 >>> ((8 : Int32) &&& 31).toUInt32).toInt32))])) _
        refine XS.iand X284.here hx rfl (hb hby at_92) rfl ?_
        show Steps p.tables e below (T284.setTop (mkF m 93 #[.val (.long q0), .second, .val (.long q1), .second, .val (.long q2), .second, .val (.int p3), .val (.int p4), .val (.int (Int32.ofNat f)), .val (.int (Int32.ofNat (f + r))), .val (.int (Int32.ofNat (f + g))), .val (.ref b272), .val (.int (Int32.ofNat a)), .unset, .unset, .unset, .unset, .unset] [(.int (((p3.toUInt32 >>> ((8 : Int32) &&& 31).toUInt32).toInt32) &&& (255 : Int32)))])) _
        rw [eb]
        show Steps p.tables e below (T284.setTop (mkF m 93 #[.val (.long q0), .second, .val (.long q1), .second, .val (.long q2), .second, .val (.int p3), .val (.int p4), .val (.int (Int32.ofNat f)), .val (.int (Int32.ofNat (f + r))), .val (.int (Int32.ofNat (f + g))), .val (.ref b272), .val (.int (Int32.ofNat a)), .unset, .unset, .unset, .unset, .unset] [(.int (Int32.ofNat b))])) _
        refine XS.istore X284.here hx rfl (hb hby at_93) rfl (l' := #[.val (.long q0), .second, .val (.long q1), .second, .val (.long q2), .second, .val (.int p3), .val (.int p4), .val (.int (Int32.ofNat f)), .val (.int (Int32.ofNat (f + r))), .val (.int (Int32.ofNat (f + g))), .val (.ref b272), .val (.int (Int32.ofNat a)), .val (.int (Int32.ofNat b)), .unset, .unset, .unset, .unset]) rfl ?_
        show Steps p.tables e below (T284.setTop (mkF m 95 #[.val (.long q0), .second, .val (.long q1), .second, .val (.long q2), .second, .val (.int p3), .val (.int p4), .val (.int (Int32.ofNat f)), .val (.int (Int32.ofNat (f + r))), .val (.int (Int32.ofNat (f + g))), .val (.ref b272), .val (.int (Int32.ofNat a)), .val (.int (Int32.ofNat b)), .unset, .unset, .unset, .unset] [])) _
        refine XS.iload X284.here hx rfl (hb hby at_95) rfl ?_
        show Steps p.tables e below (T284.setTop (mkF m 97 #[.val (.long q0), .second, .val (.long q1), .second, .val (.long q2), .second, .val (.int p3), .val (.int p4), .val (.int (Int32.ofNat f)), .val (.int (Int32.ofNat (f + r))), .val (.int (Int32.ofNat (f + g))), .val (.ref b272), .val (.int (Int32.ofNat a)), .val (.int (Int32.ofNat b)), .unset, .unset, .unset, .unset] [(.int p3)])) _
        refine XS.bipush X284.here hx rfl (hb hby at_97) ?_
        show Steps p.tables e below (T284.setTop (mkF m 99 #[.val (.long q0), .second, .val (.long q1), .second, .val (.long q2), .second, .val (.int p3), .val (.int p4), .val (.int (Int32.ofNat f)), .val (.int (Int32.ofNat (f + r))), .val (.int (Int32.ofNat (f + g))), .val (.ref b272), .val (.int (Int32.ofNat a)), .val (.int (Int32.ofNat b)), .unset, .unset, .unset, .unset] [(.int (16 : Int32)), (.int p3)])) _
        refine XS.iushr X284.here hx rfl (hb hby at_99) rfl ?_
        show Steps p.tables e below (T284.setTop (mkF m 100 #[.val (.long q0), .second, .val (.long q1), .second, .val (.long q2), .second, .val (.int p3), .val (.int p4), .val (.int (Int32.ofNat f)), .val (.int (Int32.ofNat (f + r))), .val (.int (Int32.ofNat (f + g))), .val (.ref b272), .val (.int (Int32.ofNat a)), .val (.int (Int32.ofNat b)), .unset, .unset, .unset, .unset] [(.int ((p3.toUInt32 >>> ((16 : Int32) &&& 31).toUInt32).toInt32))])) _
        refine XS.sipush X284.here hx rfl (hb hby at_100) ?_
        show Steps p.tables e below (T284.setTop (mkF m 103 #[.val (.long q0), .second, .val (.long q1), .second, .val (.long q2), .second, .val (.int p3), .val (.int p4), .val (.int (Int32.ofNat f)), .val (.int (Int32.ofNat (f + r))), .val (.int (Int32.ofNat (f + g))), .val (.ref b272), .val (.int (Int32.ofNat a)), .val (.int (Int32.ofNat b)), .unset, .unset, .unset, .unset] [(.int (255 : Int32)), (.int ((p3.toUInt32 >>> ((16 : Int32) &&& 31).toUInt32).toInt32))])) _
        refine XS.iand X284.here hx rfl (hb hby at_103) rfl ?_
        show Steps p.tables e below (T284.setTop (mkF m 104 #[.val (.long q0), .second, .val (.long q1), .second, .val (.long q2), .second, .val (.int p3), .val (.int p4), .val (.int (Int32.ofNat f)), .val (.int (Int32.ofNat (f + r))), .val (.int (Int32.ofNat (f + g))), .val (.ref b272), .val (.int (Int32.ofNat a)), .val (.int (Int32.ofNat b)), .unset, .unset, .unset, .unset] [(.int (((p3.toUInt32 >>> ((16 : Int32) &&& 31).toUInt32).toInt32) &&& (255 : Int32)))])) _
        rw [ecc]
        show Steps p.tables e below (T284.setTop (mkF m 104 #[.val (.long q0), .second, .val (.long q1), .second, .val (.long q2), .second, .val (.int p3), .val (.int p4), .val (.int (Int32.ofNat f)), .val (.int (Int32.ofNat (f + r))), .val (.int (Int32.ofNat (f + g))), .val (.ref b272), .val (.int (Int32.ofNat a)), .val (.int (Int32.ofNat b)), .unset, .unset, .unset, .unset] [(.int (Int32.ofNat cc))])) _
        refine XS.istore X284.here hx rfl (hb hby at_104) rfl (l' := #[.val (.long q0), .second, .val (.long q1), .second, .val (.long q2), .second, .val (.int p3), .val (.int p4), .val (.int (Int32.ofNat f)), .val (.int (Int32.ofNat (f + r))), .val (.int (Int32.ofNat (f + g))), .val (.ref b272), .val (.int (Int32.ofNat a)), .val (.int (Int32.ofNat b)), .val (.int (Int32.ofNat cc)), .unset, .unset, .unset]) rfl ?_
        show Steps p.tables e below (T284.setTop (mkF m 106 #[.val (.long q0), .second, .val (.long q1), .second, .val (.long q2), .second, .val (.int p3), .val (.int p4), .val (.int (Int32.ofNat f)), .val (.int (Int32.ofNat (f + r))), .val (.int (Int32.ofNat (f + g))), .val (.ref b272), .val (.int (Int32.ofNat a)), .val (.int (Int32.ofNat b)), .val (.int (Int32.ofNat cc)), .unset, .unset, .unset] [])) _
        refine XS.iload X284.here hx rfl (hb hby at_106) rfl ?_
        show Steps p.tables e below (T284.setTop (mkF m 108 #[.val (.long q0), .second, .val (.long q1), .second, .val (.long q2), .second, .val (.int p3), .val (.int p4), .val (.int (Int32.ofNat f)), .val (.int (Int32.ofNat (f + r))), .val (.int (Int32.ofNat (f + g))), .val (.ref b272), .val (.int (Int32.ofNat a)), .val (.int (Int32.ofNat b)), .val (.int (Int32.ofNat cc)), .unset, .unset, .unset] [(.int p3)])) _
        refine XS.bipush X284.here hx rfl (hb hby at_108) ?_
        show Steps p.tables e below (T284.setTop (mkF m 110 #[.val (.long q0), .second, .val (.long q1), .second, .val (.long q2), .second, .val (.int p3), .val (.int p4), .val (.int (Int32.ofNat f)), .val (.int (Int32.ofNat (f + r))), .val (.int (Int32.ofNat (f + g))), .val (.ref b272), .val (.int (Int32.ofNat a)), .val (.int (Int32.ofNat b)), .val (.int (Int32.ofNat cc)), .unset, .unset, .unset] [(.int (24 : Int32)), (.int p3)])) _
        refine XS.iushr X284.here hx rfl (hb hby at_110) rfl ?_
        show Steps p.tables e below (T284.setTop (mkF m 111 #[.val (.long q0), .second, .val (.long q1), .second, .val (.long q2), .second, .val (.int p3), .val (.int p4), .val (.int (Int32.ofNat f)), .val (.int (Int32.ofNat (f + r))), .val (.int (Int32.ofNat (f + g))), .val (.ref b272), .val (.int (Int32.ofNat a)), .val (.int (Int32.ofNat b)), .val (.int (Int32.ofNat cc)), .unset, .unset, .unset] [(.int ((p3.toUInt32 >>> ((24 : Int32) &&& 31).toUInt32).toInt32))])) _
        refine XS.sipush X284.here hx rfl (hb hby at_111) ?_
        show Steps p.tables e below (T284.setTop (mkF m 114 #[.val (.long q0), .second, .val (.long q1), .second, .val (.long q2), .second, .val (.int p3), .val (.int p4), .val (.int (Int32.ofNat f)), .val (.int (Int32.ofNat (f + r))), .val (.int (Int32.ofNat (f + g))), .val (.ref b272), .val (.int (Int32.ofNat a)), .val (.int (Int32.ofNat b)), .val (.int (Int32.ofNat cc)), .unset, .unset, .unset] [(.int (255 : Int32)), (.int ((p3.toUInt32 >>> ((24 : Int32) &&& 31).toUInt32).toInt32))])) _
        refine XS.iand X284.here hx rfl (hb hby at_114) rfl ?_
        show Steps p.tables e below (T284.setTop (mkF m 115 #[.val (.long q0), .second, .val (.long q1), .second, .val (.long q2), .second, .val (.int p3), .val (.int p4), .val (.int (Int32.ofNat f)), .val (.int (Int32.ofNat (f + r))), .val (.int (Int32.ofNat (f + g))), .val (.ref b272), .val (.int (Int32.ofNat a)), .val (.int (Int32.ofNat b)), .val (.int (Int32.ofNat cc)), .unset, .unset, .unset] [(.int (((p3.toUInt32 >>> ((24 : Int32) &&& 31).toUInt32).toInt32) &&& (255 : Int32)))])) _
        rw [ed]
        show Steps p.tables e below (T284.setTop (mkF m 115 #[.val (.long q0), .second, .val (.long q1), .second, .val (.long q2), .second, .val (.int p3), .val (.int p4), .val (.int (Int32.ofNat f)), .val (.int (Int32.ofNat (f + r))), .val (.int (Int32.ofNat (f + g))), .val (.ref b272), .val (.int (Int32.ofNat a)), .val (.int (Int32.ofNat b)), .val (.int (Int32.ofNat cc)), .unset, .unset, .unset] [(.int (Int32.ofNat d))])) _
        refine XS.istore X284.here hx rfl (hb hby at_115) rfl (l' := #[.val (.long q0), .second, .val (.long q1), .second, .val (.long q2), .second, .val (.int p3), .val (.int p4), .val (.int (Int32.ofNat f)), .val (.int (Int32.ofNat (f + r))), .val (.int (Int32.ofNat (f + g))), .val (.ref b272), .val (.int (Int32.ofNat a)), .val (.int (Int32.ofNat b)), .val (.int (Int32.ofNat cc)), .val (.int (Int32.ofNat d)), .unset, .unset]) rfl ?_
        show Steps p.tables e below (T284.setTop (mkF m 117 #[.val (.long q0), .second, .val (.long q1), .second, .val (.long q2), .second, .val (.int p3), .val (.int p4), .val (.int (Int32.ofNat f)), .val (.int (Int32.ofNat (f + r))), .val (.int (Int32.ofNat (f + g))), .val (.ref b272), .val (.int (Int32.ofNat a)), .val (.int (Int32.ofNat b)), .val (.int (Int32.ofNat cc)), .val (.int (Int32.ofNat d)), .unset, .unset] [])) _
        refine XS.iload X284.here hx rfl (hb hby at_117) rfl ?_
        show Steps p.tables e below (T284.setTop (mkF m 119 #[.val (.long q0), .second, .val (.long q1), .second, .val (.long q2), .second, .val (.int p3), .val (.int p4), .val (.int (Int32.ofNat f)), .val (.int (Int32.ofNat (f + r))), .val (.int (Int32.ofNat (f + g))), .val (.ref b272), .val (.int (Int32.ofNat a)), .val (.int (Int32.ofNat b)), .val (.int (Int32.ofNat cc)), .val (.int (Int32.ofNat d)), .unset, .unset] [(.int (Int32.ofNat a))])) _
        refine st288 _ ?_
        show Steps p.tables e below (T288.setTop (mkF m 122 #[.val (.long q0), .second, .val (.long q1), .second, .val (.long q2), .second, .val (.int p3), .val (.int p4), .val (.int (Int32.ofNat f)), .val (.int (Int32.ofNat (f + r))), .val (.int (Int32.ofNat (f + g))), .val (.ref b272), .val (.int (Int32.ofNat a)), .val (.int (Int32.ofNat b)), .val (.int (Int32.ofNat cc)), .val (.int (Int32.ofNat d)), .unset, .unset] [(.int (own_lenOf (Int32.ofNat a)))])) _
        refine XS.istore X288.here hx rfl (hb hby at_122) rfl (l' := #[.val (.long q0), .second, .val (.long q1), .second, .val (.long q2), .second, .val (.int p3), .val (.int p4), .val (.int (Int32.ofNat f)), .val (.int (Int32.ofNat (f + r))), .val (.int (Int32.ofNat (f + g))), .val (.ref b272), .val (.int (Int32.ofNat a)), .val (.int (Int32.ofNat b)), .val (.int (Int32.ofNat cc)), .val (.int (Int32.ofNat d)), .val (.int (own_lenOf (Int32.ofNat a))), .unset]) rfl ?_
        show Steps p.tables e below (T288.setTop (mkF m 124 #[.val (.long q0), .second, .val (.long q1), .second, .val (.long q2), .second, .val (.int p3), .val (.int p4), .val (.int (Int32.ofNat f)), .val (.int (Int32.ofNat (f + r))), .val (.int (Int32.ofNat (f + g))), .val (.ref b272), .val (.int (Int32.ofNat a)), .val (.int (Int32.ofNat b)), .val (.int (Int32.ofNat cc)), .val (.int (Int32.ofNat d)), .val (.int (own_lenOf (Int32.ofNat a))), .unset] [])) _
        refine XS.aload X288.here hx rfl (hb hby at_124) rfl rfl ?_
        show Steps p.tables e below (T288.setTop (mkF m 126 #[.val (.long q0), .second, .val (.long q1), .second, .val (.long q2), .second, .val (.int p3), .val (.int p4), .val (.int (Int32.ofNat f)), .val (.int (Int32.ofNat (f + r))), .val (.int (Int32.ofNat (f + g))), .val (.ref b272), .val (.int (Int32.ofNat a)), .val (.int (Int32.ofNat b)), .val (.int (Int32.ofNat cc)), .val (.int (Int32.ofNat d)), .val (.int (own_lenOf (Int32.ofNat a))), .unset] [(.ref b272)])) _
        refine XS.iload X288.here hx rfl (hb hby at_126) rfl ?_
        show Steps p.tables e below (T288.setTop (mkF m 128 #[.val (.long q0), .second, .val (.long q1), .second, .val (.long q2), .second, .val (.int p3), .val (.int p4), .val (.int (Int32.ofNat f)), .val (.int (Int32.ofNat (f + r))), .val (.int (Int32.ofNat (f + g))), .val (.ref b272), .val (.int (Int32.ofNat a)), .val (.int (Int32.ofNat b)), .val (.int (Int32.ofNat cc)), .val (.int (Int32.ofNat d)), .val (.int (own_lenOf (Int32.ofNat a))), .unset] [(.int (Int32.ofNat (f + r))), (.ref b272)])) _
        refine XS.iload X288.here hx rfl (hb hby at_128) rfl ?_
        show Steps p.tables e below (T288.setTop (mkF m 130 #[.val (.long q0), .second, .val (.long q1), .second, .val (.long q2), .second, .val (.int p3), .val (.int p4), .val (.int (Int32.ofNat f)), .val (.int (Int32.ofNat (f + r))), .val (.int (Int32.ofNat (f + g))), .val (.ref b272), .val (.int (Int32.ofNat a)), .val (.int (Int32.ofNat b)), .val (.int (Int32.ofNat cc)), .val (.int (Int32.ofNat d)), .val (.int (own_lenOf (Int32.ofNat a))), .unset] [(.int (Int32.ofNat a)), (.int (Int32.ofNat (f + r))), (.ref b272)])) _
        refine XS.i2b X288.here hx rfl (hb hby at_130) rfl ?_
        show Steps p.tables e below (T288.setTop (mkF m 131 #[.val (.long q0), .second, .val (.long q1), .second, .val (.long q2), .second, .val (.int p3), .val (.int p4), .val (.int (Int32.ofNat f)), .val (.int (Int32.ofNat (f + r))), .val (.int (Int32.ofNat (f + g))), .val (.ref b272), .val (.int (Int32.ofNat a)), .val (.int (Int32.ofNat b)), .val (.int (Int32.ofNat cc)), .val (.int (Int32.ofNat d)), .val (.int (own_lenOf (Int32.ofNat a))), .unset] [(.int (Int32.ofNat a).toInt8.toInt32), (.int (Int32.ofNat (f + r))), (.ref b272)])) _
        refine st290 _ ?_
        show Steps p.tables e below (T290.setTop (mkF m 132 #[.val (.long q0), .second, .val (.long q1), .second, .val (.long q2), .second, .val (.int p3), .val (.int p4), .val (.int (Int32.ofNat f)), .val (.int (Int32.ofNat (f + r))), .val (.int (Int32.ofNat (f + g))), .val (.ref b272), .val (.int (Int32.ofNat a)), .val (.int (Int32.ofNat b)), .val (.int (Int32.ofNat cc)), .val (.int (Int32.ofNat d)), .val (.int (own_lenOf (Int32.ofNat a))), .unset] [])) _
        refine XS.iload X290.here hx rfl (hb hby at_132) rfl ?_
        show Steps p.tables e below (T290.setTop (mkF m 134 #[.val (.long q0), .second, .val (.long q1), .second, .val (.long q2), .second, .val (.int p3), .val (.int p4), .val (.int (Int32.ofNat f)), .val (.int (Int32.ofNat (f + r))), .val (.int (Int32.ofNat (f + g))), .val (.ref b272), .val (.int (Int32.ofNat a)), .val (.int (Int32.ofNat b)), .val (.int (Int32.ofNat cc)), .val (.int (Int32.ofNat d)), .val (.int (own_lenOf (Int32.ofNat a))), .unset] [(.int (own_lenOf (Int32.ofNat a)))])) _
        refine XS.iconst X290.here hx rfl (hb hby at_134) ?_
        show Steps p.tables e below (T290.setTop (mkF m 135 #[.val (.long q0), .second, .val (.long q1), .second, .val (.long q2), .second, .val (.int p3), .val (.int p4), .val (.int (Int32.ofNat f)), .val (.int (Int32.ofNat (f + r))), .val (.int (Int32.ofNat (f + g))), .val (.ref b272), .val (.int (Int32.ofNat a)), .val (.int (Int32.ofNat b)), .val (.int (Int32.ofNat cc)), .val (.int (Int32.ofNat d)), .val (.int (own_lenOf (Int32.ofNat a))), .unset] [(.int (2 : Int32)), (.int (own_lenOf (Int32.ofNat a)))])) _
        refine XS.icmpNo X290.here hx rfl (hb hby at_135) rfl (flt k2).1 ?_
        show Steps p.tables e below (T290.setTop (mkF m 138 #[.val (.long q0), .second, .val (.long q1), .second, .val (.long q2), .second, .val (.int p3), .val (.int p4), .val (.int (Int32.ofNat f)), .val (.int (Int32.ofNat (f + r))), .val (.int (Int32.ofNat (f + g))), .val (.ref b272), .val (.int (Int32.ofNat a)), .val (.int (Int32.ofNat b)), .val (.int (Int32.ofNat cc)), .val (.int (Int32.ofNat d)), .val (.int (own_lenOf (Int32.ofNat a))), .unset] [])) _
        refine XS.aload X290.here hx rfl (hb hby at_138) rfl rfl ?_
        show Steps p.tables e below (T290.setTop (mkF m 140 #[.val (.long q0), .second, .val (.long q1), .second, .val (.long q2), .second, .val (.int p3), .val (.int p4), .val (.int (Int32.ofNat f)), .val (.int (Int32.ofNat (f + r))), .val (.int (Int32.ofNat (f + g))), .val (.ref b272), .val (.int (Int32.ofNat a)), .val (.int (Int32.ofNat b)), .val (.int (Int32.ofNat cc)), .val (.int (Int32.ofNat d)), .val (.int (own_lenOf (Int32.ofNat a))), .unset] [(.ref b272)])) _
        refine XS.iload X290.here hx rfl (hb hby at_140) rfl ?_
        show Steps p.tables e below (T290.setTop (mkF m 142 #[.val (.long q0), .second, .val (.long q1), .second, .val (.long q2), .second, .val (.int p3), .val (.int p4), .val (.int (Int32.ofNat f)), .val (.int (Int32.ofNat (f + r))), .val (.int (Int32.ofNat (f + g))), .val (.ref b272), .val (.int (Int32.ofNat a)), .val (.int (Int32.ofNat b)), .val (.int (Int32.ofNat cc)), .val (.int (Int32.ofNat d)), .val (.int (own_lenOf (Int32.ofNat a))), .unset] [(.int (Int32.ofNat (f + r))), (.ref b272)])) _
        refine XS.iconst X290.here hx rfl (hb hby at_142) ?_
        show Steps p.tables e below (T290.setTop (mkF m 143 #[.val (.long q0), .second, .val (.long q1), .second, .val (.long q2), .second, .val (.int p3), .val (.int p4), .val (.int (Int32.ofNat f)), .val (.int (Int32.ofNat (f + r))), .val (.int (Int32.ofNat (f + g))), .val (.ref b272), .val (.int (Int32.ofNat a)), .val (.int (Int32.ofNat b)), .val (.int (Int32.ofNat cc)), .val (.int (Int32.ofNat d)), .val (.int (own_lenOf (Int32.ofNat a))), .unset] [(.int (1 : Int32)), (.int (Int32.ofNat (f + r))), (.ref b272)])) _
        refine XS.iadd X290.here hx rfl (hb hby at_143) rfl ?_
        show Steps p.tables e below (T290.setTop (mkF m 144 #[.val (.long q0), .second, .val (.long q1), .second, .val (.long q2), .second, .val (.int p3), .val (.int p4), .val (.int (Int32.ofNat f)), .val (.int (Int32.ofNat (f + r))), .val (.int (Int32.ofNat (f + g))), .val (.ref b272), .val (.int (Int32.ofNat a)), .val (.int (Int32.ofNat b)), .val (.int (Int32.ofNat cc)), .val (.int (Int32.ofNat d)), .val (.int (own_lenOf (Int32.ofNat a))), .unset] [(.int ((Int32.ofNat (f + r)) + (1 : Int32))), (.ref b272)])) _
        refine XS.iload X290.here hx rfl (hb hby at_144) rfl ?_
        show Steps p.tables e below (T290.setTop (mkF m 146 #[.val (.long q0), .second, .val (.long q1), .second, .val (.long q2), .second, .val (.int p3), .val (.int p4), .val (.int (Int32.ofNat f)), .val (.int (Int32.ofNat (f + r))), .val (.int (Int32.ofNat (f + g))), .val (.ref b272), .val (.int (Int32.ofNat a)), .val (.int (Int32.ofNat b)), .val (.int (Int32.ofNat cc)), .val (.int (Int32.ofNat d)), .val (.int (own_lenOf (Int32.ofNat a))), .unset] [(.int (Int32.ofNat b)), (.int ((Int32.ofNat (f + r)) + (1 : Int32))), (.ref b272)])) _
        refine XS.i2b X290.here hx rfl (hb hby at_146) rfl ?_
        show Steps p.tables e below (T290.setTop (mkF m 147 #[.val (.long q0), .second, .val (.long q1), .second, .val (.long q2), .second, .val (.int p3), .val (.int p4), .val (.int (Int32.ofNat f)), .val (.int (Int32.ofNat (f + r))), .val (.int (Int32.ofNat (f + g))), .val (.ref b272), .val (.int (Int32.ofNat a)), .val (.int (Int32.ofNat b)), .val (.int (Int32.ofNat cc)), .val (.int (Int32.ofNat d)), .val (.int (own_lenOf (Int32.ofNat a))), .unset] [(.int (Int32.ofNat b).toInt8.toInt32), (.int ((Int32.ofNat (f + r)) + (1 : Int32))), (.ref b272)])) _
        refine st295 _ ?_
        show Steps p.tables e below (T295.setTop (mkF m 148 #[.val (.long q0), .second, .val (.long q1), .second, .val (.long q2), .second, .val (.int p3), .val (.int p4), .val (.int (Int32.ofNat f)), .val (.int (Int32.ofNat (f + r))), .val (.int (Int32.ofNat (f + g))), .val (.ref b272), .val (.int (Int32.ofNat a)), .val (.int (Int32.ofNat b)), .val (.int (Int32.ofNat cc)), .val (.int (Int32.ofNat d)), .val (.int (own_lenOf (Int32.ofNat a))), .unset] [])) _
        refine XS.iload X295.here hx rfl (hb hby at_148) rfl ?_
        show Steps p.tables e below (T295.setTop (mkF m 150 #[.val (.long q0), .second, .val (.long q1), .second, .val (.long q2), .second, .val (.int p3), .val (.int p4), .val (.int (Int32.ofNat f)), .val (.int (Int32.ofNat (f + r))), .val (.int (Int32.ofNat (f + g))), .val (.ref b272), .val (.int (Int32.ofNat a)), .val (.int (Int32.ofNat b)), .val (.int (Int32.ofNat cc)), .val (.int (Int32.ofNat d)), .val (.int (own_lenOf (Int32.ofNat a))), .unset] [(.int (own_lenOf (Int32.ofNat a)))])) _
        refine XS.iconst X295.here hx rfl (hb hby at_150) ?_
        show Steps p.tables e below (T295.setTop (mkF m 151 #[.val (.long q0), .second, .val (.long q1), .second, .val (.long q2), .second, .val (.int p3), .val (.int p4), .val (.int (Int32.ofNat f)), .val (.int (Int32.ofNat (f + r))), .val (.int (Int32.ofNat (f + g))), .val (.ref b272), .val (.int (Int32.ofNat a)), .val (.int (Int32.ofNat b)), .val (.int (Int32.ofNat cc)), .val (.int (Int32.ofNat d)), .val (.int (own_lenOf (Int32.ofNat a))), .unset] [(.int (3 : Int32)), (.int (own_lenOf (Int32.ofNat a)))])) _
        refine XS.icmpYes X295.here hx rfl (pc0 := 151) (pc' := 164) rfl (hb hby at_151) rfl (tlt k3).1 (by decide) (by decide) ?_
        show Steps p.tables e below (T295.setTop (mkF m 164 #[.val (.long q0), .second, .val (.long q1), .second, .val (.long q2), .second, .val (.int p3), .val (.int p4), .val (.int (Int32.ofNat f)), .val (.int (Int32.ofNat (f + r))), .val (.int (Int32.ofNat (f + g))), .val (.ref b272), .val (.int (Int32.ofNat a)), .val (.int (Int32.ofNat b)), .val (.int (Int32.ofNat cc)), .val (.int (Int32.ofNat d)), .val (.int (own_lenOf (Int32.ofNat a))), .unset] [])) _
        refine XS.iload X295.here hx rfl (hb hby at_164) rfl ?_
        show Steps p.tables e below (T295.setTop (mkF m 166 #[.val (.long q0), .second, .val (.long q1), .second, .val (.long q2), .second, .val (.int p3), .val (.int p4), .val (.int (Int32.ofNat f)), .val (.int (Int32.ofNat (f + r))), .val (.int (Int32.ofNat (f + g))), .val (.ref b272), .val (.int (Int32.ofNat a)), .val (.int (Int32.ofNat b)), .val (.int (Int32.ofNat cc)), .val (.int (Int32.ofNat d)), .val (.int (own_lenOf (Int32.ofNat a))), .unset] [(.int (own_lenOf (Int32.ofNat a)))])) _
        refine XS.iconst X295.here hx rfl (hb hby at_166) ?_
        show Steps p.tables e below (T295.setTop (mkF m 167 #[.val (.long q0), .second, .val (.long q1), .second, .val (.long q2), .second, .val (.int p3), .val (.int p4), .val (.int (Int32.ofNat f)), .val (.int (Int32.ofNat (f + r))), .val (.int (Int32.ofNat (f + g))), .val (.ref b272), .val (.int (Int32.ofNat a)), .val (.int (Int32.ofNat b)), .val (.int (Int32.ofNat cc)), .val (.int (Int32.ofNat d)), .val (.int (own_lenOf (Int32.ofNat a))), .unset] [(.int (4 : Int32)), (.int (own_lenOf (Int32.ofNat a)))])) _
        refine XS.icmpYes X295.here hx rfl (pc0 := 167) (pc' := 180) rfl (hb hby at_167) rfl (tlt (by rw [Int32.lt_iff_toInt_lt, show (own_lenOf (Int32.ofNat a)).toInt = 2 from by rw [hLn]; rfl]; decide)).1 (by decide) (by decide) ?_
        show Steps p.tables e below (T295.setTop (mkF m 180 #[.val (.long q0), .second, .val (.long q1), .second, .val (.long q2), .second, .val (.int p3), .val (.int p4), .val (.int (Int32.ofNat f)), .val (.int (Int32.ofNat (f + r))), .val (.int (Int32.ofNat (f + g))), .val (.ref b272), .val (.int (Int32.ofNat a)), .val (.int (Int32.ofNat b)), .val (.int (Int32.ofNat cc)), .val (.int (Int32.ofNat d)), .val (.int (own_lenOf (Int32.ofNat a))), .unset] [])) _
        refine stz _ ?_
        show Steps p.tables e below (Tz.setTop (mkF m 255 #[.val (.long q0), .second, .val (.long q1), .second, .val (.long q2), .second, .val (.int p3), .val (.int p4), .val (.int (Int32.ofNat f)), .val (.int (Int32.ofNat (f + r))), .val (.int (Int32.ofNat (f + g))), .val (.ref b272), .val (.int (Int32.ofNat a)), .val (.int (Int32.ofNat b)), .val (.int (Int32.ofNat cc)), .val (.int (Int32.ofNat d)), .val (.int (own_lenOf (Int32.ofNat a))), s17] [(.int (1 : Int32))])) _
        exact retN Xz hx (t := .boolean) Bd.returns (by simp) (hb hby at_255) hr
      · show Qrm0 Z q0 q1 q2 p3 p4 h0 n0 _ Tz.heap _
        exact ⟨rfl, Nz⟩
    · obtain ⟨c300, r300, q300, s300, n300, H300, G300⟩ := id f299
      have i300 : ¬ (((Int32.ofNat (f + r)) + (2 : Int32)) < 0 ∨ c300.slots.size ≤ (((Int32.ofNat (f + r)) + (2 : Int32))).toNatClampNeg) := inb_of s300 ⟨by rw [Int32.lt_iff_toInt_lt, eq2]; show ¬ (_ < (0 : Int)); omega, by rw [Int32.lt_iff_toInt_lt, eq2]; show _ < (24 : Int); omega⟩
      obtain ⟨T300, h300, X300, e300, W300, st300⟩ := stB X295 hx hZ e295 r300 (j := ((Int32.ofNat (f + r)) + (2 : Int32))) i300 (g := (mkF m 163 #[.val (.long q0), .second, .val (.long q1), .second, .val (.long q2), .second, .val (.int p3), .val (.int p4), .val (.int (Int32.ofNat f)), .val (.int (Int32.ofNat (f + r))), .val (.int (Int32.ofNat (f + g))), .val (.ref b272), .val (.int (Int32.ofNat a)), .val (.int (Int32.ofNat b)), .val (.int (Int32.ofNat cc)), .val (.int (Int32.ofNat d)), .val (.int (own_lenOf (Int32.ofNat a))), .unset] [(.int (Int32.ofNat cc).toInt8.toInt32), (.int ((Int32.ofNat (f + r)) + (2 : Int32))), (.ref b272)])) rfl rfl (hb hby at_163)
      have f301 := Arv.set r300 q300 s300 n300 H300 G300 (fits_nar_byte _) W300 (f + r + 2) (by show Int.toNat _ = _; rw [eq2]; omega) (by simp only [List.length_map, List.length_set, own_U_len]; omega)
      have Zn302 := Nat.le_trans Zn297 (Keep.of_wr W300).1
      have N303 := Fr.snoc X300 N298 g273
      have f304 : Arv Z h300 b272 k272 .byte (24 : Int32) (((((own_U q0 q1 q2 (Int32.ofNat f) (Int32.ofNat (f + g))).set (f + r) (nar .byte (Int32.ofNat a).toInt8.toInt32)).set (f + r + 1) (nar .byte (Int32.ofNat b).toInt8.toInt32)).set (f + r + 2) (nar .byte (Int32.ofNat cc).toInt8.toInt32)).map Value.int) (.int (0 : Int32)) := own_map_set ▸ f301
      by_cases k4 : (own_lenOf (Int32.ofNat a)) < (4 : Int32)
      · have hLn : own_lenOf (Int32.ofNat a) = (3 : Int32) := Int32.toInt_inj.mp (by have z0 : ¬ ((own_lenOf (Int32.ofNat a)).toInt < 3) := (by have := k3; rw [Int32.lt_iff_toInt_lt] at this; exact this); have z1 : (own_lenOf (Int32.ofNat a)).toInt < 4 := (by have := k4; rw [Int32.lt_iff_toInt_lt] at this; exact this); show _ = (3 : Int); omega)
        obtain ⟨Tz, lcz, s17, Xz, Nz, stz⟩ := tl0 X300 hx hZ hw hby hml hown e300 N303 Zn302 f304 (own_sm_n (by omega)) (own_sm_n hg) (own_hl3 hf3 hr15 hg hlt_a hlt_b hlt_cc hlt_d hLn)
        obtain ⟨fs, hr, hrun, hended, hW, hsame⟩ := Xz.leave (v := some (.int (1 : Int32))) (fun h => by rw [Bd.returns] at h; cases h)
        refine ⟨_, _, pre0 _ ?_, hrun, hended, _, _, rfl, ?_, ⟨_, rfl⟩, hW, hsame.mono (by decide) (by decide)⟩
        · show Steps p.tables e below (s₁.setTop (mkF m 0 #[.val (.long q0), .second, .val (.long q1), .second, .val (.long q2), .second, .val (.int p3), .val (.int p4), .unset, .unset, .unset, .unset, .unset, .unset, .unset, .unset, .unset, .unset] [])) _
          refine XS.iload X0.here hx rfl (hb hby at_0) rfl ?_
          show Steps p.tables e below (s₁.setTop (mkF m 2 #[.val (.long q0), .second, .val (.long q1), .second, .val (.long q2), .second, .val (.int p3), .val (.int p4), .unset, .unset, .unset, .unset, .unset, .unset, .unset, .unset, .unset, .unset] [(.int p4)])) _
          refine XS.iconst X0.here hx rfl (hb hby at_2) ?_
          show Steps p.tables e below (s₁.setTop (mkF m 3 #[.val (.long q0), .second, .val (.long q1), .second, .val (.long q2), .second, .val (.int p3), .val (.int p4), .unset, .unset, .unset, .unset, .unset, .unset, .unset, .unset, .unset, .unset] [(.int (3 : Int32)), (.int p4)])) _
          refine XS.iand X0.here hx rfl (hb hby at_3) rfl ?_
          show Steps p.tables e below (s₁.setTop (mkF m 4 #[.val (.long q0), .second, .val (.long q1), .second, .val (.long q2), .second, .val (.int p3), .val (.int p4), .unset, .unset, .unset, .unset, .unset, .unset, .unset, .unset, .unset, .unset] [(.int (p4 &&& (3 : Int32)))])) _
          rw [ef]
          show Steps p.tables e below (s₁.setTop (mkF m 4 #[.val (.long q0), .second, .val (.long q1), .second, .val (.long q2), .second, .val (.int p3), .val (.int p4), .unset, .unset, .unset, .unset, .unset, .unset, .unset, .unset, .unset, .unset] [(.int (Int32.ofNat f))])) _
          refine XS.istore X0.here hx rfl (hb hby at_4) rfl (l' := #[.val (.long q0), .second, .val (.long q1), .second, .val (.long q2), .second, .val (.int p3), .val (.int p4), .val (.int (Int32.ofNat f)), .unset, .unset, .unset, .unset, .unset, .unset, .unset, .unset, .unset]) rfl ?_
          show Steps p.tables e below (s₁.setTop (mkF m 6 #[.val (.long q0), .second, .val (.long q1), .second, .val (.long q2), .second, .val (.int p3), .val (.int p4), .val (.int (Int32.ofNat f)), .unset, .unset, .unset, .unset, .unset, .unset, .unset, .unset, .unset] [])) _
          refine XS.iload X0.here hx rfl (hb hby at_6) rfl ?_
          show Steps p.tables e below (s₁.setTop (mkF m 8 #[.val (.long q0), .second, .val (.long q1), .second, .val (.long q2), .second, .val (.int p3), .val (.int p4), .val (.int (Int32.ofNat f)), .unset, .unset, .unset, .unset, .unset, .unset, .unset, .unset, .unset] [(.int (Int32.ofNat f))])) _
          refine XS.iload X0.here hx rfl (hb hby at_8) rfl ?_
          show Steps p.tables e below (s₁.setTop (mkF m 10 #[.val (.long q0), .second, .val (.long q1), .second, .val (.long q2), .second, .val (.int p3), .val (.int p4), .val (.int (Int32.ofNat f)), .unset, .unset, .unset, .unset, .unset, .unset, .unset, .unset, .unset] [(.int p4), (.int (Int32.ofNat f))])) _
          refine XS.iconst X0.here hx rfl (hb hby at_10) ?_
          show Steps p.tables e below (s₁.setTop (mkF m 11 #[.val (.long q0), .second, .val (.long q1), .second, .val (.long q2), .second, .val (.int p3), .val (.int p4), .val (.int (Int32.ofNat f)), .unset, .unset, .unset, .unset, .unset, .unset, .unset, .unset, .unset] [(.int (2 : Int32)), (.int p4), (.int (Int32.ofNat f))])) _
          refine XS.iushr X0.here hx rfl (hb hby at_11) rfl ?_
          show Steps p.tables e below (s₁.setTop (mkF m 12 #[.val (.long q0), .second, .val (.long q1), .second, .val (.long q2), .second, .val (.int p3), .val (.int p4), .val (.int (Int32.ofNat f)), .unset, .unset, .unset, .unset, .unset, .unset, .unset, .unset, .unset] [(.int ((p4.toUInt32 >>> ((2 : Int32) &&& 31).toUInt32).toInt32)), (.int (Int32.ofNat f))])) _
          refine XS.bipush X0.here hx rfl (hb hby at_12) ?_
          show Steps p.tables e below (s₁.setTop (mkF m 14 #[.val (.long q0), .second, .val (.long q1), .second, .val (.long q2), .second, .val (.int p3), .val (.int p4), .val (.int (Int32.ofNat f)), .unset, .unset, .unset, .unset, .unset, .unset, .unset, .unset, .unset] [(.int (15 : Int32)), (.int ((p4.toUInt32 >>> ((2 : Int32) &&& 31).toUInt32).toInt32)), (.int (Int32.ofNat f))])) _
          refine XS.iand X0.here hx rfl (hb hby at_14) rfl ?_
          show Steps p.tables e below (s₁.setTop (mkF m 15 #[.val (.long q0), .second, .val (.long q1), .second, .val (.long q2), .second, .val (.int p3), .val (.int p4), .val (.int (Int32.ofNat f)), .unset, .unset, .unset, .unset, .unset, .unset, .unset, .unset, .unset] [(.int (((p4.toUInt32 >>> ((2 : Int32) &&& 31).toUInt32).toInt32) &&& (15 : Int32))), (.int (Int32.ofNat f))])) _
          rw [er]
          show Steps p.tables e below (s₁.setTop (mkF m 15 #[.val (.long q0), .second, .val (.long q1), .second, .val (.long q2), .second, .val (.int p3), .val (.int p4), .val (.int (Int32.ofNat f)), .unset, .unset, .unset, .unset, .unset, .unset, .unset, .unset, .unset] [(.int (Int32.ofNat r)), (.int (Int32.ofNat f))])) _
          refine XS.iadd X0.here hx rfl (hb hby at_15) rfl ?_
          show Steps p.tables e below (s₁.setTop (mkF m 16 #[.val (.long q0), .second, .val (.long q1), .second, .val (.long q2), .second, .val (.int p3), .val (.int p4), .val (.int (Int32.ofNat f)), .unset, .unset, .unset, .unset, .unset, .unset, .unset, .unset, .unset] [(.int ((Int32.ofNat f) + (Int32.ofNat r)))])) _
          rw [own_nadd f r]
          show Steps p.tables e below (s₁.setTop (mkF m 16 #[.val (.long q0), .second, .val (.long q1), .second, .val (.long q2), .second, .val (.int p3), .val (.int p4), .val (.int (Int32.ofNat f)), .unset, .unset, .unset, .unset, .unset, .unset, .unset, .unset, .unset] [(.int (Int32.ofNat (f + r)))])) _
          refine XS.istore X0.here hx rfl (hb hby at_16) rfl (l' := #[.val (.long q0), .second, .val (.long q1), .second, .val (.long q2), .second, .val (.int p3), .val (.int p4), .val (.int (Int32.ofNat f)), .val (.int (Int32.ofNat (f + r))), .unset, .unset, .unset, .unset, .unset, .unset, .unset, .unset]) rfl ?_
          show Steps p.tables e below (s₁.setTop (mkF m 18 #[.val (.long q0), .second, .val (.long q1), .second, .val (.long q2), .second, .val (.int p3), .val (.int p4), .val (.int (Int32.ofNat f)), .val (.int (Int32.ofNat (f + r))), .unset, .unset, .unset, .unset, .unset, .unset, .unset, .unset] [])) _
          refine XS.iload X0.here hx rfl (hb hby at_18) rfl ?_
          show Steps p.tables e below (s₁.setTop (mkF m 20 #[.val (.long q0), .second, .val (.long q1), .second, .val (.long q2), .second, .val (.int p3), .val (.int p4), .val (.int (Int32.ofNat f)), .val (.int (Int32.ofNat (f + r))), .unset, .unset, .unset, .unset, .unset, .unset, .unset, .unset] [(.int (Int32.ofNat f))])) _
          refine XS.iload X0.here hx rfl (hb hby at_20) rfl ?_
          show Steps p.tables e below (s₁.setTop (mkF m 22 #[.val (.long q0), .second, .val (.long q1), .second, .val (.long q2), .second, .val (.int p3), .val (.int p4), .val (.int (Int32.ofNat f)), .val (.int (Int32.ofNat (f + r))), .unset, .unset, .unset, .unset, .unset, .unset, .unset, .unset] [(.int p4), (.int (Int32.ofNat f))])) _
          refine XS.bipush X0.here hx rfl (hb hby at_22) ?_
          show Steps p.tables e below (s₁.setTop (mkF m 24 #[.val (.long q0), .second, .val (.long q1), .second, .val (.long q2), .second, .val (.int p3), .val (.int p4), .val (.int (Int32.ofNat f)), .val (.int (Int32.ofNat (f + r))), .unset, .unset, .unset, .unset, .unset, .unset, .unset, .unset] [(.int (6 : Int32)), (.int p4), (.int (Int32.ofNat f))])) _
          refine XS.iushr X0.here hx rfl (hb hby at_24) rfl ?_
          show Steps p.tables e below (s₁.setTop (mkF m 25 #[.val (.long q0), .second, .val (.long q1), .second, .val (.long q2), .second, .val (.int p3), .val (.int p4), .val (.int (Int32.ofNat f)), .val (.int (Int32.ofNat (f + r))), .unset, .unset, .unset, .unset, .unset, .unset, .unset, .unset] [(.int ((p4.toUInt32 >>> ((6 : Int32) &&& 31).toUInt32).toInt32)), (.int (Int32.ofNat f))])) _
          rw [eu]
          show Steps p.tables e below (s₁.setTop (mkF m 25 #[.val (.long q0), .second, .val (.long q1), .second, .val (.long q2), .second, .val (.int p3), .val (.int p4), .val (.int (Int32.ofNat f)), .val (.int (Int32.ofNat (f + r))), .unset, .unset, .unset, .unset, .unset, .unset, .unset, .unset] [(.int (Int32.ofNat u)), (.int (Int32.ofNat f))])) _
          refine XS.bipush X0.here hx rfl (hb hby at_25) ?_
          show Steps p.tables e below (s₁.setTop (mkF m 27 #[.val (.long q0), .second, .val (.long q1), .second, .val (.long q2), .second, .val (.int p3), .val (.int p4), .val (.int (Int32.ofNat f)), .val (.int (Int32.ofNat (f + r))), .unset, .unset, .unset, .unset, .unset, .unset, .unset, .unset] [(.int (25 : Int32)), (.int (Int32.ofNat u)), (.int (Int32.ofNat f))])) _
          refine XS.iload X0.here hx rfl (hb hby at_27) rfl ?_
          show Steps p.tables e below (s₁.setTop (mkF m 29 #[.val (.long q0), .second, .val (.long q1), .second, .val (.long q2), .second, .val (.int p3), .val (.int p4), .val (.int (Int32.ofNat f)), .val (.int (Int32.ofNat (f + r))), .unset, .unset, .unset, .unset, .unset, .unset, .unset, .unset] [(.int (Int32.ofNat f)), (.int (25 : Int32)), (.int (Int32.ofNat u)), (.int (Int32.ofNat f))])) _
          refine XS.isub X0.here hx rfl (hb hby at_29) rfl ?_
          show Steps p.tables e below (s₁.setTop (mkF m 30 #[.val (.long q0), .second, .val (.long q1), .second, .val (.long q2), .second, .val (.int p3), .val (.int p4), .val (.int (Int32.ofNat f)), .val (.int (Int32.ofNat (f + r))), .unset, .unset, .unset, .unset, .unset, .unset, .unset, .unset] [(.int ((25 : Int32) - (Int32.ofNat f))), (.int (Int32.ofNat u)), (.int (Int32.ofNat f))])) _
          rw [e25]
          show Steps p.tables e below (s₁.setTop (mkF m 30 #[.val (.long q0), .second, .val (.long q1), .second, .val (.long q2), .second, .val (.int p3), .val (.int p4), .val (.int (Int32.ofNat f)), .val (.int (Int32.ofNat (f + r))), .unset, .unset, .unset, .unset, .unset, .unset, .unset, .unset] [(.int (Int32.ofNat (25 - f))), (.int (Int32.ofNat u)), (.int (Int32.ofNat f))])) _
          refine XS.irem X0.here hx rfl (hb hby at_30) rfl (fun z => by have := (own_neq (a := 25 - f) (b := 0) (by omega) (by omega)).mp z; omega) ?_
          show Steps p.tables e below (s₁.setTop (mkF m 31 #[.val (.long q0), .second, .val (.long q1), .second, .val (.long q2), .second, .val (.int p3), .val (.int p4), .val (.int (Int32.ofNat f)), .val (.int (Int32.ofNat (f + r))), .unset, .unset, .unset, .unset, .unset, .unset, .unset, .unset] [(.int ((Int32.ofNat u) - (Int32.ofNat u) / (Int32.ofNat (25 - f)) * (Int32.ofNat (25 - f)))), (.int (Int32.ofNat f))])) _
          rw [eg]
          show Steps p.tables e below (s₁.setTop (mkF m 31 #[.val (.long q0), .second, .val (.long q1), .second, .val (.long q2), .second, .val (.int p3), .val (.int p4), .val (.int (Int32.ofNat f)), .val (.int (Int32.ofNat (f + r))), .unset, .unset, .unset, .unset, .unset, .unset, .unset, .unset] [(.int (Int32.ofNat g)), (.int (Int32.ofNat f))])) _
          refine XS.iadd X0.here hx rfl (hb hby at_31) rfl ?_
          show Steps p.tables e below (s₁.setTop (mkF m 32 #[.val (.long q0), .second, .val (.long q1), .second, .val (.long q2), .second, .val (.int p3), .val (.int p4), .val (.int (Int32.ofNat f)), .val (.int (Int32.ofNat (f + r))), .unset, .unset, .unset, .unset, .unset, .unset, .unset, .unset] [(.int ((Int32.ofNat f) + (Int32.ofNat g)))])) _
          rw [own_nadd f g]
          show Steps p.tables e below (s₁.setTop (mkF m 32 #[.val (.long q0), .second, .val (.long q1), .second, .val (.long q2), .second, .val (.int p3), .val (.int p4), .val (.int (Int32.ofNat f)), .val (.int (Int32.ofNat (f + r))), .unset, .unset, .unset, .unset, .unset, .unset, .unset, .unset] [(.int (Int32.ofNat (f + g)))])) _
          refine XS.istore X0.here hx rfl (hb hby at_32) rfl (l' := #[.val (.long q0), .second, .val (.long q1), .second, .val (.long q2), .second, .val (.int p3), .val (.int p4), .val (.int (Int32.ofNat f)), .val (.int (Int32.ofNat (f + r))), .val (.int (Int32.ofNat (f + g))), .unset, .unset, .unset, .unset, .unset, .unset, .unset]) rfl ?_
          show Steps p.tables e below (s₁.setTop (mkF m 34 #[.val (.long q0), .second, .val (.long q1), .second, .val (.long q2), .second, .val (.int p3), .val (.int p4), .val (.int (Int32.ofNat f)), .val (.int (Int32.ofNat (f + r))), .val (.int (Int32.ofNat (f + g))), .unset, .unset, .unset, .unset, .unset, .unset, .unset] [])) _
          refine XS.bipush X0.here hx rfl (hb hby at_34) ?_
          show Steps p.tables e below (s₁.setTop (mkF m 36 #[.val (.long q0), .second, .val (.long q1), .second, .val (.long q2), .second, .val (.int p3), .val (.int p4), .val (.int (Int32.ofNat f)), .val (.int (Int32.ofNat (f + r))), .val (.int (Int32.ofNat (f + g))), .unset, .unset, .unset, .unset, .unset, .unset, .unset] [(.int (24 : Int32))])) _
          refine st272 _ ?_
          show Steps p.tables e below (T272.setTop (mkF m 38 #[.val (.long q0), .second, .val (.long q1), .second, .val (.long q2), .second, .val (.int p3), .val (.int p4), .val (.int (Int32.ofNat f)), .val (.int (Int32.ofNat (f + r))), .val (.int (Int32.ofNat (f + g))), .unset, .unset, .unset, .unset, .unset, .unset, .unset] [(.ref b272)])) _
          refine XS.astore X272.here hx rfl (hb hby at_38) rfl rfl (l' := #[.val (.long q0), .second, .val (.long q1), .second, .val (.long q2), .second, .val (.int p3), .val (.int p4), .val (.int (Int32.ofNat f)), .val (.int (Int32.ofNat (f + r))), .val (.int (Int32.ofNat (f + g))), .val (.ref b272), .unset, .unset, .unset, .unset, .unset, .unset]) rfl ?_
          show Steps p.tables e below (T272.setTop (mkF m 40 #[.val (.long q0), .second, .val (.long q1), .second, .val (.long q2), .second, .val (.int p3), .val (.int p4), .val (.int (Int32.ofNat f)), .val (.int (Int32.ofNat (f + r))), .val (.int (Int32.ofNat (f + g))), .val (.ref b272), .unset, .unset, .unset, .unset, .unset, .unset] [])) _
          refine XS.aload X272.here hx rfl (hb hby at_40) rfl rfl ?_
          show Steps p.tables e below (T272.setTop (mkF m 42 #[.val (.long q0), .second, .val (.long q1), .second, .val (.long q2), .second, .val (.int p3), .val (.int p4), .val (.int (Int32.ofNat f)), .val (.int (Int32.ofNat (f + r))), .val (.int (Int32.ofNat (f + g))), .val (.ref b272), .unset, .unset, .unset, .unset, .unset, .unset] [(.ref b272)])) _
          refine XS.iconst X272.here hx rfl (hb hby at_42) ?_
          show Steps p.tables e below (T272.setTop (mkF m 43 #[.val (.long q0), .second, .val (.long q1), .second, .val (.long q2), .second, .val (.int p3), .val (.int p4), .val (.int (Int32.ofNat f)), .val (.int (Int32.ofNat (f + r))), .val (.int (Int32.ofNat (f + g))), .val (.ref b272), .unset, .unset, .unset, .unset, .unset, .unset] [(.int (0 : Int32)), (.ref b272)])) _
          refine XS.lloadN X272.here hx rfl (hb hby at_43) rfl ?_
          show Steps p.tables e below (T272.setTop (mkF m 44 #[.val (.long q0), .second, .val (.long q1), .second, .val (.long q2), .second, .val (.int p3), .val (.int p4), .val (.int (Int32.ofNat f)), .val (.int (Int32.ofNat (f + r))), .val (.int (Int32.ofNat (f + g))), .val (.ref b272), .unset, .unset, .unset, .unset, .unset, .unset] [(.long q0), (.int (0 : Int32)), (.ref b272)])) _
          refine XS.iload X272.here hx rfl (hb hby at_44) rfl ?_
          show Steps p.tables e below (T272.setTop (mkF m 46 #[.val (.long q0), .second, .val (.long q1), .second, .val (.long q2), .second, .val (.int p3), .val (.int p4), .val (.int (Int32.ofNat f)), .val (.int (Int32.ofNat (f + r))), .val (.int (Int32.ofNat (f + g))), .val (.ref b272), .unset, .unset, .unset, .unset, .unset, .unset] [(.int (Int32.ofNat f)), (.long q0), (.int (0 : Int32)), (.ref b272)])) _
          refine XS.iload X272.here hx rfl (hb hby at_46) rfl ?_
          show Steps p.tables e below (T272.setTop (mkF m 48 #[.val (.long q0), .second, .val (.long q1), .second, .val (.long q2), .second, .val (.int p3), .val (.int p4), .val (.int (Int32.ofNat f)), .val (.int (Int32.ofNat (f + r))), .val (.int (Int32.ofNat (f + g))), .val (.ref b272), .unset, .unset, .unset, .unset, .unset, .unset] [(.int (Int32.ofNat (f + g))), (.int (Int32.ofNat f)), (.long q0), (.int (0 : Int32)), (.ref b272)])) _
          refine st278 _ ?_
          show Steps p.tables e below (T278.setTop (mkF m 51 #[.val (.long q0), .second, .val (.long q1), .second, .val (.long q2), .second, .val (.int p3), .val (.int p4), .val (.int (Int32.ofNat f)), .val (.int (Int32.ofNat (f + r))), .val (.int (Int32.ofNat (f + g))), .val (.ref b272), .unset, .unset, .unset, .unset, .unset, .unset] [])) _
          refine XS.aload X278.here hx rfl (hb hby at_51) rfl rfl ?_
          show Steps p.tables e below (T278.setTop (mkF m 53 #[.val (.long q0), .second, .val (.long q1), .second, .val (.long q2), .second, .val (.int p3), .val (.int p4), .val (.int (Int32.ofNat f)), .val (.int (Int32.ofNat (f + r))), .val (.int (Int32.ofNat (f + g))), .val (.ref b272), .unset, .unset, .unset, .unset, .unset, .unset] [(.ref b272)])) _
          refine XS.bipush X278.here hx rfl (hb hby at_53) ?_
          show Steps p.tables e below (T278.setTop (mkF m 55 #[.val (.long q0), .second, .val (.long q1), .second, .val (.long q2), .second, .val (.int p3), .val (.int p4), .val (.int (Int32.ofNat f)), .val (.int (Int32.ofNat (f + r))), .val (.int (Int32.ofNat (f + g))), .val (.ref b272), .unset, .unset, .unset, .unset, .unset, .unset] [(.int (8 : Int32)), (.ref b272)])) _
          refine XS.lloadN X278.here hx rfl (hb hby at_55) rfl ?_
          show Steps p.tables e below (T278.setTop (mkF m 56 #[.val (.long q0), .second, .val (.long q1), .second, .val (.long q2), .second, .val (.int p3), .val (.int p4), .val (.int (Int32.ofNat f)), .val (.int (Int32.ofNat (f + r))), .val (.int (Int32.ofNat (f + g))), .val (.ref b272), .unset, .unset, .unset, .unset, .unset, .unset] [(.long q1), (.int (8 : Int32)), (.ref b272)])) _
          refine XS.iload X278.here hx rfl (hb hby at_56) rfl ?_
          show Steps p.tables e below (T278.setTop (mkF m 58 #[.val (.long q0), .second, .val (.long q1), .second, .val (.long q2), .second, .val (.int p3), .val (.int p4), .val (.int (Int32.ofNat f)), .val (.int (Int32.ofNat (f + r))), .val (.int (Int32.ofNat (f + g))), .val (.ref b272), .unset, .unset, .unset, .unset, .unset, .unset] [(.int (Int32.ofNat f)), (.long q1), (.int (8 : Int32)), (.ref b272)])) _
          refine XS.iload X278.here hx rfl (hb hby at_58) rfl ?_
          show Steps p.tables e below (T278.setTop (mkF m 60 #[.val (.long q0), .second, .val (.long q1), .second, .val (.long q2), .second, .val (.int p3), .val (.int p4), .val (.int (Int32.ofNat f)), .val (.int (Int32.ofNat (f + r))), .val (.int (Int32.ofNat (f + g))), .val (.ref b272), .unset, .unset, .unset, .unset, .unset, .unset] [(.int (Int32.ofNat (f + g))), (.int (Int32.ofNat f)), (.long q1), (.int (8 : Int32)), (.ref b272)])) _
          refine st281 _ ?_
          show Steps p.tables e below (T281.setTop (mkF m 63 #[.val (.long q0), .second, .val (.long q1), .second, .val (.long q2), .second, .val (.int p3), .val (.int p4), .val (.int (Int32.ofNat f)), .val (.int (Int32.ofNat (f + r))), .val (.int (Int32.ofNat (f + g))), .val (.ref b272), .unset, .unset, .unset, .unset, .unset, .unset] [])) _
          refine XS.aload X281.here hx rfl (hb hby at_63) rfl rfl ?_
          show Steps p.tables e below (T281.setTop (mkF m 65 #[.val (.long q0), .second, .val (.long q1), .second, .val (.long q2), .second, .val (.int p3), .val (.int p4), .val (.int (Int32.ofNat f)), .val (.int (Int32.ofNat (f + r))), .val (.int (Int32.ofNat (f + g))), .val (.ref b272), .unset, .unset, .unset, .unset, .unset, .unset] [(.ref b272)])) _
          refine XS.bipush X281.here hx rfl (hb hby at_65) ?_
          show Steps p.tables e below (T281.setTop (mkF m 67 #[.val (.long q0), .second, .val (.long q1), .second, .val (.long q2), .second, .val (.int p3), .val (.int p4), .val (.int (Int32.ofNat f)), .val (.int (Int32.ofNat (f + r))), .val (.int (Int32.ofNat (f + g))), .val (.ref b272), .unset, .unset, .unset, .unset, .unset, .unset] [(.int (16 : Int32)), (.ref b272)])) _
          refine XS.lload X281.here hx rfl (hb hby at_67) rfl ?_
          show Steps p.tables e below (T281.setTop (mkF m 69 #[.val (.long q0), .second, .val (.long q1), .second, .val (.long q2), .second, .val (.int p3), .val (.int p4), .val (.int (Int32.ofNat f)), .val (.int (Int32.ofNat (f + r))), .val (.int (Int32.ofNat (f + g))), .val (.ref b272), .unset, .unset, .unset, .unset, .unset, .unset] [(.long q2), (.int (16 : Int32)), (.ref b272)])) _
          refine XS.iload X281.here hx rfl (hb hby at_69) rfl ?_
          show Steps p.tables e below (T281.setTop (mkF m 71 #[.val (.long q0), .second, .val (.long q1), .second, .val (.long q2), .second, .val (.int p3), .val (.int p4), .val (.int (Int32.ofNat f)), .val (.int (Int32.ofNat (f + r))), .val (.int (Int32.ofNat (f + g))), .val (.ref b272), .unset, .unset, .unset, .unset, .unset, .unset] [(.int (Int32.ofNat f)), (.long q2), (.int (16 : Int32)), (.ref b272)])) _
          refine XS.iload X281.here hx rfl (hb hby at_71) rfl ?_
          show Steps p.tables e below (T281.setTop (mkF m 73 #[.val (.long q0), .second, .val (.long q1), .second, .val (.long q2), .second, .val (.int p3), .val (.int p4), .val (.int (Int32.ofNat f)), .val (.int (Int32.ofNat (f + r))), .val (.int (Int32.ofNat (f + g))), .val (.ref b272), .unset, .unset, .unset, .unset, .unset, .unset] [(.int (Int32.ofNat (f + g))), (.int (Int32.ofNat f)), (.long q2), (.int (16 : Int32)), (.ref b272)])) _
          refine st284 _ ?_
          show Steps p.tables e below (T284.setTop (mkF m 76 #[.val (.long q0), .second, .val (.long q1), .second, .val (.long q2), .second, .val (.int p3), .val (.int p4), .val (.int (Int32.ofNat f)), .val (.int (Int32.ofNat (f + r))), .val (.int (Int32.ofNat (f + g))), .val (.ref b272), .unset, .unset, .unset, .unset, .unset, .unset] [])) _
          refine XS.iload X284.here hx rfl (hb hby at_76) rfl ?_
          show Steps p.tables e below (T284.setTop (mkF m 78 #[.val (.long q0), .second, .val (.long q1), .second, .val (.long q2), .second, .val (.int p3), .val (.int p4), .val (.int (Int32.ofNat f)), .val (.int (Int32.ofNat (f + r))), .val (.int (Int32.ofNat (f + g))), .val (.ref b272), .unset, .unset, .unset, .unset, .unset, .unset] [(.int p3)])) _
          refine XS.sipush X284.here hx rfl (hb hby at_78) ?_
          show Steps p.tables e below (T284.setTop (mkF m 81 #[.val (.long q0), .second, .val (.long q1), .second, .val (.long q2), .second, .val (.int p3), .val (.int p4), .val (.int (Int32.ofNat f)), .val (.int (Int32.ofNat (f + r))), .val (.int (Int32.ofNat (f + g))), .val (.ref b272), .unset, .unset, .unset, .unset, .unset, .unset] [(.int (255 : Int32)), (.int p3)])) _
          refine XS.iand X284.here hx rfl (hb hby at_81) rfl ?_
          show Steps p.tables e below (T284.setTop (mkF m 82 #[.val (.long q0), .second, .val (.long q1), .second, .val (.long q2), .second, .val (.int p3), .val (.int p4), .val (.int (Int32.ofNat f)), .val (.int (Int32.ofNat (f + r))), .val (.int (Int32.ofNat (f + g))), .val (.ref b272), .unset, .unset, .unset, .unset, .unset, .unset] [(.int (p3 &&& (255 : Int32)))])) _
          rw [ea]
          show Steps p.tables e below (T284.setTop (mkF m 82 #[.val (.long q0), .second, .val (.long q1), .second, .val (.long q2), .second, .val (.int p3), .val (.int p4), .val (.int (Int32.ofNat f)), .val (.int (Int32.ofNat (f + r))), .val (.int (Int32.ofNat (f + g))), .val (.ref b272), .unset, .unset, .unset, .unset, .unset, .unset] [(.int (Int32.ofNat a))])) _
          refine XS.istore X284.here hx rfl (hb hby at_82) rfl (l' := #[.val (.long q0), .second, .val (.long q1), .second, .val (.long q2), .second, .val (.int p3), .val (.int p4), .val (.int (Int32.ofNat f)), .val (.int (Int32.ofNat (f + r))), .val (.int (Int32.ofNat (f + g))), .val (.ref b272), .val (.int (Int32.ofNat a)), .unset, .unset, .unset, .unset, .unset]) rfl ?_
          show Steps p.tables e below (T284.setTop (mkF m 84 #[.val (.long q0), .second, .val (.long q1), .second, .val (.long q2), .second, .val (.int p3), .val (.int p4), .val (.int (Int32.ofNat f)), .val (.int (Int32.ofNat (f + r))), .val (.int (Int32.ofNat (f + g))), .val (.ref b272), .val (.int (Int32.ofNat a)), .unset, .unset, .unset, .unset, .unset] [])) _
          refine XS.iload X284.here hx rfl (hb hby at_84) rfl ?_
          show Steps p.tables e below (T284.setTop (mkF m 86 #[.val (.long q0), .second, .val (.long q1), .second, .val (.long q2), .second, .val (.int p3), .val (.int p4), .val (.int (Int32.ofNat f)), .val (.int (Int32.ofNat (f + r))), .val (.int (Int32.ofNat (f + g))), .val (.ref b272), .val (.int (Int32.ofNat a)), .unset, .unset, .unset, .unset, .unset] [(.int p3)])) _
          refine XS.bipush X284.here hx rfl (hb hby at_86) ?_
          show Steps p.tables e below (T284.setTop (mkF m 88 #[.val (.long q0), .second, .val (.long q1), .second, .val (.long q2), .second, .val (.int p3), .val (.int p4), .val (.int (Int32.ofNat f)), .val (.int (Int32.ofNat (f + r))), .val (.int (Int32.ofNat (f + g))), .val (.ref b272), .val (.int (Int32.ofNat a)), .unset, .unset, .unset, .unset, .unset] [(.int (8 : Int32)), (.int p3)])) _
          refine XS.iushr X284.here hx rfl (hb hby at_88) rfl ?_
          show Steps p.tables e below (T284.setTop (mkF m 89 #[.val (.long q0), .second, .val (.long q1), .second, .val (.long q2), .second, .val (.int p3), .val (.int p4), .val (.int (Int32.ofNat f)), .val (.int (Int32.ofNat (f + r))), .val (.int (Int32.ofNat (f + g))), .val (.ref b272), .val (.int (Int32.ofNat a)), .unset, .unset, .unset, .unset, .unset] [(.int ((p3.toUInt32 >>> ((8 : Int32) &&& 31).toUInt32).toInt32))])) _
          refine XS.sipush X284.here hx rfl (hb hby at_89) ?_
          show Steps p.tables e below (T284.setTop (mkF m 92 #[.val (.long q0), .second, .val (.long q1), .second, .val (.long q2), .second, .val (.int p3), .val (.int p4), .val (.int (Int32.ofNat f)), .val (.int (Int32.ofNat (f + r))), .val (.int (Int32.ofNat (f + g))), .val (.ref b272), .val (.int (Int32.ofNat a)), .unset, .unset, .unset, .unset, .unset] [(.int (255 : Int32)), (.int ((p3.toUInt32 >>> ((8 : Int32) &&& 31).toUInt32).toInt32))])) _
          refine XS.iand X284.here hx rfl (hb hby at_92) rfl ?_
          show Steps p.tables e below (T284.setTop (mkF m 93 #[.val (.long q0), .second, .val (.long q1), .second, .val (.long q2), .second, .val (.int p3), .val (.int p4), .val (.int (Int32.ofNat f)), .val (.int (Int32.ofNat (f + r))), .val (.int (Int32.ofNat (f + g))), .val (.ref b272), .val (.int (Int32.ofNat a)), .unset, .unset, .unset, .unset, .unset] [(.int (((p3.toUInt32 >>> ((8 : Int32) &&& 31).toUInt32).toInt32) &&& (255 : Int32)))])) _
          rw [eb]
          show Steps p.tables e below (T284.setTop (mkF m 93 #[.val (.long q0), .second, .val (.long q1), .second, .val (.long q2), .second, .val (.int p3), .val (.int p4), .val (.int (Int32.ofNat f)), .val (.int (Int32.ofNat (f + r))), .val (.int (Int32.ofNat (f + g))), .val (.ref b272), .val (.int (Int32.ofNat a)), .unset, .unset, .unset, .unset, .unset] [(.int (Int32.ofNat b))])) _
          refine XS.istore X284.here hx rfl (hb hby at_93) rfl (l' := #[.val (.long q0), .second, .val (.long q1), .second, .val (.long q2), .second, .val (.int p3), .val (.int p4), .val (.int (Int32.ofNat f)), .val (.int (Int32.ofNat (f + r))), .val (.int (Int32.ofNat (f + g))), .val (.ref b272), .val (.int (Int32.ofNat a)), .val (.int (Int32.ofNat b)), .unset, .unset, .unset, .unset]) rfl ?_
          show Steps p.tables e below (T284.setTop (mkF m 95 #[.val (.long q0), .second, .val (.long q1), .second, .val (.long q2), .second, .val (.int p3), .val (.int p4), .val (.int (Int32.ofNat f)), .val (.int (Int32.ofNat (f + r))), .val (.int (Int32.ofNat (f + g))), .val (.ref b272), .val (.int (Int32.ofNat a)), .val (.int (Int32.ofNat b)), .unset, .unset, .unset, .unset] [])) _
          refine XS.iload X284.here hx rfl (hb hby at_95) rfl ?_
          show Steps p.tables e below (T284.setTop (mkF m 97 #[.val (.long q0), .second, .val (.long q1), .second, .val (.long q2), .second, .val (.int p3), .val (.int p4), .val (.int (Int32.ofNat f)), .val (.int (Int32.ofNat (f + r))), .val (.int (Int32.ofNat (f + g))), .val (.ref b272), .val (.int (Int32.ofNat a)), .val (.int (Int32.ofNat b)), .unset, .unset, .unset, .unset] [(.int p3)])) _
          refine XS.bipush X284.here hx rfl (hb hby at_97) ?_
          show Steps p.tables e below (T284.setTop (mkF m 99 #[.val (.long q0), .second, .val (.long q1), .second, .val (.long q2), .second, .val (.int p3), .val (.int p4), .val (.int (Int32.ofNat f)), .val (.int (Int32.ofNat (f + r))), .val (.int (Int32.ofNat (f + g))), .val (.ref b272), .val (.int (Int32.ofNat a)), .val (.int (Int32.ofNat b)), .unset, .unset, .unset, .unset] [(.int (16 : Int32)), (.int p3)])) _
          refine XS.iushr X284.here hx rfl (hb hby at_99) rfl ?_
          show Steps p.tables e below (T284.setTop (mkF m 100 #[.val (.long q0), .second, .val (.long q1), .second, .val (.long q2), .second, .val (.int p3), .val (.int p4), .val (.int (Int32.ofNat f)), .val (.int (Int32.ofNat (f + r))), .val (.int (Int32.ofNat (f + g))), .val (.ref b272), .val (.int (Int32.ofNat a)), .val (.int (Int32.ofNat b)), .unset, .unset, .unset, .unset] [(.int ((p3.toUInt32 >>> ((16 : Int32) &&& 31).toUInt32).toInt32))])) _
          refine XS.sipush X284.here hx rfl (hb hby at_100) ?_
          show Steps p.tables e below (T284.setTop (mkF m 103 #[.val (.long q0), .second, .val (.long q1), .second, .val (.long q2), .second, .val (.int p3), .val (.int p4), .val (.int (Int32.ofNat f)), .val (.int (Int32.ofNat (f + r))), .val (.int (Int32.ofNat (f + g))), .val (.ref b272), .val (.int (Int32.ofNat a)), .val (.int (Int32.ofNat b)), .unset, .unset, .unset, .unset] [(.int (255 : Int32)), (.int ((p3.toUInt32 >>> ((16 : Int32) &&& 31).toUInt32).toInt32))])) _
          refine XS.iand X284.here hx rfl (hb hby at_103) rfl ?_
          show Steps p.tables e below (T284.setTop (mkF m 104 #[.val (.long q0), .second, .val (.long q1), .second, .val (.long q2), .second, .val (.int p3), .val (.int p4), .val (.int (Int32.ofNat f)), .val (.int (Int32.ofNat (f + r))), .val (.int (Int32.ofNat (f + g))), .val (.ref b272), .val (.int (Int32.ofNat a)), .val (.int (Int32.ofNat b)), .unset, .unset, .unset, .unset] [(.int (((p3.toUInt32 >>> ((16 : Int32) &&& 31).toUInt32).toInt32) &&& (255 : Int32)))])) _
          rw [ecc]
          show Steps p.tables e below (T284.setTop (mkF m 104 #[.val (.long q0), .second, .val (.long q1), .second, .val (.long q2), .second, .val (.int p3), .val (.int p4), .val (.int (Int32.ofNat f)), .val (.int (Int32.ofNat (f + r))), .val (.int (Int32.ofNat (f + g))), .val (.ref b272), .val (.int (Int32.ofNat a)), .val (.int (Int32.ofNat b)), .unset, .unset, .unset, .unset] [(.int (Int32.ofNat cc))])) _
          refine XS.istore X284.here hx rfl (hb hby at_104) rfl (l' := #[.val (.long q0), .second, .val (.long q1), .second, .val (.long q2), .second, .val (.int p3), .val (.int p4), .val (.int (Int32.ofNat f)), .val (.int (Int32.ofNat (f + r))), .val (.int (Int32.ofNat (f + g))), .val (.ref b272), .val (.int (Int32.ofNat a)), .val (.int (Int32.ofNat b)), .val (.int (Int32.ofNat cc)), .unset, .unset, .unset]) rfl ?_
          show Steps p.tables e below (T284.setTop (mkF m 106 #[.val (.long q0), .second, .val (.long q1), .second, .val (.long q2), .second, .val (.int p3), .val (.int p4), .val (.int (Int32.ofNat f)), .val (.int (Int32.ofNat (f + r))), .val (.int (Int32.ofNat (f + g))), .val (.ref b272), .val (.int (Int32.ofNat a)), .val (.int (Int32.ofNat b)), .val (.int (Int32.ofNat cc)), .unset, .unset, .unset] [])) _
          refine XS.iload X284.here hx rfl (hb hby at_106) rfl ?_
          show Steps p.tables e below (T284.setTop (mkF m 108 #[.val (.long q0), .second, .val (.long q1), .second, .val (.long q2), .second, .val (.int p3), .val (.int p4), .val (.int (Int32.ofNat f)), .val (.int (Int32.ofNat (f + r))), .val (.int (Int32.ofNat (f + g))), .val (.ref b272), .val (.int (Int32.ofNat a)), .val (.int (Int32.ofNat b)), .val (.int (Int32.ofNat cc)), .unset, .unset, .unset] [(.int p3)])) _
          refine XS.bipush X284.here hx rfl (hb hby at_108) ?_
          show Steps p.tables e below (T284.setTop (mkF m 110 #[.val (.long q0), .second, .val (.long q1), .second, .val (.long q2), .second, .val (.int p3), .val (.int p4), .val (.int (Int32.ofNat f)), .val (.int (Int32.ofNat (f + r))), .val (.int (Int32.ofNat (f + g))), .val (.ref b272), .val (.int (Int32.ofNat a)), .val (.int (Int32.ofNat b)), .val (.int (Int32.ofNat cc)), .unset, .unset, .unset] [(.int (24 : Int32)), (.int p3)])) _
          refine XS.iushr X284.here hx rfl (hb hby at_110) rfl ?_
          show Steps p.tables e below (T284.setTop (mkF m 111 #[.val (.long q0), .second, .val (.long q1), .second, .val (.long q2), .second, .val (.int p3), .val (.int p4), .val (.int (Int32.ofNat f)), .val (.int (Int32.ofNat (f + r))), .val (.int (Int32.ofNat (f + g))), .val (.ref b272), .val (.int (Int32.ofNat a)), .val (.int (Int32.ofNat b)), .val (.int (Int32.ofNat cc)), .unset, .unset, .unset] [(.int ((p3.toUInt32 >>> ((24 : Int32) &&& 31).toUInt32).toInt32))])) _
          refine XS.sipush X284.here hx rfl (hb hby at_111) ?_
          show Steps p.tables e below (T284.setTop (mkF m 114 #[.val (.long q0), .second, .val (.long q1), .second, .val (.long q2), .second, .val (.int p3), .val (.int p4), .val (.int (Int32.ofNat f)), .val (.int (Int32.ofNat (f + r))), .val (.int (Int32.ofNat (f + g))), .val (.ref b272), .val (.int (Int32.ofNat a)), .val (.int (Int32.ofNat b)), .val (.int (Int32.ofNat cc)), .unset, .unset, .unset] [(.int (255 : Int32)), (.int ((p3.toUInt32 >>> ((24 : Int32) &&& 31).toUInt32).toInt32))])) _
          refine XS.iand X284.here hx rfl (hb hby at_114) rfl ?_
          show Steps p.tables e below (T284.setTop (mkF m 115 #[.val (.long q0), .second, .val (.long q1), .second, .val (.long q2), .second, .val (.int p3), .val (.int p4), .val (.int (Int32.ofNat f)), .val (.int (Int32.ofNat (f + r))), .val (.int (Int32.ofNat (f + g))), .val (.ref b272), .val (.int (Int32.ofNat a)), .val (.int (Int32.ofNat b)), .val (.int (Int32.ofNat cc)), .unset, .unset, .unset] [(.int (((p3.toUInt32 >>> ((24 : Int32) &&& 31).toUInt32).toInt32) &&& (255 : Int32)))])) _
          rw [ed]
          show Steps p.tables e below (T284.setTop (mkF m 115 #[.val (.long q0), .second, .val (.long q1), .second, .val (.long q2), .second, .val (.int p3), .val (.int p4), .val (.int (Int32.ofNat f)), .val (.int (Int32.ofNat (f + r))), .val (.int (Int32.ofNat (f + g))), .val (.ref b272), .val (.int (Int32.ofNat a)), .val (.int (Int32.ofNat b)), .val (.int (Int32.ofNat cc)), .unset, .unset, .unset] [(.int (Int32.ofNat d))])) _
          refine XS.istore X284.here hx rfl (hb hby at_115) rfl (l' := #[.val (.long q0), .second, .val (.long q1), .second, .val (.long q2), .second, .val (.int p3), .val (.int p4), .val (.int (Int32.ofNat f)), .val (.int (Int32.ofNat (f + r))), .val (.int (Int32.ofNat (f + g))), .val (.ref b272), .val (.int (Int32.ofNat a)), .val (.int (Int32.ofNat b)), .val (.int (Int32.ofNat cc)), .val (.int (Int32.ofNat d)), .unset, .unset]) rfl ?_
          show Steps p.tables e below (T284.setTop (mkF m 117 #[.val (.long q0), .second, .val (.long q1), .second, .val (.long q2), .second, .val (.int p3), .val (.int p4), .val (.int (Int32.ofNat f)), .val (.int (Int32.ofNat (f + r))), .val (.int (Int32.ofNat (f + g))), .val (.ref b272), .val (.int (Int32.ofNat a)), .val (.int (Int32.ofNat b)), .val (.int (Int32.ofNat cc)), .val (.int (Int32.ofNat d)), .unset, .unset] [])) _
          refine XS.iload X284.here hx rfl (hb hby at_117) rfl ?_
          show Steps p.tables e below (T284.setTop (mkF m 119 #[.val (.long q0), .second, .val (.long q1), .second, .val (.long q2), .second, .val (.int p3), .val (.int p4), .val (.int (Int32.ofNat f)), .val (.int (Int32.ofNat (f + r))), .val (.int (Int32.ofNat (f + g))), .val (.ref b272), .val (.int (Int32.ofNat a)), .val (.int (Int32.ofNat b)), .val (.int (Int32.ofNat cc)), .val (.int (Int32.ofNat d)), .unset, .unset] [(.int (Int32.ofNat a))])) _
          refine st288 _ ?_
          show Steps p.tables e below (T288.setTop (mkF m 122 #[.val (.long q0), .second, .val (.long q1), .second, .val (.long q2), .second, .val (.int p3), .val (.int p4), .val (.int (Int32.ofNat f)), .val (.int (Int32.ofNat (f + r))), .val (.int (Int32.ofNat (f + g))), .val (.ref b272), .val (.int (Int32.ofNat a)), .val (.int (Int32.ofNat b)), .val (.int (Int32.ofNat cc)), .val (.int (Int32.ofNat d)), .unset, .unset] [(.int (own_lenOf (Int32.ofNat a)))])) _
          refine XS.istore X288.here hx rfl (hb hby at_122) rfl (l' := #[.val (.long q0), .second, .val (.long q1), .second, .val (.long q2), .second, .val (.int p3), .val (.int p4), .val (.int (Int32.ofNat f)), .val (.int (Int32.ofNat (f + r))), .val (.int (Int32.ofNat (f + g))), .val (.ref b272), .val (.int (Int32.ofNat a)), .val (.int (Int32.ofNat b)), .val (.int (Int32.ofNat cc)), .val (.int (Int32.ofNat d)), .val (.int (own_lenOf (Int32.ofNat a))), .unset]) rfl ?_
          show Steps p.tables e below (T288.setTop (mkF m 124 #[.val (.long q0), .second, .val (.long q1), .second, .val (.long q2), .second, .val (.int p3), .val (.int p4), .val (.int (Int32.ofNat f)), .val (.int (Int32.ofNat (f + r))), .val (.int (Int32.ofNat (f + g))), .val (.ref b272), .val (.int (Int32.ofNat a)), .val (.int (Int32.ofNat b)), .val (.int (Int32.ofNat cc)), .val (.int (Int32.ofNat d)), .val (.int (own_lenOf (Int32.ofNat a))), .unset] [])) _
          refine XS.aload X288.here hx rfl (hb hby at_124) rfl rfl ?_
          show Steps p.tables e below (T288.setTop (mkF m 126 #[.val (.long q0), .second, .val (.long q1), .second, .val (.long q2), .second, .val (.int p3), .val (.int p4), .val (.int (Int32.ofNat f)), .val (.int (Int32.ofNat (f + r))), .val (.int (Int32.ofNat (f + g))), .val (.ref b272), .val (.int (Int32.ofNat a)), .val (.int (Int32.ofNat b)), .val (.int (Int32.ofNat cc)), .val (.int (Int32.ofNat d)), .val (.int (own_lenOf (Int32.ofNat a))), .unset] [(.ref b272)])) _
          refine XS.iload X288.here hx rfl (hb hby at_126) rfl ?_
          show Steps p.tables e below (T288.setTop (mkF m 128 #[.val (.long q0), .second, .val (.long q1), .second, .val (.long q2), .second, .val (.int p3), .val (.int p4), .val (.int (Int32.ofNat f)), .val (.int (Int32.ofNat (f + r))), .val (.int (Int32.ofNat (f + g))), .val (.ref b272), .val (.int (Int32.ofNat a)), .val (.int (Int32.ofNat b)), .val (.int (Int32.ofNat cc)), .val (.int (Int32.ofNat d)), .val (.int (own_lenOf (Int32.ofNat a))), .unset] [(.int (Int32.ofNat (f + r))), (.ref b272)])) _
          refine XS.iload X288.here hx rfl (hb hby at_128) rfl ?_
          show Steps p.tables e below (T288.setTop (mkF m 130 #[.val (.long q0), .second, .val (.long q1), .second, .val (.long q2), .second, .val (.int p3), .val (.int p4), .val (.int (Int32.ofNat f)), .val (.int (Int32.ofNat (f + r))), .val (.int (Int32.ofNat (f + g))), .val (.ref b272), .val (.int (Int32.ofNat a)), .val (.int (Int32.ofNat b)), .val (.int (Int32.ofNat cc)), .val (.int (Int32.ofNat d)), .val (.int (own_lenOf (Int32.ofNat a))), .unset] [(.int (Int32.ofNat a)), (.int (Int32.ofNat (f + r))), (.ref b272)])) _
          refine XS.i2b X288.here hx rfl (hb hby at_130) rfl ?_
          show Steps p.tables e below (T288.setTop (mkF m 131 #[.val (.long q0), .second, .val (.long q1), .second, .val (.long q2), .second, .val (.int p3), .val (.int p4), .val (.int (Int32.ofNat f)), .val (.int (Int32.ofNat (f + r))), .val (.int (Int32.ofNat (f + g))), .val (.ref b272), .val (.int (Int32.ofNat a)), .val (.int (Int32.ofNat b)), .val (.int (Int32.ofNat cc)), .val (.int (Int32.ofNat d)), .val (.int (own_lenOf (Int32.ofNat a))), .unset] [(.int (Int32.ofNat a).toInt8.toInt32), (.int (Int32.ofNat (f + r))), (.ref b272)])) _
          refine st290 _ ?_
          show Steps p.tables e below (T290.setTop (mkF m 132 #[.val (.long q0), .second, .val (.long q1), .second, .val (.long q2), .second, .val (.int p3), .val (.int p4), .val (.int (Int32.ofNat f)), .val (.int (Int32.ofNat (f + r))), .val (.int (Int32.ofNat (f + g))), .val (.ref b272), .val (.int (Int32.ofNat a)), .val (.int (Int32.ofNat b)), .val (.int (Int32.ofNat cc)), .val (.int (Int32.ofNat d)), .val (.int (own_lenOf (Int32.ofNat a))), .unset] [])) _
          refine XS.iload X290.here hx rfl (hb hby at_132) rfl ?_
          show Steps p.tables e below (T290.setTop (mkF m 134 #[.val (.long q0), .second, .val (.long q1), .second, .val (.long q2), .second, .val (.int p3), .val (.int p4), .val (.int (Int32.ofNat f)), .val (.int (Int32.ofNat (f + r))), .val (.int (Int32.ofNat (f + g))), .val (.ref b272), .val (.int (Int32.ofNat a)), .val (.int (Int32.ofNat b)), .val (.int (Int32.ofNat cc)), .val (.int (Int32.ofNat d)), .val (.int (own_lenOf (Int32.ofNat a))), .unset] [(.int (own_lenOf (Int32.ofNat a)))])) _
          refine XS.iconst X290.here hx rfl (hb hby at_134) ?_
          show Steps p.tables e below (T290.setTop (mkF m 135 #[.val (.long q0), .second, .val (.long q1), .second, .val (.long q2), .second, .val (.int p3), .val (.int p4), .val (.int (Int32.ofNat f)), .val (.int (Int32.ofNat (f + r))), .val (.int (Int32.ofNat (f + g))), .val (.ref b272), .val (.int (Int32.ofNat a)), .val (.int (Int32.ofNat b)), .val (.int (Int32.ofNat cc)), .val (.int (Int32.ofNat d)), .val (.int (own_lenOf (Int32.ofNat a))), .unset] [(.int (2 : Int32)), (.int (own_lenOf (Int32.ofNat a)))])) _
          refine XS.icmpNo X290.here hx rfl (hb hby at_135) rfl (flt k2).1 ?_
          show Steps p.tables e below (T290.setTop (mkF m 138 #[.val (.long q0), .second, .val (.long q1), .second, .val (.long q2), .second, .val (.int p3), .val (.int p4), .val (.int (Int32.ofNat f)), .val (.int (Int32.ofNat (f + r))), .val (.int (Int32.ofNat (f + g))), .val (.ref b272), .val (.int (Int32.ofNat a)), .val (.int (Int32.ofNat b)), .val (.int (Int32.ofNat cc)), .val (.int (Int32.ofNat d)), .val (.int (own_lenOf (Int32.ofNat a))), .unset] [])) _
          refine XS.aload X290.here hx rfl (hb hby at_138) rfl rfl ?_
          show Steps p.tables e below (T290.setTop (mkF m 140 #[.val (.long q0), .second, .val (.long q1), .second, .val (.long q2), .second, .val (.int p3), .val (.int p4), .val (.int (Int32.ofNat f)), .val (.int (Int32.ofNat (f + r))), .val (.int (Int32.ofNat (f + g))), .val (.ref b272), .val (.int (Int32.ofNat a)), .val (.int (Int32.ofNat b)), .val (.int (Int32.ofNat cc)), .val (.int (Int32.ofNat d)), .val (.int (own_lenOf (Int32.ofNat a))), .unset] [(.ref b272)])) _
          refine XS.iload X290.here hx rfl (hb hby at_140) rfl ?_
          show Steps p.tables e below (T290.setTop (mkF m 142 #[.val (.long q0), .second, .val (.long q1), .second, .val (.long q2), .second, .val (.int p3), .val (.int p4), .val (.int (Int32.ofNat f)), .val (.int (Int32.ofNat (f + r))), .val (.int (Int32.ofNat (f + g))), .val (.ref b272), .val (.int (Int32.ofNat a)), .val (.int (Int32.ofNat b)), .val (.int (Int32.ofNat cc)), .val (.int (Int32.ofNat d)), .val (.int (own_lenOf (Int32.ofNat a))), .unset] [(.int (Int32.ofNat (f + r))), (.ref b272)])) _
          refine XS.iconst X290.here hx rfl (hb hby at_142) ?_
          show Steps p.tables e below (T290.setTop (mkF m 143 #[.val (.long q0), .second, .val (.long q1), .second, .val (.long q2), .second, .val (.int p3), .val (.int p4), .val (.int (Int32.ofNat f)), .val (.int (Int32.ofNat (f + r))), .val (.int (Int32.ofNat (f + g))), .val (.ref b272), .val (.int (Int32.ofNat a)), .val (.int (Int32.ofNat b)), .val (.int (Int32.ofNat cc)), .val (.int (Int32.ofNat d)), .val (.int (own_lenOf (Int32.ofNat a))), .unset] [(.int (1 : Int32)), (.int (Int32.ofNat (f + r))), (.ref b272)])) _
          refine XS.iadd X290.here hx rfl (hb hby at_143) rfl ?_
          show Steps p.tables e below (T290.setTop (mkF m 144 #[.val (.long q0), .second, .val (.long q1), .second, .val (.long q2), .second, .val (.int p3), .val (.int p4), .val (.int (Int32.ofNat f)), .val (.int (Int32.ofNat (f + r))), .val (.int (Int32.ofNat (f + g))), .val (.ref b272), .val (.int (Int32.ofNat a)), .val (.int (Int32.ofNat b)), .val (.int (Int32.ofNat cc)), .val (.int (Int32.ofNat d)), .val (.int (own_lenOf (Int32.ofNat a))), .unset] [(.int ((Int32.ofNat (f + r)) + (1 : Int32))), (.ref b272)])) _
          refine XS.iload X290.here hx rfl (hb hby at_144) rfl ?_
          show Steps p.tables e below (T290.setTop (mkF m 146 #[.val (.long q0), .second, .val (.long q1), .second, .val (.long q2), .second, .val (.int p3), .val (.int p4), .val (.int (Int32.ofNat f)), .val (.int (Int32.ofNat (f + r))), .val (.int (Int32.ofNat (f + g))), .val (.ref b272), .val (.int (Int32.ofNat a)), .val (.int (Int32.ofNat b)), .val (.int (Int32.ofNat cc)), .val (.int (Int32.ofNat d)), .val (.int (own_lenOf (Int32.ofNat a))), .unset] [(.int (Int32.ofNat b)), (.int ((Int32.ofNat (f + r)) + (1 : Int32))), (.ref b272)])) _
          refine XS.i2b X290.here hx rfl (hb hby at_146) rfl ?_
          show Steps p.tables e below (T290.setTop (mkF m 147 #[.val (.long q0), .second, .val (.long q1), .second, .val (.long q2), .second, .val (.int p3), .val (.int p4), .val (.int (Int32.ofNat f)), .val (.int (Int32.ofNat (f + r))), .val (.int (Int32.ofNat (f + g))), .val (.ref b272), .val (.int (Int32.ofNat a)), .val (.int (Int32.ofNat b)), .val (.int (Int32.ofNat cc)), .val (.int (Int32.ofNat d)), .val (.int (own_lenOf (Int32.ofNat a))), .unset] [(.int (Int32.ofNat b).toInt8.toInt32), (.int ((Int32.ofNat (f + r)) + (1 : Int32))), (.ref b272)])) _
          refine st295 _ ?_
          show Steps p.tables e below (T295.setTop (mkF m 148 #[.val (.long q0), .second, .val (.long q1), .second, .val (.long q2), .second, .val (.int p3), .val (.int p4), .val (.int (Int32.ofNat f)), .val (.int (Int32.ofNat (f + r))), .val (.int (Int32.ofNat (f + g))), .val (.ref b272), .val (.int (Int32.ofNat a)), .val (.int (Int32.ofNat b)), .val (.int (Int32.ofNat cc)), .val (.int (Int32.ofNat d)), .val (.int (own_lenOf (Int32.ofNat a))), .unset] [])) _
          refine XS.iload X295.here hx rfl (hb hby at_148) rfl ?_
          show Steps p.tables e below (T295.setTop (mkF m 150 #[.val (.long q0), .second, .val (.long q1), .second, .val (.long q2), .second, .val (.int p3), .val (.int p4), .val (.int (Int32.ofNat f)), .val (.int (Int32.ofNat (f + r))), .val (.int (Int32.ofNat (f + g))), .val (.ref b272), .val (.int (Int32.ofNat a)), .val (.int (Int32.ofNat b)), .val (.int (Int32.ofNat cc)), .val (.int (Int32.ofNat d)), .val (.int (own_lenOf (Int32.ofNat a))), .unset] [(.int (own_lenOf (Int32.ofNat a)))])) _
          refine XS.iconst X295.here hx rfl (hb hby at_150) ?_
          show Steps p.tables e below (T295.setTop (mkF m 151 #[.val (.long q0), .second, .val (.long q1), .second, .val (.long q2), .second, .val (.int p3), .val (.int p4), .val (.int (Int32.ofNat f)), .val (.int (Int32.ofNat (f + r))), .val (.int (Int32.ofNat (f + g))), .val (.ref b272), .val (.int (Int32.ofNat a)), .val (.int (Int32.ofNat b)), .val (.int (Int32.ofNat cc)), .val (.int (Int32.ofNat d)), .val (.int (own_lenOf (Int32.ofNat a))), .unset] [(.int (3 : Int32)), (.int (own_lenOf (Int32.ofNat a)))])) _
          refine XS.icmpNo X295.here hx rfl (hb hby at_151) rfl (flt k3).1 ?_
          show Steps p.tables e below (T295.setTop (mkF m 154 #[.val (.long q0), .second, .val (.long q1), .second, .val (.long q2), .second, .val (.int p3), .val (.int p4), .val (.int (Int32.ofNat f)), .val (.int (Int32.ofNat (f + r))), .val (.int (Int32.ofNat (f + g))), .val (.ref b272), .val (.int (Int32.ofNat a)), .val (.int (Int32.ofNat b)), .val (.int (Int32.ofNat cc)), .val (.int (Int32.ofNat d)), .val (.int (own_lenOf (Int32.ofNat a))), .unset] [])) _
          refine XS.aload X295.here hx rfl (hb hby at_154) rfl rfl ?_
          show Steps p.tables e below (T295.setTop (mkF m 156 #[.val (.long q0), .second, .val (.long q1), .second, .val (.long q2), .second, .val (.int p3), .val (.int p4), .val (.int (Int32.ofNat f)), .val (.int (Int32.ofNat (f + r))), .val (.int (Int32.ofNat (f + g))), .val (.ref b272), .val (.int (Int32.ofNat a)), .val (.int (Int32.ofNat b)), .val (.int (Int32.ofNat cc)), .val (.int (Int32.ofNat d)), .val (.int (own_lenOf (Int32.ofNat a))), .unset] [(.ref b272)])) _
          refine XS.iload X295.here hx rfl (hb hby at_156) rfl ?_
          show Steps p.tables e below (T295.setTop (mkF m 158 #[.val (.long q0), .second, .val (.long q1), .second, .val (.long q2), .second, .val (.int p3), .val (.int p4), .val (.int (Int32.ofNat f)), .val (.int (Int32.ofNat (f + r))), .val (.int (Int32.ofNat (f + g))), .val (.ref b272), .val (.int (Int32.ofNat a)), .val (.int (Int32.ofNat b)), .val (.int (Int32.ofNat cc)), .val (.int (Int32.ofNat d)), .val (.int (own_lenOf (Int32.ofNat a))), .unset] [(.int (Int32.ofNat (f + r))), (.ref b272)])) _
          refine XS.iconst X295.here hx rfl (hb hby at_158) ?_
          show Steps p.tables e below (T295.setTop (mkF m 159 #[.val (.long q0), .second, .val (.long q1), .second, .val (.long q2), .second, .val (.int p3), .val (.int p4), .val (.int (Int32.ofNat f)), .val (.int (Int32.ofNat (f + r))), .val (.int (Int32.ofNat (f + g))), .val (.ref b272), .val (.int (Int32.ofNat a)), .val (.int (Int32.ofNat b)), .val (.int (Int32.ofNat cc)), .val (.int (Int32.ofNat d)), .val (.int (own_lenOf (Int32.ofNat a))), .unset] [(.int (2 : Int32)), (.int (Int32.ofNat (f + r))), (.ref b272)])) _
          refine XS.iadd X295.here hx rfl (hb hby at_159) rfl ?_
          show Steps p.tables e below (T295.setTop (mkF m 160 #[.val (.long q0), .second, .val (.long q1), .second, .val (.long q2), .second, .val (.int p3), .val (.int p4), .val (.int (Int32.ofNat f)), .val (.int (Int32.ofNat (f + r))), .val (.int (Int32.ofNat (f + g))), .val (.ref b272), .val (.int (Int32.ofNat a)), .val (.int (Int32.ofNat b)), .val (.int (Int32.ofNat cc)), .val (.int (Int32.ofNat d)), .val (.int (own_lenOf (Int32.ofNat a))), .unset] [(.int ((Int32.ofNat (f + r)) + (2 : Int32))), (.ref b272)])) _
          refine XS.iload X295.here hx rfl (hb hby at_160) rfl ?_
          show Steps p.tables e below (T295.setTop (mkF m 162 #[.val (.long q0), .second, .val (.long q1), .second, .val (.long q2), .second, .val (.int p3), .val (.int p4), .val (.int (Int32.ofNat f)), .val (.int (Int32.ofNat (f + r))), .val (.int (Int32.ofNat (f + g))), .val (.ref b272), .val (.int (Int32.ofNat a)), .val (.int (Int32.ofNat b)), .val (.int (Int32.ofNat cc)), .val (.int (Int32.ofNat d)), .val (.int (own_lenOf (Int32.ofNat a))), .unset] [(.int (Int32.ofNat cc)), (.int ((Int32.ofNat (f + r)) + (2 : Int32))), (.ref b272)])) _
          refine XS.i2b X295.here hx rfl (hb hby at_162) rfl ?_
          show Steps p.tables e below (T295.setTop (mkF m 163 #[.val (.long q0), .second, .val (.long q1), .second, .val (.long q2), .second, .val (.int p3), .val (.int p4), .val (.int (Int32.ofNat f)), .val (.int (Int32.ofNat (f + r))), .val (.int (Int32.ofNat (f + g))), .val (.ref b272), .val (.int (Int32.ofNat a)), .val (.int (Int32.ofNat b)), .val (.int (Int32.ofNat cc)), .val (.int (Int32.ofNat d)), .val (.int (own_lenOf (Int32.ofNat a))), .unset] [(.int (Int32.ofNat cc).toInt8.toInt32), (.int ((Int32.ofNat (f + r)) + (2 : Int32))), (.ref b272)])) _
          refine st300 _ ?_
          show Steps p.tables e below (T300.setTop (mkF m 164 #[.val (.long q0), .second, .val (.long q1), .second, .val (.long q2), .second, .val (.int p3), .val (.int p4), .val (.int (Int32.ofNat f)), .val (.int (Int32.ofNat (f + r))), .val (.int (Int32.ofNat (f + g))), .val (.ref b272), .val (.int (Int32.ofNat a)), .val (.int (Int32.ofNat b)), .val (.int (Int32.ofNat cc)), .val (.int (Int32.ofNat d)), .val (.int (own_lenOf (Int32.ofNat a))), .unset] [])) _
          refine XS.iload X300.here hx rfl (hb hby at_164) rfl ?_
          show Steps p.tables e below (T300.setTop (mkF m 166 #[.val (.long q0), .second, .val (.long q1), .second, .val (.long q2), .second, .val (.int p3), .val (.int p4), .val (.int (Int32.ofNat f)), .val (.int (Int32.ofNat (f + r))), .val (.int (Int32.ofNat (f + g))), .val (.ref b272), .val (.int (Int32.ofNat a)), .val (.int (Int32.ofNat b)), .val (.int (Int32.ofNat cc)), .val (.int (Int32.ofNat d)), .val (.int (own_lenOf (Int32.ofNat a))), .unset] [(.int (own_lenOf (Int32.ofNat a)))])) _
          refine XS.iconst X300.here hx rfl (hb hby at_166) ?_
          show Steps p.tables e below (T300.setTop (mkF m 167 #[.val (.long q0), .second, .val (.long q1), .second, .val (.long q2), .second, .val (.int p3), .val (.int p4), .val (.int (Int32.ofNat f)), .val (.int (Int32.ofNat (f + r))), .val (.int (Int32.ofNat (f + g))), .val (.ref b272), .val (.int (Int32.ofNat a)), .val (.int (Int32.ofNat b)), .val (.int (Int32.ofNat cc)), .val (.int (Int32.ofNat d)), .val (.int (own_lenOf (Int32.ofNat a))), .unset] [(.int (4 : Int32)), (.int (own_lenOf (Int32.ofNat a)))])) _
          refine XS.icmpYes X300.here hx rfl (pc0 := 167) (pc' := 180) rfl (hb hby at_167) rfl (tlt k4).1 (by decide) (by decide) ?_
          show Steps p.tables e below (T300.setTop (mkF m 180 #[.val (.long q0), .second, .val (.long q1), .second, .val (.long q2), .second, .val (.int p3), .val (.int p4), .val (.int (Int32.ofNat f)), .val (.int (Int32.ofNat (f + r))), .val (.int (Int32.ofNat (f + g))), .val (.ref b272), .val (.int (Int32.ofNat a)), .val (.int (Int32.ofNat b)), .val (.int (Int32.ofNat cc)), .val (.int (Int32.ofNat d)), .val (.int (own_lenOf (Int32.ofNat a))), .unset] [])) _
          refine stz _ ?_
          show Steps p.tables e below (Tz.setTop (mkF m 255 #[.val (.long q0), .second, .val (.long q1), .second, .val (.long q2), .second, .val (.int p3), .val (.int p4), .val (.int (Int32.ofNat f)), .val (.int (Int32.ofNat (f + r))), .val (.int (Int32.ofNat (f + g))), .val (.ref b272), .val (.int (Int32.ofNat a)), .val (.int (Int32.ofNat b)), .val (.int (Int32.ofNat cc)), .val (.int (Int32.ofNat d)), .val (.int (own_lenOf (Int32.ofNat a))), s17] [(.int (1 : Int32))])) _
          exact retN Xz hx (t := .boolean) Bd.returns (by simp) (hb hby at_255) hr
        · show Qrm0 Z q0 q1 q2 p3 p4 h0 n0 _ Tz.heap _
          exact ⟨rfl, Nz⟩
      · have hLn : own_lenOf (Int32.ofNat a) = (4 : Int32) := Int32.toInt_inj.mp (by have z0 : ¬ ((own_lenOf (Int32.ofNat a)).toInt < 4) := (by have := k4; rw [Int32.lt_iff_toInt_lt] at this; exact this); show _ = (4 : Int); omega)
        obtain ⟨c305, r305, q305, s305, n305, H305, G305⟩ := id f304
        have i305 : ¬ (((Int32.ofNat (f + r)) + (3 : Int32)) < 0 ∨ c305.slots.size ≤ (((Int32.ofNat (f + r)) + (3 : Int32))).toNatClampNeg) := inb_of s305 ⟨by rw [Int32.lt_iff_toInt_lt, eq3]; show ¬ (_ < (0 : Int)); omega, by rw [Int32.lt_iff_toInt_lt, eq3]; show _ < (24 : Int); omega⟩
        obtain ⟨T305, h305, X305, e305, W305, st305⟩ := stB X300 hx hZ e300 r305 (j := ((Int32.ofNat (f + r)) + (3 : Int32))) i305 (g := (mkF m 179 #[.val (.long q0), .second, .val (.long q1), .second, .val (.long q2), .second, .val (.int p3), .val (.int p4), .val (.int (Int32.ofNat f)), .val (.int (Int32.ofNat (f + r))), .val (.int (Int32.ofNat (f + g))), .val (.ref b272), .val (.int (Int32.ofNat a)), .val (.int (Int32.ofNat b)), .val (.int (Int32.ofNat cc)), .val (.int (Int32.ofNat d)), .val (.int (own_lenOf (Int32.ofNat a))), .unset] [(.int (Int32.ofNat d).toInt8.toInt32), (.int ((Int32.ofNat (f + r)) + (3 : Int32))), (.ref b272)])) rfl rfl (hb hby at_179)
        have f306 := Arv.set r305 q305 s305 n305 H305 G305 (fits_nar_byte _) W305 (f + r + 3) (by show Int.toNat _ = _; rw [eq3]; omega) (by simp only [List.length_map, List.length_set, own_U_len]; omega)
        have Zn307 := Nat.le_trans Zn302 (Keep.of_wr W305).1
        have N308 := Fr.snoc X305 N303 g273
        have f309 : Arv Z h305 b272 k272 .byte (24 : Int32) ((((((own_U q0 q1 q2 (Int32.ofNat f) (Int32.ofNat (f + g))).set (f + r) (nar .byte (Int32.ofNat a).toInt8.toInt32)).set (f + r + 1) (nar .byte (Int32.ofNat b).toInt8.toInt32)).set (f + r + 2) (nar .byte (Int32.ofNat cc).toInt8.toInt32)).set (f + r + 3) (nar .byte (Int32.ofNat d).toInt8.toInt32)).map Value.int) (.int (0 : Int32)) := own_map_set ▸ f306
        obtain ⟨Tz, lcz, s17, Xz, Nz, stz⟩ := tl0 X305 hx hZ hw hby hml hown e305 N308 Zn307 f309 (own_sm_n (by omega)) (own_sm_n hg) (own_hl4 hf3 hr15 hg hlt_a hlt_b hlt_cc hlt_d hLn)
        obtain ⟨fs, hr, hrun, hended, hW, hsame⟩ := Xz.leave (v := some (.int (1 : Int32))) (fun h => by rw [Bd.returns] at h; cases h)
        refine ⟨_, _, pre0 _ ?_, hrun, hended, _, _, rfl, ?_, ⟨_, rfl⟩, hW, hsame.mono (by decide) (by decide)⟩
        · show Steps p.tables e below (s₁.setTop (mkF m 0 #[.val (.long q0), .second, .val (.long q1), .second, .val (.long q2), .second, .val (.int p3), .val (.int p4), .unset, .unset, .unset, .unset, .unset, .unset, .unset, .unset, .unset, .unset] [])) _
          refine XS.iload X0.here hx rfl (hb hby at_0) rfl ?_
          show Steps p.tables e below (s₁.setTop (mkF m 2 #[.val (.long q0), .second, .val (.long q1), .second, .val (.long q2), .second, .val (.int p3), .val (.int p4), .unset, .unset, .unset, .unset, .unset, .unset, .unset, .unset, .unset, .unset] [(.int p4)])) _
          refine XS.iconst X0.here hx rfl (hb hby at_2) ?_
          show Steps p.tables e below (s₁.setTop (mkF m 3 #[.val (.long q0), .second, .val (.long q1), .second, .val (.long q2), .second, .val (.int p3), .val (.int p4), .unset, .unset, .unset, .unset, .unset, .unset, .unset, .unset, .unset, .unset] [(.int (3 : Int32)), (.int p4)])) _
          refine XS.iand X0.here hx rfl (hb hby at_3) rfl ?_
          show Steps p.tables e below (s₁.setTop (mkF m 4 #[.val (.long q0), .second, .val (.long q1), .second, .val (.long q2), .second, .val (.int p3), .val (.int p4), .unset, .unset, .unset, .unset, .unset, .unset, .unset, .unset, .unset, .unset] [(.int (p4 &&& (3 : Int32)))])) _
          rw [ef]
          show Steps p.tables e below (s₁.setTop (mkF m 4 #[.val (.long q0), .second, .val (.long q1), .second, .val (.long q2), .second, .val (.int p3), .val (.int p4), .unset, .unset, .unset, .unset, .unset, .unset, .unset, .unset, .unset, .unset] [(.int (Int32.ofNat f))])) _
          refine XS.istore X0.here hx rfl (hb hby at_4) rfl (l' := #[.val (.long q0), .second, .val (.long q1), .second, .val (.long q2), .second, .val (.int p3), .val (.int p4), .val (.int (Int32.ofNat f)), .unset, .unset, .unset, .unset, .unset, .unset, .unset, .unset, .unset]) rfl ?_
          show Steps p.tables e below (s₁.setTop (mkF m 6 #[.val (.long q0), .second, .val (.long q1), .second, .val (.long q2), .second, .val (.int p3), .val (.int p4), .val (.int (Int32.ofNat f)), .unset, .unset, .unset, .unset, .unset, .unset, .unset, .unset, .unset] [])) _
          refine XS.iload X0.here hx rfl (hb hby at_6) rfl ?_
          show Steps p.tables e below (s₁.setTop (mkF m 8 #[.val (.long q0), .second, .val (.long q1), .second, .val (.long q2), .second, .val (.int p3), .val (.int p4), .val (.int (Int32.ofNat f)), .unset, .unset, .unset, .unset, .unset, .unset, .unset, .unset, .unset] [(.int (Int32.ofNat f))])) _
          refine XS.iload X0.here hx rfl (hb hby at_8) rfl ?_
          show Steps p.tables e below (s₁.setTop (mkF m 10 #[.val (.long q0), .second, .val (.long q1), .second, .val (.long q2), .second, .val (.int p3), .val (.int p4), .val (.int (Int32.ofNat f)), .unset, .unset, .unset, .unset, .unset, .unset, .unset, .unset, .unset] [(.int p4), (.int (Int32.ofNat f))])) _
          refine XS.iconst X0.here hx rfl (hb hby at_10) ?_
          show Steps p.tables e below (s₁.setTop (mkF m 11 #[.val (.long q0), .second, .val (.long q1), .second, .val (.long q2), .second, .val (.int p3), .val (.int p4), .val (.int (Int32.ofNat f)), .unset, .unset, .unset, .unset, .unset, .unset, .unset, .unset, .unset] [(.int (2 : Int32)), (.int p4), (.int (Int32.ofNat f))])) _
          refine XS.iushr X0.here hx rfl (hb hby at_11) rfl ?_
          show Steps p.tables e below (s₁.setTop (mkF m 12 #[.val (.long q0), .second, .val (.long q1), .second, .val (.long q2), .second, .val (.int p3), .val (.int p4), .val (.int (Int32.ofNat f)), .unset, .unset, .unset, .unset, .unset, .unset, .unset, .unset, .unset] [(.int ((p4.toUInt32 >>> ((2 : Int32) &&& 31).toUInt32).toInt32)), (.int (Int32.ofNat f))])) _
          refine XS.bipush X0.here hx rfl (hb hby at_12) ?_
          show Steps p.tables e below (s₁.setTop (mkF m 14 #[.val (.long q0), .second, .val (.long q1), .second, .val (.long q2), .second, .val (.int p3), .val (.int p4), .val (.int (Int32.ofNat f)), .unset, .unset, .unset, .unset, .unset, .unset, .unset, .unset, .unset] [(.int (15 : Int32)), (.int ((p4.toUInt32 >>> ((2 : Int32) &&& 31).toUInt32).toInt32)), (.int (Int32.ofNat f))])) _
          refine XS.iand X0.here hx rfl (hb hby at_14) rfl ?_
          show Steps p.tables e below (s₁.setTop (mkF m 15 #[.val (.long q0), .second, .val (.long q1), .second, .val (.long q2), .second, .val (.int p3), .val (.int p4), .val (.int (Int32.ofNat f)), .unset, .unset, .unset, .unset, .unset, .unset, .unset, .unset, .unset] [(.int (((p4.toUInt32 >>> ((2 : Int32) &&& 31).toUInt32).toInt32) &&& (15 : Int32))), (.int (Int32.ofNat f))])) _
          rw [er]
          show Steps p.tables e below (s₁.setTop (mkF m 15 #[.val (.long q0), .second, .val (.long q1), .second, .val (.long q2), .second, .val (.int p3), .val (.int p4), .val (.int (Int32.ofNat f)), .unset, .unset, .unset, .unset, .unset, .unset, .unset, .unset, .unset] [(.int (Int32.ofNat r)), (.int (Int32.ofNat f))])) _
          refine XS.iadd X0.here hx rfl (hb hby at_15) rfl ?_
          show Steps p.tables e below (s₁.setTop (mkF m 16 #[.val (.long q0), .second, .val (.long q1), .second, .val (.long q2), .second, .val (.int p3), .val (.int p4), .val (.int (Int32.ofNat f)), .unset, .unset, .unset, .unset, .unset, .unset, .unset, .unset, .unset] [(.int ((Int32.ofNat f) + (Int32.ofNat r)))])) _
          rw [own_nadd f r]
          show Steps p.tables e below (s₁.setTop (mkF m 16 #[.val (.long q0), .second, .val (.long q1), .second, .val (.long q2), .second, .val (.int p3), .val (.int p4), .val (.int (Int32.ofNat f)), .unset, .unset, .unset, .unset, .unset, .unset, .unset, .unset, .unset] [(.int (Int32.ofNat (f + r)))])) _
          refine XS.istore X0.here hx rfl (hb hby at_16) rfl (l' := #[.val (.long q0), .second, .val (.long q1), .second, .val (.long q2), .second, .val (.int p3), .val (.int p4), .val (.int (Int32.ofNat f)), .val (.int (Int32.ofNat (f + r))), .unset, .unset, .unset, .unset, .unset, .unset, .unset, .unset]) rfl ?_
          show Steps p.tables e below (s₁.setTop (mkF m 18 #[.val (.long q0), .second, .val (.long q1), .second, .val (.long q2), .second, .val (.int p3), .val (.int p4), .val (.int (Int32.ofNat f)), .val (.int (Int32.ofNat (f + r))), .unset, .unset, .unset, .unset, .unset, .unset, .unset, .unset] [])) _
          refine XS.iload X0.here hx rfl (hb hby at_18) rfl ?_
          show Steps p.tables e below (s₁.setTop (mkF m 20 #[.val (.long q0), .second, .val (.long q1), .second, .val (.long q2), .second, .val (.int p3), .val (.int p4), .val (.int (Int32.ofNat f)), .val (.int (Int32.ofNat (f + r))), .unset, .unset, .unset, .unset, .unset, .unset, .unset, .unset] [(.int (Int32.ofNat f))])) _
          refine XS.iload X0.here hx rfl (hb hby at_20) rfl ?_
          show Steps p.tables e below (s₁.setTop (mkF m 22 #[.val (.long q0), .second, .val (.long q1), .second, .val (.long q2), .second, .val (.int p3), .val (.int p4), .val (.int (Int32.ofNat f)), .val (.int (Int32.ofNat (f + r))), .unset, .unset, .unset, .unset, .unset, .unset, .unset, .unset] [(.int p4), (.int (Int32.ofNat f))])) _
          refine XS.bipush X0.here hx rfl (hb hby at_22) ?_
          show Steps p.tables e below (s₁.setTop (mkF m 24 #[.val (.long q0), .second, .val (.long q1), .second, .val (.long q2), .second, .val (.int p3), .val (.int p4), .val (.int (Int32.ofNat f)), .val (.int (Int32.ofNat (f + r))), .unset, .unset, .unset, .unset, .unset, .unset, .unset, .unset] [(.int (6 : Int32)), (.int p4), (.int (Int32.ofNat f))])) _
          refine XS.iushr X0.here hx rfl (hb hby at_24) rfl ?_
          show Steps p.tables e below (s₁.setTop (mkF m 25 #[.val (.long q0), .second, .val (.long q1), .second, .val (.long q2), .second, .val (.int p3), .val (.int p4), .val (.int (Int32.ofNat f)), .val (.int (Int32.ofNat (f + r))), .unset, .unset, .unset, .unset, .unset, .unset, .unset, .unset] [(.int ((p4.toUInt32 >>> ((6 : Int32) &&& 31).toUInt32).toInt32)), (.int (Int32.ofNat f))])) _
          rw [eu]
          show Steps p.tables e below (s₁.setTop (mkF m 25 #[.val (.long q0), .second, .val (.long q1), .second, .val (.long q2), .second, .val (.int p3), .val (.int p4), .val (.int (Int32.ofNat f)), .val (.int (Int32.ofNat (f + r))), .unset, .unset, .unset, .unset, .unset, .unset, .unset, .unset] [(.int (Int32.ofNat u)), (.int (Int32.ofNat f))])) _
          refine XS.bipush X0.here hx rfl (hb hby at_25) ?_
          show Steps p.tables e below (s₁.setTop (mkF m 27 #[.val (.long q0), .second, .val (.long q1), .second, .val (.long q2), .second, .val (.int p3), .val (.int p4), .val (.int (Int32.ofNat f)), .val (.int (Int32.ofNat (f + r))), .unset, .unset, .unset, .unset, .unset, .unset, .unset, .unset] [(.int (25 : Int32)), (.int (Int32.ofNat u)), (.int (Int32.ofNat f))])) _
          refine XS.iload X0.here hx rfl (hb hby at_27) rfl ?_
          show Steps p.tables e below (s₁.setTop (mkF m 29 #[.val (.long q0), .second, .val (.long q1), .second, .val (.long q2), .second, .val (.int p3), .val (.int p4), .val (.int (Int32.ofNat f)), .val (.int (Int32.ofNat (f + r))), .unset, .unset, .unset, .unset, .unset, .unset, .unset, .unset] [(.int (Int32.ofNat f)), (.int (25 : Int32)), (.int (Int32.ofNat u)), (.int (Int32.ofNat f))])) _
          refine XS.isub X0.here hx rfl (hb hby at_29) rfl ?_
          show Steps p.tables e below (s₁.setTop (mkF m 30 #[.val (.long q0), .second, .val (.long q1), .second, .val (.long q2), .second, .val (.int p3), .val (.int p4), .val (.int (Int32.ofNat f)), .val (.int (Int32.ofNat (f + r))), .unset, .unset, .unset, .unset, .unset, .unset, .unset, .unset] [(.int ((25 : Int32) - (Int32.ofNat f))), (.int (Int32.ofNat u)), (.int (Int32.ofNat f))])) _
          rw [e25]
          show Steps p.tables e below (s₁.setTop (mkF m 30 #[.val (.long q0), .second, .val (.long q1), .second, .val (.long q2), .second, .val (.int p3), .val (.int p4), .val (.int (Int32.ofNat f)), .val (.int (Int32.ofNat (f + r))), .unset, .unset, .unset, .unset, .unset, .unset, .unset, .unset] [(.int (Int32.ofNat (25 - f))), (.int (Int32.ofNat u)), (.int (Int32.ofNat f))])) _
          refine XS.irem X0.here hx rfl (hb hby at_30) rfl (fun z => by have := (own_neq (a := 25 - f) (b := 0) (by omega) (by omega)).mp z; omega) ?_
          show Steps p.tables e below (s₁.setTop (mkF m 31 #[.val (.long q0), .second, .val (.long q1), .second, .val (.long q2), .second, .val (.int p3), .val (.int p4), .val (.int (Int32.ofNat f)), .val (.int (Int32.ofNat (f + r))), .unset, .unset, .unset, .unset, .unset, .unset, .unset, .unset] [(.int ((Int32.ofNat u) - (Int32.ofNat u) / (Int32.ofNat (25 - f)) * (Int32.ofNat (25 - f)))), (.int (Int32.ofNat f))])) _
          rw [eg]
          show Steps p.tables e below (s₁.setTop (mkF m 31 #[.val (.long q0), .second, .val (.long q1), .second, .val (.long q2), .second, .val (.int p3), .val (.int p4), .val (.int (Int32.ofNat f)), .val (.int (Int32.ofNat (f + r))), .unset, .unset, .unset, .unset, .unset, .unset, .unset, .unset] [(.int (Int32.ofNat g)), (.int (Int32.ofNat f))])) _
          refine XS.iadd X0.here hx rfl (hb hby at_31) rfl ?_
          show Steps p.tables e below (s₁.setTop (mkF m 32 #[.val (.long q0), .second, .val (.long q1), .second, .val (.long q2), .second, .val (.int p3), .val (.int p4), .val (.int (Int32.ofNat f)), .val (.int (Int32.ofNat (f + r))), .unset, .unset, .unset, .unset, .unset, .unset, .unset, .unset] [(.int ((Int32.ofNat f) + (Int32.ofNat g)))])) _
          rw [own_nadd f g]
          show Steps p.tables e below (s₁.setTop (mkF m 32 #[.val (.long q0), .second, .val (.long q1), .second, .val (.long q2), .second, .val (.int p3), .val (.int p4), .val (.int (Int32.ofNat f)), .val (.int (Int32.ofNat (f + r))), .unset, .unset, .unset, .unset, .unset, .unset, .unset, .unset] [(.int (Int32.ofNat (f + g)))])) _
          refine XS.istore X0.here hx rfl (hb hby at_32) rfl (l' := #[.val (.long q0), .second, .val (.long q1), .second, .val (.long q2), .second, .val (.int p3), .val (.int p4), .val (.int (Int32.ofNat f)), .val (.int (Int32.ofNat (f + r))), .val (.int (Int32.ofNat (f + g))), .unset, .unset, .unset, .unset, .unset, .unset, .unset]) rfl ?_
          show Steps p.tables e below (s₁.setTop (mkF m 34 #[.val (.long q0), .second, .val (.long q1), .second, .val (.long q2), .second, .val (.int p3), .val (.int p4), .val (.int (Int32.ofNat f)), .val (.int (Int32.ofNat (f + r))), .val (.int (Int32.ofNat (f + g))), .unset, .unset, .unset, .unset, .unset, .unset, .unset] [])) _
          refine XS.bipush X0.here hx rfl (hb hby at_34) ?_
          show Steps p.tables e below (s₁.setTop (mkF m 36 #[.val (.long q0), .second, .val (.long q1), .second, .val (.long q2), .second, .val (.int p3), .val (.int p4), .val (.int (Int32.ofNat f)), .val (.int (Int32.ofNat (f + r))), .val (.int (Int32.ofNat (f + g))), .unset, .unset, .unset, .unset, .unset, .unset, .unset] [(.int (24 : Int32))])) _
          refine st272 _ ?_
          show Steps p.tables e below (T272.setTop (mkF m 38 #[.val (.long q0), .second, .val (.long q1), .second, .val (.long q2), .second, .val (.int p3), .val (.int p4), .val (.int (Int32.ofNat f)), .val (.int (Int32.ofNat (f + r))), .val (.int (Int32.ofNat (f + g))), .unset, .unset, .unset, .unset, .unset, .unset, .unset] [(.ref b272)])) _
          refine XS.astore X272.here hx rfl (hb hby at_38) rfl rfl (l' := #[.val (.long q0), .second, .val (.long q1), .second, .val (.long q2), .second, .val (.int p3), .val (.int p4), .val (.int (Int32.ofNat f)), .val (.int (Int32.ofNat (f + r))), .val (.int (Int32.ofNat (f + g))), .val (.ref b272), .unset, .unset, .unset, .unset, .unset, .unset]) rfl ?_
          show Steps p.tables e below (T272.setTop (mkF m 40 #[.val (.long q0), .second, .val (.long q1), .second, .val (.long q2), .second, .val (.int p3), .val (.int p4), .val (.int (Int32.ofNat f)), .val (.int (Int32.ofNat (f + r))), .val (.int (Int32.ofNat (f + g))), .val (.ref b272), .unset, .unset, .unset, .unset, .unset, .unset] [])) _
          refine XS.aload X272.here hx rfl (hb hby at_40) rfl rfl ?_
          show Steps p.tables e below (T272.setTop (mkF m 42 #[.val (.long q0), .second, .val (.long q1), .second, .val (.long q2), .second, .val (.int p3), .val (.int p4), .val (.int (Int32.ofNat f)), .val (.int (Int32.ofNat (f + r))), .val (.int (Int32.ofNat (f + g))), .val (.ref b272), .unset, .unset, .unset, .unset, .unset, .unset] [(.ref b272)])) _
          refine XS.iconst X272.here hx rfl (hb hby at_42) ?_
          show Steps p.tables e below (T272.setTop (mkF m 43 #[.val (.long q0), .second, .val (.long q1), .second, .val (.long q2), .second, .val (.int p3), .val (.int p4), .val (.int (Int32.ofNat f)), .val (.int (Int32.ofNat (f + r))), .val (.int (Int32.ofNat (f + g))), .val (.ref b272), .unset, .unset, .unset, .unset, .unset, .unset] [(.int (0 : Int32)), (.ref b272)])) _
          refine XS.lloadN X272.here hx rfl (hb hby at_43) rfl ?_
          show Steps p.tables e below (T272.setTop (mkF m 44 #[.val (.long q0), .second, .val (.long q1), .second, .val (.long q2), .second, .val (.int p3), .val (.int p4), .val (.int (Int32.ofNat f)), .val (.int (Int32.ofNat (f + r))), .val (.int (Int32.ofNat (f + g))), .val (.ref b272), .unset, .unset, .unset, .unset, .unset, .unset] [(.long q0), (.int (0 : Int32)), (.ref b272)])) _
          refine XS.iload X272.here hx rfl (hb hby at_44) rfl ?_
          show Steps p.tables e below (T272.setTop (mkF m 46 #[.val (.long q0), .second, .val (.long q1), .second, .val (.long q2), .second, .val (.int p3), .val (.int p4), .val (.int (Int32.ofNat f)), .val (.int (Int32.ofNat (f + r))), .val (.int (Int32.ofNat (f + g))), .val (.ref b272), .unset, .unset, .unset, .unset, .unset, .unset] [(.int (Int32.ofNat f)), (.long q0), (.int (0 : Int32)), (.ref b272)])) _
          refine XS.iload X272.here hx rfl (hb hby at_46) rfl ?_
          show Steps p.tables e below (T272.setTop (mkF m 48 #[.val (.long q0), .second, .val (.long q1), .second, .val (.long q2), .second, .val (.int p3), .val (.int p4), .val (.int (Int32.ofNat f)), .val (.int (Int32.ofNat (f + r))), .val (.int (Int32.ofNat (f + g))), .val (.ref b272), .unset, .unset, .unset, .unset, .unset, .unset] [(.int (Int32.ofNat (f + g))), (.int (Int32.ofNat f)), (.long q0), (.int (0 : Int32)), (.ref b272)])) _
          refine st278 _ ?_
          show Steps p.tables e below (T278.setTop (mkF m 51 #[.val (.long q0), .second, .val (.long q1), .second, .val (.long q2), .second, .val (.int p3), .val (.int p4), .val (.int (Int32.ofNat f)), .val (.int (Int32.ofNat (f + r))), .val (.int (Int32.ofNat (f + g))), .val (.ref b272), .unset, .unset, .unset, .unset, .unset, .unset] [])) _
          refine XS.aload X278.here hx rfl (hb hby at_51) rfl rfl ?_
          show Steps p.tables e below (T278.setTop (mkF m 53 #[.val (.long q0), .second, .val (.long q1), .second, .val (.long q2), .second, .val (.int p3), .val (.int p4), .val (.int (Int32.ofNat f)), .val (.int (Int32.ofNat (f + r))), .val (.int (Int32.ofNat (f + g))), .val (.ref b272), .unset, .unset, .unset, .unset, .unset, .unset] [(.ref b272)])) _
          refine XS.bipush X278.here hx rfl (hb hby at_53) ?_
          show Steps p.tables e below (T278.setTop (mkF m 55 #[.val (.long q0), .second, .val (.long q1), .second, .val (.long q2), .second, .val (.int p3), .val (.int p4), .val (.int (Int32.ofNat f)), .val (.int (Int32.ofNat (f + r))), .val (.int (Int32.ofNat (f + g))), .val (.ref b272), .unset, .unset, .unset, .unset, .unset, .unset] [(.int (8 : Int32)), (.ref b272)])) _
          refine XS.lloadN X278.here hx rfl (hb hby at_55) rfl ?_
          show Steps p.tables e below (T278.setTop (mkF m 56 #[.val (.long q0), .second, .val (.long q1), .second, .val (.long q2), .second, .val (.int p3), .val (.int p4), .val (.int (Int32.ofNat f)), .val (.int (Int32.ofNat (f + r))), .val (.int (Int32.ofNat (f + g))), .val (.ref b272), .unset, .unset, .unset, .unset, .unset, .unset] [(.long q1), (.int (8 : Int32)), (.ref b272)])) _
          refine XS.iload X278.here hx rfl (hb hby at_56) rfl ?_
          show Steps p.tables e below (T278.setTop (mkF m 58 #[.val (.long q0), .second, .val (.long q1), .second, .val (.long q2), .second, .val (.int p3), .val (.int p4), .val (.int (Int32.ofNat f)), .val (.int (Int32.ofNat (f + r))), .val (.int (Int32.ofNat (f + g))), .val (.ref b272), .unset, .unset, .unset, .unset, .unset, .unset] [(.int (Int32.ofNat f)), (.long q1), (.int (8 : Int32)), (.ref b272)])) _
          refine XS.iload X278.here hx rfl (hb hby at_58) rfl ?_
          show Steps p.tables e below (T278.setTop (mkF m 60 #[.val (.long q0), .second, .val (.long q1), .second, .val (.long q2), .second, .val (.int p3), .val (.int p4), .val (.int (Int32.ofNat f)), .val (.int (Int32.ofNat (f + r))), .val (.int (Int32.ofNat (f + g))), .val (.ref b272), .unset, .unset, .unset, .unset, .unset, .unset] [(.int (Int32.ofNat (f + g))), (.int (Int32.ofNat f)), (.long q1), (.int (8 : Int32)), (.ref b272)])) _
          refine st281 _ ?_
          show Steps p.tables e below (T281.setTop (mkF m 63 #[.val (.long q0), .second, .val (.long q1), .second, .val (.long q2), .second, .val (.int p3), .val (.int p4), .val (.int (Int32.ofNat f)), .val (.int (Int32.ofNat (f + r))), .val (.int (Int32.ofNat (f + g))), .val (.ref b272), .unset, .unset, .unset, .unset, .unset, .unset] [])) _
          refine XS.aload X281.here hx rfl (hb hby at_63) rfl rfl ?_
          show Steps p.tables e below (T281.setTop (mkF m 65 #[.val (.long q0), .second, .val (.long q1), .second, .val (.long q2), .second, .val (.int p3), .val (.int p4), .val (.int (Int32.ofNat f)), .val (.int (Int32.ofNat (f + r))), .val (.int (Int32.ofNat (f + g))), .val (.ref b272), .unset, .unset, .unset, .unset, .unset, .unset] [(.ref b272)])) _
          refine XS.bipush X281.here hx rfl (hb hby at_65) ?_
          show Steps p.tables e below (T281.setTop (mkF m 67 #[.val (.long q0), .second, .val (.long q1), .second, .val (.long q2), .second, .val (.int p3), .val (.int p4), .val (.int (Int32.ofNat f)), .val (.int (Int32.ofNat (f + r))), .val (.int (Int32.ofNat (f + g))), .val (.ref b272), .unset, .unset, .unset, .unset, .unset, .unset] [(.int (16 : Int32)), (.ref b272)])) _
          refine XS.lload X281.here hx rfl (hb hby at_67) rfl ?_
          show Steps p.tables e below (T281.setTop (mkF m 69 #[.val (.long q0), .second, .val (.long q1), .second, .val (.long q2), .second, .val (.int p3), .val (.int p4), .val (.int (Int32.ofNat f)), .val (.int (Int32.ofNat (f + r))), .val (.int (Int32.ofNat (f + g))), .val (.ref b272), .unset, .unset, .unset, .unset, .unset, .unset] [(.long q2), (.int (16 : Int32)), (.ref b272)])) _
          refine XS.iload X281.here hx rfl (hb hby at_69) rfl ?_
          show Steps p.tables e below (T281.setTop (mkF m 71 #[.val (.long q0), .second, .val (.long q1), .second, .val (.long q2), .second, .val (.int p3), .val (.int p4), .val (.int (Int32.ofNat f)), .val (.int (Int32.ofNat (f + r))), .val (.int (Int32.ofNat (f + g))), .val (.ref b272), .unset, .unset, .unset, .unset, .unset, .unset] [(.int (Int32.ofNat f)), (.long q2), (.int (16 : Int32)), (.ref b272)])) _
          refine XS.iload X281.here hx rfl (hb hby at_71) rfl ?_
          show Steps p.tables e below (T281.setTop (mkF m 73 #[.val (.long q0), .second, .val (.long q1), .second, .val (.long q2), .second, .val (.int p3), .val (.int p4), .val (.int (Int32.ofNat f)), .val (.int (Int32.ofNat (f + r))), .val (.int (Int32.ofNat (f + g))), .val (.ref b272), .unset, .unset, .unset, .unset, .unset, .unset] [(.int (Int32.ofNat (f + g))), (.int (Int32.ofNat f)), (.long q2), (.int (16 : Int32)), (.ref b272)])) _
          refine st284 _ ?_
          show Steps p.tables e below (T284.setTop (mkF m 76 #[.val (.long q0), .second, .val (.long q1), .second, .val (.long q2), .second, .val (.int p3), .val (.int p4), .val (.int (Int32.ofNat f)), .val (.int (Int32.ofNat (f + r))), .val (.int (Int32.ofNat (f + g))), .val (.ref b272), .unset, .unset, .unset, .unset, .unset, .unset] [])) _
          refine XS.iload X284.here hx rfl (hb hby at_76) rfl ?_
          show Steps p.tables e below (T284.setTop (mkF m 78 #[.val (.long q0), .second, .val (.long q1), .second, .val (.long q2), .second, .val (.int p3), .val (.int p4), .val (.int (Int32.ofNat f)), .val (.int (Int32.ofNat (f + r))), .val (.int (Int32.ofNat (f + g))), .val (.ref b272), .unset, .unset, .unset, .unset, .unset, .unset] [(.int p3)])) _
          refine XS.sipush X284.here hx rfl (hb hby at_78) ?_
          show Steps p.tables e below (T284.setTop (mkF m 81 #[.val (.long q0), .second, .val (.long q1), .second, .val (.long q2), .second, .val (.int p3), .val (.int p4), .val (.int (Int32.ofNat f)), .val (.int (Int32.ofNat (f + r))), .val (.int (Int32.ofNat (f + g))), .val (.ref b272), .unset, .unset, .unset, .unset, .unset, .unset] [(.int (255 : Int32)), (.int p3)])) _
          refine XS.iand X284.here hx rfl (hb hby at_81) rfl ?_
          show Steps p.tables e below (T284.setTop (mkF m 82 #[.val (.long q0), .second, .val (.long q1), .second, .val (.long q2), .second, .val (.int p3), .val (.int p4), .val (.int (Int32.ofNat f)), .val (.int (Int32.ofNat (f + r))), .val (.int (Int32.ofNat (f + g))), .val (.ref b272), .unset, .unset, .unset, .unset, .unset, .unset] [(.int (p3 &&& (255 : Int32)))])) _
          rw [ea]
          show Steps p.tables e below (T284.setTop (mkF m 82 #[.val (.long q0), .second, .val (.long q1), .second, .val (.long q2), .second, .val (.int p3), .val (.int p4), .val (.int (Int32.ofNat f)), .val (.int (Int32.ofNat (f + r))), .val (.int (Int32.ofNat (f + g))), .val (.ref b272), .unset, .unset, .unset, .unset, .unset, .unset] [(.int (Int32.ofNat a))])) _
          refine XS.istore X284.here hx rfl (hb hby at_82) rfl (l' := #[.val (.long q0), .second, .val (.long q1), .second, .val (.long q2), .second, .val (.int p3), .val (.int p4), .val (.int (Int32.ofNat f)), .val (.int (Int32.ofNat (f + r))), .val (.int (Int32.ofNat (f + g))), .val (.ref b272), .val (.int (Int32.ofNat a)), .unset, .unset, .unset, .unset, .unset]) rfl ?_
          show Steps p.tables e below (T284.setTop (mkF m 84 #[.val (.long q0), .second, .val (.long q1), .second, .val (.long q2), .second, .val (.int p3), .val (.int p4), .val (.int (Int32.ofNat f)), .val (.int (Int32.ofNat (f + r))), .val (.int (Int32.ofNat (f + g))), .val (.ref b272), .val (.int (Int32.ofNat a)), .unset, .unset, .unset, .unset, .unset] [])) _
          refine XS.iload X284.here hx rfl (hb hby at_84) rfl ?_
          show Steps p.tables e below (T284.setTop (mkF m 86 #[.val (.long q0), .second, .val (.long q1), .second, .val (.long q2), .second, .val (.int p3), .val (.int p4), .val (.int (Int32.ofNat f)), .val (.int (Int32.ofNat (f + r))), .val (.int (Int32.ofNat (f + g))), .val (.ref b272), .val (.int (Int32.ofNat a)), .unset, .unset, .unset, .unset, .unset] [(.int p3)])) _
          refine XS.bipush X284.here hx rfl (hb hby at_86) ?_
          show Steps p.tables e below (T284.setTop (mkF m 88 #[.val (.long q0), .second, .val (.long q1), .second, .val (.long q2), .second, .val (.int p3), .val (.int p4), .val (.int (Int32.ofNat f)), .val (.int (Int32.ofNat (f + r))), .val (.int (Int32.ofNat (f + g))), .val (.ref b272), .val (.int (Int32.ofNat a)), .unset, .unset, .unset, .unset, .unset] [(.int (8 : Int32)), (.int p3)])) _
          refine XS.iushr X284.here hx rfl (hb hby at_88) rfl ?_
          show Steps p.tables e below (T284.setTop (mkF m 89 #[.val (.long q0), .second, .val (.long q1), .second, .val (.long q2), .second, .val (.int p3), .val (.int p4), .val (.int (Int32.ofNat f)), .val (.int (Int32.ofNat (f + r))), .val (.int (Int32.ofNat (f + g))), .val (.ref b272), .val (.int (Int32.ofNat a)), .unset, .unset, .unset, .unset, .unset] [(.int ((p3.toUInt32 >>> ((8 : Int32) &&& 31).toUInt32).toInt32))])) _
          refine XS.sipush X284.here hx rfl (hb hby at_89) ?_
          show Steps p.tables e below (T284.setTop (mkF m 92 #[.val (.long q0), .second, .val (.long q1), .second, .val (.long q2), .second, .val (.int p3), .val (.int p4), .val (.int (Int32.ofNat f)), .val (.int (Int32.ofNat (f + r))), .val (.int (Int32.ofNat (f + g))), .val (.ref b272), .val (.int (Int32.ofNat a)), .unset, .unset, .unset, .unset, .unset] [(.int (255 : Int32)), (.int ((p3.toUInt32 >>> ((8 : Int32) &&& 31).toUInt32).toInt32))])) _
          refine XS.iand X284.here hx rfl (hb hby at_92) rfl ?_
          show Steps p.tables e below (T284.setTop (mkF m 93 #[.val (.long q0), .second, .val (.long q1), .second, .val (.long q2), .second, .val (.int p3), .val (.int p4), .val (.int (Int32.ofNat f)), .val (.int (Int32.ofNat (f + r))), .val (.int (Int32.ofNat (f + g))), .val (.ref b272), .val (.int (Int32.ofNat a)), .unset, .unset, .unset, .unset, .unset] [(.int (((p3.toUInt32 >>> ((8 : Int32) &&& 31).toUInt32).toInt32) &&& (255 : Int32)))])) _
          rw [eb]
          show Steps p.tables e below (T284.setTop (mkF m 93 #[.val (.long q0), .second, .val (.long q1), .second, .val (.long q2), .second, .val (.int p3), .val (.int p4), .val (.int (Int32.ofNat f)), .val (.int (Int32.ofNat (f + r))), .val (.int (Int32.ofNat (f + g))), .val (.ref b272), .val (.int (Int32.ofNat a)), .unset, .unset, .unset, .unset, .unset] [(.int (Int32.ofNat b))])) _
          refine XS.istore X284.here hx rfl (hb hby at_93) rfl (l' := #[.val (.long q0), .second, .val (.long q1), .second, .val (.long q2), .second, .val (.int p3), .val (.int p4), .val (.int (Int32.ofNat f)), .val (.int (Int32.ofNat (f + r))), .val (.int (Int32.ofNat (f + g))), .val (.ref b272), .val (.int (Int32.ofNat a)), .val (.int (Int32.ofNat b)), .unset, .unset, .unset, .unset]) rfl ?_
          show Steps p.tables e below (T284.setTop (mkF m 95 #[.val (.long q0), .second, .val (.long q1), .second, .val (.long q2), .second, .val (.int p3), .val (.int p4), .val (.int (Int32.ofNat f)), .val (.int (Int32.ofNat (f + r))), .val (.int (Int32.ofNat (f + g))), .val (.ref b272), .val (.int (Int32.ofNat a)), .val (.int (Int32.ofNat b)), .unset, .unset, .unset, .unset] [])) _
          refine XS.iload X284.here hx rfl (hb hby at_95) rfl ?_
          show Steps p.tables e below (T284.setTop (mkF m 97 #[.val (.long q0), .second, .val (.long q1), .second, .val (.long q2), .second, .val (.int p3), .val (.int p4), .val (.int (Int32.ofNat f)), .val (.int (Int32.ofNat (f + r))), .val (.int (Int32.ofNat (f + g))), .val (.ref b272), .val (.int (Int32.ofNat a)), .val (.int (Int32.ofNat b)), .unset, .unset, .unset, .unset] [(.int p3)])) _
          refine XS.bipush X284.here hx rfl (hb hby at_97) ?_
          show Steps p.tables e below (T284.setTop (mkF m 99 #[.val (.long q0), .second, .val (.long q1), .second, .val (.long q2), .second, .val (.int p3), .val (.int p4), .val (.int (Int32.ofNat f)), .val (.int (Int32.ofNat (f + r))), .val (.int (Int32.ofNat (f + g))), .val (.ref b272), .val (.int (Int32.ofNat a)), .val (.int (Int32.ofNat b)), .unset, .unset, .unset, .unset] [(.int (16 : Int32)), (.int p3)])) _
          refine XS.iushr X284.here hx rfl (hb hby at_99) rfl ?_
          show Steps p.tables e below (T284.setTop (mkF m 100 #[.val (.long q0), .second, .val (.long q1), .second, .val (.long q2), .second, .val (.int p3), .val (.int p4), .val (.int (Int32.ofNat f)), .val (.int (Int32.ofNat (f + r))), .val (.int (Int32.ofNat (f + g))), .val (.ref b272), .val (.int (Int32.ofNat a)), .val (.int (Int32.ofNat b)), .unset, .unset, .unset, .unset] [(.int ((p3.toUInt32 >>> ((16 : Int32) &&& 31).toUInt32).toInt32))])) _
          refine XS.sipush X284.here hx rfl (hb hby at_100) ?_
          show Steps p.tables e below (T284.setTop (mkF m 103 #[.val (.long q0), .second, .val (.long q1), .second, .val (.long q2), .second, .val (.int p3), .val (.int p4), .val (.int (Int32.ofNat f)), .val (.int (Int32.ofNat (f + r))), .val (.int (Int32.ofNat (f + g))), .val (.ref b272), .val (.int (Int32.ofNat a)), .val (.int (Int32.ofNat b)), .unset, .unset, .unset, .unset] [(.int (255 : Int32)), (.int ((p3.toUInt32 >>> ((16 : Int32) &&& 31).toUInt32).toInt32))])) _
          refine XS.iand X284.here hx rfl (hb hby at_103) rfl ?_
          show Steps p.tables e below (T284.setTop (mkF m 104 #[.val (.long q0), .second, .val (.long q1), .second, .val (.long q2), .second, .val (.int p3), .val (.int p4), .val (.int (Int32.ofNat f)), .val (.int (Int32.ofNat (f + r))), .val (.int (Int32.ofNat (f + g))), .val (.ref b272), .val (.int (Int32.ofNat a)), .val (.int (Int32.ofNat b)), .unset, .unset, .unset, .unset] [(.int (((p3.toUInt32 >>> ((16 : Int32) &&& 31).toUInt32).toInt32) &&& (255 : Int32)))])) _
          rw [ecc]
          show Steps p.tables e below (T284.setTop (mkF m 104 #[.val (.long q0), .second, .val (.long q1), .second, .val (.long q2), .second, .val (.int p3), .val (.int p4), .val (.int (Int32.ofNat f)), .val (.int (Int32.ofNat (f + r))), .val (.int (Int32.ofNat (f + g))), .val (.ref b272), .val (.int (Int32.ofNat a)), .val (.int (Int32.ofNat b)), .unset, .unset, .unset, .unset] [(.int (Int32.ofNat cc))])) _
          refine XS.istore X284.here hx rfl (hb hby at_104) rfl (l' := #[.val (.long q0), .second, .val (.long q1), .second, .val (.long q2), .second, .val (.int p3), .val (.int p4), .val (.int (Int32.ofNat f)), .val (.int (Int32.ofNat (f + r))), .val (.int (Int32.ofNat (f + g))), .val (.ref b272), .val (.int (Int32.ofNat a)), .val (.int (Int32.ofNat b)), .val (.int (Int32.ofNat cc)), .unset, .unset, .unset]) rfl ?_
          show Steps p.tables e below (T284.setTop (mkF m 106 #[.val (.long q0), .second, .val (.long q1), .second, .val (.long q2), .second, .val (.int p3), .val (.int p4), .val (.int (Int32.ofNat f)), .val (.int (Int32.ofNat (f + r))), .val (.int (Int32.ofNat (f + g))), .val (.ref b272), .val (.int (Int32.ofNat a)), .val (.int (Int32.ofNat b)), .val (.int (Int32.ofNat cc)), .unset, .unset, .unset] [])) _
          refine XS.iload X284.here hx rfl (hb hby at_106) rfl ?_
          show Steps p.tables e below (T284.setTop (mkF m 108 #[.val (.long q0), .second, .val (.long q1), .second, .val (.long q2), .second, .val (.int p3), .val (.int p4), .val (.int (Int32.ofNat f)), .val (.int (Int32.ofNat (f + r))), .val (.int (Int32.ofNat (f + g))), .val (.ref b272), .val (.int (Int32.ofNat a)), .val (.int (Int32.ofNat b)), .val (.int (Int32.ofNat cc)), .unset, .unset, .unset] [(.int p3)])) _
          refine XS.bipush X284.here hx rfl (hb hby at_108) ?_
          show Steps p.tables e below (T284.setTop (mkF m 110 #[.val (.long q0), .second, .val (.long q1), .second, .val (.long q2), .second, .val (.int p3), .val (.int p4), .val (.int (Int32.ofNat f)), .val (.int (Int32.ofNat (f + r))), .val (.int (Int32.ofNat (f + g))), .val (.ref b272), .val (.int (Int32.ofNat a)), .val (.int (Int32.ofNat b)), .val (.int (Int32.ofNat cc)), .unset, .unset, .unset] [(.int (24 : Int32)), (.int p3)])) _
          refine XS.iushr X284.here hx rfl (hb hby at_110) rfl ?_
          show Steps p.tables e below (T284.setTop (mkF m 111 #[.val (.long q0), .second, .val (.long q1), .second, .val (.long q2), .second, .val (.int p3), .val (.int p4), .val (.int (Int32.ofNat f)), .val (.int (Int32.ofNat (f + r))), .val (.int (Int32.ofNat (f + g))), .val (.ref b272), .val (.int (Int32.ofNat a)), .val (.int (Int32.ofNat b)), .val (.int (Int32.ofNat cc)), .unset, .unset, .unset] [(.int ((p3.toUInt32 >>> ((24 : Int32) &&& 31).toUInt32).toInt32))])) _
          refine XS.sipush X284.here hx rfl (hb hby at_111) ?_
          show Steps p.tables e below (T284.setTop (mkF m 114 #[.val (.long q0), .second, .val (.long q1), .second, .val (.long q2), .second, .val (.int p3), .val (.int p4), .val (.int (Int32.ofNat f)), .val (.int (Int32.ofNat (f + r))), .val (.int (Int32.ofNat (f + g))), .val (.ref b272), .val (.int (Int32.ofNat a)), .val (.int (Int32.ofNat b)), .val (.int (Int32.ofNat cc)), .unset, .unset, .unset] [(.int (255 : Int32)), (.int ((p3.toUInt32 >>> ((24 : Int32) &&& 31).toUInt32).toInt32))])) _
          refine XS.iand X284.here hx rfl (hb hby at_114) rfl ?_
          show Steps p.tables e below (T284.setTop (mkF m 115 #[.val (.long q0), .second, .val (.long q1), .second, .val (.long q2), .second, .val (.int p3), .val (.int p4), .val (.int (Int32.ofNat f)), .val (.int (Int32.ofNat (f + r))), .val (.int (Int32.ofNat (f + g))), .val (.ref b272), .val (.int (Int32.ofNat a)), .val (.int (Int32.ofNat b)), .val (.int (Int32.ofNat cc)), .unset, .unset, .unset] [(.int (((p3.toUInt32 >>> ((24 : Int32) &&& 31).toUInt32).toInt32) &&& (255 : Int32)))])) _
          rw [ed]
          show Steps p.tables e below (T284.setTop (mkF m 115 #[.val (.long q0), .second, .val (.long q1), .second, .val (.long q2), .second, .val (.int p3), .val (.int p4), .val (.int (Int32.ofNat f)), .val (.int (Int32.ofNat (f + r))), .val (.int (Int32.ofNat (f + g))), .val (.ref b272), .val (.int (Int32.ofNat a)), .val (.int (Int32.ofNat b)), .val (.int (Int32.ofNat cc)), .unset, .unset, .unset] [(.int (Int32.ofNat d))])) _
          refine XS.istore X284.here hx rfl (hb hby at_115) rfl (l' := #[.val (.long q0), .second, .val (.long q1), .second, .val (.long q2), .second, .val (.int p3), .val (.int p4), .val (.int (Int32.ofNat f)), .val (.int (Int32.ofNat (f + r))), .val (.int (Int32.ofNat (f + g))), .val (.ref b272), .val (.int (Int32.ofNat a)), .val (.int (Int32.ofNat b)), .val (.int (Int32.ofNat cc)), .val (.int (Int32.ofNat d)), .unset, .unset]) rfl ?_
          show Steps p.tables e below (T284.setTop (mkF m 117 #[.val (.long q0), .second, .val (.long q1), .second, .val (.long q2), .second, .val (.int p3), .val (.int p4), .val (.int (Int32.ofNat f)), .val (.int (Int32.ofNat (f + r))), .val (.int (Int32.ofNat (f + g))), .val (.ref b272), .val (.int (Int32.ofNat a)), .val (.int (Int32.ofNat b)), .val (.int (Int32.ofNat cc)), .val (.int (Int32.ofNat d)), .unset, .unset] [])) _
          refine XS.iload X284.here hx rfl (hb hby at_117) rfl ?_
          show Steps p.tables e below (T284.setTop (mkF m 119 #[.val (.long q0), .second, .val (.long q1), .second, .val (.long q2), .second, .val (.int p3), .val (.int p4), .val (.int (Int32.ofNat f)), .val (.int (Int32.ofNat (f + r))), .val (.int (Int32.ofNat (f + g))), .val (.ref b272), .val (.int (Int32.ofNat a)), .val (.int (Int32.ofNat b)), .val (.int (Int32.ofNat cc)), .val (.int (Int32.ofNat d)), .unset, .unset] [(.int (Int32.ofNat a))])) _
          refine st288 _ ?_
          show Steps p.tables e below (T288.setTop (mkF m 122 #[.val (.long q0), .second, .val (.long q1), .second, .val (.long q2), .second, .val (.int p3), .val (.int p4), .val (.int (Int32.ofNat f)), .val (.int (Int32.ofNat (f + r))), .val (.int (Int32.ofNat (f + g))), .val (.ref b272), .val (.int (Int32.ofNat a)), .val (.int (Int32.ofNat b)), .val (.int (Int32.ofNat cc)), .val (.int (Int32.ofNat d)), .unset, .unset] [(.int (own_lenOf (Int32.ofNat a)))])) _
          refine XS.istore X288.here hx rfl (hb hby at_122) rfl (l' := #[.val (.long q0), .second, .val (.long q1), .second, .val (.long q2), .second, .val (.int p3), .val (.int p4), .val (.int (Int32.ofNat f)), .val (.int (Int32.ofNat (f + r))), .val (.int (Int32.ofNat (f + g))), .val (.ref b272), .val (.int (Int32.ofNat a)), .val (.int (Int32.ofNat b)), .val (.int (Int32.ofNat cc)), .val (.int (Int32.ofNat d)), .val (.int (own_lenOf (Int32.ofNat a))), .unset]) rfl ?_
          show Steps p.tables e below (T288.setTop (mkF m 124 #[.val (.long q0), .second, .val (.long q1), .second, .val (.long q2), .second, .val (.int p3), .val (.int p4), .val (.int (Int32.ofNat f)), .val (.int (Int32.ofNat (f + r))), .val (.int (Int32.ofNat (f + g))), .val (.ref b272), .val (.int (Int32.ofNat a)), .val (.int (Int32.ofNat b)), .val (.int (Int32.ofNat cc)), .val (.int (Int32.ofNat d)), .val (.int (own_lenOf (Int32.ofNat a))), .unset] [])) _
          refine XS.aload X288.here hx rfl (hb hby at_124) rfl rfl ?_
          show Steps p.tables e below (T288.setTop (mkF m 126 #[.val (.long q0), .second, .val (.long q1), .second, .val (.long q2), .second, .val (.int p3), .val (.int p4), .val (.int (Int32.ofNat f)), .val (.int (Int32.ofNat (f + r))), .val (.int (Int32.ofNat (f + g))), .val (.ref b272), .val (.int (Int32.ofNat a)), .val (.int (Int32.ofNat b)), .val (.int (Int32.ofNat cc)), .val (.int (Int32.ofNat d)), .val (.int (own_lenOf (Int32.ofNat a))), .unset] [(.ref b272)])) _
          refine XS.iload X288.here hx rfl (hb hby at_126) rfl ?_
          show Steps p.tables e below (T288.setTop (mkF m 128 #[.val (.long q0), .second, .val (.long q1), .second, .val (.long q2), .second, .val (.int p3), .val (.int p4), .val (.int (Int32.ofNat f)), .val (.int (Int32.ofNat (f + r))), .val (.int (Int32.ofNat (f + g))), .val (.ref b272), .val (.int (Int32.ofNat a)), .val (.int (Int32.ofNat b)), .val (.int (Int32.ofNat cc)), .val (.int (Int32.ofNat d)), .val (.int (own_lenOf (Int32.ofNat a))), .unset] [(.int (Int32.ofNat (f + r))), (.ref b272)])) _
          refine XS.iload X288.here hx rfl (hb hby at_128) rfl ?_
          show Steps p.tables e below (T288.setTop (mkF m 130 #[.val (.long q0), .second, .val (.long q1), .second, .val (.long q2), .second, .val (.int p3), .val (.int p4), .val (.int (Int32.ofNat f)), .val (.int (Int32.ofNat (f + r))), .val (.int (Int32.ofNat (f + g))), .val (.ref b272), .val (.int (Int32.ofNat a)), .val (.int (Int32.ofNat b)), .val (.int (Int32.ofNat cc)), .val (.int (Int32.ofNat d)), .val (.int (own_lenOf (Int32.ofNat a))), .unset] [(.int (Int32.ofNat a)), (.int (Int32.ofNat (f + r))), (.ref b272)])) _
          refine XS.i2b X288.here hx rfl (hb hby at_130) rfl ?_
          show Steps p.tables e below (T288.setTop (mkF m 131 #[.val (.long q0), .second, .val (.long q1), .second, .val (.long q2), .second, .val (.int p3), .val (.int p4), .val (.int (Int32.ofNat f)), .val (.int (Int32.ofNat (f + r))), .val (.int (Int32.ofNat (f + g))), .val (.ref b272), .val (.int (Int32.ofNat a)), .val (.int (Int32.ofNat b)), .val (.int (Int32.ofNat cc)), .val (.int (Int32.ofNat d)), .val (.int (own_lenOf (Int32.ofNat a))), .unset] [(.int (Int32.ofNat a).toInt8.toInt32), (.int (Int32.ofNat (f + r))), (.ref b272)])) _
          refine st290 _ ?_
          show Steps p.tables e below (T290.setTop (mkF m 132 #[.val (.long q0), .second, .val (.long q1), .second, .val (.long q2), .second, .val (.int p3), .val (.int p4), .val (.int (Int32.ofNat f)), .val (.int (Int32.ofNat (f + r))), .val (.int (Int32.ofNat (f + g))), .val (.ref b272), .val (.int (Int32.ofNat a)), .val (.int (Int32.ofNat b)), .val (.int (Int32.ofNat cc)), .val (.int (Int32.ofNat d)), .val (.int (own_lenOf (Int32.ofNat a))), .unset] [])) _
          refine XS.iload X290.here hx rfl (hb hby at_132) rfl ?_
          show Steps p.tables e below (T290.setTop (mkF m 134 #[.val (.long q0), .second, .val (.long q1), .second, .val (.long q2), .second, .val (.int p3), .val (.int p4), .val (.int (Int32.ofNat f)), .val (.int (Int32.ofNat (f + r))), .val (.int (Int32.ofNat (f + g))), .val (.ref b272), .val (.int (Int32.ofNat a)), .val (.int (Int32.ofNat b)), .val (.int (Int32.ofNat cc)), .val (.int (Int32.ofNat d)), .val (.int (own_lenOf (Int32.ofNat a))), .unset] [(.int (own_lenOf (Int32.ofNat a)))])) _
          refine XS.iconst X290.here hx rfl (hb hby at_134) ?_
          show Steps p.tables e below (T290.setTop (mkF m 135 #[.val (.long q0), .second, .val (.long q1), .second, .val (.long q2), .second, .val (.int p3), .val (.int p4), .val (.int (Int32.ofNat f)), .val (.int (Int32.ofNat (f + r))), .val (.int (Int32.ofNat (f + g))), .val (.ref b272), .val (.int (Int32.ofNat a)), .val (.int (Int32.ofNat b)), .val (.int (Int32.ofNat cc)), .val (.int (Int32.ofNat d)), .val (.int (own_lenOf (Int32.ofNat a))), .unset] [(.int (2 : Int32)), (.int (own_lenOf (Int32.ofNat a)))])) _
          refine XS.icmpNo X290.here hx rfl (hb hby at_135) rfl (flt k2).1 ?_
          show Steps p.tables e below (T290.setTop (mkF m 138 #[.val (.long q0), .second, .val (.long q1), .second, .val (.long q2), .second, .val (.int p3), .val (.int p4), .val (.int (Int32.ofNat f)), .val (.int (Int32.ofNat (f + r))), .val (.int (Int32.ofNat (f + g))), .val (.ref b272), .val (.int (Int32.ofNat a)), .val (.int (Int32.ofNat b)), .val (.int (Int32.ofNat cc)), .val (.int (Int32.ofNat d)), .val (.int (own_lenOf (Int32.ofNat a))), .unset] [])) _
          refine XS.aload X290.here hx rfl (hb hby at_138) rfl rfl ?_
          show Steps p.tables e below (T290.setTop (mkF m 140 #[.val (.long q0), .second, .val (.long q1), .second, .val (.long q2), .second, .val (.int p3), .val (.int p4), .val (.int (Int32.ofNat f)), .val (.int (Int32.ofNat (f + r))), .val (.int (Int32.ofNat (f + g))), .val (.ref b272), .val (.int (Int32.ofNat a)), .val (.int (Int32.ofNat b)), .val (.int (Int32.ofNat cc)), .val (.int (Int32.ofNat d)), .val (.int (own_lenOf (Int32.ofNat a))), .unset] [(.ref b272)])) _
          refine XS.iload X290.here hx rfl (hb hby at_140) rfl ?_
          show Steps p.tables e below (T290.setTop (mkF m 142 #[.val (.long q0), .second, .val (.long q1), .second, .val (.long q2), .second, .val (.int p3), .val (.int p4), .val (.int (Int32.ofNat f)), .val (.int (Int32.ofNat (f + r))), .val (.int (Int32.ofNat (f + g))), .val (.ref b272), .val (.int (Int32.ofNat a)), .val (.int (Int32.ofNat b)), .val (.int (Int32.ofNat cc)), .val (.int (Int32.ofNat d)), .val (.int (own_lenOf (Int32.ofNat a))), .unset] [(.int (Int32.ofNat (f + r))), (.ref b272)])) _
          refine XS.iconst X290.here hx rfl (hb hby at_142) ?_
          show Steps p.tables e below (T290.setTop (mkF m 143 #[.val (.long q0), .second, .val (.long q1), .second, .val (.long q2), .second, .val (.int p3), .val (.int p4), .val (.int (Int32.ofNat f)), .val (.int (Int32.ofNat (f + r))), .val (.int (Int32.ofNat (f + g))), .val (.ref b272), .val (.int (Int32.ofNat a)), .val (.int (Int32.ofNat b)), .val (.int (Int32.ofNat cc)), .val (.int (Int32.ofNat d)), .val (.int (own_lenOf (Int32.ofNat a))), .unset] [(.int (1 : Int32)), (.int (Int32.ofNat (f + r))), (.ref b272)])) _
          refine XS.iadd X290.here hx rfl (hb hby at_143) rfl ?_
          show Steps p.tables e below (T290.setTop (mkF m 144 #[.val (.long q0), .second, .val (.long q1), .second, .val (.long q2), .second, .val (.int p3), .val (.int p4), .val (.int (Int32.ofNat f)), .val (.int (Int32.ofNat (f + r))), .val (.int (Int32.ofNat (f + g))), .val (.ref b272), .val (.int (Int32.ofNat a)), .val (.int (Int32.ofNat b)), .val (.int (Int32.ofNat cc)), .val (.int (Int32.ofNat d)), .val (.int (own_lenOf (Int32.ofNat a))), .unset] [(.int ((Int32.ofNat (f + r)) + (1 : Int32))), (.ref b272)])) _
          refine XS.iload X290.here hx rfl (hb hby at_144) rfl ?_
          show Steps p.tables e below (T290.setTop (mkF m 146 #[.val (.long q0), .second, .val (.long q1), .second, .val (.long q2), .second, .val (.int p3), .val (.int p4), .val (.int (Int32.ofNat f)), .val (.int (Int32.ofNat (f + r))), .val (.int (Int32.ofNat (f + g))), .val (.ref b272), .val (.int (Int32.ofNat a)), .val (.int (Int32.ofNat b)), .val (.int (Int32.ofNat cc)), .val (.int (Int32.ofNat d)), .val (.int (own_lenOf (Int32.ofNat a))), .unset] [(.int (Int32.ofNat b)), (.int ((Int32.ofNat (f + r)) + (1 : Int32))), (.ref b272)])) _
          refine XS.i2b X290.here hx rfl (hb hby at_146) rfl ?_
          show Steps p.tables e below (T290.setTop (mkF m 147 #[.val (.long q0), .second, .val (.long q1), .second, .val (.long q2), .second, .val (.int p3), .val (.int p4), .val (.int (Int32.ofNat f)), .val (.int (Int32.ofNat (f + r))), .val (.int (Int32.ofNat (f + g))), .val (.ref b272), .val (.int (Int32.ofNat a)), .val (.int (Int32.ofNat b)), .val (.int (Int32.ofNat cc)), .val (.int (Int32.ofNat d)), .val (.int (own_lenOf (Int32.ofNat a))), .unset] [(.int (Int32.ofNat b).toInt8.toInt32), (.int ((Int32.ofNat (f + r)) + (1 : Int32))), (.ref b272)])) _
          refine st295 _ ?_
          show Steps p.tables e below (T295.setTop (mkF m 148 #[.val (.long q0), .second, .val (.long q1), .second, .val (.long q2), .second, .val (.int p3), .val (.int p4), .val (.int (Int32.ofNat f)), .val (.int (Int32.ofNat (f + r))), .val (.int (Int32.ofNat (f + g))), .val (.ref b272), .val (.int (Int32.ofNat a)), .val (.int (Int32.ofNat b)), .val (.int (Int32.ofNat cc)), .val (.int (Int32.ofNat d)), .val (.int (own_lenOf (Int32.ofNat a))), .unset] [])) _
          refine XS.iload X295.here hx rfl (hb hby at_148) rfl ?_
          show Steps p.tables e below (T295.setTop (mkF m 150 #[.val (.long q0), .second, .val (.long q1), .second, .val (.long q2), .second, .val (.int p3), .val (.int p4), .val (.int (Int32.ofNat f)), .val (.int (Int32.ofNat (f + r))), .val (.int (Int32.ofNat (f + g))), .val (.ref b272), .val (.int (Int32.ofNat a)), .val (.int (Int32.ofNat b)), .val (.int (Int32.ofNat cc)), .val (.int (Int32.ofNat d)), .val (.int (own_lenOf (Int32.ofNat a))), .unset] [(.int (own_lenOf (Int32.ofNat a)))])) _
          refine XS.iconst X295.here hx rfl (hb hby at_150) ?_
          show Steps p.tables e below (T295.setTop (mkF m 151 #[.val (.long q0), .second, .val (.long q1), .second, .val (.long q2), .second, .val (.int p3), .val (.int p4), .val (.int (Int32.ofNat f)), .val (.int (Int32.ofNat (f + r))), .val (.int (Int32.ofNat (f + g))), .val (.ref b272), .val (.int (Int32.ofNat a)), .val (.int (Int32.ofNat b)), .val (.int (Int32.ofNat cc)), .val (.int (Int32.ofNat d)), .val (.int (own_lenOf (Int32.ofNat a))), .unset] [(.int (3 : Int32)), (.int (own_lenOf (Int32.ofNat a)))])) _
          refine XS.icmpNo X295.here hx rfl (hb hby at_151) rfl (flt k3).1 ?_
          show Steps p.tables e below (T295.setTop (mkF m 154 #[.val (.long q0), .second, .val (.long q1), .second, .val (.long q2), .second, .val (.int p3), .val (.int p4), .val (.int (Int32.ofNat f)), .val (.int (Int32.ofNat (f + r))), .val (.int (Int32.ofNat (f + g))), .val (.ref b272), .val (.int (Int32.ofNat a)), .val (.int (Int32.ofNat b)), .val (.int (Int32.ofNat cc)), .val (.int (Int32.ofNat d)), .val (.int (own_lenOf (Int32.ofNat a))), .unset] [])) _
          refine XS.aload X295.here hx rfl (hb hby at_154) rfl rfl ?_
          show Steps p.tables e below (T295.setTop (mkF m 156 #[.val (.long q0), .second, .val (.long q1), .second, .val (.long q2), .second, .val (.int p3), .val (.int p4), .val (.int (Int32.ofNat f)), .val (.int (Int32.ofNat (f + r))), .val (.int (Int32.ofNat (f + g))), .val (.ref b272), .val (.int (Int32.ofNat a)), .val (.int (Int32.ofNat b)), .val (.int (Int32.ofNat cc)), .val (.int (Int32.ofNat d)), .val (.int (own_lenOf (Int32.ofNat a))), .unset] [(.ref b272)])) _
          refine XS.iload X295.here hx rfl (hb hby at_156) rfl ?_
          show Steps p.tables e below (T295.setTop (mkF m 158 #[.val (.long q0), .second, .val (.long q1), .second, .val (.long q2), .second, .val (.int p3), .val (.int p4), .val (.int (Int32.ofNat f)), .val (.int (Int32.ofNat (f + r))), .val (.int (Int32.ofNat (f + g))), .val (.ref b272), .val (.int (Int32.ofNat a)), .val (.int (Int32.ofNat b)), .val (.int (Int32.ofNat cc)), .val (.int (Int32.ofNat d)), .val (.int (own_lenOf (Int32.ofNat a))), .unset] [(.int (Int32.ofNat (f + r))), (.ref b272)])) _
          refine XS.iconst X295.here hx rfl (hb hby at_158) ?_
          show Steps p.tables e below (T295.setTop (mkF m 159 #[.val (.long q0), .second, .val (.long q1), .second, .val (.long q2), .second, .val (.int p3), .val (.int p4), .val (.int (Int32.ofNat f)), .val (.int (Int32.ofNat (f + r))), .val (.int (Int32.ofNat (f + g))), .val (.ref b272), .val (.int (Int32.ofNat a)), .val (.int (Int32.ofNat b)), .val (.int (Int32.ofNat cc)), .val (.int (Int32.ofNat d)), .val (.int (own_lenOf (Int32.ofNat a))), .unset] [(.int (2 : Int32)), (.int (Int32.ofNat (f + r))), (.ref b272)])) _
          refine XS.iadd X295.here hx rfl (hb hby at_159) rfl ?_
          show Steps p.tables e below (T295.setTop (mkF m 160 #[.val (.long q0), .second, .val (.long q1), .second, .val (.long q2), .second, .val (.int p3), .val (.int p4), .val (.int (Int32.ofNat f)), .val (.int (Int32.ofNat (f + r))), .val (.int (Int32.ofNat (f + g))), .val (.ref b272), .val (.int (Int32.ofNat a)), .val (.int (Int32.ofNat b)), .val (.int (Int32.ofNat cc)), .val (.int (Int32.ofNat d)), .val (.int (own_lenOf (Int32.ofNat a))), .unset] [(.int ((Int32.ofNat (f + r)) + (2 : Int32))), (.ref b272)])) _
          refine XS.iload X295.here hx rfl (hb hby at_160) rfl ?_
          show Steps p.tables e below (T295.setTop (mkF m 162 #[.val (.long q0), .second, .val (.long q1), .second, .val (.long q2), .second, .val (.int p3), .val (.int p4), .val (.int (Int32.ofNat f)), .val (.int (Int32.ofNat (f + r))), .val (.int (Int32.ofNat (f + g))), .val (.ref b272), .val (.int (Int32.ofNat a)), .val (.int (Int32.ofNat b)), .val (.int (Int32.ofNat cc)), .val (.int (Int32.ofNat d)), .val (.int (own_lenOf (Int32.ofNat a))), .unset] [(.int (Int32.ofNat cc)), (.int ((Int32.ofNat (f + r)) + (2 : Int32))), (.ref b272)])) _
          refine XS.i2b X295.here hx rfl (hb hby at_162) rfl ?_
          show Steps p.tables e below (T295.setTop (mkF m 163 #[.val (.long q0), .second, .val (.long q1), .second, .val (.long q2), .second, .val (.int p3), .val (.int p4), .val (.int (Int32.ofNat f)), .val (.int (Int32.ofNat (f + r))), .val (.int (Int32.ofNat (f + g))), .val (.ref b272), .val (.int (Int32.ofNat a)), .val (.int (Int32.ofNat b)), .val (.int (Int32.ofNat cc)), .val (.int (Int32.ofNat d)), .val (.int (own_lenOf (Int32.ofNat a))), .unset] [(.int (Int32.ofNat cc).toInt8.toInt32), (.int ((Int32.ofNat (f + r)) + (2 : Int32))), (.ref b272)])) _
          refine st300 _ ?_
          show Steps p.tables e below (T300.setTop (mkF m 164 #[.val (.long q0), .second, .val (.long q1), .second, .val (.long q2), .second, .val (.int p3), .val (.int p4), .val (.int (Int32.ofNat f)), .val (.int (Int32.ofNat (f + r))), .val (.int (Int32.ofNat (f + g))), .val (.ref b272), .val (.int (Int32.ofNat a)), .val (.int (Int32.ofNat b)), .val (.int (Int32.ofNat cc)), .val (.int (Int32.ofNat d)), .val (.int (own_lenOf (Int32.ofNat a))), .unset] [])) _
          refine XS.iload X300.here hx rfl (hb hby at_164) rfl ?_
          show Steps p.tables e below (T300.setTop (mkF m 166 #[.val (.long q0), .second, .val (.long q1), .second, .val (.long q2), .second, .val (.int p3), .val (.int p4), .val (.int (Int32.ofNat f)), .val (.int (Int32.ofNat (f + r))), .val (.int (Int32.ofNat (f + g))), .val (.ref b272), .val (.int (Int32.ofNat a)), .val (.int (Int32.ofNat b)), .val (.int (Int32.ofNat cc)), .val (.int (Int32.ofNat d)), .val (.int (own_lenOf (Int32.ofNat a))), .unset] [(.int (own_lenOf (Int32.ofNat a)))])) _
          refine XS.iconst X300.here hx rfl (hb hby at_166) ?_
          show Steps p.tables e below (T300.setTop (mkF m 167 #[.val (.long q0), .second, .val (.long q1), .second, .val (.long q2), .second, .val (.int p3), .val (.int p4), .val (.int (Int32.ofNat f)), .val (.int (Int32.ofNat (f + r))), .val (.int (Int32.ofNat (f + g))), .val (.ref b272), .val (.int (Int32.ofNat a)), .val (.int (Int32.ofNat b)), .val (.int (Int32.ofNat cc)), .val (.int (Int32.ofNat d)), .val (.int (own_lenOf (Int32.ofNat a))), .unset] [(.int (4 : Int32)), (.int (own_lenOf (Int32.ofNat a)))])) _
          refine XS.icmpNo X300.here hx rfl (hb hby at_167) rfl (flt k4).1 ?_
          show Steps p.tables e below (T300.setTop (mkF m 170 #[.val (.long q0), .second, .val (.long q1), .second, .val (.long q2), .second, .val (.int p3), .val (.int p4), .val (.int (Int32.ofNat f)), .val (.int (Int32.ofNat (f + r))), .val (.int (Int32.ofNat (f + g))), .val (.ref b272), .val (.int (Int32.ofNat a)), .val (.int (Int32.ofNat b)), .val (.int (Int32.ofNat cc)), .val (.int (Int32.ofNat d)), .val (.int (own_lenOf (Int32.ofNat a))), .unset] [])) _
          refine XS.aload X300.here hx rfl (hb hby at_170) rfl rfl ?_
          show Steps p.tables e below (T300.setTop (mkF m 172 #[.val (.long q0), .second, .val (.long q1), .second, .val (.long q2), .second, .val (.int p3), .val (.int p4), .val (.int (Int32.ofNat f)), .val (.int (Int32.ofNat (f + r))), .val (.int (Int32.ofNat (f + g))), .val (.ref b272), .val (.int (Int32.ofNat a)), .val (.int (Int32.ofNat b)), .val (.int (Int32.ofNat cc)), .val (.int (Int32.ofNat d)), .val (.int (own_lenOf (Int32.ofNat a))), .unset] [(.ref b272)])) _
          refine XS.iload X300.here hx rfl (hb hby at_172) rfl ?_
          show Steps p.tables e below (T300.setTop (mkF m 174 #[.val (.long q0), .second, .val (.long q1), .second, .val (.long q2), .second, .val (.int p3), .val (.int p4), .val (.int (Int32.ofNat f)), .val (.int (Int32.ofNat (f + r))), .val (.int (Int32.ofNat (f + g))), .val (.ref b272), .val (.int (Int32.ofNat a)), .val (.int (Int32.ofNat b)), .val (.int (Int32.ofNat cc)), .val (.int (Int32.ofNat d)), .val (.int (own_lenOf (Int32.ofNat a))), .unset] [(.int (Int32.ofNat (f + r))), (.ref b272)])) _
          refine XS.iconst X300.here hx rfl (hb hby at_174) ?_
          show Steps p.tables e below (T300.setTop (mkF m 175 #[.val (.long q0), .second, .val (.long q1), .second, .val (.long q2), .second, .val (.int p3), .val (.int p4), .val (.int (Int32.ofNat f)), .val (.int (Int32.ofNat (f + r))), .val (.int (Int32.ofNat (f + g))), .val (.ref b272), .val (.int (Int32.ofNat a)), .val (.int (Int32.ofNat b)), .val (.int (Int32.ofNat cc)), .val (.int (Int32.ofNat d)), .val (.int (own_lenOf (Int32.ofNat a))), .unset] [(.int (3 : Int32)), (.int (Int32.ofNat (f + r))), (.ref b272)])) _
          refine XS.iadd X300.here hx rfl (hb hby at_175) rfl ?_
          show Steps p.tables e below (T300.setTop (mkF m 176 #[.val (.long q0), .second, .val (.long q1), .second, .val (.long q2), .second, .val (.int p3), .val (.int p4), .val (.int (Int32.ofNat f)), .val (.int (Int32.ofNat (f + r))), .val (.int (Int32.ofNat (f + g))), .val (.ref b272), .val (.int (Int32.ofNat a)), .val (.int (Int32.ofNat b)), .val (.int (Int32.ofNat cc)), .val (.int (Int32.ofNat d)), .val (.int (own_lenOf (Int32.ofNat a))), .unset] [(.int ((Int32.ofNat (f + r)) + (3 : Int32))), (.ref b272)])) _
          refine XS.iload X300.here hx rfl (hb hby at_176) rfl ?_
          show Steps p.tables e below (T300.setTop (mkF m 178 #[.val (.long q0), .second, .val (.long q1), .second, .val (.long q2), .second, .val (.int p3), .val (.int p4), .val (.int (Int32.ofNat f)), .val (.int (Int32.ofNat (f + r))), .val (.int (Int32.ofNat (f + g))), .val (.ref b272), .val (.int (Int32.ofNat a)), .val (.int (Int32.ofNat b)), .val (.int (Int32.ofNat cc)), .val (.int (Int32.ofNat d)), .val (.int (own_lenOf (Int32.ofNat a))), .unset] [(.int (Int32.ofNat d)), (.int ((Int32.ofNat (f + r)) + (3 : Int32))), (.ref b272)])) _
          refine XS.i2b X300.here hx rfl (hb hby at_178) rfl ?_
          show Steps p.tables e below (T300.setTop (mkF m 179 #[.val (.long q0), .second, .val (.long q1), .second, .val (.long q2), .second, .val (.int p3), .val (.int p4), .val (.int (Int32.ofNat f)), .val (.int (Int32.ofNat (f + r))), .val (.int (Int32.ofNat (f + g))), .val (.ref b272), .val (.int (Int32.ofNat a)), .val (.int (Int32.ofNat b)), .val (.int (Int32.ofNat cc)), .val (.int (Int32.ofNat d)), .val (.int (own_lenOf (Int32.ofNat a))), .unset] [(.int (Int32.ofNat d).toInt8.toInt32), (.int ((Int32.ofNat (f + r)) + (3 : Int32))), (.ref b272)])) _
          refine st305 _ ?_
          show Steps p.tables e below (T305.setTop (mkF m 180 #[.val (.long q0), .second, .val (.long q1), .second, .val (.long q2), .second, .val (.int p3), .val (.int p4), .val (.int (Int32.ofNat f)), .val (.int (Int32.ofNat (f + r))), .val (.int (Int32.ofNat (f + g))), .val (.ref b272), .val (.int (Int32.ofNat a)), .val (.int (Int32.ofNat b)), .val (.int (Int32.ofNat cc)), .val (.int (Int32.ofNat d)), .val (.int (own_lenOf (Int32.ofNat a))), .unset] [])) _
          refine stz _ ?_
          show Steps p.tables e below (Tz.setTop (mkF m 255 #[.val (.long q0), .second, .val (.long q1), .second, .val (.long q2), .second, .val (.int p3), .val (.int p4), .val (.int (Int32.ofNat f)), .val (.int (Int32.ofNat (f + r))), .val (.int (Int32.ofNat (f + g))), .val (.ref b272), .val (.int (Int32.ofNat a)), .val (.int (Int32.ofNat b)), .val (.int (Int32.ofNat cc)), .val (.int (Int32.ofNat d)), .val (.int (own_lenOf (Int32.ofNat a))), s17] [(.int (1 : Int32))])) _
          exact retN Xz hx (t := .boolean) Bd.returns (by simp) (hb hby at_255) hr
        · show Qrm0 Z q0 q1 q2 p3 p4 h0 n0 _ Tz.heap _
          exact ⟨rfl, Nz⟩
set_option maxRecDepth 65536 in
set_option maxHeartbeats 40000000 in
theorem comes_1 {Post : Tables → Env → Array Value → State → Outcome → State → Prop} (hpost : ∀ tb e args s v u, (limb_1_1.after args s (.returned v) u = true ∧ limb_1_2.after args s (.returned v) u = true ∧ True) → FrameEnd s (.returned v) u (Jvm.fieldLocs frame_1_writes args s ++ Jvm.arrayLocs frame_1_arrays args s ++ Jvm.staticLocs frame_1_statics s) 16 128 → Post tb e args s (.returned v) u) :
    ArmFor flags0 classFile x code maxLocals ret World_1 tables_1 room_1 Calls_1 rest_1 Pre_1 Post := by
  intro l hfl _ _ p e ha hc hk s m args below hf hA hF happ hP
  obtain ⟨hcalls, hrest, hpre⟩ := hP
  obtain ⟨-, -, -, hnamed, -, -, -, hat⟩ := (Spec.applies_iff hf).mp happ
  obtain ⟨hg, hn⟩ := and_e (Cond.before_iff.mp (show (Jvm.Cond.and given_1 narrow_1).before args s = true from hpre))
  obtain ⟨hcount, hg0⟩ := and_e hg
  obtain ⟨ha0, hg1⟩ := and_e hg0
  obtain ⟨ha1, hg2⟩ := and_e hg1
  obtain ⟨ha2, hg3⟩ := and_e hg2
  obtain ⟨ha3, hg4⟩ := and_e hg3
  have ha4 := hg4
  obtain ⟨w0, w1, w2, w3, w4, rfl⟩ : ∃ w0 w1 w2 w3 w4 : Value, args = #[w0, w1, w2, w3, w4] := by
    have hs : args.size = 5 := by simpa [Cond.value, given_1] using hcount
    obtain ⟨L⟩ := args
    match L, hs with
    | [w0, w1, w2, w3, w4], _ => exact ⟨w0, w1, w2, w3, w4, rfl⟩
  have hw := fun d (hd : d ∈ tables_1) => atoms_spec (ws := Jvm.Cond.code x code maxLocals ret :: tables_1) hat d (List.mem_cons_of_mem _ hd)
  obtain ⟨i0, ei0⟩ := isL_v ha0
  obtain rfl : w0 = (.long i0) := Option.some.inj ei0
  obtain ⟨i1, ei1⟩ := isL_v ha1
  obtain rfl : w1 = (.long i1) := Option.some.inj ei1
  obtain ⟨i2, ei2⟩ := isL_v ha2
  obtain rfl : w2 = (.long i2) := Option.some.inj ei2
  obtain ⟨i3, ei3⟩ := is_v ha3
  obtain rfl : w3 = (.int i3) := Option.some.inj ei3
  obtain ⟨i4, ei4⟩ := is_v ha4
  obtain rfl : w4 = (.int i4) := Option.some.inj ei4
  obtain ⟨n, o, h1, h2, h3, _, L, rfl, ⟨rfl, N⟩, hq⟩ := rm0 l s _ hw tables_1 i0 i1 i2 i3 i4 s.heap s.heap.size (Nat.le_refl _)  p e ha hc hk s m _ below hf ((Spec.applies_iff_loose hf).mp happ).1 ⟨rfl, State.Warmed39.refl s, rfl⟩ trivial
  refine ⟨n, _, h1, h2, h3, hpost _ _ _ _ _ _ ⟨Cond.after_iff.mpr rfl, Cond.after_iff.mpr (eq_i res_at (Term.int_eval (1)) rfl), trivial⟩ ⟨hq.1, hq.2.1, (hq.2.2.sift fun y hy => Or.inr (N y hy)).mono (by decide) (by decide)⟩⟩
theorem main_1_1 : Claimed_1_1 := comes_1 fun _ _ _ _ _ _ h hF => ⟨h.1, hF⟩
theorem main_1_2 : Claimed_1_2 := comes_1 fun _ _ _ _ _ _ h hF => ⟨h.2.1, hF⟩
end Jvm.Pilot.@@N@@
namespace Jvm.Pilot.@@N@@
open Jvm Jvm.ClassFile Sem Op Lib Jvm.Free Jvm.Stand Jvm.Pilot.@@N@@.Jvm.D
/-! MADE BY PROGRAM (witnessworld.py) out of the Statement's table words and the real class files: 9 classes; the members and pool entries that the words name. The judged class is class 1, her method 1. -/
namespace start1
open Jvm.ClassFile
def u (s : String) : CpInfo := .utf8 (stringToUtf16 s)
/-- a pool by its gaps: so many unusable entries, then the entry; so many at the end -/
def gap : Nat → List CpInfo → List CpInfo
  | 0, r => r
  | n + 1, r => .unusable :: gap n r
def poolList (es : List (Nat × CpInfo)) (last : Nat) : List CpInfo := es.foldr (fun e r => gap e.1 (e.2 :: r)) (gap last [])
def pool (es : List (Nat × CpInfo)) (last : Nat) : Array CpInfo := ⟨poolList es last⟩
def fileOf (pool : Array CpInfo) (this : Nat) (attrs : Array Attribute := #[]) (ms : Array MethodInfo := #[]) (fl : Nat := 33) (sup : Nat := 0) (ifs : Array Nat := #[]) (fds : Array FieldInfo := #[]) : ClassFile where
  minorVersion := 0
  majorVersion := 65
  constantPool := pool
  accessFlags := fl
  thisClass := this
  superClass := sup
  interfaces := ifs
  fields := fds
  methods := ms
  attributes := attrs
def plain (name : String) (sup : Option ClassId) : Class where
  name := name
  kind := .ordinary
  loader := none
  accessFlags := 33
  super := sup
  interfaces := #[]
  cf := none
  fields := #[]
  methods := #[]
  instanceTypes := #[]
  staticTypes := #[]
  resolved := #[]
  callSites := []
  init := .initialized
  statics := none
  mirror := none

def pool0 : Array CpInfo := pool [(5, u "<init>"), (0, u "()V"), (1, .class_ 10), (1, u "java/lang/Object")] 113

def k0m0 : Method := { name := "<init>", desc := "()V", sig := { parameters := [], returnType := none }, accessFlags := 1, code := none }
/-- java/lang/Object -/
def k0 : Class := { plain "java/lang/Object" none with
  accessFlags := 33
  interfaces := #[]
  cf := some (fileOf pool0 8 #[] #[{ accessFlags := 1, nameIndex := 5, descriptorIndex := 6, attributes := #[] }] 33 0 #[] #[])
  fields := #[]
  methods := #[k0m0]
  instanceTypes := #[]
  staticTypes := #[]
  resolved := Array.replicate 124 none
  statics := none }

def pool1 : Array CpInfo := pool [(2, .class_ 4), (1, u "java/lang/Object"), (0, u "<init>"), (0, u "()V"), (0, .methodref 8 9), (0, .class_ 10), (0, .nameAndType 11 12), (0, u "com/example/reshelve/reshelve/Utf8FirstFaultPinLaw"), (0, u "fill8"), (0, u "([BIJII)V"), (0, .methodref 8 14), (0, .nameAndType 15 16), (0, u "lengthOf"), (0, u "(I)I"), (0, .methodref 8 18), (0, .nameAndType 19 20), (0, u "wellFormed"), (0, u "(IIIII)Z"), (0, .methodref 22 23), (0, .class_ 24), (0, .nameAndType 25 26), (0, u "com/example/reshelve/reshelve/Utf8"), (0, u "firstFault"), (0, u "([BII)I"), (0, .methodref 8 28), (0, .nameAndType 29 30), (0, u "cell"), (0, u "(JIIII)B"), (0, .methodref 8 32), (0, .nameAndType 33 34), (0, u "cont"), (0, u "(I)Z"), (0, .integer 55296), (0, .integer 57343), (0, .integer 65536), (0, .integer 1114111), (2, u "law"), (0, u "(JJJII)Z")] 5

def k1m0 : Method := { name := "<init>", desc := "()V", sig := { parameters := [], returnType := none }, accessFlags := 2, code := none }
def k1c1 : Code := { maxStack := 6, maxLocals := 18, code := code, exceptionTable := #[], attributes := #[] }
def k1m1 : Method := { name := "law", desc := "(JJJII)Z", sig := { parameters := [.long, .long, .long, .int, .int], returnType := some .boolean }, accessFlags := 9, code := some k1c1 }
def k1c2 : Code := { maxStack := 4, maxLocals := 7, code := method_3_code, exceptionTable := #[], attributes := #[] }
def k1m2 : Method := { name := "cell", desc := "(JIIII)B", sig := { parameters := [.long, .int, .int, .int, .int], returnType := some .byte }, accessFlags := 10, code := some k1c2 }
def k1c3 : Code := { maxStack := 8, maxLocals := 6, code := method_4_code, exceptionTable := #[], attributes := #[] }
def k1m3 : Method := { name := "fill8", desc := "([BIJII)V", sig := { parameters := [(.array .byte), .int, .long, .int, .int], returnType := none }, accessFlags := 10, code := some k1c3 }
def k1c4 : Code := { maxStack := 2, maxLocals := 1, code := method_5_code, exceptionTable := #[], attributes := #[] }
def k1m4 : Method := { name := "lengthOf", desc := "(I)I", sig := { parameters := [.int], returnType := some .int }, accessFlags := 10, code := some k1c4 }
def k1c5 : Code := { maxStack := 2, maxLocals := 1, code := method_6_code, exceptionTable := #[], attributes := #[] }
def k1m5 : Method := { name := "cont", desc := "(I)Z", sig := { parameters := [.int], returnType := some .boolean }, accessFlags := 10, code := some k1c5 }
def k1c6 : Code := { maxStack := 3, maxLocals := 6, code := method_7_code, exceptionTable := #[], attributes := #[] }
def k1m6 : Method := { name := "wellFormed", desc := "(IIIII)Z", sig := { parameters := [.int, .int, .int, .int, .int], returnType := some .boolean }, accessFlags := 10, code := some k1c6 }
/-- com/example/reshelve/reshelve/Utf8FirstFaultPinLaw -/
def k1 : Class := { plain "com/example/reshelve/reshelve/Utf8FirstFaultPinLaw" (some 0) with
  accessFlags := 49
  interfaces := #[]
  cf := some (fileOf pool1 8 #[] #[{ accessFlags := 2, nameIndex := 5, descriptorIndex := 6, attributes := #[] }, { accessFlags := 9, nameIndex := 41, descriptorIndex := 42, attributes := #[] }, { accessFlags := 10, nameIndex := 29, descriptorIndex := 30, attributes := #[] }, { accessFlags := 10, nameIndex := 11, descriptorIndex := 12, attributes := #[] }, { accessFlags := 10, nameIndex := 15, descriptorIndex := 16, attributes := #[] }, { accessFlags := 10, nameIndex := 33, descriptorIndex := 34, attributes := #[] }, { accessFlags := 10, nameIndex := 19, descriptorIndex := 20, attributes := #[] }] 49 2 #[] #[])
  fields := #[]
  methods := #[k1m0, k1m1, k1m2, k1m3, k1m4, k1m5, k1m6]
  instanceTypes := #[]
  staticTypes := #[]
  resolved := Array.replicate 48 none
  statics := none }

def pool2 : Array CpInfo := pool [(2, .class_ 4), (1, u "java/lang/Object"), (0, u "<init>"), (0, u "()V"), (14, .class_ 22), (0, u "com/example/reshelve/reshelve/Utf8"), (2, u "firstFault"), (0, u "([BII)I")] 8

def k2m0 : Method := { name := "<init>", desc := "()V", sig := { parameters := [], returnType := none }, accessFlags := 2, code := none }
def k2c1 : Code := { maxStack := 4, maxLocals := 10, code := prog_315_method_2_code, exceptionTable := #[], attributes := #[] }
def k2m1 : Method := { name := "firstFault", desc := "([BII)I", sig := { parameters := [(.array .byte), .int, .int], returnType := some .int }, accessFlags := 8, code := some k2c1 }
/-- com/example/reshelve/reshelve/Utf8 -/
def k2 : Class := { plain "com/example/reshelve/reshelve/Utf8" (some 0) with
  accessFlags := 48
  interfaces := #[]
  cf := some (fileOf pool2 21 #[] #[{ accessFlags := 2, nameIndex := 5, descriptorIndex := 6, attributes := #[] }, { accessFlags := 8, nameIndex := 25, descriptorIndex := 26, attributes := #[] }] 48 2 #[] #[])
  fields := #[]
  methods := #[k2m0, k2m1]
  instanceTypes := #[]
  staticTypes := #[]
  resolved := Array.replicate 35 none
  statics := none }

def pool3 : Array CpInfo := pool [(1, u "java/lang/Cloneable"), (0, .class_ 1), (0, u "java/lang/Object"), (0, .class_ 3)] 3

/-- java/lang/Cloneable -/
def k3 : Class := { plain "java/lang/Cloneable" (some 0) with
  accessFlags := 1537
  interfaces := #[]
  cf := some (fileOf pool3 2 #[] #[] 1537 4 #[] #[])
  fields := #[]
  methods := #[]
  instanceTypes := #[]
  staticTypes := #[]
  resolved := Array.replicate 8 none
  statics := none }

def pool4 : Array CpInfo := pool [(1, u "java/io/Serializable"), (0, .class_ 1), (0, u "java/lang/Object"), (0, .class_ 3)] 3

/-- java/io/Serializable -/
def k4 : Class := { plain "java/io/Serializable" (some 0) with
  accessFlags := 1537
  interfaces := #[]
  cf := some (fileOf pool4 2 #[] #[] 1537 4 #[] #[])
  fields := #[]
  methods := #[]
  instanceTypes := #[]
  staticTypes := #[]
  resolved := Array.replicate 8 none
  statics := none }

/-- the primitive byte -/
def k5 : Class := { plain "byte" none with kind := .primitive 'B', accessFlags := 0x411 }
/-- [B -/
def k6 : Class := { plain "[B" (some 0) with kind := .array 5 .byte, interfaces := #[3, 4], accessFlags := 1041 }

/-- the primitive int -/
def k7 : Class := { plain "int" none with kind := .primitive 'I', accessFlags := 0x411 }
/-- [I -/
def k8 : Class := { plain "[I" (some 0) with kind := .array 7 .int, interfaces := #[3, 4], accessFlags := 1041 }

def heap : Heap := #[]
def classes : Array Class := #[k0, k1, k2, k3, k4, k5, k6, k7, k8]
def interned : List (Array UInt16 × Addr) := []
def slotsUsed : Nat := 0
def theMethod : MethodId := ⟨1, 1⟩
def args0 : Array Value := #[.long 1, .long 2, .long 3, .int 4, .int 5]
def aboutOver (below : List Frame) : State where
  vm := { classes := classes, interned := interned.toArray }
  heap := heap
  slotsUsed := slotsUsed
  threads := #[{ frames := .invoking theMethod args0 :: below }]
def below0 : List Frame := [.native { method := ⟨0, 0⟩, args := #[] }]
def about1 : State := aboutOver below0
def p0 : Program := .bare "" "" ""
def e0 : Env := launch0.env 0 0 0
theorem w_frames : about1.frames = Frame.invoking theMethod args0 :: below0 := rfl
set_option maxRecDepth 65536 in
theorem w_args : argsFit about1.vm theMethod args0 = true := by decide +kernel
set_option maxRecDepth 65536 in
theorem w_heap : heapFits about1 = true := by decide +kernel
set_option maxRecDepth 65536 in
theorem w_runnable : about1.curStatus? = some .runnable := by decide +kernel
set_option maxRecDepth 65536 in
theorem w_alone : about1.alone = true := by decide +kernel
set_option maxRecDepth 65536 in
theorem w_named : about1.methodNamed? x = some theMethod := by decide +kernel
set_option maxRecDepth 65536 in
theorem w_hears : about1.hears theMethod below0 = true := by decide +kernel
set_option maxRecDepth 65536 in
theorem w_ripe : about1.ripe theMethod args0 below0 = true := by decide +kernel
theorem w_running : about1.status = .running := rfl
set_option maxRecDepth 65536 in
theorem w_room : about1.hasRoom e0.platform room_1 = true :=
  launch0.hasRoom_least _ room_1 (by decide +kernel) (by decide +kernel) (by decide +kernel) (by decide +kernel) (by decide +kernel) (by decide +kernel)
theorem allAtoms_all (ts : List Jvm.Cond) (a : Array Jvm.Value) (st : Jvm.State) : (allAtoms ts).before a st = ts.all (fun c => c.before a st) := by
  induction ts with
  | nil => rfl
  | cons c t ih =>
    show (Jvm.Cond.and c (allAtoms t)).before a st = _
    rw [Jvm.Cond.before_and, ih, List.all_cons]
def words1 : List Jvm.Cond := Jvm.Cond.code x code maxLocals ret :: tables_1
/-- a 'code' word, met by the world's own term for the bytes: nothing is compared byte by byte -/
theorem code_word {y : MethodName} {bytes : ByteArray} {mx : Nat} {rt : Option FieldType} {a : Array Value} {s : State} {m : MethodId} {meth : Method} {c : Code} (h1 : s.methodNamed? y = some m) (h2 : s.vm.method? m = some meth) (h3 : meth.code = some c) (h4 : c.code = bytes)
    (h5 : (c.maxLocals == mx && c.exceptionTable.isEmpty && decide (c.maxStack ≤ mostOperands) && decide (meth.sig.returnType = rt) && !meth.locks && decide (parseMethodDescriptor y.desc = some meth.sig)) = true) : (Jvm.Cond.code y bytes mx rt).before a s = true := by
  simp only [Bool.and_eq_true, beq_iff_eq, Bool.not_eq_true', decide_eq_true_eq] at h5
  obtain ⟨⟨⟨⟨⟨g1, g2⟩, g3⟩, g4⟩, g5⟩, g6⟩ := h5
  simp [Cond.before, Cond.holds, Cond.value, h1, h2, h3, h4, g1, g2, g3, g4, g5, g6]
def isCode : Jvm.Cond → Bool
  | .code _ _ _ _ => true
  | _ => false
theorem all_split {L : List Jvm.Cond} {P : Jvm.Cond → Bool} (h1 : L.all (fun c => isCode c || P c) = true) (h2 : ∀ c ∈ L.filter isCode, P c = true) : L.all P = true := by
  refine List.all_eq_true.mpr fun c hc => ?_
  have h := List.all_eq_true.mp h1 c hc
  rcases Bool.eq_false_or_eq_true (isCode c) with hi | hi
  · exact h2 c (List.mem_filter.mpr ⟨hc, hi⟩)
  · simpa [hi] using h
set_option maxRecDepth 65536 in
theorem w_c0 : (Jvm.Cond.code x code maxLocals ret).before args0 about1 = true := code_word (m := ⟨1, 1⟩) (meth := k1m1) (c := k1c1) (by decide +kernel) rfl rfl rfl (by decide +kernel)
set_option maxRecDepth 65536 in
theorem w_c1 : (Jvm.Cond.code ({ cls := "com/example/reshelve/reshelve/Utf8FirstFaultPinLaw", name := "fill8", desc := "([BIJII)V" } : Jvm.MethodName) method_4_code (6 : Nat) (Option.none : Option Jvm.ClassFile.FieldType)).before args0 about1 = true := code_word (m := ⟨1, 3⟩) (meth := k1m3) (c := k1c3) (by decide +kernel) rfl rfl rfl (by decide +kernel)
set_option maxRecDepth 65536 in
theorem w_c2 : (Jvm.Cond.code ({ cls := "com/example/reshelve/reshelve/Utf8FirstFaultPinLaw", name := "cell", desc := "(JIIII)B" } : Jvm.MethodName) method_3_code (7 : Nat) (Option.some Jvm.ClassFile.FieldType.byte)).before args0 about1 = true := code_word (m := ⟨1, 2⟩) (meth := k1m2) (c := k1c2) (by decide +kernel) rfl rfl rfl (by decide +kernel)
set_option maxRecDepth 65536 in
theorem w_c3 : (Jvm.Cond.code ({ cls := "com/example/reshelve/reshelve/Utf8FirstFaultPinLaw", name := "lengthOf", desc := "(I)I" } : Jvm.MethodName) method_5_code (1 : Nat) (Option.some Jvm.ClassFile.FieldType.int)).before args0 about1 = true := code_word (m := ⟨1, 4⟩) (meth := k1m4) (c := k1c4) (by decide +kernel) rfl rfl rfl (by decide +kernel)
set_option maxRecDepth 65536 in
theorem w_c4 : (Jvm.Cond.code ({ cls := "com/example/reshelve/reshelve/Utf8", name := "firstFault", desc := "([BII)I" } : Jvm.MethodName) prog_315_method_2_code (10 : Nat) (Option.some Jvm.ClassFile.FieldType.int)).before args0 about1 = true := code_word (m := ⟨2, 1⟩) (meth := k2m1) (c := k2c1) (by decide +kernel) rfl rfl rfl (by decide +kernel)
set_option maxRecDepth 65536 in
theorem w_c5 : (Jvm.Cond.code ({ cls := "com/example/reshelve/reshelve/Utf8FirstFaultPinLaw", name := "wellFormed", desc := "(IIIII)Z" } : Jvm.MethodName) method_7_code (6 : Nat) (Option.some Jvm.ClassFile.FieldType.boolean)).before args0 about1 = true := code_word (m := ⟨1, 6⟩) (meth := k1m6) (c := k1c6) (by decide +kernel) rfl rfl rfl (by decide +kernel)
set_option maxRecDepth 65536 in
theorem w_c6 : (Jvm.Cond.code ({ cls := "com/example/reshelve/reshelve/Utf8FirstFaultPinLaw", name := "cont", desc := "(I)Z" } : Jvm.MethodName) method_6_code (1 : Nat) (Option.some Jvm.ClassFile.FieldType.boolean)).before args0 about1 = true := code_word (m := ⟨1, 5⟩) (meth := k1m5) (c := k1c5) (by decide +kernel) rfl rfl rfl (by decide +kernel)
def codes1 : List Jvm.Cond := [Jvm.Cond.code x code maxLocals ret, Jvm.Cond.code ({ cls := "com/example/reshelve/reshelve/Utf8FirstFaultPinLaw", name := "fill8", desc := "([BIJII)V" } : Jvm.MethodName) method_4_code (6 : Nat) (Option.none : Option Jvm.ClassFile.FieldType), Jvm.Cond.code ({ cls := "com/example/reshelve/reshelve/Utf8FirstFaultPinLaw", name := "cell", desc := "(JIIII)B" } : Jvm.MethodName) method_3_code (7 : Nat) (Option.some Jvm.ClassFile.FieldType.byte), Jvm.Cond.code ({ cls := "com/example/reshelve/reshelve/Utf8FirstFaultPinLaw", name := "lengthOf", desc := "(I)I" } : Jvm.MethodName) method_5_code (1 : Nat) (Option.some Jvm.ClassFile.FieldType.int), Jvm.Cond.code ({ cls := "com/example/reshelve/reshelve/Utf8", name := "firstFault", desc := "([BII)I" } : Jvm.MethodName) prog_315_method_2_code (10 : Nat) (Option.some Jvm.ClassFile.FieldType.int), Jvm.Cond.code ({ cls := "com/example/reshelve/reshelve/Utf8FirstFaultPinLaw", name := "wellFormed", desc := "(IIIII)Z" } : Jvm.MethodName) method_7_code (6 : Nat) (Option.some Jvm.ClassFile.FieldType.boolean), Jvm.Cond.code ({ cls := "com/example/reshelve/reshelve/Utf8FirstFaultPinLaw", name := "cont", desc := "(I)Z" } : Jvm.MethodName) method_6_code (1 : Nat) (Option.some Jvm.ClassFile.FieldType.boolean)]
set_option maxRecDepth 65536 in
theorem codes_eq : words1.filter isCode = codes1 := rfl
theorem w_codes : ∀ c ∈ words1.filter isCode, c.before args0 about1 = true := by
  rw [codes_eq]
  intro c hc
  simp only [codes1, List.mem_cons, List.not_mem_nil, or_false] at hc
  rcases hc with rfl | rfl | rfl | rfl | rfl | rfl | rfl
  · exact w_c0
  · exact w_c1
  · exact w_c2
  · exact w_c3
  · exact w_c4
  · exact w_c5
  · exact w_c6
set_option maxRecDepth 65536 in
theorem w_t1 : (words1.take 24).all (fun c => isCode c || c.before args0 about1) = true := by decide +kernel
set_option maxRecDepth 65536 in
theorem w_t2 : (words1.drop 24).all (fun c => isCode c || c.before args0 about1) = true := by decide +kernel
theorem w_tables : (allAtoms (Jvm.Cond.code x code maxLocals ret :: tables_1)).before args0 about1 = true := by
  rw [allAtoms_all]
  show words1.all (fun c => c.before args0 about1) = true
  refine all_split ?_ w_codes
  rw [← List.take_append_drop 24 words1, List.all_append, w_t1, w_t2]
  rfl
set_option maxRecDepth 65536 in
theorem w_case : (Jvm.Cond.and given_1 narrow_1).before args0 about1 = true := by decide +kernel
theorem w_applies : (headSpec (Jvm.Cond.code x code maxLocals ret :: tables_1) room_1).applies x e0.platform about1 = true :=
  (Spec.applies_iff w_frames).mpr ⟨w_running, w_runnable, w_alone, w_named, w_hears, w_ripe, w_room, w_tables⟩
theorem atStart : AtStart classFile x code maxLocals ret World_1 tables_1 room_1 Calls_1 rest_1 Pre_1 launch0 p0 e0 about1 theMethod args0 below0 :=
  ⟨lists_1, trivial, launch0.admits_env _ _ _, launch0.least_env, fairChoices_fair.cas, fairChoices_fair.clock, w_frames, w_args, w_heap, w_applies, trivial, trivial, w_case⟩
end start1
theorem witness_1 : WitnessClaimed_1 := ⟨start1.p0, start1.e0, start1.about1, start1.theMethod, start1.args0, start1.below0, start1.atStart⟩
end Jvm.Pilot.@@N@@
