import JvmDerived
import JvmDerived.Pilot.@@N@@Statement
import JvmDerived.Pilot.@@N@@Code
set_option linter.unusedVariables false
set_option linter.unusedSimpArgs false
namespace Jvm.RoadKit
open Sem ClassFile Op Lib Jvm.Stand Jvm.Free Jvm.LawKit
section New
variable {p : Program} {l : Launch} {e : Env} {R : Room} {s : State} {m : MethodId} {args : Array Value} {below : List Frame} {meth : Method} {c : Code} {T : State} {locs : List Loc} {cells slots : Nat}
theorem retI (X : Stand p l e R s m args below meth c T locs cells slots) (hx : p.tables.exec = Jvm.exec) {pc : Nat} {Ls : Array Slot} {z : Int32} {rest : List Value} (hret : meth.sig.returnType = some .int) (hd : decode c.code pc = .ok (.ireturn, 1)) {fs : List Frame}
    (hl : ∀ (f : JFrame) (acts : List Action), f.method = m → f.locked = none → f.entered = [] → (doReturn e (T.setTop f) acts (some (.int z))).1 = T.setFrames fs) : Steps p.tables e below (T.setTop (mkF m pc Ls (.int z :: rest))) (T.setFrames fs) := by
  have hm' : T.vm.method? m = some meth := X.method'
  have hn : narrow .int (.int z) = .int z := rfl
  show Steps p.tables e below (T.setTop { method := m, pc := pc, locals := Ls, stack := _ :: rest, locked := none }) _
  jvm_step X.here [X.here.top, hx, hd, hm', hret, hn]
  first | (intro acts; rw [hl _ acts rfl rfl rfl]) | rw [hl _ _ rfl rfl rfl]
  exact Steps.refl _
end New
end Jvm.RoadKit
/- laws to paste: Road.backV (cut by pick.py; bodies as the Statement names them) -/
namespace Jvm.Pilot.@@N@@
namespace StrChars
open Jvm Sem ClassFile Op Lib Jvm.Stand Jvm.Free.XT Jvm.Free.ALB Jvm.Free.JM Jvm.Free
open Jvm.Lib.Cold (StaticIs)
/-- a char array whose places are chars -/
def Ch (a : Addr) (A : Cell) (U : State) : Prop := Arr .char a A U ∧ Typed .char A
theorem Ch.mv {a : Addr} {A : Cell} {U U' : State} (h : Ch a A U) (hal : U.vm.Alike U'.vm) (hh : U'.heap = U.heap) : Ch a A U' := ⟨h.1.mv hal hh, h.2⟩
theorem Ch.keep {a : Addr} {A : Cell} {U U' : State} (h : Ch a A U) (hal : U.vm.Alike U'.vm) (hk : U'.heap[a]? = some A) : Ch a A U' := ⟨h.1.keep hal hk, h.2⟩
/-- what place i of a char[]'s cell holds -/
def cv (A : Cell) (i : Nat) : Int32 := match A.slots[i]? with | some (.int x) => x | _ => 0
theorem Ch.get {a : Addr} {A : Cell} {U : State} (h : Ch a A U) {i : Nat} (hi : i < A.slots.size) : A.slots[i]? = some (.int (cv A i)) := by
  have e := Array.getElem?_eq_getElem hi
  have f := h.2 i _ e
  unfold cv; rw [e]
  generalize A.slots[i] = v at f
  cases v <;> simp [fits] at f ⊢
/-- the byte that i2b leaves of a char -/
def lo8 (x : Int32) : Int32 := x.toInt8.toInt32
theorem fits_lo8 (y : Int32) : fits .byte (.int (lo8 y)) = true := by
  have h1 := y.toInt8.le_toInt
  have h2 := y.toInt8.toInt_lt
  simp only [lo8, fits, Bool.and_eq_true, decide_eq_true_eq, Int32.le_iff_toInt_le, Int8.toInt_toInt32, show (-128 : Int32).toInt = -128 from by decide, show (127 : Int32).toInt = 127 from by decide]
  omega
/-- A' is A but that each place j of lo .. hi - 1 holds f j -/
def Laid (A A' : Cell) (lo hi : Nat) (f : Nat → Value) : Prop := A'.cls = A.cls ∧ A'.vm = A.vm ∧ A'.slots.size = A.slots.size ∧ ∀ i, A'.slots[i]? = if lo ≤ i ∧ i < hi then some (f i) else A.slots[i]?
theorem Laid.zero (A : Cell) (lo : Nat) (f : Nat → Value) : Laid A A lo (lo + 0) f := ⟨rfl, rfl, rfl, fun i => by rw [if_neg (by omega)]⟩
theorem Laid.step {A Ak : Cell} {lo k : Nat} {f : Nat → Value} {v : Value} (h : Laid A Ak lo k f) (hlo : lo ≤ k) (hk : k < Ak.slots.size) (hv : v = f k) : Laid A (Ak.setSlot k v) lo (k + 1) f := by
  refine ⟨h.1, h.2.1, by simpa [Cell.setSlot] using h.2.2.1, fun i => ?_⟩
  by_cases e : k = i
  · subst e; rw [Cell.slots_setSlot_self v hk, if_pos (by omega), hv]
  · rw [Cell.slots_setSlot_ne v e, h.2.2.2 i]
    by_cases q : lo ≤ i ∧ i < k
    · rw [if_pos q, if_pos (by omega)]
    · rw [if_neg q, if_neg (by omega)]
def U16 : String := "java/lang/StringUTF16"
namespace Cmp5
def yN : MethodName := ⟨"java/lang/StringUTF16", "compress", "([CI[BII)I"⟩
abbrev yB : ByteArray := jdk_52_method_21_code
theorem d0 : decode yB 0 = .ok (.iconst 0, 1) := by decide +kernel
theorem d1 : decode yB 1 = .ok (.istore 5, 2) := by decide +kernel
theorem d3 : decode yB 3 = .ok (.iload 5, 2) := by decide +kernel
theorem d5 : decode yB 5 = .ok (.iload 4, 2) := by decide +kernel
theorem d7 : decode yB 7 = .ok (.if_icmp (.ge) 37, 3) := by decide +kernel
theorem d10 : decode yB 10 = .ok (.aload_n 0, 1) := by decide +kernel
theorem d11 : decode yB 11 = .ok (.iload_n 1, 1) := by decide +kernel
theorem d12 : decode yB 12 = .ok (.caload, 1) := by decide +kernel
theorem d13 : decode yB 13 = .ok (.istore 6, 2) := by decide +kernel
theorem d15 : decode yB 15 = .ok (.iload 6, 2) := by decide +kernel
theorem d17 : decode yB 17 = .ok (.sipush 255, 3) := by decide +kernel
theorem d20 : decode yB 20 = .ok (.if_icmp (.le) 6, 3) := by decide +kernel
theorem d26 : decode yB 26 = .ok (.aload_n 2, 1) := by decide +kernel
theorem d27 : decode yB 27 = .ok (.iload_n 3, 1) := by decide +kernel
theorem d28 : decode yB 28 = .ok (.iload 6, 2) := by decide +kernel
theorem d30 : decode yB 30 = .ok (.i2b, 1) := by decide +kernel
theorem d31 : decode yB 31 = .ok (.bastore, 1) := by decide +kernel
theorem d32 : decode yB 32 = .ok (.iinc 1 1, 3) := by decide +kernel
theorem d35 : decode yB 35 = .ok (.iinc 3 1, 3) := by decide +kernel
theorem d38 : decode yB 38 = .ok (.iinc 5 1, 3) := by decide +kernel
theorem d41 : decode yB 41 = .ok (.goto (-38), 3) := by decide +kernel
theorem d44 : decode yB 44 = .ok (.iload 4, 2) := by decide +kernel
theorem d46 : decode yB 46 = .ok (.ireturn, 1) := by decide +kernel
def site : List Cond := []
def tab : Cond := tabOf yN yB 7 (some .int) site
def P (b : Addr) (A : Cell) (d : Addr) (B : Cell) (o q len : Nat) (args : Array Value) (s : State) : Prop := args = #[.ref b, .int (Int32.ofNat o), .ref d, .int (Int32.ofNat q), .int (Int32.ofNat len)] ∧ Ch b A s ∧ Arr .byte d B s ∧ b ≠ d ∧ o + len ≤ A.slots.size ∧ q + len ≤ B.slots.size ∧ ∀ i, i < len → ¬ 255 < cv A (o + i)
def E (b : Addr) (A : Cell) (d : Addr) (B : Cell) (o q len : Nat) (r : Option Value) (s u : State) : Prop := r = some (.int (Int32.ofNat len)) ∧ ∃ B', Put d B' s u ∧ Laid B B' q (q + len) (fun j => Value.int (lo8 (cv A (o + (j - q)))))
/-- no char of the range above 255: len; the places written hold each char's low byte -/
theorem law (l : Launch) (b : Addr) (A : Cell) (d : Addr) (B : Cell) (o q len : Nat) : Law l yN 5 5 0 0 yB 7 (some .int) site (P b A d B o q len) (E b A d B o q len) (copyLocs d q len) 0 0 := by
  refine Law.of_walk (plainFor_of_name (by decide +kernel)) (by decide +kernel) (by decide +kernel) (by decide) (fun _ _ h => by rw [h.1]; rfl) (fun _ U U' hal hh h => ⟨h.1, h.2.1.mv hal hh, h.2.2.1.mv hal hh, h.2.2.2⟩) (fun r U U' V V' h1 hal h2 h => ⟨h.1, h.2.elim fun B' q => ⟨B', q.1.mv h1 h2, q.2⟩⟩) ?_
  intro p e s m args below meth c s₁ X0 hexec hbytes hml hret hlk hnm hown hh0 W hP
  obtain ⟨rfl, hA, hB, hne, l1, l2, hp⟩ := hP
  have c1 : Steps p.tables e below (s₁.setTop (entryFrame m #[.ref b, .int (Int32.ofNat o), .ref d, .int (Int32.ofNat q), .int (Int32.ofNat len)] 7)) (s₁.setTop (mkF m 0 #[.val (.ref b), .val (.int (Int32.ofNat o)), .val (.ref d), .val (.int (Int32.ofNat q)), .val (.int (Int32.ofNat len)), .unset, .unset] [])) := entry rfl
  have hA0 := hA.1.mv X0.warmed.alike hh0
  have hB0 := hB.mv X0.warmed.alike hh0
  have a31 := hA.1.2.2.2
  have c2 : Steps p.tables e below (s₁.setTop (entryFrame m #[.ref b, .int (Int32.ofNat o), .ref d, .int (Int32.ofNat q), .int (Int32.ofNat len)] 7)) (s₁.setTop (mkF m 3 #[.val (.ref b), .val (.int (Int32.ofNat o)), .val (.ref d), .val (.int (Int32.ofNat q)), .val (.int (Int32.ofNat len)), .val (.int 0), .unset] [])) := c1.trans (by
    refine iconstV X0.here hexec rfl 0 (hb hbytes d0) (by decide) ?_
    refine XS.istore X0.here hexec rfl (hb hbytes d1) rfl rfl ?_
    exact Steps.refl _)
  have loop : ∀ (r i : Nat), i + r = len → ∀ (z : Slot), (z = .unset ∨ ∃ w, z = .val w ∧ w.category = 1) → ∀ (Tl : State) (Bk : Cell), Stand p l e { frames := 0, locals := 0, cells := 0, slots := 0 } s m #[.ref b, .int (Int32.ofNat o), .ref d, .int (Int32.ofNat q), .int (Int32.ofNat len)] below meth c Tl ([] ++ copyLocs d q i) 0 0 → Put d Bk s₁ Tl → Laid B Bk q (q + i) (fun j => Value.int (lo8 (cv A (o + (j - q))))) →
      Steps p.tables e below (s₁.setTop (entryFrame m #[.ref b, .int (Int32.ofNat o), .ref d, .int (Int32.ofNat q), .int (Int32.ofNat len)] 7)) (Tl.setTop (mkF m 3 #[.val (.ref b), .val (.int (Int32.ofNat (o + i))), .val (.ref d), .val (.int (Int32.ofNat (q + i))), .val (.int (Int32.ofNat len)), .val (.int (Int32.ofNat i)), z] [])) → ∃ (T' : State) (B' : Cell) (z' : Slot), Stand p l e { frames := 0, locals := 0, cells := 0, slots := 0 } s m #[.ref b, .int (Int32.ofNat o), .ref d, .int (Int32.ofNat q), .int (Int32.ofNat len)] below meth c T' ([] ++ copyLocs d q len) 0 0 ∧ Put d B' s₁ T' ∧ Laid B B' q (q + len) (fun j => Value.int (lo8 (cv A (o + (j - q))))) ∧
      Steps p.tables e below (s₁.setTop (entryFrame m #[.ref b, .int (Int32.ofNat o), .ref d, .int (Int32.ofNat q), .int (Int32.ofNat len)] 7)) (T'.setTop (mkF m 3 #[.val (.ref b), .val (.int (Int32.ofNat (o + len))), .val (.ref d), .val (.int (Int32.ofNat (q + len))), .val (.int (Int32.ofNat len)), .val (.int (Int32.ofNat len)), z'] [])) := by
    intro r
    induction r with
    | zero =>
      intro i hi z hz Tl Bk Xl pl fl cl
      have hil : i = len := by omega
      rw [hil] at Xl fl cl
      exact ⟨Tl, Bk, z, Xl, pl, fl, cl⟩
    | succ r ih =>
      intro i hi z hz Tl Bk Xl pl fl cl
      have all := X0.warmed.alike.symm.trans Xl.warmed.alike
      have hAl := hA0.keep all (pl.other hne hA0.1)
      have hBk := hB0.like all pl.1 fl.1 fl.2.1 fl.2.2.1
      have hlt : q + i < Bk.slots.size := by rw [fl.2.2.1]; omega
      have c3 : Steps p.tables e below (s₁.setTop (entryFrame m #[.ref b, .int (Int32.ofNat o), .ref d, .int (Int32.ofNat q), .int (Int32.ofNat len)] 7)) (Tl.setTop (mkF m 12 #[.val (.ref b), .val (.int (Int32.ofNat (o + i))), .val (.ref d), .val (.int (Int32.ofNat (q + i))), .val (.int (Int32.ofNat len)), .val (.int (Int32.ofNat i)), z] [.int (Int32.ofNat (o + i)), .ref b])) := cl.trans (by
        refine XS.iload Xl.here hexec rfl (hb hbytes d3) rfl ?_
        refine XS.iload Xl.here hexec rfl (hb hbytes d5) rfl ?_
        refine XS.icmpNo Xl.here hexec rfl (hb hbytes d7) rfl (ii_ge_f (lt32 (by omega) (by omega))) ?_
        refine XS.aloadN Xl.here hexec rfl (hb hbytes d10) rfl rfl ?_
        refine XS.iloadN Xl.here hexec rfl (hb hbytes d11) rfl ?_
        exact Steps.refl _)
      have c4 : Steps p.tables e below (s₁.setTop (entryFrame m #[.ref b, .int (Int32.ofNat o), .ref d, .int (Int32.ofNat q), .int (Int32.ofNat len)] 7)) (Tl.setTop (mkF m 13 #[.val (.ref b), .val (.int (Int32.ofNat (o + i))), .val (.ref d), .val (.int (Int32.ofNat (q + i))), .val (.int (Int32.ofNat len)), .val (.int (Int32.ofNat i)), z] [.int (cv A (o + i))])) := c3.trans (by
        refine Xl.aget hexec hAl rfl (hA.get (i := o + i) (by omega)) rfl rfl (hb hbytes d12) ?_
        exact Steps.refl _)
      have c5 : Steps p.tables e below (s₁.setTop (entryFrame m #[.ref b, .int (Int32.ofNat o), .ref d, .int (Int32.ofNat q), .int (Int32.ofNat len)] 7)) (Tl.setTop (mkF m 15 #[.val (.ref b), .val (.int (Int32.ofNat (o + i))), .val (.ref d), .val (.int (Int32.ofNat (q + i))), .val (.int (Int32.ofNat len)), .val (.int (Int32.ofNat i)), .val (.int (cv A (o + i)))] [])) := c4.trans (by
        refine XS.istoreS Xl.here hexec rfl (hb hbytes d13) rfl rfl hz ?_
        exact Steps.refl _)
      have c6 : Steps p.tables e below (s₁.setTop (entryFrame m #[.ref b, .int (Int32.ofNat o), .ref d, .int (Int32.ofNat q), .int (Int32.ofNat len)] 7)) (Tl.setTop (mkF m 31 #[.val (.ref b), .val (.int (Int32.ofNat (o + i))), .val (.ref d), .val (.int (Int32.ofNat (q + i))), .val (.int (Int32.ofNat len)), .val (.int (Int32.ofNat i)), .val (.int (cv A (o + i)))] [.int (lo8 (cv A (o + i))), .int (Int32.ofNat (q + i)), .ref d])) := c5.trans (by
        refine XS.iload Xl.here hexec rfl (hb hbytes d15) rfl ?_
        refine sipushV Xl.here hexec rfl 255 (hb hbytes d17) (by decide) ?_
        refine XS.icmpYes Xl.here hexec rfl (pc0 := 20) rfl (hb hbytes d20) rfl (ii_le_t (hp i (by omega))) (by decide) rfl ?_
        refine XS.aloadN Xl.here hexec rfl (hb hbytes d26) rfl rfl ?_
        refine XS.iloadN Xl.here hexec rfl (hb hbytes d27) rfl ?_
        refine XS.iload Xl.here hexec rfl (hb hbytes d28) rfl ?_
        refine i2b Xl.here hexec rfl (hb hbytes d30) rfl ?_
        exact Steps.refl _)
      obtain ⟨T7, X7, p7, st7⟩ := Xl.aput hexec hBk rfl hlt rfl (fits_lo8 (cv A (o + i))) (g := (mkF m 31 #[.val (.ref b), .val (.int (Int32.ofNat (o + i))), .val (.ref d), .val (.int (Int32.ofNat (q + i))), .val (.int (Int32.ofNat len)), .val (.int (Int32.ofNat i)), .val (.int (cv A (o + i)))] [.int (lo8 (cv A (o + i))), .int (Int32.ofNat (q + i)), .ref d])) rfl (rest := []) rfl (hb hbytes d31)
      have c8 : Steps p.tables e below (s₁.setTop (entryFrame m #[.ref b, .int (Int32.ofNat o), .ref d, .int (Int32.ofNat q), .int (Int32.ofNat len)] 7)) (T7.setTop (mkF m 32 #[.val (.ref b), .val (.int (Int32.ofNat (o + i))), .val (.ref d), .val (.int (Int32.ofNat (q + i))), .val (.int (Int32.ofNat len)), .val (.int (Int32.ofNat i)), .val (.int (cv A (o + i)))] [])) := c6.trans (st7 _ (Steps.refl _))
      have c9 : Steps p.tables e below (s₁.setTop (entryFrame m #[.ref b, .int (Int32.ofNat o), .ref d, .int (Int32.ofNat q), .int (Int32.ofNat len)] 7)) (T7.setTop (mkF m 3 #[.val (.ref b), .val (.int (Int32.ofNat (o + i) + 1)), .val (.ref d), .val (.int (Int32.ofNat (q + i) + 1)), .val (.int (Int32.ofNat len)), .val (.int (Int32.ofNat i + 1)), .val (.int (cv A (o + i)))] [])) := c8.trans (by
        refine iincV X7.here hexec rfl 1 (hb hbytes d32) (by decide) rfl rfl ?_
        refine iincV X7.here hexec rfl 1 (hb hbytes d35) (by decide) rfl rfl ?_
        refine iincV X7.here hexec rfl 1 (hb hbytes d38) (by decide) rfl rfl ?_
        refine XS.goto X7.here hexec rfl (pc0 := 41) rfl (hb hbytes d41) (by decide) rfl ?_
        exact Steps.refl _)
      have c10 : Steps p.tables e below (s₁.setTop (entryFrame m #[.ref b, .int (Int32.ofNat o), .ref d, .int (Int32.ofNat q), .int (Int32.ofNat len)] 7)) (T7.setTop (mkF m 3 #[.val (.ref b), .val (.int (Int32.ofNat (o + (i + 1)))), .val (.ref d), .val (.int (Int32.ofNat (q + (i + 1)))), .val (.int (Int32.ofNat len)), .val (.int (Int32.ofNat (i + 1))), .val (.int (cv A (o + i)))] [])) := by
        have := c9
        rw [succ32, succ32, succ32] at this
        exact this
      exact ih (i + 1) (by omega) _ (Or.inr ⟨_, rfl, rfl⟩) T7 _ (by rw [copyLocs_step, ← List.append_assoc]; exact X7) (pl.trans p7) (fl.step (by omega) hlt (by simp)) c10
  obtain ⟨T9, B9, z9, X9, p9, f9, g9⟩ := loop len 0 (by omega) .unset (Or.inl rfl) s₁ B (by simpa [copyLocs] using X0) ⟨hB0.1, fun _ _ => rfl, rfl⟩ (Laid.zero _ _ _) c2
  have c11 : Steps p.tables e below (s₁.setTop (entryFrame m #[.ref b, .int (Int32.ofNat o), .ref d, .int (Int32.ofNat q), .int (Int32.ofNat len)] 7)) (T9.setTop (mkF m 46 #[.val (.ref b), .val (.int (Int32.ofNat (o + len))), .val (.ref d), .val (.int (Int32.ofNat (q + len))), .val (.int (Int32.ofNat len)), .val (.int (Int32.ofNat len)), z9] [.int (Int32.ofNat len)])) := g9.trans (by
    refine XS.iload X9.here hexec rfl (hb hbytes d3) rfl ?_
    refine XS.iload X9.here hexec rfl (hb hbytes d5) rfl ?_
    refine XS.icmpYes X9.here hexec rfl (pc0 := 7) rfl (hb hbytes d7) rfl (ii_ge_t (nlt32 (by omega) (Nat.le_refl _))) (by decide) rfl ?_
    refine XS.iload X9.here hexec rfl (hb hbytes d44) rfl ?_
    exact Steps.refl _)
  exact ⟨T9, some (.int (Int32.ofNat len)), _, _, _, X9, by simp, rfl, rfl, (fun h => by cases h), ⟨rfl, B9, p9.from hh0, f9⟩, fun fs hl => c11.trans (X9.ireturnOut hexec hret rfl (Or.inl rfl) (hb hbytes d46) hl)⟩
end Cmp5
namespace Cmp3
def yN : MethodName := ⟨"java/lang/StringUTF16", "compress", "([CII)[B"⟩
abbrev yB : ByteArray := jdk_52_method_16_code
theorem d0 : decode yB 0 = .ok (.iload_n 2, 1) := by decide +kernel
theorem d1 : decode yB 1 = .ok (.newarray .byte, 2) := by decide +kernel
theorem d3 : decode yB 3 = .ok (.astore_n 3, 1) := by decide +kernel
theorem d4 : decode yB 4 = .ok (.aload_n 0, 1) := by decide +kernel
theorem d5 : decode yB 5 = .ok (.iload_n 1, 1) := by decide +kernel
theorem d6 : decode yB 6 = .ok (.aload_n 3, 1) := by decide +kernel
theorem d7 : decode yB 7 = .ok (.iconst 0, 1) := by decide +kernel
theorem d8 : decode yB 8 = .ok (.iload_n 2, 1) := by decide +kernel
theorem d9 : decode yB 9 = .ok (.invokestatic 115, 3) := by decide +kernel
theorem d12 : decode yB 12 = .ok (.istore 4, 2) := by decide +kernel
theorem d14 : decode yB 14 = .ok (.iload 4, 2) := by decide +kernel
theorem d16 : decode yB 16 = .ok (.iload_n 2, 1) := by decide +kernel
theorem d17 : decode yB 17 = .ok (.if_icmp (.eq) 40, 3) := by decide +kernel
theorem d57 : decode yB 57 = .ok (.aload_n 3, 1) := by decide +kernel
theorem d58 : decode yB 58 = .ok (.areturn, 1) := by decide +kernel
def site : List Cond := [.arrayClass .byte, Cmp5.tab] ++ staticW U16 115 Cmp5.yN
def tab : Cond := tabOf yN yB 6 (some (.array .byte)) site
def P (b : Addr) (A : Cell) (o len : Nat) (args : Array Value) (s : State) : Prop := args = #[.ref b, .int (Int32.ofNat o), .int (Int32.ofNat len)] ∧ Ch b A s ∧ o + len ≤ A.slots.size ∧ len ≤ 536870912 ∧ ∀ i, i < len → ¬ 255 < cv A (o + i)
def E (b : Addr) (A : Cell) (o len : Nat) (r : Option Value) (s u : State) : Prop := NewArr .byte "[B" len (fun j => .int (lo8 (cv A (o + j)))) r s u ∧ u.heap.size = s.heap.size + 1
/-- no char of the range above 255: a new byte[] of their low bytes -/
theorem law (l : Launch) (b : Addr) (A : Cell) (o len : Nat) : Law l yN 3 3 1 18 yB 6 (some (.array .byte)) site (P b A o len) (E b A o len) [] 1 len := by
  refine Law.of_walk (plainFor_of_name (by decide +kernel)) (by decide +kernel) (by decide +kernel) (by decide) (fun _ _ h => by rw [h.1]; rfl) (fun _ U U' hal hh h => ⟨h.1, h.2.1.mv hal hh, h.2.2⟩) (fun r U U' V V' h1 hal h2 h => ⟨NewArr.mv r U U' V V' h1 hal h2 h.1, by rw [h1, h2]; exact h.2⟩) ?_
  intro p e s m args below meth c s₁ X0 hexec hbytes hml hret hlk hnm hown hh0 W hP
  obtain ⟨rfl, hA, l1, l2, hp⟩ := hP
  have a31 := hA.1.2.2.2
  have c1 : Steps p.tables e below (s₁.setTop (entryFrame m #[.ref b, .int (Int32.ofNat o), .int (Int32.ofNat len)] 6)) (s₁.setTop (mkF m 0 #[.val (.ref b), .val (.int (Int32.ofNat o)), .val (.int (Int32.ofNat len)), .unset, .unset, .unset] [])) := entry rfl
  have c2 : Steps p.tables e below (s₁.setTop (entryFrame m #[.ref b, .int (Int32.ofNat o), .int (Int32.ofNat len)] 6)) (s₁.setTop (mkF m 1 #[.val (.ref b), .val (.int (Int32.ofNat o)), .val (.int (Int32.ofNat len)), .unset, .unset, .unset] [.int (Int32.ofNat len)])) := c1.trans (by
    refine XS.iloadN X0.here hexec rfl (hb hbytes d0) rfl ?_
    exact Steps.refl _)
  obtain ⟨T3, B3, X3, ba3, bs3, bv3, bh3, bf3, st3⟩ := X0.anew hexec (atype := .byte) (wk W (.arrayClass .byte)) rfl (by show len * 1 ≤ _; omega) (by omega) (g := (mkF m 1 #[.val (.ref b), .val (.int (Int32.ofNat o)), .val (.int (Int32.ofNat len)), .unset, .unset, .unset] [.int (Int32.ofNat len)])) rfl (hb hbytes d1) (rest := []) rfl (Nat.le_refl _) (by show 0 + len ≤ len; omega)
  rw [hh0] at ba3 st3
  have kp3 : XT.Kept s T3 := (XT.Kept.of_eq hh0).push bh3
  have hA3 := hA.keep X3.warmed.alike (kp3 _ _ hA.1.1)
  have hne : b ≠ s.heap.size := hA.1.ne
  have c4 : Steps p.tables e below (s₁.setTop (entryFrame m #[.ref b, .int (Int32.ofNat o), .int (Int32.ofNat len)] 6)) (T3.setTop (mkF m 3 #[.val (.ref b), .val (.int (Int32.ofNat o)), .val (.int (Int32.ofNat len)), .unset, .unset, .unset] [.ref s.heap.size])) := c2.trans (st3 _ (Steps.refl _))
  have c5 : Steps p.tables e below (s₁.setTop (entryFrame m #[.ref b, .int (Int32.ofNat o), .int (Int32.ofNat len)] 6)) (T3.setTop (mkF m 9 #[.val (.ref b), .val (.int (Int32.ofNat o)), .val (.int (Int32.ofNat len)), .val (.ref s.heap.size), .unset, .unset] [.int (Int32.ofNat len), .int 0, .ref s.heap.size, .int (Int32.ofNat o), .ref b])) := c4.trans (by
    refine XS.astoreN X3.here hexec rfl (hb hbytes d3) rfl rfl rfl ?_
    refine XS.aloadN X3.here hexec rfl (hb hbytes d4) rfl rfl ?_
    refine XS.iloadN X3.here hexec rfl (hb hbytes d5) rfl ?_
    refine XS.aloadN X3.here hexec rfl (hb hbytes d6) rfl rfl ?_
    refine iconstV X3.here hexec rfl 0 (hb hbytes d7) (by decide) ?_
    refine XS.iloadN X3.here hexec rfl (hb hbytes d8) rfl ?_
    exact Steps.refl _)
  obtain ⟨v6, T6, X6, E6, g6⟩ := X3.callS hexec (Cmp5.law l b A s.heap.size B3 o 0 len) hown (wks W (staticW U16 115 Cmp5.yN)) (wk W Cmp5.tab) (W := 0) (Nat.le_of_ble_eq_true rfl) (Nat.le_of_ble_eq_true rfl) (Nat.le_refl _) (by show 0 + len + 0 ≤ len; omega) (g := (mkF m 9 #[.val (.ref b), .val (.int (Int32.ofNat o)), .val (.int (Int32.ofNat len)), .val (.ref s.heap.size), .unset, .unset] [.int (Int32.ofNat len), .int (Int32.ofNat 0), .ref s.heap.size, .int (Int32.ofNat o), .ref b])) rfl (by rw [hml]; rfl) c5 (argsL := [.ref b, .int (Int32.ofNat o), .ref s.heap.size, .int (Int32.ofNat 0), .int (Int32.ofNat len)]) (rest := []) rfl rfl (by show 2 * 0 + 0 ≤ _; decide) (hb hbytes d9) (⟨rfl, hA3, ba3, hne, l1, by rw [bs3]; simp, hp⟩)
  obtain ⟨rfl, B6, p6, f6⟩ := E6
  have c7 : Steps p.tables e below (s₁.setTop (entryFrame m #[.ref b, .int (Int32.ofNat o), .int (Int32.ofNat len)] 6)) (T6.setTop (mkF m 12 #[.val (.ref b), .val (.int (Int32.ofNat o)), .val (.int (Int32.ofNat len)), .val (.ref s.heap.size), .unset, .unset] [.int (Int32.ofNat len)])) := g6
  have c8 : Steps p.tables e below (s₁.setTop (entryFrame m #[.ref b, .int (Int32.ofNat o), .int (Int32.ofNat len)] 6)) (T6.setTop (mkF m 58 #[.val (.ref b), .val (.int (Int32.ofNat o)), .val (.int (Int32.ofNat len)), .val (.ref s.heap.size), .val (.int (Int32.ofNat len)), .unset] [.ref s.heap.size])) := c7.trans (by
    refine XS.istore X6.here hexec rfl (hb hbytes d12) rfl rfl ?_
    refine XS.iload X6.here hexec rfl (hb hbytes d14) rfl ?_
    refine XS.iloadN X6.here hexec rfl (hb hbytes d16) rfl ?_
    refine XS.icmpYes X6.here hexec rfl (pc0 := 17) rfl (hb hbytes d17) rfl (ii_eq_t rfl) (by decide) rfl ?_
    refine XS.aloadN X6.here hexec rfl (hb hbytes d57) rfl rfl ?_
    exact Steps.refl _)
  have X8 := X6.wide (L' := []) (cells' := 1) (slots' := len) (fun x hx hlt => by
    simp only [List.nil_append, copyLocs, List.mem_map, List.mem_range] at hx
    obtain ⟨i, -, rfl⟩ := hx
    exact absurd hlt (Nat.lt_irrefl _)) (Nat.le_refl _) (by omega)
  exact ⟨T6, some (.ref s.heap.size), _, _, _, X8, rfl, rfl, rfl, (fun h => by cases h), ⟨⟨rfl, B6, ba3.like (X3.warmed.alike.symm.trans X6.warmed.alike) p6.1 f6.1 f6.2.1 f6.2.2.1, f6.2.1.trans bv3, by rw [X6.warmed.alike.findClass, f6.1]; exact bf3, by rw [f6.2.2.1, bs3]; simp, fun j hj => by rw [f6.2.2.2 j, if_pos (by omega)]; rfl, kp3.put p6 (Nat.le_refl _)⟩, by rw [p6.2.2, bh3, hh0]; simp⟩, fun fs hl => c8.trans (X8.areturnOut hexec rfl hret rfl (hb hbytes d58) hl)⟩
end Cmp3
namespace CodL
def yN : MethodName := ⟨"java/lang/StringUTF16", "coderFromArrayLen", "([BI)B"⟩
abbrev yB : ByteArray := jdk_52_method_15_code
theorem d0 : decode yB 0 = .ok (.iload_n 1, 1) := by decide +kernel
theorem d1 : decode yB 1 = .ok (.aload_n 0, 1) := by decide +kernel
theorem d2 : decode yB 2 = .ok (.arraylength, 1) := by decide +kernel
theorem d3 : decode yB 3 = .ok (.isub, 1) := by decide +kernel
theorem d4 : decode yB 4 = .ok (.bipush 31, 2) := by decide +kernel
theorem d6 : decode yB 6 = .ok (.iushr, 1) := by decide +kernel
theorem d7 : decode yB 7 = .ok (.i2b, 1) := by decide +kernel
theorem d8 : decode yB 8 = .ok (.ireturn, 1) := by decide +kernel
def site : List Cond := []
def tab : Cond := tabOf yN yB 2 (some .byte) site
def P (d : Addr) (B : Cell) (args : Array Value) (s : State) : Prop := args = #[.ref d, .int (Int32.ofNat B.slots.size)] ∧ Arr .byte d B s
def E (r : Option Value) (s u : State) : Prop := XT.PureE (some (.int 0)) r s u
/-- an array as long as the number of chars: LATIN1 -/
theorem law (l : Launch) (d : Addr) (B : Cell) : Law l yN 2 2 0 0 yB 2 (some .byte) site (P d B) E [] 0 0 := by
  refine Law.of_walk (plainFor_of_name (by decide +kernel)) (by decide +kernel) (by decide +kernel) (by decide) (fun _ _ h => by rw [h.1]; rfl) (fun _ U U' hal hh h => ⟨h.1, h.2.mv hal hh⟩) (fun r U U' V V' h1 hal h2 h => XT.PureE.mv r U U' V V' h1 hal h2 h) ?_
  intro p e s m args below meth c s₁ X0 hexec hbytes hml hret hlk hnm hown hh0 W hP
  obtain ⟨rfl, hB⟩ := hP
  have hB0 := hB.mv X0.warmed.alike hh0
  have c1 : Steps p.tables e below (s₁.setTop (entryFrame m #[.ref d, .int (Int32.ofNat B.slots.size)] 2)) (s₁.setTop (mkF m 0 #[.val (.ref d), .val (.int (Int32.ofNat B.slots.size))] [])) := entry rfl
  have c2 : Steps p.tables e below (s₁.setTop (entryFrame m #[.ref d, .int (Int32.ofNat B.slots.size)] 2)) (s₁.setTop (mkF m 2 #[.val (.ref d), .val (.int (Int32.ofNat B.slots.size))] [.ref d, .int (Int32.ofNat B.slots.size)])) := c1.trans (by
    refine XS.iloadN X0.here hexec rfl (hb hbytes d0) rfl ?_
    refine XS.aloadN X0.here hexec rfl (hb hbytes d1) rfl rfl ?_
    exact Steps.refl _)
  have c3 : Steps p.tables e below (s₁.setTop (entryFrame m #[.ref d, .int (Int32.ofNat B.slots.size)] 2)) (s₁.setTop (mkF m 8 #[.val (.ref d), .val (.int (Int32.ofNat B.slots.size))] [.int (lo8 (ushr (Int32.ofNat B.slots.size - Int32.ofNat B.slots.size) 31))])) := c2.trans (by
    refine X0.alen hexec hB0 rfl rfl (hb hbytes d2) ?_
    refine XS.isub X0.here hexec rfl (hb hbytes d3) rfl ?_
    refine bipushV X0.here hexec rfl 31 (hb hbytes d4) (by decide) ?_
    refine iushr X0.here hexec rfl (hb hbytes d6) rfl ?_
    refine i2b X0.here hexec rfl (hb hbytes d7) rfl ?_
    exact Steps.refl _)
  have e0 : lo8 (ushr (Int32.ofNat B.slots.size - Int32.ofNat B.slots.size) 31) = 0 := by rw [Int32.sub_self]; decide
  rw [e0] at c3
  exact ⟨s₁, some (.int 0), _, _, _, X0, rfl, rfl, rfl, (fun h => by cases h), ⟨rfl, hh0⟩, fun fs hl => c3.trans (X0.ireturnOut hexec hret rfl (Or.inr (Or.inr (Or.inl rfl))) (hb hbytes d8) hl)⟩
end CodL
/-- the String at a is Latin-1 over a new byte[] (the heap's one new cell): the low bytes of the len chars of A from o on; every cell but a is kept -/
def Got (a : Addr) (D : Cell) (fV fC : Field) (A : Cell) (o len : Nat) (r : Option Value) (s u : State) : Prop := r = none ∧ ∃ D' V : Cell, Blank "java/lang/String" a D' u ∧ Same D D' [fV.slot, fC.slot] ∧ D'.slots[fV.slot]? = some (.ref s.heap.size) ∧ D'.slots[fC.slot]? = some (.int 0) ∧ Arr .byte s.heap.size V u ∧ V.vm = .none ∧ u.vm.findClass "[B" = some V.cls ∧ V.slots.size = len ∧ (∀ j, j < len → V.slots[j]? = some (.int (lo8 (cv A (o + j))))) ∧ (∀ (y : Addr) (c : Cell), y ≠ a → s.heap[y]? = some c → u.heap[y]? = some c) ∧ u.heap.size = s.heap.size + 1
theorem Got.mv {a : Addr} {D A : Cell} {fV fC : Field} {o len : Nat} : ∀ r (U U' V V' : State), U'.heap = U.heap → V.vm.Alike V'.vm → V'.heap = V.heap → Got a D fV fC A o len r U V → Got a D fV fC A o len r U' V' :=
  fun r U U' V V' h1 hal h2 ⟨e0, D', X, a1, a2, a3, a4, a5, a6, a7, a8, a9, a10, a11⟩ => ⟨e0, D', X, a1.mv hal h2, a2, by rw [h1]; exact a3, a4, by rw [h1]; exact a5.mv hal h2, a6, by rw [hal.findClass]; exact a7, a8, a9, by rw [h1, h2]; exact a10, by rw [h1, h2]; exact a11⟩
namespace New4
def yN : MethodName := ⟨"java/lang/String", "<init>", "([CIILjava/lang/Void;)V"⟩
abbrev yB : ByteArray := jdk_42_method_149_code
theorem d0 : decode yB 0 = .ok (.aload_n 0, 1) := by decide +kernel
theorem d1 : decode yB 1 = .ok (.invokespecial 1, 3) := by decide +kernel
theorem d4 : decode yB 4 = .ok (.iload_n 3, 1) := by decide +kernel
theorem d5 : decode yB 5 = .ok (.ifCond (.ne) 22, 3) := by decide +kernel
theorem d27 : decode yB 27 = .ok (.getstatic 38, 3) := by decide +kernel
theorem d30 : decode yB 30 = .ok (.ifCond (.eq) 28, 3) := by decide +kernel
theorem d33 : decode yB 33 = .ok (.aload_n 1, 1) := by decide +kernel
theorem d34 : decode yB 34 = .ok (.iload_n 2, 1) := by decide +kernel
theorem d35 : decode yB 35 = .ok (.iload_n 3, 1) := by decide +kernel
theorem d36 : decode yB 36 = .ok (.invokestatic 177, 3) := by decide +kernel
theorem d39 : decode yB 39 = .ok (.astore 5, 2) := by decide +kernel
theorem d41 : decode yB 41 = .ok (.aload_n 0, 1) := by decide +kernel
theorem d42 : decode yB 42 = .ok (.aload 5, 2) := by decide +kernel
theorem d44 : decode yB 44 = .ok (.iload_n 3, 1) := by decide +kernel
theorem d45 : decode yB 45 = .ok (.invokestatic 47, 3) := by decide +kernel
theorem d48 : decode yB 48 = .ok (.putfield 15, 3) := by decide +kernel
theorem d51 : decode yB 51 = .ok (.aload_n 0, 1) := by decide +kernel
theorem d52 : decode yB 52 = .ok (.aload 5, 2) := by decide +kernel
theorem d54 : decode yB 54 = .ok (.putfield 9, 3) := by decide +kernel
theorem d57 : decode yB 57 = .ok (.return_, 1) := by decide +kernel
def site : List Cond := [.fieldLink "java/lang/String" 38 "java/lang/String" "COMPACT_STRINGS" "Z", Cmp3.tab, CodL.tab, .laysFinal "java/lang/String" "java/lang/String" "value" "[B", .fieldLink "java/lang/String" 9 "java/lang/String" "value" "[B", .laysFinal "java/lang/String" "java/lang/String" "coder" "B", .fieldLink "java/lang/String" 15 "java/lang/String" "coder" "B"] ++ objW "java/lang/String" 1 ++ staticW "java/lang/String" 177 Cmp3.yN ++ staticW "java/lang/String" 47 CodL.yN
def tab : Cond := tabOf yN yB 6 none site
def P (a : Addr) (D : Cell) (fV fC : Field) (b : Addr) (A : Cell) (z : Int32) (o len : Nat) (args : Array Value) (s : State) : Prop := args = #[.ref a, .ref b, .int (Int32.ofNat o), .int (Int32.ofNat len), .null] ∧ Blank "java/lang/String" a D s ∧ Found "java/lang/String" "value" "[B" fV s ∧ Found "java/lang/String" "coder" "B" fC s ∧ Ch b A s ∧ StaticIs s "java/lang/String" "COMPACT_STRINGS" "Z" (.int z) ∧ ¬ z = 0 ∧ 0 < len ∧ o + len ≤ A.slots.size ∧ len ≤ 536870912 ∧ ∀ i, i < len → ¬ 255 < cv A (o + i)
def E (a : Addr) (D : Cell) (fV fC : Field) (A : Cell) (o len : Nat) (r : Option Value) (s u : State) : Prop := Got a D fV fC A o len r s u
/-- len > 0, no char of the range above 255: a Latin-1 String of their low bytes -/
theorem law (l : Launch) (a : Addr) (D : Cell) (fV fC : Field) (b : Addr) (A : Cell) (z : Int32) (o len : Nat) : Law l yN 5 4 2 35 yB 6 none site (P a D fV fC b A z o len) (E a D fV fC A o len) [⟨a, fC.slot⟩, ⟨a, fV.slot⟩] 1 len := by
  refine Law.of_walk (plainFor_of_name (by decide +kernel)) (by decide +kernel) (by decide +kernel) (by decide) (fun _ _ h => by rw [h.1]; rfl) (fun _ U U' hal hh h => ⟨h.1, h.2.1.mv hal hh, h.2.2.1.al hal, h.2.2.2.1.al hal, h.2.2.2.2.1.mv hal hh, h.2.2.2.2.2.1.there hal hh, h.2.2.2.2.2.2⟩) (fun r U U' V V' h1 hal h2 h => Got.mv r U U' V V' h1 hal h2 h) ?_
  intro p e s m args below meth c s₁ X0 hexec hbytes hml hret hlk hnm hown hh0 W hP
  obtain ⟨rfl, hB, f1, f2, hA, s1, hz, l0, l1, l2, hp⟩ := hP
  have a31 := hA.1.2.2.2
  have c1 : Steps p.tables e below (s₁.setTop (entryFrame m #[.ref a, .ref b, .int (Int32.ofNat o), .int (Int32.ofNat len), .null] 6)) (s₁.setTop (mkF m 0 #[.val (.ref a), .val (.ref b), .val (.int (Int32.ofNat o)), .val (.int (Int32.ofNat len)), .val .null, .unset] [])) := entry rfl
  have c2 : Steps p.tables e below (s₁.setTop (entryFrame m #[.ref a, .ref b, .int (Int32.ofNat o), .int (Int32.ofNat len), .null] 6)) (s₁.setTop (mkF m 1 #[.val (.ref a), .val (.ref b), .val (.int (Int32.ofNat o)), .val (.int (Int32.ofNat len)), .val .null, .unset] [.ref a])) := c1.trans (by
    refine XS.aloadN X0.here hexec rfl (hb hbytes d0) rfl rfl ?_
    exact Steps.refl _)
  obtain ⟨T3, X3, q3, st3⟩ := X0.oinit hexec hown (wks W (objW "java/lang/String" 1)) (g := (mkF m 1 #[.val (.ref a), .val (.ref b), .val (.int (Int32.ofNat o)), .val (.int (Int32.ofNat len)), .val .null, .unset] [.ref a])) rfl (by rw [hml]; rfl) (rest := []) rfl (hb hbytes d1) (W := 0) (by show 2 * 0 + 0 ≤ _; decide) (Nat.le_of_ble_eq_true rfl) (Nat.le_of_ble_eq_true rfl)
  have hh3 := q3.trans hh0
  have c4 : Steps p.tables e below (s₁.setTop (entryFrame m #[.ref a, .ref b, .int (Int32.ofNat o), .int (Int32.ofNat len), .null] 6)) (T3.setTop (mkF m 27 #[.val (.ref a), .val (.ref b), .val (.int (Int32.ofNat o)), .val (.int (Int32.ofNat len)), .val .null, .unset] [])) := (c2.trans (st3 _ (Steps.refl _))).trans (by
    refine XS.iloadN X3.here hexec rfl (hb hbytes d4) rfl ?_
    refine XS.ifYes X3.here hexec rfl (pc0 := 5) rfl (hb hbytes d5) rfl (i0_ne_t (nz32 (by omega) l0)) (by decide) rfl ?_
    exact Steps.refl _)
  obtain ⟨T5, X5, q5, st5⟩ := X3.sget hexec hown (wk W (.fieldLink "java/lang/String" 38 "java/lang/String" "COMPACT_STRINGS" "Z")) s1 (fun _ _ h => by rw [hh3]; exact h) (g := (mkF m 27 #[.val (.ref a), .val (.ref b), .val (.int (Int32.ofNat o)), .val (.int (Int32.ofNat len)), .val .null, .unset] [])) rfl (hb hbytes d27)
  have hh5 := q5.trans hh3
  have c6 : Steps p.tables e below (s₁.setTop (entryFrame m #[.ref a, .ref b, .int (Int32.ofNat o), .int (Int32.ofNat len), .null] 6)) (T5.setTop (mkF m 30 #[.val (.ref a), .val (.ref b), .val (.int (Int32.ofNat o)), .val (.int (Int32.ofNat len)), .val .null, .unset] [.int z])) := c4.trans (st5 _ (Steps.refl _))
  have c7 : Steps p.tables e below (s₁.setTop (entryFrame m #[.ref a, .ref b, .int (Int32.ofNat o), .int (Int32.ofNat len), .null] 6)) (T5.setTop (mkF m 36 #[.val (.ref a), .val (.ref b), .val (.int (Int32.ofNat o)), .val (.int (Int32.ofNat len)), .val .null, .unset] [.int (Int32.ofNat len), .int (Int32.ofNat o), .ref b])) := c6.trans (by
    refine XS.ifNo X5.here hexec rfl (hb hbytes d30) rfl (i0_eq_f hz) ?_
    refine XS.aloadN X5.here hexec rfl (hb hbytes d33) rfl rfl ?_
    refine XS.iloadN X5.here hexec rfl (hb hbytes d34) rfl ?_
    refine XS.iloadN X5.here hexec rfl (hb hbytes d35) rfl ?_
    exact Steps.refl _)
  obtain ⟨v8, T8, X8, E8, g8⟩ := X5.callS hexec (Cmp3.law l b A o len) hown (wks W (staticW "java/lang/String" 177 Cmp3.yN)) (wk W Cmp3.tab) (W := 0) (Nat.le_of_ble_eq_true rfl) (Nat.le_of_ble_eq_true rfl) (Nat.le_refl _) (by show 0 + len ≤ len; omega) (g := (mkF m 36 #[.val (.ref a), .val (.ref b), .val (.int (Int32.ofNat o)), .val (.int (Int32.ofNat len)), .val .null, .unset] [.int (Int32.ofNat len), .int (Int32.ofNat o), .ref b])) rfl (by rw [hml]; rfl) c7 (argsL := [.ref b, .int (Int32.ofNat o), .int (Int32.ofNat len)]) (rest := []) rfl rfl (by show 2 * 0 + 0 ≤ _; decide) (hb hbytes d36) (⟨rfl, hA.mv X5.warmed.alike hh5, l1, l2, hp⟩)
  obtain ⟨e8, z8⟩ := E8
  obtain ⟨rfl, N, n1, n2, n3, n4, n5, n6⟩ := NewArr.mv _ T5 s _ _ hh5.symm (Vm.Alike.refl _) rfl e8
  rw [hh5] at z8
  have hB1 := hB.keep X8.warmed.alike (n6 _ _ hB.1)
  have hne : s.heap.size ≠ a := (Nat.ne_of_lt (Array.getElem?_eq_some_iff.mp hB.1).1).symm
  have c9 : Steps p.tables e below (s₁.setTop (entryFrame m #[.ref a, .ref b, .int (Int32.ofNat o), .int (Int32.ofNat len), .null] 6)) (T8.setTop (mkF m 39 #[.val (.ref a), .val (.ref b), .val (.int (Int32.ofNat o)), .val (.int (Int32.ofNat len)), .val .null, .unset] [.ref s.heap.size])) := g8
  have c10 : Steps p.tables e below (s₁.setTop (entryFrame m #[.ref a, .ref b, .int (Int32.ofNat o), .int (Int32.ofNat len), .null] 6)) (T8.setTop (mkF m 45 #[.val (.ref a), .val (.ref b), .val (.int (Int32.ofNat o)), .val (.int (Int32.ofNat len)), .val .null, .val (.ref s.heap.size)] [.int (Int32.ofNat N.slots.size), .ref s.heap.size, .ref a])) := by
    have hc : Steps p.tables e below (s₁.setTop (entryFrame m #[.ref a, .ref b, .int (Int32.ofNat o), .int (Int32.ofNat len), .null] 6)) (T8.setTop (mkF m 45 #[.val (.ref a), .val (.ref b), .val (.int (Int32.ofNat o)), .val (.int (Int32.ofNat len)), .val .null, .val (.ref s.heap.size)] [.int (Int32.ofNat len), .ref s.heap.size, .ref a])) := c9.trans (by
      refine XS.astore X8.here hexec rfl (hb hbytes d39) rfl rfl rfl ?_
      refine XS.aloadN X8.here hexec rfl (hb hbytes d41) rfl rfl ?_
      refine XS.aload X8.here hexec rfl (hb hbytes d42) rfl rfl ?_
      refine XS.iloadN X8.here hexec rfl (hb hbytes d44) rfl ?_
      exact Steps.refl _)
    rw [n4]; exact hc
  obtain ⟨v11, T11, X11, E11, g11⟩ := X8.callS hexec (CodL.law l s.heap.size N) hown (wks W (staticW "java/lang/String" 47 CodL.yN)) (wk W CodL.tab) (W := 1) (Nat.le_of_ble_eq_true rfl) (Nat.le_of_ble_eq_true rfl) (Nat.le_refl _) (by show 0 + len + 0 ≤ len; omega) (g := (mkF m 45 #[.val (.ref a), .val (.ref b), .val (.int (Int32.ofNat o)), .val (.int (Int32.ofNat len)), .val .null, .val (.ref s.heap.size)] [.int (Int32.ofNat N.slots.size), .ref s.heap.size, .ref a])) rfl (by rw [hml]; rfl) c10 (argsL := [.ref s.heap.size, .int (Int32.ofNat N.slots.size)]) (rest := [.ref a]) rfl rfl (by show 2 * 0 + (1 + 0) ≤ _; decide) (hb hbytes d45) (⟨rfl, n1⟩)
  obtain ⟨rfl, q11⟩ := E11
  have hB11 := hB1.mv (X8.warmed.alike.symm.trans X11.warmed.alike) q11
  have c12 : Steps p.tables e below (s₁.setTop (entryFrame m #[.ref a, .ref b, .int (Int32.ofNat o), .int (Int32.ofNat len), .null] 6)) (T11.setTop (mkF m 48 #[.val (.ref a), .val (.ref b), .val (.int (Int32.ofNat o)), .val (.int (Int32.ofNat len)), .val .null, .val (.ref s.heap.size)] [.int 0, .ref a])) := g11
  obtain ⟨T13, X13, p13, bl13, sl13, st13⟩ := X11.finit hexec hown (wk W (.fieldLink "java/lang/String" 15 "java/lang/String" "coder" "B")) (Or.inr ⟨_, (wk W (.laysFinal "java/lang/String" "java/lang/String" "coder" "B"))⟩) (Or.inl ⟨rfl, hnm⟩) f2 (Or.inl rfl) hB11 (t := .byte) (by decide +kernel) rfl (g := (mkF m 48 #[.val (.ref a), .val (.ref b), .val (.int (Int32.ofNat o)), .val (.int (Int32.ofNat len)), .val .null, .val (.ref s.heap.size)] [.int 0, .ref a])) rfl (rest := []) rfl (hb hbytes d48)
  have c14 : Steps p.tables e below (s₁.setTop (entryFrame m #[.ref a, .ref b, .int (Int32.ofNat o), .int (Int32.ofNat len), .null] 6)) (T13.setTop (mkF m 54 #[.val (.ref a), .val (.ref b), .val (.int (Int32.ofNat o)), .val (.int (Int32.ofNat len)), .val .null, .val (.ref s.heap.size)] [.ref s.heap.size, .ref a])) := (c12.trans (st13 _ (Steps.refl _))).trans (by
    refine XS.aloadN X13.here hexec rfl (hb hbytes d51) rfl rfl ?_
    refine XS.aload X13.here hexec rfl (hb hbytes d52) rfl rfl ?_
    exact Steps.refl _)
  obtain ⟨T15, X15, p15, bl15, sl15, st15⟩ := X13.finit hexec hown (wk W (.fieldLink "java/lang/String" 9 "java/lang/String" "value" "[B")) (Or.inr ⟨_, (wk W (.laysFinal "java/lang/String" "java/lang/String" "value" "[B"))⟩) (Or.inl ⟨rfl, hnm⟩) f1 (Or.inl rfl) bl13 (t := (.array .byte)) (by decide +kernel) rfl (g := (mkF m 54 #[.val (.ref a), .val (.ref b), .val (.int (Int32.ofNat o)), .val (.int (Int32.ofNat len)), .val .null, .val (.ref s.heap.size)] [.ref s.heap.size, .ref a])) rfl (rest := []) rfl (hb hbytes d54)
  have c16 : Steps p.tables e below (s₁.setTop (entryFrame m #[.ref a, .ref b, .int (Int32.ofNat o), .int (Int32.ofNat len), .null] 6)) (T15.setTop (mkF m 57 #[.val (.ref a), .val (.ref b), .val (.int (Int32.ofNat o)), .val (.int (Int32.ofNat len)), .val .null, .val (.ref s.heap.size)] [])) := c14.trans (st15 _ (Steps.refl _))
  have ap := apart (Or.inr ⟨_, (wk W (.laysFinal "java/lang/String" "java/lang/String" "value" "[B"))⟩) (Or.inr ⟨_, (wk W (.laysFinal "java/lang/String" "java/lang/String" "coder" "B"))⟩) f1 f2 (t₁ := .array .byte) (t₂ := .byte) (by decide +kernel) (by decide +kernel) (by decide)
  have al := X8.warmed.alike.symm.trans X15.warmed.alike
  have n7 : T11.heap[s.heap.size]? = some N := by rw [q11]; exact n1.1
  exact ⟨T15, none, _, _, _, X15, by simp, rfl, by omega, (fun _ => rfl), ⟨rfl, _, N, bl15, ((Same.refl D _).set _ (by simp)).set _ (by simp), sl15, (Cell.slots_setSlot_ne _ ap).trans sl13, n1.keep al (p15.other hne (p13.other hne n7)), n2, by rw [al.findClass]; exact n3, n4, n5, fun y c h1 h2 => p15.other h1 (p13.other h1 (by rw [q11]; exact n6 y c h2)), by rw [p15.2.2, p13.2.2, q11]; exact z8⟩, fun fs hl => c16.trans (X15.returnOut hexec hret (hb hbytes d57) hl)⟩
end New4
namespace New1
def yN : MethodName := ⟨"java/lang/String", "<init>", "([C)V"⟩
abbrev yB : ByteArray := jdk_42_method_3_code
theorem d0 : decode yB 0 = .ok (.aload_n 0, 1) := by decide +kernel
theorem d1 : decode yB 1 = .ok (.aload_n 1, 1) := by decide +kernel
theorem d2 : decode yB 2 = .ok (.iconst 0, 1) := by decide +kernel
theorem d3 : decode yB 3 = .ok (.aload_n 1, 1) := by decide +kernel
theorem d4 : decode yB 4 = .ok (.arraylength, 1) := by decide +kernel
theorem d5 : decode yB 5 = .ok (.aconst_null, 1) := by decide +kernel
theorem d6 : decode yB 6 = .ok (.invokespecial 27, 3) := by decide +kernel
theorem d9 : decode yB 9 = .ok (.return_, 1) := by decide +kernel
def site : List Cond := [New4.tab] ++ initW "java/lang/String" 27 New4.yN
def tab : Cond := tabOf yN yB 2 none site
def P (a : Addr) (D : Cell) (fV fC : Field) (b : Addr) (A : Cell) (z : Int32) (args : Array Value) (s : State) : Prop := args = #[.ref a, .ref b] ∧ Blank "java/lang/String" a D s ∧ Found "java/lang/String" "value" "[B" fV s ∧ Found "java/lang/String" "coder" "B" fC s ∧ Ch b A s ∧ StaticIs s "java/lang/String" "COMPACT_STRINGS" "Z" (.int z) ∧ ¬ z = 0 ∧ 0 < A.slots.size ∧ A.slots.size ≤ 536870912 ∧ ∀ i, i < A.slots.size → ¬ 255 < cv A i
def E (a : Addr) (D : Cell) (fV fC : Field) (A : Cell) (r : Option Value) (s u : State) : Prop := Got a D fV fC A 0 A.slots.size r s u
/-- new String(chars), not empty, no char above 255: a Latin-1 String of their low bytes -/
theorem law (l : Launch) (a : Addr) (D : Cell) (fV fC : Field) (b : Addr) (A : Cell) (z : Int32) : Law l yN 2 1 3 52 yB 2 none site (P a D fV fC b A z) (E a D fV fC A) [⟨a, fC.slot⟩, ⟨a, fV.slot⟩] 1 A.slots.size := by
  refine Law.of_walk (plainFor_of_name (by decide +kernel)) (by decide +kernel) (by decide +kernel) (by decide) (fun _ _ h => by rw [h.1]; rfl) (fun _ U U' hal hh h => ⟨h.1, h.2.1.mv hal hh, h.2.2.1.al hal, h.2.2.2.1.al hal, h.2.2.2.2.1.mv hal hh, h.2.2.2.2.2.1.there hal hh, h.2.2.2.2.2.2⟩) (fun r U U' V V' h1 hal h2 h => Got.mv r U U' V V' h1 hal h2 h) ?_
  intro p e s m args below meth c s₁ X0 hexec hbytes hml hret hlk hnm hown hh0 W hP
  obtain ⟨rfl, hB, f1, f2, hA, s1, hz, l0, l2, hp⟩ := hP
  have c1 : Steps p.tables e below (s₁.setTop (entryFrame m #[.ref a, .ref b] 2)) (s₁.setTop (mkF m 0 #[.val (.ref a), .val (.ref b)] [])) := entry rfl
  have c2 : Steps p.tables e below (s₁.setTop (entryFrame m #[.ref a, .ref b] 2)) (s₁.setTop (mkF m 6 #[.val (.ref a), .val (.ref b)] [.null, .int (Int32.ofNat A.slots.size), .int 0, .ref b, .ref a])) := c1.trans (by
    refine XS.aloadN X0.here hexec rfl (hb hbytes d0) rfl rfl ?_
    refine XS.aloadN X0.here hexec rfl (hb hbytes d1) rfl rfl ?_
    refine iconstV X0.here hexec rfl 0 (hb hbytes d2) (by decide) ?_
    refine XS.aloadN X0.here hexec rfl (hb hbytes d3) rfl rfl ?_
    refine X0.alen hexec (hA.1.mv X0.warmed.alike hh0) rfl rfl (hb hbytes d4) ?_
    refine XS.aconstNull X0.here hexec rfl (hb hbytes d5) ?_
    exact Steps.refl _)
  obtain ⟨v3, T3, X3, E3, g3⟩ := X0.callN hexec (New4.law l a D fV fC b A z 0 A.slots.size) rfl hown (wks W (initW "java/lang/String" 27 New4.yN)) (W New4.tab (by simp only [site, List.mem_cons, List.mem_append, true_or, or_true])) (W := 0) (Nat.le_of_ble_eq_true rfl) (Nat.le_of_ble_eq_true rfl) (Nat.le_refl _) (by show 0 + A.slots.size ≤ A.slots.size; omega) (g := (mkF m 6 #[.val (.ref a), .val (.ref b)] [.null, .int (Int32.ofNat A.slots.size), .int (Int32.ofNat 0), .ref b, .ref a])) rfl (by rw [hml]; rfl) c2 (argsL := [.ref b, .int (Int32.ofNat 0), .int (Int32.ofNat A.slots.size), .null]) (rest := []) rfl rfl (by show 2 * 0 + 0 ≤ _; decide) (hb hbytes d6) (⟨rfl, hB.mv X0.warmed.alike hh0, f1.al X0.warmed.alike, f2.al X0.warmed.alike, hA.mv X0.warmed.alike hh0, s1.there X0.warmed.alike hh0, hz, l0, by omega, l2, fun i hi => by rw [Nat.zero_add]; exact hp i hi⟩)
  have e0 := Got.mv _ s₁ s _ _ hh0.symm (Vm.Alike.refl _) rfl E3
  obtain rfl := e0.1
  have c4 : Steps p.tables e below (s₁.setTop (entryFrame m #[.ref a, .ref b] 2)) (T3.setTop (mkF m 9 #[.val (.ref a), .val (.ref b)] [])) := g3
  exact ⟨T3, none, _, _, _, X3, by simp, rfl, by omega, (fun _ => rfl), e0, fun fs hl => c4.trans (X3.returnOut hexec hret (hb hbytes d9) hl)⟩
theorem pays {l : Launch} {R : Room} {p : Program} {e : Env} {below : List Frame} {s : State} {sargs : Array Value} {len W : Nat} (a : Addr) (D : Cell) (fV fC : Field) (b : Addr) (A : Cell) (z : Int32) (htab : tab.before sargs s = true) (hfr : 4 ≤ R.frames) (hlo : W + 65 ≤ R.locals) :
    Back l R p e below s sargs yN len W (fun A₁ a₁ => A₁.cells + 1 ≤ R.cells ∧ A₁.slots + A.slots.size ≤ R.slots ∧ P a D fV fC b A z a₁ A₁.U) (fun A₁ _ v₁ B₁ => E a D fV fC A v₁ A₁.U B₁.U ∧ B₁.locs = A₁.locs ++ [⟨a, fC.slot⟩, ⟨a, fV.slot⟩] ∧ B₁.cells = A₁.cells + 1 ∧ B₁.slots = A₁.slots + A.slots.size) :=
  (law l a D fV fC b A z).pays htab hfr (by omega)
end New1
end StrChars
namespace StrChars.Road
open Jvm Sem ClassFile Op Lib Jvm.Stand Jvm.Free Jvm.Free.XT
open Jvm.Lib.Cold (StaticIs)
abbrev ST : String := "java/lang/String"
/-- every table word that New1's law asks, flat -/
abbrev words : List Jvm.Cond := [.code New1.yN New1.yB 2 none, .initialized ST, .methodLink ST 27 New4.yN, .instanceMethod New4.yN,
  .code New4.yN New4.yB 6 none, .fieldLink ST 38 ST "COMPACT_STRINGS" "Z", .laysFinal ST ST "value" "[B", .fieldLink ST 9 ST "value" "[B", .laysFinal ST ST "coder" "B", .fieldLink ST 15 ST "coder" "B",
  .methodLink ST 1 Lib.objectInit, .instanceMethod Lib.objectInit, .code Lib.objectInit ⟨#[0xb1]⟩ 1 none, .methodLink ST 177 Cmp3.yN, .static Cmp3.yN, .methodLink ST 47 CodL.yN, .static CodL.yN,
  .code Cmp3.yN Cmp3.yB 6 (some (.array .byte)), .initialized U16, .arrayClass .byte, .methodLink U16 115 Cmp5.yN, .static Cmp5.yN, .code Cmp5.yN Cmp5.yB 7 (some .int), .code CodL.yN CodL.yB 2 (some .byte)]
theorem tab_of {a : Array Value} {s : State} (h : ∀ w ∈ words, w.before a s = true) : New1.tab.before a s = true := by
  have h5 : Cmp5.tab.before a s = true := unparts (wk h (.code Cmp5.yN Cmp5.yB 7 (some .int))) (wks h (.initialized Cmp5.yN.cls :: Cmp5.site))
  have hc : CodL.tab.before a s = true := unparts (wk h (.code CodL.yN CodL.yB 2 (some .byte))) (wks h (.initialized CodL.yN.cls :: CodL.site))
  have q5 : ∀ w ∈ Cmp5.tab :: words, w.before a s = true := fun w hw => (List.mem_cons.mp hw).elim (fun e => e ▸ h5) (h w)
  have h3 : Cmp3.tab.before a s = true := unparts (wk q5 (.code Cmp3.yN Cmp3.yB 6 (some (.array .byte)))) (wks q5 (.initialized Cmp3.yN.cls :: Cmp3.site))
  have q3 : ∀ w ∈ Cmp3.tab :: CodL.tab :: words, w.before a s = true := fun w hw => (List.mem_cons.mp hw).elim (fun e => e ▸ h3) fun hw => (List.mem_cons.mp hw).elim (fun e => e ▸ hc) (h w)
  have h4 : New4.tab.before a s = true := unparts (wk q3 (.code New4.yN New4.yB 6 none)) (wks q3 (.initialized New4.yN.cls :: New4.site))
  have q4 : ∀ w ∈ New4.tab :: words, w.before a s = true := fun w hw => (List.mem_cons.mp hw).elim (fun e => e ▸ h4) (h w)
  exact unparts (wk q4 (.code New1.yN New1.yB 2 none)) (wks q4 (.initialized New1.yN.cls :: New1.site))
/-- the words ride from the start Z to the walk's own state -/
theorem moved {Z s : State} {a0 args : Array Value} (hZ : Z.Warmed39 s.vm) (hw : ∀ d ∈ words, d.before a0 Z = true) : ∀ d ∈ words, d.before args s = true := fun d hd => by
  have q := hw d hd
  have t : ∀ d ∈ words, d = .arrayClass .byte ∨ (d.onTables && d.keepsFace) = true := by decide +kernel
  rcases t d hd with rfl | t
  · exact RoadKit.mvA hZ q
  · exact RoadKit.mv hZ q t
/-- WHAT COMES BACK, over the tables of the start Z: h the heap at the call, h' behind it -/
def Q (Z : State) (x : Addr) (A : Cell) (h : Heap) (v : Option Value) (h' : Heap) (L : List Loc) : Prop := v = none ∧ (∀ y ∈ L, y.base = x) ∧ RoadKit.Keep h h' [x] ∧ h'.size = h.size + 1 ∧ RoadKit.Exa Z h' x ST ∧ RoadKit.Fld Z h' x ST "value" "[B" (.ref h.size) ∧ RoadKit.Fld Z h' x ST "coder" "B" (.int 0) ∧
  (∃ V : Cell, RoadKit.Arr Z h' h.size V .byte ∧ V.vm = .none ∧ Z.vm.findClass "[B" = some V.cls ∧ V.slots.size = A.slots.size ∧ ∀ j, j < A.slots.size → V.slots[j]? = some (.int (lo8 (cv A j)))) ∧
  ∀ (O n d : String) (w : Value), RoadKit.Fld Z h x O n d w → RoadKit.slotOf Z O n d ≠ RoadKit.slotOf Z ST "value" "[B" → RoadKit.slotOf Z O n d ≠ RoadKit.slotOf Z ST "coder" "B" → RoadKit.Fld Z h' x O n d w
/-- **new String(chars) AT A CALL, IN THE ROAD'S FORM**: for specialBack behind newO: x the fresh String, b the char[] with the cell A -/
theorem back {p : Program} {l : Launch} {e : Env} {R : Room} {s : State} {args : Array Value} {below : List Frame} {len W : Nat} {Z : State} {a0 : Array Value} {h : Heap} (hZ : Z.Warmed39 s.vm) (hw : ∀ d ∈ words, d.before a0 Z = true) {kI : Nat} (wi : (Jvm.Cond.instantiable ST kI).before a0 Z = true)
    {x b : Addr} {A : Cell} {z : Int32} {v0 c0 : Value} (E : RoadKit.Exa Z h x ST) (V : RoadKit.Fld Z h x ST "value" "[B" v0) (C : RoadKit.Fld Z h x ST "coder" "B" c0) (K : RoadKit.Arr Z h b A .char) (hty : Typed .char A) (S : RoadKit.Sta Z h ST "COMPACT_STRINGS" "Z" (.int z)) (hz : ¬ z = 0)
    (l0 : 0 < A.slots.size) (l2 : A.slots.size ≤ 536870912) (hp : ∀ i, i < A.slots.size → ¬ 255 < cv A i) (hfr : 4 ≤ R.frames) (hlo : W + 65 ≤ R.locals) :
    Back l R p e below s args New1.yN len W (fun P a => a = #[.ref x, .ref b] ∧ P.U.heap = h ∧ P.cells + 1 ≤ R.cells ∧ P.slots + A.slots.size ≤ R.slots)
      (fun P _ v B => ∃ L, Q Z x A h v B.U.heap L ∧ B.locs = P.locs ++ L ∧ B.cells = P.cells + 1 ∧ B.slots = P.slots + A.slots.size) := by
  intro m meth c P g ig mk a X hg hsize hdg hW hn hp'
  obtain ⟨rfl, rfl, r1, r2⟩ := hp'
  have al : Z.vm.Alike P.U.vm := hZ.alike.trans X.warmed.alike
  obtain ⟨D, cfV, kV, iV, fV, hD, gV, stV, knV, obV, asV, slV⟩ := id V
  obtain ⟨D', cfC, kC, iC, fC, hD', gC, stC, -, -, asC, slC⟩ := id C
  cases hD.symm.trans hD'
  obtain ⟨D2, kD, e1, e2, e3, e4, e5⟩ := id E
  cases hD.symm.trans e1
  obtain ⟨c2, k2, i1, i2, i3, -⟩ := Cond.instantiable_spec wi
  cases e2.symm.trans i1
  cases e3.symm.trans i2
  obtain ⟨kU, u1, u2⟩ := al.2.2 _ _ e3
  have hB : Blank ST x D P.U := ⟨hD, ⟨knV, fun q hq => by rw [hq] at obV; cases obV⟩, by rw [al.findClass]; exact e2, kU, u1, by rw [u2]; exact i3, by rw [u2]; exact e5 i3⟩
  have F1 : Found ST "value" "[B" fV P.U := ⟨SBG.found_only al ⟨cfV, kV, iV, gV⟩, stV⟩
  have F2 : Found ST "coder" "B" fC P.U := ⟨SBG.found_only al ⟨cfC, kC, iC, gC⟩, stC⟩
  have hA : Ch b A P.U := ⟨⟨K.1, State.isArrayOf_alike al K.2.1, K.2.2, by omega⟩, hty⟩
  have hS : StaticIs P.U ST "COMPACT_STRINGS" "Z" (.int z) := by
    obtain ⟨cfS, iS, kS, fS, st, cS, t1, t2, t3, t4, t5, t6, t7⟩ := S
    exact StaticIs.there (s := { Z with heap := P.U.heap }) ⟨cfS, iS, kS, fS, st, cS, t1, t2, t3, t4, t5, (fun q => by rw [q] at t6; cases t6), t7⟩ al rfl
  obtain ⟨v, B, X', ⟨⟨hv, E', V', q1, q2, q3, q4, q5, q6, q7, q8, q9, q10, q11⟩, hl, hc, hs⟩, st⟩ := New1.pays x D fV fC b A z (tab_of (moved hZ hw)) hfr hlo m meth c P g ig mk _ X hg hsize hdg hW hn ⟨r1, r2, rfl, hB, F1, F2, hA, hS, hz, l0, l2, hp⟩
  have al' : Z.vm.Alike B.U.vm := hZ.alike.trans X'.warmed.alike
  have hsz : E'.slots.size = D.slots.size := by
    obtain ⟨-, -, -, kB, w1, w2, w3⟩ := q1
    obtain ⟨kB', y1, y2⟩ := al'.2.2 _ _ e3
    rw [q2.2.1] at w1
    cases w1.symm.trans y1
    rw [w3, e5 i3, y2]
  refine ⟨v, B, X', ⟨_, ⟨hv, ?_, ⟨by omega, fun y cy hy hn' => q10 y cy (by simpa using hn') hy, fun y cy hy => ?_⟩, q11, ⟨E', _, q1.1, by rw [q2.2.1]; exact e2, by rw [q2.2.1]; exact e3, by rw [q2.1]; exact obV, fun _ => by rw [hsz]; exact e5 i3⟩,
    ⟨E', cfV, kV, iV, fV, q1.1, gV, stV, by rw [q2.1]; exact knV, by rw [q2.1]; exact obV, by rw [q2.2.1]; exact asV, q3⟩, ⟨E', cfC, kC, iC, fC, q1.1, gC, stC, by rw [q2.1]; exact knV, by rw [q2.1]; exact obV, by rw [q2.2.1]; exact asC, q4⟩,
    ⟨V', ⟨q5.1, State.isArrayOf_alike al'.symm q5.2.1, q5.2.2.1⟩, q6, by rw [← al'.findClass]; exact q7, q8, fun j hj => by have := q9 j hj; rwa [Nat.zero_add] at this⟩, fun O n d w F n1 n2 => ?_⟩, hl, hc, hs⟩, st⟩
  · intro y hy
    simp only [List.mem_cons, List.not_mem_nil, or_false] at hy
    rcases hy with rfl | rfl <;> rfl
  · by_cases q : y = x
    · subst q
      cases hD.symm.trans hy
      exact ⟨E', q1.1, q2.2.1, q2.1, hsz⟩
    · exact ⟨cy, q10 y cy q hy, rfl, rfl, rfl⟩
  · obtain ⟨D3, cf, k, i, f, g1, g2, g3, g4, g5, g6, g7⟩ := F
    cases hD.symm.trans g1
    simp only [RoadKit.slotOf, g2, gV, gC, Option.map_some, Option.getD_some] at n1 n2
    exact ⟨E', cf, k, i, f, q1.1, g2, g3, by rw [q2.1]; exact g4, by rw [q2.1]; exact g5, by rw [q2.2.1]; exact g6, by rw [q2.2.2 f.slot (by simp [n1, n2])]; exact g7⟩
end StrChars.Road
namespace StrChars.Road
open Jvm Sem ClassFile Op Lib Jvm.Stand Jvm.Free Jvm.Free.XT
/-- WHAT COMES BACK, the byte[] as a list of values -/
def QA (Z : State) (x : Addr) (zn : Int32) (cs : List Int32) (h : Heap) (v : Option Value) (h' : Heap) (L : List Loc) : Prop := v = none ∧ (∀ y ∈ L, y.base = x) ∧ RoadKit.Keep h h' [x] ∧ h'.size = h.size + 1 ∧ RoadKit.Exa Z h' x ST ∧ RoadKit.Fld Z h' x ST "value" "[B" (.ref h.size) ∧ RoadKit.Fld Z h' x ST "coder" "B" (.int 0) ∧
  (∃ kb, Z.vm.findClass "[B" = some kb ∧ RoadKit.Arv Z h' h.size kb .byte zn (cs.map fun c => .int (lo8 c)) (.int 0)) ∧
  ∀ (O n d : String) (w : Value), RoadKit.Fld Z h x O n d w → RoadKit.slotOf Z O n d ≠ RoadKit.slotOf Z ST "value" "[B" → RoadKit.slotOf Z O n d ≠ RoadKit.slotOf Z ST "coder" "B" → RoadKit.Fld Z h' x O n d w
/-- **new String(chars) AT A CALL, THE ARRAYS AS LISTS**: the char[] at b holds cs, not empty, no char above 255 -/
theorem backArv {p : Program} {l : Launch} {e : Env} {R : Room} {s : State} {args : Array Value} {below : List Frame} {len W : Nat} {Z : State} {a0 : Array Value} {h : Heap} (hZ : Z.Warmed39 s.vm) (hw : ∀ d ∈ words, d.before a0 Z = true) {kI : Nat} (wi : (Jvm.Cond.instantiable ST kI).before a0 Z = true)
    {x b : Addr} {k : ClassId} {zn z : Int32} {cs : List Int32} {dv v0 c0 : Value} (E : RoadKit.Exa Z h x ST) (V : RoadKit.Fld Z h x ST "value" "[B" v0) (C : RoadKit.Fld Z h x ST "coder" "B" c0) (K : RoadKit.Arv Z h b k .char zn (cs.map Value.int) dv) (S : RoadKit.Sta Z h ST "COMPACT_STRINGS" "Z" (.int z)) (hz : ¬ z = 0)
    (hlen : zn.toNatClampNeg = cs.length) (h0 : 0 < cs.length) (hbig : cs.length ≤ 536870912) (hall : ∀ c ∈ cs, ¬ 255 < c) (hfr : 4 ≤ R.frames) (hlo : W + 65 ≤ R.locals) :
    Back l R p e below s args New1.yN len W (fun P a => a = #[.ref x, .ref b] ∧ P.U.heap = h ∧ P.cells + 1 ≤ R.cells ∧ P.slots + cs.length ≤ R.slots)
      (fun P _ v B => ∃ L, QA Z x zn cs h v B.U.heap L ∧ B.locs = P.locs ++ L ∧ B.cells = P.cells + 1 ∧ B.slots = P.slots + cs.length) := by
  obtain ⟨A, K1, K2, K3, K4, K5, K6⟩ := K
  have e : A.slots.size = cs.length := K3.trans hlen
  have hat : ∀ (i : Nat) (hi : i < cs.length), A.slots[i]? = some (.int cs[i]) := fun i hi => by rw [K5 i (by omega)]; simp [List.getD_eq_getElem?_getD, hi]
  have hcv : ∀ (i : Nat) (hi : i < cs.length), cv A i = cs[i] := fun i hi => by unfold cv; rw [hat i hi]
  have hty : Typed .char A := fun i v hv => by
    have hi : i < A.slots.size := (Array.getElem?_eq_some_iff.mp hv).1
    have q := K5 i hi
    rw [hv] at q
    rw [Option.some.inj q]
    exact K6 i hi
  refine Back.mono (back hZ hw wi E V C K1 hty S hz (by omega) (by omega) (fun i hi => by rw [hcv i (by omega)]; exact hall _ (List.getElem_mem _)) hfr hlo) (fun P a hp => ⟨hp.1, hp.2.1, hp.2.2.1, by rw [e]; exact hp.2.2.2⟩) (fun P a v B hp hq => ?_)
  obtain ⟨L, ⟨q1, q2, q3, q4, q5, q6, q7, ⟨V', v1, v2, v3, v4, v5⟩, q9⟩, hl, hc, hs⟩ := hq
  refine ⟨L, ⟨q1, q2, q3, q4, q5, q6, q7, ⟨V'.cls, v3, V', v1, rfl, by rw [v4, e, hlen], K4, fun i hi => ?_, fun i hi => ?_⟩, q9⟩, hl, hc, by rw [hs, e]⟩
  · have hi' : i < cs.length := by omega
    rw [v5 i (by omega), hcv i hi']; simp [List.getD_eq_getElem?_getD, hi']
  · have hi' : i < cs.length := by omega
    simp only [List.getD_eq_getElem?_getD, List.getElem?_map, List.getElem?_eq_getElem hi', Option.map_some, Option.getD_some]
    exact fits_lo8 _
end StrChars.Road
namespace StrChars.Road
open Jvm Sem ClassFile Op Lib Jvm.Stand Jvm.Free Jvm.Free.XT
/-- WHAT COMES BACK, in the writer's own shape -/
def QV (Z : State) (x : Addr) (N : Int32) (bs : List Int32) (h : Heap) (n0 : Nat) (v : Option Value) (h' : Heap) (L : List Loc) : Prop := v = none ∧ RoadKit.Fr n0 L ∧ RoadKit.Keep h h' [x] ∧ RoadKit.Exa Z h' x ST ∧ RoadKit.Fld Z h' x ST "coder" "B" (.int 0) ∧
  ∃ (t : Addr) (kb : ClassId), n0 ≤ t ∧ h.size ≤ t ∧ ¬ t = x ∧ RoadKit.Fld Z h' x ST "value" "[B" (.ref t) ∧ RoadKit.Arv Z h' t kb .byte N (bs.map Value.int) (.int 0)
/-- **new String(chars) AT A CALL, FOR THE WRITER**: a char[] of n known ints, each 0 to 255 -/
theorem backV {p : Program} {l : Launch} {e : Env} {R : Room} {s : State} {args : Array Value} {below : List Frame} {len W : Nat} {Z : State} {a0 : Array Value} {h : Heap} (hZ : Z.Warmed39 s.vm) (hw : ∀ d ∈ words, d.before a0 Z = true) {kI : Nat} (wi : (Jvm.Cond.instantiable ST kI).before a0 Z = true)
    {x b : Addr} {kC : ClassId} {cs bs : List Int32} {d v0 c0 : Value} {z N : Int32} {n n0 : Nat} (hx0 : n0 ≤ x) (hh0 : n0 ≤ h.size) (E : RoadKit.Exa Z h x ST) (V : RoadKit.Fld Z h x ST "value" "[B" v0) (C : RoadKit.Fld Z h x ST "coder" "B" c0) (K : RoadKit.Arv Z h b kC .char N (cs.map Value.int) d) (S : RoadKit.Sta Z h ST "COMPACT_STRINGS" "Z" (.int z)) (hz : ¬ z = 0)
    (hn : cs.length = n) (hN : N = Int32.ofNat n) (l0 : 0 < n) (l2 : n ≤ 4000) (hp : ∀ c ∈ cs, ¬ c < 0 ∧ ¬ (255 : Int32) < c) (hb : bs = cs.map (fun c => c.toInt8.toInt32)) (hfr : 4 ≤ R.frames) (hlo : W + 65 ≤ R.locals) :
    Back l R p e below s args (⟨"java/lang/String", "<init>", "([C)V"⟩ : MethodName) len W (fun P a => a = #[.ref x, .ref b] ∧ P.U.heap = h ∧ P.cells + 1 ≤ R.cells ∧ P.slots + n ≤ R.slots)
      (fun P _ v B => ∃ L, QV Z x N bs h n0 v B.U.heap L ∧ B.locs = P.locs ++ L ∧ B.cells = P.cells + 1 ∧ B.slots = P.slots + n) := by
  subst hn hN hb
  refine Back.mono (backArv hZ hw wi E V C K S hz (n32 (by omega)) l0 (by omega) (fun c hc => (hp c hc).2) hfr hlo) (fun P a hp => hp) (fun P a v B hp hq => ?_)
  obtain ⟨L, ⟨q1, q2, q3, q4, q5, q6, q7, ⟨kb, v1, v2⟩, q9⟩, hl, hc, hs⟩ := hq
  exact ⟨L, ⟨q1, fun y hy => by rw [q2 y hy]; exact hx0, q3, q5, q7, h.size, kb, hh0, Nat.le_refl _, Nat.ne_of_gt E.lt, q6, by rw [List.map_map]; exact v2⟩, hl, hc, hs⟩
end StrChars.Road
end Jvm.Pilot.@@N@@
namespace Jvm.Pilot.@@N@@
open Jvm Jvm.ClassFile Sem Op Lib Jvm.Free Jvm.Stand Jvm.LawKit Jvm.RoadKit Bundle Jvm.Pilot.@@N@@.Jvm.D
theorem joinS {tb : Tables} {e : Env} {below : List Frame} {A B t : State} (h1 : Steps tb e below B t → Steps tb e below A t) (h2 : Steps tb e below B t) : Steps tb e below A t := h1 h2
theorem mvMN {Z s : State} {a0 args : Array Value} {own host : String} {index : Nat} {y : MethodName} (hZ : Z.Warmed39 s.vm) (w : (Cond.methodLinkNest own index y host).before a0 Z = true) : (Cond.methodLinkNest own index y host).before args s = true := (Cond.methodLinkNest_wide hZ w :)
theorem own_specialRef {p : Program} {l : Launch} {e : Env} {R : Room} {s : State} {m : MethodId} {args : Array Value} {below : List Frame} {meth : Method} {c : Code} {T : State} {locs : List Loc} {cells slots : Nat} (X : Stand p l e R s m args below meth c T locs cells slots) (hexec : p.tables.exec = Jvm.exec) {own : String} {index : Nat} {y : MethodName} (hy1 : y.name = "<init>")
    (hown : s.vm.findClass own = some m.cls) (hlink : (Cond.methodRef own index y).before args s = true) (hinst : (Cond.instanceMethod y).before args s = true)
    {bytes : ByteArray} {maxL : Nat} (hcode : (Cond.code y bytes maxL none).before args s = true)
    (hy : y.cls ≠ "java/lang/invoke/MethodHandle" ∧ y.cls ≠ "java/lang/invoke/VarHandle")
    {W : Nat} {Pre : Pt → Array Value → Prop} {Post : Pt → Array Value → Option Value → Pt → Prop} (hK : Back l R p e below s args y 3 W Pre Post)
    {g : JFrame} (hg : g.method = m) (hsize : g.locals.size = c.maxLocals) {s₀ : State} (hcome : Steps p.tables e below s₀ (T.setTop g)) {a : Addr} {argsL rest : List Value}
    (hlen : ∀ sig, parseMethodDescriptor y.desc = some sig → argsL.length = sig.parameters.length) (hstack : g.stack = argsL.reverse ++ .ref a :: rest) (hW : 2 * g.monitorRoom + (rest.map fun v => v.category).sum ≤ W)
    (hdg : decode c.code g.pc = .ok (.invokespecial index, 3)) (hpre : ∀ vm₁, s.WarmedH vm₁ → Pre ⟨T.setVm vm₁, locs, cells, slots⟩ (.ref a :: argsL).toArray) :
    ∃ (v : Option Value) (vm₁ : Vm) (B : Pt), s.WarmedH vm₁ ∧ Stand p l e R s m args below meth c B.U B.locs B.cells B.slots ∧ Post ⟨T.setVm vm₁, locs, cells, slots⟩ (.ref a :: argsL).toArray v B ∧
      Steps p.tables e below s₀ (B.U.setTop { g with pc := g.pc + 3, stack := v.toList ++ rest }) := by
  subst hg
  have hWa : s.WarmedH T.vm := X.warmed
  obtain ⟨obj, methO, hnO, hmO, hstO, habO⟩ := Cond.instanceMethod_spec hinst
  obtain ⟨methO', cO, hmO', -, -, -, -, -, -, hsigO⟩ := Cond.code_spec hnO hcode
  cases hmO.symm.trans hmO'
  obtain ⟨kO, hkO, hnameO⟩ := className_of_methodNamed hnO
  obtain ⟨hnameMO, hdescO⟩ := name_of_methodNamed hnO hmO
  have al := hWa.alike
  have hT : (Cond.methodRef own index y).before args (s.setVm T.vm) = true := Cond.methodRef_warmed39 hWa.wide hnO hy hlink
  have hownT : (s.setVm T.vm).vm.findClass own = some g.method.cls := by show T.vm.findClass own = _; rw [al.findClass]; exact hown
  obtain ⟨m', c', ci, b, hf, hready, hcls, hask, hcr⟩ := Cond.methodRef_spec (e := e) hownT hT
  have hfound0 : (s.setVm T.vm).methodFound? y.cls y.name y.desc = some obj := by
    rw [State.methodFound?_setVm_of_named al hnO hy]; exact State.methodFound?_of_named hnO hy
  cases hf.symm.trans hfound0
  have hc' : c' = obj.cls := by
    have h1 : s.vm.findClass y.cls = some obj.cls := findClass_of_methodNamed hnO
    have h2 : T.vm.findClass y.cls = some c' := hcls
    rw [al.findClass, h1] at h2
    exact (Option.some.inj h2).symm
  subst hc'
  have hnamed : Op.namesResolved T.vm g.method.cls index obj.cls := by
    have hT' := hT
    simp only [Cond.before, Cond.holds, Cond.value, hownT, hfound0, beq_iff_eq, Option.some.injEq, Bool.and_eq_true, decide_eq_true_eq] at hT'
    obtain ⟨⟨hnames, -⟩, -⟩ := hT'
    obtain ⟨cp, hcp, hn⟩ := State.names_spec hnames
    obtain ⟨ci', nt, hentry, hnt, -⟩ := namesOf?_method hn
    obtain ⟨k, cf, hk, hcf, rfl⟩ := State.poolOf?_spec hownT hcp
    obtain ⟨b', hask'⟩ := memberRef_ask' (e := e) hk hcf hentry hnt
    have : ci = ci' := by
      have q := hask.symm.trans hask'
      simp only [Except.ok.injEq, Prod.mk.injEq] at q
      exact q.1
    subst this
    exact ⟨k, cf, ci, nt, hk, hcf, hentry, hcr⟩
  obtain ⟨kO₂, hkO₂, heO₂⟩ := al.2.2 _ _ hkO
  have hmO₂ : T.vm.method? obj = some methO := by rw [al.method?]; exact hmO
  have hfound : lookupSpecial T.vm obj.cls "<init>" methO.desc = .method obj := by
    rw [al.lookupSpecial, hdescO, ← hy1]; exact lookupSpecial_of_named hnO hmO hstO
  have hstep₁ : ∀ target, (∀ acts, Steps p.tables e below (doInvoke e (T.setTop { g with stack := rest }) acts obj (.ref a :: argsL).toArray).1 target) → Steps p.tables e below (T.setTop g) target := fun target hrest => by
    jvm_step X.here [hexec, hdg, Op.invokespecial.wp_init (e := e) (s := T) (k := kO₂) (meth := methO) (m := obj) (a := a) (args := argsL) (rest := rest) (f := g) X.here.top hnamed hready hkO₂ hmO₂ (by rw [hnameMO]; exact hy1) hstO habO hfound (hlen _ hsigO) hstack]
    exact hrest
  have hT0 : T.setVm T.vm = T := by cases T; rfl
  obtain ⟨v, B, X', hpost, hsteps⟩ := hK g.method meth c ⟨T, locs, cells, slots⟩ { g with stack := rest } (.invokespecial index) obj (.ref a :: argsL).toArray X rfl hsize hdg hW (X.named hnO) (by have := hpre T.vm hWa; rw [hT0] at this; exact this)
  exact ⟨v, T.vm, B, hWa, X', by rw [hT0]; exact hpost, (hcome.trans (hstep₁ _ fun acts => by rw [doInvoke_state]; exact Steps.refl _)).trans hsteps⟩
theorem own_privNest {p : Program} {l : Launch} {e : Env} {R : Room} {s : State} {m : MethodId} {args : Array Value} {below : List Frame} {meth : Method} {c : Code} {T : State} {locs : List Loc} {cells slots : Nat} (X : Stand p l e R s m args below meth c T locs cells slots) (hexec : p.tables.exec = Jvm.exec) {own host : String} {index kI : Nat} {y : MethodName}
    (hown : s.vm.findClass own = some m.cls) (hlink : (Cond.methodLinkNest own index y host).before args s = true) (hinst : (Cond.instanceMethod y).before args s = true) (hI : (Cond.instantiable y.cls kI).before args s = true) (hpriv : s.PrivateAt y)
    {bytes : ByteArray} {maxL : Nat} {ret : Option FieldType} (hcode : (Cond.code y bytes maxL ret).before args s = true)
    (hy : y.cls ≠ "java/lang/invoke/MethodHandle" ∧ y.cls ≠ "java/lang/invoke/VarHandle")
    {W : Nat} {Pre : Pt → Array Value → Prop} {Post : Pt → Array Value → Option Value → Pt → Prop} (hK : Back l R p e below s args y 3 W Pre Post)
    {g : JFrame} (hg : g.method = m) (hsize : g.locals.size = c.maxLocals) {s₀ : State} (hcome : Steps p.tables e below s₀ (T.setTop g)) {a : Addr} {cell : Cell} (hcell : T.heap[a]? = some cell) (hobj : ∀ q, cell.vm ≠ .statics q) {argsL rest : List Value}
    (hlen : ∀ sig, parseMethodDescriptor y.desc = some sig → argsL.length = sig.parameters.length) (hstack : g.stack = argsL.reverse ++ .ref a :: rest) (hW : 2 * g.monitorRoom + (rest.map fun v => v.category).sum ≤ W)
    (hdg : decode c.code g.pc = .ok (.invokevirtual index, 3)) (hpre : ∀ vm₁, s.WarmedH vm₁ → Pre ⟨T.setVm vm₁, locs, cells, slots⟩ (.ref a :: argsL).toArray) :
    ∃ (v : Option Value) (vm₁ : Vm) (B : Pt), s.WarmedH vm₁ ∧ Stand p l e R s m args below meth c B.U B.locs B.cells B.slots ∧ Post ⟨T.setVm vm₁, locs, cells, slots⟩ (.ref a :: argsL).toArray v B ∧
      Steps p.tables e below s₀ (B.U.setTop { g with pc := g.pc + 3, stack := v.toList ++ rest }) := by
  obtain ⟨mk, methM, hnamed, hmethM, hstM, habM⟩ := Cond.instanceMethod_spec hinst
  obtain ⟨methM', cM, hmethM', -, -, -, -, -, -, hsigM⟩ := Cond.code_spec hnamed hcode
  cases hmethM.symm.trans hmethM'
  obtain ⟨ci, ki, i1, i2, -, i4, -⟩ := Cond.instantiable_spec hI
  have hci : ci = mk.cls := Option.some.inj (i1.symm.trans (findClass_of_methodNamed hnamed))
  subst hci
  have hni : ki.isInterface = false := by cases hi : ki.isInterface <;> simp_all
  have hsel : selectMethod e.platform s.vm cell.cls mk = .method mk := selectMethod_private hmethM (hpriv mk methM hnamed hmethM)
  obtain ⟨vm₁, X₁, hstep₁⟩ := X.invokevirtualNest hexec hown hlink hnamed hmethM hstM i2 hni hy (a := a) (cell := cell) hcell hobj hsel hmethM habM i2 hni (g := g) hg (argsL := argsL) (rest := rest) (hlen _ hsigM) hstack hdg
  have hW₁ : s.WarmedH vm₁ := X₁.warmed
  obtain ⟨v, B, X', hpost, hsteps⟩ := hK m meth c ⟨T.setVm vm₁, locs, cells, slots⟩ { g with stack := rest } (.invokevirtual index) mk (.ref a :: argsL).toArray X₁ hg hsize hdg hW (X₁.named hnamed) (hpre vm₁ hW₁)
  exact ⟨v, vm₁, B, hW₁, X', hpost, (hcome.trans (hstep₁ _ fun acts => by rw [doInvoke_state]; exact Steps.refl _)).trans hsteps⟩
theorem own_mvRef {Z s : State} {a0 args : Array Value} {own : String} {index : Nat} {y : MethodName} (hZ : Z.Warmed39 s.vm) (hinst : (Cond.instanceMethod y).before a0 Z = true) (hy : y.cls ≠ "java/lang/invoke/MethodHandle" ∧ y.cls ≠ "java/lang/invoke/VarHandle") (w : (Cond.methodRef own index y).before a0 Z = true) : (Cond.methodRef own index y).before args s = true := by
  obtain ⟨mk, -, hn, -⟩ := Cond.instanceMethod_spec hinst
  have h1 : (Cond.methodRef own index y).before a0 (Z.setVm s.vm) = true := Cond.methodRef_warmed39 hZ hn hy w
  exact h1
def own_EF (Z : State) (h : Heap) (a1 bk bn bb : Addr) (kk kn kb : ClassId) (n : Int32) (ks ns bs : List Value) : Prop := Exa Z h a1 "lanternweir/fields/EventFields" ∧ Fld Z h a1 "lanternweir/fields/EventFields" "kinds" "[Llanternweir/fields/EventFields$Kind;" (.ref bk) ∧ Fld Z h a1 "lanternweir/fields/EventFields" "names" "[Ljava/lang/String;" (.ref bn) ∧ Fld Z h a1 "lanternweir/fields/EventFields" "bits" "[J" (.ref bb) ∧ Fld Z h a1 "lanternweir/fields/EventFields" "size" "I" (.int n) ∧ Arv Z h bk kk (.object "lanternweir/fields/EventFields$Kind") (8 : Int32) ks .null ∧ Arv Z h bn kn (.object "java/lang/String") (8 : Int32) ns .null ∧ Arv Z h bb kb .long (8 : Int32) bs (.long (0 : Int64))
def own_EFp (Z : State) (n0 : Nat) (a1 bk bn bb : Addr) (kk kn : ClassId) : Prop := n0 ≤ a1 ∧ n0 ≤ bk ∧ n0 ≤ bn ∧ n0 ≤ bb ∧ a1 ≠ bk ∧ a1 ≠ bn ∧ a1 ≠ bb ∧ bk ≠ bn ∧ bk ≠ bb ∧ bn ≠ bb ∧ Ovr Z kk "lanternweir/fields/EventFields$Kind" ∧ Ovr Z kn "java/lang/String"
theorem d8_0 : decode prog_114_method_2_code 0 = .ok (.aload_n 0, 1) := by decide +kernel
theorem d8_1 : decode prog_114_method_2_code 1 = .ok (.invokespecial 11, 3) := by decide +kernel
theorem d8_4 : decode prog_114_method_2_code 4 = .ok (.aload_n 0, 1) := by decide +kernel
theorem d8_5 : decode prog_114_method_2_code 5 = .ok (.aload_n 1, 1) := by decide +kernel
theorem d8_6 : decode prog_114_method_2_code 6 = .ok (.putfield 16, 3) := by decide +kernel
theorem d8_9 : decode prog_114_method_2_code 9 = .ok (.aload_n 0, 1) := by decide +kernel
theorem d8_10 : decode prog_114_method_2_code 10 = .ok (.aload_n 2, 1) := by decide +kernel
theorem d8_11 : decode prog_114_method_2_code 11 = .ok (.putfield 20, 3) := by decide +kernel
theorem d8_14 : decode prog_114_method_2_code 14 = .ok (.aload_n 0, 1) := by decide +kernel
theorem d8_15 : decode prog_114_method_2_code 15 = .ok (.aload_n 3, 1) := by decide +kernel
theorem d8_16 : decode prog_114_method_2_code 16 = .ok (.putfield 24, 3) := by decide +kernel
theorem d8_19 : decode prog_114_method_2_code 19 = .ok (.aload_n 0, 1) := by decide +kernel
theorem d8_20 : decode prog_114_method_2_code 20 = .ok (.aload 4, 2) := by decide +kernel
theorem d8_22 : decode prog_114_method_2_code 22 = .ok (.putfield 27, 3) := by decide +kernel
theorem d8_25 : decode prog_114_method_2_code 25 = .ok (.return_, 1) := by decide +kernel
theorem pn_lanternweir_fields_EventFields : plainName "lanternweir/fields/EventFields" = true := by first | (simp [plainName, overriddenIn]; done) | decide +kernel
theorem ef_rm8 (m : MethodId) (a1 : Addr) (a2 : Addr) (a3 : Addr) (a4 : Addr) (a5 : Addr) : entryFrame m #[(.ref a1), (.ref a2), (.ref a3), (.ref a4), (.ref a5)] 5 = mkF m 0 #[.val (.ref a1), .val (.ref a2), .val (.ref a3), .val (.ref a4), .val (.ref a5)] [] := by first | (simp [entryFrame, mkF, argsToLocals, Value.category]; done) | rfl
def Qrm8 (Z : State) (a1 : Addr) (a2 : Addr) (a3 : Addr) (a4 : Addr) (a5 : Addr) (h0 : Heap) (n0 : Nat) (v : Option Value) (h : Heap) (L : List Loc) : Prop := v = none ∧ Fr n0 L ∧ Keep h0 h [a1] ∧ Fld Z h a1 "lanternweir/fields/EventFields" "kinds" "[Llanternweir/fields/EventFields$Kind;" (.ref a2) ∧ Fld Z h a1 "lanternweir/fields/EventFields" "names" "[Ljava/lang/String;" (.ref a3) ∧ Fld Z h a1 "lanternweir/fields/EventFields" "bits" "[J" (.ref a5) ∧ Fld Z h a1 "lanternweir/fields/EventFields" "size" "I" (.int (0 : Int32))
set_option maxRecDepth 65536 in
set_option maxHeartbeats 40000000 in
theorem rm8 (l : Launch) (Z : State) (a0 : Array Value) (hw : ∀ d ∈ tables_1, d.before a0 Z = true) (ws : List Jvm.Cond) (a1 : Addr) (a2 : Addr) (a3 : Addr) (a4 : Addr) (a5 : Addr) (h0 : Heap) (n0 : Nat) (Z0 : n0 ≤ h0.size) (E1 : Exa Z h0 a1 "lanternweir/fields/EventFields") (F_kinds : Fld Z h0 a1 "lanternweir/fields/EventFields" "kinds" "[Llanternweir/fields/EventFields$Kind;" .null) (F_names : Fld Z h0 a1 "lanternweir/fields/EventFields" "names" "[Ljava/lang/String;" .null) (F_strings : Fld Z h0 a1 "lanternweir/fields/EventFields" "strings" "[Ljava/lang/String;" .null) (F_bits : Fld Z h0 a1 "lanternweir/fields/EventFields" "bits" "[J" .null) (F_size : Fld Z h0 a1 "lanternweir/fields/EventFields" "size" "I" (.int (0 : Int32))) (g1 : n0 ≤ a1) :
    MetFree l (⟨"lanternweir/fields/EventFields", "<init>", "([Llanternweir/fields/EventFields$Kind;[Ljava/lang/String;[Ljava/lang/String;[J)V"⟩ : MethodName) (head1 (Jvm.Cond.code (⟨"lanternweir/fields/EventFields", "<init>", "([Llanternweir/fields/EventFields$Kind;[Ljava/lang/String;[Ljava/lang/String;[J)V"⟩ : MethodName) prog_114_method_2_code 5 none :: ws) ({ frames := 1, cells := 0, slots := 0, locals := 12 } : Room)) (fun a U => a = #[(.ref a1), (.ref a2), (.ref a3), (.ref a4), (.ref a5)] ∧ Z.Warmed39 U.vm ∧ U.heap = h0) (fun _ _ _ _ _ => True) (fun _ U o U' => ∃ v L, o = .returned v ∧ Qrm8 Z a1 a2 a3 a4 a5 h0 n0 v U'.heap L ∧ FrameEnd U o U' L ({ frames := 1, cells := 0, slots := 0, locals := 12 } : Room).cells ({ frames := 1, cells := 0, slots := 0, locals := 12 } : Room).slots) := by
  refine MetFree.of_bodySF (plainFor_of_name pn_lanternweir_fields_EventFields) hisR ?_
  intro p e s m args below meth c s₁ Bd hml0 hP hK
  obtain ⟨rfl, hZ, hh⟩ := hP
  have hx := Bd.exec
  have hby := Bd.bytes
  have hml : c.maxLocals = 5 := hml0
  have hown : s.vm.findClass "lanternweir/fields/EventFields" = some m.cls := findClass_of_methodNamed Bd.named
  have hnm := (name_of_methodNamed Bd.named Bd.method).1
  have X0 : Stand p l e ({ frames := 1, cells := 0, slots := 0, locals := 12 } : Room) s m #[(.ref a1), (.ref a2), (.ref a3), (.ref a4), (.ref a5)] below meth c s₁ [] 0 0 := Stand.of_body Bd
  have e0 : s₁.heap = h0 := by rw [← hh, Bd.state]; rfl
  have N0 := Fr.nil n0
  have pre0 : ∀ t, Steps p.tables e below (s₁.setTop (mkF m 0 #[.val (.ref a1), .val (.ref a2), .val (.ref a3), .val (.ref a4), .val (.ref a5)] [])) t → Steps p.tables e below (s₁.setTop (entryFrame m #[(.ref a1), (.ref a2), (.ref a3), (.ref a4), (.ref a5)] 5)) t := fun t k => castTop (ef_rm8 m a1 a2 a3 a4 a5) k
  have K0 := Keep.refl h0 [a1]
  obtain ⟨T1, X1, e1, st1⟩ := initO X0 hx hZ hown (hw _ (List.mem_of_getElem? (i := 44) rfl)) (hw _ (List.mem_of_getElem? (i := 12) rfl)) (hw _ (List.mem_of_getElem? (i := 13) rfl)) e0 (g := (mkF m 1 #[.val (.ref a1), .val (.ref a2), .val (.ref a3), .val (.ref a4), .val (.ref a5)] [(.ref a1)])) rfl (by rw [hml]; rfl) rfl (hb hby d8_1) (by decide) (W := 0) (by show 2 * 0 + _ ≤ _; exact Nat.le_of_eq rfl) (by decide)
  obtain ⟨T2, h2, X2, e2, W2, st2⟩ := putF X1 hx hZ hown (host := "") (Or.inl (hw _ (List.mem_of_getElem? (i := 45) rfl))) Via.refl e1 F_kinds E1 (Or.inl (hw _ (List.mem_of_getElem? (i := 46) rfl))) (hw _ (List.mem_of_getElem? (i := 31) rfl)) (ty := (.array (.object "lanternweir/fields/EventFields$Kind"))) (by decide) rfl rfl (g := (mkF m 6 #[.val (.ref a1), .val (.ref a2), .val (.ref a3), .val (.ref a4), .val (.ref a5)] [(.ref a2), (.ref a1)])) rfl rfl (hb hby d8_6)
  have f3 := F_kinds.same W2
  have f4 := E1.wr W2
  have f5 := F_names.other W2 (Or.inr (slot_ne (Or.inl (hw _ (List.mem_of_getElem? (i := 48) rfl))) (Or.inl (hw _ (List.mem_of_getElem? (i := 46) rfl))) (by decide) (t := (.array (.object "java/lang/String"))) (t' := (.array (.object "lanternweir/fields/EventFields$Kind"))) (by decide) (by decide)))
  have f6 := F_strings.other W2 (Or.inr (slot_ne (Or.inl (hw _ (List.mem_of_getElem? (i := 50) rfl))) (Or.inl (hw _ (List.mem_of_getElem? (i := 46) rfl))) (by decide) (t := (.array (.object "java/lang/String"))) (t' := (.array (.object "lanternweir/fields/EventFields$Kind"))) (by decide) (by decide)))
  have f7 := F_bits.other W2 (Or.inr (slot_ne (Or.inl (hw _ (List.mem_of_getElem? (i := 52) rfl))) (Or.inl (hw _ (List.mem_of_getElem? (i := 46) rfl))) (by decide) (t := (.array .long)) (t' := (.array (.object "lanternweir/fields/EventFields$Kind"))) (by decide) (by decide)))
  have f8 := F_size.other W2 (Or.inr (slot_ne (Or.inl (hw _ (List.mem_of_getElem? (i := 80) rfl))) (Or.inl (hw _ (List.mem_of_getElem? (i := 46) rfl))) (by decide) (t := .int) (t' := (.array (.object "lanternweir/fields/EventFields$Kind"))) (by decide) (by decide)))
  have Zn9 := Nat.le_trans Z0 (Keep.of_wr W2).1
  have N10 := Fr.snoc X2 N0 g1
  have K11 := K0.wr W2 (Or.inl (List.mem_of_getElem? (i := 0) rfl))
  obtain ⟨T12, h12, X12, e12, W12, st12⟩ := putF X2 hx hZ hown (host := "") (Or.inl (hw _ (List.mem_of_getElem? (i := 47) rfl))) Via.refl e2 f5 f4 (Or.inl (hw _ (List.mem_of_getElem? (i := 48) rfl))) (hw _ (List.mem_of_getElem? (i := 31) rfl)) (ty := (.array (.object "java/lang/String"))) (by decide) rfl rfl (g := (mkF m 11 #[.val (.ref a1), .val (.ref a2), .val (.ref a3), .val (.ref a4), .val (.ref a5)] [(.ref a3), (.ref a1)])) rfl rfl (hb hby d8_11)
  have f13 := f5.same W12
  have f14 := f4.wr W12
  have f15 := f6.other W12 (Or.inr (slot_ne (Or.inl (hw _ (List.mem_of_getElem? (i := 50) rfl))) (Or.inl (hw _ (List.mem_of_getElem? (i := 48) rfl))) (by decide) (t := (.array (.object "java/lang/String"))) (t' := (.array (.object "java/lang/String"))) (by decide) (by decide)))
  have f16 := f7.other W12 (Or.inr (slot_ne (Or.inl (hw _ (List.mem_of_getElem? (i := 52) rfl))) (Or.inl (hw _ (List.mem_of_getElem? (i := 48) rfl))) (by decide) (t := (.array .long)) (t' := (.array (.object "java/lang/String"))) (by decide) (by decide)))
  have f17 := f8.other W12 (Or.inr (slot_ne (Or.inl (hw _ (List.mem_of_getElem? (i := 80) rfl))) (Or.inl (hw _ (List.mem_of_getElem? (i := 48) rfl))) (by decide) (t := .int) (t' := (.array (.object "java/lang/String"))) (by decide) (by decide)))
  have f18 := f3.other W12 (Or.inr (slot_ne (Or.inl (hw _ (List.mem_of_getElem? (i := 46) rfl))) (Or.inl (hw _ (List.mem_of_getElem? (i := 48) rfl))) (by decide) (t := (.array (.object "lanternweir/fields/EventFields$Kind"))) (t' := (.array (.object "java/lang/String"))) (by decide) (by decide)))
  have Zn19 := Nat.le_trans Zn9 (Keep.of_wr W12).1
  have N20 := Fr.snoc X12 N10 g1
  have K21 := K11.wr W12 (Or.inl (List.mem_of_getElem? (i := 0) rfl))
  obtain ⟨T22, h22, X22, e22, W22, st22⟩ := putF X12 hx hZ hown (host := "") (Or.inl (hw _ (List.mem_of_getElem? (i := 49) rfl))) Via.refl e12 f15 f14 (Or.inl (hw _ (List.mem_of_getElem? (i := 50) rfl))) (hw _ (List.mem_of_getElem? (i := 31) rfl)) (ty := (.array (.object "java/lang/String"))) (by decide) rfl rfl (g := (mkF m 16 #[.val (.ref a1), .val (.ref a2), .val (.ref a3), .val (.ref a4), .val (.ref a5)] [(.ref a4), (.ref a1)])) rfl rfl (hb hby d8_16)
  have f23 := f15.same W22
  have f24 := f14.wr W22
  have f25 := f16.other W22 (Or.inr (slot_ne (Or.inl (hw _ (List.mem_of_getElem? (i := 52) rfl))) (Or.inl (hw _ (List.mem_of_getElem? (i := 50) rfl))) (by decide) (t := (.array .long)) (t' := (.array (.object "java/lang/String"))) (by decide) (by decide)))
  have f26 := f17.other W22 (Or.inr (slot_ne (Or.inl (hw _ (List.mem_of_getElem? (i := 80) rfl))) (Or.inl (hw _ (List.mem_of_getElem? (i := 50) rfl))) (by decide) (t := .int) (t' := (.array (.object "java/lang/String"))) (by decide) (by decide)))
  have f27 := f18.other W22 (Or.inr (slot_ne (Or.inl (hw _ (List.mem_of_getElem? (i := 46) rfl))) (Or.inl (hw _ (List.mem_of_getElem? (i := 50) rfl))) (by decide) (t := (.array (.object "lanternweir/fields/EventFields$Kind"))) (t' := (.array (.object "java/lang/String"))) (by decide) (by decide)))
  have f28 := f13.other W22 (Or.inr (slot_ne (Or.inl (hw _ (List.mem_of_getElem? (i := 48) rfl))) (Or.inl (hw _ (List.mem_of_getElem? (i := 50) rfl))) (by decide) (t := (.array (.object "java/lang/String"))) (t' := (.array (.object "java/lang/String"))) (by decide) (by decide)))
  have Zn29 := Nat.le_trans Zn19 (Keep.of_wr W22).1
  have N30 := Fr.snoc X22 N20 g1
  have K31 := K21.wr W22 (Or.inl (List.mem_of_getElem? (i := 0) rfl))
  obtain ⟨T32, h32, X32, e32, W32, st32⟩ := putF X22 hx hZ hown (host := "") (Or.inl (hw _ (List.mem_of_getElem? (i := 51) rfl))) Via.refl e22 f25 f24 (Or.inl (hw _ (List.mem_of_getElem? (i := 52) rfl))) (hw _ (List.mem_of_getElem? (i := 31) rfl)) (ty := (.array .long)) (by decide) rfl rfl (g := (mkF m 22 #[.val (.ref a1), .val (.ref a2), .val (.ref a3), .val (.ref a4), .val (.ref a5)] [(.ref a5), (.ref a1)])) rfl rfl (hb hby d8_22)
  have f33 := f25.same W32
  have f34 := f24.wr W32
  have f35 := f26.other W32 (Or.inr (slot_ne (Or.inl (hw _ (List.mem_of_getElem? (i := 80) rfl))) (Or.inl (hw _ (List.mem_of_getElem? (i := 52) rfl))) (by decide) (t := .int) (t' := (.array .long)) (by decide) (by decide)))
  have f36 := f27.other W32 (Or.inr (slot_ne (Or.inl (hw _ (List.mem_of_getElem? (i := 46) rfl))) (Or.inl (hw _ (List.mem_of_getElem? (i := 52) rfl))) (by decide) (t := (.array (.object "lanternweir/fields/EventFields$Kind"))) (t' := (.array .long)) (by decide) (by decide)))
  have f37 := f28.other W32 (Or.inr (slot_ne (Or.inl (hw _ (List.mem_of_getElem? (i := 48) rfl))) (Or.inl (hw _ (List.mem_of_getElem? (i := 52) rfl))) (by decide) (t := (.array (.object "java/lang/String"))) (t' := (.array .long)) (by decide) (by decide)))
  have f38 := f23.other W32 (Or.inr (slot_ne (Or.inl (hw _ (List.mem_of_getElem? (i := 50) rfl))) (Or.inl (hw _ (List.mem_of_getElem? (i := 52) rfl))) (by decide) (t := (.array (.object "java/lang/String"))) (t' := (.array .long)) (by decide) (by decide)))
  have Zn39 := Nat.le_trans Zn29 (Keep.of_wr W32).1
  have N40 := Fr.snoc X32 N30 g1
  have K41 := K31.wr W32 (Or.inl (List.mem_of_getElem? (i := 0) rfl))
  obtain ⟨fs, hr, hrun, hended, hW, hsame⟩ := X32.leave (v := none) (fun _ => rfl)
  refine ⟨_, _, pre0 _ ?_, hrun, hended, _, _, rfl, ?_, ⟨_, rfl⟩, hW, hsame.mono (by decide) (by decide)⟩
  · show Steps p.tables e below (s₁.setTop (mkF m 0 #[.val (.ref a1), .val (.ref a2), .val (.ref a3), .val (.ref a4), .val (.ref a5)] [])) _
    refine XS.aloadN X0.here hx rfl (hb hby d8_0) rfl rfl ?_
    show Steps p.tables e below (s₁.setTop (mkF m 1 #[.val (.ref a1), .val (.ref a2), .val (.ref a3), .val (.ref a4), .val (.ref a5)] [(.ref a1)])) _
    refine st1 _ ?_
    show Steps p.tables e below (T1.setTop (mkF m 4 #[.val (.ref a1), .val (.ref a2), .val (.ref a3), .val (.ref a4), .val (.ref a5)] [])) _
    refine XS.aloadN X1.here hx rfl (hb hby d8_4) rfl rfl ?_
    show Steps p.tables e below (T1.setTop (mkF m 5 #[.val (.ref a1), .val (.ref a2), .val (.ref a3), .val (.ref a4), .val (.ref a5)] [(.ref a1)])) _
    refine XS.aloadN X1.here hx rfl (hb hby d8_5) rfl rfl ?_
    show Steps p.tables e below (T1.setTop (mkF m 6 #[.val (.ref a1), .val (.ref a2), .val (.ref a3), .val (.ref a4), .val (.ref a5)] [(.ref a2), (.ref a1)])) _
    refine st2 _ ?_
    show Steps p.tables e below (T2.setTop (mkF m 9 #[.val (.ref a1), .val (.ref a2), .val (.ref a3), .val (.ref a4), .val (.ref a5)] [])) _
    refine XS.aloadN X2.here hx rfl (hb hby d8_9) rfl rfl ?_
    show Steps p.tables e below (T2.setTop (mkF m 10 #[.val (.ref a1), .val (.ref a2), .val (.ref a3), .val (.ref a4), .val (.ref a5)] [(.ref a1)])) _
    refine XS.aloadN X2.here hx rfl (hb hby d8_10) rfl rfl ?_
    show Steps p.tables e below (T2.setTop (mkF m 11 #[.val (.ref a1), .val (.ref a2), .val (.ref a3), .val (.ref a4), .val (.ref a5)] [(.ref a3), (.ref a1)])) _
    refine st12 _ ?_
    show Steps p.tables e below (T12.setTop (mkF m 14 #[.val (.ref a1), .val (.ref a2), .val (.ref a3), .val (.ref a4), .val (.ref a5)] [])) _
    refine XS.aloadN X12.here hx rfl (hb hby d8_14) rfl rfl ?_
    show Steps p.tables e below (T12.setTop (mkF m 15 #[.val (.ref a1), .val (.ref a2), .val (.ref a3), .val (.ref a4), .val (.ref a5)] [(.ref a1)])) _
    refine XS.aloadN X12.here hx rfl (hb hby d8_15) rfl rfl ?_
    show Steps p.tables e below (T12.setTop (mkF m 16 #[.val (.ref a1), .val (.ref a2), .val (.ref a3), .val (.ref a4), .val (.ref a5)] [(.ref a4), (.ref a1)])) _
    refine st22 _ ?_
    show Steps p.tables e below (T22.setTop (mkF m 19 #[.val (.ref a1), .val (.ref a2), .val (.ref a3), .val (.ref a4), .val (.ref a5)] [])) _
    refine XS.aloadN X22.here hx rfl (hb hby d8_19) rfl rfl ?_
    show Steps p.tables e below (T22.setTop (mkF m 20 #[.val (.ref a1), .val (.ref a2), .val (.ref a3), .val (.ref a4), .val (.ref a5)] [(.ref a1)])) _
    refine XS.aload X22.here hx rfl (hb hby d8_20) rfl rfl ?_
    show Steps p.tables e below (T22.setTop (mkF m 22 #[.val (.ref a1), .val (.ref a2), .val (.ref a3), .val (.ref a4), .val (.ref a5)] [(.ref a5), (.ref a1)])) _
    refine st32 _ ?_
    show Steps p.tables e below (T32.setTop (mkF m 25 #[.val (.ref a1), .val (.ref a2), .val (.ref a3), .val (.ref a4), .val (.ref a5)] [])) _
    exact X32.returnOut hx Bd.returns (hb hby d8_25) hr
  · show Qrm8 Z a1 a2 a3 a4 a5 h0 n0 _ T32.heap _
    rw [e32]
    exact ⟨rfl, N40, K41, f36, f37, f33, f35⟩
theorem d7_0 : decode prog_114_method_1_code 0 = .ok (.aload_n 0, 1) := by decide +kernel
theorem d7_1 : decode prog_114_method_1_code 1 = .ok (.bipush 8, 2) := by decide +kernel
theorem d7_3 : decode prog_114_method_1_code 3 = .ok (.anewarray 3, 3) := by decide +kernel
theorem d7_6 : decode prog_114_method_1_code 6 = .ok (.bipush 8, 2) := by decide +kernel
theorem d7_8 : decode prog_114_method_1_code 8 = .ok (.anewarray 5, 3) := by decide +kernel
theorem d7_11 : decode prog_114_method_1_code 11 = .ok (.bipush 8, 2) := by decide +kernel
theorem d7_13 : decode prog_114_method_1_code 13 = .ok (.anewarray 5, 3) := by decide +kernel
theorem d7_16 : decode prog_114_method_1_code 16 = .ok (.bipush 8, 2) := by decide +kernel
theorem d7_18 : decode prog_114_method_1_code 18 = .ok (.newarray .long, 2) := by decide +kernel
theorem d7_20 : decode prog_114_method_1_code 20 = .ok (.invokespecial 7, 3) := by decide +kernel
theorem pd___Llanternweir_fields_EventFields_Kind__Ljava_lang_String__Ljava_lang_String__J_V : parseMethodDescriptor "([Llanternweir/fields/EventFields$Kind;[Ljava/lang/String;[Ljava/lang/String;[J)V" = some ⟨[(.array (.object "lanternweir/fields/EventFields$Kind")), (.array (.object "java/lang/String")), (.array (.object "java/lang/String")), (.array .long)], none⟩ := by decide +kernel
theorem d7_23 : decode prog_114_method_1_code 23 = .ok (.return_, 1) := by decide +kernel
theorem ef_rm7 (m : MethodId) (a1 : Addr) : entryFrame m #[(.ref a1)] 1 = mkF m 0 #[.val (.ref a1)] [] := by first | (simp [entryFrame, mkF, argsToLocals, Value.category]; done) | rfl
def Qrm7 (Z : State) (a1 : Addr) (h0 : Heap) (n0 : Nat) (v : Option Value) (h : Heap) (L : List Loc) : Prop := v = none ∧ Fr n0 L ∧ Keep h0 h [a1] ∧ ∃ (bk bn bb : Addr) (kk kn kb : ClassId), own_EFp Z n0 a1 bk bn bb kk kn ∧ h0.size ≤ bk ∧ h0.size ≤ bn ∧ h0.size ≤ bb ∧ own_EF Z h a1 bk bn bb kk kn kb (0 : Int32) [.null, .null, .null, .null, .null, .null, .null, .null] [.null, .null, .null, .null, .null, .null, .null, .null] [(.long (0 : Int64)), (.long (0 : Int64)), (.long (0 : Int64)), (.long (0 : Int64)), (.long (0 : Int64)), (.long (0 : Int64)), (.long (0 : Int64)), (.long (0 : Int64))]
set_option maxRecDepth 65536 in
set_option maxHeartbeats 40000000 in
theorem rm7 (l : Launch) (Z : State) (a0 : Array Value) (hw : ∀ d ∈ tables_1, d.before a0 Z = true) (ws : List Jvm.Cond) (a1 : Addr) (h0 : Heap) (n0 : Nat) (Z0 : n0 ≤ h0.size) (E1 : Exa Z h0 a1 "lanternweir/fields/EventFields") (F_kinds : Fld Z h0 a1 "lanternweir/fields/EventFields" "kinds" "[Llanternweir/fields/EventFields$Kind;" .null) (F_names : Fld Z h0 a1 "lanternweir/fields/EventFields" "names" "[Ljava/lang/String;" .null) (F_strings : Fld Z h0 a1 "lanternweir/fields/EventFields" "strings" "[Ljava/lang/String;" .null) (F_bits : Fld Z h0 a1 "lanternweir/fields/EventFields" "bits" "[J" .null) (F_size : Fld Z h0 a1 "lanternweir/fields/EventFields" "size" "I" (.int (0 : Int32))) (g1 : n0 ≤ a1) :
    MetFree l (⟨"lanternweir/fields/EventFields", "<init>", "()V"⟩ : MethodName) (head1 (Jvm.Cond.code (⟨"lanternweir/fields/EventFields", "<init>", "()V"⟩ : MethodName) prog_114_method_1_code 1 none :: ws) ({ frames := 2, cells := 4, slots := 32, locals := 28 } : Room)) (fun a U => a = #[(.ref a1)] ∧ Z.Warmed39 U.vm ∧ U.heap = h0) (fun _ _ _ _ _ => True) (fun _ U o U' => ∃ v L, o = .returned v ∧ Qrm7 Z a1 h0 n0 v U'.heap L ∧ FrameEnd U o U' L ({ frames := 2, cells := 4, slots := 32, locals := 28 } : Room).cells ({ frames := 2, cells := 4, slots := 32, locals := 28 } : Room).slots) := by
  refine MetFree.of_bodySF (plainFor_of_name pn_lanternweir_fields_EventFields) hisR ?_
  intro p e s m args below meth c s₁ Bd hml0 hP hK
  obtain ⟨rfl, hZ, hh⟩ := hP
  have hx := Bd.exec
  have hby := Bd.bytes
  have hml : c.maxLocals = 1 := hml0
  have hown : s.vm.findClass "lanternweir/fields/EventFields" = some m.cls := findClass_of_methodNamed Bd.named
  have hnm := (name_of_methodNamed Bd.named Bd.method).1
  have X0 : Stand p l e ({ frames := 2, cells := 4, slots := 32, locals := 28 } : Room) s m #[(.ref a1)] below meth c s₁ [] 0 0 := Stand.of_body Bd
  have e0 : s₁.heap = h0 := by rw [← hh, Bd.state]; rfl
  have N0 := Fr.nil n0
  have pre0 : ∀ t, Steps p.tables e below (s₁.setTop (mkF m 0 #[.val (.ref a1)] [])) t → Steps p.tables e below (s₁.setTop (entryFrame m #[(.ref a1)] 1)) t := fun t k => castTop (ef_rm7 m a1) k
  have K0 := Keep.refl h0 [a1]
  obtain ⟨T42, h42, k42, X42, e42, E42, A42, O42, st42⟩ := newR X0 hx hZ hown (hw _ (List.mem_of_getElem? (i := 36) rfl)) (hw _ (List.mem_of_getElem? (i := 37) rfl)) e0 (g := (mkF m 3 #[.val (.ref a1)] [(.int (8 : Int32)), (.ref a1)])) rfl (hb hby d7_3) rfl (by decide) (cap := 8) (by decide) (by decide) (by decide) (by decide)
  obtain ⟨b42, g42⟩ : ∃ z, z = h0.size := ⟨_, rfl⟩
  rw [← g42] at A42 st42
  have g43 : n0 ≤ b42 := Nat.le_trans Z0 (Nat.le_of_eq g42.symm)
  have sz44 : h0.size ≤ b42 := Nat.le_trans K0.1 (Nat.le_of_eq g42.symm)
  have ne45 : a1 ≠ b42 := Nat.ne_of_lt (Nat.lt_of_lt_of_le E1.lt (Nat.le_of_eq g42.symm))
  have f46 := E1.ext E42
  have f47 := F_kinds.ext E42
  have f48 := F_names.ext E42
  have f49 := F_strings.ext E42
  have f50 := F_bits.ext E42
  have f51 := F_size.ext E42
  have Zn52 := Nat.le_trans Z0 E42.1
  have K53 := K0.ext E42
  have f54 := Arv.new A42 (by decide)
  have f55 : Arv Z h42 b42 k42 (.object "lanternweir/fields/EventFields$Kind") (8 : Int32) [.null, .null, .null, .null, .null, .null, .null, .null] .null := f54.pad (pad_rep [] .null 8)
  obtain ⟨T56, h56, k56, X56, e56, E56, A56, O56, st56⟩ := newR X42 hx hZ hown (hw _ (List.mem_of_getElem? (i := 38) rfl)) (hw _ (List.mem_of_getElem? (i := 39) rfl)) e42 (g := (mkF m 8 #[.val (.ref a1)] [(.int (8 : Int32)), (.ref b42), (.ref a1)])) rfl (hb hby d7_8) rfl (by decide) (cap := 8) (by decide) (by decide) (by decide) (by decide)
  obtain ⟨b56, g56⟩ : ∃ z, z = h42.size := ⟨_, rfl⟩
  rw [← g56] at A56 st56
  have g57 : n0 ≤ b56 := Nat.le_trans Zn52 (Nat.le_of_eq g56.symm)
  have sz58 : h0.size ≤ b56 := Nat.le_trans K53.1 (Nat.le_of_eq g56.symm)
  have ne59 : a1 ≠ b56 := Nat.ne_of_lt (Nat.lt_of_lt_of_le f46.lt (Nat.le_of_eq g56.symm))
  have ne60 : b42 ≠ b56 := Nat.ne_of_lt (Nat.lt_of_lt_of_le f55.lt (Nat.le_of_eq g56.symm))
  have f61 := f46.ext E56
  have f62 := f47.ext E56
  have f63 := f48.ext E56
  have f64 := f49.ext E56
  have f65 := f50.ext E56
  have f66 := f51.ext E56
  have f67 := f55.ext E56
  have Zn68 := Nat.le_trans Zn52 E56.1
  have K69 := K53.ext E56
  have f70 := Arv.new A56 (by decide)
  have f71 : Arv Z h56 b56 k56 (.object "java/lang/String") (8 : Int32) [.null, .null, .null, .null, .null, .null, .null, .null] .null := f70.pad (pad_rep [] .null 8)
  obtain ⟨T72, h72, k72, X72, e72, E72, A72, O72, st72⟩ := newR X56 hx hZ hown (hw _ (List.mem_of_getElem? (i := 38) rfl)) (hw _ (List.mem_of_getElem? (i := 39) rfl)) e56 (g := (mkF m 13 #[.val (.ref a1)] [(.int (8 : Int32)), (.ref b56), (.ref b42), (.ref a1)])) rfl (hb hby d7_13) rfl (by decide) (cap := 8) (by decide) (by decide) (by decide) (by decide)
  obtain ⟨b72, g72⟩ : ∃ z, z = h56.size := ⟨_, rfl⟩
  rw [← g72] at A72 st72
  have g73 : n0 ≤ b72 := Nat.le_trans Zn68 (Nat.le_of_eq g72.symm)
  have sz74 : h0.size ≤ b72 := Nat.le_trans K69.1 (Nat.le_of_eq g72.symm)
  have ne75 : a1 ≠ b72 := Nat.ne_of_lt (Nat.lt_of_lt_of_le f61.lt (Nat.le_of_eq g72.symm))
  have ne76 : b42 ≠ b72 := Nat.ne_of_lt (Nat.lt_of_lt_of_le f67.lt (Nat.le_of_eq g72.symm))
  have ne77 : b56 ≠ b72 := Nat.ne_of_lt (Nat.lt_of_lt_of_le f71.lt (Nat.le_of_eq g72.symm))
  have f78 := f61.ext E72
  have f79 := f62.ext E72
  have f80 := f63.ext E72
  have f81 := f64.ext E72
  have f82 := f65.ext E72
  have f83 := f66.ext E72
  have f84 := f67.ext E72
  have f85 := f71.ext E72
  have Zn86 := Nat.le_trans Zn68 E72.1
  have K87 := K69.ext E72
  have f88 := Arv.new A72 (by decide)
  have f89 : Arv Z h72 b72 k72 (.object "java/lang/String") (8 : Int32) [.null, .null, .null, .null, .null, .null, .null, .null] .null := f88.pad (pad_rep [] .null 8)
  obtain ⟨T90, h90, k90, X90, e90, E90, A90, st90⟩ := newP X72 hx hZ (hw _ (List.mem_of_getElem? (i := 40) rfl)) e72 (g := (mkF m 18 #[.val (.ref a1)] [(.int (8 : Int32)), (.ref b72), (.ref b56), (.ref b42), (.ref a1)])) rfl (hb hby d7_18) rfl (by decide) (cap := 8) (by decide) (by decide) (by decide) (by decide)
  obtain ⟨b90, g90⟩ : ∃ z, z = h72.size := ⟨_, rfl⟩
  rw [← g90] at A90 st90
  have g91 : n0 ≤ b90 := Nat.le_trans Zn86 (Nat.le_of_eq g90.symm)
  have sz92 : h0.size ≤ b90 := Nat.le_trans K87.1 (Nat.le_of_eq g90.symm)
  have ne93 : a1 ≠ b90 := Nat.ne_of_lt (Nat.lt_of_lt_of_le f78.lt (Nat.le_of_eq g90.symm))
  have ne94 : b42 ≠ b90 := Nat.ne_of_lt (Nat.lt_of_lt_of_le f84.lt (Nat.le_of_eq g90.symm))
  have ne95 : b56 ≠ b90 := Nat.ne_of_lt (Nat.lt_of_lt_of_le f85.lt (Nat.le_of_eq g90.symm))
  have ne96 : b72 ≠ b90 := Nat.ne_of_lt (Nat.lt_of_lt_of_le f89.lt (Nat.le_of_eq g90.symm))
  have f97 := f78.ext E90
  have f98 := f79.ext E90
  have f99 := f80.ext E90
  have f100 := f81.ext E90
  have f101 := f82.ext E90
  have f102 := f83.ext E90
  have f103 := f84.ext E90
  have f104 := f85.ext E90
  have f105 := f89.ext E90
  have Zn106 := Nat.le_trans Zn86 E90.1
  have K107 := K87.ext E90
  have f108 := Arv.new A90 (by decide)
  have f109 : Arv Z h90 b90 k90 .long (8 : Int32) [(.long (0 : Int64)), (.long (0 : Int64)), (.long (0 : Int64)), (.long (0 : Int64)), (.long (0 : Int64)), (.long (0 : Int64)), (.long (0 : Int64)), (.long (0 : Int64))] (.long (0 : Int64)) := f108.pad (pad_rep [] (.long (0 : Int64)) 8)
  obtain ⟨_, _, ⟨T110, L110, k110, n110⟩, -, X110, ⟨Lc110, hQ110, l110, y110, z110⟩, st110⟩ := X90.specialBack hx (y := (⟨"lanternweir/fields/EventFields", "<init>", "([Llanternweir/fields/EventFields$Kind;[Ljava/lang/String;[Ljava/lang/String;[J)V"⟩ : MethodName)) rfl hown (mvT hZ (hw _ (List.mem_of_getElem? (i := 41) rfl))) (mvT hZ (hw _ (List.mem_of_getElem? (i := 42) rfl))) (mvT hZ (hw _ (List.mem_of_getElem? (i := 43) rfl))) (by decide) (backOf (W := 0) (rm8 l Z a0 hw [] a1 b42 b56 b72 b90  h90 n0 Zn106 f97 f98 f99 f100 f101 f102 g1) hZ (hw _ (List.mem_of_getElem? (i := 43) rfl)) (hw _ (List.mem_of_getElem? (i := 32) rfl)) (by decide) (by decide)) (g := (mkF m 20 #[.val (.ref a1)] [(.ref b90), (.ref b72), (.ref b56), (.ref b42), (.ref a1)])) rfl (by rw [hml]; rfl) (Steps.refl _) (a := a1) (argsL := [(.ref b42), (.ref b56), (.ref b72), (.ref b90)]) (rest := []) (lenOf pd___Llanternweir_fields_EventFields_Kind__Ljava_lang_String__Ljava_lang_String__J_V rfl) rfl (by show 2 * 0 + _ ≤ _; exact Nat.le_of_eq rfl) (hb hby d7_20) (fun _ _ => ⟨rfl, e90, (by decide : 4 + 0 ≤ _), (by decide : 32 + 0 ≤ _)⟩)
  dsimp only [Pt.U, Pt.locs, Pt.cells, Pt.slots] at X110 l110 y110 z110 st110 hQ110
  subst l110 y110 z110
  obtain ⟨rfl, N110q, Kq110, Fk110, Fn110, Fb110, Fs110⟩ := hQ110
  have N111 := Fr.app N0 N110q
  have f112 := f97.keep Kq110
  have f113 := f103.keep Kq110 (ninS (Ne.symm ne45) nin0)
  have f114 := f104.keep Kq110 (ninS (Ne.symm ne59) nin0)
  have f115 := f105.keep Kq110 (ninS (Ne.symm ne75) nin0)
  have f116 := f109.keep Kq110 (ninS (Ne.symm ne93) nin0)
  have Zn117 := Nat.le_trans Zn106 Kq110.1
  have K118 := K107.trans Kq110 (allS (Or.inl (List.mem_of_getElem? (i := 0) rfl)) all0)
  obtain ⟨fs, hr, hrun, hended, hW, hsame⟩ := X110.leave (v := none) (fun _ => rfl)
  refine ⟨_, _, pre0 _ ?_, hrun, hended, _, _, rfl, ?_, ⟨_, rfl⟩, hW, hsame.mono (by decide) (by decide)⟩
  · show Steps p.tables e below (s₁.setTop (mkF m 0 #[.val (.ref a1)] [])) _
    refine XS.aloadN X0.here hx rfl (hb hby d7_0) rfl rfl ?_
    show Steps p.tables e below (s₁.setTop (mkF m 1 #[.val (.ref a1)] [(.ref a1)])) _
    refine XS.bipush X0.here hx rfl (hb hby d7_1) ?_
    show Steps p.tables e below (s₁.setTop (mkF m 3 #[.val (.ref a1)] [(.int (8 : Int32)), (.ref a1)])) _
    refine st42 _ ?_
    show Steps p.tables e below (T42.setTop (mkF m 6 #[.val (.ref a1)] [(.ref b42), (.ref a1)])) _
    refine XS.bipush X42.here hx rfl (hb hby d7_6) ?_
    show Steps p.tables e below (T42.setTop (mkF m 8 #[.val (.ref a1)] [(.int (8 : Int32)), (.ref b42), (.ref a1)])) _
    refine st56 _ ?_
    show Steps p.tables e below (T56.setTop (mkF m 11 #[.val (.ref a1)] [(.ref b56), (.ref b42), (.ref a1)])) _
    refine XS.bipush X56.here hx rfl (hb hby d7_11) ?_
    show Steps p.tables e below (T56.setTop (mkF m 13 #[.val (.ref a1)] [(.int (8 : Int32)), (.ref b56), (.ref b42), (.ref a1)])) _
    refine st72 _ ?_
    show Steps p.tables e below (T72.setTop (mkF m 16 #[.val (.ref a1)] [(.ref b72), (.ref b56), (.ref b42), (.ref a1)])) _
    refine XS.bipush X72.here hx rfl (hb hby d7_16) ?_
    show Steps p.tables e below (T72.setTop (mkF m 18 #[.val (.ref a1)] [(.int (8 : Int32)), (.ref b72), (.ref b56), (.ref b42), (.ref a1)])) _
    refine st90 _ ?_
    show Steps p.tables e below (T90.setTop (mkF m 20 #[.val (.ref a1)] [(.ref b90), (.ref b72), (.ref b56), (.ref b42), (.ref a1)])) _
    refine st110.trans ?_
    show Steps p.tables e below (T110.setTop (mkF m 23 #[.val (.ref a1)] [])) _
    exact X110.returnOut hx Bd.returns (hb hby d7_23) hr
  · show Qrm7 Z a1 h0 n0 _ T110.heap _
    exact ⟨rfl, N111, K118, b42, b56, b90, _, _, _, ⟨g1, g43, g57, g91, ne45, ne59, ne93, ne60, ne94, ne95, O42, O56⟩, sz44, sz58, sz92, f112, Fk110, Fn110, Fb110, Fs110, f113, f114, f116⟩
theorem d10_0 : decode prog_115_method_1_code 0 = .ok (.aload_n 0, 1) := by decide +kernel
theorem d10_1 : decode prog_115_method_1_code 1 = .ok (.invokespecial 1, 3) := by decide +kernel
theorem d10_4 : decode prog_115_method_1_code 4 = .ok (.aload_n 0, 1) := by decide +kernel
theorem d10_5 : decode prog_115_method_1_code 5 = .ok (.aload_n 1, 1) := by decide +kernel
theorem d10_6 : decode prog_115_method_1_code 6 = .ok (.putfield 7, 3) := by decide +kernel
theorem d10_9 : decode prog_115_method_1_code 9 = .ok (.return_, 1) := by decide +kernel
theorem pn_lanternweir_fields_EventFields_Builder : plainName "lanternweir/fields/EventFields$Builder" = true := by first | (simp [plainName, overriddenIn]; done) | decide +kernel
theorem ef_rm10 (m : MethodId) (b1 : Addr) (a1 : Addr) : entryFrame m #[(.ref b1), (.ref a1)] 2 = mkF m 0 #[.val (.ref b1), .val (.ref a1)] [] := by first | (simp [entryFrame, mkF, argsToLocals, Value.category]; done) | rfl
def Qrm10 (Z : State) (b1 : Addr) (a1 : Addr) (h0 : Heap) (n0 : Nat) (v : Option Value) (h : Heap) (L : List Loc) : Prop := v = none ∧ Fr n0 L ∧ Keep h0 h [b1] ∧ Fld Z h b1 "lanternweir/fields/EventFields$Builder" "fields" "Llanternweir/fields/EventFields;" (.ref a1)
set_option maxRecDepth 65536 in
set_option maxHeartbeats 40000000 in
theorem rm10 (l : Launch) (Z : State) (a0 : Array Value) (hw : ∀ d ∈ tables_1, d.before a0 Z = true) (ws : List Jvm.Cond) (b1 : Addr) (a1 : Addr) (h0 : Heap) (n0 : Nat) (Z0 : n0 ≤ h0.size) (E1 : Exa Z h0 b1 "lanternweir/fields/EventFields$Builder") (F1 : Fld Z h0 b1 "lanternweir/fields/EventFields$Builder" "fields" "Llanternweir/fields/EventFields;" .null) (g1 : n0 ≤ b1) :
    MetFree l (⟨"lanternweir/fields/EventFields$Builder", "<init>", "(Llanternweir/fields/EventFields;)V"⟩ : MethodName) (head1 (Jvm.Cond.code (⟨"lanternweir/fields/EventFields$Builder", "<init>", "(Llanternweir/fields/EventFields;)V"⟩ : MethodName) prog_115_method_1_code 2 none :: ws) ({ frames := 1, cells := 0, slots := 0, locals := 12 } : Room)) (fun a U => a = #[(.ref b1), (.ref a1)] ∧ Z.Warmed39 U.vm ∧ U.heap = h0) (fun _ _ _ _ _ => True) (fun _ U o U' => ∃ v L, o = .returned v ∧ Qrm10 Z b1 a1 h0 n0 v U'.heap L ∧ FrameEnd U o U' L ({ frames := 1, cells := 0, slots := 0, locals := 12 } : Room).cells ({ frames := 1, cells := 0, slots := 0, locals := 12 } : Room).slots) := by
  refine MetFree.of_bodySF (plainFor_of_name pn_lanternweir_fields_EventFields_Builder) hisR ?_
  intro p e s m args below meth c s₁ Bd hml0 hP hK
  obtain ⟨rfl, hZ, hh⟩ := hP
  have hx := Bd.exec
  have hby := Bd.bytes
  have hml : c.maxLocals = 2 := hml0
  have hown : s.vm.findClass "lanternweir/fields/EventFields$Builder" = some m.cls := findClass_of_methodNamed Bd.named
  have hnm := (name_of_methodNamed Bd.named Bd.method).1
  have X0 : Stand p l e ({ frames := 1, cells := 0, slots := 0, locals := 12 } : Room) s m #[(.ref b1), (.ref a1)] below meth c s₁ [] 0 0 := Stand.of_body Bd
  have e0 : s₁.heap = h0 := by rw [← hh, Bd.state]; rfl
  have N0 := Fr.nil n0
  have pre0 : ∀ t, Steps p.tables e below (s₁.setTop (mkF m 0 #[.val (.ref b1), .val (.ref a1)] [])) t → Steps p.tables e below (s₁.setTop (entryFrame m #[(.ref b1), (.ref a1)] 2)) t := fun t k => castTop (ef_rm10 m b1 a1) k
  have K0 := Keep.refl h0 [b1]
  obtain ⟨T119, X119, e119, st119⟩ := initO X0 hx hZ hown (hw _ (List.mem_of_getElem? (i := 64) rfl)) (hw _ (List.mem_of_getElem? (i := 12) rfl)) (hw _ (List.mem_of_getElem? (i := 13) rfl)) e0 (g := (mkF m 1 #[.val (.ref b1), .val (.ref a1)] [(.ref b1)])) rfl (by rw [hml]; rfl) rfl (hb hby d10_1) (by decide) (W := 0) (by show 2 * 0 + _ ≤ _; exact Nat.le_of_eq rfl) (by decide)
  obtain ⟨T120, h120, X120, e120, W120, st120⟩ := putF X119 hx hZ hown (host := "") (Or.inl (hw _ (List.mem_of_getElem? (i := 65) rfl))) Via.refl e119 F1 E1 (Or.inl (hw _ (List.mem_of_getElem? (i := 66) rfl))) (hw _ (List.mem_of_getElem? (i := 59) rfl)) (ty := (.object "lanternweir/fields/EventFields")) (by decide) rfl rfl (g := (mkF m 6 #[.val (.ref b1), .val (.ref a1)] [(.ref a1), (.ref b1)])) rfl rfl (hb hby d10_6)
  have f121 := F1.same W120
  have f122 := E1.wr W120
  have Zn123 := Nat.le_trans Z0 (Keep.of_wr W120).1
  have N124 := Fr.snoc X120 N0 g1
  have K125 := K0.wr W120 (Or.inl (List.mem_of_getElem? (i := 0) rfl))
  obtain ⟨fs, hr, hrun, hended, hW, hsame⟩ := X120.leave (v := none) (fun _ => rfl)
  refine ⟨_, _, pre0 _ ?_, hrun, hended, _, _, rfl, ?_, ⟨_, rfl⟩, hW, hsame.mono (by decide) (by decide)⟩
  · show Steps p.tables e below (s₁.setTop (mkF m 0 #[.val (.ref b1), .val (.ref a1)] [])) _
    refine XS.aloadN X0.here hx rfl (hb hby d10_0) rfl rfl ?_
    show Steps p.tables e below (s₁.setTop (mkF m 1 #[.val (.ref b1), .val (.ref a1)] [(.ref b1)])) _
    refine st119 _ ?_
    show Steps p.tables e below (T119.setTop (mkF m 4 #[.val (.ref b1), .val (.ref a1)] [])) _
    refine XS.aloadN X119.here hx rfl (hb hby d10_4) rfl rfl ?_
    show Steps p.tables e below (T119.setTop (mkF m 5 #[.val (.ref b1), .val (.ref a1)] [(.ref b1)])) _
    refine XS.aloadN X119.here hx rfl (hb hby d10_5) rfl rfl ?_
    show Steps p.tables e below (T119.setTop (mkF m 6 #[.val (.ref b1), .val (.ref a1)] [(.ref a1), (.ref b1)])) _
    refine st120 _ ?_
    show Steps p.tables e below (T120.setTop (mkF m 9 #[.val (.ref b1), .val (.ref a1)] [])) _
    exact X120.returnOut hx Bd.returns (hb hby d10_9) hr
  · show Qrm10 Z b1 a1 h0 n0 _ T120.heap _
    rw [e120]
    exact ⟨rfl, N124, K125, f121⟩
theorem d9_0 : decode prog_114_method_3_code 0 = .ok (.new 31, 3) := by decide +kernel
theorem d9_3 : decode prog_114_method_3_code 3 = .ok (.dup, 1) := by decide +kernel
theorem d9_4 : decode prog_114_method_3_code 4 = .ok (.aload_n 0, 1) := by decide +kernel
theorem d9_5 : decode prog_114_method_3_code 5 = .ok (.invokespecial 33, 3) := by decide +kernel
theorem pd__Llanternweir_fields_EventFields__V : parseMethodDescriptor "(Llanternweir/fields/EventFields;)V" = some ⟨[(.object "lanternweir/fields/EventFields")], none⟩ := by decide +kernel
theorem d9_8 : decode prog_114_method_3_code 8 = .ok (.areturn, 1) := by decide +kernel
theorem ef_rm9 (m : MethodId) (a1 : Addr) : entryFrame m #[(.ref a1)] 1 = mkF m 0 #[.val (.ref a1)] [] := by first | (simp [entryFrame, mkF, argsToLocals, Value.category]; done) | rfl
def Qrm9 (Z : State) (a1 : Addr) (h0 : Heap) (n0 : Nat) (v : Option Value) (h : Heap) (L : List Loc) : Prop := ∃ b : Addr, v = some (.ref b) ∧ Fr n0 L ∧ Keep h0 h [] ∧ n0 ≤ b ∧ h0.size ≤ b ∧ Exa Z h b "lanternweir/fields/EventFields$Builder" ∧ Fld Z h b "lanternweir/fields/EventFields$Builder" "fields" "Llanternweir/fields/EventFields;" (.ref a1)
set_option maxRecDepth 65536 in
set_option maxHeartbeats 40000000 in
theorem rm9 (l : Launch) (Z : State) (a0 : Array Value) (hw : ∀ d ∈ tables_1, d.before a0 Z = true) (ws : List Jvm.Cond) (a1 : Addr) (h0 : Heap) (n0 : Nat) (Z0 : n0 ≤ h0.size) :
    MetFree l (⟨"lanternweir/fields/EventFields", "builder", "()Llanternweir/fields/EventFields$Builder;"⟩ : MethodName) (head1 (Jvm.Cond.code (⟨"lanternweir/fields/EventFields", "builder", "()Llanternweir/fields/EventFields$Builder;"⟩ : MethodName) prog_114_method_3_code 1 (some (.object "lanternweir/fields/EventFields$Builder")) :: ws) ({ frames := 2, cells := 1, slots := 1, locals := 26 } : Room)) (fun a U => a = #[(.ref a1)] ∧ Z.Warmed39 U.vm ∧ U.heap = h0) (fun _ _ _ _ _ => True) (fun _ U o U' => ∃ v L, o = .returned v ∧ Qrm9 Z a1 h0 n0 v U'.heap L ∧ FrameEnd U o U' L ({ frames := 2, cells := 1, slots := 1, locals := 26 } : Room).cells ({ frames := 2, cells := 1, slots := 1, locals := 26 } : Room).slots) := by
  refine MetFree.of_bodySF (plainFor_of_name pn_lanternweir_fields_EventFields) hisR ?_
  intro p e s m args below meth c s₁ Bd hml0 hP hK
  obtain ⟨rfl, hZ, hh⟩ := hP
  have hx := Bd.exec
  have hby := Bd.bytes
  have hml : c.maxLocals = 1 := hml0
  have hown : s.vm.findClass "lanternweir/fields/EventFields" = some m.cls := findClass_of_methodNamed Bd.named
  have hnm := (name_of_methodNamed Bd.named Bd.method).1
  have X0 : Stand p l e ({ frames := 2, cells := 1, slots := 1, locals := 26 } : Room) s m #[(.ref a1)] below meth c s₁ [] 0 0 := Stand.of_body Bd
  have e0 : s₁.heap = h0 := by rw [← hh, Bd.state]; rfl
  have N0 := Fr.nil n0
  have pre0 : ∀ t, Steps p.tables e below (s₁.setTop (mkF m 0 #[.val (.ref a1)] [])) t → Steps p.tables e below (s₁.setTop (entryFrame m #[(.ref a1)] 1)) t := fun t k => castTop (ef_rm9 m a1) k
  have K0 := Keep.refl h0 []
  obtain ⟨T126, h126, X126, e126, E126, A126, D126, U126, st126⟩ := newO X0 hx hZ hown (hw _ (List.mem_of_getElem? (i := 58) rfl)) (hw _ (List.mem_of_getElem? (i := 59) rfl)) (hw _ (List.mem_of_getElem? (i := 60) rfl)) e0 (g := (mkF m 0 #[.val (.ref a1)] [])) rfl (hb hby d9_0) (by decide) (by decide)
  obtain ⟨b126, g126⟩ : ∃ z, z = h0.size := ⟨_, rfl⟩
  rw [← g126] at A126 D126 st126
  have g127 : n0 ≤ b126 := Nat.le_trans Z0 (Nat.le_of_eq g126.symm)
  have sz128 : h0.size ≤ b126 := Nat.le_trans K0.1 (Nat.le_of_eq g126.symm)
  have Zn129 := Nat.le_trans Z0 E126.1
  have K130 := K0.ext E126
  have f131 : Fld Z h126 b126 "lanternweir/fields/EventFields$Builder" "fields" "Llanternweir/fields/EventFields;" .null := D126 (Or.inl (hw _ (List.mem_of_getElem? (i := 66) rfl))) (ty := (.object "lanternweir/fields/EventFields")) (by decide)
  obtain ⟨_, _, ⟨T132, L132, k132, n132⟩, -, X132, ⟨Lc132, hQ132, l132, y132, z132⟩, st132⟩ := own_specialRef X126 hx (y := (⟨"lanternweir/fields/EventFields$Builder", "<init>", "(Llanternweir/fields/EventFields;)V"⟩ : MethodName)) rfl hown (own_mvRef hZ (hw _ (List.mem_of_getElem? (i := 62) rfl)) (by decide) (hw _ (List.mem_of_getElem? (i := 61) rfl))) (mvT hZ (hw _ (List.mem_of_getElem? (i := 62) rfl))) (mvT hZ (hw _ (List.mem_of_getElem? (i := 63) rfl))) (by decide) (backOf (W := 1) (rm10 l Z a0 hw [] b126 a1  h126 n0 Zn129 A126 f131 g127) hZ (hw _ (List.mem_of_getElem? (i := 63) rfl)) (hw _ (List.mem_of_getElem? (i := 60) rfl)) (by decide) (by decide)) (g := (mkF m 5 #[.val (.ref a1)] [(.ref a1), (.ref b126), (.ref b126)])) rfl (by rw [hml]; rfl) (Steps.refl _) (a := b126) (argsL := [(.ref a1)]) (rest := [(.ref b126)]) (lenOf pd__Llanternweir_fields_EventFields__V rfl) rfl (by show 2 * 0 + _ ≤ _; exact Nat.le_of_eq rfl) (hb hby d9_5) (fun _ _ => ⟨rfl, e126, (by decide : 1 + 0 ≤ _), (by decide : 1 + 0 ≤ _)⟩)
  dsimp only [Pt.U, Pt.locs, Pt.cells, Pt.slots] at X132 l132 y132 z132 st132 hQ132
  subst l132 y132 z132
  obtain ⟨rfl, N132q, Kq132, Ff132⟩ := hQ132
  have N133 := Fr.app N0 N132q
  have f134 := A126.keep Kq132
  have Zn135 := Nat.le_trans Zn129 Kq132.1
  have K136 := K130.trans Kq132 (allS (Or.inr sz128) all0)
  obtain ⟨fs, hr, hrun, hended, hW, hsame⟩ := X132.leave (v := some (.ref b126)) (fun h => by rw [Bd.returns] at h; cases h)
  refine ⟨_, _, pre0 _ ?_, hrun, hended, _, _, rfl, ?_, ⟨_, rfl⟩, hW, hsame.mono (by decide) (by decide)⟩
  · show Steps p.tables e below (s₁.setTop (mkF m 0 #[.val (.ref a1)] [])) _
    refine st126 _ ?_
    show Steps p.tables e below (T126.setTop (mkF m 3 #[.val (.ref a1)] [(.ref b126)])) _
    refine XS.dup X126.here hx rfl (hb hby d9_3) rfl rfl ?_
    show Steps p.tables e below (T126.setTop (mkF m 4 #[.val (.ref a1)] [(.ref b126), (.ref b126)])) _
    refine XS.aloadN X126.here hx rfl (hb hby d9_4) rfl rfl ?_
    show Steps p.tables e below (T126.setTop (mkF m 5 #[.val (.ref a1)] [(.ref a1), (.ref b126), (.ref b126)])) _
    refine st132.trans ?_
    show Steps p.tables e below (T132.setTop (mkF m 8 #[.val (.ref a1)] [(.ref b126)])) _
    exact retOut X132 hx Bd.returns rfl (Or.inr (Or.inr (Or.inr (Or.inr ⟨rfl, rfl, rfl⟩)))) (hb hby d9_8) hr
  · show Qrm9 Z a1 h0 n0 _ T132.heap _
    exact ⟨_, rfl, N133, K136, g127, sz128, f134, Ff132⟩
theorem d12_0 : decode prog_114_method_20_code 0 = .ok (.aload_n 0, 1) := by decide +kernel
theorem d12_1 : decode prog_114_method_20_code 1 = .ok (.getfield 36, 3) := by decide +kernel
theorem d12_4 : decode prog_114_method_20_code 4 = .ok (.aload_n 0, 1) := by decide +kernel
theorem d12_5 : decode prog_114_method_20_code 5 = .ok (.getfield 16, 3) := by decide +kernel
theorem d12_8 : decode prog_114_method_20_code 8 = .ok (.arraylength, 1) := by decide +kernel
theorem d12_9 : decode prog_114_method_20_code 9 = .ok (.if_icmp .ne 7, 3) := by decide +kernel
theorem d12_16 : decode prog_114_method_20_code 16 = .ok (.aload_n 0, 1) := by decide +kernel
theorem d12_17 : decode prog_114_method_20_code 17 = .ok (.getfield 16, 3) := by decide +kernel
theorem d12_20 : decode prog_114_method_20_code 20 = .ok (.aload_n 0, 1) := by decide +kernel
theorem d12_21 : decode prog_114_method_20_code 21 = .ok (.getfield 36, 3) := by decide +kernel
theorem d12_24 : decode prog_114_method_20_code 24 = .ok (.aload_n 1, 1) := by decide +kernel
theorem d12_25 : decode prog_114_method_20_code 25 = .ok (.aastore, 1) := by decide +kernel
theorem d12_26 : decode prog_114_method_20_code 26 = .ok (.aload_n 0, 1) := by decide +kernel
theorem d12_27 : decode prog_114_method_20_code 27 = .ok (.getfield 20, 3) := by decide +kernel
theorem d12_30 : decode prog_114_method_20_code 30 = .ok (.aload_n 0, 1) := by decide +kernel
theorem d12_31 : decode prog_114_method_20_code 31 = .ok (.getfield 36, 3) := by decide +kernel
theorem d12_34 : decode prog_114_method_20_code 34 = .ok (.aload_n 2, 1) := by decide +kernel
theorem d12_35 : decode prog_114_method_20_code 35 = .ok (.aastore, 1) := by decide +kernel
theorem d12_36 : decode prog_114_method_20_code 36 = .ok (.aload_n 0, 1) := by decide +kernel
theorem d12_37 : decode prog_114_method_20_code 37 = .ok (.getfield 27, 3) := by decide +kernel
theorem d12_40 : decode prog_114_method_20_code 40 = .ok (.aload_n 0, 1) := by decide +kernel
theorem d12_41 : decode prog_114_method_20_code 41 = .ok (.getfield 36, 3) := by decide +kernel
theorem d12_44 : decode prog_114_method_20_code 44 = .ok (.lload_n 3, 1) := by decide +kernel
theorem d12_45 : decode prog_114_method_20_code 45 = .ok (.lastore, 1) := by decide +kernel
theorem d12_46 : decode prog_114_method_20_code 46 = .ok (.aload_n 0, 1) := by decide +kernel
theorem d12_47 : decode prog_114_method_20_code 47 = .ok (.dup, 1) := by decide +kernel
theorem d12_48 : decode prog_114_method_20_code 48 = .ok (.getfield 36, 3) := by decide +kernel
theorem d12_51 : decode prog_114_method_20_code 51 = .ok (.iconst 1, 1) := by decide +kernel
theorem d12_52 : decode prog_114_method_20_code 52 = .ok (.iadd, 1) := by decide +kernel
theorem d12_53 : decode prog_114_method_20_code 53 = .ok (.putfield 36, 3) := by decide +kernel
theorem d12_56 : decode prog_114_method_20_code 56 = .ok (.return_, 1) := by decide +kernel
theorem ef_rm12_0 (m : MethodId) (a1 : Addr) (a2 : Addr) (a3 : Addr) (q4 : Int64) : entryFrame m #[(.ref a1), (.ref a2), (.ref a3), (.long q4)] 5 = mkF m 0 #[.val (.ref a1), .val (.ref a2), .val (.ref a3), .val (.long q4), .second] [] := by first | (simp [entryFrame, mkF, argsToLocals, Value.category]; done) | rfl
def Qrm12_0 (Z : State) (a1 : Addr) (a2 : Addr) (a3 : Addr) (q4 : Int64) (bk : Addr) (bn : Addr) (bb : Addr) (kk : ClassId) (kn : ClassId) (kb : ClassId) (ks : List Value) (ns : List Value) (bs : List Value) (h0 : Heap) (n0 : Nat) (v : Option Value) (h : Heap) (L : List Loc) : Prop := v = none ∧ Fr n0 L ∧ Keep h0 h [a1, bk, bn, bb] ∧ own_EF Z h a1 bk bn bb kk kn kb (1 : Int32) (ks.set 0 (.ref a2)) (ns.set 0 (.ref a3)) (bs.set 0 (.long q4))
set_option maxRecDepth 65536 in
set_option maxHeartbeats 40000000 in
theorem rm12_0 (l : Launch) (Z : State) (a0 : Array Value) (hw : ∀ d ∈ tables_1, d.before a0 Z = true) (ws : List Jvm.Cond) (a1 : Addr) (a2 : Addr) (a3 : Addr) (q4 : Int64) (bk : Addr) (bn : Addr) (bb : Addr) (kk : ClassId) (kn : ClassId) (kb : ClassId) (ks : List Value) (ns : List Value) (bs : List Value) (h0 : Heap) (n0 : Nat) (Z0 : n0 ≤ h0.size) (S1 : own_EF Z h0 a1 bk bn bb kk kn kb (0 : Int32) ks ns bs) (P1 : own_EFp Z n0 a1 bk bn bb kk kn) (hk8 : ks.length = 8) (hn8 : ns.length = 8) (hb8 : bs.length = 8) (Ek : Exa Z h0 a2 "lanternweir/fields/EventFields$Kind") (Es : Exa Z h0 a3 "java/lang/String") :
    MetFree l (⟨"lanternweir/fields/EventFields", "add", "(Llanternweir/fields/EventFields$Kind;Ljava/lang/String;J)V"⟩ : MethodName) (head1 (Jvm.Cond.code (⟨"lanternweir/fields/EventFields", "add", "(Llanternweir/fields/EventFields$Kind;Ljava/lang/String;J)V"⟩ : MethodName) prog_114_method_20_code 5 none :: ws) ({ frames := 0, cells := 0, slots := 0, locals := 0 } : Room)) (fun a U => a = #[(.ref a1), (.ref a2), (.ref a3), (.long q4)] ∧ Z.Warmed39 U.vm ∧ U.heap = h0) (fun _ _ _ _ _ => True) (fun _ U o U' => ∃ v L, o = .returned v ∧ Qrm12_0 Z a1 a2 a3 q4 bk bn bb kk kn kb ks ns bs h0 n0 v U'.heap L ∧ FrameEnd U o U' L ({ frames := 0, cells := 0, slots := 0, locals := 0 } : Room).cells ({ frames := 0, cells := 0, slots := 0, locals := 0 } : Room).slots) := by
  refine MetFree.of_bodySF (plainFor_of_name pn_lanternweir_fields_EventFields) hisR ?_
  intro p e s m args below meth c s₁ Bd hml0 hP hK
  obtain ⟨rfl, hZ, hh⟩ := hP
  have hx := Bd.exec
  have hby := Bd.bytes
  have hml : c.maxLocals = 5 := hml0
  have hown : s.vm.findClass "lanternweir/fields/EventFields" = some m.cls := findClass_of_methodNamed Bd.named
  have hnm := (name_of_methodNamed Bd.named Bd.method).1
  have X0 : Stand p l e ({ frames := 0, cells := 0, slots := 0, locals := 0 } : Room) s m #[(.ref a1), (.ref a2), (.ref a3), (.long q4)] below meth c s₁ [] 0 0 := Stand.of_body Bd
  have e0 : s₁.heap = h0 := by rw [← hh, Bd.state]; rfl
  have N0 := Fr.nil n0
  have pre0 : ∀ t, Steps p.tables e below (s₁.setTop (mkF m 0 #[.val (.ref a1), .val (.ref a2), .val (.ref a3), .val (.long q4), .second] [])) t → Steps p.tables e below (s₁.setTop (entryFrame m #[(.ref a1), (.ref a2), (.ref a3), (.long q4)] 5)) t := fun t k => castTop (ef_rm12_0 m a1 a2 a3 q4) k
  have K0 := Keep.refl h0 [a1, bk, bn, bb]
  obtain ⟨E1, Fk, Fn, Fb, Fs, Vk, Vn, Vb⟩ := S1
  obtain ⟨ga, gk, gn, gb, ne1, ne2, ne3, ne4, ne5, ne6, Ok, On⟩ := id P1
  obtain ⟨T137, X137, e137, st137⟩ := getF X0 hx hZ hown (host := "") (Or.inl (hw _ (List.mem_of_getElem? (i := 79) rfl))) Via.refl e0 Fs (g := (mkF m 1 #[.val (.ref a1), .val (.ref a2), .val (.ref a3), .val (.long q4), .second] [(.ref a1)])) rfl rfl (hb hby d12_1)
  obtain ⟨T138, X138, e138, st138⟩ := getF X137 hx hZ hown (host := "") (Or.inl (hw _ (List.mem_of_getElem? (i := 45) rfl))) Via.refl e137 Fk (g := (mkF m 5 #[.val (.ref a1), .val (.ref a2), .val (.ref a3), .val (.long q4), .second] [(.ref a1), (.int (0 : Int32))])) rfl rfl (hb hby d12_5)
  obtain ⟨c139, r139, q139, s139, n139, H139, G139⟩ := id Vk
  obtain ⟨T140, X140, e140, st140⟩ := getF X138 hx hZ hown (host := "") (Or.inl (hw _ (List.mem_of_getElem? (i := 45) rfl))) Via.refl e138 Fk (g := (mkF m 17 #[.val (.ref a1), .val (.ref a2), .val (.ref a3), .val (.long q4), .second] [(.ref a1)])) rfl rfl (hb hby d12_17)
  obtain ⟨T141, X141, e141, st141⟩ := getF X140 hx hZ hown (host := "") (Or.inl (hw _ (List.mem_of_getElem? (i := 79) rfl))) Via.refl e140 Fs (g := (mkF m 21 #[.val (.ref a1), .val (.ref a2), .val (.ref a3), .val (.long q4), .second] [(.ref a1), (.ref bk)])) rfl rfl (hb hby d12_21)
  obtain ⟨c142, r142, q142, s142, n142, H142, G142⟩ := id Vk
  have i142 : ¬ ((0 : Int32) < 0 ∨ c142.slots.size ≤ ((0 : Int32)).toNatClampNeg) := inb_of s142 ⟨by decide, by decide⟩
  obtain ⟨T142, h142, X142, e142, W142, st142⟩ := stR X141 hx hZ e141 r142 (j := (0 : Int32)) i142 rfl (Sto.ofV r142 q142 Ok (Ins.self Ek)) (g := (mkF m 25 #[.val (.ref a1), .val (.ref a2), .val (.ref a3), .val (.long q4), .second] [(.ref a2), (.int (0 : Int32)), (.ref bk)])) rfl rfl (hb hby d12_25)
  have f143 := Arv.set r142 q142 s142 n142 H142 G142 rfl W142 0 rfl (by rw [hk8]; decide)
  have f144 := E1.wr W142
  have f145 := Fk.other W142 (Or.inl ne1)
  have f146 := Fn.other W142 (Or.inl ne1)
  have f147 := Fb.other W142 (Or.inl ne1)
  have f148 := Fs.other W142 (Or.inl ne1)
  have f149 := Vn.other W142 (Ne.symm ne4)
  have f150 := Vb.other W142 (Ne.symm ne5)
  have f151 := Ek.wr W142
  have f152 := Es.wr W142
  have Zn153 := Nat.le_trans Z0 (Keep.of_wr W142).1
  have N154 := Fr.snoc X142 N0 gk
  have K155 := K0.wr W142 (Or.inl (List.mem_of_getElem? (i := 1) rfl))
  obtain ⟨T156, X156, e156, st156⟩ := getF X142 hx hZ hown (host := "") (Or.inl (hw _ (List.mem_of_getElem? (i := 47) rfl))) Via.refl e142 f146 (g := (mkF m 27 #[.val (.ref a1), .val (.ref a2), .val (.ref a3), .val (.long q4), .second] [(.ref a1)])) rfl rfl (hb hby d12_27)
  obtain ⟨T157, X157, e157, st157⟩ := getF X156 hx hZ hown (host := "") (Or.inl (hw _ (List.mem_of_getElem? (i := 79) rfl))) Via.refl e156 f148 (g := (mkF m 31 #[.val (.ref a1), .val (.ref a2), .val (.ref a3), .val (.long q4), .second] [(.ref a1), (.ref bn)])) rfl rfl (hb hby d12_31)
  obtain ⟨c158, r158, q158, s158, n158, H158, G158⟩ := id f149
  have i158 : ¬ ((0 : Int32) < 0 ∨ c158.slots.size ≤ ((0 : Int32)).toNatClampNeg) := inb_of s158 ⟨by decide, by decide⟩
  obtain ⟨T158, h158, X158, e158, W158, st158⟩ := stR X157 hx hZ e157 r158 (j := (0 : Int32)) i158 rfl (Sto.ofV r158 q158 On (Ins.self f152)) (g := (mkF m 35 #[.val (.ref a1), .val (.ref a2), .val (.ref a3), .val (.long q4), .second] [(.ref a3), (.int (0 : Int32)), (.ref bn)])) rfl rfl (hb hby d12_35)
  have f159 := Arv.set r158 q158 s158 n158 H158 G158 rfl W158 0 rfl (by rw [hn8]; decide)
  have f160 := f144.wr W158
  have f161 := f145.other W158 (Or.inl ne2)
  have f162 := f146.other W158 (Or.inl ne2)
  have f163 := f147.other W158 (Or.inl ne2)
  have f164 := f148.other W158 (Or.inl ne2)
  have f165 := f150.other W158 (Ne.symm ne6)
  have f166 := f151.wr W158
  have f167 := f152.wr W158
  have f168 := f143.other W158 ne4
  have Zn169 := Nat.le_trans Zn153 (Keep.of_wr W158).1
  have N170 := Fr.snoc X158 N154 gn
  have K171 := K155.wr W158 (Or.inl (List.mem_of_getElem? (i := 2) rfl))
  obtain ⟨T172, X172, e172, st172⟩ := getF X158 hx hZ hown (host := "") (Or.inl (hw _ (List.mem_of_getElem? (i := 51) rfl))) Via.refl e158 f163 (g := (mkF m 37 #[.val (.ref a1), .val (.ref a2), .val (.ref a3), .val (.long q4), .second] [(.ref a1)])) rfl rfl (hb hby d12_37)
  obtain ⟨T173, X173, e173, st173⟩ := getF X172 hx hZ hown (host := "") (Or.inl (hw _ (List.mem_of_getElem? (i := 79) rfl))) Via.refl e172 f164 (g := (mkF m 41 #[.val (.ref a1), .val (.ref a2), .val (.ref a3), .val (.long q4), .second] [(.ref a1), (.ref bb)])) rfl rfl (hb hby d12_41)
  obtain ⟨c174, r174, q174, s174, n174, H174, G174⟩ := id f165
  have i174 : ¬ ((0 : Int32) < 0 ∨ c174.slots.size ≤ ((0 : Int32)).toNatClampNeg) := inb_of s174 ⟨by decide, by decide⟩
  obtain ⟨T174, h174, X174, e174, W174, st174⟩ := stJ X173 hx hZ e173 r174 (j := (0 : Int32)) i174 (g := (mkF m 45 #[.val (.ref a1), .val (.ref a2), .val (.ref a3), .val (.long q4), .second] [(.long q4), (.int (0 : Int32)), (.ref bb)])) rfl rfl (hb hby d12_45)
  have f175 := Arv.set r174 q174 s174 n174 H174 G174 rfl W174 0 rfl (by rw [hb8]; decide)
  have f176 := f160.wr W174
  have f177 := f161.other W174 (Or.inl ne3)
  have f178 := f162.other W174 (Or.inl ne3)
  have f179 := f163.other W174 (Or.inl ne3)
  have f180 := f164.other W174 (Or.inl ne3)
  have f181 := f166.wr W174
  have f182 := f167.wr W174
  have f183 := f168.other W174 ne5
  have f184 := f159.other W174 ne6
  have Zn185 := Nat.le_trans Zn169 (Keep.of_wr W174).1
  have N186 := Fr.snoc X174 N170 gb
  have K187 := K171.wr W174 (Or.inl (List.mem_of_getElem? (i := 3) rfl))
  obtain ⟨T188, X188, e188, st188⟩ := getF X174 hx hZ hown (host := "") (Or.inl (hw _ (List.mem_of_getElem? (i := 79) rfl))) Via.refl e174 f180 (g := (mkF m 48 #[.val (.ref a1), .val (.ref a2), .val (.ref a3), .val (.long q4), .second] [(.ref a1), (.ref a1)])) rfl rfl (hb hby d12_48)
  obtain ⟨T189, h189, X189, e189, W189, st189⟩ := putF X188 hx hZ hown (host := "") (Or.inl (hw _ (List.mem_of_getElem? (i := 79) rfl))) Via.refl e188 f180 f176 (Or.inl (hw _ (List.mem_of_getElem? (i := 80) rfl))) (hw _ (List.mem_of_getElem? (i := 31) rfl)) (ty := .int) (by decide) rfl rfl (g := (mkF m 53 #[.val (.ref a1), .val (.ref a2), .val (.ref a3), .val (.long q4), .second] [(.int (1 : Int32)), (.ref a1)])) rfl rfl (hb hby d12_53)
  have f190 := f180.same W189
  have f191 := f176.wr W189
  have f192 := f177.other W189 (Or.inr (slot_ne (Or.inl (hw _ (List.mem_of_getElem? (i := 46) rfl))) (Or.inl (hw _ (List.mem_of_getElem? (i := 80) rfl))) (by decide) (t := (.array (.object "lanternweir/fields/EventFields$Kind"))) (t' := .int) (by decide) (by decide)))
  have f193 := f178.other W189 (Or.inr (slot_ne (Or.inl (hw _ (List.mem_of_getElem? (i := 48) rfl))) (Or.inl (hw _ (List.mem_of_getElem? (i := 80) rfl))) (by decide) (t := (.array (.object "java/lang/String"))) (t' := .int) (by decide) (by decide)))
  have f194 := f179.other W189 (Or.inr (slot_ne (Or.inl (hw _ (List.mem_of_getElem? (i := 52) rfl))) (Or.inl (hw _ (List.mem_of_getElem? (i := 80) rfl))) (by decide) (t := (.array .long)) (t' := .int) (by decide) (by decide)))
  have f195 := f181.wr W189
  have f196 := f182.wr W189
  have f197 := f183.other W189 (Ne.symm ne1)
  have f198 := f184.other W189 (Ne.symm ne2)
  have f199 := f175.other W189 (Ne.symm ne3)
  have Zn200 := Nat.le_trans Zn185 (Keep.of_wr W189).1
  have N201 := Fr.snoc X189 N186 ga
  have K202 := K187.wr W189 (Or.inl (List.mem_of_getElem? (i := 0) rfl))
  obtain ⟨fs, hr, hrun, hended, hW, hsame⟩ := X189.leave (v := none) (fun _ => rfl)
  refine ⟨_, _, pre0 _ ?_, hrun, hended, _, _, rfl, ?_, ⟨_, rfl⟩, hW, hsame.mono (by decide) (by decide)⟩
  · show Steps p.tables e below (s₁.setTop (mkF m 0 #[.val (.ref a1), .val (.ref a2), .val (.ref a3), .val (.long q4), .second] [])) _
    refine XS.aloadN X0.here hx rfl (hb hby d12_0) rfl rfl ?_
    show Steps p.tables e below (s₁.setTop (mkF m 1 #[.val (.ref a1), .val (.ref a2), .val (.ref a3), .val (.long q4), .second] [(.ref a1)])) _
    refine st137 _ ?_
    show Steps p.tables e below (T137.setTop (mkF m 4 #[.val (.ref a1), .val (.ref a2), .val (.ref a3), .val (.long q4), .second] [(.int (0 : Int32))])) _
    refine XS.aloadN X137.here hx rfl (hb hby d12_4) rfl rfl ?_
    show Steps p.tables e below (T137.setTop (mkF m 5 #[.val (.ref a1), .val (.ref a2), .val (.ref a3), .val (.long q4), .second] [(.ref a1), (.int (0 : Int32))])) _
    refine st138 _ ?_
    show Steps p.tables e below (T138.setTop (mkF m 8 #[.val (.ref a1), .val (.ref a2), .val (.ref a3), .val (.long q4), .second] [(.ref bk), (.int (0 : Int32))])) _
    refine X138.arraylength hx (by rw [e138]; exact r139.1) (State.isArrayOf_alike hZ.alike r139.2.1) (g := (mkF m 8 #[.val (.ref a1), .val (.ref a2), .val (.ref a3), .val (.long q4), .second] [(.ref bk), (.int (0 : Int32))])) rfl rfl (hb hby d12_8) _ ?_
    rw [len_of s139 n139]
    show Steps p.tables e below (T138.setTop (mkF m 9 #[.val (.ref a1), .val (.ref a2), .val (.ref a3), .val (.long q4), .second] [(.int (8 : Int32)), (.int (0 : Int32))])) _
    refine XS.icmpYes X138.here hx rfl (pc0 := 9) (pc' := 16) rfl (hb hby d12_9) rfl (feq (by decide)).2 (by decide) (by decide) ?_
    show Steps p.tables e below (T138.setTop (mkF m 16 #[.val (.ref a1), .val (.ref a2), .val (.ref a3), .val (.long q4), .second] [])) _
    refine XS.aloadN X138.here hx rfl (hb hby d12_16) rfl rfl ?_
    show Steps p.tables e below (T138.setTop (mkF m 17 #[.val (.ref a1), .val (.ref a2), .val (.ref a3), .val (.long q4), .second] [(.ref a1)])) _
    refine st140 _ ?_
    show Steps p.tables e below (T140.setTop (mkF m 20 #[.val (.ref a1), .val (.ref a2), .val (.ref a3), .val (.long q4), .second] [(.ref bk)])) _
    refine XS.aloadN X140.here hx rfl (hb hby d12_20) rfl rfl ?_
    show Steps p.tables e below (T140.setTop (mkF m 21 #[.val (.ref a1), .val (.ref a2), .val (.ref a3), .val (.long q4), .second] [(.ref a1), (.ref bk)])) _
    refine st141 _ ?_
    show Steps p.tables e below (T141.setTop (mkF m 24 #[.val (.ref a1), .val (.ref a2), .val (.ref a3), .val (.long q4), .second] [(.int (0 : Int32)), (.ref bk)])) _
    refine XS.aloadN X141.here hx rfl (hb hby d12_24) rfl rfl ?_
    show Steps p.tables e below (T141.setTop (mkF m 25 #[.val (.ref a1), .val (.ref a2), .val (.ref a3), .val (.long q4), .second] [(.ref a2), (.int (0 : Int32)), (.ref bk)])) _
    refine st142 _ ?_
    show Steps p.tables e below (T142.setTop (mkF m 26 #[.val (.ref a1), .val (.ref a2), .val (.ref a3), .val (.long q4), .second] [])) _
    refine XS.aloadN X142.here hx rfl (hb hby d12_26) rfl rfl ?_
    show Steps p.tables e below (T142.setTop (mkF m 27 #[.val (.ref a1), .val (.ref a2), .val (.ref a3), .val (.long q4), .second] [(.ref a1)])) _
    refine st156 _ ?_
    show Steps p.tables e below (T156.setTop (mkF m 30 #[.val (.ref a1), .val (.ref a2), .val (.ref a3), .val (.long q4), .second] [(.ref bn)])) _
    refine XS.aloadN X156.here hx rfl (hb hby d12_30) rfl rfl ?_
    show Steps p.tables e below (T156.setTop (mkF m 31 #[.val (.ref a1), .val (.ref a2), .val (.ref a3), .val (.long q4), .second] [(.ref a1), (.ref bn)])) _
    refine st157 _ ?_
    show Steps p.tables e below (T157.setTop (mkF m 34 #[.val (.ref a1), .val (.ref a2), .val (.ref a3), .val (.long q4), .second] [(.int (0 : Int32)), (.ref bn)])) _
    refine XS.aloadN X157.here hx rfl (hb hby d12_34) rfl rfl ?_
    show Steps p.tables e below (T157.setTop (mkF m 35 #[.val (.ref a1), .val (.ref a2), .val (.ref a3), .val (.long q4), .second] [(.ref a3), (.int (0 : Int32)), (.ref bn)])) _
    refine st158 _ ?_
    show Steps p.tables e below (T158.setTop (mkF m 36 #[.val (.ref a1), .val (.ref a2), .val (.ref a3), .val (.long q4), .second] [])) _
    refine XS.aloadN X158.here hx rfl (hb hby d12_36) rfl rfl ?_
    show Steps p.tables e below (T158.setTop (mkF m 37 #[.val (.ref a1), .val (.ref a2), .val (.ref a3), .val (.long q4), .second] [(.ref a1)])) _
    refine st172 _ ?_
    show Steps p.tables e below (T172.setTop (mkF m 40 #[.val (.ref a1), .val (.ref a2), .val (.ref a3), .val (.long q4), .second] [(.ref bb)])) _
    refine XS.aloadN X172.here hx rfl (hb hby d12_40) rfl rfl ?_
    show Steps p.tables e below (T172.setTop (mkF m 41 #[.val (.ref a1), .val (.ref a2), .val (.ref a3), .val (.long q4), .second] [(.ref a1), (.ref bb)])) _
    refine st173 _ ?_
    show Steps p.tables e below (T173.setTop (mkF m 44 #[.val (.ref a1), .val (.ref a2), .val (.ref a3), .val (.long q4), .second] [(.int (0 : Int32)), (.ref bb)])) _
    refine XS.lloadN X173.here hx rfl (hb hby d12_44) rfl ?_
    show Steps p.tables e below (T173.setTop (mkF m 45 #[.val (.ref a1), .val (.ref a2), .val (.ref a3), .val (.long q4), .second] [(.long q4), (.int (0 : Int32)), (.ref bb)])) _
    refine st174 _ ?_
    show Steps p.tables e below (T174.setTop (mkF m 46 #[.val (.ref a1), .val (.ref a2), .val (.ref a3), .val (.long q4), .second] [])) _
    refine XS.aloadN X174.here hx rfl (hb hby d12_46) rfl rfl ?_
    show Steps p.tables e below (T174.setTop (mkF m 47 #[.val (.ref a1), .val (.ref a2), .val (.ref a3), .val (.long q4), .second] [(.ref a1)])) _
    refine XS.dup X174.here hx rfl (hb hby d12_47) rfl rfl ?_
    show Steps p.tables e below (T174.setTop (mkF m 48 #[.val (.ref a1), .val (.ref a2), .val (.ref a3), .val (.long q4), .second] [(.ref a1), (.ref a1)])) _
    refine st188 _ ?_
    show Steps p.tables e below (T188.setTop (mkF m 51 #[.val (.ref a1), .val (.ref a2), .val (.ref a3), .val (.long q4), .second] [(.int (0 : Int32)), (.ref a1)])) _
    refine XS.iconst X188.here hx rfl (hb hby d12_51) ?_
    show Steps p.tables e below (T188.setTop (mkF m 52 #[.val (.ref a1), .val (.ref a2), .val (.ref a3), .val (.long q4), .second] [(.int (1 : Int32)), (.int (0 : Int32)), (.ref a1)])) _
    refine XS.iadd X188.here hx rfl (hb hby d12_52) rfl ?_
    show Steps p.tables e below (T188.setTop (mkF m 53 #[.val (.ref a1), .val (.ref a2), .val (.ref a3), .val (.long q4), .second] [(.int (1 : Int32)), (.ref a1)])) _
    refine st189 _ ?_
    show Steps p.tables e below (T189.setTop (mkF m 56 #[.val (.ref a1), .val (.ref a2), .val (.ref a3), .val (.long q4), .second] [])) _
    exact X189.returnOut hx Bd.returns (hb hby d12_56) hr
  · show Qrm12_0 Z a1 a2 a3 q4 bk bn bb kk kn kb ks ns bs h0 n0 _ T189.heap _
    rw [e189]
    exact ⟨rfl, N201, K202, ⟨f191, f192, f193, f194, f190, f197, f198, f199⟩⟩
theorem ef_rm12_1 (m : MethodId) (a1 : Addr) (a2 : Addr) (a3 : Addr) (q4 : Int64) : entryFrame m #[(.ref a1), (.ref a2), (.ref a3), (.long q4)] 5 = mkF m 0 #[.val (.ref a1), .val (.ref a2), .val (.ref a3), .val (.long q4), .second] [] := by first | (simp [entryFrame, mkF, argsToLocals, Value.category]; done) | rfl
def Qrm12_1 (Z : State) (a1 : Addr) (a2 : Addr) (a3 : Addr) (q4 : Int64) (bk : Addr) (bn : Addr) (bb : Addr) (kk : ClassId) (kn : ClassId) (kb : ClassId) (ks : List Value) (ns : List Value) (bs : List Value) (h0 : Heap) (n0 : Nat) (v : Option Value) (h : Heap) (L : List Loc) : Prop := v = none ∧ Fr n0 L ∧ Keep h0 h [a1, bk, bn, bb] ∧ own_EF Z h a1 bk bn bb kk kn kb (2 : Int32) (ks.set 1 (.ref a2)) (ns.set 1 (.ref a3)) (bs.set 1 (.long q4))
set_option maxRecDepth 65536 in
set_option maxHeartbeats 40000000 in
theorem rm12_1 (l : Launch) (Z : State) (a0 : Array Value) (hw : ∀ d ∈ tables_1, d.before a0 Z = true) (ws : List Jvm.Cond) (a1 : Addr) (a2 : Addr) (a3 : Addr) (q4 : Int64) (bk : Addr) (bn : Addr) (bb : Addr) (kk : ClassId) (kn : ClassId) (kb : ClassId) (ks : List Value) (ns : List Value) (bs : List Value) (h0 : Heap) (n0 : Nat) (Z0 : n0 ≤ h0.size) (S1 : own_EF Z h0 a1 bk bn bb kk kn kb (1 : Int32) ks ns bs) (P1 : own_EFp Z n0 a1 bk bn bb kk kn) (hk8 : ks.length = 8) (hn8 : ns.length = 8) (hb8 : bs.length = 8) (Ek : Exa Z h0 a2 "lanternweir/fields/EventFields$Kind") (Es : Exa Z h0 a3 "java/lang/String") :
    MetFree l (⟨"lanternweir/fields/EventFields", "add", "(Llanternweir/fields/EventFields$Kind;Ljava/lang/String;J)V"⟩ : MethodName) (head1 (Jvm.Cond.code (⟨"lanternweir/fields/EventFields", "add", "(Llanternweir/fields/EventFields$Kind;Ljava/lang/String;J)V"⟩ : MethodName) prog_114_method_20_code 5 none :: ws) ({ frames := 0, cells := 0, slots := 0, locals := 0 } : Room)) (fun a U => a = #[(.ref a1), (.ref a2), (.ref a3), (.long q4)] ∧ Z.Warmed39 U.vm ∧ U.heap = h0) (fun _ _ _ _ _ => True) (fun _ U o U' => ∃ v L, o = .returned v ∧ Qrm12_1 Z a1 a2 a3 q4 bk bn bb kk kn kb ks ns bs h0 n0 v U'.heap L ∧ FrameEnd U o U' L ({ frames := 0, cells := 0, slots := 0, locals := 0 } : Room).cells ({ frames := 0, cells := 0, slots := 0, locals := 0 } : Room).slots) := by
  refine MetFree.of_bodySF (plainFor_of_name pn_lanternweir_fields_EventFields) hisR ?_
  intro p e s m args below meth c s₁ Bd hml0 hP hK
  obtain ⟨rfl, hZ, hh⟩ := hP
  have hx := Bd.exec
  have hby := Bd.bytes
  have hml : c.maxLocals = 5 := hml0
  have hown : s.vm.findClass "lanternweir/fields/EventFields" = some m.cls := findClass_of_methodNamed Bd.named
  have hnm := (name_of_methodNamed Bd.named Bd.method).1
  have X0 : Stand p l e ({ frames := 0, cells := 0, slots := 0, locals := 0 } : Room) s m #[(.ref a1), (.ref a2), (.ref a3), (.long q4)] below meth c s₁ [] 0 0 := Stand.of_body Bd
  have e0 : s₁.heap = h0 := by rw [← hh, Bd.state]; rfl
  have N0 := Fr.nil n0
  have pre0 : ∀ t, Steps p.tables e below (s₁.setTop (mkF m 0 #[.val (.ref a1), .val (.ref a2), .val (.ref a3), .val (.long q4), .second] [])) t → Steps p.tables e below (s₁.setTop (entryFrame m #[(.ref a1), (.ref a2), (.ref a3), (.long q4)] 5)) t := fun t k => castTop (ef_rm12_1 m a1 a2 a3 q4) k
  have K0 := Keep.refl h0 [a1, bk, bn, bb]
  obtain ⟨E1, Fk, Fn, Fb, Fs, Vk, Vn, Vb⟩ := S1
  obtain ⟨ga, gk, gn, gb, ne1, ne2, ne3, ne4, ne5, ne6, Ok, On⟩ := id P1
  obtain ⟨T203, X203, e203, st203⟩ := getF X0 hx hZ hown (host := "") (Or.inl (hw _ (List.mem_of_getElem? (i := 79) rfl))) Via.refl e0 Fs (g := (mkF m 1 #[.val (.ref a1), .val (.ref a2), .val (.ref a3), .val (.long q4), .second] [(.ref a1)])) rfl rfl (hb hby d12_1)
  obtain ⟨T204, X204, e204, st204⟩ := getF X203 hx hZ hown (host := "") (Or.inl (hw _ (List.mem_of_getElem? (i := 45) rfl))) Via.refl e203 Fk (g := (mkF m 5 #[.val (.ref a1), .val (.ref a2), .val (.ref a3), .val (.long q4), .second] [(.ref a1), (.int (1 : Int32))])) rfl rfl (hb hby d12_5)
  obtain ⟨c205, r205, q205, s205, n205, H205, G205⟩ := id Vk
  obtain ⟨T206, X206, e206, st206⟩ := getF X204 hx hZ hown (host := "") (Or.inl (hw _ (List.mem_of_getElem? (i := 45) rfl))) Via.refl e204 Fk (g := (mkF m 17 #[.val (.ref a1), .val (.ref a2), .val (.ref a3), .val (.long q4), .second] [(.ref a1)])) rfl rfl (hb hby d12_17)
  obtain ⟨T207, X207, e207, st207⟩ := getF X206 hx hZ hown (host := "") (Or.inl (hw _ (List.mem_of_getElem? (i := 79) rfl))) Via.refl e206 Fs (g := (mkF m 21 #[.val (.ref a1), .val (.ref a2), .val (.ref a3), .val (.long q4), .second] [(.ref a1), (.ref bk)])) rfl rfl (hb hby d12_21)
  obtain ⟨c208, r208, q208, s208, n208, H208, G208⟩ := id Vk
  have i208 : ¬ ((1 : Int32) < 0 ∨ c208.slots.size ≤ ((1 : Int32)).toNatClampNeg) := inb_of s208 ⟨by decide, by decide⟩
  obtain ⟨T208, h208, X208, e208, W208, st208⟩ := stR X207 hx hZ e207 r208 (j := (1 : Int32)) i208 rfl (Sto.ofV r208 q208 Ok (Ins.self Ek)) (g := (mkF m 25 #[.val (.ref a1), .val (.ref a2), .val (.ref a3), .val (.long q4), .second] [(.ref a2), (.int (1 : Int32)), (.ref bk)])) rfl rfl (hb hby d12_25)
  have f209 := Arv.set r208 q208 s208 n208 H208 G208 rfl W208 1 rfl (by rw [hk8]; decide)
  have f210 := E1.wr W208
  have f211 := Fk.other W208 (Or.inl ne1)
  have f212 := Fn.other W208 (Or.inl ne1)
  have f213 := Fb.other W208 (Or.inl ne1)
  have f214 := Fs.other W208 (Or.inl ne1)
  have f215 := Vn.other W208 (Ne.symm ne4)
  have f216 := Vb.other W208 (Ne.symm ne5)
  have f217 := Ek.wr W208
  have f218 := Es.wr W208
  have Zn219 := Nat.le_trans Z0 (Keep.of_wr W208).1
  have N220 := Fr.snoc X208 N0 gk
  have K221 := K0.wr W208 (Or.inl (List.mem_of_getElem? (i := 1) rfl))
  obtain ⟨T222, X222, e222, st222⟩ := getF X208 hx hZ hown (host := "") (Or.inl (hw _ (List.mem_of_getElem? (i := 47) rfl))) Via.refl e208 f212 (g := (mkF m 27 #[.val (.ref a1), .val (.ref a2), .val (.ref a3), .val (.long q4), .second] [(.ref a1)])) rfl rfl (hb hby d12_27)
  obtain ⟨T223, X223, e223, st223⟩ := getF X222 hx hZ hown (host := "") (Or.inl (hw _ (List.mem_of_getElem? (i := 79) rfl))) Via.refl e222 f214 (g := (mkF m 31 #[.val (.ref a1), .val (.ref a2), .val (.ref a3), .val (.long q4), .second] [(.ref a1), (.ref bn)])) rfl rfl (hb hby d12_31)
  obtain ⟨c224, r224, q224, s224, n224, H224, G224⟩ := id f215
  have i224 : ¬ ((1 : Int32) < 0 ∨ c224.slots.size ≤ ((1 : Int32)).toNatClampNeg) := inb_of s224 ⟨by decide, by decide⟩
  obtain ⟨T224, h224, X224, e224, W224, st224⟩ := stR X223 hx hZ e223 r224 (j := (1 : Int32)) i224 rfl (Sto.ofV r224 q224 On (Ins.self f218)) (g := (mkF m 35 #[.val (.ref a1), .val (.ref a2), .val (.ref a3), .val (.long q4), .second] [(.ref a3), (.int (1 : Int32)), (.ref bn)])) rfl rfl (hb hby d12_35)
  have f225 := Arv.set r224 q224 s224 n224 H224 G224 rfl W224 1 rfl (by rw [hn8]; decide)
  have f226 := f210.wr W224
  have f227 := f211.other W224 (Or.inl ne2)
  have f228 := f212.other W224 (Or.inl ne2)
  have f229 := f213.other W224 (Or.inl ne2)
  have f230 := f214.other W224 (Or.inl ne2)
  have f231 := f216.other W224 (Ne.symm ne6)
  have f232 := f217.wr W224
  have f233 := f218.wr W224
  have f234 := f209.other W224 ne4
  have Zn235 := Nat.le_trans Zn219 (Keep.of_wr W224).1
  have N236 := Fr.snoc X224 N220 gn
  have K237 := K221.wr W224 (Or.inl (List.mem_of_getElem? (i := 2) rfl))
  obtain ⟨T238, X238, e238, st238⟩ := getF X224 hx hZ hown (host := "") (Or.inl (hw _ (List.mem_of_getElem? (i := 51) rfl))) Via.refl e224 f229 (g := (mkF m 37 #[.val (.ref a1), .val (.ref a2), .val (.ref a3), .val (.long q4), .second] [(.ref a1)])) rfl rfl (hb hby d12_37)
  obtain ⟨T239, X239, e239, st239⟩ := getF X238 hx hZ hown (host := "") (Or.inl (hw _ (List.mem_of_getElem? (i := 79) rfl))) Via.refl e238 f230 (g := (mkF m 41 #[.val (.ref a1), .val (.ref a2), .val (.ref a3), .val (.long q4), .second] [(.ref a1), (.ref bb)])) rfl rfl (hb hby d12_41)
  obtain ⟨c240, r240, q240, s240, n240, H240, G240⟩ := id f231
  have i240 : ¬ ((1 : Int32) < 0 ∨ c240.slots.size ≤ ((1 : Int32)).toNatClampNeg) := inb_of s240 ⟨by decide, by decide⟩
  obtain ⟨T240, h240, X240, e240, W240, st240⟩ := stJ X239 hx hZ e239 r240 (j := (1 : Int32)) i240 (g := (mkF m 45 #[.val (.ref a1), .val (.ref a2), .val (.ref a3), .val (.long q4), .second] [(.long q4), (.int (1 : Int32)), (.ref bb)])) rfl rfl (hb hby d12_45)
  have f241 := Arv.set r240 q240 s240 n240 H240 G240 rfl W240 1 rfl (by rw [hb8]; decide)
  have f242 := f226.wr W240
  have f243 := f227.other W240 (Or.inl ne3)
  have f244 := f228.other W240 (Or.inl ne3)
  have f245 := f229.other W240 (Or.inl ne3)
  have f246 := f230.other W240 (Or.inl ne3)
  have f247 := f232.wr W240
  have f248 := f233.wr W240
  have f249 := f234.other W240 ne5
  have f250 := f225.other W240 ne6
  have Zn251 := Nat.le_trans Zn235 (Keep.of_wr W240).1
  have N252 := Fr.snoc X240 N236 gb
  have K253 := K237.wr W240 (Or.inl (List.mem_of_getElem? (i := 3) rfl))
  obtain ⟨T254, X254, e254, st254⟩ := getF X240 hx hZ hown (host := "") (Or.inl (hw _ (List.mem_of_getElem? (i := 79) rfl))) Via.refl e240 f246 (g := (mkF m 48 #[.val (.ref a1), .val (.ref a2), .val (.ref a3), .val (.long q4), .second] [(.ref a1), (.ref a1)])) rfl rfl (hb hby d12_48)
  obtain ⟨T255, h255, X255, e255, W255, st255⟩ := putF X254 hx hZ hown (host := "") (Or.inl (hw _ (List.mem_of_getElem? (i := 79) rfl))) Via.refl e254 f246 f242 (Or.inl (hw _ (List.mem_of_getElem? (i := 80) rfl))) (hw _ (List.mem_of_getElem? (i := 31) rfl)) (ty := .int) (by decide) rfl rfl (g := (mkF m 53 #[.val (.ref a1), .val (.ref a2), .val (.ref a3), .val (.long q4), .second] [(.int (2 : Int32)), (.ref a1)])) rfl rfl (hb hby d12_53)
  have f256 := f246.same W255
  have f257 := f242.wr W255
  have f258 := f243.other W255 (Or.inr (slot_ne (Or.inl (hw _ (List.mem_of_getElem? (i := 46) rfl))) (Or.inl (hw _ (List.mem_of_getElem? (i := 80) rfl))) (by decide) (t := (.array (.object "lanternweir/fields/EventFields$Kind"))) (t' := .int) (by decide) (by decide)))
  have f259 := f244.other W255 (Or.inr (slot_ne (Or.inl (hw _ (List.mem_of_getElem? (i := 48) rfl))) (Or.inl (hw _ (List.mem_of_getElem? (i := 80) rfl))) (by decide) (t := (.array (.object "java/lang/String"))) (t' := .int) (by decide) (by decide)))
  have f260 := f245.other W255 (Or.inr (slot_ne (Or.inl (hw _ (List.mem_of_getElem? (i := 52) rfl))) (Or.inl (hw _ (List.mem_of_getElem? (i := 80) rfl))) (by decide) (t := (.array .long)) (t' := .int) (by decide) (by decide)))
  have f261 := f247.wr W255
  have f262 := f248.wr W255
  have f263 := f249.other W255 (Ne.symm ne1)
  have f264 := f250.other W255 (Ne.symm ne2)
  have f265 := f241.other W255 (Ne.symm ne3)
  have Zn266 := Nat.le_trans Zn251 (Keep.of_wr W255).1
  have N267 := Fr.snoc X255 N252 ga
  have K268 := K253.wr W255 (Or.inl (List.mem_of_getElem? (i := 0) rfl))
  obtain ⟨fs, hr, hrun, hended, hW, hsame⟩ := X255.leave (v := none) (fun _ => rfl)
  refine ⟨_, _, pre0 _ ?_, hrun, hended, _, _, rfl, ?_, ⟨_, rfl⟩, hW, hsame.mono (by decide) (by decide)⟩
  · show Steps p.tables e below (s₁.setTop (mkF m 0 #[.val (.ref a1), .val (.ref a2), .val (.ref a3), .val (.long q4), .second] [])) _
    refine XS.aloadN X0.here hx rfl (hb hby d12_0) rfl rfl ?_
    show Steps p.tables e below (s₁.setTop (mkF m 1 #[.val (.ref a1), .val (.ref a2), .val (.ref a3), .val (.long q4), .second] [(.ref a1)])) _
    refine st203 _ ?_
    show Steps p.tables e below (T203.setTop (mkF m 4 #[.val (.ref a1), .val (.ref a2), .val (.ref a3), .val (.long q4), .second] [(.int (1 : Int32))])) _
    refine XS.aloadN X203.here hx rfl (hb hby d12_4) rfl rfl ?_
    show Steps p.tables e below (T203.setTop (mkF m 5 #[.val (.ref a1), .val (.ref a2), .val (.ref a3), .val (.long q4), .second] [(.ref a1), (.int (1 : Int32))])) _
    refine st204 _ ?_
    show Steps p.tables e below (T204.setTop (mkF m 8 #[.val (.ref a1), .val (.ref a2), .val (.ref a3), .val (.long q4), .second] [(.ref bk), (.int (1 : Int32))])) _
    refine X204.arraylength hx (by rw [e204]; exact r205.1) (State.isArrayOf_alike hZ.alike r205.2.1) (g := (mkF m 8 #[.val (.ref a1), .val (.ref a2), .val (.ref a3), .val (.long q4), .second] [(.ref bk), (.int (1 : Int32))])) rfl rfl (hb hby d12_8) _ ?_
    rw [len_of s205 n205]
    show Steps p.tables e below (T204.setTop (mkF m 9 #[.val (.ref a1), .val (.ref a2), .val (.ref a3), .val (.long q4), .second] [(.int (8 : Int32)), (.int (1 : Int32))])) _
    refine XS.icmpYes X204.here hx rfl (pc0 := 9) (pc' := 16) rfl (hb hby d12_9) rfl (feq (by decide)).2 (by decide) (by decide) ?_
    show Steps p.tables e below (T204.setTop (mkF m 16 #[.val (.ref a1), .val (.ref a2), .val (.ref a3), .val (.long q4), .second] [])) _
    refine XS.aloadN X204.here hx rfl (hb hby d12_16) rfl rfl ?_
    show Steps p.tables e below (T204.setTop (mkF m 17 #[.val (.ref a1), .val (.ref a2), .val (.ref a3), .val (.long q4), .second] [(.ref a1)])) _
    refine st206 _ ?_
    show Steps p.tables e below (T206.setTop (mkF m 20 #[.val (.ref a1), .val (.ref a2), .val (.ref a3), .val (.long q4), .second] [(.ref bk)])) _
    refine XS.aloadN X206.here hx rfl (hb hby d12_20) rfl rfl ?_
    show Steps p.tables e below (T206.setTop (mkF m 21 #[.val (.ref a1), .val (.ref a2), .val (.ref a3), .val (.long q4), .second] [(.ref a1), (.ref bk)])) _
    refine st207 _ ?_
    show Steps p.tables e below (T207.setTop (mkF m 24 #[.val (.ref a1), .val (.ref a2), .val (.ref a3), .val (.long q4), .second] [(.int (1 : Int32)), (.ref bk)])) _
    refine XS.aloadN X207.here hx rfl (hb hby d12_24) rfl rfl ?_
    show Steps p.tables e below (T207.setTop (mkF m 25 #[.val (.ref a1), .val (.ref a2), .val (.ref a3), .val (.long q4), .second] [(.ref a2), (.int (1 : Int32)), (.ref bk)])) _
    refine st208 _ ?_
    show Steps p.tables e below (T208.setTop (mkF m 26 #[.val (.ref a1), .val (.ref a2), .val (.ref a3), .val (.long q4), .second] [])) _
    refine XS.aloadN X208.here hx rfl (hb hby d12_26) rfl rfl ?_
    show Steps p.tables e below (T208.setTop (mkF m 27 #[.val (.ref a1), .val (.ref a2), .val (.ref a3), .val (.long q4), .second] [(.ref a1)])) _
    refine st222 _ ?_
    show Steps p.tables e below (T222.setTop (mkF m 30 #[.val (.ref a1), .val (.ref a2), .val (.ref a3), .val (.long q4), .second] [(.ref bn)])) _
    refine XS.aloadN X222.here hx rfl (hb hby d12_30) rfl rfl ?_
    show Steps p.tables e below (T222.setTop (mkF m 31 #[.val (.ref a1), .val (.ref a2), .val (.ref a3), .val (.long q4), .second] [(.ref a1), (.ref bn)])) _
    refine st223 _ ?_
    show Steps p.tables e below (T223.setTop (mkF m 34 #[.val (.ref a1), .val (.ref a2), .val (.ref a3), .val (.long q4), .second] [(.int (1 : Int32)), (.ref bn)])) _
    refine XS.aloadN X223.here hx rfl (hb hby d12_34) rfl rfl ?_
    show Steps p.tables e below (T223.setTop (mkF m 35 #[.val (.ref a1), .val (.ref a2), .val (.ref a3), .val (.long q4), .second] [(.ref a3), (.int (1 : Int32)), (.ref bn)])) _
    refine st224 _ ?_
    show Steps p.tables e below (T224.setTop (mkF m 36 #[.val (.ref a1), .val (.ref a2), .val (.ref a3), .val (.long q4), .second] [])) _
    refine XS.aloadN X224.here hx rfl (hb hby d12_36) rfl rfl ?_
    show Steps p.tables e below (T224.setTop (mkF m 37 #[.val (.ref a1), .val (.ref a2), .val (.ref a3), .val (.long q4), .second] [(.ref a1)])) _
    refine st238 _ ?_
    show Steps p.tables e below (T238.setTop (mkF m 40 #[.val (.ref a1), .val (.ref a2), .val (.ref a3), .val (.long q4), .second] [(.ref bb)])) _
    refine XS.aloadN X238.here hx rfl (hb hby d12_40) rfl rfl ?_
    show Steps p.tables e below (T238.setTop (mkF m 41 #[.val (.ref a1), .val (.ref a2), .val (.ref a3), .val (.long q4), .second] [(.ref a1), (.ref bb)])) _
    refine st239 _ ?_
    show Steps p.tables e below (T239.setTop (mkF m 44 #[.val (.ref a1), .val (.ref a2), .val (.ref a3), .val (.long q4), .second] [(.int (1 : Int32)), (.ref bb)])) _
    refine XS.lloadN X239.here hx rfl (hb hby d12_44) rfl ?_
    show Steps p.tables e below (T239.setTop (mkF m 45 #[.val (.ref a1), .val (.ref a2), .val (.ref a3), .val (.long q4), .second] [(.long q4), (.int (1 : Int32)), (.ref bb)])) _
    refine st240 _ ?_
    show Steps p.tables e below (T240.setTop (mkF m 46 #[.val (.ref a1), .val (.ref a2), .val (.ref a3), .val (.long q4), .second] [])) _
    refine XS.aloadN X240.here hx rfl (hb hby d12_46) rfl rfl ?_
    show Steps p.tables e below (T240.setTop (mkF m 47 #[.val (.ref a1), .val (.ref a2), .val (.ref a3), .val (.long q4), .second] [(.ref a1)])) _
    refine XS.dup X240.here hx rfl (hb hby d12_47) rfl rfl ?_
    show Steps p.tables e below (T240.setTop (mkF m 48 #[.val (.ref a1), .val (.ref a2), .val (.ref a3), .val (.long q4), .second] [(.ref a1), (.ref a1)])) _
    refine st254 _ ?_
    show Steps p.tables e below (T254.setTop (mkF m 51 #[.val (.ref a1), .val (.ref a2), .val (.ref a3), .val (.long q4), .second] [(.int (1 : Int32)), (.ref a1)])) _
    refine XS.iconst X254.here hx rfl (hb hby d12_51) ?_
    show Steps p.tables e below (T254.setTop (mkF m 52 #[.val (.ref a1), .val (.ref a2), .val (.ref a3), .val (.long q4), .second] [(.int (1 : Int32)), (.int (1 : Int32)), (.ref a1)])) _
    refine XS.iadd X254.here hx rfl (hb hby d12_52) rfl ?_
    show Steps p.tables e below (T254.setTop (mkF m 53 #[.val (.ref a1), .val (.ref a2), .val (.ref a3), .val (.long q4), .second] [(.int (2 : Int32)), (.ref a1)])) _
    refine st255 _ ?_
    show Steps p.tables e below (T255.setTop (mkF m 56 #[.val (.ref a1), .val (.ref a2), .val (.ref a3), .val (.long q4), .second] [])) _
    exact X255.returnOut hx Bd.returns (hb hby d12_56) hr
  · show Qrm12_1 Z a1 a2 a3 q4 bk bn bb kk kn kb ks ns bs h0 n0 _ T255.heap _
    rw [e255]
    exact ⟨rfl, N267, K268, ⟨f257, f258, f259, f260, f256, f263, f264, f265⟩⟩
theorem ef_rm12_2 (m : MethodId) (a1 : Addr) (a2 : Addr) (q4 : Int64) : entryFrame m #[(.ref a1), (.ref a2), .null, (.long q4)] 5 = mkF m 0 #[.val (.ref a1), .val (.ref a2), .val .null, .val (.long q4), .second] [] := by first | (simp [entryFrame, mkF, argsToLocals, Value.category]; done) | rfl
def Qrm12_2 (Z : State) (a1 : Addr) (a2 : Addr) (q4 : Int64) (bk : Addr) (bn : Addr) (bb : Addr) (kk : ClassId) (kn : ClassId) (kb : ClassId) (ks : List Value) (ns : List Value) (bs : List Value) (h0 : Heap) (n0 : Nat) (v : Option Value) (h : Heap) (L : List Loc) : Prop := v = none ∧ Fr n0 L ∧ Keep h0 h [a1, bk, bn, bb] ∧ own_EF Z h a1 bk bn bb kk kn kb (3 : Int32) (ks.set 2 (.ref a2)) (ns.set 2 .null) (bs.set 2 (.long q4))
set_option maxRecDepth 65536 in
set_option maxHeartbeats 40000000 in
theorem rm12_2 (l : Launch) (Z : State) (a0 : Array Value) (hw : ∀ d ∈ tables_1, d.before a0 Z = true) (ws : List Jvm.Cond) (a1 : Addr) (a2 : Addr) (q4 : Int64) (bk : Addr) (bn : Addr) (bb : Addr) (kk : ClassId) (kn : ClassId) (kb : ClassId) (ks : List Value) (ns : List Value) (bs : List Value) (h0 : Heap) (n0 : Nat) (Z0 : n0 ≤ h0.size) (S1 : own_EF Z h0 a1 bk bn bb kk kn kb (2 : Int32) ks ns bs) (P1 : own_EFp Z n0 a1 bk bn bb kk kn) (hk8 : ks.length = 8) (hn8 : ns.length = 8) (hb8 : bs.length = 8) (Ek : Exa Z h0 a2 "lanternweir/fields/EventFields$Kind") :
    MetFree l (⟨"lanternweir/fields/EventFields", "add", "(Llanternweir/fields/EventFields$Kind;Ljava/lang/String;J)V"⟩ : MethodName) (head1 (Jvm.Cond.code (⟨"lanternweir/fields/EventFields", "add", "(Llanternweir/fields/EventFields$Kind;Ljava/lang/String;J)V"⟩ : MethodName) prog_114_method_20_code 5 none :: ws) ({ frames := 0, cells := 0, slots := 0, locals := 0 } : Room)) (fun a U => a = #[(.ref a1), (.ref a2), .null, (.long q4)] ∧ Z.Warmed39 U.vm ∧ U.heap = h0) (fun _ _ _ _ _ => True) (fun _ U o U' => ∃ v L, o = .returned v ∧ Qrm12_2 Z a1 a2 q4 bk bn bb kk kn kb ks ns bs h0 n0 v U'.heap L ∧ FrameEnd U o U' L ({ frames := 0, cells := 0, slots := 0, locals := 0 } : Room).cells ({ frames := 0, cells := 0, slots := 0, locals := 0 } : Room).slots) := by
  refine MetFree.of_bodySF (plainFor_of_name pn_lanternweir_fields_EventFields) hisR ?_
  intro p e s m args below meth c s₁ Bd hml0 hP hK
  obtain ⟨rfl, hZ, hh⟩ := hP
  have hx := Bd.exec
  have hby := Bd.bytes
  have hml : c.maxLocals = 5 := hml0
  have hown : s.vm.findClass "lanternweir/fields/EventFields" = some m.cls := findClass_of_methodNamed Bd.named
  have hnm := (name_of_methodNamed Bd.named Bd.method).1
  have X0 : Stand p l e ({ frames := 0, cells := 0, slots := 0, locals := 0 } : Room) s m #[(.ref a1), (.ref a2), .null, (.long q4)] below meth c s₁ [] 0 0 := Stand.of_body Bd
  have e0 : s₁.heap = h0 := by rw [← hh, Bd.state]; rfl
  have N0 := Fr.nil n0
  have pre0 : ∀ t, Steps p.tables e below (s₁.setTop (mkF m 0 #[.val (.ref a1), .val (.ref a2), .val .null, .val (.long q4), .second] [])) t → Steps p.tables e below (s₁.setTop (entryFrame m #[(.ref a1), (.ref a2), .null, (.long q4)] 5)) t := fun t k => castTop (ef_rm12_2 m a1 a2 q4) k
  have K0 := Keep.refl h0 [a1, bk, bn, bb]
  obtain ⟨E1, Fk, Fn, Fb, Fs, Vk, Vn, Vb⟩ := S1
  obtain ⟨ga, gk, gn, gb, ne1, ne2, ne3, ne4, ne5, ne6, Ok, On⟩ := id P1
  obtain ⟨T269, X269, e269, st269⟩ := getF X0 hx hZ hown (host := "") (Or.inl (hw _ (List.mem_of_getElem? (i := 79) rfl))) Via.refl e0 Fs (g := (mkF m 1 #[.val (.ref a1), .val (.ref a2), .val .null, .val (.long q4), .second] [(.ref a1)])) rfl rfl (hb hby d12_1)
  obtain ⟨T270, X270, e270, st270⟩ := getF X269 hx hZ hown (host := "") (Or.inl (hw _ (List.mem_of_getElem? (i := 45) rfl))) Via.refl e269 Fk (g := (mkF m 5 #[.val (.ref a1), .val (.ref a2), .val .null, .val (.long q4), .second] [(.ref a1), (.int (2 : Int32))])) rfl rfl (hb hby d12_5)
  obtain ⟨c271, r271, q271, s271, n271, H271, G271⟩ := id Vk
  obtain ⟨T272, X272, e272, st272⟩ := getF X270 hx hZ hown (host := "") (Or.inl (hw _ (List.mem_of_getElem? (i := 45) rfl))) Via.refl e270 Fk (g := (mkF m 17 #[.val (.ref a1), .val (.ref a2), .val .null, .val (.long q4), .second] [(.ref a1)])) rfl rfl (hb hby d12_17)
  obtain ⟨T273, X273, e273, st273⟩ := getF X272 hx hZ hown (host := "") (Or.inl (hw _ (List.mem_of_getElem? (i := 79) rfl))) Via.refl e272 Fs (g := (mkF m 21 #[.val (.ref a1), .val (.ref a2), .val .null, .val (.long q4), .second] [(.ref a1), (.ref bk)])) rfl rfl (hb hby d12_21)
  obtain ⟨c274, r274, q274, s274, n274, H274, G274⟩ := id Vk
  have i274 : ¬ ((2 : Int32) < 0 ∨ c274.slots.size ≤ ((2 : Int32)).toNatClampNeg) := inb_of s274 ⟨by decide, by decide⟩
  obtain ⟨T274, h274, X274, e274, W274, st274⟩ := stR X273 hx hZ e273 r274 (j := (2 : Int32)) i274 rfl (Sto.ofV r274 q274 Ok (Ins.self Ek)) (g := (mkF m 25 #[.val (.ref a1), .val (.ref a2), .val .null, .val (.long q4), .second] [(.ref a2), (.int (2 : Int32)), (.ref bk)])) rfl rfl (hb hby d12_25)
  have f275 := Arv.set r274 q274 s274 n274 H274 G274 rfl W274 2 rfl (by rw [hk8]; decide)
  have f276 := E1.wr W274
  have f277 := Fk.other W274 (Or.inl ne1)
  have f278 := Fn.other W274 (Or.inl ne1)
  have f279 := Fb.other W274 (Or.inl ne1)
  have f280 := Fs.other W274 (Or.inl ne1)
  have f281 := Vn.other W274 (Ne.symm ne4)
  have f282 := Vb.other W274 (Ne.symm ne5)
  have f283 := Ek.wr W274
  have Zn284 := Nat.le_trans Z0 (Keep.of_wr W274).1
  have N285 := Fr.snoc X274 N0 gk
  have K286 := K0.wr W274 (Or.inl (List.mem_of_getElem? (i := 1) rfl))
  obtain ⟨T287, X287, e287, st287⟩ := getF X274 hx hZ hown (host := "") (Or.inl (hw _ (List.mem_of_getElem? (i := 47) rfl))) Via.refl e274 f278 (g := (mkF m 27 #[.val (.ref a1), .val (.ref a2), .val .null, .val (.long q4), .second] [(.ref a1)])) rfl rfl (hb hby d12_27)
  obtain ⟨T288, X288, e288, st288⟩ := getF X287 hx hZ hown (host := "") (Or.inl (hw _ (List.mem_of_getElem? (i := 79) rfl))) Via.refl e287 f280 (g := (mkF m 31 #[.val (.ref a1), .val (.ref a2), .val .null, .val (.long q4), .second] [(.ref a1), (.ref bn)])) rfl rfl (hb hby d12_31)
  obtain ⟨c289, r289, q289, s289, n289, H289, G289⟩ := id f281
  have i289 : ¬ ((2 : Int32) < 0 ∨ c289.slots.size ≤ ((2 : Int32)).toNatClampNeg) := inb_of s289 ⟨by decide, by decide⟩
  obtain ⟨T289, h289, X289, e289, W289, st289⟩ := stR X288 hx hZ e288 r289 (j := (2 : Int32)) i289 rfl (Or.inl rfl) (g := (mkF m 35 #[.val (.ref a1), .val (.ref a2), .val .null, .val (.long q4), .second] [.null, (.int (2 : Int32)), (.ref bn)])) rfl rfl (hb hby d12_35)
  have f290 := Arv.set r289 q289 s289 n289 H289 G289 rfl W289 2 rfl (by rw [hn8]; decide)
  have f291 := f276.wr W289
  have f292 := f277.other W289 (Or.inl ne2)
  have f293 := f278.other W289 (Or.inl ne2)
  have f294 := f279.other W289 (Or.inl ne2)
  have f295 := f280.other W289 (Or.inl ne2)
  have f296 := f282.other W289 (Ne.symm ne6)
  have f297 := f283.wr W289
  have f298 := f275.other W289 ne4
  have Zn299 := Nat.le_trans Zn284 (Keep.of_wr W289).1
  have N300 := Fr.snoc X289 N285 gn
  have K301 := K286.wr W289 (Or.inl (List.mem_of_getElem? (i := 2) rfl))
  obtain ⟨T302, X302, e302, st302⟩ := getF X289 hx hZ hown (host := "") (Or.inl (hw _ (List.mem_of_getElem? (i := 51) rfl))) Via.refl e289 f294 (g := (mkF m 37 #[.val (.ref a1), .val (.ref a2), .val .null, .val (.long q4), .second] [(.ref a1)])) rfl rfl (hb hby d12_37)
  obtain ⟨T303, X303, e303, st303⟩ := getF X302 hx hZ hown (host := "") (Or.inl (hw _ (List.mem_of_getElem? (i := 79) rfl))) Via.refl e302 f295 (g := (mkF m 41 #[.val (.ref a1), .val (.ref a2), .val .null, .val (.long q4), .second] [(.ref a1), (.ref bb)])) rfl rfl (hb hby d12_41)
  obtain ⟨c304, r304, q304, s304, n304, H304, G304⟩ := id f296
  have i304 : ¬ ((2 : Int32) < 0 ∨ c304.slots.size ≤ ((2 : Int32)).toNatClampNeg) := inb_of s304 ⟨by decide, by decide⟩
  obtain ⟨T304, h304, X304, e304, W304, st304⟩ := stJ X303 hx hZ e303 r304 (j := (2 : Int32)) i304 (g := (mkF m 45 #[.val (.ref a1), .val (.ref a2), .val .null, .val (.long q4), .second] [(.long q4), (.int (2 : Int32)), (.ref bb)])) rfl rfl (hb hby d12_45)
  have f305 := Arv.set r304 q304 s304 n304 H304 G304 rfl W304 2 rfl (by rw [hb8]; decide)
  have f306 := f291.wr W304
  have f307 := f292.other W304 (Or.inl ne3)
  have f308 := f293.other W304 (Or.inl ne3)
  have f309 := f294.other W304 (Or.inl ne3)
  have f310 := f295.other W304 (Or.inl ne3)
  have f311 := f297.wr W304
  have f312 := f298.other W304 ne5
  have f313 := f290.other W304 ne6
  have Zn314 := Nat.le_trans Zn299 (Keep.of_wr W304).1
  have N315 := Fr.snoc X304 N300 gb
  have K316 := K301.wr W304 (Or.inl (List.mem_of_getElem? (i := 3) rfl))
  obtain ⟨T317, X317, e317, st317⟩ := getF X304 hx hZ hown (host := "") (Or.inl (hw _ (List.mem_of_getElem? (i := 79) rfl))) Via.refl e304 f310 (g := (mkF m 48 #[.val (.ref a1), .val (.ref a2), .val .null, .val (.long q4), .second] [(.ref a1), (.ref a1)])) rfl rfl (hb hby d12_48)
  obtain ⟨T318, h318, X318, e318, W318, st318⟩ := putF X317 hx hZ hown (host := "") (Or.inl (hw _ (List.mem_of_getElem? (i := 79) rfl))) Via.refl e317 f310 f306 (Or.inl (hw _ (List.mem_of_getElem? (i := 80) rfl))) (hw _ (List.mem_of_getElem? (i := 31) rfl)) (ty := .int) (by decide) rfl rfl (g := (mkF m 53 #[.val (.ref a1), .val (.ref a2), .val .null, .val (.long q4), .second] [(.int (3 : Int32)), (.ref a1)])) rfl rfl (hb hby d12_53)
  have f319 := f310.same W318
  have f320 := f306.wr W318
  have f321 := f307.other W318 (Or.inr (slot_ne (Or.inl (hw _ (List.mem_of_getElem? (i := 46) rfl))) (Or.inl (hw _ (List.mem_of_getElem? (i := 80) rfl))) (by decide) (t := (.array (.object "lanternweir/fields/EventFields$Kind"))) (t' := .int) (by decide) (by decide)))
  have f322 := f308.other W318 (Or.inr (slot_ne (Or.inl (hw _ (List.mem_of_getElem? (i := 48) rfl))) (Or.inl (hw _ (List.mem_of_getElem? (i := 80) rfl))) (by decide) (t := (.array (.object "java/lang/String"))) (t' := .int) (by decide) (by decide)))
  have f323 := f309.other W318 (Or.inr (slot_ne (Or.inl (hw _ (List.mem_of_getElem? (i := 52) rfl))) (Or.inl (hw _ (List.mem_of_getElem? (i := 80) rfl))) (by decide) (t := (.array .long)) (t' := .int) (by decide) (by decide)))
  have f324 := f311.wr W318
  have f325 := f312.other W318 (Ne.symm ne1)
  have f326 := f313.other W318 (Ne.symm ne2)
  have f327 := f305.other W318 (Ne.symm ne3)
  have Zn328 := Nat.le_trans Zn314 (Keep.of_wr W318).1
  have N329 := Fr.snoc X318 N315 ga
  have K330 := K316.wr W318 (Or.inl (List.mem_of_getElem? (i := 0) rfl))
  obtain ⟨fs, hr, hrun, hended, hW, hsame⟩ := X318.leave (v := none) (fun _ => rfl)
  refine ⟨_, _, pre0 _ ?_, hrun, hended, _, _, rfl, ?_, ⟨_, rfl⟩, hW, hsame.mono (by decide) (by decide)⟩
  · show Steps p.tables e below (s₁.setTop (mkF m 0 #[.val (.ref a1), .val (.ref a2), .val .null, .val (.long q4), .second] [])) _
    refine XS.aloadN X0.here hx rfl (hb hby d12_0) rfl rfl ?_
    show Steps p.tables e below (s₁.setTop (mkF m 1 #[.val (.ref a1), .val (.ref a2), .val .null, .val (.long q4), .second] [(.ref a1)])) _
    refine st269 _ ?_
    show Steps p.tables e below (T269.setTop (mkF m 4 #[.val (.ref a1), .val (.ref a2), .val .null, .val (.long q4), .second] [(.int (2 : Int32))])) _
    refine XS.aloadN X269.here hx rfl (hb hby d12_4) rfl rfl ?_
    show Steps p.tables e below (T269.setTop (mkF m 5 #[.val (.ref a1), .val (.ref a2), .val .null, .val (.long q4), .second] [(.ref a1), (.int (2 : Int32))])) _
    refine st270 _ ?_
    show Steps p.tables e below (T270.setTop (mkF m 8 #[.val (.ref a1), .val (.ref a2), .val .null, .val (.long q4), .second] [(.ref bk), (.int (2 : Int32))])) _
    refine X270.arraylength hx (by rw [e270]; exact r271.1) (State.isArrayOf_alike hZ.alike r271.2.1) (g := (mkF m 8 #[.val (.ref a1), .val (.ref a2), .val .null, .val (.long q4), .second] [(.ref bk), (.int (2 : Int32))])) rfl rfl (hb hby d12_8) _ ?_
    rw [len_of s271 n271]
    show Steps p.tables e below (T270.setTop (mkF m 9 #[.val (.ref a1), .val (.ref a2), .val .null, .val (.long q4), .second] [(.int (8 : Int32)), (.int (2 : Int32))])) _
    refine XS.icmpYes X270.here hx rfl (pc0 := 9) (pc' := 16) rfl (hb hby d12_9) rfl (feq (by decide)).2 (by decide) (by decide) ?_
    show Steps p.tables e below (T270.setTop (mkF m 16 #[.val (.ref a1), .val (.ref a2), .val .null, .val (.long q4), .second] [])) _
    refine XS.aloadN X270.here hx rfl (hb hby d12_16) rfl rfl ?_
    show Steps p.tables e below (T270.setTop (mkF m 17 #[.val (.ref a1), .val (.ref a2), .val .null, .val (.long q4), .second] [(.ref a1)])) _
    refine st272 _ ?_
    show Steps p.tables e below (T272.setTop (mkF m 20 #[.val (.ref a1), .val (.ref a2), .val .null, .val (.long q4), .second] [(.ref bk)])) _
    refine XS.aloadN X272.here hx rfl (hb hby d12_20) rfl rfl ?_
    show Steps p.tables e below (T272.setTop (mkF m 21 #[.val (.ref a1), .val (.ref a2), .val .null, .val (.long q4), .second] [(.ref a1), (.ref bk)])) _
    refine st273 _ ?_
    show Steps p.tables e below (T273.setTop (mkF m 24 #[.val (.ref a1), .val (.ref a2), .val .null, .val (.long q4), .second] [(.int (2 : Int32)), (.ref bk)])) _
    refine XS.aloadN X273.here hx rfl (hb hby d12_24) rfl rfl ?_
    show Steps p.tables e below (T273.setTop (mkF m 25 #[.val (.ref a1), .val (.ref a2), .val .null, .val (.long q4), .second] [(.ref a2), (.int (2 : Int32)), (.ref bk)])) _
    refine st274 _ ?_
    show Steps p.tables e below (T274.setTop (mkF m 26 #[.val (.ref a1), .val (.ref a2), .val .null, .val (.long q4), .second] [])) _
    refine XS.aloadN X274.here hx rfl (hb hby d12_26) rfl rfl ?_
    show Steps p.tables e below (T274.setTop (mkF m 27 #[.val (.ref a1), .val (.ref a2), .val .null, .val (.long q4), .second] [(.ref a1)])) _
    refine st287 _ ?_
    show Steps p.tables e below (T287.setTop (mkF m 30 #[.val (.ref a1), .val (.ref a2), .val .null, .val (.long q4), .second] [(.ref bn)])) _
    refine XS.aloadN X287.here hx rfl (hb hby d12_30) rfl rfl ?_
    show Steps p.tables e below (T287.setTop (mkF m 31 #[.val (.ref a1), .val (.ref a2), .val .null, .val (.long q4), .second] [(.ref a1), (.ref bn)])) _
    refine st288 _ ?_
    show Steps p.tables e below (T288.setTop (mkF m 34 #[.val (.ref a1), .val (.ref a2), .val .null, .val (.long q4), .second] [(.int (2 : Int32)), (.ref bn)])) _
    refine XS.aloadN X288.here hx rfl (hb hby d12_34) rfl rfl ?_
    show Steps p.tables e below (T288.setTop (mkF m 35 #[.val (.ref a1), .val (.ref a2), .val .null, .val (.long q4), .second] [.null, (.int (2 : Int32)), (.ref bn)])) _
    refine st289 _ ?_
    show Steps p.tables e below (T289.setTop (mkF m 36 #[.val (.ref a1), .val (.ref a2), .val .null, .val (.long q4), .second] [])) _
    refine XS.aloadN X289.here hx rfl (hb hby d12_36) rfl rfl ?_
    show Steps p.tables e below (T289.setTop (mkF m 37 #[.val (.ref a1), .val (.ref a2), .val .null, .val (.long q4), .second] [(.ref a1)])) _
    refine st302 _ ?_
    show Steps p.tables e below (T302.setTop (mkF m 40 #[.val (.ref a1), .val (.ref a2), .val .null, .val (.long q4), .second] [(.ref bb)])) _
    refine XS.aloadN X302.here hx rfl (hb hby d12_40) rfl rfl ?_
    show Steps p.tables e below (T302.setTop (mkF m 41 #[.val (.ref a1), .val (.ref a2), .val .null, .val (.long q4), .second] [(.ref a1), (.ref bb)])) _
    refine st303 _ ?_
    show Steps p.tables e below (T303.setTop (mkF m 44 #[.val (.ref a1), .val (.ref a2), .val .null, .val (.long q4), .second] [(.int (2 : Int32)), (.ref bb)])) _
    refine XS.lloadN X303.here hx rfl (hb hby d12_44) rfl ?_
    show Steps p.tables e below (T303.setTop (mkF m 45 #[.val (.ref a1), .val (.ref a2), .val .null, .val (.long q4), .second] [(.long q4), (.int (2 : Int32)), (.ref bb)])) _
    refine st304 _ ?_
    show Steps p.tables e below (T304.setTop (mkF m 46 #[.val (.ref a1), .val (.ref a2), .val .null, .val (.long q4), .second] [])) _
    refine XS.aloadN X304.here hx rfl (hb hby d12_46) rfl rfl ?_
    show Steps p.tables e below (T304.setTop (mkF m 47 #[.val (.ref a1), .val (.ref a2), .val .null, .val (.long q4), .second] [(.ref a1)])) _
    refine XS.dup X304.here hx rfl (hb hby d12_47) rfl rfl ?_
    show Steps p.tables e below (T304.setTop (mkF m 48 #[.val (.ref a1), .val (.ref a2), .val .null, .val (.long q4), .second] [(.ref a1), (.ref a1)])) _
    refine st317 _ ?_
    show Steps p.tables e below (T317.setTop (mkF m 51 #[.val (.ref a1), .val (.ref a2), .val .null, .val (.long q4), .second] [(.int (2 : Int32)), (.ref a1)])) _
    refine XS.iconst X317.here hx rfl (hb hby d12_51) ?_
    show Steps p.tables e below (T317.setTop (mkF m 52 #[.val (.ref a1), .val (.ref a2), .val .null, .val (.long q4), .second] [(.int (1 : Int32)), (.int (2 : Int32)), (.ref a1)])) _
    refine XS.iadd X317.here hx rfl (hb hby d12_52) rfl ?_
    show Steps p.tables e below (T317.setTop (mkF m 53 #[.val (.ref a1), .val (.ref a2), .val .null, .val (.long q4), .second] [(.int (3 : Int32)), (.ref a1)])) _
    refine st318 _ ?_
    show Steps p.tables e below (T318.setTop (mkF m 56 #[.val (.ref a1), .val (.ref a2), .val .null, .val (.long q4), .second] [])) _
    exact X318.returnOut hx Bd.returns (hb hby d12_56) hr
  · show Qrm12_2 Z a1 a2 q4 bk bn bb kk kn kb ks ns bs h0 n0 _ T318.heap _
    rw [e318]
    exact ⟨rfl, N329, K330, ⟨f320, f321, f322, f323, f319, f325, f326, f327⟩⟩
theorem d11_0 : decode prog_115_method_15_code 0 = .ok (.aload_n 0, 1) := by decide +kernel
theorem d11_1 : decode prog_115_method_15_code 1 = .ok (.getfield 7, 3) := by decide +kernel
theorem d11_4 : decode prog_115_method_15_code 4 = .ok (.ifnull 23, 3) := by decide +kernel
theorem d11_7 : decode prog_115_method_15_code 7 = .ok (.aload_n 0, 1) := by decide +kernel
theorem d11_8 : decode prog_115_method_15_code 8 = .ok (.getfield 7, 3) := by decide +kernel
theorem d11_11 : decode prog_115_method_15_code 11 = .ok (.getstatic 51, 3) := by decide +kernel
theorem d11_14 : decode prog_115_method_15_code 14 = .ok (.aload_n 1, 1) := by decide +kernel
theorem d11_15 : decode prog_115_method_15_code 15 = .ok (.iload_n 2, 1) := by decide +kernel
theorem d11_16 : decode prog_115_method_15_code 16 = .ok (.ifCond .eq 7, 3) := by decide +kernel
theorem d11_23 : decode prog_115_method_15_code 23 = .ok (.lconst 0, 1) := by decide +kernel
theorem d11_19 : decode prog_115_method_15_code 19 = .ok (.lconst 1, 1) := by decide +kernel
theorem d11_20 : decode prog_115_method_15_code 20 = .ok (.goto 4, 3) := by decide +kernel
theorem d11_24 : decode prog_115_method_15_code 24 = .ok (.invokevirtual 28, 3) := by decide +kernel
theorem pd__Llanternweir_fields_EventFields_Kind_Ljava_lang_String_J_V : parseMethodDescriptor "(Llanternweir/fields/EventFields$Kind;Ljava/lang/String;J)V" = some ⟨[(.object "lanternweir/fields/EventFields$Kind"), (.object "java/lang/String"), .long], none⟩ := by decide +kernel
theorem d11_27 : decode prog_115_method_15_code 27 = .ok (.aload_n 0, 1) := by decide +kernel
theorem d11_28 : decode prog_115_method_15_code 28 = .ok (.areturn, 1) := by decide +kernel
theorem ef_rm11 (m : MethodId) (b1 : Addr) (a3 : Addr) (p4 : Int32) : entryFrame m #[(.ref b1), (.ref a3), (.int p4)] 3 = mkF m 0 #[.val (.ref b1), .val (.ref a3), .val (.int p4)] [] := by first | (simp [entryFrame, mkF, argsToLocals, Value.category]; done) | rfl
def Qrm11 (Z : State) (b1 : Addr) (a3 : Addr) (p4 : Int32) (a1 : Addr) (ak : Addr) (bk : Addr) (bn : Addr) (bb : Addr) (kk : ClassId) (kn : ClassId) (kb : ClassId) (ks : List Value) (ns : List Value) (bs : List Value) (h0 : Heap) (n0 : Nat) (v : Option Value) (h : Heap) (L : List Loc) : Prop := v = some (.ref b1) ∧ Fr n0 L ∧ Keep h0 h [a1, bk, bn, bb] ∧ own_EF Z h a1 bk bn bb kk kn kb (1 : Int32) (ks.set 0 (.ref ak)) (ns.set 0 (.ref a3)) (bs.set 0 (.long (if p4 = (0 : Int32) then (0 : Int64) else (1 : Int64))))
set_option maxRecDepth 65536 in
set_option maxHeartbeats 40000000 in
theorem rm11 (l : Launch) (Z : State) (a0 : Array Value) (hw : ∀ d ∈ tables_1, d.before a0 Z = true) (ws : List Jvm.Cond) (b1 : Addr) (a3 : Addr) (p4 : Int32) (a1 : Addr) (ak : Addr) (bk : Addr) (bn : Addr) (bb : Addr) (kk : ClassId) (kn : ClassId) (kb : ClassId) (ks : List Value) (ns : List Value) (bs : List Value) (h0 : Heap) (n0 : Nat) (Z0 : n0 ≤ h0.size) (S1 : own_EF Z h0 a1 bk bn bb kk kn kb (0 : Int32) ks ns bs) (P1 : own_EFp Z n0 a1 bk bn bb kk kn) (hk8 : ks.length = 8) (hn8 : ns.length = 8) (hb8 : bs.length = 8) (Ek : Exa Z Z.heap ak "lanternweir/fields/EventFields$Kind") (Sk : Sta Z Z.heap "lanternweir/fields/EventFields$Kind" "BOOLEAN" "Llanternweir/fields/EventFields$Kind;" (.ref ak)) (X00 : Old Z n0 h0) (Fb1 : Fld Z h0 b1 "lanternweir/fields/EventFields$Builder" "fields" "Llanternweir/fields/EventFields;" (.ref a1)) (Es : Exa Z h0 a3 "java/lang/String") :
    MetFree l (⟨"lanternweir/fields/EventFields$Builder", "bool", "(Ljava/lang/String;Z)Llanternweir/Fields;"⟩ : MethodName) (head1 (Jvm.Cond.code (⟨"lanternweir/fields/EventFields$Builder", "bool", "(Ljava/lang/String;Z)Llanternweir/Fields;"⟩ : MethodName) prog_115_method_15_code 3 (some (.object "lanternweir/Fields")) :: ws) ({ frames := 1, cells := 0, slots := 0, locals := 16 } : Room)) (fun a U => a = #[(.ref b1), (.ref a3), (.int p4)] ∧ Z.Warmed39 U.vm ∧ U.heap = h0) (fun _ _ _ _ _ => True) (fun _ U o U' => ∃ v L, o = .returned v ∧ Qrm11 Z b1 a3 p4 a1 ak bk bn bb kk kn kb ks ns bs h0 n0 v U'.heap L ∧ FrameEnd U o U' L ({ frames := 1, cells := 0, slots := 0, locals := 16 } : Room).cells ({ frames := 1, cells := 0, slots := 0, locals := 16 } : Room).slots) := by
  refine MetFree.of_bodySF (plainFor_of_name pn_lanternweir_fields_EventFields_Builder) hisR ?_
  intro p e s m args below meth c s₁ Bd hml0 hP hK
  obtain ⟨rfl, hZ, hh⟩ := hP
  have hx := Bd.exec
  have hby := Bd.bytes
  have hml : c.maxLocals = 3 := hml0
  have hown : s.vm.findClass "lanternweir/fields/EventFields$Builder" = some m.cls := findClass_of_methodNamed Bd.named
  have hnm := (name_of_methodNamed Bd.named Bd.method).1
  have X0 : Stand p l e ({ frames := 1, cells := 0, slots := 0, locals := 16 } : Room) s m #[(.ref b1), (.ref a3), (.int p4)] below meth c s₁ [] 0 0 := Stand.of_body Bd
  have e0 : s₁.heap = h0 := by rw [← hh, Bd.state]; rfl
  have N0 := Fr.nil n0
  have pre0 : ∀ t, Steps p.tables e below (s₁.setTop (mkF m 0 #[.val (.ref b1), .val (.ref a3), .val (.int p4)] [])) t → Steps p.tables e below (s₁.setTop (entryFrame m #[(.ref b1), (.ref a3), (.int p4)] 3)) t := fun t k => castTop (ef_rm11 m b1 a3 p4) k
  have K0 := Keep.refl h0 [a1, bk, bn, bb]
  obtain ⟨E1, Fk, Fn, Fb, Fs, Vk, Vn, Vb⟩ := S1
  obtain ⟨ga, gk, gn, gb, ne1, ne2, ne3, ne4, ne5, ne6, Ok, On⟩ := id P1
  obtain ⟨T331, X331, e331, st331⟩ := getF X0 hx hZ hown (host := "") (Or.inl (hw _ (List.mem_of_getElem? (i := 65) rfl))) Via.refl e0 Fb1 (g := (mkF m 1 #[.val (.ref b1), .val (.ref a3), .val (.int p4)] [(.ref b1)])) rfl rfl (hb hby d11_1)
  obtain ⟨T332, X332, e332, st332⟩ := getF X331 hx hZ hown (host := "") (Or.inl (hw _ (List.mem_of_getElem? (i := 65) rfl))) Via.refl e331 Fb1 (g := (mkF m 8 #[.val (.ref b1), .val (.ref a3), .val (.int p4)] [(.ref b1)])) rfl rfl (hb hby d11_8)
  obtain ⟨T333, X333, e333, st333⟩ := getS2 X332 hx hZ hown (host := "") (Or.inl (hw _ (List.mem_of_getElem? (i := 72) rfl))) Via.refl e332 (Sk.ext X00.2) (g := (mkF m 11 #[.val (.ref b1), .val (.ref a3), .val (.int p4)] [(.ref a1)])) rfl (hb hby d11_11)
  obtain ⟨v335, hv335⟩ : ∃ v : Int64, v = if p4 = (0 : Int32) then (0 : Int64) else (1 : Int64) := ⟨_, rfl⟩
  obtain ⟨cq336, q336, q336'⟩ := E1.cell
  obtain ⟨_, _, ⟨T336, L336, k336, n336⟩, -, X336, ⟨Lc336, hQ336, l336, y336, z336⟩, st336⟩ := own_privNest X333 hx (y := (⟨"lanternweir/fields/EventFields", "add", "(Llanternweir/fields/EventFields$Kind;Ljava/lang/String;J)V"⟩ : MethodName)) hown (mvMN hZ (hw _ (List.mem_of_getElem? (i := 75) rfl))) (mvT hZ (hw _ (List.mem_of_getElem? (i := 76) rfl))) (mvT hZ (hw _ (List.mem_of_getElem? (i := 31) rfl))) (Cond.privateMethod_at (mvP hZ (hw _ (List.mem_of_getElem? (i := 77) rfl)) (args := #[]))) (mvT hZ (hw _ (List.mem_of_getElem? (i := 78) rfl))) (by decide) (backOf (W := 0) (rm12_0 l Z a0 hw [] a1 ak a3 v335 bk bn bb kk kn kb ks ns bs h0 n0 Z0 ⟨E1, Fk, Fn, Fb, Fs, Vk, Vn, Vb⟩ P1 hk8 hn8 hb8 (Ek.ext X00.2) Es) hZ (hw _ (List.mem_of_getElem? (i := 78) rfl)) (hw _ (List.mem_of_getElem? (i := 32) rfl)) (by decide) (by decide)) (g := (mkF m 24 #[.val (.ref b1), .val (.ref a3), .val (.int p4)] [(.long v335), (.ref a3), (.ref ak), (.ref a1)])) rfl (by rw [hml]; rfl) (Steps.refl _) (a := a1) (by rw [e333]; exact q336) q336' (argsL := [(.ref ak), (.ref a3), (.long v335)]) (rest := []) (lenOf pd__Llanternweir_fields_EventFields_Kind_Ljava_lang_String_J_V rfl) rfl (by show 2 * 0 + _ ≤ _; exact Nat.le_of_eq rfl) (hb hby d11_24) (fun _ _ => ⟨rfl, e333, (by decide : 0 + 0 ≤ _), (by decide : 0 + 0 ≤ _)⟩)
  dsimp only [Pt.U, Pt.locs, Pt.cells, Pt.slots] at X336 l336 y336 z336 st336 hQ336
  subst l336 y336 z336
  obtain ⟨rfl, N336q, Kq336, S336'⟩ := hQ336
  have N337 := Fr.app N0 N336q
  have f338 := E1.keep Kq336
  have f339 := Es.keep Kq336
  have Zn340 := Nat.le_trans Z0 Kq336.1
  have Od341 := X00.keep Kq336 (allS ga (allS gk (allS gn (allS gb all0))))
  have K342 := K0.trans Kq336 (allS (Or.inl (List.mem_of_getElem? (i := 0) rfl)) (allS (Or.inl (List.mem_of_getElem? (i := 1) rfl)) (allS (Or.inl (List.mem_of_getElem? (i := 2) rfl)) (allS (Or.inl (List.mem_of_getElem? (i := 3) rfl)) all0))))
  obtain ⟨fs, hr, hrun, hended, hW, hsame⟩ := X336.leave (v := some (.ref b1)) (fun h => by rw [Bd.returns] at h; cases h)
  refine ⟨_, _, pre0 _ ?_, hrun, hended, _, _, rfl, ?_, ⟨_, rfl⟩, hW, hsame.mono (by decide) (by decide)⟩
  · show Steps p.tables e below (s₁.setTop (mkF m 0 #[.val (.ref b1), .val (.ref a3), .val (.int p4)] [])) _
    refine XS.aloadN X0.here hx rfl (hb hby d11_0) rfl rfl ?_
    show Steps p.tables e below (s₁.setTop (mkF m 1 #[.val (.ref b1), .val (.ref a3), .val (.int p4)] [(.ref b1)])) _
    refine st331 _ ?_
    show Steps p.tables e below (T331.setTop (mkF m 4 #[.val (.ref b1), .val (.ref a3), .val (.int p4)] [(.ref a1)])) _
    refine XS.ifnullNo X331.here hx rfl (hb hby d11_4) rfl ?_
    show Steps p.tables e below (T331.setTop (mkF m 7 #[.val (.ref b1), .val (.ref a3), .val (.int p4)] [])) _
    refine XS.aloadN X331.here hx rfl (hb hby d11_7) rfl rfl ?_
    show Steps p.tables e below (T331.setTop (mkF m 8 #[.val (.ref b1), .val (.ref a3), .val (.int p4)] [(.ref b1)])) _
    refine st332 _ ?_
    show Steps p.tables e below (T332.setTop (mkF m 11 #[.val (.ref b1), .val (.ref a3), .val (.int p4)] [(.ref a1)])) _
    refine st333 _ ?_
    show Steps p.tables e below (T333.setTop (mkF m 14 #[.val (.ref b1), .val (.ref a3), .val (.int p4)] [(.ref ak), (.ref a1)])) _
    refine XS.aloadN X333.here hx rfl (hb hby d11_14) rfl rfl ?_
    show Steps p.tables e below (T333.setTop (mkF m 15 #[.val (.ref b1), .val (.ref a3), .val (.int p4)] [(.ref a3), (.ref ak), (.ref a1)])) _
    refine XS.iloadN X333.here hx rfl (hb hby d11_15) rfl ?_
    refine joinS (B := T333.setTop (mkF m 24 #[.val (.ref b1), .val (.ref a3), .val (.int p4)] [(.long v335), (.ref a3), (.ref ak), (.ref a1)])) (fun kt => ?_) ?_
    · by_cases hc334 : p4 = (0 : Int32)
      · rw [show v335 = (0 : Int64) from by rw [hv335, if_pos hc334]] at kt
        show Steps p.tables e below (T333.setTop (mkF m 16 #[.val (.ref b1), .val (.ref a3), .val (.int p4)] [(.int p4), (.ref a3), (.ref ak), (.ref a1)])) _
        refine XS.ifYes X333.here hx rfl (pc0 := 16) (pc' := 23) rfl (hb hby d11_16) rfl ((if0 _ _).trans (teq hc334).1) (by decide) (by decide) ?_
        show Steps p.tables e below (T333.setTop (mkF m 23 #[.val (.ref b1), .val (.ref a3), .val (.int p4)] [(.ref a3), (.ref ak), (.ref a1)])) _
        refine XS.lconst X333.here hx rfl (hb hby d11_23) ?_
        exact kt
      · rw [show v335 = (1 : Int64) from by rw [hv335, if_neg hc334]] at kt
        show Steps p.tables e below (T333.setTop (mkF m 16 #[.val (.ref b1), .val (.ref a3), .val (.int p4)] [(.int p4), (.ref a3), (.ref ak), (.ref a1)])) _
        refine XS.ifNo X333.here hx rfl (hb hby d11_16) rfl ((if0 _ _).trans (feq hc334).1) ?_
        show Steps p.tables e below (T333.setTop (mkF m 19 #[.val (.ref b1), .val (.ref a3), .val (.int p4)] [(.ref a3), (.ref ak), (.ref a1)])) _
        refine XS.lconst X333.here hx rfl (hb hby d11_19) ?_
        show Steps p.tables e below (T333.setTop (mkF m 20 #[.val (.ref b1), .val (.ref a3), .val (.int p4)] [(.long (1 : Int64)), (.ref a3), (.ref ak), (.ref a1)])) _
        refine XS.goto X333.here hx rfl (pc0 := 20) (pc' := 24) rfl (hb hby d11_20) (by decide) (by decide) ?_
        exact kt
    show Steps p.tables e below (T333.setTop (mkF m 24 #[.val (.ref b1), .val (.ref a3), .val (.int p4)] [(.long v335), (.ref a3), (.ref ak), (.ref a1)])) _
    refine st336.trans ?_
    show Steps p.tables e below (T336.setTop (mkF m 27 #[.val (.ref b1), .val (.ref a3), .val (.int p4)] [])) _
    refine XS.aloadN X336.here hx rfl (hb hby d11_27) rfl rfl ?_
    show Steps p.tables e below (T336.setTop (mkF m 28 #[.val (.ref b1), .val (.ref a3), .val (.int p4)] [(.ref b1)])) _
    exact retOut X336 hx Bd.returns rfl (Or.inr (Or.inr (Or.inr (Or.inr ⟨rfl, rfl, rfl⟩)))) (hb hby d11_28) hr
  · show Qrm11 Z b1 a3 p4 a1 ak bk bn bb kk kn kb ks ns bs h0 n0 _ T336.heap _
    exact ⟨rfl, N337, K342, (by rw [← hv335]; exact S336')⟩
theorem d13_0 : decode prog_115_method_5_code 0 = .ok (.aload_n 0, 1) := by decide +kernel
theorem d13_1 : decode prog_115_method_5_code 1 = .ok (.getfield 7, 3) := by decide +kernel
theorem d13_4 : decode prog_115_method_5_code 4 = .ok (.ifnull 15, 3) := by decide +kernel
theorem d13_7 : decode prog_115_method_5_code 7 = .ok (.aload_n 0, 1) := by decide +kernel
theorem d13_8 : decode prog_115_method_5_code 8 = .ok (.getfield 7, 3) := by decide +kernel
theorem d13_11 : decode prog_115_method_5_code 11 = .ok (.getstatic 25, 3) := by decide +kernel
theorem d13_14 : decode prog_115_method_5_code 14 = .ok (.aload_n 1, 1) := by decide +kernel
theorem d13_15 : decode prog_115_method_5_code 15 = .ok (.lload_n 2, 1) := by decide +kernel
theorem d13_16 : decode prog_115_method_5_code 16 = .ok (.invokevirtual 28, 3) := by decide +kernel
theorem d13_19 : decode prog_115_method_5_code 19 = .ok (.aload_n 0, 1) := by decide +kernel
theorem d13_20 : decode prog_115_method_5_code 20 = .ok (.areturn, 1) := by decide +kernel
theorem ef_rm13 (m : MethodId) (b1 : Addr) (a3 : Addr) (q4 : Int64) : entryFrame m #[(.ref b1), (.ref a3), (.long q4)] 4 = mkF m 0 #[.val (.ref b1), .val (.ref a3), .val (.long q4), .second] [] := by first | (simp [entryFrame, mkF, argsToLocals, Value.category]; done) | rfl
def Qrm13 (Z : State) (b1 : Addr) (a3 : Addr) (q4 : Int64) (a1 : Addr) (ak : Addr) (bk : Addr) (bn : Addr) (bb : Addr) (kk : ClassId) (kn : ClassId) (kb : ClassId) (ks : List Value) (ns : List Value) (bs : List Value) (h0 : Heap) (n0 : Nat) (v : Option Value) (h : Heap) (L : List Loc) : Prop := v = some (.ref b1) ∧ Fr n0 L ∧ Keep h0 h [a1, bk, bn, bb] ∧ own_EF Z h a1 bk bn bb kk kn kb (2 : Int32) (ks.set 1 (.ref ak)) (ns.set 1 (.ref a3)) (bs.set 1 (.long q4))
set_option maxRecDepth 65536 in
set_option maxHeartbeats 40000000 in
theorem rm13 (l : Launch) (Z : State) (a0 : Array Value) (hw : ∀ d ∈ tables_1, d.before a0 Z = true) (ws : List Jvm.Cond) (b1 : Addr) (a3 : Addr) (q4 : Int64) (a1 : Addr) (ak : Addr) (bk : Addr) (bn : Addr) (bb : Addr) (kk : ClassId) (kn : ClassId) (kb : ClassId) (ks : List Value) (ns : List Value) (bs : List Value) (h0 : Heap) (n0 : Nat) (Z0 : n0 ≤ h0.size) (S1 : own_EF Z h0 a1 bk bn bb kk kn kb (1 : Int32) ks ns bs) (P1 : own_EFp Z n0 a1 bk bn bb kk kn) (hk8 : ks.length = 8) (hn8 : ns.length = 8) (hb8 : bs.length = 8) (Ek : Exa Z Z.heap ak "lanternweir/fields/EventFields$Kind") (Sk : Sta Z Z.heap "lanternweir/fields/EventFields$Kind" "INTEGER" "Llanternweir/fields/EventFields$Kind;" (.ref ak)) (X00 : Old Z n0 h0) (Fb1 : Fld Z h0 b1 "lanternweir/fields/EventFields$Builder" "fields" "Llanternweir/fields/EventFields;" (.ref a1)) (Es : Exa Z h0 a3 "java/lang/String") :
    MetFree l (⟨"lanternweir/fields/EventFields$Builder", "number", "(Ljava/lang/String;J)Llanternweir/Fields;"⟩ : MethodName) (head1 (Jvm.Cond.code (⟨"lanternweir/fields/EventFields$Builder", "number", "(Ljava/lang/String;J)Llanternweir/Fields;"⟩ : MethodName) prog_115_method_5_code 4 (some (.object "lanternweir/Fields")) :: ws) ({ frames := 1, cells := 0, slots := 0, locals := 16 } : Room)) (fun a U => a = #[(.ref b1), (.ref a3), (.long q4)] ∧ Z.Warmed39 U.vm ∧ U.heap = h0) (fun _ _ _ _ _ => True) (fun _ U o U' => ∃ v L, o = .returned v ∧ Qrm13 Z b1 a3 q4 a1 ak bk bn bb kk kn kb ks ns bs h0 n0 v U'.heap L ∧ FrameEnd U o U' L ({ frames := 1, cells := 0, slots := 0, locals := 16 } : Room).cells ({ frames := 1, cells := 0, slots := 0, locals := 16 } : Room).slots) := by
  refine MetFree.of_bodySF (plainFor_of_name pn_lanternweir_fields_EventFields_Builder) hisR ?_
  intro p e s m args below meth c s₁ Bd hml0 hP hK
  obtain ⟨rfl, hZ, hh⟩ := hP
  have hx := Bd.exec
  have hby := Bd.bytes
  have hml : c.maxLocals = 4 := hml0
  have hown : s.vm.findClass "lanternweir/fields/EventFields$Builder" = some m.cls := findClass_of_methodNamed Bd.named
  have hnm := (name_of_methodNamed Bd.named Bd.method).1
  have X0 : Stand p l e ({ frames := 1, cells := 0, slots := 0, locals := 16 } : Room) s m #[(.ref b1), (.ref a3), (.long q4)] below meth c s₁ [] 0 0 := Stand.of_body Bd
  have e0 : s₁.heap = h0 := by rw [← hh, Bd.state]; rfl
  have N0 := Fr.nil n0
  have pre0 : ∀ t, Steps p.tables e below (s₁.setTop (mkF m 0 #[.val (.ref b1), .val (.ref a3), .val (.long q4), .second] [])) t → Steps p.tables e below (s₁.setTop (entryFrame m #[(.ref b1), (.ref a3), (.long q4)] 4)) t := fun t k => castTop (ef_rm13 m b1 a3 q4) k
  have K0 := Keep.refl h0 [a1, bk, bn, bb]
  obtain ⟨E1, Fk, Fn, Fb, Fs, Vk, Vn, Vb⟩ := S1
  obtain ⟨ga, gk, gn, gb, ne1, ne2, ne3, ne4, ne5, ne6, Ok, On⟩ := id P1
  obtain ⟨T343, X343, e343, st343⟩ := getF X0 hx hZ hown (host := "") (Or.inl (hw _ (List.mem_of_getElem? (i := 65) rfl))) Via.refl e0 Fb1 (g := (mkF m 1 #[.val (.ref b1), .val (.ref a3), .val (.long q4), .second] [(.ref b1)])) rfl rfl (hb hby d13_1)
  obtain ⟨T344, X344, e344, st344⟩ := getF X343 hx hZ hown (host := "") (Or.inl (hw _ (List.mem_of_getElem? (i := 65) rfl))) Via.refl e343 Fb1 (g := (mkF m 8 #[.val (.ref b1), .val (.ref a3), .val (.long q4), .second] [(.ref b1)])) rfl rfl (hb hby d13_8)
  obtain ⟨T345, X345, e345, st345⟩ := getS2 X344 hx hZ hown (host := "") (Or.inl (hw _ (List.mem_of_getElem? (i := 87) rfl))) Via.refl e344 (Sk.ext X00.2) (g := (mkF m 11 #[.val (.ref b1), .val (.ref a3), .val (.long q4), .second] [(.ref a1)])) rfl (hb hby d13_11)
  obtain ⟨cq346, q346, q346'⟩ := E1.cell
  obtain ⟨_, _, ⟨T346, L346, k346, n346⟩, -, X346, ⟨Lc346, hQ346, l346, y346, z346⟩, st346⟩ := own_privNest X345 hx (y := (⟨"lanternweir/fields/EventFields", "add", "(Llanternweir/fields/EventFields$Kind;Ljava/lang/String;J)V"⟩ : MethodName)) hown (mvMN hZ (hw _ (List.mem_of_getElem? (i := 75) rfl))) (mvT hZ (hw _ (List.mem_of_getElem? (i := 76) rfl))) (mvT hZ (hw _ (List.mem_of_getElem? (i := 31) rfl))) (Cond.privateMethod_at (mvP hZ (hw _ (List.mem_of_getElem? (i := 77) rfl)) (args := #[]))) (mvT hZ (hw _ (List.mem_of_getElem? (i := 78) rfl))) (by decide) (backOf (W := 0) (rm12_1 l Z a0 hw [] a1 ak a3 q4 bk bn bb kk kn kb ks ns bs h0 n0 Z0 ⟨E1, Fk, Fn, Fb, Fs, Vk, Vn, Vb⟩ P1 hk8 hn8 hb8 (Ek.ext X00.2) Es) hZ (hw _ (List.mem_of_getElem? (i := 78) rfl)) (hw _ (List.mem_of_getElem? (i := 32) rfl)) (by decide) (by decide)) (g := (mkF m 16 #[.val (.ref b1), .val (.ref a3), .val (.long q4), .second] [(.long q4), (.ref a3), (.ref ak), (.ref a1)])) rfl (by rw [hml]; rfl) (Steps.refl _) (a := a1) (by rw [e345]; exact q346) q346' (argsL := [(.ref ak), (.ref a3), (.long q4)]) (rest := []) (lenOf pd__Llanternweir_fields_EventFields_Kind_Ljava_lang_String_J_V rfl) rfl (by show 2 * 0 + _ ≤ _; exact Nat.le_of_eq rfl) (hb hby d13_16) (fun _ _ => ⟨rfl, e345, (by decide : 0 + 0 ≤ _), (by decide : 0 + 0 ≤ _)⟩)
  dsimp only [Pt.U, Pt.locs, Pt.cells, Pt.slots] at X346 l346 y346 z346 st346 hQ346
  subst l346 y346 z346
  obtain ⟨rfl, N346q, Kq346, S346'⟩ := hQ346
  have N347 := Fr.app N0 N346q
  have f348 := E1.keep Kq346
  have f349 := Es.keep Kq346
  have Zn350 := Nat.le_trans Z0 Kq346.1
  have Od351 := X00.keep Kq346 (allS ga (allS gk (allS gn (allS gb all0))))
  have K352 := K0.trans Kq346 (allS (Or.inl (List.mem_of_getElem? (i := 0) rfl)) (allS (Or.inl (List.mem_of_getElem? (i := 1) rfl)) (allS (Or.inl (List.mem_of_getElem? (i := 2) rfl)) (allS (Or.inl (List.mem_of_getElem? (i := 3) rfl)) all0))))
  obtain ⟨fs, hr, hrun, hended, hW, hsame⟩ := X346.leave (v := some (.ref b1)) (fun h => by rw [Bd.returns] at h; cases h)
  refine ⟨_, _, pre0 _ ?_, hrun, hended, _, _, rfl, ?_, ⟨_, rfl⟩, hW, hsame.mono (by decide) (by decide)⟩
  · show Steps p.tables e below (s₁.setTop (mkF m 0 #[.val (.ref b1), .val (.ref a3), .val (.long q4), .second] [])) _
    refine XS.aloadN X0.here hx rfl (hb hby d13_0) rfl rfl ?_
    show Steps p.tables e below (s₁.setTop (mkF m 1 #[.val (.ref b1), .val (.ref a3), .val (.long q4), .second] [(.ref b1)])) _
    refine st343 _ ?_
    show Steps p.tables e below (T343.setTop (mkF m 4 #[.val (.ref b1), .val (.ref a3), .val (.long q4), .second] [(.ref a1)])) _
    refine XS.ifnullNo X343.here hx rfl (hb hby d13_4) rfl ?_
    show Steps p.tables e below (T343.setTop (mkF m 7 #[.val (.ref b1), .val (.ref a3), .val (.long q4), .second] [])) _
    refine XS.aloadN X343.here hx rfl (hb hby d13_7) rfl rfl ?_
    show Steps p.tables e below (T343.setTop (mkF m 8 #[.val (.ref b1), .val (.ref a3), .val (.long q4), .second] [(.ref b1)])) _
    refine st344 _ ?_
    show Steps p.tables e below (T344.setTop (mkF m 11 #[.val (.ref b1), .val (.ref a3), .val (.long q4), .second] [(.ref a1)])) _
    refine st345 _ ?_
    show Steps p.tables e below (T345.setTop (mkF m 14 #[.val (.ref b1), .val (.ref a3), .val (.long q4), .second] [(.ref ak), (.ref a1)])) _
    refine XS.aloadN X345.here hx rfl (hb hby d13_14) rfl rfl ?_
    show Steps p.tables e below (T345.setTop (mkF m 15 #[.val (.ref b1), .val (.ref a3), .val (.long q4), .second] [(.ref a3), (.ref ak), (.ref a1)])) _
    refine XS.lloadN X345.here hx rfl (hb hby d13_15) rfl ?_
    show Steps p.tables e below (T345.setTop (mkF m 16 #[.val (.ref b1), .val (.ref a3), .val (.long q4), .second] [(.long q4), (.ref a3), (.ref ak), (.ref a1)])) _
    refine st346.trans ?_
    show Steps p.tables e below (T346.setTop (mkF m 19 #[.val (.ref b1), .val (.ref a3), .val (.long q4), .second] [])) _
    refine XS.aloadN X346.here hx rfl (hb hby d13_19) rfl rfl ?_
    show Steps p.tables e below (T346.setTop (mkF m 20 #[.val (.ref b1), .val (.ref a3), .val (.long q4), .second] [(.ref b1)])) _
    exact retOut X346 hx Bd.returns rfl (Or.inr (Or.inr (Or.inr (Or.inr ⟨rfl, rfl, rfl⟩)))) (hb hby d13_20) hr
  · show Qrm13 Z b1 a3 q4 a1 ak bk bn bb kk kn kb ks ns bs h0 n0 _ T346.heap _
    exact ⟨rfl, N347, K352, S346'⟩
theorem d14_0 : decode prog_115_method_16_code 0 = .ok (.aload_n 0, 1) := by decide +kernel
theorem d14_1 : decode prog_115_method_16_code 1 = .ok (.getfield 7, 3) := by decide +kernel
theorem d14_4 : decode prog_115_method_16_code 4 = .ok (.ifnull 23, 3) := by decide +kernel
theorem d14_7 : decode prog_115_method_16_code 7 = .ok (.aload_n 0, 1) := by decide +kernel
theorem d14_8 : decode prog_115_method_16_code 8 = .ok (.getfield 7, 3) := by decide +kernel
theorem d14_11 : decode prog_115_method_16_code 11 = .ok (.getstatic 51, 3) := by decide +kernel
theorem d14_14 : decode prog_115_method_16_code 14 = .ok (.aconst_null, 1) := by decide +kernel
theorem d14_15 : decode prog_115_method_16_code 15 = .ok (.iload_n 1, 1) := by decide +kernel
theorem d14_16 : decode prog_115_method_16_code 16 = .ok (.ifCond .eq 7, 3) := by decide +kernel
theorem d14_23 : decode prog_115_method_16_code 23 = .ok (.lconst 0, 1) := by decide +kernel
theorem d14_19 : decode prog_115_method_16_code 19 = .ok (.lconst 1, 1) := by decide +kernel
theorem d14_20 : decode prog_115_method_16_code 20 = .ok (.goto 4, 3) := by decide +kernel
theorem d14_24 : decode prog_115_method_16_code 24 = .ok (.invokevirtual 28, 3) := by decide +kernel
theorem d14_27 : decode prog_115_method_16_code 27 = .ok (.aload_n 0, 1) := by decide +kernel
theorem d14_28 : decode prog_115_method_16_code 28 = .ok (.areturn, 1) := by decide +kernel
theorem ef_rm14 (m : MethodId) (b1 : Addr) (p4 : Int32) : entryFrame m #[(.ref b1), (.int p4)] 2 = mkF m 0 #[.val (.ref b1), .val (.int p4)] [] := by first | (simp [entryFrame, mkF, argsToLocals, Value.category]; done) | rfl
def Qrm14 (Z : State) (b1 : Addr) (p4 : Int32) (a1 : Addr) (ak : Addr) (bk : Addr) (bn : Addr) (bb : Addr) (kk : ClassId) (kn : ClassId) (kb : ClassId) (ks : List Value) (ns : List Value) (bs : List Value) (h0 : Heap) (n0 : Nat) (v : Option Value) (h : Heap) (L : List Loc) : Prop := v = some (.ref b1) ∧ Fr n0 L ∧ Keep h0 h [a1, bk, bn, bb] ∧ own_EF Z h a1 bk bn bb kk kn kb (3 : Int32) (ks.set 2 (.ref ak)) (ns.set 2 .null) (bs.set 2 (.long (if p4 = (0 : Int32) then (0 : Int64) else (1 : Int64))))
set_option maxRecDepth 65536 in
set_option maxHeartbeats 40000000 in
theorem rm14 (l : Launch) (Z : State) (a0 : Array Value) (hw : ∀ d ∈ tables_1, d.before a0 Z = true) (ws : List Jvm.Cond) (b1 : Addr) (p4 : Int32) (a1 : Addr) (ak : Addr) (bk : Addr) (bn : Addr) (bb : Addr) (kk : ClassId) (kn : ClassId) (kb : ClassId) (ks : List Value) (ns : List Value) (bs : List Value) (h0 : Heap) (n0 : Nat) (Z0 : n0 ≤ h0.size) (S1 : own_EF Z h0 a1 bk bn bb kk kn kb (2 : Int32) ks ns bs) (P1 : own_EFp Z n0 a1 bk bn bb kk kn) (hk8 : ks.length = 8) (hn8 : ns.length = 8) (hb8 : bs.length = 8) (Ek : Exa Z Z.heap ak "lanternweir/fields/EventFields$Kind") (Sk : Sta Z Z.heap "lanternweir/fields/EventFields$Kind" "BOOLEAN" "Llanternweir/fields/EventFields$Kind;" (.ref ak)) (X00 : Old Z n0 h0) (Fb1 : Fld Z h0 b1 "lanternweir/fields/EventFields$Builder" "fields" "Llanternweir/fields/EventFields;" (.ref a1)) :
    MetFree l (⟨"lanternweir/fields/EventFields$Builder", "bool", "(Z)Llanternweir/Values;"⟩ : MethodName) (head1 (Jvm.Cond.code (⟨"lanternweir/fields/EventFields$Builder", "bool", "(Z)Llanternweir/Values;"⟩ : MethodName) prog_115_method_16_code 2 (some (.object "lanternweir/Values")) :: ws) ({ frames := 1, cells := 0, slots := 0, locals := 16 } : Room)) (fun a U => a = #[(.ref b1), (.int p4)] ∧ Z.Warmed39 U.vm ∧ U.heap = h0) (fun _ _ _ _ _ => True) (fun _ U o U' => ∃ v L, o = .returned v ∧ Qrm14 Z b1 p4 a1 ak bk bn bb kk kn kb ks ns bs h0 n0 v U'.heap L ∧ FrameEnd U o U' L ({ frames := 1, cells := 0, slots := 0, locals := 16 } : Room).cells ({ frames := 1, cells := 0, slots := 0, locals := 16 } : Room).slots) := by
  refine MetFree.of_bodySF (plainFor_of_name pn_lanternweir_fields_EventFields_Builder) hisR ?_
  intro p e s m args below meth c s₁ Bd hml0 hP hK
  obtain ⟨rfl, hZ, hh⟩ := hP
  have hx := Bd.exec
  have hby := Bd.bytes
  have hml : c.maxLocals = 2 := hml0
  have hown : s.vm.findClass "lanternweir/fields/EventFields$Builder" = some m.cls := findClass_of_methodNamed Bd.named
  have hnm := (name_of_methodNamed Bd.named Bd.method).1
  have X0 : Stand p l e ({ frames := 1, cells := 0, slots := 0, locals := 16 } : Room) s m #[(.ref b1), (.int p4)] below meth c s₁ [] 0 0 := Stand.of_body Bd
  have e0 : s₁.heap = h0 := by rw [← hh, Bd.state]; rfl
  have N0 := Fr.nil n0
  have pre0 : ∀ t, Steps p.tables e below (s₁.setTop (mkF m 0 #[.val (.ref b1), .val (.int p4)] [])) t → Steps p.tables e below (s₁.setTop (entryFrame m #[(.ref b1), (.int p4)] 2)) t := fun t k => castTop (ef_rm14 m b1 p4) k
  have K0 := Keep.refl h0 [a1, bk, bn, bb]
  obtain ⟨E1, Fk, Fn, Fb, Fs, Vk, Vn, Vb⟩ := S1
  obtain ⟨ga, gk, gn, gb, ne1, ne2, ne3, ne4, ne5, ne6, Ok, On⟩ := id P1
  obtain ⟨T353, X353, e353, st353⟩ := getF X0 hx hZ hown (host := "") (Or.inl (hw _ (List.mem_of_getElem? (i := 65) rfl))) Via.refl e0 Fb1 (g := (mkF m 1 #[.val (.ref b1), .val (.int p4)] [(.ref b1)])) rfl rfl (hb hby d14_1)
  obtain ⟨T354, X354, e354, st354⟩ := getF X353 hx hZ hown (host := "") (Or.inl (hw _ (List.mem_of_getElem? (i := 65) rfl))) Via.refl e353 Fb1 (g := (mkF m 8 #[.val (.ref b1), .val (.int p4)] [(.ref b1)])) rfl rfl (hb hby d14_8)
  obtain ⟨T355, X355, e355, st355⟩ := getS2 X354 hx hZ hown (host := "") (Or.inl (hw _ (List.mem_of_getElem? (i := 72) rfl))) Via.refl e354 (Sk.ext X00.2) (g := (mkF m 11 #[.val (.ref b1), .val (.int p4)] [(.ref a1)])) rfl (hb hby d14_11)
  obtain ⟨v357, hv357⟩ : ∃ v : Int64, v = if p4 = (0 : Int32) then (0 : Int64) else (1 : Int64) := ⟨_, rfl⟩
  obtain ⟨cq358, q358, q358'⟩ := E1.cell
  obtain ⟨_, _, ⟨T358, L358, k358, n358⟩, -, X358, ⟨Lc358, hQ358, l358, y358, z358⟩, st358⟩ := own_privNest X355 hx (y := (⟨"lanternweir/fields/EventFields", "add", "(Llanternweir/fields/EventFields$Kind;Ljava/lang/String;J)V"⟩ : MethodName)) hown (mvMN hZ (hw _ (List.mem_of_getElem? (i := 75) rfl))) (mvT hZ (hw _ (List.mem_of_getElem? (i := 76) rfl))) (mvT hZ (hw _ (List.mem_of_getElem? (i := 31) rfl))) (Cond.privateMethod_at (mvP hZ (hw _ (List.mem_of_getElem? (i := 77) rfl)) (args := #[]))) (mvT hZ (hw _ (List.mem_of_getElem? (i := 78) rfl))) (by decide) (backOf (W := 0) (rm12_2 l Z a0 hw [] a1 ak v357 bk bn bb kk kn kb ks ns bs h0 n0 Z0 ⟨E1, Fk, Fn, Fb, Fs, Vk, Vn, Vb⟩ P1 hk8 hn8 hb8 (Ek.ext X00.2)) hZ (hw _ (List.mem_of_getElem? (i := 78) rfl)) (hw _ (List.mem_of_getElem? (i := 32) rfl)) (by decide) (by decide)) (g := (mkF m 24 #[.val (.ref b1), .val (.int p4)] [(.long v357), .null, (.ref ak), (.ref a1)])) rfl (by rw [hml]; rfl) (Steps.refl _) (a := a1) (by rw [e355]; exact q358) q358' (argsL := [(.ref ak), .null, (.long v357)]) (rest := []) (lenOf pd__Llanternweir_fields_EventFields_Kind_Ljava_lang_String_J_V rfl) rfl (by show 2 * 0 + _ ≤ _; exact Nat.le_of_eq rfl) (hb hby d14_24) (fun _ _ => ⟨rfl, e355, (by decide : 0 + 0 ≤ _), (by decide : 0 + 0 ≤ _)⟩)
  dsimp only [Pt.U, Pt.locs, Pt.cells, Pt.slots] at X358 l358 y358 z358 st358 hQ358
  subst l358 y358 z358
  obtain ⟨rfl, N358q, Kq358, S358'⟩ := hQ358
  have N359 := Fr.app N0 N358q
  have f360 := E1.keep Kq358
  have Zn361 := Nat.le_trans Z0 Kq358.1
  have Od362 := X00.keep Kq358 (allS ga (allS gk (allS gn (allS gb all0))))
  have K363 := K0.trans Kq358 (allS (Or.inl (List.mem_of_getElem? (i := 0) rfl)) (allS (Or.inl (List.mem_of_getElem? (i := 1) rfl)) (allS (Or.inl (List.mem_of_getElem? (i := 2) rfl)) (allS (Or.inl (List.mem_of_getElem? (i := 3) rfl)) all0))))
  obtain ⟨fs, hr, hrun, hended, hW, hsame⟩ := X358.leave (v := some (.ref b1)) (fun h => by rw [Bd.returns] at h; cases h)
  refine ⟨_, _, pre0 _ ?_, hrun, hended, _, _, rfl, ?_, ⟨_, rfl⟩, hW, hsame.mono (by decide) (by decide)⟩
  · show Steps p.tables e below (s₁.setTop (mkF m 0 #[.val (.ref b1), .val (.int p4)] [])) _
    refine XS.aloadN X0.here hx rfl (hb hby d14_0) rfl rfl ?_
    show Steps p.tables e below (s₁.setTop (mkF m 1 #[.val (.ref b1), .val (.int p4)] [(.ref b1)])) _
    refine st353 _ ?_
    show Steps p.tables e below (T353.setTop (mkF m 4 #[.val (.ref b1), .val (.int p4)] [(.ref a1)])) _
    refine XS.ifnullNo X353.here hx rfl (hb hby d14_4) rfl ?_
    show Steps p.tables e below (T353.setTop (mkF m 7 #[.val (.ref b1), .val (.int p4)] [])) _
    refine XS.aloadN X353.here hx rfl (hb hby d14_7) rfl rfl ?_
    show Steps p.tables e below (T353.setTop (mkF m 8 #[.val (.ref b1), .val (.int p4)] [(.ref b1)])) _
    refine st354 _ ?_
    show Steps p.tables e below (T354.setTop (mkF m 11 #[.val (.ref b1), .val (.int p4)] [(.ref a1)])) _
    refine st355 _ ?_
    show Steps p.tables e below (T355.setTop (mkF m 14 #[.val (.ref b1), .val (.int p4)] [(.ref ak), (.ref a1)])) _
    refine XS.aconstNull X355.here hx rfl (hb hby d14_14) ?_
    show Steps p.tables e below (T355.setTop (mkF m 15 #[.val (.ref b1), .val (.int p4)] [.null, (.ref ak), (.ref a1)])) _
    refine XS.iloadN X355.here hx rfl (hb hby d14_15) rfl ?_
    refine joinS (B := T355.setTop (mkF m 24 #[.val (.ref b1), .val (.int p4)] [(.long v357), .null, (.ref ak), (.ref a1)])) (fun kt => ?_) ?_
    · by_cases hc356 : p4 = (0 : Int32)
      · rw [show v357 = (0 : Int64) from by rw [hv357, if_pos hc356]] at kt
        show Steps p.tables e below (T355.setTop (mkF m 16 #[.val (.ref b1), .val (.int p4)] [(.int p4), .null, (.ref ak), (.ref a1)])) _
        refine XS.ifYes X355.here hx rfl (pc0 := 16) (pc' := 23) rfl (hb hby d14_16) rfl ((if0 _ _).trans (teq hc356).1) (by decide) (by decide) ?_
        show Steps p.tables e below (T355.setTop (mkF m 23 #[.val (.ref b1), .val (.int p4)] [.null, (.ref ak), (.ref a1)])) _
        refine XS.lconst X355.here hx rfl (hb hby d14_23) ?_
        exact kt
      · rw [show v357 = (1 : Int64) from by rw [hv357, if_neg hc356]] at kt
        show Steps p.tables e below (T355.setTop (mkF m 16 #[.val (.ref b1), .val (.int p4)] [(.int p4), .null, (.ref ak), (.ref a1)])) _
        refine XS.ifNo X355.here hx rfl (hb hby d14_16) rfl ((if0 _ _).trans (feq hc356).1) ?_
        show Steps p.tables e below (T355.setTop (mkF m 19 #[.val (.ref b1), .val (.int p4)] [.null, (.ref ak), (.ref a1)])) _
        refine XS.lconst X355.here hx rfl (hb hby d14_19) ?_
        show Steps p.tables e below (T355.setTop (mkF m 20 #[.val (.ref b1), .val (.int p4)] [(.long (1 : Int64)), .null, (.ref ak), (.ref a1)])) _
        refine XS.goto X355.here hx rfl (pc0 := 20) (pc' := 24) rfl (hb hby d14_20) (by decide) (by decide) ?_
        exact kt
    show Steps p.tables e below (T355.setTop (mkF m 24 #[.val (.ref b1), .val (.int p4)] [(.long v357), .null, (.ref ak), (.ref a1)])) _
    refine st358.trans ?_
    show Steps p.tables e below (T358.setTop (mkF m 27 #[.val (.ref b1), .val (.int p4)] [])) _
    refine XS.aloadN X358.here hx rfl (hb hby d14_27) rfl rfl ?_
    show Steps p.tables e below (T358.setTop (mkF m 28 #[.val (.ref b1), .val (.int p4)] [(.ref b1)])) _
    exact retOut X358 hx Bd.returns rfl (Or.inr (Or.inr (Or.inr (Or.inr ⟨rfl, rfl, rfl⟩)))) (hb hby d14_28) hr
  · show Qrm14 Z b1 p4 a1 ak bk bn bb kk kn kb ks ns bs h0 n0 _ T358.heap _
    exact ⟨rfl, N359, K363, (by rw [← hv357]; exact S358')⟩
theorem d15_0 : decode prog_114_method_7_code 0 = .ok (.aload_n 0, 1) := by decide +kernel
theorem d15_1 : decode prog_114_method_7_code 1 = .ok (.getfield 36, 3) := by decide +kernel
theorem d15_4 : decode prog_114_method_7_code 4 = .ok (.ireturn, 1) := by decide +kernel
theorem ef_rm15 (m : MethodId) (a1 : Addr) : entryFrame m #[(.ref a1)] 1 = mkF m 0 #[.val (.ref a1)] [] := by first | (simp [entryFrame, mkF, argsToLocals, Value.category]; done) | rfl
def Qrm15 (Z : State) (a1 : Addr) (n : Int32) (h0 : Heap) (n0 : Nat) (v : Option Value) (h : Heap) (L : List Loc) : Prop := v = some (.int n) ∧ Fr n0 L ∧ h = h0
set_option maxRecDepth 65536 in
set_option maxHeartbeats 40000000 in
theorem rm15 (l : Launch) (Z : State) (a0 : Array Value) (hw : ∀ d ∈ tables_1, d.before a0 Z = true) (ws : List Jvm.Cond) (a1 : Addr) (n : Int32) (h0 : Heap) (n0 : Nat) (Z0 : n0 ≤ h0.size) (Fs : Fld Z h0 a1 "lanternweir/fields/EventFields" "size" "I" (.int n)) :
    MetFree l (⟨"lanternweir/fields/EventFields", "size", "()I"⟩ : MethodName) (head1 (Jvm.Cond.code (⟨"lanternweir/fields/EventFields", "size", "()I"⟩ : MethodName) prog_114_method_7_code 1 (some .int) :: ws) ({ frames := 0, cells := 0, slots := 0, locals := 0 } : Room)) (fun a U => a = #[(.ref a1)] ∧ Z.Warmed39 U.vm ∧ U.heap = h0) (fun _ _ _ _ _ => True) (fun _ U o U' => ∃ v L, o = .returned v ∧ Qrm15 Z a1 n h0 n0 v U'.heap L ∧ FrameEnd U o U' L ({ frames := 0, cells := 0, slots := 0, locals := 0 } : Room).cells ({ frames := 0, cells := 0, slots := 0, locals := 0 } : Room).slots) := by
  refine MetFree.of_bodySF (plainFor_of_name pn_lanternweir_fields_EventFields) hisR ?_
  intro p e s m args below meth c s₁ Bd hml0 hP hK
  obtain ⟨rfl, hZ, hh⟩ := hP
  have hx := Bd.exec
  have hby := Bd.bytes
  have hml : c.maxLocals = 1 := hml0
  have hown : s.vm.findClass "lanternweir/fields/EventFields" = some m.cls := findClass_of_methodNamed Bd.named
  have hnm := (name_of_methodNamed Bd.named Bd.method).1
  have X0 : Stand p l e ({ frames := 0, cells := 0, slots := 0, locals := 0 } : Room) s m #[(.ref a1)] below meth c s₁ [] 0 0 := Stand.of_body Bd
  have e0 : s₁.heap = h0 := by rw [← hh, Bd.state]; rfl
  have N0 := Fr.nil n0
  have pre0 : ∀ t, Steps p.tables e below (s₁.setTop (mkF m 0 #[.val (.ref a1)] [])) t → Steps p.tables e below (s₁.setTop (entryFrame m #[(.ref a1)] 1)) t := fun t k => castTop (ef_rm15 m a1) k
  obtain ⟨T364, X364, e364, st364⟩ := getF X0 hx hZ hown (host := "") (Or.inl (hw _ (List.mem_of_getElem? (i := 79) rfl))) Via.refl e0 Fs (g := (mkF m 1 #[.val (.ref a1)] [(.ref a1)])) rfl rfl (hb hby d15_1)
  obtain ⟨fs, hr, hrun, hended, hW, hsame⟩ := X364.leave (v := some (.int n)) (fun h => by rw [Bd.returns] at h; cases h)
  refine ⟨_, _, pre0 _ ?_, hrun, hended, _, _, rfl, ?_, ⟨_, rfl⟩, hW, hsame.mono (by decide) (by decide)⟩
  · show Steps p.tables e below (s₁.setTop (mkF m 0 #[.val (.ref a1)] [])) _
    refine XS.aloadN X0.here hx rfl (hb hby d15_0) rfl rfl ?_
    show Steps p.tables e below (s₁.setTop (mkF m 1 #[.val (.ref a1)] [(.ref a1)])) _
    refine st364 _ ?_
    show Steps p.tables e below (T364.setTop (mkF m 4 #[.val (.ref a1)] [(.int n)])) _
    exact retI X364 hx Bd.returns (hb hby d15_4) hr
  · show Qrm15 Z a1 n h0 n0 _ T364.heap _
    rw [e364]
    exact ⟨rfl, N0, rfl⟩
theorem d16_0 : decode prog_114_method_14_code 0 = .ok (.aload_n 0, 1) := by decide +kernel
theorem d16_1 : decode prog_114_method_14_code 1 = .ok (.getfield 27, 3) := by decide +kernel
theorem d16_4 : decode prog_114_method_14_code 4 = .ok (.iload_n 1, 1) := by decide +kernel
theorem d16_5 : decode prog_114_method_14_code 5 = .ok (.laload, 1) := by decide +kernel
theorem d16_6 : decode prog_114_method_14_code 6 = .ok (.lconst 0, 1) := by decide +kernel
theorem d16_7 : decode prog_114_method_14_code 7 = .ok (.lcmp, 1) := by decide +kernel
theorem d16_8 : decode prog_114_method_14_code 8 = .ok (.ifCond .eq 7, 3) := by decide +kernel
theorem d16_15 : decode prog_114_method_14_code 15 = .ok (.iconst 0, 1) := by decide +kernel
theorem d16_16 : decode prog_114_method_14_code 16 = .ok (.ireturn, 1) := by decide +kernel
theorem d16_11 : decode prog_114_method_14_code 11 = .ok (.iconst 1, 1) := by decide +kernel
theorem d16_12 : decode prog_114_method_14_code 12 = .ok (.goto 4, 3) := by decide +kernel
theorem ef_rm16_0 (m : MethodId) (a1 : Addr) : entryFrame m #[(.ref a1), (.int (0 : Int32))] 2 = mkF m 0 #[.val (.ref a1), .val (.int (0 : Int32))] [] := by first | (simp [entryFrame, mkF, argsToLocals, Value.category]; done) | rfl
def Qrm16_0 (Z : State) (a1 : Addr) (bb : Addr) (kb : ClassId) (bs : List Value) (q : Int64) (h0 : Heap) (n0 : Nat) (v : Option Value) (h : Heap) (L : List Loc) : Prop := v = some (.int (if q = (0 : Int64) then (0 : Int32) else (1 : Int32))) ∧ Fr n0 L ∧ h = h0
set_option maxRecDepth 65536 in
set_option maxHeartbeats 40000000 in
theorem rm16_0 (l : Launch) (Z : State) (a0 : Array Value) (hw : ∀ d ∈ tables_1, d.before a0 Z = true) (ws : List Jvm.Cond) (a1 : Addr) (bb : Addr) (kb : ClassId) (bs : List Value) (q : Int64) (h0 : Heap) (n0 : Nat) (Z0 : n0 ≤ h0.size) (Fb : Fld Z h0 a1 "lanternweir/fields/EventFields" "bits" "[J" (.ref bb)) (Vb : Arv Z h0 bb kb .long (8 : Int32) bs (.long (0 : Int64))) (hv : bs.getD 0 (.long (0 : Int64)) = .long q) :
    MetFree l (⟨"lanternweir/fields/EventFields", "booleanValue", "(I)Z"⟩ : MethodName) (head1 (Jvm.Cond.code (⟨"lanternweir/fields/EventFields", "booleanValue", "(I)Z"⟩ : MethodName) prog_114_method_14_code 2 (some .boolean) :: ws) ({ frames := 0, cells := 0, slots := 0, locals := 0 } : Room)) (fun a U => a = #[(.ref a1), (.int (0 : Int32))] ∧ Z.Warmed39 U.vm ∧ U.heap = h0) (fun _ _ _ _ _ => True) (fun _ U o U' => ∃ v L, o = .returned v ∧ Qrm16_0 Z a1 bb kb bs q h0 n0 v U'.heap L ∧ FrameEnd U o U' L ({ frames := 0, cells := 0, slots := 0, locals := 0 } : Room).cells ({ frames := 0, cells := 0, slots := 0, locals := 0 } : Room).slots) := by
  refine MetFree.of_bodySF (plainFor_of_name pn_lanternweir_fields_EventFields) hisR ?_
  intro p e s m args below meth c s₁ Bd hml0 hP hK
  obtain ⟨rfl, hZ, hh⟩ := hP
  have hx := Bd.exec
  have hby := Bd.bytes
  have hml : c.maxLocals = 2 := hml0
  have hown : s.vm.findClass "lanternweir/fields/EventFields" = some m.cls := findClass_of_methodNamed Bd.named
  have hnm := (name_of_methodNamed Bd.named Bd.method).1
  have X0 : Stand p l e ({ frames := 0, cells := 0, slots := 0, locals := 0 } : Room) s m #[(.ref a1), (.int (0 : Int32))] below meth c s₁ [] 0 0 := Stand.of_body Bd
  have e0 : s₁.heap = h0 := by rw [← hh, Bd.state]; rfl
  have N0 := Fr.nil n0
  have pre0 : ∀ t, Steps p.tables e below (s₁.setTop (mkF m 0 #[.val (.ref a1), .val (.int (0 : Int32))] [])) t → Steps p.tables e below (s₁.setTop (entryFrame m #[(.ref a1), (.int (0 : Int32))] 2)) t := fun t k => castTop (ef_rm16_0 m a1) k
  obtain ⟨T365, X365, e365, st365⟩ := getF X0 hx hZ hown (host := "") (Or.inl (hw _ (List.mem_of_getElem? (i := 51) rfl))) Via.refl e0 Fb (g := (mkF m 1 #[.val (.ref a1), .val (.int (0 : Int32))] [(.ref a1)])) rfl rfl (hb hby d16_1)
  obtain ⟨c366, r366, q366, s366, n366, H366, G366⟩ := id Vb
  have i366 : ¬ ((0 : Int32) < 0 ∨ c366.slots.size ≤ ((0 : Int32)).toNatClampNeg) := inb_of s366 ⟨by decide, by decide⟩
  have a366 : c366.slots[((0 : Int32)).toNatClampNeg]? = some (.long q) := Has.at H366 i366 hv
  obtain ⟨v368, hv368⟩ : ∃ v : Int32, v = if q = (0 : Int64) then (0 : Int32) else (1 : Int32) := ⟨_, rfl⟩
  obtain ⟨fs, hr, hrun, hended, hW, hsame⟩ := X365.leave (v := some (.int v368)) (fun h => by rw [Bd.returns] at h; cases h)
  refine ⟨_, _, pre0 _ ?_, hrun, hended, _, _, rfl, ?_, ⟨_, rfl⟩, hW, hsame.mono (by decide) (by decide)⟩
  · show Steps p.tables e below (s₁.setTop (mkF m 0 #[.val (.ref a1), .val (.int (0 : Int32))] [])) _
    refine XS.aloadN X0.here hx rfl (hb hby d16_0) rfl rfl ?_
    show Steps p.tables e below (s₁.setTop (mkF m 1 #[.val (.ref a1), .val (.int (0 : Int32))] [(.ref a1)])) _
    refine st365 _ ?_
    show Steps p.tables e below (T365.setTop (mkF m 4 #[.val (.ref a1), .val (.int (0 : Int32))] [(.ref bb)])) _
    refine XS.iloadN X365.here hx rfl (hb hby d16_4) rfl ?_
    show Steps p.tables e below (T365.setTop (mkF m 5 #[.val (.ref a1), .val (.int (0 : Int32))] [(.int (0 : Int32)), (.ref bb)])) _
    refine X365.laload hx (j := (0 : Int32)) (v := (.long q)) (by rw [e365]; exact r366.1) (State.isArrayOf_alike hZ.alike r366.2.1) r366.2.2 i366 a366 (g := (mkF m 5 #[.val (.ref a1), .val (.int (0 : Int32))] [(.int (0 : Int32)), (.ref bb)])) rfl rfl (hb hby d16_5) _ ?_
    show Steps p.tables e below (T365.setTop (mkF m 6 #[.val (.ref a1), .val (.int (0 : Int32))] [(.long q)])) _
    refine XS.lconst X365.here hx rfl (hb hby d16_6) ?_
    show Steps p.tables e below (T365.setTop (mkF m 7 #[.val (.ref a1), .val (.int (0 : Int32))] [(.long (0 : Int64)), (.long q)])) _
    refine XS.lcmp X365.here hx rfl (hb hby d16_7) rfl ?_
    by_cases hc367 : q = (0 : Int64)
    · rw [show v368 = (0 : Int32) from by rw [hv368, if_pos hc367]] at hr
      show Steps p.tables e below (T365.setTop (mkF m 8 #[.val (.ref a1), .val (.int (0 : Int32))] [(.int (lcmpW q (0 : Int64)))])) _
      refine XS.ifYes X365.here hx rfl (pc0 := 8) (pc' := 15) rfl (hb hby d16_8) rfl ((if0 _ _).trans (teq ((lw_eq _ _).2 hc367)).1) (by decide) (by decide) ?_
      show Steps p.tables e below (T365.setTop (mkF m 15 #[.val (.ref a1), .val (.int (0 : Int32))] [])) _
      refine XS.iconst X365.here hx rfl (hb hby d16_15) ?_
      show Steps p.tables e below (T365.setTop (mkF m 16 #[.val (.ref a1), .val (.int (0 : Int32))] [(.int (0 : Int32))])) _
      exact retN X365 hx (t := .boolean) Bd.returns (by simp) (hb hby d16_16) hr
    · rw [show v368 = (1 : Int32) from by rw [hv368, if_neg hc367]] at hr
      show Steps p.tables e below (T365.setTop (mkF m 8 #[.val (.ref a1), .val (.int (0 : Int32))] [(.int (lcmpW q (0 : Int64)))])) _
      refine XS.ifNo X365.here hx rfl (hb hby d16_8) rfl ((if0 _ _).trans (feq (mt (lw_eq _ _).1 hc367)).1) ?_
      show Steps p.tables e below (T365.setTop (mkF m 11 #[.val (.ref a1), .val (.int (0 : Int32))] [])) _
      refine XS.iconst X365.here hx rfl (hb hby d16_11) ?_
      show Steps p.tables e below (T365.setTop (mkF m 12 #[.val (.ref a1), .val (.int (0 : Int32))] [(.int (1 : Int32))])) _
      refine XS.goto X365.here hx rfl (pc0 := 12) (pc' := 16) rfl (hb hby d16_12) (by decide) (by decide) ?_
      show Steps p.tables e below (T365.setTop (mkF m 16 #[.val (.ref a1), .val (.int (0 : Int32))] [(.int (1 : Int32))])) _
      exact retN X365 hx (t := .boolean) Bd.returns (by simp) (hb hby d16_16) hr
  · show Qrm16_0 Z a1 bb kb bs q h0 n0 _ T365.heap _
    rw [e365]
    exact ⟨by rw [hv368], N0, rfl⟩
theorem ef_rm16_2 (m : MethodId) (a1 : Addr) : entryFrame m #[(.ref a1), (.int (2 : Int32))] 2 = mkF m 0 #[.val (.ref a1), .val (.int (2 : Int32))] [] := by first | (simp [entryFrame, mkF, argsToLocals, Value.category]; done) | rfl
def Qrm16_2 (Z : State) (a1 : Addr) (bb : Addr) (kb : ClassId) (bs : List Value) (q : Int64) (h0 : Heap) (n0 : Nat) (v : Option Value) (h : Heap) (L : List Loc) : Prop := v = some (.int (if q = (0 : Int64) then (0 : Int32) else (1 : Int32))) ∧ Fr n0 L ∧ h = h0
set_option maxRecDepth 65536 in
set_option maxHeartbeats 40000000 in
theorem rm16_2 (l : Launch) (Z : State) (a0 : Array Value) (hw : ∀ d ∈ tables_1, d.before a0 Z = true) (ws : List Jvm.Cond) (a1 : Addr) (bb : Addr) (kb : ClassId) (bs : List Value) (q : Int64) (h0 : Heap) (n0 : Nat) (Z0 : n0 ≤ h0.size) (Fb : Fld Z h0 a1 "lanternweir/fields/EventFields" "bits" "[J" (.ref bb)) (Vb : Arv Z h0 bb kb .long (8 : Int32) bs (.long (0 : Int64))) (hv : bs.getD 2 (.long (0 : Int64)) = .long q) :
    MetFree l (⟨"lanternweir/fields/EventFields", "booleanValue", "(I)Z"⟩ : MethodName) (head1 (Jvm.Cond.code (⟨"lanternweir/fields/EventFields", "booleanValue", "(I)Z"⟩ : MethodName) prog_114_method_14_code 2 (some .boolean) :: ws) ({ frames := 0, cells := 0, slots := 0, locals := 0 } : Room)) (fun a U => a = #[(.ref a1), (.int (2 : Int32))] ∧ Z.Warmed39 U.vm ∧ U.heap = h0) (fun _ _ _ _ _ => True) (fun _ U o U' => ∃ v L, o = .returned v ∧ Qrm16_2 Z a1 bb kb bs q h0 n0 v U'.heap L ∧ FrameEnd U o U' L ({ frames := 0, cells := 0, slots := 0, locals := 0 } : Room).cells ({ frames := 0, cells := 0, slots := 0, locals := 0 } : Room).slots) := by
  refine MetFree.of_bodySF (plainFor_of_name pn_lanternweir_fields_EventFields) hisR ?_
  intro p e s m args below meth c s₁ Bd hml0 hP hK
  obtain ⟨rfl, hZ, hh⟩ := hP
  have hx := Bd.exec
  have hby := Bd.bytes
  have hml : c.maxLocals = 2 := hml0
  have hown : s.vm.findClass "lanternweir/fields/EventFields" = some m.cls := findClass_of_methodNamed Bd.named
  have hnm := (name_of_methodNamed Bd.named Bd.method).1
  have X0 : Stand p l e ({ frames := 0, cells := 0, slots := 0, locals := 0 } : Room) s m #[(.ref a1), (.int (2 : Int32))] below meth c s₁ [] 0 0 := Stand.of_body Bd
  have e0 : s₁.heap = h0 := by rw [← hh, Bd.state]; rfl
  have N0 := Fr.nil n0
  have pre0 : ∀ t, Steps p.tables e below (s₁.setTop (mkF m 0 #[.val (.ref a1), .val (.int (2 : Int32))] [])) t → Steps p.tables e below (s₁.setTop (entryFrame m #[(.ref a1), (.int (2 : Int32))] 2)) t := fun t k => castTop (ef_rm16_2 m a1) k
  obtain ⟨T369, X369, e369, st369⟩ := getF X0 hx hZ hown (host := "") (Or.inl (hw _ (List.mem_of_getElem? (i := 51) rfl))) Via.refl e0 Fb (g := (mkF m 1 #[.val (.ref a1), .val (.int (2 : Int32))] [(.ref a1)])) rfl rfl (hb hby d16_1)
  obtain ⟨c370, r370, q370, s370, n370, H370, G370⟩ := id Vb
  have i370 : ¬ ((2 : Int32) < 0 ∨ c370.slots.size ≤ ((2 : Int32)).toNatClampNeg) := inb_of s370 ⟨by decide, by decide⟩
  have a370 : c370.slots[((2 : Int32)).toNatClampNeg]? = some (.long q) := Has.at H370 i370 hv
  obtain ⟨v372, hv372⟩ : ∃ v : Int32, v = if q = (0 : Int64) then (0 : Int32) else (1 : Int32) := ⟨_, rfl⟩
  obtain ⟨fs, hr, hrun, hended, hW, hsame⟩ := X369.leave (v := some (.int v372)) (fun h => by rw [Bd.returns] at h; cases h)
  refine ⟨_, _, pre0 _ ?_, hrun, hended, _, _, rfl, ?_, ⟨_, rfl⟩, hW, hsame.mono (by decide) (by decide)⟩
  · show Steps p.tables e below (s₁.setTop (mkF m 0 #[.val (.ref a1), .val (.int (2 : Int32))] [])) _
    refine XS.aloadN X0.here hx rfl (hb hby d16_0) rfl rfl ?_
    show Steps p.tables e below (s₁.setTop (mkF m 1 #[.val (.ref a1), .val (.int (2 : Int32))] [(.ref a1)])) _
    refine st369 _ ?_
    show Steps p.tables e below (T369.setTop (mkF m 4 #[.val (.ref a1), .val (.int (2 : Int32))] [(.ref bb)])) _
    refine XS.iloadN X369.here hx rfl (hb hby d16_4) rfl ?_
    show Steps p.tables e below (T369.setTop (mkF m 5 #[.val (.ref a1), .val (.int (2 : Int32))] [(.int (2 : Int32)), (.ref bb)])) _
    refine X369.laload hx (j := (2 : Int32)) (v := (.long q)) (by rw [e369]; exact r370.1) (State.isArrayOf_alike hZ.alike r370.2.1) r370.2.2 i370 a370 (g := (mkF m 5 #[.val (.ref a1), .val (.int (2 : Int32))] [(.int (2 : Int32)), (.ref bb)])) rfl rfl (hb hby d16_5) _ ?_
    show Steps p.tables e below (T369.setTop (mkF m 6 #[.val (.ref a1), .val (.int (2 : Int32))] [(.long q)])) _
    refine XS.lconst X369.here hx rfl (hb hby d16_6) ?_
    show Steps p.tables e below (T369.setTop (mkF m 7 #[.val (.ref a1), .val (.int (2 : Int32))] [(.long (0 : Int64)), (.long q)])) _
    refine XS.lcmp X369.here hx rfl (hb hby d16_7) rfl ?_
    by_cases hc371 : q = (0 : Int64)
    · rw [show v372 = (0 : Int32) from by rw [hv372, if_pos hc371]] at hr
      show Steps p.tables e below (T369.setTop (mkF m 8 #[.val (.ref a1), .val (.int (2 : Int32))] [(.int (lcmpW q (0 : Int64)))])) _
      refine XS.ifYes X369.here hx rfl (pc0 := 8) (pc' := 15) rfl (hb hby d16_8) rfl ((if0 _ _).trans (teq ((lw_eq _ _).2 hc371)).1) (by decide) (by decide) ?_
      show Steps p.tables e below (T369.setTop (mkF m 15 #[.val (.ref a1), .val (.int (2 : Int32))] [])) _
      refine XS.iconst X369.here hx rfl (hb hby d16_15) ?_
      show Steps p.tables e below (T369.setTop (mkF m 16 #[.val (.ref a1), .val (.int (2 : Int32))] [(.int (0 : Int32))])) _
      exact retN X369 hx (t := .boolean) Bd.returns (by simp) (hb hby d16_16) hr
    · rw [show v372 = (1 : Int32) from by rw [hv372, if_neg hc371]] at hr
      show Steps p.tables e below (T369.setTop (mkF m 8 #[.val (.ref a1), .val (.int (2 : Int32))] [(.int (lcmpW q (0 : Int64)))])) _
      refine XS.ifNo X369.here hx rfl (hb hby d16_8) rfl ((if0 _ _).trans (feq (mt (lw_eq _ _).1 hc371)).1) ?_
      show Steps p.tables e below (T369.setTop (mkF m 11 #[.val (.ref a1), .val (.int (2 : Int32))] [])) _
      refine XS.iconst X369.here hx rfl (hb hby d16_11) ?_
      show Steps p.tables e below (T369.setTop (mkF m 12 #[.val (.ref a1), .val (.int (2 : Int32))] [(.int (1 : Int32))])) _
      refine XS.goto X369.here hx rfl (pc0 := 12) (pc' := 16) rfl (hb hby d16_12) (by decide) (by decide) ?_
      show Steps p.tables e below (T369.setTop (mkF m 16 #[.val (.ref a1), .val (.int (2 : Int32))] [(.int (1 : Int32))])) _
      exact retN X369 hx (t := .boolean) Bd.returns (by simp) (hb hby d16_16) hr
  · show Qrm16_2 Z a1 bb kb bs q h0 n0 _ T369.heap _
    rw [e369]
    exact ⟨by rw [hv372], N0, rfl⟩
theorem own_chars (x : Int32) : ¬ (nar .char (x &&& (255 : Int32)).toUInt32.toUInt16.toUInt32.toInt32) < 0 ∧ ¬ (255 : Int32) < (nar .char (x &&& (255 : Int32)).toUInt32.toUInt16.toUInt32.toInt32) := by
  rw [i2c_mask]
  show ¬ (x &&& (255 : Int32)).toUInt32.toUInt16.toUInt32.toInt32 < 0 ∧ ¬ (255 : Int32) < (x &&& (255 : Int32)).toUInt32.toUInt16.toUInt32.toInt32
  rw [i2c_mask]
  have e : (x &&& (255 : Int32)).toBitVec.toNat = x.toBitVec.toNat % 256 := by
    rw [Int32.toBitVec_and, BitVec.toNat_and]
    have e : (255 : Int32).toBitVec.toNat = 2 ^ 8 - 1 := rfl
    rw [e, Nat.and_two_pow_sub_one_eq_mod]
  have q := BitVec.toInt_eq_toNat_cond (x &&& (255 : Int32)).toBitVec
  rw [Int32.toInt_toBitVec, e] at q
  have f0 : (0 : Int32).toInt = 0 := rfl
  have f1 : (255 : Int32).toInt = 255 := rfl
  rw [Int32.lt_iff_toInt_lt, Int32.lt_iff_toInt_lt, f0, f1]
  split at q <;> omega
theorem own_back {P : Prop} [Decidable P] {v : Int32} (h : v = if P then (0 : Int32) else (1 : Int32)) : (if (if v = (0 : Int32) then (0 : Int64) else (1 : Int64)) = (0 : Int64) then (0 : Int32) else (1 : Int32)) = v := by
  subst h; by_cases q : P <;> simp [q]
theorem pd___C_V : parseMethodDescriptor "([C)V" = some ⟨[(.array .char)], none⟩ := by decide +kernel
theorem pd___V : parseMethodDescriptor "()V" = some ⟨[], none⟩ := by decide +kernel
theorem pd___Llanternweir_fields_EventFields_Builder_ : parseMethodDescriptor "()Llanternweir/fields/EventFields$Builder;" = some ⟨[], some (.object "lanternweir/fields/EventFields$Builder")⟩ := by decide +kernel
theorem pd__Ljava_lang_String_Z_Llanternweir_Fields_ : parseMethodDescriptor "(Ljava/lang/String;Z)Llanternweir/Fields;" = some ⟨[(.object "java/lang/String"), .boolean], some (.object "lanternweir/Fields")⟩ := by decide +kernel
theorem pd__Ljava_lang_String_J_Llanternweir_Fields_ : parseMethodDescriptor "(Ljava/lang/String;J)Llanternweir/Fields;" = some ⟨[(.object "java/lang/String"), .long], some (.object "lanternweir/Fields")⟩ := by decide +kernel
theorem pd__Z_Llanternweir_Values_ : parseMethodDescriptor "(Z)Llanternweir/Values;" = some ⟨[.boolean], some (.object "lanternweir/Values")⟩ := by decide +kernel
theorem pd___I : parseMethodDescriptor "()I" = some ⟨[], some .int⟩ := by decide +kernel
theorem pd__I_Z : parseMethodDescriptor "(I)Z" = some ⟨[.int], some .boolean⟩ := by decide +kernel
theorem pn_lanternweir_fields_EventFieldsBooleanValuePinLaw : plainName "lanternweir/fields/EventFieldsBooleanValuePinLaw" = true := by first | (simp [plainName, overriddenIn]; done) | decide +kernel
theorem ef_rm0 (m : MethodId) (p0 : Int32) (p1 : Int32) (q2 : Int64) (p4 : Int32) : entryFrame m #[(.int p0), (.int p1), (.long q2), (.int p4)] maxLocals = mkF m 0 #[.val (.int p0), .val (.int p1), .val (.long q2), .second, .val (.int p4), .unset, .unset, .unset, .unset, .unset, .unset] [] := by first | (simp [entryFrame, mkF, argsToLocals, Value.category, maxLocals]; done) | rfl
def Qrm0 (Z : State) (p0 : Int32) (p1 : Int32) (q2 : Int64) (p4 : Int32) (G1 : Int32) (kB : Addr) (kN : Addr) (h0 : Heap) (n0 : Nat) (v : Option Value) (h : Heap) (L : List Loc) : Prop := v = some (.int 1) ∧ Fr n0 L
set_option maxRecDepth 65536 in
set_option maxHeartbeats 40000000 in
theorem rm0 (l : Launch) (Z : State) (a0 : Array Value) (hw : ∀ d ∈ tables_1, d.before a0 Z = true) (ws : List Jvm.Cond) (p0 : Int32) (p1 : Int32) (q2 : Int64) (p4 : Int32) (G1 : Int32) (kB : Addr) (kN : Addr) (h0 : Heap) (n0 : Nat) (Z0 : n0 ≤ h0.size) (O2 : Sta Z Z.heap "java/lang/String" "COMPACT_STRINGS" "Z" (.int G1)) (P5 : ¬ (G1 = (0 : Int32))) (SB : Sta Z Z.heap "lanternweir/fields/EventFields$Kind" "BOOLEAN" "Llanternweir/fields/EventFields$Kind;" (.ref kB)) (SI : Sta Z Z.heap "lanternweir/fields/EventFields$Kind" "INTEGER" "Llanternweir/fields/EventFields$Kind;" (.ref kN)) (EB : Exa Z Z.heap kB "lanternweir/fields/EventFields$Kind") (EI : Exa Z Z.heap kN "lanternweir/fields/EventFields$Kind") (X00 : Old Z n0 h0) :
    MetFree l x (head1 (Jvm.Cond.code x code maxLocals ret :: ws) room_1) (fun a U => a = #[(.int p0), (.int p1), (.long q2), (.int p4)] ∧ Z.Warmed39 U.vm ∧ U.heap = h0) (fun _ _ _ _ _ => True) (fun _ U o U' => ∃ v L, o = .returned v ∧ Qrm0 Z p0 p1 q2 p4 G1 kB kN h0 n0 v U'.heap L ∧ FrameEnd U o U' L room_1.cells room_1.slots) := by
  refine MetFree.of_bodySF (plainFor_of_name pn_lanternweir_fields_EventFieldsBooleanValuePinLaw) hisR ?_
  intro p e s m args below meth c s₁ Bd hml0 hP hK
  obtain ⟨rfl, hZ, hh⟩ := hP
  have hx := Bd.exec
  have hby := Bd.bytes
  have hml : c.maxLocals = 11 := hml0
  have hown : s.vm.findClass "lanternweir/fields/EventFieldsBooleanValuePinLaw" = some m.cls := findClass_of_methodNamed Bd.named
  have hnm := (name_of_methodNamed Bd.named Bd.method).1
  have X0 : Stand p l e room_1 s m #[(.int p0), (.int p1), (.long q2), (.int p4)] below meth c s₁ [] 0 0 := Stand.of_body Bd
  have e0 : s₁.heap = h0 := by rw [← hh, Bd.state]; rfl
  have N0 := Fr.nil n0
  have pre0 : ∀ t, Steps p.tables e below (s₁.setTop (mkF m 0 #[.val (.int p0), .val (.int p1), .val (.long q2), .second, .val (.int p4), .unset, .unset, .unset, .unset, .unset, .unset] [])) t → Steps p.tables e below (s₁.setTop (entryFrame m #[(.int p0), (.int p1), (.long q2), (.int p4)] maxLocals)) t := fun t k => castTop (ef_rm0 m p0 p1 q2 p4) k
  obtain ⟨v374, hv374⟩ : ∃ v : Int32, v = if (p0 &&& (1 : Int32)) = (0 : Int32) then (0 : Int32) else (1 : Int32) := ⟨_, rfl⟩
  obtain ⟨v376, hv376⟩ : ∃ v : Int32, v = if (p1 &&& (1 : Int32)) = (0 : Int32) then (0 : Int32) else (1 : Int32) := ⟨_, rfl⟩
  obtain ⟨T377, h377, k377, X377, e377, E377, A377, st377⟩ := newP X0 hx hZ (hw _ (List.mem_of_getElem? (i := 0) rfl)) e0 (g := (mkF m 27 #[.val (.int p0), .val (.int p1), .val (.long q2), .second, .val (.int p4), .val (.int v374), .val (.int v376), .unset, .unset, .unset, .unset] [(.int (1 : Int32))])) rfl (hb hby at_27) rfl (by decide) (cap := 1) (by decide) (by decide) (by decide) (by decide)
  obtain ⟨b377, g377⟩ : ∃ z, z = h0.size := ⟨_, rfl⟩
  rw [← g377] at A377 st377
  have g378 : n0 ≤ b377 := Nat.le_trans Z0 (Nat.le_of_eq g377.symm)
  have Zn379 := Nat.le_trans Z0 E377.1
  have Od380 := X00.ext E377
  have f381 := Arv.new A377 (by decide)
  have f382 : Arv Z h377 b377 k377 .char (1 : Int32) [(.int (0 : Int32))] (.int (0 : Int32)) := f381.pad (pad_rep [] (.int (0 : Int32)) 1)
  obtain ⟨c383, r383, q383, s383, n383, H383, G383⟩ := id f382
  have i383 : ¬ ((0 : Int32) < 0 ∨ c383.slots.size ≤ ((0 : Int32)).toNatClampNeg) := inb_of s383 ⟨by decide, by decide⟩
  obtain ⟨T383, h383, X383, e383, W383, st383⟩ := stC X377 hx hZ e377 r383 (j := (0 : Int32)) i383 (g := (mkF m 38 #[.val (.int p0), .val (.int p1), .val (.long q2), .second, .val (.int p4), .val (.int v374), .val (.int v376), .unset, .unset, .unset, .unset] [(.int (p4 &&& (255 : Int32)).toUInt32.toUInt16.toUInt32.toInt32), (.int (0 : Int32)), (.ref b377), (.ref b377)])) rfl rfl (hb hby at_38)
  have f384 := Arv.set r383 q383 s383 n383 H383 G383 (fits_nar_char _) W383 0 rfl (Nat.le_of_ble_eq_true rfl)
  have f385 : Arv Z h383 b377 k377 .char (1 : Int32) [(.int (nar .char (p4 &&& (255 : Int32)).toUInt32.toUInt16.toUInt32.toInt32))] (.int (0 : Int32)) := f384
  have Zn386 := Nat.le_trans Zn379 (Keep.of_wr W383).1
  have Od387 := Od380.wr W383 g378
  have N388 := Fr.snoc X383 N0 g378
  obtain ⟨T389, h389, X389, e389, E389, A389, D389, U389, st389⟩ := newO X383 hx hZ hown (hw _ (List.mem_of_getElem? (i := 1) rfl)) (hw _ (List.mem_of_getElem? (i := 2) rfl)) (hw _ (List.mem_of_getElem? (i := 3) rfl)) e383 (g := (mkF m 41 #[.val (.int p0), .val (.int p1), .val (.long q2), .second, .val (.int p4), .val (.int v374), .val (.int v376), .val (.ref b377), .unset, .unset, .unset] [])) rfl (hb hby at_41) (by decide) (by decide)
  obtain ⟨b389, g389⟩ : ∃ z, z = h383.size := ⟨_, rfl⟩
  rw [← g389] at A389 D389 st389
  have g390 : n0 ≤ b389 := Nat.le_trans Zn386 (Nat.le_of_eq g389.symm)
  have ne391 : b377 ≠ b389 := Nat.ne_of_lt (Nat.lt_of_lt_of_le f385.lt (Nat.le_of_eq g389.symm))
  have f392 := f385.ext E389
  have Zn393 := Nat.le_trans Zn386 E389.1
  have Od394 := Od387.ext E389
  have f395 : Fld Z h389 b389 "java/lang/String" "coder" "B" (.int (0 : Int32)) := D389 (Or.inr (hw _ (List.mem_of_getElem? (i := 27) rfl))) (ty := .byte) (by decide)
  have f396 : Fld Z h389 b389 "java/lang/String" "value" "[B" .null := D389 (Or.inr (hw _ (List.mem_of_getElem? (i := 29) rfl))) (ty := (.array .byte)) (by decide)
  have hws : ∀ d ∈ StrChars.Road.words, d.before a0 Z = true := fun d hd => hw d ((by decide +kernel : ∀ d ∈ StrChars.Road.words, d ∈ tables_1) d hd)
  have hp : ∀ c ∈ ([nar .char (p4 &&& (255 : Int32)).toUInt32.toUInt16.toUInt32.toInt32] : List Int32), ¬ c < 0 ∧ ¬ (255 : Int32) < c := fun c hc => by rw [List.mem_singleton.mp hc]; exact own_chars p4
  obtain ⟨_, _, ⟨T397, L397, k397, n397⟩, -, X397, ⟨Lc397, hQ397, l397, y397, z397⟩, st397⟩ := X389.specialBack hx (y := (⟨"java/lang/String", "<init>", "([C)V"⟩ : MethodName)) rfl hown (mvT hZ (hw _ (List.mem_of_getElem? (i := 4) rfl))) (mvT hZ (hw _ (List.mem_of_getElem? (i := 5) rfl))) (mvT hZ (hw _ (List.mem_of_getElem? (i := 6) rfl))) (by decide) (StrChars.Road.backV (W := 1) hZ hws (kI := 4) (hw _ (List.mem_of_getElem? (i := 2) rfl)) (cs := ([nar .char (p4 &&& (255 : Int32)).toUInt32.toUInt16.toUInt32.toInt32] : List Int32)) (bs := ([nar .char (p4 &&& (255 : Int32)).toUInt32.toUInt16.toUInt32.toInt32] : List Int32).map (fun c => c.toInt8.toInt32)) (n := 1) g390 Zn393 A389 f396 f395 f392 (O2.ext Od394.2) P5 rfl rfl (by decide) (by decide) hp rfl (by decide) (by decide)) (g := (mkF m 47 #[.val (.int p0), .val (.int p1), .val (.long q2), .second, .val (.int p4), .val (.int v374), .val (.int v376), .val (.ref b377), .unset, .unset, .unset] [(.ref b377), (.ref b389), (.ref b389)])) rfl (by rw [hml]; rfl) (Steps.refl _) (a := b389) (argsL := [(.ref b377)]) (rest := [(.ref b389)]) (lenOf pd___C_V rfl) rfl (by show 2 * 0 + _ ≤ _; exact Nat.le_of_eq rfl) (hb hby at_47) (fun _ _ => ⟨rfl, e389, (by decide : 2 + 1 ≤ _), (by decide : 5 + 1 ≤ _)⟩)
  dsimp only [Pt.U, Pt.locs, Pt.cells, Pt.slots] at X397 l397 y397 z397 st397 hQ397
  subst l397 y397 z397
  obtain ⟨rfl, N397q, Kq397, Es397, Fc397, tS397, kS397, u1397, u2397, u3397, Fv397, Vv397⟩ := hQ397
  have N398 := Fr.app N388 N397q
  have f399 := f392.keep Kq397 (ninS ne391 nin0)
  have f400 := A389.keep Kq397
  have Zn401 := Nat.le_trans Zn393 Kq397.1
  have Od402 := Od394.keep Kq397 (allS g390 all0)
  obtain ⟨T403, h403, X403, e403, E403, A403, D403, U403, st403⟩ := newO X397 hx hZ hown (hw _ (List.mem_of_getElem? (i := 30) rfl)) (hw _ (List.mem_of_getElem? (i := 31) rfl)) (hw _ (List.mem_of_getElem? (i := 32) rfl)) rfl (g := (mkF m 52 #[.val (.int p0), .val (.int p1), .val (.long q2), .second, .val (.int p4), .val (.int v374), .val (.int v376), .val (.ref b377), .val (.ref b389), .unset, .unset] [])) rfl (hb hby at_52) (by decide) (by decide)
  obtain ⟨b403, g403⟩ : ∃ z, z = T397.heap.size := ⟨_, rfl⟩
  rw [← g403] at A403 D403 st403
  have g404 : n0 ≤ b403 := Nat.le_trans Zn401 (Nat.le_of_eq g403.symm)
  have ne405 : b377 ≠ b403 := Nat.ne_of_lt (Nat.lt_of_lt_of_le f399.lt (Nat.le_of_eq g403.symm))
  have ne406 : b389 ≠ b403 := Nat.ne_of_lt (Nat.lt_of_lt_of_le f400.lt (Nat.le_of_eq g403.symm))
  have f407 := f399.ext E403
  have f408 := f400.ext E403
  have Zn409 := Nat.le_trans Zn401 E403.1
  have Od410 := Od402.ext E403
  have f411 : Fld Z h403 b403 "lanternweir/fields/EventFields" "kinds" "[Llanternweir/fields/EventFields$Kind;" .null := D403 (Or.inl (hw _ (List.mem_of_getElem? (i := 46) rfl))) (ty := (.array (.object "lanternweir/fields/EventFields$Kind"))) (by decide)
  have f412 : Fld Z h403 b403 "lanternweir/fields/EventFields" "names" "[Ljava/lang/String;" .null := D403 (Or.inl (hw _ (List.mem_of_getElem? (i := 48) rfl))) (ty := (.array (.object "java/lang/String"))) (by decide)
  have f413 : Fld Z h403 b403 "lanternweir/fields/EventFields" "strings" "[Ljava/lang/String;" .null := D403 (Or.inl (hw _ (List.mem_of_getElem? (i := 50) rfl))) (ty := (.array (.object "java/lang/String"))) (by decide)
  have f414 : Fld Z h403 b403 "lanternweir/fields/EventFields" "bits" "[J" .null := D403 (Or.inl (hw _ (List.mem_of_getElem? (i := 52) rfl))) (ty := (.array .long)) (by decide)
  have f415 : Fld Z h403 b403 "lanternweir/fields/EventFields" "size" "I" (.int (0 : Int32)) := D403 (Or.inl (hw _ (List.mem_of_getElem? (i := 80) rfl))) (ty := .int) (by decide)
  obtain ⟨_, _, ⟨T416, L416, k416, n416⟩, -, X416, ⟨Lc416, hQ416, l416, y416, z416⟩, st416⟩ := X403.specialBack hx (y := (⟨"lanternweir/fields/EventFields", "<init>", "()V"⟩ : MethodName)) rfl hown (mvT hZ (hw _ (List.mem_of_getElem? (i := 33) rfl))) (mvT hZ (hw _ (List.mem_of_getElem? (i := 34) rfl))) (mvT hZ (hw _ (List.mem_of_getElem? (i := 35) rfl))) (by decide) (backOf (W := 1) (rm7 l Z a0 hw [] b403  h403 n0 Zn409 A403 f411 f412 f413 f414 f415 g404) hZ (hw _ (List.mem_of_getElem? (i := 35) rfl)) (hw _ (List.mem_of_getElem? (i := 32) rfl)) (by decide) (by decide)) (g := (mkF m 56 #[.val (.int p0), .val (.int p1), .val (.long q2), .second, .val (.int p4), .val (.int v374), .val (.int v376), .val (.ref b377), .val (.ref b389), .unset, .unset] [(.ref b403), (.ref b403)])) rfl (by rw [hml]; rfl) (Steps.refl _) (a := b403) (argsL := []) (rest := [(.ref b403)]) (lenOf pd___V rfl) rfl (by show 2 * 0 + _ ≤ _; exact Nat.le_of_eq rfl) (hb hby at_56) (fun _ _ => ⟨rfl, e403, (by decide : 4 + 4 ≤ _), (by decide : 13 + 32 ≤ _)⟩)
  dsimp only [Pt.U, Pt.locs, Pt.cells, Pt.slots] at X416 l416 y416 z416 st416 hQ416
  subst l416 y416 z416
  obtain ⟨rfl, N416q, Kf, bk, bn, bb, kk, kn, kb, P1, zk, zn, zb, S0⟩ := hQ416
  have N417 := Fr.app N398 N416q
  have f418 := f407.keep Kf (ninS ne405 nin0)
  have f419 := f408.keep Kf
  have f420 := A403.keep Kf
  have Zn421 := Nat.le_trans Zn409 Kf.1
  have Od422 := Od410.keep Kf (allS g404 all0)
  obtain ⟨cq423, kq423, q423a, q423b, q423c⟩ := isOf hZ rfl f420
  obtain ⟨_, _, ⟨T423, L423, k423, n423⟩, -, X423, ⟨Lc423, hQ423, l423, y423, z423⟩, st423⟩ := X416.virtualBack hx (y := (⟨"lanternweir/fields/EventFields", "builder", "()Llanternweir/fields/EventFields$Builder;"⟩ : MethodName)) (z := (⟨"lanternweir/fields/EventFields", "builder", "()Llanternweir/fields/EventFields$Builder;"⟩ : MethodName)) hown (mvT hZ (hw _ (List.mem_of_getElem? (i := 53) rfl))) (mvT hZ (hw _ (List.mem_of_getElem? (i := 54) rfl))) (notFace_of_selects (args := #[]) (mvT hZ (hw _ (List.mem_of_getElem? (i := 56) rfl)))) (mvT hZ (hw _ (List.mem_of_getElem? (i := 56) rfl))) (mvT hZ (hw _ (List.mem_of_getElem? (i := 55) rfl))) (by decide) (backOf (W := 0) (rm9 l Z a0 hw [] b403  T416.heap n0 Zn421 ) hZ (hw _ (List.mem_of_getElem? (i := 57) rfl)) (hw _ (List.mem_of_getElem? (i := 32) rfl)) (by decide) (by decide)) q423a q423c (g := (mkF m 63 #[.val (.int p0), .val (.int p1), .val (.long q2), .second, .val (.int p4), .val (.int v374), .val (.int v376), .val (.ref b377), .val (.ref b389), .val (.ref b403), .unset] [(.ref b403)])) rfl (by rw [hml]; rfl) (Steps.refl _) (argsL := []) (rest := []) (lenOf pd___Llanternweir_fields_EventFields_Builder_ rfl) rfl (by show 2 * 0 + _ ≤ _; exact Nat.le_of_eq rfl) (hb hby at_63) (fun _ _ => ⟨rfl, rfl, (by decide : 8 + 1 ≤ _), (by decide : 45 + 1 ≤ _)⟩)
  dsimp only [Pt.U, Pt.locs, Pt.cells, Pt.slots] at X423 l423 y423 z423 st423 hQ423
  subst l423 y423 z423
  obtain ⟨bu, rfl, N423q, Kb, gbu, zbu, Ebu, Fbu⟩ := hQ423
  have N424 := Fr.app N417 N423q
  obtain ⟨E1, Fk, Fn, Fb, Fs, Vk, Vn, Vb⟩ := S0
  have S1 : own_EF Z T423.heap b403 bk bn bb kk kn kb (0 : Int32) [.null, .null, .null, .null, .null, .null, .null, .null] [.null, .null, .null, .null, .null, .null, .null, .null] [(.long (0 : Int64)), (.long (0 : Int64)), (.long (0 : Int64)), (.long (0 : Int64)), (.long (0 : Int64)), (.long (0 : Int64)), (.long (0 : Int64)), (.long (0 : Int64))] := ⟨E1.keep Kb, Fk.keep Kb nin0, Fn.keep Kb nin0, Fb.keep Kb nin0, Fs.keep Kb nin0, Vk.keep Kb nin0, Vn.keep Kb nin0, Vb.keep Kb nin0⟩
  have f425 := f419.keep Kb
  have f426 := f420.keep Kb
  have Zn427 := Nat.le_trans Zn421 Kb.1
  have Od428 := Od422.keep Kb all0
  have nb1 : bu ≠ b403 := fun q => Nat.lt_irrefl _ (Nat.lt_of_lt_of_le E1.lt (q ▸ zbu))
  have nb2 : bu ≠ bk := fun q => Nat.lt_irrefl _ (Nat.lt_of_lt_of_le Vk.lt (q ▸ zbu))
  have nb3 : bu ≠ bn := fun q => Nat.lt_irrefl _ (Nat.lt_of_lt_of_le Vn.lt (q ▸ zbu))
  have nb4 : bu ≠ bb := fun q => Nat.lt_irrefl _ (Nat.lt_of_lt_of_le Vb.lt (q ▸ zbu))
  obtain ⟨cq429, kq429, q429a, q429b, q429c⟩ := isOf hZ rfl Ebu
  obtain ⟨_, _, ⟨T429, L429, k429, n429⟩, -, X429, ⟨Lc429, hQ429, l429, y429, z429⟩, st429⟩ := X423.virtualBack hx (y := (⟨"lanternweir/fields/EventFields$Builder", "bool", "(Ljava/lang/String;Z)Llanternweir/Fields;"⟩ : MethodName)) (z := (⟨"lanternweir/fields/EventFields$Builder", "bool", "(Ljava/lang/String;Z)Llanternweir/Fields;"⟩ : MethodName)) hown (mvT hZ (hw _ (List.mem_of_getElem? (i := 67) rfl))) (mvT hZ (hw _ (List.mem_of_getElem? (i := 68) rfl))) (notFace_of_selects (args := #[]) (mvT hZ (hw _ (List.mem_of_getElem? (i := 70) rfl)))) (mvT hZ (hw _ (List.mem_of_getElem? (i := 70) rfl))) (mvT hZ (hw _ (List.mem_of_getElem? (i := 69) rfl))) (by decide) (backOf (W := 0) (rm11 l Z a0 hw [] bu b389 v374 b403 kB bk bn bb kk kn kb [.null, .null, .null, .null, .null, .null, .null, .null] [.null, .null, .null, .null, .null, .null, .null, .null] [(.long (0 : Int64)), (.long (0 : Int64)), (.long (0 : Int64)), (.long (0 : Int64)), (.long (0 : Int64)), (.long (0 : Int64)), (.long (0 : Int64)), (.long (0 : Int64))] T423.heap n0 Zn427 S1 P1 (by simp) (by simp) (by simp) EB SB Od428 Fbu f425) hZ (hw _ (List.mem_of_getElem? (i := 71) rfl)) (hw _ (List.mem_of_getElem? (i := 60) rfl)) (by decide) (by decide)) q429a q429c (g := (mkF m 74 #[.val (.int p0), .val (.int p1), .val (.long q2), .second, .val (.int p4), .val (.int v374), .val (.int v376), .val (.ref b377), .val (.ref b389), .val (.ref b403), .val (.ref bu)] [(.int v374), (.ref b389), (.ref bu)])) rfl (by rw [hml]; rfl) (Steps.refl _) (argsL := [(.ref b389), (.int v374)]) (rest := []) (lenOf pd__Ljava_lang_String_Z_Llanternweir_Fields_ rfl) rfl (by show 2 * 0 + _ ≤ _; exact Nat.le_of_eq rfl) (hb hby at_74) (fun _ _ => ⟨rfl, rfl, (by decide : 9 + 0 ≤ _), (by decide : 46 + 0 ≤ _)⟩)
  dsimp only [Pt.U, Pt.locs, Pt.cells, Pt.slots] at X429 l429 y429 z429 st429 hQ429
  subst l429 y429 z429
  obtain ⟨rfl, N429q, Kq429, Sq429⟩ := hQ429
  have N430 := Fr.app N424 N429q
  have f431 := f425.keep Kq429
  have f432 := f426.keep Kq429
  have f433 := Ebu.keep Kq429
  have f434 := Fbu.keep Kq429 (ninS nb1 (ninS nb2 (ninS nb3 (ninS nb4 nin0))))
  have Zn435 := Nat.le_trans Zn427 Kq429.1
  have Od436 := Od428.keep Kq429 (allS g404 (allS P1.2.1 (allS P1.2.2.1 (allS P1.2.2.2.1 all0))))
  obtain ⟨cq437, kq437, q437a, q437b, q437c⟩ := isOf hZ rfl f433
  obtain ⟨_, _, ⟨T437, L437, k437, n437⟩, -, X437, ⟨Lc437, hQ437, l437, y437, z437⟩, st437⟩ := X429.virtualBack hx (y := (⟨"lanternweir/fields/EventFields$Builder", "number", "(Ljava/lang/String;J)Llanternweir/Fields;"⟩ : MethodName)) (z := (⟨"lanternweir/fields/EventFields$Builder", "number", "(Ljava/lang/String;J)Llanternweir/Fields;"⟩ : MethodName)) hown (mvT hZ (hw _ (List.mem_of_getElem? (i := 82) rfl))) (mvT hZ (hw _ (List.mem_of_getElem? (i := 83) rfl))) (notFace_of_selects (args := #[]) (mvT hZ (hw _ (List.mem_of_getElem? (i := 85) rfl)))) (mvT hZ (hw _ (List.mem_of_getElem? (i := 85) rfl))) (mvT hZ (hw _ (List.mem_of_getElem? (i := 84) rfl))) (by decide) (backOf (W := 0) (rm13 l Z a0 hw [] bu b389 q2 b403 kN bk bn bb kk kn kb ([.null, .null, .null, .null, .null, .null, .null, .null].set 0 (.ref kB)) ([.null, .null, .null, .null, .null, .null, .null, .null].set 0 (.ref b389)) ([(.long (0 : Int64)), (.long (0 : Int64)), (.long (0 : Int64)), (.long (0 : Int64)), (.long (0 : Int64)), (.long (0 : Int64)), (.long (0 : Int64)), (.long (0 : Int64))].set 0 (.long (if v374 = (0 : Int32) then (0 : Int64) else (1 : Int64)))) T429.heap n0 Zn435 Sq429 P1 (by simp) (by simp) (by simp) EI SI Od436 f434 f431) hZ (hw _ (List.mem_of_getElem? (i := 86) rfl)) (hw _ (List.mem_of_getElem? (i := 60) rfl)) (by decide) (by decide)) q437a q437c (g := (mkF m 83 #[.val (.int p0), .val (.int p1), .val (.long q2), .second, .val (.int p4), .val (.int v374), .val (.int v376), .val (.ref b377), .val (.ref b389), .val (.ref b403), .val (.ref bu)] [(.long q2), (.ref b389), (.ref bu)])) rfl (by rw [hml]; rfl) (Steps.refl _) (argsL := [(.ref b389), (.long q2)]) (rest := []) (lenOf pd__Ljava_lang_String_J_Llanternweir_Fields_ rfl) rfl (by show 2 * 0 + _ ≤ _; exact Nat.le_of_eq rfl) (hb hby at_83) (fun _ _ => ⟨rfl, rfl, (by decide : 9 + 0 ≤ _), (by decide : 46 + 0 ≤ _)⟩)
  dsimp only [Pt.U, Pt.locs, Pt.cells, Pt.slots] at X437 l437 y437 z437 st437 hQ437
  subst l437 y437 z437
  obtain ⟨rfl, N437q, Kq437, Sq437⟩ := hQ437
  have N438 := Fr.app N430 N437q
  have f439 := f431.keep Kq437
  have f440 := f432.keep Kq437
  have f441 := f433.keep Kq437
  have f442 := f434.keep Kq437 (ninS nb1 (ninS nb2 (ninS nb3 (ninS nb4 nin0))))
  have Zn443 := Nat.le_trans Zn435 Kq437.1
  have Od444 := Od436.keep Kq437 (allS g404 (allS P1.2.1 (allS P1.2.2.1 (allS P1.2.2.2.1 all0))))
  obtain ⟨cq445, kq445, q445a, q445b, q445c⟩ := isOf hZ rfl f441
  obtain ⟨_, _, ⟨T445, L445, k445, n445⟩, -, X445, ⟨Lc445, hQ445, l445, y445, z445⟩, st445⟩ := X437.virtualBack hx (y := (⟨"lanternweir/fields/EventFields$Builder", "bool", "(Z)Llanternweir/Values;"⟩ : MethodName)) (z := (⟨"lanternweir/fields/EventFields$Builder", "bool", "(Z)Llanternweir/Values;"⟩ : MethodName)) hown (mvT hZ (hw _ (List.mem_of_getElem? (i := 89) rfl))) (mvT hZ (hw _ (List.mem_of_getElem? (i := 90) rfl))) (notFace_of_selects (args := #[]) (mvT hZ (hw _ (List.mem_of_getElem? (i := 92) rfl)))) (mvT hZ (hw _ (List.mem_of_getElem? (i := 92) rfl))) (mvT hZ (hw _ (List.mem_of_getElem? (i := 91) rfl))) (by decide) (backOf (W := 0) (rm14 l Z a0 hw [] bu v376 b403 kB bk bn bb kk kn kb (([.null, .null, .null, .null, .null, .null, .null, .null].set 0 (.ref kB)).set 1 (.ref kN)) (([.null, .null, .null, .null, .null, .null, .null, .null].set 0 (.ref b389)).set 1 (.ref b389)) (([(.long (0 : Int64)), (.long (0 : Int64)), (.long (0 : Int64)), (.long (0 : Int64)), (.long (0 : Int64)), (.long (0 : Int64)), (.long (0 : Int64)), (.long (0 : Int64))].set 0 (.long (if v374 = (0 : Int32) then (0 : Int64) else (1 : Int64)))).set 1 (.long q2)) T437.heap n0 Zn443 Sq437 P1 (by simp) (by simp) (by simp) EB SB Od444 f442) hZ (hw _ (List.mem_of_getElem? (i := 93) rfl)) (hw _ (List.mem_of_getElem? (i := 60) rfl)) (by decide) (by decide)) q445a q445c (g := (mkF m 91 #[.val (.int p0), .val (.int p1), .val (.long q2), .second, .val (.int p4), .val (.int v374), .val (.int v376), .val (.ref b377), .val (.ref b389), .val (.ref b403), .val (.ref bu)] [(.int v376), (.ref bu)])) rfl (by rw [hml]; rfl) (Steps.refl _) (argsL := [(.int v376)]) (rest := []) (lenOf pd__Z_Llanternweir_Values_ rfl) rfl (by show 2 * 0 + _ ≤ _; exact Nat.le_of_eq rfl) (hb hby at_91) (fun _ _ => ⟨rfl, rfl, (by decide : 9 + 0 ≤ _), (by decide : 46 + 0 ≤ _)⟩)
  dsimp only [Pt.U, Pt.locs, Pt.cells, Pt.slots] at X445 l445 y445 z445 st445 hQ445
  subst l445 y445 z445
  obtain ⟨rfl, N445q, Kq445, Sq445⟩ := hQ445
  have N446 := Fr.app N438 N445q
  have f447 := f439.keep Kq445
  have f448 := f440.keep Kq445
  have f449 := f441.keep Kq445
  have f450 := f442.keep Kq445 (ninS nb1 (ninS nb2 (ninS nb3 (ninS nb4 nin0))))
  have Zn451 := Nat.le_trans Zn443 Kq445.1
  have Od452 := Od444.keep Kq445 (allS g404 (allS P1.2.1 (allS P1.2.2.1 (allS P1.2.2.2.1 all0))))
  obtain ⟨E9, Fk9, Fn9, Fb9, Fs9, Vk9, Vn9, Vb9⟩ := Sq445
  obtain ⟨cq453, kq453, q453a, q453b, q453c⟩ := isOf hZ rfl E9
  obtain ⟨_, _, ⟨T453, L453, k453, n453⟩, -, X453, ⟨Lc453, hQ453, l453, y453, z453⟩, st453⟩ := X445.virtualBack hx (y := (⟨"lanternweir/fields/EventFields", "size", "()I"⟩ : MethodName)) (z := (⟨"lanternweir/fields/EventFields", "size", "()I"⟩ : MethodName)) hown (mvT hZ (hw _ (List.mem_of_getElem? (i := 94) rfl))) (mvT hZ (hw _ (List.mem_of_getElem? (i := 95) rfl))) (notFace_of_selects (args := #[]) (mvT hZ (hw _ (List.mem_of_getElem? (i := 97) rfl)))) (mvT hZ (hw _ (List.mem_of_getElem? (i := 97) rfl))) (mvT hZ (hw _ (List.mem_of_getElem? (i := 96) rfl))) (by decide) (backOf (W := 0) (rm15 l Z a0 hw [] b403 (3 : Int32) T445.heap n0 Zn451 Fs9) hZ (hw _ (List.mem_of_getElem? (i := 98) rfl)) (hw _ (List.mem_of_getElem? (i := 32) rfl)) (by decide) (by decide)) q453a q453c (g := (mkF m 97 #[.val (.int p0), .val (.int p1), .val (.long q2), .second, .val (.int p4), .val (.int v374), .val (.int v376), .val (.ref b377), .val (.ref b389), .val (.ref b403), .val (.ref bu)] [(.ref b403)])) rfl (by rw [hml]; rfl) (Steps.refl _) (argsL := []) (rest := []) (lenOf pd___I rfl) rfl (by show 2 * 0 + _ ≤ _; exact Nat.le_of_eq rfl) (hb hby at_97) (fun _ _ => ⟨rfl, rfl, (by decide : 9 + 0 ≤ _), (by decide : 46 + 0 ≤ _)⟩)
  dsimp only [Pt.U, Pt.locs, Pt.cells, Pt.slots] at X453 l453 y453 z453 st453 hQ453
  subst l453 y453 z453
  obtain ⟨rfl, N453q, e453⟩ := hQ453
  have N454 := Fr.app N446 N453q
  obtain ⟨cq455, kq455, q455a, q455b, q455c⟩ := isOf hZ e453 E9
  obtain ⟨_, _, ⟨T455, L455, k455, n455⟩, -, X455, ⟨Lc455, hQ455, l455, y455, z455⟩, st455⟩ := X453.virtualBack hx (y := (⟨"lanternweir/fields/EventFields", "booleanValue", "(I)Z"⟩ : MethodName)) (z := (⟨"lanternweir/fields/EventFields", "booleanValue", "(I)Z"⟩ : MethodName)) hown (mvT hZ (hw _ (List.mem_of_getElem? (i := 99) rfl))) (mvT hZ (hw _ (List.mem_of_getElem? (i := 100) rfl))) (notFace_of_selects (args := #[]) (mvT hZ (hw _ (List.mem_of_getElem? (i := 102) rfl)))) (mvT hZ (hw _ (List.mem_of_getElem? (i := 102) rfl))) (mvT hZ (hw _ (List.mem_of_getElem? (i := 101) rfl))) (by decide) (backOf (W := 0) (rm16_0 l Z a0 hw [] b403 bb kb ((([(.long (0 : Int64)), (.long (0 : Int64)), (.long (0 : Int64)), (.long (0 : Int64)), (.long (0 : Int64)), (.long (0 : Int64)), (.long (0 : Int64)), (.long (0 : Int64))].set 0 (.long (if v374 = (0 : Int32) then (0 : Int64) else (1 : Int64)))).set 1 (.long q2)).set 2 (.long (if v376 = (0 : Int32) then (0 : Int64) else (1 : Int64)))) (if v374 = (0 : Int32) then (0 : Int64) else (1 : Int64)) T445.heap n0 Zn451 Fb9 Vb9 rfl) hZ (hw _ (List.mem_of_getElem? (i := 103) rfl)) (hw _ (List.mem_of_getElem? (i := 32) rfl)) (by decide) (by decide)) q455a q455c (g := (mkF m 107 #[.val (.int p0), .val (.int p1), .val (.long q2), .second, .val (.int p4), .val (.int v374), .val (.int v376), .val (.ref b377), .val (.ref b389), .val (.ref b403), .val (.ref bu)] [(.int (0 : Int32)), (.ref b403)])) rfl (by rw [hml]; rfl) (Steps.refl _) (argsL := [(.int (0 : Int32))]) (rest := []) (lenOf pd__I_Z rfl) rfl (by show 2 * 0 + _ ≤ _; exact Nat.le_of_eq rfl) (hb hby at_107) (fun _ _ => ⟨rfl, e453, (by decide : 9 + 0 ≤ _), (by decide : 46 + 0 ≤ _)⟩)
  dsimp only [Pt.U, Pt.locs, Pt.cells, Pt.slots] at X455 l455 y455 z455 st455 hQ455
  subst l455 y455 z455
  obtain ⟨rfl, N455q, e455⟩ := hQ455
  have N456 := Fr.app N454 N455q
  obtain ⟨cq457, kq457, q457a, q457b, q457c⟩ := isOf hZ e455 E9
  obtain ⟨_, _, ⟨T457, L457, k457, n457⟩, -, X457, ⟨Lc457, hQ457, l457, y457, z457⟩, st457⟩ := X455.virtualBack hx (y := (⟨"lanternweir/fields/EventFields", "booleanValue", "(I)Z"⟩ : MethodName)) (z := (⟨"lanternweir/fields/EventFields", "booleanValue", "(I)Z"⟩ : MethodName)) hown (mvT hZ (hw _ (List.mem_of_getElem? (i := 99) rfl))) (mvT hZ (hw _ (List.mem_of_getElem? (i := 100) rfl))) (notFace_of_selects (args := #[]) (mvT hZ (hw _ (List.mem_of_getElem? (i := 102) rfl)))) (mvT hZ (hw _ (List.mem_of_getElem? (i := 102) rfl))) (mvT hZ (hw _ (List.mem_of_getElem? (i := 101) rfl))) (by decide) (backOf (W := 0) (rm16_2 l Z a0 hw [] b403 bb kb ((([(.long (0 : Int64)), (.long (0 : Int64)), (.long (0 : Int64)), (.long (0 : Int64)), (.long (0 : Int64)), (.long (0 : Int64)), (.long (0 : Int64)), (.long (0 : Int64))].set 0 (.long (if v374 = (0 : Int32) then (0 : Int64) else (1 : Int64)))).set 1 (.long q2)).set 2 (.long (if v376 = (0 : Int32) then (0 : Int64) else (1 : Int64)))) (if v376 = (0 : Int32) then (0 : Int64) else (1 : Int64)) T445.heap n0 Zn451 Fb9 Vb9 rfl) hZ (hw _ (List.mem_of_getElem? (i := 103) rfl)) (hw _ (List.mem_of_getElem? (i := 32) rfl)) (by decide) (by decide)) q457a q457c (g := (mkF m 118 #[.val (.int p0), .val (.int p1), .val (.long q2), .second, .val (.int p4), .val (.int v374), .val (.int v376), .val (.ref b377), .val (.ref b389), .val (.ref b403), .val (.ref bu)] [(.int (2 : Int32)), (.ref b403)])) rfl (by rw [hml]; rfl) (Steps.refl _) (argsL := [(.int (2 : Int32))]) (rest := []) (lenOf pd__I_Z rfl) rfl (by show 2 * 0 + _ ≤ _; exact Nat.le_of_eq rfl) (hb hby at_118) (fun _ _ => ⟨rfl, e455, (by decide : 9 + 0 ≤ _), (by decide : 46 + 0 ≤ _)⟩)
  dsimp only [Pt.U, Pt.locs, Pt.cells, Pt.slots] at X457 l457 y457 z457 st457 hQ457
  subst l457 y457 z457
  obtain ⟨rfl, N457q, e457⟩ := hQ457
  have N458 := Fr.app N456 N457q
  obtain ⟨fs, hr, hrun, hended, hW, hsame⟩ := X457.leave (v := some (.int (1 : Int32))) (fun h => by rw [Bd.returns] at h; cases h)
  refine ⟨_, _, pre0 _ ?_, hrun, hended, _, _, rfl, ?_, ⟨_, rfl⟩, hW, hsame.mono (by decide) (by decide)⟩
  · show Steps p.tables e below (s₁.setTop (mkF m 0 #[.val (.int p0), .val (.int p1), .val (.long q2), .second, .val (.int p4), .unset, .unset, .unset, .unset, .unset, .unset] [])) _
    refine XS.iloadN X0.here hx rfl (hb hby at_0) rfl ?_
    show Steps p.tables e below (s₁.setTop (mkF m 1 #[.val (.int p0), .val (.int p1), .val (.long q2), .second, .val (.int p4), .unset, .unset, .unset, .unset, .unset, .unset] [(.int p0)])) _
    refine XS.iconst X0.here hx rfl (hb hby at_1) ?_
    show Steps p.tables e below (s₁.setTop (mkF m 2 #[.val (.int p0), .val (.int p1), .val (.long q2), .second, .val (.int p4), .unset, .unset, .unset, .unset, .unset, .unset] [(.int (1 : Int32)), (.int p0)])) _
    refine XS.iand X0.here hx rfl (hb hby at_2) rfl ?_
    refine joinS (B := s₁.setTop (mkF m 11 #[.val (.int p0), .val (.int p1), .val (.long q2), .second, .val (.int p4), .unset, .unset, .unset, .unset, .unset, .unset] [(.int v374)])) (fun kt => ?_) ?_
    · by_cases hc373 : (p0 &&& (1 : Int32)) = (0 : Int32)
      · rw [show v374 = (0 : Int32) from by rw [hv374, if_pos hc373]] at kt
        show Steps p.tables e below (s₁.setTop (mkF m 3 #[.val (.int p0), .val (.int p1), .val (.long q2), .second, .val (.int p4), .unset, .unset, .unset, .unset, .unset, .unset] [(.int (p0 &&& (1 : Int32)))])) _
        refine XS.ifYes X0.here hx rfl (pc0 := 3) (pc' := 10) rfl (hb hby at_3) rfl ((if0 _ _).trans (teq hc373).1) (by decide) (by decide) ?_
        show Steps p.tables e below (s₁.setTop (mkF m 10 #[.val (.int p0), .val (.int p1), .val (.long q2), .second, .val (.int p4), .unset, .unset, .unset, .unset, .unset, .unset] [])) _
        refine XS.iconst X0.here hx rfl (hb hby at_10) ?_
        exact kt
      · rw [show v374 = (1 : Int32) from by rw [hv374, if_neg hc373]] at kt
        show Steps p.tables e below (s₁.setTop (mkF m 3 #[.val (.int p0), .val (.int p1), .val (.long q2), .second, .val (.int p4), .unset, .unset, .unset, .unset, .unset, .unset] [(.int (p0 &&& (1 : Int32)))])) _
        refine XS.ifNo X0.here hx rfl (hb hby at_3) rfl ((if0 _ _).trans (feq hc373).1) ?_
        show Steps p.tables e below (s₁.setTop (mkF m 6 #[.val (.int p0), .val (.int p1), .val (.long q2), .second, .val (.int p4), .unset, .unset, .unset, .unset, .unset, .unset] [])) _
        refine XS.iconst X0.here hx rfl (hb hby at_6) ?_
        show Steps p.tables e below (s₁.setTop (mkF m 7 #[.val (.int p0), .val (.int p1), .val (.long q2), .second, .val (.int p4), .unset, .unset, .unset, .unset, .unset, .unset] [(.int (1 : Int32))])) _
        refine XS.goto X0.here hx rfl (pc0 := 7) (pc' := 11) rfl (hb hby at_7) (by decide) (by decide) ?_
        exact kt
    show Steps p.tables e below (s₁.setTop (mkF m 11 #[.val (.int p0), .val (.int p1), .val (.long q2), .second, .val (.int p4), .unset, .unset, .unset, .unset, .unset, .unset] [(.int v374)])) _
    refine XS.istore X0.here hx rfl (hb hby at_11) rfl (l' := #[.val (.int p0), .val (.int p1), .val (.long q2), .second, .val (.int p4), .val (.int v374), .unset, .unset, .unset, .unset, .unset]) rfl ?_
    show Steps p.tables e below (s₁.setTop (mkF m 13 #[.val (.int p0), .val (.int p1), .val (.long q2), .second, .val (.int p4), .val (.int v374), .unset, .unset, .unset, .unset, .unset] [])) _
    refine XS.iloadN X0.here hx rfl (hb hby at_13) rfl ?_
    show Steps p.tables e below (s₁.setTop (mkF m 14 #[.val (.int p0), .val (.int p1), .val (.long q2), .second, .val (.int p4), .val (.int v374), .unset, .unset, .unset, .unset, .unset] [(.int p1)])) _
    refine XS.iconst X0.here hx rfl (hb hby at_14) ?_
    show Steps p.tables e below (s₁.setTop (mkF m 15 #[.val (.int p0), .val (.int p1), .val (.long q2), .second, .val (.int p4), .val (.int v374), .unset, .unset, .unset, .unset, .unset] [(.int (1 : Int32)), (.int p1)])) _
    refine XS.iand X0.here hx rfl (hb hby at_15) rfl ?_
    refine joinS (B := s₁.setTop (mkF m 24 #[.val (.int p0), .val (.int p1), .val (.long q2), .second, .val (.int p4), .val (.int v374), .unset, .unset, .unset, .unset, .unset] [(.int v376)])) (fun kt => ?_) ?_
    · by_cases hc375 : (p1 &&& (1 : Int32)) = (0 : Int32)
      · rw [show v376 = (0 : Int32) from by rw [hv376, if_pos hc375]] at kt
        show Steps p.tables e below (s₁.setTop (mkF m 16 #[.val (.int p0), .val (.int p1), .val (.long q2), .second, .val (.int p4), .val (.int v374), .unset, .unset, .unset, .unset, .unset] [(.int (p1 &&& (1 : Int32)))])) _
        refine XS.ifYes X0.here hx rfl (pc0 := 16) (pc' := 23) rfl (hb hby at_16) rfl ((if0 _ _).trans (teq hc375).1) (by decide) (by decide) ?_
        show Steps p.tables e below (s₁.setTop (mkF m 23 #[.val (.int p0), .val (.int p1), .val (.long q2), .second, .val (.int p4), .val (.int v374), .unset, .unset, .unset, .unset, .unset] [])) _
        refine XS.iconst X0.here hx rfl (hb hby at_23) ?_
        exact kt
      · rw [show v376 = (1 : Int32) from by rw [hv376, if_neg hc375]] at kt
        show Steps p.tables e below (s₁.setTop (mkF m 16 #[.val (.int p0), .val (.int p1), .val (.long q2), .second, .val (.int p4), .val (.int v374), .unset, .unset, .unset, .unset, .unset] [(.int (p1 &&& (1 : Int32)))])) _
        refine XS.ifNo X0.here hx rfl (hb hby at_16) rfl ((if0 _ _).trans (feq hc375).1) ?_
        show Steps p.tables e below (s₁.setTop (mkF m 19 #[.val (.int p0), .val (.int p1), .val (.long q2), .second, .val (.int p4), .val (.int v374), .unset, .unset, .unset, .unset, .unset] [])) _
        refine XS.iconst X0.here hx rfl (hb hby at_19) ?_
        show Steps p.tables e below (s₁.setTop (mkF m 20 #[.val (.int p0), .val (.int p1), .val (.long q2), .second, .val (.int p4), .val (.int v374), .unset, .unset, .unset, .unset, .unset] [(.int (1 : Int32))])) _
        refine XS.goto X0.here hx rfl (pc0 := 20) (pc' := 24) rfl (hb hby at_20) (by decide) (by decide) ?_
        exact kt
    show Steps p.tables e below (s₁.setTop (mkF m 24 #[.val (.int p0), .val (.int p1), .val (.long q2), .second, .val (.int p4), .val (.int v374), .unset, .unset, .unset, .unset, .unset] [(.int v376)])) _
    refine XS.istore X0.here hx rfl (hb hby at_24) rfl (l' := #[.val (.int p0), .val (.int p1), .val (.long q2), .second, .val (.int p4), .val (.int v374), .val (.int v376), .unset, .unset, .unset, .unset]) rfl ?_
    show Steps p.tables e below (s₁.setTop (mkF m 26 #[.val (.int p0), .val (.int p1), .val (.long q2), .second, .val (.int p4), .val (.int v374), .val (.int v376), .unset, .unset, .unset, .unset] [])) _
    refine XS.iconst X0.here hx rfl (hb hby at_26) ?_
    show Steps p.tables e below (s₁.setTop (mkF m 27 #[.val (.int p0), .val (.int p1), .val (.long q2), .second, .val (.int p4), .val (.int v374), .val (.int v376), .unset, .unset, .unset, .unset] [(.int (1 : Int32))])) _
    refine st377 _ ?_
    show Steps p.tables e below (T377.setTop (mkF m 29 #[.val (.int p0), .val (.int p1), .val (.long q2), .second, .val (.int p4), .val (.int v374), .val (.int v376), .unset, .unset, .unset, .unset] [(.ref b377)])) _
    refine XS.dup X377.here hx rfl (hb hby at_29) rfl rfl ?_
    show Steps p.tables e below (T377.setTop (mkF m 30 #[.val (.int p0), .val (.int p1), .val (.long q2), .second, .val (.int p4), .val (.int v374), .val (.int v376), .unset, .unset, .unset, .unset] [(.ref b377), (.ref b377)])) _
    refine XS.iconst X377.here hx rfl (hb hby at_30) ?_
    show Steps p.tables e below (T377.setTop (mkF m 31 #[.val (.int p0), .val (.int p1), .val (.long q2), .second, .val (.int p4), .val (.int v374), .val (.int v376), .unset, .unset, .unset, .unset] [(.int (0 : Int32)), (.ref b377), (.ref b377)])) _
    refine XS.iload X377.here hx rfl (hb hby at_31) rfl ?_
    show Steps p.tables e below (T377.setTop (mkF m 33 #[.val (.int p0), .val (.int p1), .val (.long q2), .second, .val (.int p4), .val (.int v374), .val (.int v376), .unset, .unset, .unset, .unset] [(.int p4), (.int (0 : Int32)), (.ref b377), (.ref b377)])) _
    refine XS.sipush X377.here hx rfl (hb hby at_33) ?_
    show Steps p.tables e below (T377.setTop (mkF m 36 #[.val (.int p0), .val (.int p1), .val (.long q2), .second, .val (.int p4), .val (.int v374), .val (.int v376), .unset, .unset, .unset, .unset] [(.int (255 : Int32)), (.int p4), (.int (0 : Int32)), (.ref b377), (.ref b377)])) _
    refine XS.iand X377.here hx rfl (hb hby at_36) rfl ?_
    show Steps p.tables e below (T377.setTop (mkF m 37 #[.val (.int p0), .val (.int p1), .val (.long q2), .second, .val (.int p4), .val (.int v374), .val (.int v376), .unset, .unset, .unset, .unset] [(.int (p4 &&& (255 : Int32))), (.int (0 : Int32)), (.ref b377), (.ref b377)])) _
    refine XS.i2c X377.here hx rfl (hb hby at_37) rfl ?_
    show Steps p.tables e below (T377.setTop (mkF m 38 #[.val (.int p0), .val (.int p1), .val (.long q2), .second, .val (.int p4), .val (.int v374), .val (.int v376), .unset, .unset, .unset, .unset] [(.int (p4 &&& (255 : Int32)).toUInt32.toUInt16.toUInt32.toInt32), (.int (0 : Int32)), (.ref b377), (.ref b377)])) _
    refine st383 _ ?_
    show Steps p.tables e below (T383.setTop (mkF m 39 #[.val (.int p0), .val (.int p1), .val (.long q2), .second, .val (.int p4), .val (.int v374), .val (.int v376), .unset, .unset, .unset, .unset] [(.ref b377)])) _
    refine XS.astore X383.here hx rfl (hb hby at_39) rfl rfl (l' := #[.val (.int p0), .val (.int p1), .val (.long q2), .second, .val (.int p4), .val (.int v374), .val (.int v376), .val (.ref b377), .unset, .unset, .unset]) rfl ?_
    show Steps p.tables e below (T383.setTop (mkF m 41 #[.val (.int p0), .val (.int p1), .val (.long q2), .second, .val (.int p4), .val (.int v374), .val (.int v376), .val (.ref b377), .unset, .unset, .unset] [])) _
    refine st389 _ ?_
    show Steps p.tables e below (T389.setTop (mkF m 44 #[.val (.int p0), .val (.int p1), .val (.long q2), .second, .val (.int p4), .val (.int v374), .val (.int v376), .val (.ref b377), .unset, .unset, .unset] [(.ref b389)])) _
    refine XS.dup X389.here hx rfl (hb hby at_44) rfl rfl ?_
    show Steps p.tables e below (T389.setTop (mkF m 45 #[.val (.int p0), .val (.int p1), .val (.long q2), .second, .val (.int p4), .val (.int v374), .val (.int v376), .val (.ref b377), .unset, .unset, .unset] [(.ref b389), (.ref b389)])) _
    refine XS.aload X389.here hx rfl (hb hby at_45) rfl rfl ?_
    show Steps p.tables e below (T389.setTop (mkF m 47 #[.val (.int p0), .val (.int p1), .val (.long q2), .second, .val (.int p4), .val (.int v374), .val (.int v376), .val (.ref b377), .unset, .unset, .unset] [(.ref b377), (.ref b389), (.ref b389)])) _
    refine st397.trans ?_
    show Steps p.tables e below (T397.setTop (mkF m 50 #[.val (.int p0), .val (.int p1), .val (.long q2), .second, .val (.int p4), .val (.int v374), .val (.int v376), .val (.ref b377), .unset, .unset, .unset] [(.ref b389)])) _
    refine XS.astore X397.here hx rfl (hb hby at_50) rfl rfl (l' := #[.val (.int p0), .val (.int p1), .val (.long q2), .second, .val (.int p4), .val (.int v374), .val (.int v376), .val (.ref b377), .val (.ref b389), .unset, .unset]) rfl ?_
    show Steps p.tables e below (T397.setTop (mkF m 52 #[.val (.int p0), .val (.int p1), .val (.long q2), .second, .val (.int p4), .val (.int v374), .val (.int v376), .val (.ref b377), .val (.ref b389), .unset, .unset] [])) _
    refine st403 _ ?_
    show Steps p.tables e below (T403.setTop (mkF m 55 #[.val (.int p0), .val (.int p1), .val (.long q2), .second, .val (.int p4), .val (.int v374), .val (.int v376), .val (.ref b377), .val (.ref b389), .unset, .unset] [(.ref b403)])) _
    refine XS.dup X403.here hx rfl (hb hby at_55) rfl rfl ?_
    show Steps p.tables e below (T403.setTop (mkF m 56 #[.val (.int p0), .val (.int p1), .val (.long q2), .second, .val (.int p4), .val (.int v374), .val (.int v376), .val (.ref b377), .val (.ref b389), .unset, .unset] [(.ref b403), (.ref b403)])) _
    refine st416.trans ?_
    show Steps p.tables e below (T416.setTop (mkF m 59 #[.val (.int p0), .val (.int p1), .val (.long q2), .second, .val (.int p4), .val (.int v374), .val (.int v376), .val (.ref b377), .val (.ref b389), .unset, .unset] [(.ref b403)])) _
    refine XS.astore X416.here hx rfl (hb hby at_59) rfl rfl (l' := #[.val (.int p0), .val (.int p1), .val (.long q2), .second, .val (.int p4), .val (.int v374), .val (.int v376), .val (.ref b377), .val (.ref b389), .val (.ref b403), .unset]) rfl ?_
    show Steps p.tables e below (T416.setTop (mkF m 61 #[.val (.int p0), .val (.int p1), .val (.long q2), .second, .val (.int p4), .val (.int v374), .val (.int v376), .val (.ref b377), .val (.ref b389), .val (.ref b403), .unset] [])) _
    refine XS.aload X416.here hx rfl (hb hby at_61) rfl rfl ?_
    show Steps p.tables e below (T416.setTop (mkF m 63 #[.val (.int p0), .val (.int p1), .val (.long q2), .second, .val (.int p4), .val (.int v374), .val (.int v376), .val (.ref b377), .val (.ref b389), .val (.ref b403), .unset] [(.ref b403)])) _
    refine st423.trans ?_
    show Steps p.tables e below (T423.setTop (mkF m 66 #[.val (.int p0), .val (.int p1), .val (.long q2), .second, .val (.int p4), .val (.int v374), .val (.int v376), .val (.ref b377), .val (.ref b389), .val (.ref b403), .unset] [(.ref bu)])) _
    refine XS.astore X423.here hx rfl (hb hby at_66) rfl rfl (l' := #[.val (.int p0), .val (.int p1), .val (.long q2), .second, .val (.int p4), .val (.int v374), .val (.int v376), .val (.ref b377), .val (.ref b389), .val (.ref b403), .val (.ref bu)]) rfl ?_
    show Steps p.tables e below (T423.setTop (mkF m 68 #[.val (.int p0), .val (.int p1), .val (.long q2), .second, .val (.int p4), .val (.int v374), .val (.int v376), .val (.ref b377), .val (.ref b389), .val (.ref b403), .val (.ref bu)] [])) _
    refine XS.aload X423.here hx rfl (hb hby at_68) rfl rfl ?_
    show Steps p.tables e below (T423.setTop (mkF m 70 #[.val (.int p0), .val (.int p1), .val (.long q2), .second, .val (.int p4), .val (.int v374), .val (.int v376), .val (.ref b377), .val (.ref b389), .val (.ref b403), .val (.ref bu)] [(.ref bu)])) _
    refine XS.aload X423.here hx rfl (hb hby at_70) rfl rfl ?_
    show Steps p.tables e below (T423.setTop (mkF m 72 #[.val (.int p0), .val (.int p1), .val (.long q2), .second, .val (.int p4), .val (.int v374), .val (.int v376), .val (.ref b377), .val (.ref b389), .val (.ref b403), .val (.ref bu)] [(.ref b389), (.ref bu)])) _
    refine XS.iload X423.here hx rfl (hb hby at_72) rfl ?_
    show Steps p.tables e below (T423.setTop (mkF m 74 #[.val (.int p0), .val (.int p1), .val (.long q2), .second, .val (.int p4), .val (.int v374), .val (.int v376), .val (.ref b377), .val (.ref b389), .val (.ref b403), .val (.ref bu)] [(.int v374), (.ref b389), (.ref bu)])) _
    refine st429.trans ?_
    show Steps p.tables e below (T429.setTop (mkF m 77 #[.val (.int p0), .val (.int p1), .val (.long q2), .second, .val (.int p4), .val (.int v374), .val (.int v376), .val (.ref b377), .val (.ref b389), .val (.ref b403), .val (.ref bu)] [(.ref bu)])) _
    refine XS.pop X429.here hx rfl (hb hby at_77) rfl rfl ?_
    show Steps p.tables e below (T429.setTop (mkF m 78 #[.val (.int p0), .val (.int p1), .val (.long q2), .second, .val (.int p4), .val (.int v374), .val (.int v376), .val (.ref b377), .val (.ref b389), .val (.ref b403), .val (.ref bu)] [])) _
    refine XS.aload X429.here hx rfl (hb hby at_78) rfl rfl ?_
    show Steps p.tables e below (T429.setTop (mkF m 80 #[.val (.int p0), .val (.int p1), .val (.long q2), .second, .val (.int p4), .val (.int v374), .val (.int v376), .val (.ref b377), .val (.ref b389), .val (.ref b403), .val (.ref bu)] [(.ref bu)])) _
    refine XS.aload X429.here hx rfl (hb hby at_80) rfl rfl ?_
    show Steps p.tables e below (T429.setTop (mkF m 82 #[.val (.int p0), .val (.int p1), .val (.long q2), .second, .val (.int p4), .val (.int v374), .val (.int v376), .val (.ref b377), .val (.ref b389), .val (.ref b403), .val (.ref bu)] [(.ref b389), (.ref bu)])) _
    refine XS.lloadN X429.here hx rfl (hb hby at_82) rfl ?_
    show Steps p.tables e below (T429.setTop (mkF m 83 #[.val (.int p0), .val (.int p1), .val (.long q2), .second, .val (.int p4), .val (.int v374), .val (.int v376), .val (.ref b377), .val (.ref b389), .val (.ref b403), .val (.ref bu)] [(.long q2), (.ref b389), (.ref bu)])) _
    refine st437.trans ?_
    show Steps p.tables e below (T437.setTop (mkF m 86 #[.val (.int p0), .val (.int p1), .val (.long q2), .second, .val (.int p4), .val (.int v374), .val (.int v376), .val (.ref b377), .val (.ref b389), .val (.ref b403), .val (.ref bu)] [(.ref bu)])) _
    refine XS.pop X437.here hx rfl (hb hby at_86) rfl rfl ?_
    show Steps p.tables e below (T437.setTop (mkF m 87 #[.val (.int p0), .val (.int p1), .val (.long q2), .second, .val (.int p4), .val (.int v374), .val (.int v376), .val (.ref b377), .val (.ref b389), .val (.ref b403), .val (.ref bu)] [])) _
    refine XS.aload X437.here hx rfl (hb hby at_87) rfl rfl ?_
    show Steps p.tables e below (T437.setTop (mkF m 89 #[.val (.int p0), .val (.int p1), .val (.long q2), .second, .val (.int p4), .val (.int v374), .val (.int v376), .val (.ref b377), .val (.ref b389), .val (.ref b403), .val (.ref bu)] [(.ref bu)])) _
    refine XS.iload X437.here hx rfl (hb hby at_89) rfl ?_
    show Steps p.tables e below (T437.setTop (mkF m 91 #[.val (.int p0), .val (.int p1), .val (.long q2), .second, .val (.int p4), .val (.int v374), .val (.int v376), .val (.ref b377), .val (.ref b389), .val (.ref b403), .val (.ref bu)] [(.int v376), (.ref bu)])) _
    refine st445.trans ?_
    show Steps p.tables e below (T445.setTop (mkF m 94 #[.val (.int p0), .val (.int p1), .val (.long q2), .second, .val (.int p4), .val (.int v374), .val (.int v376), .val (.ref b377), .val (.ref b389), .val (.ref b403), .val (.ref bu)] [(.ref bu)])) _
    refine XS.pop X445.here hx rfl (hb hby at_94) rfl rfl ?_
    show Steps p.tables e below (T445.setTop (mkF m 95 #[.val (.int p0), .val (.int p1), .val (.long q2), .second, .val (.int p4), .val (.int v374), .val (.int v376), .val (.ref b377), .val (.ref b389), .val (.ref b403), .val (.ref bu)] [])) _
    refine XS.aload X445.here hx rfl (hb hby at_95) rfl rfl ?_
    show Steps p.tables e below (T445.setTop (mkF m 97 #[.val (.int p0), .val (.int p1), .val (.long q2), .second, .val (.int p4), .val (.int v374), .val (.int v376), .val (.ref b377), .val (.ref b389), .val (.ref b403), .val (.ref bu)] [(.ref b403)])) _
    refine st453.trans ?_
    show Steps p.tables e below (T453.setTop (mkF m 100 #[.val (.int p0), .val (.int p1), .val (.long q2), .second, .val (.int p4), .val (.int v374), .val (.int v376), .val (.ref b377), .val (.ref b389), .val (.ref b403), .val (.ref bu)] [(.int (3 : Int32))])) _
    refine XS.iconst X453.here hx rfl (hb hby at_100) ?_
    show Steps p.tables e below (T453.setTop (mkF m 101 #[.val (.int p0), .val (.int p1), .val (.long q2), .second, .val (.int p4), .val (.int v374), .val (.int v376), .val (.ref b377), .val (.ref b389), .val (.ref b403), .val (.ref bu)] [(.int (3 : Int32)), (.int (3 : Int32))])) _
    refine XS.icmpNo X453.here hx rfl (hb hby at_101) rfl (teq rfl).2 ?_
    show Steps p.tables e below (T453.setTop (mkF m 104 #[.val (.int p0), .val (.int p1), .val (.long q2), .second, .val (.int p4), .val (.int v374), .val (.int v376), .val (.ref b377), .val (.ref b389), .val (.ref b403), .val (.ref bu)] [])) _
    refine XS.aload X453.here hx rfl (hb hby at_104) rfl rfl ?_
    show Steps p.tables e below (T453.setTop (mkF m 106 #[.val (.int p0), .val (.int p1), .val (.long q2), .second, .val (.int p4), .val (.int v374), .val (.int v376), .val (.ref b377), .val (.ref b389), .val (.ref b403), .val (.ref bu)] [(.ref b403)])) _
    refine XS.iconst X453.here hx rfl (hb hby at_106) ?_
    show Steps p.tables e below (T453.setTop (mkF m 107 #[.val (.int p0), .val (.int p1), .val (.long q2), .second, .val (.int p4), .val (.int v374), .val (.int v376), .val (.ref b377), .val (.ref b389), .val (.ref b403), .val (.ref bu)] [(.int (0 : Int32)), (.ref b403)])) _
    refine st455.trans ?_
    show Steps p.tables e below (T455.setTop (mkF m 110 #[.val (.int p0), .val (.int p1), .val (.long q2), .second, .val (.int p4), .val (.int v374), .val (.int v376), .val (.ref b377), .val (.ref b389), .val (.ref b403), .val (.ref bu)] [(.int (if (if v374 = (0 : Int32) then (0 : Int64) else (1 : Int64)) = (0 : Int64) then (0 : Int32) else (1 : Int32)))])) _
    refine XS.iload X455.here hx rfl (hb hby at_110) rfl ?_
    show Steps p.tables e below (T455.setTop (mkF m 112 #[.val (.int p0), .val (.int p1), .val (.long q2), .second, .val (.int p4), .val (.int v374), .val (.int v376), .val (.ref b377), .val (.ref b389), .val (.ref b403), .val (.ref bu)] [(.int v374), (.int (if (if v374 = (0 : Int32) then (0 : Int64) else (1 : Int64)) = (0 : Int64) then (0 : Int32) else (1 : Int32)))])) _
    refine XS.icmpNo X455.here hx rfl (hb hby at_112) rfl (teq (own_back hv374)).2 ?_
    show Steps p.tables e below (T455.setTop (mkF m 115 #[.val (.int p0), .val (.int p1), .val (.long q2), .second, .val (.int p4), .val (.int v374), .val (.int v376), .val (.ref b377), .val (.ref b389), .val (.ref b403), .val (.ref bu)] [])) _
    refine XS.aload X455.here hx rfl (hb hby at_115) rfl rfl ?_
    show Steps p.tables e below (T455.setTop (mkF m 117 #[.val (.int p0), .val (.int p1), .val (.long q2), .second, .val (.int p4), .val (.int v374), .val (.int v376), .val (.ref b377), .val (.ref b389), .val (.ref b403), .val (.ref bu)] [(.ref b403)])) _
    refine XS.iconst X455.here hx rfl (hb hby at_117) ?_
    show Steps p.tables e below (T455.setTop (mkF m 118 #[.val (.int p0), .val (.int p1), .val (.long q2), .second, .val (.int p4), .val (.int v374), .val (.int v376), .val (.ref b377), .val (.ref b389), .val (.ref b403), .val (.ref bu)] [(.int (2 : Int32)), (.ref b403)])) _
    refine st457.trans ?_
    show Steps p.tables e below (T457.setTop (mkF m 121 #[.val (.int p0), .val (.int p1), .val (.long q2), .second, .val (.int p4), .val (.int v374), .val (.int v376), .val (.ref b377), .val (.ref b389), .val (.ref b403), .val (.ref bu)] [(.int (if (if v376 = (0 : Int32) then (0 : Int64) else (1 : Int64)) = (0 : Int64) then (0 : Int32) else (1 : Int32)))])) _
    refine XS.iload X457.here hx rfl (hb hby at_121) rfl ?_
    show Steps p.tables e below (T457.setTop (mkF m 123 #[.val (.int p0), .val (.int p1), .val (.long q2), .second, .val (.int p4), .val (.int v374), .val (.int v376), .val (.ref b377), .val (.ref b389), .val (.ref b403), .val (.ref bu)] [(.int v376), (.int (if (if v376 = (0 : Int32) then (0 : Int64) else (1 : Int64)) = (0 : Int64) then (0 : Int32) else (1 : Int32)))])) _
    refine XS.icmpNo X457.here hx rfl (hb hby at_123) rfl (teq (own_back hv376)).2 ?_
    show Steps p.tables e below (T457.setTop (mkF m 126 #[.val (.int p0), .val (.int p1), .val (.long q2), .second, .val (.int p4), .val (.int v374), .val (.int v376), .val (.ref b377), .val (.ref b389), .val (.ref b403), .val (.ref bu)] [])) _
    refine XS.iconst X457.here hx rfl (hb hby at_126) ?_
    show Steps p.tables e below (T457.setTop (mkF m 127 #[.val (.int p0), .val (.int p1), .val (.long q2), .second, .val (.int p4), .val (.int v374), .val (.int v376), .val (.ref b377), .val (.ref b389), .val (.ref b403), .val (.ref bu)] [(.int (1 : Int32))])) _
    refine XS.goto X457.here hx rfl (pc0 := 127) (pc' := 131) rfl (hb hby at_127) (by decide) (by decide) ?_
    show Steps p.tables e below (T457.setTop (mkF m 131 #[.val (.int p0), .val (.int p1), .val (.long q2), .second, .val (.int p4), .val (.int v374), .val (.int v376), .val (.ref b377), .val (.ref b389), .val (.ref b403), .val (.ref bu)] [(.int (1 : Int32))])) _
    exact retN X457 hx (t := .boolean) Bd.returns (by simp) (hb hby at_131) hr
  · show Qrm0 Z p0 p1 q2 p4 G1 kB kN h0 n0 _ T457.heap _
    rw [e457]
    exact ⟨rfl, N458⟩
theorem eq_I' {args : Array Value} {first s : State} {o : Option Outcome} {idx : List Nat} {t : Term} {x y : Int32} (ha : t.eval args first o idx s = some (.int x)) : (Cond.eq t (Term.int y)).value args first o s idx = some (decide (x = y)) := by simp [Cond.value, Term.eval, ha]
set_option maxRecDepth 65536 in
set_option maxHeartbeats 40000000 in
theorem comes_1 {Post : Tables → Env → Array Value → State → Outcome → State → Prop} (hpost : ∀ tb e args s v u, (limb_1_1.after args s (.returned v) u = true ∧ limb_1_2.after args s (.returned v) u = true ∧ True) → FrameEnd s (.returned v) u (Jvm.fieldLocs frame_1_writes args s ++ Jvm.arrayLocs frame_1_arrays args s ++ Jvm.staticLocs frame_1_statics s) 32 192 → Post tb e args s (.returned v) u) :
    ArmFor flags0 classFile x code maxLocals ret World_1 tables_1 room_1 Calls_1 rest_1 Pre_1 Post := by
  intro l hfl _ _ p e ha hc hk s m args below hf hA hF happ hP
  obtain ⟨hcalls, hrest, hpre⟩ := hP
  obtain ⟨-, -, -, hnamed, -, -, -, hat⟩ := (Spec.applies_iff hf).mp happ
  obtain ⟨hg, hn⟩ := and_e (Cond.before_iff.mp (show (Jvm.Cond.and given_1 narrow_1).before args s = true from hpre))
  obtain ⟨hcount, hg0⟩ := and_e hg
  obtain ⟨ha0, hg1⟩ := and_e hg0
  obtain ⟨ha1, hg2⟩ := and_e hg1
  obtain ⟨ha2, hg3⟩ := and_e hg2
  have ha3 := hg3
  obtain ⟨w0, w1, w2, w3, rfl⟩ : ∃ w0 w1 w2 w3 : Value, args = #[w0, w1, w2, w3] := by
    have hs : args.size = 4 := by simpa [Cond.value, given_1] using hcount
    obtain ⟨L⟩ := args
    match L, hs with
    | [w0, w1, w2, w3], _ => exact ⟨w0, w1, w2, w3, rfl⟩
  have hw := fun d (hd : d ∈ tables_1) => atoms_spec (ws := Jvm.Cond.code x code maxLocals ret :: tables_1) hat d (List.mem_cons_of_mem _ hd)
  obtain ⟨i0, ei0⟩ := is_v ha0
  obtain rfl : w0 = (.int i0) := Option.some.inj ei0
  obtain ⟨i1, ei1⟩ := is_v ha1
  obtain rfl : w1 = (.int i1) := Option.some.inj ei1
  obtain ⟨i2, ei2⟩ := isL_v ha2
  obtain rfl : w2 = (.long i2) := Option.some.inj ei2
  obtain ⟨i3, ei3⟩ := is_v ha3
  obtain rfl : w3 = (.int i3) := Option.some.inj ei3
  obtain ⟨hsets, hown0⟩ := atoms_of _ (rest_1_c_eq ▸ (show rest_1_c.before _ s = true from hrest))
  obtain ⟨G1, eG1⟩ := is_v (Cond.before_iff.mp (hsets _ (List.mem_of_getElem? (i := 1) rfl)))
  have O2 := Sta.start eG1 (Or.inl (hsets _ (List.mem_of_getElem? (i := 0) rfl)))
  have P5 : ¬ (G1 = (0 : Int32)) := gotF (eq_I' eG1) (not_v (Cond.before_iff.mp (hsets _ (List.mem_of_getElem? (i := 2) rfl))))
  obtain ⟨hnB, hnI⟩ := and_e hn
  obtain ⟨kB, ekB⟩ := exa_v hnB
  obtain ⟨kN, ekN⟩ := exa_v hnI
  have EB := Exa.start ekB hnB
  have EI := Exa.start ekN hnI
  have SB := Sta.start ekB (Or.inr ⟨(hw _ (List.mem_of_getElem? (i := 73) rfl)), (hw _ (List.mem_of_getElem? (i := 74) rfl))⟩)
  have SI := Sta.start ekN (Or.inr ⟨(hw _ (List.mem_of_getElem? (i := 73) rfl)), (hw _ (List.mem_of_getElem? (i := 88) rfl))⟩)
  obtain ⟨n, o, h1, h2, h3, _, L, rfl, ⟨rfl, N⟩, hq⟩ := rm0 l s _ hw tables_1 i0 i1 i2 i3 G1 kB kN s.heap s.heap.size (Nat.le_refl _) O2 P5 SB SI EB EI (Old.start s) p e ha hc hk s m _ below hf ((Spec.applies_iff_loose hf).mp happ).1 ⟨rfl, State.Warmed39.refl s, rfl⟩ trivial
  refine ⟨n, _, h1, h2, h3, hpost _ _ _ _ _ _ ⟨Cond.after_iff.mpr rfl, Cond.after_iff.mpr (eq_i res_at (Term.int_eval (1)) rfl), trivial⟩ ⟨hq.1, hq.2.1, (hq.2.2.sift fun y hy => Or.inr (N y hy)).mono (by decide) (by decide)⟩⟩
theorem main_1_1 : Claimed_1_1 := comes_1 fun _ _ _ _ _ _ h hF => ⟨h.1, hF⟩
theorem main_1_2 : Claimed_1_2 := comes_1 fun _ _ _ _ _ _ h hF => ⟨h.2.1, hF⟩
end Jvm.Pilot.@@N@@
namespace Jvm.Pilot.@@N@@
open Jvm Jvm.ClassFile Sem Op Lib Jvm.Free Jvm.Stand Jvm.Pilot.@@N@@.Jvm.D
/-! MADE BY PROGRAM (witnessworld.py) out of the Statement's table words and the real class files: 29 classes; the members and pool entries that the words name. The judged class is class 1, her method 1. -/
namespace start1
open Jvm.ClassFile
def u (s : String) : CpInfo := .utf8 (stringToUtf16 s)
/-- a pool by its gaps: so many unusable entries, then the entry; so many at the end -/
def gap : Nat → List CpInfo → List CpInfo
  | 0, r => r
  | n + 1, r => .unusable :: gap n r
def poolList (es : List (Nat × CpInfo)) (last : Nat) : List CpInfo := es.foldr (fun e r => gap e.1 (e.2 :: r)) (gap last [])
def pool (es : List (Nat × CpInfo)) (last : Nat) : Array CpInfo := ⟨poolList es last⟩
def fileOf (pool : Array CpInfo) (this : Nat) (attrs : Array Attribute := #[]) (ms : Array MethodInfo := #[]) (fl : Nat := 33) (sup : Nat := 0) (ifs : Array Nat := #[]) (fds : Array FieldInfo := #[]) : ClassFile where
  minorVersion := 0
  majorVersion := 65
  constantPool := pool
  accessFlags := fl
  thisClass := this
  superClass := sup
  interfaces := ifs
  fields := fds
  methods := ms
  attributes := attrs
def plain (name : String) (sup : Option ClassId) : Class where
  name := name
  kind := .ordinary
  loader := none
  accessFlags := 33
  super := sup
  interfaces := #[]
  cf := none
  fields := #[]
  methods := #[]
  instanceTypes := #[]
  staticTypes := #[]
  resolved := #[]
  callSites := []
  init := .initialized
  statics := none
  mirror := none

def pool0 : Array CpInfo := pool [(5, u "<init>"), (0, u "()V"), (1, .class_ 10), (1, u "java/lang/Object")] 113

def k0c0 : Code := { maxStack := 0, maxLocals := 1, code := object_method_1_code, exceptionTable := #[], attributes := #[] }
def k0m0 : Method := { name := "<init>", desc := "()V", sig := { parameters := [], returnType := none }, accessFlags := 1, code := some k0c0 }
/-- java/lang/Object -/
def k0 : Class := { plain "java/lang/Object" none with
  accessFlags := 33
  interfaces := #[]
  cf := some (fileOf pool0 8 #[] #[{ accessFlags := 1, nameIndex := 5, descriptorIndex := 6, attributes := #[] }] 33 0 #[] #[])
  fields := #[]
  methods := #[k0m0]
  instanceTypes := #[]
  staticTypes := #[]
  resolved := Array.replicate 124 none
  statics := none }

def pool1 : Array CpInfo := pool [(2, .class_ 4), (0, .nameAndType 5 6), (0, u "java/lang/Object"), (0, u "<init>"), (0, u "()V"), (0, .class_ 8), (0, u "java/lang/String"), (0, .methodref 7 10), (0, .nameAndType 5 11), (0, u "([C)V"), (0, .class_ 13), (0, u "lanternweir/fields/EventFields"), (0, .methodref 12 3), (0, .methodref 12 16), (0, .nameAndType 17 18), (0, u "builder"), (0, u "()Llanternweir/fields/EventFields$Builder;"), (0, .methodref 20 21), (0, .class_ 22), (0, .nameAndType 23 24), (0, u "lanternweir/fields/EventFields$Builder"), (0, u "bool"), (0, u "(Ljava/lang/String;Z)Llanternweir/Fields;"), (0, .methodref 20 26), (0, .nameAndType 27 28), (0, u "number"), (0, u "(Ljava/lang/String;J)Llanternweir/Fields;"), (0, .methodref 20 30), (0, .nameAndType 23 31), (0, u "(Z)Llanternweir/Values;"), (0, .methodref 12 33), (0, .nameAndType 34 35), (0, u "size"), (0, u "()I"), (0, .methodref 12 37), (0, .nameAndType 38 39), (0, u "booleanValue"), (0, u "(I)Z"), (0, .class_ 41), (0, u "lanternweir/fields/EventFieldsBooleanValuePinLaw"), (2, u "law"), (0, u "(IIJI)Z")] 7

def k1m0 : Method := { name := "<init>", desc := "()V", sig := { parameters := [], returnType := none }, accessFlags := 1, code := none }
def k1c1 : Code := { maxStack := 5, maxLocals := 11, code := code, exceptionTable := #[], attributes := #[] }
def k1m1 : Method := { name := "law", desc := "(IIJI)Z", sig := { parameters := [.int, .int, .long, .int], returnType := some .boolean }, accessFlags := 9, code := some k1c1 }
/-- lanternweir/fields/EventFieldsBooleanValuePinLaw -/
def k1 : Class := { plain "lanternweir/fields/EventFieldsBooleanValuePinLaw" (some 0) with
  accessFlags := 49
  interfaces := #[]
  cf := some (fileOf pool1 40 #[] #[{ accessFlags := 1, nameIndex := 5, descriptorIndex := 6, attributes := #[] }, { accessFlags := 9, nameIndex := 44, descriptorIndex := 45, attributes := #[] }] 49 2 #[] #[])
  fields := #[]
  methods := #[k1m0, k1m1]
  instanceTypes := #[]
  staticTypes := #[]
  resolved := Array.replicate 53 none
  statics := none }

def pool2 : Array CpInfo := pool [(1, .class_ 2), (0, u "java/io/Serializable"), (0, .class_ 4), (0, u "java/lang/Object")] 2

/-- java/io/Serializable -/
def k2 : Class := { plain "java/io/Serializable" (some 0) with
  accessFlags := 1537
  interfaces := #[]
  cf := some (fileOf pool2 1 #[] #[] 1537 3 #[] #[])
  fields := #[]
  methods := #[]
  instanceTypes := #[]
  staticTypes := #[]
  resolved := Array.replicate 7 none
  statics := none }

def pool3 : Array CpInfo := pool [(1, .class_ 2), (0, u "java/lang/Comparable"), (0, .class_ 4), (0, u "java/lang/Object")] 7

/-- java/lang/Comparable -/
def k3 : Class := { plain "java/lang/Comparable" (some 0) with
  accessFlags := 1537
  interfaces := #[]
  cf := some (fileOf pool3 1 #[] #[] 1537 3 #[] #[])
  fields := #[]
  methods := #[]
  instanceTypes := #[]
  staticTypes := #[]
  resolved := Array.replicate 12 none
  statics := none }

def pool4 : Array CpInfo := pool [(2, .class_ 4), (1, u "java/lang/CharSequence"), (42, .class_ 48), (0, u "java/lang/CharSequence$1CodePointIterator"), (10, .class_ 60), (0, u "java/lang/CharSequence$1CharIterator"), (5, .class_ 67), (0, u "java/lang/Object")] 63

/-- java/lang/CharSequence -/
def k4 : Class := { plain "java/lang/CharSequence" (some 0) with
  accessFlags := 1537
  interfaces := #[]
  cf := some (fileOf pool4 2 #[.nestMembers #[47, 59]] #[] 1537 66 #[] #[])
  fields := #[]
  methods := #[]
  instanceTypes := #[]
  staticTypes := #[]
  resolved := Array.replicate 131 none
  statics := none }

def pool5 : Array CpInfo := pool [(1, .class_ 2), (0, u "java/lang/constant/Constable"), (0, .class_ 4), (0, u "java/lang/Object")] 6

/-- java/lang/constant/Constable -/
def k5 : Class := { plain "java/lang/constant/Constable" (some 0) with
  accessFlags := 1537
  interfaces := #[]
  cf := some (fileOf pool5 1 #[] #[] 1537 3 #[] #[])
  fields := #[]
  methods := #[]
  instanceTypes := #[]
  staticTypes := #[]
  resolved := Array.replicate 11 none
  statics := none }

def pool6 : Array CpInfo := pool [(1, .class_ 2), (0, u "java/lang/constant/ConstantDesc"), (0, .class_ 4), (0, u "java/lang/Object")] 32

/-- java/lang/constant/ConstantDesc -/
def k6 : Class := { plain "java/lang/constant/ConstantDesc" (some 0) with
  accessFlags := 1537
  interfaces := #[]
  cf := some (fileOf pool6 1 #[] #[] 1537 3 #[] #[])
  fields := #[]
  methods := #[]
  instanceTypes := #[]
  staticTypes := #[]
  resolved := Array.replicate 37 none
  statics := none }

def pool7 : Array CpInfo := pool [(1, .methodref 2 3), (0, .class_ 4), (0, .nameAndType 5 6), (0, u "java/lang/Object"), (0, u "<init>"), (0, u "()V"), (2, .fieldref 10 11), (0, .class_ 12), (0, .nameAndType 13 14), (0, u "java/lang/String"), (0, u "value"), (0, u "[B"), (0, .fieldref 10 16), (0, .nameAndType 17 18), (0, u "coder"), (0, u "B"), (2, u "hash"), (0, u "I"), (2, u "hashIsZero"), (0, u "Z"), (0, .methodref 10 28), (0, .nameAndType 5 29), (0, u "([CIILjava/lang/Void;)V"), (8, .fieldref 10 39), (0, .nameAndType 40 26), (0, u "COMPACT_STRINGS"), (1, .class_ 44), (1, u "java/lang/StringUTF16"), (0, u "compress"), (1, .methodref 42 48), (0, .nameAndType 49 50), (0, u "coderFromArrayLen"), (0, u "([BI)B"), (126, .methodref 42 178), (0, .nameAndType 45 179), (0, u "([CII)[B"), (395, .class_ 576), (0, u "java/lang/CharSequence"), (22, u "CASE_INSENSITIVE_ORDER"), (0, u "Ljava/util/Comparator;"), (409, u "([C)V"), (90, u "serialPersistentFields"), (0, u "[Ljava/io/ObjectStreamField;"), (0, .class_ 1104), (0, u "java/lang/String$CaseInsensitiveComparator"), (1, .class_ 1107), (0, u "java/io/Serializable"), (0, .class_ 1109), (0, u "java/lang/Comparable"), (0, .class_ 1111), (0, u "java/lang/constant/Constable"), (0, .class_ 1113), (0, u "java/lang/constant/ConstantDesc"), (2, u "serialVersionUID"), (0, u "J"), (3, u "REPL"), (0, u "C"), (2, u "LATIN1"), (1, u "UTF16")] 323

def k7m0 : Method := { name := "<init>", desc := "()V", sig := { parameters := [], returnType := none }, accessFlags := 1, code := none }
def k7c1 : Code := { maxStack := 5, maxLocals := 2, code := jdk_42_method_3_code, exceptionTable := #[], attributes := #[] }
def k7m1 : Method := { name := "<init>", desc := "([C)V", sig := { parameters := [(.array .char)], returnType := none }, accessFlags := 1, code := some k7c1 }
def k7c2 : Code := { maxStack := 4, maxLocals := 6, code := jdk_42_method_149_code, exceptionTable := #[], attributes := #[] }
def k7m2 : Method := { name := "<init>", desc := "([CIILjava/lang/Void;)V", sig := { parameters := [(.array .char), .int, .int, (.object "java/lang/Void")], returnType := none }, accessFlags := 2, code := some k7c2 }
/-- java/lang/String -/
def k7 : Class := { plain "java/lang/String" (some 0) with
  accessFlags := 49
  interfaces := #[2, 3, 4, 5, 6]
  cf := some (fileOf pool7 10 #[.nestMembers #[1103]] #[{ accessFlags := 1, nameIndex := 5, descriptorIndex := 6, attributes := #[] }, { accessFlags := 1, nameIndex := 5, descriptorIndex := 1010, attributes := #[] }, { accessFlags := 2, nameIndex := 5, descriptorIndex := 29, attributes := #[] }] 49 2 #[1106, 1108, 575, 1110, 1112] #[{ accessFlags := 18, nameIndex := 13, descriptorIndex := 14, attributes := #[] }, { accessFlags := 18, nameIndex := 17, descriptorIndex := 18, attributes := #[] }, { accessFlags := 2, nameIndex := 21, descriptorIndex := 22, attributes := #[] }, { accessFlags := 2, nameIndex := 25, descriptorIndex := 26, attributes := #[] }, { accessFlags := 26, nameIndex := 1116, descriptorIndex := 1117, attributes := #[] }, { accessFlags := 24, nameIndex := 40, descriptorIndex := 26, attributes := #[] }, { accessFlags := 26, nameIndex := 1101, descriptorIndex := 1102, attributes := #[] }, { accessFlags := 26, nameIndex := 1121, descriptorIndex := 1122, attributes := #[] }, { accessFlags := 25, nameIndex := 599, descriptorIndex := 600, attributes := #[] }, { accessFlags := 24, nameIndex := 1125, descriptorIndex := 18, attributes := #[] }, { accessFlags := 24, nameIndex := 1127, descriptorIndex := 18, attributes := #[] }])
  fields := #[{ name := "value", type := (.array .byte), accessFlags := 18, slot := 0, constantValue := 0 }, { name := "coder", type := .byte, accessFlags := 18, slot := 1, constantValue := 0 }, { name := "hash", type := .int, accessFlags := 2, slot := 2, constantValue := 0 }, { name := "hashIsZero", type := .boolean, accessFlags := 2, slot := 3, constantValue := 0 }, { name := "serialVersionUID", type := .long, accessFlags := 26, slot := 0, constantValue := 0 }, { name := "COMPACT_STRINGS", type := .boolean, accessFlags := 24, slot := 1, constantValue := 0 }, { name := "serialPersistentFields", type := (.array (.object "java/io/ObjectStreamField")), accessFlags := 26, slot := 2, constantValue := 0 }, { name := "REPL", type := .char, accessFlags := 26, slot := 3, constantValue := 0 }, { name := "CASE_INSENSITIVE_ORDER", type := (.object "java/util/Comparator"), accessFlags := 25, slot := 4, constantValue := 0 }, { name := "LATIN1", type := .byte, accessFlags := 24, slot := 5, constantValue := 0 }, { name := "UTF16", type := .byte, accessFlags := 24, slot := 6, constantValue := 0 }]
  methods := #[k7m0, k7m1, k7m2]
  instanceTypes := #[(.array .byte), .byte, .int, .boolean]
  staticTypes := #[.long, .boolean, (.array (.object "java/io/ObjectStreamField")), .char, (.object "java/util/Comparator"), .byte, .byte]
  resolved := Array.replicate 1451 none
  statics := some 0 }

def pool8 : Array CpInfo := pool [(6, .class_ 8), (1, u "java/lang/Object"), (0, u "<init>"), (0, u "()V"), (1, .class_ 14), (1, u "java/lang/StringUTF16"), (31, u "$assertionsDisabled"), (0, u "Z"), (13, u "HI_BYTE_SHIFT"), (0, u "I"), (2, u "LO_BYTE_SHIFT"), (49, .methodref 12 116), (0, .nameAndType 117 118), (0, u "compress"), (0, u "([CI[BII)I"), (3, u "([CII)[B"), (138, u "coderFromArrayLen"), (0, u "([BI)B"), (106, .class_ 371), (1, u "java/lang/StringUTF16$LinesSpliterator"), (58, u "MAX_LENGTH"), (196, .class_ 628), (0, u "java/lang/StringUTF16$CodePointsSpliterator"), (0, .class_ 630), (0, u "java/lang/StringUTF16$CharsSpliterator")] 4

def k8m0 : Method := { name := "<init>", desc := "()V", sig := { parameters := [], returnType := none }, accessFlags := 0, code := none }
def k8c1 : Code := { maxStack := 2, maxLocals := 2, code := jdk_52_method_15_code, exceptionTable := #[], attributes := #[] }
def k8m1 : Method := { name := "coderFromArrayLen", desc := "([BI)B", sig := { parameters := [(.array .byte), .int], returnType := some .byte }, accessFlags := 8, code := some k8c1 }
def k8c2 : Code := { maxStack := 5, maxLocals := 6, code := jdk_52_method_16_code, exceptionTable := #[], attributes := #[] }
def k8m2 : Method := { name := "compress", desc := "([CII)[B", sig := { parameters := [(.array .char), .int, .int], returnType := some (.array .byte) }, accessFlags := 9, code := some k8c2 }
def k8c3 : Code := { maxStack := 3, maxLocals := 7, code := jdk_52_method_21_code, exceptionTable := #[], attributes := #[] }
def k8m3 : Method := { name := "compress", desc := "([CI[BII)I", sig := { parameters := [(.array .char), .int, (.array .byte), .int, .int], returnType := some .int }, accessFlags := 9, code := some k8c3 }
/-- java/lang/StringUTF16 -/
def k8 : Class := { plain "java/lang/StringUTF16" (some 0) with
  accessFlags := 48
  interfaces := #[]
  cf := some (fileOf pool8 12 #[.nestMembers #[627, 629, 369]] #[{ accessFlags := 0, nameIndex := 9, descriptorIndex := 10, attributes := #[] }, { accessFlags := 8, nameIndex := 261, descriptorIndex := 262, attributes := #[] }, { accessFlags := 9, nameIndex := 117, descriptorIndex := 122, attributes := #[] }, { accessFlags := 9, nameIndex := 117, descriptorIndex := 118, attributes := #[] }] 48 6 #[] #[{ accessFlags := 26, nameIndex := 61, descriptorIndex := 62, attributes := #[] }, { accessFlags := 26, nameIndex := 65, descriptorIndex := 62, attributes := #[] }, { accessFlags := 24, nameIndex := 430, descriptorIndex := 62, attributes := #[] }, { accessFlags := 4120, nameIndex := 46, descriptorIndex := 47, attributes := #[] }])
  fields := #[{ name := "HI_BYTE_SHIFT", type := .int, accessFlags := 26, slot := 0, constantValue := 0 }, { name := "LO_BYTE_SHIFT", type := .int, accessFlags := 26, slot := 1, constantValue := 0 }, { name := "MAX_LENGTH", type := .int, accessFlags := 24, slot := 2, constantValue := 0 }, { name := "$assertionsDisabled", type := .boolean, accessFlags := 4120, slot := 3, constantValue := 0 }]
  methods := #[k8m0, k8m1, k8m2, k8m3]
  instanceTypes := #[]
  staticTypes := #[.int, .int, .int, .boolean]
  resolved := Array.replicate 635 none
  statics := none }

def pool9 : Array CpInfo := pool [(1, .class_ 2), (0, u "lanternweir/fields/EventFields"), (0, .class_ 4), (0, u "lanternweir/fields/EventFields$Kind"), (0, .class_ 6), (0, u "java/lang/String"), (0, .methodref 1 8), (0, .nameAndType 9 10), (0, u "<init>"), (0, u "([Llanternweir/fields/EventFields$Kind;[Ljava/lang/String;[Ljava/lang/String;[J)V"), (0, .methodref 12 13), (0, .class_ 14), (0, .nameAndType 9 15), (0, u "java/lang/Object"), (0, u "()V"), (0, .fieldref 1 17), (0, .nameAndType 18 19), (0, u "kinds"), (0, u "[Llanternweir/fields/EventFields$Kind;"), (0, .fieldref 1 21), (0, .nameAndType 22 23), (0, u "names"), (0, u "[Ljava/lang/String;"), (0, .fieldref 1 25), (0, .nameAndType 26 23), (0, u "strings"), (0, .fieldref 1 28), (0, .nameAndType 29 30), (0, u "bits"), (0, u "[J"), (0, .class_ 32), (0, u "lanternweir/fields/EventFields$Builder"), (0, .methodref 31 34), (0, .nameAndType 9 35), (0, u "(Llanternweir/fields/EventFields;)V"), (0, .fieldref 1 37), (0, .nameAndType 38 39), (0, u "size"), (0, u "I"), (2, u "ownFrom"), (8, u "exception"), (0, u "Ljava/lang/Throwable;"), (43, u "add"), (0, u "(Llanternweir/fields/EventFields$Kind;Ljava/lang/String;J)V"), (19, u "INITIAL_CAPACITY"), (2, u "MOST_KEPT_CAPACITY"), (3, u "builder"), (0, u "()Llanternweir/fields/EventFields$Builder;"), (5, u "()I"), (9, u "booleanValue"), (0, u "(I)Z")] 21

def k9c0 : Code := { maxStack := 5, maxLocals := 1, code := prog_114_method_1_code, exceptionTable := #[], attributes := #[] }
def k9m0 : Method := { name := "<init>", desc := "()V", sig := { parameters := [], returnType := none }, accessFlags := 1, code := some k9c0 }
def k9c1 : Code := { maxStack := 2, maxLocals := 5, code := prog_114_method_2_code, exceptionTable := #[], attributes := #[] }
def k9m1 : Method := { name := "<init>", desc := "([Llanternweir/fields/EventFields$Kind;[Ljava/lang/String;[Ljava/lang/String;[J)V", sig := { parameters := [(.array (.object "lanternweir/fields/EventFields$Kind")), (.array (.object "java/lang/String")), (.array (.object "java/lang/String")), (.array .long)], returnType := none }, accessFlags := 2, code := some k9c1 }
def k9c2 : Code := { maxStack := 3, maxLocals := 1, code := prog_114_method_3_code, exceptionTable := #[], attributes := #[] }
def k9m2 : Method := { name := "builder", desc := "()Llanternweir/fields/EventFields$Builder;", sig := { parameters := [], returnType := some (.object "lanternweir/fields/EventFields$Builder") }, accessFlags := 1, code := some k9c2 }
def k9c3 : Code := { maxStack := 1, maxLocals := 1, code := prog_114_method_7_code, exceptionTable := #[], attributes := #[] }
def k9m3 : Method := { name := "size", desc := "()I", sig := { parameters := [], returnType := some .int }, accessFlags := 1, code := some k9c3 }
def k9c4 : Code := { maxStack := 4, maxLocals := 2, code := prog_114_method_14_code, exceptionTable := #[], attributes := #[] }
def k9m4 : Method := { name := "booleanValue", desc := "(I)Z", sig := { parameters := [.int], returnType := some .boolean }, accessFlags := 0, code := some k9c4 }
def k9c5 : Code := { maxStack := 4, maxLocals := 5, code := prog_114_method_20_code, exceptionTable := #[], attributes := #[] }
def k9m5 : Method := { name := "add", desc := "(Llanternweir/fields/EventFields$Kind;Ljava/lang/String;J)V", sig := { parameters := [(.object "lanternweir/fields/EventFields$Kind"), (.object "java/lang/String"), .long], returnType := none }, accessFlags := 2, code := some k9c5 }
/-- lanternweir/fields/EventFields -/
def k9 : Class := { plain "lanternweir/fields/EventFields" (some 0) with
  accessFlags := 49
  interfaces := #[]
  cf := some (fileOf pool9 1 #[.nestMembers #[31, 3]] #[{ accessFlags := 1, nameIndex := 9, descriptorIndex := 15, attributes := #[] }, { accessFlags := 2, nameIndex := 9, descriptorIndex := 10, attributes := #[] }, { accessFlags := 1, nameIndex := 124, descriptorIndex := 125, attributes := #[] }, { accessFlags := 1, nameIndex := 38, descriptorIndex := 131, attributes := #[] }, { accessFlags := 0, nameIndex := 141, descriptorIndex := 142, attributes := #[] }, { accessFlags := 2, nameIndex := 96, descriptorIndex := 97, attributes := #[] }] 49 12 #[] #[{ accessFlags := 26, nameIndex := 117, descriptorIndex := 39, attributes := #[] }, { accessFlags := 26, nameIndex := 120, descriptorIndex := 39, attributes := #[] }, { accessFlags := 2, nameIndex := 18, descriptorIndex := 19, attributes := #[] }, { accessFlags := 2, nameIndex := 22, descriptorIndex := 23, attributes := #[] }, { accessFlags := 2, nameIndex := 26, descriptorIndex := 23, attributes := #[] }, { accessFlags := 2, nameIndex := 29, descriptorIndex := 30, attributes := #[] }, { accessFlags := 2, nameIndex := 38, descriptorIndex := 39, attributes := #[] }, { accessFlags := 2, nameIndex := 42, descriptorIndex := 39, attributes := #[] }, { accessFlags := 2, nameIndex := 51, descriptorIndex := 52, attributes := #[] }])
  fields := #[{ name := "INITIAL_CAPACITY", type := .int, accessFlags := 26, slot := 0, constantValue := 0 }, { name := "MOST_KEPT_CAPACITY", type := .int, accessFlags := 26, slot := 1, constantValue := 0 }, { name := "kinds", type := (.array (.object "lanternweir/fields/EventFields$Kind")), accessFlags := 2, slot := 0, constantValue := 0 }, { name := "names", type := (.array (.object "java/lang/String")), accessFlags := 2, slot := 1, constantValue := 0 }, { name := "strings", type := (.array (.object "java/lang/String")), accessFlags := 2, slot := 2, constantValue := 0 }, { name := "bits", type := (.array .long), accessFlags := 2, slot := 3, constantValue := 0 }, { name := "size", type := .int, accessFlags := 2, slot := 4, constantValue := 0 }, { name := "ownFrom", type := .int, accessFlags := 2, slot := 5, constantValue := 0 }, { name := "exception", type := (.object "java/lang/Throwable"), accessFlags := 2, slot := 6, constantValue := 0 }]
  methods := #[k9m0, k9m1, k9m2, k9m3, k9m4, k9m5]
  instanceTypes := #[(.array (.object "lanternweir/fields/EventFields$Kind")), (.array (.object "java/lang/String")), (.array (.object "java/lang/String")), (.array .long), .int, .int, (.object "java/lang/Throwable")]
  staticTypes := #[.int, .int]
  resolved := ((Array.replicate 164 none).setIfInBounds 31 (some (.cls 14))).setIfInBounds 33 (some (.method ⟨14, 0⟩))
  statics := none }

def pool10 : Array CpInfo := pool [(2, .class_ 4), (1, u "java/lang/Enum"), (0, u "name"), (0, u "Ljava/lang/String;"), (2, u "ordinal"), (0, u "I"), (1, .class_ 14), (1, u "java/lang/Object"), (4, u "hash"), (86, .class_ 108), (1, u "java/lang/Enum$EnumDesc"), (2, .class_ 112), (0, u "java/lang/constant/Constable"), (0, .class_ 114), (0, u "java/lang/Comparable"), (0, .class_ 116), (0, u "java/io/Serializable")] 87

/-- java/lang/Enum -/
def k10 : Class := { plain "java/lang/Enum" (some 0) with
  accessFlags := 1057
  interfaces := #[5, 3, 2]
  cf := some (fileOf pool10 2 #[.nestMembers #[106]] #[] 1057 12 #[111, 113, 115] #[{ accessFlags := 18, nameIndex := 5, descriptorIndex := 6, attributes := #[] }, { accessFlags := 18, nameIndex := 9, descriptorIndex := 10, attributes := #[] }, { accessFlags := 2, nameIndex := 19, descriptorIndex := 10, attributes := #[] }])
  fields := #[{ name := "name", type := (.object "java/lang/String"), accessFlags := 18, slot := 0, constantValue := 0 }, { name := "ordinal", type := .int, accessFlags := 18, slot := 1, constantValue := 0 }, { name := "hash", type := .int, accessFlags := 2, slot := 2, constantValue := 0 }]
  methods := #[]
  instanceTypes := #[(.object "java/lang/String"), .int, .int]
  staticTypes := #[]
  resolved := Array.replicate 204 none
  statics := none }

def pool11 : Array CpInfo := pool [(1, .class_ 2), (0, u "lanternweir/fields/EventFields$Kind"), (2, u "STRING"), (0, u "Llanternweir/fields/EventFields$Kind;"), (2, u "INTEGER"), (2, u "DECIMAL"), (2, u "FLOAT"), (2, u "NUMBER_TEXT"), (2, u "BOOLEAN"), (2, u "NULL"), (2, u "OBJECT"), (2, u "ARRAY"), (2, u "END_OBJECT"), (2, u "END_ARRAY"), (2, u "$VALUES"), (0, u "[Llanternweir/fields/EventFields$Kind;"), (6, .class_ 49), (1, u "java/lang/Enum"), (34, .class_ 85), (0, u "lanternweir/fields/EventFields")] 2

/-- lanternweir/fields/EventFields$Kind -/
def k11 : Class := { plain "lanternweir/fields/EventFields$Kind" (some 10) with
  accessFlags := 16432
  interfaces := #[]
  cf := some (fileOf pool11 1 #[.nestHost 84] #[] 16432 47 #[] #[{ accessFlags := 16409, nameIndex := 5, descriptorIndex := 6, attributes := #[] }, { accessFlags := 16409, nameIndex := 9, descriptorIndex := 6, attributes := #[] }, { accessFlags := 16409, nameIndex := 12, descriptorIndex := 6, attributes := #[] }, { accessFlags := 16409, nameIndex := 15, descriptorIndex := 6, attributes := #[] }, { accessFlags := 16409, nameIndex := 18, descriptorIndex := 6, attributes := #[] }, { accessFlags := 16409, nameIndex := 21, descriptorIndex := 6, attributes := #[] }, { accessFlags := 16409, nameIndex := 24, descriptorIndex := 6, attributes := #[] }, { accessFlags := 16409, nameIndex := 27, descriptorIndex := 6, attributes := #[] }, { accessFlags := 16409, nameIndex := 30, descriptorIndex := 6, attributes := #[] }, { accessFlags := 16409, nameIndex := 33, descriptorIndex := 6, attributes := #[] }, { accessFlags := 16409, nameIndex := 36, descriptorIndex := 6, attributes := #[] }, { accessFlags := 4122, nameIndex := 39, descriptorIndex := 40, attributes := #[] }])
  fields := #[{ name := "STRING", type := (.object "lanternweir/fields/EventFields$Kind"), accessFlags := 16409, slot := 0, constantValue := 0 }, { name := "INTEGER", type := (.object "lanternweir/fields/EventFields$Kind"), accessFlags := 16409, slot := 1, constantValue := 0 }, { name := "DECIMAL", type := (.object "lanternweir/fields/EventFields$Kind"), accessFlags := 16409, slot := 2, constantValue := 0 }, { name := "FLOAT", type := (.object "lanternweir/fields/EventFields$Kind"), accessFlags := 16409, slot := 3, constantValue := 0 }, { name := "NUMBER_TEXT", type := (.object "lanternweir/fields/EventFields$Kind"), accessFlags := 16409, slot := 4, constantValue := 0 }, { name := "BOOLEAN", type := (.object "lanternweir/fields/EventFields$Kind"), accessFlags := 16409, slot := 5, constantValue := 0 }, { name := "NULL", type := (.object "lanternweir/fields/EventFields$Kind"), accessFlags := 16409, slot := 6, constantValue := 0 }, { name := "OBJECT", type := (.object "lanternweir/fields/EventFields$Kind"), accessFlags := 16409, slot := 7, constantValue := 0 }, { name := "ARRAY", type := (.object "lanternweir/fields/EventFields$Kind"), accessFlags := 16409, slot := 8, constantValue := 0 }, { name := "END_OBJECT", type := (.object "lanternweir/fields/EventFields$Kind"), accessFlags := 16409, slot := 9, constantValue := 0 }, { name := "END_ARRAY", type := (.object "lanternweir/fields/EventFields$Kind"), accessFlags := 16409, slot := 10, constantValue := 0 }, { name := "$VALUES", type := (.array (.object "lanternweir/fields/EventFields$Kind")), accessFlags := 4122, slot := 11, constantValue := 0 }]
  methods := #[]
  instanceTypes := #[(.object "java/lang/String"), .int, .int]
  staticTypes := #[(.object "lanternweir/fields/EventFields$Kind"), (.object "lanternweir/fields/EventFields$Kind"), (.object "lanternweir/fields/EventFields$Kind"), (.object "lanternweir/fields/EventFields$Kind"), (.object "lanternweir/fields/EventFields$Kind"), (.object "lanternweir/fields/EventFields$Kind"), (.object "lanternweir/fields/EventFields$Kind"), (.object "lanternweir/fields/EventFields$Kind"), (.object "lanternweir/fields/EventFields$Kind"), (.object "lanternweir/fields/EventFields$Kind"), (.object "lanternweir/fields/EventFields$Kind"), (.array (.object "lanternweir/fields/EventFields$Kind"))]
  resolved := Array.replicate 88 none
  statics := some 1 }

def pool12 : Array CpInfo := pool [(1, .class_ 2), (0, u "lanternweir/Fields"), (0, .class_ 4), (0, u "java/lang/Object")] 22

/-- lanternweir/Fields -/
def k12 : Class := { plain "lanternweir/Fields" (some 0) with
  accessFlags := 1537
  interfaces := #[]
  cf := some (fileOf pool12 1 #[] #[] 1537 3 #[] #[])
  fields := #[]
  methods := #[]
  instanceTypes := #[]
  staticTypes := #[]
  resolved := Array.replicate 27 none
  statics := none }

def pool13 : Array CpInfo := pool [(1, .class_ 2), (0, u "lanternweir/Values"), (0, .class_ 4), (0, u "java/lang/Object")] 20

/-- lanternweir/Values -/
def k13 : Class := { plain "lanternweir/Values" (some 0) with
  accessFlags := 1537
  interfaces := #[]
  cf := some (fileOf pool13 1 #[] #[] 1537 3 #[] #[])
  fields := #[]
  methods := #[]
  instanceTypes := #[]
  staticTypes := #[]
  resolved := Array.replicate 25 none
  statics := none }

def pool14 : Array CpInfo := pool [(1, .methodref 2 3), (0, .class_ 4), (0, .nameAndType 5 6), (0, u "java/lang/Object"), (0, u "<init>"), (0, u "()V"), (0, .fieldref 8 9), (0, .class_ 10), (0, .nameAndType 11 12), (0, u "lanternweir/fields/EventFields$Builder"), (0, u "fields"), (0, u "Llanternweir/fields/EventFields;"), (1, .class_ 16), (1, u "lanternweir/fields/EventFields$Kind"), (1, u "Llanternweir/fields/EventFields$Kind;"), (1, .class_ 22), (1, u "lanternweir/fields/EventFields"), (2, .fieldref 14 26), (0, .nameAndType 27 18), (0, u "INTEGER"), (0, .methodref 20 29), (0, .nameAndType 30 31), (0, u "add"), (0, u "(Llanternweir/fields/EventFields$Kind;Ljava/lang/String;J)V"), (19, .fieldref 14 52), (0, .nameAndType 53 18), (0, u "BOOLEAN"), (23, .class_ 78), (0, u "lanternweir/Fields"), (0, .class_ 80), (0, u "lanternweir/Values"), (0, u "(Llanternweir/fields/EventFields;)V"), (7, u "number"), (0, u "(Ljava/lang/String;J)Llanternweir/Fields;"), (9, u "bool"), (0, u "(Ljava/lang/String;Z)Llanternweir/Fields;"), (2, u "(Z)Llanternweir/Values;")] 19

def k14c0 : Code := { maxStack := 2, maxLocals := 2, code := prog_115_method_1_code, exceptionTable := #[], attributes := #[] }
def k14m0 : Method := { name := "<init>", desc := "(Llanternweir/fields/EventFields;)V", sig := { parameters := [(.object "lanternweir/fields/EventFields")], returnType := none }, accessFlags := 2, code := some k14c0 }
def k14c1 : Code := { maxStack := 5, maxLocals := 4, code := prog_115_method_5_code, exceptionTable := #[], attributes := #[] }
def k14m1 : Method := { name := "number", desc := "(Ljava/lang/String;J)Llanternweir/Fields;", sig := { parameters := [(.object "java/lang/String"), .long], returnType := some (.object "lanternweir/Fields") }, accessFlags := 1, code := some k14c1 }
def k14c2 : Code := { maxStack := 5, maxLocals := 3, code := prog_115_method_15_code, exceptionTable := #[], attributes := #[] }
def k14m2 : Method := { name := "bool", desc := "(Ljava/lang/String;Z)Llanternweir/Fields;", sig := { parameters := [(.object "java/lang/String"), .boolean], returnType := some (.object "lanternweir/Fields") }, accessFlags := 1, code := some k14c2 }
def k14c3 : Code := { maxStack := 5, maxLocals := 2, code := prog_115_method_16_code, exceptionTable := #[], attributes := #[] }
def k14m3 : Method := { name := "bool", desc := "(Z)Llanternweir/Values;", sig := { parameters := [.boolean], returnType := some (.object "lanternweir/Values") }, accessFlags := 1, code := some k14c3 }
/-- lanternweir/fields/EventFields$Builder -/
def k14 : Class := { plain "lanternweir/fields/EventFields$Builder" (some 0) with
  accessFlags := 49
  interfaces := #[12, 13]
  cf := some (fileOf pool14 8 #[.nestHost 20] #[{ accessFlags := 2, nameIndex := 5, descriptorIndex := 81, attributes := #[] }, { accessFlags := 1, nameIndex := 89, descriptorIndex := 90, attributes := #[] }, { accessFlags := 1, nameIndex := 100, descriptorIndex := 101, attributes := #[] }, { accessFlags := 1, nameIndex := 100, descriptorIndex := 104, attributes := #[] }] 49 2 #[77, 79] #[{ accessFlags := 2, nameIndex := 11, descriptorIndex := 12, attributes := #[] }])
  fields := #[{ name := "fields", type := (.object "lanternweir/fields/EventFields"), accessFlags := 2, slot := 0, constantValue := 0 }]
  methods := #[k14m0, k14m1, k14m2, k14m3]
  instanceTypes := #[(.object "lanternweir/fields/EventFields")]
  staticTypes := #[]
  resolved := Array.replicate 124 none
  statics := none }

def pool15 : Array CpInfo := pool [(4, .class_ 6), (1, u "java/lang/Object"), (0, u "<init>"), (0, u "()V"), (5, .class_ 16), (1, u "java/lang/StringLatin1"), (104, u "$assertionsDisabled"), (0, u "Z"), (98, .class_ 223), (1, u "java/lang/StringLatin1$LinesSpliterator"), (166, .class_ 391), (0, u "java/lang/StringLatin1$CharsSpliterator")] 3

def k15m0 : Method := { name := "<init>", desc := "()V", sig := { parameters := [], returnType := none }, accessFlags := 0, code := none }
/-- java/lang/StringLatin1 -/
def k15 : Class := { plain "java/lang/StringLatin1" (some 0) with
  accessFlags := 48
  interfaces := #[]
  cf := some (fileOf pool15 14 #[.nestMembers #[390, 221]] #[{ accessFlags := 0, nameIndex := 7, descriptorIndex := 8, attributes := #[] }] 48 4 #[] #[{ accessFlags := 4120, nameIndex := 121, descriptorIndex := 122, attributes := #[] }])
  fields := #[{ name := "$assertionsDisabled", type := .boolean, accessFlags := 4120, slot := 0, constantValue := 0 }]
  methods := #[k15m0]
  instanceTypes := #[]
  staticTypes := #[.boolean]
  resolved := Array.replicate 395 none
  statics := none }

def pool16 : Array CpInfo := pool [(2, .class_ 4), (1, u "java/lang/Object"), (0, u "<init>"), (0, u "()V"), (17, .class_ 26), (1, u "jdk/internal/util/Preconditions"), (28, .class_ 56), (0, u "jdk/internal/util/Preconditions$4"), (57, .class_ 115), (0, u "jdk/internal/util/Preconditions$1"), (7, u "SIOOBE_FORMATTER"), (0, u "Ljava/util/function/BiFunction;"), (0, .class_ 126), (0, u "jdk/internal/util/Preconditions$2"), (3, u "AIOOBE_FORMATTER"), (0, .class_ 132), (0, u "jdk/internal/util/Preconditions$3"), (3, u "IOOBE_FORMATTER")] 57

def k16m0 : Method := { name := "<init>", desc := "()V", sig := { parameters := [], returnType := none }, accessFlags := 1, code := none }
/-- jdk/internal/util/Preconditions -/
def k16 : Class := { plain "jdk/internal/util/Preconditions" (some 0) with
  accessFlags := 33
  interfaces := #[]
  cf := some (fileOf pool16 24 #[.nestMembers #[55, 131, 125, 114]] #[{ accessFlags := 1, nameIndex := 5, descriptorIndex := 6, attributes := #[] }] 33 2 #[] #[{ accessFlags := 25, nameIndex := 123, descriptorIndex := 124, attributes := #[] }, { accessFlags := 25, nameIndex := 130, descriptorIndex := 124, attributes := #[] }, { accessFlags := 25, nameIndex := 136, descriptorIndex := 124, attributes := #[] }])
  fields := #[{ name := "SIOOBE_FORMATTER", type := (.object "java/util/function/BiFunction"), accessFlags := 25, slot := 0, constantValue := 0 }, { name := "AIOOBE_FORMATTER", type := (.object "java/util/function/BiFunction"), accessFlags := 25, slot := 1, constantValue := 0 }, { name := "IOOBE_FORMATTER", type := (.object "java/util/function/BiFunction"), accessFlags := 25, slot := 2, constantValue := 0 }]
  methods := #[k16m0]
  instanceTypes := #[]
  staticTypes := #[(.object "java/util/function/BiFunction"), (.object "java/util/function/BiFunction"), (.object "java/util/function/BiFunction")]
  resolved := Array.replicate 194 none
  statics := some 2 }

def pool17 : Array CpInfo := pool [(9, u "<init>"), (6, .class_ 18), (1, u "java/lang/Object"), (0, u "()V"), (1, .class_ 23), (1, u "jdk/internal/util/ArraysSupport"), (0, u "LOG2_ARRAY_LONG_INDEX_SCALE"), (0, u "I"), (2, u "U"), (0, u "Ljdk/internal/misc/Unsafe;"), (8, u "BIG_ENDIAN"), (0, u "Z"), (8, u "LOG2_BYTE_BIT_SIZE"), (4, u "LOG2_ARRAY_INT_INDEX_SCALE"), (54, u "JLA"), (0, u "Ljdk/internal/access/JavaLangAccess;"), (11, u "LOG2_ARRAY_BOOLEAN_INDEX_SCALE"), (9, u "LOG2_ARRAY_BYTE_INDEX_SCALE"), (5, u "LOG2_ARRAY_CHAR_INDEX_SCALE"), (5, u "LOG2_ARRAY_SHORT_INDEX_SCALE"), (18, u "LOG2_ARRAY_FLOAT_INDEX_SCALE"), (24, u "LOG2_ARRAY_DOUBLE_INDEX_SCALE"), (89, u "T_BOOLEAN"), (2, u "T_CHAR"), (1, u "T_FLOAT"), (1, u "T_DOUBLE"), (1, u "T_BYTE"), (1, u "T_SHORT"), (1, u "T_INT"), (1, u "T_LONG"), (1, u "SOFT_MAX_ARRAY_LENGTH")] 83

def k17m0 : Method := { name := "<init>", desc := "()V", sig := { parameters := [], returnType := none }, accessFlags := 2, code := none }
/-- jdk/internal/util/ArraysSupport -/
def k17 : Class := { plain "jdk/internal/util/ArraysSupport" (some 0) with
  accessFlags := 33
  interfaces := #[]
  cf := some (fileOf pool17 21 #[] #[{ accessFlags := 2, nameIndex := 9, descriptorIndex := 19, attributes := #[] }] 33 16 #[] #[{ accessFlags := 24, nameIndex := 28, descriptorIndex := 29, attributes := #[] }, { accessFlags := 26, nameIndex := 38, descriptorIndex := 39, attributes := #[] }, { accessFlags := 25, nameIndex := 121, descriptorIndex := 25, attributes := #[] }, { accessFlags := 25, nameIndex := 131, descriptorIndex := 25, attributes := #[] }, { accessFlags := 25, nameIndex := 137, descriptorIndex := 25, attributes := #[] }, { accessFlags := 25, nameIndex := 143, descriptorIndex := 25, attributes := #[] }, { accessFlags := 25, nameIndex := 53, descriptorIndex := 25, attributes := #[] }, { accessFlags := 25, nameIndex := 24, descriptorIndex := 25, attributes := #[] }, { accessFlags := 25, nameIndex := 162, descriptorIndex := 25, attributes := #[] }, { accessFlags := 25, nameIndex := 187, descriptorIndex := 25, attributes := #[] }, { accessFlags := 26, nameIndex := 48, descriptorIndex := 25, attributes := #[] }, { accessFlags := 25, nameIndex := 277, descriptorIndex := 25, attributes := #[] }, { accessFlags := 25, nameIndex := 280, descriptorIndex := 25, attributes := #[] }, { accessFlags := 25, nameIndex := 282, descriptorIndex := 25, attributes := #[] }, { accessFlags := 25, nameIndex := 284, descriptorIndex := 25, attributes := #[] }, { accessFlags := 25, nameIndex := 286, descriptorIndex := 25, attributes := #[] }, { accessFlags := 25, nameIndex := 288, descriptorIndex := 25, attributes := #[] }, { accessFlags := 25, nameIndex := 290, descriptorIndex := 25, attributes := #[] }, { accessFlags := 25, nameIndex := 292, descriptorIndex := 25, attributes := #[] }, { accessFlags := 26, nameIndex := 108, descriptorIndex := 109, attributes := #[] }, { accessFlags := 25, nameIndex := 294, descriptorIndex := 25, attributes := #[] }])
  fields := #[{ name := "U", type := (.object "jdk/internal/misc/Unsafe"), accessFlags := 24, slot := 0, constantValue := 0 }, { name := "BIG_ENDIAN", type := .boolean, accessFlags := 26, slot := 1, constantValue := 0 }, { name := "LOG2_ARRAY_BOOLEAN_INDEX_SCALE", type := .int, accessFlags := 25, slot := 2, constantValue := 0 }, { name := "LOG2_ARRAY_BYTE_INDEX_SCALE", type := .int, accessFlags := 25, slot := 3, constantValue := 0 }, { name := "LOG2_ARRAY_CHAR_INDEX_SCALE", type := .int, accessFlags := 25, slot := 4, constantValue := 0 }, { name := "LOG2_ARRAY_SHORT_INDEX_SCALE", type := .int, accessFlags := 25, slot := 5, constantValue := 0 }, { name := "LOG2_ARRAY_INT_INDEX_SCALE", type := .int, accessFlags := 25, slot := 6, constantValue := 0 }, { name := "LOG2_ARRAY_LONG_INDEX_SCALE", type := .int, accessFlags := 25, slot := 7, constantValue := 0 }, { name := "LOG2_ARRAY_FLOAT_INDEX_SCALE", type := .int, accessFlags := 25, slot := 8, constantValue := 0 }, { name := "LOG2_ARRAY_DOUBLE_INDEX_SCALE", type := .int, accessFlags := 25, slot := 9, constantValue := 0 }, { name := "LOG2_BYTE_BIT_SIZE", type := .int, accessFlags := 26, slot := 10, constantValue := 0 }, { name := "T_BOOLEAN", type := .int, accessFlags := 25, slot := 11, constantValue := 0 }, { name := "T_CHAR", type := .int, accessFlags := 25, slot := 12, constantValue := 0 }, { name := "T_FLOAT", type := .int, accessFlags := 25, slot := 13, constantValue := 0 }, { name := "T_DOUBLE", type := .int, accessFlags := 25, slot := 14, constantValue := 0 }, { name := "T_BYTE", type := .int, accessFlags := 25, slot := 15, constantValue := 0 }, { name := "T_SHORT", type := .int, accessFlags := 25, slot := 16, constantValue := 0 }, { name := "T_INT", type := .int, accessFlags := 25, slot := 17, constantValue := 0 }, { name := "T_LONG", type := .int, accessFlags := 25, slot := 18, constantValue := 0 }, { name := "JLA", type := (.object "jdk/internal/access/JavaLangAccess"), accessFlags := 26, slot := 19, constantValue := 0 }, { name := "SOFT_MAX_ARRAY_LENGTH", type := .int, accessFlags := 25, slot := 20, constantValue := 0 }]
  methods := #[k17m0]
  instanceTypes := #[]
  staticTypes := #[(.object "jdk/internal/misc/Unsafe"), .boolean, .int, .int, .int, .int, .int, .int, .int, .int, .int, .int, .int, .int, .int, .int, .int, .int, .int, (.object "jdk/internal/access/JavaLangAccess"), .int]
  resolved := Array.replicate 378 none
  statics := none }

def pool18 : Array CpInfo := pool [(1, u "java/lang/Cloneable"), (0, .class_ 1), (0, u "java/lang/Object"), (0, .class_ 3)] 3

/-- java/lang/Cloneable -/
def k18 : Class := { plain "java/lang/Cloneable" (some 0) with
  accessFlags := 1537
  interfaces := #[]
  cf := some (fileOf pool18 2 #[] #[] 1537 4 #[] #[])
  fields := #[]
  methods := #[]
  instanceTypes := #[]
  staticTypes := #[]
  resolved := Array.replicate 8 none
  statics := none }

/-- the primitive byte -/
def k19 : Class := { plain "byte" none with kind := .primitive 'B', accessFlags := 0x411 }
/-- [B -/
def k20 : Class := { plain "[B" (some 0) with kind := .array 19 .byte, interfaces := #[18, 2], accessFlags := 1041 }

/-- the primitive char -/
def k21 : Class := { plain "char" none with kind := .primitive 'C', accessFlags := 0x411 }
/-- [C -/
def k22 : Class := { plain "[C" (some 0) with kind := .array 21 .char, interfaces := #[18, 2], accessFlags := 1041 }

/-- the primitive int -/
def k23 : Class := { plain "int" none with kind := .primitive 'I', accessFlags := 0x411 }
/-- [I -/
def k24 : Class := { plain "[I" (some 0) with kind := .array 23 .int, interfaces := #[18, 2], accessFlags := 1041 }

/-- the primitive long -/
def k25 : Class := { plain "long" none with kind := .primitive 'J', accessFlags := 0x411 }
/-- [J -/
def k26 : Class := { plain "[J" (some 0) with kind := .array 25 .long, interfaces := #[18, 2], accessFlags := 1041 }

/-- [Ljava/lang/String; -/
def k27 : Class := { plain "[Ljava/lang/String;" (some 0) with kind := .array 7 (.object "java/lang/String"), interfaces := #[18, 2], accessFlags := 1041 }

/-- [Llanternweir/fields/EventFields$Kind; -/
def k28 : Class := { plain "[Llanternweir/fields/EventFields$Kind;" (some 0) with kind := .array 11 (.object "lanternweir/fields/EventFields$Kind"), interfaces := #[18, 2], accessFlags := 1041 }

def heap : Heap := #[{ cls := 7, slots := #[.long 0, .int 1, .null, .int 0, .null, .int 0, .int 0], vm := .statics 7 },
  { cls := 11, slots := #[.null, .ref 4, .null, .null, .null, .ref 3, .null, .null, .null, .null, .null, .null], vm := .statics 11 },
  { cls := 16, slots := #[.null, .null, .null], vm := .statics 16 },
  { cls := 11, slots := #[.null, .int 5, .int 0], vm := .none },
  { cls := 11, slots := #[.null, .int 1, .int 0], vm := .none }]
def classes : Array Class := #[k0, k1, k2, k3, k4, k5, k6, k7, k8, k9, k10, k11, k12, k13, k14, k15, k16, k17, k18, k19, k20, k21, k22, k23, k24, k25, k26, k27, k28]
def interned : List (Array UInt16 × Addr) := []
def slotsUsed : Nat := 28
def theMethod : MethodId := ⟨1, 1⟩
def args0 : Array Value := #[.int 1, .int 2, .long 3, .int 65]
def aboutOver (below : List Frame) : State where
  vm := { classes := classes, interned := interned.toArray }
  heap := heap
  slotsUsed := slotsUsed
  threads := #[{ frames := .invoking theMethod args0 :: below }]
def below0 : List Frame := [.native { method := ⟨0, 0⟩, args := #[] }]
def about1 : State := aboutOver below0
def p0 : Program := .bare "" "" ""
def e0 : Env := launch0.env 0 0 0
theorem w_frames : about1.frames = Frame.invoking theMethod args0 :: below0 := rfl
set_option maxRecDepth 65536 in
theorem w_args : argsFit about1.vm theMethod args0 = true := by decide +kernel
set_option maxRecDepth 65536 in
theorem w_heap : heapFits about1 = true := by decide +kernel
set_option maxRecDepth 65536 in
theorem w_runnable : about1.curStatus? = some .runnable := by decide +kernel
set_option maxRecDepth 65536 in
theorem w_alone : about1.alone = true := by decide +kernel
set_option maxRecDepth 65536 in
theorem w_named : about1.methodNamed? x = some theMethod := by decide +kernel
set_option maxRecDepth 65536 in
theorem w_hears : about1.hears theMethod below0 = true := by decide +kernel
set_option maxRecDepth 65536 in
theorem w_ripe : about1.ripe theMethod args0 below0 = true := by decide +kernel
theorem w_running : about1.status = .running := rfl
set_option maxRecDepth 65536 in
theorem w_room : about1.hasRoom e0.platform room_1 = true :=
  launch0.hasRoom_least _ room_1 (by decide +kernel) (by decide +kernel) (by decide +kernel) (by decide +kernel) (by decide +kernel) (by decide +kernel)
theorem allAtoms_all (ts : List Jvm.Cond) (a : Array Jvm.Value) (st : Jvm.State) : (allAtoms ts).before a st = ts.all (fun c => c.before a st) := by
  induction ts with
  | nil => rfl
  | cons c t ih =>
    show (Jvm.Cond.and c (allAtoms t)).before a st = _
    rw [Jvm.Cond.before_and, ih, List.all_cons]
def words1 : List Jvm.Cond := Jvm.Cond.code x code maxLocals ret :: tables_1
/-- a 'code' word, met by the world's own term for the bytes: nothing is compared byte by byte -/
theorem code_word {y : MethodName} {bytes : ByteArray} {mx : Nat} {rt : Option FieldType} {a : Array Value} {s : State} {m : MethodId} {meth : Method} {c : Code} (h1 : s.methodNamed? y = some m) (h2 : s.vm.method? m = some meth) (h3 : meth.code = some c) (h4 : c.code = bytes)
    (h5 : (c.maxLocals == mx && c.exceptionTable.isEmpty && decide (c.maxStack ≤ mostOperands) && decide (meth.sig.returnType = rt) && !meth.locks && decide (parseMethodDescriptor y.desc = some meth.sig)) = true) : (Jvm.Cond.code y bytes mx rt).before a s = true := by
  simp only [Bool.and_eq_true, beq_iff_eq, Bool.not_eq_true', decide_eq_true_eq] at h5
  obtain ⟨⟨⟨⟨⟨g1, g2⟩, g3⟩, g4⟩, g5⟩, g6⟩ := h5
  simp [Cond.before, Cond.holds, Cond.value, h1, h2, h3, h4, g1, g2, g3, g4, g5, g6]
def isCode : Jvm.Cond → Bool
  | .code _ _ _ _ => true
  | _ => false
theorem all_split {L : List Jvm.Cond} {P : Jvm.Cond → Bool} (h1 : L.all (fun c => isCode c || P c) = true) (h2 : ∀ c ∈ L.filter isCode, P c = true) : L.all P = true := by
  refine List.all_eq_true.mpr fun c hc => ?_
  have h := List.all_eq_true.mp h1 c hc
  rcases Bool.eq_false_or_eq_true (isCode c) with hi | hi
  · exact h2 c (List.mem_filter.mpr ⟨hc, hi⟩)
  · simpa [hi] using h
set_option maxRecDepth 65536 in
theorem w_c0 : (Jvm.Cond.code x code maxLocals ret).before args0 about1 = true := code_word (m := ⟨1, 1⟩) (meth := k1m1) (c := k1c1) (by decide +kernel) rfl rfl rfl (by decide +kernel)
set_option maxRecDepth 65536 in
theorem w_c1 : (Jvm.Cond.code ({ cls := "java/lang/String", name := "<init>", desc := "([C)V" } : Jvm.MethodName) jdk_42_method_3_code (2 : Nat) (Option.none : Option Jvm.ClassFile.FieldType)).before args0 about1 = true := code_word (m := ⟨7, 1⟩) (meth := k7m1) (c := k7c1) (by decide +kernel) rfl rfl rfl (by decide +kernel)
set_option maxRecDepth 65536 in
theorem w_c2 : (Jvm.Cond.code ({ cls := "java/lang/String", name := "<init>", desc := "([CIILjava/lang/Void;)V" } : Jvm.MethodName) jdk_42_method_149_code (6 : Nat) (Option.none : Option Jvm.ClassFile.FieldType)).before args0 about1 = true := code_word (m := ⟨7, 2⟩) (meth := k7m2) (c := k7c2) (by decide +kernel) rfl rfl rfl (by decide +kernel)
set_option maxRecDepth 65536 in
theorem w_c3 : (Jvm.Cond.code ({ cls := "java/lang/Object", name := "<init>", desc := "()V" } : Jvm.MethodName) object_method_1_code (1 : Nat) (Option.none : Option Jvm.ClassFile.FieldType)).before args0 about1 = true := code_word (m := ⟨0, 0⟩) (meth := k0m0) (c := k0c0) (by decide +kernel) rfl rfl rfl (by decide +kernel)
set_option maxRecDepth 65536 in
theorem w_c4 : (Jvm.Cond.code ({ cls := "java/lang/StringUTF16", name := "compress", desc := "([CII)[B" } : Jvm.MethodName) jdk_52_method_16_code (6 : Nat) (Option.some (Jvm.ClassFile.FieldType.array Jvm.ClassFile.FieldType.byte))).before args0 about1 = true := code_word (m := ⟨8, 2⟩) (meth := k8m2) (c := k8c2) (by decide +kernel) rfl rfl rfl (by decide +kernel)
set_option maxRecDepth 65536 in
theorem w_c5 : (Jvm.Cond.code ({ cls := "java/lang/StringUTF16", name := "compress", desc := "([CI[BII)I" } : Jvm.MethodName) jdk_52_method_21_code (7 : Nat) (Option.some Jvm.ClassFile.FieldType.int)).before args0 about1 = true := code_word (m := ⟨8, 3⟩) (meth := k8m3) (c := k8c3) (by decide +kernel) rfl rfl rfl (by decide +kernel)
set_option maxRecDepth 65536 in
theorem w_c6 : (Jvm.Cond.code ({ cls := "java/lang/StringUTF16", name := "coderFromArrayLen", desc := "([BI)B" } : Jvm.MethodName) jdk_52_method_15_code (2 : Nat) (Option.some Jvm.ClassFile.FieldType.byte)).before args0 about1 = true := code_word (m := ⟨8, 1⟩) (meth := k8m1) (c := k8c1) (by decide +kernel) rfl rfl rfl (by decide +kernel)
set_option maxRecDepth 65536 in
theorem w_c7 : (Jvm.Cond.code ({ cls := "lanternweir/fields/EventFields", name := "<init>", desc := "()V" } : Jvm.MethodName) prog_114_method_1_code (1 : Nat) (Option.none : Option Jvm.ClassFile.FieldType)).before args0 about1 = true := code_word (m := ⟨9, 0⟩) (meth := k9m0) (c := k9c0) (by decide +kernel) rfl rfl rfl (by decide +kernel)
set_option maxRecDepth 65536 in
theorem w_c8 : (Jvm.Cond.code ({ cls := "lanternweir/fields/EventFields", name := "<init>", desc := "([Llanternweir/fields/EventFields$Kind;[Ljava/lang/String;[Ljava/lang/String;[J)V" } : Jvm.MethodName) prog_114_method_2_code (5 : Nat) (Option.none : Option Jvm.ClassFile.FieldType)).before args0 about1 = true := code_word (m := ⟨9, 1⟩) (meth := k9m1) (c := k9c1) (by decide +kernel) rfl rfl rfl (by decide +kernel)
set_option maxRecDepth 65536 in
theorem w_c9 : (Jvm.Cond.code ({ cls := "lanternweir/fields/EventFields", name := "builder", desc := "()Llanternweir/fields/EventFields$Builder;" } : Jvm.MethodName) prog_114_method_3_code (1 : Nat) (Option.some (Jvm.ClassFile.FieldType.object "lanternweir/fields/EventFields$Builder"))).before args0 about1 = true := code_word (m := ⟨9, 2⟩) (meth := k9m2) (c := k9c2) (by decide +kernel) rfl rfl rfl (by decide +kernel)
set_option maxRecDepth 65536 in
theorem w_c10 : (Jvm.Cond.code ({ cls := "lanternweir/fields/EventFields$Builder", name := "<init>", desc := "(Llanternweir/fields/EventFields;)V" } : Jvm.MethodName) prog_115_method_1_code (2 : Nat) (Option.none : Option Jvm.ClassFile.FieldType)).before args0 about1 = true := code_word (m := ⟨14, 0⟩) (meth := k14m0) (c := k14c0) (by decide +kernel) rfl rfl rfl (by decide +kernel)
set_option maxRecDepth 65536 in
theorem w_c11 : (Jvm.Cond.code ({ cls := "lanternweir/fields/EventFields$Builder", name := "bool", desc := "(Ljava/lang/String;Z)Llanternweir/Fields;" } : Jvm.MethodName) prog_115_method_15_code (3 : Nat) (Option.some (Jvm.ClassFile.FieldType.object "lanternweir/Fields"))).before args0 about1 = true := code_word (m := ⟨14, 2⟩) (meth := k14m2) (c := k14c2) (by decide +kernel) rfl rfl rfl (by decide +kernel)
set_option maxRecDepth 65536 in
theorem w_c12 : (Jvm.Cond.code ({ cls := "lanternweir/fields/EventFields", name := "add", desc := "(Llanternweir/fields/EventFields$Kind;Ljava/lang/String;J)V" } : Jvm.MethodName) prog_114_method_20_code (5 : Nat) (Option.none : Option Jvm.ClassFile.FieldType)).before args0 about1 = true := code_word (m := ⟨9, 5⟩) (meth := k9m5) (c := k9c5) (by decide +kernel) rfl rfl rfl (by decide +kernel)
set_option maxRecDepth 65536 in
theorem w_c13 : (Jvm.Cond.code ({ cls := "lanternweir/fields/EventFields$Builder", name := "number", desc := "(Ljava/lang/String;J)Llanternweir/Fields;" } : Jvm.MethodName) prog_115_method_5_code (4 : Nat) (Option.some (Jvm.ClassFile.FieldType.object "lanternweir/Fields"))).before args0 about1 = true := code_word (m := ⟨14, 1⟩) (meth := k14m1) (c := k14c1) (by decide +kernel) rfl rfl rfl (by decide +kernel)
set_option maxRecDepth 65536 in
theorem w_c14 : (Jvm.Cond.code ({ cls := "lanternweir/fields/EventFields$Builder", name := "bool", desc := "(Z)Llanternweir/Values;" } : Jvm.MethodName) prog_115_method_16_code (2 : Nat) (Option.some (Jvm.ClassFile.FieldType.object "lanternweir/Values"))).before args0 about1 = true := code_word (m := ⟨14, 3⟩) (meth := k14m3) (c := k14c3) (by decide +kernel) rfl rfl rfl (by decide +kernel)
set_option maxRecDepth 65536 in
theorem w_c15 : (Jvm.Cond.code ({ cls := "lanternweir/fields/EventFields", name := "size", desc := "()I" } : Jvm.MethodName) prog_114_method_7_code (1 : Nat) (Option.some Jvm.ClassFile.FieldType.int)).before args0 about1 = true := code_word (m := ⟨9, 3⟩) (meth := k9m3) (c := k9c3) (by decide +kernel) rfl rfl rfl (by decide +kernel)
set_option maxRecDepth 65536 in
theorem w_c16 : (Jvm.Cond.code ({ cls := "lanternweir/fields/EventFields", name := "booleanValue", desc := "(I)Z" } : Jvm.MethodName) prog_114_method_14_code (2 : Nat) (Option.some Jvm.ClassFile.FieldType.boolean)).before args0 about1 = true := code_word (m := ⟨9, 4⟩) (meth := k9m4) (c := k9c4) (by decide +kernel) rfl rfl rfl (by decide +kernel)
def codes1 : List Jvm.Cond := [Jvm.Cond.code x code maxLocals ret, Jvm.Cond.code ({ cls := "java/lang/String", name := "<init>", desc := "([C)V" } : Jvm.MethodName) jdk_42_method_3_code (2 : Nat) (Option.none : Option Jvm.ClassFile.FieldType), Jvm.Cond.code ({ cls := "java/lang/String", name := "<init>", desc := "([CIILjava/lang/Void;)V" } : Jvm.MethodName) jdk_42_method_149_code (6 : Nat) (Option.none : Option Jvm.ClassFile.FieldType), Jvm.Cond.code ({ cls := "java/lang/Object", name := "<init>", desc := "()V" } : Jvm.MethodName) object_method_1_code (1 : Nat) (Option.none : Option Jvm.ClassFile.FieldType), Jvm.Cond.code ({ cls := "java/lang/StringUTF16", name := "compress", desc := "([CII)[B" } : Jvm.MethodName) jdk_52_method_16_code (6 : Nat) (Option.some (Jvm.ClassFile.FieldType.array Jvm.ClassFile.FieldType.byte)), Jvm.Cond.code ({ cls := "java/lang/StringUTF16", name := "compress", desc := "([CI[BII)I" } : Jvm.MethodName) jdk_52_method_21_code (7 : Nat) (Option.some Jvm.ClassFile.FieldType.int), Jvm.Cond.code ({ cls := "java/lang/StringUTF16", name := "coderFromArrayLen", desc := "([BI)B" } : Jvm.MethodName) jdk_52_method_15_code (2 : Nat) (Option.some Jvm.ClassFile.FieldType.byte), Jvm.Cond.code ({ cls := "lanternweir/fields/EventFields", name := "<init>", desc := "()V" } : Jvm.MethodName) prog_114_method_1_code (1 : Nat) (Option.none : Option Jvm.ClassFile.FieldType), Jvm.Cond.code ({ cls := "lanternweir/fields/EventFields", name := "<init>", desc := "([Llanternweir/fields/EventFields$Kind;[Ljava/lang/String;[Ljava/lang/String;[J)V" } : Jvm.MethodName) prog_114_method_2_code (5 : Nat) (Option.none : Option Jvm.ClassFile.FieldType), Jvm.Cond.code ({ cls := "lanternweir/fields/EventFields", name := "builder", desc := "()Llanternweir/fields/EventFields$Builder;" } : Jvm.MethodName) prog_114_method_3_code (1 : Nat) (Option.some (Jvm.ClassFile.FieldType.object "lanternweir/fields/EventFields$Builder")), Jvm.Cond.code ({ cls := "lanternweir/fields/EventFields$Builder", name := "<init>", desc := "(Llanternweir/fields/EventFields;)V" } : Jvm.MethodName) prog_115_method_1_code (2 : Nat) (Option.none : Option Jvm.ClassFile.FieldType), Jvm.Cond.code ({ cls := "lanternweir/fields/EventFields$Builder", name := "bool", desc := "(Ljava/lang/String;Z)Llanternweir/Fields;" } : Jvm.MethodName) prog_115_method_15_code (3 : Nat) (Option.some (Jvm.ClassFile.FieldType.object "lanternweir/Fields")), Jvm.Cond.code ({ cls := "lanternweir/fields/EventFields", name := "add", desc := "(Llanternweir/fields/EventFields$Kind;Ljava/lang/String;J)V" } : Jvm.MethodName) prog_114_method_20_code (5 : Nat) (Option.none : Option Jvm.ClassFile.FieldType), Jvm.Cond.code ({ cls := "lanternweir/fields/EventFields$Builder", name := "number", desc := "(Ljava/lang/String;J)Llanternweir/Fields;" } : Jvm.MethodName) prog_115_method_5_code (4 : Nat) (Option.some (Jvm.ClassFile.FieldType.object "lanternweir/Fields")), Jvm.Cond.code ({ cls := "lanternweir/fields/EventFields$Builder", name := "bool", desc := "(Z)Llanternweir/Values;" } : Jvm.MethodName) prog_115_method_16_code (2 : Nat) (Option.some (Jvm.ClassFile.FieldType.object "lanternweir/Values")), Jvm.Cond.code ({ cls := "lanternweir/fields/EventFields", name := "size", desc := "()I" } : Jvm.MethodName) prog_114_method_7_code (1 : Nat) (Option.some Jvm.ClassFile.FieldType.int), Jvm.Cond.code ({ cls := "lanternweir/fields/EventFields", name := "booleanValue", desc := "(I)Z" } : Jvm.MethodName) prog_114_method_14_code (2 : Nat) (Option.some Jvm.ClassFile.FieldType.boolean)]
set_option maxRecDepth 65536 in
theorem codes_eq : words1.filter isCode = codes1 := rfl
theorem w_codes : ∀ c ∈ words1.filter isCode, c.before args0 about1 = true := by
  rw [codes_eq]
  intro c hc
  simp only [codes1, List.mem_cons, List.not_mem_nil, or_false] at hc
  rcases hc with rfl | rfl | rfl | rfl | rfl | rfl | rfl | rfl | rfl | rfl | rfl | rfl | rfl | rfl | rfl | rfl | rfl
  · exact w_c0
  · exact w_c1
  · exact w_c2
  · exact w_c3
  · exact w_c4
  · exact w_c5
  · exact w_c6
  · exact w_c7
  · exact w_c8
  · exact w_c9
  · exact w_c10
  · exact w_c11
  · exact w_c12
  · exact w_c13
  · exact w_c14
  · exact w_c15
  · exact w_c16
set_option maxRecDepth 65536 in
theorem w_t1 : (words1.take 24).all (fun c => isCode c || c.before args0 about1) = true := by decide +kernel
set_option maxRecDepth 65536 in
theorem w_t2 : ((words1.drop 24).take 24).all (fun c => isCode c || c.before args0 about1) = true := by decide +kernel
set_option maxRecDepth 65536 in
theorem w_t3 : (((words1.drop 24).drop 24).take 24).all (fun c => isCode c || c.before args0 about1) = true := by decide +kernel
set_option maxRecDepth 65536 in
theorem w_t4 : ((((words1.drop 24).drop 24).drop 24).take 24).all (fun c => isCode c || c.before args0 about1) = true := by decide +kernel
set_option maxRecDepth 65536 in
theorem w_t5 : ((((words1.drop 24).drop 24).drop 24).drop 24).all (fun c => isCode c || c.before args0 about1) = true := by decide +kernel
theorem w_tables : (allAtoms (Jvm.Cond.code x code maxLocals ret :: tables_1)).before args0 about1 = true := by
  rw [allAtoms_all]
  show words1.all (fun c => c.before args0 about1) = true
  refine all_split ?_ w_codes
  rw [← List.take_append_drop 24 words1, List.all_append, w_t1, ← List.take_append_drop 24 (words1.drop 24), List.all_append, w_t2, ← List.take_append_drop 24 ((words1.drop 24).drop 24), List.all_append, w_t3, ← List.take_append_drop 24 (((words1.drop 24).drop 24).drop 24), List.all_append, w_t4, w_t5]
  rfl
set_option maxRecDepth 65536 in
theorem w_rest : rest_1_c.before args0 about1 = true := by decide +kernel
set_option maxRecDepth 65536 in
theorem w_case : (Jvm.Cond.and given_1 narrow_1).before args0 about1 = true := by decide +kernel
theorem w_applies : (headSpec (Jvm.Cond.code x code maxLocals ret :: tables_1) room_1).applies x e0.platform about1 = true :=
  (Spec.applies_iff w_frames).mpr ⟨w_running, w_runnable, w_alone, w_named, w_hears, w_ripe, w_room, w_tables⟩
theorem atStart : AtStart classFile x code maxLocals ret World_1 tables_1 room_1 Calls_1 rest_1 Pre_1 launch0 p0 e0 about1 theMethod args0 below0 :=
  ⟨lists_1, trivial, launch0.admits_env _ _ _, launch0.least_env, fairChoices_fair.cas, fairChoices_fair.clock, w_frames, w_args, w_heap, w_applies, trivial, w_rest, w_case⟩
end start1
theorem witness_1 : WitnessClaimed_1 := ⟨start1.p0, start1.e0, start1.about1, start1.theMethod, start1.args0, start1.below0, start1.atStart⟩
end Jvm.Pilot.@@N@@
