import JvmDerived
import JvmDerived.Pilot.@@N@@Statement
import JvmDerived.Pilot.@@N@@Code
set_option linter.unusedVariables false
set_option linter.unusedSimpArgs false
namespace Jvm.RoadKit
open Sem ClassFile Op Lib Jvm.Stand Jvm.Free Jvm.LawKit
section New
variable {p : Program} {l : Launch} {e : Env} {R : Room} {s : State} {m : MethodId} {args : Array Value} {below : List Frame} {meth : Method} {c : Code} {T : State} {locs : List Loc} {cells slots : Nat}
theorem retI (X : Stand p l e R s m args below meth c T locs cells slots) (hx : p.tables.exec = Jvm.exec) {pc : Nat} {Ls : Array Slot} {z : Int32} {rest : List Value} (hret : meth.sig.returnType = some .int) (hd : decode c.code pc = .ok (.ireturn, 1)) {fs : List Frame}
    (hl : ∀ (f : JFrame) (acts : List Action), f.method = m → f.locked = none → f.entered = [] → (doReturn e (T.setTop f) acts (some (.int z))).1 = T.setFrames fs) : Steps p.tables e below (T.setTop (mkF m pc Ls (.int z :: rest))) (T.setFrames fs) := by
  have hm' : T.vm.method? m = some meth := X.method'
  have hn : narrow .int (.int z) = .int z := rfl
  show Steps p.tables e below (T.setTop { method := m, pc := pc, locals := Ls, stack := _ :: rest, locked := none }) _
  jvm_step X.here [X.here.top, hx, hd, hm', hret, hn]
  first | (intro acts; rw [hl _ acts rfl rfl rfl]) | rw [hl _ _ rfl rfl rfl]
  exact Steps.refl _
end New
end Jvm.RoadKit
namespace Jvm.Pilot.@@N@@
open Jvm Jvm.ClassFile Sem Op Lib Jvm.Free Jvm.Stand Jvm.LawKit Jvm.RoadKit Bundle Jvm.Pilot.@@N@@.Jvm.D
theorem joinS {tb : Tables} {e : Env} {below : List Frame} {A B t : State} (h1 : Steps tb e below B t → Steps tb e below A t) (h2 : Steps tb e below B t) : Steps tb e below A t := h1 h2
theorem mvMN {Z s : State} {a0 args : Array Value} {own host : String} {index : Nat} {y : MethodName} (hZ : Z.Warmed39 s.vm) (w : (Cond.methodLinkNest own index y host).before a0 Z = true) : (Cond.methodLinkNest own index y host).before args s = true := (Cond.methodLinkNest_wide hZ w :)
def own_f (k : Int32) (x : Int64) : Int64 := x ^^^ ((x.toUInt64 >>> (k &&& 0x3f).toInt64.toUInt64).toInt64)
def own_mix (x : Int64) : Int64 := own_f (31 : Int32) (own_f (27 : Int32) (own_f (30 : Int32) x * (-4658895280553007687 : Int64)) * (-7723592293110705685 : Int64))
theorem own_bv {k : Nat} (hk : 64 ≤ 3 * k) {b c : BitVec 64} (h : b ^^^ (b >>> k) = c ^^^ (c >>> k)) : b = c := by
  have e1 : (b ^^^ c) >>> k = b ^^^ c := by
    rw [BitVec.ushiftRight_xor_distrib]
    have h2 : (b ^^^ (b >>> k)) ^^^ (c ^^^ (c >>> k)) = 0#64 := by rw [h]; exact BitVec.xor_self
    apply BitVec.eq_of_getLsbD_eq
    intro i hi
    have h3 := congrArg (fun z => z.getLsbD i) h2
    simp only [BitVec.getLsbD_xor, BitVec.getLsbD_zero] at h3 ⊢
    cases hb : b.getLsbD i <;> cases hc : c.getLsbD i <;> cases hb' : (b >>> k).getLsbD i <;> cases hc' : (c >>> k).getLsbD i <;> simp_all
  have e2 : (b ^^^ c) >>> (k + k + k) = b ^^^ c := by rw [BitVec.shiftRight_add, BitVec.shiftRight_add, e1, e1, e1]
  have e3 : (b ^^^ c) >>> (k + k + k) = 0#64 := BitVec.ushiftRight_eq_zero (by omega)
  have e4 : b ^^^ c = 0#64 := e2.symm.trans e3
  exact BitVec.xor_eq_zero_iff.mp e4
theorem own_f_bv (k : Int32) (n : Nat) (hk : (k &&& 0x3f).toInt64.toUInt64.toBitVec = BitVec.ofNat 64 n) (hn : n < 64) (x : Int64) : (own_f k x).toBitVec = x.toBitVec ^^^ (x.toBitVec >>> n) := by
  unfold own_f
  have e1 : (x.toUInt64 >>> (k &&& 0x3f).toInt64.toUInt64).toBitVec = x.toBitVec >>> n := by
    rw [UInt64.toBitVec_shiftRight, hk]
    show x.toBitVec >>> (BitVec.ofNat 64 n % 64#64) = _
    rw [BitVec.ushiftRight_eq', BitVec.toNat_umod, BitVec.toNat_ofNat]
    congr 1
    show n % 2 ^ 64 % 64 = n
    omega
  rw [Int64.toBitVec_xor]
  show x.toBitVec ^^^ (x.toUInt64 >>> (k &&& 0x3f).toInt64.toUInt64).toBitVec = _
  rw [e1]
theorem own_f_inj (k : Int32) (n : Nat) (hk : (k &&& 0x3f).toInt64.toUInt64.toBitVec = BitVec.ofNat 64 n) (hn : n < 64) (h3 : 64 ≤ 3 * n) {x y : Int64} (h : own_f k x = own_f k y) : x = y := by
  have h2 := congrArg Int64.toBitVec h
  rw [own_f_bv k n hk hn, own_f_bv k n hk hn] at h2
  exact Int64.toBitVec_inj.mp (own_bv h3 h2)
theorem own_mul_inj {c d x y : Int64} (hc : c * d = 1) (h : x * c = y * c) : x = y := by
  have := congrArg (· * d) h
  simp only [Int64.mul_assoc, hc, Int64.mul_one] at this
  exact this
theorem own_mix_inj {x y : Int64} (h : own_mix x = own_mix y) : x = y := by
  have a := own_f_inj 31 31 (by decide) (by decide) (by decide) h
  have b := own_mul_inj (d := (3573116690164977347 : Int64)) (by decide +kernel) a
  have c := own_f_inj 27 27 (by decide) (by decide) (by decide) b
  have d := own_mul_inj (d := (-7575587736534282103 : Int64)) (by decide +kernel) c
  exact own_f_inj 30 30 (by decide) (by decide) (by decide) d
theorem own_addc {s t g : Int64} (h : s + g = t + g) : s = t := by
  have := congrArg (· - g) h
  simpa [Int64.add_sub_cancel] using this
theorem own_next_iff {s t g : Int64} : own_mix (s + g) = own_mix (t + g) ↔ s = t := ⟨fun h => own_addc (own_mix_inj h), fun h => by rw [h]⟩
theorem own_known : own_mix ((0 : Int64) + (-7046029254386353131 : Int64)) = (-2152535657050944081 : Int64) := by decide +kernel
theorem own_same {s t g : Int64} {va vb : Int32} (ha : va = if s = t then (0 : Int32) else (1 : Int32)) (hb : vb = if own_mix (s + g) = own_mix (t + g) then (0 : Int32) else (1 : Int32)) : va = vb := by
  subst ha hb
  by_cases h : s = t
  · simp [h]
  · exact (if_neg h).trans (if_neg (fun q => h (own_next_iff.mp q))).symm
theorem d1_0 : decode prog_27_method_1_code 0 = .ok (.aload_n 0, 1) := by decide +kernel
theorem d1_1 : decode prog_27_method_1_code 1 = .ok (.invokespecial 1, 3) := by decide +kernel
theorem d1_4 : decode prog_27_method_1_code 4 = .ok (.aload_n 0, 1) := by decide +kernel
theorem d1_5 : decode prog_27_method_1_code 5 = .ok (.lload_n 1, 1) := by decide +kernel
theorem d1_6 : decode prog_27_method_1_code 6 = .ok (.putfield 7, 3) := by decide +kernel
theorem d1_9 : decode prog_27_method_1_code 9 = .ok (.return_, 1) := by decide +kernel
theorem pn_com_example_flatfinder_flatfinder_generate_Draws : plainName "com/example/flatfinder/flatfinder/generate/Draws" = true := by first | (simp [plainName, overriddenIn]; done) | decide +kernel
theorem ef_rm1 (m : MethodId) (a1 : Addr) (q1 : Int64) : entryFrame m #[(.ref a1), (.long q1)] 3 = mkF m 0 #[.val (.ref a1), .val (.long q1), .second] [] := by first | (simp [entryFrame, mkF, argsToLocals, Value.category]; done) | rfl
def Qrm1 (Z : State) (a1 : Addr) (q1 : Int64) (h0 : Heap) (n0 : Nat) (v : Option Value) (h : Heap) (L : List Loc) : Prop := v = none ∧ Fr n0 L ∧ Keep h0 h [a1] ∧ Fld Z h a1 "com/example/flatfinder/flatfinder/generate/Draws" "state" "J" (.long q1)
set_option maxRecDepth 65536 in
set_option maxHeartbeats 40000000 in
theorem rm1 (l : Launch) (Z : State) (a0 : Array Value) (hw : ∀ d ∈ tables_1, d.before a0 Z = true) (ws : List Jvm.Cond) (a1 : Addr) (q1 : Int64) (h0 : Heap) (n0 : Nat) (Z0 : n0 ≤ h0.size) (E1 : Exa Z h0 a1 "com/example/flatfinder/flatfinder/generate/Draws") (F1 : Fld Z h0 a1 "com/example/flatfinder/flatfinder/generate/Draws" "state" "J" (.long (0 : Int64))) (g1 : n0 ≤ a1) :
    MetFree l (⟨"com/example/flatfinder/flatfinder/generate/Draws", "<init>", "(J)V"⟩ : MethodName) (head1 (Jvm.Cond.code (⟨"com/example/flatfinder/flatfinder/generate/Draws", "<init>", "(J)V"⟩ : MethodName) prog_27_method_1_code 3 none :: ws) ({ frames := 1, cells := 0, slots := 0, locals := 12 } : Room)) (fun a U => a = #[(.ref a1), (.long q1)] ∧ Z.Warmed39 U.vm ∧ U.heap = h0) (fun _ _ _ _ _ => True) (fun _ U o U' => ∃ v L, o = .returned v ∧ Qrm1 Z a1 q1 h0 n0 v U'.heap L ∧ FrameEnd U o U' L ({ frames := 1, cells := 0, slots := 0, locals := 12 } : Room).cells ({ frames := 1, cells := 0, slots := 0, locals := 12 } : Room).slots) := by
  refine MetFree.of_bodySF (plainFor_of_name pn_com_example_flatfinder_flatfinder_generate_Draws) hisR ?_
  intro p e s m args below meth c s₁ Bd hml0 hP hK
  obtain ⟨rfl, hZ, hh⟩ := hP
  have hx := Bd.exec
  have hby := Bd.bytes
  have hml : c.maxLocals = 3 := hml0
  have hown : s.vm.findClass "com/example/flatfinder/flatfinder/generate/Draws" = some m.cls := findClass_of_methodNamed Bd.named
  have hnm := (name_of_methodNamed Bd.named Bd.method).1
  have X0 : Stand p l e ({ frames := 1, cells := 0, slots := 0, locals := 12 } : Room) s m #[(.ref a1), (.long q1)] below meth c s₁ [] 0 0 := Stand.of_body Bd
  have e0 : s₁.heap = h0 := by rw [← hh, Bd.state]; rfl
  have N0 := Fr.nil n0
  have pre0 : ∀ t, Steps p.tables e below (s₁.setTop (mkF m 0 #[.val (.ref a1), .val (.long q1), .second] [])) t → Steps p.tables e below (s₁.setTop (entryFrame m #[(.ref a1), (.long q1)] 3)) t := fun t k => castTop (ef_rm1 m a1 q1) k
  have K0 := Keep.refl h0 [a1]
  obtain ⟨T1, X1, e1, st1⟩ := initO X0 hx hZ hown (hw _ (List.mem_of_getElem? (i := 6) rfl)) (hw _ (List.mem_of_getElem? (i := 7) rfl)) (hw _ (List.mem_of_getElem? (i := 8) rfl)) e0 (g := (mkF m 1 #[.val (.ref a1), .val (.long q1), .second] [(.ref a1)])) rfl (by rw [hml]; rfl) rfl (hb hby d1_1) (by decide) (W := 0) (by show 2 * 0 + _ ≤ _; exact Nat.le_of_eq rfl) (by decide)
  obtain ⟨T2, h2, X2, e2, W2, st2⟩ := putF X1 hx hZ hown (host := "") (Or.inl (hw _ (List.mem_of_getElem? (i := 9) rfl))) Via.refl e1 F1 E1 (Or.inl (hw _ (List.mem_of_getElem? (i := 10) rfl))) (hw _ (List.mem_of_getElem? (i := 1) rfl)) (ty := .long) (by decide) rfl rfl (g := (mkF m 6 #[.val (.ref a1), .val (.long q1), .second] [(.long q1), (.ref a1)])) rfl rfl (hb hby d1_6)
  have f3 := F1.same W2
  have f4 := E1.wr W2
  have Zn5 := Nat.le_trans Z0 (Keep.of_wr W2).1
  have N6 := Fr.snoc X2 N0 g1
  have K7 := K0.wr W2 (Or.inl (List.mem_of_getElem? (i := 0) rfl))
  obtain ⟨fs, hr, hrun, hended, hW, hsame⟩ := X2.leave (v := none) (fun _ => rfl)
  refine ⟨_, _, pre0 _ ?_, hrun, hended, _, _, rfl, ?_, ⟨_, rfl⟩, hW, hsame.mono (by decide) (by decide)⟩
  · show Steps p.tables e below (s₁.setTop (mkF m 0 #[.val (.ref a1), .val (.long q1), .second] [])) _
    refine XS.aloadN X0.here hx rfl (hb hby d1_0) rfl rfl ?_
    show Steps p.tables e below (s₁.setTop (mkF m 1 #[.val (.ref a1), .val (.long q1), .second] [(.ref a1)])) _
    refine st1 _ ?_
    show Steps p.tables e below (T1.setTop (mkF m 4 #[.val (.ref a1), .val (.long q1), .second] [])) _
    refine XS.aloadN X1.here hx rfl (hb hby d1_4) rfl rfl ?_
    show Steps p.tables e below (T1.setTop (mkF m 5 #[.val (.ref a1), .val (.long q1), .second] [(.ref a1)])) _
    refine XS.lloadN X1.here hx rfl (hb hby d1_5) rfl ?_
    show Steps p.tables e below (T1.setTop (mkF m 6 #[.val (.ref a1), .val (.long q1), .second] [(.long q1), (.ref a1)])) _
    refine st2 _ ?_
    show Steps p.tables e below (T2.setTop (mkF m 9 #[.val (.ref a1), .val (.long q1), .second] [])) _
    exact X2.returnOut hx Bd.returns (hb hby d1_9) hr
  · show Qrm1 Z a1 q1 h0 n0 _ T2.heap _
    rw [e2]
    exact ⟨rfl, N6, K7, f3⟩
theorem d3_0 : decode prog_27_method_2_code 0 = .ok (.aload_n 0, 1) := by decide +kernel
theorem d3_1 : decode prog_27_method_2_code 1 = .ok (.dup, 1) := by decide +kernel
theorem d3_2 : decode prog_27_method_2_code 2 = .ok (.getfield 7, 3) := by decide +kernel
theorem d3_5 : decode prog_27_method_2_code 5 = .ok (.ldc2_w 13, 3) := by decide +kernel
theorem d3_8 : decode prog_27_method_2_code 8 = .ok (.ladd, 1) := by decide +kernel
theorem d3_9 : decode prog_27_method_2_code 9 = .ok (.putfield 7, 3) := by decide +kernel
theorem d3_12 : decode prog_27_method_2_code 12 = .ok (.aload_n 0, 1) := by decide +kernel
theorem d3_13 : decode prog_27_method_2_code 13 = .ok (.getfield 7, 3) := by decide +kernel
theorem d3_16 : decode prog_27_method_2_code 16 = .ok (.lstore_n 1, 1) := by decide +kernel
theorem d3_17 : decode prog_27_method_2_code 17 = .ok (.lload_n 1, 1) := by decide +kernel
theorem d3_18 : decode prog_27_method_2_code 18 = .ok (.lload_n 1, 1) := by decide +kernel
theorem d3_19 : decode prog_27_method_2_code 19 = .ok (.bipush 30, 2) := by decide +kernel
theorem d3_21 : decode prog_27_method_2_code 21 = .ok (.lushr, 1) := by decide +kernel
theorem d3_22 : decode prog_27_method_2_code 22 = .ok (.lxor, 1) := by decide +kernel
theorem d3_23 : decode prog_27_method_2_code 23 = .ok (.ldc2_w 15, 3) := by decide +kernel
theorem d3_26 : decode prog_27_method_2_code 26 = .ok (.lmul, 1) := by decide +kernel
theorem d3_27 : decode prog_27_method_2_code 27 = .ok (.lstore_n 1, 1) := by decide +kernel
theorem d3_28 : decode prog_27_method_2_code 28 = .ok (.lload_n 1, 1) := by decide +kernel
theorem d3_29 : decode prog_27_method_2_code 29 = .ok (.lload_n 1, 1) := by decide +kernel
theorem d3_30 : decode prog_27_method_2_code 30 = .ok (.bipush 27, 2) := by decide +kernel
theorem d3_32 : decode prog_27_method_2_code 32 = .ok (.lushr, 1) := by decide +kernel
theorem d3_33 : decode prog_27_method_2_code 33 = .ok (.lxor, 1) := by decide +kernel
theorem d3_34 : decode prog_27_method_2_code 34 = .ok (.ldc2_w 17, 3) := by decide +kernel
theorem d3_37 : decode prog_27_method_2_code 37 = .ok (.lmul, 1) := by decide +kernel
theorem d3_38 : decode prog_27_method_2_code 38 = .ok (.lstore_n 1, 1) := by decide +kernel
theorem d3_39 : decode prog_27_method_2_code 39 = .ok (.lload_n 1, 1) := by decide +kernel
theorem d3_40 : decode prog_27_method_2_code 40 = .ok (.lload_n 1, 1) := by decide +kernel
theorem d3_41 : decode prog_27_method_2_code 41 = .ok (.bipush 31, 2) := by decide +kernel
theorem d3_43 : decode prog_27_method_2_code 43 = .ok (.lushr, 1) := by decide +kernel
theorem d3_44 : decode prog_27_method_2_code 44 = .ok (.lxor, 1) := by decide +kernel
theorem d3_45 : decode prog_27_method_2_code 45 = .ok (.lreturn, 1) := by decide +kernel
theorem ef_rm3 (m : MethodId) (a1 : Addr) : entryFrame m #[(.ref a1)] 3 = mkF m 0 #[.val (.ref a1), .unset, .unset] [] := by first | (simp [entryFrame, mkF, argsToLocals, Value.category]; done) | rfl
def Qrm3 (Z : State) (a1 : Addr) (q1 : Int64) (h0 : Heap) (n0 : Nat) (v : Option Value) (h : Heap) (L : List Loc) : Prop := v = some (.long (own_mix (q1 + (-7046029254386353131 : Int64)))) ∧ Fr n0 L ∧ Keep h0 h [a1] ∧ Fld Z h a1 "com/example/flatfinder/flatfinder/generate/Draws" "state" "J" (.long (q1 + (-7046029254386353131 : Int64)))
set_option maxRecDepth 65536 in
set_option maxHeartbeats 40000000 in
theorem rm3 (l : Launch) (Z : State) (a0 : Array Value) (hw : ∀ d ∈ tables_1, d.before a0 Z = true) (ws : List Jvm.Cond) (a1 : Addr) (q1 : Int64) (h0 : Heap) (n0 : Nat) (Z0 : n0 ≤ h0.size) (E1 : Exa Z h0 a1 "com/example/flatfinder/flatfinder/generate/Draws") (F1 : Fld Z h0 a1 "com/example/flatfinder/flatfinder/generate/Draws" "state" "J" (.long q1)) (g1 : n0 ≤ a1) :
    MetFree l (⟨"com/example/flatfinder/flatfinder/generate/Draws", "next", "()J"⟩ : MethodName) (head1 (Jvm.Cond.code (⟨"com/example/flatfinder/flatfinder/generate/Draws", "next", "()J"⟩ : MethodName) prog_27_method_2_code 3 (some .long) :: ws) ({ frames := 0, cells := 0, slots := 0, locals := 0 } : Room)) (fun a U => a = #[(.ref a1)] ∧ Z.Warmed39 U.vm ∧ U.heap = h0) (fun _ _ _ _ _ => True) (fun _ U o U' => ∃ v L, o = .returned v ∧ Qrm3 Z a1 q1 h0 n0 v U'.heap L ∧ FrameEnd U o U' L ({ frames := 0, cells := 0, slots := 0, locals := 0 } : Room).cells ({ frames := 0, cells := 0, slots := 0, locals := 0 } : Room).slots) := by
  refine MetFree.of_bodySF (plainFor_of_name pn_com_example_flatfinder_flatfinder_generate_Draws) hisR ?_
  intro p e s m args below meth c s₁ Bd hml0 hP hK
  obtain ⟨rfl, hZ, hh⟩ := hP
  have hx := Bd.exec
  have hby := Bd.bytes
  have hml : c.maxLocals = 3 := hml0
  have hown : s.vm.findClass "com/example/flatfinder/flatfinder/generate/Draws" = some m.cls := findClass_of_methodNamed Bd.named
  have hnm := (name_of_methodNamed Bd.named Bd.method).1
  have X0 : Stand p l e ({ frames := 0, cells := 0, slots := 0, locals := 0 } : Room) s m #[(.ref a1)] below meth c s₁ [] 0 0 := Stand.of_body Bd
  have e0 : s₁.heap = h0 := by rw [← hh, Bd.state]; rfl
  have N0 := Fr.nil n0
  have pre0 : ∀ t, Steps p.tables e below (s₁.setTop (mkF m 0 #[.val (.ref a1), .unset, .unset] [])) t → Steps p.tables e below (s₁.setTop (entryFrame m #[(.ref a1)] 3)) t := fun t k => castTop (ef_rm3 m a1) k
  have K0 := Keep.refl h0 [a1]
  obtain ⟨T8, X8, e8, st8⟩ := getF X0 hx hZ hown (host := "") (Or.inl (hw _ (List.mem_of_getElem? (i := 9) rfl))) Via.refl e0 F1 (g := (mkF m 2 #[.val (.ref a1), .unset, .unset] [(.ref a1), (.ref a1)])) rfl rfl (hb hby d3_2)
  obtain ⟨T9, h9, X9, e9, W9, st9⟩ := putF X8 hx hZ hown (host := "") (Or.inl (hw _ (List.mem_of_getElem? (i := 9) rfl))) Via.refl e8 F1 E1 (Or.inl (hw _ (List.mem_of_getElem? (i := 10) rfl))) (hw _ (List.mem_of_getElem? (i := 1) rfl)) (ty := .long) (by decide) rfl rfl (g := (mkF m 9 #[.val (.ref a1), .unset, .unset] [(.long (q1 + (-7046029254386353131 : Int64))), (.ref a1)])) rfl rfl (hb hby d3_9)
  have f10 := F1.same W9
  have f11 := E1.wr W9
  have Zn12 := Nat.le_trans Z0 (Keep.of_wr W9).1
  have N13 := Fr.snoc X9 N0 g1
  have K14 := K0.wr W9 (Or.inl (List.mem_of_getElem? (i := 0) rfl))
  obtain ⟨T15, X15, e15, st15⟩ := getF X9 hx hZ hown (host := "") (Or.inl (hw _ (List.mem_of_getElem? (i := 9) rfl))) Via.refl e9 f10 (g := (mkF m 13 #[.val (.ref a1), .unset, .unset] [(.ref a1)])) rfl rfl (hb hby d3_13)
  obtain ⟨fs, hr, hrun, hended, hW, hsame⟩ := X15.leave (v := some (.long (own_mix (q1 + (-7046029254386353131 : Int64))))) (fun h => by rw [Bd.returns] at h; cases h)
  refine ⟨_, _, pre0 _ ?_, hrun, hended, _, _, rfl, ?_, ⟨_, rfl⟩, hW, hsame.mono (by decide) (by decide)⟩
  · show Steps p.tables e below (s₁.setTop (mkF m 0 #[.val (.ref a1), .unset, .unset] [])) _
    refine XS.aloadN X0.here hx rfl (hb hby d3_0) rfl rfl ?_
    show Steps p.tables e below (s₁.setTop (mkF m 1 #[.val (.ref a1), .unset, .unset] [(.ref a1)])) _
    refine XS.dup X0.here hx rfl (hb hby d3_1) rfl rfl ?_
    show Steps p.tables e below (s₁.setTop (mkF m 2 #[.val (.ref a1), .unset, .unset] [(.ref a1), (.ref a1)])) _
    refine st8 _ ?_
    show Steps p.tables e below (T8.setTop (mkF m 5 #[.val (.ref a1), .unset, .unset] [(.long q1), (.ref a1)])) _
    refine X8.ldc2Long hx hown (mvT hZ (hw _ (List.mem_of_getElem? (i := 16) rfl))) (g := (mkF m 5 #[.val (.ref a1), .unset, .unset] [(.long q1), (.ref a1)])) rfl (hb hby d3_5) _ ?_
    show Steps p.tables e below (T8.setTop (mkF m 8 #[.val (.ref a1), .unset, .unset] [(.long (-7046029254386353131 : Int64)), (.long q1), (.ref a1)])) _
    refine XS.ladd X8.here hx rfl (hb hby d3_8) rfl ?_
    show Steps p.tables e below (T8.setTop (mkF m 9 #[.val (.ref a1), .unset, .unset] [(.long (q1 + (-7046029254386353131 : Int64))), (.ref a1)])) _
    refine st9 _ ?_
    show Steps p.tables e below (T9.setTop (mkF m 12 #[.val (.ref a1), .unset, .unset] [])) _
    refine XS.aloadN X9.here hx rfl (hb hby d3_12) rfl rfl ?_
    show Steps p.tables e below (T9.setTop (mkF m 13 #[.val (.ref a1), .unset, .unset] [(.ref a1)])) _
    refine st15 _ ?_
    show Steps p.tables e below (T15.setTop (mkF m 16 #[.val (.ref a1), .unset, .unset] [(.long (q1 + (-7046029254386353131 : Int64)))])) _
    refine XS.lstoreN X15.here hx rfl (hb hby d3_16) rfl (l' := #[.val (.ref a1), .val (.long (q1 + (-7046029254386353131 : Int64))), .second]) rfl ?_
    show Steps p.tables e below (T15.setTop (mkF m 17 #[.val (.ref a1), .val (.long (q1 + (-7046029254386353131 : Int64))), .second] [])) _
    refine XS.lloadN X15.here hx rfl (hb hby d3_17) rfl ?_
    show Steps p.tables e below (T15.setTop (mkF m 18 #[.val (.ref a1), .val (.long (q1 + (-7046029254386353131 : Int64))), .second] [(.long (q1 + (-7046029254386353131 : Int64)))])) _
    refine XS.lloadN X15.here hx rfl (hb hby d3_18) rfl ?_
    show Steps p.tables e below (T15.setTop (mkF m 19 #[.val (.ref a1), .val (.long (q1 + (-7046029254386353131 : Int64))), .second] [(.long (q1 + (-7046029254386353131 : Int64))), (.long (q1 + (-7046029254386353131 : Int64)))])) _
    refine XS.bipush X15.here hx rfl (hb hby d3_19) ?_
    show Steps p.tables e below (T15.setTop (mkF m 21 #[.val (.ref a1), .val (.long (q1 + (-7046029254386353131 : Int64))), .second] [(.int (30 : Int32)), (.long (q1 + (-7046029254386353131 : Int64))), (.long (q1 + (-7046029254386353131 : Int64)))])) _
    refine XS.lushr X15.here hx rfl (hb hby d3_21) rfl ?_
    show Steps p.tables e below (T15.setTop (mkF m 22 #[.val (.ref a1), .val (.long (q1 + (-7046029254386353131 : Int64))), .second] [(.long (((q1 + (-7046029254386353131 : Int64)).toUInt64 >>> ((30 : Int32) &&& 0x3f).toInt64.toUInt64).toInt64)), (.long (q1 + (-7046029254386353131 : Int64)))])) _
    refine XS.lxor X15.here hx rfl (hb hby d3_22) rfl ?_
    show Steps p.tables e below (T15.setTop (mkF m 23 #[.val (.ref a1), .val (.long (q1 + (-7046029254386353131 : Int64))), .second] [(.long (own_f (30 : Int32) (q1 + (-7046029254386353131 : Int64))))])) _
    refine X15.ldc2Long hx hown (mvT hZ (hw _ (List.mem_of_getElem? (i := 17) rfl))) (g := (mkF m 23 #[.val (.ref a1), .val (.long (q1 + (-7046029254386353131 : Int64))), .second] [(.long (own_f (30 : Int32) (q1 + (-7046029254386353131 : Int64))))])) rfl (hb hby d3_23) _ ?_
    show Steps p.tables e below (T15.setTop (mkF m 26 #[.val (.ref a1), .val (.long (q1 + (-7046029254386353131 : Int64))), .second] [(.long (-4658895280553007687 : Int64)), (.long (own_f (30 : Int32) (q1 + (-7046029254386353131 : Int64))))])) _
    refine XS.lmul X15.here hx rfl (hb hby d3_26) rfl ?_
    show Steps p.tables e below (T15.setTop (mkF m 27 #[.val (.ref a1), .val (.long (q1 + (-7046029254386353131 : Int64))), .second] [(.long ((own_f (30 : Int32) (q1 + (-7046029254386353131 : Int64))) * (-4658895280553007687 : Int64)))])) _
    refine XS.lstoreN X15.here hx rfl (hb hby d3_27) rfl (l' := #[.val (.ref a1), .val (.long ((own_f (30 : Int32) (q1 + (-7046029254386353131 : Int64))) * (-4658895280553007687 : Int64))), .second]) rfl ?_
    show Steps p.tables e below (T15.setTop (mkF m 28 #[.val (.ref a1), .val (.long ((own_f (30 : Int32) (q1 + (-7046029254386353131 : Int64))) * (-4658895280553007687 : Int64))), .second] [])) _
    refine XS.lloadN X15.here hx rfl (hb hby d3_28) rfl ?_
    show Steps p.tables e below (T15.setTop (mkF m 29 #[.val (.ref a1), .val (.long ((own_f (30 : Int32) (q1 + (-7046029254386353131 : Int64))) * (-4658895280553007687 : Int64))), .second] [(.long ((own_f (30 : Int32) (q1 + (-7046029254386353131 : Int64))) * (-4658895280553007687 : Int64)))])) _
    refine XS.lloadN X15.here hx rfl (hb hby d3_29) rfl ?_
    show Steps p.tables e below (T15.setTop (mkF m 30 #[.val (.ref a1), .val (.long ((own_f (30 : Int32) (q1 + (-7046029254386353131 : Int64))) * (-4658895280553007687 : Int64))), .second] [(.long ((own_f (30 : Int32) (q1 + (-7046029254386353131 : Int64))) * (-4658895280553007687 : Int64))), (.long ((own_f (30 : Int32) (q1 + (-7046029254386353131 : Int64))) * (-4658895280553007687 : Int64)))])) _
    refine XS.bipush X15.here hx rfl (hb hby d3_30) ?_
    show Steps p.tables e below (T15.setTop (mkF m 32 #[.val (.ref a1), .val (.long ((own_f (30 : Int32) (q1 + (-7046029254386353131 : Int64))) * (-4658895280553007687 : Int64))), .second] [(.int (27 : Int32)), (.long ((own_f (30 : Int32) (q1 + (-7046029254386353131 : Int64))) * (-4658895280553007687 : Int64))), (.long ((own_f (30 : Int32) (q1 + (-7046029254386353131 : Int64))) * (-4658895280553007687 : Int64)))])) _
    refine XS.lushr X15.here hx rfl (hb hby d3_32) rfl ?_
    show Steps p.tables e below (T15.setTop (mkF m 33 #[.val (.ref a1), .val (.long ((own_f (30 : Int32) (q1 + (-7046029254386353131 : Int64))) * (-4658895280553007687 : Int64))), .second] [(.long ((((own_f (30 : Int32) (q1 + (-7046029254386353131 : Int64))) * (-4658895280553007687 : Int64)).toUInt64 >>> ((27 : Int32) &&& 0x3f).toInt64.toUInt64).toInt64)), (.long ((own_f (30 : Int32) (q1 + (-7046029254386353131 : Int64))) * (-4658895280553007687 : Int64)))])) _
    refine XS.lxor X15.here hx rfl (hb hby d3_33) rfl ?_
    show Steps p.tables e below (T15.setTop (mkF m 34 #[.val (.ref a1), .val (.long ((own_f (30 : Int32) (q1 + (-7046029254386353131 : Int64))) * (-4658895280553007687 : Int64))), .second] [(.long (own_f (27 : Int32) ((own_f (30 : Int32) (q1 + (-7046029254386353131 : Int64))) * (-4658895280553007687 : Int64))))])) _
    refine X15.ldc2Long hx hown (mvT hZ (hw _ (List.mem_of_getElem? (i := 18) rfl))) (g := (mkF m 34 #[.val (.ref a1), .val (.long ((own_f (30 : Int32) (q1 + (-7046029254386353131 : Int64))) * (-4658895280553007687 : Int64))), .second] [(.long (own_f (27 : Int32) ((own_f (30 : Int32) (q1 + (-7046029254386353131 : Int64))) * (-4658895280553007687 : Int64))))])) rfl (hb hby d3_34) _ ?_
    show Steps p.tables e below (T15.setTop (mkF m 37 #[.val (.ref a1), .val (.long ((own_f (30 : Int32) (q1 + (-7046029254386353131 : Int64))) * (-4658895280553007687 : Int64))), .second] [(.long (-7723592293110705685 : Int64)), (.long (own_f (27 : Int32) ((own_f (30 : Int32) (q1 + (-7046029254386353131 : Int64))) * (-4658895280553007687 : Int64))))])) _
    refine XS.lmul X15.here hx rfl (hb hby d3_37) rfl ?_
    show Steps p.tables e below (T15.setTop (mkF m 38 #[.val (.ref a1), .val (.long ((own_f (30 : Int32) (q1 + (-7046029254386353131 : Int64))) * (-4658895280553007687 : Int64))), .second] [(.long ((own_f (27 : Int32) ((own_f (30 : Int32) (q1 + (-7046029254386353131 : Int64))) * (-4658895280553007687 : Int64))) * (-7723592293110705685 : Int64)))])) _
    refine XS.lstoreN X15.here hx rfl (hb hby d3_38) rfl (l' := #[.val (.ref a1), .val (.long ((own_f (27 : Int32) ((own_f (30 : Int32) (q1 + (-7046029254386353131 : Int64))) * (-4658895280553007687 : Int64))) * (-7723592293110705685 : Int64))), .second]) rfl ?_
    show Steps p.tables e below (T15.setTop (mkF m 39 #[.val (.ref a1), .val (.long ((own_f (27 : Int32) ((own_f (30 : Int32) (q1 + (-7046029254386353131 : Int64))) * (-4658895280553007687 : Int64))) * (-7723592293110705685 : Int64))), .second] [])) _
    refine XS.lloadN X15.here hx rfl (hb hby d3_39) rfl ?_
    show Steps p.tables e below (T15.setTop (mkF m 40 #[.val (.ref a1), .val (.long ((own_f (27 : Int32) ((own_f (30 : Int32) (q1 + (-7046029254386353131 : Int64))) * (-4658895280553007687 : Int64))) * (-7723592293110705685 : Int64))), .second] [(.long ((own_f (27 : Int32) ((own_f (30 : Int32) (q1 + (-7046029254386353131 : Int64))) * (-4658895280553007687 : Int64))) * (-7723592293110705685 : Int64)))])) _
    refine XS.lloadN X15.here hx rfl (hb hby d3_40) rfl ?_
    show Steps p.tables e below (T15.setTop (mkF m 41 #[.val (.ref a1), .val (.long ((own_f (27 : Int32) ((own_f (30 : Int32) (q1 + (-7046029254386353131 : Int64))) * (-4658895280553007687 : Int64))) * (-7723592293110705685 : Int64))), .second] [(.long ((own_f (27 : Int32) ((own_f (30 : Int32) (q1 + (-7046029254386353131 : Int64))) * (-4658895280553007687 : Int64))) * (-7723592293110705685 : Int64))), (.long ((own_f (27 : Int32) ((own_f (30 : Int32) (q1 + (-7046029254386353131 : Int64))) * (-4658895280553007687 : Int64))) * (-7723592293110705685 : Int64)))])) _
    refine XS.bipush X15.here hx rfl (hb hby d3_41) ?_
    show Steps p.tables e below (T15.setTop (mkF m 43 #[.val (.ref a1), .val (.long ((own_f (27 : Int32) ((own_f (30 : Int32) (q1 + (-7046029254386353131 : Int64))) * (-4658895280553007687 : Int64))) * (-7723592293110705685 : Int64))), .second] [(.int (31 : Int32)), (.long ((own_f (27 : Int32) ((own_f (30 : Int32) (q1 + (-7046029254386353131 : Int64))) * (-4658895280553007687 : Int64))) * (-7723592293110705685 : Int64))), (.long ((own_f (27 : Int32) ((own_f (30 : Int32) (q1 + (-7046029254386353131 : Int64))) * (-4658895280553007687 : Int64))) * (-7723592293110705685 : Int64)))])) _
    refine XS.lushr X15.here hx rfl (hb hby d3_43) rfl ?_
    show Steps p.tables e below (T15.setTop (mkF m 44 #[.val (.ref a1), .val (.long ((own_f (27 : Int32) ((own_f (30 : Int32) (q1 + (-7046029254386353131 : Int64))) * (-4658895280553007687 : Int64))) * (-7723592293110705685 : Int64))), .second] [(.long ((((own_f (27 : Int32) ((own_f (30 : Int32) (q1 + (-7046029254386353131 : Int64))) * (-4658895280553007687 : Int64))) * (-7723592293110705685 : Int64)).toUInt64 >>> ((31 : Int32) &&& 0x3f).toInt64.toUInt64).toInt64)), (.long ((own_f (27 : Int32) ((own_f (30 : Int32) (q1 + (-7046029254386353131 : Int64))) * (-4658895280553007687 : Int64))) * (-7723592293110705685 : Int64)))])) _
    refine XS.lxor X15.here hx rfl (hb hby d3_44) rfl ?_
    show Steps p.tables e below (T15.setTop (mkF m 45 #[.val (.ref a1), .val (.long ((own_f (27 : Int32) ((own_f (30 : Int32) (q1 + (-7046029254386353131 : Int64))) * (-4658895280553007687 : Int64))) * (-7723592293110705685 : Int64))), .second] [(.long (own_mix (q1 + (-7046029254386353131 : Int64))))])) _
    exact retOut X15 hx Bd.returns rfl (Or.inr (Or.inl ⟨rfl, rfl, _, rfl⟩)) (hb hby d3_45) hr
  · show Qrm3 Z a1 q1 h0 n0 _ T15.heap _
    rw [e15]
    exact ⟨rfl, N13, K14, f10⟩
theorem pd__J_V : parseMethodDescriptor "(J)V" = some ⟨[.long], none⟩ := by decide +kernel
theorem pd___J : parseMethodDescriptor "()J" = some ⟨[], some .long⟩ := by decide +kernel
theorem pn_com_example_flatfinder_flatfinder_generate_DrawsNextPinLaw : plainName "com/example/flatfinder/flatfinder/generate/DrawsNextPinLaw" = true := by first | (simp [plainName, overriddenIn]; done) | decide +kernel
theorem ef_rm0 (m : MethodId) (q0 : Int64) (q1 : Int64) : entryFrame m #[(.long q0), (.long q1)] maxLocals = mkF m 0 #[.val (.long q0), .second, .val (.long q1), .second, .unset, .unset, .unset, .unset, .unset, .unset, .unset, .unset, .unset, .unset, .unset, .unset, .unset] [] := by first | (simp [entryFrame, mkF, argsToLocals, Value.category, maxLocals]; done) | rfl
def Qrm0 (Z : State) (q0 : Int64) (q1 : Int64) (h0 : Heap) (n0 : Nat) (v : Option Value) (h : Heap) (L : List Loc) : Prop := v = some (.int 1) ∧ Fr n0 L
set_option maxRecDepth 65536 in
set_option maxHeartbeats 40000000 in
theorem rm0 (l : Launch) (Z : State) (a0 : Array Value) (hw : ∀ d ∈ tables_1, d.before a0 Z = true) (ws : List Jvm.Cond) (q0 : Int64) (q1 : Int64) (h0 : Heap) (n0 : Nat) (Z0 : n0 ≤ h0.size) :
    MetFree l x (head1 (Jvm.Cond.code x code maxLocals ret :: ws) room_1) (fun a U => a = #[(.long q0), (.long q1)] ∧ Z.Warmed39 U.vm ∧ U.heap = h0) (fun _ _ _ _ _ => True) (fun _ U o U' => ∃ v L, o = .returned v ∧ Qrm0 Z q0 q1 h0 n0 v U'.heap L ∧ FrameEnd U o U' L room_1.cells room_1.slots) := by
  refine MetFree.of_bodySF (plainFor_of_name pn_com_example_flatfinder_flatfinder_generate_DrawsNextPinLaw) hisR ?_
  intro p e s m args below meth c s₁ Bd hml0 hP hK
  obtain ⟨rfl, hZ, hh⟩ := hP
  have hx := Bd.exec
  have hby := Bd.bytes
  have hml : c.maxLocals = 17 := hml0
  have hown : s.vm.findClass "com/example/flatfinder/flatfinder/generate/DrawsNextPinLaw" = some m.cls := findClass_of_methodNamed Bd.named
  have hnm := (name_of_methodNamed Bd.named Bd.method).1
  have X0 : Stand p l e room_1 s m #[(.long q0), (.long q1)] below meth c s₁ [] 0 0 := Stand.of_body Bd
  have e0 : s₁.heap = h0 := by rw [← hh, Bd.state]; rfl
  have N0 := Fr.nil n0
  have pre0 : ∀ t, Steps p.tables e below (s₁.setTop (mkF m 0 #[.val (.long q0), .second, .val (.long q1), .second, .unset, .unset, .unset, .unset, .unset, .unset, .unset, .unset, .unset, .unset, .unset, .unset, .unset] [])) t → Steps p.tables e below (s₁.setTop (entryFrame m #[(.long q0), (.long q1)] maxLocals)) t := fun t k => castTop (ef_rm0 m q0 q1) k
  obtain ⟨T16, h16, X16, e16, E16, A16, D16, U16, st16⟩ := newO X0 hx hZ hown (hw _ (List.mem_of_getElem? (i := 0) rfl)) (hw _ (List.mem_of_getElem? (i := 1) rfl)) (hw _ (List.mem_of_getElem? (i := 2) rfl)) e0 (g := (mkF m 0 #[.val (.long q0), .second, .val (.long q1), .second, .unset, .unset, .unset, .unset, .unset, .unset, .unset, .unset, .unset, .unset, .unset, .unset, .unset] [])) rfl (hb hby at_0) (by decide) (by decide)
  obtain ⟨b16, g16⟩ : ∃ z, z = h0.size := ⟨_, rfl⟩
  rw [← g16] at A16 D16 st16
  have g17 : n0 ≤ b16 := Nat.le_trans Z0 (Nat.le_of_eq g16.symm)
  have Zn18 := Nat.le_trans Z0 E16.1
  have f19 : Fld Z h16 b16 "com/example/flatfinder/flatfinder/generate/Draws" "state" "J" (.long (0 : Int64)) := D16 (Or.inl (hw _ (List.mem_of_getElem? (i := 10) rfl))) (ty := .long) (by decide)
  obtain ⟨_, _, ⟨T20, L20, k20, n20⟩, -, X20, ⟨Lc20, hQ20, l20, y20, z20⟩, st20⟩ := X16.specialBack hx (y := (⟨"com/example/flatfinder/flatfinder/generate/Draws", "<init>", "(J)V"⟩ : MethodName)) rfl hown (mvT hZ (hw _ (List.mem_of_getElem? (i := 3) rfl))) (mvT hZ (hw _ (List.mem_of_getElem? (i := 4) rfl))) (mvT hZ (hw _ (List.mem_of_getElem? (i := 5) rfl))) (by decide) (backOf (W := 1) (rm1 l Z a0 hw [] b16 (0 : Int64)  h16 n0 Zn18 A16 f19 g17) hZ (hw _ (List.mem_of_getElem? (i := 5) rfl)) (hw _ (List.mem_of_getElem? (i := 2) rfl)) (by decide) (by decide)) (g := (mkF m 5 #[.val (.long q0), .second, .val (.long q1), .second, .unset, .unset, .unset, .unset, .unset, .unset, .unset, .unset, .unset, .unset, .unset, .unset, .unset] [(.long (0 : Int64)), (.ref b16), (.ref b16)])) rfl (by rw [hml]; rfl) (Steps.refl _) (a := b16) (argsL := [(.long (0 : Int64))]) (rest := [(.ref b16)]) (lenOf pd__J_V rfl) rfl (by show 2 * 0 + _ ≤ _; exact Nat.le_of_eq rfl) (hb hby at_5) (fun _ _ => ⟨rfl, e16, (by decide : 1 + 0 ≤ _), (by decide : 1 + 0 ≤ _)⟩)
  dsimp only [Pt.U, Pt.locs, Pt.cells, Pt.slots] at X20 l20 y20 z20 st20 hQ20
  subst l20 y20 z20
  obtain ⟨rfl, N20q, K20, Fs20⟩ := hQ20
  have N21 := Fr.app N0 N20q
  have f22 := A16.keep K20
  have Zn23 := Nat.le_trans Zn18 K20.1
  obtain ⟨cq24, kq24, q24a, q24b, q24c⟩ := isOf hZ rfl f22
  obtain ⟨_, _, ⟨T24, L24, k24, n24⟩, -, X24, ⟨Lc24, hQ24, l24, y24, z24⟩, st24⟩ := X20.virtualBack hx (y := (⟨"com/example/flatfinder/flatfinder/generate/Draws", "next", "()J"⟩ : MethodName)) (z := (⟨"com/example/flatfinder/flatfinder/generate/Draws", "next", "()J"⟩ : MethodName)) hown (mvT hZ (hw _ (List.mem_of_getElem? (i := 11) rfl))) (mvT hZ (hw _ (List.mem_of_getElem? (i := 12) rfl))) (notFace_of_selects (args := #[]) (mvT hZ (hw _ (List.mem_of_getElem? (i := 14) rfl)))) (mvT hZ (hw _ (List.mem_of_getElem? (i := 14) rfl))) (mvT hZ (hw _ (List.mem_of_getElem? (i := 13) rfl))) (by decide) (backOf (W := 0) (rm3 l Z a0 hw [] b16 (0 : Int64) T20.heap n0 Zn23 f22 Fs20 g17) hZ (hw _ (List.mem_of_getElem? (i := 15) rfl)) (hw _ (List.mem_of_getElem? (i := 2) rfl)) (by decide) (by decide)) q24a q24c (g := (mkF m 12 #[.val (.long q0), .second, .val (.long q1), .second, .val (.ref b16), .unset, .unset, .unset, .unset, .unset, .unset, .unset, .unset, .unset, .unset, .unset, .unset] [(.ref b16)])) rfl (by rw [hml]; rfl) (Steps.refl _) (argsL := []) (rest := []) (lenOf pd___J rfl) rfl (by show 2 * 0 + _ ≤ _; exact Nat.le_of_eq rfl) (hb hby at_12) (fun _ _ => ⟨rfl, rfl, (by decide : 1 + 0 ≤ _), (by decide : 1 + 0 ≤ _)⟩)
  dsimp only [Pt.U, Pt.locs, Pt.cells, Pt.slots] at X24 l24 y24 z24 st24 hQ24
  subst l24 y24 z24
  obtain ⟨rfl, N24q, K24, Fs24⟩ := hQ24
  have N25 := Fr.app N21 N24q
  have f26 := f22.keep K24
  have Zn27 := Nat.le_trans Zn23 K24.1
  obtain ⟨T28, h28, X28, e28, E28, A28, D28, U28, st28⟩ := newO X24 hx hZ hown (hw _ (List.mem_of_getElem? (i := 0) rfl)) (hw _ (List.mem_of_getElem? (i := 1) rfl)) (hw _ (List.mem_of_getElem? (i := 2) rfl)) rfl (g := (mkF m 29 #[.val (.long q0), .second, .val (.long q1), .second, .val (.ref b16), .val (.int (1 : Int32)), .unset, .unset, .unset, .unset, .unset, .unset, .unset, .unset, .unset, .unset, .unset] [])) rfl (hb hby at_29) (by decide) (by decide)
  obtain ⟨b28, g28⟩ : ∃ z, z = T24.heap.size := ⟨_, rfl⟩
  rw [← g28] at A28 D28 st28
  have g29 : n0 ≤ b28 := Nat.le_trans Zn27 (Nat.le_of_eq g28.symm)
  have ne30 : b16 ≠ b28 := Nat.ne_of_lt (Nat.lt_of_lt_of_le f26.lt (Nat.le_of_eq g28.symm))
  have f31 := f26.ext E28
  have f32 := Fs24.ext E28
  have Zn33 := Nat.le_trans Zn27 E28.1
  have f34 : Fld Z h28 b28 "com/example/flatfinder/flatfinder/generate/Draws" "state" "J" (.long (0 : Int64)) := D28 (Or.inl (hw _ (List.mem_of_getElem? (i := 10) rfl))) (ty := .long) (by decide)
  obtain ⟨_, _, ⟨T35, L35, k35, n35⟩, -, X35, ⟨Lc35, hQ35, l35, y35, z35⟩, st35⟩ := X28.specialBack hx (y := (⟨"com/example/flatfinder/flatfinder/generate/Draws", "<init>", "(J)V"⟩ : MethodName)) rfl hown (mvT hZ (hw _ (List.mem_of_getElem? (i := 3) rfl))) (mvT hZ (hw _ (List.mem_of_getElem? (i := 4) rfl))) (mvT hZ (hw _ (List.mem_of_getElem? (i := 5) rfl))) (by decide) (backOf (W := 1) (rm1 l Z a0 hw [] b28 q0  h28 n0 Zn33 A28 f34 g29) hZ (hw _ (List.mem_of_getElem? (i := 5) rfl)) (hw _ (List.mem_of_getElem? (i := 2) rfl)) (by decide) (by decide)) (g := (mkF m 34 #[.val (.long q0), .second, .val (.long q1), .second, .val (.ref b16), .val (.int (1 : Int32)), .unset, .unset, .unset, .unset, .unset, .unset, .unset, .unset, .unset, .unset, .unset] [(.long q0), (.ref b28), (.ref b28)])) rfl (by rw [hml]; rfl) (Steps.refl _) (a := b28) (argsL := [(.long q0)]) (rest := [(.ref b28)]) (lenOf pd__J_V rfl) rfl (by show 2 * 0 + _ ≤ _; exact Nat.le_of_eq rfl) (hb hby at_34) (fun _ _ => ⟨rfl, e28, (by decide : 2 + 0 ≤ _), (by decide : 2 + 0 ≤ _)⟩)
  dsimp only [Pt.U, Pt.locs, Pt.cells, Pt.slots] at X35 l35 y35 z35 st35 hQ35
  subst l35 y35 z35
  obtain ⟨rfl, N35q, K35, Fs35⟩ := hQ35
  have N36 := Fr.app N25 N35q
  have f37 := f31.keep K35
  have f38 := f32.keep K35 (ninS ne30 nin0)
  have f39 := A28.keep K35
  have Zn40 := Nat.le_trans Zn33 K35.1
  obtain ⟨cq41, kq41, q41a, q41b, q41c⟩ := isOf hZ rfl f39
  obtain ⟨_, _, ⟨T41, L41, k41, n41⟩, -, X41, ⟨Lc41, hQ41, l41, y41, z41⟩, st41⟩ := X35.virtualBack hx (y := (⟨"com/example/flatfinder/flatfinder/generate/Draws", "next", "()J"⟩ : MethodName)) (z := (⟨"com/example/flatfinder/flatfinder/generate/Draws", "next", "()J"⟩ : MethodName)) hown (mvT hZ (hw _ (List.mem_of_getElem? (i := 11) rfl))) (mvT hZ (hw _ (List.mem_of_getElem? (i := 12) rfl))) (notFace_of_selects (args := #[]) (mvT hZ (hw _ (List.mem_of_getElem? (i := 14) rfl)))) (mvT hZ (hw _ (List.mem_of_getElem? (i := 14) rfl))) (mvT hZ (hw _ (List.mem_of_getElem? (i := 13) rfl))) (by decide) (backOf (W := 0) (rm3 l Z a0 hw [] b28 q0 T35.heap n0 Zn40 f39 Fs35 g29) hZ (hw _ (List.mem_of_getElem? (i := 15) rfl)) (hw _ (List.mem_of_getElem? (i := 2) rfl)) (by decide) (by decide)) q41a q41c (g := (mkF m 41 #[.val (.long q0), .second, .val (.long q1), .second, .val (.ref b16), .val (.int (1 : Int32)), .val (.ref b28), .unset, .unset, .unset, .unset, .unset, .unset, .unset, .unset, .unset, .unset] [(.ref b28)])) rfl (by rw [hml]; rfl) (Steps.refl _) (argsL := []) (rest := []) (lenOf pd___J rfl) rfl (by show 2 * 0 + _ ≤ _; exact Nat.le_of_eq rfl) (hb hby at_41) (fun _ _ => ⟨rfl, rfl, (by decide : 2 + 0 ≤ _), (by decide : 2 + 0 ≤ _)⟩)
  dsimp only [Pt.U, Pt.locs, Pt.cells, Pt.slots] at X41 l41 y41 z41 st41 hQ41
  subst l41 y41 z41
  obtain ⟨rfl, N41q, K41, Fs41⟩ := hQ41
  have N42 := Fr.app N36 N41q
  have f43 := f37.keep K41
  have f44 := f38.keep K41 (ninS ne30 nin0)
  have f45 := f39.keep K41
  have Zn46 := Nat.le_trans Zn40 K41.1
  obtain ⟨cq47, kq47, q47a, q47b, q47c⟩ := isOf hZ rfl f45
  obtain ⟨_, _, ⟨T47, L47, k47, n47⟩, -, X47, ⟨Lc47, hQ47, l47, y47, z47⟩, st47⟩ := X41.virtualBack hx (y := (⟨"com/example/flatfinder/flatfinder/generate/Draws", "next", "()J"⟩ : MethodName)) (z := (⟨"com/example/flatfinder/flatfinder/generate/Draws", "next", "()J"⟩ : MethodName)) hown (mvT hZ (hw _ (List.mem_of_getElem? (i := 11) rfl))) (mvT hZ (hw _ (List.mem_of_getElem? (i := 12) rfl))) (notFace_of_selects (args := #[]) (mvT hZ (hw _ (List.mem_of_getElem? (i := 14) rfl)))) (mvT hZ (hw _ (List.mem_of_getElem? (i := 14) rfl))) (mvT hZ (hw _ (List.mem_of_getElem? (i := 13) rfl))) (by decide) (backOf (W := 0) (rm3 l Z a0 hw [] b28 (q0 + (-7046029254386353131 : Int64)) T41.heap n0 Zn46 f45 Fs41 g29) hZ (hw _ (List.mem_of_getElem? (i := 15) rfl)) (hw _ (List.mem_of_getElem? (i := 2) rfl)) (by decide) (by decide)) q47a q47c (g := (mkF m 48 #[.val (.long q0), .second, .val (.long q1), .second, .val (.ref b16), .val (.int (1 : Int32)), .val (.ref b28), .val (.long (own_mix (q0 + (-7046029254386353131 : Int64)))), .second, .unset, .unset, .unset, .unset, .unset, .unset, .unset, .unset] [(.ref b28)])) rfl (by rw [hml]; rfl) (Steps.refl _) (argsL := []) (rest := []) (lenOf pd___J rfl) rfl (by show 2 * 0 + _ ≤ _; exact Nat.le_of_eq rfl) (hb hby at_48) (fun _ _ => ⟨rfl, rfl, (by decide : 2 + 0 ≤ _), (by decide : 2 + 0 ≤ _)⟩)
  dsimp only [Pt.U, Pt.locs, Pt.cells, Pt.slots] at X47 l47 y47 z47 st47 hQ47
  subst l47 y47 z47
  obtain ⟨rfl, N47q, K47, Fs47⟩ := hQ47
  have N48 := Fr.app N42 N47q
  have f49 := f43.keep K47
  have f50 := f44.keep K47 (ninS ne30 nin0)
  have f51 := f45.keep K47
  have Zn52 := Nat.le_trans Zn46 K47.1
  obtain ⟨T53, h53, X53, e53, E53, A53, D53, U53, st53⟩ := newO X47 hx hZ hown (hw _ (List.mem_of_getElem? (i := 0) rfl)) (hw _ (List.mem_of_getElem? (i := 1) rfl)) (hw _ (List.mem_of_getElem? (i := 2) rfl)) rfl (g := (mkF m 53 #[.val (.long q0), .second, .val (.long q1), .second, .val (.ref b16), .val (.int (1 : Int32)), .val (.ref b28), .val (.long (own_mix (q0 + (-7046029254386353131 : Int64)))), .second, .val (.long (own_mix ((q0 + (-7046029254386353131 : Int64)) + (-7046029254386353131 : Int64)))), .second, .unset, .unset, .unset, .unset, .unset, .unset] [])) rfl (hb hby at_53) (by decide) (by decide)
  obtain ⟨b53, g53⟩ : ∃ z, z = T47.heap.size := ⟨_, rfl⟩
  rw [← g53] at A53 D53 st53
  have g54 : n0 ≤ b53 := Nat.le_trans Zn52 (Nat.le_of_eq g53.symm)
  have ne55 : b16 ≠ b53 := Nat.ne_of_lt (Nat.lt_of_lt_of_le f49.lt (Nat.le_of_eq g53.symm))
  have ne56 : b28 ≠ b53 := Nat.ne_of_lt (Nat.lt_of_lt_of_le f51.lt (Nat.le_of_eq g53.symm))
  have f57 := f49.ext E53
  have f58 := f50.ext E53
  have f59 := f51.ext E53
  have f60 := Fs47.ext E53
  have Zn61 := Nat.le_trans Zn52 E53.1
  have f62 : Fld Z h53 b53 "com/example/flatfinder/flatfinder/generate/Draws" "state" "J" (.long (0 : Int64)) := D53 (Or.inl (hw _ (List.mem_of_getElem? (i := 10) rfl))) (ty := .long) (by decide)
  obtain ⟨_, _, ⟨T63, L63, k63, n63⟩, -, X63, ⟨Lc63, hQ63, l63, y63, z63⟩, st63⟩ := X53.specialBack hx (y := (⟨"com/example/flatfinder/flatfinder/generate/Draws", "<init>", "(J)V"⟩ : MethodName)) rfl hown (mvT hZ (hw _ (List.mem_of_getElem? (i := 3) rfl))) (mvT hZ (hw _ (List.mem_of_getElem? (i := 4) rfl))) (mvT hZ (hw _ (List.mem_of_getElem? (i := 5) rfl))) (by decide) (backOf (W := 1) (rm1 l Z a0 hw [] b53 (q0 + (-7046029254386353131 : Int64))  h53 n0 Zn61 A53 f62 g54) hZ (hw _ (List.mem_of_getElem? (i := 5) rfl)) (hw _ (List.mem_of_getElem? (i := 2) rfl)) (by decide) (by decide)) (g := (mkF m 62 #[.val (.long q0), .second, .val (.long q1), .second, .val (.ref b16), .val (.int (1 : Int32)), .val (.ref b28), .val (.long (own_mix (q0 + (-7046029254386353131 : Int64)))), .second, .val (.long (own_mix ((q0 + (-7046029254386353131 : Int64)) + (-7046029254386353131 : Int64)))), .second, .unset, .unset, .unset, .unset, .unset, .unset] [(.long (q0 + (-7046029254386353131 : Int64))), (.ref b53), (.ref b53)])) rfl (by rw [hml]; rfl) (Steps.refl _) (a := b53) (argsL := [(.long (q0 + (-7046029254386353131 : Int64)))]) (rest := [(.ref b53)]) (lenOf pd__J_V rfl) rfl (by show 2 * 0 + _ ≤ _; exact Nat.le_of_eq rfl) (hb hby at_62) (fun _ _ => ⟨rfl, e53, (by decide : 3 + 0 ≤ _), (by decide : 3 + 0 ≤ _)⟩)
  dsimp only [Pt.U, Pt.locs, Pt.cells, Pt.slots] at X63 l63 y63 z63 st63 hQ63
  subst l63 y63 z63
  obtain ⟨rfl, N63q, K63, Fs63⟩ := hQ63
  have N64 := Fr.app N48 N63q
  have f65 := f57.keep K63
  have f66 := f58.keep K63 (ninS ne55 nin0)
  have f67 := f59.keep K63
  have f68 := f60.keep K63 (ninS ne56 nin0)
  have f69 := A53.keep K63
  have Zn70 := Nat.le_trans Zn61 K63.1
  obtain ⟨cq71, kq71, q71a, q71b, q71c⟩ := isOf hZ rfl f69
  obtain ⟨_, _, ⟨T71, L71, k71, n71⟩, -, X71, ⟨Lc71, hQ71, l71, y71, z71⟩, st71⟩ := X63.virtualBack hx (y := (⟨"com/example/flatfinder/flatfinder/generate/Draws", "next", "()J"⟩ : MethodName)) (z := (⟨"com/example/flatfinder/flatfinder/generate/Draws", "next", "()J"⟩ : MethodName)) hown (mvT hZ (hw _ (List.mem_of_getElem? (i := 11) rfl))) (mvT hZ (hw _ (List.mem_of_getElem? (i := 12) rfl))) (notFace_of_selects (args := #[]) (mvT hZ (hw _ (List.mem_of_getElem? (i := 14) rfl)))) (mvT hZ (hw _ (List.mem_of_getElem? (i := 14) rfl))) (mvT hZ (hw _ (List.mem_of_getElem? (i := 13) rfl))) (by decide) (backOf (W := 2) (rm3 l Z a0 hw [] b53 (q0 + (-7046029254386353131 : Int64)) T63.heap n0 Zn70 f69 Fs63 g54) hZ (hw _ (List.mem_of_getElem? (i := 15) rfl)) (hw _ (List.mem_of_getElem? (i := 2) rfl)) (by decide) (by decide)) q71a q71c (g := (mkF m 71 #[.val (.long q0), .second, .val (.long q1), .second, .val (.ref b16), .val (.int (1 : Int32)), .val (.ref b28), .val (.long (own_mix (q0 + (-7046029254386353131 : Int64)))), .second, .val (.long (own_mix ((q0 + (-7046029254386353131 : Int64)) + (-7046029254386353131 : Int64)))), .second, .val (.ref b53), .unset, .unset, .unset, .unset, .unset] [(.ref b53), (.long (own_mix ((q0 + (-7046029254386353131 : Int64)) + (-7046029254386353131 : Int64))))])) rfl (by rw [hml]; rfl) (Steps.refl _) (argsL := []) (rest := [(.long (own_mix ((q0 + (-7046029254386353131 : Int64)) + (-7046029254386353131 : Int64))))]) (lenOf pd___J rfl) rfl (by show 2 * 0 + _ ≤ _; exact Nat.le_of_eq rfl) (hb hby at_71) (fun _ _ => ⟨rfl, rfl, (by decide : 3 + 0 ≤ _), (by decide : 3 + 0 ≤ _)⟩)
  dsimp only [Pt.U, Pt.locs, Pt.cells, Pt.slots] at X71 l71 y71 z71 st71 hQ71
  subst l71 y71 z71
  obtain ⟨rfl, N71q, K71, Fs71⟩ := hQ71
  have N72 := Fr.app N64 N71q
  have f73 := f65.keep K71
  have f74 := f66.keep K71 (ninS ne55 nin0)
  have f75 := f67.keep K71
  have f76 := f68.keep K71 (ninS ne56 nin0)
  have f77 := f69.keep K71
  have Zn78 := Nat.le_trans Zn70 K71.1
  obtain ⟨T79, h79, X79, e79, E79, A79, D79, U79, st79⟩ := newO X71 hx hZ hown (hw _ (List.mem_of_getElem? (i := 0) rfl)) (hw _ (List.mem_of_getElem? (i := 1) rfl)) (hw _ (List.mem_of_getElem? (i := 2) rfl)) rfl (g := (mkF m 85 #[.val (.long q0), .second, .val (.long q1), .second, .val (.ref b16), .val (.int (1 : Int32)), .val (.ref b28), .val (.long (own_mix (q0 + (-7046029254386353131 : Int64)))), .second, .val (.long (own_mix ((q0 + (-7046029254386353131 : Int64)) + (-7046029254386353131 : Int64)))), .second, .val (.ref b53), .val (.int (1 : Int32)), .unset, .unset, .unset, .unset] [])) rfl (hb hby at_85) (by decide) (by decide)
  obtain ⟨b79, g79⟩ : ∃ z, z = T71.heap.size := ⟨_, rfl⟩
  rw [← g79] at A79 D79 st79
  have g80 : n0 ≤ b79 := Nat.le_trans Zn78 (Nat.le_of_eq g79.symm)
  have ne81 : b16 ≠ b79 := Nat.ne_of_lt (Nat.lt_of_lt_of_le f73.lt (Nat.le_of_eq g79.symm))
  have ne82 : b28 ≠ b79 := Nat.ne_of_lt (Nat.lt_of_lt_of_le f75.lt (Nat.le_of_eq g79.symm))
  have ne83 : b53 ≠ b79 := Nat.ne_of_lt (Nat.lt_of_lt_of_le f77.lt (Nat.le_of_eq g79.symm))
  have f84 := f73.ext E79
  have f85 := f74.ext E79
  have f86 := f75.ext E79
  have f87 := f76.ext E79
  have f88 := f77.ext E79
  have f89 := Fs71.ext E79
  have Zn90 := Nat.le_trans Zn78 E79.1
  have f91 : Fld Z h79 b79 "com/example/flatfinder/flatfinder/generate/Draws" "state" "J" (.long (0 : Int64)) := D79 (Or.inl (hw _ (List.mem_of_getElem? (i := 10) rfl))) (ty := .long) (by decide)
  obtain ⟨_, _, ⟨T92, L92, k92, n92⟩, -, X92, ⟨Lc92, hQ92, l92, y92, z92⟩, st92⟩ := X79.specialBack hx (y := (⟨"com/example/flatfinder/flatfinder/generate/Draws", "<init>", "(J)V"⟩ : MethodName)) rfl hown (mvT hZ (hw _ (List.mem_of_getElem? (i := 3) rfl))) (mvT hZ (hw _ (List.mem_of_getElem? (i := 4) rfl))) (mvT hZ (hw _ (List.mem_of_getElem? (i := 5) rfl))) (by decide) (backOf (W := 1) (rm1 l Z a0 hw [] b79 q1  h79 n0 Zn90 A79 f91 g80) hZ (hw _ (List.mem_of_getElem? (i := 5) rfl)) (hw _ (List.mem_of_getElem? (i := 2) rfl)) (by decide) (by decide)) (g := (mkF m 90 #[.val (.long q0), .second, .val (.long q1), .second, .val (.ref b16), .val (.int (1 : Int32)), .val (.ref b28), .val (.long (own_mix (q0 + (-7046029254386353131 : Int64)))), .second, .val (.long (own_mix ((q0 + (-7046029254386353131 : Int64)) + (-7046029254386353131 : Int64)))), .second, .val (.ref b53), .val (.int (1 : Int32)), .unset, .unset, .unset, .unset] [(.long q1), (.ref b79), (.ref b79)])) rfl (by rw [hml]; rfl) (Steps.refl _) (a := b79) (argsL := [(.long q1)]) (rest := [(.ref b79)]) (lenOf pd__J_V rfl) rfl (by show 2 * 0 + _ ≤ _; exact Nat.le_of_eq rfl) (hb hby at_90) (fun _ _ => ⟨rfl, e79, (by decide : 4 + 0 ≤ _), (by decide : 4 + 0 ≤ _)⟩)
  dsimp only [Pt.U, Pt.locs, Pt.cells, Pt.slots] at X92 l92 y92 z92 st92 hQ92
  subst l92 y92 z92
  obtain ⟨rfl, N92q, K92, Fs92⟩ := hQ92
  have N93 := Fr.app N72 N92q
  have f94 := f84.keep K92
  have f95 := f85.keep K92 (ninS ne81 nin0)
  have f96 := f86.keep K92
  have f97 := f87.keep K92 (ninS ne82 nin0)
  have f98 := f88.keep K92
  have f99 := f89.keep K92 (ninS ne83 nin0)
  have f100 := A79.keep K92
  have Zn101 := Nat.le_trans Zn90 K92.1
  obtain ⟨cq102, kq102, q102a, q102b, q102c⟩ := isOf hZ rfl f100
  obtain ⟨_, _, ⟨T102, L102, k102, n102⟩, -, X102, ⟨Lc102, hQ102, l102, y102, z102⟩, st102⟩ := X92.virtualBack hx (y := (⟨"com/example/flatfinder/flatfinder/generate/Draws", "next", "()J"⟩ : MethodName)) (z := (⟨"com/example/flatfinder/flatfinder/generate/Draws", "next", "()J"⟩ : MethodName)) hown (mvT hZ (hw _ (List.mem_of_getElem? (i := 11) rfl))) (mvT hZ (hw _ (List.mem_of_getElem? (i := 12) rfl))) (notFace_of_selects (args := #[]) (mvT hZ (hw _ (List.mem_of_getElem? (i := 14) rfl)))) (mvT hZ (hw _ (List.mem_of_getElem? (i := 14) rfl))) (mvT hZ (hw _ (List.mem_of_getElem? (i := 13) rfl))) (by decide) (backOf (W := 0) (rm3 l Z a0 hw [] b79 q1 T92.heap n0 Zn101 f100 Fs92 g80) hZ (hw _ (List.mem_of_getElem? (i := 15) rfl)) (hw _ (List.mem_of_getElem? (i := 2) rfl)) (by decide) (by decide)) q102a q102c (g := (mkF m 97 #[.val (.long q0), .second, .val (.long q1), .second, .val (.ref b16), .val (.int (1 : Int32)), .val (.ref b28), .val (.long (own_mix (q0 + (-7046029254386353131 : Int64)))), .second, .val (.long (own_mix ((q0 + (-7046029254386353131 : Int64)) + (-7046029254386353131 : Int64)))), .second, .val (.ref b53), .val (.int (1 : Int32)), .val (.ref b79), .unset, .unset, .unset] [(.ref b79)])) rfl (by rw [hml]; rfl) (Steps.refl _) (argsL := []) (rest := []) (lenOf pd___J rfl) rfl (by show 2 * 0 + _ ≤ _; exact Nat.le_of_eq rfl) (hb hby at_97) (fun _ _ => ⟨rfl, rfl, (by decide : 4 + 0 ≤ _), (by decide : 4 + 0 ≤ _)⟩)
  dsimp only [Pt.U, Pt.locs, Pt.cells, Pt.slots] at X102 l102 y102 z102 st102 hQ102
  subst l102 y102 z102
  obtain ⟨rfl, N102q, K102, Fs102⟩ := hQ102
  have N103 := Fr.app N93 N102q
  have f104 := f94.keep K102
  have f105 := f95.keep K102 (ninS ne81 nin0)
  have f106 := f96.keep K102
  have f107 := f97.keep K102 (ninS ne82 nin0)
  have f108 := f98.keep K102
  have f109 := f99.keep K102 (ninS ne83 nin0)
  have f110 := f100.keep K102
  have Zn111 := Nat.le_trans Zn101 K102.1
  obtain ⟨v113, hv113⟩ : ∃ v : Int32, v = if q0 = q1 then (0 : Int32) else (1 : Int32) := ⟨_, rfl⟩
  obtain ⟨v115, hv115⟩ : ∃ v : Int32, v = if (own_mix (q0 + (-7046029254386353131 : Int64))) = (own_mix (q1 + (-7046029254386353131 : Int64))) then (0 : Int32) else (1 : Int32) := ⟨_, rfl⟩
  obtain ⟨fs, hr, hrun, hended, hW, hsame⟩ := X102.leave (v := some (.int (1 : Int32))) (fun h => by rw [Bd.returns] at h; cases h)
  refine ⟨_, _, pre0 _ ?_, hrun, hended, _, _, rfl, ?_, ⟨_, rfl⟩, hW, hsame.mono (by decide) (by decide)⟩
  · show Steps p.tables e below (s₁.setTop (mkF m 0 #[.val (.long q0), .second, .val (.long q1), .second, .unset, .unset, .unset, .unset, .unset, .unset, .unset, .unset, .unset, .unset, .unset, .unset, .unset] [])) _
    refine st16 _ ?_
    show Steps p.tables e below (T16.setTop (mkF m 3 #[.val (.long q0), .second, .val (.long q1), .second, .unset, .unset, .unset, .unset, .unset, .unset, .unset, .unset, .unset, .unset, .unset, .unset, .unset] [(.ref b16)])) _
    refine XS.dup X16.here hx rfl (hb hby at_3) rfl rfl ?_
    show Steps p.tables e below (T16.setTop (mkF m 4 #[.val (.long q0), .second, .val (.long q1), .second, .unset, .unset, .unset, .unset, .unset, .unset, .unset, .unset, .unset, .unset, .unset, .unset, .unset] [(.ref b16), (.ref b16)])) _
    refine XS.lconst X16.here hx rfl (hb hby at_4) ?_
    show Steps p.tables e below (T16.setTop (mkF m 5 #[.val (.long q0), .second, .val (.long q1), .second, .unset, .unset, .unset, .unset, .unset, .unset, .unset, .unset, .unset, .unset, .unset, .unset, .unset] [(.long (0 : Int64)), (.ref b16), (.ref b16)])) _
    refine st20.trans ?_
    show Steps p.tables e below (T20.setTop (mkF m 8 #[.val (.long q0), .second, .val (.long q1), .second, .unset, .unset, .unset, .unset, .unset, .unset, .unset, .unset, .unset, .unset, .unset, .unset, .unset] [(.ref b16)])) _
    refine XS.astore X20.here hx rfl (hb hby at_8) rfl rfl (l' := #[.val (.long q0), .second, .val (.long q1), .second, .val (.ref b16), .unset, .unset, .unset, .unset, .unset, .unset, .unset, .unset, .unset, .unset, .unset, .unset]) rfl ?_
    show Steps p.tables e below (T20.setTop (mkF m 10 #[.val (.long q0), .second, .val (.long q1), .second, .val (.ref b16), .unset, .unset, .unset, .unset, .unset, .unset, .unset, .unset, .unset, .unset, .unset, .unset] [])) _
    refine XS.aload X20.here hx rfl (hb hby at_10) rfl rfl ?_
    show Steps p.tables e below (T20.setTop (mkF m 12 #[.val (.long q0), .second, .val (.long q1), .second, .val (.ref b16), .unset, .unset, .unset, .unset, .unset, .unset, .unset, .unset, .unset, .unset, .unset, .unset] [(.ref b16)])) _
    refine st24.trans ?_
    show Steps p.tables e below (T24.setTop (mkF m 15 #[.val (.long q0), .second, .val (.long q1), .second, .val (.ref b16), .unset, .unset, .unset, .unset, .unset, .unset, .unset, .unset, .unset, .unset, .unset, .unset] [(.long (own_mix ((0 : Int64) + (-7046029254386353131 : Int64))))])) _
    refine X24.ldc2Long hx hown (mvT hZ (hw _ (List.mem_of_getElem? (i := 19) rfl))) (g := (mkF m 15 #[.val (.long q0), .second, .val (.long q1), .second, .val (.ref b16), .unset, .unset, .unset, .unset, .unset, .unset, .unset, .unset, .unset, .unset, .unset, .unset] [(.long (own_mix ((0 : Int64) + (-7046029254386353131 : Int64))))])) rfl (hb hby at_15) _ ?_
    show Steps p.tables e below (T24.setTop (mkF m 18 #[.val (.long q0), .second, .val (.long q1), .second, .val (.ref b16), .unset, .unset, .unset, .unset, .unset, .unset, .unset, .unset, .unset, .unset, .unset, .unset] [(.long (-2152535657050944081 : Int64)), (.long (own_mix ((0 : Int64) + (-7046029254386353131 : Int64))))])) _
    refine XS.lcmp X24.here hx rfl (hb hby at_18) rfl ?_
    show Steps p.tables e below (T24.setTop (mkF m 19 #[.val (.long q0), .second, .val (.long q1), .second, .val (.ref b16), .unset, .unset, .unset, .unset, .unset, .unset, .unset, .unset, .unset, .unset, .unset, .unset] [(.int (lcmpW (own_mix ((0 : Int64) + (-7046029254386353131 : Int64))) (-2152535657050944081 : Int64)))])) _
    refine XS.ifNo X24.here hx rfl (hb hby at_19) rfl ((if0 _ _).trans (teq ((lw_eq _ _).2 own_known)).2) ?_
    show Steps p.tables e below (T24.setTop (mkF m 22 #[.val (.long q0), .second, .val (.long q1), .second, .val (.ref b16), .unset, .unset, .unset, .unset, .unset, .unset, .unset, .unset, .unset, .unset, .unset, .unset] [])) _
    refine XS.iconst X24.here hx rfl (hb hby at_22) ?_
    show Steps p.tables e below (T24.setTop (mkF m 23 #[.val (.long q0), .second, .val (.long q1), .second, .val (.ref b16), .unset, .unset, .unset, .unset, .unset, .unset, .unset, .unset, .unset, .unset, .unset, .unset] [(.int (1 : Int32))])) _
    refine XS.goto X24.here hx rfl (pc0 := 23) (pc' := 27) rfl (hb hby at_23) (by decide) (by decide) ?_
    show Steps p.tables e below (T24.setTop (mkF m 27 #[.val (.long q0), .second, .val (.long q1), .second, .val (.ref b16), .unset, .unset, .unset, .unset, .unset, .unset, .unset, .unset, .unset, .unset, .unset, .unset] [(.int (1 : Int32))])) _
    refine XS.istore X24.here hx rfl (hb hby at_27) rfl (l' := #[.val (.long q0), .second, .val (.long q1), .second, .val (.ref b16), .val (.int (1 : Int32)), .unset, .unset, .unset, .unset, .unset, .unset, .unset, .unset, .unset, .unset, .unset]) rfl ?_
    show Steps p.tables e below (T24.setTop (mkF m 29 #[.val (.long q0), .second, .val (.long q1), .second, .val (.ref b16), .val (.int (1 : Int32)), .unset, .unset, .unset, .unset, .unset, .unset, .unset, .unset, .unset, .unset, .unset] [])) _
    refine st28 _ ?_
    show Steps p.tables e below (T28.setTop (mkF m 32 #[.val (.long q0), .second, .val (.long q1), .second, .val (.ref b16), .val (.int (1 : Int32)), .unset, .unset, .unset, .unset, .unset, .unset, .unset, .unset, .unset, .unset, .unset] [(.ref b28)])) _
    refine XS.dup X28.here hx rfl (hb hby at_32) rfl rfl ?_
    show Steps p.tables e below (T28.setTop (mkF m 33 #[.val (.long q0), .second, .val (.long q1), .second, .val (.ref b16), .val (.int (1 : Int32)), .unset, .unset, .unset, .unset, .unset, .unset, .unset, .unset, .unset, .unset, .unset] [(.ref b28), (.ref b28)])) _
    refine XS.lloadN X28.here hx rfl (hb hby at_33) rfl ?_
    show Steps p.tables e below (T28.setTop (mkF m 34 #[.val (.long q0), .second, .val (.long q1), .second, .val (.ref b16), .val (.int (1 : Int32)), .unset, .unset, .unset, .unset, .unset, .unset, .unset, .unset, .unset, .unset, .unset] [(.long q0), (.ref b28), (.ref b28)])) _
    refine st35.trans ?_
    show Steps p.tables e below (T35.setTop (mkF m 37 #[.val (.long q0), .second, .val (.long q1), .second, .val (.ref b16), .val (.int (1 : Int32)), .unset, .unset, .unset, .unset, .unset, .unset, .unset, .unset, .unset, .unset, .unset] [(.ref b28)])) _
    refine XS.astore X35.here hx rfl (hb hby at_37) rfl rfl (l' := #[.val (.long q0), .second, .val (.long q1), .second, .val (.ref b16), .val (.int (1 : Int32)), .val (.ref b28), .unset, .unset, .unset, .unset, .unset, .unset, .unset, .unset, .unset, .unset]) rfl ?_
    show Steps p.tables e below (T35.setTop (mkF m 39 #[.val (.long q0), .second, .val (.long q1), .second, .val (.ref b16), .val (.int (1 : Int32)), .val (.ref b28), .unset, .unset, .unset, .unset, .unset, .unset, .unset, .unset, .unset, .unset] [])) _
    refine XS.aload X35.here hx rfl (hb hby at_39) rfl rfl ?_
    show Steps p.tables e below (T35.setTop (mkF m 41 #[.val (.long q0), .second, .val (.long q1), .second, .val (.ref b16), .val (.int (1 : Int32)), .val (.ref b28), .unset, .unset, .unset, .unset, .unset, .unset, .unset, .unset, .unset, .unset] [(.ref b28)])) _
    refine st41.trans ?_
    show Steps p.tables e below (T41.setTop (mkF m 44 #[.val (.long q0), .second, .val (.long q1), .second, .val (.ref b16), .val (.int (1 : Int32)), .val (.ref b28), .unset, .unset, .unset, .unset, .unset, .unset, .unset, .unset, .unset, .unset] [(.long (own_mix (q0 + (-7046029254386353131 : Int64))))])) _
    refine XS.lstore X41.here hx rfl (hb hby at_44) rfl (l' := #[.val (.long q0), .second, .val (.long q1), .second, .val (.ref b16), .val (.int (1 : Int32)), .val (.ref b28), .val (.long (own_mix (q0 + (-7046029254386353131 : Int64)))), .second, .unset, .unset, .unset, .unset, .unset, .unset, .unset, .unset]) rfl ?_
    show Steps p.tables e below (T41.setTop (mkF m 46 #[.val (.long q0), .second, .val (.long q1), .second, .val (.ref b16), .val (.int (1 : Int32)), .val (.ref b28), .val (.long (own_mix (q0 + (-7046029254386353131 : Int64)))), .second, .unset, .unset, .unset, .unset, .unset, .unset, .unset, .unset] [])) _
    refine XS.aload X41.here hx rfl (hb hby at_46) rfl rfl ?_
    show Steps p.tables e below (T41.setTop (mkF m 48 #[.val (.long q0), .second, .val (.long q1), .second, .val (.ref b16), .val (.int (1 : Int32)), .val (.ref b28), .val (.long (own_mix (q0 + (-7046029254386353131 : Int64)))), .second, .unset, .unset, .unset, .unset, .unset, .unset, .unset, .unset] [(.ref b28)])) _
    refine st47.trans ?_
    show Steps p.tables e below (T47.setTop (mkF m 51 #[.val (.long q0), .second, .val (.long q1), .second, .val (.ref b16), .val (.int (1 : Int32)), .val (.ref b28), .val (.long (own_mix (q0 + (-7046029254386353131 : Int64)))), .second, .unset, .unset, .unset, .unset, .unset, .unset, .unset, .unset] [(.long (own_mix ((q0 + (-7046029254386353131 : Int64)) + (-7046029254386353131 : Int64))))])) _
    refine XS.lstore X47.here hx rfl (hb hby at_51) rfl (l' := #[.val (.long q0), .second, .val (.long q1), .second, .val (.ref b16), .val (.int (1 : Int32)), .val (.ref b28), .val (.long (own_mix (q0 + (-7046029254386353131 : Int64)))), .second, .val (.long (own_mix ((q0 + (-7046029254386353131 : Int64)) + (-7046029254386353131 : Int64)))), .second, .unset, .unset, .unset, .unset, .unset, .unset]) rfl ?_
    show Steps p.tables e below (T47.setTop (mkF m 53 #[.val (.long q0), .second, .val (.long q1), .second, .val (.ref b16), .val (.int (1 : Int32)), .val (.ref b28), .val (.long (own_mix (q0 + (-7046029254386353131 : Int64)))), .second, .val (.long (own_mix ((q0 + (-7046029254386353131 : Int64)) + (-7046029254386353131 : Int64)))), .second, .unset, .unset, .unset, .unset, .unset, .unset] [])) _
    refine st53 _ ?_
    show Steps p.tables e below (T53.setTop (mkF m 56 #[.val (.long q0), .second, .val (.long q1), .second, .val (.ref b16), .val (.int (1 : Int32)), .val (.ref b28), .val (.long (own_mix (q0 + (-7046029254386353131 : Int64)))), .second, .val (.long (own_mix ((q0 + (-7046029254386353131 : Int64)) + (-7046029254386353131 : Int64)))), .second, .unset, .unset, .unset, .unset, .unset, .unset] [(.ref b53)])) _
    refine XS.dup X53.here hx rfl (hb hby at_56) rfl rfl ?_
    show Steps p.tables e below (T53.setTop (mkF m 57 #[.val (.long q0), .second, .val (.long q1), .second, .val (.ref b16), .val (.int (1 : Int32)), .val (.ref b28), .val (.long (own_mix (q0 + (-7046029254386353131 : Int64)))), .second, .val (.long (own_mix ((q0 + (-7046029254386353131 : Int64)) + (-7046029254386353131 : Int64)))), .second, .unset, .unset, .unset, .unset, .unset, .unset] [(.ref b53), (.ref b53)])) _
    refine XS.lloadN X53.here hx rfl (hb hby at_57) rfl ?_
    show Steps p.tables e below (T53.setTop (mkF m 58 #[.val (.long q0), .second, .val (.long q1), .second, .val (.ref b16), .val (.int (1 : Int32)), .val (.ref b28), .val (.long (own_mix (q0 + (-7046029254386353131 : Int64)))), .second, .val (.long (own_mix ((q0 + (-7046029254386353131 : Int64)) + (-7046029254386353131 : Int64)))), .second, .unset, .unset, .unset, .unset, .unset, .unset] [(.long q0), (.ref b53), (.ref b53)])) _
    refine X53.ldc2Long hx hown (mvT hZ (hw _ (List.mem_of_getElem? (i := 20) rfl))) (g := (mkF m 58 #[.val (.long q0), .second, .val (.long q1), .second, .val (.ref b16), .val (.int (1 : Int32)), .val (.ref b28), .val (.long (own_mix (q0 + (-7046029254386353131 : Int64)))), .second, .val (.long (own_mix ((q0 + (-7046029254386353131 : Int64)) + (-7046029254386353131 : Int64)))), .second, .unset, .unset, .unset, .unset, .unset, .unset] [(.long q0), (.ref b53), (.ref b53)])) rfl (hb hby at_58) _ ?_
    show Steps p.tables e below (T53.setTop (mkF m 61 #[.val (.long q0), .second, .val (.long q1), .second, .val (.ref b16), .val (.int (1 : Int32)), .val (.ref b28), .val (.long (own_mix (q0 + (-7046029254386353131 : Int64)))), .second, .val (.long (own_mix ((q0 + (-7046029254386353131 : Int64)) + (-7046029254386353131 : Int64)))), .second, .unset, .unset, .unset, .unset, .unset, .unset] [(.long (-7046029254386353131 : Int64)), (.long q0), (.ref b53), (.ref b53)])) _
    refine XS.ladd X53.here hx rfl (hb hby at_61) rfl ?_
    show Steps p.tables e below (T53.setTop (mkF m 62 #[.val (.long q0), .second, .val (.long q1), .second, .val (.ref b16), .val (.int (1 : Int32)), .val (.ref b28), .val (.long (own_mix (q0 + (-7046029254386353131 : Int64)))), .second, .val (.long (own_mix ((q0 + (-7046029254386353131 : Int64)) + (-7046029254386353131 : Int64)))), .second, .unset, .unset, .unset, .unset, .unset, .unset] [(.long (q0 + (-7046029254386353131 : Int64))), (.ref b53), (.ref b53)])) _
    refine st63.trans ?_
    show Steps p.tables e below (T63.setTop (mkF m 65 #[.val (.long q0), .second, .val (.long q1), .second, .val (.ref b16), .val (.int (1 : Int32)), .val (.ref b28), .val (.long (own_mix (q0 + (-7046029254386353131 : Int64)))), .second, .val (.long (own_mix ((q0 + (-7046029254386353131 : Int64)) + (-7046029254386353131 : Int64)))), .second, .unset, .unset, .unset, .unset, .unset, .unset] [(.ref b53)])) _
    refine XS.astore X63.here hx rfl (hb hby at_65) rfl rfl (l' := #[.val (.long q0), .second, .val (.long q1), .second, .val (.ref b16), .val (.int (1 : Int32)), .val (.ref b28), .val (.long (own_mix (q0 + (-7046029254386353131 : Int64)))), .second, .val (.long (own_mix ((q0 + (-7046029254386353131 : Int64)) + (-7046029254386353131 : Int64)))), .second, .val (.ref b53), .unset, .unset, .unset, .unset, .unset]) rfl ?_
    show Steps p.tables e below (T63.setTop (mkF m 67 #[.val (.long q0), .second, .val (.long q1), .second, .val (.ref b16), .val (.int (1 : Int32)), .val (.ref b28), .val (.long (own_mix (q0 + (-7046029254386353131 : Int64)))), .second, .val (.long (own_mix ((q0 + (-7046029254386353131 : Int64)) + (-7046029254386353131 : Int64)))), .second, .val (.ref b53), .unset, .unset, .unset, .unset, .unset] [])) _
    refine XS.lload X63.here hx rfl (hb hby at_67) rfl ?_
    show Steps p.tables e below (T63.setTop (mkF m 69 #[.val (.long q0), .second, .val (.long q1), .second, .val (.ref b16), .val (.int (1 : Int32)), .val (.ref b28), .val (.long (own_mix (q0 + (-7046029254386353131 : Int64)))), .second, .val (.long (own_mix ((q0 + (-7046029254386353131 : Int64)) + (-7046029254386353131 : Int64)))), .second, .val (.ref b53), .unset, .unset, .unset, .unset, .unset] [(.long (own_mix ((q0 + (-7046029254386353131 : Int64)) + (-7046029254386353131 : Int64))))])) _
    refine XS.aload X63.here hx rfl (hb hby at_69) rfl rfl ?_
    show Steps p.tables e below (T63.setTop (mkF m 71 #[.val (.long q0), .second, .val (.long q1), .second, .val (.ref b16), .val (.int (1 : Int32)), .val (.ref b28), .val (.long (own_mix (q0 + (-7046029254386353131 : Int64)))), .second, .val (.long (own_mix ((q0 + (-7046029254386353131 : Int64)) + (-7046029254386353131 : Int64)))), .second, .val (.ref b53), .unset, .unset, .unset, .unset, .unset] [(.ref b53), (.long (own_mix ((q0 + (-7046029254386353131 : Int64)) + (-7046029254386353131 : Int64))))])) _
    refine st71.trans ?_
    show Steps p.tables e below (T71.setTop (mkF m 74 #[.val (.long q0), .second, .val (.long q1), .second, .val (.ref b16), .val (.int (1 : Int32)), .val (.ref b28), .val (.long (own_mix (q0 + (-7046029254386353131 : Int64)))), .second, .val (.long (own_mix ((q0 + (-7046029254386353131 : Int64)) + (-7046029254386353131 : Int64)))), .second, .val (.ref b53), .unset, .unset, .unset, .unset, .unset] [(.long (own_mix ((q0 + (-7046029254386353131 : Int64)) + (-7046029254386353131 : Int64)))), (.long (own_mix ((q0 + (-7046029254386353131 : Int64)) + (-7046029254386353131 : Int64))))])) _
    refine XS.lcmp X71.here hx rfl (hb hby at_74) rfl ?_
    show Steps p.tables e below (T71.setTop (mkF m 75 #[.val (.long q0), .second, .val (.long q1), .second, .val (.ref b16), .val (.int (1 : Int32)), .val (.ref b28), .val (.long (own_mix (q0 + (-7046029254386353131 : Int64)))), .second, .val (.long (own_mix ((q0 + (-7046029254386353131 : Int64)) + (-7046029254386353131 : Int64)))), .second, .val (.ref b53), .unset, .unset, .unset, .unset, .unset] [(.int (lcmpW (own_mix ((q0 + (-7046029254386353131 : Int64)) + (-7046029254386353131 : Int64))) (own_mix ((q0 + (-7046029254386353131 : Int64)) + (-7046029254386353131 : Int64)))))])) _
    refine XS.ifNo X71.here hx rfl (hb hby at_75) rfl ((if0 _ _).trans (teq ((lw_eq _ _).2 rfl)).2) ?_
    show Steps p.tables e below (T71.setTop (mkF m 78 #[.val (.long q0), .second, .val (.long q1), .second, .val (.ref b16), .val (.int (1 : Int32)), .val (.ref b28), .val (.long (own_mix (q0 + (-7046029254386353131 : Int64)))), .second, .val (.long (own_mix ((q0 + (-7046029254386353131 : Int64)) + (-7046029254386353131 : Int64)))), .second, .val (.ref b53), .unset, .unset, .unset, .unset, .unset] [])) _
    refine XS.iconst X71.here hx rfl (hb hby at_78) ?_
    show Steps p.tables e below (T71.setTop (mkF m 79 #[.val (.long q0), .second, .val (.long q1), .second, .val (.ref b16), .val (.int (1 : Int32)), .val (.ref b28), .val (.long (own_mix (q0 + (-7046029254386353131 : Int64)))), .second, .val (.long (own_mix ((q0 + (-7046029254386353131 : Int64)) + (-7046029254386353131 : Int64)))), .second, .val (.ref b53), .unset, .unset, .unset, .unset, .unset] [(.int (1 : Int32))])) _
    refine XS.goto X71.here hx rfl (pc0 := 79) (pc' := 83) rfl (hb hby at_79) (by decide) (by decide) ?_
    show Steps p.tables e below (T71.setTop (mkF m 83 #[.val (.long q0), .second, .val (.long q1), .second, .val (.ref b16), .val (.int (1 : Int32)), .val (.ref b28), .val (.long (own_mix (q0 + (-7046029254386353131 : Int64)))), .second, .val (.long (own_mix ((q0 + (-7046029254386353131 : Int64)) + (-7046029254386353131 : Int64)))), .second, .val (.ref b53), .unset, .unset, .unset, .unset, .unset] [(.int (1 : Int32))])) _
    refine XS.istore X71.here hx rfl (hb hby at_83) rfl (l' := #[.val (.long q0), .second, .val (.long q1), .second, .val (.ref b16), .val (.int (1 : Int32)), .val (.ref b28), .val (.long (own_mix (q0 + (-7046029254386353131 : Int64)))), .second, .val (.long (own_mix ((q0 + (-7046029254386353131 : Int64)) + (-7046029254386353131 : Int64)))), .second, .val (.ref b53), .val (.int (1 : Int32)), .unset, .unset, .unset, .unset]) rfl ?_
    show Steps p.tables e below (T71.setTop (mkF m 85 #[.val (.long q0), .second, .val (.long q1), .second, .val (.ref b16), .val (.int (1 : Int32)), .val (.ref b28), .val (.long (own_mix (q0 + (-7046029254386353131 : Int64)))), .second, .val (.long (own_mix ((q0 + (-7046029254386353131 : Int64)) + (-7046029254386353131 : Int64)))), .second, .val (.ref b53), .val (.int (1 : Int32)), .unset, .unset, .unset, .unset] [])) _
    refine st79 _ ?_
    show Steps p.tables e below (T79.setTop (mkF m 88 #[.val (.long q0), .second, .val (.long q1), .second, .val (.ref b16), .val (.int (1 : Int32)), .val (.ref b28), .val (.long (own_mix (q0 + (-7046029254386353131 : Int64)))), .second, .val (.long (own_mix ((q0 + (-7046029254386353131 : Int64)) + (-7046029254386353131 : Int64)))), .second, .val (.ref b53), .val (.int (1 : Int32)), .unset, .unset, .unset, .unset] [(.ref b79)])) _
    refine XS.dup X79.here hx rfl (hb hby at_88) rfl rfl ?_
    show Steps p.tables e below (T79.setTop (mkF m 89 #[.val (.long q0), .second, .val (.long q1), .second, .val (.ref b16), .val (.int (1 : Int32)), .val (.ref b28), .val (.long (own_mix (q0 + (-7046029254386353131 : Int64)))), .second, .val (.long (own_mix ((q0 + (-7046029254386353131 : Int64)) + (-7046029254386353131 : Int64)))), .second, .val (.ref b53), .val (.int (1 : Int32)), .unset, .unset, .unset, .unset] [(.ref b79), (.ref b79)])) _
    refine XS.lloadN X79.here hx rfl (hb hby at_89) rfl ?_
    show Steps p.tables e below (T79.setTop (mkF m 90 #[.val (.long q0), .second, .val (.long q1), .second, .val (.ref b16), .val (.int (1 : Int32)), .val (.ref b28), .val (.long (own_mix (q0 + (-7046029254386353131 : Int64)))), .second, .val (.long (own_mix ((q0 + (-7046029254386353131 : Int64)) + (-7046029254386353131 : Int64)))), .second, .val (.ref b53), .val (.int (1 : Int32)), .unset, .unset, .unset, .unset] [(.long q1), (.ref b79), (.ref b79)])) _
    refine st92.trans ?_
    show Steps p.tables e below (T92.setTop (mkF m 93 #[.val (.long q0), .second, .val (.long q1), .second, .val (.ref b16), .val (.int (1 : Int32)), .val (.ref b28), .val (.long (own_mix (q0 + (-7046029254386353131 : Int64)))), .second, .val (.long (own_mix ((q0 + (-7046029254386353131 : Int64)) + (-7046029254386353131 : Int64)))), .second, .val (.ref b53), .val (.int (1 : Int32)), .unset, .unset, .unset, .unset] [(.ref b79)])) _
    refine XS.astore X92.here hx rfl (hb hby at_93) rfl rfl (l' := #[.val (.long q0), .second, .val (.long q1), .second, .val (.ref b16), .val (.int (1 : Int32)), .val (.ref b28), .val (.long (own_mix (q0 + (-7046029254386353131 : Int64)))), .second, .val (.long (own_mix ((q0 + (-7046029254386353131 : Int64)) + (-7046029254386353131 : Int64)))), .second, .val (.ref b53), .val (.int (1 : Int32)), .val (.ref b79), .unset, .unset, .unset]) rfl ?_
    show Steps p.tables e below (T92.setTop (mkF m 95 #[.val (.long q0), .second, .val (.long q1), .second, .val (.ref b16), .val (.int (1 : Int32)), .val (.ref b28), .val (.long (own_mix (q0 + (-7046029254386353131 : Int64)))), .second, .val (.long (own_mix ((q0 + (-7046029254386353131 : Int64)) + (-7046029254386353131 : Int64)))), .second, .val (.ref b53), .val (.int (1 : Int32)), .val (.ref b79), .unset, .unset, .unset] [])) _
    refine XS.aload X92.here hx rfl (hb hby at_95) rfl rfl ?_
    show Steps p.tables e below (T92.setTop (mkF m 97 #[.val (.long q0), .second, .val (.long q1), .second, .val (.ref b16), .val (.int (1 : Int32)), .val (.ref b28), .val (.long (own_mix (q0 + (-7046029254386353131 : Int64)))), .second, .val (.long (own_mix ((q0 + (-7046029254386353131 : Int64)) + (-7046029254386353131 : Int64)))), .second, .val (.ref b53), .val (.int (1 : Int32)), .val (.ref b79), .unset, .unset, .unset] [(.ref b79)])) _
    refine st102.trans ?_
    show Steps p.tables e below (T102.setTop (mkF m 100 #[.val (.long q0), .second, .val (.long q1), .second, .val (.ref b16), .val (.int (1 : Int32)), .val (.ref b28), .val (.long (own_mix (q0 + (-7046029254386353131 : Int64)))), .second, .val (.long (own_mix ((q0 + (-7046029254386353131 : Int64)) + (-7046029254386353131 : Int64)))), .second, .val (.ref b53), .val (.int (1 : Int32)), .val (.ref b79), .unset, .unset, .unset] [(.long (own_mix (q1 + (-7046029254386353131 : Int64))))])) _
    refine XS.lstore X102.here hx rfl (hb hby at_100) rfl (l' := #[.val (.long q0), .second, .val (.long q1), .second, .val (.ref b16), .val (.int (1 : Int32)), .val (.ref b28), .val (.long (own_mix (q0 + (-7046029254386353131 : Int64)))), .second, .val (.long (own_mix ((q0 + (-7046029254386353131 : Int64)) + (-7046029254386353131 : Int64)))), .second, .val (.ref b53), .val (.int (1 : Int32)), .val (.ref b79), .val (.long (own_mix (q1 + (-7046029254386353131 : Int64)))), .second, .unset]) rfl ?_
    show Steps p.tables e below (T102.setTop (mkF m 102 #[.val (.long q0), .second, .val (.long q1), .second, .val (.ref b16), .val (.int (1 : Int32)), .val (.ref b28), .val (.long (own_mix (q0 + (-7046029254386353131 : Int64)))), .second, .val (.long (own_mix ((q0 + (-7046029254386353131 : Int64)) + (-7046029254386353131 : Int64)))), .second, .val (.ref b53), .val (.int (1 : Int32)), .val (.ref b79), .val (.long (own_mix (q1 + (-7046029254386353131 : Int64)))), .second, .unset] [])) _
    refine XS.lloadN X102.here hx rfl (hb hby at_102) rfl ?_
    show Steps p.tables e below (T102.setTop (mkF m 103 #[.val (.long q0), .second, .val (.long q1), .second, .val (.ref b16), .val (.int (1 : Int32)), .val (.ref b28), .val (.long (own_mix (q0 + (-7046029254386353131 : Int64)))), .second, .val (.long (own_mix ((q0 + (-7046029254386353131 : Int64)) + (-7046029254386353131 : Int64)))), .second, .val (.ref b53), .val (.int (1 : Int32)), .val (.ref b79), .val (.long (own_mix (q1 + (-7046029254386353131 : Int64)))), .second, .unset] [(.long q0)])) _
    refine XS.lloadN X102.here hx rfl (hb hby at_103) rfl ?_
    show Steps p.tables e below (T102.setTop (mkF m 104 #[.val (.long q0), .second, .val (.long q1), .second, .val (.ref b16), .val (.int (1 : Int32)), .val (.ref b28), .val (.long (own_mix (q0 + (-7046029254386353131 : Int64)))), .second, .val (.long (own_mix ((q0 + (-7046029254386353131 : Int64)) + (-7046029254386353131 : Int64)))), .second, .val (.ref b53), .val (.int (1 : Int32)), .val (.ref b79), .val (.long (own_mix (q1 + (-7046029254386353131 : Int64)))), .second, .unset] [(.long q1), (.long q0)])) _
    refine XS.lcmp X102.here hx rfl (hb hby at_104) rfl ?_
    refine joinS (B := T102.setTop (mkF m 113 #[.val (.long q0), .second, .val (.long q1), .second, .val (.ref b16), .val (.int (1 : Int32)), .val (.ref b28), .val (.long (own_mix (q0 + (-7046029254386353131 : Int64)))), .second, .val (.long (own_mix ((q0 + (-7046029254386353131 : Int64)) + (-7046029254386353131 : Int64)))), .second, .val (.ref b53), .val (.int (1 : Int32)), .val (.ref b79), .val (.long (own_mix (q1 + (-7046029254386353131 : Int64)))), .second, .unset] [(.int v113)])) (fun kt => ?_) ?_
    · by_cases hc112 : q0 = q1
      · rw [show v113 = (0 : Int32) from by rw [hv113, if_pos hc112]] at kt
        show Steps p.tables e below (T102.setTop (mkF m 105 #[.val (.long q0), .second, .val (.long q1), .second, .val (.ref b16), .val (.int (1 : Int32)), .val (.ref b28), .val (.long (own_mix (q0 + (-7046029254386353131 : Int64)))), .second, .val (.long (own_mix ((q0 + (-7046029254386353131 : Int64)) + (-7046029254386353131 : Int64)))), .second, .val (.ref b53), .val (.int (1 : Int32)), .val (.ref b79), .val (.long (own_mix (q1 + (-7046029254386353131 : Int64)))), .second, .unset] [(.int (lcmpW q0 q1))])) _
        refine XS.ifYes X102.here hx rfl (pc0 := 105) (pc' := 112) rfl (hb hby at_105) rfl ((if0 _ _).trans (teq ((lw_eq _ _).2 hc112)).1) (by decide) (by decide) ?_
        show Steps p.tables e below (T102.setTop (mkF m 112 #[.val (.long q0), .second, .val (.long q1), .second, .val (.ref b16), .val (.int (1 : Int32)), .val (.ref b28), .val (.long (own_mix (q0 + (-7046029254386353131 : Int64)))), .second, .val (.long (own_mix ((q0 + (-7046029254386353131 : Int64)) + (-7046029254386353131 : Int64)))), .second, .val (.ref b53), .val (.int (1 : Int32)), .val (.ref b79), .val (.long (own_mix (q1 + (-7046029254386353131 : Int64)))), .second, .unset] [])) _
        refine XS.iconst X102.here hx rfl (hb hby at_112) ?_
        exact kt
      · rw [show v113 = (1 : Int32) from by rw [hv113, if_neg hc112]] at kt
        show Steps p.tables e below (T102.setTop (mkF m 105 #[.val (.long q0), .second, .val (.long q1), .second, .val (.ref b16), .val (.int (1 : Int32)), .val (.ref b28), .val (.long (own_mix (q0 + (-7046029254386353131 : Int64)))), .second, .val (.long (own_mix ((q0 + (-7046029254386353131 : Int64)) + (-7046029254386353131 : Int64)))), .second, .val (.ref b53), .val (.int (1 : Int32)), .val (.ref b79), .val (.long (own_mix (q1 + (-7046029254386353131 : Int64)))), .second, .unset] [(.int (lcmpW q0 q1))])) _
        refine XS.ifNo X102.here hx rfl (hb hby at_105) rfl ((if0 _ _).trans (feq (mt (lw_eq _ _).1 hc112)).1) ?_
        show Steps p.tables e below (T102.setTop (mkF m 108 #[.val (.long q0), .second, .val (.long q1), .second, .val (.ref b16), .val (.int (1 : Int32)), .val (.ref b28), .val (.long (own_mix (q0 + (-7046029254386353131 : Int64)))), .second, .val (.long (own_mix ((q0 + (-7046029254386353131 : Int64)) + (-7046029254386353131 : Int64)))), .second, .val (.ref b53), .val (.int (1 : Int32)), .val (.ref b79), .val (.long (own_mix (q1 + (-7046029254386353131 : Int64)))), .second, .unset] [])) _
        refine XS.iconst X102.here hx rfl (hb hby at_108) ?_
        show Steps p.tables e below (T102.setTop (mkF m 109 #[.val (.long q0), .second, .val (.long q1), .second, .val (.ref b16), .val (.int (1 : Int32)), .val (.ref b28), .val (.long (own_mix (q0 + (-7046029254386353131 : Int64)))), .second, .val (.long (own_mix ((q0 + (-7046029254386353131 : Int64)) + (-7046029254386353131 : Int64)))), .second, .val (.ref b53), .val (.int (1 : Int32)), .val (.ref b79), .val (.long (own_mix (q1 + (-7046029254386353131 : Int64)))), .second, .unset] [(.int (1 : Int32))])) _
        refine XS.goto X102.here hx rfl (pc0 := 109) (pc' := 113) rfl (hb hby at_109) (by decide) (by decide) ?_
        exact kt
    show Steps p.tables e below (T102.setTop (mkF m 113 #[.val (.long q0), .second, .val (.long q1), .second, .val (.ref b16), .val (.int (1 : Int32)), .val (.ref b28), .val (.long (own_mix (q0 + (-7046029254386353131 : Int64)))), .second, .val (.long (own_mix ((q0 + (-7046029254386353131 : Int64)) + (-7046029254386353131 : Int64)))), .second, .val (.ref b53), .val (.int (1 : Int32)), .val (.ref b79), .val (.long (own_mix (q1 + (-7046029254386353131 : Int64)))), .second, .unset] [(.int v113)])) _
    refine XS.lload X102.here hx rfl (hb hby at_113) rfl ?_
    show Steps p.tables e below (T102.setTop (mkF m 115 #[.val (.long q0), .second, .val (.long q1), .second, .val (.ref b16), .val (.int (1 : Int32)), .val (.ref b28), .val (.long (own_mix (q0 + (-7046029254386353131 : Int64)))), .second, .val (.long (own_mix ((q0 + (-7046029254386353131 : Int64)) + (-7046029254386353131 : Int64)))), .second, .val (.ref b53), .val (.int (1 : Int32)), .val (.ref b79), .val (.long (own_mix (q1 + (-7046029254386353131 : Int64)))), .second, .unset] [(.long (own_mix (q0 + (-7046029254386353131 : Int64)))), (.int v113)])) _
    refine XS.lload X102.here hx rfl (hb hby at_115) rfl ?_
    show Steps p.tables e below (T102.setTop (mkF m 117 #[.val (.long q0), .second, .val (.long q1), .second, .val (.ref b16), .val (.int (1 : Int32)), .val (.ref b28), .val (.long (own_mix (q0 + (-7046029254386353131 : Int64)))), .second, .val (.long (own_mix ((q0 + (-7046029254386353131 : Int64)) + (-7046029254386353131 : Int64)))), .second, .val (.ref b53), .val (.int (1 : Int32)), .val (.ref b79), .val (.long (own_mix (q1 + (-7046029254386353131 : Int64)))), .second, .unset] [(.long (own_mix (q1 + (-7046029254386353131 : Int64)))), (.long (own_mix (q0 + (-7046029254386353131 : Int64)))), (.int v113)])) _
    refine XS.lcmp X102.here hx rfl (hb hby at_117) rfl ?_
    refine joinS (B := T102.setTop (mkF m 126 #[.val (.long q0), .second, .val (.long q1), .second, .val (.ref b16), .val (.int (1 : Int32)), .val (.ref b28), .val (.long (own_mix (q0 + (-7046029254386353131 : Int64)))), .second, .val (.long (own_mix ((q0 + (-7046029254386353131 : Int64)) + (-7046029254386353131 : Int64)))), .second, .val (.ref b53), .val (.int (1 : Int32)), .val (.ref b79), .val (.long (own_mix (q1 + (-7046029254386353131 : Int64)))), .second, .unset] [(.int v115), (.int v113)])) (fun kt => ?_) ?_
    · by_cases hc114 : (own_mix (q0 + (-7046029254386353131 : Int64))) = (own_mix (q1 + (-7046029254386353131 : Int64)))
      · rw [show v115 = (0 : Int32) from by rw [hv115, if_pos hc114]] at kt
        show Steps p.tables e below (T102.setTop (mkF m 118 #[.val (.long q0), .second, .val (.long q1), .second, .val (.ref b16), .val (.int (1 : Int32)), .val (.ref b28), .val (.long (own_mix (q0 + (-7046029254386353131 : Int64)))), .second, .val (.long (own_mix ((q0 + (-7046029254386353131 : Int64)) + (-7046029254386353131 : Int64)))), .second, .val (.ref b53), .val (.int (1 : Int32)), .val (.ref b79), .val (.long (own_mix (q1 + (-7046029254386353131 : Int64)))), .second, .unset] [(.int (lcmpW (own_mix (q0 + (-7046029254386353131 : Int64))) (own_mix (q1 + (-7046029254386353131 : Int64))))), (.int v113)])) _
        refine XS.ifYes X102.here hx rfl (pc0 := 118) (pc' := 125) rfl (hb hby at_118) rfl ((if0 _ _).trans (teq ((lw_eq _ _).2 hc114)).1) (by decide) (by decide) ?_
        show Steps p.tables e below (T102.setTop (mkF m 125 #[.val (.long q0), .second, .val (.long q1), .second, .val (.ref b16), .val (.int (1 : Int32)), .val (.ref b28), .val (.long (own_mix (q0 + (-7046029254386353131 : Int64)))), .second, .val (.long (own_mix ((q0 + (-7046029254386353131 : Int64)) + (-7046029254386353131 : Int64)))), .second, .val (.ref b53), .val (.int (1 : Int32)), .val (.ref b79), .val (.long (own_mix (q1 + (-7046029254386353131 : Int64)))), .second, .unset] [(.int v113)])) _
        refine XS.iconst X102.here hx rfl (hb hby at_125) ?_
        exact kt
      · rw [show v115 = (1 : Int32) from by rw [hv115, if_neg hc114]] at kt
        show Steps p.tables e below (T102.setTop (mkF m 118 #[.val (.long q0), .second, .val (.long q1), .second, .val (.ref b16), .val (.int (1 : Int32)), .val (.ref b28), .val (.long (own_mix (q0 + (-7046029254386353131 : Int64)))), .second, .val (.long (own_mix ((q0 + (-7046029254386353131 : Int64)) + (-7046029254386353131 : Int64)))), .second, .val (.ref b53), .val (.int (1 : Int32)), .val (.ref b79), .val (.long (own_mix (q1 + (-7046029254386353131 : Int64)))), .second, .unset] [(.int (lcmpW (own_mix (q0 + (-7046029254386353131 : Int64))) (own_mix (q1 + (-7046029254386353131 : Int64))))), (.int v113)])) _
        refine XS.ifNo X102.here hx rfl (hb hby at_118) rfl ((if0 _ _).trans (feq (mt (lw_eq _ _).1 hc114)).1) ?_
        show Steps p.tables e below (T102.setTop (mkF m 121 #[.val (.long q0), .second, .val (.long q1), .second, .val (.ref b16), .val (.int (1 : Int32)), .val (.ref b28), .val (.long (own_mix (q0 + (-7046029254386353131 : Int64)))), .second, .val (.long (own_mix ((q0 + (-7046029254386353131 : Int64)) + (-7046029254386353131 : Int64)))), .second, .val (.ref b53), .val (.int (1 : Int32)), .val (.ref b79), .val (.long (own_mix (q1 + (-7046029254386353131 : Int64)))), .second, .unset] [(.int v113)])) _
        refine XS.iconst X102.here hx rfl (hb hby at_121) ?_
        show Steps p.tables e below (T102.setTop (mkF m 122 #[.val (.long q0), .second, .val (.long q1), .second, .val (.ref b16), .val (.int (1 : Int32)), .val (.ref b28), .val (.long (own_mix (q0 + (-7046029254386353131 : Int64)))), .second, .val (.long (own_mix ((q0 + (-7046029254386353131 : Int64)) + (-7046029254386353131 : Int64)))), .second, .val (.ref b53), .val (.int (1 : Int32)), .val (.ref b79), .val (.long (own_mix (q1 + (-7046029254386353131 : Int64)))), .second, .unset] [(.int (1 : Int32)), (.int v113)])) _
        refine XS.goto X102.here hx rfl (pc0 := 122) (pc' := 126) rfl (hb hby at_122) (by decide) (by decide) ?_
        exact kt
    show Steps p.tables e below (T102.setTop (mkF m 126 #[.val (.long q0), .second, .val (.long q1), .second, .val (.ref b16), .val (.int (1 : Int32)), .val (.ref b28), .val (.long (own_mix (q0 + (-7046029254386353131 : Int64)))), .second, .val (.long (own_mix ((q0 + (-7046029254386353131 : Int64)) + (-7046029254386353131 : Int64)))), .second, .val (.ref b53), .val (.int (1 : Int32)), .val (.ref b79), .val (.long (own_mix (q1 + (-7046029254386353131 : Int64)))), .second, .unset] [(.int v115), (.int v113)])) _
    refine XS.icmpNo X102.here hx rfl (hb hby at_126) rfl (teq (own_same hv113 hv115)).2 ?_
    show Steps p.tables e below (T102.setTop (mkF m 129 #[.val (.long q0), .second, .val (.long q1), .second, .val (.ref b16), .val (.int (1 : Int32)), .val (.ref b28), .val (.long (own_mix (q0 + (-7046029254386353131 : Int64)))), .second, .val (.long (own_mix ((q0 + (-7046029254386353131 : Int64)) + (-7046029254386353131 : Int64)))), .second, .val (.ref b53), .val (.int (1 : Int32)), .val (.ref b79), .val (.long (own_mix (q1 + (-7046029254386353131 : Int64)))), .second, .unset] [])) _
    refine XS.iconst X102.here hx rfl (hb hby at_129) ?_
    show Steps p.tables e below (T102.setTop (mkF m 130 #[.val (.long q0), .second, .val (.long q1), .second, .val (.ref b16), .val (.int (1 : Int32)), .val (.ref b28), .val (.long (own_mix (q0 + (-7046029254386353131 : Int64)))), .second, .val (.long (own_mix ((q0 + (-7046029254386353131 : Int64)) + (-7046029254386353131 : Int64)))), .second, .val (.ref b53), .val (.int (1 : Int32)), .val (.ref b79), .val (.long (own_mix (q1 + (-7046029254386353131 : Int64)))), .second, .unset] [(.int (1 : Int32))])) _
    refine XS.goto X102.here hx rfl (pc0 := 130) (pc' := 134) rfl (hb hby at_130) (by decide) (by decide) ?_
    show Steps p.tables e below (T102.setTop (mkF m 134 #[.val (.long q0), .second, .val (.long q1), .second, .val (.ref b16), .val (.int (1 : Int32)), .val (.ref b28), .val (.long (own_mix (q0 + (-7046029254386353131 : Int64)))), .second, .val (.long (own_mix ((q0 + (-7046029254386353131 : Int64)) + (-7046029254386353131 : Int64)))), .second, .val (.ref b53), .val (.int (1 : Int32)), .val (.ref b79), .val (.long (own_mix (q1 + (-7046029254386353131 : Int64)))), .second, .unset] [(.int (1 : Int32))])) _
    refine XS.istore X102.here hx rfl (hb hby at_134) rfl (l' := #[.val (.long q0), .second, .val (.long q1), .second, .val (.ref b16), .val (.int (1 : Int32)), .val (.ref b28), .val (.long (own_mix (q0 + (-7046029254386353131 : Int64)))), .second, .val (.long (own_mix ((q0 + (-7046029254386353131 : Int64)) + (-7046029254386353131 : Int64)))), .second, .val (.ref b53), .val (.int (1 : Int32)), .val (.ref b79), .val (.long (own_mix (q1 + (-7046029254386353131 : Int64)))), .second, .val (.int (1 : Int32))]) rfl ?_
    show Steps p.tables e below (T102.setTop (mkF m 136 #[.val (.long q0), .second, .val (.long q1), .second, .val (.ref b16), .val (.int (1 : Int32)), .val (.ref b28), .val (.long (own_mix (q0 + (-7046029254386353131 : Int64)))), .second, .val (.long (own_mix ((q0 + (-7046029254386353131 : Int64)) + (-7046029254386353131 : Int64)))), .second, .val (.ref b53), .val (.int (1 : Int32)), .val (.ref b79), .val (.long (own_mix (q1 + (-7046029254386353131 : Int64)))), .second, .val (.int (1 : Int32))] [])) _
    refine XS.iload X102.here hx rfl (hb hby at_136) rfl ?_
    show Steps p.tables e below (T102.setTop (mkF m 138 #[.val (.long q0), .second, .val (.long q1), .second, .val (.ref b16), .val (.int (1 : Int32)), .val (.ref b28), .val (.long (own_mix (q0 + (-7046029254386353131 : Int64)))), .second, .val (.long (own_mix ((q0 + (-7046029254386353131 : Int64)) + (-7046029254386353131 : Int64)))), .second, .val (.ref b53), .val (.int (1 : Int32)), .val (.ref b79), .val (.long (own_mix (q1 + (-7046029254386353131 : Int64)))), .second, .val (.int (1 : Int32))] [(.int (1 : Int32))])) _
    refine XS.ifNo X102.here hx rfl (hb hby at_138) rfl ((if0 _ _).trans (feq (by decide)).1) ?_
    show Steps p.tables e below (T102.setTop (mkF m 141 #[.val (.long q0), .second, .val (.long q1), .second, .val (.ref b16), .val (.int (1 : Int32)), .val (.ref b28), .val (.long (own_mix (q0 + (-7046029254386353131 : Int64)))), .second, .val (.long (own_mix ((q0 + (-7046029254386353131 : Int64)) + (-7046029254386353131 : Int64)))), .second, .val (.ref b53), .val (.int (1 : Int32)), .val (.ref b79), .val (.long (own_mix (q1 + (-7046029254386353131 : Int64)))), .second, .val (.int (1 : Int32))] [])) _
    refine XS.iload X102.here hx rfl (hb hby at_141) rfl ?_
    show Steps p.tables e below (T102.setTop (mkF m 143 #[.val (.long q0), .second, .val (.long q1), .second, .val (.ref b16), .val (.int (1 : Int32)), .val (.ref b28), .val (.long (own_mix (q0 + (-7046029254386353131 : Int64)))), .second, .val (.long (own_mix ((q0 + (-7046029254386353131 : Int64)) + (-7046029254386353131 : Int64)))), .second, .val (.ref b53), .val (.int (1 : Int32)), .val (.ref b79), .val (.long (own_mix (q1 + (-7046029254386353131 : Int64)))), .second, .val (.int (1 : Int32))] [(.int (1 : Int32))])) _
    refine XS.ifNo X102.here hx rfl (hb hby at_143) rfl ((if0 _ _).trans (feq (by decide)).1) ?_
    show Steps p.tables e below (T102.setTop (mkF m 146 #[.val (.long q0), .second, .val (.long q1), .second, .val (.ref b16), .val (.int (1 : Int32)), .val (.ref b28), .val (.long (own_mix (q0 + (-7046029254386353131 : Int64)))), .second, .val (.long (own_mix ((q0 + (-7046029254386353131 : Int64)) + (-7046029254386353131 : Int64)))), .second, .val (.ref b53), .val (.int (1 : Int32)), .val (.ref b79), .val (.long (own_mix (q1 + (-7046029254386353131 : Int64)))), .second, .val (.int (1 : Int32))] [])) _
    refine XS.iload X102.here hx rfl (hb hby at_146) rfl ?_
    show Steps p.tables e below (T102.setTop (mkF m 148 #[.val (.long q0), .second, .val (.long q1), .second, .val (.ref b16), .val (.int (1 : Int32)), .val (.ref b28), .val (.long (own_mix (q0 + (-7046029254386353131 : Int64)))), .second, .val (.long (own_mix ((q0 + (-7046029254386353131 : Int64)) + (-7046029254386353131 : Int64)))), .second, .val (.ref b53), .val (.int (1 : Int32)), .val (.ref b79), .val (.long (own_mix (q1 + (-7046029254386353131 : Int64)))), .second, .val (.int (1 : Int32))] [(.int (1 : Int32))])) _
    refine XS.ifNo X102.here hx rfl (hb hby at_148) rfl ((if0 _ _).trans (feq (by decide)).1) ?_
    show Steps p.tables e below (T102.setTop (mkF m 151 #[.val (.long q0), .second, .val (.long q1), .second, .val (.ref b16), .val (.int (1 : Int32)), .val (.ref b28), .val (.long (own_mix (q0 + (-7046029254386353131 : Int64)))), .second, .val (.long (own_mix ((q0 + (-7046029254386353131 : Int64)) + (-7046029254386353131 : Int64)))), .second, .val (.ref b53), .val (.int (1 : Int32)), .val (.ref b79), .val (.long (own_mix (q1 + (-7046029254386353131 : Int64)))), .second, .val (.int (1 : Int32))] [])) _
    refine XS.iconst X102.here hx rfl (hb hby at_151) ?_
    show Steps p.tables e below (T102.setTop (mkF m 152 #[.val (.long q0), .second, .val (.long q1), .second, .val (.ref b16), .val (.int (1 : Int32)), .val (.ref b28), .val (.long (own_mix (q0 + (-7046029254386353131 : Int64)))), .second, .val (.long (own_mix ((q0 + (-7046029254386353131 : Int64)) + (-7046029254386353131 : Int64)))), .second, .val (.ref b53), .val (.int (1 : Int32)), .val (.ref b79), .val (.long (own_mix (q1 + (-7046029254386353131 : Int64)))), .second, .val (.int (1 : Int32))] [(.int (1 : Int32))])) _
    refine XS.goto X102.here hx rfl (pc0 := 152) (pc' := 156) rfl (hb hby at_152) (by decide) (by decide) ?_
    show Steps p.tables e below (T102.setTop (mkF m 156 #[.val (.long q0), .second, .val (.long q1), .second, .val (.ref b16), .val (.int (1 : Int32)), .val (.ref b28), .val (.long (own_mix (q0 + (-7046029254386353131 : Int64)))), .second, .val (.long (own_mix ((q0 + (-7046029254386353131 : Int64)) + (-7046029254386353131 : Int64)))), .second, .val (.ref b53), .val (.int (1 : Int32)), .val (.ref b79), .val (.long (own_mix (q1 + (-7046029254386353131 : Int64)))), .second, .val (.int (1 : Int32))] [(.int (1 : Int32))])) _
    exact retN X102 hx (t := .boolean) Bd.returns (by simp) (hb hby at_156) hr
  · show Qrm0 Z q0 q1 h0 n0 _ T102.heap _
    exact ⟨rfl, N103⟩
set_option maxRecDepth 65536 in
set_option maxHeartbeats 40000000 in
theorem comes_1 {Post : Tables → Env → Array Value → State → Outcome → State → Prop} (hpost : ∀ tb e args s v u, (limb_1_1.after args s (.returned v) u = true ∧ limb_1_2.after args s (.returned v) u = true ∧ True) → FrameEnd s (.returned v) u (Jvm.fieldLocs frame_1_writes args s ++ Jvm.arrayLocs frame_1_arrays args s ++ Jvm.staticLocs frame_1_statics s) 16 128 → Post tb e args s (.returned v) u) :
    ArmFor flags0 classFile x code maxLocals ret World_1 tables_1 room_1 Calls_1 rest_1 Pre_1 Post := by
  intro l hfl _ _ p e ha hc hk s m args below hf hA hF happ hP
  obtain ⟨hcalls, hrest, hpre⟩ := hP
  obtain ⟨-, -, -, hnamed, -, -, -, hat⟩ := (Spec.applies_iff hf).mp happ
  obtain ⟨hg, hn⟩ := and_e (Cond.before_iff.mp (show (Jvm.Cond.and given_1 narrow_1).before args s = true from hpre))
  obtain ⟨hcount, hg0⟩ := and_e hg
  obtain ⟨ha0, hg1⟩ := and_e hg0
  have ha1 := hg1
  obtain ⟨w0, w1, rfl⟩ : ∃ w0 w1 : Value, args = #[w0, w1] := by
    have hs : args.size = 2 := by simpa [Cond.value, given_1] using hcount
    obtain ⟨L⟩ := args
    match L, hs with
    | [w0, w1], _ => exact ⟨w0, w1, rfl⟩
  have hw := fun d (hd : d ∈ tables_1) => atoms_spec (ws := Jvm.Cond.code x code maxLocals ret :: tables_1) hat d (List.mem_cons_of_mem _ hd)
  obtain ⟨i0, ei0⟩ := isL_v ha0
  obtain rfl : w0 = (.long i0) := Option.some.inj ei0
  obtain ⟨i1, ei1⟩ := isL_v ha1
  obtain rfl : w1 = (.long i1) := Option.some.inj ei1
  obtain ⟨n, o, h1, h2, h3, _, L, rfl, ⟨rfl, N⟩, hq⟩ := rm0 l s _ hw tables_1 i0 i1 s.heap s.heap.size (Nat.le_refl _)  p e ha hc hk s m _ below hf ((Spec.applies_iff_loose hf).mp happ).1 ⟨rfl, State.Warmed39.refl s, rfl⟩ trivial
  refine ⟨n, _, h1, h2, h3, hpost _ _ _ _ _ _ ⟨Cond.after_iff.mpr rfl, Cond.after_iff.mpr (eq_i res_at (Term.int_eval (1)) rfl), trivial⟩ ⟨hq.1, hq.2.1, (hq.2.2.sift fun y hy => Or.inr (N y hy)).mono (by decide) (by decide)⟩⟩
theorem main_1_1 : Claimed_1_1 := comes_1 fun _ _ _ _ _ _ h hF => ⟨h.1, hF⟩
theorem main_1_2 : Claimed_1_2 := comes_1 fun _ _ _ _ _ _ h hF => ⟨h.2.1, hF⟩
end Jvm.Pilot.@@N@@
namespace Jvm.Pilot.@@N@@
open Jvm Jvm.ClassFile Sem Op Lib Jvm.Free Jvm.Stand Jvm.Pilot.@@N@@.Jvm.D
/-! MADE BY PROGRAM (witnessworld.py) out of the Statement's table words and the real class files: 9 classes; the members and pool entries that the words name. The judged class is class 1, her method 1. -/
namespace start1
open Jvm.ClassFile
def u (s : String) : CpInfo := .utf8 (stringToUtf16 s)
/-- a pool by its gaps: so many unusable entries, then the entry; so many at the end -/
def gap : Nat → List CpInfo → List CpInfo
  | 0, r => r
  | n + 1, r => .unusable :: gap n r
def poolList (es : List (Nat × CpInfo)) (last : Nat) : List CpInfo := es.foldr (fun e r => gap e.1 (e.2 :: r)) (gap last [])
def pool (es : List (Nat × CpInfo)) (last : Nat) : Array CpInfo := ⟨poolList es last⟩
def fileOf (pool : Array CpInfo) (this : Nat) (attrs : Array Attribute := #[]) (ms : Array MethodInfo := #[]) (fl : Nat := 33) (sup : Nat := 0) (ifs : Array Nat := #[]) (fds : Array FieldInfo := #[]) : ClassFile where
  minorVersion := 0
  majorVersion := 65
  constantPool := pool
  accessFlags := fl
  thisClass := this
  superClass := sup
  interfaces := ifs
  fields := fds
  methods := ms
  attributes := attrs
def plain (name : String) (sup : Option ClassId) : Class where
  name := name
  kind := .ordinary
  loader := none
  accessFlags := 33
  super := sup
  interfaces := #[]
  cf := none
  fields := #[]
  methods := #[]
  instanceTypes := #[]
  staticTypes := #[]
  resolved := #[]
  callSites := []
  init := .initialized
  statics := none
  mirror := none

def pool0 : Array CpInfo := pool [(5, u "<init>"), (0, u "()V"), (1, .class_ 10), (1, u "java/lang/Object")] 113

def k0c0 : Code := { maxStack := 0, maxLocals := 1, code := object_method_1_code, exceptionTable := #[], attributes := #[] }
def k0m0 : Method := { name := "<init>", desc := "()V", sig := { parameters := [], returnType := none }, accessFlags := 1, code := some k0c0 }
/-- java/lang/Object -/
def k0 : Class := { plain "java/lang/Object" none with
  accessFlags := 33
  interfaces := #[]
  cf := some (fileOf pool0 8 #[] #[{ accessFlags := 1, nameIndex := 5, descriptorIndex := 6, attributes := #[] }] 33 0 #[] #[])
  fields := #[]
  methods := #[k0m0]
  instanceTypes := #[]
  staticTypes := #[]
  resolved := Array.replicate 124 none
  statics := none }

def pool1 : Array CpInfo := pool [(2, .class_ 4), (1, u "java/lang/Object"), (0, u "<init>"), (0, u "()V"), (0, .class_ 8), (0, u "com/example/flatfinder/flatfinder/generate/Draws"), (0, .methodref 7 10), (0, .nameAndType 5 11), (0, u "(J)V"), (0, .methodref 7 13), (0, .nameAndType 14 15), (0, u "next"), (0, u "()J"), (0, .long 16294208416658607535), (1, .long 11400714819323198485), (1, .class_ 21), (0, u "com/example/flatfinder/flatfinder/generate/DrawsNextPinLaw"), (2, u "law"), (0, u "(JJ)Z")] 3

def k1m0 : Method := { name := "<init>", desc := "()V", sig := { parameters := [], returnType := none }, accessFlags := 2, code := none }
def k1c1 : Code := { maxStack := 6, maxLocals := 17, code := code, exceptionTable := #[], attributes := #[] }
def k1m1 : Method := { name := "law", desc := "(JJ)Z", sig := { parameters := [.long, .long], returnType := some .boolean }, accessFlags := 9, code := some k1c1 }
/-- com/example/flatfinder/flatfinder/generate/DrawsNextPinLaw -/
def k1 : Class := { plain "com/example/flatfinder/flatfinder/generate/DrawsNextPinLaw" (some 0) with
  accessFlags := 49
  interfaces := #[]
  cf := some (fileOf pool1 20 #[] #[{ accessFlags := 2, nameIndex := 5, descriptorIndex := 6, attributes := #[] }, { accessFlags := 9, nameIndex := 24, descriptorIndex := 25, attributes := #[] }] 49 2 #[] #[])
  fields := #[]
  methods := #[k1m0, k1m1]
  instanceTypes := #[]
  staticTypes := #[]
  resolved := Array.replicate 29 none
  statics := none }

def pool2 : Array CpInfo := pool [(1, .methodref 2 3), (0, .class_ 4), (0, .nameAndType 5 6), (0, u "java/lang/Object"), (0, u "<init>"), (0, u "()V"), (0, .fieldref 8 9), (0, .class_ 10), (0, .nameAndType 11 12), (0, u "com/example/flatfinder/flatfinder/generate/Draws"), (0, u "state"), (0, u "J"), (0, .long 11400714819323198485), (1, .long 13787848793156543929), (1, .long 10723151780598845931), (3, u "next"), (0, u "()J"), (35, u "GAMMA"), (1, u "UNIFORM_BITS"), (0, u "I"), (1, u "GRID"), (0, u "(J)V")] 7

def k2c0 : Code := { maxStack := 3, maxLocals := 3, code := prog_27_method_1_code, exceptionTable := #[], attributes := #[] }
def k2m0 : Method := { name := "<init>", desc := "(J)V", sig := { parameters := [.long], returnType := none }, accessFlags := 0, code := some k2c0 }
def k2c1 : Code := { maxStack := 5, maxLocals := 3, code := prog_27_method_2_code, exceptionTable := #[], attributes := #[] }
def k2m1 : Method := { name := "next", desc := "()J", sig := { parameters := [], returnType := some .long }, accessFlags := 0, code := some k2c1 }
/-- com/example/flatfinder/flatfinder/generate/Draws -/
def k2 : Class := { plain "com/example/flatfinder/flatfinder/generate/Draws" (some 0) with
  accessFlags := 48
  interfaces := #[]
  cf := some (fileOf pool2 8 #[] #[{ accessFlags := 0, nameIndex := 5, descriptorIndex := 64, attributes := #[] }, { accessFlags := 0, nameIndex := 21, descriptorIndex := 22, attributes := #[] }] 48 2 #[] #[{ accessFlags := 26, nameIndex := 58, descriptorIndex := 12, attributes := #[] }, { accessFlags := 26, nameIndex := 60, descriptorIndex := 61, attributes := #[] }, { accessFlags := 26, nameIndex := 63, descriptorIndex := 61, attributes := #[] }, { accessFlags := 2, nameIndex := 11, descriptorIndex := 12, attributes := #[] }])
  fields := #[{ name := "GAMMA", type := .long, accessFlags := 26, slot := 0, constantValue := 0 }, { name := "UNIFORM_BITS", type := .int, accessFlags := 26, slot := 1, constantValue := 0 }, { name := "GRID", type := .int, accessFlags := 26, slot := 2, constantValue := 0 }, { name := "state", type := .long, accessFlags := 2, slot := 0, constantValue := 0 }]
  methods := #[k2m0, k2m1]
  instanceTypes := #[.long]
  staticTypes := #[.long, .int, .int]
  resolved := Array.replicate 72 none
  statics := none }

def pool3 : Array CpInfo := pool [(1, u "java/lang/Cloneable"), (0, .class_ 1), (0, u "java/lang/Object"), (0, .class_ 3)] 3

/-- java/lang/Cloneable -/
def k3 : Class := { plain "java/lang/Cloneable" (some 0) with
  accessFlags := 1537
  interfaces := #[]
  cf := some (fileOf pool3 2 #[] #[] 1537 4 #[] #[])
  fields := #[]
  methods := #[]
  instanceTypes := #[]
  staticTypes := #[]
  resolved := Array.replicate 8 none
  statics := none }

def pool4 : Array CpInfo := pool [(1, u "java/io/Serializable"), (0, .class_ 1), (0, u "java/lang/Object"), (0, .class_ 3)] 3

/-- java/io/Serializable -/
def k4 : Class := { plain "java/io/Serializable" (some 0) with
  accessFlags := 1537
  interfaces := #[]
  cf := some (fileOf pool4 2 #[] #[] 1537 4 #[] #[])
  fields := #[]
  methods := #[]
  instanceTypes := #[]
  staticTypes := #[]
  resolved := Array.replicate 8 none
  statics := none }

/-- the primitive byte -/
def k5 : Class := { plain "byte" none with kind := .primitive 'B', accessFlags := 0x411 }
/-- [B -/
def k6 : Class := { plain "[B" (some 0) with kind := .array 5 .byte, interfaces := #[3, 4], accessFlags := 1041 }

/-- the primitive int -/
def k7 : Class := { plain "int" none with kind := .primitive 'I', accessFlags := 0x411 }
/-- [I -/
def k8 : Class := { plain "[I" (some 0) with kind := .array 7 .int, interfaces := #[3, 4], accessFlags := 1041 }

def heap : Heap := #[]
def classes : Array Class := #[k0, k1, k2, k3, k4, k5, k6, k7, k8]
def interned : List (Array UInt16 × Addr) := []
def slotsUsed : Nat := 0
def theMethod : MethodId := ⟨1, 1⟩
def args0 : Array Value := #[.long 1, .long 2]
def aboutOver (below : List Frame) : State where
  vm := { classes := classes, interned := interned.toArray }
  heap := heap
  slotsUsed := slotsUsed
  threads := #[{ frames := .invoking theMethod args0 :: below }]
def below0 : List Frame := [.native { method := ⟨0, 0⟩, args := #[] }]
def about1 : State := aboutOver below0
def p0 : Program := .bare "" "" ""
def e0 : Env := launch0.env 0 0 0
theorem w_frames : about1.frames = Frame.invoking theMethod args0 :: below0 := rfl
set_option maxRecDepth 65536 in
theorem w_args : argsFit about1.vm theMethod args0 = true := by decide +kernel
set_option maxRecDepth 65536 in
theorem w_heap : heapFits about1 = true := by decide +kernel
set_option maxRecDepth 65536 in
theorem w_runnable : about1.curStatus? = some .runnable := by decide +kernel
set_option maxRecDepth 65536 in
theorem w_alone : about1.alone = true := by decide +kernel
set_option maxRecDepth 65536 in
theorem w_named : about1.methodNamed? x = some theMethod := by decide +kernel
set_option maxRecDepth 65536 in
theorem w_hears : about1.hears theMethod below0 = true := by decide +kernel
set_option maxRecDepth 65536 in
theorem w_ripe : about1.ripe theMethod args0 below0 = true := by decide +kernel
theorem w_running : about1.status = .running := rfl
set_option maxRecDepth 65536 in
theorem w_room : about1.hasRoom e0.platform room_1 = true :=
  launch0.hasRoom_least _ room_1 (by decide +kernel) (by decide +kernel) (by decide +kernel) (by decide +kernel) (by decide +kernel) (by decide +kernel)
theorem allAtoms_all (ts : List Jvm.Cond) (a : Array Jvm.Value) (st : Jvm.State) : (allAtoms ts).before a st = ts.all (fun c => c.before a st) := by
  induction ts with
  | nil => rfl
  | cons c t ih =>
    show (Jvm.Cond.and c (allAtoms t)).before a st = _
    rw [Jvm.Cond.before_and, ih, List.all_cons]
def words1 : List Jvm.Cond := Jvm.Cond.code x code maxLocals ret :: tables_1
/-- a 'code' word, met by the world's own term for the bytes: nothing is compared byte by byte -/
theorem code_word {y : MethodName} {bytes : ByteArray} {mx : Nat} {rt : Option FieldType} {a : Array Value} {s : State} {m : MethodId} {meth : Method} {c : Code} (h1 : s.methodNamed? y = some m) (h2 : s.vm.method? m = some meth) (h3 : meth.code = some c) (h4 : c.code = bytes)
    (h5 : (c.maxLocals == mx && c.exceptionTable.isEmpty && decide (c.maxStack ≤ mostOperands) && decide (meth.sig.returnType = rt) && !meth.locks && decide (parseMethodDescriptor y.desc = some meth.sig)) = true) : (Jvm.Cond.code y bytes mx rt).before a s = true := by
  simp only [Bool.and_eq_true, beq_iff_eq, Bool.not_eq_true', decide_eq_true_eq] at h5
  obtain ⟨⟨⟨⟨⟨g1, g2⟩, g3⟩, g4⟩, g5⟩, g6⟩ := h5
  simp [Cond.before, Cond.holds, Cond.value, h1, h2, h3, h4, g1, g2, g3, g4, g5, g6]
def isCode : Jvm.Cond → Bool
  | .code _ _ _ _ => true
  | _ => false
theorem all_split {L : List Jvm.Cond} {P : Jvm.Cond → Bool} (h1 : L.all (fun c => isCode c || P c) = true) (h2 : ∀ c ∈ L.filter isCode, P c = true) : L.all P = true := by
  refine List.all_eq_true.mpr fun c hc => ?_
  have h := List.all_eq_true.mp h1 c hc
  rcases Bool.eq_false_or_eq_true (isCode c) with hi | hi
  · exact h2 c (List.mem_filter.mpr ⟨hc, hi⟩)
  · simpa [hi] using h
set_option maxRecDepth 65536 in
theorem w_c0 : (Jvm.Cond.code x code maxLocals ret).before args0 about1 = true := code_word (m := ⟨1, 1⟩) (meth := k1m1) (c := k1c1) (by decide +kernel) rfl rfl rfl (by decide +kernel)
set_option maxRecDepth 65536 in
theorem w_c1 : (Jvm.Cond.code ({ cls := "com/example/flatfinder/flatfinder/generate/Draws", name := "<init>", desc := "(J)V" } : Jvm.MethodName) prog_27_method_1_code (3 : Nat) (Option.none : Option Jvm.ClassFile.FieldType)).before args0 about1 = true := code_word (m := ⟨2, 0⟩) (meth := k2m0) (c := k2c0) (by decide +kernel) rfl rfl rfl (by decide +kernel)
set_option maxRecDepth 65536 in
theorem w_c2 : (Jvm.Cond.code ({ cls := "java/lang/Object", name := "<init>", desc := "()V" } : Jvm.MethodName) object_method_1_code (1 : Nat) (Option.none : Option Jvm.ClassFile.FieldType)).before args0 about1 = true := code_word (m := ⟨0, 0⟩) (meth := k0m0) (c := k0c0) (by decide +kernel) rfl rfl rfl (by decide +kernel)
set_option maxRecDepth 65536 in
theorem w_c3 : (Jvm.Cond.code ({ cls := "com/example/flatfinder/flatfinder/generate/Draws", name := "next", desc := "()J" } : Jvm.MethodName) prog_27_method_2_code (3 : Nat) (Option.some Jvm.ClassFile.FieldType.long)).before args0 about1 = true := code_word (m := ⟨2, 1⟩) (meth := k2m1) (c := k2c1) (by decide +kernel) rfl rfl rfl (by decide +kernel)
def codes1 : List Jvm.Cond := [Jvm.Cond.code x code maxLocals ret, Jvm.Cond.code ({ cls := "com/example/flatfinder/flatfinder/generate/Draws", name := "<init>", desc := "(J)V" } : Jvm.MethodName) prog_27_method_1_code (3 : Nat) (Option.none : Option Jvm.ClassFile.FieldType), Jvm.Cond.code ({ cls := "java/lang/Object", name := "<init>", desc := "()V" } : Jvm.MethodName) object_method_1_code (1 : Nat) (Option.none : Option Jvm.ClassFile.FieldType), Jvm.Cond.code ({ cls := "com/example/flatfinder/flatfinder/generate/Draws", name := "next", desc := "()J" } : Jvm.MethodName) prog_27_method_2_code (3 : Nat) (Option.some Jvm.ClassFile.FieldType.long)]
set_option maxRecDepth 65536 in
theorem codes_eq : words1.filter isCode = codes1 := rfl
theorem w_codes : ∀ c ∈ words1.filter isCode, c.before args0 about1 = true := by
  rw [codes_eq]
  intro c hc
  simp only [codes1, List.mem_cons, List.not_mem_nil, or_false] at hc
  rcases hc with rfl | rfl | rfl | rfl
  · exact w_c0
  · exact w_c1
  · exact w_c2
  · exact w_c3
set_option maxRecDepth 65536 in
theorem w_t1 : words1.all (fun c => isCode c || c.before args0 about1) = true := by decide +kernel
theorem w_tables : (allAtoms (Jvm.Cond.code x code maxLocals ret :: tables_1)).before args0 about1 = true := by
  rw [allAtoms_all]
  show words1.all (fun c => c.before args0 about1) = true
  refine all_split ?_ w_codes
  rw [w_t1]
set_option maxRecDepth 65536 in
theorem w_case : (Jvm.Cond.and given_1 narrow_1).before args0 about1 = true := by decide +kernel
theorem w_applies : (headSpec (Jvm.Cond.code x code maxLocals ret :: tables_1) room_1).applies x e0.platform about1 = true :=
  (Spec.applies_iff w_frames).mpr ⟨w_running, w_runnable, w_alone, w_named, w_hears, w_ripe, w_room, w_tables⟩
theorem atStart : AtStart classFile x code maxLocals ret World_1 tables_1 room_1 Calls_1 rest_1 Pre_1 launch0 p0 e0 about1 theMethod args0 below0 :=
  ⟨lists_1, trivial, launch0.admits_env _ _ _, launch0.least_env, fairChoices_fair.cas, fairChoices_fair.clock, w_frames, w_args, w_heap, w_applies, trivial, trivial, w_case⟩
end start1
theorem witness_1 : WitnessClaimed_1 := ⟨start1.p0, start1.e0, start1.about1, start1.theMethod, start1.args0, start1.below0, start1.atStart⟩
end Jvm.Pilot.@@N@@
