import JvmDerived
import JvmDerived.Pilot.@@N@@Statement
import JvmDerived.Pilot.@@N@@Code
set_option linter.unusedVariables false
set_option linter.unusedSimpArgs false
namespace Jvm.RoadKit
open Sem ClassFile Op Lib Jvm.Stand Jvm.Free Jvm.LawKit
section New
variable {p : Program} {l : Launch} {e : Env} {R : Room} {s : State} {m : MethodId} {args : Array Value} {below : List Frame} {meth : Method} {c : Code} {T : State} {locs : List Loc} {cells slots : Nat}
theorem retI (X : Stand p l e R s m args below meth c T locs cells slots) (hx : p.tables.exec = Jvm.exec) {pc : Nat} {Ls : Array Slot} {z : Int32} {rest : List Value} (hret : meth.sig.returnType = some .int) (hd : decode c.code pc = .ok (.ireturn, 1)) {fs : List Frame}
    (hl : ∀ (f : JFrame) (acts : List Action), f.method = m → f.locked = none → f.entered = [] → (doReturn e (T.setTop f) acts (some (.int z))).1 = T.setFrames fs) : Steps p.tables e below (T.setTop (mkF m pc Ls (.int z :: rest))) (T.setFrames fs) := by
  have hm' : T.vm.method? m = some meth := X.method'
  have hn : narrow .int (.int z) = .int z := rfl
  show Steps p.tables e below (T.setTop { method := m, pc := pc, locals := Ls, stack := _ :: rest, locked := none }) _
  jvm_step X.here [X.here.top, hx, hd, hm', hret, hn]
  first | (intro acts; rw [hl _ acts rfl rfl rfl]) | rw [hl _ _ rfl rfl rfl]
  exact Steps.refl _
end New
end Jvm.RoadKit
namespace Jvm.Pilot.@@N@@
open Jvm Jvm.ClassFile Sem Op Lib Jvm.Free Jvm.Stand Jvm.LawKit Jvm.RoadKit Bundle Jvm.Pilot.@@N@@.Jvm.D
theorem joinS {tb : Tables} {e : Env} {below : List Frame} {A B t : State} (h1 : Steps tb e below B t → Steps tb e below A t) (h2 : Steps tb e below B t) : Steps tb e below A t := h1 h2
theorem mvMN {Z s : State} {a0 args : Array Value} {own host : String} {index : Nat} {y : MethodName} (hZ : Z.Warmed39 s.vm) (w : (Cond.methodLinkNest own index y host).before a0 Z = true) : (Cond.methodLinkNest own index y host).before args s = true := (Cond.methodLinkNest_wide hZ w :)
theorem d2_0 : decode jdk_30_method_1_code 0 = .ok (.aload_n 0, 1) := by decide +kernel
theorem d2_1 : decode jdk_30_method_1_code 1 = .ok (.invokespecial 1, 3) := by decide +kernel
theorem d2_4 : decode jdk_30_method_1_code 4 = .ok (.return_, 1) := by decide +kernel
theorem pn_java_lang_Record : plainName "java/lang/Record" = true := by first | (simp [plainName, overriddenIn]; done) | decide +kernel
theorem ef_rm2 (m : MethodId) (a1 : Addr) : entryFrame m #[(.ref a1)] 1 = mkF m 0 #[.val (.ref a1)] [] := by first | (simp [entryFrame, mkF, argsToLocals, Value.category]; done) | rfl
def Qrm2 (Z : State) (a1 : Addr) (h0 : Heap) (n0 : Nat) (v : Option Value) (h : Heap) (L : List Loc) : Prop := v = none ∧ Fr n0 L ∧ h = h0
set_option maxRecDepth 65536 in
set_option maxHeartbeats 40000000 in
theorem rm2 (l : Launch) (Z : State) (a0 : Array Value) (hw : ∀ d ∈ tables_1, d.before a0 Z = true) (ws : List Jvm.Cond) (a1 : Addr) (h0 : Heap) (n0 : Nat) (Z0 : n0 ≤ h0.size) :
    MetFree l (⟨"java/lang/Record", "<init>", "()V"⟩ : MethodName) (head1 (Jvm.Cond.code (⟨"java/lang/Record", "<init>", "()V"⟩ : MethodName) jdk_30_method_1_code 1 none :: ws) ({ frames := 1, cells := 0, slots := 0, locals := 12 } : Room)) (fun a U => a = #[(.ref a1)] ∧ Z.Warmed39 U.vm ∧ U.heap = h0) (fun _ _ _ _ _ => True) (fun _ U o U' => ∃ v L, o = .returned v ∧ Qrm2 Z a1 h0 n0 v U'.heap L ∧ FrameEnd U o U' L ({ frames := 1, cells := 0, slots := 0, locals := 12 } : Room).cells ({ frames := 1, cells := 0, slots := 0, locals := 12 } : Room).slots) := by
  refine MetFree.of_bodySF (plainFor_of_name pn_java_lang_Record) hisR ?_
  intro p e s m args below meth c s₁ Bd hml0 hP hK
  obtain ⟨rfl, hZ, hh⟩ := hP
  have hx := Bd.exec
  have hby := Bd.bytes
  have hml : c.maxLocals = 1 := hml0
  have hown : s.vm.findClass "java/lang/Record" = some m.cls := findClass_of_methodNamed Bd.named
  have hnm := (name_of_methodNamed Bd.named Bd.method).1
  have X0 : Stand p l e ({ frames := 1, cells := 0, slots := 0, locals := 12 } : Room) s m #[(.ref a1)] below meth c s₁ [] 0 0 := Stand.of_body Bd
  have e0 : s₁.heap = h0 := by rw [← hh, Bd.state]; rfl
  have N0 := Fr.nil n0
  have pre0 : ∀ t, Steps p.tables e below (s₁.setTop (mkF m 0 #[.val (.ref a1)] [])) t → Steps p.tables e below (s₁.setTop (entryFrame m #[(.ref a1)] 1)) t := fun t k => castTop (ef_rm2 m a1) k
  obtain ⟨T1, X1, e1, st1⟩ := initO X0 hx hZ hown (hw _ (List.mem_of_getElem? (i := 11) rfl)) (hw _ (List.mem_of_getElem? (i := 12) rfl)) (hw _ (List.mem_of_getElem? (i := 13) rfl)) e0 (g := (mkF m 1 #[.val (.ref a1)] [(.ref a1)])) rfl (by rw [hml]; rfl) rfl (hb hby d2_1) (by decide) (W := 0) (by show 2 * 0 + _ ≤ _; exact Nat.le_of_eq rfl) (by decide)
  obtain ⟨fs, hr, hrun, hended, hW, hsame⟩ := X1.leave (v := none) (fun _ => rfl)
  refine ⟨_, _, pre0 _ ?_, hrun, hended, _, _, rfl, ?_, ⟨_, rfl⟩, hW, hsame.mono (by decide) (by decide)⟩
  · show Steps p.tables e below (s₁.setTop (mkF m 0 #[.val (.ref a1)] [])) _
    refine XS.aloadN X0.here hx rfl (hb hby d2_0) rfl rfl ?_
    show Steps p.tables e below (s₁.setTop (mkF m 1 #[.val (.ref a1)] [(.ref a1)])) _
    refine st1 _ ?_
    show Steps p.tables e below (T1.setTop (mkF m 4 #[.val (.ref a1)] [])) _
    exact X1.returnOut hx Bd.returns (hb hby d2_4) hr
  · show Qrm2 Z a1 h0 n0 _ T1.heap _
    rw [e1]
    exact ⟨rfl, N0, rfl⟩
theorem d1_0 : decode prog_75_method_1_code 0 = .ok (.aload_n 0, 1) := by decide +kernel
theorem d1_1 : decode prog_75_method_1_code 1 = .ok (.invokespecial 3, 3) := by decide +kernel
theorem pd___V : parseMethodDescriptor "()V" = some ⟨[], none⟩ := by decide +kernel
theorem d1_4 : decode prog_75_method_1_code 4 = .ok (.aload_n 0, 1) := by decide +kernel
theorem d1_5 : decode prog_75_method_1_code 5 = .ok (.iload_n 1, 1) := by decide +kernel
theorem d1_6 : decode prog_75_method_1_code 6 = .ok (.putfield 9, 3) := by decide +kernel
theorem d1_9 : decode prog_75_method_1_code 9 = .ok (.aload_n 0, 1) := by decide +kernel
theorem d1_10 : decode prog_75_method_1_code 10 = .ok (.iload_n 2, 1) := by decide +kernel
theorem d1_11 : decode prog_75_method_1_code 11 = .ok (.putfield 15, 3) := by decide +kernel
theorem d1_14 : decode prog_75_method_1_code 14 = .ok (.aload_n 0, 1) := by decide +kernel
theorem d1_15 : decode prog_75_method_1_code 15 = .ok (.iload_n 3, 1) := by decide +kernel
theorem d1_16 : decode prog_75_method_1_code 16 = .ok (.putfield 19, 3) := by decide +kernel
theorem d1_19 : decode prog_75_method_1_code 19 = .ok (.aload_n 0, 1) := by decide +kernel
theorem d1_20 : decode prog_75_method_1_code 20 = .ok (.iload 4, 2) := by decide +kernel
theorem d1_22 : decode prog_75_method_1_code 22 = .ok (.putfield 22, 3) := by decide +kernel
theorem d1_25 : decode prog_75_method_1_code 25 = .ok (.return_, 1) := by decide +kernel
theorem pn_lanternweir_core_PatternParser_Format : plainName "lanternweir/core/PatternParser$Format" = true := by first | (simp [plainName, overriddenIn]; done) | decide +kernel
theorem ef_rm1 (m : MethodId) (a1 : Addr) (p1 : Int32) (p2 : Int32) (p3 : Int32) (p4 : Int32) : entryFrame m #[(.ref a1), (.int p1), (.int p2), (.int p3), (.int p4)] 5 = mkF m 0 #[.val (.ref a1), .val (.int p1), .val (.int p2), .val (.int p3), .val (.int p4)] [] := by first | (simp [entryFrame, mkF, argsToLocals, Value.category]; done) | rfl
def Qrm1 (Z : State) (a1 : Addr) (p1 : Int32) (p2 : Int32) (p3 : Int32) (p4 : Int32) (h0 : Heap) (n0 : Nat) (v : Option Value) (h : Heap) (L : List Loc) : Prop := v = none ∧ Fr n0 L ∧ Keep h0 h [a1] ∧ Fld Z h a1 "lanternweir/core/PatternParser$Format" "minWidth" "I" (.int p2) ∧ Fld Z h a1 "lanternweir/core/PatternParser$Format" "maxWidth" "I" (.int p4)
set_option maxRecDepth 65536 in
set_option maxHeartbeats 40000000 in
theorem rm1 (l : Launch) (Z : State) (a0 : Array Value) (hw : ∀ d ∈ tables_1, d.before a0 Z = true) (ws : List Jvm.Cond) (a1 : Addr) (p1 : Int32) (p2 : Int32) (p3 : Int32) (p4 : Int32) (h0 : Heap) (n0 : Nat) (Z0 : n0 ≤ h0.size) (E1 : Exa Z h0 a1 "lanternweir/core/PatternParser$Format") (F1 : Fld Z h0 a1 "lanternweir/core/PatternParser$Format" "leftJustify" "Z" (.int (0 : Int32))) (F2 : Fld Z h0 a1 "lanternweir/core/PatternParser$Format" "minWidth" "I" (.int (0 : Int32))) (F3 : Fld Z h0 a1 "lanternweir/core/PatternParser$Format" "cutsEnd" "Z" (.int (0 : Int32))) (F4 : Fld Z h0 a1 "lanternweir/core/PatternParser$Format" "maxWidth" "I" (.int (0 : Int32))) (g1 : n0 ≤ a1) :
    MetFree l (⟨"lanternweir/core/PatternParser$Format", "<init>", "(ZIZI)V"⟩ : MethodName) (head1 (Jvm.Cond.code (⟨"lanternweir/core/PatternParser$Format", "<init>", "(ZIZI)V"⟩ : MethodName) prog_75_method_1_code 5 none :: ws) ({ frames := 2, cells := 0, slots := 0, locals := 24 } : Room)) (fun a U => a = #[(.ref a1), (.int p1), (.int p2), (.int p3), (.int p4)] ∧ Z.Warmed39 U.vm ∧ U.heap = h0) (fun _ _ _ _ _ => True) (fun _ U o U' => ∃ v L, o = .returned v ∧ Qrm1 Z a1 p1 p2 p3 p4 h0 n0 v U'.heap L ∧ FrameEnd U o U' L ({ frames := 2, cells := 0, slots := 0, locals := 24 } : Room).cells ({ frames := 2, cells := 0, slots := 0, locals := 24 } : Room).slots) := by
  refine MetFree.of_bodySF (plainFor_of_name pn_lanternweir_core_PatternParser_Format) hisR ?_
  intro p e s m args below meth c s₁ Bd hml0 hP hK
  obtain ⟨rfl, hZ, hh⟩ := hP
  have hx := Bd.exec
  have hby := Bd.bytes
  have hml : c.maxLocals = 5 := hml0
  have hown : s.vm.findClass "lanternweir/core/PatternParser$Format" = some m.cls := findClass_of_methodNamed Bd.named
  have hnm := (name_of_methodNamed Bd.named Bd.method).1
  have X0 : Stand p l e ({ frames := 2, cells := 0, slots := 0, locals := 24 } : Room) s m #[(.ref a1), (.int p1), (.int p2), (.int p3), (.int p4)] below meth c s₁ [] 0 0 := Stand.of_body Bd
  have e0 : s₁.heap = h0 := by rw [← hh, Bd.state]; rfl
  have N0 := Fr.nil n0
  have pre0 : ∀ t, Steps p.tables e below (s₁.setTop (mkF m 0 #[.val (.ref a1), .val (.int p1), .val (.int p2), .val (.int p3), .val (.int p4)] [])) t → Steps p.tables e below (s₁.setTop (entryFrame m #[(.ref a1), (.int p1), (.int p2), (.int p3), (.int p4)] 5)) t := fun t k => castTop (ef_rm1 m a1 p1 p2 p3 p4) k
  have K0 := Keep.refl h0 [a1]
  obtain ⟨_, _, ⟨T2, L2, k2, n2⟩, -, X2, ⟨Lc2, hQ2, l2, y2, z2⟩, st2⟩ := X0.specialBack hx (y := (⟨"java/lang/Record", "<init>", "()V"⟩ : MethodName)) rfl hown (mvT hZ (hw _ (List.mem_of_getElem? (i := 6) rfl))) (mvT hZ (hw _ (List.mem_of_getElem? (i := 7) rfl))) (mvT hZ (hw _ (List.mem_of_getElem? (i := 10) rfl))) (by decide) (backOf (W := 0) (rm2 l Z a0 hw [] a1  h0 n0 Z0 ) hZ (hw _ (List.mem_of_getElem? (i := 10) rfl)) (hw _ (List.mem_of_getElem? (i := 9) rfl)) (by decide) (by decide)) (g := (mkF m 1 #[.val (.ref a1), .val (.int p1), .val (.int p2), .val (.int p3), .val (.int p4)] [(.ref a1)])) rfl (by rw [hml]; rfl) (Steps.refl _) (a := a1) (argsL := []) (rest := []) (lenOf pd___V rfl) rfl (by show 2 * 0 + _ ≤ _; exact Nat.le_of_eq rfl) (hb hby d1_1) (fun _ _ => ⟨rfl, e0, (by decide : 0 + 0 ≤ _), (by decide : 0 + 0 ≤ _)⟩)
  dsimp only [Pt.U, Pt.locs, Pt.cells, Pt.slots] at X2 l2 y2 z2 st2 hQ2
  subst l2 y2 z2
  obtain ⟨rfl, N2q, e2⟩ := hQ2
  have N3 := Fr.app N0 N2q
  obtain ⟨T4, h4, X4, e4, W4, st4⟩ := putFN X2 hx hZ hown (hw _ (List.mem_of_getElem? (i := 14) rfl)) Via.refl e2 F1 E1 (Or.inr ⟨(hw _ (List.mem_of_getElem? (i := 15) rfl)), rfl, hnm⟩) (hw _ (List.mem_of_getElem? (i := 1) rfl)) (ty := .boolean) (v' := (.int (nar .boolean p1))) (by decide) rfl (fits_nar_bool _) (g := (mkF m 6 #[.val (.ref a1), .val (.int p1), .val (.int p2), .val (.int p3), .val (.int p4)] [(.int p1), (.ref a1)])) rfl rfl (hb hby d1_6)
  have f5 := F1.same W4
  have f6 := E1.wr W4
  have f7 := F2.other W4 (Or.inr (slot_ne (Or.inr (hw _ (List.mem_of_getElem? (i := 17) rfl))) (Or.inr (hw _ (List.mem_of_getElem? (i := 15) rfl))) (by decide) (t := .int) (t' := .boolean) (by decide) (by decide)))
  have f8 := F3.other W4 (Or.inr (slot_ne (Or.inr (hw _ (List.mem_of_getElem? (i := 19) rfl))) (Or.inr (hw _ (List.mem_of_getElem? (i := 15) rfl))) (by decide) (t := .boolean) (t' := .boolean) (by decide) (by decide)))
  have f9 := F4.other W4 (Or.inr (slot_ne (Or.inr (hw _ (List.mem_of_getElem? (i := 21) rfl))) (Or.inr (hw _ (List.mem_of_getElem? (i := 15) rfl))) (by decide) (t := .int) (t' := .boolean) (by decide) (by decide)))
  have Zn10 := Nat.le_trans Z0 (Keep.of_wr W4).1
  have N11 := Fr.snoc X4 N3 g1
  have K12 := K0.wr W4 (Or.inl (List.mem_of_getElem? (i := 0) rfl))
  obtain ⟨T13, h13, X13, e13, W13, st13⟩ := putF X4 hx hZ hown (host := "") (Or.inl (hw _ (List.mem_of_getElem? (i := 16) rfl))) Via.refl e4 f7 f6 (Or.inr ⟨(hw _ (List.mem_of_getElem? (i := 17) rfl)), rfl, hnm⟩) (hw _ (List.mem_of_getElem? (i := 1) rfl)) (ty := .int) (by decide) rfl rfl (g := (mkF m 11 #[.val (.ref a1), .val (.int p1), .val (.int p2), .val (.int p3), .val (.int p4)] [(.int p2), (.ref a1)])) rfl rfl (hb hby d1_11)
  have f14 := f7.same W13
  have f15 := f6.wr W13
  have f16 := f8.other W13 (Or.inr (slot_ne (Or.inr (hw _ (List.mem_of_getElem? (i := 19) rfl))) (Or.inr (hw _ (List.mem_of_getElem? (i := 17) rfl))) (by decide) (t := .boolean) (t' := .int) (by decide) (by decide)))
  have f17 := f9.other W13 (Or.inr (slot_ne (Or.inr (hw _ (List.mem_of_getElem? (i := 21) rfl))) (Or.inr (hw _ (List.mem_of_getElem? (i := 17) rfl))) (by decide) (t := .int) (t' := .int) (by decide) (by decide)))
  have f18 := f5.other W13 (Or.inr (slot_ne (Or.inr (hw _ (List.mem_of_getElem? (i := 15) rfl))) (Or.inr (hw _ (List.mem_of_getElem? (i := 17) rfl))) (by decide) (t := .boolean) (t' := .int) (by decide) (by decide)))
  have Zn19 := Nat.le_trans Zn10 (Keep.of_wr W13).1
  have N20 := Fr.snoc X13 N11 g1
  have K21 := K12.wr W13 (Or.inl (List.mem_of_getElem? (i := 0) rfl))
  obtain ⟨T22, h22, X22, e22, W22, st22⟩ := putFN X13 hx hZ hown (hw _ (List.mem_of_getElem? (i := 18) rfl)) Via.refl e13 f16 f15 (Or.inr ⟨(hw _ (List.mem_of_getElem? (i := 19) rfl)), rfl, hnm⟩) (hw _ (List.mem_of_getElem? (i := 1) rfl)) (ty := .boolean) (v' := (.int (nar .boolean p3))) (by decide) rfl (fits_nar_bool _) (g := (mkF m 16 #[.val (.ref a1), .val (.int p1), .val (.int p2), .val (.int p3), .val (.int p4)] [(.int p3), (.ref a1)])) rfl rfl (hb hby d1_16)
  have f23 := f16.same W22
  have f24 := f15.wr W22
  have f25 := f17.other W22 (Or.inr (slot_ne (Or.inr (hw _ (List.mem_of_getElem? (i := 21) rfl))) (Or.inr (hw _ (List.mem_of_getElem? (i := 19) rfl))) (by decide) (t := .int) (t' := .boolean) (by decide) (by decide)))
  have f26 := f18.other W22 (Or.inr (slot_ne (Or.inr (hw _ (List.mem_of_getElem? (i := 15) rfl))) (Or.inr (hw _ (List.mem_of_getElem? (i := 19) rfl))) (by decide) (t := .boolean) (t' := .boolean) (by decide) (by decide)))
  have f27 := f14.other W22 (Or.inr (slot_ne (Or.inr (hw _ (List.mem_of_getElem? (i := 17) rfl))) (Or.inr (hw _ (List.mem_of_getElem? (i := 19) rfl))) (by decide) (t := .int) (t' := .boolean) (by decide) (by decide)))
  have Zn28 := Nat.le_trans Zn19 (Keep.of_wr W22).1
  have N29 := Fr.snoc X22 N20 g1
  have K30 := K21.wr W22 (Or.inl (List.mem_of_getElem? (i := 0) rfl))
  obtain ⟨T31, h31, X31, e31, W31, st31⟩ := putF X22 hx hZ hown (host := "") (Or.inl (hw _ (List.mem_of_getElem? (i := 20) rfl))) Via.refl e22 f25 f24 (Or.inr ⟨(hw _ (List.mem_of_getElem? (i := 21) rfl)), rfl, hnm⟩) (hw _ (List.mem_of_getElem? (i := 1) rfl)) (ty := .int) (by decide) rfl rfl (g := (mkF m 22 #[.val (.ref a1), .val (.int p1), .val (.int p2), .val (.int p3), .val (.int p4)] [(.int p4), (.ref a1)])) rfl rfl (hb hby d1_22)
  have f32 := f25.same W31
  have f33 := f24.wr W31
  have f34 := f26.other W31 (Or.inr (slot_ne (Or.inr (hw _ (List.mem_of_getElem? (i := 15) rfl))) (Or.inr (hw _ (List.mem_of_getElem? (i := 21) rfl))) (by decide) (t := .boolean) (t' := .int) (by decide) (by decide)))
  have f35 := f27.other W31 (Or.inr (slot_ne (Or.inr (hw _ (List.mem_of_getElem? (i := 17) rfl))) (Or.inr (hw _ (List.mem_of_getElem? (i := 21) rfl))) (by decide) (t := .int) (t' := .int) (by decide) (by decide)))
  have f36 := f23.other W31 (Or.inr (slot_ne (Or.inr (hw _ (List.mem_of_getElem? (i := 19) rfl))) (Or.inr (hw _ (List.mem_of_getElem? (i := 21) rfl))) (by decide) (t := .boolean) (t' := .int) (by decide) (by decide)))
  have Zn37 := Nat.le_trans Zn28 (Keep.of_wr W31).1
  have N38 := Fr.snoc X31 N29 g1
  have K39 := K30.wr W31 (Or.inl (List.mem_of_getElem? (i := 0) rfl))
  obtain ⟨fs, hr, hrun, hended, hW, hsame⟩ := X31.leave (v := none) (fun _ => rfl)
  refine ⟨_, _, pre0 _ ?_, hrun, hended, _, _, rfl, ?_, ⟨_, rfl⟩, hW, hsame.mono (by decide) (by decide)⟩
  · show Steps p.tables e below (s₁.setTop (mkF m 0 #[.val (.ref a1), .val (.int p1), .val (.int p2), .val (.int p3), .val (.int p4)] [])) _
    refine XS.aloadN X0.here hx rfl (hb hby d1_0) rfl rfl ?_
    show Steps p.tables e below (s₁.setTop (mkF m 1 #[.val (.ref a1), .val (.int p1), .val (.int p2), .val (.int p3), .val (.int p4)] [(.ref a1)])) _
    refine st2.trans ?_
    show Steps p.tables e below (T2.setTop (mkF m 4 #[.val (.ref a1), .val (.int p1), .val (.int p2), .val (.int p3), .val (.int p4)] [])) _
    refine XS.aloadN X2.here hx rfl (hb hby d1_4) rfl rfl ?_
    show Steps p.tables e below (T2.setTop (mkF m 5 #[.val (.ref a1), .val (.int p1), .val (.int p2), .val (.int p3), .val (.int p4)] [(.ref a1)])) _
    refine XS.iloadN X2.here hx rfl (hb hby d1_5) rfl ?_
    show Steps p.tables e below (T2.setTop (mkF m 6 #[.val (.ref a1), .val (.int p1), .val (.int p2), .val (.int p3), .val (.int p4)] [(.int p1), (.ref a1)])) _
    refine st4 _ ?_
    show Steps p.tables e below (T4.setTop (mkF m 9 #[.val (.ref a1), .val (.int p1), .val (.int p2), .val (.int p3), .val (.int p4)] [])) _
    refine XS.aloadN X4.here hx rfl (hb hby d1_9) rfl rfl ?_
    show Steps p.tables e below (T4.setTop (mkF m 10 #[.val (.ref a1), .val (.int p1), .val (.int p2), .val (.int p3), .val (.int p4)] [(.ref a1)])) _
    refine XS.iloadN X4.here hx rfl (hb hby d1_10) rfl ?_
    show Steps p.tables e below (T4.setTop (mkF m 11 #[.val (.ref a1), .val (.int p1), .val (.int p2), .val (.int p3), .val (.int p4)] [(.int p2), (.ref a1)])) _
    refine st13 _ ?_
    show Steps p.tables e below (T13.setTop (mkF m 14 #[.val (.ref a1), .val (.int p1), .val (.int p2), .val (.int p3), .val (.int p4)] [])) _
    refine XS.aloadN X13.here hx rfl (hb hby d1_14) rfl rfl ?_
    show Steps p.tables e below (T13.setTop (mkF m 15 #[.val (.ref a1), .val (.int p1), .val (.int p2), .val (.int p3), .val (.int p4)] [(.ref a1)])) _
    refine XS.iloadN X13.here hx rfl (hb hby d1_15) rfl ?_
    show Steps p.tables e below (T13.setTop (mkF m 16 #[.val (.ref a1), .val (.int p1), .val (.int p2), .val (.int p3), .val (.int p4)] [(.int p3), (.ref a1)])) _
    refine st22 _ ?_
    show Steps p.tables e below (T22.setTop (mkF m 19 #[.val (.ref a1), .val (.int p1), .val (.int p2), .val (.int p3), .val (.int p4)] [])) _
    refine XS.aloadN X22.here hx rfl (hb hby d1_19) rfl rfl ?_
    show Steps p.tables e below (T22.setTop (mkF m 20 #[.val (.ref a1), .val (.int p1), .val (.int p2), .val (.int p3), .val (.int p4)] [(.ref a1)])) _
    refine XS.iload X22.here hx rfl (hb hby d1_20) rfl ?_
    show Steps p.tables e below (T22.setTop (mkF m 22 #[.val (.ref a1), .val (.int p1), .val (.int p2), .val (.int p3), .val (.int p4)] [(.int p4), (.ref a1)])) _
    refine st31 _ ?_
    show Steps p.tables e below (T31.setTop (mkF m 25 #[.val (.ref a1), .val (.int p1), .val (.int p2), .val (.int p3), .val (.int p4)] [])) _
    exact X31.returnOut hx Bd.returns (hb hby d1_25) hr
  · show Qrm1 Z a1 p1 p2 p3 p4 h0 n0 _ T31.heap _
    rw [e31]
    exact ⟨rfl, N38, K39, f35, f32⟩
theorem d4_0 : decode prog_75_method_2_code 0 = .ok (.aload_n 0, 1) := by decide +kernel
theorem d4_1 : decode prog_75_method_2_code 1 = .ok (.getfield 15, 3) := by decide +kernel
theorem d4_4 : decode prog_75_method_2_code 4 = .ok (.ifCond .gt 12, 3) := by decide +kernel
theorem d4_16 : decode prog_75_method_2_code 16 = .ok (.iconst 1, 1) := by decide +kernel
theorem d4_17 : decode prog_75_method_2_code 17 = .ok (.goto 4, 3) := by decide +kernel
theorem d4_21 : decode prog_75_method_2_code 21 = .ok (.ireturn, 1) := by decide +kernel
theorem d4_7 : decode prog_75_method_2_code 7 = .ok (.aload_n 0, 1) := by decide +kernel
theorem d4_8 : decode prog_75_method_2_code 8 = .ok (.getfield 22, 3) := by decide +kernel
theorem d4_11 : decode prog_75_method_2_code 11 = .ok (.ldc 25, 2) := by decide +kernel
theorem d4_13 : decode prog_75_method_2_code 13 = .ok (.if_icmp .eq 7, 3) := by decide +kernel
theorem d4_20 : decode prog_75_method_2_code 20 = .ok (.iconst 0, 1) := by decide +kernel
theorem ef_rm4 (m : MethodId) (a1 : Addr) : entryFrame m #[(.ref a1)] 1 = mkF m 0 #[.val (.ref a1)] [] := by first | (simp [entryFrame, mkF, argsToLocals, Value.category]; done) | rfl
def Qrm4 (Z : State) (a1 : Addr) (p2 : Int32) (p4 : Int32) (h0 : Heap) (n0 : Nat) (v : Option Value) (h : Heap) (L : List Loc) : Prop := v = some (.int (if (0 : Int32) < p2 then 1 else if p4 = (2147483647 : Int32) then 0 else 1)) ∧ Fr n0 L ∧ h = h0
set_option maxRecDepth 65536 in
set_option maxHeartbeats 40000000 in
theorem rm4 (l : Launch) (Z : State) (a0 : Array Value) (hw : ∀ d ∈ tables_1, d.before a0 Z = true) (ws : List Jvm.Cond) (a1 : Addr) (p2 : Int32) (p4 : Int32) (h0 : Heap) (n0 : Nat) (Z0 : n0 ≤ h0.size) (F2 : Fld Z h0 a1 "lanternweir/core/PatternParser$Format" "minWidth" "I" (.int p2)) (F4 : Fld Z h0 a1 "lanternweir/core/PatternParser$Format" "maxWidth" "I" (.int p4)) :
    MetFree l (⟨"lanternweir/core/PatternParser$Format", "cutsOrPads", "()Z"⟩ : MethodName) (head1 (Jvm.Cond.code (⟨"lanternweir/core/PatternParser$Format", "cutsOrPads", "()Z"⟩ : MethodName) prog_75_method_2_code 1 (some .boolean) :: ws) ({ frames := 0, cells := 0, slots := 0, locals := 0 } : Room)) (fun a U => a = #[(.ref a1)] ∧ Z.Warmed39 U.vm ∧ U.heap = h0) (fun _ _ _ _ _ => True) (fun _ U o U' => ∃ v L, o = .returned v ∧ Qrm4 Z a1 p2 p4 h0 n0 v U'.heap L ∧ FrameEnd U o U' L ({ frames := 0, cells := 0, slots := 0, locals := 0 } : Room).cells ({ frames := 0, cells := 0, slots := 0, locals := 0 } : Room).slots) := by
  refine MetFree.of_bodySF (plainFor_of_name pn_lanternweir_core_PatternParser_Format) hisR ?_
  intro p e s m args below meth c s₁ Bd hml0 hP hK
  obtain ⟨rfl, hZ, hh⟩ := hP
  have hx := Bd.exec
  have hby := Bd.bytes
  have hml : c.maxLocals = 1 := hml0
  have hown : s.vm.findClass "lanternweir/core/PatternParser$Format" = some m.cls := findClass_of_methodNamed Bd.named
  have hnm := (name_of_methodNamed Bd.named Bd.method).1
  have X0 : Stand p l e ({ frames := 0, cells := 0, slots := 0, locals := 0 } : Room) s m #[(.ref a1)] below meth c s₁ [] 0 0 := Stand.of_body Bd
  have e0 : s₁.heap = h0 := by rw [← hh, Bd.state]; rfl
  have N0 := Fr.nil n0
  have pre0 : ∀ t, Steps p.tables e below (s₁.setTop (mkF m 0 #[.val (.ref a1)] [])) t → Steps p.tables e below (s₁.setTop (entryFrame m #[(.ref a1)] 1)) t := fun t k => castTop (ef_rm4 m a1) k
  obtain ⟨T40, X40, e40, st40⟩ := getF X0 hx hZ hown (host := "") (Or.inl (hw _ (List.mem_of_getElem? (i := 16) rfl))) Via.refl e0 F2 (g := (mkF m 1 #[.val (.ref a1)] [(.ref a1)])) rfl rfl (hb hby d4_1)
  by_cases hA : (0 : Int32) < p2
  · obtain ⟨fs, hr, hrun, hended, hW, hsame⟩ := X40.leave (v := some (.int (1 : Int32))) (fun h => by rw [Bd.returns] at h; cases h)
    refine ⟨_, _, pre0 _ ?_, hrun, hended, _, _, rfl, ?_, ⟨_, rfl⟩, hW, hsame.mono (by decide) (by decide)⟩
    · show Steps p.tables e below (s₁.setTop (mkF m 0 #[.val (.ref a1)] [])) _
      refine XS.aloadN X0.here hx rfl (hb hby d4_0) rfl rfl ?_
      show Steps p.tables e below (s₁.setTop (mkF m 1 #[.val (.ref a1)] [(.ref a1)])) _
      refine st40 _ ?_
      show Steps p.tables e below (T40.setTop (mkF m 4 #[.val (.ref a1)] [(.int p2)])) _
      refine XS.ifYes X40.here hx rfl (pc0 := 4) (pc' := 16) rfl (hb hby d4_4) rfl ((if0 _ _).trans (tlt hA).2.2.1) (by decide) (by decide) ?_
      show Steps p.tables e below (T40.setTop (mkF m 16 #[.val (.ref a1)] [])) _
      refine XS.iconst X40.here hx rfl (hb hby d4_16) ?_
      show Steps p.tables e below (T40.setTop (mkF m 17 #[.val (.ref a1)] [(.int (1 : Int32))])) _
      refine XS.goto X40.here hx rfl (pc0 := 17) (pc' := 21) rfl (hb hby d4_17) (by decide) (by decide) ?_
      show Steps p.tables e below (T40.setTop (mkF m 21 #[.val (.ref a1)] [(.int (1 : Int32))])) _
      exact retN X40 hx (t := .boolean) Bd.returns (by simp) (hb hby d4_21) hr
    · show Qrm4 Z a1 p2 p4 h0 n0 _ T40.heap _
      rw [e40]
      exact ⟨by rw [if_pos hA], N0, rfl⟩
  · obtain ⟨T41, X41, e41, st41⟩ := getF X40 hx hZ hown (host := "") (Or.inl (hw _ (List.mem_of_getElem? (i := 20) rfl))) Via.refl e40 F4 (g := (mkF m 8 #[.val (.ref a1)] [(.ref a1)])) rfl rfl (hb hby d4_8)
    obtain ⟨v43, hv43⟩ : ∃ v : Int32, v = if p4 = (2147483647 : Int32) then (0 : Int32) else (1 : Int32) := ⟨_, rfl⟩
    obtain ⟨fs, hr, hrun, hended, hW, hsame⟩ := X41.leave (v := some (.int v43)) (fun h => by rw [Bd.returns] at h; cases h)
    refine ⟨_, _, pre0 _ ?_, hrun, hended, _, _, rfl, ?_, ⟨_, rfl⟩, hW, hsame.mono (by decide) (by decide)⟩
    · show Steps p.tables e below (s₁.setTop (mkF m 0 #[.val (.ref a1)] [])) _
      refine XS.aloadN X0.here hx rfl (hb hby d4_0) rfl rfl ?_
      show Steps p.tables e below (s₁.setTop (mkF m 1 #[.val (.ref a1)] [(.ref a1)])) _
      refine st40 _ ?_
      show Steps p.tables e below (T40.setTop (mkF m 4 #[.val (.ref a1)] [(.int p2)])) _
      refine XS.ifNo X40.here hx rfl (hb hby d4_4) rfl ((if0 _ _).trans (flt hA).2.2.1) ?_
      show Steps p.tables e below (T40.setTop (mkF m 7 #[.val (.ref a1)] [])) _
      refine XS.aloadN X40.here hx rfl (hb hby d4_7) rfl rfl ?_
      show Steps p.tables e below (T40.setTop (mkF m 8 #[.val (.ref a1)] [(.ref a1)])) _
      refine st41 _ ?_
      show Steps p.tables e below (T41.setTop (mkF m 11 #[.val (.ref a1)] [(.int p4)])) _
      refine X41.ldcInt hx hown (mvT hZ (hw _ (List.mem_of_getElem? (i := 28) rfl))) (g := (mkF m 11 #[.val (.ref a1)] [(.int p4)])) rfl (hb hby d4_11) _ ?_
      by_cases hc42 : p4 = (2147483647 : Int32)
      · rw [show v43 = (0 : Int32) from by rw [hv43, if_pos hc42]] at hr
        show Steps p.tables e below (T41.setTop (mkF m 13 #[.val (.ref a1)] [(.int (2147483647 : Int32)), (.int p4)])) _
        refine XS.icmpYes X41.here hx rfl (pc0 := 13) (pc' := 20) rfl (hb hby d4_13) rfl (teq hc42).1 (by decide) (by decide) ?_
        show Steps p.tables e below (T41.setTop (mkF m 20 #[.val (.ref a1)] [])) _
        refine XS.iconst X41.here hx rfl (hb hby d4_20) ?_
        show Steps p.tables e below (T41.setTop (mkF m 21 #[.val (.ref a1)] [(.int (0 : Int32))])) _
        exact retN X41 hx (t := .boolean) Bd.returns (by simp) (hb hby d4_21) hr
      · rw [show v43 = (1 : Int32) from by rw [hv43, if_neg hc42]] at hr
        show Steps p.tables e below (T41.setTop (mkF m 13 #[.val (.ref a1)] [(.int (2147483647 : Int32)), (.int p4)])) _
        refine XS.icmpNo X41.here hx rfl (hb hby d4_13) rfl (feq hc42).1 ?_
        show Steps p.tables e below (T41.setTop (mkF m 16 #[.val (.ref a1)] [])) _
        refine XS.iconst X41.here hx rfl (hb hby d4_16) ?_
        show Steps p.tables e below (T41.setTop (mkF m 17 #[.val (.ref a1)] [(.int (1 : Int32))])) _
        refine XS.goto X41.here hx rfl (pc0 := 17) (pc' := 21) rfl (hb hby d4_17) (by decide) (by decide) ?_
        show Steps p.tables e below (T41.setTop (mkF m 21 #[.val (.ref a1)] [(.int (1 : Int32))])) _
        exact retN X41 hx (t := .boolean) Bd.returns (by simp) (hb hby d4_21) hr
    · show Qrm4 Z a1 p2 p4 h0 n0 _ T41.heap _
      rw [e41]
      exact ⟨by rw [if_neg hA, hv43], N0, rfl⟩
theorem own_fin {mn mx v8 v9 va vb : Int32} (h8 : v8 = if mn < (1 : Int32) then (0 : Int32) else (1 : Int32)) (h9 : v9 = if mx < (2147483647 : Int32) then (1 : Int32) else (0 : Int32)) (ha : va = if v9 = (0 : Int32) then (0 : Int32) else (1 : Int32)) (hb : vb = if v8 = (0 : Int32) then va else (1 : Int32)) :
    (if (0 : Int32) < mn then (1 : Int32) else if mx = (2147483647 : Int32) then 0 else 1) = vb := by
  have e1 : (0 : Int32) < mn ↔ ¬ mn < (1 : Int32) := by rw [Int32.lt_iff_toInt_lt, Int32.lt_iff_toInt_lt]; show (0 : Int) < _ ↔ ¬ (_ < (1 : Int)); omega
  have e2 : mx = (2147483647 : Int32) ↔ ¬ mx < (2147483647 : Int32) := by
    rw [Int32.lt_iff_toInt_lt, ← Int32.toInt_inj]; have := Int32.toInt_lt mx; show mx.toInt = (2147483647 : Int) ↔ ¬ (_ < (2147483647 : Int)); omega
  subst hb ha h9 h8
  by_cases q1 : mn < (1 : Int32) <;> by_cases q2 : mx < (2147483647 : Int32) <;> simp [e1, e2, q1, q2]
theorem pd__ZIZI_V : parseMethodDescriptor "(ZIZI)V" = some ⟨[.boolean, .int, .boolean, .int], none⟩ := by decide +kernel
theorem pd___Z : parseMethodDescriptor "()Z" = some ⟨[], some .boolean⟩ := by decide +kernel
theorem pn_lanternweir_core_FormatCutsOrPadsPinLaw : plainName "lanternweir/core/FormatCutsOrPadsPinLaw" = true := by first | (simp [plainName, overriddenIn]; done) | decide +kernel
theorem ef_rm0 (m : MethodId) (p0 : Int32) (p1 : Int32) (p2 : Int32) : entryFrame m #[(.int p0), (.int p1), (.int p2)] maxLocals = mkF m 0 #[.val (.int p0), .val (.int p1), .val (.int p2), .unset, .unset, .unset, .unset, .unset, .unset, .unset, .unset] [] := by first | (simp [entryFrame, mkF, argsToLocals, Value.category, maxLocals]; done) | rfl
def Qrm0 (Z : State) (p0 : Int32) (p1 : Int32) (p2 : Int32) (h0 : Heap) (n0 : Nat) (v : Option Value) (h : Heap) (L : List Loc) : Prop := v = some (.int 1) ∧ Fr n0 L
set_option maxRecDepth 65536 in
set_option maxHeartbeats 40000000 in
theorem rm0 (l : Launch) (Z : State) (a0 : Array Value) (hw : ∀ d ∈ tables_1, d.before a0 Z = true) (ws : List Jvm.Cond) (p0 : Int32) (p1 : Int32) (p2 : Int32) (h0 : Heap) (n0 : Nat) (Z0 : n0 ≤ h0.size) :
    MetFree l x (head1 (Jvm.Cond.code x code maxLocals ret :: ws) room_1) (fun a U => a = #[(.int p0), (.int p1), (.int p2)] ∧ Z.Warmed39 U.vm ∧ U.heap = h0) (fun _ _ _ _ _ => True) (fun _ U o U' => ∃ v L, o = .returned v ∧ Qrm0 Z p0 p1 p2 h0 n0 v U'.heap L ∧ FrameEnd U o U' L room_1.cells room_1.slots) := by
  refine MetFree.of_bodySF (plainFor_of_name pn_lanternweir_core_FormatCutsOrPadsPinLaw) hisR ?_
  intro p e s m args below meth c s₁ Bd hml0 hP hK
  obtain ⟨rfl, hZ, hh⟩ := hP
  have hx := Bd.exec
  have hby := Bd.bytes
  have hml : c.maxLocals = 11 := hml0
  have hown : s.vm.findClass "lanternweir/core/FormatCutsOrPadsPinLaw" = some m.cls := findClass_of_methodNamed Bd.named
  have hnm := (name_of_methodNamed Bd.named Bd.method).1
  have X0 : Stand p l e room_1 s m #[(.int p0), (.int p1), (.int p2)] below meth c s₁ [] 0 0 := Stand.of_body Bd
  have e0 : s₁.heap = h0 := by rw [← hh, Bd.state]; rfl
  have N0 := Fr.nil n0
  have pre0 : ∀ t, Steps p.tables e below (s₁.setTop (mkF m 0 #[.val (.int p0), .val (.int p1), .val (.int p2), .unset, .unset, .unset, .unset, .unset, .unset, .unset, .unset] [])) t → Steps p.tables e below (s₁.setTop (entryFrame m #[(.int p0), (.int p1), (.int p2)] maxLocals)) t := fun t k => castTop (ef_rm0 m p0 p1 p2) k
  obtain ⟨v45, hv45⟩ : ∃ v : Int32, v = if (p2 &&& (1 : Int32)) = (0 : Int32) then (0 : Int32) else (1 : Int32) := ⟨_, rfl⟩
  obtain ⟨v47, hv47⟩ : ∃ v : Int32, v = if (p2 &&& (2 : Int32)) = (0 : Int32) then (0 : Int32) else (1 : Int32) := ⟨_, rfl⟩
  obtain ⟨v49, hv49⟩ : ∃ v : Int32, v = if (p2 &&& (4 : Int32)) = (0 : Int32) then p1 else (2147483647 : Int32) := ⟨_, rfl⟩
  obtain ⟨v51, hv51⟩ : ∃ v : Int32, v = if (p2 &&& (8 : Int32)) = (0 : Int32) then p0 else (0 : Int32) := ⟨_, rfl⟩
  obtain ⟨T52, h52, X52, e52, E52, A52, D52, U52, st52⟩ := newO X0 hx hZ hown (hw _ (List.mem_of_getElem? (i := 0) rfl)) (hw _ (List.mem_of_getElem? (i := 1) rfl)) (hw _ (List.mem_of_getElem? (i := 2) rfl)) e0 (g := (mkF m 53 #[.val (.int p0), .val (.int p1), .val (.int p2), .val (.int v45), .val (.int v47), .val (.int v49), .val (.int v51), .unset, .unset, .unset, .unset] [])) rfl (hb hby at_53) (by decide) (by decide)
  obtain ⟨b52, g52⟩ : ∃ z, z = h0.size := ⟨_, rfl⟩
  rw [← g52] at A52 D52 st52
  have g53 : n0 ≤ b52 := Nat.le_trans Z0 (Nat.le_of_eq g52.symm)
  have Zn54 := Nat.le_trans Z0 E52.1
  have f55 : Fld Z h52 b52 "lanternweir/core/PatternParser$Format" "leftJustify" "Z" (.int (0 : Int32)) := D52 (Or.inr (hw _ (List.mem_of_getElem? (i := 15) rfl))) (ty := .boolean) (by decide)
  have f56 : Fld Z h52 b52 "lanternweir/core/PatternParser$Format" "minWidth" "I" (.int (0 : Int32)) := D52 (Or.inr (hw _ (List.mem_of_getElem? (i := 17) rfl))) (ty := .int) (by decide)
  have f57 : Fld Z h52 b52 "lanternweir/core/PatternParser$Format" "cutsEnd" "Z" (.int (0 : Int32)) := D52 (Or.inr (hw _ (List.mem_of_getElem? (i := 19) rfl))) (ty := .boolean) (by decide)
  have f58 : Fld Z h52 b52 "lanternweir/core/PatternParser$Format" "maxWidth" "I" (.int (0 : Int32)) := D52 (Or.inr (hw _ (List.mem_of_getElem? (i := 21) rfl))) (ty := .int) (by decide)
  obtain ⟨_, _, ⟨T59, L59, k59, n59⟩, -, X59, ⟨Lc59, hQ59, l59, y59, z59⟩, st59⟩ := X52.specialBack hx (y := (⟨"lanternweir/core/PatternParser$Format", "<init>", "(ZIZI)V"⟩ : MethodName)) rfl hown (mvT hZ (hw _ (List.mem_of_getElem? (i := 3) rfl))) (mvT hZ (hw _ (List.mem_of_getElem? (i := 4) rfl))) (mvT hZ (hw _ (List.mem_of_getElem? (i := 5) rfl))) (by decide) (backOf (W := 1) (rm1 l Z a0 hw [] b52 v45 v51 v47 v49  h52 n0 Zn54 A52 f55 f56 f57 f58 g53) hZ (hw _ (List.mem_of_getElem? (i := 5) rfl)) (hw _ (List.mem_of_getElem? (i := 2) rfl)) (by decide) (by decide)) (g := (mkF m 64 #[.val (.int p0), .val (.int p1), .val (.int p2), .val (.int v45), .val (.int v47), .val (.int v49), .val (.int v51), .unset, .unset, .unset, .unset] [(.int v49), (.int v47), (.int v51), (.int v45), (.ref b52), (.ref b52)])) rfl (by rw [hml]; rfl) (Steps.refl _) (a := b52) (argsL := [(.int v45), (.int v51), (.int v47), (.int v49)]) (rest := [(.ref b52)]) (lenOf pd__ZIZI_V rfl) rfl (by show 2 * 0 + _ ≤ _; exact Nat.le_of_eq rfl) (hb hby at_64) (fun _ _ => ⟨rfl, e52, (by decide : 1 + 0 ≤ _), (by decide : 4 + 0 ≤ _)⟩)
  dsimp only [Pt.U, Pt.locs, Pt.cells, Pt.slots] at X59 l59 y59 z59 st59 hQ59
  subst l59 y59 z59
  obtain ⟨rfl, N59q, K59, Fm59, Fx59⟩ := hQ59
  have N60 := Fr.app N0 N59q
  have f61 := A52.keep K59
  have Zn62 := Nat.le_trans Zn54 K59.1
  obtain ⟨v64, hv64⟩ : ∃ v : Int32, v = if v51 < (1 : Int32) then (0 : Int32) else (1 : Int32) := ⟨_, rfl⟩
  obtain ⟨v66, hv66⟩ : ∃ v : Int32, v = if v49 < (2147483647 : Int32) then (1 : Int32) else (0 : Int32) := ⟨_, rfl⟩
  obtain ⟨v69, hv69⟩ : ∃ v : Int32, v = if v66 = (0 : Int32) then (0 : Int32) else (1 : Int32) := ⟨_, rfl⟩
  obtain ⟨v70, hv70⟩ : ∃ v : Int32, v = if v64 = (0 : Int32) then v69 else (1 : Int32) := ⟨_, rfl⟩
  obtain ⟨cq71, kq71, q71a, q71b, q71c⟩ := isOf hZ rfl f61
  obtain ⟨_, _, ⟨T71, L71, k71, n71⟩, -, X71, ⟨Lc71, hQ71, l71, y71, z71⟩, st71⟩ := X59.virtualBack hx (y := (⟨"lanternweir/core/PatternParser$Format", "cutsOrPads", "()Z"⟩ : MethodName)) (z := (⟨"lanternweir/core/PatternParser$Format", "cutsOrPads", "()Z"⟩ : MethodName)) hown (mvT hZ (hw _ (List.mem_of_getElem? (i := 23) rfl))) (mvT hZ (hw _ (List.mem_of_getElem? (i := 24) rfl))) (notFace_of_selects (args := #[]) (mvT hZ (hw _ (List.mem_of_getElem? (i := 26) rfl)))) (mvT hZ (hw _ (List.mem_of_getElem? (i := 26) rfl))) (mvT hZ (hw _ (List.mem_of_getElem? (i := 25) rfl))) (by decide) (backOf (W := 0) (rm4 l Z a0 hw [] b52 v51 v49 T59.heap n0 Zn62 Fm59 Fx59) hZ (hw _ (List.mem_of_getElem? (i := 27) rfl)) (hw _ (List.mem_of_getElem? (i := 2) rfl)) (by decide) (by decide)) q71a q71c (g := (mkF m 123 #[.val (.int p0), .val (.int p1), .val (.int p2), .val (.int v45), .val (.int v47), .val (.int v49), .val (.int v51), .val (.ref b52), .val (.int v64), .val (.int v66), .val (.int v70)] [(.ref b52)])) rfl (by rw [hml]; rfl) (Steps.refl _) (argsL := []) (rest := []) (lenOf pd___Z rfl) rfl (by show 2 * 0 + _ ≤ _; exact Nat.le_of_eq rfl) (hb hby at_123) (fun _ _ => ⟨rfl, rfl, (by decide : 1 + 0 ≤ _), (by decide : 4 + 0 ≤ _)⟩)
  dsimp only [Pt.U, Pt.locs, Pt.cells, Pt.slots] at X71 l71 y71 z71 st71 hQ71
  subst l71 y71 z71
  obtain ⟨rfl, N71q, e71⟩ := hQ71
  have N72 := Fr.app N60 N71q
  obtain ⟨fs, hr, hrun, hended, hW, hsame⟩ := X71.leave (v := some (.int (1 : Int32))) (fun h => by rw [Bd.returns] at h; cases h)
  refine ⟨_, _, pre0 _ ?_, hrun, hended, _, _, rfl, ?_, ⟨_, rfl⟩, hW, hsame.mono (by decide) (by decide)⟩
  · show Steps p.tables e below (s₁.setTop (mkF m 0 #[.val (.int p0), .val (.int p1), .val (.int p2), .unset, .unset, .unset, .unset, .unset, .unset, .unset, .unset] [])) _
    refine XS.iloadN X0.here hx rfl (hb hby at_0) rfl ?_
    show Steps p.tables e below (s₁.setTop (mkF m 1 #[.val (.int p0), .val (.int p1), .val (.int p2), .unset, .unset, .unset, .unset, .unset, .unset, .unset, .unset] [(.int p2)])) _
    refine XS.iconst X0.here hx rfl (hb hby at_1) ?_
    show Steps p.tables e below (s₁.setTop (mkF m 2 #[.val (.int p0), .val (.int p1), .val (.int p2), .unset, .unset, .unset, .unset, .unset, .unset, .unset, .unset] [(.int (1 : Int32)), (.int p2)])) _
    refine XS.iand X0.here hx rfl (hb hby at_2) rfl ?_
    refine joinS (B := s₁.setTop (mkF m 11 #[.val (.int p0), .val (.int p1), .val (.int p2), .unset, .unset, .unset, .unset, .unset, .unset, .unset, .unset] [(.int v45)])) (fun kt => ?_) ?_
    · by_cases hc44 : (p2 &&& (1 : Int32)) = (0 : Int32)
      · rw [show v45 = (0 : Int32) from by rw [hv45, if_pos hc44]] at kt
        show Steps p.tables e below (s₁.setTop (mkF m 3 #[.val (.int p0), .val (.int p1), .val (.int p2), .unset, .unset, .unset, .unset, .unset, .unset, .unset, .unset] [(.int (p2 &&& (1 : Int32)))])) _
        refine XS.ifYes X0.here hx rfl (pc0 := 3) (pc' := 10) rfl (hb hby at_3) rfl ((if0 _ _).trans (teq hc44).1) (by decide) (by decide) ?_
        show Steps p.tables e below (s₁.setTop (mkF m 10 #[.val (.int p0), .val (.int p1), .val (.int p2), .unset, .unset, .unset, .unset, .unset, .unset, .unset, .unset] [])) _
        refine XS.iconst X0.here hx rfl (hb hby at_10) ?_
        exact kt
      · rw [show v45 = (1 : Int32) from by rw [hv45, if_neg hc44]] at kt
        show Steps p.tables e below (s₁.setTop (mkF m 3 #[.val (.int p0), .val (.int p1), .val (.int p2), .unset, .unset, .unset, .unset, .unset, .unset, .unset, .unset] [(.int (p2 &&& (1 : Int32)))])) _
        refine XS.ifNo X0.here hx rfl (hb hby at_3) rfl ((if0 _ _).trans (feq hc44).1) ?_
        show Steps p.tables e below (s₁.setTop (mkF m 6 #[.val (.int p0), .val (.int p1), .val (.int p2), .unset, .unset, .unset, .unset, .unset, .unset, .unset, .unset] [])) _
        refine XS.iconst X0.here hx rfl (hb hby at_6) ?_
        show Steps p.tables e below (s₁.setTop (mkF m 7 #[.val (.int p0), .val (.int p1), .val (.int p2), .unset, .unset, .unset, .unset, .unset, .unset, .unset, .unset] [(.int (1 : Int32))])) _
        refine XS.goto X0.here hx rfl (pc0 := 7) (pc' := 11) rfl (hb hby at_7) (by decide) (by decide) ?_
        exact kt
    show Steps p.tables e below (s₁.setTop (mkF m 11 #[.val (.int p0), .val (.int p1), .val (.int p2), .unset, .unset, .unset, .unset, .unset, .unset, .unset, .unset] [(.int v45)])) _
    refine XS.istoreN X0.here hx rfl (hb hby at_11) rfl (l' := #[.val (.int p0), .val (.int p1), .val (.int p2), .val (.int v45), .unset, .unset, .unset, .unset, .unset, .unset, .unset]) rfl ?_
    show Steps p.tables e below (s₁.setTop (mkF m 12 #[.val (.int p0), .val (.int p1), .val (.int p2), .val (.int v45), .unset, .unset, .unset, .unset, .unset, .unset, .unset] [])) _
    refine XS.iloadN X0.here hx rfl (hb hby at_12) rfl ?_
    show Steps p.tables e below (s₁.setTop (mkF m 13 #[.val (.int p0), .val (.int p1), .val (.int p2), .val (.int v45), .unset, .unset, .unset, .unset, .unset, .unset, .unset] [(.int p2)])) _
    refine XS.iconst X0.here hx rfl (hb hby at_13) ?_
    show Steps p.tables e below (s₁.setTop (mkF m 14 #[.val (.int p0), .val (.int p1), .val (.int p2), .val (.int v45), .unset, .unset, .unset, .unset, .unset, .unset, .unset] [(.int (2 : Int32)), (.int p2)])) _
    refine XS.iand X0.here hx rfl (hb hby at_14) rfl ?_
    refine joinS (B := s₁.setTop (mkF m 23 #[.val (.int p0), .val (.int p1), .val (.int p2), .val (.int v45), .unset, .unset, .unset, .unset, .unset, .unset, .unset] [(.int v47)])) (fun kt => ?_) ?_
    · by_cases hc46 : (p2 &&& (2 : Int32)) = (0 : Int32)
      · rw [show v47 = (0 : Int32) from by rw [hv47, if_pos hc46]] at kt
        show Steps p.tables e below (s₁.setTop (mkF m 15 #[.val (.int p0), .val (.int p1), .val (.int p2), .val (.int v45), .unset, .unset, .unset, .unset, .unset, .unset, .unset] [(.int (p2 &&& (2 : Int32)))])) _
        refine XS.ifYes X0.here hx rfl (pc0 := 15) (pc' := 22) rfl (hb hby at_15) rfl ((if0 _ _).trans (teq hc46).1) (by decide) (by decide) ?_
        show Steps p.tables e below (s₁.setTop (mkF m 22 #[.val (.int p0), .val (.int p1), .val (.int p2), .val (.int v45), .unset, .unset, .unset, .unset, .unset, .unset, .unset] [])) _
        refine XS.iconst X0.here hx rfl (hb hby at_22) ?_
        exact kt
      · rw [show v47 = (1 : Int32) from by rw [hv47, if_neg hc46]] at kt
        show Steps p.tables e below (s₁.setTop (mkF m 15 #[.val (.int p0), .val (.int p1), .val (.int p2), .val (.int v45), .unset, .unset, .unset, .unset, .unset, .unset, .unset] [(.int (p2 &&& (2 : Int32)))])) _
        refine XS.ifNo X0.here hx rfl (hb hby at_15) rfl ((if0 _ _).trans (feq hc46).1) ?_
        show Steps p.tables e below (s₁.setTop (mkF m 18 #[.val (.int p0), .val (.int p1), .val (.int p2), .val (.int v45), .unset, .unset, .unset, .unset, .unset, .unset, .unset] [])) _
        refine XS.iconst X0.here hx rfl (hb hby at_18) ?_
        show Steps p.tables e below (s₁.setTop (mkF m 19 #[.val (.int p0), .val (.int p1), .val (.int p2), .val (.int v45), .unset, .unset, .unset, .unset, .unset, .unset, .unset] [(.int (1 : Int32))])) _
        refine XS.goto X0.here hx rfl (pc0 := 19) (pc' := 23) rfl (hb hby at_19) (by decide) (by decide) ?_
        exact kt
    show Steps p.tables e below (s₁.setTop (mkF m 23 #[.val (.int p0), .val (.int p1), .val (.int p2), .val (.int v45), .unset, .unset, .unset, .unset, .unset, .unset, .unset] [(.int v47)])) _
    refine XS.istore X0.here hx rfl (hb hby at_23) rfl (l' := #[.val (.int p0), .val (.int p1), .val (.int p2), .val (.int v45), .val (.int v47), .unset, .unset, .unset, .unset, .unset, .unset]) rfl ?_
    show Steps p.tables e below (s₁.setTop (mkF m 25 #[.val (.int p0), .val (.int p1), .val (.int p2), .val (.int v45), .val (.int v47), .unset, .unset, .unset, .unset, .unset, .unset] [])) _
    refine XS.iloadN X0.here hx rfl (hb hby at_25) rfl ?_
    show Steps p.tables e below (s₁.setTop (mkF m 26 #[.val (.int p0), .val (.int p1), .val (.int p2), .val (.int v45), .val (.int v47), .unset, .unset, .unset, .unset, .unset, .unset] [(.int p2)])) _
    refine XS.iconst X0.here hx rfl (hb hby at_26) ?_
    show Steps p.tables e below (s₁.setTop (mkF m 27 #[.val (.int p0), .val (.int p1), .val (.int p2), .val (.int v45), .val (.int v47), .unset, .unset, .unset, .unset, .unset, .unset] [(.int (4 : Int32)), (.int p2)])) _
    refine XS.iand X0.here hx rfl (hb hby at_27) rfl ?_
    refine joinS (B := s₁.setTop (mkF m 37 #[.val (.int p0), .val (.int p1), .val (.int p2), .val (.int v45), .val (.int v47), .unset, .unset, .unset, .unset, .unset, .unset] [(.int v49)])) (fun kt => ?_) ?_
    · by_cases hc48 : (p2 &&& (4 : Int32)) = (0 : Int32)
      · rw [show v49 = p1 from by rw [hv49, if_pos hc48]] at kt
        show Steps p.tables e below (s₁.setTop (mkF m 28 #[.val (.int p0), .val (.int p1), .val (.int p2), .val (.int v45), .val (.int v47), .unset, .unset, .unset, .unset, .unset, .unset] [(.int (p2 &&& (4 : Int32)))])) _
        refine XS.ifYes X0.here hx rfl (pc0 := 28) (pc' := 36) rfl (hb hby at_28) rfl ((if0 _ _).trans (teq hc48).1) (by decide) (by decide) ?_
        show Steps p.tables e below (s₁.setTop (mkF m 36 #[.val (.int p0), .val (.int p1), .val (.int p2), .val (.int v45), .val (.int v47), .unset, .unset, .unset, .unset, .unset, .unset] [])) _
        refine XS.iloadN X0.here hx rfl (hb hby at_36) rfl ?_
        exact kt
      · rw [show v49 = (2147483647 : Int32) from by rw [hv49, if_neg hc48]] at kt
        show Steps p.tables e below (s₁.setTop (mkF m 28 #[.val (.int p0), .val (.int p1), .val (.int p2), .val (.int v45), .val (.int v47), .unset, .unset, .unset, .unset, .unset, .unset] [(.int (p2 &&& (4 : Int32)))])) _
        refine XS.ifNo X0.here hx rfl (hb hby at_28) rfl ((if0 _ _).trans (feq hc48).1) ?_
        show Steps p.tables e below (s₁.setTop (mkF m 31 #[.val (.int p0), .val (.int p1), .val (.int p2), .val (.int v45), .val (.int v47), .unset, .unset, .unset, .unset, .unset, .unset] [])) _
        refine X0.ldcInt hx hown (mvT hZ (hw _ (List.mem_of_getElem? (i := 22) rfl))) (g := (mkF m 31 #[.val (.int p0), .val (.int p1), .val (.int p2), .val (.int v45), .val (.int v47), .unset, .unset, .unset, .unset, .unset, .unset] [])) rfl (hb hby at_31) _ ?_
        show Steps p.tables e below (s₁.setTop (mkF m 33 #[.val (.int p0), .val (.int p1), .val (.int p2), .val (.int v45), .val (.int v47), .unset, .unset, .unset, .unset, .unset, .unset] [(.int (2147483647 : Int32))])) _
        refine XS.goto X0.here hx rfl (pc0 := 33) (pc' := 37) rfl (hb hby at_33) (by decide) (by decide) ?_
        exact kt
    show Steps p.tables e below (s₁.setTop (mkF m 37 #[.val (.int p0), .val (.int p1), .val (.int p2), .val (.int v45), .val (.int v47), .unset, .unset, .unset, .unset, .unset, .unset] [(.int v49)])) _
    refine XS.istore X0.here hx rfl (hb hby at_37) rfl (l' := #[.val (.int p0), .val (.int p1), .val (.int p2), .val (.int v45), .val (.int v47), .val (.int v49), .unset, .unset, .unset, .unset, .unset]) rfl ?_
    show Steps p.tables e below (s₁.setTop (mkF m 39 #[.val (.int p0), .val (.int p1), .val (.int p2), .val (.int v45), .val (.int v47), .val (.int v49), .unset, .unset, .unset, .unset, .unset] [])) _
    refine XS.iloadN X0.here hx rfl (hb hby at_39) rfl ?_
    show Steps p.tables e below (s₁.setTop (mkF m 40 #[.val (.int p0), .val (.int p1), .val (.int p2), .val (.int v45), .val (.int v47), .val (.int v49), .unset, .unset, .unset, .unset, .unset] [(.int p2)])) _
    refine XS.bipush X0.here hx rfl (hb hby at_40) ?_
    show Steps p.tables e below (s₁.setTop (mkF m 42 #[.val (.int p0), .val (.int p1), .val (.int p2), .val (.int v45), .val (.int v47), .val (.int v49), .unset, .unset, .unset, .unset, .unset] [(.int (8 : Int32)), (.int p2)])) _
    refine XS.iand X0.here hx rfl (hb hby at_42) rfl ?_
    refine joinS (B := s₁.setTop (mkF m 51 #[.val (.int p0), .val (.int p1), .val (.int p2), .val (.int v45), .val (.int v47), .val (.int v49), .unset, .unset, .unset, .unset, .unset] [(.int v51)])) (fun kt => ?_) ?_
    · by_cases hc50 : (p2 &&& (8 : Int32)) = (0 : Int32)
      · rw [show v51 = p0 from by rw [hv51, if_pos hc50]] at kt
        show Steps p.tables e below (s₁.setTop (mkF m 43 #[.val (.int p0), .val (.int p1), .val (.int p2), .val (.int v45), .val (.int v47), .val (.int v49), .unset, .unset, .unset, .unset, .unset] [(.int (p2 &&& (8 : Int32)))])) _
        refine XS.ifYes X0.here hx rfl (pc0 := 43) (pc' := 50) rfl (hb hby at_43) rfl ((if0 _ _).trans (teq hc50).1) (by decide) (by decide) ?_
        show Steps p.tables e below (s₁.setTop (mkF m 50 #[.val (.int p0), .val (.int p1), .val (.int p2), .val (.int v45), .val (.int v47), .val (.int v49), .unset, .unset, .unset, .unset, .unset] [])) _
        refine XS.iloadN X0.here hx rfl (hb hby at_50) rfl ?_
        exact kt
      · rw [show v51 = (0 : Int32) from by rw [hv51, if_neg hc50]] at kt
        show Steps p.tables e below (s₁.setTop (mkF m 43 #[.val (.int p0), .val (.int p1), .val (.int p2), .val (.int v45), .val (.int v47), .val (.int v49), .unset, .unset, .unset, .unset, .unset] [(.int (p2 &&& (8 : Int32)))])) _
        refine XS.ifNo X0.here hx rfl (hb hby at_43) rfl ((if0 _ _).trans (feq hc50).1) ?_
        show Steps p.tables e below (s₁.setTop (mkF m 46 #[.val (.int p0), .val (.int p1), .val (.int p2), .val (.int v45), .val (.int v47), .val (.int v49), .unset, .unset, .unset, .unset, .unset] [])) _
        refine XS.iconst X0.here hx rfl (hb hby at_46) ?_
        show Steps p.tables e below (s₁.setTop (mkF m 47 #[.val (.int p0), .val (.int p1), .val (.int p2), .val (.int v45), .val (.int v47), .val (.int v49), .unset, .unset, .unset, .unset, .unset] [(.int (0 : Int32))])) _
        refine XS.goto X0.here hx rfl (pc0 := 47) (pc' := 51) rfl (hb hby at_47) (by decide) (by decide) ?_
        exact kt
    show Steps p.tables e below (s₁.setTop (mkF m 51 #[.val (.int p0), .val (.int p1), .val (.int p2), .val (.int v45), .val (.int v47), .val (.int v49), .unset, .unset, .unset, .unset, .unset] [(.int v51)])) _
    refine XS.istore X0.here hx rfl (hb hby at_51) rfl (l' := #[.val (.int p0), .val (.int p1), .val (.int p2), .val (.int v45), .val (.int v47), .val (.int v49), .val (.int v51), .unset, .unset, .unset, .unset]) rfl ?_
    show Steps p.tables e below (s₁.setTop (mkF m 53 #[.val (.int p0), .val (.int p1), .val (.int p2), .val (.int v45), .val (.int v47), .val (.int v49), .val (.int v51), .unset, .unset, .unset, .unset] [])) _
    refine st52 _ ?_
    show Steps p.tables e below (T52.setTop (mkF m 56 #[.val (.int p0), .val (.int p1), .val (.int p2), .val (.int v45), .val (.int v47), .val (.int v49), .val (.int v51), .unset, .unset, .unset, .unset] [(.ref b52)])) _
    refine XS.dup X52.here hx rfl (hb hby at_56) rfl rfl ?_
    show Steps p.tables e below (T52.setTop (mkF m 57 #[.val (.int p0), .val (.int p1), .val (.int p2), .val (.int v45), .val (.int v47), .val (.int v49), .val (.int v51), .unset, .unset, .unset, .unset] [(.ref b52), (.ref b52)])) _
    refine XS.iloadN X52.here hx rfl (hb hby at_57) rfl ?_
    show Steps p.tables e below (T52.setTop (mkF m 58 #[.val (.int p0), .val (.int p1), .val (.int p2), .val (.int v45), .val (.int v47), .val (.int v49), .val (.int v51), .unset, .unset, .unset, .unset] [(.int v45), (.ref b52), (.ref b52)])) _
    refine XS.iload X52.here hx rfl (hb hby at_58) rfl ?_
    show Steps p.tables e below (T52.setTop (mkF m 60 #[.val (.int p0), .val (.int p1), .val (.int p2), .val (.int v45), .val (.int v47), .val (.int v49), .val (.int v51), .unset, .unset, .unset, .unset] [(.int v51), (.int v45), (.ref b52), (.ref b52)])) _
    refine XS.iload X52.here hx rfl (hb hby at_60) rfl ?_
    show Steps p.tables e below (T52.setTop (mkF m 62 #[.val (.int p0), .val (.int p1), .val (.int p2), .val (.int v45), .val (.int v47), .val (.int v49), .val (.int v51), .unset, .unset, .unset, .unset] [(.int v47), (.int v51), (.int v45), (.ref b52), (.ref b52)])) _
    refine XS.iload X52.here hx rfl (hb hby at_62) rfl ?_
    show Steps p.tables e below (T52.setTop (mkF m 64 #[.val (.int p0), .val (.int p1), .val (.int p2), .val (.int v45), .val (.int v47), .val (.int v49), .val (.int v51), .unset, .unset, .unset, .unset] [(.int v49), (.int v47), (.int v51), (.int v45), (.ref b52), (.ref b52)])) _
    refine st59.trans ?_
    show Steps p.tables e below (T59.setTop (mkF m 67 #[.val (.int p0), .val (.int p1), .val (.int p2), .val (.int v45), .val (.int v47), .val (.int v49), .val (.int v51), .unset, .unset, .unset, .unset] [(.ref b52)])) _
    refine XS.astore X59.here hx rfl (hb hby at_67) rfl rfl (l' := #[.val (.int p0), .val (.int p1), .val (.int p2), .val (.int v45), .val (.int v47), .val (.int v49), .val (.int v51), .val (.ref b52), .unset, .unset, .unset]) rfl ?_
    show Steps p.tables e below (T59.setTop (mkF m 69 #[.val (.int p0), .val (.int p1), .val (.int p2), .val (.int v45), .val (.int v47), .val (.int v49), .val (.int v51), .val (.ref b52), .unset, .unset, .unset] [])) _
    refine XS.iload X59.here hx rfl (hb hby at_69) rfl ?_
    show Steps p.tables e below (T59.setTop (mkF m 71 #[.val (.int p0), .val (.int p1), .val (.int p2), .val (.int v45), .val (.int v47), .val (.int v49), .val (.int v51), .val (.ref b52), .unset, .unset, .unset] [(.int v51)])) _
    refine XS.iconst X59.here hx rfl (hb hby at_71) ?_
    refine joinS (B := T59.setTop (mkF m 80 #[.val (.int p0), .val (.int p1), .val (.int p2), .val (.int v45), .val (.int v47), .val (.int v49), .val (.int v51), .val (.ref b52), .unset, .unset, .unset] [(.int v64)])) (fun kt => ?_) ?_
    · by_cases hc63 : v51 < (1 : Int32)
      · rw [show v64 = (0 : Int32) from by rw [hv64, if_pos hc63]] at kt
        show Steps p.tables e below (T59.setTop (mkF m 72 #[.val (.int p0), .val (.int p1), .val (.int p2), .val (.int v45), .val (.int v47), .val (.int v49), .val (.int v51), .val (.ref b52), .unset, .unset, .unset] [(.int (1 : Int32)), (.int v51)])) _
        refine XS.icmpYes X59.here hx rfl (pc0 := 72) (pc' := 79) rfl (hb hby at_72) rfl (tlt hc63).1 (by decide) (by decide) ?_
        show Steps p.tables e below (T59.setTop (mkF m 79 #[.val (.int p0), .val (.int p1), .val (.int p2), .val (.int v45), .val (.int v47), .val (.int v49), .val (.int v51), .val (.ref b52), .unset, .unset, .unset] [])) _
        refine XS.iconst X59.here hx rfl (hb hby at_79) ?_
        exact kt
      · rw [show v64 = (1 : Int32) from by rw [hv64, if_neg hc63]] at kt
        show Steps p.tables e below (T59.setTop (mkF m 72 #[.val (.int p0), .val (.int p1), .val (.int p2), .val (.int v45), .val (.int v47), .val (.int v49), .val (.int v51), .val (.ref b52), .unset, .unset, .unset] [(.int (1 : Int32)), (.int v51)])) _
        refine XS.icmpNo X59.here hx rfl (hb hby at_72) rfl (flt hc63).1 ?_
        show Steps p.tables e below (T59.setTop (mkF m 75 #[.val (.int p0), .val (.int p1), .val (.int p2), .val (.int v45), .val (.int v47), .val (.int v49), .val (.int v51), .val (.ref b52), .unset, .unset, .unset] [])) _
        refine XS.iconst X59.here hx rfl (hb hby at_75) ?_
        show Steps p.tables e below (T59.setTop (mkF m 76 #[.val (.int p0), .val (.int p1), .val (.int p2), .val (.int v45), .val (.int v47), .val (.int v49), .val (.int v51), .val (.ref b52), .unset, .unset, .unset] [(.int (1 : Int32))])) _
        refine XS.goto X59.here hx rfl (pc0 := 76) (pc' := 80) rfl (hb hby at_76) (by decide) (by decide) ?_
        exact kt
    show Steps p.tables e below (T59.setTop (mkF m 80 #[.val (.int p0), .val (.int p1), .val (.int p2), .val (.int v45), .val (.int v47), .val (.int v49), .val (.int v51), .val (.ref b52), .unset, .unset, .unset] [(.int v64)])) _
    refine XS.istore X59.here hx rfl (hb hby at_80) rfl (l' := #[.val (.int p0), .val (.int p1), .val (.int p2), .val (.int v45), .val (.int v47), .val (.int v49), .val (.int v51), .val (.ref b52), .val (.int v64), .unset, .unset]) rfl ?_
    show Steps p.tables e below (T59.setTop (mkF m 82 #[.val (.int p0), .val (.int p1), .val (.int p2), .val (.int v45), .val (.int v47), .val (.int v49), .val (.int v51), .val (.ref b52), .val (.int v64), .unset, .unset] [])) _
    refine XS.iload X59.here hx rfl (hb hby at_82) rfl ?_
    show Steps p.tables e below (T59.setTop (mkF m 84 #[.val (.int p0), .val (.int p1), .val (.int p2), .val (.int v45), .val (.int v47), .val (.int v49), .val (.int v51), .val (.ref b52), .val (.int v64), .unset, .unset] [(.int v49)])) _
    refine X59.ldcInt hx hown (mvT hZ (hw _ (List.mem_of_getElem? (i := 22) rfl))) (g := (mkF m 84 #[.val (.int p0), .val (.int p1), .val (.int p2), .val (.int v45), .val (.int v47), .val (.int v49), .val (.int v51), .val (.ref b52), .val (.int v64), .unset, .unset] [(.int v49)])) rfl (hb hby at_84) _ ?_
    refine joinS (B := T59.setTop (mkF m 94 #[.val (.int p0), .val (.int p1), .val (.int p2), .val (.int v45), .val (.int v47), .val (.int v49), .val (.int v51), .val (.ref b52), .val (.int v64), .unset, .unset] [(.int v66)])) (fun kt => ?_) ?_
    · by_cases hc65 : v49 < (2147483647 : Int32)
      · rw [show v66 = (1 : Int32) from by rw [hv66, if_pos hc65]] at kt
        show Steps p.tables e below (T59.setTop (mkF m 86 #[.val (.int p0), .val (.int p1), .val (.int p2), .val (.int v45), .val (.int v47), .val (.int v49), .val (.int v51), .val (.ref b52), .val (.int v64), .unset, .unset] [(.int (2147483647 : Int32)), (.int v49)])) _
        refine XS.icmpNo X59.here hx rfl (hb hby at_86) rfl (tlt hc65).2.1 ?_
        show Steps p.tables e below (T59.setTop (mkF m 89 #[.val (.int p0), .val (.int p1), .val (.int p2), .val (.int v45), .val (.int v47), .val (.int v49), .val (.int v51), .val (.ref b52), .val (.int v64), .unset, .unset] [])) _
        refine XS.iconst X59.here hx rfl (hb hby at_89) ?_
        show Steps p.tables e below (T59.setTop (mkF m 90 #[.val (.int p0), .val (.int p1), .val (.int p2), .val (.int v45), .val (.int v47), .val (.int v49), .val (.int v51), .val (.ref b52), .val (.int v64), .unset, .unset] [(.int (1 : Int32))])) _
        refine XS.goto X59.here hx rfl (pc0 := 90) (pc' := 94) rfl (hb hby at_90) (by decide) (by decide) ?_
        exact kt
      · rw [show v66 = (0 : Int32) from by rw [hv66, if_neg hc65]] at kt
        show Steps p.tables e below (T59.setTop (mkF m 86 #[.val (.int p0), .val (.int p1), .val (.int p2), .val (.int v45), .val (.int v47), .val (.int v49), .val (.int v51), .val (.ref b52), .val (.int v64), .unset, .unset] [(.int (2147483647 : Int32)), (.int v49)])) _
        refine XS.icmpYes X59.here hx rfl (pc0 := 86) (pc' := 93) rfl (hb hby at_86) rfl (flt hc65).2.1 (by decide) (by decide) ?_
        show Steps p.tables e below (T59.setTop (mkF m 93 #[.val (.int p0), .val (.int p1), .val (.int p2), .val (.int v45), .val (.int v47), .val (.int v49), .val (.int v51), .val (.ref b52), .val (.int v64), .unset, .unset] [])) _
        refine XS.iconst X59.here hx rfl (hb hby at_93) ?_
        exact kt
    show Steps p.tables e below (T59.setTop (mkF m 94 #[.val (.int p0), .val (.int p1), .val (.int p2), .val (.int v45), .val (.int v47), .val (.int v49), .val (.int v51), .val (.ref b52), .val (.int v64), .unset, .unset] [(.int v66)])) _
    refine XS.istore X59.here hx rfl (hb hby at_94) rfl (l' := #[.val (.int p0), .val (.int p1), .val (.int p2), .val (.int v45), .val (.int v47), .val (.int v49), .val (.int v51), .val (.ref b52), .val (.int v64), .val (.int v66), .unset]) rfl ?_
    show Steps p.tables e below (T59.setTop (mkF m 96 #[.val (.int p0), .val (.int p1), .val (.int p2), .val (.int v45), .val (.int v47), .val (.int v49), .val (.int v51), .val (.ref b52), .val (.int v64), .val (.int v66), .unset] [])) _
    refine XS.iload X59.here hx rfl (hb hby at_96) rfl ?_
    refine joinS (B := T59.setTop (mkF m 121 #[.val (.int p0), .val (.int p1), .val (.int p2), .val (.int v45), .val (.int v47), .val (.int v49), .val (.int v51), .val (.ref b52), .val (.int v64), .val (.int v66), .val (.int v70)] [])) (fun kt => ?_) ?_
    · by_cases hc67 : v64 = (0 : Int32)
      · rw [show v70 = v69 from by rw [hv70, if_pos hc67]] at kt
        show Steps p.tables e below (T59.setTop (mkF m 98 #[.val (.int p0), .val (.int p1), .val (.int p2), .val (.int v45), .val (.int v47), .val (.int v49), .val (.int v51), .val (.ref b52), .val (.int v64), .val (.int v66), .unset] [(.int v64)])) _
        refine XS.ifYes X59.here hx rfl (pc0 := 98) (pc' := 107) rfl (hb hby at_98) rfl ((if0 _ _).trans (teq hc67).1) (by decide) (by decide) ?_
        show Steps p.tables e below (T59.setTop (mkF m 107 #[.val (.int p0), .val (.int p1), .val (.int p2), .val (.int v45), .val (.int v47), .val (.int v49), .val (.int v51), .val (.ref b52), .val (.int v64), .val (.int v66), .unset] [])) _
        refine XS.iload X59.here hx rfl (hb hby at_107) rfl ?_
        refine joinS (B := T59.setTop (mkF m 121 #[.val (.int p0), .val (.int p1), .val (.int p2), .val (.int v45), .val (.int v47), .val (.int v49), .val (.int v51), .val (.ref b52), .val (.int v64), .val (.int v66), .val (.int v69)] [])) (fun kt => ?_) ?_
        · by_cases hc68 : v66 = (0 : Int32)
          · rw [show v69 = (0 : Int32) from by rw [hv69, if_pos hc68]] at kt
            show Steps p.tables e below (T59.setTop (mkF m 109 #[.val (.int p0), .val (.int p1), .val (.int p2), .val (.int v45), .val (.int v47), .val (.int v49), .val (.int v51), .val (.ref b52), .val (.int v64), .val (.int v66), .unset] [(.int v66)])) _
            refine XS.ifYes X59.here hx rfl (pc0 := 109) (pc' := 118) rfl (hb hby at_109) rfl ((if0 _ _).trans (teq hc68).1) (by decide) (by decide) ?_
            show Steps p.tables e below (T59.setTop (mkF m 118 #[.val (.int p0), .val (.int p1), .val (.int p2), .val (.int v45), .val (.int v47), .val (.int v49), .val (.int v51), .val (.ref b52), .val (.int v64), .val (.int v66), .unset] [])) _
            refine XS.iconst X59.here hx rfl (hb hby at_118) ?_
            show Steps p.tables e below (T59.setTop (mkF m 119 #[.val (.int p0), .val (.int p1), .val (.int p2), .val (.int v45), .val (.int v47), .val (.int v49), .val (.int v51), .val (.ref b52), .val (.int v64), .val (.int v66), .unset] [(.int (0 : Int32))])) _
            refine XS.istore X59.here hx rfl (hb hby at_119) rfl (l' := #[.val (.int p0), .val (.int p1), .val (.int p2), .val (.int v45), .val (.int v47), .val (.int v49), .val (.int v51), .val (.ref b52), .val (.int v64), .val (.int v66), .val (.int (0 : Int32))]) rfl ?_
            exact kt
          · rw [show v69 = (1 : Int32) from by rw [hv69, if_neg hc68]] at kt
            show Steps p.tables e below (T59.setTop (mkF m 109 #[.val (.int p0), .val (.int p1), .val (.int p2), .val (.int v45), .val (.int v47), .val (.int v49), .val (.int v51), .val (.ref b52), .val (.int v64), .val (.int v66), .unset] [(.int v66)])) _
            refine XS.ifNo X59.here hx rfl (hb hby at_109) rfl ((if0 _ _).trans (feq hc68).1) ?_
            show Steps p.tables e below (T59.setTop (mkF m 112 #[.val (.int p0), .val (.int p1), .val (.int p2), .val (.int v45), .val (.int v47), .val (.int v49), .val (.int v51), .val (.ref b52), .val (.int v64), .val (.int v66), .unset] [])) _
            refine XS.iconst X59.here hx rfl (hb hby at_112) ?_
            show Steps p.tables e below (T59.setTop (mkF m 113 #[.val (.int p0), .val (.int p1), .val (.int p2), .val (.int v45), .val (.int v47), .val (.int v49), .val (.int v51), .val (.ref b52), .val (.int v64), .val (.int v66), .unset] [(.int (1 : Int32))])) _
            refine XS.istore X59.here hx rfl (hb hby at_113) rfl (l' := #[.val (.int p0), .val (.int p1), .val (.int p2), .val (.int v45), .val (.int v47), .val (.int v49), .val (.int v51), .val (.ref b52), .val (.int v64), .val (.int v66), .val (.int (1 : Int32))]) rfl ?_
            show Steps p.tables e below (T59.setTop (mkF m 115 #[.val (.int p0), .val (.int p1), .val (.int p2), .val (.int v45), .val (.int v47), .val (.int v49), .val (.int v51), .val (.ref b52), .val (.int v64), .val (.int v66), .val (.int (1 : Int32))] [])) _
            refine XS.goto X59.here hx rfl (pc0 := 115) (pc' := 121) rfl (hb hby at_115) (by decide) (by decide) ?_
            exact kt
        exact kt
      · rw [show v70 = (1 : Int32) from by rw [hv70, if_neg hc67]] at kt
        show Steps p.tables e below (T59.setTop (mkF m 98 #[.val (.int p0), .val (.int p1), .val (.int p2), .val (.int v45), .val (.int v47), .val (.int v49), .val (.int v51), .val (.ref b52), .val (.int v64), .val (.int v66), .unset] [(.int v64)])) _
        refine XS.ifNo X59.here hx rfl (hb hby at_98) rfl ((if0 _ _).trans (feq hc67).1) ?_
        show Steps p.tables e below (T59.setTop (mkF m 101 #[.val (.int p0), .val (.int p1), .val (.int p2), .val (.int v45), .val (.int v47), .val (.int v49), .val (.int v51), .val (.ref b52), .val (.int v64), .val (.int v66), .unset] [])) _
        refine XS.iconst X59.here hx rfl (hb hby at_101) ?_
        show Steps p.tables e below (T59.setTop (mkF m 102 #[.val (.int p0), .val (.int p1), .val (.int p2), .val (.int v45), .val (.int v47), .val (.int v49), .val (.int v51), .val (.ref b52), .val (.int v64), .val (.int v66), .unset] [(.int (1 : Int32))])) _
        refine XS.istore X59.here hx rfl (hb hby at_102) rfl (l' := #[.val (.int p0), .val (.int p1), .val (.int p2), .val (.int v45), .val (.int v47), .val (.int v49), .val (.int v51), .val (.ref b52), .val (.int v64), .val (.int v66), .val (.int (1 : Int32))]) rfl ?_
        show Steps p.tables e below (T59.setTop (mkF m 104 #[.val (.int p0), .val (.int p1), .val (.int p2), .val (.int v45), .val (.int v47), .val (.int v49), .val (.int v51), .val (.ref b52), .val (.int v64), .val (.int v66), .val (.int (1 : Int32))] [])) _
        refine XS.goto X59.here hx rfl (pc0 := 104) (pc' := 121) rfl (hb hby at_104) (by decide) (by decide) ?_
        exact kt
    show Steps p.tables e below (T59.setTop (mkF m 121 #[.val (.int p0), .val (.int p1), .val (.int p2), .val (.int v45), .val (.int v47), .val (.int v49), .val (.int v51), .val (.ref b52), .val (.int v64), .val (.int v66), .val (.int v70)] [])) _
    refine XS.aload X59.here hx rfl (hb hby at_121) rfl rfl ?_
    show Steps p.tables e below (T59.setTop (mkF m 123 #[.val (.int p0), .val (.int p1), .val (.int p2), .val (.int v45), .val (.int v47), .val (.int v49), .val (.int v51), .val (.ref b52), .val (.int v64), .val (.int v66), .val (.int v70)] [(.ref b52)])) _
    refine st71.trans ?_
    show Steps p.tables e below (T71.setTop (mkF m 126 #[.val (.int p0), .val (.int p1), .val (.int p2), .val (.int v45), .val (.int v47), .val (.int v49), .val (.int v51), .val (.ref b52), .val (.int v64), .val (.int v66), .val (.int v70)] [(.int (if (0 : Int32) < v51 then 1 else if v49 = (2147483647 : Int32) then 0 else 1))])) _
    refine XS.iload X71.here hx rfl (hb hby at_126) rfl ?_
    show Steps p.tables e below (T71.setTop (mkF m 128 #[.val (.int p0), .val (.int p1), .val (.int p2), .val (.int v45), .val (.int v47), .val (.int v49), .val (.int v51), .val (.ref b52), .val (.int v64), .val (.int v66), .val (.int v70)] [(.int v70), (.int (if (0 : Int32) < v51 then 1 else if v49 = (2147483647 : Int32) then 0 else 1))])) _
    refine XS.icmpNo X71.here hx rfl (hb hby at_128) rfl (teq (own_fin hv64 hv66 hv69 hv70)).2 ?_
    show Steps p.tables e below (T71.setTop (mkF m 131 #[.val (.int p0), .val (.int p1), .val (.int p2), .val (.int v45), .val (.int v47), .val (.int v49), .val (.int v51), .val (.ref b52), .val (.int v64), .val (.int v66), .val (.int v70)] [])) _
    refine XS.iconst X71.here hx rfl (hb hby at_131) ?_
    show Steps p.tables e below (T71.setTop (mkF m 132 #[.val (.int p0), .val (.int p1), .val (.int p2), .val (.int v45), .val (.int v47), .val (.int v49), .val (.int v51), .val (.ref b52), .val (.int v64), .val (.int v66), .val (.int v70)] [(.int (1 : Int32))])) _
    refine XS.goto X71.here hx rfl (pc0 := 132) (pc' := 136) rfl (hb hby at_132) (by decide) (by decide) ?_
    show Steps p.tables e below (T71.setTop (mkF m 136 #[.val (.int p0), .val (.int p1), .val (.int p2), .val (.int v45), .val (.int v47), .val (.int v49), .val (.int v51), .val (.ref b52), .val (.int v64), .val (.int v66), .val (.int v70)] [(.int (1 : Int32))])) _
    exact retN X71 hx (t := .boolean) Bd.returns (by simp) (hb hby at_136) hr
  · show Qrm0 Z p0 p1 p2 h0 n0 _ T71.heap _
    rw [e71]
    exact ⟨rfl, N72⟩
set_option maxRecDepth 65536 in
set_option maxHeartbeats 40000000 in
theorem comes_1 {Post : Tables → Env → Array Value → State → Outcome → State → Prop} (hpost : ∀ tb e args s v u, (limb_1_1.after args s (.returned v) u = true ∧ limb_1_2.after args s (.returned v) u = true ∧ True) → FrameEnd s (.returned v) u (Jvm.fieldLocs frame_1_writes args s ++ Jvm.arrayLocs frame_1_arrays args s ++ Jvm.staticLocs frame_1_statics s) 16 128 → Post tb e args s (.returned v) u) :
    ArmFor flags0 classFile x code maxLocals ret World_1 tables_1 room_1 Calls_1 rest_1 Pre_1 Post := by
  intro l hfl _ _ p e ha hc hk s m args below hf hA hF happ hP
  obtain ⟨hcalls, hrest, hpre⟩ := hP
  obtain ⟨-, -, -, hnamed, -, -, -, hat⟩ := (Spec.applies_iff hf).mp happ
  obtain ⟨hg, hn⟩ := and_e (Cond.before_iff.mp (show (Jvm.Cond.and given_1 narrow_1).before args s = true from hpre))
  obtain ⟨hcount, hg0⟩ := and_e hg
  obtain ⟨ha0, hg1⟩ := and_e hg0
  obtain ⟨ha1, hg2⟩ := and_e hg1
  have ha2 := hg2
  obtain ⟨w0, w1, w2, rfl⟩ : ∃ w0 w1 w2 : Value, args = #[w0, w1, w2] := by
    have hs : args.size = 3 := by simpa [Cond.value, given_1] using hcount
    obtain ⟨L⟩ := args
    match L, hs with
    | [w0, w1, w2], _ => exact ⟨w0, w1, w2, rfl⟩
  have hw := fun d (hd : d ∈ tables_1) => atoms_spec (ws := Jvm.Cond.code x code maxLocals ret :: tables_1) hat d (List.mem_cons_of_mem _ hd)
  obtain ⟨i0, ei0⟩ := is_v ha0
  obtain rfl : w0 = (.int i0) := Option.some.inj ei0
  obtain ⟨i1, ei1⟩ := is_v ha1
  obtain rfl : w1 = (.int i1) := Option.some.inj ei1
  obtain ⟨i2, ei2⟩ := is_v ha2
  obtain rfl : w2 = (.int i2) := Option.some.inj ei2
  obtain ⟨n, o, h1, h2, h3, _, L, rfl, ⟨rfl, N⟩, hq⟩ := rm0 l s _ hw tables_1 i0 i1 i2 s.heap s.heap.size (Nat.le_refl _)  p e ha hc hk s m _ below hf ((Spec.applies_iff_loose hf).mp happ).1 ⟨rfl, State.Warmed39.refl s, rfl⟩ trivial
  refine ⟨n, _, h1, h2, h3, hpost _ _ _ _ _ _ ⟨Cond.after_iff.mpr rfl, Cond.after_iff.mpr (eq_i res_at (Term.int_eval (1)) rfl), trivial⟩ ⟨hq.1, hq.2.1, (hq.2.2.sift fun y hy => Or.inr (N y hy)).mono (by decide) (by decide)⟩⟩
theorem main_1_1 : Claimed_1_1 := comes_1 fun _ _ _ _ _ _ h hF => ⟨h.1, hF⟩
theorem main_1_2 : Claimed_1_2 := comes_1 fun _ _ _ _ _ _ h hF => ⟨h.2.1, hF⟩
end Jvm.Pilot.@@N@@
namespace Jvm.Pilot.@@N@@
open Jvm Jvm.ClassFile Sem Op Lib Jvm.Free Jvm.Stand Jvm.Pilot.@@N@@.Jvm.D
/-! MADE BY PROGRAM (witnessworld.py) out of the Statement's table words and the real class files: 10 classes; the members and pool entries that the words name. The judged class is class 1, her method 1. -/
namespace start1
open Jvm.ClassFile
def u (s : String) : CpInfo := .utf8 (stringToUtf16 s)
/-- a pool by its gaps: so many unusable entries, then the entry; so many at the end -/
def gap : Nat → List CpInfo → List CpInfo
  | 0, r => r
  | n + 1, r => .unusable :: gap n r
def poolList (es : List (Nat × CpInfo)) (last : Nat) : List CpInfo := es.foldr (fun e r => gap e.1 (e.2 :: r)) (gap last [])
def pool (es : List (Nat × CpInfo)) (last : Nat) : Array CpInfo := ⟨poolList es last⟩
def fileOf (pool : Array CpInfo) (this : Nat) (attrs : Array Attribute := #[]) (ms : Array MethodInfo := #[]) (fl : Nat := 33) (sup : Nat := 0) (ifs : Array Nat := #[]) (fds : Array FieldInfo := #[]) : ClassFile where
  minorVersion := 0
  majorVersion := 65
  constantPool := pool
  accessFlags := fl
  thisClass := this
  superClass := sup
  interfaces := ifs
  fields := fds
  methods := ms
  attributes := attrs
def plain (name : String) (sup : Option ClassId) : Class where
  name := name
  kind := .ordinary
  loader := none
  accessFlags := 33
  super := sup
  interfaces := #[]
  cf := none
  fields := #[]
  methods := #[]
  instanceTypes := #[]
  staticTypes := #[]
  resolved := #[]
  callSites := []
  init := .initialized
  statics := none
  mirror := none

def pool0 : Array CpInfo := pool [(5, u "<init>"), (0, u "()V"), (1, .class_ 10), (1, u "java/lang/Object")] 113

def k0c0 : Code := { maxStack := 0, maxLocals := 1, code := object_method_1_code, exceptionTable := #[], attributes := #[] }
def k0m0 : Method := { name := "<init>", desc := "()V", sig := { parameters := [], returnType := none }, accessFlags := 1, code := some k0c0 }
/-- java/lang/Object -/
def k0 : Class := { plain "java/lang/Object" none with
  accessFlags := 33
  interfaces := #[]
  cf := some (fileOf pool0 8 #[] #[{ accessFlags := 1, nameIndex := 5, descriptorIndex := 6, attributes := #[] }] 33 0 #[] #[])
  fields := #[]
  methods := #[k0m0]
  instanceTypes := #[]
  staticTypes := #[]
  resolved := Array.replicate 124 none
  statics := none }

def pool1 : Array CpInfo := pool [(2, .class_ 4), (1, u "java/lang/Object"), (0, u "<init>"), (0, u "()V"), (2, .integer 2147483647), (0, .class_ 11), (0, u "lanternweir/core/PatternParser$Format"), (0, .methodref 10 13), (0, .nameAndType 5 14), (0, u "(ZIZI)V"), (2, .methodref 10 18), (0, .nameAndType 19 20), (0, u "cutsOrPads"), (0, u "()Z"), (0, .class_ 22), (0, u "lanternweir/core/FormatCutsOrPadsPinLaw"), (2, u "law"), (0, u "(III)Z")] 5

def k1m0 : Method := { name := "<init>", desc := "()V", sig := { parameters := [], returnType := none }, accessFlags := 2, code := none }
def k1c1 : Code := { maxStack := 6, maxLocals := 11, code := code, exceptionTable := #[], attributes := #[] }
def k1m1 : Method := { name := "law", desc := "(III)Z", sig := { parameters := [.int, .int, .int], returnType := some .boolean }, accessFlags := 9, code := some k1c1 }
/-- lanternweir/core/FormatCutsOrPadsPinLaw -/
def k1 : Class := { plain "lanternweir/core/FormatCutsOrPadsPinLaw" (some 0) with
  accessFlags := 49
  interfaces := #[]
  cf := some (fileOf pool1 21 #[] #[{ accessFlags := 2, nameIndex := 5, descriptorIndex := 6, attributes := #[] }, { accessFlags := 9, nameIndex := 25, descriptorIndex := 26, attributes := #[] }] 49 2 #[] #[])
  fields := #[]
  methods := #[k1m0, k1m1]
  instanceTypes := #[]
  staticTypes := #[]
  resolved := Array.replicate 32 none
  statics := none }

def pool2 : Array CpInfo := pool [(1, .methodref 2 3), (0, .class_ 4), (0, .nameAndType 5 6), (0, u "java/lang/Object"), (0, u "<init>"), (0, u "()V"), (0, .class_ 8), (0, u "java/lang/Record")] 13

def k2c0 : Code := { maxStack := 1, maxLocals := 1, code := jdk_30_method_1_code, exceptionTable := #[], attributes := #[] }
def k2m0 : Method := { name := "<init>", desc := "()V", sig := { parameters := [], returnType := none }, accessFlags := 4, code := some k2c0 }
/-- java/lang/Record -/
def k2 : Class := { plain "java/lang/Record" (some 0) with
  accessFlags := 1057
  interfaces := #[]
  cf := some (fileOf pool2 7 #[] #[{ accessFlags := 4, nameIndex := 5, descriptorIndex := 6, attributes := #[] }] 1057 2 #[] #[])
  fields := #[]
  methods := #[k2m0]
  instanceTypes := #[]
  staticTypes := #[]
  resolved := Array.replicate 22 none
  statics := none }

def pool3 : Array CpInfo := pool [(1, .class_ 2), (0, u "lanternweir/core/PatternParser"), (0, .methodref 4 5), (0, .class_ 6), (0, .nameAndType 7 8), (0, u "java/lang/Record"), (0, u "<init>"), (0, u "()V"), (0, .fieldref 10 11), (0, .class_ 12), (0, .nameAndType 13 14), (0, u "lanternweir/core/PatternParser$Format"), (0, u "leftJustify"), (0, u "Z"), (0, .fieldref 10 16), (0, .nameAndType 17 18), (0, u "minWidth"), (0, u "I"), (0, .fieldref 10 20), (0, .nameAndType 21 14), (0, u "cutsEnd"), (0, .fieldref 10 23), (0, .nameAndType 24 18), (0, u "maxWidth"), (0, .integer 2147483647), (12, u "(ZIZI)V"), (3, u "cutsOrPads"), (0, u "()Z")] 29

def k3c0 : Code := { maxStack := 2, maxLocals := 5, code := prog_75_method_1_code, exceptionTable := #[], attributes := #[] }
def k3m0 : Method := { name := "<init>", desc := "(ZIZI)V", sig := { parameters := [.boolean, .int, .boolean, .int], returnType := none }, accessFlags := 0, code := some k3c0 }
def k3c1 : Code := { maxStack := 2, maxLocals := 1, code := prog_75_method_2_code, exceptionTable := #[], attributes := #[] }
def k3m1 : Method := { name := "cutsOrPads", desc := "()Z", sig := { parameters := [], returnType := some .boolean }, accessFlags := 0, code := some k3c1 }
/-- lanternweir/core/PatternParser$Format -/
def k3 : Class := { plain "lanternweir/core/PatternParser$Format" (some 2) with
  accessFlags := 48
  interfaces := #[]
  cf := some (fileOf pool3 10 #[.nestHost 1] #[{ accessFlags := 0, nameIndex := 7, descriptorIndex := 38, attributes := #[] }, { accessFlags := 0, nameIndex := 42, descriptorIndex := 43, attributes := #[] }] 48 4 #[] #[{ accessFlags := 18, nameIndex := 13, descriptorIndex := 14, attributes := #[] }, { accessFlags := 18, nameIndex := 17, descriptorIndex := 18, attributes := #[] }, { accessFlags := 18, nameIndex := 21, descriptorIndex := 14, attributes := #[] }, { accessFlags := 18, nameIndex := 24, descriptorIndex := 18, attributes := #[] }])
  fields := #[{ name := "leftJustify", type := .boolean, accessFlags := 18, slot := 0, constantValue := 0 }, { name := "minWidth", type := .int, accessFlags := 18, slot := 1, constantValue := 0 }, { name := "cutsEnd", type := .boolean, accessFlags := 18, slot := 2, constantValue := 0 }, { name := "maxWidth", type := .int, accessFlags := 18, slot := 3, constantValue := 0 }]
  methods := #[k3m0, k3m1]
  instanceTypes := #[.boolean, .int, .boolean, .int]
  staticTypes := #[]
  resolved := Array.replicate 73 none
  statics := none }

def pool4 : Array CpInfo := pool [(1, u "java/lang/Cloneable"), (0, .class_ 1), (0, u "java/lang/Object"), (0, .class_ 3)] 3

/-- java/lang/Cloneable -/
def k4 : Class := { plain "java/lang/Cloneable" (some 0) with
  accessFlags := 1537
  interfaces := #[]
  cf := some (fileOf pool4 2 #[] #[] 1537 4 #[] #[])
  fields := #[]
  methods := #[]
  instanceTypes := #[]
  staticTypes := #[]
  resolved := Array.replicate 8 none
  statics := none }

def pool5 : Array CpInfo := pool [(1, u "java/io/Serializable"), (0, .class_ 1), (0, u "java/lang/Object"), (0, .class_ 3)] 3

/-- java/io/Serializable -/
def k5 : Class := { plain "java/io/Serializable" (some 0) with
  accessFlags := 1537
  interfaces := #[]
  cf := some (fileOf pool5 2 #[] #[] 1537 4 #[] #[])
  fields := #[]
  methods := #[]
  instanceTypes := #[]
  staticTypes := #[]
  resolved := Array.replicate 8 none
  statics := none }

/-- the primitive byte -/
def k6 : Class := { plain "byte" none with kind := .primitive 'B', accessFlags := 0x411 }
/-- [B -/
def k7 : Class := { plain "[B" (some 0) with kind := .array 6 .byte, interfaces := #[4, 5], accessFlags := 1041 }

/-- the primitive int -/
def k8 : Class := { plain "int" none with kind := .primitive 'I', accessFlags := 0x411 }
/-- [I -/
def k9 : Class := { plain "[I" (some 0) with kind := .array 8 .int, interfaces := #[4, 5], accessFlags := 1041 }

def heap : Heap := #[]
def classes : Array Class := #[k0, k1, k2, k3, k4, k5, k6, k7, k8, k9]
def interned : List (Array UInt16 × Addr) := []
def slotsUsed : Nat := 0
def theMethod : MethodId := ⟨1, 1⟩
def args0 : Array Value := #[.int 1, .int 2, .int 3]
def aboutOver (below : List Frame) : State where
  vm := { classes := classes, interned := interned.toArray }
  heap := heap
  slotsUsed := slotsUsed
  threads := #[{ frames := .invoking theMethod args0 :: below }]
def below0 : List Frame := [.native { method := ⟨0, 0⟩, args := #[] }]
def about1 : State := aboutOver below0
def p0 : Program := .bare "" "" ""
def e0 : Env := launch0.env 0 0 0
theorem w_frames : about1.frames = Frame.invoking theMethod args0 :: below0 := rfl
set_option maxRecDepth 65536 in
theorem w_args : argsFit about1.vm theMethod args0 = true := by decide +kernel
set_option maxRecDepth 65536 in
theorem w_heap : heapFits about1 = true := by decide +kernel
set_option maxRecDepth 65536 in
theorem w_runnable : about1.curStatus? = some .runnable := by decide +kernel
set_option maxRecDepth 65536 in
theorem w_alone : about1.alone = true := by decide +kernel
set_option maxRecDepth 65536 in
theorem w_named : about1.methodNamed? x = some theMethod := by decide +kernel
set_option maxRecDepth 65536 in
theorem w_hears : about1.hears theMethod below0 = true := by decide +kernel
set_option maxRecDepth 65536 in
theorem w_ripe : about1.ripe theMethod args0 below0 = true := by decide +kernel
theorem w_running : about1.status = .running := rfl
set_option maxRecDepth 65536 in
theorem w_room : about1.hasRoom e0.platform room_1 = true :=
  launch0.hasRoom_least _ room_1 (by decide +kernel) (by decide +kernel) (by decide +kernel) (by decide +kernel) (by decide +kernel) (by decide +kernel)
theorem allAtoms_all (ts : List Jvm.Cond) (a : Array Jvm.Value) (st : Jvm.State) : (allAtoms ts).before a st = ts.all (fun c => c.before a st) := by
  induction ts with
  | nil => rfl
  | cons c t ih =>
    show (Jvm.Cond.and c (allAtoms t)).before a st = _
    rw [Jvm.Cond.before_and, ih, List.all_cons]
def words1 : List Jvm.Cond := Jvm.Cond.code x code maxLocals ret :: tables_1
/-- a 'code' word, met by the world's own term for the bytes: nothing is compared byte by byte -/
theorem code_word {y : MethodName} {bytes : ByteArray} {mx : Nat} {rt : Option FieldType} {a : Array Value} {s : State} {m : MethodId} {meth : Method} {c : Code} (h1 : s.methodNamed? y = some m) (h2 : s.vm.method? m = some meth) (h3 : meth.code = some c) (h4 : c.code = bytes)
    (h5 : (c.maxLocals == mx && c.exceptionTable.isEmpty && decide (c.maxStack ≤ mostOperands) && decide (meth.sig.returnType = rt) && !meth.locks && decide (parseMethodDescriptor y.desc = some meth.sig)) = true) : (Jvm.Cond.code y bytes mx rt).before a s = true := by
  simp only [Bool.and_eq_true, beq_iff_eq, Bool.not_eq_true', decide_eq_true_eq] at h5
  obtain ⟨⟨⟨⟨⟨g1, g2⟩, g3⟩, g4⟩, g5⟩, g6⟩ := h5
  simp [Cond.before, Cond.holds, Cond.value, h1, h2, h3, h4, g1, g2, g3, g4, g5, g6]
def isCode : Jvm.Cond → Bool
  | .code _ _ _ _ => true
  | _ => false
theorem all_split {L : List Jvm.Cond} {P : Jvm.Cond → Bool} (h1 : L.all (fun c => isCode c || P c) = true) (h2 : ∀ c ∈ L.filter isCode, P c = true) : L.all P = true := by
  refine List.all_eq_true.mpr fun c hc => ?_
  have h := List.all_eq_true.mp h1 c hc
  rcases Bool.eq_false_or_eq_true (isCode c) with hi | hi
  · exact h2 c (List.mem_filter.mpr ⟨hc, hi⟩)
  · simpa [hi] using h
set_option maxRecDepth 65536 in
theorem w_c0 : (Jvm.Cond.code x code maxLocals ret).before args0 about1 = true := code_word (m := ⟨1, 1⟩) (meth := k1m1) (c := k1c1) (by decide +kernel) rfl rfl rfl (by decide +kernel)
set_option maxRecDepth 65536 in
theorem w_c1 : (Jvm.Cond.code ({ cls := "lanternweir/core/PatternParser$Format", name := "<init>", desc := "(ZIZI)V" } : Jvm.MethodName) prog_75_method_1_code (5 : Nat) (Option.none : Option Jvm.ClassFile.FieldType)).before args0 about1 = true := code_word (m := ⟨3, 0⟩) (meth := k3m0) (c := k3c0) (by decide +kernel) rfl rfl rfl (by decide +kernel)
set_option maxRecDepth 65536 in
theorem w_c2 : (Jvm.Cond.code ({ cls := "java/lang/Record", name := "<init>", desc := "()V" } : Jvm.MethodName) jdk_30_method_1_code (1 : Nat) (Option.none : Option Jvm.ClassFile.FieldType)).before args0 about1 = true := code_word (m := ⟨2, 0⟩) (meth := k2m0) (c := k2c0) (by decide +kernel) rfl rfl rfl (by decide +kernel)
set_option maxRecDepth 65536 in
theorem w_c3 : (Jvm.Cond.code ({ cls := "java/lang/Object", name := "<init>", desc := "()V" } : Jvm.MethodName) object_method_1_code (1 : Nat) (Option.none : Option Jvm.ClassFile.FieldType)).before args0 about1 = true := code_word (m := ⟨0, 0⟩) (meth := k0m0) (c := k0c0) (by decide +kernel) rfl rfl rfl (by decide +kernel)
set_option maxRecDepth 65536 in
theorem w_c4 : (Jvm.Cond.code ({ cls := "lanternweir/core/PatternParser$Format", name := "cutsOrPads", desc := "()Z" } : Jvm.MethodName) prog_75_method_2_code (1 : Nat) (Option.some Jvm.ClassFile.FieldType.boolean)).before args0 about1 = true := code_word (m := ⟨3, 1⟩) (meth := k3m1) (c := k3c1) (by decide +kernel) rfl rfl rfl (by decide +kernel)
def codes1 : List Jvm.Cond := [Jvm.Cond.code x code maxLocals ret, Jvm.Cond.code ({ cls := "lanternweir/core/PatternParser$Format", name := "<init>", desc := "(ZIZI)V" } : Jvm.MethodName) prog_75_method_1_code (5 : Nat) (Option.none : Option Jvm.ClassFile.FieldType), Jvm.Cond.code ({ cls := "java/lang/Record", name := "<init>", desc := "()V" } : Jvm.MethodName) jdk_30_method_1_code (1 : Nat) (Option.none : Option Jvm.ClassFile.FieldType), Jvm.Cond.code ({ cls := "java/lang/Object", name := "<init>", desc := "()V" } : Jvm.MethodName) object_method_1_code (1 : Nat) (Option.none : Option Jvm.ClassFile.FieldType), Jvm.Cond.code ({ cls := "lanternweir/core/PatternParser$Format", name := "cutsOrPads", desc := "()Z" } : Jvm.MethodName) prog_75_method_2_code (1 : Nat) (Option.some Jvm.ClassFile.FieldType.boolean)]
set_option maxRecDepth 65536 in
theorem codes_eq : words1.filter isCode = codes1 := rfl
theorem w_codes : ∀ c ∈ words1.filter isCode, c.before args0 about1 = true := by
  rw [codes_eq]
  intro c hc
  simp only [codes1, List.mem_cons, List.not_mem_nil, or_false] at hc
  rcases hc with rfl | rfl | rfl | rfl | rfl
  · exact w_c0
  · exact w_c1
  · exact w_c2
  · exact w_c3
  · exact w_c4
set_option maxRecDepth 65536 in
theorem w_t1 : (words1.take 24).all (fun c => isCode c || c.before args0 about1) = true := by decide +kernel
set_option maxRecDepth 65536 in
theorem w_t2 : (words1.drop 24).all (fun c => isCode c || c.before args0 about1) = true := by decide +kernel
theorem w_tables : (allAtoms (Jvm.Cond.code x code maxLocals ret :: tables_1)).before args0 about1 = true := by
  rw [allAtoms_all]
  show words1.all (fun c => c.before args0 about1) = true
  refine all_split ?_ w_codes
  rw [← List.take_append_drop 24 words1, List.all_append, w_t1, w_t2]
  rfl
set_option maxRecDepth 65536 in
theorem w_case : (Jvm.Cond.and given_1 narrow_1).before args0 about1 = true := by decide +kernel
theorem w_applies : (headSpec (Jvm.Cond.code x code maxLocals ret :: tables_1) room_1).applies x e0.platform about1 = true :=
  (Spec.applies_iff w_frames).mpr ⟨w_running, w_runnable, w_alone, w_named, w_hears, w_ripe, w_room, w_tables⟩
theorem atStart : AtStart classFile x code maxLocals ret World_1 tables_1 room_1 Calls_1 rest_1 Pre_1 launch0 p0 e0 about1 theMethod args0 below0 :=
  ⟨lists_1, trivial, launch0.admits_env _ _ _, launch0.least_env, fairChoices_fair.cas, fairChoices_fair.clock, w_frames, w_args, w_heap, w_applies, trivial, trivial, w_case⟩
end start1
theorem witness_1 : WitnessClaimed_1 := ⟨start1.p0, start1.e0, start1.about1, start1.theMethod, start1.args0, start1.below0, start1.atStart⟩
end Jvm.Pilot.@@N@@
