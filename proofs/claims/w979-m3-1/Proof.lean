import JvmDerived
import JvmDerived.Pilot.@@N@@Statement
import JvmDerived.Pilot.@@N@@Code
set_option linter.unusedVariables false
set_option linter.unusedSimpArgs false
namespace Jvm.RoadKit
open Sem ClassFile Op Lib Jvm.Stand Jvm.Free Jvm.LawKit
section New
variable {p : Program} {l : Launch} {e : Env} {R : Room} {s : State} {m : MethodId} {args : Array Value} {below : List Frame} {meth : Method} {c : Code} {T : State} {locs : List Loc} {cells slots : Nat}
theorem retI (X : Stand p l e R s m args below meth c T locs cells slots) (hx : p.tables.exec = Jvm.exec) {pc : Nat} {Ls : Array Slot} {z : Int32} {rest : List Value} (hret : meth.sig.returnType = some .int) (hd : decode c.code pc = .ok (.ireturn, 1)) {fs : List Frame}
    (hl : ∀ (f : JFrame) (acts : List Action), f.method = m → f.locked = none → f.entered = [] → (doReturn e (T.setTop f) acts (some (.int z))).1 = T.setFrames fs) : Steps p.tables e below (T.setTop (mkF m pc Ls (.int z :: rest))) (T.setFrames fs) := by
  have hm' : T.vm.method? m = some meth := X.method'
  have hn : narrow .int (.int z) = .int z := rfl
  show Steps p.tables e below (T.setTop { method := m, pc := pc, locals := Ls, stack := _ :: rest, locked := none }) _
  jvm_step X.here [X.here.top, hx, hd, hm', hret, hn]
  first | (intro acts; rw [hl _ acts rfl rfl rfl]) | rw [hl _ _ rfl rfl rfl]
  exact Steps.refl _
end New
end Jvm.RoadKit
namespace Jvm.Pilot.@@N@@
open Jvm Jvm.ClassFile Sem Op Lib Jvm.Free Jvm.Stand Jvm.LawKit Jvm.RoadKit Bundle Jvm.Pilot.@@N@@.Jvm.D
theorem joinS {tb : Tables} {e : Env} {below : List Frame} {A B t : State} (h1 : Steps tb e below B t → Steps tb e below A t) (h2 : Steps tb e below B t) : Steps tb e below A t := h1 h2
theorem mvMN {Z s : State} {a0 args : Array Value} {own host : String} {index : Nat} {y : MethodName} (hZ : Z.Warmed39 s.vm) (w : (Cond.methodLinkNest own index y host).before a0 Z = true) : (Cond.methodLinkNest own index y host).before args s = true := (Cond.methodLinkNest_wide hZ w :)
theorem own_root {Z : State} {a0 : Array Value} {O K : String} {k : Nat} (w : (Cond.noSuperclass O).before a0 Z = true) (wk : (Cond.instantiable K k).before a0 Z = true) (hn : O ≠ K) : NS Z O K := by
  obtain ⟨c, kc, h1, h2, h3, -⟩ := Cond.noSuperclass_spec w
  obtain ⟨t, kt, g1, -⟩ := Cond.instantiable_spec wk
  refine ⟨c, t, h1, g1, fun fuel => ?_⟩
  have q := ids_ne h1 g1 hn
  match fuel with
  | 0 => rfl
  | f + 1 => simp [Vm.isSubclassAux, q, h2, h3]
theorem own_not {Z : State} {a0 : Array Value} {C S K : String} {k : Nat} (w : (Cond.superclass C S).before a0 Z = true) (wk : (Cond.instantiable K k).before a0 Z = true) (n : NS Z C K) (hn : C ≠ K) : ∃ c t, Z.vm.findClass C = some c ∧ Z.vm.findClass K = some t ∧ Z.vm.assignable c t = false := by
  obtain ⟨c, t, h0, g0, n3⟩ := n
  obtain ⟨p, kc, kp, -, h2, -, -, h5, -, -⟩ := Cond.superclass_spec h0 w
  obtain ⟨t', kt, g1, g2, g3, g4, -⟩ := Cond.instantiable_spec wk
  cases g0.symm.trans g1
  have q := ids_ne h0 g0 hn
  have g5 : kt.isInterface = false := by cases hi : kt.isInterface <;> simp_all
  exact ⟨c, t, h0, g0, by show Z.vm.assignableAux (255 + 1) c t = false; simp [Vm.assignableAux, q, h2, g2, h5, g3, g5, Vm.isSubclass, n3]⟩
theorem own_nar {x : Int32} (h : x = 0 ∨ x = 1) : nar .boolean x = x := by rcases h with rfl | rfl <;> rfl
theorem own_01 {P : Prop} [Decidable P] {v : Int32} (h : v = if P then (0 : Int32) else (1 : Int32)) : v = 0 ∨ v = 1 := by subst h; split <;> simp
theorem own_eq {P Q : Prop} [Decidable P] [Decidable Q] {x y z : Int32} (hx : x = if P then (0 : Int32) else (1 : Int32)) (hy : y = if Q then (0 : Int32) else (1 : Int32)) (hz : z = if x = y then (1 : Int32) else (0 : Int32)) : (if nar .boolean x = nar .boolean y then (1 : Int32) else (0 : Int32)) = z := by
  rw [own_nar (own_01 hx), own_nar (own_01 hy), hz]
theorem d2_0 : decode prog_29_method_1_code 0 = .ok (.aload_n 0, 1) := by decide +kernel
theorem d2_1 : decode prog_29_method_1_code 1 = .ok (.invokespecial 1, 3) := by decide +kernel
theorem d2_4 : decode prog_29_method_1_code 4 = .ok (.aload_n 0, 1) := by decide +kernel
theorem d2_5 : decode prog_29_method_1_code 5 = .ok (.iload_n 1, 1) := by decide +kernel
theorem d2_6 : decode prog_29_method_1_code 6 = .ok (.putfield 7, 3) := by decide +kernel
theorem d2_9 : decode prog_29_method_1_code 9 = .ok (.aload_n 0, 1) := by decide +kernel
theorem d2_10 : decode prog_29_method_1_code 10 = .ok (.iload_n 2, 1) := by decide +kernel
theorem d2_11 : decode prog_29_method_1_code 11 = .ok (.putfield 13, 3) := by decide +kernel
theorem d2_14 : decode prog_29_method_1_code 14 = .ok (.return_, 1) := by decide +kernel
theorem pn_com_example_tenon_tenon_JsonValue : plainName "com/example/tenon/tenon/JsonValue" = true := by first | (simp [plainName, overriddenIn]; done) | decide +kernel
theorem ef_rm2b (m : MethodId) (a1 : Addr) (p1 : Int32) (p2 : Int32) : entryFrame m #[(.ref a1), (.int p1), (.int p2)] 3 = mkF m 0 #[.val (.ref a1), .val (.int p1), .val (.int p2)] [] := by first | (simp [entryFrame, mkF, argsToLocals, Value.category]; done) | rfl
def Qrm2b (Z : State) (a1 : Addr) (p1 : Int32) (p2 : Int32) (h0 : Heap) (n0 : Nat) (v : Option Value) (h : Heap) (L : List Loc) : Prop := v = none ∧ Fr n0 L ∧ Keep h0 h [a1] ∧ Fld Z h a1 "com/example/tenon/tenon/JsonValue$BooleanValue" "value" "Z" (.int (0 : Int32))
set_option maxRecDepth 65536 in
set_option maxHeartbeats 40000000 in
theorem rm2b (l : Launch) (Z : State) (a0 : Array Value) (hw : ∀ d ∈ tables_1, d.before a0 Z = true) (ws : List Jvm.Cond) (a1 : Addr) (p1 : Int32) (p2 : Int32) (h0 : Heap) (n0 : Nat) (Z0 : n0 ≤ h0.size) (E1 : Exa Z h0 a1 "com/example/tenon/tenon/JsonValue$BooleanValue") (F1 : Fld Z h0 a1 "com/example/tenon/tenon/JsonValue" "line" "I" (.int (0 : Int32))) (F2 : Fld Z h0 a1 "com/example/tenon/tenon/JsonValue" "column" "I" (.int (0 : Int32))) (F3 : Fld Z h0 a1 "com/example/tenon/tenon/JsonValue$BooleanValue" "value" "Z" (.int (0 : Int32))) (g1 : n0 ≤ a1) :
    MetFree l (⟨"com/example/tenon/tenon/JsonValue", "<init>", "(II)V"⟩ : MethodName) (head1 (Jvm.Cond.code (⟨"com/example/tenon/tenon/JsonValue", "<init>", "(II)V"⟩ : MethodName) prog_29_method_1_code 3 none :: ws) ({ frames := 1, cells := 0, slots := 0, locals := 12 } : Room)) (fun a U => a = #[(.ref a1), (.int p1), (.int p2)] ∧ Z.Warmed39 U.vm ∧ U.heap = h0) (fun _ _ _ _ _ => True) (fun _ U o U' => ∃ v L, o = .returned v ∧ Qrm2b Z a1 p1 p2 h0 n0 v U'.heap L ∧ FrameEnd U o U' L ({ frames := 1, cells := 0, slots := 0, locals := 12 } : Room).cells ({ frames := 1, cells := 0, slots := 0, locals := 12 } : Room).slots) := by
  refine MetFree.of_bodySF (plainFor_of_name pn_com_example_tenon_tenon_JsonValue) hisR ?_
  intro p e s m args below meth c s₁ Bd hml0 hP hK
  obtain ⟨rfl, hZ, hh⟩ := hP
  have hx := Bd.exec
  have hby := Bd.bytes
  have hml : c.maxLocals = 3 := hml0
  have hown : s.vm.findClass "com/example/tenon/tenon/JsonValue" = some m.cls := findClass_of_methodNamed Bd.named
  have hnm := (name_of_methodNamed Bd.named Bd.method).1
  have X0 : Stand p l e ({ frames := 1, cells := 0, slots := 0, locals := 12 } : Room) s m #[(.ref a1), (.int p1), (.int p2)] below meth c s₁ [] 0 0 := Stand.of_body Bd
  have e0 : s₁.heap = h0 := by rw [← hh, Bd.state]; rfl
  have N0 := Fr.nil n0
  have pre0 : ∀ t, Steps p.tables e below (s₁.setTop (mkF m 0 #[.val (.ref a1), .val (.int p1), .val (.int p2)] [])) t → Steps p.tables e below (s₁.setTop (entryFrame m #[(.ref a1), (.int p1), (.int p2)] 3)) t := fun t k => castTop (ef_rm2b m a1 p1 p2) k
  have K0 := Keep.refl h0 [a1]
  obtain ⟨T1, X1, e1, st1⟩ := initO X0 hx hZ hown (hw _ (List.mem_of_getElem? (i := 11) rfl)) (hw _ (List.mem_of_getElem? (i := 12) rfl)) (hw _ (List.mem_of_getElem? (i := 13) rfl)) e0 (g := (mkF m 1 #[.val (.ref a1), .val (.int p1), .val (.int p2)] [(.ref a1)])) rfl (by rw [hml]; rfl) rfl (hb hby d2_1) (by decide) (W := 0) (by show 2 * 0 + _ ≤ _; exact Nat.le_of_eq rfl) (by decide)
  obtain ⟨T2, h2, X2, e2, W2, st2⟩ := putF X1 hx hZ hown (host := "") (Or.inl (hw _ (List.mem_of_getElem? (i := 14) rfl))) Via.refl e1 F1 E1 (Or.inr ⟨(hw _ (List.mem_of_getElem? (i := 15) rfl)), rfl, hnm⟩) (hw _ (List.mem_of_getElem? (i := 1) rfl)) (ty := .int) (by decide) rfl rfl (g := (mkF m 6 #[.val (.ref a1), .val (.int p1), .val (.int p2)] [(.int p1), (.ref a1)])) rfl rfl (hb hby d2_6)
  have f3 := F1.same W2
  have f4 := E1.wr W2
  have f5 := F2.other W2 (Or.inr (slot_ne (Or.inr (hw _ (List.mem_of_getElem? (i := 17) rfl))) (Or.inr (hw _ (List.mem_of_getElem? (i := 15) rfl))) (by decide) (t := .int) (t' := .int) (by decide) (by decide)))
  have f6 := F3.other W2 (Or.inr (slot_ne (Or.inr (hw _ (List.mem_of_getElem? (i := 19) rfl))) (Or.inr (hw _ (List.mem_of_getElem? (i := 15) rfl))) (by decide) (t := .boolean) (t' := .int) (by decide) (by decide)))
  have Zn7 := Nat.le_trans Z0 (Keep.of_wr W2).1
  have N8 := Fr.snoc X2 N0 g1
  have K9 := K0.wr W2 (Or.inl (List.mem_of_getElem? (i := 0) rfl))
  obtain ⟨T10, h10, X10, e10, W10, st10⟩ := putF X2 hx hZ hown (host := "") (Or.inl (hw _ (List.mem_of_getElem? (i := 16) rfl))) Via.refl e2 f5 f4 (Or.inr ⟨(hw _ (List.mem_of_getElem? (i := 17) rfl)), rfl, hnm⟩) (hw _ (List.mem_of_getElem? (i := 1) rfl)) (ty := .int) (by decide) rfl rfl (g := (mkF m 11 #[.val (.ref a1), .val (.int p1), .val (.int p2)] [(.int p2), (.ref a1)])) rfl rfl (hb hby d2_11)
  have f11 := f5.same W10
  have f12 := f4.wr W10
  have f13 := f6.other W10 (Or.inr (slot_ne (Or.inr (hw _ (List.mem_of_getElem? (i := 19) rfl))) (Or.inr (hw _ (List.mem_of_getElem? (i := 17) rfl))) (by decide) (t := .boolean) (t' := .int) (by decide) (by decide)))
  have f14 := f3.other W10 (Or.inr (slot_ne (Or.inr (hw _ (List.mem_of_getElem? (i := 15) rfl))) (Or.inr (hw _ (List.mem_of_getElem? (i := 17) rfl))) (by decide) (t := .int) (t' := .int) (by decide) (by decide)))
  have Zn15 := Nat.le_trans Zn7 (Keep.of_wr W10).1
  have N16 := Fr.snoc X10 N8 g1
  have K17 := K9.wr W10 (Or.inl (List.mem_of_getElem? (i := 0) rfl))
  obtain ⟨fs, hr, hrun, hended, hW, hsame⟩ := X10.leave (v := none) (fun _ => rfl)
  refine ⟨_, _, pre0 _ ?_, hrun, hended, _, _, rfl, ?_, ⟨_, rfl⟩, hW, hsame.mono (by decide) (by decide)⟩
  · show Steps p.tables e below (s₁.setTop (mkF m 0 #[.val (.ref a1), .val (.int p1), .val (.int p2)] [])) _
    refine XS.aloadN X0.here hx rfl (hb hby d2_0) rfl rfl ?_
    show Steps p.tables e below (s₁.setTop (mkF m 1 #[.val (.ref a1), .val (.int p1), .val (.int p2)] [(.ref a1)])) _
    refine st1 _ ?_
    show Steps p.tables e below (T1.setTop (mkF m 4 #[.val (.ref a1), .val (.int p1), .val (.int p2)] [])) _
    refine XS.aloadN X1.here hx rfl (hb hby d2_4) rfl rfl ?_
    show Steps p.tables e below (T1.setTop (mkF m 5 #[.val (.ref a1), .val (.int p1), .val (.int p2)] [(.ref a1)])) _
    refine XS.iloadN X1.here hx rfl (hb hby d2_5) rfl ?_
    show Steps p.tables e below (T1.setTop (mkF m 6 #[.val (.ref a1), .val (.int p1), .val (.int p2)] [(.int p1), (.ref a1)])) _
    refine st2 _ ?_
    show Steps p.tables e below (T2.setTop (mkF m 9 #[.val (.ref a1), .val (.int p1), .val (.int p2)] [])) _
    refine XS.aloadN X2.here hx rfl (hb hby d2_9) rfl rfl ?_
    show Steps p.tables e below (T2.setTop (mkF m 10 #[.val (.ref a1), .val (.int p1), .val (.int p2)] [(.ref a1)])) _
    refine XS.iloadN X2.here hx rfl (hb hby d2_10) rfl ?_
    show Steps p.tables e below (T2.setTop (mkF m 11 #[.val (.ref a1), .val (.int p1), .val (.int p2)] [(.int p2), (.ref a1)])) _
    refine st10 _ ?_
    show Steps p.tables e below (T10.setTop (mkF m 14 #[.val (.ref a1), .val (.int p1), .val (.int p2)] [])) _
    exact X10.returnOut hx Bd.returns (hb hby d2_14) hr
  · show Qrm2b Z a1 p1 p2 h0 n0 _ T10.heap _
    rw [e10]
    exact ⟨rfl, N16, K17, f13⟩
theorem ef_rm2n (m : MethodId) (a1 : Addr) (p1 : Int32) (p2 : Int32) : entryFrame m #[(.ref a1), (.int p1), (.int p2)] 3 = mkF m 0 #[.val (.ref a1), .val (.int p1), .val (.int p2)] [] := by first | (simp [entryFrame, mkF, argsToLocals, Value.category]; done) | rfl
def Qrm2n (Z : State) (a1 : Addr) (p1 : Int32) (p2 : Int32) (h0 : Heap) (n0 : Nat) (v : Option Value) (h : Heap) (L : List Loc) : Prop := v = none ∧ Fr n0 L ∧ Keep h0 h [a1]
set_option maxRecDepth 65536 in
set_option maxHeartbeats 40000000 in
theorem rm2n (l : Launch) (Z : State) (a0 : Array Value) (hw : ∀ d ∈ tables_1, d.before a0 Z = true) (ws : List Jvm.Cond) (a1 : Addr) (p1 : Int32) (p2 : Int32) (h0 : Heap) (n0 : Nat) (Z0 : n0 ≤ h0.size) (E1 : Exa Z h0 a1 "com/example/tenon/tenon/JsonValue$NullValue") (F1 : Fld Z h0 a1 "com/example/tenon/tenon/JsonValue" "line" "I" (.int (0 : Int32))) (F2 : Fld Z h0 a1 "com/example/tenon/tenon/JsonValue" "column" "I" (.int (0 : Int32))) (g1 : n0 ≤ a1) :
    MetFree l (⟨"com/example/tenon/tenon/JsonValue", "<init>", "(II)V"⟩ : MethodName) (head1 (Jvm.Cond.code (⟨"com/example/tenon/tenon/JsonValue", "<init>", "(II)V"⟩ : MethodName) prog_29_method_1_code 3 none :: ws) ({ frames := 1, cells := 0, slots := 0, locals := 12 } : Room)) (fun a U => a = #[(.ref a1), (.int p1), (.int p2)] ∧ Z.Warmed39 U.vm ∧ U.heap = h0) (fun _ _ _ _ _ => True) (fun _ U o U' => ∃ v L, o = .returned v ∧ Qrm2n Z a1 p1 p2 h0 n0 v U'.heap L ∧ FrameEnd U o U' L ({ frames := 1, cells := 0, slots := 0, locals := 12 } : Room).cells ({ frames := 1, cells := 0, slots := 0, locals := 12 } : Room).slots) := by
  refine MetFree.of_bodySF (plainFor_of_name pn_com_example_tenon_tenon_JsonValue) hisR ?_
  intro p e s m args below meth c s₁ Bd hml0 hP hK
  obtain ⟨rfl, hZ, hh⟩ := hP
  have hx := Bd.exec
  have hby := Bd.bytes
  have hml : c.maxLocals = 3 := hml0
  have hown : s.vm.findClass "com/example/tenon/tenon/JsonValue" = some m.cls := findClass_of_methodNamed Bd.named
  have hnm := (name_of_methodNamed Bd.named Bd.method).1
  have X0 : Stand p l e ({ frames := 1, cells := 0, slots := 0, locals := 12 } : Room) s m #[(.ref a1), (.int p1), (.int p2)] below meth c s₁ [] 0 0 := Stand.of_body Bd
  have e0 : s₁.heap = h0 := by rw [← hh, Bd.state]; rfl
  have N0 := Fr.nil n0
  have pre0 : ∀ t, Steps p.tables e below (s₁.setTop (mkF m 0 #[.val (.ref a1), .val (.int p1), .val (.int p2)] [])) t → Steps p.tables e below (s₁.setTop (entryFrame m #[(.ref a1), (.int p1), (.int p2)] 3)) t := fun t k => castTop (ef_rm2n m a1 p1 p2) k
  have K0 := Keep.refl h0 [a1]
  obtain ⟨T18, X18, e18, st18⟩ := initO X0 hx hZ hown (hw _ (List.mem_of_getElem? (i := 11) rfl)) (hw _ (List.mem_of_getElem? (i := 12) rfl)) (hw _ (List.mem_of_getElem? (i := 13) rfl)) e0 (g := (mkF m 1 #[.val (.ref a1), .val (.int p1), .val (.int p2)] [(.ref a1)])) rfl (by rw [hml]; rfl) rfl (hb hby d2_1) (by decide) (W := 0) (by show 2 * 0 + _ ≤ _; exact Nat.le_of_eq rfl) (by decide)
  obtain ⟨T19, h19, X19, e19, W19, st19⟩ := putF X18 hx hZ hown (host := "") (Or.inl (hw _ (List.mem_of_getElem? (i := 14) rfl))) Via.refl e18 F1 E1 (Or.inr ⟨(hw _ (List.mem_of_getElem? (i := 27) rfl)), rfl, hnm⟩) (hw _ (List.mem_of_getElem? (i := 21) rfl)) (ty := .int) (by decide) rfl rfl (g := (mkF m 6 #[.val (.ref a1), .val (.int p1), .val (.int p2)] [(.int p1), (.ref a1)])) rfl rfl (hb hby d2_6)
  have f20 := F1.same W19
  have f21 := E1.wr W19
  have f22 := F2.other W19 (Or.inr (slot_ne (Or.inr (hw _ (List.mem_of_getElem? (i := 28) rfl))) (Or.inr (hw _ (List.mem_of_getElem? (i := 27) rfl))) (by decide) (t := .int) (t' := .int) (by decide) (by decide)))
  have Zn23 := Nat.le_trans Z0 (Keep.of_wr W19).1
  have N24 := Fr.snoc X19 N0 g1
  have K25 := K0.wr W19 (Or.inl (List.mem_of_getElem? (i := 0) rfl))
  obtain ⟨T26, h26, X26, e26, W26, st26⟩ := putF X19 hx hZ hown (host := "") (Or.inl (hw _ (List.mem_of_getElem? (i := 16) rfl))) Via.refl e19 f22 f21 (Or.inr ⟨(hw _ (List.mem_of_getElem? (i := 28) rfl)), rfl, hnm⟩) (hw _ (List.mem_of_getElem? (i := 21) rfl)) (ty := .int) (by decide) rfl rfl (g := (mkF m 11 #[.val (.ref a1), .val (.int p1), .val (.int p2)] [(.int p2), (.ref a1)])) rfl rfl (hb hby d2_11)
  have f27 := f22.same W26
  have f28 := f21.wr W26
  have f29 := f20.other W26 (Or.inr (slot_ne (Or.inr (hw _ (List.mem_of_getElem? (i := 27) rfl))) (Or.inr (hw _ (List.mem_of_getElem? (i := 28) rfl))) (by decide) (t := .int) (t' := .int) (by decide) (by decide)))
  have Zn30 := Nat.le_trans Zn23 (Keep.of_wr W26).1
  have N31 := Fr.snoc X26 N24 g1
  have K32 := K25.wr W26 (Or.inl (List.mem_of_getElem? (i := 0) rfl))
  obtain ⟨fs, hr, hrun, hended, hW, hsame⟩ := X26.leave (v := none) (fun _ => rfl)
  refine ⟨_, _, pre0 _ ?_, hrun, hended, _, _, rfl, ?_, ⟨_, rfl⟩, hW, hsame.mono (by decide) (by decide)⟩
  · show Steps p.tables e below (s₁.setTop (mkF m 0 #[.val (.ref a1), .val (.int p1), .val (.int p2)] [])) _
    refine XS.aloadN X0.here hx rfl (hb hby d2_0) rfl rfl ?_
    show Steps p.tables e below (s₁.setTop (mkF m 1 #[.val (.ref a1), .val (.int p1), .val (.int p2)] [(.ref a1)])) _
    refine st18 _ ?_
    show Steps p.tables e below (T18.setTop (mkF m 4 #[.val (.ref a1), .val (.int p1), .val (.int p2)] [])) _
    refine XS.aloadN X18.here hx rfl (hb hby d2_4) rfl rfl ?_
    show Steps p.tables e below (T18.setTop (mkF m 5 #[.val (.ref a1), .val (.int p1), .val (.int p2)] [(.ref a1)])) _
    refine XS.iloadN X18.here hx rfl (hb hby d2_5) rfl ?_
    show Steps p.tables e below (T18.setTop (mkF m 6 #[.val (.ref a1), .val (.int p1), .val (.int p2)] [(.int p1), (.ref a1)])) _
    refine st19 _ ?_
    show Steps p.tables e below (T19.setTop (mkF m 9 #[.val (.ref a1), .val (.int p1), .val (.int p2)] [])) _
    refine XS.aloadN X19.here hx rfl (hb hby d2_9) rfl rfl ?_
    show Steps p.tables e below (T19.setTop (mkF m 10 #[.val (.ref a1), .val (.int p1), .val (.int p2)] [(.ref a1)])) _
    refine XS.iloadN X19.here hx rfl (hb hby d2_10) rfl ?_
    show Steps p.tables e below (T19.setTop (mkF m 11 #[.val (.ref a1), .val (.int p1), .val (.int p2)] [(.int p2), (.ref a1)])) _
    refine st26 _ ?_
    show Steps p.tables e below (T26.setTop (mkF m 14 #[.val (.ref a1), .val (.int p1), .val (.int p2)] [])) _
    exact X26.returnOut hx Bd.returns (hb hby d2_14) hr
  · show Qrm2n Z a1 p1 p2 h0 n0 _ T26.heap _
    rw [e26]
    exact ⟨rfl, N31, K32⟩
theorem d1_0 : decode prog_31_method_1_code 0 = .ok (.aload_n 0, 1) := by decide +kernel
theorem d1_1 : decode prog_31_method_1_code 1 = .ok (.iload_n 2, 1) := by decide +kernel
theorem d1_2 : decode prog_31_method_1_code 2 = .ok (.iload_n 3, 1) := by decide +kernel
theorem d1_3 : decode prog_31_method_1_code 3 = .ok (.invokespecial 1, 3) := by decide +kernel
theorem pd__II_V : parseMethodDescriptor "(II)V" = some ⟨[.int, .int], none⟩ := by decide +kernel
theorem d1_6 : decode prog_31_method_1_code 6 = .ok (.aload_n 0, 1) := by decide +kernel
theorem d1_7 : decode prog_31_method_1_code 7 = .ok (.iload_n 1, 1) := by decide +kernel
theorem d1_8 : decode prog_31_method_1_code 8 = .ok (.putfield 7, 3) := by decide +kernel
theorem d1_11 : decode prog_31_method_1_code 11 = .ok (.return_, 1) := by decide +kernel
theorem pn_com_example_tenon_tenon_JsonValue_BooleanValue : plainName "com/example/tenon/tenon/JsonValue$BooleanValue" = true := by first | (simp [plainName, overriddenIn]; done) | decide +kernel
theorem ef_rm1 (m : MethodId) (a1 : Addr) (p1 : Int32) (p2 : Int32) (p3 : Int32) : entryFrame m #[(.ref a1), (.int p1), (.int p2), (.int p3)] 4 = mkF m 0 #[.val (.ref a1), .val (.int p1), .val (.int p2), .val (.int p3)] [] := by first | (simp [entryFrame, mkF, argsToLocals, Value.category]; done) | rfl
def Qrm1 (Z : State) (a1 : Addr) (p1 : Int32) (p2 : Int32) (p3 : Int32) (h0 : Heap) (n0 : Nat) (v : Option Value) (h : Heap) (L : List Loc) : Prop := v = none ∧ Fr n0 L ∧ Keep h0 h [a1] ∧ Fld Z h a1 "com/example/tenon/tenon/JsonValue$BooleanValue" "value" "Z" (.int (nar .boolean p1))
set_option maxRecDepth 65536 in
set_option maxHeartbeats 40000000 in
theorem rm1 (l : Launch) (Z : State) (a0 : Array Value) (hw : ∀ d ∈ tables_1, d.before a0 Z = true) (ws : List Jvm.Cond) (a1 : Addr) (p1 : Int32) (p2 : Int32) (p3 : Int32) (h0 : Heap) (n0 : Nat) (Z0 : n0 ≤ h0.size) (E1 : Exa Z h0 a1 "com/example/tenon/tenon/JsonValue$BooleanValue") (F1 : Fld Z h0 a1 "com/example/tenon/tenon/JsonValue" "line" "I" (.int (0 : Int32))) (F2 : Fld Z h0 a1 "com/example/tenon/tenon/JsonValue" "column" "I" (.int (0 : Int32))) (F3 : Fld Z h0 a1 "com/example/tenon/tenon/JsonValue$BooleanValue" "value" "Z" (.int (0 : Int32))) (g1 : n0 ≤ a1) :
    MetFree l (⟨"com/example/tenon/tenon/JsonValue$BooleanValue", "<init>", "(ZII)V"⟩ : MethodName) (head1 (Jvm.Cond.code (⟨"com/example/tenon/tenon/JsonValue$BooleanValue", "<init>", "(ZII)V"⟩ : MethodName) prog_31_method_1_code 4 none :: ws) ({ frames := 2, cells := 0, slots := 0, locals := 26 } : Room)) (fun a U => a = #[(.ref a1), (.int p1), (.int p2), (.int p3)] ∧ Z.Warmed39 U.vm ∧ U.heap = h0) (fun _ _ _ _ _ => True) (fun _ U o U' => ∃ v L, o = .returned v ∧ Qrm1 Z a1 p1 p2 p3 h0 n0 v U'.heap L ∧ FrameEnd U o U' L ({ frames := 2, cells := 0, slots := 0, locals := 26 } : Room).cells ({ frames := 2, cells := 0, slots := 0, locals := 26 } : Room).slots) := by
  refine MetFree.of_bodySF (plainFor_of_name pn_com_example_tenon_tenon_JsonValue_BooleanValue) hisR ?_
  intro p e s m args below meth c s₁ Bd hml0 hP hK
  obtain ⟨rfl, hZ, hh⟩ := hP
  have hx := Bd.exec
  have hby := Bd.bytes
  have hml : c.maxLocals = 4 := hml0
  have hown : s.vm.findClass "com/example/tenon/tenon/JsonValue$BooleanValue" = some m.cls := findClass_of_methodNamed Bd.named
  have hnm := (name_of_methodNamed Bd.named Bd.method).1
  have X0 : Stand p l e ({ frames := 2, cells := 0, slots := 0, locals := 26 } : Room) s m #[(.ref a1), (.int p1), (.int p2), (.int p3)] below meth c s₁ [] 0 0 := Stand.of_body Bd
  have e0 : s₁.heap = h0 := by rw [← hh, Bd.state]; rfl
  have N0 := Fr.nil n0
  have pre0 : ∀ t, Steps p.tables e below (s₁.setTop (mkF m 0 #[.val (.ref a1), .val (.int p1), .val (.int p2), .val (.int p3)] [])) t → Steps p.tables e below (s₁.setTop (entryFrame m #[(.ref a1), (.int p1), (.int p2), (.int p3)] 4)) t := fun t k => castTop (ef_rm1 m a1 p1 p2 p3) k
  have K0 := Keep.refl h0 [a1]
  obtain ⟨_, _, ⟨T33, L33, k33, n33⟩, -, X33, ⟨Lc33, hQ33, l33, y33, z33⟩, st33⟩ := X0.specialBackNest hx (y := (⟨"com/example/tenon/tenon/JsonValue", "<init>", "(II)V"⟩ : MethodName)) rfl hown (mvMN hZ (hw _ (List.mem_of_getElem? (i := 6) rfl))) (mvT hZ (hw _ (List.mem_of_getElem? (i := 7) rfl))) (mvT hZ (hw _ (List.mem_of_getElem? (i := 10) rfl))) (by decide) (backOf (W := 0) (rm2b l Z a0 hw [] a1 p2 p3  h0 n0 Z0 E1 F1 F2 F3 g1) hZ (hw _ (List.mem_of_getElem? (i := 10) rfl)) (hw _ (List.mem_of_getElem? (i := 9) rfl)) (by decide) (by decide)) (g := (mkF m 3 #[.val (.ref a1), .val (.int p1), .val (.int p2), .val (.int p3)] [(.int p3), (.int p2), (.ref a1)])) rfl (by rw [hml]; rfl) (Steps.refl _) (a := a1) (argsL := [(.int p2), (.int p3)]) (rest := []) (lenOf pd__II_V rfl) rfl (by show 2 * 0 + _ ≤ _; exact Nat.le_of_eq rfl) (hb hby d1_3) (fun _ _ => ⟨rfl, e0, (by decide : 0 + 0 ≤ _), (by decide : 0 + 0 ≤ _)⟩)
  dsimp only [Pt.U, Pt.locs, Pt.cells, Pt.slots] at X33 l33 y33 z33 st33 hQ33
  subst l33 y33 z33
  obtain ⟨rfl, N33q, K33, Fv33⟩ := hQ33
  have N34 := Fr.app N0 N33q
  have f35 := E1.keep K33
  have Zn36 := Nat.le_trans Z0 K33.1
  have K37 := K0.trans K33 (allS (Or.inl (List.mem_of_getElem? (i := 0) rfl)) all0)
  obtain ⟨T38, h38, X38, e38, W38, st38⟩ := putFN X33 hx hZ hown (hw _ (List.mem_of_getElem? (i := 18) rfl)) Via.refl rfl Fv33 f35 (Or.inr ⟨(hw _ (List.mem_of_getElem? (i := 19) rfl)), rfl, hnm⟩) (hw _ (List.mem_of_getElem? (i := 1) rfl)) (ty := .boolean) (v' := (.int (nar .boolean p1))) (by decide) rfl (fits_nar_bool _) (g := (mkF m 8 #[.val (.ref a1), .val (.int p1), .val (.int p2), .val (.int p3)] [(.int p1), (.ref a1)])) rfl rfl (hb hby d1_8)
  have f39 := Fv33.same W38
  have f40 := f35.wr W38
  have Zn41 := Nat.le_trans Zn36 (Keep.of_wr W38).1
  have N42 := Fr.snoc X38 N34 g1
  have K43 := K37.wr W38 (Or.inl (List.mem_of_getElem? (i := 0) rfl))
  obtain ⟨fs, hr, hrun, hended, hW, hsame⟩ := X38.leave (v := none) (fun _ => rfl)
  refine ⟨_, _, pre0 _ ?_, hrun, hended, _, _, rfl, ?_, ⟨_, rfl⟩, hW, hsame.mono (by decide) (by decide)⟩
  · show Steps p.tables e below (s₁.setTop (mkF m 0 #[.val (.ref a1), .val (.int p1), .val (.int p2), .val (.int p3)] [])) _
    refine XS.aloadN X0.here hx rfl (hb hby d1_0) rfl rfl ?_
    show Steps p.tables e below (s₁.setTop (mkF m 1 #[.val (.ref a1), .val (.int p1), .val (.int p2), .val (.int p3)] [(.ref a1)])) _
    refine XS.iloadN X0.here hx rfl (hb hby d1_1) rfl ?_
    show Steps p.tables e below (s₁.setTop (mkF m 2 #[.val (.ref a1), .val (.int p1), .val (.int p2), .val (.int p3)] [(.int p2), (.ref a1)])) _
    refine XS.iloadN X0.here hx rfl (hb hby d1_2) rfl ?_
    show Steps p.tables e below (s₁.setTop (mkF m 3 #[.val (.ref a1), .val (.int p1), .val (.int p2), .val (.int p3)] [(.int p3), (.int p2), (.ref a1)])) _
    refine st33.trans ?_
    show Steps p.tables e below (T33.setTop (mkF m 6 #[.val (.ref a1), .val (.int p1), .val (.int p2), .val (.int p3)] [])) _
    refine XS.aloadN X33.here hx rfl (hb hby d1_6) rfl rfl ?_
    show Steps p.tables e below (T33.setTop (mkF m 7 #[.val (.ref a1), .val (.int p1), .val (.int p2), .val (.int p3)] [(.ref a1)])) _
    refine XS.iloadN X33.here hx rfl (hb hby d1_7) rfl ?_
    show Steps p.tables e below (T33.setTop (mkF m 8 #[.val (.ref a1), .val (.int p1), .val (.int p2), .val (.int p3)] [(.int p1), (.ref a1)])) _
    refine st38 _ ?_
    show Steps p.tables e below (T38.setTop (mkF m 11 #[.val (.ref a1), .val (.int p1), .val (.int p2), .val (.int p3)] [])) _
    exact X38.returnOut hx Bd.returns (hb hby d1_11) hr
  · show Qrm1 Z a1 p1 p2 p3 h0 n0 _ T38.heap _
    rw [e38]
    exact ⟨rfl, N42, K43, f39⟩
theorem d4_0 : decode prog_32_method_1_code 0 = .ok (.aload_n 0, 1) := by decide +kernel
theorem d4_1 : decode prog_32_method_1_code 1 = .ok (.iload_n 1, 1) := by decide +kernel
theorem d4_2 : decode prog_32_method_1_code 2 = .ok (.iload_n 2, 1) := by decide +kernel
theorem d4_3 : decode prog_32_method_1_code 3 = .ok (.invokespecial 1, 3) := by decide +kernel
theorem d4_6 : decode prog_32_method_1_code 6 = .ok (.return_, 1) := by decide +kernel
theorem pn_com_example_tenon_tenon_JsonValue_NullValue : plainName "com/example/tenon/tenon/JsonValue$NullValue" = true := by first | (simp [plainName, overriddenIn]; done) | decide +kernel
theorem ef_rm4 (m : MethodId) (a1 : Addr) (p1 : Int32) (p2 : Int32) : entryFrame m #[(.ref a1), (.int p1), (.int p2)] 3 = mkF m 0 #[.val (.ref a1), .val (.int p1), .val (.int p2)] [] := by first | (simp [entryFrame, mkF, argsToLocals, Value.category]; done) | rfl
def Qrm4 (Z : State) (a1 : Addr) (p1 : Int32) (p2 : Int32) (h0 : Heap) (n0 : Nat) (v : Option Value) (h : Heap) (L : List Loc) : Prop := v = none ∧ Fr n0 L ∧ Keep h0 h [a1]
set_option maxRecDepth 65536 in
set_option maxHeartbeats 40000000 in
theorem rm4 (l : Launch) (Z : State) (a0 : Array Value) (hw : ∀ d ∈ tables_1, d.before a0 Z = true) (ws : List Jvm.Cond) (a1 : Addr) (p1 : Int32) (p2 : Int32) (h0 : Heap) (n0 : Nat) (Z0 : n0 ≤ h0.size) (E1 : Exa Z h0 a1 "com/example/tenon/tenon/JsonValue$NullValue") (F1 : Fld Z h0 a1 "com/example/tenon/tenon/JsonValue" "line" "I" (.int (0 : Int32))) (F2 : Fld Z h0 a1 "com/example/tenon/tenon/JsonValue" "column" "I" (.int (0 : Int32))) (g1 : n0 ≤ a1) :
    MetFree l (⟨"com/example/tenon/tenon/JsonValue$NullValue", "<init>", "(II)V"⟩ : MethodName) (head1 (Jvm.Cond.code (⟨"com/example/tenon/tenon/JsonValue$NullValue", "<init>", "(II)V"⟩ : MethodName) prog_32_method_1_code 3 none :: ws) ({ frames := 2, cells := 0, slots := 0, locals := 26 } : Room)) (fun a U => a = #[(.ref a1), (.int p1), (.int p2)] ∧ Z.Warmed39 U.vm ∧ U.heap = h0) (fun _ _ _ _ _ => True) (fun _ U o U' => ∃ v L, o = .returned v ∧ Qrm4 Z a1 p1 p2 h0 n0 v U'.heap L ∧ FrameEnd U o U' L ({ frames := 2, cells := 0, slots := 0, locals := 26 } : Room).cells ({ frames := 2, cells := 0, slots := 0, locals := 26 } : Room).slots) := by
  refine MetFree.of_bodySF (plainFor_of_name pn_com_example_tenon_tenon_JsonValue_NullValue) hisR ?_
  intro p e s m args below meth c s₁ Bd hml0 hP hK
  obtain ⟨rfl, hZ, hh⟩ := hP
  have hx := Bd.exec
  have hby := Bd.bytes
  have hml : c.maxLocals = 3 := hml0
  have hown : s.vm.findClass "com/example/tenon/tenon/JsonValue$NullValue" = some m.cls := findClass_of_methodNamed Bd.named
  have hnm := (name_of_methodNamed Bd.named Bd.method).1
  have X0 : Stand p l e ({ frames := 2, cells := 0, slots := 0, locals := 26 } : Room) s m #[(.ref a1), (.int p1), (.int p2)] below meth c s₁ [] 0 0 := Stand.of_body Bd
  have e0 : s₁.heap = h0 := by rw [← hh, Bd.state]; rfl
  have N0 := Fr.nil n0
  have pre0 : ∀ t, Steps p.tables e below (s₁.setTop (mkF m 0 #[.val (.ref a1), .val (.int p1), .val (.int p2)] [])) t → Steps p.tables e below (s₁.setTop (entryFrame m #[(.ref a1), (.int p1), (.int p2)] 3)) t := fun t k => castTop (ef_rm4 m a1 p1 p2) k
  have K0 := Keep.refl h0 [a1]
  obtain ⟨_, _, ⟨T44, L44, k44, n44⟩, -, X44, ⟨Lc44, hQ44, l44, y44, z44⟩, st44⟩ := X0.specialBackNest hx (y := (⟨"com/example/tenon/tenon/JsonValue", "<init>", "(II)V"⟩ : MethodName)) rfl hown (mvMN hZ (hw _ (List.mem_of_getElem? (i := 26) rfl))) (mvT hZ (hw _ (List.mem_of_getElem? (i := 7) rfl))) (mvT hZ (hw _ (List.mem_of_getElem? (i := 10) rfl))) (by decide) (backOf (W := 0) (rm2n l Z a0 hw [] a1 p1 p2  h0 n0 Z0 E1 F1 F2 g1) hZ (hw _ (List.mem_of_getElem? (i := 10) rfl)) (hw _ (List.mem_of_getElem? (i := 9) rfl)) (by decide) (by decide)) (g := (mkF m 3 #[.val (.ref a1), .val (.int p1), .val (.int p2)] [(.int p2), (.int p1), (.ref a1)])) rfl (by rw [hml]; rfl) (Steps.refl _) (a := a1) (argsL := [(.int p1), (.int p2)]) (rest := []) (lenOf pd__II_V rfl) rfl (by show 2 * 0 + _ ≤ _; exact Nat.le_of_eq rfl) (hb hby d4_3) (fun _ _ => ⟨rfl, e0, (by decide : 0 + 0 ≤ _), (by decide : 0 + 0 ≤ _)⟩)
  dsimp only [Pt.U, Pt.locs, Pt.cells, Pt.slots] at X44 l44 y44 z44 st44 hQ44
  subst l44 y44 z44
  obtain ⟨rfl, N44q, K44⟩ := hQ44
  have N45 := Fr.app N0 N44q
  have f46 := E1.keep K44
  have Zn47 := Nat.le_trans Z0 K44.1
  have K48 := K0.trans K44 (allS (Or.inl (List.mem_of_getElem? (i := 0) rfl)) all0)
  obtain ⟨fs, hr, hrun, hended, hW, hsame⟩ := X44.leave (v := none) (fun _ => rfl)
  refine ⟨_, _, pre0 _ ?_, hrun, hended, _, _, rfl, ?_, ⟨_, rfl⟩, hW, hsame.mono (by decide) (by decide)⟩
  · show Steps p.tables e below (s₁.setTop (mkF m 0 #[.val (.ref a1), .val (.int p1), .val (.int p2)] [])) _
    refine XS.aloadN X0.here hx rfl (hb hby d4_0) rfl rfl ?_
    show Steps p.tables e below (s₁.setTop (mkF m 1 #[.val (.ref a1), .val (.int p1), .val (.int p2)] [(.ref a1)])) _
    refine XS.iloadN X0.here hx rfl (hb hby d4_1) rfl ?_
    show Steps p.tables e below (s₁.setTop (mkF m 2 #[.val (.ref a1), .val (.int p1), .val (.int p2)] [(.int p1), (.ref a1)])) _
    refine XS.iloadN X0.here hx rfl (hb hby d4_2) rfl ?_
    show Steps p.tables e below (s₁.setTop (mkF m 3 #[.val (.ref a1), .val (.int p1), .val (.int p2)] [(.int p2), (.int p1), (.ref a1)])) _
    refine st44.trans ?_
    show Steps p.tables e below (T44.setTop (mkF m 6 #[.val (.ref a1), .val (.int p1), .val (.int p2)] [])) _
    exact X44.returnOut hx Bd.returns (hb hby d4_6) hr
  · show Qrm4 Z a1 p1 p2 h0 n0 _ T44.heap _
    exact ⟨rfl, N45, K48⟩
theorem d5_0 : decode prog_31_method_5_code 0 = .ok (.aload_n 1, 1) := by decide +kernel
theorem d5_1 : decode prog_31_method_5_code 1 = .ok (.instanceof 8, 3) := by decide +kernel
theorem d5_4 : decode prog_31_method_5_code 4 = .ok (.ifCond .eq 21, 3) := by decide +kernel
theorem d5_7 : decode prog_31_method_5_code 7 = .ok (.aload_n 0, 1) := by decide +kernel
theorem d5_8 : decode prog_31_method_5_code 8 = .ok (.getfield 7, 3) := by decide +kernel
theorem d5_11 : decode prog_31_method_5_code 11 = .ok (.aload_n 1, 1) := by decide +kernel
theorem d5_12 : decode prog_31_method_5_code 12 = .ok (.checkcast 8, 3) := by decide +kernel
theorem d5_15 : decode prog_31_method_5_code 15 = .ok (.getfield 7, 3) := by decide +kernel
theorem d5_18 : decode prog_31_method_5_code 18 = .ok (.if_icmp .ne 7, 3) := by decide +kernel
theorem d5_21 : decode prog_31_method_5_code 21 = .ok (.iconst 1, 1) := by decide +kernel
theorem d5_22 : decode prog_31_method_5_code 22 = .ok (.goto 4, 3) := by decide +kernel
theorem d5_26 : decode prog_31_method_5_code 26 = .ok (.ireturn, 1) := by decide +kernel
theorem d5_25 : decode prog_31_method_5_code 25 = .ok (.iconst 0, 1) := by decide +kernel
theorem ef_rm5b (m : MethodId) (a1 : Addr) (a2 : Addr) : entryFrame m #[(.ref a1), (.ref a2)] 2 = mkF m 0 #[.val (.ref a1), .val (.ref a2)] [] := by first | (simp [entryFrame, mkF, argsToLocals, Value.category]; done) | rfl
def Qrm5b (Z : State) (a1 : Addr) (a2 : Addr) (p1 : Int32) (p2 : Int32) (h0 : Heap) (n0 : Nat) (v : Option Value) (h : Heap) (L : List Loc) : Prop := v = some (.int (if p1 = p2 then (1 : Int32) else (0 : Int32))) ∧ Fr n0 L ∧ h = h0
set_option maxRecDepth 65536 in
set_option maxHeartbeats 40000000 in
theorem rm5b (l : Launch) (Z : State) (a0 : Array Value) (hw : ∀ d ∈ tables_1, d.before a0 Z = true) (ws : List Jvm.Cond) (a1 : Addr) (a2 : Addr) (p1 : Int32) (p2 : Int32) (h0 : Heap) (n0 : Nat) (Z0 : n0 ≤ h0.size) (E2 : Exa Z h0 a2 "com/example/tenon/tenon/JsonValue$BooleanValue") (F1 : Fld Z h0 a1 "com/example/tenon/tenon/JsonValue$BooleanValue" "value" "Z" (.int p1)) (F2 : Fld Z h0 a2 "com/example/tenon/tenon/JsonValue$BooleanValue" "value" "Z" (.int p2)) :
    MetFree l (⟨"com/example/tenon/tenon/JsonValue$BooleanValue", "equals", "(Ljava/lang/Object;)Z"⟩ : MethodName) (head1 (Jvm.Cond.code (⟨"com/example/tenon/tenon/JsonValue$BooleanValue", "equals", "(Ljava/lang/Object;)Z"⟩ : MethodName) prog_31_method_5_code 2 (some .boolean) :: ws) ({ frames := 0, cells := 0, slots := 0, locals := 0 } : Room)) (fun a U => a = #[(.ref a1), (.ref a2)] ∧ Z.Warmed39 U.vm ∧ U.heap = h0) (fun _ _ _ _ _ => True) (fun _ U o U' => ∃ v L, o = .returned v ∧ Qrm5b Z a1 a2 p1 p2 h0 n0 v U'.heap L ∧ FrameEnd U o U' L ({ frames := 0, cells := 0, slots := 0, locals := 0 } : Room).cells ({ frames := 0, cells := 0, slots := 0, locals := 0 } : Room).slots) := by
  refine MetFree.of_bodySF (plainFor_of_name pn_com_example_tenon_tenon_JsonValue_BooleanValue) hisR ?_
  intro p e s m args below meth c s₁ Bd hml0 hP hK
  obtain ⟨rfl, hZ, hh⟩ := hP
  have hx := Bd.exec
  have hby := Bd.bytes
  have hml : c.maxLocals = 2 := hml0
  have hown : s.vm.findClass "com/example/tenon/tenon/JsonValue$BooleanValue" = some m.cls := findClass_of_methodNamed Bd.named
  have hnm := (name_of_methodNamed Bd.named Bd.method).1
  have X0 : Stand p l e ({ frames := 0, cells := 0, slots := 0, locals := 0 } : Room) s m #[(.ref a1), (.ref a2)] below meth c s₁ [] 0 0 := Stand.of_body Bd
  have e0 : s₁.heap = h0 := by rw [← hh, Bd.state]; rfl
  have N0 := Fr.nil n0
  have pre0 : ∀ t, Steps p.tables e below (s₁.setTop (mkF m 0 #[.val (.ref a1), .val (.ref a2)] [])) t → Steps p.tables e below (s₁.setTop (entryFrame m #[(.ref a1), (.ref a2)] 2)) t := fun t k => castTop (ef_rm5b m a1 a2) k
  obtain ⟨T49, X49, e49, st49⟩ := instY X0 hx hZ hown (hw _ (List.mem_of_getElem? (i := 34) rfl)) e0 (Ins.self E2) (g := (mkF m 1 #[.val (.ref a1), .val (.ref a2)] [(.ref a2)])) rfl rfl (hb hby d5_1)
  obtain ⟨T50, X50, e50, st50⟩ := getF X49 hx hZ hown (host := "") (Or.inl (hw _ (List.mem_of_getElem? (i := 18) rfl))) Via.refl e49 F1 (g := (mkF m 8 #[.val (.ref a1), .val (.ref a2)] [(.ref a1)])) rfl rfl (hb hby d5_8)
  obtain ⟨T51, X51, e51, st51⟩ := castY X50 hx hZ hown (hw _ (List.mem_of_getElem? (i := 34) rfl)) e50 (Ins.self E2) (g := (mkF m 12 #[.val (.ref a1), .val (.ref a2)] [(.ref a2), (.int p1)])) rfl rfl (hb hby d5_12)
  obtain ⟨T52, X52, e52, st52⟩ := getF X51 hx hZ hown (host := "") (Or.inl (hw _ (List.mem_of_getElem? (i := 18) rfl))) Via.refl e51 F2 (g := (mkF m 15 #[.val (.ref a1), .val (.ref a2)] [(.ref a2), (.int p1)])) rfl rfl (hb hby d5_15)
  obtain ⟨v54, hv54⟩ : ∃ v : Int32, v = if p1 = p2 then (1 : Int32) else (0 : Int32) := ⟨_, rfl⟩
  obtain ⟨fs, hr, hrun, hended, hW, hsame⟩ := X52.leave (v := some (.int v54)) (fun h => by rw [Bd.returns] at h; cases h)
  refine ⟨_, _, pre0 _ ?_, hrun, hended, _, _, rfl, ?_, ⟨_, rfl⟩, hW, hsame.mono (by decide) (by decide)⟩
  · show Steps p.tables e below (s₁.setTop (mkF m 0 #[.val (.ref a1), .val (.ref a2)] [])) _
    refine XS.aloadN X0.here hx rfl (hb hby d5_0) rfl rfl ?_
    show Steps p.tables e below (s₁.setTop (mkF m 1 #[.val (.ref a1), .val (.ref a2)] [(.ref a2)])) _
    refine st49 _ ?_
    show Steps p.tables e below (T49.setTop (mkF m 4 #[.val (.ref a1), .val (.ref a2)] [(.int (1 : Int32))])) _
    refine XS.ifNo X49.here hx rfl (hb hby d5_4) rfl ((if0 _ _).trans (feq (by decide)).1) ?_
    show Steps p.tables e below (T49.setTop (mkF m 7 #[.val (.ref a1), .val (.ref a2)] [])) _
    refine XS.aloadN X49.here hx rfl (hb hby d5_7) rfl rfl ?_
    show Steps p.tables e below (T49.setTop (mkF m 8 #[.val (.ref a1), .val (.ref a2)] [(.ref a1)])) _
    refine st50 _ ?_
    show Steps p.tables e below (T50.setTop (mkF m 11 #[.val (.ref a1), .val (.ref a2)] [(.int p1)])) _
    refine XS.aloadN X50.here hx rfl (hb hby d5_11) rfl rfl ?_
    show Steps p.tables e below (T50.setTop (mkF m 12 #[.val (.ref a1), .val (.ref a2)] [(.ref a2), (.int p1)])) _
    refine st51 _ ?_
    show Steps p.tables e below (T51.setTop (mkF m 15 #[.val (.ref a1), .val (.ref a2)] [(.ref a2), (.int p1)])) _
    refine st52 _ ?_
    by_cases hc53 : p1 = p2
    · rw [show v54 = (1 : Int32) from by rw [hv54, if_pos hc53]] at hr
      show Steps p.tables e below (T52.setTop (mkF m 18 #[.val (.ref a1), .val (.ref a2)] [(.int p2), (.int p1)])) _
      refine XS.icmpNo X52.here hx rfl (hb hby d5_18) rfl (teq hc53).2 ?_
      show Steps p.tables e below (T52.setTop (mkF m 21 #[.val (.ref a1), .val (.ref a2)] [])) _
      refine XS.iconst X52.here hx rfl (hb hby d5_21) ?_
      show Steps p.tables e below (T52.setTop (mkF m 22 #[.val (.ref a1), .val (.ref a2)] [(.int (1 : Int32))])) _
      refine XS.goto X52.here hx rfl (pc0 := 22) (pc' := 26) rfl (hb hby d5_22) (by decide) (by decide) ?_
      show Steps p.tables e below (T52.setTop (mkF m 26 #[.val (.ref a1), .val (.ref a2)] [(.int (1 : Int32))])) _
      exact retN X52 hx (t := .boolean) Bd.returns (by simp) (hb hby d5_26) hr
    · rw [show v54 = (0 : Int32) from by rw [hv54, if_neg hc53]] at hr
      show Steps p.tables e below (T52.setTop (mkF m 18 #[.val (.ref a1), .val (.ref a2)] [(.int p2), (.int p1)])) _
      refine XS.icmpYes X52.here hx rfl (pc0 := 18) (pc' := 25) rfl (hb hby d5_18) rfl (feq hc53).2 (by decide) (by decide) ?_
      show Steps p.tables e below (T52.setTop (mkF m 25 #[.val (.ref a1), .val (.ref a2)] [])) _
      refine XS.iconst X52.here hx rfl (hb hby d5_25) ?_
      show Steps p.tables e below (T52.setTop (mkF m 26 #[.val (.ref a1), .val (.ref a2)] [(.int (0 : Int32))])) _
      exact retN X52 hx (t := .boolean) Bd.returns (by simp) (hb hby d5_26) hr
  · show Qrm5b Z a1 a2 p1 p2 h0 n0 _ T52.heap _
    rw [e52]
    exact ⟨by rw [hv54], N0, rfl⟩
theorem ef_rm5n (m : MethodId) (a1 : Addr) (a2 : Addr) : entryFrame m #[(.ref a1), (.ref a2)] 2 = mkF m 0 #[.val (.ref a1), .val (.ref a2)] [] := by first | (simp [entryFrame, mkF, argsToLocals, Value.category]; done) | rfl
def Qrm5n (Z : State) (a1 : Addr) (a2 : Addr) (h0 : Heap) (n0 : Nat) (v : Option Value) (h : Heap) (L : List Loc) : Prop := v = some (.int 0) ∧ Fr n0 L ∧ h = h0
set_option maxRecDepth 65536 in
set_option maxHeartbeats 40000000 in
theorem rm5n (l : Launch) (Z : State) (a0 : Array Value) (hw : ∀ d ∈ tables_1, d.before a0 Z = true) (ws : List Jvm.Cond) (a1 : Addr) (a2 : Addr) (h0 : Heap) (n0 : Nat) (Z0 : n0 ≤ h0.size) (E2 : Exa Z h0 a2 "com/example/tenon/tenon/JsonValue$NullValue") :
    MetFree l (⟨"com/example/tenon/tenon/JsonValue$BooleanValue", "equals", "(Ljava/lang/Object;)Z"⟩ : MethodName) (head1 (Jvm.Cond.code (⟨"com/example/tenon/tenon/JsonValue$BooleanValue", "equals", "(Ljava/lang/Object;)Z"⟩ : MethodName) prog_31_method_5_code 2 (some .boolean) :: ws) ({ frames := 0, cells := 0, slots := 0, locals := 0 } : Room)) (fun a U => a = #[(.ref a1), (.ref a2)] ∧ Z.Warmed39 U.vm ∧ U.heap = h0) (fun _ _ _ _ _ => True) (fun _ U o U' => ∃ v L, o = .returned v ∧ Qrm5n Z a1 a2 h0 n0 v U'.heap L ∧ FrameEnd U o U' L ({ frames := 0, cells := 0, slots := 0, locals := 0 } : Room).cells ({ frames := 0, cells := 0, slots := 0, locals := 0 } : Room).slots) := by
  refine MetFree.of_bodySF (plainFor_of_name pn_com_example_tenon_tenon_JsonValue_BooleanValue) hisR ?_
  intro p e s m args below meth c s₁ Bd hml0 hP hK
  obtain ⟨rfl, hZ, hh⟩ := hP
  have hx := Bd.exec
  have hby := Bd.bytes
  have hml : c.maxLocals = 2 := hml0
  have hown : s.vm.findClass "com/example/tenon/tenon/JsonValue$BooleanValue" = some m.cls := findClass_of_methodNamed Bd.named
  have hnm := (name_of_methodNamed Bd.named Bd.method).1
  have X0 : Stand p l e ({ frames := 0, cells := 0, slots := 0, locals := 0 } : Room) s m #[(.ref a1), (.ref a2)] below meth c s₁ [] 0 0 := Stand.of_body Bd
  have e0 : s₁.heap = h0 := by rw [← hh, Bd.state]; rfl
  have N0 := Fr.nil n0
  have pre0 : ∀ t, Steps p.tables e below (s₁.setTop (mkF m 0 #[.val (.ref a1), .val (.ref a2)] [])) t → Steps p.tables e below (s₁.setTop (entryFrame m #[(.ref a1), (.ref a2)] 2)) t := fun t k => castTop (ef_rm5n m a1 a2) k
  have no2 := own_not (hw _ (List.mem_of_getElem? (i := 35) rfl)) (hw _ (List.mem_of_getElem? (i := 1) rfl)) (NS.step (hw _ (List.mem_of_getElem? (i := 35) rfl)) (NS.step (hw _ (List.mem_of_getElem? (i := 36) rfl)) (own_root (hw _ (List.mem_of_getElem? (i := 37) rfl)) (hw _ (List.mem_of_getElem? (i := 1) rfl)) (by decide)) (by decide)) (by decide)) (by decide)
  obtain ⟨Ti, Xi, ei, sti⟩ := instNo X0 hx hZ hown (hw _ (List.mem_of_getElem? (i := 34) rfl)) e0 E2 no2 (g := (mkF m 1 #[.val (.ref a1), .val (.ref a2)] [(.ref a2)])) rfl rfl (hb hby d5_1)
  obtain ⟨fs, hr, hrun, hended, hW, hsame⟩ := Xi.leave (v := some (.int (0 : Int32))) (fun h => by rw [Bd.returns] at h; cases h)
  refine ⟨_, _, pre0 _ ?_, hrun, hended, _, _, rfl, ?_, ⟨_, rfl⟩, hW, hsame.mono (by decide) (by decide)⟩
  · show Steps p.tables e below (s₁.setTop (mkF m 0 #[.val (.ref a1), .val (.ref a2)] [])) _
    refine XS.aloadN X0.here hx rfl (hb hby d5_0) rfl rfl ?_
    show Steps p.tables e below (s₁.setTop (mkF m 1 #[.val (.ref a1), .val (.ref a2)] [(.ref a2)])) _
    refine sti _ ?_
    show Steps p.tables e below (Ti.setTop (mkF m 4 #[.val (.ref a1), .val (.ref a2)] [(.int (0 : Int32))])) _
    refine XS.ifYes Xi.here hx rfl (pc0 := 4) (pc' := 25) rfl (hb hby d5_4) rfl ((if0 _ _).trans (teq rfl).1) (by decide) (by decide) ?_
    show Steps p.tables e below (Ti.setTop (mkF m 25 #[.val (.ref a1), .val (.ref a2)] [])) _
    refine XS.iconst Xi.here hx rfl (hb hby d5_25) ?_
    show Steps p.tables e below (Ti.setTop (mkF m 26 #[.val (.ref a1), .val (.ref a2)] [(.int (0 : Int32))])) _
    exact retN Xi hx (t := .boolean) Bd.returns (by simp) (hb hby d5_26) hr
  · show Qrm5n Z a1 a2 h0 n0 _ Ti.heap _
    rw [ei]
    exact ⟨rfl, N0, rfl⟩
theorem ef_rm5z (m : MethodId) (a1 : Addr) : entryFrame m #[(.ref a1), .null] 2 = mkF m 0 #[.val (.ref a1), .val .null] [] := by first | (simp [entryFrame, mkF, argsToLocals, Value.category]; done) | rfl
def Qrm5z (Z : State) (a1 : Addr) (h0 : Heap) (n0 : Nat) (v : Option Value) (h : Heap) (L : List Loc) : Prop := v = some (.int 0) ∧ Fr n0 L ∧ h = h0
set_option maxRecDepth 65536 in
set_option maxHeartbeats 40000000 in
theorem rm5z (l : Launch) (Z : State) (a0 : Array Value) (hw : ∀ d ∈ tables_1, d.before a0 Z = true) (ws : List Jvm.Cond) (a1 : Addr) (h0 : Heap) (n0 : Nat) (Z0 : n0 ≤ h0.size) :
    MetFree l (⟨"com/example/tenon/tenon/JsonValue$BooleanValue", "equals", "(Ljava/lang/Object;)Z"⟩ : MethodName) (head1 (Jvm.Cond.code (⟨"com/example/tenon/tenon/JsonValue$BooleanValue", "equals", "(Ljava/lang/Object;)Z"⟩ : MethodName) prog_31_method_5_code 2 (some .boolean) :: ws) ({ frames := 0, cells := 0, slots := 0, locals := 0 } : Room)) (fun a U => a = #[(.ref a1), .null] ∧ Z.Warmed39 U.vm ∧ U.heap = h0) (fun _ _ _ _ _ => True) (fun _ U o U' => ∃ v L, o = .returned v ∧ Qrm5z Z a1 h0 n0 v U'.heap L ∧ FrameEnd U o U' L ({ frames := 0, cells := 0, slots := 0, locals := 0 } : Room).cells ({ frames := 0, cells := 0, slots := 0, locals := 0 } : Room).slots) := by
  refine MetFree.of_bodySF (plainFor_of_name pn_com_example_tenon_tenon_JsonValue_BooleanValue) hisR ?_
  intro p e s m args below meth c s₁ Bd hml0 hP hK
  obtain ⟨rfl, hZ, hh⟩ := hP
  have hx := Bd.exec
  have hby := Bd.bytes
  have hml : c.maxLocals = 2 := hml0
  have hown : s.vm.findClass "com/example/tenon/tenon/JsonValue$BooleanValue" = some m.cls := findClass_of_methodNamed Bd.named
  have hnm := (name_of_methodNamed Bd.named Bd.method).1
  have X0 : Stand p l e ({ frames := 0, cells := 0, slots := 0, locals := 0 } : Room) s m #[(.ref a1), .null] below meth c s₁ [] 0 0 := Stand.of_body Bd
  have e0 : s₁.heap = h0 := by rw [← hh, Bd.state]; rfl
  have N0 := Fr.nil n0
  have pre0 : ∀ t, Steps p.tables e below (s₁.setTop (mkF m 0 #[.val (.ref a1), .val .null] [])) t → Steps p.tables e below (s₁.setTop (entryFrame m #[(.ref a1), .null] 2)) t := fun t k => castTop (ef_rm5z m a1) k
  obtain ⟨fs, hr, hrun, hended, hW, hsame⟩ := X0.leave (v := some (.int (0 : Int32))) (fun h => by rw [Bd.returns] at h; cases h)
  refine ⟨_, _, pre0 _ ?_, hrun, hended, _, _, rfl, ?_, ⟨_, rfl⟩, hW, hsame.mono (by decide) (by decide)⟩
  · show Steps p.tables e below (s₁.setTop (mkF m 0 #[.val (.ref a1), .val .null] [])) _
    refine XS.aloadN X0.here hx rfl (hb hby d5_0) rfl rfl ?_
    show Steps p.tables e below (s₁.setTop (mkF m 1 #[.val (.ref a1), .val .null] [.null])) _
    refine X0.instanceofNull hx (g := (mkF m 1 #[.val (.ref a1), .val .null] [.null])) rfl rfl (hb hby d5_1) _ ?_
    show Steps p.tables e below (s₁.setTop (mkF m 4 #[.val (.ref a1), .val .null] [(.int (0 : Int32))])) _
    refine XS.ifYes X0.here hx rfl (pc0 := 4) (pc' := 25) rfl (hb hby d5_4) rfl ((if0 _ _).trans (teq rfl).1) (by decide) (by decide) ?_
    show Steps p.tables e below (s₁.setTop (mkF m 25 #[.val (.ref a1), .val .null] [])) _
    refine XS.iconst X0.here hx rfl (hb hby d5_25) ?_
    show Steps p.tables e below (s₁.setTop (mkF m 26 #[.val (.ref a1), .val .null] [(.int (0 : Int32))])) _
    exact retN X0 hx (t := .boolean) Bd.returns (by simp) (hb hby d5_26) hr
  · show Qrm5z Z a1 h0 n0 _ s₁.heap _
    rw [e0]
    exact ⟨rfl, N0, rfl⟩
theorem pd__ZII_V : parseMethodDescriptor "(ZII)V" = some ⟨[.boolean, .int, .int], none⟩ := by decide +kernel
theorem pd__Ljava_lang_Object__Z : parseMethodDescriptor "(Ljava/lang/Object;)Z" = some ⟨[(.object "java/lang/Object")], some .boolean⟩ := by decide +kernel
theorem pn_com_example_tenon_tenon_BooleanValueEqualsPinLaw : plainName "com/example/tenon/tenon/BooleanValueEqualsPinLaw" = true := by first | (simp [plainName, overriddenIn]; done) | decide +kernel
theorem ef_rm0 (m : MethodId) (p0 : Int32) (p1 : Int32) (p2 : Int32) (p3 : Int32) (p4 : Int32) (p5 : Int32) : entryFrame m #[(.int p0), (.int p1), (.int p2), (.int p3), (.int p4), (.int p5)] maxLocals = mkF m 0 #[.val (.int p0), .val (.int p1), .val (.int p2), .val (.int p3), .val (.int p4), .val (.int p5), .unset, .unset, .unset, .unset, .unset, .unset] [] := by first | (simp [entryFrame, mkF, argsToLocals, Value.category, maxLocals]; done) | rfl
def Qrm0 (Z : State) (p0 : Int32) (p1 : Int32) (p2 : Int32) (p3 : Int32) (p4 : Int32) (p5 : Int32) (h0 : Heap) (n0 : Nat) (v : Option Value) (h : Heap) (L : List Loc) : Prop := v = some (.int 1) ∧ Fr n0 L
set_option maxRecDepth 65536 in
set_option maxHeartbeats 40000000 in
theorem rm0 (l : Launch) (Z : State) (a0 : Array Value) (hw : ∀ d ∈ tables_1, d.before a0 Z = true) (ws : List Jvm.Cond) (p0 : Int32) (p1 : Int32) (p2 : Int32) (p3 : Int32) (p4 : Int32) (p5 : Int32) (h0 : Heap) (n0 : Nat) (Z0 : n0 ≤ h0.size) :
    MetFree l x (head1 (Jvm.Cond.code x code maxLocals ret :: ws) room_1) (fun a U => a = #[(.int p0), (.int p1), (.int p2), (.int p3), (.int p4), (.int p5)] ∧ Z.Warmed39 U.vm ∧ U.heap = h0) (fun _ _ _ _ _ => True) (fun _ U o U' => ∃ v L, o = .returned v ∧ Qrm0 Z p0 p1 p2 p3 p4 p5 h0 n0 v U'.heap L ∧ FrameEnd U o U' L room_1.cells room_1.slots) := by
  refine MetFree.of_bodySF (plainFor_of_name pn_com_example_tenon_tenon_BooleanValueEqualsPinLaw) hisR ?_
  intro p e s m args below meth c s₁ Bd hml0 hP hK
  obtain ⟨rfl, hZ, hh⟩ := hP
  have hx := Bd.exec
  have hby := Bd.bytes
  have hml : c.maxLocals = 12 := hml0
  have hown : s.vm.findClass "com/example/tenon/tenon/BooleanValueEqualsPinLaw" = some m.cls := findClass_of_methodNamed Bd.named
  have hnm := (name_of_methodNamed Bd.named Bd.method).1
  have X0 : Stand p l e room_1 s m #[(.int p0), (.int p1), (.int p2), (.int p3), (.int p4), (.int p5)] below meth c s₁ [] 0 0 := Stand.of_body Bd
  have e0 : s₁.heap = h0 := by rw [← hh, Bd.state]; rfl
  have N0 := Fr.nil n0
  have pre0 : ∀ t, Steps p.tables e below (s₁.setTop (mkF m 0 #[.val (.int p0), .val (.int p1), .val (.int p2), .val (.int p3), .val (.int p4), .val (.int p5), .unset, .unset, .unset, .unset, .unset, .unset] [])) t → Steps p.tables e below (s₁.setTop (entryFrame m #[(.int p0), (.int p1), (.int p2), (.int p3), (.int p4), (.int p5)] maxLocals)) t := fun t k => castTop (ef_rm0 m p0 p1 p2 p3 p4 p5) k
  obtain ⟨v56, hv56⟩ : ∃ v : Int32, v = if (p0 &&& (1 : Int32)) = (0 : Int32) then (0 : Int32) else (1 : Int32) := ⟨_, rfl⟩
  obtain ⟨v58, hv58⟩ : ∃ v : Int32, v = if (p1 &&& (1 : Int32)) = (0 : Int32) then (0 : Int32) else (1 : Int32) := ⟨_, rfl⟩
  obtain ⟨T59, h59, X59, e59, E59, A59, D59, U59, st59⟩ := newO X0 hx hZ hown (hw _ (List.mem_of_getElem? (i := 0) rfl)) (hw _ (List.mem_of_getElem? (i := 1) rfl)) (hw _ (List.mem_of_getElem? (i := 2) rfl)) e0 (g := (mkF m 33 #[.val (.int p0), .val (.int p1), .val (.int p2), .val (.int p3), .val (.int p4), .val (.int p5), .val (.int v56), .val (.int v58), .val (.int (((p1.toUInt32 >>> ((1 : Int32) &&& 31).toUInt32).toInt32) - ((p1.toUInt32 >>> ((1 : Int32) &&& 31).toUInt32).toInt32) / (3 : Int32) * (3 : Int32))), .unset, .unset, .unset] [])) rfl (hb hby at_33) (by decide) (by decide)
  obtain ⟨b59, g59⟩ : ∃ z, z = h0.size := ⟨_, rfl⟩
  rw [← g59] at A59 D59 st59
  have g60 : n0 ≤ b59 := Nat.le_trans Z0 (Nat.le_of_eq g59.symm)
  have Zn61 := Nat.le_trans Z0 E59.1
  have f62 : Fld Z h59 b59 "com/example/tenon/tenon/JsonValue" "line" "I" (.int (0 : Int32)) := D59 (Or.inr (hw _ (List.mem_of_getElem? (i := 15) rfl))) (ty := .int) (by decide)
  have f63 : Fld Z h59 b59 "com/example/tenon/tenon/JsonValue" "column" "I" (.int (0 : Int32)) := D59 (Or.inr (hw _ (List.mem_of_getElem? (i := 17) rfl))) (ty := .int) (by decide)
  have f64 : Fld Z h59 b59 "com/example/tenon/tenon/JsonValue$BooleanValue" "value" "Z" (.int (0 : Int32)) := D59 (Or.inr (hw _ (List.mem_of_getElem? (i := 19) rfl))) (ty := .boolean) (by decide)
  obtain ⟨_, _, ⟨T65, L65, k65, n65⟩, -, X65, ⟨Lc65, hQ65, l65, y65, z65⟩, st65⟩ := X59.specialBack hx (y := (⟨"com/example/tenon/tenon/JsonValue$BooleanValue", "<init>", "(ZII)V"⟩ : MethodName)) rfl hown (mvT hZ (hw _ (List.mem_of_getElem? (i := 3) rfl))) (mvT hZ (hw _ (List.mem_of_getElem? (i := 4) rfl))) (mvT hZ (hw _ (List.mem_of_getElem? (i := 5) rfl))) (by decide) (backOf (W := 1) (rm1 l Z a0 hw [] b59 v56 p2 p3  h59 n0 Zn61 A59 f62 f63 f64 g60) hZ (hw _ (List.mem_of_getElem? (i := 5) rfl)) (hw _ (List.mem_of_getElem? (i := 2) rfl)) (by decide) (by decide)) (g := (mkF m 41 #[.val (.int p0), .val (.int p1), .val (.int p2), .val (.int p3), .val (.int p4), .val (.int p5), .val (.int v56), .val (.int v58), .val (.int (((p1.toUInt32 >>> ((1 : Int32) &&& 31).toUInt32).toInt32) - ((p1.toUInt32 >>> ((1 : Int32) &&& 31).toUInt32).toInt32) / (3 : Int32) * (3 : Int32))), .unset, .unset, .unset] [(.int p3), (.int p2), (.int v56), (.ref b59), (.ref b59)])) rfl (by rw [hml]; rfl) (Steps.refl _) (a := b59) (argsL := [(.int v56), (.int p2), (.int p3)]) (rest := [(.ref b59)]) (lenOf pd__ZII_V rfl) rfl (by show 2 * 0 + _ ≤ _; exact Nat.le_of_eq rfl) (hb hby at_41) (fun _ _ => ⟨rfl, e59, (by decide : 1 + 0 ≤ _), (by decide : 3 + 0 ≤ _)⟩)
  dsimp only [Pt.U, Pt.locs, Pt.cells, Pt.slots] at X65 l65 y65 z65 st65 hQ65
  subst l65 y65 z65
  obtain ⟨rfl, N65q, K65, Fv65⟩ := hQ65
  have N66 := Fr.app N0 N65q
  have f67 := A59.keep K65
  have Zn68 := Nat.le_trans Zn61 K65.1
  by_cases hk0 : (((p1.toUInt32 >>> ((1 : Int32) &&& 31).toUInt32).toInt32) - ((p1.toUInt32 >>> ((1 : Int32) &&& 31).toUInt32).toInt32) / (3 : Int32) * (3 : Int32)) = (0 : Int32)
  · obtain ⟨T69, h69, X69, e69, E69, A69, D69, U69, st69⟩ := newO X65 hx hZ hown (hw _ (List.mem_of_getElem? (i := 0) rfl)) (hw _ (List.mem_of_getElem? (i := 1) rfl)) (hw _ (List.mem_of_getElem? (i := 2) rfl)) rfl (g := (mkF m 51 #[.val (.int p0), .val (.int p1), .val (.int p2), .val (.int p3), .val (.int p4), .val (.int p5), .val (.int v56), .val (.int v58), .val (.int (((p1.toUInt32 >>> ((1 : Int32) &&& 31).toUInt32).toInt32) - ((p1.toUInt32 >>> ((1 : Int32) &&& 31).toUInt32).toInt32) / (3 : Int32) * (3 : Int32))), .val (.ref b59), .unset, .unset] [])) rfl (hb hby at_51) (by decide) (by decide)
    obtain ⟨b69, g69⟩ : ∃ z, z = T65.heap.size := ⟨_, rfl⟩
    rw [← g69] at A69 D69 st69
    have g70 : n0 ≤ b69 := Nat.le_trans Zn68 (Nat.le_of_eq g69.symm)
    have ne71 : b59 ≠ b69 := Nat.ne_of_lt (Nat.lt_of_lt_of_le f67.lt (Nat.le_of_eq g69.symm))
    have f72 := f67.ext E69
    have f73 := Fv65.ext E69
    have Zn74 := Nat.le_trans Zn68 E69.1
    have f75 : Fld Z h69 b69 "com/example/tenon/tenon/JsonValue" "line" "I" (.int (0 : Int32)) := D69 (Or.inr (hw _ (List.mem_of_getElem? (i := 15) rfl))) (ty := .int) (by decide)
    have f76 : Fld Z h69 b69 "com/example/tenon/tenon/JsonValue" "column" "I" (.int (0 : Int32)) := D69 (Or.inr (hw _ (List.mem_of_getElem? (i := 17) rfl))) (ty := .int) (by decide)
    have f77 : Fld Z h69 b69 "com/example/tenon/tenon/JsonValue$BooleanValue" "value" "Z" (.int (0 : Int32)) := D69 (Or.inr (hw _ (List.mem_of_getElem? (i := 19) rfl))) (ty := .boolean) (by decide)
    obtain ⟨_, _, ⟨T78, L78, k78, n78⟩, -, X78, ⟨Lc78, hQ78, l78, y78, z78⟩, st78⟩ := X69.specialBack hx (y := (⟨"com/example/tenon/tenon/JsonValue$BooleanValue", "<init>", "(ZII)V"⟩ : MethodName)) rfl hown (mvT hZ (hw _ (List.mem_of_getElem? (i := 3) rfl))) (mvT hZ (hw _ (List.mem_of_getElem? (i := 4) rfl))) (mvT hZ (hw _ (List.mem_of_getElem? (i := 5) rfl))) (by decide) (backOf (W := 1) (rm1 l Z a0 hw [] b69 v58 p4 p5  h69 n0 Zn74 A69 f75 f76 f77 g70) hZ (hw _ (List.mem_of_getElem? (i := 5) rfl)) (hw _ (List.mem_of_getElem? (i := 2) rfl)) (by decide) (by decide)) (g := (mkF m 61 #[.val (.int p0), .val (.int p1), .val (.int p2), .val (.int p3), .val (.int p4), .val (.int p5), .val (.int v56), .val (.int v58), .val (.int (((p1.toUInt32 >>> ((1 : Int32) &&& 31).toUInt32).toInt32) - ((p1.toUInt32 >>> ((1 : Int32) &&& 31).toUInt32).toInt32) / (3 : Int32) * (3 : Int32))), .val (.ref b59), .unset, .unset] [(.int p5), (.int p4), (.int v58), (.ref b69), (.ref b69)])) rfl (by rw [hml]; rfl) (Steps.refl _) (a := b69) (argsL := [(.int v58), (.int p4), (.int p5)]) (rest := [(.ref b69)]) (lenOf pd__ZII_V rfl) rfl (by show 2 * 0 + _ ≤ _; exact Nat.le_of_eq rfl) (hb hby at_61) (fun _ _ => ⟨rfl, e69, (by decide : 2 + 0 ≤ _), (by decide : 6 + 0 ≤ _)⟩)
    dsimp only [Pt.U, Pt.locs, Pt.cells, Pt.slots] at X78 l78 y78 z78 st78 hQ78
    subst l78 y78 z78
    obtain ⟨rfl, N78q, K78, Fv78⟩ := hQ78
    have N79 := Fr.app N66 N78q
    have f80 := f72.keep K78
    have f81 := f73.keep K78 (ninS ne71 nin0)
    have f82 := A69.keep K78
    have Zn83 := Nat.le_trans Zn74 K78.1
    obtain ⟨v85, hv85⟩ : ∃ v : Int32, v = if v56 = v58 then (1 : Int32) else (0 : Int32) := ⟨_, rfl⟩
    obtain ⟨cq86, kq86, q86a, q86b, q86c⟩ := isOf hZ rfl f80
    obtain ⟨_, _, ⟨T86, L86, k86, n86⟩, -, X86, ⟨Lc86, hQ86, l86, y86, z86⟩, st86⟩ := X78.virtualBack hx (y := (⟨"com/example/tenon/tenon/JsonValue$BooleanValue", "equals", "(Ljava/lang/Object;)Z"⟩ : MethodName)) (z := (⟨"com/example/tenon/tenon/JsonValue$BooleanValue", "equals", "(Ljava/lang/Object;)Z"⟩ : MethodName)) hown (mvT hZ (hw _ (List.mem_of_getElem? (i := 29) rfl))) (mvT hZ (hw _ (List.mem_of_getElem? (i := 30) rfl))) (notFace_of_selects (args := #[]) (mvT hZ (hw _ (List.mem_of_getElem? (i := 32) rfl)))) (mvT hZ (hw _ (List.mem_of_getElem? (i := 32) rfl))) (mvT hZ (hw _ (List.mem_of_getElem? (i := 31) rfl))) (by decide) (backOf (W := 0) (rm5b l Z a0 hw [] b59 b69 (nar .boolean v56) (nar .boolean v58) T78.heap n0 Zn83 f82 f81 Fv78) hZ (hw _ (List.mem_of_getElem? (i := 33) rfl)) (hw _ (List.mem_of_getElem? (i := 2) rfl)) (by decide) (by decide)) q86a q86c (g := (mkF m 117 #[.val (.int p0), .val (.int p1), .val (.int p2), .val (.int p3), .val (.int p4), .val (.int p5), .val (.int v56), .val (.int v58), .val (.int (((p1.toUInt32 >>> ((1 : Int32) &&& 31).toUInt32).toInt32) - ((p1.toUInt32 >>> ((1 : Int32) &&& 31).toUInt32).toInt32) / (3 : Int32) * (3 : Int32))), .val (.ref b59), .val (.ref b69), .val (.int v85)] [(.ref b69), (.ref b59)])) rfl (by rw [hml]; rfl) (Steps.refl _) (argsL := [(.ref b69)]) (rest := []) (lenOf pd__Ljava_lang_Object__Z rfl) rfl (by show 2 * 0 + _ ≤ _; exact Nat.le_of_eq rfl) (hb hby at_117) (fun _ _ => ⟨rfl, rfl, (by decide : 2 + 0 ≤ _), (by decide : 6 + 0 ≤ _)⟩)
    dsimp only [Pt.U, Pt.locs, Pt.cells, Pt.slots] at X86 l86 y86 z86 st86 hQ86
    subst l86 y86 z86
    obtain ⟨rfl, N86q, e86⟩ := hQ86
    have N87 := Fr.app N79 N86q
    obtain ⟨cq88, kq88, q88a, q88b, q88c⟩ := isOf hZ e86 f80
    obtain ⟨_, _, ⟨T88, L88, k88, n88⟩, -, X88, ⟨Lc88, hQ88, l88, y88, z88⟩, st88⟩ := X86.virtualBack hx (y := (⟨"com/example/tenon/tenon/JsonValue$BooleanValue", "equals", "(Ljava/lang/Object;)Z"⟩ : MethodName)) (z := (⟨"com/example/tenon/tenon/JsonValue$BooleanValue", "equals", "(Ljava/lang/Object;)Z"⟩ : MethodName)) hown (mvT hZ (hw _ (List.mem_of_getElem? (i := 29) rfl))) (mvT hZ (hw _ (List.mem_of_getElem? (i := 30) rfl))) (notFace_of_selects (args := #[]) (mvT hZ (hw _ (List.mem_of_getElem? (i := 32) rfl)))) (mvT hZ (hw _ (List.mem_of_getElem? (i := 32) rfl))) (mvT hZ (hw _ (List.mem_of_getElem? (i := 31) rfl))) (by decide) (backOf (W := 0) (rm5b l Z a0 hw [] b59 b59 (nar .boolean v56) (nar .boolean v56) T78.heap n0 Zn83 f80 f81 f81) hZ (hw _ (List.mem_of_getElem? (i := 33) rfl)) (hw _ (List.mem_of_getElem? (i := 2) rfl)) (by decide) (by decide)) q88a q88c (g := (mkF m 129 #[.val (.int p0), .val (.int p1), .val (.int p2), .val (.int p3), .val (.int p4), .val (.int p5), .val (.int v56), .val (.int v58), .val (.int (((p1.toUInt32 >>> ((1 : Int32) &&& 31).toUInt32).toInt32) - ((p1.toUInt32 >>> ((1 : Int32) &&& 31).toUInt32).toInt32) / (3 : Int32) * (3 : Int32))), .val (.ref b59), .val (.ref b69), .val (.int v85)] [(.ref b59), (.ref b59)])) rfl (by rw [hml]; rfl) (Steps.refl _) (argsL := [(.ref b59)]) (rest := []) (lenOf pd__Ljava_lang_Object__Z rfl) rfl (by show 2 * 0 + _ ≤ _; exact Nat.le_of_eq rfl) (hb hby at_129) (fun _ _ => ⟨rfl, e86, (by decide : 2 + 0 ≤ _), (by decide : 6 + 0 ≤ _)⟩)
    dsimp only [Pt.U, Pt.locs, Pt.cells, Pt.slots] at X88 l88 y88 z88 st88 hQ88
    subst l88 y88 z88
    obtain ⟨rfl, N88q, e88⟩ := hQ88
    have N89 := Fr.app N87 N88q
    obtain ⟨fs, hr, hrun, hended, hW, hsame⟩ := X88.leave (v := some (.int (1 : Int32))) (fun h => by rw [Bd.returns] at h; cases h)
    refine ⟨_, _, pre0 _ ?_, hrun, hended, _, _, rfl, ?_, ⟨_, rfl⟩, hW, hsame.mono (by decide) (by decide)⟩
    · show Steps p.tables e below (s₁.setTop (mkF m 0 #[.val (.int p0), .val (.int p1), .val (.int p2), .val (.int p3), .val (.int p4), .val (.int p5), .unset, .unset, .unset, .unset, .unset, .unset] [])) _
      refine XS.iloadN X0.here hx rfl (hb hby at_0) rfl ?_
      show Steps p.tables e below (s₁.setTop (mkF m 1 #[.val (.int p0), .val (.int p1), .val (.int p2), .val (.int p3), .val (.int p4), .val (.int p5), .unset, .unset, .unset, .unset, .unset, .unset] [(.int p0)])) _
      refine XS.iconst X0.here hx rfl (hb hby at_1) ?_
      show Steps p.tables e below (s₁.setTop (mkF m 2 #[.val (.int p0), .val (.int p1), .val (.int p2), .val (.int p3), .val (.int p4), .val (.int p5), .unset, .unset, .unset, .unset, .unset, .unset] [(.int (1 : Int32)), (.int p0)])) _
      refine XS.iand X0.here hx rfl (hb hby at_2) rfl ?_
      refine joinS (B := s₁.setTop (mkF m 11 #[.val (.int p0), .val (.int p1), .val (.int p2), .val (.int p3), .val (.int p4), .val (.int p5), .unset, .unset, .unset, .unset, .unset, .unset] [(.int v56)])) (fun kt => ?_) ?_
      · by_cases hc55 : (p0 &&& (1 : Int32)) = (0 : Int32)
        · rw [show v56 = (0 : Int32) from by rw [hv56, if_pos hc55]] at kt
          show Steps p.tables e below (s₁.setTop (mkF m 3 #[.val (.int p0), .val (.int p1), .val (.int p2), .val (.int p3), .val (.int p4), .val (.int p5), .unset, .unset, .unset, .unset, .unset, .unset] [(.int (p0 &&& (1 : Int32)))])) _
          refine XS.ifYes X0.here hx rfl (pc0 := 3) (pc' := 10) rfl (hb hby at_3) rfl ((if0 _ _).trans (teq hc55).1) (by decide) (by decide) ?_
          show Steps p.tables e below (s₁.setTop (mkF m 10 #[.val (.int p0), .val (.int p1), .val (.int p2), .val (.int p3), .val (.int p4), .val (.int p5), .unset, .unset, .unset, .unset, .unset, .unset] [])) _
          refine XS.iconst X0.here hx rfl (hb hby at_10) ?_
          exact kt
        · rw [show v56 = (1 : Int32) from by rw [hv56, if_neg hc55]] at kt
          show Steps p.tables e below (s₁.setTop (mkF m 3 #[.val (.int p0), .val (.int p1), .val (.int p2), .val (.int p3), .val (.int p4), .val (.int p5), .unset, .unset, .unset, .unset, .unset, .unset] [(.int (p0 &&& (1 : Int32)))])) _
          refine XS.ifNo X0.here hx rfl (hb hby at_3) rfl ((if0 _ _).trans (feq hc55).1) ?_
          show Steps p.tables e below (s₁.setTop (mkF m 6 #[.val (.int p0), .val (.int p1), .val (.int p2), .val (.int p3), .val (.int p4), .val (.int p5), .unset, .unset, .unset, .unset, .unset, .unset] [])) _
          refine XS.iconst X0.here hx rfl (hb hby at_6) ?_
          show Steps p.tables e below (s₁.setTop (mkF m 7 #[.val (.int p0), .val (.int p1), .val (.int p2), .val (.int p3), .val (.int p4), .val (.int p5), .unset, .unset, .unset, .unset, .unset, .unset] [(.int (1 : Int32))])) _
          refine XS.goto X0.here hx rfl (pc0 := 7) (pc' := 11) rfl (hb hby at_7) (by decide) (by decide) ?_
          exact kt
      show Steps p.tables e below (s₁.setTop (mkF m 11 #[.val (.int p0), .val (.int p1), .val (.int p2), .val (.int p3), .val (.int p4), .val (.int p5), .unset, .unset, .unset, .unset, .unset, .unset] [(.int v56)])) _
      refine XS.istore X0.here hx rfl (hb hby at_11) rfl (l' := #[.val (.int p0), .val (.int p1), .val (.int p2), .val (.int p3), .val (.int p4), .val (.int p5), .val (.int v56), .unset, .unset, .unset, .unset, .unset]) rfl ?_
      show Steps p.tables e below (s₁.setTop (mkF m 13 #[.val (.int p0), .val (.int p1), .val (.int p2), .val (.int p3), .val (.int p4), .val (.int p5), .val (.int v56), .unset, .unset, .unset, .unset, .unset] [])) _
      refine XS.iloadN X0.here hx rfl (hb hby at_13) rfl ?_
      show Steps p.tables e below (s₁.setTop (mkF m 14 #[.val (.int p0), .val (.int p1), .val (.int p2), .val (.int p3), .val (.int p4), .val (.int p5), .val (.int v56), .unset, .unset, .unset, .unset, .unset] [(.int p1)])) _
      refine XS.iconst X0.here hx rfl (hb hby at_14) ?_
      show Steps p.tables e below (s₁.setTop (mkF m 15 #[.val (.int p0), .val (.int p1), .val (.int p2), .val (.int p3), .val (.int p4), .val (.int p5), .val (.int v56), .unset, .unset, .unset, .unset, .unset] [(.int (1 : Int32)), (.int p1)])) _
      refine XS.iand X0.here hx rfl (hb hby at_15) rfl ?_
      refine joinS (B := s₁.setTop (mkF m 24 #[.val (.int p0), .val (.int p1), .val (.int p2), .val (.int p3), .val (.int p4), .val (.int p5), .val (.int v56), .unset, .unset, .unset, .unset, .unset] [(.int v58)])) (fun kt => ?_) ?_
      · by_cases hc57 : (p1 &&& (1 : Int32)) = (0 : Int32)
        · rw [show v58 = (0 : Int32) from by rw [hv58, if_pos hc57]] at kt
          show Steps p.tables e below (s₁.setTop (mkF m 16 #[.val (.int p0), .val (.int p1), .val (.int p2), .val (.int p3), .val (.int p4), .val (.int p5), .val (.int v56), .unset, .unset, .unset, .unset, .unset] [(.int (p1 &&& (1 : Int32)))])) _
          refine XS.ifYes X0.here hx rfl (pc0 := 16) (pc' := 23) rfl (hb hby at_16) rfl ((if0 _ _).trans (teq hc57).1) (by decide) (by decide) ?_
          show Steps p.tables e below (s₁.setTop (mkF m 23 #[.val (.int p0), .val (.int p1), .val (.int p2), .val (.int p3), .val (.int p4), .val (.int p5), .val (.int v56), .unset, .unset, .unset, .unset, .unset] [])) _
          refine XS.iconst X0.here hx rfl (hb hby at_23) ?_
          exact kt
        · rw [show v58 = (1 : Int32) from by rw [hv58, if_neg hc57]] at kt
          show Steps p.tables e below (s₁.setTop (mkF m 16 #[.val (.int p0), .val (.int p1), .val (.int p2), .val (.int p3), .val (.int p4), .val (.int p5), .val (.int v56), .unset, .unset, .unset, .unset, .unset] [(.int (p1 &&& (1 : Int32)))])) _
          refine XS.ifNo X0.here hx rfl (hb hby at_16) rfl ((if0 _ _).trans (feq hc57).1) ?_
          show Steps p.tables e below (s₁.setTop (mkF m 19 #[.val (.int p0), .val (.int p1), .val (.int p2), .val (.int p3), .val (.int p4), .val (.int p5), .val (.int v56), .unset, .unset, .unset, .unset, .unset] [])) _
          refine XS.iconst X0.here hx rfl (hb hby at_19) ?_
          show Steps p.tables e below (s₁.setTop (mkF m 20 #[.val (.int p0), .val (.int p1), .val (.int p2), .val (.int p3), .val (.int p4), .val (.int p5), .val (.int v56), .unset, .unset, .unset, .unset, .unset] [(.int (1 : Int32))])) _
          refine XS.goto X0.here hx rfl (pc0 := 20) (pc' := 24) rfl (hb hby at_20) (by decide) (by decide) ?_
          exact kt
      show Steps p.tables e below (s₁.setTop (mkF m 24 #[.val (.int p0), .val (.int p1), .val (.int p2), .val (.int p3), .val (.int p4), .val (.int p5), .val (.int v56), .unset, .unset, .unset, .unset, .unset] [(.int v58)])) _
      refine XS.istore X0.here hx rfl (hb hby at_24) rfl (l' := #[.val (.int p0), .val (.int p1), .val (.int p2), .val (.int p3), .val (.int p4), .val (.int p5), .val (.int v56), .val (.int v58), .unset, .unset, .unset, .unset]) rfl ?_
      show Steps p.tables e below (s₁.setTop (mkF m 26 #[.val (.int p0), .val (.int p1), .val (.int p2), .val (.int p3), .val (.int p4), .val (.int p5), .val (.int v56), .val (.int v58), .unset, .unset, .unset, .unset] [])) _
      refine XS.iloadN X0.here hx rfl (hb hby at_26) rfl ?_
      show Steps p.tables e below (s₁.setTop (mkF m 27 #[.val (.int p0), .val (.int p1), .val (.int p2), .val (.int p3), .val (.int p4), .val (.int p5), .val (.int v56), .val (.int v58), .unset, .unset, .unset, .unset] [(.int p1)])) _
      refine XS.iconst X0.here hx rfl (hb hby at_27) ?_
      show Steps p.tables e below (s₁.setTop (mkF m 28 #[.val (.int p0), .val (.int p1), .val (.int p2), .val (.int p3), .val (.int p4), .val (.int p5), .val (.int v56), .val (.int v58), .unset, .unset, .unset, .unset] [(.int (1 : Int32)), (.int p1)])) _
      refine XS.iushr X0.here hx rfl (hb hby at_28) rfl ?_
      show Steps p.tables e below (s₁.setTop (mkF m 29 #[.val (.int p0), .val (.int p1), .val (.int p2), .val (.int p3), .val (.int p4), .val (.int p5), .val (.int v56), .val (.int v58), .unset, .unset, .unset, .unset] [(.int ((p1.toUInt32 >>> ((1 : Int32) &&& 31).toUInt32).toInt32))])) _
      refine XS.iconst X0.here hx rfl (hb hby at_29) ?_
      show Steps p.tables e below (s₁.setTop (mkF m 30 #[.val (.int p0), .val (.int p1), .val (.int p2), .val (.int p3), .val (.int p4), .val (.int p5), .val (.int v56), .val (.int v58), .unset, .unset, .unset, .unset] [(.int (3 : Int32)), (.int ((p1.toUInt32 >>> ((1 : Int32) &&& 31).toUInt32).toInt32))])) _
      refine XS.irem X0.here hx rfl (hb hby at_30) rfl (by decide) ?_
      show Steps p.tables e below (s₁.setTop (mkF m 31 #[.val (.int p0), .val (.int p1), .val (.int p2), .val (.int p3), .val (.int p4), .val (.int p5), .val (.int v56), .val (.int v58), .unset, .unset, .unset, .unset] [(.int (((p1.toUInt32 >>> ((1 : Int32) &&& 31).toUInt32).toInt32) - ((p1.toUInt32 >>> ((1 : Int32) &&& 31).toUInt32).toInt32) / (3 : Int32) * (3 : Int32)))])) _
      refine XS.istore X0.here hx rfl (hb hby at_31) rfl (l' := #[.val (.int p0), .val (.int p1), .val (.int p2), .val (.int p3), .val (.int p4), .val (.int p5), .val (.int v56), .val (.int v58), .val (.int (((p1.toUInt32 >>> ((1 : Int32) &&& 31).toUInt32).toInt32) - ((p1.toUInt32 >>> ((1 : Int32) &&& 31).toUInt32).toInt32) / (3 : Int32) * (3 : Int32))), .unset, .unset, .unset]) rfl ?_
      show Steps p.tables e below (s₁.setTop (mkF m 33 #[.val (.int p0), .val (.int p1), .val (.int p2), .val (.int p3), .val (.int p4), .val (.int p5), .val (.int v56), .val (.int v58), .val (.int (((p1.toUInt32 >>> ((1 : Int32) &&& 31).toUInt32).toInt32) - ((p1.toUInt32 >>> ((1 : Int32) &&& 31).toUInt32).toInt32) / (3 : Int32) * (3 : Int32))), .unset, .unset, .unset] [])) _
      refine st59 _ ?_
      show Steps p.tables e below (T59.setTop (mkF m 36 #[.val (.int p0), .val (.int p1), .val (.int p2), .val (.int p3), .val (.int p4), .val (.int p5), .val (.int v56), .val (.int v58), .val (.int (((p1.toUInt32 >>> ((1 : Int32) &&& 31).toUInt32).toInt32) - ((p1.toUInt32 >>> ((1 : Int32) &&& 31).toUInt32).toInt32) / (3 : Int32) * (3 : Int32))), .unset, .unset, .unset] [(.ref b59)])) _
      refine XS.dup X59.here hx rfl (hb hby at_36) rfl rfl ?_
      show Steps p.tables e below (T59.setTop (mkF m 37 #[.val (.int p0), .val (.int p1), .val (.int p2), .val (.int p3), .val (.int p4), .val (.int p5), .val (.int v56), .val (.int v58), .val (.int (((p1.toUInt32 >>> ((1 : Int32) &&& 31).toUInt32).toInt32) - ((p1.toUInt32 >>> ((1 : Int32) &&& 31).toUInt32).toInt32) / (3 : Int32) * (3 : Int32))), .unset, .unset, .unset] [(.ref b59), (.ref b59)])) _
      refine XS.iload X59.here hx rfl (hb hby at_37) rfl ?_
      show Steps p.tables e below (T59.setTop (mkF m 39 #[.val (.int p0), .val (.int p1), .val (.int p2), .val (.int p3), .val (.int p4), .val (.int p5), .val (.int v56), .val (.int v58), .val (.int (((p1.toUInt32 >>> ((1 : Int32) &&& 31).toUInt32).toInt32) - ((p1.toUInt32 >>> ((1 : Int32) &&& 31).toUInt32).toInt32) / (3 : Int32) * (3 : Int32))), .unset, .unset, .unset] [(.int v56), (.ref b59), (.ref b59)])) _
      refine XS.iloadN X59.here hx rfl (hb hby at_39) rfl ?_
      show Steps p.tables e below (T59.setTop (mkF m 40 #[.val (.int p0), .val (.int p1), .val (.int p2), .val (.int p3), .val (.int p4), .val (.int p5), .val (.int v56), .val (.int v58), .val (.int (((p1.toUInt32 >>> ((1 : Int32) &&& 31).toUInt32).toInt32) - ((p1.toUInt32 >>> ((1 : Int32) &&& 31).toUInt32).toInt32) / (3 : Int32) * (3 : Int32))), .unset, .unset, .unset] [(.int p2), (.int v56), (.ref b59), (.ref b59)])) _
      refine XS.iloadN X59.here hx rfl (hb hby at_40) rfl ?_
      show Steps p.tables e below (T59.setTop (mkF m 41 #[.val (.int p0), .val (.int p1), .val (.int p2), .val (.int p3), .val (.int p4), .val (.int p5), .val (.int v56), .val (.int v58), .val (.int (((p1.toUInt32 >>> ((1 : Int32) &&& 31).toUInt32).toInt32) - ((p1.toUInt32 >>> ((1 : Int32) &&& 31).toUInt32).toInt32) / (3 : Int32) * (3 : Int32))), .unset, .unset, .unset] [(.int p3), (.int p2), (.int v56), (.ref b59), (.ref b59)])) _
      refine st65.trans ?_
      show Steps p.tables e below (T65.setTop (mkF m 44 #[.val (.int p0), .val (.int p1), .val (.int p2), .val (.int p3), .val (.int p4), .val (.int p5), .val (.int v56), .val (.int v58), .val (.int (((p1.toUInt32 >>> ((1 : Int32) &&& 31).toUInt32).toInt32) - ((p1.toUInt32 >>> ((1 : Int32) &&& 31).toUInt32).toInt32) / (3 : Int32) * (3 : Int32))), .unset, .unset, .unset] [(.ref b59)])) _
      refine XS.astore X65.here hx rfl (hb hby at_44) rfl rfl (l' := #[.val (.int p0), .val (.int p1), .val (.int p2), .val (.int p3), .val (.int p4), .val (.int p5), .val (.int v56), .val (.int v58), .val (.int (((p1.toUInt32 >>> ((1 : Int32) &&& 31).toUInt32).toInt32) - ((p1.toUInt32 >>> ((1 : Int32) &&& 31).toUInt32).toInt32) / (3 : Int32) * (3 : Int32))), .val (.ref b59), .unset, .unset]) rfl ?_
      show Steps p.tables e below (T65.setTop (mkF m 46 #[.val (.int p0), .val (.int p1), .val (.int p2), .val (.int p3), .val (.int p4), .val (.int p5), .val (.int v56), .val (.int v58), .val (.int (((p1.toUInt32 >>> ((1 : Int32) &&& 31).toUInt32).toInt32) - ((p1.toUInt32 >>> ((1 : Int32) &&& 31).toUInt32).toInt32) / (3 : Int32) * (3 : Int32))), .val (.ref b59), .unset, .unset] [])) _
      refine XS.iload X65.here hx rfl (hb hby at_46) rfl ?_
      show Steps p.tables e below (T65.setTop (mkF m 48 #[.val (.int p0), .val (.int p1), .val (.int p2), .val (.int p3), .val (.int p4), .val (.int p5), .val (.int v56), .val (.int v58), .val (.int (((p1.toUInt32 >>> ((1 : Int32) &&& 31).toUInt32).toInt32) - ((p1.toUInt32 >>> ((1 : Int32) &&& 31).toUInt32).toInt32) / (3 : Int32) * (3 : Int32))), .val (.ref b59), .unset, .unset] [(.int (((p1.toUInt32 >>> ((1 : Int32) &&& 31).toUInt32).toInt32) - ((p1.toUInt32 >>> ((1 : Int32) &&& 31).toUInt32).toInt32) / (3 : Int32) * (3 : Int32)))])) _
      refine XS.ifNo X65.here hx rfl (hb hby at_48) rfl ((if0 _ _).trans (teq hk0).2) ?_
      show Steps p.tables e below (T65.setTop (mkF m 51 #[.val (.int p0), .val (.int p1), .val (.int p2), .val (.int p3), .val (.int p4), .val (.int p5), .val (.int v56), .val (.int v58), .val (.int (((p1.toUInt32 >>> ((1 : Int32) &&& 31).toUInt32).toInt32) - ((p1.toUInt32 >>> ((1 : Int32) &&& 31).toUInt32).toInt32) / (3 : Int32) * (3 : Int32))), .val (.ref b59), .unset, .unset] [])) _
      refine st69 _ ?_
      show Steps p.tables e below (T69.setTop (mkF m 54 #[.val (.int p0), .val (.int p1), .val (.int p2), .val (.int p3), .val (.int p4), .val (.int p5), .val (.int v56), .val (.int v58), .val (.int (((p1.toUInt32 >>> ((1 : Int32) &&& 31).toUInt32).toInt32) - ((p1.toUInt32 >>> ((1 : Int32) &&& 31).toUInt32).toInt32) / (3 : Int32) * (3 : Int32))), .val (.ref b59), .unset, .unset] [(.ref b69)])) _
      refine XS.dup X69.here hx rfl (hb hby at_54) rfl rfl ?_
      show Steps p.tables e below (T69.setTop (mkF m 55 #[.val (.int p0), .val (.int p1), .val (.int p2), .val (.int p3), .val (.int p4), .val (.int p5), .val (.int v56), .val (.int v58), .val (.int (((p1.toUInt32 >>> ((1 : Int32) &&& 31).toUInt32).toInt32) - ((p1.toUInt32 >>> ((1 : Int32) &&& 31).toUInt32).toInt32) / (3 : Int32) * (3 : Int32))), .val (.ref b59), .unset, .unset] [(.ref b69), (.ref b69)])) _
      refine XS.iload X69.here hx rfl (hb hby at_55) rfl ?_
      show Steps p.tables e below (T69.setTop (mkF m 57 #[.val (.int p0), .val (.int p1), .val (.int p2), .val (.int p3), .val (.int p4), .val (.int p5), .val (.int v56), .val (.int v58), .val (.int (((p1.toUInt32 >>> ((1 : Int32) &&& 31).toUInt32).toInt32) - ((p1.toUInt32 >>> ((1 : Int32) &&& 31).toUInt32).toInt32) / (3 : Int32) * (3 : Int32))), .val (.ref b59), .unset, .unset] [(.int v58), (.ref b69), (.ref b69)])) _
      refine XS.iload X69.here hx rfl (hb hby at_57) rfl ?_
      show Steps p.tables e below (T69.setTop (mkF m 59 #[.val (.int p0), .val (.int p1), .val (.int p2), .val (.int p3), .val (.int p4), .val (.int p5), .val (.int v56), .val (.int v58), .val (.int (((p1.toUInt32 >>> ((1 : Int32) &&& 31).toUInt32).toInt32) - ((p1.toUInt32 >>> ((1 : Int32) &&& 31).toUInt32).toInt32) / (3 : Int32) * (3 : Int32))), .val (.ref b59), .unset, .unset] [(.int p4), (.int v58), (.ref b69), (.ref b69)])) _
      refine XS.iload X69.here hx rfl (hb hby at_59) rfl ?_
      show Steps p.tables e below (T69.setTop (mkF m 61 #[.val (.int p0), .val (.int p1), .val (.int p2), .val (.int p3), .val (.int p4), .val (.int p5), .val (.int v56), .val (.int v58), .val (.int (((p1.toUInt32 >>> ((1 : Int32) &&& 31).toUInt32).toInt32) - ((p1.toUInt32 >>> ((1 : Int32) &&& 31).toUInt32).toInt32) / (3 : Int32) * (3 : Int32))), .val (.ref b59), .unset, .unset] [(.int p5), (.int p4), (.int v58), (.ref b69), (.ref b69)])) _
      refine st78.trans ?_
      show Steps p.tables e below (T78.setTop (mkF m 64 #[.val (.int p0), .val (.int p1), .val (.int p2), .val (.int p3), .val (.int p4), .val (.int p5), .val (.int v56), .val (.int v58), .val (.int (((p1.toUInt32 >>> ((1 : Int32) &&& 31).toUInt32).toInt32) - ((p1.toUInt32 >>> ((1 : Int32) &&& 31).toUInt32).toInt32) / (3 : Int32) * (3 : Int32))), .val (.ref b59), .unset, .unset] [(.ref b69)])) _
      refine XS.astore X78.here hx rfl (hb hby at_64) rfl rfl (l' := #[.val (.int p0), .val (.int p1), .val (.int p2), .val (.int p3), .val (.int p4), .val (.int p5), .val (.int v56), .val (.int v58), .val (.int (((p1.toUInt32 >>> ((1 : Int32) &&& 31).toUInt32).toInt32) - ((p1.toUInt32 >>> ((1 : Int32) &&& 31).toUInt32).toInt32) / (3 : Int32) * (3 : Int32))), .val (.ref b59), .val (.ref b69), .unset]) rfl ?_
      show Steps p.tables e below (T78.setTop (mkF m 66 #[.val (.int p0), .val (.int p1), .val (.int p2), .val (.int p3), .val (.int p4), .val (.int p5), .val (.int v56), .val (.int v58), .val (.int (((p1.toUInt32 >>> ((1 : Int32) &&& 31).toUInt32).toInt32) - ((p1.toUInt32 >>> ((1 : Int32) &&& 31).toUInt32).toInt32) / (3 : Int32) * (3 : Int32))), .val (.ref b59), .val (.ref b69), .unset] [])) _
      refine XS.goto X78.here hx rfl (pc0 := 66) (pc' := 94) rfl (hb hby at_66) (by decide) (by decide) ?_
      show Steps p.tables e below (T78.setTop (mkF m 94 #[.val (.int p0), .val (.int p1), .val (.int p2), .val (.int p3), .val (.int p4), .val (.int p5), .val (.int v56), .val (.int v58), .val (.int (((p1.toUInt32 >>> ((1 : Int32) &&& 31).toUInt32).toInt32) - ((p1.toUInt32 >>> ((1 : Int32) &&& 31).toUInt32).toInt32) / (3 : Int32) * (3 : Int32))), .val (.ref b59), .val (.ref b69), .unset] [])) _
      refine XS.iload X78.here hx rfl (hb hby at_94) rfl ?_
      show Steps p.tables e below (T78.setTop (mkF m 96 #[.val (.int p0), .val (.int p1), .val (.int p2), .val (.int p3), .val (.int p4), .val (.int p5), .val (.int v56), .val (.int v58), .val (.int (((p1.toUInt32 >>> ((1 : Int32) &&& 31).toUInt32).toInt32) - ((p1.toUInt32 >>> ((1 : Int32) &&& 31).toUInt32).toInt32) / (3 : Int32) * (3 : Int32))), .val (.ref b59), .val (.ref b69), .unset] [(.int (((p1.toUInt32 >>> ((1 : Int32) &&& 31).toUInt32).toInt32) - ((p1.toUInt32 >>> ((1 : Int32) &&& 31).toUInt32).toInt32) / (3 : Int32) * (3 : Int32)))])) _
      refine XS.ifNo X78.here hx rfl (hb hby at_96) rfl ((if0 _ _).trans (teq hk0).2) ?_
      show Steps p.tables e below (T78.setTop (mkF m 99 #[.val (.int p0), .val (.int p1), .val (.int p2), .val (.int p3), .val (.int p4), .val (.int p5), .val (.int v56), .val (.int v58), .val (.int (((p1.toUInt32 >>> ((1 : Int32) &&& 31).toUInt32).toInt32) - ((p1.toUInt32 >>> ((1 : Int32) &&& 31).toUInt32).toInt32) / (3 : Int32) * (3 : Int32))), .val (.ref b59), .val (.ref b69), .unset] [])) _
      refine XS.iload X78.here hx rfl (hb hby at_99) rfl ?_
      show Steps p.tables e below (T78.setTop (mkF m 101 #[.val (.int p0), .val (.int p1), .val (.int p2), .val (.int p3), .val (.int p4), .val (.int p5), .val (.int v56), .val (.int v58), .val (.int (((p1.toUInt32 >>> ((1 : Int32) &&& 31).toUInt32).toInt32) - ((p1.toUInt32 >>> ((1 : Int32) &&& 31).toUInt32).toInt32) / (3 : Int32) * (3 : Int32))), .val (.ref b59), .val (.ref b69), .unset] [(.int v56)])) _
      refine XS.iload X78.here hx rfl (hb hby at_101) rfl ?_
      refine joinS (B := T78.setTop (mkF m 111 #[.val (.int p0), .val (.int p1), .val (.int p2), .val (.int p3), .val (.int p4), .val (.int p5), .val (.int v56), .val (.int v58), .val (.int (((p1.toUInt32 >>> ((1 : Int32) &&& 31).toUInt32).toInt32) - ((p1.toUInt32 >>> ((1 : Int32) &&& 31).toUInt32).toInt32) / (3 : Int32) * (3 : Int32))), .val (.ref b59), .val (.ref b69), .unset] [(.int v85)])) (fun kt => ?_) ?_
      · by_cases hc84 : v56 = v58
        · rw [show v85 = (1 : Int32) from by rw [hv85, if_pos hc84]] at kt
          show Steps p.tables e below (T78.setTop (mkF m 103 #[.val (.int p0), .val (.int p1), .val (.int p2), .val (.int p3), .val (.int p4), .val (.int p5), .val (.int v56), .val (.int v58), .val (.int (((p1.toUInt32 >>> ((1 : Int32) &&& 31).toUInt32).toInt32) - ((p1.toUInt32 >>> ((1 : Int32) &&& 31).toUInt32).toInt32) / (3 : Int32) * (3 : Int32))), .val (.ref b59), .val (.ref b69), .unset] [(.int v58), (.int v56)])) _
          refine XS.icmpNo X78.here hx rfl (hb hby at_103) rfl (teq hc84).2 ?_
          show Steps p.tables e below (T78.setTop (mkF m 106 #[.val (.int p0), .val (.int p1), .val (.int p2), .val (.int p3), .val (.int p4), .val (.int p5), .val (.int v56), .val (.int v58), .val (.int (((p1.toUInt32 >>> ((1 : Int32) &&& 31).toUInt32).toInt32) - ((p1.toUInt32 >>> ((1 : Int32) &&& 31).toUInt32).toInt32) / (3 : Int32) * (3 : Int32))), .val (.ref b59), .val (.ref b69), .unset] [])) _
          refine XS.iconst X78.here hx rfl (hb hby at_106) ?_
          show Steps p.tables e below (T78.setTop (mkF m 107 #[.val (.int p0), .val (.int p1), .val (.int p2), .val (.int p3), .val (.int p4), .val (.int p5), .val (.int v56), .val (.int v58), .val (.int (((p1.toUInt32 >>> ((1 : Int32) &&& 31).toUInt32).toInt32) - ((p1.toUInt32 >>> ((1 : Int32) &&& 31).toUInt32).toInt32) / (3 : Int32) * (3 : Int32))), .val (.ref b59), .val (.ref b69), .unset] [(.int (1 : Int32))])) _
          refine XS.goto X78.here hx rfl (pc0 := 107) (pc' := 111) rfl (hb hby at_107) (by decide) (by decide) ?_
          exact kt
        · rw [show v85 = (0 : Int32) from by rw [hv85, if_neg hc84]] at kt
          show Steps p.tables e below (T78.setTop (mkF m 103 #[.val (.int p0), .val (.int p1), .val (.int p2), .val (.int p3), .val (.int p4), .val (.int p5), .val (.int v56), .val (.int v58), .val (.int (((p1.toUInt32 >>> ((1 : Int32) &&& 31).toUInt32).toInt32) - ((p1.toUInt32 >>> ((1 : Int32) &&& 31).toUInt32).toInt32) / (3 : Int32) * (3 : Int32))), .val (.ref b59), .val (.ref b69), .unset] [(.int v58), (.int v56)])) _
          refine XS.icmpYes X78.here hx rfl (pc0 := 103) (pc' := 110) rfl (hb hby at_103) rfl (feq hc84).2 (by decide) (by decide) ?_
          show Steps p.tables e below (T78.setTop (mkF m 110 #[.val (.int p0), .val (.int p1), .val (.int p2), .val (.int p3), .val (.int p4), .val (.int p5), .val (.int v56), .val (.int v58), .val (.int (((p1.toUInt32 >>> ((1 : Int32) &&& 31).toUInt32).toInt32) - ((p1.toUInt32 >>> ((1 : Int32) &&& 31).toUInt32).toInt32) / (3 : Int32) * (3 : Int32))), .val (.ref b59), .val (.ref b69), .unset] [])) _
          refine XS.iconst X78.here hx rfl (hb hby at_110) ?_
          exact kt
      show Steps p.tables e below (T78.setTop (mkF m 111 #[.val (.int p0), .val (.int p1), .val (.int p2), .val (.int p3), .val (.int p4), .val (.int p5), .val (.int v56), .val (.int v58), .val (.int (((p1.toUInt32 >>> ((1 : Int32) &&& 31).toUInt32).toInt32) - ((p1.toUInt32 >>> ((1 : Int32) &&& 31).toUInt32).toInt32) / (3 : Int32) * (3 : Int32))), .val (.ref b59), .val (.ref b69), .unset] [(.int v85)])) _
      refine XS.istore X78.here hx rfl (hb hby at_111) rfl (l' := #[.val (.int p0), .val (.int p1), .val (.int p2), .val (.int p3), .val (.int p4), .val (.int p5), .val (.int v56), .val (.int v58), .val (.int (((p1.toUInt32 >>> ((1 : Int32) &&& 31).toUInt32).toInt32) - ((p1.toUInt32 >>> ((1 : Int32) &&& 31).toUInt32).toInt32) / (3 : Int32) * (3 : Int32))), .val (.ref b59), .val (.ref b69), .val (.int v85)]) rfl ?_
      show Steps p.tables e below (T78.setTop (mkF m 113 #[.val (.int p0), .val (.int p1), .val (.int p2), .val (.int p3), .val (.int p4), .val (.int p5), .val (.int v56), .val (.int v58), .val (.int (((p1.toUInt32 >>> ((1 : Int32) &&& 31).toUInt32).toInt32) - ((p1.toUInt32 >>> ((1 : Int32) &&& 31).toUInt32).toInt32) / (3 : Int32) * (3 : Int32))), .val (.ref b59), .val (.ref b69), .val (.int v85)] [])) _
      refine XS.aload X78.here hx rfl (hb hby at_113) rfl rfl ?_
      show Steps p.tables e below (T78.setTop (mkF m 115 #[.val (.int p0), .val (.int p1), .val (.int p2), .val (.int p3), .val (.int p4), .val (.int p5), .val (.int v56), .val (.int v58), .val (.int (((p1.toUInt32 >>> ((1 : Int32) &&& 31).toUInt32).toInt32) - ((p1.toUInt32 >>> ((1 : Int32) &&& 31).toUInt32).toInt32) / (3 : Int32) * (3 : Int32))), .val (.ref b59), .val (.ref b69), .val (.int v85)] [(.ref b59)])) _
      refine XS.aload X78.here hx rfl (hb hby at_115) rfl rfl ?_
      show Steps p.tables e below (T78.setTop (mkF m 117 #[.val (.int p0), .val (.int p1), .val (.int p2), .val (.int p3), .val (.int p4), .val (.int p5), .val (.int v56), .val (.int v58), .val (.int (((p1.toUInt32 >>> ((1 : Int32) &&& 31).toUInt32).toInt32) - ((p1.toUInt32 >>> ((1 : Int32) &&& 31).toUInt32).toInt32) / (3 : Int32) * (3 : Int32))), .val (.ref b59), .val (.ref b69), .val (.int v85)] [(.ref b69), (.ref b59)])) _
      refine st86.trans ?_
      show Steps p.tables e below (T86.setTop (mkF m 120 #[.val (.int p0), .val (.int p1), .val (.int p2), .val (.int p3), .val (.int p4), .val (.int p5), .val (.int v56), .val (.int v58), .val (.int (((p1.toUInt32 >>> ((1 : Int32) &&& 31).toUInt32).toInt32) - ((p1.toUInt32 >>> ((1 : Int32) &&& 31).toUInt32).toInt32) / (3 : Int32) * (3 : Int32))), .val (.ref b59), .val (.ref b69), .val (.int v85)] [(.int (if nar .boolean v56 = nar .boolean v58 then (1 : Int32) else (0 : Int32)))])) _
      refine XS.iload X86.here hx rfl (hb hby at_120) rfl ?_
      show Steps p.tables e below (T86.setTop (mkF m 122 #[.val (.int p0), .val (.int p1), .val (.int p2), .val (.int p3), .val (.int p4), .val (.int p5), .val (.int v56), .val (.int v58), .val (.int (((p1.toUInt32 >>> ((1 : Int32) &&& 31).toUInt32).toInt32) - ((p1.toUInt32 >>> ((1 : Int32) &&& 31).toUInt32).toInt32) / (3 : Int32) * (3 : Int32))), .val (.ref b59), .val (.ref b69), .val (.int v85)] [(.int v85), (.int (if nar .boolean v56 = nar .boolean v58 then (1 : Int32) else (0 : Int32)))])) _
      refine XS.icmpNo X86.here hx rfl (hb hby at_122) rfl (teq (own_eq hv56 hv58 hv85)).2 ?_
      show Steps p.tables e below (T86.setTop (mkF m 125 #[.val (.int p0), .val (.int p1), .val (.int p2), .val (.int p3), .val (.int p4), .val (.int p5), .val (.int v56), .val (.int v58), .val (.int (((p1.toUInt32 >>> ((1 : Int32) &&& 31).toUInt32).toInt32) - ((p1.toUInt32 >>> ((1 : Int32) &&& 31).toUInt32).toInt32) / (3 : Int32) * (3 : Int32))), .val (.ref b59), .val (.ref b69), .val (.int v85)] [])) _
      refine XS.aload X86.here hx rfl (hb hby at_125) rfl rfl ?_
      show Steps p.tables e below (T86.setTop (mkF m 127 #[.val (.int p0), .val (.int p1), .val (.int p2), .val (.int p3), .val (.int p4), .val (.int p5), .val (.int v56), .val (.int v58), .val (.int (((p1.toUInt32 >>> ((1 : Int32) &&& 31).toUInt32).toInt32) - ((p1.toUInt32 >>> ((1 : Int32) &&& 31).toUInt32).toInt32) / (3 : Int32) * (3 : Int32))), .val (.ref b59), .val (.ref b69), .val (.int v85)] [(.ref b59)])) _
      refine XS.aload X86.here hx rfl (hb hby at_127) rfl rfl ?_
      show Steps p.tables e below (T86.setTop (mkF m 129 #[.val (.int p0), .val (.int p1), .val (.int p2), .val (.int p3), .val (.int p4), .val (.int p5), .val (.int v56), .val (.int v58), .val (.int (((p1.toUInt32 >>> ((1 : Int32) &&& 31).toUInt32).toInt32) - ((p1.toUInt32 >>> ((1 : Int32) &&& 31).toUInt32).toInt32) / (3 : Int32) * (3 : Int32))), .val (.ref b59), .val (.ref b69), .val (.int v85)] [(.ref b59), (.ref b59)])) _
      refine st88.trans ?_
      show Steps p.tables e below (T88.setTop (mkF m 132 #[.val (.int p0), .val (.int p1), .val (.int p2), .val (.int p3), .val (.int p4), .val (.int p5), .val (.int v56), .val (.int v58), .val (.int (((p1.toUInt32 >>> ((1 : Int32) &&& 31).toUInt32).toInt32) - ((p1.toUInt32 >>> ((1 : Int32) &&& 31).toUInt32).toInt32) / (3 : Int32) * (3 : Int32))), .val (.ref b59), .val (.ref b69), .val (.int v85)] [(.int (if nar .boolean v56 = nar .boolean v56 then (1 : Int32) else (0 : Int32)))])) _
      refine XS.ifNo X88.here hx rfl (hb hby at_132) rfl ((if0 _ _).trans (feq (by rw [if_pos rfl]; decide)).1) ?_
      show Steps p.tables e below (T88.setTop (mkF m 135 #[.val (.int p0), .val (.int p1), .val (.int p2), .val (.int p3), .val (.int p4), .val (.int p5), .val (.int v56), .val (.int v58), .val (.int (((p1.toUInt32 >>> ((1 : Int32) &&& 31).toUInt32).toInt32) - ((p1.toUInt32 >>> ((1 : Int32) &&& 31).toUInt32).toInt32) / (3 : Int32) * (3 : Int32))), .val (.ref b59), .val (.ref b69), .val (.int v85)] [])) _
      refine XS.iconst X88.here hx rfl (hb hby at_135) ?_
      show Steps p.tables e below (T88.setTop (mkF m 136 #[.val (.int p0), .val (.int p1), .val (.int p2), .val (.int p3), .val (.int p4), .val (.int p5), .val (.int v56), .val (.int v58), .val (.int (((p1.toUInt32 >>> ((1 : Int32) &&& 31).toUInt32).toInt32) - ((p1.toUInt32 >>> ((1 : Int32) &&& 31).toUInt32).toInt32) / (3 : Int32) * (3 : Int32))), .val (.ref b59), .val (.ref b69), .val (.int v85)] [(.int (1 : Int32))])) _
      refine XS.goto X88.here hx rfl (pc0 := 136) (pc' := 140) rfl (hb hby at_136) (by decide) (by decide) ?_
      show Steps p.tables e below (T88.setTop (mkF m 140 #[.val (.int p0), .val (.int p1), .val (.int p2), .val (.int p3), .val (.int p4), .val (.int p5), .val (.int v56), .val (.int v58), .val (.int (((p1.toUInt32 >>> ((1 : Int32) &&& 31).toUInt32).toInt32) - ((p1.toUInt32 >>> ((1 : Int32) &&& 31).toUInt32).toInt32) / (3 : Int32) * (3 : Int32))), .val (.ref b59), .val (.ref b69), .val (.int v85)] [(.int (1 : Int32))])) _
      exact retN X88 hx (t := .boolean) Bd.returns (by simp) (hb hby at_140) hr
    · show Qrm0 Z p0 p1 p2 p3 p4 p5 h0 n0 _ T88.heap _
      rw [e88]
      exact ⟨rfl, N89⟩
  · by_cases hk1 : (((p1.toUInt32 >>> ((1 : Int32) &&& 31).toUInt32).toInt32) - ((p1.toUInt32 >>> ((1 : Int32) &&& 31).toUInt32).toInt32) / (3 : Int32) * (3 : Int32)) = (1 : Int32)
    · obtain ⟨T90, h90, X90, e90, E90, A90, D90, U90, st90⟩ := newO X65 hx hZ hown (hw _ (List.mem_of_getElem? (i := 20) rfl)) (hw _ (List.mem_of_getElem? (i := 21) rfl)) (hw _ (List.mem_of_getElem? (i := 22) rfl)) rfl (g := (mkF m 75 #[.val (.int p0), .val (.int p1), .val (.int p2), .val (.int p3), .val (.int p4), .val (.int p5), .val (.int v56), .val (.int v58), .val (.int (((p1.toUInt32 >>> ((1 : Int32) &&& 31).toUInt32).toInt32) - ((p1.toUInt32 >>> ((1 : Int32) &&& 31).toUInt32).toInt32) / (3 : Int32) * (3 : Int32))), .val (.ref b59), .unset, .unset] [])) rfl (hb hby at_75) (by decide) (by decide)
      obtain ⟨b90, g90⟩ : ∃ z, z = T65.heap.size := ⟨_, rfl⟩
      rw [← g90] at A90 D90 st90
      have g91 : n0 ≤ b90 := Nat.le_trans Zn68 (Nat.le_of_eq g90.symm)
      have ne92 : b59 ≠ b90 := Nat.ne_of_lt (Nat.lt_of_lt_of_le f67.lt (Nat.le_of_eq g90.symm))
      have f93 := f67.ext E90
      have f94 := Fv65.ext E90
      have Zn95 := Nat.le_trans Zn68 E90.1
      have f96 : Fld Z h90 b90 "com/example/tenon/tenon/JsonValue" "line" "I" (.int (0 : Int32)) := D90 (Or.inr (hw _ (List.mem_of_getElem? (i := 27) rfl))) (ty := .int) (by decide)
      have f97 : Fld Z h90 b90 "com/example/tenon/tenon/JsonValue" "column" "I" (.int (0 : Int32)) := D90 (Or.inr (hw _ (List.mem_of_getElem? (i := 28) rfl))) (ty := .int) (by decide)
      obtain ⟨_, _, ⟨T98, L98, k98, n98⟩, -, X98, ⟨Lc98, hQ98, l98, y98, z98⟩, st98⟩ := X90.specialBack hx (y := (⟨"com/example/tenon/tenon/JsonValue$NullValue", "<init>", "(II)V"⟩ : MethodName)) rfl hown (mvT hZ (hw _ (List.mem_of_getElem? (i := 23) rfl))) (mvT hZ (hw _ (List.mem_of_getElem? (i := 24) rfl))) (mvT hZ (hw _ (List.mem_of_getElem? (i := 25) rfl))) (by decide) (backOf (W := 1) (rm4 l Z a0 hw [] b90 p4 p5  h90 n0 Zn95 A90 f96 f97 g91) hZ (hw _ (List.mem_of_getElem? (i := 25) rfl)) (hw _ (List.mem_of_getElem? (i := 22) rfl)) (by decide) (by decide)) (g := (mkF m 83 #[.val (.int p0), .val (.int p1), .val (.int p2), .val (.int p3), .val (.int p4), .val (.int p5), .val (.int v56), .val (.int v58), .val (.int (((p1.toUInt32 >>> ((1 : Int32) &&& 31).toUInt32).toInt32) - ((p1.toUInt32 >>> ((1 : Int32) &&& 31).toUInt32).toInt32) / (3 : Int32) * (3 : Int32))), .val (.ref b59), .unset, .unset] [(.int p5), (.int p4), (.ref b90), (.ref b90)])) rfl (by rw [hml]; rfl) (Steps.refl _) (a := b90) (argsL := [(.int p4), (.int p5)]) (rest := [(.ref b90)]) (lenOf pd__II_V rfl) rfl (by show 2 * 0 + _ ≤ _; exact Nat.le_of_eq rfl) (hb hby at_83) (fun _ _ => ⟨rfl, e90, (by decide : 2 + 0 ≤ _), (by decide : 5 + 0 ≤ _)⟩)
      dsimp only [Pt.U, Pt.locs, Pt.cells, Pt.slots] at X98 l98 y98 z98 st98 hQ98
      subst l98 y98 z98
      obtain ⟨rfl, N98q, K98⟩ := hQ98
      have N99 := Fr.app N66 N98q
      have f100 := f93.keep K98
      have f101 := f94.keep K98 (ninS ne92 nin0)
      have f102 := A90.keep K98
      have Zn103 := Nat.le_trans Zn95 K98.1
      obtain ⟨cq104, kq104, q104a, q104b, q104c⟩ := isOf hZ rfl f100
      obtain ⟨_, _, ⟨T104, L104, k104, n104⟩, -, X104, ⟨Lc104, hQ104, l104, y104, z104⟩, st104⟩ := X98.virtualBack hx (y := (⟨"com/example/tenon/tenon/JsonValue$BooleanValue", "equals", "(Ljava/lang/Object;)Z"⟩ : MethodName)) (z := (⟨"com/example/tenon/tenon/JsonValue$BooleanValue", "equals", "(Ljava/lang/Object;)Z"⟩ : MethodName)) hown (mvT hZ (hw _ (List.mem_of_getElem? (i := 29) rfl))) (mvT hZ (hw _ (List.mem_of_getElem? (i := 30) rfl))) (notFace_of_selects (args := #[]) (mvT hZ (hw _ (List.mem_of_getElem? (i := 32) rfl)))) (mvT hZ (hw _ (List.mem_of_getElem? (i := 32) rfl))) (mvT hZ (hw _ (List.mem_of_getElem? (i := 31) rfl))) (by decide) (backOf (W := 0) (rm5n l Z a0 hw [] b59 b90  T98.heap n0 Zn103 f102) hZ (hw _ (List.mem_of_getElem? (i := 33) rfl)) (hw _ (List.mem_of_getElem? (i := 2) rfl)) (by decide) (by decide)) q104a q104c (g := (mkF m 117 #[.val (.int p0), .val (.int p1), .val (.int p2), .val (.int p3), .val (.int p4), .val (.int p5), .val (.int v56), .val (.int v58), .val (.int (((p1.toUInt32 >>> ((1 : Int32) &&& 31).toUInt32).toInt32) - ((p1.toUInt32 >>> ((1 : Int32) &&& 31).toUInt32).toInt32) / (3 : Int32) * (3 : Int32))), .val (.ref b59), .val (.ref b90), .val (.int (0 : Int32))] [(.ref b90), (.ref b59)])) rfl (by rw [hml]; rfl) (Steps.refl _) (argsL := [(.ref b90)]) (rest := []) (lenOf pd__Ljava_lang_Object__Z rfl) rfl (by show 2 * 0 + _ ≤ _; exact Nat.le_of_eq rfl) (hb hby at_117) (fun _ _ => ⟨rfl, rfl, (by decide : 2 + 0 ≤ _), (by decide : 5 + 0 ≤ _)⟩)
      dsimp only [Pt.U, Pt.locs, Pt.cells, Pt.slots] at X104 l104 y104 z104 st104 hQ104
      subst l104 y104 z104
      obtain ⟨rfl, N104q, e104⟩ := hQ104
      have N105 := Fr.app N99 N104q
      obtain ⟨cq106, kq106, q106a, q106b, q106c⟩ := isOf hZ e104 f100
      obtain ⟨_, _, ⟨T106, L106, k106, n106⟩, -, X106, ⟨Lc106, hQ106, l106, y106, z106⟩, st106⟩ := X104.virtualBack hx (y := (⟨"com/example/tenon/tenon/JsonValue$BooleanValue", "equals", "(Ljava/lang/Object;)Z"⟩ : MethodName)) (z := (⟨"com/example/tenon/tenon/JsonValue$BooleanValue", "equals", "(Ljava/lang/Object;)Z"⟩ : MethodName)) hown (mvT hZ (hw _ (List.mem_of_getElem? (i := 29) rfl))) (mvT hZ (hw _ (List.mem_of_getElem? (i := 30) rfl))) (notFace_of_selects (args := #[]) (mvT hZ (hw _ (List.mem_of_getElem? (i := 32) rfl)))) (mvT hZ (hw _ (List.mem_of_getElem? (i := 32) rfl))) (mvT hZ (hw _ (List.mem_of_getElem? (i := 31) rfl))) (by decide) (backOf (W := 0) (rm5b l Z a0 hw [] b59 b59 (nar .boolean v56) (nar .boolean v56) T98.heap n0 Zn103 f100 f101 f101) hZ (hw _ (List.mem_of_getElem? (i := 33) rfl)) (hw _ (List.mem_of_getElem? (i := 2) rfl)) (by decide) (by decide)) q106a q106c (g := (mkF m 129 #[.val (.int p0), .val (.int p1), .val (.int p2), .val (.int p3), .val (.int p4), .val (.int p5), .val (.int v56), .val (.int v58), .val (.int (((p1.toUInt32 >>> ((1 : Int32) &&& 31).toUInt32).toInt32) - ((p1.toUInt32 >>> ((1 : Int32) &&& 31).toUInt32).toInt32) / (3 : Int32) * (3 : Int32))), .val (.ref b59), .val (.ref b90), .val (.int (0 : Int32))] [(.ref b59), (.ref b59)])) rfl (by rw [hml]; rfl) (Steps.refl _) (argsL := [(.ref b59)]) (rest := []) (lenOf pd__Ljava_lang_Object__Z rfl) rfl (by show 2 * 0 + _ ≤ _; exact Nat.le_of_eq rfl) (hb hby at_129) (fun _ _ => ⟨rfl, e104, (by decide : 2 + 0 ≤ _), (by decide : 5 + 0 ≤ _)⟩)
      dsimp only [Pt.U, Pt.locs, Pt.cells, Pt.slots] at X106 l106 y106 z106 st106 hQ106
      subst l106 y106 z106
      obtain ⟨rfl, N106q, e106⟩ := hQ106
      have N107 := Fr.app N105 N106q
      obtain ⟨fs, hr, hrun, hended, hW, hsame⟩ := X106.leave (v := some (.int (1 : Int32))) (fun h => by rw [Bd.returns] at h; cases h)
      refine ⟨_, _, pre0 _ ?_, hrun, hended, _, _, rfl, ?_, ⟨_, rfl⟩, hW, hsame.mono (by decide) (by decide)⟩
      · show Steps p.tables e below (s₁.setTop (mkF m 0 #[.val (.int p0), .val (.int p1), .val (.int p2), .val (.int p3), .val (.int p4), .val (.int p5), .unset, .unset, .unset, .unset, .unset, .unset] [])) _
        refine XS.iloadN X0.here hx rfl (hb hby at_0) rfl ?_
        show Steps p.tables e below (s₁.setTop (mkF m 1 #[.val (.int p0), .val (.int p1), .val (.int p2), .val (.int p3), .val (.int p4), .val (.int p5), .unset, .unset, .unset, .unset, .unset, .unset] [(.int p0)])) _
        refine XS.iconst X0.here hx rfl (hb hby at_1) ?_
        show Steps p.tables e below (s₁.setTop (mkF m 2 #[.val (.int p0), .val (.int p1), .val (.int p2), .val (.int p3), .val (.int p4), .val (.int p5), .unset, .unset, .unset, .unset, .unset, .unset] [(.int (1 : Int32)), (.int p0)])) _
        refine XS.iand X0.here hx rfl (hb hby at_2) rfl ?_
        refine joinS (B := s₁.setTop (mkF m 11 #[.val (.int p0), .val (.int p1), .val (.int p2), .val (.int p3), .val (.int p4), .val (.int p5), .unset, .unset, .unset, .unset, .unset, .unset] [(.int v56)])) (fun kt => ?_) ?_
        · by_cases hc55 : (p0 &&& (1 : Int32)) = (0 : Int32)
          · rw [show v56 = (0 : Int32) from by rw [hv56, if_pos hc55]] at kt
            show Steps p.tables e below (s₁.setTop (mkF m 3 #[.val (.int p0), .val (.int p1), .val (.int p2), .val (.int p3), .val (.int p4), .val (.int p5), .unset, .unset, .unset, .unset, .unset, .unset] [(.int (p0 &&& (1 : Int32)))])) _
            refine XS.ifYes X0.here hx rfl (pc0 := 3) (pc' := 10) rfl (hb hby at_3) rfl ((if0 _ _).trans (teq hc55).1) (by decide) (by decide) ?_
            show Steps p.tables e below (s₁.setTop (mkF m 10 #[.val (.int p0), .val (.int p1), .val (.int p2), .val (.int p3), .val (.int p4), .val (.int p5), .unset, .unset, .unset, .unset, .unset, .unset] [])) _
            refine XS.iconst X0.here hx rfl (hb hby at_10) ?_
            exact kt
          · rw [show v56 = (1 : Int32) from by rw [hv56, if_neg hc55]] at kt
            show Steps p.tables e below (s₁.setTop (mkF m 3 #[.val (.int p0), .val (.int p1), .val (.int p2), .val (.int p3), .val (.int p4), .val (.int p5), .unset, .unset, .unset, .unset, .unset, .unset] [(.int (p0 &&& (1 : Int32)))])) _
            refine XS.ifNo X0.here hx rfl (hb hby at_3) rfl ((if0 _ _).trans (feq hc55).1) ?_
            show Steps p.tables e below (s₁.setTop (mkF m 6 #[.val (.int p0), .val (.int p1), .val (.int p2), .val (.int p3), .val (.int p4), .val (.int p5), .unset, .unset, .unset, .unset, .unset, .unset] [])) _
            refine XS.iconst X0.here hx rfl (hb hby at_6) ?_
            show Steps p.tables e below (s₁.setTop (mkF m 7 #[.val (.int p0), .val (.int p1), .val (.int p2), .val (.int p3), .val (.int p4), .val (.int p5), .unset, .unset, .unset, .unset, .unset, .unset] [(.int (1 : Int32))])) _
            refine XS.goto X0.here hx rfl (pc0 := 7) (pc' := 11) rfl (hb hby at_7) (by decide) (by decide) ?_
            exact kt
        show Steps p.tables e below (s₁.setTop (mkF m 11 #[.val (.int p0), .val (.int p1), .val (.int p2), .val (.int p3), .val (.int p4), .val (.int p5), .unset, .unset, .unset, .unset, .unset, .unset] [(.int v56)])) _
        refine XS.istore X0.here hx rfl (hb hby at_11) rfl (l' := #[.val (.int p0), .val (.int p1), .val (.int p2), .val (.int p3), .val (.int p4), .val (.int p5), .val (.int v56), .unset, .unset, .unset, .unset, .unset]) rfl ?_
        show Steps p.tables e below (s₁.setTop (mkF m 13 #[.val (.int p0), .val (.int p1), .val (.int p2), .val (.int p3), .val (.int p4), .val (.int p5), .val (.int v56), .unset, .unset, .unset, .unset, .unset] [])) _
        refine XS.iloadN X0.here hx rfl (hb hby at_13) rfl ?_
        show Steps p.tables e below (s₁.setTop (mkF m 14 #[.val (.int p0), .val (.int p1), .val (.int p2), .val (.int p3), .val (.int p4), .val (.int p5), .val (.int v56), .unset, .unset, .unset, .unset, .unset] [(.int p1)])) _
        refine XS.iconst X0.here hx rfl (hb hby at_14) ?_
        show Steps p.tables e below (s₁.setTop (mkF m 15 #[.val (.int p0), .val (.int p1), .val (.int p2), .val (.int p3), .val (.int p4), .val (.int p5), .val (.int v56), .unset, .unset, .unset, .unset, .unset] [(.int (1 : Int32)), (.int p1)])) _
        refine XS.iand X0.here hx rfl (hb hby at_15) rfl ?_
        refine joinS (B := s₁.setTop (mkF m 24 #[.val (.int p0), .val (.int p1), .val (.int p2), .val (.int p3), .val (.int p4), .val (.int p5), .val (.int v56), .unset, .unset, .unset, .unset, .unset] [(.int v58)])) (fun kt => ?_) ?_
        · by_cases hc57 : (p1 &&& (1 : Int32)) = (0 : Int32)
          · rw [show v58 = (0 : Int32) from by rw [hv58, if_pos hc57]] at kt
            show Steps p.tables e below (s₁.setTop (mkF m 16 #[.val (.int p0), .val (.int p1), .val (.int p2), .val (.int p3), .val (.int p4), .val (.int p5), .val (.int v56), .unset, .unset, .unset, .unset, .unset] [(.int (p1 &&& (1 : Int32)))])) _
            refine XS.ifYes X0.here hx rfl (pc0 := 16) (pc' := 23) rfl (hb hby at_16) rfl ((if0 _ _).trans (teq hc57).1) (by decide) (by decide) ?_
            show Steps p.tables e below (s₁.setTop (mkF m 23 #[.val (.int p0), .val (.int p1), .val (.int p2), .val (.int p3), .val (.int p4), .val (.int p5), .val (.int v56), .unset, .unset, .unset, .unset, .unset] [])) _
            refine XS.iconst X0.here hx rfl (hb hby at_23) ?_
            exact kt
          · rw [show v58 = (1 : Int32) from by rw [hv58, if_neg hc57]] at kt
            show Steps p.tables e below (s₁.setTop (mkF m 16 #[.val (.int p0), .val (.int p1), .val (.int p2), .val (.int p3), .val (.int p4), .val (.int p5), .val (.int v56), .unset, .unset, .unset, .unset, .unset] [(.int (p1 &&& (1 : Int32)))])) _
            refine XS.ifNo X0.here hx rfl (hb hby at_16) rfl ((if0 _ _).trans (feq hc57).1) ?_
            show Steps p.tables e below (s₁.setTop (mkF m 19 #[.val (.int p0), .val (.int p1), .val (.int p2), .val (.int p3), .val (.int p4), .val (.int p5), .val (.int v56), .unset, .unset, .unset, .unset, .unset] [])) _
            refine XS.iconst X0.here hx rfl (hb hby at_19) ?_
            show Steps p.tables e below (s₁.setTop (mkF m 20 #[.val (.int p0), .val (.int p1), .val (.int p2), .val (.int p3), .val (.int p4), .val (.int p5), .val (.int v56), .unset, .unset, .unset, .unset, .unset] [(.int (1 : Int32))])) _
            refine XS.goto X0.here hx rfl (pc0 := 20) (pc' := 24) rfl (hb hby at_20) (by decide) (by decide) ?_
            exact kt
        show Steps p.tables e below (s₁.setTop (mkF m 24 #[.val (.int p0), .val (.int p1), .val (.int p2), .val (.int p3), .val (.int p4), .val (.int p5), .val (.int v56), .unset, .unset, .unset, .unset, .unset] [(.int v58)])) _
        refine XS.istore X0.here hx rfl (hb hby at_24) rfl (l' := #[.val (.int p0), .val (.int p1), .val (.int p2), .val (.int p3), .val (.int p4), .val (.int p5), .val (.int v56), .val (.int v58), .unset, .unset, .unset, .unset]) rfl ?_
        show Steps p.tables e below (s₁.setTop (mkF m 26 #[.val (.int p0), .val (.int p1), .val (.int p2), .val (.int p3), .val (.int p4), .val (.int p5), .val (.int v56), .val (.int v58), .unset, .unset, .unset, .unset] [])) _
        refine XS.iloadN X0.here hx rfl (hb hby at_26) rfl ?_
        show Steps p.tables e below (s₁.setTop (mkF m 27 #[.val (.int p0), .val (.int p1), .val (.int p2), .val (.int p3), .val (.int p4), .val (.int p5), .val (.int v56), .val (.int v58), .unset, .unset, .unset, .unset] [(.int p1)])) _
        refine XS.iconst X0.here hx rfl (hb hby at_27) ?_
        show Steps p.tables e below (s₁.setTop (mkF m 28 #[.val (.int p0), .val (.int p1), .val (.int p2), .val (.int p3), .val (.int p4), .val (.int p5), .val (.int v56), .val (.int v58), .unset, .unset, .unset, .unset] [(.int (1 : Int32)), (.int p1)])) _
        refine XS.iushr X0.here hx rfl (hb hby at_28) rfl ?_
        show Steps p.tables e below (s₁.setTop (mkF m 29 #[.val (.int p0), .val (.int p1), .val (.int p2), .val (.int p3), .val (.int p4), .val (.int p5), .val (.int v56), .val (.int v58), .unset, .unset, .unset, .unset] [(.int ((p1.toUInt32 >>> ((1 : Int32) &&& 31).toUInt32).toInt32))])) _
        refine XS.iconst X0.here hx rfl (hb hby at_29) ?_
        show Steps p.tables e below (s₁.setTop (mkF m 30 #[.val (.int p0), .val (.int p1), .val (.int p2), .val (.int p3), .val (.int p4), .val (.int p5), .val (.int v56), .val (.int v58), .unset, .unset, .unset, .unset] [(.int (3 : Int32)), (.int ((p1.toUInt32 >>> ((1 : Int32) &&& 31).toUInt32).toInt32))])) _
        refine XS.irem X0.here hx rfl (hb hby at_30) rfl (by decide) ?_
        show Steps p.tables e below (s₁.setTop (mkF m 31 #[.val (.int p0), .val (.int p1), .val (.int p2), .val (.int p3), .val (.int p4), .val (.int p5), .val (.int v56), .val (.int v58), .unset, .unset, .unset, .unset] [(.int (((p1.toUInt32 >>> ((1 : Int32) &&& 31).toUInt32).toInt32) - ((p1.toUInt32 >>> ((1 : Int32) &&& 31).toUInt32).toInt32) / (3 : Int32) * (3 : Int32)))])) _
        refine XS.istore X0.here hx rfl (hb hby at_31) rfl (l' := #[.val (.int p0), .val (.int p1), .val (.int p2), .val (.int p3), .val (.int p4), .val (.int p5), .val (.int v56), .val (.int v58), .val (.int (((p1.toUInt32 >>> ((1 : Int32) &&& 31).toUInt32).toInt32) - ((p1.toUInt32 >>> ((1 : Int32) &&& 31).toUInt32).toInt32) / (3 : Int32) * (3 : Int32))), .unset, .unset, .unset]) rfl ?_
        show Steps p.tables e below (s₁.setTop (mkF m 33 #[.val (.int p0), .val (.int p1), .val (.int p2), .val (.int p3), .val (.int p4), .val (.int p5), .val (.int v56), .val (.int v58), .val (.int (((p1.toUInt32 >>> ((1 : Int32) &&& 31).toUInt32).toInt32) - ((p1.toUInt32 >>> ((1 : Int32) &&& 31).toUInt32).toInt32) / (3 : Int32) * (3 : Int32))), .unset, .unset, .unset] [])) _
        refine st59 _ ?_
        show Steps p.tables e below (T59.setTop (mkF m 36 #[.val (.int p0), .val (.int p1), .val (.int p2), .val (.int p3), .val (.int p4), .val (.int p5), .val (.int v56), .val (.int v58), .val (.int (((p1.toUInt32 >>> ((1 : Int32) &&& 31).toUInt32).toInt32) - ((p1.toUInt32 >>> ((1 : Int32) &&& 31).toUInt32).toInt32) / (3 : Int32) * (3 : Int32))), .unset, .unset, .unset] [(.ref b59)])) _
        refine XS.dup X59.here hx rfl (hb hby at_36) rfl rfl ?_
        show Steps p.tables e below (T59.setTop (mkF m 37 #[.val (.int p0), .val (.int p1), .val (.int p2), .val (.int p3), .val (.int p4), .val (.int p5), .val (.int v56), .val (.int v58), .val (.int (((p1.toUInt32 >>> ((1 : Int32) &&& 31).toUInt32).toInt32) - ((p1.toUInt32 >>> ((1 : Int32) &&& 31).toUInt32).toInt32) / (3 : Int32) * (3 : Int32))), .unset, .unset, .unset] [(.ref b59), (.ref b59)])) _
        refine XS.iload X59.here hx rfl (hb hby at_37) rfl ?_
        show Steps p.tables e below (T59.setTop (mkF m 39 #[.val (.int p0), .val (.int p1), .val (.int p2), .val (.int p3), .val (.int p4), .val (.int p5), .val (.int v56), .val (.int v58), .val (.int (((p1.toUInt32 >>> ((1 : Int32) &&& 31).toUInt32).toInt32) - ((p1.toUInt32 >>> ((1 : Int32) &&& 31).toUInt32).toInt32) / (3 : Int32) * (3 : Int32))), .unset, .unset, .unset] [(.int v56), (.ref b59), (.ref b59)])) _
        refine XS.iloadN X59.here hx rfl (hb hby at_39) rfl ?_
        show Steps p.tables e below (T59.setTop (mkF m 40 #[.val (.int p0), .val (.int p1), .val (.int p2), .val (.int p3), .val (.int p4), .val (.int p5), .val (.int v56), .val (.int v58), .val (.int (((p1.toUInt32 >>> ((1 : Int32) &&& 31).toUInt32).toInt32) - ((p1.toUInt32 >>> ((1 : Int32) &&& 31).toUInt32).toInt32) / (3 : Int32) * (3 : Int32))), .unset, .unset, .unset] [(.int p2), (.int v56), (.ref b59), (.ref b59)])) _
        refine XS.iloadN X59.here hx rfl (hb hby at_40) rfl ?_
        show Steps p.tables e below (T59.setTop (mkF m 41 #[.val (.int p0), .val (.int p1), .val (.int p2), .val (.int p3), .val (.int p4), .val (.int p5), .val (.int v56), .val (.int v58), .val (.int (((p1.toUInt32 >>> ((1 : Int32) &&& 31).toUInt32).toInt32) - ((p1.toUInt32 >>> ((1 : Int32) &&& 31).toUInt32).toInt32) / (3 : Int32) * (3 : Int32))), .unset, .unset, .unset] [(.int p3), (.int p2), (.int v56), (.ref b59), (.ref b59)])) _
        refine st65.trans ?_
        show Steps p.tables e below (T65.setTop (mkF m 44 #[.val (.int p0), .val (.int p1), .val (.int p2), .val (.int p3), .val (.int p4), .val (.int p5), .val (.int v56), .val (.int v58), .val (.int (((p1.toUInt32 >>> ((1 : Int32) &&& 31).toUInt32).toInt32) - ((p1.toUInt32 >>> ((1 : Int32) &&& 31).toUInt32).toInt32) / (3 : Int32) * (3 : Int32))), .unset, .unset, .unset] [(.ref b59)])) _
        refine XS.astore X65.here hx rfl (hb hby at_44) rfl rfl (l' := #[.val (.int p0), .val (.int p1), .val (.int p2), .val (.int p3), .val (.int p4), .val (.int p5), .val (.int v56), .val (.int v58), .val (.int (((p1.toUInt32 >>> ((1 : Int32) &&& 31).toUInt32).toInt32) - ((p1.toUInt32 >>> ((1 : Int32) &&& 31).toUInt32).toInt32) / (3 : Int32) * (3 : Int32))), .val (.ref b59), .unset, .unset]) rfl ?_
        show Steps p.tables e below (T65.setTop (mkF m 46 #[.val (.int p0), .val (.int p1), .val (.int p2), .val (.int p3), .val (.int p4), .val (.int p5), .val (.int v56), .val (.int v58), .val (.int (((p1.toUInt32 >>> ((1 : Int32) &&& 31).toUInt32).toInt32) - ((p1.toUInt32 >>> ((1 : Int32) &&& 31).toUInt32).toInt32) / (3 : Int32) * (3 : Int32))), .val (.ref b59), .unset, .unset] [])) _
        refine XS.iload X65.here hx rfl (hb hby at_46) rfl ?_
        show Steps p.tables e below (T65.setTop (mkF m 48 #[.val (.int p0), .val (.int p1), .val (.int p2), .val (.int p3), .val (.int p4), .val (.int p5), .val (.int v56), .val (.int v58), .val (.int (((p1.toUInt32 >>> ((1 : Int32) &&& 31).toUInt32).toInt32) - ((p1.toUInt32 >>> ((1 : Int32) &&& 31).toUInt32).toInt32) / (3 : Int32) * (3 : Int32))), .val (.ref b59), .unset, .unset] [(.int (((p1.toUInt32 >>> ((1 : Int32) &&& 31).toUInt32).toInt32) - ((p1.toUInt32 >>> ((1 : Int32) &&& 31).toUInt32).toInt32) / (3 : Int32) * (3 : Int32)))])) _
        refine XS.ifYes X65.here hx rfl (pc0 := 48) (pc' := 69) rfl (hb hby at_48) rfl ((if0 _ _).trans (feq hk0).2) (by decide) (by decide) ?_
        show Steps p.tables e below (T65.setTop (mkF m 69 #[.val (.int p0), .val (.int p1), .val (.int p2), .val (.int p3), .val (.int p4), .val (.int p5), .val (.int v56), .val (.int v58), .val (.int (((p1.toUInt32 >>> ((1 : Int32) &&& 31).toUInt32).toInt32) - ((p1.toUInt32 >>> ((1 : Int32) &&& 31).toUInt32).toInt32) / (3 : Int32) * (3 : Int32))), .val (.ref b59), .unset, .unset] [])) _
        refine XS.iload X65.here hx rfl (hb hby at_69) rfl ?_
        show Steps p.tables e below (T65.setTop (mkF m 71 #[.val (.int p0), .val (.int p1), .val (.int p2), .val (.int p3), .val (.int p4), .val (.int p5), .val (.int v56), .val (.int v58), .val (.int (((p1.toUInt32 >>> ((1 : Int32) &&& 31).toUInt32).toInt32) - ((p1.toUInt32 >>> ((1 : Int32) &&& 31).toUInt32).toInt32) / (3 : Int32) * (3 : Int32))), .val (.ref b59), .unset, .unset] [(.int (((p1.toUInt32 >>> ((1 : Int32) &&& 31).toUInt32).toInt32) - ((p1.toUInt32 >>> ((1 : Int32) &&& 31).toUInt32).toInt32) / (3 : Int32) * (3 : Int32)))])) _
        refine XS.iconst X65.here hx rfl (hb hby at_71) ?_
        show Steps p.tables e below (T65.setTop (mkF m 72 #[.val (.int p0), .val (.int p1), .val (.int p2), .val (.int p3), .val (.int p4), .val (.int p5), .val (.int v56), .val (.int v58), .val (.int (((p1.toUInt32 >>> ((1 : Int32) &&& 31).toUInt32).toInt32) - ((p1.toUInt32 >>> ((1 : Int32) &&& 31).toUInt32).toInt32) / (3 : Int32) * (3 : Int32))), .val (.ref b59), .unset, .unset] [(.int (1 : Int32)), (.int (((p1.toUInt32 >>> ((1 : Int32) &&& 31).toUInt32).toInt32) - ((p1.toUInt32 >>> ((1 : Int32) &&& 31).toUInt32).toInt32) / (3 : Int32) * (3 : Int32)))])) _
        refine XS.icmpNo X65.here hx rfl (hb hby at_72) rfl (teq hk1).2 ?_
        show Steps p.tables e below (T65.setTop (mkF m 75 #[.val (.int p0), .val (.int p1), .val (.int p2), .val (.int p3), .val (.int p4), .val (.int p5), .val (.int v56), .val (.int v58), .val (.int (((p1.toUInt32 >>> ((1 : Int32) &&& 31).toUInt32).toInt32) - ((p1.toUInt32 >>> ((1 : Int32) &&& 31).toUInt32).toInt32) / (3 : Int32) * (3 : Int32))), .val (.ref b59), .unset, .unset] [])) _
        refine st90 _ ?_
        show Steps p.tables e below (T90.setTop (mkF m 78 #[.val (.int p0), .val (.int p1), .val (.int p2), .val (.int p3), .val (.int p4), .val (.int p5), .val (.int v56), .val (.int v58), .val (.int (((p1.toUInt32 >>> ((1 : Int32) &&& 31).toUInt32).toInt32) - ((p1.toUInt32 >>> ((1 : Int32) &&& 31).toUInt32).toInt32) / (3 : Int32) * (3 : Int32))), .val (.ref b59), .unset, .unset] [(.ref b90)])) _
        refine XS.dup X90.here hx rfl (hb hby at_78) rfl rfl ?_
        show Steps p.tables e below (T90.setTop (mkF m 79 #[.val (.int p0), .val (.int p1), .val (.int p2), .val (.int p3), .val (.int p4), .val (.int p5), .val (.int v56), .val (.int v58), .val (.int (((p1.toUInt32 >>> ((1 : Int32) &&& 31).toUInt32).toInt32) - ((p1.toUInt32 >>> ((1 : Int32) &&& 31).toUInt32).toInt32) / (3 : Int32) * (3 : Int32))), .val (.ref b59), .unset, .unset] [(.ref b90), (.ref b90)])) _
        refine XS.iload X90.here hx rfl (hb hby at_79) rfl ?_
        show Steps p.tables e below (T90.setTop (mkF m 81 #[.val (.int p0), .val (.int p1), .val (.int p2), .val (.int p3), .val (.int p4), .val (.int p5), .val (.int v56), .val (.int v58), .val (.int (((p1.toUInt32 >>> ((1 : Int32) &&& 31).toUInt32).toInt32) - ((p1.toUInt32 >>> ((1 : Int32) &&& 31).toUInt32).toInt32) / (3 : Int32) * (3 : Int32))), .val (.ref b59), .unset, .unset] [(.int p4), (.ref b90), (.ref b90)])) _
        refine XS.iload X90.here hx rfl (hb hby at_81) rfl ?_
        show Steps p.tables e below (T90.setTop (mkF m 83 #[.val (.int p0), .val (.int p1), .val (.int p2), .val (.int p3), .val (.int p4), .val (.int p5), .val (.int v56), .val (.int v58), .val (.int (((p1.toUInt32 >>> ((1 : Int32) &&& 31).toUInt32).toInt32) - ((p1.toUInt32 >>> ((1 : Int32) &&& 31).toUInt32).toInt32) / (3 : Int32) * (3 : Int32))), .val (.ref b59), .unset, .unset] [(.int p5), (.int p4), (.ref b90), (.ref b90)])) _
        refine st98.trans ?_
        show Steps p.tables e below (T98.setTop (mkF m 86 #[.val (.int p0), .val (.int p1), .val (.int p2), .val (.int p3), .val (.int p4), .val (.int p5), .val (.int v56), .val (.int v58), .val (.int (((p1.toUInt32 >>> ((1 : Int32) &&& 31).toUInt32).toInt32) - ((p1.toUInt32 >>> ((1 : Int32) &&& 31).toUInt32).toInt32) / (3 : Int32) * (3 : Int32))), .val (.ref b59), .unset, .unset] [(.ref b90)])) _
        refine XS.astore X98.here hx rfl (hb hby at_86) rfl rfl (l' := #[.val (.int p0), .val (.int p1), .val (.int p2), .val (.int p3), .val (.int p4), .val (.int p5), .val (.int v56), .val (.int v58), .val (.int (((p1.toUInt32 >>> ((1 : Int32) &&& 31).toUInt32).toInt32) - ((p1.toUInt32 >>> ((1 : Int32) &&& 31).toUInt32).toInt32) / (3 : Int32) * (3 : Int32))), .val (.ref b59), .val (.ref b90), .unset]) rfl ?_
        show Steps p.tables e below (T98.setTop (mkF m 88 #[.val (.int p0), .val (.int p1), .val (.int p2), .val (.int p3), .val (.int p4), .val (.int p5), .val (.int v56), .val (.int v58), .val (.int (((p1.toUInt32 >>> ((1 : Int32) &&& 31).toUInt32).toInt32) - ((p1.toUInt32 >>> ((1 : Int32) &&& 31).toUInt32).toInt32) / (3 : Int32) * (3 : Int32))), .val (.ref b59), .val (.ref b90), .unset] [])) _
        refine XS.goto X98.here hx rfl (pc0 := 88) (pc' := 94) rfl (hb hby at_88) (by decide) (by decide) ?_
        show Steps p.tables e below (T98.setTop (mkF m 94 #[.val (.int p0), .val (.int p1), .val (.int p2), .val (.int p3), .val (.int p4), .val (.int p5), .val (.int v56), .val (.int v58), .val (.int (((p1.toUInt32 >>> ((1 : Int32) &&& 31).toUInt32).toInt32) - ((p1.toUInt32 >>> ((1 : Int32) &&& 31).toUInt32).toInt32) / (3 : Int32) * (3 : Int32))), .val (.ref b59), .val (.ref b90), .unset] [])) _
        refine XS.iload X98.here hx rfl (hb hby at_94) rfl ?_
        show Steps p.tables e below (T98.setTop (mkF m 96 #[.val (.int p0), .val (.int p1), .val (.int p2), .val (.int p3), .val (.int p4), .val (.int p5), .val (.int v56), .val (.int v58), .val (.int (((p1.toUInt32 >>> ((1 : Int32) &&& 31).toUInt32).toInt32) - ((p1.toUInt32 >>> ((1 : Int32) &&& 31).toUInt32).toInt32) / (3 : Int32) * (3 : Int32))), .val (.ref b59), .val (.ref b90), .unset] [(.int (((p1.toUInt32 >>> ((1 : Int32) &&& 31).toUInt32).toInt32) - ((p1.toUInt32 >>> ((1 : Int32) &&& 31).toUInt32).toInt32) / (3 : Int32) * (3 : Int32)))])) _
        refine XS.ifYes X98.here hx rfl (pc0 := 96) (pc' := 110) rfl (hb hby at_96) rfl ((if0 _ _).trans (feq hk0).2) (by decide) (by decide) ?_
        show Steps p.tables e below (T98.setTop (mkF m 110 #[.val (.int p0), .val (.int p1), .val (.int p2), .val (.int p3), .val (.int p4), .val (.int p5), .val (.int v56), .val (.int v58), .val (.int (((p1.toUInt32 >>> ((1 : Int32) &&& 31).toUInt32).toInt32) - ((p1.toUInt32 >>> ((1 : Int32) &&& 31).toUInt32).toInt32) / (3 : Int32) * (3 : Int32))), .val (.ref b59), .val (.ref b90), .unset] [])) _
        refine XS.iconst X98.here hx rfl (hb hby at_110) ?_
        show Steps p.tables e below (T98.setTop (mkF m 111 #[.val (.int p0), .val (.int p1), .val (.int p2), .val (.int p3), .val (.int p4), .val (.int p5), .val (.int v56), .val (.int v58), .val (.int (((p1.toUInt32 >>> ((1 : Int32) &&& 31).toUInt32).toInt32) - ((p1.toUInt32 >>> ((1 : Int32) &&& 31).toUInt32).toInt32) / (3 : Int32) * (3 : Int32))), .val (.ref b59), .val (.ref b90), .unset] [(.int (0 : Int32))])) _
        refine XS.istore X98.here hx rfl (hb hby at_111) rfl (l' := #[.val (.int p0), .val (.int p1), .val (.int p2), .val (.int p3), .val (.int p4), .val (.int p5), .val (.int v56), .val (.int v58), .val (.int (((p1.toUInt32 >>> ((1 : Int32) &&& 31).toUInt32).toInt32) - ((p1.toUInt32 >>> ((1 : Int32) &&& 31).toUInt32).toInt32) / (3 : Int32) * (3 : Int32))), .val (.ref b59), .val (.ref b90), .val (.int (0 : Int32))]) rfl ?_
        show Steps p.tables e below (T98.setTop (mkF m 113 #[.val (.int p0), .val (.int p1), .val (.int p2), .val (.int p3), .val (.int p4), .val (.int p5), .val (.int v56), .val (.int v58), .val (.int (((p1.toUInt32 >>> ((1 : Int32) &&& 31).toUInt32).toInt32) - ((p1.toUInt32 >>> ((1 : Int32) &&& 31).toUInt32).toInt32) / (3 : Int32) * (3 : Int32))), .val (.ref b59), .val (.ref b90), .val (.int (0 : Int32))] [])) _
        refine XS.aload X98.here hx rfl (hb hby at_113) rfl rfl ?_
        show Steps p.tables e below (T98.setTop (mkF m 115 #[.val (.int p0), .val (.int p1), .val (.int p2), .val (.int p3), .val (.int p4), .val (.int p5), .val (.int v56), .val (.int v58), .val (.int (((p1.toUInt32 >>> ((1 : Int32) &&& 31).toUInt32).toInt32) - ((p1.toUInt32 >>> ((1 : Int32) &&& 31).toUInt32).toInt32) / (3 : Int32) * (3 : Int32))), .val (.ref b59), .val (.ref b90), .val (.int (0 : Int32))] [(.ref b59)])) _
        refine XS.aload X98.here hx rfl (hb hby at_115) rfl rfl ?_
        show Steps p.tables e below (T98.setTop (mkF m 117 #[.val (.int p0), .val (.int p1), .val (.int p2), .val (.int p3), .val (.int p4), .val (.int p5), .val (.int v56), .val (.int v58), .val (.int (((p1.toUInt32 >>> ((1 : Int32) &&& 31).toUInt32).toInt32) - ((p1.toUInt32 >>> ((1 : Int32) &&& 31).toUInt32).toInt32) / (3 : Int32) * (3 : Int32))), .val (.ref b59), .val (.ref b90), .val (.int (0 : Int32))] [(.ref b90), (.ref b59)])) _
        refine st104.trans ?_
        show Steps p.tables e below (T104.setTop (mkF m 120 #[.val (.int p0), .val (.int p1), .val (.int p2), .val (.int p3), .val (.int p4), .val (.int p5), .val (.int v56), .val (.int v58), .val (.int (((p1.toUInt32 >>> ((1 : Int32) &&& 31).toUInt32).toInt32) - ((p1.toUInt32 >>> ((1 : Int32) &&& 31).toUInt32).toInt32) / (3 : Int32) * (3 : Int32))), .val (.ref b59), .val (.ref b90), .val (.int (0 : Int32))] [(.int (0 : Int32))])) _
        refine XS.iload X104.here hx rfl (hb hby at_120) rfl ?_
        show Steps p.tables e below (T104.setTop (mkF m 122 #[.val (.int p0), .val (.int p1), .val (.int p2), .val (.int p3), .val (.int p4), .val (.int p5), .val (.int v56), .val (.int v58), .val (.int (((p1.toUInt32 >>> ((1 : Int32) &&& 31).toUInt32).toInt32) - ((p1.toUInt32 >>> ((1 : Int32) &&& 31).toUInt32).toInt32) / (3 : Int32) * (3 : Int32))), .val (.ref b59), .val (.ref b90), .val (.int (0 : Int32))] [(.int (0 : Int32)), (.int (0 : Int32))])) _
        refine XS.icmpNo X104.here hx rfl (hb hby at_122) rfl (teq rfl).2 ?_
        show Steps p.tables e below (T104.setTop (mkF m 125 #[.val (.int p0), .val (.int p1), .val (.int p2), .val (.int p3), .val (.int p4), .val (.int p5), .val (.int v56), .val (.int v58), .val (.int (((p1.toUInt32 >>> ((1 : Int32) &&& 31).toUInt32).toInt32) - ((p1.toUInt32 >>> ((1 : Int32) &&& 31).toUInt32).toInt32) / (3 : Int32) * (3 : Int32))), .val (.ref b59), .val (.ref b90), .val (.int (0 : Int32))] [])) _
        refine XS.aload X104.here hx rfl (hb hby at_125) rfl rfl ?_
        show Steps p.tables e below (T104.setTop (mkF m 127 #[.val (.int p0), .val (.int p1), .val (.int p2), .val (.int p3), .val (.int p4), .val (.int p5), .val (.int v56), .val (.int v58), .val (.int (((p1.toUInt32 >>> ((1 : Int32) &&& 31).toUInt32).toInt32) - ((p1.toUInt32 >>> ((1 : Int32) &&& 31).toUInt32).toInt32) / (3 : Int32) * (3 : Int32))), .val (.ref b59), .val (.ref b90), .val (.int (0 : Int32))] [(.ref b59)])) _
        refine XS.aload X104.here hx rfl (hb hby at_127) rfl rfl ?_
        show Steps p.tables e below (T104.setTop (mkF m 129 #[.val (.int p0), .val (.int p1), .val (.int p2), .val (.int p3), .val (.int p4), .val (.int p5), .val (.int v56), .val (.int v58), .val (.int (((p1.toUInt32 >>> ((1 : Int32) &&& 31).toUInt32).toInt32) - ((p1.toUInt32 >>> ((1 : Int32) &&& 31).toUInt32).toInt32) / (3 : Int32) * (3 : Int32))), .val (.ref b59), .val (.ref b90), .val (.int (0 : Int32))] [(.ref b59), (.ref b59)])) _
        refine st106.trans ?_
        show Steps p.tables e below (T106.setTop (mkF m 132 #[.val (.int p0), .val (.int p1), .val (.int p2), .val (.int p3), .val (.int p4), .val (.int p5), .val (.int v56), .val (.int v58), .val (.int (((p1.toUInt32 >>> ((1 : Int32) &&& 31).toUInt32).toInt32) - ((p1.toUInt32 >>> ((1 : Int32) &&& 31).toUInt32).toInt32) / (3 : Int32) * (3 : Int32))), .val (.ref b59), .val (.ref b90), .val (.int (0 : Int32))] [(.int (if nar .boolean v56 = nar .boolean v56 then (1 : Int32) else (0 : Int32)))])) _
        refine XS.ifNo X106.here hx rfl (hb hby at_132) rfl ((if0 _ _).trans (feq (by rw [if_pos rfl]; decide)).1) ?_
        show Steps p.tables e below (T106.setTop (mkF m 135 #[.val (.int p0), .val (.int p1), .val (.int p2), .val (.int p3), .val (.int p4), .val (.int p5), .val (.int v56), .val (.int v58), .val (.int (((p1.toUInt32 >>> ((1 : Int32) &&& 31).toUInt32).toInt32) - ((p1.toUInt32 >>> ((1 : Int32) &&& 31).toUInt32).toInt32) / (3 : Int32) * (3 : Int32))), .val (.ref b59), .val (.ref b90), .val (.int (0 : Int32))] [])) _
        refine XS.iconst X106.here hx rfl (hb hby at_135) ?_
        show Steps p.tables e below (T106.setTop (mkF m 136 #[.val (.int p0), .val (.int p1), .val (.int p2), .val (.int p3), .val (.int p4), .val (.int p5), .val (.int v56), .val (.int v58), .val (.int (((p1.toUInt32 >>> ((1 : Int32) &&& 31).toUInt32).toInt32) - ((p1.toUInt32 >>> ((1 : Int32) &&& 31).toUInt32).toInt32) / (3 : Int32) * (3 : Int32))), .val (.ref b59), .val (.ref b90), .val (.int (0 : Int32))] [(.int (1 : Int32))])) _
        refine XS.goto X106.here hx rfl (pc0 := 136) (pc' := 140) rfl (hb hby at_136) (by decide) (by decide) ?_
        show Steps p.tables e below (T106.setTop (mkF m 140 #[.val (.int p0), .val (.int p1), .val (.int p2), .val (.int p3), .val (.int p4), .val (.int p5), .val (.int v56), .val (.int v58), .val (.int (((p1.toUInt32 >>> ((1 : Int32) &&& 31).toUInt32).toInt32) - ((p1.toUInt32 >>> ((1 : Int32) &&& 31).toUInt32).toInt32) / (3 : Int32) * (3 : Int32))), .val (.ref b59), .val (.ref b90), .val (.int (0 : Int32))] [(.int (1 : Int32))])) _
        exact retN X106 hx (t := .boolean) Bd.returns (by simp) (hb hby at_140) hr
      · show Qrm0 Z p0 p1 p2 p3 p4 p5 h0 n0 _ T106.heap _
        rw [e106]
        exact ⟨rfl, N107⟩
    · obtain ⟨cq108, kq108, q108a, q108b, q108c⟩ := isOf hZ rfl f67
      obtain ⟨_, _, ⟨T108, L108, k108, n108⟩, -, X108, ⟨Lc108, hQ108, l108, y108, z108⟩, st108⟩ := X65.virtualBack hx (y := (⟨"com/example/tenon/tenon/JsonValue$BooleanValue", "equals", "(Ljava/lang/Object;)Z"⟩ : MethodName)) (z := (⟨"com/example/tenon/tenon/JsonValue$BooleanValue", "equals", "(Ljava/lang/Object;)Z"⟩ : MethodName)) hown (mvT hZ (hw _ (List.mem_of_getElem? (i := 29) rfl))) (mvT hZ (hw _ (List.mem_of_getElem? (i := 30) rfl))) (notFace_of_selects (args := #[]) (mvT hZ (hw _ (List.mem_of_getElem? (i := 32) rfl)))) (mvT hZ (hw _ (List.mem_of_getElem? (i := 32) rfl))) (mvT hZ (hw _ (List.mem_of_getElem? (i := 31) rfl))) (by decide) (backOf (W := 0) (rm5z l Z a0 hw [] b59  T65.heap n0 Zn68 ) hZ (hw _ (List.mem_of_getElem? (i := 33) rfl)) (hw _ (List.mem_of_getElem? (i := 2) rfl)) (by decide) (by decide)) q108a q108c (g := (mkF m 117 #[.val (.int p0), .val (.int p1), .val (.int p2), .val (.int p3), .val (.int p4), .val (.int p5), .val (.int v56), .val (.int v58), .val (.int (((p1.toUInt32 >>> ((1 : Int32) &&& 31).toUInt32).toInt32) - ((p1.toUInt32 >>> ((1 : Int32) &&& 31).toUInt32).toInt32) / (3 : Int32) * (3 : Int32))), .val (.ref b59), .val .null, .val (.int (0 : Int32))] [.null, (.ref b59)])) rfl (by rw [hml]; rfl) (Steps.refl _) (argsL := [.null]) (rest := []) (lenOf pd__Ljava_lang_Object__Z rfl) rfl (by show 2 * 0 + _ ≤ _; exact Nat.le_of_eq rfl) (hb hby at_117) (fun _ _ => ⟨rfl, rfl, (by decide : 1 + 0 ≤ _), (by decide : 3 + 0 ≤ _)⟩)
      dsimp only [Pt.U, Pt.locs, Pt.cells, Pt.slots] at X108 l108 y108 z108 st108 hQ108
      subst l108 y108 z108
      obtain ⟨rfl, N108q, e108⟩ := hQ108
      have N109 := Fr.app N66 N108q
      obtain ⟨cq110, kq110, q110a, q110b, q110c⟩ := isOf hZ e108 f67
      obtain ⟨_, _, ⟨T110, L110, k110, n110⟩, -, X110, ⟨Lc110, hQ110, l110, y110, z110⟩, st110⟩ := X108.virtualBack hx (y := (⟨"com/example/tenon/tenon/JsonValue$BooleanValue", "equals", "(Ljava/lang/Object;)Z"⟩ : MethodName)) (z := (⟨"com/example/tenon/tenon/JsonValue$BooleanValue", "equals", "(Ljava/lang/Object;)Z"⟩ : MethodName)) hown (mvT hZ (hw _ (List.mem_of_getElem? (i := 29) rfl))) (mvT hZ (hw _ (List.mem_of_getElem? (i := 30) rfl))) (notFace_of_selects (args := #[]) (mvT hZ (hw _ (List.mem_of_getElem? (i := 32) rfl)))) (mvT hZ (hw _ (List.mem_of_getElem? (i := 32) rfl))) (mvT hZ (hw _ (List.mem_of_getElem? (i := 31) rfl))) (by decide) (backOf (W := 0) (rm5b l Z a0 hw [] b59 b59 (nar .boolean v56) (nar .boolean v56) T65.heap n0 Zn68 f67 Fv65 Fv65) hZ (hw _ (List.mem_of_getElem? (i := 33) rfl)) (hw _ (List.mem_of_getElem? (i := 2) rfl)) (by decide) (by decide)) q110a q110c (g := (mkF m 129 #[.val (.int p0), .val (.int p1), .val (.int p2), .val (.int p3), .val (.int p4), .val (.int p5), .val (.int v56), .val (.int v58), .val (.int (((p1.toUInt32 >>> ((1 : Int32) &&& 31).toUInt32).toInt32) - ((p1.toUInt32 >>> ((1 : Int32) &&& 31).toUInt32).toInt32) / (3 : Int32) * (3 : Int32))), .val (.ref b59), .val .null, .val (.int (0 : Int32))] [(.ref b59), (.ref b59)])) rfl (by rw [hml]; rfl) (Steps.refl _) (argsL := [(.ref b59)]) (rest := []) (lenOf pd__Ljava_lang_Object__Z rfl) rfl (by show 2 * 0 + _ ≤ _; exact Nat.le_of_eq rfl) (hb hby at_129) (fun _ _ => ⟨rfl, e108, (by decide : 1 + 0 ≤ _), (by decide : 3 + 0 ≤ _)⟩)
      dsimp only [Pt.U, Pt.locs, Pt.cells, Pt.slots] at X110 l110 y110 z110 st110 hQ110
      subst l110 y110 z110
      obtain ⟨rfl, N110q, e110⟩ := hQ110
      have N111 := Fr.app N109 N110q
      obtain ⟨fs, hr, hrun, hended, hW, hsame⟩ := X110.leave (v := some (.int (1 : Int32))) (fun h => by rw [Bd.returns] at h; cases h)
      refine ⟨_, _, pre0 _ ?_, hrun, hended, _, _, rfl, ?_, ⟨_, rfl⟩, hW, hsame.mono (by decide) (by decide)⟩
      · show Steps p.tables e below (s₁.setTop (mkF m 0 #[.val (.int p0), .val (.int p1), .val (.int p2), .val (.int p3), .val (.int p4), .val (.int p5), .unset, .unset, .unset, .unset, .unset, .unset] [])) _
        refine XS.iloadN X0.here hx rfl (hb hby at_0) rfl ?_
        show Steps p.tables e below (s₁.setTop (mkF m 1 #[.val (.int p0), .val (.int p1), .val (.int p2), .val (.int p3), .val (.int p4), .val (.int p5), .unset, .unset, .unset, .unset, .unset, .unset] [(.int p0)])) _
        refine XS.iconst X0.here hx rfl (hb hby at_1) ?_
        show Steps p.tables e below (s₁.setTop (mkF m 2 #[.val (.int p0), .val (.int p1), .val (.int p2), .val (.int p3), .val (.int p4), .val (.int p5), .unset, .unset, .unset, .unset, .unset, .unset] [(.int (1 : Int32)), (.int p0)])) _
        refine XS.iand X0.here hx rfl (hb hby at_2) rfl ?_
        refine joinS (B := s₁.setTop (mkF m 11 #[.val (.int p0), .val (.int p1), .val (.int p2), .val (.int p3), .val (.int p4), .val (.int p5), .unset, .unset, .unset, .unset, .unset, .unset] [(.int v56)])) (fun kt => ?_) ?_
        · by_cases hc55 : (p0 &&& (1 : Int32)) = (0 : Int32)
          · rw [show v56 = (0 : Int32) from by rw [hv56, if_pos hc55]] at kt
            show Steps p.tables e below (s₁.setTop (mkF m 3 #[.val (.int p0), .val (.int p1), .val (.int p2), .val (.int p3), .val (.int p4), .val (.int p5), .unset, .unset, .unset, .unset, .unset, .unset] [(.int (p0 &&& (1 : Int32)))])) _
            refine XS.ifYes X0.here hx rfl (pc0 := 3) (pc' := 10) rfl (hb hby at_3) rfl ((if0 _ _).trans (teq hc55).1) (by decide) (by decide) ?_
            show Steps p.tables e below (s₁.setTop (mkF m 10 #[.val (.int p0), .val (.int p1), .val (.int p2), .val (.int p3), .val (.int p4), .val (.int p5), .unset, .unset, .unset, .unset, .unset, .unset] [])) _
            refine XS.iconst X0.here hx rfl (hb hby at_10) ?_
            exact kt
          · rw [show v56 = (1 : Int32) from by rw [hv56, if_neg hc55]] at kt
            show Steps p.tables e below (s₁.setTop (mkF m 3 #[.val (.int p0), .val (.int p1), .val (.int p2), .val (.int p3), .val (.int p4), .val (.int p5), .unset, .unset, .unset, .unset, .unset, .unset] [(.int (p0 &&& (1 : Int32)))])) _
            refine XS.ifNo X0.here hx rfl (hb hby at_3) rfl ((if0 _ _).trans (feq hc55).1) ?_
            show Steps p.tables e below (s₁.setTop (mkF m 6 #[.val (.int p0), .val (.int p1), .val (.int p2), .val (.int p3), .val (.int p4), .val (.int p5), .unset, .unset, .unset, .unset, .unset, .unset] [])) _
            refine XS.iconst X0.here hx rfl (hb hby at_6) ?_
            show Steps p.tables e below (s₁.setTop (mkF m 7 #[.val (.int p0), .val (.int p1), .val (.int p2), .val (.int p3), .val (.int p4), .val (.int p5), .unset, .unset, .unset, .unset, .unset, .unset] [(.int (1 : Int32))])) _
            refine XS.goto X0.here hx rfl (pc0 := 7) (pc' := 11) rfl (hb hby at_7) (by decide) (by decide) ?_
            exact kt
        show Steps p.tables e below (s₁.setTop (mkF m 11 #[.val (.int p0), .val (.int p1), .val (.int p2), .val (.int p3), .val (.int p4), .val (.int p5), .unset, .unset, .unset, .unset, .unset, .unset] [(.int v56)])) _
        refine XS.istore X0.here hx rfl (hb hby at_11) rfl (l' := #[.val (.int p0), .val (.int p1), .val (.int p2), .val (.int p3), .val (.int p4), .val (.int p5), .val (.int v56), .unset, .unset, .unset, .unset, .unset]) rfl ?_
        show Steps p.tables e below (s₁.setTop (mkF m 13 #[.val (.int p0), .val (.int p1), .val (.int p2), .val (.int p3), .val (.int p4), .val (.int p5), .val (.int v56), .unset, .unset, .unset, .unset, .unset] [])) _
        refine XS.iloadN X0.here hx rfl (hb hby at_13) rfl ?_
        show Steps p.tables e below (s₁.setTop (mkF m 14 #[.val (.int p0), .val (.int p1), .val (.int p2), .val (.int p3), .val (.int p4), .val (.int p5), .val (.int v56), .unset, .unset, .unset, .unset, .unset] [(.int p1)])) _
        refine XS.iconst X0.here hx rfl (hb hby at_14) ?_
        show Steps p.tables e below (s₁.setTop (mkF m 15 #[.val (.int p0), .val (.int p1), .val (.int p2), .val (.int p3), .val (.int p4), .val (.int p5), .val (.int v56), .unset, .unset, .unset, .unset, .unset] [(.int (1 : Int32)), (.int p1)])) _
        refine XS.iand X0.here hx rfl (hb hby at_15) rfl ?_
        refine joinS (B := s₁.setTop (mkF m 24 #[.val (.int p0), .val (.int p1), .val (.int p2), .val (.int p3), .val (.int p4), .val (.int p5), .val (.int v56), .unset, .unset, .unset, .unset, .unset] [(.int v58)])) (fun kt => ?_) ?_
        · by_cases hc57 : (p1 &&& (1 : Int32)) = (0 : Int32)
          · rw [show v58 = (0 : Int32) from by rw [hv58, if_pos hc57]] at kt
            show Steps p.tables e below (s₁.setTop (mkF m 16 #[.val (.int p0), .val (.int p1), .val (.int p2), .val (.int p3), .val (.int p4), .val (.int p5), .val (.int v56), .unset, .unset, .unset, .unset, .unset] [(.int (p1 &&& (1 : Int32)))])) _
            refine XS.ifYes X0.here hx rfl (pc0 := 16) (pc' := 23) rfl (hb hby at_16) rfl ((if0 _ _).trans (teq hc57).1) (by decide) (by decide) ?_
            show Steps p.tables e below (s₁.setTop (mkF m 23 #[.val (.int p0), .val (.int p1), .val (.int p2), .val (.int p3), .val (.int p4), .val (.int p5), .val (.int v56), .unset, .unset, .unset, .unset, .unset] [])) _
            refine XS.iconst X0.here hx rfl (hb hby at_23) ?_
            exact kt
          · rw [show v58 = (1 : Int32) from by rw [hv58, if_neg hc57]] at kt
            show Steps p.tables e below (s₁.setTop (mkF m 16 #[.val (.int p0), .val (.int p1), .val (.int p2), .val (.int p3), .val (.int p4), .val (.int p5), .val (.int v56), .unset, .unset, .unset, .unset, .unset] [(.int (p1 &&& (1 : Int32)))])) _
            refine XS.ifNo X0.here hx rfl (hb hby at_16) rfl ((if0 _ _).trans (feq hc57).1) ?_
            show Steps p.tables e below (s₁.setTop (mkF m 19 #[.val (.int p0), .val (.int p1), .val (.int p2), .val (.int p3), .val (.int p4), .val (.int p5), .val (.int v56), .unset, .unset, .unset, .unset, .unset] [])) _
            refine XS.iconst X0.here hx rfl (hb hby at_19) ?_
            show Steps p.tables e below (s₁.setTop (mkF m 20 #[.val (.int p0), .val (.int p1), .val (.int p2), .val (.int p3), .val (.int p4), .val (.int p5), .val (.int v56), .unset, .unset, .unset, .unset, .unset] [(.int (1 : Int32))])) _
            refine XS.goto X0.here hx rfl (pc0 := 20) (pc' := 24) rfl (hb hby at_20) (by decide) (by decide) ?_
            exact kt
        show Steps p.tables e below (s₁.setTop (mkF m 24 #[.val (.int p0), .val (.int p1), .val (.int p2), .val (.int p3), .val (.int p4), .val (.int p5), .val (.int v56), .unset, .unset, .unset, .unset, .unset] [(.int v58)])) _
        refine XS.istore X0.here hx rfl (hb hby at_24) rfl (l' := #[.val (.int p0), .val (.int p1), .val (.int p2), .val (.int p3), .val (.int p4), .val (.int p5), .val (.int v56), .val (.int v58), .unset, .unset, .unset, .unset]) rfl ?_
        show Steps p.tables e below (s₁.setTop (mkF m 26 #[.val (.int p0), .val (.int p1), .val (.int p2), .val (.int p3), .val (.int p4), .val (.int p5), .val (.int v56), .val (.int v58), .unset, .unset, .unset, .unset] [])) _
        refine XS.iloadN X0.here hx rfl (hb hby at_26) rfl ?_
        show Steps p.tables e below (s₁.setTop (mkF m 27 #[.val (.int p0), .val (.int p1), .val (.int p2), .val (.int p3), .val (.int p4), .val (.int p5), .val (.int v56), .val (.int v58), .unset, .unset, .unset, .unset] [(.int p1)])) _
        refine XS.iconst X0.here hx rfl (hb hby at_27) ?_
        show Steps p.tables e below (s₁.setTop (mkF m 28 #[.val (.int p0), .val (.int p1), .val (.int p2), .val (.int p3), .val (.int p4), .val (.int p5), .val (.int v56), .val (.int v58), .unset, .unset, .unset, .unset] [(.int (1 : Int32)), (.int p1)])) _
        refine XS.iushr X0.here hx rfl (hb hby at_28) rfl ?_
        show Steps p.tables e below (s₁.setTop (mkF m 29 #[.val (.int p0), .val (.int p1), .val (.int p2), .val (.int p3), .val (.int p4), .val (.int p5), .val (.int v56), .val (.int v58), .unset, .unset, .unset, .unset] [(.int ((p1.toUInt32 >>> ((1 : Int32) &&& 31).toUInt32).toInt32))])) _
        refine XS.iconst X0.here hx rfl (hb hby at_29) ?_
        show Steps p.tables e below (s₁.setTop (mkF m 30 #[.val (.int p0), .val (.int p1), .val (.int p2), .val (.int p3), .val (.int p4), .val (.int p5), .val (.int v56), .val (.int v58), .unset, .unset, .unset, .unset] [(.int (3 : Int32)), (.int ((p1.toUInt32 >>> ((1 : Int32) &&& 31).toUInt32).toInt32))])) _
        refine XS.irem X0.here hx rfl (hb hby at_30) rfl (by decide) ?_
        show Steps p.tables e below (s₁.setTop (mkF m 31 #[.val (.int p0), .val (.int p1), .val (.int p2), .val (.int p3), .val (.int p4), .val (.int p5), .val (.int v56), .val (.int v58), .unset, .unset, .unset, .unset] [(.int (((p1.toUInt32 >>> ((1 : Int32) &&& 31).toUInt32).toInt32) - ((p1.toUInt32 >>> ((1 : Int32) &&& 31).toUInt32).toInt32) / (3 : Int32) * (3 : Int32)))])) _
        refine XS.istore X0.here hx rfl (hb hby at_31) rfl (l' := #[.val (.int p0), .val (.int p1), .val (.int p2), .val (.int p3), .val (.int p4), .val (.int p5), .val (.int v56), .val (.int v58), .val (.int (((p1.toUInt32 >>> ((1 : Int32) &&& 31).toUInt32).toInt32) - ((p1.toUInt32 >>> ((1 : Int32) &&& 31).toUInt32).toInt32) / (3 : Int32) * (3 : Int32))), .unset, .unset, .unset]) rfl ?_
        show Steps p.tables e below (s₁.setTop (mkF m 33 #[.val (.int p0), .val (.int p1), .val (.int p2), .val (.int p3), .val (.int p4), .val (.int p5), .val (.int v56), .val (.int v58), .val (.int (((p1.toUInt32 >>> ((1 : Int32) &&& 31).toUInt32).toInt32) - ((p1.toUInt32 >>> ((1 : Int32) &&& 31).toUInt32).toInt32) / (3 : Int32) * (3 : Int32))), .unset, .unset, .unset] [])) _
        refine st59 _ ?_
        show Steps p.tables e below (T59.setTop (mkF m 36 #[.val (.int p0), .val (.int p1), .val (.int p2), .val (.int p3), .val (.int p4), .val (.int p5), .val (.int v56), .val (.int v58), .val (.int (((p1.toUInt32 >>> ((1 : Int32) &&& 31).toUInt32).toInt32) - ((p1.toUInt32 >>> ((1 : Int32) &&& 31).toUInt32).toInt32) / (3 : Int32) * (3 : Int32))), .unset, .unset, .unset] [(.ref b59)])) _
        refine XS.dup X59.here hx rfl (hb hby at_36) rfl rfl ?_
        show Steps p.tables e below (T59.setTop (mkF m 37 #[.val (.int p0), .val (.int p1), .val (.int p2), .val (.int p3), .val (.int p4), .val (.int p5), .val (.int v56), .val (.int v58), .val (.int (((p1.toUInt32 >>> ((1 : Int32) &&& 31).toUInt32).toInt32) - ((p1.toUInt32 >>> ((1 : Int32) &&& 31).toUInt32).toInt32) / (3 : Int32) * (3 : Int32))), .unset, .unset, .unset] [(.ref b59), (.ref b59)])) _
        refine XS.iload X59.here hx rfl (hb hby at_37) rfl ?_
        show Steps p.tables e below (T59.setTop (mkF m 39 #[.val (.int p0), .val (.int p1), .val (.int p2), .val (.int p3), .val (.int p4), .val (.int p5), .val (.int v56), .val (.int v58), .val (.int (((p1.toUInt32 >>> ((1 : Int32) &&& 31).toUInt32).toInt32) - ((p1.toUInt32 >>> ((1 : Int32) &&& 31).toUInt32).toInt32) / (3 : Int32) * (3 : Int32))), .unset, .unset, .unset] [(.int v56), (.ref b59), (.ref b59)])) _
        refine XS.iloadN X59.here hx rfl (hb hby at_39) rfl ?_
        show Steps p.tables e below (T59.setTop (mkF m 40 #[.val (.int p0), .val (.int p1), .val (.int p2), .val (.int p3), .val (.int p4), .val (.int p5), .val (.int v56), .val (.int v58), .val (.int (((p1.toUInt32 >>> ((1 : Int32) &&& 31).toUInt32).toInt32) - ((p1.toUInt32 >>> ((1 : Int32) &&& 31).toUInt32).toInt32) / (3 : Int32) * (3 : Int32))), .unset, .unset, .unset] [(.int p2), (.int v56), (.ref b59), (.ref b59)])) _
        refine XS.iloadN X59.here hx rfl (hb hby at_40) rfl ?_
        show Steps p.tables e below (T59.setTop (mkF m 41 #[.val (.int p0), .val (.int p1), .val (.int p2), .val (.int p3), .val (.int p4), .val (.int p5), .val (.int v56), .val (.int v58), .val (.int (((p1.toUInt32 >>> ((1 : Int32) &&& 31).toUInt32).toInt32) - ((p1.toUInt32 >>> ((1 : Int32) &&& 31).toUInt32).toInt32) / (3 : Int32) * (3 : Int32))), .unset, .unset, .unset] [(.int p3), (.int p2), (.int v56), (.ref b59), (.ref b59)])) _
        refine st65.trans ?_
        show Steps p.tables e below (T65.setTop (mkF m 44 #[.val (.int p0), .val (.int p1), .val (.int p2), .val (.int p3), .val (.int p4), .val (.int p5), .val (.int v56), .val (.int v58), .val (.int (((p1.toUInt32 >>> ((1 : Int32) &&& 31).toUInt32).toInt32) - ((p1.toUInt32 >>> ((1 : Int32) &&& 31).toUInt32).toInt32) / (3 : Int32) * (3 : Int32))), .unset, .unset, .unset] [(.ref b59)])) _
        refine XS.astore X65.here hx rfl (hb hby at_44) rfl rfl (l' := #[.val (.int p0), .val (.int p1), .val (.int p2), .val (.int p3), .val (.int p4), .val (.int p5), .val (.int v56), .val (.int v58), .val (.int (((p1.toUInt32 >>> ((1 : Int32) &&& 31).toUInt32).toInt32) - ((p1.toUInt32 >>> ((1 : Int32) &&& 31).toUInt32).toInt32) / (3 : Int32) * (3 : Int32))), .val (.ref b59), .unset, .unset]) rfl ?_
        show Steps p.tables e below (T65.setTop (mkF m 46 #[.val (.int p0), .val (.int p1), .val (.int p2), .val (.int p3), .val (.int p4), .val (.int p5), .val (.int v56), .val (.int v58), .val (.int (((p1.toUInt32 >>> ((1 : Int32) &&& 31).toUInt32).toInt32) - ((p1.toUInt32 >>> ((1 : Int32) &&& 31).toUInt32).toInt32) / (3 : Int32) * (3 : Int32))), .val (.ref b59), .unset, .unset] [])) _
        refine XS.iload X65.here hx rfl (hb hby at_46) rfl ?_
        show Steps p.tables e below (T65.setTop (mkF m 48 #[.val (.int p0), .val (.int p1), .val (.int p2), .val (.int p3), .val (.int p4), .val (.int p5), .val (.int v56), .val (.int v58), .val (.int (((p1.toUInt32 >>> ((1 : Int32) &&& 31).toUInt32).toInt32) - ((p1.toUInt32 >>> ((1 : Int32) &&& 31).toUInt32).toInt32) / (3 : Int32) * (3 : Int32))), .val (.ref b59), .unset, .unset] [(.int (((p1.toUInt32 >>> ((1 : Int32) &&& 31).toUInt32).toInt32) - ((p1.toUInt32 >>> ((1 : Int32) &&& 31).toUInt32).toInt32) / (3 : Int32) * (3 : Int32)))])) _
        refine XS.ifYes X65.here hx rfl (pc0 := 48) (pc' := 69) rfl (hb hby at_48) rfl ((if0 _ _).trans (feq hk0).2) (by decide) (by decide) ?_
        show Steps p.tables e below (T65.setTop (mkF m 69 #[.val (.int p0), .val (.int p1), .val (.int p2), .val (.int p3), .val (.int p4), .val (.int p5), .val (.int v56), .val (.int v58), .val (.int (((p1.toUInt32 >>> ((1 : Int32) &&& 31).toUInt32).toInt32) - ((p1.toUInt32 >>> ((1 : Int32) &&& 31).toUInt32).toInt32) / (3 : Int32) * (3 : Int32))), .val (.ref b59), .unset, .unset] [])) _
        refine XS.iload X65.here hx rfl (hb hby at_69) rfl ?_
        show Steps p.tables e below (T65.setTop (mkF m 71 #[.val (.int p0), .val (.int p1), .val (.int p2), .val (.int p3), .val (.int p4), .val (.int p5), .val (.int v56), .val (.int v58), .val (.int (((p1.toUInt32 >>> ((1 : Int32) &&& 31).toUInt32).toInt32) - ((p1.toUInt32 >>> ((1 : Int32) &&& 31).toUInt32).toInt32) / (3 : Int32) * (3 : Int32))), .val (.ref b59), .unset, .unset] [(.int (((p1.toUInt32 >>> ((1 : Int32) &&& 31).toUInt32).toInt32) - ((p1.toUInt32 >>> ((1 : Int32) &&& 31).toUInt32).toInt32) / (3 : Int32) * (3 : Int32)))])) _
        refine XS.iconst X65.here hx rfl (hb hby at_71) ?_
        show Steps p.tables e below (T65.setTop (mkF m 72 #[.val (.int p0), .val (.int p1), .val (.int p2), .val (.int p3), .val (.int p4), .val (.int p5), .val (.int v56), .val (.int v58), .val (.int (((p1.toUInt32 >>> ((1 : Int32) &&& 31).toUInt32).toInt32) - ((p1.toUInt32 >>> ((1 : Int32) &&& 31).toUInt32).toInt32) / (3 : Int32) * (3 : Int32))), .val (.ref b59), .unset, .unset] [(.int (1 : Int32)), (.int (((p1.toUInt32 >>> ((1 : Int32) &&& 31).toUInt32).toInt32) - ((p1.toUInt32 >>> ((1 : Int32) &&& 31).toUInt32).toInt32) / (3 : Int32) * (3 : Int32)))])) _
        refine XS.icmpYes X65.here hx rfl (pc0 := 72) (pc' := 91) rfl (hb hby at_72) rfl (feq hk1).2 (by decide) (by decide) ?_
        show Steps p.tables e below (T65.setTop (mkF m 91 #[.val (.int p0), .val (.int p1), .val (.int p2), .val (.int p3), .val (.int p4), .val (.int p5), .val (.int v56), .val (.int v58), .val (.int (((p1.toUInt32 >>> ((1 : Int32) &&& 31).toUInt32).toInt32) - ((p1.toUInt32 >>> ((1 : Int32) &&& 31).toUInt32).toInt32) / (3 : Int32) * (3 : Int32))), .val (.ref b59), .unset, .unset] [])) _
        refine XS.aconstNull X65.here hx rfl (hb hby at_91) ?_
        show Steps p.tables e below (T65.setTop (mkF m 92 #[.val (.int p0), .val (.int p1), .val (.int p2), .val (.int p3), .val (.int p4), .val (.int p5), .val (.int v56), .val (.int v58), .val (.int (((p1.toUInt32 >>> ((1 : Int32) &&& 31).toUInt32).toInt32) - ((p1.toUInt32 >>> ((1 : Int32) &&& 31).toUInt32).toInt32) / (3 : Int32) * (3 : Int32))), .val (.ref b59), .unset, .unset] [.null])) _
        refine XS.astore X65.here hx rfl (hb hby at_92) rfl rfl (l' := #[.val (.int p0), .val (.int p1), .val (.int p2), .val (.int p3), .val (.int p4), .val (.int p5), .val (.int v56), .val (.int v58), .val (.int (((p1.toUInt32 >>> ((1 : Int32) &&& 31).toUInt32).toInt32) - ((p1.toUInt32 >>> ((1 : Int32) &&& 31).toUInt32).toInt32) / (3 : Int32) * (3 : Int32))), .val (.ref b59), .val .null, .unset]) rfl ?_
        show Steps p.tables e below (T65.setTop (mkF m 94 #[.val (.int p0), .val (.int p1), .val (.int p2), .val (.int p3), .val (.int p4), .val (.int p5), .val (.int v56), .val (.int v58), .val (.int (((p1.toUInt32 >>> ((1 : Int32) &&& 31).toUInt32).toInt32) - ((p1.toUInt32 >>> ((1 : Int32) &&& 31).toUInt32).toInt32) / (3 : Int32) * (3 : Int32))), .val (.ref b59), .val .null, .unset] [])) _
        refine XS.iload X65.here hx rfl (hb hby at_94) rfl ?_
        show Steps p.tables e below (T65.setTop (mkF m 96 #[.val (.int p0), .val (.int p1), .val (.int p2), .val (.int p3), .val (.int p4), .val (.int p5), .val (.int v56), .val (.int v58), .val (.int (((p1.toUInt32 >>> ((1 : Int32) &&& 31).toUInt32).toInt32) - ((p1.toUInt32 >>> ((1 : Int32) &&& 31).toUInt32).toInt32) / (3 : Int32) * (3 : Int32))), .val (.ref b59), .val .null, .unset] [(.int (((p1.toUInt32 >>> ((1 : Int32) &&& 31).toUInt32).toInt32) - ((p1.toUInt32 >>> ((1 : Int32) &&& 31).toUInt32).toInt32) / (3 : Int32) * (3 : Int32)))])) _
        refine XS.ifYes X65.here hx rfl (pc0 := 96) (pc' := 110) rfl (hb hby at_96) rfl ((if0 _ _).trans (feq hk0).2) (by decide) (by decide) ?_
        show Steps p.tables e below (T65.setTop (mkF m 110 #[.val (.int p0), .val (.int p1), .val (.int p2), .val (.int p3), .val (.int p4), .val (.int p5), .val (.int v56), .val (.int v58), .val (.int (((p1.toUInt32 >>> ((1 : Int32) &&& 31).toUInt32).toInt32) - ((p1.toUInt32 >>> ((1 : Int32) &&& 31).toUInt32).toInt32) / (3 : Int32) * (3 : Int32))), .val (.ref b59), .val .null, .unset] [])) _
        refine XS.iconst X65.here hx rfl (hb hby at_110) ?_
        show Steps p.tables e below (T65.setTop (mkF m 111 #[.val (.int p0), .val (.int p1), .val (.int p2), .val (.int p3), .val (.int p4), .val (.int p5), .val (.int v56), .val (.int v58), .val (.int (((p1.toUInt32 >>> ((1 : Int32) &&& 31).toUInt32).toInt32) - ((p1.toUInt32 >>> ((1 : Int32) &&& 31).toUInt32).toInt32) / (3 : Int32) * (3 : Int32))), .val (.ref b59), .val .null, .unset] [(.int (0 : Int32))])) _
        refine XS.istore X65.here hx rfl (hb hby at_111) rfl (l' := #[.val (.int p0), .val (.int p1), .val (.int p2), .val (.int p3), .val (.int p4), .val (.int p5), .val (.int v56), .val (.int v58), .val (.int (((p1.toUInt32 >>> ((1 : Int32) &&& 31).toUInt32).toInt32) - ((p1.toUInt32 >>> ((1 : Int32) &&& 31).toUInt32).toInt32) / (3 : Int32) * (3 : Int32))), .val (.ref b59), .val .null, .val (.int (0 : Int32))]) rfl ?_
        show Steps p.tables e below (T65.setTop (mkF m 113 #[.val (.int p0), .val (.int p1), .val (.int p2), .val (.int p3), .val (.int p4), .val (.int p5), .val (.int v56), .val (.int v58), .val (.int (((p1.toUInt32 >>> ((1 : Int32) &&& 31).toUInt32).toInt32) - ((p1.toUInt32 >>> ((1 : Int32) &&& 31).toUInt32).toInt32) / (3 : Int32) * (3 : Int32))), .val (.ref b59), .val .null, .val (.int (0 : Int32))] [])) _
        refine XS.aload X65.here hx rfl (hb hby at_113) rfl rfl ?_
        show Steps p.tables e below (T65.setTop (mkF m 115 #[.val (.int p0), .val (.int p1), .val (.int p2), .val (.int p3), .val (.int p4), .val (.int p5), .val (.int v56), .val (.int v58), .val (.int (((p1.toUInt32 >>> ((1 : Int32) &&& 31).toUInt32).toInt32) - ((p1.toUInt32 >>> ((1 : Int32) &&& 31).toUInt32).toInt32) / (3 : Int32) * (3 : Int32))), .val (.ref b59), .val .null, .val (.int (0 : Int32))] [(.ref b59)])) _
        refine XS.aload X65.here hx rfl (hb hby at_115) rfl rfl ?_
        show Steps p.tables e below (T65.setTop (mkF m 117 #[.val (.int p0), .val (.int p1), .val (.int p2), .val (.int p3), .val (.int p4), .val (.int p5), .val (.int v56), .val (.int v58), .val (.int (((p1.toUInt32 >>> ((1 : Int32) &&& 31).toUInt32).toInt32) - ((p1.toUInt32 >>> ((1 : Int32) &&& 31).toUInt32).toInt32) / (3 : Int32) * (3 : Int32))), .val (.ref b59), .val .null, .val (.int (0 : Int32))] [.null, (.ref b59)])) _
        refine st108.trans ?_
        show Steps p.tables e below (T108.setTop (mkF m 120 #[.val (.int p0), .val (.int p1), .val (.int p2), .val (.int p3), .val (.int p4), .val (.int p5), .val (.int v56), .val (.int v58), .val (.int (((p1.toUInt32 >>> ((1 : Int32) &&& 31).toUInt32).toInt32) - ((p1.toUInt32 >>> ((1 : Int32) &&& 31).toUInt32).toInt32) / (3 : Int32) * (3 : Int32))), .val (.ref b59), .val .null, .val (.int (0 : Int32))] [(.int (0 : Int32))])) _
        refine XS.iload X108.here hx rfl (hb hby at_120) rfl ?_
        show Steps p.tables e below (T108.setTop (mkF m 122 #[.val (.int p0), .val (.int p1), .val (.int p2), .val (.int p3), .val (.int p4), .val (.int p5), .val (.int v56), .val (.int v58), .val (.int (((p1.toUInt32 >>> ((1 : Int32) &&& 31).toUInt32).toInt32) - ((p1.toUInt32 >>> ((1 : Int32) &&& 31).toUInt32).toInt32) / (3 : Int32) * (3 : Int32))), .val (.ref b59), .val .null, .val (.int (0 : Int32))] [(.int (0 : Int32)), (.int (0 : Int32))])) _
        refine XS.icmpNo X108.here hx rfl (hb hby at_122) rfl (teq rfl).2 ?_
        show Steps p.tables e below (T108.setTop (mkF m 125 #[.val (.int p0), .val (.int p1), .val (.int p2), .val (.int p3), .val (.int p4), .val (.int p5), .val (.int v56), .val (.int v58), .val (.int (((p1.toUInt32 >>> ((1 : Int32) &&& 31).toUInt32).toInt32) - ((p1.toUInt32 >>> ((1 : Int32) &&& 31).toUInt32).toInt32) / (3 : Int32) * (3 : Int32))), .val (.ref b59), .val .null, .val (.int (0 : Int32))] [])) _
        refine XS.aload X108.here hx rfl (hb hby at_125) rfl rfl ?_
        show Steps p.tables e below (T108.setTop (mkF m 127 #[.val (.int p0), .val (.int p1), .val (.int p2), .val (.int p3), .val (.int p4), .val (.int p5), .val (.int v56), .val (.int v58), .val (.int (((p1.toUInt32 >>> ((1 : Int32) &&& 31).toUInt32).toInt32) - ((p1.toUInt32 >>> ((1 : Int32) &&& 31).toUInt32).toInt32) / (3 : Int32) * (3 : Int32))), .val (.ref b59), .val .null, .val (.int (0 : Int32))] [(.ref b59)])) _
        refine XS.aload X108.here hx rfl (hb hby at_127) rfl rfl ?_
        show Steps p.tables e below (T108.setTop (mkF m 129 #[.val (.int p0), .val (.int p1), .val (.int p2), .val (.int p3), .val (.int p4), .val (.int p5), .val (.int v56), .val (.int v58), .val (.int (((p1.toUInt32 >>> ((1 : Int32) &&& 31).toUInt32).toInt32) - ((p1.toUInt32 >>> ((1 : Int32) &&& 31).toUInt32).toInt32) / (3 : Int32) * (3 : Int32))), .val (.ref b59), .val .null, .val (.int (0 : Int32))] [(.ref b59), (.ref b59)])) _
        refine st110.trans ?_
        show Steps p.tables e below (T110.setTop (mkF m 132 #[.val (.int p0), .val (.int p1), .val (.int p2), .val (.int p3), .val (.int p4), .val (.int p5), .val (.int v56), .val (.int v58), .val (.int (((p1.toUInt32 >>> ((1 : Int32) &&& 31).toUInt32).toInt32) - ((p1.toUInt32 >>> ((1 : Int32) &&& 31).toUInt32).toInt32) / (3 : Int32) * (3 : Int32))), .val (.ref b59), .val .null, .val (.int (0 : Int32))] [(.int (if nar .boolean v56 = nar .boolean v56 then (1 : Int32) else (0 : Int32)))])) _
        refine XS.ifNo X110.here hx rfl (hb hby at_132) rfl ((if0 _ _).trans (feq (by rw [if_pos rfl]; decide)).1) ?_
        show Steps p.tables e below (T110.setTop (mkF m 135 #[.val (.int p0), .val (.int p1), .val (.int p2), .val (.int p3), .val (.int p4), .val (.int p5), .val (.int v56), .val (.int v58), .val (.int (((p1.toUInt32 >>> ((1 : Int32) &&& 31).toUInt32).toInt32) - ((p1.toUInt32 >>> ((1 : Int32) &&& 31).toUInt32).toInt32) / (3 : Int32) * (3 : Int32))), .val (.ref b59), .val .null, .val (.int (0 : Int32))] [])) _
        refine XS.iconst X110.here hx rfl (hb hby at_135) ?_
        show Steps p.tables e below (T110.setTop (mkF m 136 #[.val (.int p0), .val (.int p1), .val (.int p2), .val (.int p3), .val (.int p4), .val (.int p5), .val (.int v56), .val (.int v58), .val (.int (((p1.toUInt32 >>> ((1 : Int32) &&& 31).toUInt32).toInt32) - ((p1.toUInt32 >>> ((1 : Int32) &&& 31).toUInt32).toInt32) / (3 : Int32) * (3 : Int32))), .val (.ref b59), .val .null, .val (.int (0 : Int32))] [(.int (1 : Int32))])) _
        refine XS.goto X110.here hx rfl (pc0 := 136) (pc' := 140) rfl (hb hby at_136) (by decide) (by decide) ?_
        show Steps p.tables e below (T110.setTop (mkF m 140 #[.val (.int p0), .val (.int p1), .val (.int p2), .val (.int p3), .val (.int p4), .val (.int p5), .val (.int v56), .val (.int v58), .val (.int (((p1.toUInt32 >>> ((1 : Int32) &&& 31).toUInt32).toInt32) - ((p1.toUInt32 >>> ((1 : Int32) &&& 31).toUInt32).toInt32) / (3 : Int32) * (3 : Int32))), .val (.ref b59), .val .null, .val (.int (0 : Int32))] [(.int (1 : Int32))])) _
        exact retN X110 hx (t := .boolean) Bd.returns (by simp) (hb hby at_140) hr
      · show Qrm0 Z p0 p1 p2 p3 p4 p5 h0 n0 _ T110.heap _
        rw [e110]
        exact ⟨rfl, N111⟩
set_option maxRecDepth 65536 in
set_option maxHeartbeats 40000000 in
theorem comes_1 {Post : Tables → Env → Array Value → State → Outcome → State → Prop} (hpost : ∀ tb e args s v u, (limb_1_1.after args s (.returned v) u = true ∧ limb_1_2.after args s (.returned v) u = true ∧ True) → FrameEnd s (.returned v) u (Jvm.fieldLocs frame_1_writes args s ++ Jvm.arrayLocs frame_1_arrays args s ++ Jvm.staticLocs frame_1_statics s) 16 128 → Post tb e args s (.returned v) u) :
    ArmFor flags0 classFile x code maxLocals ret World_1 tables_1 room_1 Calls_1 rest_1 Pre_1 Post := by
  intro l hfl _ _ p e ha hc hk s m args below hf hA hF happ hP
  obtain ⟨hcalls, hrest, hpre⟩ := hP
  obtain ⟨-, -, -, hnamed, -, -, -, hat⟩ := (Spec.applies_iff hf).mp happ
  obtain ⟨hg, hn⟩ := and_e (Cond.before_iff.mp (show (Jvm.Cond.and given_1 narrow_1).before args s = true from hpre))
  obtain ⟨hcount, hg0⟩ := and_e hg
  obtain ⟨ha0, hg1⟩ := and_e hg0
  obtain ⟨ha1, hg2⟩ := and_e hg1
  obtain ⟨ha2, hg3⟩ := and_e hg2
  obtain ⟨ha3, hg4⟩ := and_e hg3
  obtain ⟨ha4, hg5⟩ := and_e hg4
  have ha5 := hg5
  obtain ⟨w0, w1, w2, w3, w4, w5, rfl⟩ : ∃ w0 w1 w2 w3 w4 w5 : Value, args = #[w0, w1, w2, w3, w4, w5] := by
    have hs : args.size = 6 := by simpa [Cond.value, given_1] using hcount
    obtain ⟨L⟩ := args
    match L, hs with
    | [w0, w1, w2, w3, w4, w5], _ => exact ⟨w0, w1, w2, w3, w4, w5, rfl⟩
  have hw := fun d (hd : d ∈ tables_1) => atoms_spec (ws := Jvm.Cond.code x code maxLocals ret :: tables_1) hat d (List.mem_cons_of_mem _ hd)
  obtain ⟨i0, ei0⟩ := is_v ha0
  obtain rfl : w0 = (.int i0) := Option.some.inj ei0
  obtain ⟨i1, ei1⟩ := is_v ha1
  obtain rfl : w1 = (.int i1) := Option.some.inj ei1
  obtain ⟨i2, ei2⟩ := is_v ha2
  obtain rfl : w2 = (.int i2) := Option.some.inj ei2
  obtain ⟨i3, ei3⟩ := is_v ha3
  obtain rfl : w3 = (.int i3) := Option.some.inj ei3
  obtain ⟨i4, ei4⟩ := is_v ha4
  obtain rfl : w4 = (.int i4) := Option.some.inj ei4
  obtain ⟨i5, ei5⟩ := is_v ha5
  obtain rfl : w5 = (.int i5) := Option.some.inj ei5
  obtain ⟨n, o, h1, h2, h3, _, L, rfl, ⟨rfl, N⟩, hq⟩ := rm0 l s _ hw tables_1 i0 i1 i2 i3 i4 i5 s.heap s.heap.size (Nat.le_refl _)  p e ha hc hk s m _ below hf ((Spec.applies_iff_loose hf).mp happ).1 ⟨rfl, State.Warmed39.refl s, rfl⟩ trivial
  refine ⟨n, _, h1, h2, h3, hpost _ _ _ _ _ _ ⟨Cond.after_iff.mpr rfl, Cond.after_iff.mpr (eq_i res_at (Term.int_eval (1)) rfl), trivial⟩ ⟨hq.1, hq.2.1, (hq.2.2.sift fun y hy => Or.inr (N y hy)).mono (by decide) (by decide)⟩⟩
theorem main_1_1 : Claimed_1_1 := comes_1 fun _ _ _ _ _ _ h hF => ⟨h.1, hF⟩
theorem main_1_2 : Claimed_1_2 := comes_1 fun _ _ _ _ _ _ h hF => ⟨h.2.1, hF⟩
end Jvm.Pilot.@@N@@
namespace Jvm.Pilot.@@N@@
open Jvm Jvm.ClassFile Sem Op Lib Jvm.Free Jvm.Stand Jvm.Pilot.@@N@@.Jvm.D
/-! MADE BY PROGRAM (witnessworld.py) out of the Statement's table words and the real class files: 11 classes; the members and pool entries that the words name. The judged class is class 1, her method 1. -/
namespace start1
open Jvm.ClassFile
def u (s : String) : CpInfo := .utf8 (stringToUtf16 s)
/-- a pool by its gaps: so many unusable entries, then the entry; so many at the end -/
def gap : Nat → List CpInfo → List CpInfo
  | 0, r => r
  | n + 1, r => .unusable :: gap n r
def poolList (es : List (Nat × CpInfo)) (last : Nat) : List CpInfo := es.foldr (fun e r => gap e.1 (e.2 :: r)) (gap last [])
def pool (es : List (Nat × CpInfo)) (last : Nat) : Array CpInfo := ⟨poolList es last⟩
def fileOf (pool : Array CpInfo) (this : Nat) (attrs : Array Attribute := #[]) (ms : Array MethodInfo := #[]) (fl : Nat := 33) (sup : Nat := 0) (ifs : Array Nat := #[]) (fds : Array FieldInfo := #[]) : ClassFile where
  minorVersion := 0
  majorVersion := 65
  constantPool := pool
  accessFlags := fl
  thisClass := this
  superClass := sup
  interfaces := ifs
  fields := fds
  methods := ms
  attributes := attrs
def plain (name : String) (sup : Option ClassId) : Class where
  name := name
  kind := .ordinary
  loader := none
  accessFlags := 33
  super := sup
  interfaces := #[]
  cf := none
  fields := #[]
  methods := #[]
  instanceTypes := #[]
  staticTypes := #[]
  resolved := #[]
  callSites := []
  init := .initialized
  statics := none
  mirror := none

def pool0 : Array CpInfo := pool [(5, u "<init>"), (0, u "()V"), (1, .class_ 10), (1, u "java/lang/Object")] 113

def k0c0 : Code := { maxStack := 0, maxLocals := 1, code := object_method_1_code, exceptionTable := #[], attributes := #[] }
def k0m0 : Method := { name := "<init>", desc := "()V", sig := { parameters := [], returnType := none }, accessFlags := 1, code := some k0c0 }
/-- java/lang/Object -/
def k0 : Class := { plain "java/lang/Object" none with
  accessFlags := 33
  interfaces := #[]
  cf := some (fileOf pool0 8 #[] #[{ accessFlags := 1, nameIndex := 5, descriptorIndex := 6, attributes := #[] }] 33 0 #[] #[])
  fields := #[]
  methods := #[k0m0]
  instanceTypes := #[]
  staticTypes := #[]
  resolved := Array.replicate 124 none
  statics := none }

def pool1 : Array CpInfo := pool [(2, .class_ 4), (1, u "java/lang/Object"), (0, u "<init>"), (0, u "()V"), (0, .class_ 8), (0, u "com/example/tenon/tenon/JsonValue$BooleanValue"), (0, .methodref 7 10), (0, .nameAndType 5 11), (0, u "(ZII)V"), (0, .class_ 13), (0, u "com/example/tenon/tenon/JsonValue$NullValue"), (0, .methodref 12 15), (0, .nameAndType 5 16), (0, u "(II)V"), (0, .methodref 7 18), (0, .nameAndType 19 20), (0, u "equals"), (0, u "(Ljava/lang/Object;)Z"), (0, .class_ 22), (0, u "com/example/tenon/tenon/BooleanValueEqualsPinLaw"), (2, u "law"), (0, u "(IIIIII)Z")] 8

def k1m0 : Method := { name := "<init>", desc := "()V", sig := { parameters := [], returnType := none }, accessFlags := 1, code := none }
def k1c1 : Code := { maxStack := 5, maxLocals := 12, code := code, exceptionTable := #[], attributes := #[] }
def k1m1 : Method := { name := "law", desc := "(IIIIII)Z", sig := { parameters := [.int, .int, .int, .int, .int, .int], returnType := some .boolean }, accessFlags := 9, code := some k1c1 }
/-- com/example/tenon/tenon/BooleanValueEqualsPinLaw -/
def k1 : Class := { plain "com/example/tenon/tenon/BooleanValueEqualsPinLaw" (some 0) with
  accessFlags := 49
  interfaces := #[]
  cf := some (fileOf pool1 21 #[] #[{ accessFlags := 1, nameIndex := 5, descriptorIndex := 6, attributes := #[] }, { accessFlags := 9, nameIndex := 25, descriptorIndex := 26, attributes := #[] }] 49 2 #[] #[])
  fields := #[]
  methods := #[k1m0, k1m1]
  instanceTypes := #[]
  staticTypes := #[]
  resolved := Array.replicate 35 none
  statics := none }

def pool2 : Array CpInfo := pool [(1, .methodref 2 3), (0, .class_ 4), (0, .nameAndType 5 6), (0, u "java/lang/Object"), (0, u "<init>"), (0, u "()V"), (0, .fieldref 8 9), (0, .class_ 10), (0, .nameAndType 11 12), (0, u "com/example/tenon/tenon/JsonValue"), (0, u "line"), (0, u "I"), (0, .fieldref 8 14), (0, .nameAndType 15 12), (0, u "column"), (26, u "ORDER"), (0, u "Ljava/util/Comparator;"), (2, u "(II)V"), (11, .class_ 59), (0, u "com/example/tenon/tenon/JsonValue$NullValue"), (0, .class_ 61), (0, u "com/example/tenon/tenon/JsonValue$BooleanValue"), (0, .class_ 63), (0, u "com/example/tenon/tenon/JsonValue$NumberValue"), (0, .class_ 65), (0, u "com/example/tenon/tenon/JsonValue$NumberValue$Digits"), (0, .class_ 67), (0, u "com/example/tenon/tenon/JsonValue$StringValue"), (0, .class_ 69), (0, u "com/example/tenon/tenon/JsonValue$ArrayValue"), (0, .class_ 71), (0, u "com/example/tenon/tenon/JsonValue$ObjectValue"), (0, .class_ 73), (0, u "com/example/tenon/tenon/JsonValue$ObjectValue$Members"), (0, .class_ 75), (0, u "com/example/tenon/tenon/JsonValue$ObjectValue$Members$1"), (0, .class_ 77), (0, u "com/example/tenon/tenon/JsonValue$ObjectValue$Members$1$1"), (0, .class_ 79), (0, u "com/example/tenon/tenon/JsonValue$ObjectValue$Builder")] 29

def k2c0 : Code := { maxStack := 2, maxLocals := 3, code := prog_29_method_1_code, exceptionTable := #[], attributes := #[] }
def k2m0 : Method := { name := "<init>", desc := "(II)V", sig := { parameters := [.int, .int], returnType := none }, accessFlags := 2, code := some k2c0 }
/-- com/example/tenon/tenon/JsonValue -/
def k2 : Class := { plain "com/example/tenon/tenon/JsonValue" (some 0) with
  accessFlags := 1056
  interfaces := #[]
  cf := some (fileOf pool2 8 #[.nestMembers #[58, 60, 62, 64, 66, 68, 70, 72, 74, 76, 78]] #[{ accessFlags := 2, nameIndex := 5, descriptorIndex := 46, attributes := #[] }] 1056 2 #[] #[{ accessFlags := 24, nameIndex := 42, descriptorIndex := 43, attributes := #[] }, { accessFlags := 18, nameIndex := 11, descriptorIndex := 12, attributes := #[] }, { accessFlags := 18, nameIndex := 15, descriptorIndex := 12, attributes := #[] }])
  fields := #[{ name := "ORDER", type := (.object "java/util/Comparator"), accessFlags := 24, slot := 0, constantValue := 0 }, { name := "line", type := .int, accessFlags := 18, slot := 0, constantValue := 0 }, { name := "column", type := .int, accessFlags := 18, slot := 1, constantValue := 0 }]
  methods := #[k2m0]
  instanceTypes := #[.int, .int]
  staticTypes := #[(.object "java/util/Comparator")]
  resolved := Array.replicate 109 none
  statics := none }

def pool3 : Array CpInfo := pool [(1, .methodref 2 3), (0, .class_ 4), (0, .nameAndType 5 6), (0, u "com/example/tenon/tenon/JsonValue"), (0, u "<init>"), (0, u "(II)V"), (0, .fieldref 8 9), (0, .class_ 10), (0, .nameAndType 11 12), (0, u "com/example/tenon/tenon/JsonValue$BooleanValue"), (0, u "value"), (0, u "Z"), (12, u "(ZII)V"), (7, u "equals"), (0, u "(Ljava/lang/Object;)Z")] 7

def k3c0 : Code := { maxStack := 3, maxLocals := 4, code := prog_31_method_1_code, exceptionTable := #[], attributes := #[] }
def k3m0 : Method := { name := "<init>", desc := "(ZII)V", sig := { parameters := [.boolean, .int, .int], returnType := none }, accessFlags := 0, code := some k3c0 }
def k3c1 : Code := { maxStack := 2, maxLocals := 2, code := prog_31_method_5_code, exceptionTable := #[], attributes := #[] }
def k3m1 : Method := { name := "equals", desc := "(Ljava/lang/Object;)Z", sig := { parameters := [(.object "java/lang/Object")], returnType := some .boolean }, accessFlags := 1, code := some k3c1 }
/-- com/example/tenon/tenon/JsonValue$BooleanValue -/
def k3 : Class := { plain "com/example/tenon/tenon/JsonValue$BooleanValue" (some 2) with
  accessFlags := 48
  interfaces := #[]
  cf := some (fileOf pool3 8 #[.nestHost 2] #[{ accessFlags := 0, nameIndex := 5, descriptorIndex := 25, attributes := #[] }, { accessFlags := 1, nameIndex := 33, descriptorIndex := 34, attributes := #[] }] 48 2 #[] #[{ accessFlags := 18, nameIndex := 11, descriptorIndex := 12, attributes := #[] }])
  fields := #[{ name := "value", type := .boolean, accessFlags := 18, slot := 2, constantValue := 0 }]
  methods := #[k3m0, k3m1]
  instanceTypes := #[.int, .int, .boolean]
  staticTypes := #[]
  resolved := Array.replicate 42 none
  statics := none }

def pool4 : Array CpInfo := pool [(1, .methodref 2 3), (0, .class_ 4), (0, .nameAndType 5 6), (0, u "com/example/tenon/tenon/JsonValue"), (0, u "<init>"), (0, u "(II)V"), (2, .class_ 10), (0, u "com/example/tenon/tenon/JsonValue$NullValue")] 15

def k4c0 : Code := { maxStack := 3, maxLocals := 3, code := prog_32_method_1_code, exceptionTable := #[], attributes := #[] }
def k4m0 : Method := { name := "<init>", desc := "(II)V", sig := { parameters := [.int, .int], returnType := none }, accessFlags := 0, code := some k4c0 }
/-- com/example/tenon/tenon/JsonValue$NullValue -/
def k4 : Class := { plain "com/example/tenon/tenon/JsonValue$NullValue" (some 2) with
  accessFlags := 48
  interfaces := #[]
  cf := some (fileOf pool4 9 #[.nestHost 2] #[{ accessFlags := 0, nameIndex := 5, descriptorIndex := 6, attributes := #[] }] 48 2 #[] #[])
  fields := #[]
  methods := #[k4m0]
  instanceTypes := #[.int, .int]
  staticTypes := #[]
  resolved := Array.replicate 26 none
  statics := none }

def pool5 : Array CpInfo := pool [(1, u "java/lang/Cloneable"), (0, .class_ 1), (0, u "java/lang/Object"), (0, .class_ 3)] 3

/-- java/lang/Cloneable -/
def k5 : Class := { plain "java/lang/Cloneable" (some 0) with
  accessFlags := 1537
  interfaces := #[]
  cf := some (fileOf pool5 2 #[] #[] 1537 4 #[] #[])
  fields := #[]
  methods := #[]
  instanceTypes := #[]
  staticTypes := #[]
  resolved := Array.replicate 8 none
  statics := none }

def pool6 : Array CpInfo := pool [(1, u "java/io/Serializable"), (0, .class_ 1), (0, u "java/lang/Object"), (0, .class_ 3)] 3

/-- java/io/Serializable -/
def k6 : Class := { plain "java/io/Serializable" (some 0) with
  accessFlags := 1537
  interfaces := #[]
  cf := some (fileOf pool6 2 #[] #[] 1537 4 #[] #[])
  fields := #[]
  methods := #[]
  instanceTypes := #[]
  staticTypes := #[]
  resolved := Array.replicate 8 none
  statics := none }

/-- the primitive byte -/
def k7 : Class := { plain "byte" none with kind := .primitive 'B', accessFlags := 0x411 }
/-- [B -/
def k8 : Class := { plain "[B" (some 0) with kind := .array 7 .byte, interfaces := #[5, 6], accessFlags := 1041 }

/-- the primitive int -/
def k9 : Class := { plain "int" none with kind := .primitive 'I', accessFlags := 0x411 }
/-- [I -/
def k10 : Class := { plain "[I" (some 0) with kind := .array 9 .int, interfaces := #[5, 6], accessFlags := 1041 }

def heap : Heap := #[]
def classes : Array Class := #[k0, k1, k2, k3, k4, k5, k6, k7, k8, k9, k10]
def interned : List (Array UInt16 × Addr) := []
def slotsUsed : Nat := 0
def theMethod : MethodId := ⟨1, 1⟩
def args0 : Array Value := #[.int 1, .int 2, .int 3, .int 4, .int 5, .int 6]
def aboutOver (below : List Frame) : State where
  vm := { classes := classes, interned := interned.toArray }
  heap := heap
  slotsUsed := slotsUsed
  threads := #[{ frames := .invoking theMethod args0 :: below }]
def below0 : List Frame := [.native { method := ⟨0, 0⟩, args := #[] }]
def about1 : State := aboutOver below0
def p0 : Program := .bare "" "" ""
def e0 : Env := launch0.env 0 0 0
theorem w_frames : about1.frames = Frame.invoking theMethod args0 :: below0 := rfl
set_option maxRecDepth 65536 in
theorem w_args : argsFit about1.vm theMethod args0 = true := by decide +kernel
set_option maxRecDepth 65536 in
theorem w_heap : heapFits about1 = true := by decide +kernel
set_option maxRecDepth 65536 in
theorem w_runnable : about1.curStatus? = some .runnable := by decide +kernel
set_option maxRecDepth 65536 in
theorem w_alone : about1.alone = true := by decide +kernel
set_option maxRecDepth 65536 in
theorem w_named : about1.methodNamed? x = some theMethod := by decide +kernel
set_option maxRecDepth 65536 in
theorem w_hears : about1.hears theMethod below0 = true := by decide +kernel
set_option maxRecDepth 65536 in
theorem w_ripe : about1.ripe theMethod args0 below0 = true := by decide +kernel
theorem w_running : about1.status = .running := rfl
set_option maxRecDepth 65536 in
theorem w_room : about1.hasRoom e0.platform room_1 = true :=
  launch0.hasRoom_least _ room_1 (by decide +kernel) (by decide +kernel) (by decide +kernel) (by decide +kernel) (by decide +kernel) (by decide +kernel)
theorem allAtoms_all (ts : List Jvm.Cond) (a : Array Jvm.Value) (st : Jvm.State) : (allAtoms ts).before a st = ts.all (fun c => c.before a st) := by
  induction ts with
  | nil => rfl
  | cons c t ih =>
    show (Jvm.Cond.and c (allAtoms t)).before a st = _
    rw [Jvm.Cond.before_and, ih, List.all_cons]
def words1 : List Jvm.Cond := Jvm.Cond.code x code maxLocals ret :: tables_1
/-- a 'code' word, met by the world's own term for the bytes: nothing is compared byte by byte -/
theorem code_word {y : MethodName} {bytes : ByteArray} {mx : Nat} {rt : Option FieldType} {a : Array Value} {s : State} {m : MethodId} {meth : Method} {c : Code} (h1 : s.methodNamed? y = some m) (h2 : s.vm.method? m = some meth) (h3 : meth.code = some c) (h4 : c.code = bytes)
    (h5 : (c.maxLocals == mx && c.exceptionTable.isEmpty && decide (c.maxStack ≤ mostOperands) && decide (meth.sig.returnType = rt) && !meth.locks && decide (parseMethodDescriptor y.desc = some meth.sig)) = true) : (Jvm.Cond.code y bytes mx rt).before a s = true := by
  simp only [Bool.and_eq_true, beq_iff_eq, Bool.not_eq_true', decide_eq_true_eq] at h5
  obtain ⟨⟨⟨⟨⟨g1, g2⟩, g3⟩, g4⟩, g5⟩, g6⟩ := h5
  simp [Cond.before, Cond.holds, Cond.value, h1, h2, h3, h4, g1, g2, g3, g4, g5, g6]
def isCode : Jvm.Cond → Bool
  | .code _ _ _ _ => true
  | _ => false
theorem all_split {L : List Jvm.Cond} {P : Jvm.Cond → Bool} (h1 : L.all (fun c => isCode c || P c) = true) (h2 : ∀ c ∈ L.filter isCode, P c = true) : L.all P = true := by
  refine List.all_eq_true.mpr fun c hc => ?_
  have h := List.all_eq_true.mp h1 c hc
  rcases Bool.eq_false_or_eq_true (isCode c) with hi | hi
  · exact h2 c (List.mem_filter.mpr ⟨hc, hi⟩)
  · simpa [hi] using h
set_option maxRecDepth 65536 in
theorem w_c0 : (Jvm.Cond.code x code maxLocals ret).before args0 about1 = true := code_word (m := ⟨1, 1⟩) (meth := k1m1) (c := k1c1) (by decide +kernel) rfl rfl rfl (by decide +kernel)
set_option maxRecDepth 65536 in
theorem w_c1 : (Jvm.Cond.code ({ cls := "com/example/tenon/tenon/JsonValue$BooleanValue", name := "<init>", desc := "(ZII)V" } : Jvm.MethodName) prog_31_method_1_code (4 : Nat) (Option.none : Option Jvm.ClassFile.FieldType)).before args0 about1 = true := code_word (m := ⟨3, 0⟩) (meth := k3m0) (c := k3c0) (by decide +kernel) rfl rfl rfl (by decide +kernel)
set_option maxRecDepth 65536 in
theorem w_c2 : (Jvm.Cond.code ({ cls := "com/example/tenon/tenon/JsonValue", name := "<init>", desc := "(II)V" } : Jvm.MethodName) prog_29_method_1_code (3 : Nat) (Option.none : Option Jvm.ClassFile.FieldType)).before args0 about1 = true := code_word (m := ⟨2, 0⟩) (meth := k2m0) (c := k2c0) (by decide +kernel) rfl rfl rfl (by decide +kernel)
set_option maxRecDepth 65536 in
theorem w_c3 : (Jvm.Cond.code ({ cls := "java/lang/Object", name := "<init>", desc := "()V" } : Jvm.MethodName) object_method_1_code (1 : Nat) (Option.none : Option Jvm.ClassFile.FieldType)).before args0 about1 = true := code_word (m := ⟨0, 0⟩) (meth := k0m0) (c := k0c0) (by decide +kernel) rfl rfl rfl (by decide +kernel)
set_option maxRecDepth 65536 in
theorem w_c4 : (Jvm.Cond.code ({ cls := "com/example/tenon/tenon/JsonValue$NullValue", name := "<init>", desc := "(II)V" } : Jvm.MethodName) prog_32_method_1_code (3 : Nat) (Option.none : Option Jvm.ClassFile.FieldType)).before args0 about1 = true := code_word (m := ⟨4, 0⟩) (meth := k4m0) (c := k4c0) (by decide +kernel) rfl rfl rfl (by decide +kernel)
set_option maxRecDepth 65536 in
theorem w_c5 : (Jvm.Cond.code ({ cls := "com/example/tenon/tenon/JsonValue$BooleanValue", name := "equals", desc := "(Ljava/lang/Object;)Z" } : Jvm.MethodName) prog_31_method_5_code (2 : Nat) (Option.some Jvm.ClassFile.FieldType.boolean)).before args0 about1 = true := code_word (m := ⟨3, 1⟩) (meth := k3m1) (c := k3c1) (by decide +kernel) rfl rfl rfl (by decide +kernel)
def codes1 : List Jvm.Cond := [Jvm.Cond.code x code maxLocals ret, Jvm.Cond.code ({ cls := "com/example/tenon/tenon/JsonValue$BooleanValue", name := "<init>", desc := "(ZII)V" } : Jvm.MethodName) prog_31_method_1_code (4 : Nat) (Option.none : Option Jvm.ClassFile.FieldType), Jvm.Cond.code ({ cls := "com/example/tenon/tenon/JsonValue", name := "<init>", desc := "(II)V" } : Jvm.MethodName) prog_29_method_1_code (3 : Nat) (Option.none : Option Jvm.ClassFile.FieldType), Jvm.Cond.code ({ cls := "java/lang/Object", name := "<init>", desc := "()V" } : Jvm.MethodName) object_method_1_code (1 : Nat) (Option.none : Option Jvm.ClassFile.FieldType), Jvm.Cond.code ({ cls := "com/example/tenon/tenon/JsonValue$NullValue", name := "<init>", desc := "(II)V" } : Jvm.MethodName) prog_32_method_1_code (3 : Nat) (Option.none : Option Jvm.ClassFile.FieldType), Jvm.Cond.code ({ cls := "com/example/tenon/tenon/JsonValue$BooleanValue", name := "equals", desc := "(Ljava/lang/Object;)Z" } : Jvm.MethodName) prog_31_method_5_code (2 : Nat) (Option.some Jvm.ClassFile.FieldType.boolean)]
set_option maxRecDepth 65536 in
theorem codes_eq : words1.filter isCode = codes1 := rfl
theorem w_codes : ∀ c ∈ words1.filter isCode, c.before args0 about1 = true := by
  rw [codes_eq]
  intro c hc
  simp only [codes1, List.mem_cons, List.not_mem_nil, or_false] at hc
  rcases hc with rfl | rfl | rfl | rfl | rfl | rfl
  · exact w_c0
  · exact w_c1
  · exact w_c2
  · exact w_c3
  · exact w_c4
  · exact w_c5
set_option maxRecDepth 65536 in
theorem w_t1 : (words1.take 24).all (fun c => isCode c || c.before args0 about1) = true := by decide +kernel
set_option maxRecDepth 65536 in
theorem w_t2 : (words1.drop 24).all (fun c => isCode c || c.before args0 about1) = true := by decide +kernel
theorem w_tables : (allAtoms (Jvm.Cond.code x code maxLocals ret :: tables_1)).before args0 about1 = true := by
  rw [allAtoms_all]
  show words1.all (fun c => c.before args0 about1) = true
  refine all_split ?_ w_codes
  rw [← List.take_append_drop 24 words1, List.all_append, w_t1, w_t2]
  rfl
set_option maxRecDepth 65536 in
theorem w_case : (Jvm.Cond.and given_1 narrow_1).before args0 about1 = true := by decide +kernel
theorem w_applies : (headSpec (Jvm.Cond.code x code maxLocals ret :: tables_1) room_1).applies x e0.platform about1 = true :=
  (Spec.applies_iff w_frames).mpr ⟨w_running, w_runnable, w_alone, w_named, w_hears, w_ripe, w_room, w_tables⟩
theorem atStart : AtStart classFile x code maxLocals ret World_1 tables_1 room_1 Calls_1 rest_1 Pre_1 launch0 p0 e0 about1 theMethod args0 below0 :=
  ⟨lists_1, trivial, launch0.admits_env _ _ _, launch0.least_env, fairChoices_fair.cas, fairChoices_fair.clock, w_frames, w_args, w_heap, w_applies, trivial, trivial, w_case⟩
end start1
theorem witness_1 : WitnessClaimed_1 := ⟨start1.p0, start1.e0, start1.about1, start1.theMethod, start1.args0, start1.below0, start1.atStart⟩
end Jvm.Pilot.@@N@@
