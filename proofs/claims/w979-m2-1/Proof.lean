import JvmDerived
import JvmDerived.Pilot.@@N@@Statement
import JvmDerived.Pilot.@@N@@Code
set_option linter.unusedVariables false
set_option linter.unusedSimpArgs false
namespace Jvm.RoadKit
open Sem ClassFile Op Lib Jvm.Stand Jvm.Free Jvm.LawKit
section New
variable {p : Program} {l : Launch} {e : Env} {R : Room} {s : State} {m : MethodId} {args : Array Value} {below : List Frame} {meth : Method} {c : Code} {T : State} {locs : List Loc} {cells slots : Nat}
theorem retI (X : Stand p l e R s m args below meth c T locs cells slots) (hx : p.tables.exec = Jvm.exec) {pc : Nat} {Ls : Array Slot} {z : Int32} {rest : List Value} (hret : meth.sig.returnType = some .int) (hd : decode c.code pc = .ok (.ireturn, 1)) {fs : List Frame}
    (hl : ∀ (f : JFrame) (acts : List Action), f.method = m → f.locked = none → f.entered = [] → (doReturn e (T.setTop f) acts (some (.int z))).1 = T.setFrames fs) : Steps p.tables e below (T.setTop (mkF m pc Ls (.int z :: rest))) (T.setFrames fs) := by
  have hm' : T.vm.method? m = some meth := X.method'
  have hn : narrow .int (.int z) = .int z := rfl
  show Steps p.tables e below (T.setTop { method := m, pc := pc, locals := Ls, stack := _ :: rest, locked := none }) _
  jvm_step X.here [X.here.top, hx, hd, hm', hret, hn]
  first | (intro acts; rw [hl _ acts rfl rfl rfl]) | rw [hl _ _ rfl rfl rfl]
  exact Steps.refl _
end New
end Jvm.RoadKit
namespace Jvm.Pilot.@@N@@
open Jvm Jvm.ClassFile Sem Op Lib Jvm.Free Jvm.Stand Jvm.LawKit Jvm.RoadKit Bundle Jvm.Pilot.@@N@@.Jvm.D
theorem joinS {tb : Tables} {e : Env} {below : List Frame} {A B t : State} (h1 : Steps tb e below B t → Steps tb e below A t) (h2 : Steps tb e below B t) : Steps tb e below A t := h1 h2
theorem mvMN {Z s : State} {a0 args : Array Value} {own host : String} {index : Nat} {y : MethodName} (hZ : Z.Warmed39 s.vm) (w : (Cond.methodLinkNest own index y host).before a0 Z = true) : (Cond.methodLinkNest own index y host).before args s = true := (Cond.methodLinkNest_wide hZ w :)
def own_law : String := "com/example/tenon/tenon/ReportSizePinLaw"
def own_Lit (Z : State) : Prop := (∃ a, Lit Z "com/example/tenon/tenon/ReportSizePinLaw" 7 a) ∧ (∃ a, Lit Z "com/example/tenon/tenon/ReportSizePinLaw" 9 a) ∧ ∃ a, Lit Z "com/example/tenon/tenon/ReportSizePinLaw" 11 a
theorem own_Lit.vm {Z U : State} (h : own_Lit Z) (e : U.vm = Z.vm) : own_Lit U := by
  unfold own_Lit Lit State.resolvedAt? at *
  rw [e]; exact h
theorem own_lit_stays {s : State} {vm1 : Vm} {own : String} {i : Nat} {a : Addr} (L : Lit s own i a) (hW : s.Warmed39 vm1) : Lit (s.setVm vm1) own i a := State.resolvedAt?_warmed39 hW L
theorem own_Lit.stays {s : State} {vm1 : Vm} (h : own_Lit s) (hW : s.Warmed39 vm1) : own_Lit (s.setVm vm1) := by
  obtain ⟨⟨a, A⟩, ⟨b, B⟩, c, C⟩ := h
  exact ⟨⟨a, own_lit_stays A hW⟩, ⟨b, own_lit_stays B hW⟩, c, own_lit_stays C hW⟩
theorem own_setVm (s : State) : s.setVm s.vm = s := by cases s; rfl
section OwnL
variable {p : Program} {l : Launch} {e : Env} {R : Room} {s : State} {m : MethodId} {args : Array Value} {below : List Frame} {meth : Method} {c : Code} {T : State} {locs : List Loc} {cells slots : Nat} {Z : State} {a0 : Array Value} {h : Heap}
theorem own_ldc {vm0 : Vm} (X : Stand p l e R (s.setVm vm0) m args below meth c T locs cells slots) (hx : p.tables.exec = Jvm.exec) (hZ : Z.Warmed39 (s.setVm vm0).vm) {own text : String} {index : Nat} (hown : (s.setVm vm0).vm.findClass own = some m.cls) (w : (Cond.stringLink own index text).before a0 Z = true) (wS : ∀ a ∈ Bundle.stringAtoms, a.before a0 Z = true)
    (eT : T.heap = h) {k0 : Nat} (hS : s.Since vm0 k0) (hk : k0 ≤ h.size) {g : JFrame} (hg : g.method = m) (hd : decode c.code g.pc = .ok (.ldc index, 2)) {n : Nat} (hn : 4 * text.toList.length ≤ n) (hbig : n ≤ 536870912) (hc : cells + 2 ≤ R.cells) (hl : slots + (n + 4) ≤ R.slots) :
    ∃ (a : Addr) (T' : State) (h' : Heap) (k1 : Nat), Stand p l e R (s.setVm T'.vm) m args below meth c T' locs (cells + 2) (slots + (n + 4)) ∧ T'.heap = h' ∧ Ext h h' ∧ s.Since T'.vm k1 ∧ k1 ≤ h'.size ∧ Z.Warmed39 (s.setVm T'.vm).vm ∧ (s.setVm T'.vm).vm.findClass own = some m.cls ∧ Lit (s.setVm T'.vm) own index a ∧ (s.setVm vm0).Warmed39 T'.vm ∧
      ∀ target, Steps p.tables e below (T'.setTop { g with pc := g.pc + 2, stack := .ref a :: g.stack }) target → Steps p.tables e below (T.setTop g) target := by
  have hZ' : Z.Warmed39 vm0 := hZ
  obtain ⟨a, T', X', hS', ⟨k2, r1, r2⟩, hb, -, st⟩ := X.ldcStringCold hx (own := own) hown (mvS hZ' w) (fun d hd => by
    have q := wS d hd
    simp only [Bundle.stringAtoms, List.mem_cons, List.not_mem_nil, or_false] at hd
    rcases hd with rfl | rfl | rfl | rfl | rfl | rfl | rfl
    · exact mv (s := s.setVm vm0) hZ' q
    · exact mv (s := s.setVm vm0) hZ' q
    · exact mvA (s := s.setVm vm0) hZ' q
    · exact mv (s := s.setVm vm0) hZ' q
    · exact mv (s := s.setVm vm0) hZ' q
    · exact mv (s := s.setVm vm0) hZ' q
    · exact mv (s := s.setVm vm0) hZ' q) hg hd hn hbig hc hl
  subst eT
  have E := ext_of hb
  have hf : (s.setVm T'.vm).vm.findClass own = some m.cls := by rw [show (s.setVm T'.vm).vm = T'.vm from rfl, hS'.1.alike.findClass]; exact hown
  refine ⟨a, T', _, _, X', rfl, E, hS.trans hS' (Nat.le_trans hk E.1), Nat.le_refl _, State.Warmed39.trans (t := s.setVm vm0) hZ' hS'.1, hf, ?_, hS'.1, st⟩
  unfold Lit State.resolvedAt?
  have hf' : T'.vm.findClass own = some m.cls := hf
  simp [hf', r1, r2]
theorem own_again (X : Stand p l e R s m args below meth c T locs cells slots) (hx : p.tables.exec = Jvm.exec) (hZ : Z.Warmed39 s.vm) {own text : String} {index : Nat} (hown : s.vm.findClass own = some m.cls) (w : (Cond.stringLink own index text).before a0 Z = true) {a : Addr} (L : Lit s own index a)
    {g : JFrame} (hg : g.method = m) (hd : decode c.code g.pc = .ok (.ldc index, 2)) : ∀ target, Steps p.tables e below (T.setTop { g with pc := g.pc + 2, stack := .ref a :: g.stack }) target → Steps p.tables e below (T.setTop g) target := by
  have w' : (Cond.stringLink own index text).before args s = true := by
    have := mvS (s := s) (args := args) hZ w
    rw [own_setVm] at this; exact this
  exact ldcR (Z := s) (a0 := args) X hx (State.Warmed39.refl s) hown (refOfLit w' L) L hg hd
theorem own_backL {y : MethodName} {bytes : ByteArray} {maxL : Nat} {ret : Option FieldType} {rm : Room} {len W : Nat} {as' : Array Value} {Q : Option Value → Heap → List Loc → Prop}
    (hM : MetFree l y (head1 [Cond.code y bytes maxL ret] rm) (fun a U => a = as' ∧ Z.Warmed39 U.vm ∧ U.heap = h ∧ own_Lit U) (fun _ _ _ _ _ => True) (fun _ U o U' => ∃ v L, o = .returned v ∧ Q v U'.heap L ∧ FrameEnd U o U' L rm.cells rm.slots))
    (hZ : Z.Warmed39 s.vm) (wc : (Cond.code y bytes maxL ret).before a0 Z = true) (wz : (Cond.initialized y.cls).before a0 Z = true) (hf : rm.frames + 1 ≤ R.frames) (hl : W + (maxL + 11) + rm.locals ≤ R.locals) :
    Back l R p e below s args y len W (fun A a => a = as' ∧ A.U.heap = h ∧ own_Lit A.U ∧ A.cells + rm.cells ≤ R.cells ∧ A.slots + rm.slots ≤ R.slots)
      (fun A _ v B => ∃ L, Q v B.U.heap L ∧ B.locs = A.locs ++ L ∧ B.cells = A.cells + rm.cells ∧ B.slots = A.slots + rm.slots) :=
  Back.of_free (bytes := bytes) (maxL := maxL) (ret := ret) (E := fun _ _ o t L k n => k = rm.cells ∧ n = rm.slots ∧ ∃ v, o = .returned v ∧ Q v t.heap L) hM hf hl
    (fun m meth c A a Y hp => have hU : Z.Warmed39 A.U.vm := wtrans hZ Y.warmed
      ⟨by show (Cond.and _ .tt).before a A.U = true; rw [Cond.before_and, mv hU wc]; rfl, mv hU wc, mv hU wz, hp.2.2.2.1, hp.2.2.2.2⟩)
    (fun m meth c A a g mk Y hp => ⟨hp.1, wtrans hZ Y.warmed, hp.2.1, hp.2.2.1.vm rfl⟩) (fun _ _ _ _ _ _ _ _ _ => trivial)
    (fun _ _ _ _ ⟨v, L, h1, h2, h3⟩ => ⟨L, _, _, h3, rfl, rfl, v, h1, h2⟩)
    (fun m meth c A a g mk v t L k n Y hp _ _ ⟨e1, e2, v', e3, e4⟩ => by cases e3; subst e1 e2; exact ⟨L, e4, rfl, rfl, rfl⟩)
theorem own_backS {y : MethodName} {bytes : ByteArray} {maxL : Nat} {ret : Option FieldType} {rm : Room} {len W : Nat} {as' : Array Value} {Q : Option Value → Heap → List Loc → Prop}
    (hM : MetFree l y (head1 [Cond.code y bytes maxL ret] rm) (fun a U => a = as' ∧ Z.Warmed39 U.vm ∧ U.heap = h) (fun _ _ _ _ _ => True) (fun _ U o U' => ∃ v L, o = .returned v ∧ (Q v U'.heap L ∧ own_Lit U') ∧ ReturnedEndW U o U' L rm.cells rm.slots))
    (hZ : Z.Warmed39 s.vm) (wc : (Cond.code y bytes maxL ret).before a0 Z = true) (wz : (Cond.initialized y.cls).before a0 Z = true) (hf : rm.frames + 1 ≤ R.frames) (hl : W + (maxL + 11) + rm.locals ≤ R.locals) :
    BackS l R p e below s args y len W (fun A a => a = as' ∧ A.U.heap = h ∧ A.cells + rm.cells ≤ R.cells ∧ A.slots + rm.slots ≤ R.slots)
      (fun A _ v B => ∃ L, (Q v B.U.heap L ∧ own_Lit B.U) ∧ B.locs = A.locs ++ L ∧ B.cells = A.cells + rm.cells ∧ B.slots = A.slots + rm.slots) :=
  BackS.of_freeW (bytes := bytes) (maxL := maxL) (ret := ret) (E := fun _ _ o t L k n => k = rm.cells ∧ n = rm.slots ∧ ∃ v, o = .returned v ∧ Q v t.heap L ∧ own_Lit t) hM hf hl
    (fun m meth c A a Y hp => have hU : Z.Warmed39 A.U.vm := wtrans hZ Y.warmed
      ⟨by show (Cond.and _ .tt).before a A.U = true; rw [Cond.before_and, mv hU wc]; rfl, mv hU wc, mv hU wz, hp.2.2.1, hp.2.2.2⟩)
    (fun m meth c A a g mk Y hp => ⟨hp.1, wtrans hZ Y.warmed, hp.2.1⟩) (fun _ _ _ _ _ _ _ _ _ => trivial)
    (fun _ _ _ _ ⟨v, L, h1, h2, h3⟩ => ⟨L, _, _, h3, rfl, rfl, v, h1, h2.1, h2.2⟩)
    (fun m meth c A a g mk v t L k n Y hp _ _ ⟨e1, e2, v', e3, e4, e5⟩ => by cases e3; subst e1 e2; exact ⟨L, ⟨e4, e5.vm rfl⟩, rfl, rfl, rfl⟩)
end OwnL
def own_L0 (Z : State) (h : Heap) (al dce : Addr) : Prop := Fld Z h al "java/util/ArrayList" "elementData" "[Ljava/lang/Object;" (.ref dce) ∧ Fld Z h al "java/util/ArrayList" "size" "I" (.int (0 : Int32)) ∧ ∃ mc, Fld Z h al "java/util/AbstractList" "modCount" "I" (.int mc)
def own_L1 (Z : State) (n0 : Nat) (h : Heap) (r al cb ed : Addr) (ke : ClassId) (sz : Int32) : Prop := Fld Z h al "java/util/ArrayList" "elementData" "[Ljava/lang/Object;" (.ref ed) ∧ Fld Z h al "java/util/ArrayList" "size" "I" (.int sz) ∧ (∃ mc, Fld Z h al "java/util/AbstractList" "modCount" "I" (.int mc)) ∧ (∃ es : List Value, Arv Z h ed ke (.object "java/lang/Object") (10 : Int32) es .null ∧ es.length = 10) ∧ n0 ≤ ed ∧ r ≠ ed ∧ al ≠ ed ∧ cb ≠ ed ∧ Ovr Z ke "java/lang/Object"
def own_W (Z : State) (n0 : Nat) (h : Heap) (r al cb : Addr) (kc : ClassId) (dce : Addr) (mo : Int32) (k : Int) (n : Int64) : Prop := Old Z n0 h ∧ n0 ≤ h.size ∧ n0 ≤ r ∧ n0 ≤ al ∧ n0 ≤ cb ∧ r ≠ al ∧ r ≠ cb ∧ al ≠ cb ∧ Exa Z h r "com/example/tenon/tenon/Report" ∧ Fld Z h r "com/example/tenon/tenon/Report" "findings" "Ljava/util/List;" (.ref al) ∧ Fld Z h r "com/example/tenon/tenon/Report" "counts" "[J" (.ref cb) ∧ Fld Z h r "com/example/tenon/tenon/Report" "most" "I" (.int mo) ∧ Exa Z h al "java/util/ArrayList" ∧ (own_L0 Z h al dce ∨ ∃ (ed : Addr) (ke : ClassId) (sz : Int32), own_L1 Z n0 h r al cb ed ke sz ∧ 0 < sz.toInt ∧ sz.toInt ≤ k) ∧ ∃ c0 c1 c2 : Int64, Arv Z h cb kc .long (3 : Int32) [.long c0, .long c1, .long c2] (.long (0 : Int64)) ∧ c0 + c1 + c2 = n
theorem d20_0 : decode jdk_29_method_65_code 0 = .ok (.iload_n 0, 1) := by decide +kernel
theorem d20_1 : decode jdk_29_method_65_code 1 = .ok (.iload_n 1, 1) := by decide +kernel
theorem d20_2 : decode jdk_29_method_65_code 2 = .ok (.if_icmp .lt 7, 3) := by decide +kernel
theorem d20_9 : decode jdk_29_method_65_code 9 = .ok (.iload_n 1, 1) := by decide +kernel
theorem d20_10 : decode jdk_29_method_65_code 10 = .ok (.ireturn, 1) := by decide +kernel
theorem d20_5 : decode jdk_29_method_65_code 5 = .ok (.iload_n 0, 1) := by decide +kernel
theorem d20_6 : decode jdk_29_method_65_code 6 = .ok (.goto 4, 3) := by decide +kernel
theorem ef_rm20 (m : MethodId) (p0 : Int32) (p1 : Int32) : entryFrame m #[(.int p0), (.int p1)] 2 = mkF m 0 #[.val (.int p0), .val (.int p1)] [] := by first | (simp [entryFrame, mkF, argsToLocals, Value.category]; done) | rfl
def Qrm20 (Z : State) (p0 : Int32) (p1 : Int32) (h0 : Heap) (n0 : Nat) (v : Option Value) (h : Heap) (L : List Loc) : Prop := v = some (.int (if p0 < p1 then p1 else p0)) ∧ Fr n0 L ∧ h = h0
set_option maxRecDepth 65536 in
set_option maxHeartbeats 40000000 in
theorem rm20 (l : Launch) (Z : State) (a0 : Array Value) (hw : ∀ d ∈ tables_1, d.before a0 Z = true) (ws : List Jvm.Cond) (p0 : Int32) (p1 : Int32) (h0 : Heap) (n0 : Nat) (Z0 : n0 ≤ h0.size) :
    MetFree l (⟨"java/lang/Math", "max", "(II)I"⟩ : MethodName) (head1 (Jvm.Cond.code (⟨"java/lang/Math", "max", "(II)I"⟩ : MethodName) jdk_29_method_65_code 2 (some .int) :: ws) ({ frames := 0, cells := 0, slots := 0, locals := 0 } : Room)) (fun a U => a = #[(.int p0), (.int p1)] ∧ Z.Warmed39 U.vm ∧ U.heap = h0) (fun _ _ _ _ _ => True) (fun _ U o U' => ∃ v L, o = .returned v ∧ Qrm20 Z p0 p1 h0 n0 v U'.heap L ∧ FrameEnd U o U' L ({ frames := 0, cells := 0, slots := 0, locals := 0 } : Room).cells ({ frames := 0, cells := 0, slots := 0, locals := 0 } : Room).slots) := by
  refine MetFree.of_bodySF (Jvm.Free.JP.mathPlain rfl (by decide +kernel)) hisR ?_
  intro p e s m args below meth c s₁ Bd hml0 hP hK
  obtain ⟨rfl, hZ, hh⟩ := hP
  have hx := Bd.exec
  have hby := Bd.bytes
  have hml : c.maxLocals = 2 := hml0
  have hown : s.vm.findClass "java/lang/Math" = some m.cls := findClass_of_methodNamed Bd.named
  have hnm := (name_of_methodNamed Bd.named Bd.method).1
  have X0 : Stand p l e ({ frames := 0, cells := 0, slots := 0, locals := 0 } : Room) s m #[(.int p0), (.int p1)] below meth c s₁ [] 0 0 := Stand.of_body Bd
  have e0 : s₁.heap = h0 := by rw [← hh, Bd.state]; rfl
  have N0 := Fr.nil n0
  have pre0 : ∀ t, Steps p.tables e below (s₁.setTop (mkF m 0 #[.val (.int p0), .val (.int p1)] [])) t → Steps p.tables e below (s₁.setTop (entryFrame m #[(.int p0), (.int p1)] 2)) t := fun t k => castTop (ef_rm20 m p0 p1) k
  obtain ⟨v2, hv2⟩ : ∃ v : Int32, v = if p0 < p1 then p1 else p0 := ⟨_, rfl⟩
  obtain ⟨fs, hr, hrun, hended, hW, hsame⟩ := X0.leave (v := some (.int v2)) (fun h => by rw [Bd.returns] at h; cases h)
  refine ⟨_, _, pre0 _ ?_, hrun, hended, _, _, rfl, ?_, ⟨_, rfl⟩, hW, hsame.mono (by decide) (by decide)⟩
  · show Steps p.tables e below (s₁.setTop (mkF m 0 #[.val (.int p0), .val (.int p1)] [])) _
    refine XS.iloadN X0.here hx rfl (hb hby d20_0) rfl ?_
    show Steps p.tables e below (s₁.setTop (mkF m 1 #[.val (.int p0), .val (.int p1)] [(.int p0)])) _
    refine XS.iloadN X0.here hx rfl (hb hby d20_1) rfl ?_
    by_cases hc1 : p0 < p1
    · rw [show v2 = p1 from by rw [hv2, if_pos hc1]] at hr
      show Steps p.tables e below (s₁.setTop (mkF m 2 #[.val (.int p0), .val (.int p1)] [(.int p1), (.int p0)])) _
      refine XS.icmpYes X0.here hx rfl (pc0 := 2) (pc' := 9) rfl (hb hby d20_2) rfl (tlt hc1).1 (by decide) (by decide) ?_
      show Steps p.tables e below (s₁.setTop (mkF m 9 #[.val (.int p0), .val (.int p1)] [])) _
      refine XS.iloadN X0.here hx rfl (hb hby d20_9) rfl ?_
      show Steps p.tables e below (s₁.setTop (mkF m 10 #[.val (.int p0), .val (.int p1)] [(.int p1)])) _
      exact retI X0 hx Bd.returns (hb hby d20_10) hr
    · rw [show v2 = p0 from by rw [hv2, if_neg hc1]] at hr
      show Steps p.tables e below (s₁.setTop (mkF m 2 #[.val (.int p0), .val (.int p1)] [(.int p1), (.int p0)])) _
      refine XS.icmpNo X0.here hx rfl (hb hby d20_2) rfl (flt hc1).1 ?_
      show Steps p.tables e below (s₁.setTop (mkF m 5 #[.val (.int p0), .val (.int p1)] [])) _
      refine XS.iloadN X0.here hx rfl (hb hby d20_5) rfl ?_
      show Steps p.tables e below (s₁.setTop (mkF m 6 #[.val (.int p0), .val (.int p1)] [(.int p0)])) _
      refine XS.goto X0.here hx rfl (pc0 := 6) (pc' := 10) rfl (hb hby d20_6) (by decide) (by decide) ?_
      show Steps p.tables e below (s₁.setTop (mkF m 10 #[.val (.int p0), .val (.int p1)] [(.int p0)])) _
      exact retI X0 hx Bd.returns (hb hby d20_10) hr
  · show Qrm20 Z p0 p1 h0 n0 _ s₁.heap _
    rw [e0]
    exact ⟨by rw [hv2], N0, rfl⟩
theorem d5_0 : decode jdk_22_method_1_code 0 = .ok (.aload_n 0, 1) := by decide +kernel
theorem d5_1 : decode jdk_22_method_1_code 1 = .ok (.invokespecial 1, 3) := by decide +kernel
theorem d5_4 : decode jdk_22_method_1_code 4 = .ok (.return_, 1) := by decide +kernel
theorem pn_java_util_AbstractCollection : plainName "java/util/AbstractCollection" = true := by first | (simp [plainName, overriddenIn]; done) | decide +kernel
theorem ef_rm5 (m : MethodId) (a1 : Addr) : entryFrame m #[(.ref a1)] 1 = mkF m 0 #[.val (.ref a1)] [] := by first | (simp [entryFrame, mkF, argsToLocals, Value.category]; done) | rfl
def Qrm5 (Z : State) (a1 : Addr) (h0 : Heap) (n0 : Nat) (v : Option Value) (h : Heap) (L : List Loc) : Prop := v = none ∧ Fr n0 L ∧ h = h0
set_option maxRecDepth 65536 in
set_option maxHeartbeats 40000000 in
theorem rm5 (l : Launch) (Z : State) (a0 : Array Value) (hw : ∀ d ∈ tables_1, d.before a0 Z = true) (ws : List Jvm.Cond) (a1 : Addr) (h0 : Heap) (n0 : Nat) (Z0 : n0 ≤ h0.size) :
    MetFree l (⟨"java/util/AbstractCollection", "<init>", "()V"⟩ : MethodName) (head1 (Jvm.Cond.code (⟨"java/util/AbstractCollection", "<init>", "()V"⟩ : MethodName) jdk_22_method_1_code 1 none :: ws) ({ frames := 1, cells := 0, slots := 0, locals := 12 } : Room)) (fun a U => a = #[(.ref a1)] ∧ Z.Warmed39 U.vm ∧ U.heap = h0) (fun _ _ _ _ _ => True) (fun _ U o U' => ∃ v L, o = .returned v ∧ Qrm5 Z a1 h0 n0 v U'.heap L ∧ FrameEnd U o U' L ({ frames := 1, cells := 0, slots := 0, locals := 12 } : Room).cells ({ frames := 1, cells := 0, slots := 0, locals := 12 } : Room).slots) := by
  refine MetFree.of_bodySF (plainFor_of_name pn_java_util_AbstractCollection) hisR ?_
  intro p e s m args below meth c s₁ Bd hml0 hP hK
  obtain ⟨rfl, hZ, hh⟩ := hP
  have hx := Bd.exec
  have hby := Bd.bytes
  have hml : c.maxLocals = 1 := hml0
  have hown : s.vm.findClass "java/util/AbstractCollection" = some m.cls := findClass_of_methodNamed Bd.named
  have hnm := (name_of_methodNamed Bd.named Bd.method).1
  have X0 : Stand p l e ({ frames := 1, cells := 0, slots := 0, locals := 12 } : Room) s m #[(.ref a1)] below meth c s₁ [] 0 0 := Stand.of_body Bd
  have e0 : s₁.heap = h0 := by rw [← hh, Bd.state]; rfl
  have N0 := Fr.nil n0
  have pre0 : ∀ t, Steps p.tables e below (s₁.setTop (mkF m 0 #[.val (.ref a1)] [])) t → Steps p.tables e below (s₁.setTop (entryFrame m #[(.ref a1)] 1)) t := fun t k => castTop (ef_rm5 m a1) k
  obtain ⟨T3, X3, e3, st3⟩ := initO X0 hx hZ hown (hw _ (List.mem_of_getElem? (i := 27) rfl)) (hw _ (List.mem_of_getElem? (i := 7) rfl)) (hw _ (List.mem_of_getElem? (i := 8) rfl)) e0 (g := (mkF m 1 #[.val (.ref a1)] [(.ref a1)])) rfl (by rw [hml]; rfl) rfl (hb hby d5_1) (by decide) (W := 0) (by show 2 * 0 + _ ≤ _; exact Nat.le_of_eq rfl) (by decide)
  obtain ⟨fs, hr, hrun, hended, hW, hsame⟩ := X3.leave (v := none) (fun _ => rfl)
  refine ⟨_, _, pre0 _ ?_, hrun, hended, _, _, rfl, ?_, ⟨_, rfl⟩, hW, hsame.mono (by decide) (by decide)⟩
  · show Steps p.tables e below (s₁.setTop (mkF m 0 #[.val (.ref a1)] [])) _
    refine XS.aloadN X0.here hx rfl (hb hby d5_0) rfl rfl ?_
    show Steps p.tables e below (s₁.setTop (mkF m 1 #[.val (.ref a1)] [(.ref a1)])) _
    refine st3 _ ?_
    show Steps p.tables e below (T3.setTop (mkF m 4 #[.val (.ref a1)] [])) _
    exact X3.returnOut hx Bd.returns (hb hby d5_4) hr
  · show Qrm5 Z a1 h0 n0 _ T3.heap _
    rw [e3]
    exact ⟨rfl, N0, rfl⟩
theorem d10_0 : decode jdk_30_method_1_code 0 = .ok (.aload_n 0, 1) := by decide +kernel
theorem d10_1 : decode jdk_30_method_1_code 1 = .ok (.invokespecial 1, 3) := by decide +kernel
theorem d10_4 : decode jdk_30_method_1_code 4 = .ok (.return_, 1) := by decide +kernel
theorem pn_java_lang_Record : plainName "java/lang/Record" = true := by first | (simp [plainName, overriddenIn]; done) | decide +kernel
theorem ef_rm10 (m : MethodId) (a1 : Addr) : entryFrame m #[(.ref a1)] 1 = mkF m 0 #[.val (.ref a1)] [] := by first | (simp [entryFrame, mkF, argsToLocals, Value.category]; done) | rfl
def Qrm10 (Z : State) (a1 : Addr) (h0 : Heap) (n0 : Nat) (v : Option Value) (h : Heap) (L : List Loc) : Prop := v = none ∧ Fr n0 L ∧ h = h0
set_option maxRecDepth 65536 in
set_option maxHeartbeats 40000000 in
theorem rm10 (l : Launch) (Z : State) (a0 : Array Value) (hw : ∀ d ∈ tables_1, d.before a0 Z = true) (ws : List Jvm.Cond) (a1 : Addr) (h0 : Heap) (n0 : Nat) (Z0 : n0 ≤ h0.size) :
    MetFree l (⟨"java/lang/Record", "<init>", "()V"⟩ : MethodName) (head1 (Jvm.Cond.code (⟨"java/lang/Record", "<init>", "()V"⟩ : MethodName) jdk_30_method_1_code 1 none :: ws) ({ frames := 1, cells := 0, slots := 0, locals := 12 } : Room)) (fun a U => a = #[(.ref a1)] ∧ Z.Warmed39 U.vm ∧ U.heap = h0) (fun _ _ _ _ _ => True) (fun _ U o U' => ∃ v L, o = .returned v ∧ Qrm10 Z a1 h0 n0 v U'.heap L ∧ FrameEnd U o U' L ({ frames := 1, cells := 0, slots := 0, locals := 12 } : Room).cells ({ frames := 1, cells := 0, slots := 0, locals := 12 } : Room).slots) := by
  refine MetFree.of_bodySF (plainFor_of_name pn_java_lang_Record) hisR ?_
  intro p e s m args below meth c s₁ Bd hml0 hP hK
  obtain ⟨rfl, hZ, hh⟩ := hP
  have hx := Bd.exec
  have hby := Bd.bytes
  have hml : c.maxLocals = 1 := hml0
  have hown : s.vm.findClass "java/lang/Record" = some m.cls := findClass_of_methodNamed Bd.named
  have hnm := (name_of_methodNamed Bd.named Bd.method).1
  have X0 : Stand p l e ({ frames := 1, cells := 0, slots := 0, locals := 12 } : Room) s m #[(.ref a1)] below meth c s₁ [] 0 0 := Stand.of_body Bd
  have e0 : s₁.heap = h0 := by rw [← hh, Bd.state]; rfl
  have N0 := Fr.nil n0
  have pre0 : ∀ t, Steps p.tables e below (s₁.setTop (mkF m 0 #[.val (.ref a1)] [])) t → Steps p.tables e below (s₁.setTop (entryFrame m #[(.ref a1)] 1)) t := fun t k => castTop (ef_rm10 m a1) k
  obtain ⟨T4, X4, e4, st4⟩ := initO X0 hx hZ hown (hw _ (List.mem_of_getElem? (i := 90) rfl)) (hw _ (List.mem_of_getElem? (i := 7) rfl)) (hw _ (List.mem_of_getElem? (i := 8) rfl)) e0 (g := (mkF m 1 #[.val (.ref a1)] [(.ref a1)])) rfl (by rw [hml]; rfl) rfl (hb hby d10_1) (by decide) (W := 0) (by show 2 * 0 + _ ≤ _; exact Nat.le_of_eq rfl) (by decide)
  obtain ⟨fs, hr, hrun, hended, hW, hsame⟩ := X4.leave (v := none) (fun _ => rfl)
  refine ⟨_, _, pre0 _ ?_, hrun, hended, _, _, rfl, ?_, ⟨_, rfl⟩, hW, hsame.mono (by decide) (by decide)⟩
  · show Steps p.tables e below (s₁.setTop (mkF m 0 #[.val (.ref a1)] [])) _
    refine XS.aloadN X0.here hx rfl (hb hby d10_0) rfl rfl ?_
    show Steps p.tables e below (s₁.setTop (mkF m 1 #[.val (.ref a1)] [(.ref a1)])) _
    refine st4 _ ?_
    show Steps p.tables e below (T4.setTop (mkF m 4 #[.val (.ref a1)] [])) _
    exact X4.returnOut hx Bd.returns (hb hby d10_4) hr
  · show Qrm10 Z a1 h0 n0 _ T4.heap _
    rw [e4]
    exact ⟨rfl, N0, rfl⟩
theorem d4_0 : decode jdk_39_method_1_code 0 = .ok (.aload_n 0, 1) := by decide +kernel
theorem d4_1 : decode jdk_39_method_1_code 1 = .ok (.invokespecial 1, 3) := by decide +kernel
theorem pd___V : parseMethodDescriptor "()V" = some ⟨[], none⟩ := by decide +kernel
theorem d4_4 : decode jdk_39_method_1_code 4 = .ok (.aload_n 0, 1) := by decide +kernel
theorem d4_5 : decode jdk_39_method_1_code 5 = .ok (.iconst 0, 1) := by decide +kernel
theorem d4_6 : decode jdk_39_method_1_code 6 = .ok (.putfield 7, 3) := by decide +kernel
theorem d4_9 : decode jdk_39_method_1_code 9 = .ok (.return_, 1) := by decide +kernel
theorem pn_java_util_AbstractList : plainName "java/util/AbstractList" = true := by first | (simp [plainName, overriddenIn]; done) | decide +kernel
theorem ef_rm4 (m : MethodId) (a1 : Addr) : entryFrame m #[(.ref a1)] 1 = mkF m 0 #[.val (.ref a1)] [] := by first | (simp [entryFrame, mkF, argsToLocals, Value.category]; done) | rfl
def Qrm4 (Z : State) (a1 : Addr) (h0 : Heap) (n0 : Nat) (v : Option Value) (h : Heap) (L : List Loc) : Prop := v = none ∧ Fr n0 L ∧ Keep h0 h [a1] ∧ Fld Z h a1 "java/util/AbstractList" "modCount" "I" (.int (0 : Int32)) ∧ Fld Z h a1 "java/util/ArrayList" "elementData" "[Ljava/lang/Object;" .null ∧ Fld Z h a1 "java/util/ArrayList" "size" "I" (.int (0 : Int32))
set_option maxRecDepth 65536 in
set_option maxHeartbeats 40000000 in
theorem rm4 (l : Launch) (Z : State) (a0 : Array Value) (hw : ∀ d ∈ tables_1, d.before a0 Z = true) (ws : List Jvm.Cond) (a1 : Addr) (h0 : Heap) (n0 : Nat) (Z0 : n0 ≤ h0.size) (E1 : Exa Z h0 a1 "java/util/ArrayList") (Fm : Fld Z h0 a1 "java/util/AbstractList" "modCount" "I" (.int (0 : Int32))) (Fe : Fld Z h0 a1 "java/util/ArrayList" "elementData" "[Ljava/lang/Object;" .null) (Fs : Fld Z h0 a1 "java/util/ArrayList" "size" "I" (.int (0 : Int32))) (g1 : n0 ≤ a1) :
    MetFree l (⟨"java/util/AbstractList", "<init>", "()V"⟩ : MethodName) (head1 (Jvm.Cond.code (⟨"java/util/AbstractList", "<init>", "()V"⟩ : MethodName) jdk_39_method_1_code 1 none :: ws) ({ frames := 2, cells := 0, slots := 0, locals := 24 } : Room)) (fun a U => a = #[(.ref a1)] ∧ Z.Warmed39 U.vm ∧ U.heap = h0) (fun _ _ _ _ _ => True) (fun _ U o U' => ∃ v L, o = .returned v ∧ Qrm4 Z a1 h0 n0 v U'.heap L ∧ FrameEnd U o U' L ({ frames := 2, cells := 0, slots := 0, locals := 24 } : Room).cells ({ frames := 2, cells := 0, slots := 0, locals := 24 } : Room).slots) := by
  refine MetFree.of_bodySF (plainFor_of_name pn_java_util_AbstractList) hisR ?_
  intro p e s m args below meth c s₁ Bd hml0 hP hK
  obtain ⟨rfl, hZ, hh⟩ := hP
  have hx := Bd.exec
  have hby := Bd.bytes
  have hml : c.maxLocals = 1 := hml0
  have hown : s.vm.findClass "java/util/AbstractList" = some m.cls := findClass_of_methodNamed Bd.named
  have hnm := (name_of_methodNamed Bd.named Bd.method).1
  have X0 : Stand p l e ({ frames := 2, cells := 0, slots := 0, locals := 24 } : Room) s m #[(.ref a1)] below meth c s₁ [] 0 0 := Stand.of_body Bd
  have e0 : s₁.heap = h0 := by rw [← hh, Bd.state]; rfl
  have N0 := Fr.nil n0
  have pre0 : ∀ t, Steps p.tables e below (s₁.setTop (mkF m 0 #[.val (.ref a1)] [])) t → Steps p.tables e below (s₁.setTop (entryFrame m #[(.ref a1)] 1)) t := fun t k => castTop (ef_rm4 m a1) k
  have K0 := Keep.refl h0 [a1]
  obtain ⟨_, _, ⟨T5, L5, k5, n5⟩, -, X5, ⟨Lc5, hQ5, l5, y5, z5⟩, st5⟩ := X0.specialBack hx (y := (⟨"java/util/AbstractCollection", "<init>", "()V"⟩ : MethodName)) rfl hown (mvT hZ (hw _ (List.mem_of_getElem? (i := 21) rfl))) (mvT hZ (hw _ (List.mem_of_getElem? (i := 22) rfl))) (mvT hZ (hw _ (List.mem_of_getElem? (i := 26) rfl))) (by decide) (backOf (W := 0) (rm5 l Z a0 hw [] a1  h0 n0 Z0 ) hZ (hw _ (List.mem_of_getElem? (i := 26) rfl)) (hw _ (List.mem_of_getElem? (i := 25) rfl)) (by decide) (by decide)) (g := (mkF m 1 #[.val (.ref a1)] [(.ref a1)])) rfl (by rw [hml]; rfl) (Steps.refl _) (a := a1) (argsL := []) (rest := []) (lenOf pd___V rfl) rfl (by show 2 * 0 + _ ≤ _; exact Nat.le_of_eq rfl) (hb hby d4_1) (fun _ _ => ⟨rfl, e0, (by decide : 0 + 0 ≤ _), (by decide : 0 + 0 ≤ _)⟩)
  dsimp only [Pt.U, Pt.locs, Pt.cells, Pt.slots] at X5 l5 y5 z5 st5 hQ5
  subst l5 y5 z5
  obtain ⟨rfl, N5q, e5⟩ := hQ5
  have N6 := Fr.app N0 N5q
  obtain ⟨T7, h7, X7, e7, W7, st7⟩ := putF X5 hx hZ hown (host := "") (Or.inl (hw _ (List.mem_of_getElem? (i := 28) rfl))) Via.refl e5 Fm E1 (Or.inl (hw _ (List.mem_of_getElem? (i := 29) rfl))) (hw _ (List.mem_of_getElem? (i := 10) rfl)) (ty := .int) (by decide) rfl rfl (g := (mkF m 6 #[.val (.ref a1)] [(.int (0 : Int32)), (.ref a1)])) rfl rfl (hb hby d4_6)
  have f8 := Fm.same W7
  have f9 := E1.wr W7
  have f10 := Fe.other W7 (Or.inr (slot_ne (Or.inl (hw _ (List.mem_of_getElem? (i := 32) rfl))) (Or.inl (hw _ (List.mem_of_getElem? (i := 29) rfl))) (by decide) (t := (.array (.object "java/lang/Object"))) (t' := .int) (by decide) (by decide)))
  have f11 := Fs.other W7 (Or.inr (slot_ne (Or.inl (hw _ (List.mem_of_getElem? (i := 128) rfl))) (Or.inl (hw _ (List.mem_of_getElem? (i := 29) rfl))) (by decide) (t := .int) (t' := .int) (by decide) (by decide)))
  have Zn12 := Nat.le_trans Z0 (Keep.of_wr W7).1
  have N13 := Fr.snoc X7 N6 g1
  have K14 := K0.wr W7 (Or.inl (List.mem_of_getElem? (i := 0) rfl))
  obtain ⟨fs, hr, hrun, hended, hW, hsame⟩ := X7.leave (v := none) (fun _ => rfl)
  refine ⟨_, _, pre0 _ ?_, hrun, hended, _, _, rfl, ?_, ⟨_, rfl⟩, hW, hsame.mono (by decide) (by decide)⟩
  · show Steps p.tables e below (s₁.setTop (mkF m 0 #[.val (.ref a1)] [])) _
    refine XS.aloadN X0.here hx rfl (hb hby d4_0) rfl rfl ?_
    show Steps p.tables e below (s₁.setTop (mkF m 1 #[.val (.ref a1)] [(.ref a1)])) _
    refine st5.trans ?_
    show Steps p.tables e below (T5.setTop (mkF m 4 #[.val (.ref a1)] [])) _
    refine XS.aloadN X5.here hx rfl (hb hby d4_4) rfl rfl ?_
    show Steps p.tables e below (T5.setTop (mkF m 5 #[.val (.ref a1)] [(.ref a1)])) _
    refine XS.iconst X5.here hx rfl (hb hby d4_5) ?_
    show Steps p.tables e below (T5.setTop (mkF m 6 #[.val (.ref a1)] [(.int (0 : Int32)), (.ref a1)])) _
    refine st7 _ ?_
    show Steps p.tables e below (T7.setTop (mkF m 9 #[.val (.ref a1)] [])) _
    exact X7.returnOut hx Bd.returns (hb hby d4_9) hr
  · show Qrm4 Z a1 h0 n0 _ T7.heap _
    rw [e7]
    exact ⟨rfl, N13, K14, f8, f10, f11⟩
theorem d3_0 : decode jdk_38_method_2_code 0 = .ok (.aload_n 0, 1) := by decide +kernel
theorem d3_1 : decode jdk_38_method_2_code 1 = .ok (.invokespecial 1, 3) := by decide +kernel
theorem d3_4 : decode jdk_38_method_2_code 4 = .ok (.aload_n 0, 1) := by decide +kernel
theorem d3_5 : decode jdk_38_method_2_code 5 = .ok (.getstatic 39, 3) := by decide +kernel
theorem d3_8 : decode jdk_38_method_2_code 8 = .ok (.putfield 9, 3) := by decide +kernel
theorem d3_11 : decode jdk_38_method_2_code 11 = .ok (.return_, 1) := by decide +kernel
theorem pn_java_util_ArrayList : plainName "java/util/ArrayList" = true := by first | (simp [plainName, overriddenIn]; done) | decide +kernel
theorem ef_rm3 (m : MethodId) (a1 : Addr) : entryFrame m #[(.ref a1)] 1 = mkF m 0 #[.val (.ref a1)] [] := by first | (simp [entryFrame, mkF, argsToLocals, Value.category]; done) | rfl
def Qrm3 (Z : State) (a1 : Addr) (dce : Addr) (h0 : Heap) (n0 : Nat) (v : Option Value) (h : Heap) (L : List Loc) : Prop := v = none ∧ Fr n0 L ∧ Keep h0 h [a1] ∧ Fld Z h a1 "java/util/AbstractList" "modCount" "I" (.int (0 : Int32)) ∧ Fld Z h a1 "java/util/ArrayList" "elementData" "[Ljava/lang/Object;" (.ref dce) ∧ Fld Z h a1 "java/util/ArrayList" "size" "I" (.int (0 : Int32))
set_option maxRecDepth 65536 in
set_option maxHeartbeats 40000000 in
theorem rm3 (l : Launch) (Z : State) (a0 : Array Value) (hw : ∀ d ∈ tables_1, d.before a0 Z = true) (ws : List Jvm.Cond) (a1 : Addr) (dce : Addr) (h0 : Heap) (n0 : Nat) (Z0 : n0 ≤ h0.size) (E1 : Exa Z h0 a1 "java/util/ArrayList") (Fm : Fld Z h0 a1 "java/util/AbstractList" "modCount" "I" (.int (0 : Int32))) (Fe : Fld Z h0 a1 "java/util/ArrayList" "elementData" "[Ljava/lang/Object;" .null) (Fs : Fld Z h0 a1 "java/util/ArrayList" "size" "I" (.int (0 : Int32))) (g1 : n0 ≤ a1) (X00 : Old Z n0 h0) (SD : Sta Z Z.heap "java/util/ArrayList" "DEFAULTCAPACITY_EMPTY_ELEMENTDATA" "[Ljava/lang/Object;" (.ref dce)) :
    MetFree l (⟨"java/util/ArrayList", "<init>", "()V"⟩ : MethodName) (head1 (Jvm.Cond.code (⟨"java/util/ArrayList", "<init>", "()V"⟩ : MethodName) jdk_38_method_2_code 1 none :: ws) ({ frames := 3, cells := 0, slots := 0, locals := 36 } : Room)) (fun a U => a = #[(.ref a1)] ∧ Z.Warmed39 U.vm ∧ U.heap = h0) (fun _ _ _ _ _ => True) (fun _ U o U' => ∃ v L, o = .returned v ∧ Qrm3 Z a1 dce h0 n0 v U'.heap L ∧ FrameEnd U o U' L ({ frames := 3, cells := 0, slots := 0, locals := 36 } : Room).cells ({ frames := 3, cells := 0, slots := 0, locals := 36 } : Room).slots) := by
  refine MetFree.of_bodySF (plainFor_of_name pn_java_util_ArrayList) hisR ?_
  intro p e s m args below meth c s₁ Bd hml0 hP hK
  obtain ⟨rfl, hZ, hh⟩ := hP
  have hx := Bd.exec
  have hby := Bd.bytes
  have hml : c.maxLocals = 1 := hml0
  have hown : s.vm.findClass "java/util/ArrayList" = some m.cls := findClass_of_methodNamed Bd.named
  have hnm := (name_of_methodNamed Bd.named Bd.method).1
  have X0 : Stand p l e ({ frames := 3, cells := 0, slots := 0, locals := 36 } : Room) s m #[(.ref a1)] below meth c s₁ [] 0 0 := Stand.of_body Bd
  have e0 : s₁.heap = h0 := by rw [← hh, Bd.state]; rfl
  have N0 := Fr.nil n0
  have pre0 : ∀ t, Steps p.tables e below (s₁.setTop (mkF m 0 #[.val (.ref a1)] [])) t → Steps p.tables e below (s₁.setTop (entryFrame m #[(.ref a1)] 1)) t := fun t k => castTop (ef_rm3 m a1) k
  have K0 := Keep.refl h0 [a1]
  obtain ⟨_, _, ⟨T15, L15, k15, n15⟩, -, X15, ⟨Lc15, hQ15, l15, y15, z15⟩, st15⟩ := X0.specialBack hx (y := (⟨"java/util/AbstractList", "<init>", "()V"⟩ : MethodName)) rfl hown (mvT hZ (hw _ (List.mem_of_getElem? (i := 15) rfl))) (mvT hZ (hw _ (List.mem_of_getElem? (i := 16) rfl))) (mvT hZ (hw _ (List.mem_of_getElem? (i := 20) rfl))) (by decide) (backOf (W := 0) (rm4 l Z a0 hw [] a1  h0 n0 Z0 E1 Fm Fe Fs g1) hZ (hw _ (List.mem_of_getElem? (i := 20) rfl)) (hw _ (List.mem_of_getElem? (i := 19) rfl)) (by decide) (by decide)) (g := (mkF m 1 #[.val (.ref a1)] [(.ref a1)])) rfl (by rw [hml]; rfl) (Steps.refl _) (a := a1) (argsL := []) (rest := []) (lenOf pd___V rfl) rfl (by show 2 * 0 + _ ≤ _; exact Nat.le_of_eq rfl) (hb hby d3_1) (fun _ _ => ⟨rfl, e0, (by decide : 0 + 0 ≤ _), (by decide : 0 + 0 ≤ _)⟩)
  dsimp only [Pt.U, Pt.locs, Pt.cells, Pt.slots] at X15 l15 y15 z15 st15 hQ15
  subst l15 y15 z15
  obtain ⟨rfl, N15q, K15, Fm15, Fe15, Fs15⟩ := hQ15
  have N16 := Fr.app N0 N15q
  have f17 := E1.keep K15
  have Zn18 := Nat.le_trans Z0 K15.1
  have Od19 := X00.keep K15 (allS g1 all0)
  have K20 := K0.trans K15 (allS (Or.inl (List.mem_of_getElem? (i := 0) rfl)) all0)
  obtain ⟨T21, X21, e21, st21⟩ := getS2 X15 hx hZ hown (host := "") (Or.inl (hw _ (List.mem_of_getElem? (i := 30) rfl))) Via.refl rfl (SD.ext Od19.2) (g := (mkF m 5 #[.val (.ref a1)] [(.ref a1)])) rfl (hb hby d3_5)
  obtain ⟨T22, h22, X22, e22, W22, st22⟩ := putF X21 hx hZ hown (host := "") (Or.inl (hw _ (List.mem_of_getElem? (i := 31) rfl))) Via.refl e21 Fe15 f17 (Or.inl (hw _ (List.mem_of_getElem? (i := 32) rfl))) (hw _ (List.mem_of_getElem? (i := 10) rfl)) (ty := (.array (.object "java/lang/Object"))) (by decide) rfl rfl (g := (mkF m 8 #[.val (.ref a1)] [(.ref dce), (.ref a1)])) rfl rfl (hb hby d3_8)
  have f23 := Fe15.same W22
  have f24 := f17.wr W22
  have f25 := Fm15.other W22 (Or.inr (slot_ne (Or.inl (hw _ (List.mem_of_getElem? (i := 29) rfl))) (Or.inl (hw _ (List.mem_of_getElem? (i := 32) rfl))) (by decide) (t := .int) (t' := (.array (.object "java/lang/Object"))) (by decide) (by decide)))
  have f26 := Fs15.other W22 (Or.inr (slot_ne (Or.inl (hw _ (List.mem_of_getElem? (i := 128) rfl))) (Or.inl (hw _ (List.mem_of_getElem? (i := 32) rfl))) (by decide) (t := .int) (t' := (.array (.object "java/lang/Object"))) (by decide) (by decide)))
  have Zn27 := Nat.le_trans Zn18 (Keep.of_wr W22).1
  have Od28 := Od19.wr W22 g1
  have N29 := Fr.snoc X22 N16 g1
  have K30 := K20.wr W22 (Or.inl (List.mem_of_getElem? (i := 0) rfl))
  obtain ⟨fs, hr, hrun, hended, hW, hsame⟩ := X22.leave (v := none) (fun _ => rfl)
  refine ⟨_, _, pre0 _ ?_, hrun, hended, _, _, rfl, ?_, ⟨_, rfl⟩, hW, hsame.mono (by decide) (by decide)⟩
  · show Steps p.tables e below (s₁.setTop (mkF m 0 #[.val (.ref a1)] [])) _
    refine XS.aloadN X0.here hx rfl (hb hby d3_0) rfl rfl ?_
    show Steps p.tables e below (s₁.setTop (mkF m 1 #[.val (.ref a1)] [(.ref a1)])) _
    refine st15.trans ?_
    show Steps p.tables e below (T15.setTop (mkF m 4 #[.val (.ref a1)] [])) _
    refine XS.aloadN X15.here hx rfl (hb hby d3_4) rfl rfl ?_
    show Steps p.tables e below (T15.setTop (mkF m 5 #[.val (.ref a1)] [(.ref a1)])) _
    refine st21 _ ?_
    show Steps p.tables e below (T21.setTop (mkF m 8 #[.val (.ref a1)] [(.ref dce), (.ref a1)])) _
    refine st22 _ ?_
    show Steps p.tables e below (T22.setTop (mkF m 11 #[.val (.ref a1)] [])) _
    exact X22.returnOut hx Bd.returns (hb hby d3_11) hr
  · show Qrm3 Z a1 dce h0 n0 _ T22.heap _
    rw [e22]
    exact ⟨rfl, N29, K30, f25, f23, f26⟩
theorem d6_0 : decode prog_23_method_1_code 0 = .ok (.getstatic 13, 3) := by decide +kernel
theorem d6_3 : decode prog_23_method_1_code 3 = .ok (.invokevirtual 17, 3) := by decide +kernel
theorem d6_6 : decode prog_23_method_1_code 6 = .ok (.checkcast 18, 3) := by decide +kernel
theorem d6_9 : decode prog_23_method_1_code 9 = .ok (.areturn, 1) := by decide +kernel
theorem pn_com_example_tenon_tenon_Finding_Severity : plainName "com/example/tenon/tenon/Finding$Severity" = true := by first | (simp [plainName, overriddenIn]; done) | decide +kernel
theorem ef_rm6 (m : MethodId)  : entryFrame m #[] 0 = mkF m 0 #[] [] := by first | (simp [entryFrame, mkF, argsToLocals, Value.category]; done) | rfl
def Qrm6 (Z : State) (sv : Addr) (cv : Cell) (h0 : Heap) (n0 : Nat) (v : Option Value) (h : Heap) (L : List Loc) : Prop := ∃ (b : Addr) (c : Cell), v = some (.ref b) ∧ Fr n0 L ∧ Keep h0 h [] ∧ n0 ≤ b ∧ h0.size ≤ b ∧ Arr Z h b c (.object "com/example/tenon/tenon/Finding$Severity") ∧ c.slots.size = 3
set_option maxRecDepth 65536 in
set_option maxHeartbeats 40000000 in
theorem rm6 (l : Launch) (Z : State) (a0 : Array Value) (hw : ∀ d ∈ tables_1, d.before a0 Z = true) (ws : List Jvm.Cond) (sv : Addr) (cv : Cell) (h0 : Heap) (n0 : Nat) (Z0 : n0 ≤ h0.size) (X00 : Old Z n0 h0) (SV : Sta Z Z.heap "com/example/tenon/tenon/Finding$Severity" "$VALUES" "[Lcom/example/tenon/tenon/Finding$Severity;" (.ref sv)) (AV : Arr Z Z.heap sv cv (.object "com/example/tenon/tenon/Finding$Severity")) (hcv : cv.slots.size = 3) (EV : Exa Z Z.heap sv "[Lcom/example/tenon/tenon/Finding$Severity;") (FV : FitC Z cv) :
    MetFree l (⟨"com/example/tenon/tenon/Finding$Severity", "values", "()[Lcom/example/tenon/tenon/Finding$Severity;"⟩ : MethodName) (head1 (Jvm.Cond.code (⟨"com/example/tenon/tenon/Finding$Severity", "values", "()[Lcom/example/tenon/tenon/Finding$Severity;"⟩ : MethodName) prog_23_method_1_code 0 (some (.array (.object "com/example/tenon/tenon/Finding$Severity"))) :: ws) ({ frames := 1, cells := 1, slots := 3, locals := 14 } : Room)) (fun a U => a = #[] ∧ Z.Warmed39 U.vm ∧ U.heap = h0) (fun _ _ _ _ _ => True) (fun _ U o U' => ∃ v L, o = .returned v ∧ Qrm6 Z sv cv h0 n0 v U'.heap L ∧ FrameEnd U o U' L ({ frames := 1, cells := 1, slots := 3, locals := 14 } : Room).cells ({ frames := 1, cells := 1, slots := 3, locals := 14 } : Room).slots) := by
  refine MetFree.of_bodySF (plainFor_of_name pn_com_example_tenon_tenon_Finding_Severity) hisR ?_
  intro p e s m args below meth c s₁ Bd hml0 hP hK
  obtain ⟨rfl, hZ, hh⟩ := hP
  have hx := Bd.exec
  have hby := Bd.bytes
  have hml : c.maxLocals = 0 := hml0
  have hown : s.vm.findClass "com/example/tenon/tenon/Finding$Severity" = some m.cls := findClass_of_methodNamed Bd.named
  have hnm := (name_of_methodNamed Bd.named Bd.method).1
  have X0 : Stand p l e ({ frames := 1, cells := 1, slots := 3, locals := 14 } : Room) s m #[] below meth c s₁ [] 0 0 := Stand.of_body Bd
  have e0 : s₁.heap = h0 := by rw [← hh, Bd.state]; rfl
  have N0 := Fr.nil n0
  have pre0 : ∀ t, Steps p.tables e below (s₁.setTop (mkF m 0 #[] [])) t → Steps p.tables e below (s₁.setTop (entryFrame m #[] 0)) t := fun t k => castTop (ef_rm6 m ) k
  have K0 := Keep.refl h0 []
  obtain ⟨T31, X31, e31, st31⟩ := getS2 X0 hx hZ hown (host := "") (Or.inl (hw _ (List.mem_of_getElem? (i := 39) rfl))) Via.refl e0 (SV.ext X00.2) (g := (mkF m 0 #[] [])) rfl (hb hby d6_0)
  obtain ⟨T32, h32, X32, e32, E32, A32, B32, st32⟩ := cloneA X31 hx hZ hown (hw _ (List.mem_of_getElem? (i := 41) rfl)) (hw _ (List.mem_of_getElem? (i := 42) rfl)) (hw _ (List.mem_of_getElem? (i := 46) rfl)) (hw _ (List.mem_of_getElem? (i := 44) rfl)) (hw _ (List.mem_of_getElem? (i := 45) rfl)) (hw _ (List.mem_of_getElem? (i := 47) rfl)) e31 (AV.ext X00.2) (EV.ext X00.2) FV (g := (mkF m 3 #[] [(.ref sv)])) rfl (by rw [hml]; rfl) rfl (hb hby d6_3) (by decide) (W := 0) (cap := 3) (by show 2 * 0 + _ ≤ _; exact Nat.le_of_eq rfl) (by decide) (Nat.le_of_eq hcv) (by decide) (by decide)
  obtain ⟨b32, g32⟩ : ∃ z, z = h0.size := ⟨_, rfl⟩
  rw [← g32] at A32 B32 st32
  have g33 : n0 ≤ b32 := Nat.le_trans Z0 (Nat.le_of_eq g32.symm)
  have sz34 : h0.size ≤ b32 := Nat.le_trans K0.1 (Nat.le_of_eq g32.symm)
  have Zn35 := Nat.le_trans Z0 E32.1
  have Od36 := X00.ext E32
  have K37 := K0.ext E32
  obtain ⟨T38, X38, e38, st38⟩ := castY X32 hx hZ hown (hw _ (List.mem_of_getElem? (i := 52) rfl)) e32 (Ins.self B32) (g := (mkF m 6 #[] [(.ref b32)])) rfl rfl (hb hby d6_6)
  obtain ⟨fs, hr, hrun, hended, hW, hsame⟩ := X38.leave (v := some (.ref b32)) (fun h => by rw [Bd.returns] at h; cases h)
  refine ⟨_, _, pre0 _ ?_, hrun, hended, _, _, rfl, ?_, ⟨_, rfl⟩, hW, hsame.mono (by decide) (by decide)⟩
  · show Steps p.tables e below (s₁.setTop (mkF m 0 #[] [])) _
    refine st31 _ ?_
    show Steps p.tables e below (T31.setTop (mkF m 3 #[] [(.ref sv)])) _
    refine st32 _ ?_
    show Steps p.tables e below (T32.setTop (mkF m 6 #[] [(.ref b32)])) _
    refine st38 _ ?_
    show Steps p.tables e below (T38.setTop (mkF m 9 #[] [(.ref b32)])) _
    exact retOut X38 hx Bd.returns rfl (Or.inr (Or.inr (Or.inr (Or.inr ⟨rfl, rfl, rfl⟩)))) (hb hby d6_9) hr
  · show Qrm6 Z sv cv h0 n0 _ T38.heap _
    rw [e38]
    exact ⟨_, _, rfl, N0, K37, g33, sz34, A32, hcv⟩
theorem d1_0 : decode prog_74_method_2_code 0 = .ok (.aload_n 0, 1) := by decide +kernel
theorem d1_1 : decode prog_74_method_2_code 1 = .ok (.invokespecial 10, 3) := by decide +kernel
theorem d1_4 : decode prog_74_method_2_code 4 = .ok (.aload_n 0, 1) := by decide +kernel
theorem d1_5 : decode prog_74_method_2_code 5 = .ok (.new 15, 3) := by decide +kernel
theorem d1_8 : decode prog_74_method_2_code 8 = .ok (.dup, 1) := by decide +kernel
theorem d1_9 : decode prog_74_method_2_code 9 = .ok (.invokespecial 17, 3) := by decide +kernel
theorem d1_12 : decode prog_74_method_2_code 12 = .ok (.putfield 18, 3) := by decide +kernel
theorem d1_15 : decode prog_74_method_2_code 15 = .ok (.aload_n 0, 1) := by decide +kernel
theorem d1_16 : decode prog_74_method_2_code 16 = .ok (.invokestatic 22, 3) := by decide +kernel
theorem pd____Lcom_example_tenon_tenon_Finding_Severity_ : parseMethodDescriptor "()[Lcom/example/tenon/tenon/Finding$Severity;" = some ⟨[], some (.array (.object "com/example/tenon/tenon/Finding$Severity"))⟩ := by decide +kernel
theorem d1_19 : decode prog_74_method_2_code 19 = .ok (.arraylength, 1) := by decide +kernel
theorem d1_20 : decode prog_74_method_2_code 20 = .ok (.newarray .long, 2) := by decide +kernel
theorem d1_22 : decode prog_74_method_2_code 22 = .ok (.putfield 28, 3) := by decide +kernel
theorem d1_25 : decode prog_74_method_2_code 25 = .ok (.aload_n 0, 1) := by decide +kernel
theorem d1_26 : decode prog_74_method_2_code 26 = .ok (.iload_n 1, 1) := by decide +kernel
theorem d1_27 : decode prog_74_method_2_code 27 = .ok (.putfield 32, 3) := by decide +kernel
theorem d1_30 : decode prog_74_method_2_code 30 = .ok (.return_, 1) := by decide +kernel
theorem pn_com_example_tenon_tenon_Report : plainName "com/example/tenon/tenon/Report" = true := by first | (simp [plainName, overriddenIn]; done) | decide +kernel
theorem ef_rm1 (m : MethodId) (a1 : Addr) (p1 : Int32) : entryFrame m #[(.ref a1), (.int p1)] 2 = mkF m 0 #[.val (.ref a1), .val (.int p1)] [] := by first | (simp [entryFrame, mkF, argsToLocals, Value.category]; done) | rfl
def Qrm1 (Z : State) (a1 : Addr) (p1 : Int32) (dce : Addr) (sv : Addr) (cv : Cell) (h0 : Heap) (n0 : Nat) (v : Option Value) (h : Heap) (L : List Loc) : Prop := v = none ∧ Fr n0 L ∧ ∃ (al cb : Addr) (kc : ClassId), own_W Z n0 h a1 al cb kc dce p1 0 (0 : Int64)
set_option maxRecDepth 65536 in
set_option maxHeartbeats 40000000 in
theorem rm1 (l : Launch) (Z : State) (a0 : Array Value) (hw : ∀ d ∈ tables_1, d.before a0 Z = true) (ws : List Jvm.Cond) (a1 : Addr) (p1 : Int32) (dce : Addr) (sv : Addr) (cv : Cell) (h0 : Heap) (n0 : Nat) (Z0 : n0 ≤ h0.size) (E1 : Exa Z h0 a1 "com/example/tenon/tenon/Report") (Ff : Fld Z h0 a1 "com/example/tenon/tenon/Report" "findings" "Ljava/util/List;" .null) (Fc : Fld Z h0 a1 "com/example/tenon/tenon/Report" "counts" "[J" .null) (Fo : Fld Z h0 a1 "com/example/tenon/tenon/Report" "most" "I" (.int (0 : Int32))) (g1 : n0 ≤ a1) (X00 : Old Z n0 h0) (SD : Sta Z Z.heap "java/util/ArrayList" "DEFAULTCAPACITY_EMPTY_ELEMENTDATA" "[Ljava/lang/Object;" (.ref dce)) (SV : Sta Z Z.heap "com/example/tenon/tenon/Finding$Severity" "$VALUES" "[Lcom/example/tenon/tenon/Finding$Severity;" (.ref sv)) (AV : Arr Z Z.heap sv cv (.object "com/example/tenon/tenon/Finding$Severity")) (hcv : cv.slots.size = 3) (EV : Exa Z Z.heap sv "[Lcom/example/tenon/tenon/Finding$Severity;") (FV : FitC Z cv) :
    MetFree l (⟨"com/example/tenon/tenon/Report", "<init>", "(I)V"⟩ : MethodName) (head1 (Jvm.Cond.code (⟨"com/example/tenon/tenon/Report", "<init>", "(I)V"⟩ : MethodName) prog_74_method_2_code 2 none :: ws) ({ frames := 4, cells := 3, slots := 9, locals := 50 } : Room)) (fun a U => a = #[(.ref a1), (.int p1)] ∧ Z.Warmed39 U.vm ∧ U.heap = h0) (fun _ _ _ _ _ => True) (fun _ U o U' => ∃ v L, o = .returned v ∧ Qrm1 Z a1 p1 dce sv cv h0 n0 v U'.heap L ∧ FrameEnd U o U' L ({ frames := 4, cells := 3, slots := 9, locals := 50 } : Room).cells ({ frames := 4, cells := 3, slots := 9, locals := 50 } : Room).slots) := by
  refine MetFree.of_bodySF (plainFor_of_name pn_com_example_tenon_tenon_Report) hisR ?_
  intro p e s m args below meth c s₁ Bd hml0 hP hK
  obtain ⟨rfl, hZ, hh⟩ := hP
  have hx := Bd.exec
  have hby := Bd.bytes
  have hml : c.maxLocals = 2 := hml0
  have hown : s.vm.findClass "com/example/tenon/tenon/Report" = some m.cls := findClass_of_methodNamed Bd.named
  have hnm := (name_of_methodNamed Bd.named Bd.method).1
  have X0 : Stand p l e ({ frames := 4, cells := 3, slots := 9, locals := 50 } : Room) s m #[(.ref a1), (.int p1)] below meth c s₁ [] 0 0 := Stand.of_body Bd
  have e0 : s₁.heap = h0 := by rw [← hh, Bd.state]; rfl
  have N0 := Fr.nil n0
  have pre0 : ∀ t, Steps p.tables e below (s₁.setTop (mkF m 0 #[.val (.ref a1), .val (.int p1)] [])) t → Steps p.tables e below (s₁.setTop (entryFrame m #[(.ref a1), (.int p1)] 2)) t := fun t k => castTop (ef_rm1 m a1 p1) k
  have K0 := Keep.refl h0 [a1]
  obtain ⟨T39, X39, e39, st39⟩ := initO X0 hx hZ hown (hw _ (List.mem_of_getElem? (i := 6) rfl)) (hw _ (List.mem_of_getElem? (i := 7) rfl)) (hw _ (List.mem_of_getElem? (i := 8) rfl)) e0 (g := (mkF m 1 #[.val (.ref a1), .val (.int p1)] [(.ref a1)])) rfl (by rw [hml]; rfl) rfl (hb hby d1_1) (by decide) (W := 0) (by show 2 * 0 + _ ≤ _; exact Nat.le_of_eq rfl) (by decide)
  obtain ⟨T40, h40, X40, e40, E40, A40, D40, U40, st40⟩ := newO X39 hx hZ hown (hw _ (List.mem_of_getElem? (i := 9) rfl)) (hw _ (List.mem_of_getElem? (i := 10) rfl)) (hw _ (List.mem_of_getElem? (i := 11) rfl)) e39 (g := (mkF m 5 #[.val (.ref a1), .val (.int p1)] [(.ref a1)])) rfl (hb hby d1_5) (by decide) (by decide)
  obtain ⟨b40, g40⟩ : ∃ z, z = h0.size := ⟨_, rfl⟩
  rw [← g40] at A40 D40 st40
  have g41 : n0 ≤ b40 := Nat.le_trans Z0 (Nat.le_of_eq g40.symm)
  have sz42 : h0.size ≤ b40 := Nat.le_trans K0.1 (Nat.le_of_eq g40.symm)
  have ne43 : a1 ≠ b40 := Nat.ne_of_lt (Nat.lt_of_lt_of_le E1.lt (Nat.le_of_eq g40.symm))
  have f44 := E1.ext E40
  have f45 := Ff.ext E40
  have f46 := Fc.ext E40
  have f47 := Fo.ext E40
  have Zn48 := Nat.le_trans Z0 E40.1
  have Od49 := X00.ext E40
  have K50 := K0.ext E40
  have f51 : Fld Z h40 b40 "java/util/AbstractList" "modCount" "I" (.int (0 : Int32)) := D40 (Or.inl (hw _ (List.mem_of_getElem? (i := 29) rfl))) (ty := .int) (by decide)
  have f52 : Fld Z h40 b40 "java/util/ArrayList" "elementData" "[Ljava/lang/Object;" .null := D40 (Or.inl (hw _ (List.mem_of_getElem? (i := 32) rfl))) (ty := (.array (.object "java/lang/Object"))) (by decide)
  have f53 : Fld Z h40 b40 "java/util/ArrayList" "size" "I" (.int (0 : Int32)) := D40 (Or.inl (hw _ (List.mem_of_getElem? (i := 128) rfl))) (ty := .int) (by decide)
  obtain ⟨_, _, ⟨T54, L54, k54, n54⟩, -, X54, ⟨Lc54, hQ54, l54, y54, z54⟩, st54⟩ := X40.specialBack hx (y := (⟨"java/util/ArrayList", "<init>", "()V"⟩ : MethodName)) rfl hown (mvT hZ (hw _ (List.mem_of_getElem? (i := 12) rfl))) (mvT hZ (hw _ (List.mem_of_getElem? (i := 13) rfl))) (mvT hZ (hw _ (List.mem_of_getElem? (i := 14) rfl))) (by decide) (backOf (W := 2) (rm3 l Z a0 hw [] b40 dce h40 n0 Zn48 A40 f51 f52 f53 g41 Od49 SD) hZ (hw _ (List.mem_of_getElem? (i := 14) rfl)) (hw _ (List.mem_of_getElem? (i := 11) rfl)) (by decide) (by decide)) (g := (mkF m 9 #[.val (.ref a1), .val (.int p1)] [(.ref b40), (.ref b40), (.ref a1)])) rfl (by rw [hml]; rfl) (Steps.refl _) (a := b40) (argsL := []) (rest := [(.ref b40), (.ref a1)]) (lenOf pd___V rfl) rfl (by show 2 * 0 + _ ≤ _; exact Nat.le_of_eq rfl) (hb hby d1_9) (fun _ _ => ⟨rfl, e40, (by decide : 1 + 0 ≤ _), (by decide : 3 + 0 ≤ _)⟩)
  dsimp only [Pt.U, Pt.locs, Pt.cells, Pt.slots] at X54 l54 y54 z54 st54 hQ54
  subst l54 y54 z54
  obtain ⟨rfl, N54q, K54, Fm54, Fe54, Fs54⟩ := hQ54
  have N55 := Fr.app N0 N54q
  have f56 := f44.keep K54
  have f57 := f45.keep K54 (ninS ne43 nin0)
  have f58 := f46.keep K54 (ninS ne43 nin0)
  have f59 := f47.keep K54 (ninS ne43 nin0)
  have f60 := A40.keep K54
  have Zn61 := Nat.le_trans Zn48 K54.1
  have Od62 := Od49.keep K54 (allS g41 all0)
  have K63 := K50.trans K54 (allS (Or.inr sz42) all0)
  obtain ⟨T64, h64, X64, e64, W64, st64⟩ := putF X54 hx hZ hown (host := "") (Or.inl (hw _ (List.mem_of_getElem? (i := 33) rfl))) Via.refl rfl f57 f56 (Or.inr ⟨(hw _ (List.mem_of_getElem? (i := 34) rfl)), rfl, hnm⟩) (hw _ (List.mem_of_getElem? (i := 1) rfl)) (ty := (.object "java/util/List")) (by decide) rfl rfl (g := (mkF m 12 #[.val (.ref a1), .val (.int p1)] [(.ref b40), (.ref a1)])) rfl rfl (hb hby d1_12)
  have f65 := f57.same W64
  have f66 := f56.wr W64
  have f67 := f58.other W64 (Or.inr (slot_ne (Or.inr (hw _ (List.mem_of_getElem? (i := 56) rfl))) (Or.inr (hw _ (List.mem_of_getElem? (i := 34) rfl))) (by decide) (t := (.array .long)) (t' := (.object "java/util/List")) (by decide) (by decide)))
  have f68 := f59.other W64 (Or.inr (slot_ne (Or.inr (hw _ (List.mem_of_getElem? (i := 58) rfl))) (Or.inr (hw _ (List.mem_of_getElem? (i := 34) rfl))) (by decide) (t := .int) (t' := (.object "java/util/List")) (by decide) (by decide)))
  have f69 := f60.wr W64
  have f70 := Fm54.other W64 (Or.inl (Ne.symm ne43))
  have f71 := Fe54.other W64 (Or.inl (Ne.symm ne43))
  have f72 := Fs54.other W64 (Or.inl (Ne.symm ne43))
  have Zn73 := Nat.le_trans Zn61 (Keep.of_wr W64).1
  have Od74 := Od62.wr W64 g1
  have N75 := Fr.snoc X64 N55 g1
  have K76 := K63.wr W64 (Or.inl (List.mem_of_getElem? (i := 0) rfl))
  obtain ⟨_, _, ⟨T77, L77, k77, n77⟩, -, X77, ⟨Lc77, hQ77, l77, y77, z77⟩, st77⟩ := Jvm.LawKit.callS X64 hx (y := (⟨"com/example/tenon/tenon/Finding$Severity", "values", "()[Lcom/example/tenon/tenon/Finding$Severity;"⟩ : MethodName)) hown (mvT hZ (hw _ (List.mem_of_getElem? (i := 35) rfl))) (mvT hZ (hw _ (List.mem_of_getElem? (i := 36) rfl))) (mvT hZ (hw _ (List.mem_of_getElem? (i := 37) rfl))) (mvT hZ (hw _ (List.mem_of_getElem? (i := 38) rfl))) (by decide) (backOf (W := 1) (rm6 l Z a0 hw []  sv cv h64 n0 Zn73 Od74 SV AV hcv EV FV) hZ (hw _ (List.mem_of_getElem? (i := 38) rfl)) (hw _ (List.mem_of_getElem? (i := 37) rfl)) (by decide) (by decide)) (g := (mkF m 16 #[.val (.ref a1), .val (.int p1)] [(.ref a1)])) rfl (by rw [hml]; rfl) (argsL := []) (rest := [(.ref a1)]) (lenOf pd____Lcom_example_tenon_tenon_Finding_Severity_ rfl) rfl (by show 2 * 0 + _ ≤ _; exact Nat.le_of_eq rfl) (hb hby d1_16) (fun _ _ => ⟨rfl, e64, (by decide : 1 + 1 ≤ _), (by decide : 3 + 3 ≤ _)⟩)
  dsimp only [Pt.U, Pt.locs, Pt.cells, Pt.slots] at X77 l77 y77 z77 st77 hQ77
  subst l77 y77 z77
  obtain ⟨bv, cw, rfl, N77q, Kv, gv, zv, Av, hcw⟩ := hQ77
  have N78 := Fr.app N75 N77q
  have f79 := f66.keep Kv
  have f80 := f67.keep Kv nin0
  have f81 := f68.keep Kv nin0
  have f82 := f69.keep Kv
  have f83 := f70.keep Kv nin0
  have f84 := f71.keep Kv nin0
  have f85 := f72.keep Kv nin0
  have f86 := f65.keep Kv nin0
  have Zn87 := Nat.le_trans Zn73 Kv.1
  have Od88 := Od74.keep Kv all0
  have K89 := K76.trans Kv all0
  obtain ⟨T90, h90, k90, X90, e90, E90, A90, st90⟩ := newP X77 hx hZ (hw _ (List.mem_of_getElem? (i := 54) rfl)) rfl (g := (mkF m 20 #[.val (.ref a1), .val (.int p1)] [(.int (3 : Int32)), (.ref a1)])) rfl (hb hby d1_20) rfl (by decide) (cap := 3) (by decide) (by decide) (by decide) (by decide)
  obtain ⟨b90, g90⟩ : ∃ z, z = T77.heap.size := ⟨_, rfl⟩
  rw [← g90] at A90 st90
  have g91 : n0 ≤ b90 := Nat.le_trans Zn87 (Nat.le_of_eq g90.symm)
  have sz92 : h0.size ≤ b90 := Nat.le_trans K89.1 (Nat.le_of_eq g90.symm)
  have ne93 : a1 ≠ b90 := Nat.ne_of_lt (Nat.lt_of_lt_of_le f79.lt (Nat.le_of_eq g90.symm))
  have ne94 : b40 ≠ b90 := Nat.ne_of_lt (Nat.lt_of_lt_of_le f82.lt (Nat.le_of_eq g90.symm))
  have f95 := f79.ext E90
  have f96 := f80.ext E90
  have f97 := f81.ext E90
  have f98 := f82.ext E90
  have f99 := f83.ext E90
  have f100 := f84.ext E90
  have f101 := f85.ext E90
  have f102 := f86.ext E90
  have Zn103 := Nat.le_trans Zn87 E90.1
  have Od104 := Od88.ext E90
  have K105 := K89.ext E90
  have f106 := Arv.new A90 (by decide)
  have f107 : Arv Z h90 b90 k90 .long (3 : Int32) [(.long (0 : Int64)), (.long (0 : Int64)), (.long (0 : Int64))] (.long (0 : Int64)) := f106.pad (pad_rep [] (.long (0 : Int64)) 3)
  obtain ⟨T108, h108, X108, e108, W108, st108⟩ := putF X90 hx hZ hown (host := "") (Or.inl (hw _ (List.mem_of_getElem? (i := 55) rfl))) Via.refl e90 f96 f95 (Or.inr ⟨(hw _ (List.mem_of_getElem? (i := 56) rfl)), rfl, hnm⟩) (hw _ (List.mem_of_getElem? (i := 1) rfl)) (ty := (.array .long)) (by decide) rfl rfl (g := (mkF m 22 #[.val (.ref a1), .val (.int p1)] [(.ref b90), (.ref a1)])) rfl rfl (hb hby d1_22)
  have f109 := f96.same W108
  have f110 := f95.wr W108
  have f111 := f97.other W108 (Or.inr (slot_ne (Or.inr (hw _ (List.mem_of_getElem? (i := 58) rfl))) (Or.inr (hw _ (List.mem_of_getElem? (i := 56) rfl))) (by decide) (t := .int) (t' := (.array .long)) (by decide) (by decide)))
  have f112 := f98.wr W108
  have f113 := f99.other W108 (Or.inl (Ne.symm ne43))
  have f114 := f100.other W108 (Or.inl (Ne.symm ne43))
  have f115 := f101.other W108 (Or.inl (Ne.symm ne43))
  have f116 := f102.other W108 (Or.inr (slot_ne (Or.inr (hw _ (List.mem_of_getElem? (i := 34) rfl))) (Or.inr (hw _ (List.mem_of_getElem? (i := 56) rfl))) (by decide) (t := (.object "java/util/List")) (t' := (.array .long)) (by decide) (by decide)))
  have f117 := f107.other W108 (Ne.symm ne93)
  have Zn118 := Nat.le_trans Zn103 (Keep.of_wr W108).1
  have Od119 := Od104.wr W108 g1
  have N120 := Fr.snoc X108 N78 g1
  have K121 := K105.wr W108 (Or.inl (List.mem_of_getElem? (i := 0) rfl))
  obtain ⟨T122, h122, X122, e122, W122, st122⟩ := putF X108 hx hZ hown (host := "") (Or.inl (hw _ (List.mem_of_getElem? (i := 57) rfl))) Via.refl e108 f111 f110 (Or.inr ⟨(hw _ (List.mem_of_getElem? (i := 58) rfl)), rfl, hnm⟩) (hw _ (List.mem_of_getElem? (i := 1) rfl)) (ty := .int) (by decide) rfl rfl (g := (mkF m 27 #[.val (.ref a1), .val (.int p1)] [(.int p1), (.ref a1)])) rfl rfl (hb hby d1_27)
  have f123 := f111.same W122
  have f124 := f110.wr W122
  have f125 := f112.wr W122
  have f126 := f113.other W122 (Or.inl (Ne.symm ne43))
  have f127 := f114.other W122 (Or.inl (Ne.symm ne43))
  have f128 := f115.other W122 (Or.inl (Ne.symm ne43))
  have f129 := f116.other W122 (Or.inr (slot_ne (Or.inr (hw _ (List.mem_of_getElem? (i := 34) rfl))) (Or.inr (hw _ (List.mem_of_getElem? (i := 58) rfl))) (by decide) (t := (.object "java/util/List")) (t' := .int) (by decide) (by decide)))
  have f130 := f117.other W122 (Ne.symm ne93)
  have f131 := f109.other W122 (Or.inr (slot_ne (Or.inr (hw _ (List.mem_of_getElem? (i := 56) rfl))) (Or.inr (hw _ (List.mem_of_getElem? (i := 58) rfl))) (by decide) (t := (.array .long)) (t' := .int) (by decide) (by decide)))
  have Zn132 := Nat.le_trans Zn118 (Keep.of_wr W122).1
  have Od133 := Od119.wr W122 g1
  have N134 := Fr.snoc X122 N120 g1
  have K135 := K121.wr W122 (Or.inl (List.mem_of_getElem? (i := 0) rfl))
  obtain ⟨fs, hr, hrun, hended, hW, hsame⟩ := X122.leave (v := none) (fun _ => rfl)
  refine ⟨_, _, pre0 _ ?_, hrun, hended, _, _, rfl, ?_, ⟨_, rfl⟩, hW, hsame.mono (by decide) (by decide)⟩
  · show Steps p.tables e below (s₁.setTop (mkF m 0 #[.val (.ref a1), .val (.int p1)] [])) _
    refine XS.aloadN X0.here hx rfl (hb hby d1_0) rfl rfl ?_
    show Steps p.tables e below (s₁.setTop (mkF m 1 #[.val (.ref a1), .val (.int p1)] [(.ref a1)])) _
    refine st39 _ ?_
    show Steps p.tables e below (T39.setTop (mkF m 4 #[.val (.ref a1), .val (.int p1)] [])) _
    refine XS.aloadN X39.here hx rfl (hb hby d1_4) rfl rfl ?_
    show Steps p.tables e below (T39.setTop (mkF m 5 #[.val (.ref a1), .val (.int p1)] [(.ref a1)])) _
    refine st40 _ ?_
    show Steps p.tables e below (T40.setTop (mkF m 8 #[.val (.ref a1), .val (.int p1)] [(.ref b40), (.ref a1)])) _
    refine XS.dup X40.here hx rfl (hb hby d1_8) rfl rfl ?_
    show Steps p.tables e below (T40.setTop (mkF m 9 #[.val (.ref a1), .val (.int p1)] [(.ref b40), (.ref b40), (.ref a1)])) _
    refine st54.trans ?_
    show Steps p.tables e below (T54.setTop (mkF m 12 #[.val (.ref a1), .val (.int p1)] [(.ref b40), (.ref a1)])) _
    refine st64 _ ?_
    show Steps p.tables e below (T64.setTop (mkF m 15 #[.val (.ref a1), .val (.int p1)] [])) _
    refine XS.aloadN X64.here hx rfl (hb hby d1_15) rfl rfl ?_
    show Steps p.tables e below (T64.setTop (mkF m 16 #[.val (.ref a1), .val (.int p1)] [(.ref a1)])) _
    refine st77 _ ?_
    show Steps p.tables e below (T77.setTop (mkF m 19 #[.val (.ref a1), .val (.int p1)] [(.ref bv), (.ref a1)])) _
    refine X77.arraylength hx Av.1 (State.isArrayOf_alike hZ.alike Av.2.1) (g := (mkF m 19 #[.val (.ref a1), .val (.int p1)] [(.ref bv), (.ref a1)])) rfl rfl (hb hby d1_19) _ ?_
    rw [len_of (z := (3 : Int32)) hcw (by decide)]
    show Steps p.tables e below (T77.setTop (mkF m 20 #[.val (.ref a1), .val (.int p1)] [(.int (3 : Int32)), (.ref a1)])) _
    refine st90 _ ?_
    show Steps p.tables e below (T90.setTop (mkF m 22 #[.val (.ref a1), .val (.int p1)] [(.ref b90), (.ref a1)])) _
    refine st108 _ ?_
    show Steps p.tables e below (T108.setTop (mkF m 25 #[.val (.ref a1), .val (.int p1)] [])) _
    refine XS.aloadN X108.here hx rfl (hb hby d1_25) rfl rfl ?_
    show Steps p.tables e below (T108.setTop (mkF m 26 #[.val (.ref a1), .val (.int p1)] [(.ref a1)])) _
    refine XS.iloadN X108.here hx rfl (hb hby d1_26) rfl ?_
    show Steps p.tables e below (T108.setTop (mkF m 27 #[.val (.ref a1), .val (.int p1)] [(.int p1), (.ref a1)])) _
    refine st122 _ ?_
    show Steps p.tables e below (T122.setTop (mkF m 30 #[.val (.ref a1), .val (.int p1)] [])) _
    exact X122.returnOut hx Bd.returns (hb hby d1_30) hr
  · show Qrm1 Z a1 p1 dce sv cv h0 n0 _ T122.heap _
    rw [e122]
    exact ⟨rfl, N134, b40, b90, k90, Od133, Zn132, g1, g41, g91, ne43, ne93, ne94, f124, f129, f131, f123, f125, Or.inl ⟨f127, f128, _, f126⟩, _, _, _, f130, by decide⟩
theorem d7_0 : decode prog_74_method_9_code 0 = .ok (.lconst 0, 1) := by decide +kernel
theorem d7_1 : decode prog_74_method_9_code 1 = .ok (.lstore_n 1, 1) := by decide +kernel
theorem d7_2 : decode prog_74_method_9_code 2 = .ok (.aload_n 0, 1) := by decide +kernel
theorem d7_3 : decode prog_74_method_9_code 3 = .ok (.getfield 28, 3) := by decide +kernel
theorem d7_6 : decode prog_74_method_9_code 6 = .ok (.astore_n 3, 1) := by decide +kernel
theorem d7_7 : decode prog_74_method_9_code 7 = .ok (.aload_n 3, 1) := by decide +kernel
theorem d7_8 : decode prog_74_method_9_code 8 = .ok (.arraylength, 1) := by decide +kernel
theorem d7_9 : decode prog_74_method_9_code 9 = .ok (.istore 4, 2) := by decide +kernel
theorem d7_11 : decode prog_74_method_9_code 11 = .ok (.iconst 0, 1) := by decide +kernel
theorem d7_12 : decode prog_74_method_9_code 12 = .ok (.istore 5, 2) := by decide +kernel
theorem d7_14 : decode prog_74_method_9_code 14 = .ok (.iload 5, 2) := by decide +kernel
theorem d7_16 : decode prog_74_method_9_code 16 = .ok (.iload 4, 2) := by decide +kernel
theorem d7_18 : decode prog_74_method_9_code 18 = .ok (.if_icmp .ge 20, 3) := by decide +kernel
theorem d7_21 : decode prog_74_method_9_code 21 = .ok (.aload_n 3, 1) := by decide +kernel
theorem d7_22 : decode prog_74_method_9_code 22 = .ok (.iload 5, 2) := by decide +kernel
theorem d7_24 : decode prog_74_method_9_code 24 = .ok (.laload, 1) := by decide +kernel
theorem d7_25 : decode prog_74_method_9_code 25 = .ok (.lstore 6, 2) := by decide +kernel
theorem d7_27 : decode prog_74_method_9_code 27 = .ok (.lload_n 1, 1) := by decide +kernel
theorem d7_28 : decode prog_74_method_9_code 28 = .ok (.lload 6, 2) := by decide +kernel
theorem d7_30 : decode prog_74_method_9_code 30 = .ok (.ladd, 1) := by decide +kernel
theorem d7_31 : decode prog_74_method_9_code 31 = .ok (.lstore_n 1, 1) := by decide +kernel
theorem d7_32 : decode prog_74_method_9_code 32 = .ok (.iinc 5 1, 3) := by decide +kernel
theorem d7_35 : decode prog_74_method_9_code 35 = .ok (.goto (-21), 3) := by decide +kernel
theorem d7_38 : decode prog_74_method_9_code 38 = .ok (.lload_n 1, 1) := by decide +kernel
theorem d7_39 : decode prog_74_method_9_code 39 = .ok (.lreturn, 1) := by decide +kernel
theorem ef_rm7 (m : MethodId) (a1 : Addr) : entryFrame m #[(.ref a1)] 8 = mkF m 0 #[.val (.ref a1), .unset, .unset, .unset, .unset, .unset, .unset, .unset] [] := by first | (simp [entryFrame, mkF, argsToLocals, Value.category]; done) | rfl
def Qrm7 (Z : State) (a1 : Addr) (cb : Addr) (kc : ClassId) (c0 : Int64) (c1 : Int64) (c2 : Int64) (h0 : Heap) (n0 : Nat) (v : Option Value) (h : Heap) (L : List Loc) : Prop := v = some (.long (c0 + c1 + c2)) ∧ Fr n0 L ∧ h = h0
set_option maxRecDepth 65536 in
set_option maxHeartbeats 40000000 in
theorem rm7 (l : Launch) (Z : State) (a0 : Array Value) (hw : ∀ d ∈ tables_1, d.before a0 Z = true) (ws : List Jvm.Cond) (a1 : Addr) (cb : Addr) (kc : ClassId) (c0 : Int64) (c1 : Int64) (c2 : Int64) (h0 : Heap) (n0 : Nat) (Z0 : n0 ≤ h0.size) (Fc : Fld Z h0 a1 "com/example/tenon/tenon/Report" "counts" "[J" (.ref cb)) (Vc : Arv Z h0 cb kc .long (3 : Int32) [.long c0, .long c1, .long c2] (.long (0 : Int64))) :
    MetFree l (⟨"com/example/tenon/tenon/Report", "size", "()J"⟩ : MethodName) (head1 (Jvm.Cond.code (⟨"com/example/tenon/tenon/Report", "size", "()J"⟩ : MethodName) prog_74_method_9_code 8 (some .long) :: ws) ({ frames := 0, cells := 0, slots := 0, locals := 0 } : Room)) (fun a U => a = #[(.ref a1)] ∧ Z.Warmed39 U.vm ∧ U.heap = h0) (fun _ _ _ _ _ => True) (fun _ U o U' => ∃ v L, o = .returned v ∧ Qrm7 Z a1 cb kc c0 c1 c2 h0 n0 v U'.heap L ∧ FrameEnd U o U' L ({ frames := 0, cells := 0, slots := 0, locals := 0 } : Room).cells ({ frames := 0, cells := 0, slots := 0, locals := 0 } : Room).slots) := by
  refine MetFree.of_bodySF (plainFor_of_name pn_com_example_tenon_tenon_Report) hisR ?_
  intro p e s m args below meth c s₁ Bd hml0 hP hK
  obtain ⟨rfl, hZ, hh⟩ := hP
  have hx := Bd.exec
  have hby := Bd.bytes
  have hml : c.maxLocals = 8 := hml0
  have hown : s.vm.findClass "com/example/tenon/tenon/Report" = some m.cls := findClass_of_methodNamed Bd.named
  have hnm := (name_of_methodNamed Bd.named Bd.method).1
  have X0 : Stand p l e ({ frames := 0, cells := 0, slots := 0, locals := 0 } : Room) s m #[(.ref a1)] below meth c s₁ [] 0 0 := Stand.of_body Bd
  have e0 : s₁.heap = h0 := by rw [← hh, Bd.state]; rfl
  have N0 := Fr.nil n0
  have pre0 : ∀ t, Steps p.tables e below (s₁.setTop (mkF m 0 #[.val (.ref a1), .unset, .unset, .unset, .unset, .unset, .unset, .unset] [])) t → Steps p.tables e below (s₁.setTop (entryFrame m #[(.ref a1)] 8)) t := fun t k => castTop (ef_rm7 m a1) k
  obtain ⟨T136, X136, e136, st136⟩ := getF X0 hx hZ hown (host := "") (Or.inl (hw _ (List.mem_of_getElem? (i := 55) rfl))) Via.refl e0 Fc (g := (mkF m 3 #[.val (.ref a1), .val (.long (0 : Int64)), .second, .unset, .unset, .unset, .unset, .unset] [(.ref a1)])) rfl rfl (hb hby d7_3)
  obtain ⟨c137, r137, q137, s137, n137, H137, G137⟩ := id Vc
  obtain ⟨c138, r138, q138, s138, n138, H138, G138⟩ := id Vc
  have i138 : ¬ ((0 : Int32) < 0 ∨ c138.slots.size ≤ ((0 : Int32)).toNatClampNeg) := inb_of s138 ⟨by decide, by decide⟩
  have a138 : c138.slots[((0 : Int32)).toNatClampNeg]? = some (.long c0) := Has.at H138 i138 rfl
  obtain ⟨c139, r139, q139, s139, n139, H139, G139⟩ := id Vc
  have i139 : ¬ ((1 : Int32) < 0 ∨ c139.slots.size ≤ ((1 : Int32)).toNatClampNeg) := inb_of s139 ⟨by decide, by decide⟩
  have a139 : c139.slots[((1 : Int32)).toNatClampNeg]? = some (.long c1) := Has.at H139 i139 rfl
  obtain ⟨c140, r140, q140, s140, n140, H140, G140⟩ := id Vc
  have i140 : ¬ ((2 : Int32) < 0 ∨ c140.slots.size ≤ ((2 : Int32)).toNatClampNeg) := inb_of s140 ⟨by decide, by decide⟩
  have a140 : c140.slots[((2 : Int32)).toNatClampNeg]? = some (.long c2) := Has.at H140 i140 rfl
  obtain ⟨fs, hr, hrun, hended, hW, hsame⟩ := X136.leave (v := some (.long ((((0 : Int64) + c0) + c1) + c2))) (fun h => by rw [Bd.returns] at h; cases h)
  refine ⟨_, _, pre0 _ ?_, hrun, hended, _, _, rfl, ?_, ⟨_, rfl⟩, hW, hsame.mono (by decide) (by decide)⟩
  · show Steps p.tables e below (s₁.setTop (mkF m 0 #[.val (.ref a1), .unset, .unset, .unset, .unset, .unset, .unset, .unset] [])) _
    refine XS.lconst X0.here hx rfl (hb hby d7_0) ?_
    show Steps p.tables e below (s₁.setTop (mkF m 1 #[.val (.ref a1), .unset, .unset, .unset, .unset, .unset, .unset, .unset] [(.long (0 : Int64))])) _
    refine XS.lstoreN X0.here hx rfl (hb hby d7_1) rfl (l' := #[.val (.ref a1), .val (.long (0 : Int64)), .second, .unset, .unset, .unset, .unset, .unset]) rfl ?_
    show Steps p.tables e below (s₁.setTop (mkF m 2 #[.val (.ref a1), .val (.long (0 : Int64)), .second, .unset, .unset, .unset, .unset, .unset] [])) _
    refine XS.aloadN X0.here hx rfl (hb hby d7_2) rfl rfl ?_
    show Steps p.tables e below (s₁.setTop (mkF m 3 #[.val (.ref a1), .val (.long (0 : Int64)), .second, .unset, .unset, .unset, .unset, .unset] [(.ref a1)])) _
    refine st136 _ ?_
    show Steps p.tables e below (T136.setTop (mkF m 6 #[.val (.ref a1), .val (.long (0 : Int64)), .second, .unset, .unset, .unset, .unset, .unset] [(.ref cb)])) _
    refine XS.astoreN X136.here hx rfl (hb hby d7_6) rfl rfl (l' := #[.val (.ref a1), .val (.long (0 : Int64)), .second, .val (.ref cb), .unset, .unset, .unset, .unset]) rfl ?_
    show Steps p.tables e below (T136.setTop (mkF m 7 #[.val (.ref a1), .val (.long (0 : Int64)), .second, .val (.ref cb), .unset, .unset, .unset, .unset] [])) _
    refine XS.aloadN X136.here hx rfl (hb hby d7_7) rfl rfl ?_
    show Steps p.tables e below (T136.setTop (mkF m 8 #[.val (.ref a1), .val (.long (0 : Int64)), .second, .val (.ref cb), .unset, .unset, .unset, .unset] [(.ref cb)])) _
    refine X136.arraylength hx (by rw [e136]; exact r137.1) (State.isArrayOf_alike hZ.alike r137.2.1) (g := (mkF m 8 #[.val (.ref a1), .val (.long (0 : Int64)), .second, .val (.ref cb), .unset, .unset, .unset, .unset] [(.ref cb)])) rfl rfl (hb hby d7_8) _ ?_
    rw [len_of s137 n137]
    show Steps p.tables e below (T136.setTop (mkF m 9 #[.val (.ref a1), .val (.long (0 : Int64)), .second, .val (.ref cb), .unset, .unset, .unset, .unset] [(.int (3 : Int32))])) _
    refine XS.istore X136.here hx rfl (hb hby d7_9) rfl (l' := #[.val (.ref a1), .val (.long (0 : Int64)), .second, .val (.ref cb), .val (.int (3 : Int32)), .unset, .unset, .unset]) rfl ?_
    show Steps p.tables e below (T136.setTop (mkF m 11 #[.val (.ref a1), .val (.long (0 : Int64)), .second, .val (.ref cb), .val (.int (3 : Int32)), .unset, .unset, .unset] [])) _
    refine XS.iconst X136.here hx rfl (hb hby d7_11) ?_
    show Steps p.tables e below (T136.setTop (mkF m 12 #[.val (.ref a1), .val (.long (0 : Int64)), .second, .val (.ref cb), .val (.int (3 : Int32)), .unset, .unset, .unset] [(.int (0 : Int32))])) _
    refine XS.istore X136.here hx rfl (hb hby d7_12) rfl (l' := #[.val (.ref a1), .val (.long (0 : Int64)), .second, .val (.ref cb), .val (.int (3 : Int32)), .val (.int (0 : Int32)), .unset, .unset]) rfl ?_
    show Steps p.tables e below (T136.setTop (mkF m 14 #[.val (.ref a1), .val (.long (0 : Int64)), .second, .val (.ref cb), .val (.int (3 : Int32)), .val (.int (0 : Int32)), .unset, .unset] [])) _
    refine XS.iload X136.here hx rfl (hb hby d7_14) rfl ?_
    show Steps p.tables e below (T136.setTop (mkF m 16 #[.val (.ref a1), .val (.long (0 : Int64)), .second, .val (.ref cb), .val (.int (3 : Int32)), .val (.int (0 : Int32)), .unset, .unset] [(.int (0 : Int32))])) _
    refine XS.iload X136.here hx rfl (hb hby d7_16) rfl ?_
    show Steps p.tables e below (T136.setTop (mkF m 18 #[.val (.ref a1), .val (.long (0 : Int64)), .second, .val (.ref cb), .val (.int (3 : Int32)), .val (.int (0 : Int32)), .unset, .unset] [(.int (3 : Int32)), (.int (0 : Int32))])) _
    refine XS.icmpNo X136.here hx rfl (hb hby d7_18) rfl (tlt (by decide)).2.1 ?_
    show Steps p.tables e below (T136.setTop (mkF m 21 #[.val (.ref a1), .val (.long (0 : Int64)), .second, .val (.ref cb), .val (.int (3 : Int32)), .val (.int (0 : Int32)), .unset, .unset] [])) _
    refine XS.aloadN X136.here hx rfl (hb hby d7_21) rfl rfl ?_
    show Steps p.tables e below (T136.setTop (mkF m 22 #[.val (.ref a1), .val (.long (0 : Int64)), .second, .val (.ref cb), .val (.int (3 : Int32)), .val (.int (0 : Int32)), .unset, .unset] [(.ref cb)])) _
    refine XS.iload X136.here hx rfl (hb hby d7_22) rfl ?_
    show Steps p.tables e below (T136.setTop (mkF m 24 #[.val (.ref a1), .val (.long (0 : Int64)), .second, .val (.ref cb), .val (.int (3 : Int32)), .val (.int (0 : Int32)), .unset, .unset] [(.int (0 : Int32)), (.ref cb)])) _
    refine X136.laload hx (j := (0 : Int32)) (v := (.long c0)) (by rw [e136]; exact r138.1) (State.isArrayOf_alike hZ.alike r138.2.1) r138.2.2 i138 a138 (g := (mkF m 24 #[.val (.ref a1), .val (.long (0 : Int64)), .second, .val (.ref cb), .val (.int (3 : Int32)), .val (.int (0 : Int32)), .unset, .unset] [(.int (0 : Int32)), (.ref cb)])) rfl rfl (hb hby d7_24) _ ?_
    show Steps p.tables e below (T136.setTop (mkF m 25 #[.val (.ref a1), .val (.long (0 : Int64)), .second, .val (.ref cb), .val (.int (3 : Int32)), .val (.int (0 : Int32)), .unset, .unset] [(.long c0)])) _
    refine XS.lstore X136.here hx rfl (hb hby d7_25) rfl (l' := #[.val (.ref a1), .val (.long (0 : Int64)), .second, .val (.ref cb), .val (.int (3 : Int32)), .val (.int (0 : Int32)), .val (.long c0), .second]) rfl ?_
    show Steps p.tables e below (T136.setTop (mkF m 27 #[.val (.ref a1), .val (.long (0 : Int64)), .second, .val (.ref cb), .val (.int (3 : Int32)), .val (.int (0 : Int32)), .val (.long c0), .second] [])) _
    refine XS.lloadN X136.here hx rfl (hb hby d7_27) rfl ?_
    show Steps p.tables e below (T136.setTop (mkF m 28 #[.val (.ref a1), .val (.long (0 : Int64)), .second, .val (.ref cb), .val (.int (3 : Int32)), .val (.int (0 : Int32)), .val (.long c0), .second] [(.long (0 : Int64))])) _
    refine XS.lload X136.here hx rfl (hb hby d7_28) rfl ?_
    show Steps p.tables e below (T136.setTop (mkF m 30 #[.val (.ref a1), .val (.long (0 : Int64)), .second, .val (.ref cb), .val (.int (3 : Int32)), .val (.int (0 : Int32)), .val (.long c0), .second] [(.long c0), (.long (0 : Int64))])) _
    refine XS.ladd X136.here hx rfl (hb hby d7_30) rfl ?_
    show Steps p.tables e below (T136.setTop (mkF m 31 #[.val (.ref a1), .val (.long (0 : Int64)), .second, .val (.ref cb), .val (.int (3 : Int32)), .val (.int (0 : Int32)), .val (.long c0), .second] [(.long ((0 : Int64) + c0))])) _
    refine XS.lstoreN X136.here hx rfl (hb hby d7_31) rfl (l' := #[.val (.ref a1), .val (.long ((0 : Int64) + c0)), .second, .val (.ref cb), .val (.int (3 : Int32)), .val (.int (0 : Int32)), .val (.long c0), .second]) rfl ?_
    show Steps p.tables e below (T136.setTop (mkF m 32 #[.val (.ref a1), .val (.long ((0 : Int64) + c0)), .second, .val (.ref cb), .val (.int (3 : Int32)), .val (.int (0 : Int32)), .val (.long c0), .second] [])) _
    refine XS.iinc X136.here hx rfl (hb hby d7_32) rfl (l' := #[.val (.ref a1), .val (.long ((0 : Int64) + c0)), .second, .val (.ref cb), .val (.int (3 : Int32)), .val (.int (1 : Int32)), .val (.long c0), .second]) rfl ?_
    show Steps p.tables e below (T136.setTop (mkF m 35 #[.val (.ref a1), .val (.long ((0 : Int64) + c0)), .second, .val (.ref cb), .val (.int (3 : Int32)), .val (.int (1 : Int32)), .val (.long c0), .second] [])) _
    refine XS.goto X136.here hx rfl (pc0 := 35) (pc' := 14) rfl (hb hby d7_35) (by decide) (by decide) ?_
    show Steps p.tables e below (T136.setTop (mkF m 14 #[.val (.ref a1), .val (.long ((0 : Int64) + c0)), .second, .val (.ref cb), .val (.int (3 : Int32)), .val (.int (1 : Int32)), .val (.long c0), .second] [])) _
    refine XS.iload X136.here hx rfl (hb hby d7_14) rfl ?_
    show Steps p.tables e below (T136.setTop (mkF m 16 #[.val (.ref a1), .val (.long ((0 : Int64) + c0)), .second, .val (.ref cb), .val (.int (3 : Int32)), .val (.int (1 : Int32)), .val (.long c0), .second] [(.int (1 : Int32))])) _
    refine XS.iload X136.here hx rfl (hb hby d7_16) rfl ?_
    show Steps p.tables e below (T136.setTop (mkF m 18 #[.val (.ref a1), .val (.long ((0 : Int64) + c0)), .second, .val (.ref cb), .val (.int (3 : Int32)), .val (.int (1 : Int32)), .val (.long c0), .second] [(.int (3 : Int32)), (.int (1 : Int32))])) _
    refine XS.icmpNo X136.here hx rfl (hb hby d7_18) rfl (tlt (by decide)).2.1 ?_
    show Steps p.tables e below (T136.setTop (mkF m 21 #[.val (.ref a1), .val (.long ((0 : Int64) + c0)), .second, .val (.ref cb), .val (.int (3 : Int32)), .val (.int (1 : Int32)), .val (.long c0), .second] [])) _
    refine XS.aloadN X136.here hx rfl (hb hby d7_21) rfl rfl ?_
    show Steps p.tables e below (T136.setTop (mkF m 22 #[.val (.ref a1), .val (.long ((0 : Int64) + c0)), .second, .val (.ref cb), .val (.int (3 : Int32)), .val (.int (1 : Int32)), .val (.long c0), .second] [(.ref cb)])) _
    refine XS.iload X136.here hx rfl (hb hby d7_22) rfl ?_
    show Steps p.tables e below (T136.setTop (mkF m 24 #[.val (.ref a1), .val (.long ((0 : Int64) + c0)), .second, .val (.ref cb), .val (.int (3 : Int32)), .val (.int (1 : Int32)), .val (.long c0), .second] [(.int (1 : Int32)), (.ref cb)])) _
    refine X136.laload hx (j := (1 : Int32)) (v := (.long c1)) (by rw [e136]; exact r139.1) (State.isArrayOf_alike hZ.alike r139.2.1) r139.2.2 i139 a139 (g := (mkF m 24 #[.val (.ref a1), .val (.long ((0 : Int64) + c0)), .second, .val (.ref cb), .val (.int (3 : Int32)), .val (.int (1 : Int32)), .val (.long c0), .second] [(.int (1 : Int32)), (.ref cb)])) rfl rfl (hb hby d7_24) _ ?_
    show Steps p.tables e below (T136.setTop (mkF m 25 #[.val (.ref a1), .val (.long ((0 : Int64) + c0)), .second, .val (.ref cb), .val (.int (3 : Int32)), .val (.int (1 : Int32)), .val (.long c0), .second] [(.long c1)])) _
    refine XS.lstore X136.here hx rfl (hb hby d7_25) rfl (l' := #[.val (.ref a1), .val (.long ((0 : Int64) + c0)), .second, .val (.ref cb), .val (.int (3 : Int32)), .val (.int (1 : Int32)), .val (.long c1), .second]) rfl ?_
    show Steps p.tables e below (T136.setTop (mkF m 27 #[.val (.ref a1), .val (.long ((0 : Int64) + c0)), .second, .val (.ref cb), .val (.int (3 : Int32)), .val (.int (1 : Int32)), .val (.long c1), .second] [])) _
    refine XS.lloadN X136.here hx rfl (hb hby d7_27) rfl ?_
    show Steps p.tables e below (T136.setTop (mkF m 28 #[.val (.ref a1), .val (.long ((0 : Int64) + c0)), .second, .val (.ref cb), .val (.int (3 : Int32)), .val (.int (1 : Int32)), .val (.long c1), .second] [(.long ((0 : Int64) + c0))])) _
    refine XS.lload X136.here hx rfl (hb hby d7_28) rfl ?_
    show Steps p.tables e below (T136.setTop (mkF m 30 #[.val (.ref a1), .val (.long ((0 : Int64) + c0)), .second, .val (.ref cb), .val (.int (3 : Int32)), .val (.int (1 : Int32)), .val (.long c1), .second] [(.long c1), (.long ((0 : Int64) + c0))])) _
    refine XS.ladd X136.here hx rfl (hb hby d7_30) rfl ?_
    show Steps p.tables e below (T136.setTop (mkF m 31 #[.val (.ref a1), .val (.long ((0 : Int64) + c0)), .second, .val (.ref cb), .val (.int (3 : Int32)), .val (.int (1 : Int32)), .val (.long c1), .second] [(.long (((0 : Int64) + c0) + c1))])) _
    refine XS.lstoreN X136.here hx rfl (hb hby d7_31) rfl (l' := #[.val (.ref a1), .val (.long (((0 : Int64) + c0) + c1)), .second, .val (.ref cb), .val (.int (3 : Int32)), .val (.int (1 : Int32)), .val (.long c1), .second]) rfl ?_
    show Steps p.tables e below (T136.setTop (mkF m 32 #[.val (.ref a1), .val (.long (((0 : Int64) + c0) + c1)), .second, .val (.ref cb), .val (.int (3 : Int32)), .val (.int (1 : Int32)), .val (.long c1), .second] [])) _
    refine XS.iinc X136.here hx rfl (hb hby d7_32) rfl (l' := #[.val (.ref a1), .val (.long (((0 : Int64) + c0) + c1)), .second, .val (.ref cb), .val (.int (3 : Int32)), .val (.int (2 : Int32)), .val (.long c1), .second]) rfl ?_
    show Steps p.tables e below (T136.setTop (mkF m 35 #[.val (.ref a1), .val (.long (((0 : Int64) + c0) + c1)), .second, .val (.ref cb), .val (.int (3 : Int32)), .val (.int (2 : Int32)), .val (.long c1), .second] [])) _
    refine XS.goto X136.here hx rfl (pc0 := 35) (pc' := 14) rfl (hb hby d7_35) (by decide) (by decide) ?_
    show Steps p.tables e below (T136.setTop (mkF m 14 #[.val (.ref a1), .val (.long (((0 : Int64) + c0) + c1)), .second, .val (.ref cb), .val (.int (3 : Int32)), .val (.int (2 : Int32)), .val (.long c1), .second] [])) _
    refine XS.iload X136.here hx rfl (hb hby d7_14) rfl ?_
    show Steps p.tables e below (T136.setTop (mkF m 16 #[.val (.ref a1), .val (.long (((0 : Int64) + c0) + c1)), .second, .val (.ref cb), .val (.int (3 : Int32)), .val (.int (2 : Int32)), .val (.long c1), .second] [(.int (2 : Int32))])) _
    refine XS.iload X136.here hx rfl (hb hby d7_16) rfl ?_
    show Steps p.tables e below (T136.setTop (mkF m 18 #[.val (.ref a1), .val (.long (((0 : Int64) + c0) + c1)), .second, .val (.ref cb), .val (.int (3 : Int32)), .val (.int (2 : Int32)), .val (.long c1), .second] [(.int (3 : Int32)), (.int (2 : Int32))])) _
    refine XS.icmpNo X136.here hx rfl (hb hby d7_18) rfl (tlt (by decide)).2.1 ?_
    show Steps p.tables e below (T136.setTop (mkF m 21 #[.val (.ref a1), .val (.long (((0 : Int64) + c0) + c1)), .second, .val (.ref cb), .val (.int (3 : Int32)), .val (.int (2 : Int32)), .val (.long c1), .second] [])) _
    refine XS.aloadN X136.here hx rfl (hb hby d7_21) rfl rfl ?_
    show Steps p.tables e below (T136.setTop (mkF m 22 #[.val (.ref a1), .val (.long (((0 : Int64) + c0) + c1)), .second, .val (.ref cb), .val (.int (3 : Int32)), .val (.int (2 : Int32)), .val (.long c1), .second] [(.ref cb)])) _
    refine XS.iload X136.here hx rfl (hb hby d7_22) rfl ?_
    show Steps p.tables e below (T136.setTop (mkF m 24 #[.val (.ref a1), .val (.long (((0 : Int64) + c0) + c1)), .second, .val (.ref cb), .val (.int (3 : Int32)), .val (.int (2 : Int32)), .val (.long c1), .second] [(.int (2 : Int32)), (.ref cb)])) _
    refine X136.laload hx (j := (2 : Int32)) (v := (.long c2)) (by rw [e136]; exact r140.1) (State.isArrayOf_alike hZ.alike r140.2.1) r140.2.2 i140 a140 (g := (mkF m 24 #[.val (.ref a1), .val (.long (((0 : Int64) + c0) + c1)), .second, .val (.ref cb), .val (.int (3 : Int32)), .val (.int (2 : Int32)), .val (.long c1), .second] [(.int (2 : Int32)), (.ref cb)])) rfl rfl (hb hby d7_24) _ ?_
    show Steps p.tables e below (T136.setTop (mkF m 25 #[.val (.ref a1), .val (.long (((0 : Int64) + c0) + c1)), .second, .val (.ref cb), .val (.int (3 : Int32)), .val (.int (2 : Int32)), .val (.long c1), .second] [(.long c2)])) _
    refine XS.lstore X136.here hx rfl (hb hby d7_25) rfl (l' := #[.val (.ref a1), .val (.long (((0 : Int64) + c0) + c1)), .second, .val (.ref cb), .val (.int (3 : Int32)), .val (.int (2 : Int32)), .val (.long c2), .second]) rfl ?_
    show Steps p.tables e below (T136.setTop (mkF m 27 #[.val (.ref a1), .val (.long (((0 : Int64) + c0) + c1)), .second, .val (.ref cb), .val (.int (3 : Int32)), .val (.int (2 : Int32)), .val (.long c2), .second] [])) _
    refine XS.lloadN X136.here hx rfl (hb hby d7_27) rfl ?_
    show Steps p.tables e below (T136.setTop (mkF m 28 #[.val (.ref a1), .val (.long (((0 : Int64) + c0) + c1)), .second, .val (.ref cb), .val (.int (3 : Int32)), .val (.int (2 : Int32)), .val (.long c2), .second] [(.long (((0 : Int64) + c0) + c1))])) _
    refine XS.lload X136.here hx rfl (hb hby d7_28) rfl ?_
    show Steps p.tables e below (T136.setTop (mkF m 30 #[.val (.ref a1), .val (.long (((0 : Int64) + c0) + c1)), .second, .val (.ref cb), .val (.int (3 : Int32)), .val (.int (2 : Int32)), .val (.long c2), .second] [(.long c2), (.long (((0 : Int64) + c0) + c1))])) _
    refine XS.ladd X136.here hx rfl (hb hby d7_30) rfl ?_
    show Steps p.tables e below (T136.setTop (mkF m 31 #[.val (.ref a1), .val (.long (((0 : Int64) + c0) + c1)), .second, .val (.ref cb), .val (.int (3 : Int32)), .val (.int (2 : Int32)), .val (.long c2), .second] [(.long ((((0 : Int64) + c0) + c1) + c2))])) _
    refine XS.lstoreN X136.here hx rfl (hb hby d7_31) rfl (l' := #[.val (.ref a1), .val (.long ((((0 : Int64) + c0) + c1) + c2)), .second, .val (.ref cb), .val (.int (3 : Int32)), .val (.int (2 : Int32)), .val (.long c2), .second]) rfl ?_
    show Steps p.tables e below (T136.setTop (mkF m 32 #[.val (.ref a1), .val (.long ((((0 : Int64) + c0) + c1) + c2)), .second, .val (.ref cb), .val (.int (3 : Int32)), .val (.int (2 : Int32)), .val (.long c2), .second] [])) _
    refine XS.iinc X136.here hx rfl (hb hby d7_32) rfl (l' := #[.val (.ref a1), .val (.long ((((0 : Int64) + c0) + c1) + c2)), .second, .val (.ref cb), .val (.int (3 : Int32)), .val (.int (3 : Int32)), .val (.long c2), .second]) rfl ?_
    show Steps p.tables e below (T136.setTop (mkF m 35 #[.val (.ref a1), .val (.long ((((0 : Int64) + c0) + c1) + c2)), .second, .val (.ref cb), .val (.int (3 : Int32)), .val (.int (3 : Int32)), .val (.long c2), .second] [])) _
    refine XS.goto X136.here hx rfl (pc0 := 35) (pc' := 14) rfl (hb hby d7_35) (by decide) (by decide) ?_
    show Steps p.tables e below (T136.setTop (mkF m 14 #[.val (.ref a1), .val (.long ((((0 : Int64) + c0) + c1) + c2)), .second, .val (.ref cb), .val (.int (3 : Int32)), .val (.int (3 : Int32)), .val (.long c2), .second] [])) _
    refine XS.iload X136.here hx rfl (hb hby d7_14) rfl ?_
    show Steps p.tables e below (T136.setTop (mkF m 16 #[.val (.ref a1), .val (.long ((((0 : Int64) + c0) + c1) + c2)), .second, .val (.ref cb), .val (.int (3 : Int32)), .val (.int (3 : Int32)), .val (.long c2), .second] [(.int (3 : Int32))])) _
    refine XS.iload X136.here hx rfl (hb hby d7_16) rfl ?_
    show Steps p.tables e below (T136.setTop (mkF m 18 #[.val (.ref a1), .val (.long ((((0 : Int64) + c0) + c1) + c2)), .second, .val (.ref cb), .val (.int (3 : Int32)), .val (.int (3 : Int32)), .val (.long c2), .second] [(.int (3 : Int32)), (.int (3 : Int32))])) _
    refine XS.icmpYes X136.here hx rfl (pc0 := 18) (pc' := 38) rfl (hb hby d7_18) rfl (flt (by decide)).2.1 (by decide) (by decide) ?_
    show Steps p.tables e below (T136.setTop (mkF m 38 #[.val (.ref a1), .val (.long ((((0 : Int64) + c0) + c1) + c2)), .second, .val (.ref cb), .val (.int (3 : Int32)), .val (.int (3 : Int32)), .val (.long c2), .second] [])) _
    refine XS.lloadN X136.here hx rfl (hb hby d7_38) rfl ?_
    show Steps p.tables e below (T136.setTop (mkF m 39 #[.val (.ref a1), .val (.long ((((0 : Int64) + c0) + c1) + c2)), .second, .val (.ref cb), .val (.int (3 : Int32)), .val (.int (3 : Int32)), .val (.long c2), .second] [(.long ((((0 : Int64) + c0) + c1) + c2))])) _
    exact retOut X136 hx Bd.returns rfl (Or.inr (Or.inl ⟨rfl, rfl, _, rfl⟩)) (hb hby d7_39) hr
  · show Qrm7 Z a1 cb kc c0 c1 c2 h0 n0 _ T136.heap _
    rw [e136]
    exact ⟨by rw [Int64.zero_add], N0, rfl⟩
theorem d14_0 : decode jdk_38_method_8_code 0 = .ok (.aload_n 0, 1) := by decide +kernel
theorem d14_1 : decode jdk_38_method_8_code 1 = .ok (.getfield 48, 3) := by decide +kernel
theorem d14_4 : decode jdk_38_method_8_code 4 = .ok (.ireturn, 1) := by decide +kernel
theorem ef_rm14 (m : MethodId) (a1 : Addr) : entryFrame m #[(.ref a1)] 1 = mkF m 0 #[.val (.ref a1)] [] := by first | (simp [entryFrame, mkF, argsToLocals, Value.category]; done) | rfl
def Qrm14 (Z : State) (a1 : Addr) (sz : Int32) (h0 : Heap) (n0 : Nat) (v : Option Value) (h : Heap) (L : List Loc) : Prop := v = some (.int sz) ∧ Fr n0 L ∧ h = h0
set_option maxRecDepth 65536 in
set_option maxHeartbeats 40000000 in
theorem rm14 (l : Launch) (Z : State) (a0 : Array Value) (hw : ∀ d ∈ tables_1, d.before a0 Z = true) (ws : List Jvm.Cond) (a1 : Addr) (sz : Int32) (h0 : Heap) (n0 : Nat) (Z0 : n0 ≤ h0.size) (Fs : Fld Z h0 a1 "java/util/ArrayList" "size" "I" (.int sz)) :
    MetFree l (⟨"java/util/ArrayList", "size", "()I"⟩ : MethodName) (head1 (Jvm.Cond.code (⟨"java/util/ArrayList", "size", "()I"⟩ : MethodName) jdk_38_method_8_code 1 (some .int) :: ws) ({ frames := 0, cells := 0, slots := 0, locals := 0 } : Room)) (fun a U => a = #[(.ref a1)] ∧ Z.Warmed39 U.vm ∧ U.heap = h0) (fun _ _ _ _ _ => True) (fun _ U o U' => ∃ v L, o = .returned v ∧ Qrm14 Z a1 sz h0 n0 v U'.heap L ∧ FrameEnd U o U' L ({ frames := 0, cells := 0, slots := 0, locals := 0 } : Room).cells ({ frames := 0, cells := 0, slots := 0, locals := 0 } : Room).slots) := by
  refine MetFree.of_bodySF (plainFor_of_name pn_java_util_ArrayList) hisR ?_
  intro p e s m args below meth c s₁ Bd hml0 hP hK
  obtain ⟨rfl, hZ, hh⟩ := hP
  have hx := Bd.exec
  have hby := Bd.bytes
  have hml : c.maxLocals = 1 := hml0
  have hown : s.vm.findClass "java/util/ArrayList" = some m.cls := findClass_of_methodNamed Bd.named
  have hnm := (name_of_methodNamed Bd.named Bd.method).1
  have X0 : Stand p l e ({ frames := 0, cells := 0, slots := 0, locals := 0 } : Room) s m #[(.ref a1)] below meth c s₁ [] 0 0 := Stand.of_body Bd
  have e0 : s₁.heap = h0 := by rw [← hh, Bd.state]; rfl
  have N0 := Fr.nil n0
  have pre0 : ∀ t, Steps p.tables e below (s₁.setTop (mkF m 0 #[.val (.ref a1)] [])) t → Steps p.tables e below (s₁.setTop (entryFrame m #[(.ref a1)] 1)) t := fun t k => castTop (ef_rm14 m a1) k
  obtain ⟨T141, X141, e141, st141⟩ := getF X0 hx hZ hown (host := "") (Or.inl (hw _ (List.mem_of_getElem? (i := 127) rfl))) Via.refl e0 Fs (g := (mkF m 1 #[.val (.ref a1)] [(.ref a1)])) rfl rfl (hb hby d14_1)
  obtain ⟨fs, hr, hrun, hended, hW, hsame⟩ := X141.leave (v := some (.int sz)) (fun h => by rw [Bd.returns] at h; cases h)
  refine ⟨_, _, pre0 _ ?_, hrun, hended, _, _, rfl, ?_, ⟨_, rfl⟩, hW, hsame.mono (by decide) (by decide)⟩
  · show Steps p.tables e below (s₁.setTop (mkF m 0 #[.val (.ref a1)] [])) _
    refine XS.aloadN X0.here hx rfl (hb hby d14_0) rfl rfl ?_
    show Steps p.tables e below (s₁.setTop (mkF m 1 #[.val (.ref a1)] [(.ref a1)])) _
    refine st141 _ ?_
    show Steps p.tables e below (T141.setTop (mkF m 4 #[.val (.ref a1)] [(.int sz)])) _
    exact retI X141 hx Bd.returns (hb hby d14_4) hr
  · show Qrm14 Z a1 sz h0 n0 _ T141.heap _
    rw [e141]
    exact ⟨rfl, N0, rfl⟩
theorem d19_0 : decode jdk_38_method_6_code 0 = .ok (.aload_n 0, 1) := by decide +kernel
theorem d19_1 : decode jdk_38_method_6_code 1 = .ok (.getfield 9, 3) := by decide +kernel
theorem d19_4 : decode jdk_38_method_6_code 4 = .ok (.arraylength, 1) := by decide +kernel
theorem d19_5 : decode jdk_38_method_6_code 5 = .ok (.istore_n 2, 1) := by decide +kernel
theorem d19_6 : decode jdk_38_method_6_code 6 = .ok (.iload_n 2, 1) := by decide +kernel
theorem d19_7 : decode jdk_38_method_6_code 7 = .ok (.ifCond .gt 13, 3) := by decide +kernel
theorem d19_10 : decode jdk_38_method_6_code 10 = .ok (.aload_n 0, 1) := by decide +kernel
theorem d19_11 : decode jdk_38_method_6_code 11 = .ok (.getfield 9, 3) := by decide +kernel
theorem d19_14 : decode jdk_38_method_6_code 14 = .ok (.getstatic 39, 3) := by decide +kernel
theorem d19_17 : decode jdk_38_method_6_code 17 = .ok (.if_acmp .eq 28, 3) := by decide +kernel
theorem d19_45 : decode jdk_38_method_6_code 45 = .ok (.aload_n 0, 1) := by decide +kernel
theorem d19_46 : decode jdk_38_method_6_code 46 = .ok (.bipush 10, 2) := by decide +kernel
theorem d19_48 : decode jdk_38_method_6_code 48 = .ok (.iload_n 1, 1) := by decide +kernel
theorem d19_49 : decode jdk_38_method_6_code 49 = .ok (.invokestatic 79, 3) := by decide +kernel
theorem pd__II_I : parseMethodDescriptor "(II)I" = some ⟨[.int, .int], some .int⟩ := by decide +kernel
theorem d19_52 : decode jdk_38_method_6_code 52 = .ok (.anewarray 7, 3) := by decide +kernel
theorem d19_55 : decode jdk_38_method_6_code 55 = .ok (.dup_x1, 1) := by decide +kernel
theorem d19_56 : decode jdk_38_method_6_code 56 = .ok (.putfield 9, 3) := by decide +kernel
theorem d19_59 : decode jdk_38_method_6_code 59 = .ok (.areturn, 1) := by decide +kernel
theorem ef_rm19 (m : MethodId) (a1 : Addr) : entryFrame m #[(.ref a1), (.int (1 : Int32))] 4 = mkF m 0 #[.val (.ref a1), .val (.int (1 : Int32)), .unset, .unset] [] := by first | (simp [entryFrame, mkF, argsToLocals, Value.category]; done) | rfl
def Qrm19 (Z : State) (a1 : Addr) (dce : Addr) (kd : ClassId) (mc : Int32) (h0 : Heap) (n0 : Nat) (v : Option Value) (h : Heap) (L : List Loc) : Prop := ∃ (ed : Addr) (ke : ClassId), v = some (.ref ed) ∧ Fr n0 L ∧ Keep h0 h [a1] ∧ n0 ≤ ed ∧ h0.size ≤ ed ∧ Fld Z h a1 "java/util/ArrayList" "elementData" "[Ljava/lang/Object;" (.ref ed) ∧ Fld Z h a1 "java/util/ArrayList" "size" "I" (.int (0 : Int32)) ∧ Fld Z h a1 "java/util/AbstractList" "modCount" "I" (.int mc) ∧ Arv Z h ed ke (.object "java/lang/Object") (10 : Int32) [.null, .null, .null, .null, .null, .null, .null, .null, .null, .null] .null ∧ Ovr Z ke "java/lang/Object"
set_option maxRecDepth 65536 in
set_option maxHeartbeats 40000000 in
theorem rm19 (l : Launch) (Z : State) (a0 : Array Value) (hw : ∀ d ∈ tables_1, d.before a0 Z = true) (ws : List Jvm.Cond) (a1 : Addr) (dce : Addr) (kd : ClassId) (mc : Int32) (h0 : Heap) (n0 : Nat) (Z0 : n0 ≤ h0.size) (E1 : Exa Z h0 a1 "java/util/ArrayList") (Fm : Fld Z h0 a1 "java/util/AbstractList" "modCount" "I" (.int mc)) (Fe : Fld Z h0 a1 "java/util/ArrayList" "elementData" "[Ljava/lang/Object;" (.ref dce)) (Fs : Fld Z h0 a1 "java/util/ArrayList" "size" "I" (.int (0 : Int32))) (g1 : n0 ≤ a1) (X00 : Old Z n0 h0) (SD : Sta Z Z.heap "java/util/ArrayList" "DEFAULTCAPACITY_EMPTY_ELEMENTDATA" "[Ljava/lang/Object;" (.ref dce)) (AD : Arv Z Z.heap dce kd (.object "java/lang/Object") (0 : Int32) [] .null) :
    MetFree l (⟨"java/util/ArrayList", "grow", "(I)[Ljava/lang/Object;"⟩ : MethodName) (head1 (Jvm.Cond.code (⟨"java/util/ArrayList", "grow", "(I)[Ljava/lang/Object;"⟩ : MethodName) jdk_38_method_6_code 4 (some (.array (.object "java/lang/Object"))) :: ws) ({ frames := 1, cells := 1, slots := 10, locals := 14 } : Room)) (fun a U => a = #[(.ref a1), (.int (1 : Int32))] ∧ Z.Warmed39 U.vm ∧ U.heap = h0) (fun _ _ _ _ _ => True) (fun _ U o U' => ∃ v L, o = .returned v ∧ Qrm19 Z a1 dce kd mc h0 n0 v U'.heap L ∧ FrameEnd U o U' L ({ frames := 1, cells := 1, slots := 10, locals := 14 } : Room).cells ({ frames := 1, cells := 1, slots := 10, locals := 14 } : Room).slots) := by
  refine MetFree.of_bodySF (plainFor_of_name pn_java_util_ArrayList) hisR ?_
  intro p e s m args below meth c s₁ Bd hml0 hP hK
  obtain ⟨rfl, hZ, hh⟩ := hP
  have hx := Bd.exec
  have hby := Bd.bytes
  have hml : c.maxLocals = 4 := hml0
  have hown : s.vm.findClass "java/util/ArrayList" = some m.cls := findClass_of_methodNamed Bd.named
  have hnm := (name_of_methodNamed Bd.named Bd.method).1
  have X0 : Stand p l e ({ frames := 1, cells := 1, slots := 10, locals := 14 } : Room) s m #[(.ref a1), (.int (1 : Int32))] below meth c s₁ [] 0 0 := Stand.of_body Bd
  have e0 : s₁.heap = h0 := by rw [← hh, Bd.state]; rfl
  have N0 := Fr.nil n0
  have pre0 : ∀ t, Steps p.tables e below (s₁.setTop (mkF m 0 #[.val (.ref a1), .val (.int (1 : Int32)), .unset, .unset] [])) t → Steps p.tables e below (s₁.setTop (entryFrame m #[(.ref a1), (.int (1 : Int32))] 4)) t := fun t k => castTop (ef_rm19 m a1) k
  have K0 := Keep.refl h0 [a1]
  obtain ⟨T142, X142, e142, st142⟩ := getF X0 hx hZ hown (host := "") (Or.inl (hw _ (List.mem_of_getElem? (i := 31) rfl))) Via.refl e0 Fe (g := (mkF m 1 #[.val (.ref a1), .val (.int (1 : Int32)), .unset, .unset] [(.ref a1)])) rfl rfl (hb hby d19_1)
  obtain ⟨c143, r143, q143, s143, n143, H143, G143⟩ := id (AD.ext X00.2)
  obtain ⟨T144, X144, e144, st144⟩ := getF X142 hx hZ hown (host := "") (Or.inl (hw _ (List.mem_of_getElem? (i := 31) rfl))) Via.refl e142 Fe (g := (mkF m 11 #[.val (.ref a1), .val (.int (1 : Int32)), .val (.int (0 : Int32)), .unset] [(.ref a1)])) rfl rfl (hb hby d19_11)
  obtain ⟨T145, X145, e145, st145⟩ := getS2 X144 hx hZ hown (host := "") (Or.inl (hw _ (List.mem_of_getElem? (i := 30) rfl))) Via.refl e144 (SD.ext X00.2) (g := (mkF m 14 #[.val (.ref a1), .val (.int (1 : Int32)), .val (.int (0 : Int32)), .unset] [(.ref dce)])) rfl (hb hby d19_14)
  obtain ⟨_, _, ⟨T146, L146, k146, n146⟩, -, X146, ⟨Lc146, hQ146, l146, y146, z146⟩, st146⟩ := Jvm.LawKit.callS X145 hx (y := (⟨"java/lang/Math", "max", "(II)I"⟩ : MethodName)) hown (mvT hZ (hw _ (List.mem_of_getElem? (i := 163) rfl))) (mvT hZ (hw _ (List.mem_of_getElem? (i := 164) rfl))) (mvT hZ (hw _ (List.mem_of_getElem? (i := 165) rfl))) (mvT hZ (hw _ (List.mem_of_getElem? (i := 166) rfl))) (by decide) (backOf (W := 1) (rm20 l Z a0 hw [] (10 : Int32) (1 : Int32)  h0 n0 Z0 ) hZ (hw _ (List.mem_of_getElem? (i := 166) rfl)) (hw _ (List.mem_of_getElem? (i := 165) rfl)) (by decide) (by decide)) (g := (mkF m 49 #[.val (.ref a1), .val (.int (1 : Int32)), .val (.int (0 : Int32)), .unset] [(.int (1 : Int32)), (.int (10 : Int32)), (.ref a1)])) rfl (by rw [hml]; rfl) (argsL := [(.int (10 : Int32)), (.int (1 : Int32))]) (rest := [(.ref a1)]) (lenOf pd__II_I rfl) rfl (by show 2 * 0 + _ ≤ _; exact Nat.le_of_eq rfl) (hb hby d19_49) (fun _ _ => ⟨rfl, e145, (by decide : 0 + 0 ≤ _), (by decide : 0 + 0 ≤ _)⟩)
  dsimp only [Pt.U, Pt.locs, Pt.cells, Pt.slots] at X146 l146 y146 z146 st146 hQ146
  subst l146 y146 z146
  obtain ⟨rfl, N146q, e146⟩ := hQ146
  have N147 := Fr.app N0 N146q
  obtain ⟨T148, h148, k148, X148, e148, E148, A148, O148, st148⟩ := newR X146 hx hZ hown (hw _ (List.mem_of_getElem? (i := 167) rfl)) (hw _ (List.mem_of_getElem? (i := 168) rfl)) e146 (g := (mkF m 52 #[.val (.ref a1), .val (.int (1 : Int32)), .val (.int (0 : Int32)), .unset] [(.int (10 : Int32)), (.ref a1)])) rfl (hb hby d19_52) rfl (by decide) (cap := 10) (by decide) (by decide) (by decide) (by decide)
  obtain ⟨b148, g148⟩ : ∃ z, z = h0.size := ⟨_, rfl⟩
  rw [← g148] at A148 st148
  have g149 : n0 ≤ b148 := Nat.le_trans Z0 (Nat.le_of_eq g148.symm)
  have sz150 : h0.size ≤ b148 := Nat.le_trans K0.1 (Nat.le_of_eq g148.symm)
  have ne151 : a1 ≠ b148 := Nat.ne_of_lt (Nat.lt_of_lt_of_le E1.lt (Nat.le_of_eq g148.symm))
  have f152 := E1.ext E148
  have f153 := Fm.ext E148
  have f154 := Fe.ext E148
  have f155 := Fs.ext E148
  have Zn156 := Nat.le_trans Z0 E148.1
  have Od157 := X00.ext E148
  have K158 := K0.ext E148
  have f159 := Arv.new A148 (by decide)
  have f160 : Arv Z h148 b148 k148 (.object "java/lang/Object") (10 : Int32) [.null, .null, .null, .null, .null, .null, .null, .null, .null, .null] .null := f159.pad (pad_rep [] .null 10)
  obtain ⟨T161, h161, X161, e161, W161, st161⟩ := putF X148 hx hZ hown (host := "") (Or.inl (hw _ (List.mem_of_getElem? (i := 31) rfl))) Via.refl e148 f154 f152 (Or.inl (hw _ (List.mem_of_getElem? (i := 32) rfl))) (hw _ (List.mem_of_getElem? (i := 10) rfl)) (ty := (.array (.object "java/lang/Object"))) (by decide) rfl rfl (g := (mkF m 56 #[.val (.ref a1), .val (.int (1 : Int32)), .val (.int (0 : Int32)), .unset] [(.ref b148), (.ref a1), (.ref b148)])) rfl rfl (hb hby d19_56)
  have f162 := f154.same W161
  have f163 := f152.wr W161
  have f164 := f153.other W161 (Or.inr (slot_ne (Or.inl (hw _ (List.mem_of_getElem? (i := 29) rfl))) (Or.inl (hw _ (List.mem_of_getElem? (i := 32) rfl))) (by decide) (t := .int) (t' := (.array (.object "java/lang/Object"))) (by decide) (by decide)))
  have f165 := f155.other W161 (Or.inr (slot_ne (Or.inl (hw _ (List.mem_of_getElem? (i := 128) rfl))) (Or.inl (hw _ (List.mem_of_getElem? (i := 32) rfl))) (by decide) (t := .int) (t' := (.array (.object "java/lang/Object"))) (by decide) (by decide)))
  have f166 := f160.other W161 (Ne.symm ne151)
  have Zn167 := Nat.le_trans Zn156 (Keep.of_wr W161).1
  have Od168 := Od157.wr W161 g1
  have N169 := Fr.snoc X161 N147 g1
  have K170 := K158.wr W161 (Or.inl (List.mem_of_getElem? (i := 0) rfl))
  obtain ⟨fs, hr, hrun, hended, hW, hsame⟩ := X161.leave (v := some (.ref b148)) (fun h => by rw [Bd.returns] at h; cases h)
  refine ⟨_, _, pre0 _ ?_, hrun, hended, _, _, rfl, ?_, ⟨_, rfl⟩, hW, hsame.mono (by decide) (by decide)⟩
  · show Steps p.tables e below (s₁.setTop (mkF m 0 #[.val (.ref a1), .val (.int (1 : Int32)), .unset, .unset] [])) _
    refine XS.aloadN X0.here hx rfl (hb hby d19_0) rfl rfl ?_
    show Steps p.tables e below (s₁.setTop (mkF m 1 #[.val (.ref a1), .val (.int (1 : Int32)), .unset, .unset] [(.ref a1)])) _
    refine st142 _ ?_
    show Steps p.tables e below (T142.setTop (mkF m 4 #[.val (.ref a1), .val (.int (1 : Int32)), .unset, .unset] [(.ref dce)])) _
    refine X142.arraylength hx (by rw [e142]; exact r143.1) (State.isArrayOf_alike hZ.alike r143.2.1) (g := (mkF m 4 #[.val (.ref a1), .val (.int (1 : Int32)), .unset, .unset] [(.ref dce)])) rfl rfl (hb hby d19_4) _ ?_
    rw [len_of s143 n143]
    show Steps p.tables e below (T142.setTop (mkF m 5 #[.val (.ref a1), .val (.int (1 : Int32)), .unset, .unset] [(.int (0 : Int32))])) _
    refine XS.istoreN X142.here hx rfl (hb hby d19_5) rfl (l' := #[.val (.ref a1), .val (.int (1 : Int32)), .val (.int (0 : Int32)), .unset]) rfl ?_
    show Steps p.tables e below (T142.setTop (mkF m 6 #[.val (.ref a1), .val (.int (1 : Int32)), .val (.int (0 : Int32)), .unset] [])) _
    refine XS.iloadN X142.here hx rfl (hb hby d19_6) rfl ?_
    show Steps p.tables e below (T142.setTop (mkF m 7 #[.val (.ref a1), .val (.int (1 : Int32)), .val (.int (0 : Int32)), .unset] [(.int (0 : Int32))])) _
    refine XS.ifNo X142.here hx rfl (hb hby d19_7) rfl ((if0 _ _).trans (flt (by decide)).2.2.1) ?_
    show Steps p.tables e below (T142.setTop (mkF m 10 #[.val (.ref a1), .val (.int (1 : Int32)), .val (.int (0 : Int32)), .unset] [])) _
    refine XS.aloadN X142.here hx rfl (hb hby d19_10) rfl rfl ?_
    show Steps p.tables e below (T142.setTop (mkF m 11 #[.val (.ref a1), .val (.int (1 : Int32)), .val (.int (0 : Int32)), .unset] [(.ref a1)])) _
    refine st144 _ ?_
    show Steps p.tables e below (T144.setTop (mkF m 14 #[.val (.ref a1), .val (.int (1 : Int32)), .val (.int (0 : Int32)), .unset] [(.ref dce)])) _
    refine st145 _ ?_
    show Steps p.tables e below (T145.setTop (mkF m 17 #[.val (.ref a1), .val (.int (1 : Int32)), .val (.int (0 : Int32)), .unset] [(.ref dce), (.ref dce)])) _
    refine Jvm.RoadKit.acmp (g := (mkF m 17 #[.val (.ref a1), .val (.int (1 : Int32)), .val (.int (0 : Int32)), .unset] [(.ref dce), (.ref dce)])) X145 hx rfl rfl rfl (pc0 := 17) (pc' := 45) (same := true) rfl (hb hby d19_17) rfl (decide_eq_true rfl) (by decide) (by decide) ?_
    show Steps p.tables e below (T145.setTop (mkF m 45 #[.val (.ref a1), .val (.int (1 : Int32)), .val (.int (0 : Int32)), .unset] [])) _
    refine XS.aloadN X145.here hx rfl (hb hby d19_45) rfl rfl ?_
    show Steps p.tables e below (T145.setTop (mkF m 46 #[.val (.ref a1), .val (.int (1 : Int32)), .val (.int (0 : Int32)), .unset] [(.ref a1)])) _
    refine XS.bipush X145.here hx rfl (hb hby d19_46) ?_
    show Steps p.tables e below (T145.setTop (mkF m 48 #[.val (.ref a1), .val (.int (1 : Int32)), .val (.int (0 : Int32)), .unset] [(.int (10 : Int32)), (.ref a1)])) _
    refine XS.iloadN X145.here hx rfl (hb hby d19_48) rfl ?_
    show Steps p.tables e below (T145.setTop (mkF m 49 #[.val (.ref a1), .val (.int (1 : Int32)), .val (.int (0 : Int32)), .unset] [(.int (1 : Int32)), (.int (10 : Int32)), (.ref a1)])) _
    refine st146 _ ?_
    show Steps p.tables e below (T146.setTop (mkF m 52 #[.val (.ref a1), .val (.int (1 : Int32)), .val (.int (0 : Int32)), .unset] [(.int (10 : Int32)), (.ref a1)])) _
    refine st148 _ ?_
    show Steps p.tables e below (T148.setTop (mkF m 55 #[.val (.ref a1), .val (.int (1 : Int32)), .val (.int (0 : Int32)), .unset] [(.ref b148), (.ref a1)])) _
    refine XS.dupX1 X148.here hx rfl (hb hby d19_55) rfl rfl rfl ?_
    show Steps p.tables e below (T148.setTop (mkF m 56 #[.val (.ref a1), .val (.int (1 : Int32)), .val (.int (0 : Int32)), .unset] [(.ref b148), (.ref a1), (.ref b148)])) _
    refine st161 _ ?_
    show Steps p.tables e below (T161.setTop (mkF m 59 #[.val (.ref a1), .val (.int (1 : Int32)), .val (.int (0 : Int32)), .unset] [(.ref b148)])) _
    exact retOut X161 hx Bd.returns rfl (Or.inr (Or.inr (Or.inr (Or.inr ⟨rfl, rfl, rfl⟩)))) (hb hby d19_59) hr
  · show Qrm19 Z a1 dce kd mc h0 n0 _ T161.heap _
    rw [e161]
    exact ⟨_, _, rfl, N169, K170, g149, sz150, f162, f165, f164, f166, O148⟩
theorem d18_0 : decode jdk_38_method_7_code 0 = .ok (.aload_n 0, 1) := by decide +kernel
theorem d18_1 : decode jdk_38_method_7_code 1 = .ok (.aload_n 0, 1) := by decide +kernel
theorem d18_2 : decode jdk_38_method_7_code 2 = .ok (.getfield 48, 3) := by decide +kernel
theorem d18_5 : decode jdk_38_method_7_code 5 = .ok (.iconst 1, 1) := by decide +kernel
theorem d18_6 : decode jdk_38_method_7_code 6 = .ok (.iadd, 1) := by decide +kernel
theorem d18_7 : decode jdk_38_method_7_code 7 = .ok (.invokevirtual 69, 3) := by decide +kernel
theorem pd__I__Ljava_lang_Object_ : parseMethodDescriptor "(I)[Ljava/lang/Object;" = some ⟨[.int], some (.array (.object "java/lang/Object"))⟩ := by decide +kernel
theorem d18_10 : decode jdk_38_method_7_code 10 = .ok (.areturn, 1) := by decide +kernel
theorem ef_rm18 (m : MethodId) (a1 : Addr) : entryFrame m #[(.ref a1)] 1 = mkF m 0 #[.val (.ref a1)] [] := by first | (simp [entryFrame, mkF, argsToLocals, Value.category]; done) | rfl
def Qrm18 (Z : State) (a1 : Addr) (dce : Addr) (kd : ClassId) (mc : Int32) (h0 : Heap) (n0 : Nat) (v : Option Value) (h : Heap) (L : List Loc) : Prop := ∃ (ed : Addr) (ke : ClassId), v = some (.ref ed) ∧ Fr n0 L ∧ Keep h0 h [a1] ∧ n0 ≤ ed ∧ h0.size ≤ ed ∧ Fld Z h a1 "java/util/ArrayList" "elementData" "[Ljava/lang/Object;" (.ref ed) ∧ Fld Z h a1 "java/util/ArrayList" "size" "I" (.int (0 : Int32)) ∧ Fld Z h a1 "java/util/AbstractList" "modCount" "I" (.int mc) ∧ Arv Z h ed ke (.object "java/lang/Object") (10 : Int32) [.null, .null, .null, .null, .null, .null, .null, .null, .null, .null] .null ∧ Ovr Z ke "java/lang/Object"
set_option maxRecDepth 65536 in
set_option maxHeartbeats 40000000 in
theorem rm18 (l : Launch) (Z : State) (a0 : Array Value) (hw : ∀ d ∈ tables_1, d.before a0 Z = true) (ws : List Jvm.Cond) (a1 : Addr) (dce : Addr) (kd : ClassId) (mc : Int32) (h0 : Heap) (n0 : Nat) (Z0 : n0 ≤ h0.size) (E1 : Exa Z h0 a1 "java/util/ArrayList") (Fm : Fld Z h0 a1 "java/util/AbstractList" "modCount" "I" (.int mc)) (Fe : Fld Z h0 a1 "java/util/ArrayList" "elementData" "[Ljava/lang/Object;" (.ref dce)) (Fs : Fld Z h0 a1 "java/util/ArrayList" "size" "I" (.int (0 : Int32))) (g1 : n0 ≤ a1) (X00 : Old Z n0 h0) (SD : Sta Z Z.heap "java/util/ArrayList" "DEFAULTCAPACITY_EMPTY_ELEMENTDATA" "[Ljava/lang/Object;" (.ref dce)) (AD : Arv Z Z.heap dce kd (.object "java/lang/Object") (0 : Int32) [] .null) :
    MetFree l (⟨"java/util/ArrayList", "grow", "()[Ljava/lang/Object;"⟩ : MethodName) (head1 (Jvm.Cond.code (⟨"java/util/ArrayList", "grow", "()[Ljava/lang/Object;"⟩ : MethodName) jdk_38_method_7_code 1 (some (.array (.object "java/lang/Object"))) :: ws) ({ frames := 2, cells := 1, slots := 10, locals := 29 } : Room)) (fun a U => a = #[(.ref a1)] ∧ Z.Warmed39 U.vm ∧ U.heap = h0) (fun _ _ _ _ _ => True) (fun _ U o U' => ∃ v L, o = .returned v ∧ Qrm18 Z a1 dce kd mc h0 n0 v U'.heap L ∧ FrameEnd U o U' L ({ frames := 2, cells := 1, slots := 10, locals := 29 } : Room).cells ({ frames := 2, cells := 1, slots := 10, locals := 29 } : Room).slots) := by
  refine MetFree.of_bodySF (plainFor_of_name pn_java_util_ArrayList) hisR ?_
  intro p e s m args below meth c s₁ Bd hml0 hP hK
  obtain ⟨rfl, hZ, hh⟩ := hP
  have hx := Bd.exec
  have hby := Bd.bytes
  have hml : c.maxLocals = 1 := hml0
  have hown : s.vm.findClass "java/util/ArrayList" = some m.cls := findClass_of_methodNamed Bd.named
  have hnm := (name_of_methodNamed Bd.named Bd.method).1
  have X0 : Stand p l e ({ frames := 2, cells := 1, slots := 10, locals := 29 } : Room) s m #[(.ref a1)] below meth c s₁ [] 0 0 := Stand.of_body Bd
  have e0 : s₁.heap = h0 := by rw [← hh, Bd.state]; rfl
  have N0 := Fr.nil n0
  have pre0 : ∀ t, Steps p.tables e below (s₁.setTop (mkF m 0 #[.val (.ref a1)] [])) t → Steps p.tables e below (s₁.setTop (entryFrame m #[(.ref a1)] 1)) t := fun t k => castTop (ef_rm18 m a1) k
  have K0 := Keep.refl h0 [a1]
  obtain ⟨T171, X171, e171, st171⟩ := getF X0 hx hZ hown (host := "") (Or.inl (hw _ (List.mem_of_getElem? (i := 127) rfl))) Via.refl e0 Fs (g := (mkF m 2 #[.val (.ref a1)] [(.ref a1), (.ref a1)])) rfl rfl (hb hby d18_2)
  obtain ⟨cq172, q172, q172'⟩ := E1.cell
  obtain ⟨_, _, ⟨T172, L172, k172, n172⟩, -, X172, ⟨Lc172, hQ172, l172, y172, z172⟩, st172⟩ := X171.privateBack hx (y := (⟨"java/util/ArrayList", "grow", "(I)[Ljava/lang/Object;"⟩ : MethodName)) hown (mvT hZ (hw _ (List.mem_of_getElem? (i := 158) rfl))) (mvT hZ (hw _ (List.mem_of_getElem? (i := 159) rfl))) (mvT hZ (hw _ (List.mem_of_getElem? (i := 161) rfl))) (Cond.privateMethod_at (mvP hZ (hw _ (List.mem_of_getElem? (i := 160) rfl)) (args := #[]))) (mvT hZ (hw _ (List.mem_of_getElem? (i := 162) rfl))) (by decide) (backOf (W := 0) (rm19 l Z a0 hw [] a1 dce kd mc h0 n0 Z0 E1 Fm Fe Fs g1 X00 SD AD) hZ (hw _ (List.mem_of_getElem? (i := 162) rfl)) (hw _ (List.mem_of_getElem? (i := 11) rfl)) (by decide) (by decide)) (g := (mkF m 7 #[.val (.ref a1)] [(.int (1 : Int32)), (.ref a1)])) rfl (by rw [hml]; rfl) (Steps.refl _) (a := a1) (by rw [e171]; exact q172) q172' (argsL := [(.int (1 : Int32))]) (rest := []) (lenOf pd__I__Ljava_lang_Object_ rfl) rfl (by show 2 * 0 + _ ≤ _; exact Nat.le_of_eq rfl) (hb hby d18_7) (fun _ _ => ⟨rfl, e171, (by decide : 0 + 1 ≤ _), (by decide : 0 + 10 ≤ _)⟩)
  dsimp only [Pt.U, Pt.locs, Pt.cells, Pt.slots] at X172 l172 y172 z172 st172 hQ172
  subst l172 y172 z172
  obtain ⟨ed, ke, rfl, N172q, Kg, ged, zed, Feg, Fsg, Fmg, Vg, Og⟩ := hQ172
  have N173 := Fr.app N0 N172q
  have f174 := E1.keep Kg
  have Zn175 := Nat.le_trans Z0 Kg.1
  have Od176 := X00.keep Kg (allS g1 all0)
  have K177 := K0.trans Kg (allS (Or.inl (List.mem_of_getElem? (i := 0) rfl)) all0)
  obtain ⟨fs, hr, hrun, hended, hW, hsame⟩ := X172.leave (v := some (.ref ed)) (fun h => by rw [Bd.returns] at h; cases h)
  refine ⟨_, _, pre0 _ ?_, hrun, hended, _, _, rfl, ?_, ⟨_, rfl⟩, hW, hsame.mono (by decide) (by decide)⟩
  · show Steps p.tables e below (s₁.setTop (mkF m 0 #[.val (.ref a1)] [])) _
    refine XS.aloadN X0.here hx rfl (hb hby d18_0) rfl rfl ?_
    show Steps p.tables e below (s₁.setTop (mkF m 1 #[.val (.ref a1)] [(.ref a1)])) _
    refine XS.aloadN X0.here hx rfl (hb hby d18_1) rfl rfl ?_
    show Steps p.tables e below (s₁.setTop (mkF m 2 #[.val (.ref a1)] [(.ref a1), (.ref a1)])) _
    refine st171 _ ?_
    show Steps p.tables e below (T171.setTop (mkF m 5 #[.val (.ref a1)] [(.int (0 : Int32)), (.ref a1)])) _
    refine XS.iconst X171.here hx rfl (hb hby d18_5) ?_
    show Steps p.tables e below (T171.setTop (mkF m 6 #[.val (.ref a1)] [(.int (1 : Int32)), (.int (0 : Int32)), (.ref a1)])) _
    refine XS.iadd X171.here hx rfl (hb hby d18_6) rfl ?_
    show Steps p.tables e below (T171.setTop (mkF m 7 #[.val (.ref a1)] [(.int (1 : Int32)), (.ref a1)])) _
    refine st172.trans ?_
    show Steps p.tables e below (T172.setTop (mkF m 10 #[.val (.ref a1)] [(.ref ed)])) _
    exact retOut X172 hx Bd.returns rfl (Or.inr (Or.inr (Or.inr (Or.inr ⟨rfl, rfl, rfl⟩)))) (hb hby d18_10) hr
  · show Qrm18 Z a1 dce kd mc h0 n0 _ T172.heap _
    exact ⟨_, _, rfl, N173, K177, ged, zed, Feg, Fsg, Fmg, Vg, Og⟩
theorem d17_0 : decode jdk_38_method_24_code 0 = .ok (.iload_n 3, 1) := by decide +kernel
theorem d17_1 : decode jdk_38_method_24_code 1 = .ok (.aload_n 2, 1) := by decide +kernel
theorem d17_2 : decode jdk_38_method_24_code 2 = .ok (.arraylength, 1) := by decide +kernel
theorem d17_3 : decode jdk_38_method_24_code 3 = .ok (.if_icmp .ne 8, 3) := by decide +kernel
theorem d17_6 : decode jdk_38_method_24_code 6 = .ok (.aload_n 0, 1) := by decide +kernel
theorem d17_7 : decode jdk_38_method_24_code 7 = .ok (.invokevirtual 129, 3) := by decide +kernel
theorem pd____Ljava_lang_Object_ : parseMethodDescriptor "()[Ljava/lang/Object;" = some ⟨[], some (.array (.object "java/lang/Object"))⟩ := by decide +kernel
theorem d17_10 : decode jdk_38_method_24_code 10 = .ok (.astore_n 2, 1) := by decide +kernel
theorem d17_11 : decode jdk_38_method_24_code 11 = .ok (.aload_n 2, 1) := by decide +kernel
theorem d17_12 : decode jdk_38_method_24_code 12 = .ok (.iload_n 3, 1) := by decide +kernel
theorem d17_13 : decode jdk_38_method_24_code 13 = .ok (.aload_n 1, 1) := by decide +kernel
theorem d17_14 : decode jdk_38_method_24_code 14 = .ok (.aastore, 1) := by decide +kernel
theorem d17_15 : decode jdk_38_method_24_code 15 = .ok (.aload_n 0, 1) := by decide +kernel
theorem d17_16 : decode jdk_38_method_24_code 16 = .ok (.iload_n 3, 1) := by decide +kernel
theorem d17_17 : decode jdk_38_method_24_code 17 = .ok (.iconst 1, 1) := by decide +kernel
theorem d17_18 : decode jdk_38_method_24_code 18 = .ok (.iadd, 1) := by decide +kernel
theorem d17_19 : decode jdk_38_method_24_code 19 = .ok (.putfield 48, 3) := by decide +kernel
theorem d17_22 : decode jdk_38_method_24_code 22 = .ok (.return_, 1) := by decide +kernel
theorem ef_rm17a (m : MethodId) (a1 : Addr) (a2 : Addr) (dce : Addr) : entryFrame m #[(.ref a1), (.ref a2), (.ref dce), (.int (0 : Int32))] 4 = mkF m 0 #[.val (.ref a1), .val (.ref a2), .val (.ref dce), .val (.int (0 : Int32))] [] := by first | (simp [entryFrame, mkF, argsToLocals, Value.category]; done) | rfl
def Qrm17a (Z : State) (a1 : Addr) (a2 : Addr) (dce : Addr) (kd : ClassId) (mc : Int32) (h0 : Heap) (n0 : Nat) (v : Option Value) (h : Heap) (L : List Loc) : Prop := v = none ∧ Fr n0 L ∧ Keep h0 h [a1] ∧ ∃ (ed : Addr) (ke : ClassId) (es : List Value) (mc' : Int32), n0 ≤ ed ∧ h0.size ≤ ed ∧ Fld Z h a1 "java/util/ArrayList" "elementData" "[Ljava/lang/Object;" (.ref ed) ∧ Fld Z h a1 "java/util/ArrayList" "size" "I" (.int (1 : Int32)) ∧ Fld Z h a1 "java/util/AbstractList" "modCount" "I" (.int mc') ∧ Arv Z h ed ke (.object "java/lang/Object") (10 : Int32) es .null ∧ es.length = 10 ∧ Ovr Z ke "java/lang/Object"
set_option maxRecDepth 65536 in
set_option maxHeartbeats 40000000 in
theorem rm17a (l : Launch) (Z : State) (a0 : Array Value) (hw : ∀ d ∈ tables_1, d.before a0 Z = true) (ws : List Jvm.Cond) (a1 : Addr) (a2 : Addr) (dce : Addr) (kd : ClassId) (mc : Int32) (h0 : Heap) (n0 : Nat) (Z0 : n0 ≤ h0.size) (E1 : Exa Z h0 a1 "java/util/ArrayList") (Fm : Fld Z h0 a1 "java/util/AbstractList" "modCount" "I" (.int mc)) (Fe : Fld Z h0 a1 "java/util/ArrayList" "elementData" "[Ljava/lang/Object;" (.ref dce)) (Fs : Fld Z h0 a1 "java/util/ArrayList" "size" "I" (.int (0 : Int32))) (g1 : n0 ≤ a1) (X00 : Old Z n0 h0) (SD : Sta Z Z.heap "java/util/ArrayList" "DEFAULTCAPACITY_EMPTY_ELEMENTDATA" "[Ljava/lang/Object;" (.ref dce)) (AD : Arv Z Z.heap dce kd (.object "java/lang/Object") (0 : Int32) [] .null) (Ex : Exa Z h0 a2 "com/example/tenon/tenon/Finding") :
    MetFree l (⟨"java/util/ArrayList", "add", "(Ljava/lang/Object;[Ljava/lang/Object;I)V"⟩ : MethodName) (head1 (Jvm.Cond.code (⟨"java/util/ArrayList", "add", "(Ljava/lang/Object;[Ljava/lang/Object;I)V"⟩ : MethodName) jdk_38_method_24_code 4 none :: ws) ({ frames := 3, cells := 1, slots := 10, locals := 41 } : Room)) (fun a U => a = #[(.ref a1), (.ref a2), (.ref dce), (.int (0 : Int32))] ∧ Z.Warmed39 U.vm ∧ U.heap = h0) (fun _ _ _ _ _ => True) (fun _ U o U' => ∃ v L, o = .returned v ∧ Qrm17a Z a1 a2 dce kd mc h0 n0 v U'.heap L ∧ FrameEnd U o U' L ({ frames := 3, cells := 1, slots := 10, locals := 41 } : Room).cells ({ frames := 3, cells := 1, slots := 10, locals := 41 } : Room).slots) := by
  refine MetFree.of_bodySF (plainFor_of_name pn_java_util_ArrayList) hisR ?_
  intro p e s m args below meth c s₁ Bd hml0 hP hK
  obtain ⟨rfl, hZ, hh⟩ := hP
  have hx := Bd.exec
  have hby := Bd.bytes
  have hml : c.maxLocals = 4 := hml0
  have hown : s.vm.findClass "java/util/ArrayList" = some m.cls := findClass_of_methodNamed Bd.named
  have hnm := (name_of_methodNamed Bd.named Bd.method).1
  have X0 : Stand p l e ({ frames := 3, cells := 1, slots := 10, locals := 41 } : Room) s m #[(.ref a1), (.ref a2), (.ref dce), (.int (0 : Int32))] below meth c s₁ [] 0 0 := Stand.of_body Bd
  have e0 : s₁.heap = h0 := by rw [← hh, Bd.state]; rfl
  have N0 := Fr.nil n0
  have pre0 : ∀ t, Steps p.tables e below (s₁.setTop (mkF m 0 #[.val (.ref a1), .val (.ref a2), .val (.ref dce), .val (.int (0 : Int32))] [])) t → Steps p.tables e below (s₁.setTop (entryFrame m #[(.ref a1), (.ref a2), (.ref dce), (.int (0 : Int32))] 4)) t := fun t k => castTop (ef_rm17a m a1 a2 dce) k
  have K0 := Keep.refl h0 [a1]
  obtain ⟨c178, r178, q178, s178, n178, H178, G178⟩ := id (AD.ext X00.2)
  obtain ⟨cq179, q179, q179'⟩ := E1.cell
  obtain ⟨_, _, ⟨T179, L179, k179, n179⟩, -, X179, ⟨Lc179, hQ179, l179, y179, z179⟩, st179⟩ := X0.privateBack hx (y := (⟨"java/util/ArrayList", "grow", "()[Ljava/lang/Object;"⟩ : MethodName)) hown (mvT hZ (hw _ (List.mem_of_getElem? (i := 153) rfl))) (mvT hZ (hw _ (List.mem_of_getElem? (i := 154) rfl))) (mvT hZ (hw _ (List.mem_of_getElem? (i := 156) rfl))) (Cond.privateMethod_at (mvP hZ (hw _ (List.mem_of_getElem? (i := 155) rfl)) (args := #[]))) (mvT hZ (hw _ (List.mem_of_getElem? (i := 157) rfl))) (by decide) (backOf (W := 0) (rm18 l Z a0 hw [] a1 dce kd mc h0 n0 Z0 E1 Fm Fe Fs g1 X00 SD AD) hZ (hw _ (List.mem_of_getElem? (i := 157) rfl)) (hw _ (List.mem_of_getElem? (i := 11) rfl)) (by decide) (by decide)) (g := (mkF m 7 #[.val (.ref a1), .val (.ref a2), .val (.ref dce), .val (.int (0 : Int32))] [(.ref a1)])) rfl (by rw [hml]; rfl) (Steps.refl _) (a := a1) (by rw [e0]; exact q179) q179' (argsL := []) (rest := []) (lenOf pd____Ljava_lang_Object_ rfl) rfl (by show 2 * 0 + _ ≤ _; exact Nat.le_of_eq rfl) (hb hby d17_7) (fun _ _ => ⟨rfl, e0, (by decide : 0 + 1 ≤ _), (by decide : 0 + 10 ≤ _)⟩)
  dsimp only [Pt.U, Pt.locs, Pt.cells, Pt.slots] at X179 l179 y179 z179 st179 hQ179
  subst l179 y179 z179
  obtain ⟨ed, ke, rfl, N179q, Kg, ged, zed, Feg, Fsg, Fmg, Vg, Og⟩ := hQ179
  have N180 := Fr.app N0 N179q
  have f181 := E1.keep Kg
  have f182 := Ex.keep Kg
  have Zn183 := Nat.le_trans Z0 Kg.1
  have Od184 := X00.keep Kg (allS g1 all0)
  have K185 := K0.trans Kg (allS (Or.inl (List.mem_of_getElem? (i := 0) rfl)) all0)
  have nae : a1 ≠ ed := Nat.ne_of_lt (Nat.lt_of_lt_of_le E1.lt zed)
  obtain ⟨c186, r186, q186, s186, n186, H186, G186⟩ := id Vg
  have i186 : ¬ ((0 : Int32) < 0 ∨ c186.slots.size ≤ ((0 : Int32)).toNatClampNeg) := inb_of s186 ⟨by decide, by decide⟩
  obtain ⟨T186, h186, X186, e186, W186, st186⟩ := stR X179 hx hZ rfl r186 (j := (0 : Int32)) i186 rfl (Sto.ofV r186 q186 Og (Ins.of_exa f182 (hw _ (List.mem_of_getElem? (i := 169) rfl)))) (g := (mkF m 14 #[.val (.ref a1), .val (.ref a2), .val (.ref ed), .val (.int (0 : Int32))] [(.ref a2), (.int (0 : Int32)), (.ref ed)])) rfl rfl (hb hby d17_14)
  have f187 := Arv.set r186 q186 s186 n186 H186 G186 rfl W186 0 rfl (Nat.le_of_ble_eq_true rfl)
  have f188 := f181.wr W186
  have f189 := f182.wr W186
  have f190 := Fmg.other W186 (Or.inl nae)
  have f191 := Feg.other W186 (Or.inl nae)
  have f192 := Fsg.other W186 (Or.inl nae)
  have Zn193 := Nat.le_trans Zn183 (Keep.of_wr W186).1
  have Od194 := Od184.wr W186 ged
  have N195 := Fr.snoc X186 N180 ged
  have K196 := K185.wr W186 (Or.inr zed)
  obtain ⟨T197, h197, X197, e197, W197, st197⟩ := putF X186 hx hZ hown (host := "") (Or.inl (hw _ (List.mem_of_getElem? (i := 127) rfl))) Via.refl e186 f192 f188 (Or.inl (hw _ (List.mem_of_getElem? (i := 128) rfl))) (hw _ (List.mem_of_getElem? (i := 10) rfl)) (ty := .int) (by decide) rfl rfl (g := (mkF m 19 #[.val (.ref a1), .val (.ref a2), .val (.ref ed), .val (.int (0 : Int32))] [(.int (1 : Int32)), (.ref a1)])) rfl rfl (hb hby d17_19)
  have f198 := f192.same W197
  have f199 := f188.wr W197
  have f200 := f189.wr W197
  have f201 := f190.other W197 (Or.inr (slot_ne (Or.inl (hw _ (List.mem_of_getElem? (i := 29) rfl))) (Or.inl (hw _ (List.mem_of_getElem? (i := 128) rfl))) (by decide) (t := .int) (t' := .int) (by decide) (by decide)))
  have f202 := f191.other W197 (Or.inr (slot_ne (Or.inl (hw _ (List.mem_of_getElem? (i := 32) rfl))) (Or.inl (hw _ (List.mem_of_getElem? (i := 128) rfl))) (by decide) (t := (.array (.object "java/lang/Object"))) (t' := .int) (by decide) (by decide)))
  have f203 := f187.other W197 (Ne.symm nae)
  have Zn204 := Nat.le_trans Zn193 (Keep.of_wr W197).1
  have Od205 := Od194.wr W197 g1
  have N206 := Fr.snoc X197 N195 g1
  have K207 := K196.wr W197 (Or.inl (List.mem_of_getElem? (i := 0) rfl))
  obtain ⟨fs, hr, hrun, hended, hW, hsame⟩ := X197.leave (v := none) (fun _ => rfl)
  refine ⟨_, _, pre0 _ ?_, hrun, hended, _, _, rfl, ?_, ⟨_, rfl⟩, hW, hsame.mono (by decide) (by decide)⟩
  · show Steps p.tables e below (s₁.setTop (mkF m 0 #[.val (.ref a1), .val (.ref a2), .val (.ref dce), .val (.int (0 : Int32))] [])) _
    refine XS.iloadN X0.here hx rfl (hb hby d17_0) rfl ?_
    show Steps p.tables e below (s₁.setTop (mkF m 1 #[.val (.ref a1), .val (.ref a2), .val (.ref dce), .val (.int (0 : Int32))] [(.int (0 : Int32))])) _
    refine XS.aloadN X0.here hx rfl (hb hby d17_1) rfl rfl ?_
    show Steps p.tables e below (s₁.setTop (mkF m 2 #[.val (.ref a1), .val (.ref a2), .val (.ref dce), .val (.int (0 : Int32))] [(.ref dce), (.int (0 : Int32))])) _
    refine X0.arraylength hx (by rw [e0]; exact r178.1) (State.isArrayOf_alike hZ.alike r178.2.1) (g := (mkF m 2 #[.val (.ref a1), .val (.ref a2), .val (.ref dce), .val (.int (0 : Int32))] [(.ref dce), (.int (0 : Int32))])) rfl rfl (hb hby d17_2) _ ?_
    rw [len_of s178 n178]
    show Steps p.tables e below (s₁.setTop (mkF m 3 #[.val (.ref a1), .val (.ref a2), .val (.ref dce), .val (.int (0 : Int32))] [(.int (0 : Int32)), (.int (0 : Int32))])) _
    refine XS.icmpNo X0.here hx rfl (hb hby d17_3) rfl (teq rfl).2 ?_
    show Steps p.tables e below (s₁.setTop (mkF m 6 #[.val (.ref a1), .val (.ref a2), .val (.ref dce), .val (.int (0 : Int32))] [])) _
    refine XS.aloadN X0.here hx rfl (hb hby d17_6) rfl rfl ?_
    show Steps p.tables e below (s₁.setTop (mkF m 7 #[.val (.ref a1), .val (.ref a2), .val (.ref dce), .val (.int (0 : Int32))] [(.ref a1)])) _
    refine st179.trans ?_
    show Steps p.tables e below (T179.setTop (mkF m 10 #[.val (.ref a1), .val (.ref a2), .val (.ref dce), .val (.int (0 : Int32))] [(.ref ed)])) _
    refine XS.astoreN X179.here hx rfl (hb hby d17_10) rfl rfl (l' := #[.val (.ref a1), .val (.ref a2), .val (.ref ed), .val (.int (0 : Int32))]) rfl ?_
    show Steps p.tables e below (T179.setTop (mkF m 11 #[.val (.ref a1), .val (.ref a2), .val (.ref ed), .val (.int (0 : Int32))] [])) _
    refine XS.aloadN X179.here hx rfl (hb hby d17_11) rfl rfl ?_
    show Steps p.tables e below (T179.setTop (mkF m 12 #[.val (.ref a1), .val (.ref a2), .val (.ref ed), .val (.int (0 : Int32))] [(.ref ed)])) _
    refine XS.iloadN X179.here hx rfl (hb hby d17_12) rfl ?_
    show Steps p.tables e below (T179.setTop (mkF m 13 #[.val (.ref a1), .val (.ref a2), .val (.ref ed), .val (.int (0 : Int32))] [(.int (0 : Int32)), (.ref ed)])) _
    refine XS.aloadN X179.here hx rfl (hb hby d17_13) rfl rfl ?_
    show Steps p.tables e below (T179.setTop (mkF m 14 #[.val (.ref a1), .val (.ref a2), .val (.ref ed), .val (.int (0 : Int32))] [(.ref a2), (.int (0 : Int32)), (.ref ed)])) _
    refine st186 _ ?_
    show Steps p.tables e below (T186.setTop (mkF m 15 #[.val (.ref a1), .val (.ref a2), .val (.ref ed), .val (.int (0 : Int32))] [])) _
    refine XS.aloadN X186.here hx rfl (hb hby d17_15) rfl rfl ?_
    show Steps p.tables e below (T186.setTop (mkF m 16 #[.val (.ref a1), .val (.ref a2), .val (.ref ed), .val (.int (0 : Int32))] [(.ref a1)])) _
    refine XS.iloadN X186.here hx rfl (hb hby d17_16) rfl ?_
    show Steps p.tables e below (T186.setTop (mkF m 17 #[.val (.ref a1), .val (.ref a2), .val (.ref ed), .val (.int (0 : Int32))] [(.int (0 : Int32)), (.ref a1)])) _
    refine XS.iconst X186.here hx rfl (hb hby d17_17) ?_
    show Steps p.tables e below (T186.setTop (mkF m 18 #[.val (.ref a1), .val (.ref a2), .val (.ref ed), .val (.int (0 : Int32))] [(.int (1 : Int32)), (.int (0 : Int32)), (.ref a1)])) _
    refine XS.iadd X186.here hx rfl (hb hby d17_18) rfl ?_
    show Steps p.tables e below (T186.setTop (mkF m 19 #[.val (.ref a1), .val (.ref a2), .val (.ref ed), .val (.int (0 : Int32))] [(.int (1 : Int32)), (.ref a1)])) _
    refine st197 _ ?_
    show Steps p.tables e below (T197.setTop (mkF m 22 #[.val (.ref a1), .val (.ref a2), .val (.ref ed), .val (.int (0 : Int32))] [])) _
    exact X197.returnOut hx Bd.returns (hb hby d17_22) hr
  · show Qrm17a Z a1 a2 dce kd mc h0 n0 _ T197.heap _
    rw [e197]
    exact ⟨rfl, N206, K207, _, _, _, _, ged, zed, f202, f198, f201, f203, by simp, Og⟩
theorem own_sz10 {sz : Int32} (h : 0 < sz.toInt ∧ sz.toInt ≤ 3) : ¬ sz < 0 ∧ sz < (10 : Int32) := by
  rw [Int32.lt_iff_toInt_lt, Int32.lt_iff_toInt_lt]; have e : (10 : Int32).toInt = 10 := rfl; have e0 : (0 : Int32).toInt = 0 := rfl; omega
theorem own_szne {sz : Int32} (h : 0 < sz.toInt ∧ sz.toInt ≤ 3) : ¬ sz = (10 : Int32) := fun q => by rw [q] at h; exact absurd h.2 (by decide)
theorem ef_rm17b (m : MethodId) (a1 : Addr) (a2 : Addr) (ed : Addr) (sz : Int32) : entryFrame m #[(.ref a1), (.ref a2), (.ref ed), (.int sz)] 4 = mkF m 0 #[.val (.ref a1), .val (.ref a2), .val (.ref ed), .val (.int sz)] [] := by first | (simp [entryFrame, mkF, argsToLocals, Value.category]; done) | rfl
def Qrm17b (Z : State) (a1 : Addr) (a2 : Addr) (ed : Addr) (sz : Int32) (ke : ClassId) (mc : Int32) (es : List Value) (h0 : Heap) (n0 : Nat) (v : Option Value) (h : Heap) (L : List Loc) : Prop := v = none ∧ Fr n0 L ∧ Keep h0 h [a1, ed] ∧ Fld Z h a1 "java/util/ArrayList" "elementData" "[Ljava/lang/Object;" (.ref ed) ∧ Fld Z h a1 "java/util/ArrayList" "size" "I" (.int (sz + (1 : Int32))) ∧ (∃ mc' : Int32, Fld Z h a1 "java/util/AbstractList" "modCount" "I" (.int mc')) ∧ ∃ es' : List Value, Arv Z h ed ke (.object "java/lang/Object") (10 : Int32) es' .null ∧ es'.length = 10
set_option maxRecDepth 65536 in
set_option maxHeartbeats 40000000 in
theorem rm17b (l : Launch) (Z : State) (a0 : Array Value) (hw : ∀ d ∈ tables_1, d.before a0 Z = true) (ws : List Jvm.Cond) (a1 : Addr) (a2 : Addr) (ed : Addr) (sz : Int32) (ke : ClassId) (mc : Int32) (es : List Value) (h0 : Heap) (n0 : Nat) (Z0 : n0 ≤ h0.size) (E1 : Exa Z h0 a1 "java/util/ArrayList") (Fm : Fld Z h0 a1 "java/util/AbstractList" "modCount" "I" (.int mc)) (Fe : Fld Z h0 a1 "java/util/ArrayList" "elementData" "[Ljava/lang/Object;" (.ref ed)) (Fs : Fld Z h0 a1 "java/util/ArrayList" "size" "I" (.int sz)) (g1 : n0 ≤ a1) (Ve : Arv Z h0 ed ke (.object "java/lang/Object") (10 : Int32) es .null) (hes : es.length = 10) (Oe : Ovr Z ke "java/lang/Object") (ge : n0 ≤ ed) (nae : a1 ≠ ed) (hz : 0 < sz.toInt ∧ sz.toInt ≤ 3) (Ex : Exa Z h0 a2 "com/example/tenon/tenon/Finding") :
    MetFree l (⟨"java/util/ArrayList", "add", "(Ljava/lang/Object;[Ljava/lang/Object;I)V"⟩ : MethodName) (head1 (Jvm.Cond.code (⟨"java/util/ArrayList", "add", "(Ljava/lang/Object;[Ljava/lang/Object;I)V"⟩ : MethodName) jdk_38_method_24_code 4 none :: ws) ({ frames := 0, cells := 0, slots := 0, locals := 0 } : Room)) (fun a U => a = #[(.ref a1), (.ref a2), (.ref ed), (.int sz)] ∧ Z.Warmed39 U.vm ∧ U.heap = h0) (fun _ _ _ _ _ => True) (fun _ U o U' => ∃ v L, o = .returned v ∧ Qrm17b Z a1 a2 ed sz ke mc es h0 n0 v U'.heap L ∧ FrameEnd U o U' L ({ frames := 0, cells := 0, slots := 0, locals := 0 } : Room).cells ({ frames := 0, cells := 0, slots := 0, locals := 0 } : Room).slots) := by
  refine MetFree.of_bodySF (plainFor_of_name pn_java_util_ArrayList) hisR ?_
  intro p e s m args below meth c s₁ Bd hml0 hP hK
  obtain ⟨rfl, hZ, hh⟩ := hP
  have hx := Bd.exec
  have hby := Bd.bytes
  have hml : c.maxLocals = 4 := hml0
  have hown : s.vm.findClass "java/util/ArrayList" = some m.cls := findClass_of_methodNamed Bd.named
  have hnm := (name_of_methodNamed Bd.named Bd.method).1
  have X0 : Stand p l e ({ frames := 0, cells := 0, slots := 0, locals := 0 } : Room) s m #[(.ref a1), (.ref a2), (.ref ed), (.int sz)] below meth c s₁ [] 0 0 := Stand.of_body Bd
  have e0 : s₁.heap = h0 := by rw [← hh, Bd.state]; rfl
  have N0 := Fr.nil n0
  have pre0 : ∀ t, Steps p.tables e below (s₁.setTop (mkF m 0 #[.val (.ref a1), .val (.ref a2), .val (.ref ed), .val (.int sz)] [])) t → Steps p.tables e below (s₁.setTop (entryFrame m #[(.ref a1), (.ref a2), (.ref ed), (.int sz)] 4)) t := fun t k => castTop (ef_rm17b m a1 a2 ed sz) k
  have K0 := Keep.refl h0 [a1, ed]
  obtain ⟨c208, r208, q208, s208, n208, H208, G208⟩ := id Ve
  obtain ⟨c209, r209, q209, s209, n209, H209, G209⟩ := id Ve
  have i209 : ¬ (sz < 0 ∨ c209.slots.size ≤ (sz).toNatClampNeg) := inb_of s209 (own_sz10 hz)
  obtain ⟨T209, h209, X209, e209, W209, st209⟩ := stR X0 hx hZ e0 r209 (j := sz) i209 rfl (Sto.ofV r209 q209 Oe (Ins.of_exa Ex (hw _ (List.mem_of_getElem? (i := 169) rfl)))) (g := (mkF m 14 #[.val (.ref a1), .val (.ref a2), .val (.ref ed), .val (.int sz)] [(.ref a2), (.int sz), (.ref ed)])) rfl rfl (hb hby d17_14)
  have f210 := Arv.set r209 q209 s209 n209 H209 G209 rfl W209 sz.toNatClampNeg rfl (by rw [hes]; show sz.toInt.toNat < 10; omega)
  have f211 := E1.wr W209
  have f212 := Fm.other W209 (Or.inl nae)
  have f213 := Fe.other W209 (Or.inl nae)
  have f214 := Fs.other W209 (Or.inl nae)
  have f215 := Ex.wr W209
  have Zn216 := Nat.le_trans Z0 (Keep.of_wr W209).1
  have N217 := Fr.snoc X209 N0 ge
  have K218 := K0.wr W209 (Or.inl (List.mem_of_getElem? (i := 1) rfl))
  obtain ⟨T219, h219, X219, e219, W219, st219⟩ := putF X209 hx hZ hown (host := "") (Or.inl (hw _ (List.mem_of_getElem? (i := 127) rfl))) Via.refl e209 f214 f211 (Or.inl (hw _ (List.mem_of_getElem? (i := 128) rfl))) (hw _ (List.mem_of_getElem? (i := 10) rfl)) (ty := .int) (by decide) rfl rfl (g := (mkF m 19 #[.val (.ref a1), .val (.ref a2), .val (.ref ed), .val (.int sz)] [(.int (sz + (1 : Int32))), (.ref a1)])) rfl rfl (hb hby d17_19)
  have f220 := f214.same W219
  have f221 := f211.wr W219
  have f222 := f212.other W219 (Or.inr (slot_ne (Or.inl (hw _ (List.mem_of_getElem? (i := 29) rfl))) (Or.inl (hw _ (List.mem_of_getElem? (i := 128) rfl))) (by decide) (t := .int) (t' := .int) (by decide) (by decide)))
  have f223 := f213.other W219 (Or.inr (slot_ne (Or.inl (hw _ (List.mem_of_getElem? (i := 32) rfl))) (Or.inl (hw _ (List.mem_of_getElem? (i := 128) rfl))) (by decide) (t := (.array (.object "java/lang/Object"))) (t' := .int) (by decide) (by decide)))
  have f224 := f215.wr W219
  have f225 := f210.other W219 (Ne.symm nae)
  have Zn226 := Nat.le_trans Zn216 (Keep.of_wr W219).1
  have N227 := Fr.snoc X219 N217 g1
  have K228 := K218.wr W219 (Or.inl (List.mem_of_getElem? (i := 0) rfl))
  obtain ⟨fs, hr, hrun, hended, hW, hsame⟩ := X219.leave (v := none) (fun _ => rfl)
  refine ⟨_, _, pre0 _ ?_, hrun, hended, _, _, rfl, ?_, ⟨_, rfl⟩, hW, hsame.mono (by decide) (by decide)⟩
  · show Steps p.tables e below (s₁.setTop (mkF m 0 #[.val (.ref a1), .val (.ref a2), .val (.ref ed), .val (.int sz)] [])) _
    refine XS.iloadN X0.here hx rfl (hb hby d17_0) rfl ?_
    show Steps p.tables e below (s₁.setTop (mkF m 1 #[.val (.ref a1), .val (.ref a2), .val (.ref ed), .val (.int sz)] [(.int sz)])) _
    refine XS.aloadN X0.here hx rfl (hb hby d17_1) rfl rfl ?_
    show Steps p.tables e below (s₁.setTop (mkF m 2 #[.val (.ref a1), .val (.ref a2), .val (.ref ed), .val (.int sz)] [(.ref ed), (.int sz)])) _
    refine X0.arraylength hx (by rw [e0]; exact r208.1) (State.isArrayOf_alike hZ.alike r208.2.1) (g := (mkF m 2 #[.val (.ref a1), .val (.ref a2), .val (.ref ed), .val (.int sz)] [(.ref ed), (.int sz)])) rfl rfl (hb hby d17_2) _ ?_
    rw [len_of s208 n208]
    show Steps p.tables e below (s₁.setTop (mkF m 3 #[.val (.ref a1), .val (.ref a2), .val (.ref ed), .val (.int sz)] [(.int (10 : Int32)), (.int sz)])) _
    refine XS.icmpYes X0.here hx rfl (pc0 := 3) (pc' := 11) rfl (hb hby d17_3) rfl (feq (own_szne hz)).2 (by decide) (by decide) ?_
    show Steps p.tables e below (s₁.setTop (mkF m 11 #[.val (.ref a1), .val (.ref a2), .val (.ref ed), .val (.int sz)] [])) _
    refine XS.aloadN X0.here hx rfl (hb hby d17_11) rfl rfl ?_
    show Steps p.tables e below (s₁.setTop (mkF m 12 #[.val (.ref a1), .val (.ref a2), .val (.ref ed), .val (.int sz)] [(.ref ed)])) _
    refine XS.iloadN X0.here hx rfl (hb hby d17_12) rfl ?_
    show Steps p.tables e below (s₁.setTop (mkF m 13 #[.val (.ref a1), .val (.ref a2), .val (.ref ed), .val (.int sz)] [(.int sz), (.ref ed)])) _
    refine XS.aloadN X0.here hx rfl (hb hby d17_13) rfl rfl ?_
    show Steps p.tables e below (s₁.setTop (mkF m 14 #[.val (.ref a1), .val (.ref a2), .val (.ref ed), .val (.int sz)] [(.ref a2), (.int sz), (.ref ed)])) _
    refine st209 _ ?_
    show Steps p.tables e below (T209.setTop (mkF m 15 #[.val (.ref a1), .val (.ref a2), .val (.ref ed), .val (.int sz)] [])) _
    refine XS.aloadN X209.here hx rfl (hb hby d17_15) rfl rfl ?_
    show Steps p.tables e below (T209.setTop (mkF m 16 #[.val (.ref a1), .val (.ref a2), .val (.ref ed), .val (.int sz)] [(.ref a1)])) _
    refine XS.iloadN X209.here hx rfl (hb hby d17_16) rfl ?_
    show Steps p.tables e below (T209.setTop (mkF m 17 #[.val (.ref a1), .val (.ref a2), .val (.ref ed), .val (.int sz)] [(.int sz), (.ref a1)])) _
    refine XS.iconst X209.here hx rfl (hb hby d17_17) ?_
    show Steps p.tables e below (T209.setTop (mkF m 18 #[.val (.ref a1), .val (.ref a2), .val (.ref ed), .val (.int sz)] [(.int (1 : Int32)), (.int sz), (.ref a1)])) _
    refine XS.iadd X209.here hx rfl (hb hby d17_18) rfl ?_
    show Steps p.tables e below (T209.setTop (mkF m 19 #[.val (.ref a1), .val (.ref a2), .val (.ref ed), .val (.int sz)] [(.int (sz + (1 : Int32))), (.ref a1)])) _
    refine st219 _ ?_
    show Steps p.tables e below (T219.setTop (mkF m 22 #[.val (.ref a1), .val (.ref a2), .val (.ref ed), .val (.int sz)] [])) _
    exact X219.returnOut hx Bd.returns (hb hby d17_22) hr
  · show Qrm17b Z a1 a2 ed sz ke mc es h0 n0 _ T219.heap _
    rw [e219]
    exact ⟨rfl, N227, K228, f223, f220, ⟨_, f222⟩, _, f225, by rw [List.length_set]; exact hes⟩
theorem d16_0 : decode jdk_38_method_25_code 0 = .ok (.aload_n 0, 1) := by decide +kernel
theorem d16_1 : decode jdk_38_method_25_code 1 = .ok (.dup, 1) := by decide +kernel
theorem d16_2 : decode jdk_38_method_25_code 2 = .ok (.getfield 63, 3) := by decide +kernel
theorem d16_5 : decode jdk_38_method_25_code 5 = .ok (.iconst 1, 1) := by decide +kernel
theorem d16_6 : decode jdk_38_method_25_code 6 = .ok (.iadd, 1) := by decide +kernel
theorem d16_7 : decode jdk_38_method_25_code 7 = .ok (.putfield 63, 3) := by decide +kernel
theorem d16_10 : decode jdk_38_method_25_code 10 = .ok (.aload_n 0, 1) := by decide +kernel
theorem d16_11 : decode jdk_38_method_25_code 11 = .ok (.aload_n 1, 1) := by decide +kernel
theorem d16_12 : decode jdk_38_method_25_code 12 = .ok (.aload_n 0, 1) := by decide +kernel
theorem d16_13 : decode jdk_38_method_25_code 13 = .ok (.getfield 9, 3) := by decide +kernel
theorem d16_16 : decode jdk_38_method_25_code 16 = .ok (.aload_n 0, 1) := by decide +kernel
theorem d16_17 : decode jdk_38_method_25_code 17 = .ok (.getfield 48, 3) := by decide +kernel
theorem d16_20 : decode jdk_38_method_25_code 20 = .ok (.invokevirtual 131, 3) := by decide +kernel
theorem pd__Ljava_lang_Object__Ljava_lang_Object_I_V : parseMethodDescriptor "(Ljava/lang/Object;[Ljava/lang/Object;I)V" = some ⟨[(.object "java/lang/Object"), (.array (.object "java/lang/Object")), .int], none⟩ := by decide +kernel
theorem d16_23 : decode jdk_38_method_25_code 23 = .ok (.iconst 1, 1) := by decide +kernel
theorem d16_24 : decode jdk_38_method_25_code 24 = .ok (.ireturn, 1) := by decide +kernel
theorem ef_rm16a (m : MethodId) (a1 : Addr) (a2 : Addr) : entryFrame m #[(.ref a1), (.ref a2)] 2 = mkF m 0 #[.val (.ref a1), .val (.ref a2)] [] := by first | (simp [entryFrame, mkF, argsToLocals, Value.category]; done) | rfl
def Qrm16a (Z : State) (a1 : Addr) (a2 : Addr) (dce : Addr) (kd : ClassId) (mc : Int32) (h0 : Heap) (n0 : Nat) (v : Option Value) (h : Heap) (L : List Loc) : Prop := v = some (.int 1) ∧ Fr n0 L ∧ Keep h0 h [a1] ∧ ∃ (ed : Addr) (ke : ClassId) (es : List Value) (mc' : Int32), n0 ≤ ed ∧ h0.size ≤ ed ∧ Fld Z h a1 "java/util/ArrayList" "elementData" "[Ljava/lang/Object;" (.ref ed) ∧ Fld Z h a1 "java/util/ArrayList" "size" "I" (.int (1 : Int32)) ∧ Fld Z h a1 "java/util/AbstractList" "modCount" "I" (.int mc') ∧ Arv Z h ed ke (.object "java/lang/Object") (10 : Int32) es .null ∧ es.length = 10 ∧ Ovr Z ke "java/lang/Object"
set_option maxRecDepth 65536 in
set_option maxHeartbeats 40000000 in
theorem rm16a (l : Launch) (Z : State) (a0 : Array Value) (hw : ∀ d ∈ tables_1, d.before a0 Z = true) (ws : List Jvm.Cond) (a1 : Addr) (a2 : Addr) (dce : Addr) (kd : ClassId) (mc : Int32) (h0 : Heap) (n0 : Nat) (Z0 : n0 ≤ h0.size) (E1 : Exa Z h0 a1 "java/util/ArrayList") (Fm : Fld Z h0 a1 "java/util/AbstractList" "modCount" "I" (.int mc)) (Fe : Fld Z h0 a1 "java/util/ArrayList" "elementData" "[Ljava/lang/Object;" (.ref dce)) (Fs : Fld Z h0 a1 "java/util/ArrayList" "size" "I" (.int (0 : Int32))) (g1 : n0 ≤ a1) (X00 : Old Z n0 h0) (SD : Sta Z Z.heap "java/util/ArrayList" "DEFAULTCAPACITY_EMPTY_ELEMENTDATA" "[Ljava/lang/Object;" (.ref dce)) (AD : Arv Z Z.heap dce kd (.object "java/lang/Object") (0 : Int32) [] .null) (Ex : Exa Z h0 a2 "com/example/tenon/tenon/Finding") :
    MetFree l (⟨"java/util/ArrayList", "add", "(Ljava/lang/Object;)Z"⟩ : MethodName) (head1 (Jvm.Cond.code (⟨"java/util/ArrayList", "add", "(Ljava/lang/Object;)Z"⟩ : MethodName) jdk_38_method_25_code 2 (some .boolean) :: ws) ({ frames := 4, cells := 1, slots := 10, locals := 56 } : Room)) (fun a U => a = #[(.ref a1), (.ref a2)] ∧ Z.Warmed39 U.vm ∧ U.heap = h0) (fun _ _ _ _ _ => True) (fun _ U o U' => ∃ v L, o = .returned v ∧ Qrm16a Z a1 a2 dce kd mc h0 n0 v U'.heap L ∧ FrameEnd U o U' L ({ frames := 4, cells := 1, slots := 10, locals := 56 } : Room).cells ({ frames := 4, cells := 1, slots := 10, locals := 56 } : Room).slots) := by
  refine MetFree.of_bodySF (plainFor_of_name pn_java_util_ArrayList) hisR ?_
  intro p e s m args below meth c s₁ Bd hml0 hP hK
  obtain ⟨rfl, hZ, hh⟩ := hP
  have hx := Bd.exec
  have hby := Bd.bytes
  have hml : c.maxLocals = 2 := hml0
  have hown : s.vm.findClass "java/util/ArrayList" = some m.cls := findClass_of_methodNamed Bd.named
  have hnm := (name_of_methodNamed Bd.named Bd.method).1
  have X0 : Stand p l e ({ frames := 4, cells := 1, slots := 10, locals := 56 } : Room) s m #[(.ref a1), (.ref a2)] below meth c s₁ [] 0 0 := Stand.of_body Bd
  have e0 : s₁.heap = h0 := by rw [← hh, Bd.state]; rfl
  have N0 := Fr.nil n0
  have pre0 : ∀ t, Steps p.tables e below (s₁.setTop (mkF m 0 #[.val (.ref a1), .val (.ref a2)] [])) t → Steps p.tables e below (s₁.setTop (entryFrame m #[(.ref a1), (.ref a2)] 2)) t := fun t k => castTop (ef_rm16a m a1 a2) k
  have K0 := Keep.refl h0 [a1]
  obtain ⟨T229, X229, e229, st229⟩ := getF X0 hx hZ hown (host := "") (Or.inl (hw _ (List.mem_of_getElem? (i := 146) rfl))) (Via.of (hw _ (List.mem_of_getElem? (i := 147) rfl))) e0 Fm (g := (mkF m 2 #[.val (.ref a1), .val (.ref a2)] [(.ref a1), (.ref a1)])) rfl rfl (hb hby d16_2)
  obtain ⟨T230, h230, X230, e230, W230, st230⟩ := putF X229 hx hZ hown (host := "") (Or.inl (hw _ (List.mem_of_getElem? (i := 146) rfl))) (Via.of (hw _ (List.mem_of_getElem? (i := 147) rfl))) e229 Fm E1 (Or.inl (hw _ (List.mem_of_getElem? (i := 29) rfl))) (hw _ (List.mem_of_getElem? (i := 10) rfl)) (ty := .int) (by decide) rfl rfl (g := (mkF m 7 #[.val (.ref a1), .val (.ref a2)] [(.int (mc + (1 : Int32))), (.ref a1)])) rfl rfl (hb hby d16_7)
  have f231 := Fm.same W230
  have f232 := E1.wr W230
  have f233 := Fe.other W230 (Or.inr (slot_ne (Or.inl (hw _ (List.mem_of_getElem? (i := 32) rfl))) (Or.inl (hw _ (List.mem_of_getElem? (i := 29) rfl))) (by decide) (t := (.array (.object "java/lang/Object"))) (t' := .int) (by decide) (by decide)))
  have f234 := Fs.other W230 (Or.inr (slot_ne (Or.inl (hw _ (List.mem_of_getElem? (i := 128) rfl))) (Or.inl (hw _ (List.mem_of_getElem? (i := 29) rfl))) (by decide) (t := .int) (t' := .int) (by decide) (by decide)))
  have f235 := Ex.wr W230
  have Zn236 := Nat.le_trans Z0 (Keep.of_wr W230).1
  have Od237 := X00.wr W230 g1
  have N238 := Fr.snoc X230 N0 g1
  have K239 := K0.wr W230 (Or.inl (List.mem_of_getElem? (i := 0) rfl))
  obtain ⟨T240, X240, e240, st240⟩ := getF X230 hx hZ hown (host := "") (Or.inl (hw _ (List.mem_of_getElem? (i := 31) rfl))) Via.refl e230 f233 (g := (mkF m 13 #[.val (.ref a1), .val (.ref a2)] [(.ref a1), (.ref a2), (.ref a1)])) rfl rfl (hb hby d16_13)
  obtain ⟨T241, X241, e241, st241⟩ := getF X240 hx hZ hown (host := "") (Or.inl (hw _ (List.mem_of_getElem? (i := 127) rfl))) Via.refl e240 f234 (g := (mkF m 17 #[.val (.ref a1), .val (.ref a2)] [(.ref a1), (.ref dce), (.ref a2), (.ref a1)])) rfl rfl (hb hby d16_17)
  obtain ⟨cq242, q242, q242'⟩ := f232.cell
  obtain ⟨_, _, ⟨T242, L242, k242, n242⟩, -, X242, ⟨Lc242, hQ242, l242, y242, z242⟩, st242⟩ := X241.privateBack hx (y := (⟨"java/util/ArrayList", "add", "(Ljava/lang/Object;[Ljava/lang/Object;I)V"⟩ : MethodName)) hown (mvT hZ (hw _ (List.mem_of_getElem? (i := 148) rfl))) (mvT hZ (hw _ (List.mem_of_getElem? (i := 149) rfl))) (mvT hZ (hw _ (List.mem_of_getElem? (i := 151) rfl))) (Cond.privateMethod_at (mvP hZ (hw _ (List.mem_of_getElem? (i := 150) rfl)) (args := #[]))) (mvT hZ (hw _ (List.mem_of_getElem? (i := 152) rfl))) (by decide) (backOf (W := 0) (rm17a l Z a0 hw [] a1 a2 dce kd (mc + (1 : Int32)) h230 n0 Zn236 f232 f231 f233 f234 g1 Od237 SD AD f235) hZ (hw _ (List.mem_of_getElem? (i := 152) rfl)) (hw _ (List.mem_of_getElem? (i := 11) rfl)) (by decide) (by decide)) (g := (mkF m 20 #[.val (.ref a1), .val (.ref a2)] [(.int (0 : Int32)), (.ref dce), (.ref a2), (.ref a1)])) rfl (by rw [hml]; rfl) (Steps.refl _) (a := a1) (by rw [e241]; exact q242) q242' (argsL := [(.ref a2), (.ref dce), (.int (0 : Int32))]) (rest := []) (lenOf pd__Ljava_lang_Object__Ljava_lang_Object_I_V rfl) rfl (by show 2 * 0 + _ ≤ _; exact Nat.le_of_eq rfl) (hb hby d16_20) (fun _ _ => ⟨rfl, e241, (by decide : 0 + 1 ≤ _), (by decide : 0 + 10 ≤ _)⟩)
  dsimp only [Pt.U, Pt.locs, Pt.cells, Pt.slots] at X242 l242 y242 z242 st242 hQ242
  subst l242 y242 z242
  obtain ⟨rfl, N242q, Kq, ed, ke, es, mq, ged, zed, Feq, Fsq, Fmq, Veq, hesq, Oq⟩ := hQ242
  have N243 := Fr.app N238 N242q
  have f244 := f232.keep Kq
  have f245 := f235.keep Kq
  have Zn246 := Nat.le_trans Zn236 Kq.1
  have Od247 := Od237.keep Kq (allS g1 all0)
  have K248 := K239.trans Kq (allS (Or.inl (List.mem_of_getElem? (i := 0) rfl)) all0)
  obtain ⟨fs, hr, hrun, hended, hW, hsame⟩ := X242.leave (v := some (.int (1 : Int32))) (fun h => by rw [Bd.returns] at h; cases h)
  refine ⟨_, _, pre0 _ ?_, hrun, hended, _, _, rfl, ?_, ⟨_, rfl⟩, hW, hsame.mono (by decide) (by decide)⟩
  · show Steps p.tables e below (s₁.setTop (mkF m 0 #[.val (.ref a1), .val (.ref a2)] [])) _
    refine XS.aloadN X0.here hx rfl (hb hby d16_0) rfl rfl ?_
    show Steps p.tables e below (s₁.setTop (mkF m 1 #[.val (.ref a1), .val (.ref a2)] [(.ref a1)])) _
    refine XS.dup X0.here hx rfl (hb hby d16_1) rfl rfl ?_
    show Steps p.tables e below (s₁.setTop (mkF m 2 #[.val (.ref a1), .val (.ref a2)] [(.ref a1), (.ref a1)])) _
    refine st229 _ ?_
    show Steps p.tables e below (T229.setTop (mkF m 5 #[.val (.ref a1), .val (.ref a2)] [(.int mc), (.ref a1)])) _
    refine XS.iconst X229.here hx rfl (hb hby d16_5) ?_
    show Steps p.tables e below (T229.setTop (mkF m 6 #[.val (.ref a1), .val (.ref a2)] [(.int (1 : Int32)), (.int mc), (.ref a1)])) _
    refine XS.iadd X229.here hx rfl (hb hby d16_6) rfl ?_
    show Steps p.tables e below (T229.setTop (mkF m 7 #[.val (.ref a1), .val (.ref a2)] [(.int (mc + (1 : Int32))), (.ref a1)])) _
    refine st230 _ ?_
    show Steps p.tables e below (T230.setTop (mkF m 10 #[.val (.ref a1), .val (.ref a2)] [])) _
    refine XS.aloadN X230.here hx rfl (hb hby d16_10) rfl rfl ?_
    show Steps p.tables e below (T230.setTop (mkF m 11 #[.val (.ref a1), .val (.ref a2)] [(.ref a1)])) _
    refine XS.aloadN X230.here hx rfl (hb hby d16_11) rfl rfl ?_
    show Steps p.tables e below (T230.setTop (mkF m 12 #[.val (.ref a1), .val (.ref a2)] [(.ref a2), (.ref a1)])) _
    refine XS.aloadN X230.here hx rfl (hb hby d16_12) rfl rfl ?_
    show Steps p.tables e below (T230.setTop (mkF m 13 #[.val (.ref a1), .val (.ref a2)] [(.ref a1), (.ref a2), (.ref a1)])) _
    refine st240 _ ?_
    show Steps p.tables e below (T240.setTop (mkF m 16 #[.val (.ref a1), .val (.ref a2)] [(.ref dce), (.ref a2), (.ref a1)])) _
    refine XS.aloadN X240.here hx rfl (hb hby d16_16) rfl rfl ?_
    show Steps p.tables e below (T240.setTop (mkF m 17 #[.val (.ref a1), .val (.ref a2)] [(.ref a1), (.ref dce), (.ref a2), (.ref a1)])) _
    refine st241 _ ?_
    show Steps p.tables e below (T241.setTop (mkF m 20 #[.val (.ref a1), .val (.ref a2)] [(.int (0 : Int32)), (.ref dce), (.ref a2), (.ref a1)])) _
    refine st242.trans ?_
    show Steps p.tables e below (T242.setTop (mkF m 23 #[.val (.ref a1), .val (.ref a2)] [])) _
    refine XS.iconst X242.here hx rfl (hb hby d16_23) ?_
    show Steps p.tables e below (T242.setTop (mkF m 24 #[.val (.ref a1), .val (.ref a2)] [(.int (1 : Int32))])) _
    exact retN X242 hx (t := .boolean) Bd.returns (by simp) (hb hby d16_24) hr
  · show Qrm16a Z a1 a2 dce kd mc h0 n0 _ T242.heap _
    exact ⟨rfl, N243, K248, ed, ke, es, mq, ged, Nat.le_trans (Keep.of_wr W230).1 zed, Feq, Fsq, Fmq, Veq, hesq, Oq⟩
theorem ef_rm16b (m : MethodId) (a1 : Addr) (a2 : Addr) : entryFrame m #[(.ref a1), (.ref a2)] 2 = mkF m 0 #[.val (.ref a1), .val (.ref a2)] [] := by first | (simp [entryFrame, mkF, argsToLocals, Value.category]; done) | rfl
def Qrm16b (Z : State) (a1 : Addr) (a2 : Addr) (ed : Addr) (ke : ClassId) (mc : Int32) (es : List Value) (sz : Int32) (h0 : Heap) (n0 : Nat) (v : Option Value) (h : Heap) (L : List Loc) : Prop := v = some (.int 1) ∧ Fr n0 L ∧ Keep h0 h [a1, ed] ∧ Fld Z h a1 "java/util/ArrayList" "elementData" "[Ljava/lang/Object;" (.ref ed) ∧ Fld Z h a1 "java/util/ArrayList" "size" "I" (.int (sz + (1 : Int32))) ∧ (∃ mc' : Int32, Fld Z h a1 "java/util/AbstractList" "modCount" "I" (.int mc')) ∧ ∃ es' : List Value, Arv Z h ed ke (.object "java/lang/Object") (10 : Int32) es' .null ∧ es'.length = 10
set_option maxRecDepth 65536 in
set_option maxHeartbeats 40000000 in
theorem rm16b (l : Launch) (Z : State) (a0 : Array Value) (hw : ∀ d ∈ tables_1, d.before a0 Z = true) (ws : List Jvm.Cond) (a1 : Addr) (a2 : Addr) (ed : Addr) (ke : ClassId) (mc : Int32) (es : List Value) (sz : Int32) (h0 : Heap) (n0 : Nat) (Z0 : n0 ≤ h0.size) (E1 : Exa Z h0 a1 "java/util/ArrayList") (Fm : Fld Z h0 a1 "java/util/AbstractList" "modCount" "I" (.int mc)) (Fe : Fld Z h0 a1 "java/util/ArrayList" "elementData" "[Ljava/lang/Object;" (.ref ed)) (Fs : Fld Z h0 a1 "java/util/ArrayList" "size" "I" (.int sz)) (g1 : n0 ≤ a1) (Ve : Arv Z h0 ed ke (.object "java/lang/Object") (10 : Int32) es .null) (hes : es.length = 10) (Oe : Ovr Z ke "java/lang/Object") (ge : n0 ≤ ed) (nae : a1 ≠ ed) (hz : 0 < sz.toInt ∧ sz.toInt ≤ 3) (Ex : Exa Z h0 a2 "com/example/tenon/tenon/Finding") :
    MetFree l (⟨"java/util/ArrayList", "add", "(Ljava/lang/Object;)Z"⟩ : MethodName) (head1 (Jvm.Cond.code (⟨"java/util/ArrayList", "add", "(Ljava/lang/Object;)Z"⟩ : MethodName) jdk_38_method_25_code 2 (some .boolean) :: ws) ({ frames := 1, cells := 0, slots := 0, locals := 15 } : Room)) (fun a U => a = #[(.ref a1), (.ref a2)] ∧ Z.Warmed39 U.vm ∧ U.heap = h0) (fun _ _ _ _ _ => True) (fun _ U o U' => ∃ v L, o = .returned v ∧ Qrm16b Z a1 a2 ed ke mc es sz h0 n0 v U'.heap L ∧ FrameEnd U o U' L ({ frames := 1, cells := 0, slots := 0, locals := 15 } : Room).cells ({ frames := 1, cells := 0, slots := 0, locals := 15 } : Room).slots) := by
  refine MetFree.of_bodySF (plainFor_of_name pn_java_util_ArrayList) hisR ?_
  intro p e s m args below meth c s₁ Bd hml0 hP hK
  obtain ⟨rfl, hZ, hh⟩ := hP
  have hx := Bd.exec
  have hby := Bd.bytes
  have hml : c.maxLocals = 2 := hml0
  have hown : s.vm.findClass "java/util/ArrayList" = some m.cls := findClass_of_methodNamed Bd.named
  have hnm := (name_of_methodNamed Bd.named Bd.method).1
  have X0 : Stand p l e ({ frames := 1, cells := 0, slots := 0, locals := 15 } : Room) s m #[(.ref a1), (.ref a2)] below meth c s₁ [] 0 0 := Stand.of_body Bd
  have e0 : s₁.heap = h0 := by rw [← hh, Bd.state]; rfl
  have N0 := Fr.nil n0
  have pre0 : ∀ t, Steps p.tables e below (s₁.setTop (mkF m 0 #[.val (.ref a1), .val (.ref a2)] [])) t → Steps p.tables e below (s₁.setTop (entryFrame m #[(.ref a1), (.ref a2)] 2)) t := fun t k => castTop (ef_rm16b m a1 a2) k
  have K0 := Keep.refl h0 [a1, ed]
  obtain ⟨T249, X249, e249, st249⟩ := getF X0 hx hZ hown (host := "") (Or.inl (hw _ (List.mem_of_getElem? (i := 146) rfl))) (Via.of (hw _ (List.mem_of_getElem? (i := 147) rfl))) e0 Fm (g := (mkF m 2 #[.val (.ref a1), .val (.ref a2)] [(.ref a1), (.ref a1)])) rfl rfl (hb hby d16_2)
  obtain ⟨T250, h250, X250, e250, W250, st250⟩ := putF X249 hx hZ hown (host := "") (Or.inl (hw _ (List.mem_of_getElem? (i := 146) rfl))) (Via.of (hw _ (List.mem_of_getElem? (i := 147) rfl))) e249 Fm E1 (Or.inl (hw _ (List.mem_of_getElem? (i := 29) rfl))) (hw _ (List.mem_of_getElem? (i := 10) rfl)) (ty := .int) (by decide) rfl rfl (g := (mkF m 7 #[.val (.ref a1), .val (.ref a2)] [(.int (mc + (1 : Int32))), (.ref a1)])) rfl rfl (hb hby d16_7)
  have f251 := Fm.same W250
  have f252 := E1.wr W250
  have f253 := Fe.other W250 (Or.inr (slot_ne (Or.inl (hw _ (List.mem_of_getElem? (i := 32) rfl))) (Or.inl (hw _ (List.mem_of_getElem? (i := 29) rfl))) (by decide) (t := (.array (.object "java/lang/Object"))) (t' := .int) (by decide) (by decide)))
  have f254 := Fs.other W250 (Or.inr (slot_ne (Or.inl (hw _ (List.mem_of_getElem? (i := 128) rfl))) (Or.inl (hw _ (List.mem_of_getElem? (i := 29) rfl))) (by decide) (t := .int) (t' := .int) (by decide) (by decide)))
  have f255 := Ve.other W250 (Ne.symm nae)
  have f256 := Ex.wr W250
  have Zn257 := Nat.le_trans Z0 (Keep.of_wr W250).1
  have N258 := Fr.snoc X250 N0 g1
  have K259 := K0.wr W250 (Or.inl (List.mem_of_getElem? (i := 0) rfl))
  obtain ⟨T260, X260, e260, st260⟩ := getF X250 hx hZ hown (host := "") (Or.inl (hw _ (List.mem_of_getElem? (i := 31) rfl))) Via.refl e250 f253 (g := (mkF m 13 #[.val (.ref a1), .val (.ref a2)] [(.ref a1), (.ref a2), (.ref a1)])) rfl rfl (hb hby d16_13)
  obtain ⟨T261, X261, e261, st261⟩ := getF X260 hx hZ hown (host := "") (Or.inl (hw _ (List.mem_of_getElem? (i := 127) rfl))) Via.refl e260 f254 (g := (mkF m 17 #[.val (.ref a1), .val (.ref a2)] [(.ref a1), (.ref ed), (.ref a2), (.ref a1)])) rfl rfl (hb hby d16_17)
  obtain ⟨cq262, q262, q262'⟩ := f252.cell
  obtain ⟨_, _, ⟨T262, L262, k262, n262⟩, -, X262, ⟨Lc262, hQ262, l262, y262, z262⟩, st262⟩ := X261.privateBack hx (y := (⟨"java/util/ArrayList", "add", "(Ljava/lang/Object;[Ljava/lang/Object;I)V"⟩ : MethodName)) hown (mvT hZ (hw _ (List.mem_of_getElem? (i := 148) rfl))) (mvT hZ (hw _ (List.mem_of_getElem? (i := 149) rfl))) (mvT hZ (hw _ (List.mem_of_getElem? (i := 151) rfl))) (Cond.privateMethod_at (mvP hZ (hw _ (List.mem_of_getElem? (i := 150) rfl)) (args := #[]))) (mvT hZ (hw _ (List.mem_of_getElem? (i := 152) rfl))) (by decide) (backOf (W := 0) (rm17b l Z a0 hw [] a1 a2 ed sz ke (mc + (1 : Int32)) es h250 n0 Zn257 f252 f251 f253 f254 g1 f255 hes Oe ge nae hz f256) hZ (hw _ (List.mem_of_getElem? (i := 152) rfl)) (hw _ (List.mem_of_getElem? (i := 11) rfl)) (by decide) (by decide)) (g := (mkF m 20 #[.val (.ref a1), .val (.ref a2)] [(.int sz), (.ref ed), (.ref a2), (.ref a1)])) rfl (by rw [hml]; rfl) (Steps.refl _) (a := a1) (by rw [e261]; exact q262) q262' (argsL := [(.ref a2), (.ref ed), (.int sz)]) (rest := []) (lenOf pd__Ljava_lang_Object__Ljava_lang_Object_I_V rfl) rfl (by show 2 * 0 + _ ≤ _; exact Nat.le_of_eq rfl) (hb hby d16_20) (fun _ _ => ⟨rfl, e261, (by decide : 0 + 0 ≤ _), (by decide : 0 + 0 ≤ _)⟩)
  dsimp only [Pt.U, Pt.locs, Pt.cells, Pt.slots] at X262 l262 y262 z262 st262 hQ262
  subst l262 y262 z262
  obtain ⟨rfl, N262q, Kq, Feq, Fsq, Fmq, Veq⟩ := hQ262
  have N263 := Fr.app N258 N262q
  have f264 := f252.keep Kq
  have f265 := f256.keep Kq
  have Zn266 := Nat.le_trans Zn257 Kq.1
  have K267 := K259.trans Kq (allS (Or.inl (List.mem_of_getElem? (i := 0) rfl)) (allS (Or.inl (List.mem_of_getElem? (i := 1) rfl)) all0))
  obtain ⟨fs, hr, hrun, hended, hW, hsame⟩ := X262.leave (v := some (.int (1 : Int32))) (fun h => by rw [Bd.returns] at h; cases h)
  refine ⟨_, _, pre0 _ ?_, hrun, hended, _, _, rfl, ?_, ⟨_, rfl⟩, hW, hsame.mono (by decide) (by decide)⟩
  · show Steps p.tables e below (s₁.setTop (mkF m 0 #[.val (.ref a1), .val (.ref a2)] [])) _
    refine XS.aloadN X0.here hx rfl (hb hby d16_0) rfl rfl ?_
    show Steps p.tables e below (s₁.setTop (mkF m 1 #[.val (.ref a1), .val (.ref a2)] [(.ref a1)])) _
    refine XS.dup X0.here hx rfl (hb hby d16_1) rfl rfl ?_
    show Steps p.tables e below (s₁.setTop (mkF m 2 #[.val (.ref a1), .val (.ref a2)] [(.ref a1), (.ref a1)])) _
    refine st249 _ ?_
    show Steps p.tables e below (T249.setTop (mkF m 5 #[.val (.ref a1), .val (.ref a2)] [(.int mc), (.ref a1)])) _
    refine XS.iconst X249.here hx rfl (hb hby d16_5) ?_
    show Steps p.tables e below (T249.setTop (mkF m 6 #[.val (.ref a1), .val (.ref a2)] [(.int (1 : Int32)), (.int mc), (.ref a1)])) _
    refine XS.iadd X249.here hx rfl (hb hby d16_6) rfl ?_
    show Steps p.tables e below (T249.setTop (mkF m 7 #[.val (.ref a1), .val (.ref a2)] [(.int (mc + (1 : Int32))), (.ref a1)])) _
    refine st250 _ ?_
    show Steps p.tables e below (T250.setTop (mkF m 10 #[.val (.ref a1), .val (.ref a2)] [])) _
    refine XS.aloadN X250.here hx rfl (hb hby d16_10) rfl rfl ?_
    show Steps p.tables e below (T250.setTop (mkF m 11 #[.val (.ref a1), .val (.ref a2)] [(.ref a1)])) _
    refine XS.aloadN X250.here hx rfl (hb hby d16_11) rfl rfl ?_
    show Steps p.tables e below (T250.setTop (mkF m 12 #[.val (.ref a1), .val (.ref a2)] [(.ref a2), (.ref a1)])) _
    refine XS.aloadN X250.here hx rfl (hb hby d16_12) rfl rfl ?_
    show Steps p.tables e below (T250.setTop (mkF m 13 #[.val (.ref a1), .val (.ref a2)] [(.ref a1), (.ref a2), (.ref a1)])) _
    refine st260 _ ?_
    show Steps p.tables e below (T260.setTop (mkF m 16 #[.val (.ref a1), .val (.ref a2)] [(.ref ed), (.ref a2), (.ref a1)])) _
    refine XS.aloadN X260.here hx rfl (hb hby d16_16) rfl rfl ?_
    show Steps p.tables e below (T260.setTop (mkF m 17 #[.val (.ref a1), .val (.ref a2)] [(.ref a1), (.ref ed), (.ref a2), (.ref a1)])) _
    refine st261 _ ?_
    show Steps p.tables e below (T261.setTop (mkF m 20 #[.val (.ref a1), .val (.ref a2)] [(.int sz), (.ref ed), (.ref a2), (.ref a1)])) _
    refine st262.trans ?_
    show Steps p.tables e below (T262.setTop (mkF m 23 #[.val (.ref a1), .val (.ref a2)] [])) _
    refine XS.iconst X262.here hx rfl (hb hby d16_23) ?_
    show Steps p.tables e below (T262.setTop (mkF m 24 #[.val (.ref a1), .val (.ref a2)] [(.int (1 : Int32))])) _
    exact retN X262 hx (t := .boolean) Bd.returns (by simp) (hb hby d16_24) hr
  · show Qrm16b Z a1 a2 ed ke mc es sz h0 n0 _ T262.heap _
    exact ⟨rfl, N263, K267, Feq, Fsq, Fmq, Veq⟩
theorem d9_0 : decode prog_22_method_1_code 0 = .ok (.aload_n 0, 1) := by decide +kernel
theorem d9_1 : decode prog_22_method_1_code 1 = .ok (.invokespecial 1, 3) := by decide +kernel
theorem d9_4 : decode prog_22_method_1_code 4 = .ok (.aload_n 0, 1) := by decide +kernel
theorem d9_5 : decode prog_22_method_1_code 5 = .ok (.aload_n 1, 1) := by decide +kernel
theorem d9_6 : decode prog_22_method_1_code 6 = .ok (.putfield 7, 3) := by decide +kernel
theorem d9_9 : decode prog_22_method_1_code 9 = .ok (.aload_n 0, 1) := by decide +kernel
theorem d9_10 : decode prog_22_method_1_code 10 = .ok (.aload_n 2, 1) := by decide +kernel
theorem d9_11 : decode prog_22_method_1_code 11 = .ok (.putfield 13, 3) := by decide +kernel
theorem d9_14 : decode prog_22_method_1_code 14 = .ok (.aload_n 0, 1) := by decide +kernel
theorem d9_15 : decode prog_22_method_1_code 15 = .ok (.aload_n 3, 1) := by decide +kernel
theorem d9_16 : decode prog_22_method_1_code 16 = .ok (.putfield 17, 3) := by decide +kernel
theorem d9_19 : decode prog_22_method_1_code 19 = .ok (.aload_n 0, 1) := by decide +kernel
theorem d9_20 : decode prog_22_method_1_code 20 = .ok (.aload 4, 2) := by decide +kernel
theorem d9_22 : decode prog_22_method_1_code 22 = .ok (.putfield 20, 3) := by decide +kernel
theorem d9_25 : decode prog_22_method_1_code 25 = .ok (.return_, 1) := by decide +kernel
theorem pn_com_example_tenon_tenon_Finding : plainName "com/example/tenon/tenon/Finding" = true := by first | (simp [plainName, overriddenIn]; done) | decide +kernel
theorem ef_rm9 (m : MethodId) (a1 : Addr) (a2 : Addr) (a3 : Addr) (a4 : Addr) (a5 : Addr) : entryFrame m #[(.ref a1), (.ref a2), (.ref a3), (.ref a4), (.ref a5)] 5 = mkF m 0 #[.val (.ref a1), .val (.ref a2), .val (.ref a3), .val (.ref a4), .val (.ref a5)] [] := by first | (simp [entryFrame, mkF, argsToLocals, Value.category]; done) | rfl
def Qrm9 (Z : State) (a1 : Addr) (a2 : Addr) (a3 : Addr) (a4 : Addr) (a5 : Addr) (h0 : Heap) (n0 : Nat) (v : Option Value) (h : Heap) (L : List Loc) : Prop := v = none ∧ Fr n0 L ∧ Keep h0 h [a1] ∧ Fld Z h a1 "com/example/tenon/tenon/Finding" "severity" "Lcom/example/tenon/tenon/Finding$Severity;" (.ref a2)
set_option maxRecDepth 65536 in
set_option maxHeartbeats 40000000 in
theorem rm9 (l : Launch) (Z : State) (a0 : Array Value) (hw : ∀ d ∈ tables_1, d.before a0 Z = true) (ws : List Jvm.Cond) (a1 : Addr) (a2 : Addr) (a3 : Addr) (a4 : Addr) (a5 : Addr) (h0 : Heap) (n0 : Nat) (Z0 : n0 ≤ h0.size) (E1 : Exa Z h0 a1 "com/example/tenon/tenon/Finding") (F_severity : Fld Z h0 a1 "com/example/tenon/tenon/Finding" "severity" "Lcom/example/tenon/tenon/Finding$Severity;" .null) (F_rule : Fld Z h0 a1 "com/example/tenon/tenon/Finding" "rule" "Ljava/lang/String;" .null) (F_subject : Fld Z h0 a1 "com/example/tenon/tenon/Finding" "subject" "Ljava/lang/String;" .null) (F_message : Fld Z h0 a1 "com/example/tenon/tenon/Finding" "message" "Ljava/lang/String;" .null) (g1 : n0 ≤ a1) :
    MetFree l (⟨"com/example/tenon/tenon/Finding", "<init>", "(Lcom/example/tenon/tenon/Finding$Severity;Ljava/lang/String;Ljava/lang/String;Ljava/lang/String;)V"⟩ : MethodName) (head1 (Jvm.Cond.code (⟨"com/example/tenon/tenon/Finding", "<init>", "(Lcom/example/tenon/tenon/Finding$Severity;Ljava/lang/String;Ljava/lang/String;Ljava/lang/String;)V"⟩ : MethodName) prog_22_method_1_code 5 none :: ws) ({ frames := 2, cells := 0, slots := 0, locals := 24 } : Room)) (fun a U => a = #[(.ref a1), (.ref a2), (.ref a3), (.ref a4), (.ref a5)] ∧ Z.Warmed39 U.vm ∧ U.heap = h0) (fun _ _ _ _ _ => True) (fun _ U o U' => ∃ v L, o = .returned v ∧ Qrm9 Z a1 a2 a3 a4 a5 h0 n0 v U'.heap L ∧ FrameEnd U o U' L ({ frames := 2, cells := 0, slots := 0, locals := 24 } : Room).cells ({ frames := 2, cells := 0, slots := 0, locals := 24 } : Room).slots) := by
  refine MetFree.of_bodySF (plainFor_of_name pn_com_example_tenon_tenon_Finding) hisR ?_
  intro p e s m args below meth c s₁ Bd hml0 hP hK
  obtain ⟨rfl, hZ, hh⟩ := hP
  have hx := Bd.exec
  have hby := Bd.bytes
  have hml : c.maxLocals = 5 := hml0
  have hown : s.vm.findClass "com/example/tenon/tenon/Finding" = some m.cls := findClass_of_methodNamed Bd.named
  have hnm := (name_of_methodNamed Bd.named Bd.method).1
  have X0 : Stand p l e ({ frames := 2, cells := 0, slots := 0, locals := 24 } : Room) s m #[(.ref a1), (.ref a2), (.ref a3), (.ref a4), (.ref a5)] below meth c s₁ [] 0 0 := Stand.of_body Bd
  have e0 : s₁.heap = h0 := by rw [← hh, Bd.state]; rfl
  have N0 := Fr.nil n0
  have pre0 : ∀ t, Steps p.tables e below (s₁.setTop (mkF m 0 #[.val (.ref a1), .val (.ref a2), .val (.ref a3), .val (.ref a4), .val (.ref a5)] [])) t → Steps p.tables e below (s₁.setTop (entryFrame m #[(.ref a1), (.ref a2), (.ref a3), (.ref a4), (.ref a5)] 5)) t := fun t k => castTop (ef_rm9 m a1 a2 a3 a4 a5) k
  have K0 := Keep.refl h0 [a1]
  obtain ⟨_, _, ⟨T268, L268, k268, n268⟩, -, X268, ⟨Lc268, hQ268, l268, y268, z268⟩, st268⟩ := X0.specialBack hx (y := (⟨"java/lang/Record", "<init>", "()V"⟩ : MethodName)) rfl hown (mvT hZ (hw _ (List.mem_of_getElem? (i := 85) rfl))) (mvT hZ (hw _ (List.mem_of_getElem? (i := 86) rfl))) (mvT hZ (hw _ (List.mem_of_getElem? (i := 89) rfl))) (by decide) (backOf (W := 0) (rm10 l Z a0 hw [] a1  h0 n0 Z0 ) hZ (hw _ (List.mem_of_getElem? (i := 89) rfl)) (hw _ (List.mem_of_getElem? (i := 88) rfl)) (by decide) (by decide)) (g := (mkF m 1 #[.val (.ref a1), .val (.ref a2), .val (.ref a3), .val (.ref a4), .val (.ref a5)] [(.ref a1)])) rfl (by rw [hml]; rfl) (Steps.refl _) (a := a1) (argsL := []) (rest := []) (lenOf pd___V rfl) rfl (by show 2 * 0 + _ ≤ _; exact Nat.le_of_eq rfl) (hb hby d9_1) (fun _ _ => ⟨rfl, e0, (by decide : 0 + 0 ≤ _), (by decide : 0 + 0 ≤ _)⟩)
  dsimp only [Pt.U, Pt.locs, Pt.cells, Pt.slots] at X268 l268 y268 z268 st268 hQ268
  subst l268 y268 z268
  obtain ⟨rfl, N268q, e268⟩ := hQ268
  have N269 := Fr.app N0 N268q
  obtain ⟨T270, h270, X270, e270, W270, st270⟩ := putF X268 hx hZ hown (host := "") (Or.inl (hw _ (List.mem_of_getElem? (i := 91) rfl))) Via.refl e268 F_severity E1 (Or.inr ⟨(hw _ (List.mem_of_getElem? (i := 92) rfl)), rfl, hnm⟩) (hw _ (List.mem_of_getElem? (i := 69) rfl)) (ty := (.object "com/example/tenon/tenon/Finding$Severity")) (by decide) rfl rfl (g := (mkF m 6 #[.val (.ref a1), .val (.ref a2), .val (.ref a3), .val (.ref a4), .val (.ref a5)] [(.ref a2), (.ref a1)])) rfl rfl (hb hby d9_6)
  have f271 := F_severity.same W270
  have f272 := E1.wr W270
  have f273 := F_rule.other W270 (Or.inr (slot_ne (Or.inr (hw _ (List.mem_of_getElem? (i := 94) rfl))) (Or.inr (hw _ (List.mem_of_getElem? (i := 92) rfl))) (by decide) (t := (.object "java/lang/String")) (t' := (.object "com/example/tenon/tenon/Finding$Severity")) (by decide) (by decide)))
  have f274 := F_subject.other W270 (Or.inr (slot_ne (Or.inr (hw _ (List.mem_of_getElem? (i := 96) rfl))) (Or.inr (hw _ (List.mem_of_getElem? (i := 92) rfl))) (by decide) (t := (.object "java/lang/String")) (t' := (.object "com/example/tenon/tenon/Finding$Severity")) (by decide) (by decide)))
  have f275 := F_message.other W270 (Or.inr (slot_ne (Or.inr (hw _ (List.mem_of_getElem? (i := 98) rfl))) (Or.inr (hw _ (List.mem_of_getElem? (i := 92) rfl))) (by decide) (t := (.object "java/lang/String")) (t' := (.object "com/example/tenon/tenon/Finding$Severity")) (by decide) (by decide)))
  have Zn276 := Nat.le_trans Z0 (Keep.of_wr W270).1
  have N277 := Fr.snoc X270 N269 g1
  have K278 := K0.wr W270 (Or.inl (List.mem_of_getElem? (i := 0) rfl))
  obtain ⟨T279, h279, X279, e279, W279, st279⟩ := putF X270 hx hZ hown (host := "") (Or.inl (hw _ (List.mem_of_getElem? (i := 93) rfl))) Via.refl e270 f273 f272 (Or.inr ⟨(hw _ (List.mem_of_getElem? (i := 94) rfl)), rfl, hnm⟩) (hw _ (List.mem_of_getElem? (i := 69) rfl)) (ty := (.object "java/lang/String")) (by decide) rfl rfl (g := (mkF m 11 #[.val (.ref a1), .val (.ref a2), .val (.ref a3), .val (.ref a4), .val (.ref a5)] [(.ref a3), (.ref a1)])) rfl rfl (hb hby d9_11)
  have f280 := f273.same W279
  have f281 := f272.wr W279
  have f282 := f274.other W279 (Or.inr (slot_ne (Or.inr (hw _ (List.mem_of_getElem? (i := 96) rfl))) (Or.inr (hw _ (List.mem_of_getElem? (i := 94) rfl))) (by decide) (t := (.object "java/lang/String")) (t' := (.object "java/lang/String")) (by decide) (by decide)))
  have f283 := f275.other W279 (Or.inr (slot_ne (Or.inr (hw _ (List.mem_of_getElem? (i := 98) rfl))) (Or.inr (hw _ (List.mem_of_getElem? (i := 94) rfl))) (by decide) (t := (.object "java/lang/String")) (t' := (.object "java/lang/String")) (by decide) (by decide)))
  have f284 := f271.other W279 (Or.inr (slot_ne (Or.inr (hw _ (List.mem_of_getElem? (i := 92) rfl))) (Or.inr (hw _ (List.mem_of_getElem? (i := 94) rfl))) (by decide) (t := (.object "com/example/tenon/tenon/Finding$Severity")) (t' := (.object "java/lang/String")) (by decide) (by decide)))
  have Zn285 := Nat.le_trans Zn276 (Keep.of_wr W279).1
  have N286 := Fr.snoc X279 N277 g1
  have K287 := K278.wr W279 (Or.inl (List.mem_of_getElem? (i := 0) rfl))
  obtain ⟨T288, h288, X288, e288, W288, st288⟩ := putF X279 hx hZ hown (host := "") (Or.inl (hw _ (List.mem_of_getElem? (i := 95) rfl))) Via.refl e279 f282 f281 (Or.inr ⟨(hw _ (List.mem_of_getElem? (i := 96) rfl)), rfl, hnm⟩) (hw _ (List.mem_of_getElem? (i := 69) rfl)) (ty := (.object "java/lang/String")) (by decide) rfl rfl (g := (mkF m 16 #[.val (.ref a1), .val (.ref a2), .val (.ref a3), .val (.ref a4), .val (.ref a5)] [(.ref a4), (.ref a1)])) rfl rfl (hb hby d9_16)
  have f289 := f282.same W288
  have f290 := f281.wr W288
  have f291 := f283.other W288 (Or.inr (slot_ne (Or.inr (hw _ (List.mem_of_getElem? (i := 98) rfl))) (Or.inr (hw _ (List.mem_of_getElem? (i := 96) rfl))) (by decide) (t := (.object "java/lang/String")) (t' := (.object "java/lang/String")) (by decide) (by decide)))
  have f292 := f284.other W288 (Or.inr (slot_ne (Or.inr (hw _ (List.mem_of_getElem? (i := 92) rfl))) (Or.inr (hw _ (List.mem_of_getElem? (i := 96) rfl))) (by decide) (t := (.object "com/example/tenon/tenon/Finding$Severity")) (t' := (.object "java/lang/String")) (by decide) (by decide)))
  have f293 := f280.other W288 (Or.inr (slot_ne (Or.inr (hw _ (List.mem_of_getElem? (i := 94) rfl))) (Or.inr (hw _ (List.mem_of_getElem? (i := 96) rfl))) (by decide) (t := (.object "java/lang/String")) (t' := (.object "java/lang/String")) (by decide) (by decide)))
  have Zn294 := Nat.le_trans Zn285 (Keep.of_wr W288).1
  have N295 := Fr.snoc X288 N286 g1
  have K296 := K287.wr W288 (Or.inl (List.mem_of_getElem? (i := 0) rfl))
  obtain ⟨T297, h297, X297, e297, W297, st297⟩ := putF X288 hx hZ hown (host := "") (Or.inl (hw _ (List.mem_of_getElem? (i := 97) rfl))) Via.refl e288 f291 f290 (Or.inr ⟨(hw _ (List.mem_of_getElem? (i := 98) rfl)), rfl, hnm⟩) (hw _ (List.mem_of_getElem? (i := 69) rfl)) (ty := (.object "java/lang/String")) (by decide) rfl rfl (g := (mkF m 22 #[.val (.ref a1), .val (.ref a2), .val (.ref a3), .val (.ref a4), .val (.ref a5)] [(.ref a5), (.ref a1)])) rfl rfl (hb hby d9_22)
  have f298 := f291.same W297
  have f299 := f290.wr W297
  have f300 := f292.other W297 (Or.inr (slot_ne (Or.inr (hw _ (List.mem_of_getElem? (i := 92) rfl))) (Or.inr (hw _ (List.mem_of_getElem? (i := 98) rfl))) (by decide) (t := (.object "com/example/tenon/tenon/Finding$Severity")) (t' := (.object "java/lang/String")) (by decide) (by decide)))
  have f301 := f293.other W297 (Or.inr (slot_ne (Or.inr (hw _ (List.mem_of_getElem? (i := 94) rfl))) (Or.inr (hw _ (List.mem_of_getElem? (i := 98) rfl))) (by decide) (t := (.object "java/lang/String")) (t' := (.object "java/lang/String")) (by decide) (by decide)))
  have f302 := f289.other W297 (Or.inr (slot_ne (Or.inr (hw _ (List.mem_of_getElem? (i := 96) rfl))) (Or.inr (hw _ (List.mem_of_getElem? (i := 98) rfl))) (by decide) (t := (.object "java/lang/String")) (t' := (.object "java/lang/String")) (by decide) (by decide)))
  have Zn303 := Nat.le_trans Zn294 (Keep.of_wr W297).1
  have N304 := Fr.snoc X297 N295 g1
  have K305 := K296.wr W297 (Or.inl (List.mem_of_getElem? (i := 0) rfl))
  obtain ⟨fs, hr, hrun, hended, hW, hsame⟩ := X297.leave (v := none) (fun _ => rfl)
  refine ⟨_, _, pre0 _ ?_, hrun, hended, _, _, rfl, ?_, ⟨_, rfl⟩, hW, hsame.mono (by decide) (by decide)⟩
  · show Steps p.tables e below (s₁.setTop (mkF m 0 #[.val (.ref a1), .val (.ref a2), .val (.ref a3), .val (.ref a4), .val (.ref a5)] [])) _
    refine XS.aloadN X0.here hx rfl (hb hby d9_0) rfl rfl ?_
    show Steps p.tables e below (s₁.setTop (mkF m 1 #[.val (.ref a1), .val (.ref a2), .val (.ref a3), .val (.ref a4), .val (.ref a5)] [(.ref a1)])) _
    refine st268.trans ?_
    show Steps p.tables e below (T268.setTop (mkF m 4 #[.val (.ref a1), .val (.ref a2), .val (.ref a3), .val (.ref a4), .val (.ref a5)] [])) _
    refine XS.aloadN X268.here hx rfl (hb hby d9_4) rfl rfl ?_
    show Steps p.tables e below (T268.setTop (mkF m 5 #[.val (.ref a1), .val (.ref a2), .val (.ref a3), .val (.ref a4), .val (.ref a5)] [(.ref a1)])) _
    refine XS.aloadN X268.here hx rfl (hb hby d9_5) rfl rfl ?_
    show Steps p.tables e below (T268.setTop (mkF m 6 #[.val (.ref a1), .val (.ref a2), .val (.ref a3), .val (.ref a4), .val (.ref a5)] [(.ref a2), (.ref a1)])) _
    refine st270 _ ?_
    show Steps p.tables e below (T270.setTop (mkF m 9 #[.val (.ref a1), .val (.ref a2), .val (.ref a3), .val (.ref a4), .val (.ref a5)] [])) _
    refine XS.aloadN X270.here hx rfl (hb hby d9_9) rfl rfl ?_
    show Steps p.tables e below (T270.setTop (mkF m 10 #[.val (.ref a1), .val (.ref a2), .val (.ref a3), .val (.ref a4), .val (.ref a5)] [(.ref a1)])) _
    refine XS.aloadN X270.here hx rfl (hb hby d9_10) rfl rfl ?_
    show Steps p.tables e below (T270.setTop (mkF m 11 #[.val (.ref a1), .val (.ref a2), .val (.ref a3), .val (.ref a4), .val (.ref a5)] [(.ref a3), (.ref a1)])) _
    refine st279 _ ?_
    show Steps p.tables e below (T279.setTop (mkF m 14 #[.val (.ref a1), .val (.ref a2), .val (.ref a3), .val (.ref a4), .val (.ref a5)] [])) _
    refine XS.aloadN X279.here hx rfl (hb hby d9_14) rfl rfl ?_
    show Steps p.tables e below (T279.setTop (mkF m 15 #[.val (.ref a1), .val (.ref a2), .val (.ref a3), .val (.ref a4), .val (.ref a5)] [(.ref a1)])) _
    refine XS.aloadN X279.here hx rfl (hb hby d9_15) rfl rfl ?_
    show Steps p.tables e below (T279.setTop (mkF m 16 #[.val (.ref a1), .val (.ref a2), .val (.ref a3), .val (.ref a4), .val (.ref a5)] [(.ref a4), (.ref a1)])) _
    refine st288 _ ?_
    show Steps p.tables e below (T288.setTop (mkF m 19 #[.val (.ref a1), .val (.ref a2), .val (.ref a3), .val (.ref a4), .val (.ref a5)] [])) _
    refine XS.aloadN X288.here hx rfl (hb hby d9_19) rfl rfl ?_
    show Steps p.tables e below (T288.setTop (mkF m 20 #[.val (.ref a1), .val (.ref a2), .val (.ref a3), .val (.ref a4), .val (.ref a5)] [(.ref a1)])) _
    refine XS.aload X288.here hx rfl (hb hby d9_20) rfl rfl ?_
    show Steps p.tables e below (T288.setTop (mkF m 22 #[.val (.ref a1), .val (.ref a2), .val (.ref a3), .val (.ref a4), .val (.ref a5)] [(.ref a5), (.ref a1)])) _
    refine st297 _ ?_
    show Steps p.tables e below (T297.setTop (mkF m 25 #[.val (.ref a1), .val (.ref a2), .val (.ref a3), .val (.ref a4), .val (.ref a5)] [])) _
    exact X297.returnOut hx Bd.returns (hb hby d9_25) hr
  · show Qrm9 Z a1 a2 a3 a4 a5 h0 n0 _ T297.heap _
    rw [e297]
    exact ⟨rfl, N304, K305, f300⟩
theorem d12_0 : decode prog_22_method_11_code 0 = .ok (.aload_n 0, 1) := by decide +kernel
theorem d12_1 : decode prog_22_method_11_code 1 = .ok (.getfield 7, 3) := by decide +kernel
theorem d12_4 : decode prog_22_method_11_code 4 = .ok (.areturn, 1) := by decide +kernel
theorem ef_rm12 (m : MethodId) (a1 : Addr) : entryFrame m #[(.ref a1)] 1 = mkF m 0 #[.val (.ref a1)] [] := by first | (simp [entryFrame, mkF, argsToLocals, Value.category]; done) | rfl
def Qrm12 (Z : State) (a1 : Addr) (se : Addr) (h0 : Heap) (n0 : Nat) (v : Option Value) (h : Heap) (L : List Loc) : Prop := v = some (.ref se) ∧ Fr n0 L ∧ h = h0
set_option maxRecDepth 65536 in
set_option maxHeartbeats 40000000 in
theorem rm12 (l : Launch) (Z : State) (a0 : Array Value) (hw : ∀ d ∈ tables_1, d.before a0 Z = true) (ws : List Jvm.Cond) (a1 : Addr) (se : Addr) (h0 : Heap) (n0 : Nat) (Z0 : n0 ≤ h0.size) (Fv : Fld Z h0 a1 "com/example/tenon/tenon/Finding" "severity" "Lcom/example/tenon/tenon/Finding$Severity;" (.ref se)) :
    MetFree l (⟨"com/example/tenon/tenon/Finding", "severity", "()Lcom/example/tenon/tenon/Finding$Severity;"⟩ : MethodName) (head1 (Jvm.Cond.code (⟨"com/example/tenon/tenon/Finding", "severity", "()Lcom/example/tenon/tenon/Finding$Severity;"⟩ : MethodName) prog_22_method_11_code 1 (some (.object "com/example/tenon/tenon/Finding$Severity")) :: ws) ({ frames := 0, cells := 0, slots := 0, locals := 0 } : Room)) (fun a U => a = #[(.ref a1)] ∧ Z.Warmed39 U.vm ∧ U.heap = h0) (fun _ _ _ _ _ => True) (fun _ U o U' => ∃ v L, o = .returned v ∧ Qrm12 Z a1 se h0 n0 v U'.heap L ∧ FrameEnd U o U' L ({ frames := 0, cells := 0, slots := 0, locals := 0 } : Room).cells ({ frames := 0, cells := 0, slots := 0, locals := 0 } : Room).slots) := by
  refine MetFree.of_bodySF (plainFor_of_name pn_com_example_tenon_tenon_Finding) hisR ?_
  intro p e s m args below meth c s₁ Bd hml0 hP hK
  obtain ⟨rfl, hZ, hh⟩ := hP
  have hx := Bd.exec
  have hby := Bd.bytes
  have hml : c.maxLocals = 1 := hml0
  have hown : s.vm.findClass "com/example/tenon/tenon/Finding" = some m.cls := findClass_of_methodNamed Bd.named
  have hnm := (name_of_methodNamed Bd.named Bd.method).1
  have X0 : Stand p l e ({ frames := 0, cells := 0, slots := 0, locals := 0 } : Room) s m #[(.ref a1)] below meth c s₁ [] 0 0 := Stand.of_body Bd
  have e0 : s₁.heap = h0 := by rw [← hh, Bd.state]; rfl
  have N0 := Fr.nil n0
  have pre0 : ∀ t, Steps p.tables e below (s₁.setTop (mkF m 0 #[.val (.ref a1)] [])) t → Steps p.tables e below (s₁.setTop (entryFrame m #[(.ref a1)] 1)) t := fun t k => castTop (ef_rm12 m a1) k
  obtain ⟨T306, X306, e306, st306⟩ := getF X0 hx hZ hown (host := "") (Or.inl (hw _ (List.mem_of_getElem? (i := 91) rfl))) Via.refl e0 Fv (g := (mkF m 1 #[.val (.ref a1)] [(.ref a1)])) rfl rfl (hb hby d12_1)
  obtain ⟨fs, hr, hrun, hended, hW, hsame⟩ := X306.leave (v := some (.ref se)) (fun h => by rw [Bd.returns] at h; cases h)
  refine ⟨_, _, pre0 _ ?_, hrun, hended, _, _, rfl, ?_, ⟨_, rfl⟩, hW, hsame.mono (by decide) (by decide)⟩
  · show Steps p.tables e below (s₁.setTop (mkF m 0 #[.val (.ref a1)] [])) _
    refine XS.aloadN X0.here hx rfl (hb hby d12_0) rfl rfl ?_
    show Steps p.tables e below (s₁.setTop (mkF m 1 #[.val (.ref a1)] [(.ref a1)])) _
    refine st306 _ ?_
    show Steps p.tables e below (T306.setTop (mkF m 4 #[.val (.ref a1)] [(.ref se)])) _
    exact retOut X306 hx Bd.returns rfl (Or.inr (Or.inr (Or.inr (Or.inr ⟨rfl, rfl, rfl⟩)))) (hb hby d12_4) hr
  · show Qrm12 Z a1 se h0 n0 _ T306.heap _
    rw [e306]
    exact ⟨rfl, N0, rfl⟩
theorem d13_0 : decode jdk_37_method_2_code 0 = .ok (.aload_n 0, 1) := by decide +kernel
theorem d13_1 : decode jdk_37_method_2_code 1 = .ok (.getfield 7, 3) := by decide +kernel
theorem d13_4 : decode jdk_37_method_2_code 4 = .ok (.ireturn, 1) := by decide +kernel
theorem pn_java_lang_Enum : plainName "java/lang/Enum" = true := by first | (simp [plainName, overriddenIn]; done) | decide +kernel
theorem ef_rm13 (m : MethodId) (a1 : Addr) : entryFrame m #[(.ref a1)] 1 = mkF m 0 #[.val (.ref a1)] [] := by first | (simp [entryFrame, mkF, argsToLocals, Value.category]; done) | rfl
def Qrm13 (Z : State) (a1 : Addr) (od : Int32) (h0 : Heap) (n0 : Nat) (v : Option Value) (h : Heap) (L : List Loc) : Prop := v = some (.int od) ∧ Fr n0 L ∧ h = h0
set_option maxRecDepth 65536 in
set_option maxHeartbeats 40000000 in
theorem rm13 (l : Launch) (Z : State) (a0 : Array Value) (hw : ∀ d ∈ tables_1, d.before a0 Z = true) (ws : List Jvm.Cond) (a1 : Addr) (od : Int32) (h0 : Heap) (n0 : Nat) (Z0 : n0 ≤ h0.size) (Fo : Fld Z h0 a1 "java/lang/Enum" "ordinal" "I" (.int od)) :
    MetFree l (⟨"java/lang/Enum", "ordinal", "()I"⟩ : MethodName) (head1 (Jvm.Cond.code (⟨"java/lang/Enum", "ordinal", "()I"⟩ : MethodName) jdk_37_method_2_code 1 (some .int) :: ws) ({ frames := 0, cells := 0, slots := 0, locals := 0 } : Room)) (fun a U => a = #[(.ref a1)] ∧ Z.Warmed39 U.vm ∧ U.heap = h0) (fun _ _ _ _ _ => True) (fun _ U o U' => ∃ v L, o = .returned v ∧ Qrm13 Z a1 od h0 n0 v U'.heap L ∧ FrameEnd U o U' L ({ frames := 0, cells := 0, slots := 0, locals := 0 } : Room).cells ({ frames := 0, cells := 0, slots := 0, locals := 0 } : Room).slots) := by
  refine MetFree.of_bodySF (plainFor_of_name pn_java_lang_Enum) hisR ?_
  intro p e s m args below meth c s₁ Bd hml0 hP hK
  obtain ⟨rfl, hZ, hh⟩ := hP
  have hx := Bd.exec
  have hby := Bd.bytes
  have hml : c.maxLocals = 1 := hml0
  have hown : s.vm.findClass "java/lang/Enum" = some m.cls := findClass_of_methodNamed Bd.named
  have hnm := (name_of_methodNamed Bd.named Bd.method).1
  have X0 : Stand p l e ({ frames := 0, cells := 0, slots := 0, locals := 0 } : Room) s m #[(.ref a1)] below meth c s₁ [] 0 0 := Stand.of_body Bd
  have e0 : s₁.heap = h0 := by rw [← hh, Bd.state]; rfl
  have N0 := Fr.nil n0
  have pre0 : ∀ t, Steps p.tables e below (s₁.setTop (mkF m 0 #[.val (.ref a1)] [])) t → Steps p.tables e below (s₁.setTop (entryFrame m #[(.ref a1)] 1)) t := fun t k => castTop (ef_rm13 m a1) k
  obtain ⟨T307, X307, e307, st307⟩ := getF X0 hx hZ hown (host := "") (Or.inl (hw _ (List.mem_of_getElem? (i := 116) rfl))) Via.refl e0 Fo (g := (mkF m 1 #[.val (.ref a1)] [(.ref a1)])) rfl rfl (hb hby d13_1)
  obtain ⟨fs, hr, hrun, hended, hW, hsame⟩ := X307.leave (v := some (.int od)) (fun h => by rw [Bd.returns] at h; cases h)
  refine ⟨_, _, pre0 _ ?_, hrun, hended, _, _, rfl, ?_, ⟨_, rfl⟩, hW, hsame.mono (by decide) (by decide)⟩
  · show Steps p.tables e below (s₁.setTop (mkF m 0 #[.val (.ref a1)] [])) _
    refine XS.aloadN X0.here hx rfl (hb hby d13_0) rfl rfl ?_
    show Steps p.tables e below (s₁.setTop (mkF m 1 #[.val (.ref a1)] [(.ref a1)])) _
    refine st307 _ ?_
    show Steps p.tables e below (T307.setTop (mkF m 4 #[.val (.ref a1)] [(.int od)])) _
    exact retI X307 hx Bd.returns (hb hby d13_4) hr
  · show Qrm13 Z a1 od h0 n0 _ T307.heap _
    rw [e307]
    exact ⟨rfl, N0, rfl⟩
theorem own_s0 {a b c n : Int64} (h : a + b + c = n) : (a + (1 : Int64)) + b + c = n + 1 := by subst h; ac_rfl
theorem own_s1 {a b c n : Int64} (h : a + b + c = n) : a + (b + (1 : Int64)) + c = n + 1 := by subst h; ac_rfl
theorem own_s2 {a b c n : Int64} (h : a + b + c = n) : a + b + (c + (1 : Int64)) = n + 1 := by subst h; ac_rfl
theorem own_up {sz : Int32} {k : Int} (h0 : 0 < sz.toInt) (h : sz.toInt ≤ k) (hk : k ≤ 3) : 0 < (sz + (1 : Int32)).toInt ∧ (sz + (1 : Int32)).toInt ≤ k + 1 := by
  have e : (sz + (1 : Int32)).toInt = sz.toInt + 1 := by rw [Int32.toInt_add]; exact Int.bmod_eq_of_le (by show _ ≤ sz.toInt + 1; omega) (by show sz.toInt + 1 < _; omega)
  omega
theorem d11_0 : decode prog_74_method_6_code 0 = .ok (.aload_n 0, 1) := by decide +kernel
theorem d11_1 : decode prog_74_method_6_code 1 = .ok (.getfield 28, 3) := by decide +kernel
theorem d11_4 : decode prog_74_method_6_code 4 = .ok (.aload_n 1, 1) := by decide +kernel
theorem d11_5 : decode prog_74_method_6_code 5 = .ok (.invokevirtual 52, 3) := by decide +kernel
theorem pd___Lcom_example_tenon_tenon_Finding_Severity_ : parseMethodDescriptor "()Lcom/example/tenon/tenon/Finding$Severity;" = some ⟨[], some (.object "com/example/tenon/tenon/Finding$Severity")⟩ := by decide +kernel
theorem d11_8 : decode prog_74_method_6_code 8 = .ok (.invokevirtual 56, 3) := by decide +kernel
theorem pd___I : parseMethodDescriptor "()I" = some ⟨[], some .int⟩ := by decide +kernel
theorem d11_11 : decode prog_74_method_6_code 11 = .ok (.dup2, 1) := by decide +kernel
theorem d11_12 : decode prog_74_method_6_code 12 = .ok (.laload, 1) := by decide +kernel
theorem d11_13 : decode prog_74_method_6_code 13 = .ok (.lconst 1, 1) := by decide +kernel
theorem d11_14 : decode prog_74_method_6_code 14 = .ok (.ladd, 1) := by decide +kernel
theorem d11_15 : decode prog_74_method_6_code 15 = .ok (.lastore, 1) := by decide +kernel
theorem d11_16 : decode prog_74_method_6_code 16 = .ok (.aload_n 0, 1) := by decide +kernel
theorem d11_17 : decode prog_74_method_6_code 17 = .ok (.getfield 18, 3) := by decide +kernel
theorem d11_20 : decode prog_74_method_6_code 20 = .ok (.invokeinterface 60 1, 5) := by decide +kernel
theorem d11_25 : decode prog_74_method_6_code 25 = .ok (.aload_n 0, 1) := by decide +kernel
theorem d11_26 : decode prog_74_method_6_code 26 = .ok (.getfield 32, 3) := by decide +kernel
theorem d11_29 : decode prog_74_method_6_code 29 = .ok (.if_icmp .ge 14, 3) := by decide +kernel
theorem d11_32 : decode prog_74_method_6_code 32 = .ok (.aload_n 0, 1) := by decide +kernel
theorem d11_33 : decode prog_74_method_6_code 33 = .ok (.getfield 18, 3) := by decide +kernel
theorem d11_36 : decode prog_74_method_6_code 36 = .ok (.aload_n 1, 1) := by decide +kernel
theorem d11_37 : decode prog_74_method_6_code 37 = .ok (.invokeinterface 65 2, 5) := by decide +kernel
theorem pd__Ljava_lang_Object__Z : parseMethodDescriptor "(Ljava/lang/Object;)Z" = some ⟨[(.object "java/lang/Object")], some .boolean⟩ := by decide +kernel
theorem d11_42 : decode prog_74_method_6_code 42 = .ok (.pop, 1) := by decide +kernel
theorem d11_43 : decode prog_74_method_6_code 43 = .ok (.return_, 1) := by decide +kernel
theorem ef_rm11_0 (m : MethodId) (r : Addr) (a2 : Addr) : entryFrame m #[(.ref r), (.ref a2)] 2 = mkF m 0 #[.val (.ref r), .val (.ref a2)] [] := by first | (simp [entryFrame, mkF, argsToLocals, Value.category]; done) | rfl
def Qrm11_0 (Z : State) (r : Addr) (a2 : Addr) (al : Addr) (cb : Addr) (kc : ClassId) (dce : Addr) (kd : ClassId) (mo : Int32) (k : Int) (n : Int64) (se : Addr) (h0 : Heap) (n0 : Nat) (v : Option Value) (h : Heap) (L : List Loc) : Prop := v = none ∧ Fr n0 L ∧ h0.size ≤ h.size ∧ own_W Z n0 h r al cb kc dce mo (k + 1) (n + 1)
set_option maxRecDepth 65536 in
set_option maxHeartbeats 40000000 in
theorem rm11_0 (l : Launch) (Z : State) (a0 : Array Value) (hw : ∀ d ∈ tables_1, d.before a0 Z = true) (ws : List Jvm.Cond) (r : Addr) (a2 : Addr) (al : Addr) (cb : Addr) (kc : ClassId) (dce : Addr) (kd : ClassId) (mo : Int32) (k : Int) (n : Int64) (se : Addr) (h0 : Heap) (n0 : Nat) (Z0 : n0 ≤ h0.size) (W1 : own_W Z n0 h0 r al cb kc dce mo k n) (SD : Sta Z Z.heap "java/util/ArrayList" "DEFAULTCAPACITY_EMPTY_ELEMENTDATA" "[Ljava/lang/Object;" (.ref dce)) (AD : Arv Z Z.heap dce kd (.object "java/lang/Object") (0 : Int32) [] .null) (hk3 : 0 ≤ k ∧ k ≤ 3) (Ef : Exa Z h0 a2 "com/example/tenon/tenon/Finding") (Fv : Fld Z h0 a2 "com/example/tenon/tenon/Finding" "severity" "Lcom/example/tenon/tenon/Finding$Severity;" (.ref se)) (Es : Exa Z Z.heap se "com/example/tenon/tenon/Finding$Severity") (Fd : Fld Z Z.heap se "java/lang/Enum" "ordinal" "I" (.int (0 : Int32))) :
    MetFree l (⟨"com/example/tenon/tenon/Report", "add", "(Lcom/example/tenon/tenon/Finding;)V"⟩ : MethodName) (head1 (Jvm.Cond.code (⟨"com/example/tenon/tenon/Report", "add", "(Lcom/example/tenon/tenon/Finding;)V"⟩ : MethodName) prog_74_method_6_code 2 none :: ws) ({ frames := 5, cells := 1, slots := 10, locals := 69 } : Room)) (fun a U => a = #[(.ref r), (.ref a2)] ∧ Z.Warmed39 U.vm ∧ U.heap = h0) (fun _ _ _ _ _ => True) (fun _ U o U' => ∃ v L, o = .returned v ∧ Qrm11_0 Z r a2 al cb kc dce kd mo k n se h0 n0 v U'.heap L ∧ FrameEnd U o U' L ({ frames := 5, cells := 1, slots := 10, locals := 69 } : Room).cells ({ frames := 5, cells := 1, slots := 10, locals := 69 } : Room).slots) := by
  refine MetFree.of_bodySF (plainFor_of_name pn_com_example_tenon_tenon_Report) hisR ?_
  intro p e s m args below meth c s₁ Bd hml0 hP hK
  obtain ⟨rfl, hZ, hh⟩ := hP
  have hx := Bd.exec
  have hby := Bd.bytes
  have hml : c.maxLocals = 2 := hml0
  have hown : s.vm.findClass "com/example/tenon/tenon/Report" = some m.cls := findClass_of_methodNamed Bd.named
  have hnm := (name_of_methodNamed Bd.named Bd.method).1
  have X0 : Stand p l e ({ frames := 5, cells := 1, slots := 10, locals := 69 } : Room) s m #[(.ref r), (.ref a2)] below meth c s₁ [] 0 0 := Stand.of_body Bd
  have e0 : s₁.heap = h0 := by rw [← hh, Bd.state]; rfl
  have N0 := Fr.nil n0
  have pre0 : ∀ t, Steps p.tables e below (s₁.setTop (mkF m 0 #[.val (.ref r), .val (.ref a2)] [])) t → Steps p.tables e below (s₁.setTop (entryFrame m #[(.ref r), (.ref a2)] 2)) t := fun t k => castTop (ef_rm11_0 m r a2) k
  obtain ⟨Xo, Zo, gr, ga, gc, nra, nrc, nac, Er, Ff, Fc, Fo, Ea, hLS, c0, c1, c2, Vc, hsum⟩ := id W1
  have HZ0 := Nat.le_refl h0.size
  obtain ⟨T308, X308, e308, st308⟩ := getF X0 hx hZ hown (host := "") (Or.inl (hw _ (List.mem_of_getElem? (i := 55) rfl))) Via.refl e0 Fc (g := (mkF m 1 #[.val (.ref r), .val (.ref a2)] [(.ref r)])) rfl rfl (hb hby d11_1)
  obtain ⟨cq309, kq309, q309a, q309b, q309c⟩ := isOf hZ e308 Ef
  obtain ⟨_, _, ⟨T309, L309, k309, n309⟩, -, X309, ⟨Lc309, hQ309, l309, y309, z309⟩, st309⟩ := X308.virtualBack hx (y := (⟨"com/example/tenon/tenon/Finding", "severity", "()Lcom/example/tenon/tenon/Finding$Severity;"⟩ : MethodName)) (z := (⟨"com/example/tenon/tenon/Finding", "severity", "()Lcom/example/tenon/tenon/Finding$Severity;"⟩ : MethodName)) hown (mvT hZ (hw _ (List.mem_of_getElem? (i := 104) rfl))) (mvT hZ (hw _ (List.mem_of_getElem? (i := 105) rfl))) (notFace_of_selects (args := #[]) (mvT hZ (hw _ (List.mem_of_getElem? (i := 107) rfl)))) (mvT hZ (hw _ (List.mem_of_getElem? (i := 107) rfl))) (mvT hZ (hw _ (List.mem_of_getElem? (i := 106) rfl))) (by decide) (backOf (W := 1) (rm12 l Z a0 hw [] a2 se h0 n0 Zo Fv) hZ (hw _ (List.mem_of_getElem? (i := 108) rfl)) (hw _ (List.mem_of_getElem? (i := 70) rfl)) (by decide) (by decide)) q309a q309c (g := (mkF m 5 #[.val (.ref r), .val (.ref a2)] [(.ref a2), (.ref cb)])) rfl (by rw [hml]; rfl) (Steps.refl _) (argsL := []) (rest := [(.ref cb)]) (lenOf pd___Lcom_example_tenon_tenon_Finding_Severity_ rfl) rfl (by show 2 * 0 + _ ≤ _; exact Nat.le_of_eq rfl) (hb hby d11_5) (fun _ _ => ⟨rfl, e308, (by decide : 0 + 0 ≤ _), (by decide : 0 + 0 ≤ _)⟩)
  dsimp only [Pt.U, Pt.locs, Pt.cells, Pt.slots] at X309 l309 y309 z309 st309 hQ309
  subst l309 y309 z309
  obtain ⟨rfl, N309q, e309⟩ := hQ309
  have N310 := Fr.app N0 N309q
  obtain ⟨cq311, kq311, q311a, q311b, q311c⟩ := isOf hZ e309 (Es.ext Xo.2)
  obtain ⟨_, _, ⟨T311, L311, k311, n311⟩, -, X311, ⟨Lc311, hQ311, l311, y311, z311⟩, st311⟩ := X309.virtualBackUp hx (x := (⟨"com/example/tenon/tenon/Finding$Severity", "ordinal", "()I"⟩ : MethodName)) (y := (⟨"java/lang/Enum", "ordinal", "()I"⟩ : MethodName)) (owner := "java/lang/Enum") hown (mvT hZ (hw _ (List.mem_of_getElem? (i := 109) rfl))) (mvT hZ (hw _ (List.mem_of_getElem? (i := 110) rfl))) (mvT hZ (hw _ (List.mem_of_getElem? (i := 111) rfl))) (by decide) (mvT hZ (hw _ (List.mem_of_getElem? (i := 113) rfl))) (mvT hZ (hw _ (List.mem_of_getElem? (i := 112) rfl))) (backOf (W := 1) (rm13 l Z a0 hw [] se (0 : Int32) h0 n0 Zo (Fd.ext Xo.2)) hZ (hw _ (List.mem_of_getElem? (i := 115) rfl)) (hw _ (List.mem_of_getElem? (i := 114) rfl)) (by decide) (by decide)) q311a q311c (g := (mkF m 8 #[.val (.ref r), .val (.ref a2)] [(.ref se), (.ref cb)])) rfl (by rw [hml]; rfl) (Steps.refl _) (argsL := []) (rest := [(.ref cb)]) (lenOf pd___I rfl) rfl (by show 2 * 0 + _ ≤ _; exact Nat.le_of_eq rfl) (hb hby d11_8) (fun _ _ => ⟨rfl, e309, (by decide : 0 + 0 ≤ _), (by decide : 0 + 0 ≤ _)⟩)
  dsimp only [Pt.U, Pt.locs, Pt.cells, Pt.slots] at X311 l311 y311 z311 st311 hQ311
  subst l311 y311 z311
  obtain ⟨rfl, N311q, e311⟩ := hQ311
  have N312 := Fr.app N310 N311q
  obtain ⟨c313, r313, q313, s313, n313, H313, G313⟩ := id Vc
  have i313 : ¬ ((0 : Int32) < 0 ∨ c313.slots.size ≤ ((0 : Int32)).toNatClampNeg) := inb_of s313 ⟨by decide, by decide⟩
  have a313 : c313.slots[((0 : Int32)).toNatClampNeg]? = some (.long c0) := Has.at H313 i313 rfl
  obtain ⟨c314, r314, q314, s314, n314, H314, G314⟩ := id Vc
  have i314 : ¬ ((0 : Int32) < 0 ∨ c314.slots.size ≤ ((0 : Int32)).toNatClampNeg) := inb_of s314 ⟨by decide, by decide⟩
  obtain ⟨T314, h314, X314, e314, W314, st314⟩ := stJ X311 hx hZ e311 r314 (j := (0 : Int32)) i314 (g := (mkF m 15 #[.val (.ref r), .val (.ref a2)] [(.long (c0 + (1 : Int64))), (.int (0 : Int32)), (.ref cb)])) rfl rfl (hb hby d11_15)
  have f315 := Arv.set r314 q314 s314 n314 H314 G314 rfl W314 0 rfl (Nat.le_of_ble_eq_true rfl)
  have f316 : Arv Z h314 cb kc .long (3 : Int32) [(.long (c0 + (1 : Int64))), (.long c1), (.long c2)] (.long (0 : Int64)) := f315
  have f317 := Er.wr W314
  have f318 := Ff.other W314 (Or.inl nrc)
  have f319 := Fc.other W314 (Or.inl nrc)
  have f320 := Fo.other W314 (Or.inl nrc)
  have f321 := Ea.wr W314
  have f322 := Ef.wr W314
  have Zn323 := Nat.le_trans Zo (Keep.of_wr W314).1
  have Od324 := Xo.wr W314 gc
  have Hz325 := Nat.le_trans HZ0 (Keep.of_wr W314).1
  have N326 := Fr.snoc X314 N312 gc
  rcases hLS with hL0 | ⟨ed, ke, sz, hL1, hz1, hz2⟩
  · obtain ⟨Fe0, Fs0, mc, Fm0⟩ := hL0
    have Fe0 := Fe0.other W314 (Or.inl nac)
    have Fs0 := Fs0.other W314 (Or.inl nac)
    have Fm0 := Fm0.other W314 (Or.inl nac)
    obtain ⟨T327, X327, e327, st327⟩ := getF X314 hx hZ hown (host := "") (Or.inl (hw _ (List.mem_of_getElem? (i := 33) rfl))) Via.refl e314 f318 (g := (mkF m 17 #[.val (.ref r), .val (.ref a2)] [(.ref r)])) rfl rfl (hb hby d11_17)
    obtain ⟨cq328, kq328, q328a, q328b, q328c⟩ := isOf hZ e327 f321
    obtain ⟨_, _, ⟨T328, L328, k328, n328⟩, -, X328, ⟨Lc328, hQ328, l328, y328, z328⟩, st328⟩ := X327.interfaceBack hx (xi := (⟨"java/util/List", "size", "()I"⟩ : MethodName)) (y := (⟨"java/util/ArrayList", "size", "()I"⟩ : MethodName)) hown (mvT hZ (hw _ (List.mem_of_getElem? (i := 118) rfl))) (mvT hZ (hw _ (List.mem_of_getElem? (i := 119) rfl))) (mvT hZ (hw _ (List.mem_of_getElem? (i := 120) rfl))) (mvT hZ (hw _ (List.mem_of_getElem? (i := 121) rfl))) (mvT hZ (hw _ (List.mem_of_getElem? (i := 122) rfl))) (mvT hZ (hw _ (List.mem_of_getElem? (i := 123) rfl))) (mvT hZ (hw _ (List.mem_of_getElem? (i := 124) rfl))) (mvT hZ (hw _ (List.mem_of_getElem? (i := 125) rfl))) (by decide) (backOf (W := 0) (rm14 l Z a0 hw [] al (0 : Int32) h314 n0 Zn323 Fs0) hZ (hw _ (List.mem_of_getElem? (i := 126) rfl)) (hw _ (List.mem_of_getElem? (i := 11) rfl)) (by decide) (by decide)) q328a q328b q328c (g := (mkF m 20 #[.val (.ref r), .val (.ref a2)] [(.ref al)])) rfl (by rw [hml]; rfl) (Steps.refl _) (argsL := []) (rest := []) (lenOf pd___I rfl) rfl (by show 2 * 0 + _ ≤ _; exact Nat.le_of_eq rfl) (hb hby d11_20) (fun _ _ => ⟨rfl, e327, (by decide : 0 + 0 ≤ _), (by decide : 0 + 0 ≤ _)⟩)
    dsimp only [Pt.U, Pt.locs, Pt.cells, Pt.slots] at X328 l328 y328 z328 st328 hQ328
    subst l328 y328 z328
    obtain ⟨rfl, N328q, e328⟩ := hQ328
    have N329 := Fr.app N326 N328q
    obtain ⟨T330, X330, e330, st330⟩ := getF X328 hx hZ hown (host := "") (Or.inl (hw _ (List.mem_of_getElem? (i := 57) rfl))) Via.refl e328 f320 (g := (mkF m 26 #[.val (.ref r), .val (.ref a2)] [(.ref r), (.int (0 : Int32))])) rfl rfl (hb hby d11_26)
    by_cases hm : (0 : Int32) < mo
    · obtain ⟨T331, X331, e331, st331⟩ := getF X330 hx hZ hown (host := "") (Or.inl (hw _ (List.mem_of_getElem? (i := 33) rfl))) Via.refl e330 f318 (g := (mkF m 33 #[.val (.ref r), .val (.ref a2)] [(.ref r)])) rfl rfl (hb hby d11_33)
      obtain ⟨cq332, kq332, q332a, q332b, q332c⟩ := isOf hZ e331 f321
      obtain ⟨_, _, ⟨T332, L332, k332, n332⟩, -, X332, ⟨Lc332, hQ332, l332, y332, z332⟩, st332⟩ := X331.interfaceBack hx (xi := (⟨"java/util/List", "add", "(Ljava/lang/Object;)Z"⟩ : MethodName)) (y := (⟨"java/util/ArrayList", "add", "(Ljava/lang/Object;)Z"⟩ : MethodName)) hown (mvT hZ (hw _ (List.mem_of_getElem? (i := 138) rfl))) (mvT hZ (hw _ (List.mem_of_getElem? (i := 139) rfl))) (mvT hZ (hw _ (List.mem_of_getElem? (i := 140) rfl))) (mvT hZ (hw _ (List.mem_of_getElem? (i := 141) rfl))) (mvT hZ (hw _ (List.mem_of_getElem? (i := 142) rfl))) (mvT hZ (hw _ (List.mem_of_getElem? (i := 143) rfl))) (mvT hZ (hw _ (List.mem_of_getElem? (i := 144) rfl))) (mvT hZ (hw _ (List.mem_of_getElem? (i := 125) rfl))) (by decide) (backOf (W := 0) (rm16a l Z a0 hw [] al a2 dce kd mc h314 n0 Zn323 f321 Fm0 Fe0 Fs0 ga Od324 SD AD f322) hZ (hw _ (List.mem_of_getElem? (i := 145) rfl)) (hw _ (List.mem_of_getElem? (i := 11) rfl)) (by decide) (by decide)) q332a q332b q332c (g := (mkF m 37 #[.val (.ref r), .val (.ref a2)] [(.ref a2), (.ref al)])) rfl (by rw [hml]; rfl) (Steps.refl _) (argsL := [(.ref a2)]) (rest := []) (lenOf pd__Ljava_lang_Object__Z rfl) rfl (by show 2 * 0 + _ ≤ _; exact Nat.le_of_eq rfl) (hb hby d11_37) (fun _ _ => ⟨rfl, e331, (by decide : 0 + 1 ≤ _), (by decide : 0 + 10 ≤ _)⟩)
      dsimp only [Pt.U, Pt.locs, Pt.cells, Pt.slots] at X332 l332 y332 z332 st332 hQ332
      subst l332 y332 z332
      obtain ⟨rfl, N332q, Kq, ed, ke, es, mq, ged, zed, Feq, Fsq, Fmq, Veq, hesq, Oq⟩ := hQ332
      have N333 := Fr.app N329 N332q
      have f334 := f317.keep Kq
      have f335 := f318.keep Kq (ninS nra nin0)
      have f336 := f319.keep Kq (ninS nra nin0)
      have f337 := f320.keep Kq (ninS nra nin0)
      have f338 := f321.keep Kq
      have f339 := f322.keep Kq
      have f340 := f316.keep Kq (ninS (Ne.symm nac) nin0)
      have Zn341 := Nat.le_trans Zn323 Kq.1
      have Hz342 := Nat.le_trans Hz325 Kq.1
      have Od343 := Od324.keep Kq (allS ga all0)
      have n1 : r ≠ ed := Nat.ne_of_lt (Nat.lt_of_lt_of_le f317.lt zed)
      have n2 : al ≠ ed := Nat.ne_of_lt (Nat.lt_of_lt_of_le f321.lt zed)
      have n3 : cb ≠ ed := Nat.ne_of_lt (Nat.lt_of_lt_of_le f316.lt zed)
      obtain ⟨fs, hr, hrun, hended, hW, hsame⟩ := X332.leave (v := none) (fun _ => rfl)
      refine ⟨_, _, pre0 _ ?_, hrun, hended, _, _, rfl, ?_, ⟨_, rfl⟩, hW, hsame.mono (by decide) (by decide)⟩
      · show Steps p.tables e below (s₁.setTop (mkF m 0 #[.val (.ref r), .val (.ref a2)] [])) _
        refine XS.aloadN X0.here hx rfl (hb hby d11_0) rfl rfl ?_
        show Steps p.tables e below (s₁.setTop (mkF m 1 #[.val (.ref r), .val (.ref a2)] [(.ref r)])) _
        refine st308 _ ?_
        show Steps p.tables e below (T308.setTop (mkF m 4 #[.val (.ref r), .val (.ref a2)] [(.ref cb)])) _
        refine XS.aloadN X308.here hx rfl (hb hby d11_4) rfl rfl ?_
        show Steps p.tables e below (T308.setTop (mkF m 5 #[.val (.ref r), .val (.ref a2)] [(.ref a2), (.ref cb)])) _
        refine st309.trans ?_
        show Steps p.tables e below (T309.setTop (mkF m 8 #[.val (.ref r), .val (.ref a2)] [(.ref se), (.ref cb)])) _
        refine st311.trans ?_
        show Steps p.tables e below (T311.setTop (mkF m 11 #[.val (.ref r), .val (.ref a2)] [(.int (0 : Int32)), (.ref cb)])) _
        jvm_step X311.here [X311.here.top, hx, (hb hby d11_11), Value.category]
        show Steps p.tables e below (T311.setTop (mkF m 12 #[.val (.ref r), .val (.ref a2)] [(.int (0 : Int32)), (.ref cb), (.int (0 : Int32)), (.ref cb)])) _
        refine X311.laload hx (j := (0 : Int32)) (v := (.long c0)) (by rw [e311]; exact r313.1) (State.isArrayOf_alike hZ.alike r313.2.1) r313.2.2 i313 a313 (g := (mkF m 12 #[.val (.ref r), .val (.ref a2)] [(.int (0 : Int32)), (.ref cb), (.int (0 : Int32)), (.ref cb)])) rfl rfl (hb hby d11_12) _ ?_
        show Steps p.tables e below (T311.setTop (mkF m 13 #[.val (.ref r), .val (.ref a2)] [(.long c0), (.int (0 : Int32)), (.ref cb)])) _
        refine XS.lconst X311.here hx rfl (hb hby d11_13) ?_
        show Steps p.tables e below (T311.setTop (mkF m 14 #[.val (.ref r), .val (.ref a2)] [(.long (1 : Int64)), (.long c0), (.int (0 : Int32)), (.ref cb)])) _
        refine XS.ladd X311.here hx rfl (hb hby d11_14) rfl ?_
        show Steps p.tables e below (T311.setTop (mkF m 15 #[.val (.ref r), .val (.ref a2)] [(.long (c0 + (1 : Int64))), (.int (0 : Int32)), (.ref cb)])) _
        refine st314 _ ?_
        show Steps p.tables e below (T314.setTop (mkF m 16 #[.val (.ref r), .val (.ref a2)] [])) _
        refine XS.aloadN X314.here hx rfl (hb hby d11_16) rfl rfl ?_
        show Steps p.tables e below (T314.setTop (mkF m 17 #[.val (.ref r), .val (.ref a2)] [(.ref r)])) _
        refine st327 _ ?_
        show Steps p.tables e below (T327.setTop (mkF m 20 #[.val (.ref r), .val (.ref a2)] [(.ref al)])) _
        refine st328.trans ?_
        show Steps p.tables e below (T328.setTop (mkF m 25 #[.val (.ref r), .val (.ref a2)] [(.int (0 : Int32))])) _
        refine XS.aloadN X328.here hx rfl (hb hby d11_25) rfl rfl ?_
        show Steps p.tables e below (T328.setTop (mkF m 26 #[.val (.ref r), .val (.ref a2)] [(.ref r), (.int (0 : Int32))])) _
        refine st330 _ ?_
        show Steps p.tables e below (T330.setTop (mkF m 29 #[.val (.ref r), .val (.ref a2)] [(.int mo), (.int (0 : Int32))])) _
        refine XS.icmpNo X330.here hx rfl (hb hby d11_29) rfl (tlt hm).2.1 ?_
        show Steps p.tables e below (T330.setTop (mkF m 32 #[.val (.ref r), .val (.ref a2)] [])) _
        refine XS.aloadN X330.here hx rfl (hb hby d11_32) rfl rfl ?_
        show Steps p.tables e below (T330.setTop (mkF m 33 #[.val (.ref r), .val (.ref a2)] [(.ref r)])) _
        refine st331 _ ?_
        show Steps p.tables e below (T331.setTop (mkF m 36 #[.val (.ref r), .val (.ref a2)] [(.ref al)])) _
        refine XS.aloadN X331.here hx rfl (hb hby d11_36) rfl rfl ?_
        show Steps p.tables e below (T331.setTop (mkF m 37 #[.val (.ref r), .val (.ref a2)] [(.ref a2), (.ref al)])) _
        refine st332.trans ?_
        show Steps p.tables e below (T332.setTop (mkF m 42 #[.val (.ref r), .val (.ref a2)] [(.int (1 : Int32))])) _
        refine XS.pop X332.here hx rfl (hb hby d11_42) rfl rfl ?_
        show Steps p.tables e below (T332.setTop (mkF m 43 #[.val (.ref r), .val (.ref a2)] [])) _
        exact X332.returnOut hx Bd.returns (hb hby d11_43) hr
      · show Qrm11_0 Z r a2 al cb kc dce kd mo k n se h0 n0 _ T332.heap _
        exact ⟨rfl, N333, Hz342, ⟨Od343, Zn341, gr, ga, gc, nra, nrc, nac, f334, f335, f336, f337, f338, Or.inr ⟨ed, ke, (1 : Int32), ⟨Feq, Fsq, ⟨_, Fmq⟩, ⟨_, Veq, hesq⟩, ged, n1, n2, n3, Oq⟩, by decide, by show (1 : Int) ≤ k + 1; omega⟩, _, _, _, f340, (own_s0 hsum)⟩⟩
    · obtain ⟨fs, hr, hrun, hended, hW, hsame⟩ := X330.leave (v := none) (fun _ => rfl)
      refine ⟨_, _, pre0 _ ?_, hrun, hended, _, _, rfl, ?_, ⟨_, rfl⟩, hW, hsame.mono (by decide) (by decide)⟩
      · show Steps p.tables e below (s₁.setTop (mkF m 0 #[.val (.ref r), .val (.ref a2)] [])) _
        refine XS.aloadN X0.here hx rfl (hb hby d11_0) rfl rfl ?_
        show Steps p.tables e below (s₁.setTop (mkF m 1 #[.val (.ref r), .val (.ref a2)] [(.ref r)])) _
        refine st308 _ ?_
        show Steps p.tables e below (T308.setTop (mkF m 4 #[.val (.ref r), .val (.ref a2)] [(.ref cb)])) _
        refine XS.aloadN X308.here hx rfl (hb hby d11_4) rfl rfl ?_
        show Steps p.tables e below (T308.setTop (mkF m 5 #[.val (.ref r), .val (.ref a2)] [(.ref a2), (.ref cb)])) _
        refine st309.trans ?_
        show Steps p.tables e below (T309.setTop (mkF m 8 #[.val (.ref r), .val (.ref a2)] [(.ref se), (.ref cb)])) _
        refine st311.trans ?_
        show Steps p.tables e below (T311.setTop (mkF m 11 #[.val (.ref r), .val (.ref a2)] [(.int (0 : Int32)), (.ref cb)])) _
        jvm_step X311.here [X311.here.top, hx, (hb hby d11_11), Value.category]
        show Steps p.tables e below (T311.setTop (mkF m 12 #[.val (.ref r), .val (.ref a2)] [(.int (0 : Int32)), (.ref cb), (.int (0 : Int32)), (.ref cb)])) _
        refine X311.laload hx (j := (0 : Int32)) (v := (.long c0)) (by rw [e311]; exact r313.1) (State.isArrayOf_alike hZ.alike r313.2.1) r313.2.2 i313 a313 (g := (mkF m 12 #[.val (.ref r), .val (.ref a2)] [(.int (0 : Int32)), (.ref cb), (.int (0 : Int32)), (.ref cb)])) rfl rfl (hb hby d11_12) _ ?_
        show Steps p.tables e below (T311.setTop (mkF m 13 #[.val (.ref r), .val (.ref a2)] [(.long c0), (.int (0 : Int32)), (.ref cb)])) _
        refine XS.lconst X311.here hx rfl (hb hby d11_13) ?_
        show Steps p.tables e below (T311.setTop (mkF m 14 #[.val (.ref r), .val (.ref a2)] [(.long (1 : Int64)), (.long c0), (.int (0 : Int32)), (.ref cb)])) _
        refine XS.ladd X311.here hx rfl (hb hby d11_14) rfl ?_
        show Steps p.tables e below (T311.setTop (mkF m 15 #[.val (.ref r), .val (.ref a2)] [(.long (c0 + (1 : Int64))), (.int (0 : Int32)), (.ref cb)])) _
        refine st314 _ ?_
        show Steps p.tables e below (T314.setTop (mkF m 16 #[.val (.ref r), .val (.ref a2)] [])) _
        refine XS.aloadN X314.here hx rfl (hb hby d11_16) rfl rfl ?_
        show Steps p.tables e below (T314.setTop (mkF m 17 #[.val (.ref r), .val (.ref a2)] [(.ref r)])) _
        refine st327 _ ?_
        show Steps p.tables e below (T327.setTop (mkF m 20 #[.val (.ref r), .val (.ref a2)] [(.ref al)])) _
        refine st328.trans ?_
        show Steps p.tables e below (T328.setTop (mkF m 25 #[.val (.ref r), .val (.ref a2)] [(.int (0 : Int32))])) _
        refine XS.aloadN X328.here hx rfl (hb hby d11_25) rfl rfl ?_
        show Steps p.tables e below (T328.setTop (mkF m 26 #[.val (.ref r), .val (.ref a2)] [(.ref r), (.int (0 : Int32))])) _
        refine st330 _ ?_
        show Steps p.tables e below (T330.setTop (mkF m 29 #[.val (.ref r), .val (.ref a2)] [(.int mo), (.int (0 : Int32))])) _
        refine XS.icmpYes X330.here hx rfl (pc0 := 29) (pc' := 43) rfl (hb hby d11_29) rfl (flt hm).2.1 (by decide) (by decide) ?_
        show Steps p.tables e below (T330.setTop (mkF m 43 #[.val (.ref r), .val (.ref a2)] [])) _
        exact X330.returnOut hx Bd.returns (hb hby d11_43) hr
      · show Qrm11_0 Z r a2 al cb kc dce kd mo k n se h0 n0 _ T330.heap _
        rw [e330]
        exact ⟨rfl, N329, Hz325, ⟨Od324, Zn323, gr, ga, gc, nra, nrc, nac, f317, f318, f319, f320, f321, Or.inl ⟨Fe0, Fs0, _, Fm0⟩, _, _, _, f316, (own_s0 hsum)⟩⟩
  · obtain ⟨Fe0, Fs0, ⟨mc, Fm0⟩, ⟨es, Ve0, hes⟩, ged, n1, n2, n3, Oe⟩ := hL1
    have Fe0 := Fe0.other W314 (Or.inl nac)
    have Fs0 := Fs0.other W314 (Or.inl nac)
    have Fm0 := Fm0.other W314 (Or.inl nac)
    have Ve0 := Ve0.other W314 (Ne.symm n3)
    obtain ⟨T344, X344, e344, st344⟩ := getF X314 hx hZ hown (host := "") (Or.inl (hw _ (List.mem_of_getElem? (i := 33) rfl))) Via.refl e314 f318 (g := (mkF m 17 #[.val (.ref r), .val (.ref a2)] [(.ref r)])) rfl rfl (hb hby d11_17)
    obtain ⟨cq345, kq345, q345a, q345b, q345c⟩ := isOf hZ e344 f321
    obtain ⟨_, _, ⟨T345, L345, k345, n345⟩, -, X345, ⟨Lc345, hQ345, l345, y345, z345⟩, st345⟩ := X344.interfaceBack hx (xi := (⟨"java/util/List", "size", "()I"⟩ : MethodName)) (y := (⟨"java/util/ArrayList", "size", "()I"⟩ : MethodName)) hown (mvT hZ (hw _ (List.mem_of_getElem? (i := 118) rfl))) (mvT hZ (hw _ (List.mem_of_getElem? (i := 119) rfl))) (mvT hZ (hw _ (List.mem_of_getElem? (i := 120) rfl))) (mvT hZ (hw _ (List.mem_of_getElem? (i := 121) rfl))) (mvT hZ (hw _ (List.mem_of_getElem? (i := 122) rfl))) (mvT hZ (hw _ (List.mem_of_getElem? (i := 123) rfl))) (mvT hZ (hw _ (List.mem_of_getElem? (i := 124) rfl))) (mvT hZ (hw _ (List.mem_of_getElem? (i := 125) rfl))) (by decide) (backOf (W := 0) (rm14 l Z a0 hw [] al sz h314 n0 Zn323 Fs0) hZ (hw _ (List.mem_of_getElem? (i := 126) rfl)) (hw _ (List.mem_of_getElem? (i := 11) rfl)) (by decide) (by decide)) q345a q345b q345c (g := (mkF m 20 #[.val (.ref r), .val (.ref a2)] [(.ref al)])) rfl (by rw [hml]; rfl) (Steps.refl _) (argsL := []) (rest := []) (lenOf pd___I rfl) rfl (by show 2 * 0 + _ ≤ _; exact Nat.le_of_eq rfl) (hb hby d11_20) (fun _ _ => ⟨rfl, e344, (by decide : 0 + 0 ≤ _), (by decide : 0 + 0 ≤ _)⟩)
    dsimp only [Pt.U, Pt.locs, Pt.cells, Pt.slots] at X345 l345 y345 z345 st345 hQ345
    subst l345 y345 z345
    obtain ⟨rfl, N345q, e345⟩ := hQ345
    have N346 := Fr.app N326 N345q
    obtain ⟨T347, X347, e347, st347⟩ := getF X345 hx hZ hown (host := "") (Or.inl (hw _ (List.mem_of_getElem? (i := 57) rfl))) Via.refl e345 f320 (g := (mkF m 26 #[.val (.ref r), .val (.ref a2)] [(.ref r), (.int sz)])) rfl rfl (hb hby d11_26)
    by_cases hm : sz < mo
    · obtain ⟨T348, X348, e348, st348⟩ := getF X347 hx hZ hown (host := "") (Or.inl (hw _ (List.mem_of_getElem? (i := 33) rfl))) Via.refl e347 f318 (g := (mkF m 33 #[.val (.ref r), .val (.ref a2)] [(.ref r)])) rfl rfl (hb hby d11_33)
      obtain ⟨cq349, kq349, q349a, q349b, q349c⟩ := isOf hZ e348 f321
      obtain ⟨_, _, ⟨T349, L349, k349, n349⟩, -, X349, ⟨Lc349, hQ349, l349, y349, z349⟩, st349⟩ := X348.interfaceBack hx (xi := (⟨"java/util/List", "add", "(Ljava/lang/Object;)Z"⟩ : MethodName)) (y := (⟨"java/util/ArrayList", "add", "(Ljava/lang/Object;)Z"⟩ : MethodName)) hown (mvT hZ (hw _ (List.mem_of_getElem? (i := 138) rfl))) (mvT hZ (hw _ (List.mem_of_getElem? (i := 139) rfl))) (mvT hZ (hw _ (List.mem_of_getElem? (i := 140) rfl))) (mvT hZ (hw _ (List.mem_of_getElem? (i := 141) rfl))) (mvT hZ (hw _ (List.mem_of_getElem? (i := 142) rfl))) (mvT hZ (hw _ (List.mem_of_getElem? (i := 143) rfl))) (mvT hZ (hw _ (List.mem_of_getElem? (i := 144) rfl))) (mvT hZ (hw _ (List.mem_of_getElem? (i := 125) rfl))) (by decide) (backOf (W := 0) (rm16b l Z a0 hw [] al a2 ed ke mc es sz h314 n0 Zn323 f321 Fm0 Fe0 Fs0 ga Ve0 hes Oe ged n2 ⟨hz1, Int.le_trans hz2 hk3.2⟩ f322) hZ (hw _ (List.mem_of_getElem? (i := 145) rfl)) (hw _ (List.mem_of_getElem? (i := 11) rfl)) (by decide) (by decide)) q349a q349b q349c (g := (mkF m 37 #[.val (.ref r), .val (.ref a2)] [(.ref a2), (.ref al)])) rfl (by rw [hml]; rfl) (Steps.refl _) (argsL := [(.ref a2)]) (rest := []) (lenOf pd__Ljava_lang_Object__Z rfl) rfl (by show 2 * 0 + _ ≤ _; exact Nat.le_of_eq rfl) (hb hby d11_37) (fun _ _ => ⟨rfl, e348, (by decide : 0 + 0 ≤ _), (by decide : 0 + 0 ≤ _)⟩)
      dsimp only [Pt.U, Pt.locs, Pt.cells, Pt.slots] at X349 l349 y349 z349 st349 hQ349
      subst l349 y349 z349
      obtain ⟨rfl, N349q, Kq, Feq, Fsq, Fmq, Veq⟩ := hQ349
      have N350 := Fr.app N346 N349q
      have f351 := f317.keep Kq
      have f352 := f318.keep Kq (ninS nra (ninS n1 nin0))
      have f353 := f319.keep Kq (ninS nra (ninS n1 nin0))
      have f354 := f320.keep Kq (ninS nra (ninS n1 nin0))
      have f355 := f321.keep Kq
      have f356 := f322.keep Kq
      have f357 := f316.keep Kq (ninS (Ne.symm nac) (ninS n3 nin0))
      have Zn358 := Nat.le_trans Zn323 Kq.1
      have Hz359 := Nat.le_trans Hz325 Kq.1
      have Od360 := Od324.keep Kq (allS ga (allS ged all0))
      obtain ⟨fs, hr, hrun, hended, hW, hsame⟩ := X349.leave (v := none) (fun _ => rfl)
      refine ⟨_, _, pre0 _ ?_, hrun, hended, _, _, rfl, ?_, ⟨_, rfl⟩, hW, hsame.mono (by decide) (by decide)⟩
      · show Steps p.tables e below (s₁.setTop (mkF m 0 #[.val (.ref r), .val (.ref a2)] [])) _
        refine XS.aloadN X0.here hx rfl (hb hby d11_0) rfl rfl ?_
        show Steps p.tables e below (s₁.setTop (mkF m 1 #[.val (.ref r), .val (.ref a2)] [(.ref r)])) _
        refine st308 _ ?_
        show Steps p.tables e below (T308.setTop (mkF m 4 #[.val (.ref r), .val (.ref a2)] [(.ref cb)])) _
        refine XS.aloadN X308.here hx rfl (hb hby d11_4) rfl rfl ?_
        show Steps p.tables e below (T308.setTop (mkF m 5 #[.val (.ref r), .val (.ref a2)] [(.ref a2), (.ref cb)])) _
        refine st309.trans ?_
        show Steps p.tables e below (T309.setTop (mkF m 8 #[.val (.ref r), .val (.ref a2)] [(.ref se), (.ref cb)])) _
        refine st311.trans ?_
        show Steps p.tables e below (T311.setTop (mkF m 11 #[.val (.ref r), .val (.ref a2)] [(.int (0 : Int32)), (.ref cb)])) _
        jvm_step X311.here [X311.here.top, hx, (hb hby d11_11), Value.category]
        show Steps p.tables e below (T311.setTop (mkF m 12 #[.val (.ref r), .val (.ref a2)] [(.int (0 : Int32)), (.ref cb), (.int (0 : Int32)), (.ref cb)])) _
        refine X311.laload hx (j := (0 : Int32)) (v := (.long c0)) (by rw [e311]; exact r313.1) (State.isArrayOf_alike hZ.alike r313.2.1) r313.2.2 i313 a313 (g := (mkF m 12 #[.val (.ref r), .val (.ref a2)] [(.int (0 : Int32)), (.ref cb), (.int (0 : Int32)), (.ref cb)])) rfl rfl (hb hby d11_12) _ ?_
        show Steps p.tables e below (T311.setTop (mkF m 13 #[.val (.ref r), .val (.ref a2)] [(.long c0), (.int (0 : Int32)), (.ref cb)])) _
        refine XS.lconst X311.here hx rfl (hb hby d11_13) ?_
        show Steps p.tables e below (T311.setTop (mkF m 14 #[.val (.ref r), .val (.ref a2)] [(.long (1 : Int64)), (.long c0), (.int (0 : Int32)), (.ref cb)])) _
        refine XS.ladd X311.here hx rfl (hb hby d11_14) rfl ?_
        show Steps p.tables e below (T311.setTop (mkF m 15 #[.val (.ref r), .val (.ref a2)] [(.long (c0 + (1 : Int64))), (.int (0 : Int32)), (.ref cb)])) _
        refine st314 _ ?_
        show Steps p.tables e below (T314.setTop (mkF m 16 #[.val (.ref r), .val (.ref a2)] [])) _
        refine XS.aloadN X314.here hx rfl (hb hby d11_16) rfl rfl ?_
        show Steps p.tables e below (T314.setTop (mkF m 17 #[.val (.ref r), .val (.ref a2)] [(.ref r)])) _
        refine st344 _ ?_
        show Steps p.tables e below (T344.setTop (mkF m 20 #[.val (.ref r), .val (.ref a2)] [(.ref al)])) _
        refine st345.trans ?_
        show Steps p.tables e below (T345.setTop (mkF m 25 #[.val (.ref r), .val (.ref a2)] [(.int sz)])) _
        refine XS.aloadN X345.here hx rfl (hb hby d11_25) rfl rfl ?_
        show Steps p.tables e below (T345.setTop (mkF m 26 #[.val (.ref r), .val (.ref a2)] [(.ref r), (.int sz)])) _
        refine st347 _ ?_
        show Steps p.tables e below (T347.setTop (mkF m 29 #[.val (.ref r), .val (.ref a2)] [(.int mo), (.int sz)])) _
        refine XS.icmpNo X347.here hx rfl (hb hby d11_29) rfl (tlt hm).2.1 ?_
        show Steps p.tables e below (T347.setTop (mkF m 32 #[.val (.ref r), .val (.ref a2)] [])) _
        refine XS.aloadN X347.here hx rfl (hb hby d11_32) rfl rfl ?_
        show Steps p.tables e below (T347.setTop (mkF m 33 #[.val (.ref r), .val (.ref a2)] [(.ref r)])) _
        refine st348 _ ?_
        show Steps p.tables e below (T348.setTop (mkF m 36 #[.val (.ref r), .val (.ref a2)] [(.ref al)])) _
        refine XS.aloadN X348.here hx rfl (hb hby d11_36) rfl rfl ?_
        show Steps p.tables e below (T348.setTop (mkF m 37 #[.val (.ref r), .val (.ref a2)] [(.ref a2), (.ref al)])) _
        refine st349.trans ?_
        show Steps p.tables e below (T349.setTop (mkF m 42 #[.val (.ref r), .val (.ref a2)] [(.int (1 : Int32))])) _
        refine XS.pop X349.here hx rfl (hb hby d11_42) rfl rfl ?_
        show Steps p.tables e below (T349.setTop (mkF m 43 #[.val (.ref r), .val (.ref a2)] [])) _
        exact X349.returnOut hx Bd.returns (hb hby d11_43) hr
      · show Qrm11_0 Z r a2 al cb kc dce kd mo k n se h0 n0 _ T349.heap _
        exact ⟨rfl, N350, Hz359, ⟨Od360, Zn358, gr, ga, gc, nra, nrc, nac, f351, f352, f353, f354, f355, Or.inr ⟨ed, ke, _, ⟨Feq, Fsq, Fmq, Veq, ged, n1, n2, n3, Oe⟩, own_up hz1 hz2 hk3.2⟩, _, _, _, f357, (own_s0 hsum)⟩⟩
    · obtain ⟨fs, hr, hrun, hended, hW, hsame⟩ := X347.leave (v := none) (fun _ => rfl)
      refine ⟨_, _, pre0 _ ?_, hrun, hended, _, _, rfl, ?_, ⟨_, rfl⟩, hW, hsame.mono (by decide) (by decide)⟩
      · show Steps p.tables e below (s₁.setTop (mkF m 0 #[.val (.ref r), .val (.ref a2)] [])) _
        refine XS.aloadN X0.here hx rfl (hb hby d11_0) rfl rfl ?_
        show Steps p.tables e below (s₁.setTop (mkF m 1 #[.val (.ref r), .val (.ref a2)] [(.ref r)])) _
        refine st308 _ ?_
        show Steps p.tables e below (T308.setTop (mkF m 4 #[.val (.ref r), .val (.ref a2)] [(.ref cb)])) _
        refine XS.aloadN X308.here hx rfl (hb hby d11_4) rfl rfl ?_
        show Steps p.tables e below (T308.setTop (mkF m 5 #[.val (.ref r), .val (.ref a2)] [(.ref a2), (.ref cb)])) _
        refine st309.trans ?_
        show Steps p.tables e below (T309.setTop (mkF m 8 #[.val (.ref r), .val (.ref a2)] [(.ref se), (.ref cb)])) _
        refine st311.trans ?_
        show Steps p.tables e below (T311.setTop (mkF m 11 #[.val (.ref r), .val (.ref a2)] [(.int (0 : Int32)), (.ref cb)])) _
        jvm_step X311.here [X311.here.top, hx, (hb hby d11_11), Value.category]
        show Steps p.tables e below (T311.setTop (mkF m 12 #[.val (.ref r), .val (.ref a2)] [(.int (0 : Int32)), (.ref cb), (.int (0 : Int32)), (.ref cb)])) _
        refine X311.laload hx (j := (0 : Int32)) (v := (.long c0)) (by rw [e311]; exact r313.1) (State.isArrayOf_alike hZ.alike r313.2.1) r313.2.2 i313 a313 (g := (mkF m 12 #[.val (.ref r), .val (.ref a2)] [(.int (0 : Int32)), (.ref cb), (.int (0 : Int32)), (.ref cb)])) rfl rfl (hb hby d11_12) _ ?_
        show Steps p.tables e below (T311.setTop (mkF m 13 #[.val (.ref r), .val (.ref a2)] [(.long c0), (.int (0 : Int32)), (.ref cb)])) _
        refine XS.lconst X311.here hx rfl (hb hby d11_13) ?_
        show Steps p.tables e below (T311.setTop (mkF m 14 #[.val (.ref r), .val (.ref a2)] [(.long (1 : Int64)), (.long c0), (.int (0 : Int32)), (.ref cb)])) _
        refine XS.ladd X311.here hx rfl (hb hby d11_14) rfl ?_
        show Steps p.tables e below (T311.setTop (mkF m 15 #[.val (.ref r), .val (.ref a2)] [(.long (c0 + (1 : Int64))), (.int (0 : Int32)), (.ref cb)])) _
        refine st314 _ ?_
        show Steps p.tables e below (T314.setTop (mkF m 16 #[.val (.ref r), .val (.ref a2)] [])) _
        refine XS.aloadN X314.here hx rfl (hb hby d11_16) rfl rfl ?_
        show Steps p.tables e below (T314.setTop (mkF m 17 #[.val (.ref r), .val (.ref a2)] [(.ref r)])) _
        refine st344 _ ?_
        show Steps p.tables e below (T344.setTop (mkF m 20 #[.val (.ref r), .val (.ref a2)] [(.ref al)])) _
        refine st345.trans ?_
        show Steps p.tables e below (T345.setTop (mkF m 25 #[.val (.ref r), .val (.ref a2)] [(.int sz)])) _
        refine XS.aloadN X345.here hx rfl (hb hby d11_25) rfl rfl ?_
        show Steps p.tables e below (T345.setTop (mkF m 26 #[.val (.ref r), .val (.ref a2)] [(.ref r), (.int sz)])) _
        refine st347 _ ?_
        show Steps p.tables e below (T347.setTop (mkF m 29 #[.val (.ref r), .val (.ref a2)] [(.int mo), (.int sz)])) _
        refine XS.icmpYes X347.here hx rfl (pc0 := 29) (pc' := 43) rfl (hb hby d11_29) rfl (flt hm).2.1 (by decide) (by decide) ?_
        show Steps p.tables e below (T347.setTop (mkF m 43 #[.val (.ref r), .val (.ref a2)] [])) _
        exact X347.returnOut hx Bd.returns (hb hby d11_43) hr
      · show Qrm11_0 Z r a2 al cb kc dce kd mo k n se h0 n0 _ T347.heap _
        rw [e347]
        exact ⟨rfl, N346, Hz325, ⟨Od324, Zn323, gr, ga, gc, nra, nrc, nac, f317, f318, f319, f320, f321, Or.inr ⟨ed, ke, sz, ⟨Fe0, Fs0, ⟨_, Fm0⟩, ⟨_, Ve0, hes⟩, ged, n1, n2, n3, Oe⟩, hz1, by omega⟩, _, _, _, f316, (own_s0 hsum)⟩⟩
theorem ef_rm11_1 (m : MethodId) (r : Addr) (a2 : Addr) : entryFrame m #[(.ref r), (.ref a2)] 2 = mkF m 0 #[.val (.ref r), .val (.ref a2)] [] := by first | (simp [entryFrame, mkF, argsToLocals, Value.category]; done) | rfl
def Qrm11_1 (Z : State) (r : Addr) (a2 : Addr) (al : Addr) (cb : Addr) (kc : ClassId) (dce : Addr) (kd : ClassId) (mo : Int32) (k : Int) (n : Int64) (se : Addr) (h0 : Heap) (n0 : Nat) (v : Option Value) (h : Heap) (L : List Loc) : Prop := v = none ∧ Fr n0 L ∧ h0.size ≤ h.size ∧ own_W Z n0 h r al cb kc dce mo (k + 1) (n + 1)
set_option maxRecDepth 65536 in
set_option maxHeartbeats 40000000 in
theorem rm11_1 (l : Launch) (Z : State) (a0 : Array Value) (hw : ∀ d ∈ tables_1, d.before a0 Z = true) (ws : List Jvm.Cond) (r : Addr) (a2 : Addr) (al : Addr) (cb : Addr) (kc : ClassId) (dce : Addr) (kd : ClassId) (mo : Int32) (k : Int) (n : Int64) (se : Addr) (h0 : Heap) (n0 : Nat) (Z0 : n0 ≤ h0.size) (W1 : own_W Z n0 h0 r al cb kc dce mo k n) (SD : Sta Z Z.heap "java/util/ArrayList" "DEFAULTCAPACITY_EMPTY_ELEMENTDATA" "[Ljava/lang/Object;" (.ref dce)) (AD : Arv Z Z.heap dce kd (.object "java/lang/Object") (0 : Int32) [] .null) (hk3 : 0 ≤ k ∧ k ≤ 3) (Ef : Exa Z h0 a2 "com/example/tenon/tenon/Finding") (Fv : Fld Z h0 a2 "com/example/tenon/tenon/Finding" "severity" "Lcom/example/tenon/tenon/Finding$Severity;" (.ref se)) (Es : Exa Z Z.heap se "com/example/tenon/tenon/Finding$Severity") (Fd : Fld Z Z.heap se "java/lang/Enum" "ordinal" "I" (.int (1 : Int32))) :
    MetFree l (⟨"com/example/tenon/tenon/Report", "add", "(Lcom/example/tenon/tenon/Finding;)V"⟩ : MethodName) (head1 (Jvm.Cond.code (⟨"com/example/tenon/tenon/Report", "add", "(Lcom/example/tenon/tenon/Finding;)V"⟩ : MethodName) prog_74_method_6_code 2 none :: ws) ({ frames := 5, cells := 1, slots := 10, locals := 69 } : Room)) (fun a U => a = #[(.ref r), (.ref a2)] ∧ Z.Warmed39 U.vm ∧ U.heap = h0) (fun _ _ _ _ _ => True) (fun _ U o U' => ∃ v L, o = .returned v ∧ Qrm11_1 Z r a2 al cb kc dce kd mo k n se h0 n0 v U'.heap L ∧ FrameEnd U o U' L ({ frames := 5, cells := 1, slots := 10, locals := 69 } : Room).cells ({ frames := 5, cells := 1, slots := 10, locals := 69 } : Room).slots) := by
  refine MetFree.of_bodySF (plainFor_of_name pn_com_example_tenon_tenon_Report) hisR ?_
  intro p e s m args below meth c s₁ Bd hml0 hP hK
  obtain ⟨rfl, hZ, hh⟩ := hP
  have hx := Bd.exec
  have hby := Bd.bytes
  have hml : c.maxLocals = 2 := hml0
  have hown : s.vm.findClass "com/example/tenon/tenon/Report" = some m.cls := findClass_of_methodNamed Bd.named
  have hnm := (name_of_methodNamed Bd.named Bd.method).1
  have X0 : Stand p l e ({ frames := 5, cells := 1, slots := 10, locals := 69 } : Room) s m #[(.ref r), (.ref a2)] below meth c s₁ [] 0 0 := Stand.of_body Bd
  have e0 : s₁.heap = h0 := by rw [← hh, Bd.state]; rfl
  have N0 := Fr.nil n0
  have pre0 : ∀ t, Steps p.tables e below (s₁.setTop (mkF m 0 #[.val (.ref r), .val (.ref a2)] [])) t → Steps p.tables e below (s₁.setTop (entryFrame m #[(.ref r), (.ref a2)] 2)) t := fun t k => castTop (ef_rm11_1 m r a2) k
  obtain ⟨Xo, Zo, gr, ga, gc, nra, nrc, nac, Er, Ff, Fc, Fo, Ea, hLS, c0, c1, c2, Vc, hsum⟩ := id W1
  have HZ0 := Nat.le_refl h0.size
  obtain ⟨T361, X361, e361, st361⟩ := getF X0 hx hZ hown (host := "") (Or.inl (hw _ (List.mem_of_getElem? (i := 55) rfl))) Via.refl e0 Fc (g := (mkF m 1 #[.val (.ref r), .val (.ref a2)] [(.ref r)])) rfl rfl (hb hby d11_1)
  obtain ⟨cq362, kq362, q362a, q362b, q362c⟩ := isOf hZ e361 Ef
  obtain ⟨_, _, ⟨T362, L362, k362, n362⟩, -, X362, ⟨Lc362, hQ362, l362, y362, z362⟩, st362⟩ := X361.virtualBack hx (y := (⟨"com/example/tenon/tenon/Finding", "severity", "()Lcom/example/tenon/tenon/Finding$Severity;"⟩ : MethodName)) (z := (⟨"com/example/tenon/tenon/Finding", "severity", "()Lcom/example/tenon/tenon/Finding$Severity;"⟩ : MethodName)) hown (mvT hZ (hw _ (List.mem_of_getElem? (i := 104) rfl))) (mvT hZ (hw _ (List.mem_of_getElem? (i := 105) rfl))) (notFace_of_selects (args := #[]) (mvT hZ (hw _ (List.mem_of_getElem? (i := 107) rfl)))) (mvT hZ (hw _ (List.mem_of_getElem? (i := 107) rfl))) (mvT hZ (hw _ (List.mem_of_getElem? (i := 106) rfl))) (by decide) (backOf (W := 1) (rm12 l Z a0 hw [] a2 se h0 n0 Zo Fv) hZ (hw _ (List.mem_of_getElem? (i := 108) rfl)) (hw _ (List.mem_of_getElem? (i := 70) rfl)) (by decide) (by decide)) q362a q362c (g := (mkF m 5 #[.val (.ref r), .val (.ref a2)] [(.ref a2), (.ref cb)])) rfl (by rw [hml]; rfl) (Steps.refl _) (argsL := []) (rest := [(.ref cb)]) (lenOf pd___Lcom_example_tenon_tenon_Finding_Severity_ rfl) rfl (by show 2 * 0 + _ ≤ _; exact Nat.le_of_eq rfl) (hb hby d11_5) (fun _ _ => ⟨rfl, e361, (by decide : 0 + 0 ≤ _), (by decide : 0 + 0 ≤ _)⟩)
  dsimp only [Pt.U, Pt.locs, Pt.cells, Pt.slots] at X362 l362 y362 z362 st362 hQ362
  subst l362 y362 z362
  obtain ⟨rfl, N362q, e362⟩ := hQ362
  have N363 := Fr.app N0 N362q
  obtain ⟨cq364, kq364, q364a, q364b, q364c⟩ := isOf hZ e362 (Es.ext Xo.2)
  obtain ⟨_, _, ⟨T364, L364, k364, n364⟩, -, X364, ⟨Lc364, hQ364, l364, y364, z364⟩, st364⟩ := X362.virtualBackUp hx (x := (⟨"com/example/tenon/tenon/Finding$Severity", "ordinal", "()I"⟩ : MethodName)) (y := (⟨"java/lang/Enum", "ordinal", "()I"⟩ : MethodName)) (owner := "java/lang/Enum") hown (mvT hZ (hw _ (List.mem_of_getElem? (i := 109) rfl))) (mvT hZ (hw _ (List.mem_of_getElem? (i := 110) rfl))) (mvT hZ (hw _ (List.mem_of_getElem? (i := 111) rfl))) (by decide) (mvT hZ (hw _ (List.mem_of_getElem? (i := 113) rfl))) (mvT hZ (hw _ (List.mem_of_getElem? (i := 112) rfl))) (backOf (W := 1) (rm13 l Z a0 hw [] se (1 : Int32) h0 n0 Zo (Fd.ext Xo.2)) hZ (hw _ (List.mem_of_getElem? (i := 115) rfl)) (hw _ (List.mem_of_getElem? (i := 114) rfl)) (by decide) (by decide)) q364a q364c (g := (mkF m 8 #[.val (.ref r), .val (.ref a2)] [(.ref se), (.ref cb)])) rfl (by rw [hml]; rfl) (Steps.refl _) (argsL := []) (rest := [(.ref cb)]) (lenOf pd___I rfl) rfl (by show 2 * 0 + _ ≤ _; exact Nat.le_of_eq rfl) (hb hby d11_8) (fun _ _ => ⟨rfl, e362, (by decide : 0 + 0 ≤ _), (by decide : 0 + 0 ≤ _)⟩)
  dsimp only [Pt.U, Pt.locs, Pt.cells, Pt.slots] at X364 l364 y364 z364 st364 hQ364
  subst l364 y364 z364
  obtain ⟨rfl, N364q, e364⟩ := hQ364
  have N365 := Fr.app N363 N364q
  obtain ⟨c366, r366, q366, s366, n366, H366, G366⟩ := id Vc
  have i366 : ¬ ((1 : Int32) < 0 ∨ c366.slots.size ≤ ((1 : Int32)).toNatClampNeg) := inb_of s366 ⟨by decide, by decide⟩
  have a366 : c366.slots[((1 : Int32)).toNatClampNeg]? = some (.long c1) := Has.at H366 i366 rfl
  obtain ⟨c367, r367, q367, s367, n367, H367, G367⟩ := id Vc
  have i367 : ¬ ((1 : Int32) < 0 ∨ c367.slots.size ≤ ((1 : Int32)).toNatClampNeg) := inb_of s367 ⟨by decide, by decide⟩
  obtain ⟨T367, h367, X367, e367, W367, st367⟩ := stJ X364 hx hZ e364 r367 (j := (1 : Int32)) i367 (g := (mkF m 15 #[.val (.ref r), .val (.ref a2)] [(.long (c1 + (1 : Int64))), (.int (1 : Int32)), (.ref cb)])) rfl rfl (hb hby d11_15)
  have f368 := Arv.set r367 q367 s367 n367 H367 G367 rfl W367 1 rfl (Nat.le_of_ble_eq_true rfl)
  have f369 : Arv Z h367 cb kc .long (3 : Int32) [(.long c0), (.long (c1 + (1 : Int64))), (.long c2)] (.long (0 : Int64)) := f368
  have f370 := Er.wr W367
  have f371 := Ff.other W367 (Or.inl nrc)
  have f372 := Fc.other W367 (Or.inl nrc)
  have f373 := Fo.other W367 (Or.inl nrc)
  have f374 := Ea.wr W367
  have f375 := Ef.wr W367
  have Zn376 := Nat.le_trans Zo (Keep.of_wr W367).1
  have Od377 := Xo.wr W367 gc
  have Hz378 := Nat.le_trans HZ0 (Keep.of_wr W367).1
  have N379 := Fr.snoc X367 N365 gc
  rcases hLS with hL0 | ⟨ed, ke, sz, hL1, hz1, hz2⟩
  · obtain ⟨Fe0, Fs0, mc, Fm0⟩ := hL0
    have Fe0 := Fe0.other W367 (Or.inl nac)
    have Fs0 := Fs0.other W367 (Or.inl nac)
    have Fm0 := Fm0.other W367 (Or.inl nac)
    obtain ⟨T380, X380, e380, st380⟩ := getF X367 hx hZ hown (host := "") (Or.inl (hw _ (List.mem_of_getElem? (i := 33) rfl))) Via.refl e367 f371 (g := (mkF m 17 #[.val (.ref r), .val (.ref a2)] [(.ref r)])) rfl rfl (hb hby d11_17)
    obtain ⟨cq381, kq381, q381a, q381b, q381c⟩ := isOf hZ e380 f374
    obtain ⟨_, _, ⟨T381, L381, k381, n381⟩, -, X381, ⟨Lc381, hQ381, l381, y381, z381⟩, st381⟩ := X380.interfaceBack hx (xi := (⟨"java/util/List", "size", "()I"⟩ : MethodName)) (y := (⟨"java/util/ArrayList", "size", "()I"⟩ : MethodName)) hown (mvT hZ (hw _ (List.mem_of_getElem? (i := 118) rfl))) (mvT hZ (hw _ (List.mem_of_getElem? (i := 119) rfl))) (mvT hZ (hw _ (List.mem_of_getElem? (i := 120) rfl))) (mvT hZ (hw _ (List.mem_of_getElem? (i := 121) rfl))) (mvT hZ (hw _ (List.mem_of_getElem? (i := 122) rfl))) (mvT hZ (hw _ (List.mem_of_getElem? (i := 123) rfl))) (mvT hZ (hw _ (List.mem_of_getElem? (i := 124) rfl))) (mvT hZ (hw _ (List.mem_of_getElem? (i := 125) rfl))) (by decide) (backOf (W := 0) (rm14 l Z a0 hw [] al (0 : Int32) h367 n0 Zn376 Fs0) hZ (hw _ (List.mem_of_getElem? (i := 126) rfl)) (hw _ (List.mem_of_getElem? (i := 11) rfl)) (by decide) (by decide)) q381a q381b q381c (g := (mkF m 20 #[.val (.ref r), .val (.ref a2)] [(.ref al)])) rfl (by rw [hml]; rfl) (Steps.refl _) (argsL := []) (rest := []) (lenOf pd___I rfl) rfl (by show 2 * 0 + _ ≤ _; exact Nat.le_of_eq rfl) (hb hby d11_20) (fun _ _ => ⟨rfl, e380, (by decide : 0 + 0 ≤ _), (by decide : 0 + 0 ≤ _)⟩)
    dsimp only [Pt.U, Pt.locs, Pt.cells, Pt.slots] at X381 l381 y381 z381 st381 hQ381
    subst l381 y381 z381
    obtain ⟨rfl, N381q, e381⟩ := hQ381
    have N382 := Fr.app N379 N381q
    obtain ⟨T383, X383, e383, st383⟩ := getF X381 hx hZ hown (host := "") (Or.inl (hw _ (List.mem_of_getElem? (i := 57) rfl))) Via.refl e381 f373 (g := (mkF m 26 #[.val (.ref r), .val (.ref a2)] [(.ref r), (.int (0 : Int32))])) rfl rfl (hb hby d11_26)
    by_cases hm : (0 : Int32) < mo
    · obtain ⟨T384, X384, e384, st384⟩ := getF X383 hx hZ hown (host := "") (Or.inl (hw _ (List.mem_of_getElem? (i := 33) rfl))) Via.refl e383 f371 (g := (mkF m 33 #[.val (.ref r), .val (.ref a2)] [(.ref r)])) rfl rfl (hb hby d11_33)
      obtain ⟨cq385, kq385, q385a, q385b, q385c⟩ := isOf hZ e384 f374
      obtain ⟨_, _, ⟨T385, L385, k385, n385⟩, -, X385, ⟨Lc385, hQ385, l385, y385, z385⟩, st385⟩ := X384.interfaceBack hx (xi := (⟨"java/util/List", "add", "(Ljava/lang/Object;)Z"⟩ : MethodName)) (y := (⟨"java/util/ArrayList", "add", "(Ljava/lang/Object;)Z"⟩ : MethodName)) hown (mvT hZ (hw _ (List.mem_of_getElem? (i := 138) rfl))) (mvT hZ (hw _ (List.mem_of_getElem? (i := 139) rfl))) (mvT hZ (hw _ (List.mem_of_getElem? (i := 140) rfl))) (mvT hZ (hw _ (List.mem_of_getElem? (i := 141) rfl))) (mvT hZ (hw _ (List.mem_of_getElem? (i := 142) rfl))) (mvT hZ (hw _ (List.mem_of_getElem? (i := 143) rfl))) (mvT hZ (hw _ (List.mem_of_getElem? (i := 144) rfl))) (mvT hZ (hw _ (List.mem_of_getElem? (i := 125) rfl))) (by decide) (backOf (W := 0) (rm16a l Z a0 hw [] al a2 dce kd mc h367 n0 Zn376 f374 Fm0 Fe0 Fs0 ga Od377 SD AD f375) hZ (hw _ (List.mem_of_getElem? (i := 145) rfl)) (hw _ (List.mem_of_getElem? (i := 11) rfl)) (by decide) (by decide)) q385a q385b q385c (g := (mkF m 37 #[.val (.ref r), .val (.ref a2)] [(.ref a2), (.ref al)])) rfl (by rw [hml]; rfl) (Steps.refl _) (argsL := [(.ref a2)]) (rest := []) (lenOf pd__Ljava_lang_Object__Z rfl) rfl (by show 2 * 0 + _ ≤ _; exact Nat.le_of_eq rfl) (hb hby d11_37) (fun _ _ => ⟨rfl, e384, (by decide : 0 + 1 ≤ _), (by decide : 0 + 10 ≤ _)⟩)
      dsimp only [Pt.U, Pt.locs, Pt.cells, Pt.slots] at X385 l385 y385 z385 st385 hQ385
      subst l385 y385 z385
      obtain ⟨rfl, N385q, Kq, ed, ke, es, mq, ged, zed, Feq, Fsq, Fmq, Veq, hesq, Oq⟩ := hQ385
      have N386 := Fr.app N382 N385q
      have f387 := f370.keep Kq
      have f388 := f371.keep Kq (ninS nra nin0)
      have f389 := f372.keep Kq (ninS nra nin0)
      have f390 := f373.keep Kq (ninS nra nin0)
      have f391 := f374.keep Kq
      have f392 := f375.keep Kq
      have f393 := f369.keep Kq (ninS (Ne.symm nac) nin0)
      have Zn394 := Nat.le_trans Zn376 Kq.1
      have Hz395 := Nat.le_trans Hz378 Kq.1
      have Od396 := Od377.keep Kq (allS ga all0)
      have n1 : r ≠ ed := Nat.ne_of_lt (Nat.lt_of_lt_of_le f370.lt zed)
      have n2 : al ≠ ed := Nat.ne_of_lt (Nat.lt_of_lt_of_le f374.lt zed)
      have n3 : cb ≠ ed := Nat.ne_of_lt (Nat.lt_of_lt_of_le f369.lt zed)
      obtain ⟨fs, hr, hrun, hended, hW, hsame⟩ := X385.leave (v := none) (fun _ => rfl)
      refine ⟨_, _, pre0 _ ?_, hrun, hended, _, _, rfl, ?_, ⟨_, rfl⟩, hW, hsame.mono (by decide) (by decide)⟩
      · show Steps p.tables e below (s₁.setTop (mkF m 0 #[.val (.ref r), .val (.ref a2)] [])) _
        refine XS.aloadN X0.here hx rfl (hb hby d11_0) rfl rfl ?_
        show Steps p.tables e below (s₁.setTop (mkF m 1 #[.val (.ref r), .val (.ref a2)] [(.ref r)])) _
        refine st361 _ ?_
        show Steps p.tables e below (T361.setTop (mkF m 4 #[.val (.ref r), .val (.ref a2)] [(.ref cb)])) _
        refine XS.aloadN X361.here hx rfl (hb hby d11_4) rfl rfl ?_
        show Steps p.tables e below (T361.setTop (mkF m 5 #[.val (.ref r), .val (.ref a2)] [(.ref a2), (.ref cb)])) _
        refine st362.trans ?_
        show Steps p.tables e below (T362.setTop (mkF m 8 #[.val (.ref r), .val (.ref a2)] [(.ref se), (.ref cb)])) _
        refine st364.trans ?_
        show Steps p.tables e below (T364.setTop (mkF m 11 #[.val (.ref r), .val (.ref a2)] [(.int (1 : Int32)), (.ref cb)])) _
        jvm_step X364.here [X364.here.top, hx, (hb hby d11_11), Value.category]
        show Steps p.tables e below (T364.setTop (mkF m 12 #[.val (.ref r), .val (.ref a2)] [(.int (1 : Int32)), (.ref cb), (.int (1 : Int32)), (.ref cb)])) _
        refine X364.laload hx (j := (1 : Int32)) (v := (.long c1)) (by rw [e364]; exact r366.1) (State.isArrayOf_alike hZ.alike r366.2.1) r366.2.2 i366 a366 (g := (mkF m 12 #[.val (.ref r), .val (.ref a2)] [(.int (1 : Int32)), (.ref cb), (.int (1 : Int32)), (.ref cb)])) rfl rfl (hb hby d11_12) _ ?_
        show Steps p.tables e below (T364.setTop (mkF m 13 #[.val (.ref r), .val (.ref a2)] [(.long c1), (.int (1 : Int32)), (.ref cb)])) _
        refine XS.lconst X364.here hx rfl (hb hby d11_13) ?_
        show Steps p.tables e below (T364.setTop (mkF m 14 #[.val (.ref r), .val (.ref a2)] [(.long (1 : Int64)), (.long c1), (.int (1 : Int32)), (.ref cb)])) _
        refine XS.ladd X364.here hx rfl (hb hby d11_14) rfl ?_
        show Steps p.tables e below (T364.setTop (mkF m 15 #[.val (.ref r), .val (.ref a2)] [(.long (c1 + (1 : Int64))), (.int (1 : Int32)), (.ref cb)])) _
        refine st367 _ ?_
        show Steps p.tables e below (T367.setTop (mkF m 16 #[.val (.ref r), .val (.ref a2)] [])) _
        refine XS.aloadN X367.here hx rfl (hb hby d11_16) rfl rfl ?_
        show Steps p.tables e below (T367.setTop (mkF m 17 #[.val (.ref r), .val (.ref a2)] [(.ref r)])) _
        refine st380 _ ?_
        show Steps p.tables e below (T380.setTop (mkF m 20 #[.val (.ref r), .val (.ref a2)] [(.ref al)])) _
        refine st381.trans ?_
        show Steps p.tables e below (T381.setTop (mkF m 25 #[.val (.ref r), .val (.ref a2)] [(.int (0 : Int32))])) _
        refine XS.aloadN X381.here hx rfl (hb hby d11_25) rfl rfl ?_
        show Steps p.tables e below (T381.setTop (mkF m 26 #[.val (.ref r), .val (.ref a2)] [(.ref r), (.int (0 : Int32))])) _
        refine st383 _ ?_
        show Steps p.tables e below (T383.setTop (mkF m 29 #[.val (.ref r), .val (.ref a2)] [(.int mo), (.int (0 : Int32))])) _
        refine XS.icmpNo X383.here hx rfl (hb hby d11_29) rfl (tlt hm).2.1 ?_
        show Steps p.tables e below (T383.setTop (mkF m 32 #[.val (.ref r), .val (.ref a2)] [])) _
        refine XS.aloadN X383.here hx rfl (hb hby d11_32) rfl rfl ?_
        show Steps p.tables e below (T383.setTop (mkF m 33 #[.val (.ref r), .val (.ref a2)] [(.ref r)])) _
        refine st384 _ ?_
        show Steps p.tables e below (T384.setTop (mkF m 36 #[.val (.ref r), .val (.ref a2)] [(.ref al)])) _
        refine XS.aloadN X384.here hx rfl (hb hby d11_36) rfl rfl ?_
        show Steps p.tables e below (T384.setTop (mkF m 37 #[.val (.ref r), .val (.ref a2)] [(.ref a2), (.ref al)])) _
        refine st385.trans ?_
        show Steps p.tables e below (T385.setTop (mkF m 42 #[.val (.ref r), .val (.ref a2)] [(.int (1 : Int32))])) _
        refine XS.pop X385.here hx rfl (hb hby d11_42) rfl rfl ?_
        show Steps p.tables e below (T385.setTop (mkF m 43 #[.val (.ref r), .val (.ref a2)] [])) _
        exact X385.returnOut hx Bd.returns (hb hby d11_43) hr
      · show Qrm11_1 Z r a2 al cb kc dce kd mo k n se h0 n0 _ T385.heap _
        exact ⟨rfl, N386, Hz395, ⟨Od396, Zn394, gr, ga, gc, nra, nrc, nac, f387, f388, f389, f390, f391, Or.inr ⟨ed, ke, (1 : Int32), ⟨Feq, Fsq, ⟨_, Fmq⟩, ⟨_, Veq, hesq⟩, ged, n1, n2, n3, Oq⟩, by decide, by show (1 : Int) ≤ k + 1; omega⟩, _, _, _, f393, (own_s1 hsum)⟩⟩
    · obtain ⟨fs, hr, hrun, hended, hW, hsame⟩ := X383.leave (v := none) (fun _ => rfl)
      refine ⟨_, _, pre0 _ ?_, hrun, hended, _, _, rfl, ?_, ⟨_, rfl⟩, hW, hsame.mono (by decide) (by decide)⟩
      · show Steps p.tables e below (s₁.setTop (mkF m 0 #[.val (.ref r), .val (.ref a2)] [])) _
        refine XS.aloadN X0.here hx rfl (hb hby d11_0) rfl rfl ?_
        show Steps p.tables e below (s₁.setTop (mkF m 1 #[.val (.ref r), .val (.ref a2)] [(.ref r)])) _
        refine st361 _ ?_
        show Steps p.tables e below (T361.setTop (mkF m 4 #[.val (.ref r), .val (.ref a2)] [(.ref cb)])) _
        refine XS.aloadN X361.here hx rfl (hb hby d11_4) rfl rfl ?_
        show Steps p.tables e below (T361.setTop (mkF m 5 #[.val (.ref r), .val (.ref a2)] [(.ref a2), (.ref cb)])) _
        refine st362.trans ?_
        show Steps p.tables e below (T362.setTop (mkF m 8 #[.val (.ref r), .val (.ref a2)] [(.ref se), (.ref cb)])) _
        refine st364.trans ?_
        show Steps p.tables e below (T364.setTop (mkF m 11 #[.val (.ref r), .val (.ref a2)] [(.int (1 : Int32)), (.ref cb)])) _
        jvm_step X364.here [X364.here.top, hx, (hb hby d11_11), Value.category]
        show Steps p.tables e below (T364.setTop (mkF m 12 #[.val (.ref r), .val (.ref a2)] [(.int (1 : Int32)), (.ref cb), (.int (1 : Int32)), (.ref cb)])) _
        refine X364.laload hx (j := (1 : Int32)) (v := (.long c1)) (by rw [e364]; exact r366.1) (State.isArrayOf_alike hZ.alike r366.2.1) r366.2.2 i366 a366 (g := (mkF m 12 #[.val (.ref r), .val (.ref a2)] [(.int (1 : Int32)), (.ref cb), (.int (1 : Int32)), (.ref cb)])) rfl rfl (hb hby d11_12) _ ?_
        show Steps p.tables e below (T364.setTop (mkF m 13 #[.val (.ref r), .val (.ref a2)] [(.long c1), (.int (1 : Int32)), (.ref cb)])) _
        refine XS.lconst X364.here hx rfl (hb hby d11_13) ?_
        show Steps p.tables e below (T364.setTop (mkF m 14 #[.val (.ref r), .val (.ref a2)] [(.long (1 : Int64)), (.long c1), (.int (1 : Int32)), (.ref cb)])) _
        refine XS.ladd X364.here hx rfl (hb hby d11_14) rfl ?_
        show Steps p.tables e below (T364.setTop (mkF m 15 #[.val (.ref r), .val (.ref a2)] [(.long (c1 + (1 : Int64))), (.int (1 : Int32)), (.ref cb)])) _
        refine st367 _ ?_
        show Steps p.tables e below (T367.setTop (mkF m 16 #[.val (.ref r), .val (.ref a2)] [])) _
        refine XS.aloadN X367.here hx rfl (hb hby d11_16) rfl rfl ?_
        show Steps p.tables e below (T367.setTop (mkF m 17 #[.val (.ref r), .val (.ref a2)] [(.ref r)])) _
        refine st380 _ ?_
        show Steps p.tables e below (T380.setTop (mkF m 20 #[.val (.ref r), .val (.ref a2)] [(.ref al)])) _
        refine st381.trans ?_
        show Steps p.tables e below (T381.setTop (mkF m 25 #[.val (.ref r), .val (.ref a2)] [(.int (0 : Int32))])) _
        refine XS.aloadN X381.here hx rfl (hb hby d11_25) rfl rfl ?_
        show Steps p.tables e below (T381.setTop (mkF m 26 #[.val (.ref r), .val (.ref a2)] [(.ref r), (.int (0 : Int32))])) _
        refine st383 _ ?_
        show Steps p.tables e below (T383.setTop (mkF m 29 #[.val (.ref r), .val (.ref a2)] [(.int mo), (.int (0 : Int32))])) _
        refine XS.icmpYes X383.here hx rfl (pc0 := 29) (pc' := 43) rfl (hb hby d11_29) rfl (flt hm).2.1 (by decide) (by decide) ?_
        show Steps p.tables e below (T383.setTop (mkF m 43 #[.val (.ref r), .val (.ref a2)] [])) _
        exact X383.returnOut hx Bd.returns (hb hby d11_43) hr
      · show Qrm11_1 Z r a2 al cb kc dce kd mo k n se h0 n0 _ T383.heap _
        rw [e383]
        exact ⟨rfl, N382, Hz378, ⟨Od377, Zn376, gr, ga, gc, nra, nrc, nac, f370, f371, f372, f373, f374, Or.inl ⟨Fe0, Fs0, _, Fm0⟩, _, _, _, f369, (own_s1 hsum)⟩⟩
  · obtain ⟨Fe0, Fs0, ⟨mc, Fm0⟩, ⟨es, Ve0, hes⟩, ged, n1, n2, n3, Oe⟩ := hL1
    have Fe0 := Fe0.other W367 (Or.inl nac)
    have Fs0 := Fs0.other W367 (Or.inl nac)
    have Fm0 := Fm0.other W367 (Or.inl nac)
    have Ve0 := Ve0.other W367 (Ne.symm n3)
    obtain ⟨T397, X397, e397, st397⟩ := getF X367 hx hZ hown (host := "") (Or.inl (hw _ (List.mem_of_getElem? (i := 33) rfl))) Via.refl e367 f371 (g := (mkF m 17 #[.val (.ref r), .val (.ref a2)] [(.ref r)])) rfl rfl (hb hby d11_17)
    obtain ⟨cq398, kq398, q398a, q398b, q398c⟩ := isOf hZ e397 f374
    obtain ⟨_, _, ⟨T398, L398, k398, n398⟩, -, X398, ⟨Lc398, hQ398, l398, y398, z398⟩, st398⟩ := X397.interfaceBack hx (xi := (⟨"java/util/List", "size", "()I"⟩ : MethodName)) (y := (⟨"java/util/ArrayList", "size", "()I"⟩ : MethodName)) hown (mvT hZ (hw _ (List.mem_of_getElem? (i := 118) rfl))) (mvT hZ (hw _ (List.mem_of_getElem? (i := 119) rfl))) (mvT hZ (hw _ (List.mem_of_getElem? (i := 120) rfl))) (mvT hZ (hw _ (List.mem_of_getElem? (i := 121) rfl))) (mvT hZ (hw _ (List.mem_of_getElem? (i := 122) rfl))) (mvT hZ (hw _ (List.mem_of_getElem? (i := 123) rfl))) (mvT hZ (hw _ (List.mem_of_getElem? (i := 124) rfl))) (mvT hZ (hw _ (List.mem_of_getElem? (i := 125) rfl))) (by decide) (backOf (W := 0) (rm14 l Z a0 hw [] al sz h367 n0 Zn376 Fs0) hZ (hw _ (List.mem_of_getElem? (i := 126) rfl)) (hw _ (List.mem_of_getElem? (i := 11) rfl)) (by decide) (by decide)) q398a q398b q398c (g := (mkF m 20 #[.val (.ref r), .val (.ref a2)] [(.ref al)])) rfl (by rw [hml]; rfl) (Steps.refl _) (argsL := []) (rest := []) (lenOf pd___I rfl) rfl (by show 2 * 0 + _ ≤ _; exact Nat.le_of_eq rfl) (hb hby d11_20) (fun _ _ => ⟨rfl, e397, (by decide : 0 + 0 ≤ _), (by decide : 0 + 0 ≤ _)⟩)
    dsimp only [Pt.U, Pt.locs, Pt.cells, Pt.slots] at X398 l398 y398 z398 st398 hQ398
    subst l398 y398 z398
    obtain ⟨rfl, N398q, e398⟩ := hQ398
    have N399 := Fr.app N379 N398q
    obtain ⟨T400, X400, e400, st400⟩ := getF X398 hx hZ hown (host := "") (Or.inl (hw _ (List.mem_of_getElem? (i := 57) rfl))) Via.refl e398 f373 (g := (mkF m 26 #[.val (.ref r), .val (.ref a2)] [(.ref r), (.int sz)])) rfl rfl (hb hby d11_26)
    by_cases hm : sz < mo
    · obtain ⟨T401, X401, e401, st401⟩ := getF X400 hx hZ hown (host := "") (Or.inl (hw _ (List.mem_of_getElem? (i := 33) rfl))) Via.refl e400 f371 (g := (mkF m 33 #[.val (.ref r), .val (.ref a2)] [(.ref r)])) rfl rfl (hb hby d11_33)
      obtain ⟨cq402, kq402, q402a, q402b, q402c⟩ := isOf hZ e401 f374
      obtain ⟨_, _, ⟨T402, L402, k402, n402⟩, -, X402, ⟨Lc402, hQ402, l402, y402, z402⟩, st402⟩ := X401.interfaceBack hx (xi := (⟨"java/util/List", "add", "(Ljava/lang/Object;)Z"⟩ : MethodName)) (y := (⟨"java/util/ArrayList", "add", "(Ljava/lang/Object;)Z"⟩ : MethodName)) hown (mvT hZ (hw _ (List.mem_of_getElem? (i := 138) rfl))) (mvT hZ (hw _ (List.mem_of_getElem? (i := 139) rfl))) (mvT hZ (hw _ (List.mem_of_getElem? (i := 140) rfl))) (mvT hZ (hw _ (List.mem_of_getElem? (i := 141) rfl))) (mvT hZ (hw _ (List.mem_of_getElem? (i := 142) rfl))) (mvT hZ (hw _ (List.mem_of_getElem? (i := 143) rfl))) (mvT hZ (hw _ (List.mem_of_getElem? (i := 144) rfl))) (mvT hZ (hw _ (List.mem_of_getElem? (i := 125) rfl))) (by decide) (backOf (W := 0) (rm16b l Z a0 hw [] al a2 ed ke mc es sz h367 n0 Zn376 f374 Fm0 Fe0 Fs0 ga Ve0 hes Oe ged n2 ⟨hz1, Int.le_trans hz2 hk3.2⟩ f375) hZ (hw _ (List.mem_of_getElem? (i := 145) rfl)) (hw _ (List.mem_of_getElem? (i := 11) rfl)) (by decide) (by decide)) q402a q402b q402c (g := (mkF m 37 #[.val (.ref r), .val (.ref a2)] [(.ref a2), (.ref al)])) rfl (by rw [hml]; rfl) (Steps.refl _) (argsL := [(.ref a2)]) (rest := []) (lenOf pd__Ljava_lang_Object__Z rfl) rfl (by show 2 * 0 + _ ≤ _; exact Nat.le_of_eq rfl) (hb hby d11_37) (fun _ _ => ⟨rfl, e401, (by decide : 0 + 0 ≤ _), (by decide : 0 + 0 ≤ _)⟩)
      dsimp only [Pt.U, Pt.locs, Pt.cells, Pt.slots] at X402 l402 y402 z402 st402 hQ402
      subst l402 y402 z402
      obtain ⟨rfl, N402q, Kq, Feq, Fsq, Fmq, Veq⟩ := hQ402
      have N403 := Fr.app N399 N402q
      have f404 := f370.keep Kq
      have f405 := f371.keep Kq (ninS nra (ninS n1 nin0))
      have f406 := f372.keep Kq (ninS nra (ninS n1 nin0))
      have f407 := f373.keep Kq (ninS nra (ninS n1 nin0))
      have f408 := f374.keep Kq
      have f409 := f375.keep Kq
      have f410 := f369.keep Kq (ninS (Ne.symm nac) (ninS n3 nin0))
      have Zn411 := Nat.le_trans Zn376 Kq.1
      have Hz412 := Nat.le_trans Hz378 Kq.1
      have Od413 := Od377.keep Kq (allS ga (allS ged all0))
      obtain ⟨fs, hr, hrun, hended, hW, hsame⟩ := X402.leave (v := none) (fun _ => rfl)
      refine ⟨_, _, pre0 _ ?_, hrun, hended, _, _, rfl, ?_, ⟨_, rfl⟩, hW, hsame.mono (by decide) (by decide)⟩
      · show Steps p.tables e below (s₁.setTop (mkF m 0 #[.val (.ref r), .val (.ref a2)] [])) _
        refine XS.aloadN X0.here hx rfl (hb hby d11_0) rfl rfl ?_
        show Steps p.tables e below (s₁.setTop (mkF m 1 #[.val (.ref r), .val (.ref a2)] [(.ref r)])) _
        refine st361 _ ?_
        show Steps p.tables e below (T361.setTop (mkF m 4 #[.val (.ref r), .val (.ref a2)] [(.ref cb)])) _
        refine XS.aloadN X361.here hx rfl (hb hby d11_4) rfl rfl ?_
        show Steps p.tables e below (T361.setTop (mkF m 5 #[.val (.ref r), .val (.ref a2)] [(.ref a2), (.ref cb)])) _
        refine st362.trans ?_
        show Steps p.tables e below (T362.setTop (mkF m 8 #[.val (.ref r), .val (.ref a2)] [(.ref se), (.ref cb)])) _
        refine st364.trans ?_
        show Steps p.tables e below (T364.setTop (mkF m 11 #[.val (.ref r), .val (.ref a2)] [(.int (1 : Int32)), (.ref cb)])) _
        jvm_step X364.here [X364.here.top, hx, (hb hby d11_11), Value.category]
        show Steps p.tables e below (T364.setTop (mkF m 12 #[.val (.ref r), .val (.ref a2)] [(.int (1 : Int32)), (.ref cb), (.int (1 : Int32)), (.ref cb)])) _
        refine X364.laload hx (j := (1 : Int32)) (v := (.long c1)) (by rw [e364]; exact r366.1) (State.isArrayOf_alike hZ.alike r366.2.1) r366.2.2 i366 a366 (g := (mkF m 12 #[.val (.ref r), .val (.ref a2)] [(.int (1 : Int32)), (.ref cb), (.int (1 : Int32)), (.ref cb)])) rfl rfl (hb hby d11_12) _ ?_
        show Steps p.tables e below (T364.setTop (mkF m 13 #[.val (.ref r), .val (.ref a2)] [(.long c1), (.int (1 : Int32)), (.ref cb)])) _
        refine XS.lconst X364.here hx rfl (hb hby d11_13) ?_
        show Steps p.tables e below (T364.setTop (mkF m 14 #[.val (.ref r), .val (.ref a2)] [(.long (1 : Int64)), (.long c1), (.int (1 : Int32)), (.ref cb)])) _
        refine XS.ladd X364.here hx rfl (hb hby d11_14) rfl ?_
        show Steps p.tables e below (T364.setTop (mkF m 15 #[.val (.ref r), .val (.ref a2)] [(.long (c1 + (1 : Int64))), (.int (1 : Int32)), (.ref cb)])) _
        refine st367 _ ?_
        show Steps p.tables e below (T367.setTop (mkF m 16 #[.val (.ref r), .val (.ref a2)] [])) _
        refine XS.aloadN X367.here hx rfl (hb hby d11_16) rfl rfl ?_
        show Steps p.tables e below (T367.setTop (mkF m 17 #[.val (.ref r), .val (.ref a2)] [(.ref r)])) _
        refine st397 _ ?_
        show Steps p.tables e below (T397.setTop (mkF m 20 #[.val (.ref r), .val (.ref a2)] [(.ref al)])) _
        refine st398.trans ?_
        show Steps p.tables e below (T398.setTop (mkF m 25 #[.val (.ref r), .val (.ref a2)] [(.int sz)])) _
        refine XS.aloadN X398.here hx rfl (hb hby d11_25) rfl rfl ?_
        show Steps p.tables e below (T398.setTop (mkF m 26 #[.val (.ref r), .val (.ref a2)] [(.ref r), (.int sz)])) _
        refine st400 _ ?_
        show Steps p.tables e below (T400.setTop (mkF m 29 #[.val (.ref r), .val (.ref a2)] [(.int mo), (.int sz)])) _
        refine XS.icmpNo X400.here hx rfl (hb hby d11_29) rfl (tlt hm).2.1 ?_
        show Steps p.tables e below (T400.setTop (mkF m 32 #[.val (.ref r), .val (.ref a2)] [])) _
        refine XS.aloadN X400.here hx rfl (hb hby d11_32) rfl rfl ?_
        show Steps p.tables e below (T400.setTop (mkF m 33 #[.val (.ref r), .val (.ref a2)] [(.ref r)])) _
        refine st401 _ ?_
        show Steps p.tables e below (T401.setTop (mkF m 36 #[.val (.ref r), .val (.ref a2)] [(.ref al)])) _
        refine XS.aloadN X401.here hx rfl (hb hby d11_36) rfl rfl ?_
        show Steps p.tables e below (T401.setTop (mkF m 37 #[.val (.ref r), .val (.ref a2)] [(.ref a2), (.ref al)])) _
        refine st402.trans ?_
        show Steps p.tables e below (T402.setTop (mkF m 42 #[.val (.ref r), .val (.ref a2)] [(.int (1 : Int32))])) _
        refine XS.pop X402.here hx rfl (hb hby d11_42) rfl rfl ?_
        show Steps p.tables e below (T402.setTop (mkF m 43 #[.val (.ref r), .val (.ref a2)] [])) _
        exact X402.returnOut hx Bd.returns (hb hby d11_43) hr
      · show Qrm11_1 Z r a2 al cb kc dce kd mo k n se h0 n0 _ T402.heap _
        exact ⟨rfl, N403, Hz412, ⟨Od413, Zn411, gr, ga, gc, nra, nrc, nac, f404, f405, f406, f407, f408, Or.inr ⟨ed, ke, _, ⟨Feq, Fsq, Fmq, Veq, ged, n1, n2, n3, Oe⟩, own_up hz1 hz2 hk3.2⟩, _, _, _, f410, (own_s1 hsum)⟩⟩
    · obtain ⟨fs, hr, hrun, hended, hW, hsame⟩ := X400.leave (v := none) (fun _ => rfl)
      refine ⟨_, _, pre0 _ ?_, hrun, hended, _, _, rfl, ?_, ⟨_, rfl⟩, hW, hsame.mono (by decide) (by decide)⟩
      · show Steps p.tables e below (s₁.setTop (mkF m 0 #[.val (.ref r), .val (.ref a2)] [])) _
        refine XS.aloadN X0.here hx rfl (hb hby d11_0) rfl rfl ?_
        show Steps p.tables e below (s₁.setTop (mkF m 1 #[.val (.ref r), .val (.ref a2)] [(.ref r)])) _
        refine st361 _ ?_
        show Steps p.tables e below (T361.setTop (mkF m 4 #[.val (.ref r), .val (.ref a2)] [(.ref cb)])) _
        refine XS.aloadN X361.here hx rfl (hb hby d11_4) rfl rfl ?_
        show Steps p.tables e below (T361.setTop (mkF m 5 #[.val (.ref r), .val (.ref a2)] [(.ref a2), (.ref cb)])) _
        refine st362.trans ?_
        show Steps p.tables e below (T362.setTop (mkF m 8 #[.val (.ref r), .val (.ref a2)] [(.ref se), (.ref cb)])) _
        refine st364.trans ?_
        show Steps p.tables e below (T364.setTop (mkF m 11 #[.val (.ref r), .val (.ref a2)] [(.int (1 : Int32)), (.ref cb)])) _
        jvm_step X364.here [X364.here.top, hx, (hb hby d11_11), Value.category]
        show Steps p.tables e below (T364.setTop (mkF m 12 #[.val (.ref r), .val (.ref a2)] [(.int (1 : Int32)), (.ref cb), (.int (1 : Int32)), (.ref cb)])) _
        refine X364.laload hx (j := (1 : Int32)) (v := (.long c1)) (by rw [e364]; exact r366.1) (State.isArrayOf_alike hZ.alike r366.2.1) r366.2.2 i366 a366 (g := (mkF m 12 #[.val (.ref r), .val (.ref a2)] [(.int (1 : Int32)), (.ref cb), (.int (1 : Int32)), (.ref cb)])) rfl rfl (hb hby d11_12) _ ?_
        show Steps p.tables e below (T364.setTop (mkF m 13 #[.val (.ref r), .val (.ref a2)] [(.long c1), (.int (1 : Int32)), (.ref cb)])) _
        refine XS.lconst X364.here hx rfl (hb hby d11_13) ?_
        show Steps p.tables e below (T364.setTop (mkF m 14 #[.val (.ref r), .val (.ref a2)] [(.long (1 : Int64)), (.long c1), (.int (1 : Int32)), (.ref cb)])) _
        refine XS.ladd X364.here hx rfl (hb hby d11_14) rfl ?_
        show Steps p.tables e below (T364.setTop (mkF m 15 #[.val (.ref r), .val (.ref a2)] [(.long (c1 + (1 : Int64))), (.int (1 : Int32)), (.ref cb)])) _
        refine st367 _ ?_
        show Steps p.tables e below (T367.setTop (mkF m 16 #[.val (.ref r), .val (.ref a2)] [])) _
        refine XS.aloadN X367.here hx rfl (hb hby d11_16) rfl rfl ?_
        show Steps p.tables e below (T367.setTop (mkF m 17 #[.val (.ref r), .val (.ref a2)] [(.ref r)])) _
        refine st397 _ ?_
        show Steps p.tables e below (T397.setTop (mkF m 20 #[.val (.ref r), .val (.ref a2)] [(.ref al)])) _
        refine st398.trans ?_
        show Steps p.tables e below (T398.setTop (mkF m 25 #[.val (.ref r), .val (.ref a2)] [(.int sz)])) _
        refine XS.aloadN X398.here hx rfl (hb hby d11_25) rfl rfl ?_
        show Steps p.tables e below (T398.setTop (mkF m 26 #[.val (.ref r), .val (.ref a2)] [(.ref r), (.int sz)])) _
        refine st400 _ ?_
        show Steps p.tables e below (T400.setTop (mkF m 29 #[.val (.ref r), .val (.ref a2)] [(.int mo), (.int sz)])) _
        refine XS.icmpYes X400.here hx rfl (pc0 := 29) (pc' := 43) rfl (hb hby d11_29) rfl (flt hm).2.1 (by decide) (by decide) ?_
        show Steps p.tables e below (T400.setTop (mkF m 43 #[.val (.ref r), .val (.ref a2)] [])) _
        exact X400.returnOut hx Bd.returns (hb hby d11_43) hr
      · show Qrm11_1 Z r a2 al cb kc dce kd mo k n se h0 n0 _ T400.heap _
        rw [e400]
        exact ⟨rfl, N399, Hz378, ⟨Od377, Zn376, gr, ga, gc, nra, nrc, nac, f370, f371, f372, f373, f374, Or.inr ⟨ed, ke, sz, ⟨Fe0, Fs0, ⟨_, Fm0⟩, ⟨_, Ve0, hes⟩, ged, n1, n2, n3, Oe⟩, hz1, by omega⟩, _, _, _, f369, (own_s1 hsum)⟩⟩
theorem ef_rm11_2 (m : MethodId) (r : Addr) (a2 : Addr) : entryFrame m #[(.ref r), (.ref a2)] 2 = mkF m 0 #[.val (.ref r), .val (.ref a2)] [] := by first | (simp [entryFrame, mkF, argsToLocals, Value.category]; done) | rfl
def Qrm11_2 (Z : State) (r : Addr) (a2 : Addr) (al : Addr) (cb : Addr) (kc : ClassId) (dce : Addr) (kd : ClassId) (mo : Int32) (k : Int) (n : Int64) (se : Addr) (h0 : Heap) (n0 : Nat) (v : Option Value) (h : Heap) (L : List Loc) : Prop := v = none ∧ Fr n0 L ∧ h0.size ≤ h.size ∧ own_W Z n0 h r al cb kc dce mo (k + 1) (n + 1)
set_option maxRecDepth 65536 in
set_option maxHeartbeats 40000000 in
theorem rm11_2 (l : Launch) (Z : State) (a0 : Array Value) (hw : ∀ d ∈ tables_1, d.before a0 Z = true) (ws : List Jvm.Cond) (r : Addr) (a2 : Addr) (al : Addr) (cb : Addr) (kc : ClassId) (dce : Addr) (kd : ClassId) (mo : Int32) (k : Int) (n : Int64) (se : Addr) (h0 : Heap) (n0 : Nat) (Z0 : n0 ≤ h0.size) (W1 : own_W Z n0 h0 r al cb kc dce mo k n) (SD : Sta Z Z.heap "java/util/ArrayList" "DEFAULTCAPACITY_EMPTY_ELEMENTDATA" "[Ljava/lang/Object;" (.ref dce)) (AD : Arv Z Z.heap dce kd (.object "java/lang/Object") (0 : Int32) [] .null) (hk3 : 0 ≤ k ∧ k ≤ 3) (Ef : Exa Z h0 a2 "com/example/tenon/tenon/Finding") (Fv : Fld Z h0 a2 "com/example/tenon/tenon/Finding" "severity" "Lcom/example/tenon/tenon/Finding$Severity;" (.ref se)) (Es : Exa Z Z.heap se "com/example/tenon/tenon/Finding$Severity") (Fd : Fld Z Z.heap se "java/lang/Enum" "ordinal" "I" (.int (2 : Int32))) :
    MetFree l (⟨"com/example/tenon/tenon/Report", "add", "(Lcom/example/tenon/tenon/Finding;)V"⟩ : MethodName) (head1 (Jvm.Cond.code (⟨"com/example/tenon/tenon/Report", "add", "(Lcom/example/tenon/tenon/Finding;)V"⟩ : MethodName) prog_74_method_6_code 2 none :: ws) ({ frames := 5, cells := 1, slots := 10, locals := 69 } : Room)) (fun a U => a = #[(.ref r), (.ref a2)] ∧ Z.Warmed39 U.vm ∧ U.heap = h0) (fun _ _ _ _ _ => True) (fun _ U o U' => ∃ v L, o = .returned v ∧ Qrm11_2 Z r a2 al cb kc dce kd mo k n se h0 n0 v U'.heap L ∧ FrameEnd U o U' L ({ frames := 5, cells := 1, slots := 10, locals := 69 } : Room).cells ({ frames := 5, cells := 1, slots := 10, locals := 69 } : Room).slots) := by
  refine MetFree.of_bodySF (plainFor_of_name pn_com_example_tenon_tenon_Report) hisR ?_
  intro p e s m args below meth c s₁ Bd hml0 hP hK
  obtain ⟨rfl, hZ, hh⟩ := hP
  have hx := Bd.exec
  have hby := Bd.bytes
  have hml : c.maxLocals = 2 := hml0
  have hown : s.vm.findClass "com/example/tenon/tenon/Report" = some m.cls := findClass_of_methodNamed Bd.named
  have hnm := (name_of_methodNamed Bd.named Bd.method).1
  have X0 : Stand p l e ({ frames := 5, cells := 1, slots := 10, locals := 69 } : Room) s m #[(.ref r), (.ref a2)] below meth c s₁ [] 0 0 := Stand.of_body Bd
  have e0 : s₁.heap = h0 := by rw [← hh, Bd.state]; rfl
  have N0 := Fr.nil n0
  have pre0 : ∀ t, Steps p.tables e below (s₁.setTop (mkF m 0 #[.val (.ref r), .val (.ref a2)] [])) t → Steps p.tables e below (s₁.setTop (entryFrame m #[(.ref r), (.ref a2)] 2)) t := fun t k => castTop (ef_rm11_2 m r a2) k
  obtain ⟨Xo, Zo, gr, ga, gc, nra, nrc, nac, Er, Ff, Fc, Fo, Ea, hLS, c0, c1, c2, Vc, hsum⟩ := id W1
  have HZ0 := Nat.le_refl h0.size
  obtain ⟨T414, X414, e414, st414⟩ := getF X0 hx hZ hown (host := "") (Or.inl (hw _ (List.mem_of_getElem? (i := 55) rfl))) Via.refl e0 Fc (g := (mkF m 1 #[.val (.ref r), .val (.ref a2)] [(.ref r)])) rfl rfl (hb hby d11_1)
  obtain ⟨cq415, kq415, q415a, q415b, q415c⟩ := isOf hZ e414 Ef
  obtain ⟨_, _, ⟨T415, L415, k415, n415⟩, -, X415, ⟨Lc415, hQ415, l415, y415, z415⟩, st415⟩ := X414.virtualBack hx (y := (⟨"com/example/tenon/tenon/Finding", "severity", "()Lcom/example/tenon/tenon/Finding$Severity;"⟩ : MethodName)) (z := (⟨"com/example/tenon/tenon/Finding", "severity", "()Lcom/example/tenon/tenon/Finding$Severity;"⟩ : MethodName)) hown (mvT hZ (hw _ (List.mem_of_getElem? (i := 104) rfl))) (mvT hZ (hw _ (List.mem_of_getElem? (i := 105) rfl))) (notFace_of_selects (args := #[]) (mvT hZ (hw _ (List.mem_of_getElem? (i := 107) rfl)))) (mvT hZ (hw _ (List.mem_of_getElem? (i := 107) rfl))) (mvT hZ (hw _ (List.mem_of_getElem? (i := 106) rfl))) (by decide) (backOf (W := 1) (rm12 l Z a0 hw [] a2 se h0 n0 Zo Fv) hZ (hw _ (List.mem_of_getElem? (i := 108) rfl)) (hw _ (List.mem_of_getElem? (i := 70) rfl)) (by decide) (by decide)) q415a q415c (g := (mkF m 5 #[.val (.ref r), .val (.ref a2)] [(.ref a2), (.ref cb)])) rfl (by rw [hml]; rfl) (Steps.refl _) (argsL := []) (rest := [(.ref cb)]) (lenOf pd___Lcom_example_tenon_tenon_Finding_Severity_ rfl) rfl (by show 2 * 0 + _ ≤ _; exact Nat.le_of_eq rfl) (hb hby d11_5) (fun _ _ => ⟨rfl, e414, (by decide : 0 + 0 ≤ _), (by decide : 0 + 0 ≤ _)⟩)
  dsimp only [Pt.U, Pt.locs, Pt.cells, Pt.slots] at X415 l415 y415 z415 st415 hQ415
  subst l415 y415 z415
  obtain ⟨rfl, N415q, e415⟩ := hQ415
  have N416 := Fr.app N0 N415q
  obtain ⟨cq417, kq417, q417a, q417b, q417c⟩ := isOf hZ e415 (Es.ext Xo.2)
  obtain ⟨_, _, ⟨T417, L417, k417, n417⟩, -, X417, ⟨Lc417, hQ417, l417, y417, z417⟩, st417⟩ := X415.virtualBackUp hx (x := (⟨"com/example/tenon/tenon/Finding$Severity", "ordinal", "()I"⟩ : MethodName)) (y := (⟨"java/lang/Enum", "ordinal", "()I"⟩ : MethodName)) (owner := "java/lang/Enum") hown (mvT hZ (hw _ (List.mem_of_getElem? (i := 109) rfl))) (mvT hZ (hw _ (List.mem_of_getElem? (i := 110) rfl))) (mvT hZ (hw _ (List.mem_of_getElem? (i := 111) rfl))) (by decide) (mvT hZ (hw _ (List.mem_of_getElem? (i := 113) rfl))) (mvT hZ (hw _ (List.mem_of_getElem? (i := 112) rfl))) (backOf (W := 1) (rm13 l Z a0 hw [] se (2 : Int32) h0 n0 Zo (Fd.ext Xo.2)) hZ (hw _ (List.mem_of_getElem? (i := 115) rfl)) (hw _ (List.mem_of_getElem? (i := 114) rfl)) (by decide) (by decide)) q417a q417c (g := (mkF m 8 #[.val (.ref r), .val (.ref a2)] [(.ref se), (.ref cb)])) rfl (by rw [hml]; rfl) (Steps.refl _) (argsL := []) (rest := [(.ref cb)]) (lenOf pd___I rfl) rfl (by show 2 * 0 + _ ≤ _; exact Nat.le_of_eq rfl) (hb hby d11_8) (fun _ _ => ⟨rfl, e415, (by decide : 0 + 0 ≤ _), (by decide : 0 + 0 ≤ _)⟩)
  dsimp only [Pt.U, Pt.locs, Pt.cells, Pt.slots] at X417 l417 y417 z417 st417 hQ417
  subst l417 y417 z417
  obtain ⟨rfl, N417q, e417⟩ := hQ417
  have N418 := Fr.app N416 N417q
  obtain ⟨c419, r419, q419, s419, n419, H419, G419⟩ := id Vc
  have i419 : ¬ ((2 : Int32) < 0 ∨ c419.slots.size ≤ ((2 : Int32)).toNatClampNeg) := inb_of s419 ⟨by decide, by decide⟩
  have a419 : c419.slots[((2 : Int32)).toNatClampNeg]? = some (.long c2) := Has.at H419 i419 rfl
  obtain ⟨c420, r420, q420, s420, n420, H420, G420⟩ := id Vc
  have i420 : ¬ ((2 : Int32) < 0 ∨ c420.slots.size ≤ ((2 : Int32)).toNatClampNeg) := inb_of s420 ⟨by decide, by decide⟩
  obtain ⟨T420, h420, X420, e420, W420, st420⟩ := stJ X417 hx hZ e417 r420 (j := (2 : Int32)) i420 (g := (mkF m 15 #[.val (.ref r), .val (.ref a2)] [(.long (c2 + (1 : Int64))), (.int (2 : Int32)), (.ref cb)])) rfl rfl (hb hby d11_15)
  have f421 := Arv.set r420 q420 s420 n420 H420 G420 rfl W420 2 rfl (Nat.le_of_ble_eq_true rfl)
  have f422 : Arv Z h420 cb kc .long (3 : Int32) [(.long c0), (.long c1), (.long (c2 + (1 : Int64)))] (.long (0 : Int64)) := f421
  have f423 := Er.wr W420
  have f424 := Ff.other W420 (Or.inl nrc)
  have f425 := Fc.other W420 (Or.inl nrc)
  have f426 := Fo.other W420 (Or.inl nrc)
  have f427 := Ea.wr W420
  have f428 := Ef.wr W420
  have Zn429 := Nat.le_trans Zo (Keep.of_wr W420).1
  have Od430 := Xo.wr W420 gc
  have Hz431 := Nat.le_trans HZ0 (Keep.of_wr W420).1
  have N432 := Fr.snoc X420 N418 gc
  rcases hLS with hL0 | ⟨ed, ke, sz, hL1, hz1, hz2⟩
  · obtain ⟨Fe0, Fs0, mc, Fm0⟩ := hL0
    have Fe0 := Fe0.other W420 (Or.inl nac)
    have Fs0 := Fs0.other W420 (Or.inl nac)
    have Fm0 := Fm0.other W420 (Or.inl nac)
    obtain ⟨T433, X433, e433, st433⟩ := getF X420 hx hZ hown (host := "") (Or.inl (hw _ (List.mem_of_getElem? (i := 33) rfl))) Via.refl e420 f424 (g := (mkF m 17 #[.val (.ref r), .val (.ref a2)] [(.ref r)])) rfl rfl (hb hby d11_17)
    obtain ⟨cq434, kq434, q434a, q434b, q434c⟩ := isOf hZ e433 f427
    obtain ⟨_, _, ⟨T434, L434, k434, n434⟩, -, X434, ⟨Lc434, hQ434, l434, y434, z434⟩, st434⟩ := X433.interfaceBack hx (xi := (⟨"java/util/List", "size", "()I"⟩ : MethodName)) (y := (⟨"java/util/ArrayList", "size", "()I"⟩ : MethodName)) hown (mvT hZ (hw _ (List.mem_of_getElem? (i := 118) rfl))) (mvT hZ (hw _ (List.mem_of_getElem? (i := 119) rfl))) (mvT hZ (hw _ (List.mem_of_getElem? (i := 120) rfl))) (mvT hZ (hw _ (List.mem_of_getElem? (i := 121) rfl))) (mvT hZ (hw _ (List.mem_of_getElem? (i := 122) rfl))) (mvT hZ (hw _ (List.mem_of_getElem? (i := 123) rfl))) (mvT hZ (hw _ (List.mem_of_getElem? (i := 124) rfl))) (mvT hZ (hw _ (List.mem_of_getElem? (i := 125) rfl))) (by decide) (backOf (W := 0) (rm14 l Z a0 hw [] al (0 : Int32) h420 n0 Zn429 Fs0) hZ (hw _ (List.mem_of_getElem? (i := 126) rfl)) (hw _ (List.mem_of_getElem? (i := 11) rfl)) (by decide) (by decide)) q434a q434b q434c (g := (mkF m 20 #[.val (.ref r), .val (.ref a2)] [(.ref al)])) rfl (by rw [hml]; rfl) (Steps.refl _) (argsL := []) (rest := []) (lenOf pd___I rfl) rfl (by show 2 * 0 + _ ≤ _; exact Nat.le_of_eq rfl) (hb hby d11_20) (fun _ _ => ⟨rfl, e433, (by decide : 0 + 0 ≤ _), (by decide : 0 + 0 ≤ _)⟩)
    dsimp only [Pt.U, Pt.locs, Pt.cells, Pt.slots] at X434 l434 y434 z434 st434 hQ434
    subst l434 y434 z434
    obtain ⟨rfl, N434q, e434⟩ := hQ434
    have N435 := Fr.app N432 N434q
    obtain ⟨T436, X436, e436, st436⟩ := getF X434 hx hZ hown (host := "") (Or.inl (hw _ (List.mem_of_getElem? (i := 57) rfl))) Via.refl e434 f426 (g := (mkF m 26 #[.val (.ref r), .val (.ref a2)] [(.ref r), (.int (0 : Int32))])) rfl rfl (hb hby d11_26)
    by_cases hm : (0 : Int32) < mo
    · obtain ⟨T437, X437, e437, st437⟩ := getF X436 hx hZ hown (host := "") (Or.inl (hw _ (List.mem_of_getElem? (i := 33) rfl))) Via.refl e436 f424 (g := (mkF m 33 #[.val (.ref r), .val (.ref a2)] [(.ref r)])) rfl rfl (hb hby d11_33)
      obtain ⟨cq438, kq438, q438a, q438b, q438c⟩ := isOf hZ e437 f427
      obtain ⟨_, _, ⟨T438, L438, k438, n438⟩, -, X438, ⟨Lc438, hQ438, l438, y438, z438⟩, st438⟩ := X437.interfaceBack hx (xi := (⟨"java/util/List", "add", "(Ljava/lang/Object;)Z"⟩ : MethodName)) (y := (⟨"java/util/ArrayList", "add", "(Ljava/lang/Object;)Z"⟩ : MethodName)) hown (mvT hZ (hw _ (List.mem_of_getElem? (i := 138) rfl))) (mvT hZ (hw _ (List.mem_of_getElem? (i := 139) rfl))) (mvT hZ (hw _ (List.mem_of_getElem? (i := 140) rfl))) (mvT hZ (hw _ (List.mem_of_getElem? (i := 141) rfl))) (mvT hZ (hw _ (List.mem_of_getElem? (i := 142) rfl))) (mvT hZ (hw _ (List.mem_of_getElem? (i := 143) rfl))) (mvT hZ (hw _ (List.mem_of_getElem? (i := 144) rfl))) (mvT hZ (hw _ (List.mem_of_getElem? (i := 125) rfl))) (by decide) (backOf (W := 0) (rm16a l Z a0 hw [] al a2 dce kd mc h420 n0 Zn429 f427 Fm0 Fe0 Fs0 ga Od430 SD AD f428) hZ (hw _ (List.mem_of_getElem? (i := 145) rfl)) (hw _ (List.mem_of_getElem? (i := 11) rfl)) (by decide) (by decide)) q438a q438b q438c (g := (mkF m 37 #[.val (.ref r), .val (.ref a2)] [(.ref a2), (.ref al)])) rfl (by rw [hml]; rfl) (Steps.refl _) (argsL := [(.ref a2)]) (rest := []) (lenOf pd__Ljava_lang_Object__Z rfl) rfl (by show 2 * 0 + _ ≤ _; exact Nat.le_of_eq rfl) (hb hby d11_37) (fun _ _ => ⟨rfl, e437, (by decide : 0 + 1 ≤ _), (by decide : 0 + 10 ≤ _)⟩)
      dsimp only [Pt.U, Pt.locs, Pt.cells, Pt.slots] at X438 l438 y438 z438 st438 hQ438
      subst l438 y438 z438
      obtain ⟨rfl, N438q, Kq, ed, ke, es, mq, ged, zed, Feq, Fsq, Fmq, Veq, hesq, Oq⟩ := hQ438
      have N439 := Fr.app N435 N438q
      have f440 := f423.keep Kq
      have f441 := f424.keep Kq (ninS nra nin0)
      have f442 := f425.keep Kq (ninS nra nin0)
      have f443 := f426.keep Kq (ninS nra nin0)
      have f444 := f427.keep Kq
      have f445 := f428.keep Kq
      have f446 := f422.keep Kq (ninS (Ne.symm nac) nin0)
      have Zn447 := Nat.le_trans Zn429 Kq.1
      have Hz448 := Nat.le_trans Hz431 Kq.1
      have Od449 := Od430.keep Kq (allS ga all0)
      have n1 : r ≠ ed := Nat.ne_of_lt (Nat.lt_of_lt_of_le f423.lt zed)
      have n2 : al ≠ ed := Nat.ne_of_lt (Nat.lt_of_lt_of_le f427.lt zed)
      have n3 : cb ≠ ed := Nat.ne_of_lt (Nat.lt_of_lt_of_le f422.lt zed)
      obtain ⟨fs, hr, hrun, hended, hW, hsame⟩ := X438.leave (v := none) (fun _ => rfl)
      refine ⟨_, _, pre0 _ ?_, hrun, hended, _, _, rfl, ?_, ⟨_, rfl⟩, hW, hsame.mono (by decide) (by decide)⟩
      · show Steps p.tables e below (s₁.setTop (mkF m 0 #[.val (.ref r), .val (.ref a2)] [])) _
        refine XS.aloadN X0.here hx rfl (hb hby d11_0) rfl rfl ?_
        show Steps p.tables e below (s₁.setTop (mkF m 1 #[.val (.ref r), .val (.ref a2)] [(.ref r)])) _
        refine st414 _ ?_
        show Steps p.tables e below (T414.setTop (mkF m 4 #[.val (.ref r), .val (.ref a2)] [(.ref cb)])) _
        refine XS.aloadN X414.here hx rfl (hb hby d11_4) rfl rfl ?_
        show Steps p.tables e below (T414.setTop (mkF m 5 #[.val (.ref r), .val (.ref a2)] [(.ref a2), (.ref cb)])) _
        refine st415.trans ?_
        show Steps p.tables e below (T415.setTop (mkF m 8 #[.val (.ref r), .val (.ref a2)] [(.ref se), (.ref cb)])) _
        refine st417.trans ?_
        show Steps p.tables e below (T417.setTop (mkF m 11 #[.val (.ref r), .val (.ref a2)] [(.int (2 : Int32)), (.ref cb)])) _
        jvm_step X417.here [X417.here.top, hx, (hb hby d11_11), Value.category]
        show Steps p.tables e below (T417.setTop (mkF m 12 #[.val (.ref r), .val (.ref a2)] [(.int (2 : Int32)), (.ref cb), (.int (2 : Int32)), (.ref cb)])) _
        refine X417.laload hx (j := (2 : Int32)) (v := (.long c2)) (by rw [e417]; exact r419.1) (State.isArrayOf_alike hZ.alike r419.2.1) r419.2.2 i419 a419 (g := (mkF m 12 #[.val (.ref r), .val (.ref a2)] [(.int (2 : Int32)), (.ref cb), (.int (2 : Int32)), (.ref cb)])) rfl rfl (hb hby d11_12) _ ?_
        show Steps p.tables e below (T417.setTop (mkF m 13 #[.val (.ref r), .val (.ref a2)] [(.long c2), (.int (2 : Int32)), (.ref cb)])) _
        refine XS.lconst X417.here hx rfl (hb hby d11_13) ?_
        show Steps p.tables e below (T417.setTop (mkF m 14 #[.val (.ref r), .val (.ref a2)] [(.long (1 : Int64)), (.long c2), (.int (2 : Int32)), (.ref cb)])) _
        refine XS.ladd X417.here hx rfl (hb hby d11_14) rfl ?_
        show Steps p.tables e below (T417.setTop (mkF m 15 #[.val (.ref r), .val (.ref a2)] [(.long (c2 + (1 : Int64))), (.int (2 : Int32)), (.ref cb)])) _
        refine st420 _ ?_
        show Steps p.tables e below (T420.setTop (mkF m 16 #[.val (.ref r), .val (.ref a2)] [])) _
        refine XS.aloadN X420.here hx rfl (hb hby d11_16) rfl rfl ?_
        show Steps p.tables e below (T420.setTop (mkF m 17 #[.val (.ref r), .val (.ref a2)] [(.ref r)])) _
        refine st433 _ ?_
        show Steps p.tables e below (T433.setTop (mkF m 20 #[.val (.ref r), .val (.ref a2)] [(.ref al)])) _
        refine st434.trans ?_
        show Steps p.tables e below (T434.setTop (mkF m 25 #[.val (.ref r), .val (.ref a2)] [(.int (0 : Int32))])) _
        refine XS.aloadN X434.here hx rfl (hb hby d11_25) rfl rfl ?_
        show Steps p.tables e below (T434.setTop (mkF m 26 #[.val (.ref r), .val (.ref a2)] [(.ref r), (.int (0 : Int32))])) _
        refine st436 _ ?_
        show Steps p.tables e below (T436.setTop (mkF m 29 #[.val (.ref r), .val (.ref a2)] [(.int mo), (.int (0 : Int32))])) _
        refine XS.icmpNo X436.here hx rfl (hb hby d11_29) rfl (tlt hm).2.1 ?_
        show Steps p.tables e below (T436.setTop (mkF m 32 #[.val (.ref r), .val (.ref a2)] [])) _
        refine XS.aloadN X436.here hx rfl (hb hby d11_32) rfl rfl ?_
        show Steps p.tables e below (T436.setTop (mkF m 33 #[.val (.ref r), .val (.ref a2)] [(.ref r)])) _
        refine st437 _ ?_
        show Steps p.tables e below (T437.setTop (mkF m 36 #[.val (.ref r), .val (.ref a2)] [(.ref al)])) _
        refine XS.aloadN X437.here hx rfl (hb hby d11_36) rfl rfl ?_
        show Steps p.tables e below (T437.setTop (mkF m 37 #[.val (.ref r), .val (.ref a2)] [(.ref a2), (.ref al)])) _
        refine st438.trans ?_
        show Steps p.tables e below (T438.setTop (mkF m 42 #[.val (.ref r), .val (.ref a2)] [(.int (1 : Int32))])) _
        refine XS.pop X438.here hx rfl (hb hby d11_42) rfl rfl ?_
        show Steps p.tables e below (T438.setTop (mkF m 43 #[.val (.ref r), .val (.ref a2)] [])) _
        exact X438.returnOut hx Bd.returns (hb hby d11_43) hr
      · show Qrm11_2 Z r a2 al cb kc dce kd mo k n se h0 n0 _ T438.heap _
        exact ⟨rfl, N439, Hz448, ⟨Od449, Zn447, gr, ga, gc, nra, nrc, nac, f440, f441, f442, f443, f444, Or.inr ⟨ed, ke, (1 : Int32), ⟨Feq, Fsq, ⟨_, Fmq⟩, ⟨_, Veq, hesq⟩, ged, n1, n2, n3, Oq⟩, by decide, by show (1 : Int) ≤ k + 1; omega⟩, _, _, _, f446, (own_s2 hsum)⟩⟩
    · obtain ⟨fs, hr, hrun, hended, hW, hsame⟩ := X436.leave (v := none) (fun _ => rfl)
      refine ⟨_, _, pre0 _ ?_, hrun, hended, _, _, rfl, ?_, ⟨_, rfl⟩, hW, hsame.mono (by decide) (by decide)⟩
      · show Steps p.tables e below (s₁.setTop (mkF m 0 #[.val (.ref r), .val (.ref a2)] [])) _
        refine XS.aloadN X0.here hx rfl (hb hby d11_0) rfl rfl ?_
        show Steps p.tables e below (s₁.setTop (mkF m 1 #[.val (.ref r), .val (.ref a2)] [(.ref r)])) _
        refine st414 _ ?_
        show Steps p.tables e below (T414.setTop (mkF m 4 #[.val (.ref r), .val (.ref a2)] [(.ref cb)])) _
        refine XS.aloadN X414.here hx rfl (hb hby d11_4) rfl rfl ?_
        show Steps p.tables e below (T414.setTop (mkF m 5 #[.val (.ref r), .val (.ref a2)] [(.ref a2), (.ref cb)])) _
        refine st415.trans ?_
        show Steps p.tables e below (T415.setTop (mkF m 8 #[.val (.ref r), .val (.ref a2)] [(.ref se), (.ref cb)])) _
        refine st417.trans ?_
        show Steps p.tables e below (T417.setTop (mkF m 11 #[.val (.ref r), .val (.ref a2)] [(.int (2 : Int32)), (.ref cb)])) _
        jvm_step X417.here [X417.here.top, hx, (hb hby d11_11), Value.category]
        show Steps p.tables e below (T417.setTop (mkF m 12 #[.val (.ref r), .val (.ref a2)] [(.int (2 : Int32)), (.ref cb), (.int (2 : Int32)), (.ref cb)])) _
        refine X417.laload hx (j := (2 : Int32)) (v := (.long c2)) (by rw [e417]; exact r419.1) (State.isArrayOf_alike hZ.alike r419.2.1) r419.2.2 i419 a419 (g := (mkF m 12 #[.val (.ref r), .val (.ref a2)] [(.int (2 : Int32)), (.ref cb), (.int (2 : Int32)), (.ref cb)])) rfl rfl (hb hby d11_12) _ ?_
        show Steps p.tables e below (T417.setTop (mkF m 13 #[.val (.ref r), .val (.ref a2)] [(.long c2), (.int (2 : Int32)), (.ref cb)])) _
        refine XS.lconst X417.here hx rfl (hb hby d11_13) ?_
        show Steps p.tables e below (T417.setTop (mkF m 14 #[.val (.ref r), .val (.ref a2)] [(.long (1 : Int64)), (.long c2), (.int (2 : Int32)), (.ref cb)])) _
        refine XS.ladd X417.here hx rfl (hb hby d11_14) rfl ?_
        show Steps p.tables e below (T417.setTop (mkF m 15 #[.val (.ref r), .val (.ref a2)] [(.long (c2 + (1 : Int64))), (.int (2 : Int32)), (.ref cb)])) _
        refine st420 _ ?_
        show Steps p.tables e below (T420.setTop (mkF m 16 #[.val (.ref r), .val (.ref a2)] [])) _
        refine XS.aloadN X420.here hx rfl (hb hby d11_16) rfl rfl ?_
        show Steps p.tables e below (T420.setTop (mkF m 17 #[.val (.ref r), .val (.ref a2)] [(.ref r)])) _
        refine st433 _ ?_
        show Steps p.tables e below (T433.setTop (mkF m 20 #[.val (.ref r), .val (.ref a2)] [(.ref al)])) _
        refine st434.trans ?_
        show Steps p.tables e below (T434.setTop (mkF m 25 #[.val (.ref r), .val (.ref a2)] [(.int (0 : Int32))])) _
        refine XS.aloadN X434.here hx rfl (hb hby d11_25) rfl rfl ?_
        show Steps p.tables e below (T434.setTop (mkF m 26 #[.val (.ref r), .val (.ref a2)] [(.ref r), (.int (0 : Int32))])) _
        refine st436 _ ?_
        show Steps p.tables e below (T436.setTop (mkF m 29 #[.val (.ref r), .val (.ref a2)] [(.int mo), (.int (0 : Int32))])) _
        refine XS.icmpYes X436.here hx rfl (pc0 := 29) (pc' := 43) rfl (hb hby d11_29) rfl (flt hm).2.1 (by decide) (by decide) ?_
        show Steps p.tables e below (T436.setTop (mkF m 43 #[.val (.ref r), .val (.ref a2)] [])) _
        exact X436.returnOut hx Bd.returns (hb hby d11_43) hr
      · show Qrm11_2 Z r a2 al cb kc dce kd mo k n se h0 n0 _ T436.heap _
        rw [e436]
        exact ⟨rfl, N435, Hz431, ⟨Od430, Zn429, gr, ga, gc, nra, nrc, nac, f423, f424, f425, f426, f427, Or.inl ⟨Fe0, Fs0, _, Fm0⟩, _, _, _, f422, (own_s2 hsum)⟩⟩
  · obtain ⟨Fe0, Fs0, ⟨mc, Fm0⟩, ⟨es, Ve0, hes⟩, ged, n1, n2, n3, Oe⟩ := hL1
    have Fe0 := Fe0.other W420 (Or.inl nac)
    have Fs0 := Fs0.other W420 (Or.inl nac)
    have Fm0 := Fm0.other W420 (Or.inl nac)
    have Ve0 := Ve0.other W420 (Ne.symm n3)
    obtain ⟨T450, X450, e450, st450⟩ := getF X420 hx hZ hown (host := "") (Or.inl (hw _ (List.mem_of_getElem? (i := 33) rfl))) Via.refl e420 f424 (g := (mkF m 17 #[.val (.ref r), .val (.ref a2)] [(.ref r)])) rfl rfl (hb hby d11_17)
    obtain ⟨cq451, kq451, q451a, q451b, q451c⟩ := isOf hZ e450 f427
    obtain ⟨_, _, ⟨T451, L451, k451, n451⟩, -, X451, ⟨Lc451, hQ451, l451, y451, z451⟩, st451⟩ := X450.interfaceBack hx (xi := (⟨"java/util/List", "size", "()I"⟩ : MethodName)) (y := (⟨"java/util/ArrayList", "size", "()I"⟩ : MethodName)) hown (mvT hZ (hw _ (List.mem_of_getElem? (i := 118) rfl))) (mvT hZ (hw _ (List.mem_of_getElem? (i := 119) rfl))) (mvT hZ (hw _ (List.mem_of_getElem? (i := 120) rfl))) (mvT hZ (hw _ (List.mem_of_getElem? (i := 121) rfl))) (mvT hZ (hw _ (List.mem_of_getElem? (i := 122) rfl))) (mvT hZ (hw _ (List.mem_of_getElem? (i := 123) rfl))) (mvT hZ (hw _ (List.mem_of_getElem? (i := 124) rfl))) (mvT hZ (hw _ (List.mem_of_getElem? (i := 125) rfl))) (by decide) (backOf (W := 0) (rm14 l Z a0 hw [] al sz h420 n0 Zn429 Fs0) hZ (hw _ (List.mem_of_getElem? (i := 126) rfl)) (hw _ (List.mem_of_getElem? (i := 11) rfl)) (by decide) (by decide)) q451a q451b q451c (g := (mkF m 20 #[.val (.ref r), .val (.ref a2)] [(.ref al)])) rfl (by rw [hml]; rfl) (Steps.refl _) (argsL := []) (rest := []) (lenOf pd___I rfl) rfl (by show 2 * 0 + _ ≤ _; exact Nat.le_of_eq rfl) (hb hby d11_20) (fun _ _ => ⟨rfl, e450, (by decide : 0 + 0 ≤ _), (by decide : 0 + 0 ≤ _)⟩)
    dsimp only [Pt.U, Pt.locs, Pt.cells, Pt.slots] at X451 l451 y451 z451 st451 hQ451
    subst l451 y451 z451
    obtain ⟨rfl, N451q, e451⟩ := hQ451
    have N452 := Fr.app N432 N451q
    obtain ⟨T453, X453, e453, st453⟩ := getF X451 hx hZ hown (host := "") (Or.inl (hw _ (List.mem_of_getElem? (i := 57) rfl))) Via.refl e451 f426 (g := (mkF m 26 #[.val (.ref r), .val (.ref a2)] [(.ref r), (.int sz)])) rfl rfl (hb hby d11_26)
    by_cases hm : sz < mo
    · obtain ⟨T454, X454, e454, st454⟩ := getF X453 hx hZ hown (host := "") (Or.inl (hw _ (List.mem_of_getElem? (i := 33) rfl))) Via.refl e453 f424 (g := (mkF m 33 #[.val (.ref r), .val (.ref a2)] [(.ref r)])) rfl rfl (hb hby d11_33)
      obtain ⟨cq455, kq455, q455a, q455b, q455c⟩ := isOf hZ e454 f427
      obtain ⟨_, _, ⟨T455, L455, k455, n455⟩, -, X455, ⟨Lc455, hQ455, l455, y455, z455⟩, st455⟩ := X454.interfaceBack hx (xi := (⟨"java/util/List", "add", "(Ljava/lang/Object;)Z"⟩ : MethodName)) (y := (⟨"java/util/ArrayList", "add", "(Ljava/lang/Object;)Z"⟩ : MethodName)) hown (mvT hZ (hw _ (List.mem_of_getElem? (i := 138) rfl))) (mvT hZ (hw _ (List.mem_of_getElem? (i := 139) rfl))) (mvT hZ (hw _ (List.mem_of_getElem? (i := 140) rfl))) (mvT hZ (hw _ (List.mem_of_getElem? (i := 141) rfl))) (mvT hZ (hw _ (List.mem_of_getElem? (i := 142) rfl))) (mvT hZ (hw _ (List.mem_of_getElem? (i := 143) rfl))) (mvT hZ (hw _ (List.mem_of_getElem? (i := 144) rfl))) (mvT hZ (hw _ (List.mem_of_getElem? (i := 125) rfl))) (by decide) (backOf (W := 0) (rm16b l Z a0 hw [] al a2 ed ke mc es sz h420 n0 Zn429 f427 Fm0 Fe0 Fs0 ga Ve0 hes Oe ged n2 ⟨hz1, Int.le_trans hz2 hk3.2⟩ f428) hZ (hw _ (List.mem_of_getElem? (i := 145) rfl)) (hw _ (List.mem_of_getElem? (i := 11) rfl)) (by decide) (by decide)) q455a q455b q455c (g := (mkF m 37 #[.val (.ref r), .val (.ref a2)] [(.ref a2), (.ref al)])) rfl (by rw [hml]; rfl) (Steps.refl _) (argsL := [(.ref a2)]) (rest := []) (lenOf pd__Ljava_lang_Object__Z rfl) rfl (by show 2 * 0 + _ ≤ _; exact Nat.le_of_eq rfl) (hb hby d11_37) (fun _ _ => ⟨rfl, e454, (by decide : 0 + 0 ≤ _), (by decide : 0 + 0 ≤ _)⟩)
      dsimp only [Pt.U, Pt.locs, Pt.cells, Pt.slots] at X455 l455 y455 z455 st455 hQ455
      subst l455 y455 z455
      obtain ⟨rfl, N455q, Kq, Feq, Fsq, Fmq, Veq⟩ := hQ455
      have N456 := Fr.app N452 N455q
      have f457 := f423.keep Kq
      have f458 := f424.keep Kq (ninS nra (ninS n1 nin0))
      have f459 := f425.keep Kq (ninS nra (ninS n1 nin0))
      have f460 := f426.keep Kq (ninS nra (ninS n1 nin0))
      have f461 := f427.keep Kq
      have f462 := f428.keep Kq
      have f463 := f422.keep Kq (ninS (Ne.symm nac) (ninS n3 nin0))
      have Zn464 := Nat.le_trans Zn429 Kq.1
      have Hz465 := Nat.le_trans Hz431 Kq.1
      have Od466 := Od430.keep Kq (allS ga (allS ged all0))
      obtain ⟨fs, hr, hrun, hended, hW, hsame⟩ := X455.leave (v := none) (fun _ => rfl)
      refine ⟨_, _, pre0 _ ?_, hrun, hended, _, _, rfl, ?_, ⟨_, rfl⟩, hW, hsame.mono (by decide) (by decide)⟩
      · show Steps p.tables e below (s₁.setTop (mkF m 0 #[.val (.ref r), .val (.ref a2)] [])) _
        refine XS.aloadN X0.here hx rfl (hb hby d11_0) rfl rfl ?_
        show Steps p.tables e below (s₁.setTop (mkF m 1 #[.val (.ref r), .val (.ref a2)] [(.ref r)])) _
        refine st414 _ ?_
        show Steps p.tables e below (T414.setTop (mkF m 4 #[.val (.ref r), .val (.ref a2)] [(.ref cb)])) _
        refine XS.aloadN X414.here hx rfl (hb hby d11_4) rfl rfl ?_
        show Steps p.tables e below (T414.setTop (mkF m 5 #[.val (.ref r), .val (.ref a2)] [(.ref a2), (.ref cb)])) _
        refine st415.trans ?_
        show Steps p.tables e below (T415.setTop (mkF m 8 #[.val (.ref r), .val (.ref a2)] [(.ref se), (.ref cb)])) _
        refine st417.trans ?_
        show Steps p.tables e below (T417.setTop (mkF m 11 #[.val (.ref r), .val (.ref a2)] [(.int (2 : Int32)), (.ref cb)])) _
        jvm_step X417.here [X417.here.top, hx, (hb hby d11_11), Value.category]
        show Steps p.tables e below (T417.setTop (mkF m 12 #[.val (.ref r), .val (.ref a2)] [(.int (2 : Int32)), (.ref cb), (.int (2 : Int32)), (.ref cb)])) _
        refine X417.laload hx (j := (2 : Int32)) (v := (.long c2)) (by rw [e417]; exact r419.1) (State.isArrayOf_alike hZ.alike r419.2.1) r419.2.2 i419 a419 (g := (mkF m 12 #[.val (.ref r), .val (.ref a2)] [(.int (2 : Int32)), (.ref cb), (.int (2 : Int32)), (.ref cb)])) rfl rfl (hb hby d11_12) _ ?_
        show Steps p.tables e below (T417.setTop (mkF m 13 #[.val (.ref r), .val (.ref a2)] [(.long c2), (.int (2 : Int32)), (.ref cb)])) _
        refine XS.lconst X417.here hx rfl (hb hby d11_13) ?_
        show Steps p.tables e below (T417.setTop (mkF m 14 #[.val (.ref r), .val (.ref a2)] [(.long (1 : Int64)), (.long c2), (.int (2 : Int32)), (.ref cb)])) _
        refine XS.ladd X417.here hx rfl (hb hby d11_14) rfl ?_
        show Steps p.tables e below (T417.setTop (mkF m 15 #[.val (.ref r), .val (.ref a2)] [(.long (c2 + (1 : Int64))), (.int (2 : Int32)), (.ref cb)])) _
        refine st420 _ ?_
        show Steps p.tables e below (T420.setTop (mkF m 16 #[.val (.ref r), .val (.ref a2)] [])) _
        refine XS.aloadN X420.here hx rfl (hb hby d11_16) rfl rfl ?_
        show Steps p.tables e below (T420.setTop (mkF m 17 #[.val (.ref r), .val (.ref a2)] [(.ref r)])) _
        refine st450 _ ?_
        show Steps p.tables e below (T450.setTop (mkF m 20 #[.val (.ref r), .val (.ref a2)] [(.ref al)])) _
        refine st451.trans ?_
        show Steps p.tables e below (T451.setTop (mkF m 25 #[.val (.ref r), .val (.ref a2)] [(.int sz)])) _
        refine XS.aloadN X451.here hx rfl (hb hby d11_25) rfl rfl ?_
        show Steps p.tables e below (T451.setTop (mkF m 26 #[.val (.ref r), .val (.ref a2)] [(.ref r), (.int sz)])) _
        refine st453 _ ?_
        show Steps p.tables e below (T453.setTop (mkF m 29 #[.val (.ref r), .val (.ref a2)] [(.int mo), (.int sz)])) _
        refine XS.icmpNo X453.here hx rfl (hb hby d11_29) rfl (tlt hm).2.1 ?_
        show Steps p.tables e below (T453.setTop (mkF m 32 #[.val (.ref r), .val (.ref a2)] [])) _
        refine XS.aloadN X453.here hx rfl (hb hby d11_32) rfl rfl ?_
        show Steps p.tables e below (T453.setTop (mkF m 33 #[.val (.ref r), .val (.ref a2)] [(.ref r)])) _
        refine st454 _ ?_
        show Steps p.tables e below (T454.setTop (mkF m 36 #[.val (.ref r), .val (.ref a2)] [(.ref al)])) _
        refine XS.aloadN X454.here hx rfl (hb hby d11_36) rfl rfl ?_
        show Steps p.tables e below (T454.setTop (mkF m 37 #[.val (.ref r), .val (.ref a2)] [(.ref a2), (.ref al)])) _
        refine st455.trans ?_
        show Steps p.tables e below (T455.setTop (mkF m 42 #[.val (.ref r), .val (.ref a2)] [(.int (1 : Int32))])) _
        refine XS.pop X455.here hx rfl (hb hby d11_42) rfl rfl ?_
        show Steps p.tables e below (T455.setTop (mkF m 43 #[.val (.ref r), .val (.ref a2)] [])) _
        exact X455.returnOut hx Bd.returns (hb hby d11_43) hr
      · show Qrm11_2 Z r a2 al cb kc dce kd mo k n se h0 n0 _ T455.heap _
        exact ⟨rfl, N456, Hz465, ⟨Od466, Zn464, gr, ga, gc, nra, nrc, nac, f457, f458, f459, f460, f461, Or.inr ⟨ed, ke, _, ⟨Feq, Fsq, Fmq, Veq, ged, n1, n2, n3, Oe⟩, own_up hz1 hz2 hk3.2⟩, _, _, _, f463, (own_s2 hsum)⟩⟩
    · obtain ⟨fs, hr, hrun, hended, hW, hsame⟩ := X453.leave (v := none) (fun _ => rfl)
      refine ⟨_, _, pre0 _ ?_, hrun, hended, _, _, rfl, ?_, ⟨_, rfl⟩, hW, hsame.mono (by decide) (by decide)⟩
      · show Steps p.tables e below (s₁.setTop (mkF m 0 #[.val (.ref r), .val (.ref a2)] [])) _
        refine XS.aloadN X0.here hx rfl (hb hby d11_0) rfl rfl ?_
        show Steps p.tables e below (s₁.setTop (mkF m 1 #[.val (.ref r), .val (.ref a2)] [(.ref r)])) _
        refine st414 _ ?_
        show Steps p.tables e below (T414.setTop (mkF m 4 #[.val (.ref r), .val (.ref a2)] [(.ref cb)])) _
        refine XS.aloadN X414.here hx rfl (hb hby d11_4) rfl rfl ?_
        show Steps p.tables e below (T414.setTop (mkF m 5 #[.val (.ref r), .val (.ref a2)] [(.ref a2), (.ref cb)])) _
        refine st415.trans ?_
        show Steps p.tables e below (T415.setTop (mkF m 8 #[.val (.ref r), .val (.ref a2)] [(.ref se), (.ref cb)])) _
        refine st417.trans ?_
        show Steps p.tables e below (T417.setTop (mkF m 11 #[.val (.ref r), .val (.ref a2)] [(.int (2 : Int32)), (.ref cb)])) _
        jvm_step X417.here [X417.here.top, hx, (hb hby d11_11), Value.category]
        show Steps p.tables e below (T417.setTop (mkF m 12 #[.val (.ref r), .val (.ref a2)] [(.int (2 : Int32)), (.ref cb), (.int (2 : Int32)), (.ref cb)])) _
        refine X417.laload hx (j := (2 : Int32)) (v := (.long c2)) (by rw [e417]; exact r419.1) (State.isArrayOf_alike hZ.alike r419.2.1) r419.2.2 i419 a419 (g := (mkF m 12 #[.val (.ref r), .val (.ref a2)] [(.int (2 : Int32)), (.ref cb), (.int (2 : Int32)), (.ref cb)])) rfl rfl (hb hby d11_12) _ ?_
        show Steps p.tables e below (T417.setTop (mkF m 13 #[.val (.ref r), .val (.ref a2)] [(.long c2), (.int (2 : Int32)), (.ref cb)])) _
        refine XS.lconst X417.here hx rfl (hb hby d11_13) ?_
        show Steps p.tables e below (T417.setTop (mkF m 14 #[.val (.ref r), .val (.ref a2)] [(.long (1 : Int64)), (.long c2), (.int (2 : Int32)), (.ref cb)])) _
        refine XS.ladd X417.here hx rfl (hb hby d11_14) rfl ?_
        show Steps p.tables e below (T417.setTop (mkF m 15 #[.val (.ref r), .val (.ref a2)] [(.long (c2 + (1 : Int64))), (.int (2 : Int32)), (.ref cb)])) _
        refine st420 _ ?_
        show Steps p.tables e below (T420.setTop (mkF m 16 #[.val (.ref r), .val (.ref a2)] [])) _
        refine XS.aloadN X420.here hx rfl (hb hby d11_16) rfl rfl ?_
        show Steps p.tables e below (T420.setTop (mkF m 17 #[.val (.ref r), .val (.ref a2)] [(.ref r)])) _
        refine st450 _ ?_
        show Steps p.tables e below (T450.setTop (mkF m 20 #[.val (.ref r), .val (.ref a2)] [(.ref al)])) _
        refine st451.trans ?_
        show Steps p.tables e below (T451.setTop (mkF m 25 #[.val (.ref r), .val (.ref a2)] [(.int sz)])) _
        refine XS.aloadN X451.here hx rfl (hb hby d11_25) rfl rfl ?_
        show Steps p.tables e below (T451.setTop (mkF m 26 #[.val (.ref r), .val (.ref a2)] [(.ref r), (.int sz)])) _
        refine st453 _ ?_
        show Steps p.tables e below (T453.setTop (mkF m 29 #[.val (.ref r), .val (.ref a2)] [(.int mo), (.int sz)])) _
        refine XS.icmpYes X453.here hx rfl (pc0 := 29) (pc' := 43) rfl (hb hby d11_29) rfl (flt hm).2.1 (by decide) (by decide) ?_
        show Steps p.tables e below (T453.setTop (mkF m 43 #[.val (.ref r), .val (.ref a2)] [])) _
        exact X453.returnOut hx Bd.returns (hb hby d11_43) hr
      · show Qrm11_2 Z r a2 al cb kc dce kd mo k n se h0 n0 _ T453.heap _
        rw [e453]
        exact ⟨rfl, N452, Hz431, ⟨Od430, Zn429, gr, ga, gc, nra, nrc, nac, f423, f424, f425, f426, f427, Or.inr ⟨ed, ke, sz, ⟨Fe0, Fs0, ⟨_, Fm0⟩, ⟨_, Ve0, hes⟩, ged, n1, n2, n3, Oe⟩, hz1, by omega⟩, _, _, _, f422, (own_s2 hsum)⟩⟩
theorem own_LS_ext {Z : State} {n0 : Nat} {h h' : Heap} {r al cb dce : Addr} {k : Int} (E : Ext h h') (L : own_L0 Z h al dce ∨ ∃ (ed : Addr) (ke : ClassId) (sz : Int32), own_L1 Z n0 h r al cb ed ke sz ∧ 0 < sz.toInt ∧ sz.toInt ≤ k) : own_L0 Z h' al dce ∨ ∃ (ed : Addr) (ke : ClassId) (sz : Int32), own_L1 Z n0 h' r al cb ed ke sz ∧ 0 < sz.toInt ∧ sz.toInt ≤ k := by
  rcases L with ⟨a, b, mc, c⟩ | ⟨ed, ke, sz, ⟨a, b, ⟨mc, c⟩, ⟨es, d, q⟩, r⟩, z⟩
  · exact Or.inl ⟨a.ext E, b.ext E, mc, c.ext E⟩
  · exact Or.inr ⟨ed, ke, sz, ⟨a.ext E, b.ext E, ⟨mc, c.ext E⟩, ⟨es, d.ext E, q⟩, r⟩, z⟩
theorem own_W_ext {Z : State} {n0 : Nat} {h h' : Heap} {r al cb dce : Addr} {kc : ClassId} {mo : Int32} {k : Int} {n : Int64} (W : own_W Z n0 h r al cb kc dce mo k n) (E : Ext h h') : own_W Z n0 h' r al cb kc dce mo k n := by
  obtain ⟨Xo, Zo, gr, ga, gc, nra, nrc, nac, Er, Ff, Fc, Fo, Ea, hLS, c0, c1, c2, Vc, hsum⟩ := W
  exact ⟨Xo.ext E, Nat.le_trans Zo E.1, gr, ga, gc, nra, nrc, nac, Er.ext E, Ff.ext E, Fc.ext E, Fo.ext E, Ea.ext E, own_LS_ext E hLS, c0, c1, c2, Vc.ext E, hsum⟩
theorem own_W_keep {Z : State} {n0 : Nat} {h h' : Heap} {r al cb dce : Addr} {kc : ClassId} {mo : Int32} {k : Int} {n : Int64} (W : own_W Z n0 h r al cb kc dce mo k n) (K : Keep h h' []) : own_W Z n0 h' r al cb kc dce mo k n := by
  obtain ⟨Xo, Zo, gr, ga, gc, nra, nrc, nac, Er, Ff, Fc, Fo, Ea, hLS, c0, c1, c2, Vc, hsum⟩ := W
  refine ⟨Xo.keep K all0, Nat.le_trans Zo K.1, gr, ga, gc, nra, nrc, nac, Er.keep K, Ff.keep K nin0, Fc.keep K nin0, Fo.keep K nin0, Ea.keep K, ?_, c0, c1, c2, Vc.keep K nin0, hsum⟩
  rcases hLS with ⟨a, b, mc, c⟩ | ⟨ed, ke, sz, ⟨a, b, ⟨mc, c⟩, ⟨es, d, q⟩, r⟩, z⟩
  · exact Or.inl ⟨a.keep K nin0, b.keep K nin0, mc, c.keep K nin0⟩
  · exact Or.inr ⟨ed, ke, sz, ⟨a.keep K nin0, b.keep K nin0, ⟨mc, c.keep K nin0⟩, ⟨es, d.keep K nin0, q⟩, r⟩, z⟩
theorem d15_0 : decode prog_74_method_4_code 0 = .ok (.aload_n 0, 1) := by decide +kernel
theorem d15_1 : decode prog_74_method_4_code 1 = .ok (.new 36, 3) := by decide +kernel
theorem d15_4 : decode prog_74_method_4_code 4 = .ok (.dup, 1) := by decide +kernel
theorem d15_5 : decode prog_74_method_4_code 5 = .ok (.getstatic 38, 3) := by decide +kernel
theorem d15_8 : decode prog_74_method_4_code 8 = .ok (.aload_n 1, 1) := by decide +kernel
theorem d15_9 : decode prog_74_method_4_code 9 = .ok (.aload_n 2, 1) := by decide +kernel
theorem d15_10 : decode prog_74_method_4_code 10 = .ok (.aload_n 3, 1) := by decide +kernel
theorem d15_11 : decode prog_74_method_4_code 11 = .ok (.invokespecial 42, 3) := by decide +kernel
theorem pd__Lcom_example_tenon_tenon_Finding_Severity_Ljava_lang_String_Ljava_lang_String_Ljava_lang_String__V : parseMethodDescriptor "(Lcom/example/tenon/tenon/Finding$Severity;Ljava/lang/String;Ljava/lang/String;Ljava/lang/String;)V" = some ⟨[(.object "com/example/tenon/tenon/Finding$Severity"), (.object "java/lang/String"), (.object "java/lang/String"), (.object "java/lang/String")], none⟩ := by decide +kernel
theorem d15_14 : decode prog_74_method_4_code 14 = .ok (.invokevirtual 45, 3) := by decide +kernel
theorem pd__Lcom_example_tenon_tenon_Finding__V : parseMethodDescriptor "(Lcom/example/tenon/tenon/Finding;)V" = some ⟨[(.object "com/example/tenon/tenon/Finding")], none⟩ := by decide +kernel
theorem d15_17 : decode prog_74_method_4_code 17 = .ok (.return_, 1) := by decide +kernel
theorem ef_rm15 (m : MethodId) (r : Addr) (a2 : Addr) (a3 : Addr) (a4 : Addr) : entryFrame m #[(.ref r), (.ref a2), (.ref a3), (.ref a4)] 4 = mkF m 0 #[.val (.ref r), .val (.ref a2), .val (.ref a3), .val (.ref a4)] [] := by first | (simp [entryFrame, mkF, argsToLocals, Value.category]; done) | rfl
def Qrm15 (Z : State) (r : Addr) (a2 : Addr) (a3 : Addr) (a4 : Addr) (al : Addr) (cb : Addr) (kc : ClassId) (dce : Addr) (kd : ClassId) (mo : Int32) (k : Int) (n : Int64) (se : Addr) (h0 : Heap) (n0 : Nat) (v : Option Value) (h : Heap) (L : List Loc) : Prop := v = none ∧ Fr n0 L ∧ h0.size ≤ h.size ∧ own_W Z n0 h r al cb kc dce mo (k + 1) (n + 1)
set_option maxRecDepth 65536 in
set_option maxHeartbeats 40000000 in
theorem rm15 (l : Launch) (Z : State) (a0 : Array Value) (hw : ∀ d ∈ tables_1, d.before a0 Z = true) (ws : List Jvm.Cond) (r : Addr) (a2 : Addr) (a3 : Addr) (a4 : Addr) (al : Addr) (cb : Addr) (kc : ClassId) (dce : Addr) (kd : ClassId) (mo : Int32) (k : Int) (n : Int64) (se : Addr) (h0 : Heap) (n0 : Nat) (Z0 : n0 ≤ h0.size) (W1 : own_W Z n0 h0 r al cb kc dce mo k n) (SD : Sta Z Z.heap "java/util/ArrayList" "DEFAULTCAPACITY_EMPTY_ELEMENTDATA" "[Ljava/lang/Object;" (.ref dce)) (AD : Arv Z Z.heap dce kd (.object "java/lang/Object") (0 : Int32) [] .null) (hk3 : 0 ≤ k ∧ k ≤ 3) (Ss : Sta Z Z.heap "com/example/tenon/tenon/Finding$Severity" "ERROR" "Lcom/example/tenon/tenon/Finding$Severity;" (.ref se)) (Es : Exa Z Z.heap se "com/example/tenon/tenon/Finding$Severity") (Fd : Fld Z Z.heap se "java/lang/Enum" "ordinal" "I" (.int (0 : Int32))) :
    MetFree l (⟨"com/example/tenon/tenon/Report", "error", "(Ljava/lang/String;Ljava/lang/String;Ljava/lang/String;)V"⟩ : MethodName) (head1 (Jvm.Cond.code (⟨"com/example/tenon/tenon/Report", "error", "(Ljava/lang/String;Ljava/lang/String;Ljava/lang/String;)V"⟩ : MethodName) prog_74_method_4_code 4 none :: ws) ({ frames := 6, cells := 2, slots := 14, locals := 82 } : Room)) (fun a U => a = #[(.ref r), (.ref a2), (.ref a3), (.ref a4)] ∧ Z.Warmed39 U.vm ∧ U.heap = h0) (fun _ _ _ _ _ => True) (fun _ U o U' => ∃ v L, o = .returned v ∧ Qrm15 Z r a2 a3 a4 al cb kc dce kd mo k n se h0 n0 v U'.heap L ∧ FrameEnd U o U' L ({ frames := 6, cells := 2, slots := 14, locals := 82 } : Room).cells ({ frames := 6, cells := 2, slots := 14, locals := 82 } : Room).slots) := by
  refine MetFree.of_bodySF (plainFor_of_name pn_com_example_tenon_tenon_Report) hisR ?_
  intro p e s m args below meth c s₁ Bd hml0 hP hK
  obtain ⟨rfl, hZ, hh⟩ := hP
  have hx := Bd.exec
  have hby := Bd.bytes
  have hml : c.maxLocals = 4 := hml0
  have hown : s.vm.findClass "com/example/tenon/tenon/Report" = some m.cls := findClass_of_methodNamed Bd.named
  have hnm := (name_of_methodNamed Bd.named Bd.method).1
  have X0 : Stand p l e ({ frames := 6, cells := 2, slots := 14, locals := 82 } : Room) s m #[(.ref r), (.ref a2), (.ref a3), (.ref a4)] below meth c s₁ [] 0 0 := Stand.of_body Bd
  have e0 : s₁.heap = h0 := by rw [← hh, Bd.state]; rfl
  have N0 := Fr.nil n0
  have pre0 : ∀ t, Steps p.tables e below (s₁.setTop (mkF m 0 #[.val (.ref r), .val (.ref a2), .val (.ref a3), .val (.ref a4)] [])) t → Steps p.tables e below (s₁.setTop (entryFrame m #[(.ref r), (.ref a2), (.ref a3), (.ref a4)] 4)) t := fun t k => castTop (ef_rm15 m r a2 a3 a4) k
  obtain ⟨Xo, Zo, gr, -, -, -, -, -, Er, -⟩ := id W1
  have K0 := Keep.refl h0 []
  obtain ⟨T467, h467, X467, e467, E467, A467, D467, U467, st467⟩ := newO X0 hx hZ hown (hw _ (List.mem_of_getElem? (i := 134) rfl)) (hw _ (List.mem_of_getElem? (i := 69) rfl)) (hw _ (List.mem_of_getElem? (i := 70) rfl)) e0 (g := (mkF m 1 #[.val (.ref r), .val (.ref a2), .val (.ref a3), .val (.ref a4)] [(.ref r)])) rfl (hb hby d15_1) (by decide) (by decide)
  obtain ⟨b467, g467⟩ : ∃ z, z = h0.size := ⟨_, rfl⟩
  rw [← g467] at A467 D467 st467
  have g468 : n0 ≤ b467 := Nat.le_trans Zo (Nat.le_of_eq g467.symm)
  have sz469 : h0.size ≤ b467 := Nat.le_trans K0.1 (Nat.le_of_eq g467.symm)
  have ne470 : r ≠ b467 := Nat.ne_of_lt (Nat.lt_of_lt_of_le Er.lt (Nat.le_of_eq g467.symm))
  have f471 := Er.ext E467
  have Zn472 := Nat.le_trans Zo E467.1
  have Od473 := Xo.ext E467
  have K474 := K0.ext E467
  have f475 : Fld Z h467 b467 "com/example/tenon/tenon/Finding" "severity" "Lcom/example/tenon/tenon/Finding$Severity;" .null := D467 (Or.inr (hw _ (List.mem_of_getElem? (i := 92) rfl))) (ty := (.object "com/example/tenon/tenon/Finding$Severity")) (by decide)
  have f476 : Fld Z h467 b467 "com/example/tenon/tenon/Finding" "rule" "Ljava/lang/String;" .null := D467 (Or.inr (hw _ (List.mem_of_getElem? (i := 94) rfl))) (ty := (.object "java/lang/String")) (by decide)
  have f477 : Fld Z h467 b467 "com/example/tenon/tenon/Finding" "subject" "Ljava/lang/String;" .null := D467 (Or.inr (hw _ (List.mem_of_getElem? (i := 96) rfl))) (ty := (.object "java/lang/String")) (by decide)
  have f478 : Fld Z h467 b467 "com/example/tenon/tenon/Finding" "message" "Ljava/lang/String;" .null := D467 (Or.inr (hw _ (List.mem_of_getElem? (i := 98) rfl))) (ty := (.object "java/lang/String")) (by decide)
  obtain ⟨T479, X479, e479, st479⟩ := getS2 X467 hx hZ hown (host := "") (Or.inl (hw _ (List.mem_of_getElem? (i := 135) rfl))) Via.refl e467 (Ss.ext Od473.2) (g := (mkF m 5 #[.val (.ref r), .val (.ref a2), .val (.ref a3), .val (.ref a4)] [(.ref b467), (.ref b467), (.ref r)])) rfl (hb hby d15_5)
  obtain ⟨_, _, ⟨T480, L480, k480, n480⟩, -, X480, ⟨Lc480, hQ480, l480, y480, z480⟩, st480⟩ := X479.specialBack hx (y := (⟨"com/example/tenon/tenon/Finding", "<init>", "(Lcom/example/tenon/tenon/Finding$Severity;Ljava/lang/String;Ljava/lang/String;Ljava/lang/String;)V"⟩ : MethodName)) rfl hown (mvT hZ (hw _ (List.mem_of_getElem? (i := 136) rfl))) (mvT hZ (hw _ (List.mem_of_getElem? (i := 83) rfl))) (mvT hZ (hw _ (List.mem_of_getElem? (i := 84) rfl))) (by decide) (backOf (W := 2) (rm9 l Z a0 hw [] b467 se a2 a3 a4  h467 n0 Zn472 A467 f475 f476 f477 f478 g468) hZ (hw _ (List.mem_of_getElem? (i := 84) rfl)) (hw _ (List.mem_of_getElem? (i := 70) rfl)) (by decide) (by decide)) (g := (mkF m 11 #[.val (.ref r), .val (.ref a2), .val (.ref a3), .val (.ref a4)] [(.ref a4), (.ref a3), (.ref a2), (.ref se), (.ref b467), (.ref b467), (.ref r)])) rfl (by rw [hml]; rfl) (Steps.refl _) (a := b467) (argsL := [(.ref se), (.ref a2), (.ref a3), (.ref a4)]) (rest := [(.ref b467), (.ref r)]) (lenOf pd__Lcom_example_tenon_tenon_Finding_Severity_Ljava_lang_String_Ljava_lang_String_Ljava_lang_String__V rfl) rfl (by show 2 * 0 + _ ≤ _; exact Nat.le_of_eq rfl) (hb hby d15_11) (fun _ _ => ⟨rfl, e479, (by decide : 1 + 0 ≤ _), (by decide : 4 + 0 ≤ _)⟩)
  dsimp only [Pt.U, Pt.locs, Pt.cells, Pt.slots] at X480 l480 y480 z480 st480 hQ480
  subst l480 y480 z480
  obtain ⟨rfl, N480q, Kf480, Fv480⟩ := hQ480
  have N481 := Fr.app N0 N480q
  have f482 := f471.keep Kf480
  have f483 := A467.keep Kf480
  have Zn484 := Nat.le_trans Zn472 Kf480.1
  have Od485 := Od473.keep Kf480 (allS g468 all0)
  have K486 := K474.trans Kf480 (allS (Or.inr sz469) all0)
  have W2 := own_W_keep W1 K486
  obtain ⟨cq487, kq487, q487a, q487b, q487c⟩ := isOf hZ rfl f482
  obtain ⟨_, _, ⟨T487, L487, k487, n487⟩, -, X487, ⟨Lc487, hQ487, l487, y487, z487⟩, st487⟩ := X480.virtualBack hx (y := (⟨"com/example/tenon/tenon/Report", "add", "(Lcom/example/tenon/tenon/Finding;)V"⟩ : MethodName)) (z := (⟨"com/example/tenon/tenon/Report", "add", "(Lcom/example/tenon/tenon/Finding;)V"⟩ : MethodName)) hown (mvT hZ (hw _ (List.mem_of_getElem? (i := 137) rfl))) (mvT hZ (hw _ (List.mem_of_getElem? (i := 100) rfl))) (notFace_of_selects (args := #[]) (mvT hZ (hw _ (List.mem_of_getElem? (i := 102) rfl)))) (mvT hZ (hw _ (List.mem_of_getElem? (i := 102) rfl))) (mvT hZ (hw _ (List.mem_of_getElem? (i := 101) rfl))) (by decide) (backOf (W := 0) (rm11_0 l Z a0 hw [] r b467 al cb kc dce kd mo k n se T480.heap n0 Zn484 W2 SD AD hk3 f483 Fv480 Es Fd) hZ (hw _ (List.mem_of_getElem? (i := 103) rfl)) (hw _ (List.mem_of_getElem? (i := 2) rfl)) (by decide) (by decide)) q487a q487c (g := (mkF m 14 #[.val (.ref r), .val (.ref a2), .val (.ref a3), .val (.ref a4)] [(.ref b467), (.ref r)])) rfl (by rw [hml]; rfl) (Steps.refl _) (argsL := [(.ref b467)]) (rest := []) (lenOf pd__Lcom_example_tenon_tenon_Finding__V rfl) rfl (by show 2 * 0 + _ ≤ _; exact Nat.le_of_eq rfl) (hb hby d15_14) (fun _ _ => ⟨rfl, rfl, (by decide : 1 + 1 ≤ _), (by decide : 4 + 10 ≤ _)⟩)
  dsimp only [Pt.U, Pt.locs, Pt.cells, Pt.slots] at X487 l487 y487 z487 st487 hQ487
  subst l487 y487 z487
  obtain ⟨rfl, N487q, hz3, W3⟩ := hQ487
  have N488 := Fr.app N481 N487q
  obtain ⟨fs, hr, hrun, hended, hW, hsame⟩ := X487.leave (v := none) (fun _ => rfl)
  refine ⟨_, _, pre0 _ ?_, hrun, hended, _, _, rfl, ?_, ⟨_, rfl⟩, hW, hsame.mono (by decide) (by decide)⟩
  · show Steps p.tables e below (s₁.setTop (mkF m 0 #[.val (.ref r), .val (.ref a2), .val (.ref a3), .val (.ref a4)] [])) _
    refine XS.aloadN X0.here hx rfl (hb hby d15_0) rfl rfl ?_
    show Steps p.tables e below (s₁.setTop (mkF m 1 #[.val (.ref r), .val (.ref a2), .val (.ref a3), .val (.ref a4)] [(.ref r)])) _
    refine st467 _ ?_
    show Steps p.tables e below (T467.setTop (mkF m 4 #[.val (.ref r), .val (.ref a2), .val (.ref a3), .val (.ref a4)] [(.ref b467), (.ref r)])) _
    refine XS.dup X467.here hx rfl (hb hby d15_4) rfl rfl ?_
    show Steps p.tables e below (T467.setTop (mkF m 5 #[.val (.ref r), .val (.ref a2), .val (.ref a3), .val (.ref a4)] [(.ref b467), (.ref b467), (.ref r)])) _
    refine st479 _ ?_
    show Steps p.tables e below (T479.setTop (mkF m 8 #[.val (.ref r), .val (.ref a2), .val (.ref a3), .val (.ref a4)] [(.ref se), (.ref b467), (.ref b467), (.ref r)])) _
    refine XS.aloadN X479.here hx rfl (hb hby d15_8) rfl rfl ?_
    show Steps p.tables e below (T479.setTop (mkF m 9 #[.val (.ref r), .val (.ref a2), .val (.ref a3), .val (.ref a4)] [(.ref a2), (.ref se), (.ref b467), (.ref b467), (.ref r)])) _
    refine XS.aloadN X479.here hx rfl (hb hby d15_9) rfl rfl ?_
    show Steps p.tables e below (T479.setTop (mkF m 10 #[.val (.ref r), .val (.ref a2), .val (.ref a3), .val (.ref a4)] [(.ref a3), (.ref a2), (.ref se), (.ref b467), (.ref b467), (.ref r)])) _
    refine XS.aloadN X479.here hx rfl (hb hby d15_10) rfl rfl ?_
    show Steps p.tables e below (T479.setTop (mkF m 11 #[.val (.ref r), .val (.ref a2), .val (.ref a3), .val (.ref a4)] [(.ref a4), (.ref a3), (.ref a2), (.ref se), (.ref b467), (.ref b467), (.ref r)])) _
    refine st480.trans ?_
    show Steps p.tables e below (T480.setTop (mkF m 14 #[.val (.ref r), .val (.ref a2), .val (.ref a3), .val (.ref a4)] [(.ref b467), (.ref r)])) _
    refine st487.trans ?_
    show Steps p.tables e below (T487.setTop (mkF m 17 #[.val (.ref r), .val (.ref a2), .val (.ref a3), .val (.ref a4)] [])) _
    exact X487.returnOut hx Bd.returns (hb hby d15_17) hr
  · show Qrm15 Z r a2 a3 a4 al cb kc dce kd mo k n se h0 n0 _ T487.heap _
    exact ⟨rfl, N488, Nat.le_trans K486.1 hz3, W3⟩
theorem d21_0 : decode prog_74_method_5_code 0 = .ok (.aload_n 0, 1) := by decide +kernel
theorem d21_1 : decode prog_74_method_5_code 1 = .ok (.new 36, 3) := by decide +kernel
theorem d21_4 : decode prog_74_method_5_code 4 = .ok (.dup, 1) := by decide +kernel
theorem d21_5 : decode prog_74_method_5_code 5 = .ok (.getstatic 49, 3) := by decide +kernel
theorem d21_8 : decode prog_74_method_5_code 8 = .ok (.aload_n 1, 1) := by decide +kernel
theorem d21_9 : decode prog_74_method_5_code 9 = .ok (.aload_n 2, 1) := by decide +kernel
theorem d21_10 : decode prog_74_method_5_code 10 = .ok (.aload_n 3, 1) := by decide +kernel
theorem d21_11 : decode prog_74_method_5_code 11 = .ok (.invokespecial 42, 3) := by decide +kernel
theorem d21_14 : decode prog_74_method_5_code 14 = .ok (.invokevirtual 45, 3) := by decide +kernel
theorem d21_17 : decode prog_74_method_5_code 17 = .ok (.return_, 1) := by decide +kernel
theorem ef_rm21 (m : MethodId) (r : Addr) (a2 : Addr) (a3 : Addr) (a4 : Addr) : entryFrame m #[(.ref r), (.ref a2), (.ref a3), (.ref a4)] 4 = mkF m 0 #[.val (.ref r), .val (.ref a2), .val (.ref a3), .val (.ref a4)] [] := by first | (simp [entryFrame, mkF, argsToLocals, Value.category]; done) | rfl
def Qrm21 (Z : State) (r : Addr) (a2 : Addr) (a3 : Addr) (a4 : Addr) (al : Addr) (cb : Addr) (kc : ClassId) (dce : Addr) (kd : ClassId) (mo : Int32) (k : Int) (n : Int64) (se : Addr) (h0 : Heap) (n0 : Nat) (v : Option Value) (h : Heap) (L : List Loc) : Prop := v = none ∧ Fr n0 L ∧ h0.size ≤ h.size ∧ own_W Z n0 h r al cb kc dce mo (k + 1) (n + 1)
set_option maxRecDepth 65536 in
set_option maxHeartbeats 40000000 in
theorem rm21 (l : Launch) (Z : State) (a0 : Array Value) (hw : ∀ d ∈ tables_1, d.before a0 Z = true) (ws : List Jvm.Cond) (r : Addr) (a2 : Addr) (a3 : Addr) (a4 : Addr) (al : Addr) (cb : Addr) (kc : ClassId) (dce : Addr) (kd : ClassId) (mo : Int32) (k : Int) (n : Int64) (se : Addr) (h0 : Heap) (n0 : Nat) (Z0 : n0 ≤ h0.size) (W1 : own_W Z n0 h0 r al cb kc dce mo k n) (SD : Sta Z Z.heap "java/util/ArrayList" "DEFAULTCAPACITY_EMPTY_ELEMENTDATA" "[Ljava/lang/Object;" (.ref dce)) (AD : Arv Z Z.heap dce kd (.object "java/lang/Object") (0 : Int32) [] .null) (hk3 : 0 ≤ k ∧ k ≤ 3) (Ss : Sta Z Z.heap "com/example/tenon/tenon/Finding$Severity" "WARNING" "Lcom/example/tenon/tenon/Finding$Severity;" (.ref se)) (Es : Exa Z Z.heap se "com/example/tenon/tenon/Finding$Severity") (Fd : Fld Z Z.heap se "java/lang/Enum" "ordinal" "I" (.int (1 : Int32))) :
    MetFree l (⟨"com/example/tenon/tenon/Report", "warning", "(Ljava/lang/String;Ljava/lang/String;Ljava/lang/String;)V"⟩ : MethodName) (head1 (Jvm.Cond.code (⟨"com/example/tenon/tenon/Report", "warning", "(Ljava/lang/String;Ljava/lang/String;Ljava/lang/String;)V"⟩ : MethodName) prog_74_method_5_code 4 none :: ws) ({ frames := 6, cells := 2, slots := 14, locals := 82 } : Room)) (fun a U => a = #[(.ref r), (.ref a2), (.ref a3), (.ref a4)] ∧ Z.Warmed39 U.vm ∧ U.heap = h0) (fun _ _ _ _ _ => True) (fun _ U o U' => ∃ v L, o = .returned v ∧ Qrm21 Z r a2 a3 a4 al cb kc dce kd mo k n se h0 n0 v U'.heap L ∧ FrameEnd U o U' L ({ frames := 6, cells := 2, slots := 14, locals := 82 } : Room).cells ({ frames := 6, cells := 2, slots := 14, locals := 82 } : Room).slots) := by
  refine MetFree.of_bodySF (plainFor_of_name pn_com_example_tenon_tenon_Report) hisR ?_
  intro p e s m args below meth c s₁ Bd hml0 hP hK
  obtain ⟨rfl, hZ, hh⟩ := hP
  have hx := Bd.exec
  have hby := Bd.bytes
  have hml : c.maxLocals = 4 := hml0
  have hown : s.vm.findClass "com/example/tenon/tenon/Report" = some m.cls := findClass_of_methodNamed Bd.named
  have hnm := (name_of_methodNamed Bd.named Bd.method).1
  have X0 : Stand p l e ({ frames := 6, cells := 2, slots := 14, locals := 82 } : Room) s m #[(.ref r), (.ref a2), (.ref a3), (.ref a4)] below meth c s₁ [] 0 0 := Stand.of_body Bd
  have e0 : s₁.heap = h0 := by rw [← hh, Bd.state]; rfl
  have N0 := Fr.nil n0
  have pre0 : ∀ t, Steps p.tables e below (s₁.setTop (mkF m 0 #[.val (.ref r), .val (.ref a2), .val (.ref a3), .val (.ref a4)] [])) t → Steps p.tables e below (s₁.setTop (entryFrame m #[(.ref r), (.ref a2), (.ref a3), (.ref a4)] 4)) t := fun t k => castTop (ef_rm21 m r a2 a3 a4) k
  obtain ⟨Xo, Zo, gr, -, -, -, -, -, Er, -⟩ := id W1
  have K0 := Keep.refl h0 []
  obtain ⟨T489, h489, X489, e489, E489, A489, D489, U489, st489⟩ := newO X0 hx hZ hown (hw _ (List.mem_of_getElem? (i := 134) rfl)) (hw _ (List.mem_of_getElem? (i := 69) rfl)) (hw _ (List.mem_of_getElem? (i := 70) rfl)) e0 (g := (mkF m 1 #[.val (.ref r), .val (.ref a2), .val (.ref a3), .val (.ref a4)] [(.ref r)])) rfl (hb hby d21_1) (by decide) (by decide)
  obtain ⟨b489, g489⟩ : ∃ z, z = h0.size := ⟨_, rfl⟩
  rw [← g489] at A489 D489 st489
  have g490 : n0 ≤ b489 := Nat.le_trans Zo (Nat.le_of_eq g489.symm)
  have sz491 : h0.size ≤ b489 := Nat.le_trans K0.1 (Nat.le_of_eq g489.symm)
  have ne492 : r ≠ b489 := Nat.ne_of_lt (Nat.lt_of_lt_of_le Er.lt (Nat.le_of_eq g489.symm))
  have f493 := Er.ext E489
  have Zn494 := Nat.le_trans Zo E489.1
  have Od495 := Xo.ext E489
  have K496 := K0.ext E489
  have f497 : Fld Z h489 b489 "com/example/tenon/tenon/Finding" "severity" "Lcom/example/tenon/tenon/Finding$Severity;" .null := D489 (Or.inr (hw _ (List.mem_of_getElem? (i := 92) rfl))) (ty := (.object "com/example/tenon/tenon/Finding$Severity")) (by decide)
  have f498 : Fld Z h489 b489 "com/example/tenon/tenon/Finding" "rule" "Ljava/lang/String;" .null := D489 (Or.inr (hw _ (List.mem_of_getElem? (i := 94) rfl))) (ty := (.object "java/lang/String")) (by decide)
  have f499 : Fld Z h489 b489 "com/example/tenon/tenon/Finding" "subject" "Ljava/lang/String;" .null := D489 (Or.inr (hw _ (List.mem_of_getElem? (i := 96) rfl))) (ty := (.object "java/lang/String")) (by decide)
  have f500 : Fld Z h489 b489 "com/example/tenon/tenon/Finding" "message" "Ljava/lang/String;" .null := D489 (Or.inr (hw _ (List.mem_of_getElem? (i := 98) rfl))) (ty := (.object "java/lang/String")) (by decide)
  obtain ⟨T501, X501, e501, st501⟩ := getS2 X489 hx hZ hown (host := "") (Or.inl (hw _ (List.mem_of_getElem? (i := 175) rfl))) Via.refl e489 (Ss.ext Od495.2) (g := (mkF m 5 #[.val (.ref r), .val (.ref a2), .val (.ref a3), .val (.ref a4)] [(.ref b489), (.ref b489), (.ref r)])) rfl (hb hby d21_5)
  obtain ⟨_, _, ⟨T502, L502, k502, n502⟩, -, X502, ⟨Lc502, hQ502, l502, y502, z502⟩, st502⟩ := X501.specialBack hx (y := (⟨"com/example/tenon/tenon/Finding", "<init>", "(Lcom/example/tenon/tenon/Finding$Severity;Ljava/lang/String;Ljava/lang/String;Ljava/lang/String;)V"⟩ : MethodName)) rfl hown (mvT hZ (hw _ (List.mem_of_getElem? (i := 136) rfl))) (mvT hZ (hw _ (List.mem_of_getElem? (i := 83) rfl))) (mvT hZ (hw _ (List.mem_of_getElem? (i := 84) rfl))) (by decide) (backOf (W := 2) (rm9 l Z a0 hw [] b489 se a2 a3 a4  h489 n0 Zn494 A489 f497 f498 f499 f500 g490) hZ (hw _ (List.mem_of_getElem? (i := 84) rfl)) (hw _ (List.mem_of_getElem? (i := 70) rfl)) (by decide) (by decide)) (g := (mkF m 11 #[.val (.ref r), .val (.ref a2), .val (.ref a3), .val (.ref a4)] [(.ref a4), (.ref a3), (.ref a2), (.ref se), (.ref b489), (.ref b489), (.ref r)])) rfl (by rw [hml]; rfl) (Steps.refl _) (a := b489) (argsL := [(.ref se), (.ref a2), (.ref a3), (.ref a4)]) (rest := [(.ref b489), (.ref r)]) (lenOf pd__Lcom_example_tenon_tenon_Finding_Severity_Ljava_lang_String_Ljava_lang_String_Ljava_lang_String__V rfl) rfl (by show 2 * 0 + _ ≤ _; exact Nat.le_of_eq rfl) (hb hby d21_11) (fun _ _ => ⟨rfl, e501, (by decide : 1 + 0 ≤ _), (by decide : 4 + 0 ≤ _)⟩)
  dsimp only [Pt.U, Pt.locs, Pt.cells, Pt.slots] at X502 l502 y502 z502 st502 hQ502
  subst l502 y502 z502
  obtain ⟨rfl, N502q, Kf502, Fv502⟩ := hQ502
  have N503 := Fr.app N0 N502q
  have f504 := f493.keep Kf502
  have f505 := A489.keep Kf502
  have Zn506 := Nat.le_trans Zn494 Kf502.1
  have Od507 := Od495.keep Kf502 (allS g490 all0)
  have K508 := K496.trans Kf502 (allS (Or.inr sz491) all0)
  have W2 := own_W_keep W1 K508
  obtain ⟨cq509, kq509, q509a, q509b, q509c⟩ := isOf hZ rfl f504
  obtain ⟨_, _, ⟨T509, L509, k509, n509⟩, -, X509, ⟨Lc509, hQ509, l509, y509, z509⟩, st509⟩ := X502.virtualBack hx (y := (⟨"com/example/tenon/tenon/Report", "add", "(Lcom/example/tenon/tenon/Finding;)V"⟩ : MethodName)) (z := (⟨"com/example/tenon/tenon/Report", "add", "(Lcom/example/tenon/tenon/Finding;)V"⟩ : MethodName)) hown (mvT hZ (hw _ (List.mem_of_getElem? (i := 137) rfl))) (mvT hZ (hw _ (List.mem_of_getElem? (i := 100) rfl))) (notFace_of_selects (args := #[]) (mvT hZ (hw _ (List.mem_of_getElem? (i := 102) rfl)))) (mvT hZ (hw _ (List.mem_of_getElem? (i := 102) rfl))) (mvT hZ (hw _ (List.mem_of_getElem? (i := 101) rfl))) (by decide) (backOf (W := 0) (rm11_1 l Z a0 hw [] r b489 al cb kc dce kd mo k n se T502.heap n0 Zn506 W2 SD AD hk3 f505 Fv502 Es Fd) hZ (hw _ (List.mem_of_getElem? (i := 103) rfl)) (hw _ (List.mem_of_getElem? (i := 2) rfl)) (by decide) (by decide)) q509a q509c (g := (mkF m 14 #[.val (.ref r), .val (.ref a2), .val (.ref a3), .val (.ref a4)] [(.ref b489), (.ref r)])) rfl (by rw [hml]; rfl) (Steps.refl _) (argsL := [(.ref b489)]) (rest := []) (lenOf pd__Lcom_example_tenon_tenon_Finding__V rfl) rfl (by show 2 * 0 + _ ≤ _; exact Nat.le_of_eq rfl) (hb hby d21_14) (fun _ _ => ⟨rfl, rfl, (by decide : 1 + 1 ≤ _), (by decide : 4 + 10 ≤ _)⟩)
  dsimp only [Pt.U, Pt.locs, Pt.cells, Pt.slots] at X509 l509 y509 z509 st509 hQ509
  subst l509 y509 z509
  obtain ⟨rfl, N509q, hz3, W3⟩ := hQ509
  have N510 := Fr.app N503 N509q
  obtain ⟨fs, hr, hrun, hended, hW, hsame⟩ := X509.leave (v := none) (fun _ => rfl)
  refine ⟨_, _, pre0 _ ?_, hrun, hended, _, _, rfl, ?_, ⟨_, rfl⟩, hW, hsame.mono (by decide) (by decide)⟩
  · show Steps p.tables e below (s₁.setTop (mkF m 0 #[.val (.ref r), .val (.ref a2), .val (.ref a3), .val (.ref a4)] [])) _
    refine XS.aloadN X0.here hx rfl (hb hby d21_0) rfl rfl ?_
    show Steps p.tables e below (s₁.setTop (mkF m 1 #[.val (.ref r), .val (.ref a2), .val (.ref a3), .val (.ref a4)] [(.ref r)])) _
    refine st489 _ ?_
    show Steps p.tables e below (T489.setTop (mkF m 4 #[.val (.ref r), .val (.ref a2), .val (.ref a3), .val (.ref a4)] [(.ref b489), (.ref r)])) _
    refine XS.dup X489.here hx rfl (hb hby d21_4) rfl rfl ?_
    show Steps p.tables e below (T489.setTop (mkF m 5 #[.val (.ref r), .val (.ref a2), .val (.ref a3), .val (.ref a4)] [(.ref b489), (.ref b489), (.ref r)])) _
    refine st501 _ ?_
    show Steps p.tables e below (T501.setTop (mkF m 8 #[.val (.ref r), .val (.ref a2), .val (.ref a3), .val (.ref a4)] [(.ref se), (.ref b489), (.ref b489), (.ref r)])) _
    refine XS.aloadN X501.here hx rfl (hb hby d21_8) rfl rfl ?_
    show Steps p.tables e below (T501.setTop (mkF m 9 #[.val (.ref r), .val (.ref a2), .val (.ref a3), .val (.ref a4)] [(.ref a2), (.ref se), (.ref b489), (.ref b489), (.ref r)])) _
    refine XS.aloadN X501.here hx rfl (hb hby d21_9) rfl rfl ?_
    show Steps p.tables e below (T501.setTop (mkF m 10 #[.val (.ref r), .val (.ref a2), .val (.ref a3), .val (.ref a4)] [(.ref a3), (.ref a2), (.ref se), (.ref b489), (.ref b489), (.ref r)])) _
    refine XS.aloadN X501.here hx rfl (hb hby d21_10) rfl rfl ?_
    show Steps p.tables e below (T501.setTop (mkF m 11 #[.val (.ref r), .val (.ref a2), .val (.ref a3), .val (.ref a4)] [(.ref a4), (.ref a3), (.ref a2), (.ref se), (.ref b489), (.ref b489), (.ref r)])) _
    refine st502.trans ?_
    show Steps p.tables e below (T502.setTop (mkF m 14 #[.val (.ref r), .val (.ref a2), .val (.ref a3), .val (.ref a4)] [(.ref b489), (.ref r)])) _
    refine st509.trans ?_
    show Steps p.tables e below (T509.setTop (mkF m 17 #[.val (.ref r), .val (.ref a2), .val (.ref a3), .val (.ref a4)] [])) _
    exact X509.returnOut hx Bd.returns (hb hby d21_17) hr
  · show Qrm21 Z r a2 a3 a4 al cb kc dce kd mo k n se h0 n0 _ T509.heap _
    exact ⟨rfl, N510, Nat.le_trans K508.1 hz3, W3⟩
theorem d8_0 : decode method_2_code 0 = .ok (.iload_n 1, 1) := by decide +kernel
theorem d8_1 : decode method_2_code 1 = .ok (.iconst 1, 1) := by decide +kernel
theorem d8_2 : decode method_2_code 2 = .ok (.if_icmp .ne 15, 3) := by decide +kernel
theorem d8_17 : decode method_2_code 17 = .ok (.iload_n 1, 1) := by decide +kernel
theorem d8_18 : decode method_2_code 18 = .ok (.iconst 2, 1) := by decide +kernel
theorem d8_19 : decode method_2_code 19 = .ok (.if_icmp .ne 15, 3) := by decide +kernel
theorem d8_34 : decode method_2_code 34 = .ok (.iload_n 1, 1) := by decide +kernel
theorem d8_35 : decode method_2_code 35 = .ok (.iconst 3, 1) := by decide +kernel
theorem d8_36 : decode method_2_code 36 = .ok (.if_icmp .ne 25, 3) := by decide +kernel
theorem d8_61 : decode method_2_code 61 = .ok (.iconst 0, 1) := by decide +kernel
theorem d8_62 : decode method_2_code 62 = .ok (.ireturn, 1) := by decide +kernel
theorem pn_com_example_tenon_tenon_ReportSizePinLaw : plainName "com/example/tenon/tenon/ReportSizePinLaw" = true := by first | (simp [plainName, overriddenIn]; done) | decide +kernel
theorem ef_rm8z (m : MethodId) (r : Addr) (p1 : Int32) : entryFrame m #[(.ref r), (.int p1)] 2 = mkF m 0 #[.val (.ref r), .val (.int p1)] [] := by first | (simp [entryFrame, mkF, argsToLocals, Value.category]; done) | rfl
def Qrm8z (Z : State) (r : Addr) (p1 : Int32) (h0 : Heap) (n0 : Nat) (v : Option Value) (h : Heap) (L : List Loc) : Prop := v = some (.int 0) ∧ Fr n0 L ∧ h = h0
set_option maxRecDepth 65536 in
set_option maxHeartbeats 40000000 in
theorem rm8z (l : Launch) (Z : State) (a0 : Array Value) (hw : ∀ d ∈ tables_1, d.before a0 Z = true) (ws : List Jvm.Cond) (r : Addr) (p1 : Int32) (h0 : Heap) (n0 : Nat) (Z0 : n0 ≤ h0.size) (h1 : ¬ p1 = (1 : Int32)) (h2 : ¬ p1 = (2 : Int32)) (h3 : ¬ p1 = (3 : Int32)) :
    MetFree l (⟨"com/example/tenon/tenon/ReportSizePinLaw", "put", "(Lcom/example/tenon/tenon/Report;I)I"⟩ : MethodName) (head1 (Jvm.Cond.code (⟨"com/example/tenon/tenon/ReportSizePinLaw", "put", "(Lcom/example/tenon/tenon/Report;I)I"⟩ : MethodName) method_2_code 2 (some .int) :: ws) ({ frames := 0, cells := 0, slots := 0, locals := 0 } : Room)) (fun a U => a = #[(.ref r), (.int p1)] ∧ Z.Warmed39 U.vm ∧ U.heap = h0) (fun _ _ _ _ _ => True) (fun _ U o U' => ∃ v L, o = .returned v ∧ Qrm8z Z r p1 h0 n0 v U'.heap L ∧ FrameEnd U o U' L ({ frames := 0, cells := 0, slots := 0, locals := 0 } : Room).cells ({ frames := 0, cells := 0, slots := 0, locals := 0 } : Room).slots) := by
  refine MetFree.of_bodySF (plainFor_of_name pn_com_example_tenon_tenon_ReportSizePinLaw) hisR ?_
  intro p e s m args below meth c s₁ Bd hml0 hP hK
  obtain ⟨rfl, hZ, hh⟩ := hP
  have hx := Bd.exec
  have hby := Bd.bytes
  have hml : c.maxLocals = 2 := hml0
  have hown : s.vm.findClass "com/example/tenon/tenon/ReportSizePinLaw" = some m.cls := findClass_of_methodNamed Bd.named
  have hnm := (name_of_methodNamed Bd.named Bd.method).1
  have X0 : Stand p l e ({ frames := 0, cells := 0, slots := 0, locals := 0 } : Room) s m #[(.ref r), (.int p1)] below meth c s₁ [] 0 0 := Stand.of_body Bd
  have e0 : s₁.heap = h0 := by rw [← hh, Bd.state]; rfl
  have N0 := Fr.nil n0
  have pre0 : ∀ t, Steps p.tables e below (s₁.setTop (mkF m 0 #[.val (.ref r), .val (.int p1)] [])) t → Steps p.tables e below (s₁.setTop (entryFrame m #[(.ref r), (.int p1)] 2)) t := fun t k => castTop (ef_rm8z m r p1) k
  obtain ⟨fs, hr, hrun, hended, hW, hsame⟩ := X0.leave (v := some (.int (0 : Int32))) (fun h => by rw [Bd.returns] at h; cases h)
  refine ⟨_, _, pre0 _ ?_, hrun, hended, _, _, rfl, ?_, ⟨_, rfl⟩, hW, hsame.mono (by decide) (by decide)⟩
  · show Steps p.tables e below (s₁.setTop (mkF m 0 #[.val (.ref r), .val (.int p1)] [])) _
    refine XS.iloadN X0.here hx rfl (hb hby d8_0) rfl ?_
    show Steps p.tables e below (s₁.setTop (mkF m 1 #[.val (.ref r), .val (.int p1)] [(.int p1)])) _
    refine XS.iconst X0.here hx rfl (hb hby d8_1) ?_
    show Steps p.tables e below (s₁.setTop (mkF m 2 #[.val (.ref r), .val (.int p1)] [(.int (1 : Int32)), (.int p1)])) _
    refine XS.icmpYes X0.here hx rfl (pc0 := 2) (pc' := 17) rfl (hb hby d8_2) rfl (feq h1).2 (by decide) (by decide) ?_
    show Steps p.tables e below (s₁.setTop (mkF m 17 #[.val (.ref r), .val (.int p1)] [])) _
    refine XS.iloadN X0.here hx rfl (hb hby d8_17) rfl ?_
    show Steps p.tables e below (s₁.setTop (mkF m 18 #[.val (.ref r), .val (.int p1)] [(.int p1)])) _
    refine XS.iconst X0.here hx rfl (hb hby d8_18) ?_
    show Steps p.tables e below (s₁.setTop (mkF m 19 #[.val (.ref r), .val (.int p1)] [(.int (2 : Int32)), (.int p1)])) _
    refine XS.icmpYes X0.here hx rfl (pc0 := 19) (pc' := 34) rfl (hb hby d8_19) rfl (feq h2).2 (by decide) (by decide) ?_
    show Steps p.tables e below (s₁.setTop (mkF m 34 #[.val (.ref r), .val (.int p1)] [])) _
    refine XS.iloadN X0.here hx rfl (hb hby d8_34) rfl ?_
    show Steps p.tables e below (s₁.setTop (mkF m 35 #[.val (.ref r), .val (.int p1)] [(.int p1)])) _
    refine XS.iconst X0.here hx rfl (hb hby d8_35) ?_
    show Steps p.tables e below (s₁.setTop (mkF m 36 #[.val (.ref r), .val (.int p1)] [(.int (3 : Int32)), (.int p1)])) _
    refine XS.icmpYes X0.here hx rfl (pc0 := 36) (pc' := 61) rfl (hb hby d8_36) rfl (feq h3).2 (by decide) (by decide) ?_
    show Steps p.tables e below (s₁.setTop (mkF m 61 #[.val (.ref r), .val (.int p1)] [])) _
    refine XS.iconst X0.here hx rfl (hb hby d8_61) ?_
    show Steps p.tables e below (s₁.setTop (mkF m 62 #[.val (.ref r), .val (.int p1)] [(.int (0 : Int32))])) _
    exact retI X0 hx Bd.returns (hb hby d8_62) hr
  · show Qrm8z Z r p1 h0 n0 _ s₁.heap _
    rw [e0]
    exact ⟨rfl, N0, rfl⟩
theorem d8_5 : decode method_2_code 5 = .ok (.aload_n 0, 1) := by decide +kernel
theorem d8_6 : decode method_2_code 6 = .ok (.ldc 7, 2) := by decide +kernel
theorem d8_8 : decode method_2_code 8 = .ok (.ldc 9, 2) := by decide +kernel
theorem d8_10 : decode method_2_code 10 = .ok (.ldc 11, 2) := by decide +kernel
theorem d8_12 : decode method_2_code 12 = .ok (.invokevirtual 13, 3) := by decide +kernel
theorem pd__Ljava_lang_String_Ljava_lang_String_Ljava_lang_String__V : parseMethodDescriptor "(Ljava/lang/String;Ljava/lang/String;Ljava/lang/String;)V" = some ⟨[(.object "java/lang/String"), (.object "java/lang/String"), (.object "java/lang/String")], none⟩ := by decide +kernel
theorem d8_15 : decode method_2_code 15 = .ok (.iconst 1, 1) := by decide +kernel
theorem d8_16 : decode method_2_code 16 = .ok (.ireturn, 1) := by decide +kernel
theorem ef_rm8h1 (m : MethodId) (r : Addr) : entryFrame m #[(.ref r), (.int (1 : Int32))] 2 = mkF m 0 #[.val (.ref r), .val (.int (1 : Int32))] [] := by first | (simp [entryFrame, mkF, argsToLocals, Value.category]; done) | rfl
def Qrm8h1 (Z : State) (r : Addr) (al : Addr) (cb : Addr) (kc : ClassId) (dce : Addr) (kd : ClassId) (mo : Int32) (k : Int) (n : Int64) (se : Addr) (h0 : Heap) (n0 : Nat) (v : Option Value) (h : Heap) (L : List Loc) : Prop := v = some (.int 1) ∧ Fr n0 L ∧ h0.size ≤ h.size ∧ own_W Z n0 h r al cb kc dce mo (k + 1) (n + 1)
set_option maxRecDepth 65536 in
set_option maxHeartbeats 40000000 in
theorem rm8h1 (l : Launch) (Z : State) (a0 : Array Value) (hw : ∀ d ∈ tables_1, d.before a0 Z = true) (ws : List Jvm.Cond) (r : Addr) (al : Addr) (cb : Addr) (kc : ClassId) (dce : Addr) (kd : ClassId) (mo : Int32) (k : Int) (n : Int64) (se : Addr) (h0 : Heap) (n0 : Nat) (Z0 : n0 ≤ h0.size) (W1 : own_W Z n0 h0 r al cb kc dce mo k n) (SD : Sta Z Z.heap "java/util/ArrayList" "DEFAULTCAPACITY_EMPTY_ELEMENTDATA" "[Ljava/lang/Object;" (.ref dce)) (AD : Arv Z Z.heap dce kd (.object "java/lang/Object") (0 : Int32) [] .null) (hk3 : 0 ≤ k ∧ k ≤ 3) (Ss : Sta Z Z.heap "com/example/tenon/tenon/Finding$Severity" "ERROR" "Lcom/example/tenon/tenon/Finding$Severity;" (.ref se)) (Es : Exa Z Z.heap se "com/example/tenon/tenon/Finding$Severity") (Fd : Fld Z Z.heap se "java/lang/Enum" "ordinal" "I" (.int (0 : Int32))) :
    MetFree l (⟨"com/example/tenon/tenon/ReportSizePinLaw", "put", "(Lcom/example/tenon/tenon/Report;I)I"⟩ : MethodName) (head1 (Jvm.Cond.code (⟨"com/example/tenon/tenon/ReportSizePinLaw", "put", "(Lcom/example/tenon/tenon/Report;I)I"⟩ : MethodName) method_2_code 2 (some .int) :: ws) ({ frames := 7, cells := 2, slots := 14, locals := 97 } : Room)) (fun a U => a = #[(.ref r), (.int (1 : Int32))] ∧ Z.Warmed39 U.vm ∧ U.heap = h0 ∧ own_Lit U) (fun _ _ _ _ _ => True) (fun _ U o U' => ∃ v L, o = .returned v ∧ Qrm8h1 Z r al cb kc dce kd mo k n se h0 n0 v U'.heap L ∧ FrameEnd U o U' L ({ frames := 7, cells := 2, slots := 14, locals := 97 } : Room).cells ({ frames := 7, cells := 2, slots := 14, locals := 97 } : Room).slots) := by
  refine MetFree.of_bodySF (plainFor_of_name pn_com_example_tenon_tenon_ReportSizePinLaw) hisR ?_
  intro p e s m args below meth c s₁ Bd hml0 hP hK
  obtain ⟨rfl, hZ, hh, hLit⟩ := hP
  have hx := Bd.exec
  have hby := Bd.bytes
  have hml : c.maxLocals = 2 := hml0
  have hown : s.vm.findClass "com/example/tenon/tenon/ReportSizePinLaw" = some m.cls := findClass_of_methodNamed Bd.named
  have hnm := (name_of_methodNamed Bd.named Bd.method).1
  have X0 : Stand p l e ({ frames := 7, cells := 2, slots := 14, locals := 97 } : Room) s m #[(.ref r), (.int (1 : Int32))] below meth c s₁ [] 0 0 := Stand.of_body Bd
  have e0 : s₁.heap = h0 := by rw [← hh, Bd.state]; rfl
  have N0 := Fr.nil n0
  have pre0 : ∀ t, Steps p.tables e below (s₁.setTop (mkF m 0 #[.val (.ref r), .val (.int (1 : Int32))] [])) t → Steps p.tables e below (s₁.setTop (entryFrame m #[(.ref r), (.int (1 : Int32))] 2)) t := fun t k => castTop (ef_rm8h1 m r) k
  obtain ⟨Xo, Zo, gr, -, -, -, -, -, Er, -⟩ := id W1
  have K0 := Keep.refl h0 []
  obtain ⟨⟨s7, Lt7⟩, ⟨s9, Lt9⟩, s11, Lt11⟩ := hLit
  have W2 := own_W_keep W1 K0
  obtain ⟨cq511, kq511, q511a, q511b, q511c⟩ := isOf hZ e0 Er
  obtain ⟨_, _, ⟨T511, L511, k511, n511⟩, -, X511, ⟨Lc511, hQ511, l511, y511, z511⟩, st511⟩ := X0.virtualBack hx (y := (⟨"com/example/tenon/tenon/Report", "error", "(Ljava/lang/String;Ljava/lang/String;Ljava/lang/String;)V"⟩ : MethodName)) (z := (⟨"com/example/tenon/tenon/Report", "error", "(Ljava/lang/String;Ljava/lang/String;Ljava/lang/String;)V"⟩ : MethodName)) hown (mvT hZ (hw _ (List.mem_of_getElem? (i := 129) rfl))) (mvT hZ (hw _ (List.mem_of_getElem? (i := 130) rfl))) (notFace_of_selects (args := #[]) (mvT hZ (hw _ (List.mem_of_getElem? (i := 132) rfl)))) (mvT hZ (hw _ (List.mem_of_getElem? (i := 132) rfl))) (mvT hZ (hw _ (List.mem_of_getElem? (i := 131) rfl))) (by decide) (backOf (W := 0) (rm15 l Z a0 hw [] r s7 s9 s11 al cb kc dce kd mo k n se h0 n0 Zo W2 SD AD hk3 Ss Es Fd) hZ (hw _ (List.mem_of_getElem? (i := 133) rfl)) (hw _ (List.mem_of_getElem? (i := 2) rfl)) (by decide) (by decide)) q511a q511c (g := (mkF m 12 #[.val (.ref r), .val (.int (1 : Int32))] [(.ref s11), (.ref s9), (.ref s7), (.ref r)])) rfl (by rw [hml]; rfl) (Steps.refl _) (argsL := [(.ref s7), (.ref s9), (.ref s11)]) (rest := []) (lenOf pd__Ljava_lang_String_Ljava_lang_String_Ljava_lang_String__V rfl) rfl (by show 2 * 0 + _ ≤ _; exact Nat.le_of_eq rfl) (hb hby d8_12) (fun _ _ => ⟨rfl, e0, (by decide : 0 + 2 ≤ _), (by decide : 0 + 14 ≤ _)⟩)
  dsimp only [Pt.U, Pt.locs, Pt.cells, Pt.slots] at X511 l511 y511 z511 st511 hQ511
  subst l511 y511 z511
  obtain ⟨rfl, N511q, hz3, W3⟩ := hQ511
  have N512 := Fr.app N0 N511q
  obtain ⟨fs, hr, hrun, hended, hW, hsame⟩ := X511.leave (v := some (.int (1 : Int32))) (fun h => by rw [Bd.returns] at h; cases h)
  refine ⟨_, _, pre0 _ ?_, hrun, hended, _, _, rfl, ?_, ⟨_, rfl⟩, hW, hsame.mono (by decide) (by decide)⟩
  · show Steps p.tables e below (s₁.setTop (mkF m 0 #[.val (.ref r), .val (.int (1 : Int32))] [])) _
    refine XS.iloadN X0.here hx rfl (hb hby d8_0) rfl ?_
    show Steps p.tables e below (s₁.setTop (mkF m 1 #[.val (.ref r), .val (.int (1 : Int32))] [(.int (1 : Int32))])) _
    refine XS.iconst X0.here hx rfl (hb hby d8_1) ?_
    show Steps p.tables e below (s₁.setTop (mkF m 2 #[.val (.ref r), .val (.int (1 : Int32))] [(.int (1 : Int32)), (.int (1 : Int32))])) _
    refine XS.icmpNo X0.here hx rfl (hb hby d8_2) rfl (teq rfl).2 ?_
    show Steps p.tables e below (s₁.setTop (mkF m 5 #[.val (.ref r), .val (.int (1 : Int32))] [])) _
    refine XS.aloadN X0.here hx rfl (hb hby d8_5) rfl rfl ?_
    show Steps p.tables e below (s₁.setTop (mkF m 6 #[.val (.ref r), .val (.int (1 : Int32))] [(.ref r)])) _
    refine own_again X0 hx hZ hown (hw _ (List.mem_of_getElem? (i := 72) rfl)) Lt7 (g := (mkF m 6 #[.val (.ref r), .val (.int (1 : Int32))] [(.ref r)])) rfl (hb hby d8_6) _ ?_
    show Steps p.tables e below (s₁.setTop (mkF m 8 #[.val (.ref r), .val (.int (1 : Int32))] [(.ref s7), (.ref r)])) _
    refine own_again X0 hx hZ hown (hw _ (List.mem_of_getElem? (i := 80) rfl)) Lt9 (g := (mkF m 8 #[.val (.ref r), .val (.int (1 : Int32))] [(.ref s7), (.ref r)])) rfl (hb hby d8_8) _ ?_
    show Steps p.tables e below (s₁.setTop (mkF m 10 #[.val (.ref r), .val (.int (1 : Int32))] [(.ref s9), (.ref s7), (.ref r)])) _
    refine own_again X0 hx hZ hown (hw _ (List.mem_of_getElem? (i := 81) rfl)) Lt11 (g := (mkF m 10 #[.val (.ref r), .val (.int (1 : Int32))] [(.ref s9), (.ref s7), (.ref r)])) rfl (hb hby d8_10) _ ?_
    show Steps p.tables e below (s₁.setTop (mkF m 12 #[.val (.ref r), .val (.int (1 : Int32))] [(.ref s11), (.ref s9), (.ref s7), (.ref r)])) _
    refine st511.trans ?_
    show Steps p.tables e below (T511.setTop (mkF m 15 #[.val (.ref r), .val (.int (1 : Int32))] [])) _
    refine XS.iconst X511.here hx rfl (hb hby d8_15) ?_
    show Steps p.tables e below (T511.setTop (mkF m 16 #[.val (.ref r), .val (.int (1 : Int32))] [(.int (1 : Int32))])) _
    exact retI X511 hx Bd.returns (hb hby d8_16) hr
  · show Qrm8h1 Z r al cb kc dce kd mo k n se h0 n0 _ T511.heap _
    exact ⟨rfl, N512, Nat.le_trans K0.1 hz3, W3⟩
theorem ef_rm8c1 (m : MethodId) (r : Addr) : entryFrame m #[(.ref r), (.int (1 : Int32))] 2 = mkF m 0 #[.val (.ref r), .val (.int (1 : Int32))] [] := by first | (simp [entryFrame, mkF, argsToLocals, Value.category]; done) | rfl
def Qrm8c1 (Z : State) (r : Addr) (al : Addr) (cb : Addr) (kc : ClassId) (dce : Addr) (kd : ClassId) (mo : Int32) (k : Int) (n : Int64) (se : Addr) (h0 : Heap) (n0 : Nat) (v : Option Value) (h : Heap) (L : List Loc) : Prop := v = some (.int 1) ∧ Fr n0 L ∧ h0.size ≤ h.size ∧ own_W Z n0 h r al cb kc dce mo (k + 1) (n + 1)
set_option maxRecDepth 65536 in
set_option maxHeartbeats 40000000 in
theorem rm8c1 (l : Launch) (Z : State) (a0 : Array Value) (hw : ∀ d ∈ tables_1, d.before a0 Z = true) (ws : List Jvm.Cond) (r : Addr) (al : Addr) (cb : Addr) (kc : ClassId) (dce : Addr) (kd : ClassId) (mo : Int32) (k : Int) (n : Int64) (se : Addr) (h0 : Heap) (n0 : Nat) (Z0 : n0 ≤ h0.size) (W1 : own_W Z n0 h0 r al cb kc dce mo k n) (SD : Sta Z Z.heap "java/util/ArrayList" "DEFAULTCAPACITY_EMPTY_ELEMENTDATA" "[Ljava/lang/Object;" (.ref dce)) (AD : Arv Z Z.heap dce kd (.object "java/lang/Object") (0 : Int32) [] .null) (hk3 : 0 ≤ k ∧ k ≤ 3) (Ss : Sta Z Z.heap "com/example/tenon/tenon/Finding$Severity" "ERROR" "Lcom/example/tenon/tenon/Finding$Severity;" (.ref se)) (Es : Exa Z Z.heap se "com/example/tenon/tenon/Finding$Severity") (Fd : Fld Z Z.heap se "java/lang/Enum" "ordinal" "I" (.int (0 : Int32))) :
    MetFree l (⟨"com/example/tenon/tenon/ReportSizePinLaw", "put", "(Lcom/example/tenon/tenon/Report;I)I"⟩ : MethodName) (head1 (Jvm.Cond.code (⟨"com/example/tenon/tenon/ReportSizePinLaw", "put", "(Lcom/example/tenon/tenon/Report;I)I"⟩ : MethodName) method_2_code 2 (some .int) :: ws) ({ frames := 7, cells := 8, slots := 38, locals := 97 } : Room)) (fun a U => a = #[(.ref r), (.int (1 : Int32))] ∧ Z.Warmed39 U.vm ∧ U.heap = h0) (fun _ _ _ _ _ => True) (fun _ U o U' => ∃ v L, o = .returned v ∧ (Qrm8c1 Z r al cb kc dce kd mo k n se h0 n0 v U'.heap L ∧ own_Lit U') ∧ ReturnedEndW U o U' L ({ frames := 7, cells := 8, slots := 38, locals := 97 } : Room).cells ({ frames := 7, cells := 8, slots := 38, locals := 97 } : Room).slots) := by
  refine MetFree.of_bodySF (plainFor_of_name pn_com_example_tenon_tenon_ReportSizePinLaw) hisR ?_
  intro p e s m args below meth c s₁ Bd hml0 hP hK
  obtain ⟨rfl, hZ, hh⟩ := hP
  have hx := Bd.exec
  have hby := Bd.bytes
  have hml : c.maxLocals = 2 := hml0
  have hown : s.vm.findClass "com/example/tenon/tenon/ReportSizePinLaw" = some m.cls := findClass_of_methodNamed Bd.named
  have hnm := (name_of_methodNamed Bd.named Bd.method).1
  have X0 : Stand p l e ({ frames := 7, cells := 8, slots := 38, locals := 97 } : Room) s m #[(.ref r), (.int (1 : Int32))] below meth c s₁ [] 0 0 := Stand.of_body Bd
  have e0 : s₁.heap = h0 := by rw [← hh, Bd.state]; rfl
  have N0 := Fr.nil n0
  have pre0 : ∀ t, Steps p.tables e below (s₁.setTop (mkF m 0 #[.val (.ref r), .val (.int (1 : Int32))] [])) t → Steps p.tables e below (s₁.setTop (entryFrame m #[(.ref r), (.int (1 : Int32))] 2)) t := fun t k => castTop (ef_rm8c1 m r) k
  obtain ⟨Xo, Zo, gr, -, -, -, -, -, Er, -⟩ := id W1
  have K0 := Keep.refl h0 []
  have Xb : Stand p l e ({ frames := 7, cells := 8, slots := 38, locals := 97 } : Room) (s.setVm s.vm) m #[(.ref r), (.int (1 : Int32))] below meth c s₁ [] 0 0 := by rw [own_setVm]; exact X0
  have hZ : Z.Warmed39 (s.setVm s.vm).vm := hZ
  have hown : (s.setVm s.vm).vm.findClass "com/example/tenon/tenon/ReportSizePinLaw" = some m.cls := hown
  have hSn : s.Since s.vm 0 := (State.WarmedH.refl s).since 0
  have hSk : 0 ≤ h0.size := Nat.zero_le _
  have hwS : ∀ a ∈ Bundle.stringAtoms, a.before a0 Z = true := fun d hd => hw d ((by decide +kernel : ∀ d ∈ Bundle.stringAtoms, d ∈ tables_1) d hd)
  obtain ⟨sa513, T513, h513, k513, X513, e513, E513, hSn, hSk, hZ, hown, L513, hW513, st513⟩ := own_ldc Xb hx hZ hown (hw _ (List.mem_of_getElem? (i := 72) rfl)) hwS e0 hSn hSk (g := (mkF m 6 #[.val (.ref r), .val (.int (1 : Int32))] [(.ref r)])) rfl (hb hby d8_6) (n := 4) (by decide) (by decide) (by decide) (by decide)
  have f514 := Er.ext E513
  have Zn515 := Nat.le_trans Zo E513.1
  have Od516 := Xo.ext E513
  have K517 := K0.ext E513
  obtain ⟨sa518, T518, h518, k518, X518, e518, E518, hSn, hSk, hZ, hown, L518, hW518, st518⟩ := own_ldc X513 hx hZ hown (hw _ (List.mem_of_getElem? (i := 80) rfl)) hwS e513 hSn hSk (g := (mkF m 8 #[.val (.ref r), .val (.int (1 : Int32))] [(.ref sa513), (.ref r)])) rfl (hb hby d8_8) (n := 4) (by decide) (by decide) (by decide) (by decide)
  have Lq519 : Lit (s.setVm T518.vm) "com/example/tenon/tenon/ReportSizePinLaw" 7 _ := own_lit_stays (s := s.setVm T513.vm) L513 hW518
  have f520 := f514.ext E518
  have Zn521 := Nat.le_trans Zn515 E518.1
  have Od522 := Od516.ext E518
  have K523 := K517.ext E518
  obtain ⟨sa524, T524, h524, k524, X524, e524, E524, hSn, hSk, hZ, hown, L524, hW524, st524⟩ := own_ldc X518 hx hZ hown (hw _ (List.mem_of_getElem? (i := 81) rfl)) hwS e518 hSn hSk (g := (mkF m 10 #[.val (.ref r), .val (.int (1 : Int32))] [(.ref sa518), (.ref sa513), (.ref r)])) rfl (hb hby d8_10) (n := 4) (by decide) (by decide) (by decide) (by decide)
  have Lq525 : Lit (s.setVm T524.vm) "com/example/tenon/tenon/ReportSizePinLaw" 7 _ := own_lit_stays (s := s.setVm T518.vm) Lq519 hW524
  have Lq526 : Lit (s.setVm T524.vm) "com/example/tenon/tenon/ReportSizePinLaw" 9 _ := own_lit_stays (s := s.setVm T518.vm) L518 hW524
  have f527 := f520.ext E524
  have Zn528 := Nat.le_trans Zn521 E524.1
  have Od529 := Od522.ext E524
  have K530 := K523.ext E524
  have W2 := own_W_keep W1 K530
  obtain ⟨cq531, kq531, q531a, q531b, q531c⟩ := isOf hZ e524 f527
  obtain ⟨_, _, ⟨T531, L531, k531, n531⟩, -, X531, ⟨Lc531, hQ531, l531, y531, z531⟩, st531⟩ := X524.virtualBack hx (y := (⟨"com/example/tenon/tenon/Report", "error", "(Ljava/lang/String;Ljava/lang/String;Ljava/lang/String;)V"⟩ : MethodName)) (z := (⟨"com/example/tenon/tenon/Report", "error", "(Ljava/lang/String;Ljava/lang/String;Ljava/lang/String;)V"⟩ : MethodName)) hown (mvT hZ (hw _ (List.mem_of_getElem? (i := 129) rfl))) (mvT hZ (hw _ (List.mem_of_getElem? (i := 130) rfl))) (notFace_of_selects (args := #[]) (mvT hZ (hw _ (List.mem_of_getElem? (i := 132) rfl)))) (mvT hZ (hw _ (List.mem_of_getElem? (i := 132) rfl))) (mvT hZ (hw _ (List.mem_of_getElem? (i := 131) rfl))) (by decide) (backOf (W := 0) (rm15 l Z a0 hw [] r sa513 sa518 sa524 al cb kc dce kd mo k n se h524 n0 Zn528 W2 SD AD hk3 Ss Es Fd) hZ (hw _ (List.mem_of_getElem? (i := 133) rfl)) (hw _ (List.mem_of_getElem? (i := 2) rfl)) (by decide) (by decide)) q531a q531c (g := (mkF m 12 #[.val (.ref r), .val (.int (1 : Int32))] [(.ref sa524), (.ref sa518), (.ref sa513), (.ref r)])) rfl (by rw [hml]; rfl) (Steps.refl _) (argsL := [(.ref sa513), (.ref sa518), (.ref sa524)]) (rest := []) (lenOf pd__Ljava_lang_String_Ljava_lang_String_Ljava_lang_String__V rfl) rfl (by show 2 * 0 + _ ≤ _; exact Nat.le_of_eq rfl) (hb hby d8_12) (fun _ _ => ⟨rfl, e524, (by decide : 6 + 2 ≤ _), (by decide : 24 + 14 ≤ _)⟩)
  dsimp only [Pt.U, Pt.locs, Pt.cells, Pt.slots] at X531 l531 y531 z531 st531 hQ531
  subst l531 y531 z531
  obtain ⟨rfl, N531q, hz3, W3⟩ := hQ531
  have N532 := Fr.app N0 N531q
  have hLitF : own_Lit (s.setVm T524.vm) := ⟨⟨_, Lq525⟩, ⟨_, Lq526⟩, _, L524⟩
  have hSk := Nat.le_trans hSk hz3
  obtain ⟨fs, hr, hrun, hended, hRE⟩ := X531.leaveW hSn hSk (v := some (.int (1 : Int32))) (fun h => by rw [Bd.returns] at h; cases h)
  refine ⟨_, _, pre0 _ ?_, hrun, hended, _, _, rfl, ⟨?_, (own_Lit.stays (s := s.setVm T524.vm) hLitF X531.warmed.wide).vm rfl⟩, hRE.1, hRE.2.1, hRE.2.2.1, hRE.2.2.2.mono (by decide) (by decide)⟩
  · show Steps p.tables e below (s₁.setTop (mkF m 0 #[.val (.ref r), .val (.int (1 : Int32))] [])) _
    refine XS.iloadN X0.here hx rfl (hb hby d8_0) rfl ?_
    show Steps p.tables e below (s₁.setTop (mkF m 1 #[.val (.ref r), .val (.int (1 : Int32))] [(.int (1 : Int32))])) _
    refine XS.iconst X0.here hx rfl (hb hby d8_1) ?_
    show Steps p.tables e below (s₁.setTop (mkF m 2 #[.val (.ref r), .val (.int (1 : Int32))] [(.int (1 : Int32)), (.int (1 : Int32))])) _
    refine XS.icmpNo X0.here hx rfl (hb hby d8_2) rfl (teq rfl).2 ?_
    show Steps p.tables e below (s₁.setTop (mkF m 5 #[.val (.ref r), .val (.int (1 : Int32))] [])) _
    refine XS.aloadN X0.here hx rfl (hb hby d8_5) rfl rfl ?_
    show Steps p.tables e below (s₁.setTop (mkF m 6 #[.val (.ref r), .val (.int (1 : Int32))] [(.ref r)])) _
    refine st513 _ ?_
    show Steps p.tables e below (T513.setTop (mkF m 8 #[.val (.ref r), .val (.int (1 : Int32))] [(.ref sa513), (.ref r)])) _
    refine st518 _ ?_
    show Steps p.tables e below (T518.setTop (mkF m 10 #[.val (.ref r), .val (.int (1 : Int32))] [(.ref sa518), (.ref sa513), (.ref r)])) _
    refine st524 _ ?_
    show Steps p.tables e below (T524.setTop (mkF m 12 #[.val (.ref r), .val (.int (1 : Int32))] [(.ref sa524), (.ref sa518), (.ref sa513), (.ref r)])) _
    refine st531.trans ?_
    show Steps p.tables e below (T531.setTop (mkF m 15 #[.val (.ref r), .val (.int (1 : Int32))] [])) _
    refine XS.iconst X531.here hx rfl (hb hby d8_15) ?_
    show Steps p.tables e below (T531.setTop (mkF m 16 #[.val (.ref r), .val (.int (1 : Int32))] [(.int (1 : Int32))])) _
    exact retI X531 hx Bd.returns (hb hby d8_16) hr
  · show Qrm8c1 Z r al cb kc dce kd mo k n se h0 n0 _ T531.heap _
    exact ⟨rfl, N532, Nat.le_trans K530.1 hz3, W3⟩
theorem d8_22 : decode method_2_code 22 = .ok (.aload_n 0, 1) := by decide +kernel
theorem d8_23 : decode method_2_code 23 = .ok (.ldc 7, 2) := by decide +kernel
theorem d8_25 : decode method_2_code 25 = .ok (.ldc 9, 2) := by decide +kernel
theorem d8_27 : decode method_2_code 27 = .ok (.ldc 11, 2) := by decide +kernel
theorem d8_29 : decode method_2_code 29 = .ok (.invokevirtual 19, 3) := by decide +kernel
theorem d8_32 : decode method_2_code 32 = .ok (.iconst 1, 1) := by decide +kernel
theorem d8_33 : decode method_2_code 33 = .ok (.ireturn, 1) := by decide +kernel
theorem ef_rm8h2 (m : MethodId) (r : Addr) : entryFrame m #[(.ref r), (.int (2 : Int32))] 2 = mkF m 0 #[.val (.ref r), .val (.int (2 : Int32))] [] := by first | (simp [entryFrame, mkF, argsToLocals, Value.category]; done) | rfl
def Qrm8h2 (Z : State) (r : Addr) (al : Addr) (cb : Addr) (kc : ClassId) (dce : Addr) (kd : ClassId) (mo : Int32) (k : Int) (n : Int64) (se : Addr) (h0 : Heap) (n0 : Nat) (v : Option Value) (h : Heap) (L : List Loc) : Prop := v = some (.int 1) ∧ Fr n0 L ∧ h0.size ≤ h.size ∧ own_W Z n0 h r al cb kc dce mo (k + 1) (n + 1)
set_option maxRecDepth 65536 in
set_option maxHeartbeats 40000000 in
theorem rm8h2 (l : Launch) (Z : State) (a0 : Array Value) (hw : ∀ d ∈ tables_1, d.before a0 Z = true) (ws : List Jvm.Cond) (r : Addr) (al : Addr) (cb : Addr) (kc : ClassId) (dce : Addr) (kd : ClassId) (mo : Int32) (k : Int) (n : Int64) (se : Addr) (h0 : Heap) (n0 : Nat) (Z0 : n0 ≤ h0.size) (W1 : own_W Z n0 h0 r al cb kc dce mo k n) (SD : Sta Z Z.heap "java/util/ArrayList" "DEFAULTCAPACITY_EMPTY_ELEMENTDATA" "[Ljava/lang/Object;" (.ref dce)) (AD : Arv Z Z.heap dce kd (.object "java/lang/Object") (0 : Int32) [] .null) (hk3 : 0 ≤ k ∧ k ≤ 3) (Ss : Sta Z Z.heap "com/example/tenon/tenon/Finding$Severity" "WARNING" "Lcom/example/tenon/tenon/Finding$Severity;" (.ref se)) (Es : Exa Z Z.heap se "com/example/tenon/tenon/Finding$Severity") (Fd : Fld Z Z.heap se "java/lang/Enum" "ordinal" "I" (.int (1 : Int32))) :
    MetFree l (⟨"com/example/tenon/tenon/ReportSizePinLaw", "put", "(Lcom/example/tenon/tenon/Report;I)I"⟩ : MethodName) (head1 (Jvm.Cond.code (⟨"com/example/tenon/tenon/ReportSizePinLaw", "put", "(Lcom/example/tenon/tenon/Report;I)I"⟩ : MethodName) method_2_code 2 (some .int) :: ws) ({ frames := 7, cells := 2, slots := 14, locals := 97 } : Room)) (fun a U => a = #[(.ref r), (.int (2 : Int32))] ∧ Z.Warmed39 U.vm ∧ U.heap = h0 ∧ own_Lit U) (fun _ _ _ _ _ => True) (fun _ U o U' => ∃ v L, o = .returned v ∧ Qrm8h2 Z r al cb kc dce kd mo k n se h0 n0 v U'.heap L ∧ FrameEnd U o U' L ({ frames := 7, cells := 2, slots := 14, locals := 97 } : Room).cells ({ frames := 7, cells := 2, slots := 14, locals := 97 } : Room).slots) := by
  refine MetFree.of_bodySF (plainFor_of_name pn_com_example_tenon_tenon_ReportSizePinLaw) hisR ?_
  intro p e s m args below meth c s₁ Bd hml0 hP hK
  obtain ⟨rfl, hZ, hh, hLit⟩ := hP
  have hx := Bd.exec
  have hby := Bd.bytes
  have hml : c.maxLocals = 2 := hml0
  have hown : s.vm.findClass "com/example/tenon/tenon/ReportSizePinLaw" = some m.cls := findClass_of_methodNamed Bd.named
  have hnm := (name_of_methodNamed Bd.named Bd.method).1
  have X0 : Stand p l e ({ frames := 7, cells := 2, slots := 14, locals := 97 } : Room) s m #[(.ref r), (.int (2 : Int32))] below meth c s₁ [] 0 0 := Stand.of_body Bd
  have e0 : s₁.heap = h0 := by rw [← hh, Bd.state]; rfl
  have N0 := Fr.nil n0
  have pre0 : ∀ t, Steps p.tables e below (s₁.setTop (mkF m 0 #[.val (.ref r), .val (.int (2 : Int32))] [])) t → Steps p.tables e below (s₁.setTop (entryFrame m #[(.ref r), (.int (2 : Int32))] 2)) t := fun t k => castTop (ef_rm8h2 m r) k
  obtain ⟨Xo, Zo, gr, -, -, -, -, -, Er, -⟩ := id W1
  have K0 := Keep.refl h0 []
  obtain ⟨⟨s7, Lt7⟩, ⟨s9, Lt9⟩, s11, Lt11⟩ := hLit
  have W2 := own_W_keep W1 K0
  obtain ⟨cq533, kq533, q533a, q533b, q533c⟩ := isOf hZ e0 Er
  obtain ⟨_, _, ⟨T533, L533, k533, n533⟩, -, X533, ⟨Lc533, hQ533, l533, y533, z533⟩, st533⟩ := X0.virtualBack hx (y := (⟨"com/example/tenon/tenon/Report", "warning", "(Ljava/lang/String;Ljava/lang/String;Ljava/lang/String;)V"⟩ : MethodName)) (z := (⟨"com/example/tenon/tenon/Report", "warning", "(Ljava/lang/String;Ljava/lang/String;Ljava/lang/String;)V"⟩ : MethodName)) hown (mvT hZ (hw _ (List.mem_of_getElem? (i := 170) rfl))) (mvT hZ (hw _ (List.mem_of_getElem? (i := 171) rfl))) (notFace_of_selects (args := #[]) (mvT hZ (hw _ (List.mem_of_getElem? (i := 173) rfl)))) (mvT hZ (hw _ (List.mem_of_getElem? (i := 173) rfl))) (mvT hZ (hw _ (List.mem_of_getElem? (i := 172) rfl))) (by decide) (backOf (W := 0) (rm21 l Z a0 hw [] r s7 s9 s11 al cb kc dce kd mo k n se h0 n0 Zo W2 SD AD hk3 Ss Es Fd) hZ (hw _ (List.mem_of_getElem? (i := 174) rfl)) (hw _ (List.mem_of_getElem? (i := 2) rfl)) (by decide) (by decide)) q533a q533c (g := (mkF m 29 #[.val (.ref r), .val (.int (2 : Int32))] [(.ref s11), (.ref s9), (.ref s7), (.ref r)])) rfl (by rw [hml]; rfl) (Steps.refl _) (argsL := [(.ref s7), (.ref s9), (.ref s11)]) (rest := []) (lenOf pd__Ljava_lang_String_Ljava_lang_String_Ljava_lang_String__V rfl) rfl (by show 2 * 0 + _ ≤ _; exact Nat.le_of_eq rfl) (hb hby d8_29) (fun _ _ => ⟨rfl, e0, (by decide : 0 + 2 ≤ _), (by decide : 0 + 14 ≤ _)⟩)
  dsimp only [Pt.U, Pt.locs, Pt.cells, Pt.slots] at X533 l533 y533 z533 st533 hQ533
  subst l533 y533 z533
  obtain ⟨rfl, N533q, hz3, W3⟩ := hQ533
  have N534 := Fr.app N0 N533q
  obtain ⟨fs, hr, hrun, hended, hW, hsame⟩ := X533.leave (v := some (.int (1 : Int32))) (fun h => by rw [Bd.returns] at h; cases h)
  refine ⟨_, _, pre0 _ ?_, hrun, hended, _, _, rfl, ?_, ⟨_, rfl⟩, hW, hsame.mono (by decide) (by decide)⟩
  · show Steps p.tables e below (s₁.setTop (mkF m 0 #[.val (.ref r), .val (.int (2 : Int32))] [])) _
    refine XS.iloadN X0.here hx rfl (hb hby d8_0) rfl ?_
    show Steps p.tables e below (s₁.setTop (mkF m 1 #[.val (.ref r), .val (.int (2 : Int32))] [(.int (2 : Int32))])) _
    refine XS.iconst X0.here hx rfl (hb hby d8_1) ?_
    show Steps p.tables e below (s₁.setTop (mkF m 2 #[.val (.ref r), .val (.int (2 : Int32))] [(.int (1 : Int32)), (.int (2 : Int32))])) _
    refine XS.icmpYes X0.here hx rfl (pc0 := 2) (pc' := 17) rfl (hb hby d8_2) rfl (feq (by decide)).2 (by decide) (by decide) ?_
    show Steps p.tables e below (s₁.setTop (mkF m 17 #[.val (.ref r), .val (.int (2 : Int32))] [])) _
    refine XS.iloadN X0.here hx rfl (hb hby d8_17) rfl ?_
    show Steps p.tables e below (s₁.setTop (mkF m 18 #[.val (.ref r), .val (.int (2 : Int32))] [(.int (2 : Int32))])) _
    refine XS.iconst X0.here hx rfl (hb hby d8_18) ?_
    show Steps p.tables e below (s₁.setTop (mkF m 19 #[.val (.ref r), .val (.int (2 : Int32))] [(.int (2 : Int32)), (.int (2 : Int32))])) _
    refine XS.icmpNo X0.here hx rfl (hb hby d8_19) rfl (teq rfl).2 ?_
    show Steps p.tables e below (s₁.setTop (mkF m 22 #[.val (.ref r), .val (.int (2 : Int32))] [])) _
    refine XS.aloadN X0.here hx rfl (hb hby d8_22) rfl rfl ?_
    show Steps p.tables e below (s₁.setTop (mkF m 23 #[.val (.ref r), .val (.int (2 : Int32))] [(.ref r)])) _
    refine own_again X0 hx hZ hown (hw _ (List.mem_of_getElem? (i := 72) rfl)) Lt7 (g := (mkF m 23 #[.val (.ref r), .val (.int (2 : Int32))] [(.ref r)])) rfl (hb hby d8_23) _ ?_
    show Steps p.tables e below (s₁.setTop (mkF m 25 #[.val (.ref r), .val (.int (2 : Int32))] [(.ref s7), (.ref r)])) _
    refine own_again X0 hx hZ hown (hw _ (List.mem_of_getElem? (i := 80) rfl)) Lt9 (g := (mkF m 25 #[.val (.ref r), .val (.int (2 : Int32))] [(.ref s7), (.ref r)])) rfl (hb hby d8_25) _ ?_
    show Steps p.tables e below (s₁.setTop (mkF m 27 #[.val (.ref r), .val (.int (2 : Int32))] [(.ref s9), (.ref s7), (.ref r)])) _
    refine own_again X0 hx hZ hown (hw _ (List.mem_of_getElem? (i := 81) rfl)) Lt11 (g := (mkF m 27 #[.val (.ref r), .val (.int (2 : Int32))] [(.ref s9), (.ref s7), (.ref r)])) rfl (hb hby d8_27) _ ?_
    show Steps p.tables e below (s₁.setTop (mkF m 29 #[.val (.ref r), .val (.int (2 : Int32))] [(.ref s11), (.ref s9), (.ref s7), (.ref r)])) _
    refine st533.trans ?_
    show Steps p.tables e below (T533.setTop (mkF m 32 #[.val (.ref r), .val (.int (2 : Int32))] [])) _
    refine XS.iconst X533.here hx rfl (hb hby d8_32) ?_
    show Steps p.tables e below (T533.setTop (mkF m 33 #[.val (.ref r), .val (.int (2 : Int32))] [(.int (1 : Int32))])) _
    exact retI X533 hx Bd.returns (hb hby d8_33) hr
  · show Qrm8h2 Z r al cb kc dce kd mo k n se h0 n0 _ T533.heap _
    exact ⟨rfl, N534, Nat.le_trans K0.1 hz3, W3⟩
theorem ef_rm8c2 (m : MethodId) (r : Addr) : entryFrame m #[(.ref r), (.int (2 : Int32))] 2 = mkF m 0 #[.val (.ref r), .val (.int (2 : Int32))] [] := by first | (simp [entryFrame, mkF, argsToLocals, Value.category]; done) | rfl
def Qrm8c2 (Z : State) (r : Addr) (al : Addr) (cb : Addr) (kc : ClassId) (dce : Addr) (kd : ClassId) (mo : Int32) (k : Int) (n : Int64) (se : Addr) (h0 : Heap) (n0 : Nat) (v : Option Value) (h : Heap) (L : List Loc) : Prop := v = some (.int 1) ∧ Fr n0 L ∧ h0.size ≤ h.size ∧ own_W Z n0 h r al cb kc dce mo (k + 1) (n + 1)
set_option maxRecDepth 65536 in
set_option maxHeartbeats 40000000 in
theorem rm8c2 (l : Launch) (Z : State) (a0 : Array Value) (hw : ∀ d ∈ tables_1, d.before a0 Z = true) (ws : List Jvm.Cond) (r : Addr) (al : Addr) (cb : Addr) (kc : ClassId) (dce : Addr) (kd : ClassId) (mo : Int32) (k : Int) (n : Int64) (se : Addr) (h0 : Heap) (n0 : Nat) (Z0 : n0 ≤ h0.size) (W1 : own_W Z n0 h0 r al cb kc dce mo k n) (SD : Sta Z Z.heap "java/util/ArrayList" "DEFAULTCAPACITY_EMPTY_ELEMENTDATA" "[Ljava/lang/Object;" (.ref dce)) (AD : Arv Z Z.heap dce kd (.object "java/lang/Object") (0 : Int32) [] .null) (hk3 : 0 ≤ k ∧ k ≤ 3) (Ss : Sta Z Z.heap "com/example/tenon/tenon/Finding$Severity" "WARNING" "Lcom/example/tenon/tenon/Finding$Severity;" (.ref se)) (Es : Exa Z Z.heap se "com/example/tenon/tenon/Finding$Severity") (Fd : Fld Z Z.heap se "java/lang/Enum" "ordinal" "I" (.int (1 : Int32))) :
    MetFree l (⟨"com/example/tenon/tenon/ReportSizePinLaw", "put", "(Lcom/example/tenon/tenon/Report;I)I"⟩ : MethodName) (head1 (Jvm.Cond.code (⟨"com/example/tenon/tenon/ReportSizePinLaw", "put", "(Lcom/example/tenon/tenon/Report;I)I"⟩ : MethodName) method_2_code 2 (some .int) :: ws) ({ frames := 7, cells := 8, slots := 38, locals := 97 } : Room)) (fun a U => a = #[(.ref r), (.int (2 : Int32))] ∧ Z.Warmed39 U.vm ∧ U.heap = h0) (fun _ _ _ _ _ => True) (fun _ U o U' => ∃ v L, o = .returned v ∧ (Qrm8c2 Z r al cb kc dce kd mo k n se h0 n0 v U'.heap L ∧ own_Lit U') ∧ ReturnedEndW U o U' L ({ frames := 7, cells := 8, slots := 38, locals := 97 } : Room).cells ({ frames := 7, cells := 8, slots := 38, locals := 97 } : Room).slots) := by
  refine MetFree.of_bodySF (plainFor_of_name pn_com_example_tenon_tenon_ReportSizePinLaw) hisR ?_
  intro p e s m args below meth c s₁ Bd hml0 hP hK
  obtain ⟨rfl, hZ, hh⟩ := hP
  have hx := Bd.exec
  have hby := Bd.bytes
  have hml : c.maxLocals = 2 := hml0
  have hown : s.vm.findClass "com/example/tenon/tenon/ReportSizePinLaw" = some m.cls := findClass_of_methodNamed Bd.named
  have hnm := (name_of_methodNamed Bd.named Bd.method).1
  have X0 : Stand p l e ({ frames := 7, cells := 8, slots := 38, locals := 97 } : Room) s m #[(.ref r), (.int (2 : Int32))] below meth c s₁ [] 0 0 := Stand.of_body Bd
  have e0 : s₁.heap = h0 := by rw [← hh, Bd.state]; rfl
  have N0 := Fr.nil n0
  have pre0 : ∀ t, Steps p.tables e below (s₁.setTop (mkF m 0 #[.val (.ref r), .val (.int (2 : Int32))] [])) t → Steps p.tables e below (s₁.setTop (entryFrame m #[(.ref r), (.int (2 : Int32))] 2)) t := fun t k => castTop (ef_rm8c2 m r) k
  obtain ⟨Xo, Zo, gr, -, -, -, -, -, Er, -⟩ := id W1
  have K0 := Keep.refl h0 []
  have Xb : Stand p l e ({ frames := 7, cells := 8, slots := 38, locals := 97 } : Room) (s.setVm s.vm) m #[(.ref r), (.int (2 : Int32))] below meth c s₁ [] 0 0 := by rw [own_setVm]; exact X0
  have hZ : Z.Warmed39 (s.setVm s.vm).vm := hZ
  have hown : (s.setVm s.vm).vm.findClass "com/example/tenon/tenon/ReportSizePinLaw" = some m.cls := hown
  have hSn : s.Since s.vm 0 := (State.WarmedH.refl s).since 0
  have hSk : 0 ≤ h0.size := Nat.zero_le _
  have hwS : ∀ a ∈ Bundle.stringAtoms, a.before a0 Z = true := fun d hd => hw d ((by decide +kernel : ∀ d ∈ Bundle.stringAtoms, d ∈ tables_1) d hd)
  obtain ⟨sa535, T535, h535, k535, X535, e535, E535, hSn, hSk, hZ, hown, L535, hW535, st535⟩ := own_ldc Xb hx hZ hown (hw _ (List.mem_of_getElem? (i := 72) rfl)) hwS e0 hSn hSk (g := (mkF m 23 #[.val (.ref r), .val (.int (2 : Int32))] [(.ref r)])) rfl (hb hby d8_23) (n := 4) (by decide) (by decide) (by decide) (by decide)
  have f536 := Er.ext E535
  have Zn537 := Nat.le_trans Zo E535.1
  have Od538 := Xo.ext E535
  have K539 := K0.ext E535
  obtain ⟨sa540, T540, h540, k540, X540, e540, E540, hSn, hSk, hZ, hown, L540, hW540, st540⟩ := own_ldc X535 hx hZ hown (hw _ (List.mem_of_getElem? (i := 80) rfl)) hwS e535 hSn hSk (g := (mkF m 25 #[.val (.ref r), .val (.int (2 : Int32))] [(.ref sa535), (.ref r)])) rfl (hb hby d8_25) (n := 4) (by decide) (by decide) (by decide) (by decide)
  have Lq541 : Lit (s.setVm T540.vm) "com/example/tenon/tenon/ReportSizePinLaw" 7 _ := own_lit_stays (s := s.setVm T535.vm) L535 hW540
  have f542 := f536.ext E540
  have Zn543 := Nat.le_trans Zn537 E540.1
  have Od544 := Od538.ext E540
  have K545 := K539.ext E540
  obtain ⟨sa546, T546, h546, k546, X546, e546, E546, hSn, hSk, hZ, hown, L546, hW546, st546⟩ := own_ldc X540 hx hZ hown (hw _ (List.mem_of_getElem? (i := 81) rfl)) hwS e540 hSn hSk (g := (mkF m 27 #[.val (.ref r), .val (.int (2 : Int32))] [(.ref sa540), (.ref sa535), (.ref r)])) rfl (hb hby d8_27) (n := 4) (by decide) (by decide) (by decide) (by decide)
  have Lq547 : Lit (s.setVm T546.vm) "com/example/tenon/tenon/ReportSizePinLaw" 7 _ := own_lit_stays (s := s.setVm T540.vm) Lq541 hW546
  have Lq548 : Lit (s.setVm T546.vm) "com/example/tenon/tenon/ReportSizePinLaw" 9 _ := own_lit_stays (s := s.setVm T540.vm) L540 hW546
  have f549 := f542.ext E546
  have Zn550 := Nat.le_trans Zn543 E546.1
  have Od551 := Od544.ext E546
  have K552 := K545.ext E546
  have W2 := own_W_keep W1 K552
  obtain ⟨cq553, kq553, q553a, q553b, q553c⟩ := isOf hZ e546 f549
  obtain ⟨_, _, ⟨T553, L553, k553, n553⟩, -, X553, ⟨Lc553, hQ553, l553, y553, z553⟩, st553⟩ := X546.virtualBack hx (y := (⟨"com/example/tenon/tenon/Report", "warning", "(Ljava/lang/String;Ljava/lang/String;Ljava/lang/String;)V"⟩ : MethodName)) (z := (⟨"com/example/tenon/tenon/Report", "warning", "(Ljava/lang/String;Ljava/lang/String;Ljava/lang/String;)V"⟩ : MethodName)) hown (mvT hZ (hw _ (List.mem_of_getElem? (i := 170) rfl))) (mvT hZ (hw _ (List.mem_of_getElem? (i := 171) rfl))) (notFace_of_selects (args := #[]) (mvT hZ (hw _ (List.mem_of_getElem? (i := 173) rfl)))) (mvT hZ (hw _ (List.mem_of_getElem? (i := 173) rfl))) (mvT hZ (hw _ (List.mem_of_getElem? (i := 172) rfl))) (by decide) (backOf (W := 0) (rm21 l Z a0 hw [] r sa535 sa540 sa546 al cb kc dce kd mo k n se h546 n0 Zn550 W2 SD AD hk3 Ss Es Fd) hZ (hw _ (List.mem_of_getElem? (i := 174) rfl)) (hw _ (List.mem_of_getElem? (i := 2) rfl)) (by decide) (by decide)) q553a q553c (g := (mkF m 29 #[.val (.ref r), .val (.int (2 : Int32))] [(.ref sa546), (.ref sa540), (.ref sa535), (.ref r)])) rfl (by rw [hml]; rfl) (Steps.refl _) (argsL := [(.ref sa535), (.ref sa540), (.ref sa546)]) (rest := []) (lenOf pd__Ljava_lang_String_Ljava_lang_String_Ljava_lang_String__V rfl) rfl (by show 2 * 0 + _ ≤ _; exact Nat.le_of_eq rfl) (hb hby d8_29) (fun _ _ => ⟨rfl, e546, (by decide : 6 + 2 ≤ _), (by decide : 24 + 14 ≤ _)⟩)
  dsimp only [Pt.U, Pt.locs, Pt.cells, Pt.slots] at X553 l553 y553 z553 st553 hQ553
  subst l553 y553 z553
  obtain ⟨rfl, N553q, hz3, W3⟩ := hQ553
  have N554 := Fr.app N0 N553q
  have hLitF : own_Lit (s.setVm T546.vm) := ⟨⟨_, Lq547⟩, ⟨_, Lq548⟩, _, L546⟩
  have hSk := Nat.le_trans hSk hz3
  obtain ⟨fs, hr, hrun, hended, hRE⟩ := X553.leaveW hSn hSk (v := some (.int (1 : Int32))) (fun h => by rw [Bd.returns] at h; cases h)
  refine ⟨_, _, pre0 _ ?_, hrun, hended, _, _, rfl, ⟨?_, (own_Lit.stays (s := s.setVm T546.vm) hLitF X553.warmed.wide).vm rfl⟩, hRE.1, hRE.2.1, hRE.2.2.1, hRE.2.2.2.mono (by decide) (by decide)⟩
  · show Steps p.tables e below (s₁.setTop (mkF m 0 #[.val (.ref r), .val (.int (2 : Int32))] [])) _
    refine XS.iloadN X0.here hx rfl (hb hby d8_0) rfl ?_
    show Steps p.tables e below (s₁.setTop (mkF m 1 #[.val (.ref r), .val (.int (2 : Int32))] [(.int (2 : Int32))])) _
    refine XS.iconst X0.here hx rfl (hb hby d8_1) ?_
    show Steps p.tables e below (s₁.setTop (mkF m 2 #[.val (.ref r), .val (.int (2 : Int32))] [(.int (1 : Int32)), (.int (2 : Int32))])) _
    refine XS.icmpYes X0.here hx rfl (pc0 := 2) (pc' := 17) rfl (hb hby d8_2) rfl (feq (by decide)).2 (by decide) (by decide) ?_
    show Steps p.tables e below (s₁.setTop (mkF m 17 #[.val (.ref r), .val (.int (2 : Int32))] [])) _
    refine XS.iloadN X0.here hx rfl (hb hby d8_17) rfl ?_
    show Steps p.tables e below (s₁.setTop (mkF m 18 #[.val (.ref r), .val (.int (2 : Int32))] [(.int (2 : Int32))])) _
    refine XS.iconst X0.here hx rfl (hb hby d8_18) ?_
    show Steps p.tables e below (s₁.setTop (mkF m 19 #[.val (.ref r), .val (.int (2 : Int32))] [(.int (2 : Int32)), (.int (2 : Int32))])) _
    refine XS.icmpNo X0.here hx rfl (hb hby d8_19) rfl (teq rfl).2 ?_
    show Steps p.tables e below (s₁.setTop (mkF m 22 #[.val (.ref r), .val (.int (2 : Int32))] [])) _
    refine XS.aloadN X0.here hx rfl (hb hby d8_22) rfl rfl ?_
    show Steps p.tables e below (s₁.setTop (mkF m 23 #[.val (.ref r), .val (.int (2 : Int32))] [(.ref r)])) _
    refine st535 _ ?_
    show Steps p.tables e below (T535.setTop (mkF m 25 #[.val (.ref r), .val (.int (2 : Int32))] [(.ref sa535), (.ref r)])) _
    refine st540 _ ?_
    show Steps p.tables e below (T540.setTop (mkF m 27 #[.val (.ref r), .val (.int (2 : Int32))] [(.ref sa540), (.ref sa535), (.ref r)])) _
    refine st546 _ ?_
    show Steps p.tables e below (T546.setTop (mkF m 29 #[.val (.ref r), .val (.int (2 : Int32))] [(.ref sa546), (.ref sa540), (.ref sa535), (.ref r)])) _
    refine st553.trans ?_
    show Steps p.tables e below (T553.setTop (mkF m 32 #[.val (.ref r), .val (.int (2 : Int32))] [])) _
    refine XS.iconst X553.here hx rfl (hb hby d8_32) ?_
    show Steps p.tables e below (T553.setTop (mkF m 33 #[.val (.ref r), .val (.int (2 : Int32))] [(.int (1 : Int32))])) _
    exact retI X553 hx Bd.returns (hb hby d8_33) hr
  · show Qrm8c2 Z r al cb kc dce kd mo k n se h0 n0 _ T553.heap _
    exact ⟨rfl, N554, Nat.le_trans K552.1 hz3, W3⟩
theorem d8_39 : decode method_2_code 39 = .ok (.aload_n 0, 1) := by decide +kernel
theorem d8_40 : decode method_2_code 40 = .ok (.new 22, 3) := by decide +kernel
theorem d8_43 : decode method_2_code 43 = .ok (.dup, 1) := by decide +kernel
theorem d8_44 : decode method_2_code 44 = .ok (.getstatic 24, 3) := by decide +kernel
theorem d8_47 : decode method_2_code 47 = .ok (.ldc 7, 2) := by decide +kernel
theorem d8_49 : decode method_2_code 49 = .ok (.ldc 9, 2) := by decide +kernel
theorem d8_51 : decode method_2_code 51 = .ok (.ldc 11, 2) := by decide +kernel
theorem d8_53 : decode method_2_code 53 = .ok (.invokespecial 30, 3) := by decide +kernel
theorem d8_56 : decode method_2_code 56 = .ok (.invokevirtual 33, 3) := by decide +kernel
theorem d8_59 : decode method_2_code 59 = .ok (.iconst 1, 1) := by decide +kernel
theorem d8_60 : decode method_2_code 60 = .ok (.ireturn, 1) := by decide +kernel
theorem ef_rm8h3 (m : MethodId) (r : Addr) : entryFrame m #[(.ref r), (.int (3 : Int32))] 2 = mkF m 0 #[.val (.ref r), .val (.int (3 : Int32))] [] := by first | (simp [entryFrame, mkF, argsToLocals, Value.category]; done) | rfl
def Qrm8h3 (Z : State) (r : Addr) (al : Addr) (cb : Addr) (kc : ClassId) (dce : Addr) (kd : ClassId) (mo : Int32) (k : Int) (n : Int64) (se : Addr) (h0 : Heap) (n0 : Nat) (v : Option Value) (h : Heap) (L : List Loc) : Prop := v = some (.int 1) ∧ Fr n0 L ∧ h0.size ≤ h.size ∧ own_W Z n0 h r al cb kc dce mo (k + 1) (n + 1)
set_option maxRecDepth 65536 in
set_option maxHeartbeats 40000000 in
theorem rm8h3 (l : Launch) (Z : State) (a0 : Array Value) (hw : ∀ d ∈ tables_1, d.before a0 Z = true) (ws : List Jvm.Cond) (r : Addr) (al : Addr) (cb : Addr) (kc : ClassId) (dce : Addr) (kd : ClassId) (mo : Int32) (k : Int) (n : Int64) (se : Addr) (h0 : Heap) (n0 : Nat) (Z0 : n0 ≤ h0.size) (W1 : own_W Z n0 h0 r al cb kc dce mo k n) (SD : Sta Z Z.heap "java/util/ArrayList" "DEFAULTCAPACITY_EMPTY_ELEMENTDATA" "[Ljava/lang/Object;" (.ref dce)) (AD : Arv Z Z.heap dce kd (.object "java/lang/Object") (0 : Int32) [] .null) (hk3 : 0 ≤ k ∧ k ≤ 3) (Ss : Sta Z Z.heap "com/example/tenon/tenon/Finding$Severity" "NOTE" "Lcom/example/tenon/tenon/Finding$Severity;" (.ref se)) (Es : Exa Z Z.heap se "com/example/tenon/tenon/Finding$Severity") (Fd : Fld Z Z.heap se "java/lang/Enum" "ordinal" "I" (.int (2 : Int32))) :
    MetFree l (⟨"com/example/tenon/tenon/ReportSizePinLaw", "put", "(Lcom/example/tenon/tenon/Report;I)I"⟩ : MethodName) (head1 (Jvm.Cond.code (⟨"com/example/tenon/tenon/ReportSizePinLaw", "put", "(Lcom/example/tenon/tenon/Report;I)I"⟩ : MethodName) method_2_code 2 (some .int) :: ws) ({ frames := 6, cells := 2, slots := 14, locals := 82 } : Room)) (fun a U => a = #[(.ref r), (.int (3 : Int32))] ∧ Z.Warmed39 U.vm ∧ U.heap = h0 ∧ own_Lit U) (fun _ _ _ _ _ => True) (fun _ U o U' => ∃ v L, o = .returned v ∧ Qrm8h3 Z r al cb kc dce kd mo k n se h0 n0 v U'.heap L ∧ FrameEnd U o U' L ({ frames := 6, cells := 2, slots := 14, locals := 82 } : Room).cells ({ frames := 6, cells := 2, slots := 14, locals := 82 } : Room).slots) := by
  refine MetFree.of_bodySF (plainFor_of_name pn_com_example_tenon_tenon_ReportSizePinLaw) hisR ?_
  intro p e s m args below meth c s₁ Bd hml0 hP hK
  obtain ⟨rfl, hZ, hh, hLit⟩ := hP
  have hx := Bd.exec
  have hby := Bd.bytes
  have hml : c.maxLocals = 2 := hml0
  have hown : s.vm.findClass "com/example/tenon/tenon/ReportSizePinLaw" = some m.cls := findClass_of_methodNamed Bd.named
  have hnm := (name_of_methodNamed Bd.named Bd.method).1
  have X0 : Stand p l e ({ frames := 6, cells := 2, slots := 14, locals := 82 } : Room) s m #[(.ref r), (.int (3 : Int32))] below meth c s₁ [] 0 0 := Stand.of_body Bd
  have e0 : s₁.heap = h0 := by rw [← hh, Bd.state]; rfl
  have N0 := Fr.nil n0
  have pre0 : ∀ t, Steps p.tables e below (s₁.setTop (mkF m 0 #[.val (.ref r), .val (.int (3 : Int32))] [])) t → Steps p.tables e below (s₁.setTop (entryFrame m #[(.ref r), (.int (3 : Int32))] 2)) t := fun t k => castTop (ef_rm8h3 m r) k
  obtain ⟨Xo, Zo, gr, -, -, -, -, -, Er, -⟩ := id W1
  have K0 := Keep.refl h0 []
  obtain ⟨⟨s7, Lt7⟩, ⟨s9, Lt9⟩, s11, Lt11⟩ := hLit
  obtain ⟨T555, h555, X555, e555, E555, A555, D555, U555, st555⟩ := newO X0 hx hZ hown (hw _ (List.mem_of_getElem? (i := 68) rfl)) (hw _ (List.mem_of_getElem? (i := 69) rfl)) (hw _ (List.mem_of_getElem? (i := 70) rfl)) e0 (g := (mkF m 40 #[.val (.ref r), .val (.int (3 : Int32))] [(.ref r)])) rfl (hb hby d8_40) (by decide) (by decide)
  obtain ⟨b555, g555⟩ : ∃ z, z = h0.size := ⟨_, rfl⟩
  rw [← g555] at A555 D555 st555
  have g556 : n0 ≤ b555 := Nat.le_trans Zo (Nat.le_of_eq g555.symm)
  have sz557 : h0.size ≤ b555 := Nat.le_trans K0.1 (Nat.le_of_eq g555.symm)
  have ne558 : r ≠ b555 := Nat.ne_of_lt (Nat.lt_of_lt_of_le Er.lt (Nat.le_of_eq g555.symm))
  have f559 := Er.ext E555
  have Zn560 := Nat.le_trans Zo E555.1
  have Od561 := Xo.ext E555
  have K562 := K0.ext E555
  have f563 : Fld Z h555 b555 "com/example/tenon/tenon/Finding" "severity" "Lcom/example/tenon/tenon/Finding$Severity;" .null := D555 (Or.inr (hw _ (List.mem_of_getElem? (i := 92) rfl))) (ty := (.object "com/example/tenon/tenon/Finding$Severity")) (by decide)
  have f564 : Fld Z h555 b555 "com/example/tenon/tenon/Finding" "rule" "Ljava/lang/String;" .null := D555 (Or.inr (hw _ (List.mem_of_getElem? (i := 94) rfl))) (ty := (.object "java/lang/String")) (by decide)
  have f565 : Fld Z h555 b555 "com/example/tenon/tenon/Finding" "subject" "Ljava/lang/String;" .null := D555 (Or.inr (hw _ (List.mem_of_getElem? (i := 96) rfl))) (ty := (.object "java/lang/String")) (by decide)
  have f566 : Fld Z h555 b555 "com/example/tenon/tenon/Finding" "message" "Ljava/lang/String;" .null := D555 (Or.inr (hw _ (List.mem_of_getElem? (i := 98) rfl))) (ty := (.object "java/lang/String")) (by decide)
  obtain ⟨T567, X567, e567, st567⟩ := getS2 X555 hx hZ hown (host := "") (Or.inl (hw _ (List.mem_of_getElem? (i := 71) rfl))) Via.refl e555 (Ss.ext Od561.2) (g := (mkF m 44 #[.val (.ref r), .val (.int (3 : Int32))] [(.ref b555), (.ref b555), (.ref r)])) rfl (hb hby d8_44)
  obtain ⟨_, _, ⟨T568, L568, k568, n568⟩, -, X568, ⟨Lc568, hQ568, l568, y568, z568⟩, st568⟩ := X567.specialBack hx (y := (⟨"com/example/tenon/tenon/Finding", "<init>", "(Lcom/example/tenon/tenon/Finding$Severity;Ljava/lang/String;Ljava/lang/String;Ljava/lang/String;)V"⟩ : MethodName)) rfl hown (mvT hZ (hw _ (List.mem_of_getElem? (i := 82) rfl))) (mvT hZ (hw _ (List.mem_of_getElem? (i := 83) rfl))) (mvT hZ (hw _ (List.mem_of_getElem? (i := 84) rfl))) (by decide) (backOf (W := 2) (rm9 l Z a0 hw [] b555 se s7 s9 s11  h555 n0 Zn560 A555 f563 f564 f565 f566 g556) hZ (hw _ (List.mem_of_getElem? (i := 84) rfl)) (hw _ (List.mem_of_getElem? (i := 70) rfl)) (by decide) (by decide)) (g := (mkF m 53 #[.val (.ref r), .val (.int (3 : Int32))] [(.ref s11), (.ref s9), (.ref s7), (.ref se), (.ref b555), (.ref b555), (.ref r)])) rfl (by rw [hml]; rfl) (Steps.refl _) (a := b555) (argsL := [(.ref se), (.ref s7), (.ref s9), (.ref s11)]) (rest := [(.ref b555), (.ref r)]) (lenOf pd__Lcom_example_tenon_tenon_Finding_Severity_Ljava_lang_String_Ljava_lang_String_Ljava_lang_String__V rfl) rfl (by show 2 * 0 + _ ≤ _; exact Nat.le_of_eq rfl) (hb hby d8_53) (fun _ _ => ⟨rfl, e567, (by decide : 1 + 0 ≤ _), (by decide : 4 + 0 ≤ _)⟩)
  dsimp only [Pt.U, Pt.locs, Pt.cells, Pt.slots] at X568 l568 y568 z568 st568 hQ568
  subst l568 y568 z568
  obtain ⟨rfl, N568q, Kf568, Fv568⟩ := hQ568
  have N569 := Fr.app N0 N568q
  have f570 := f559.keep Kf568
  have f571 := A555.keep Kf568
  have Zn572 := Nat.le_trans Zn560 Kf568.1
  have Od573 := Od561.keep Kf568 (allS g556 all0)
  have K574 := K562.trans Kf568 (allS (Or.inr sz557) all0)
  have W2 := own_W_keep W1 K574
  obtain ⟨cq575, kq575, q575a, q575b, q575c⟩ := isOf hZ rfl f570
  obtain ⟨_, _, ⟨T575, L575, k575, n575⟩, -, X575, ⟨Lc575, hQ575, l575, y575, z575⟩, st575⟩ := X568.virtualBack hx (y := (⟨"com/example/tenon/tenon/Report", "add", "(Lcom/example/tenon/tenon/Finding;)V"⟩ : MethodName)) (z := (⟨"com/example/tenon/tenon/Report", "add", "(Lcom/example/tenon/tenon/Finding;)V"⟩ : MethodName)) hown (mvT hZ (hw _ (List.mem_of_getElem? (i := 99) rfl))) (mvT hZ (hw _ (List.mem_of_getElem? (i := 100) rfl))) (notFace_of_selects (args := #[]) (mvT hZ (hw _ (List.mem_of_getElem? (i := 102) rfl)))) (mvT hZ (hw _ (List.mem_of_getElem? (i := 102) rfl))) (mvT hZ (hw _ (List.mem_of_getElem? (i := 101) rfl))) (by decide) (backOf (W := 0) (rm11_2 l Z a0 hw [] r b555 al cb kc dce kd mo k n se T568.heap n0 Zn572 W2 SD AD hk3 f571 Fv568 Es Fd) hZ (hw _ (List.mem_of_getElem? (i := 103) rfl)) (hw _ (List.mem_of_getElem? (i := 2) rfl)) (by decide) (by decide)) q575a q575c (g := (mkF m 56 #[.val (.ref r), .val (.int (3 : Int32))] [(.ref b555), (.ref r)])) rfl (by rw [hml]; rfl) (Steps.refl _) (argsL := [(.ref b555)]) (rest := []) (lenOf pd__Lcom_example_tenon_tenon_Finding__V rfl) rfl (by show 2 * 0 + _ ≤ _; exact Nat.le_of_eq rfl) (hb hby d8_56) (fun _ _ => ⟨rfl, rfl, (by decide : 1 + 1 ≤ _), (by decide : 4 + 10 ≤ _)⟩)
  dsimp only [Pt.U, Pt.locs, Pt.cells, Pt.slots] at X575 l575 y575 z575 st575 hQ575
  subst l575 y575 z575
  obtain ⟨rfl, N575q, hz3, W3⟩ := hQ575
  have N576 := Fr.app N569 N575q
  obtain ⟨fs, hr, hrun, hended, hW, hsame⟩ := X575.leave (v := some (.int (1 : Int32))) (fun h => by rw [Bd.returns] at h; cases h)
  refine ⟨_, _, pre0 _ ?_, hrun, hended, _, _, rfl, ?_, ⟨_, rfl⟩, hW, hsame.mono (by decide) (by decide)⟩
  · show Steps p.tables e below (s₁.setTop (mkF m 0 #[.val (.ref r), .val (.int (3 : Int32))] [])) _
    refine XS.iloadN X0.here hx rfl (hb hby d8_0) rfl ?_
    show Steps p.tables e below (s₁.setTop (mkF m 1 #[.val (.ref r), .val (.int (3 : Int32))] [(.int (3 : Int32))])) _
    refine XS.iconst X0.here hx rfl (hb hby d8_1) ?_
    show Steps p.tables e below (s₁.setTop (mkF m 2 #[.val (.ref r), .val (.int (3 : Int32))] [(.int (1 : Int32)), (.int (3 : Int32))])) _
    refine XS.icmpYes X0.here hx rfl (pc0 := 2) (pc' := 17) rfl (hb hby d8_2) rfl (feq (by decide)).2 (by decide) (by decide) ?_
    show Steps p.tables e below (s₁.setTop (mkF m 17 #[.val (.ref r), .val (.int (3 : Int32))] [])) _
    refine XS.iloadN X0.here hx rfl (hb hby d8_17) rfl ?_
    show Steps p.tables e below (s₁.setTop (mkF m 18 #[.val (.ref r), .val (.int (3 : Int32))] [(.int (3 : Int32))])) _
    refine XS.iconst X0.here hx rfl (hb hby d8_18) ?_
    show Steps p.tables e below (s₁.setTop (mkF m 19 #[.val (.ref r), .val (.int (3 : Int32))] [(.int (2 : Int32)), (.int (3 : Int32))])) _
    refine XS.icmpYes X0.here hx rfl (pc0 := 19) (pc' := 34) rfl (hb hby d8_19) rfl (feq (by decide)).2 (by decide) (by decide) ?_
    show Steps p.tables e below (s₁.setTop (mkF m 34 #[.val (.ref r), .val (.int (3 : Int32))] [])) _
    refine XS.iloadN X0.here hx rfl (hb hby d8_34) rfl ?_
    show Steps p.tables e below (s₁.setTop (mkF m 35 #[.val (.ref r), .val (.int (3 : Int32))] [(.int (3 : Int32))])) _
    refine XS.iconst X0.here hx rfl (hb hby d8_35) ?_
    show Steps p.tables e below (s₁.setTop (mkF m 36 #[.val (.ref r), .val (.int (3 : Int32))] [(.int (3 : Int32)), (.int (3 : Int32))])) _
    refine XS.icmpNo X0.here hx rfl (hb hby d8_36) rfl (teq rfl).2 ?_
    show Steps p.tables e below (s₁.setTop (mkF m 39 #[.val (.ref r), .val (.int (3 : Int32))] [])) _
    refine XS.aloadN X0.here hx rfl (hb hby d8_39) rfl rfl ?_
    show Steps p.tables e below (s₁.setTop (mkF m 40 #[.val (.ref r), .val (.int (3 : Int32))] [(.ref r)])) _
    refine st555 _ ?_
    show Steps p.tables e below (T555.setTop (mkF m 43 #[.val (.ref r), .val (.int (3 : Int32))] [(.ref b555), (.ref r)])) _
    refine XS.dup X555.here hx rfl (hb hby d8_43) rfl rfl ?_
    show Steps p.tables e below (T555.setTop (mkF m 44 #[.val (.ref r), .val (.int (3 : Int32))] [(.ref b555), (.ref b555), (.ref r)])) _
    refine st567 _ ?_
    show Steps p.tables e below (T567.setTop (mkF m 47 #[.val (.ref r), .val (.int (3 : Int32))] [(.ref se), (.ref b555), (.ref b555), (.ref r)])) _
    refine own_again X567 hx hZ hown (hw _ (List.mem_of_getElem? (i := 72) rfl)) Lt7 (g := (mkF m 47 #[.val (.ref r), .val (.int (3 : Int32))] [(.ref se), (.ref b555), (.ref b555), (.ref r)])) rfl (hb hby d8_47) _ ?_
    show Steps p.tables e below (T567.setTop (mkF m 49 #[.val (.ref r), .val (.int (3 : Int32))] [(.ref s7), (.ref se), (.ref b555), (.ref b555), (.ref r)])) _
    refine own_again X567 hx hZ hown (hw _ (List.mem_of_getElem? (i := 80) rfl)) Lt9 (g := (mkF m 49 #[.val (.ref r), .val (.int (3 : Int32))] [(.ref s7), (.ref se), (.ref b555), (.ref b555), (.ref r)])) rfl (hb hby d8_49) _ ?_
    show Steps p.tables e below (T567.setTop (mkF m 51 #[.val (.ref r), .val (.int (3 : Int32))] [(.ref s9), (.ref s7), (.ref se), (.ref b555), (.ref b555), (.ref r)])) _
    refine own_again X567 hx hZ hown (hw _ (List.mem_of_getElem? (i := 81) rfl)) Lt11 (g := (mkF m 51 #[.val (.ref r), .val (.int (3 : Int32))] [(.ref s9), (.ref s7), (.ref se), (.ref b555), (.ref b555), (.ref r)])) rfl (hb hby d8_51) _ ?_
    show Steps p.tables e below (T567.setTop (mkF m 53 #[.val (.ref r), .val (.int (3 : Int32))] [(.ref s11), (.ref s9), (.ref s7), (.ref se), (.ref b555), (.ref b555), (.ref r)])) _
    refine st568.trans ?_
    show Steps p.tables e below (T568.setTop (mkF m 56 #[.val (.ref r), .val (.int (3 : Int32))] [(.ref b555), (.ref r)])) _
    refine st575.trans ?_
    show Steps p.tables e below (T575.setTop (mkF m 59 #[.val (.ref r), .val (.int (3 : Int32))] [])) _
    refine XS.iconst X575.here hx rfl (hb hby d8_59) ?_
    show Steps p.tables e below (T575.setTop (mkF m 60 #[.val (.ref r), .val (.int (3 : Int32))] [(.int (1 : Int32))])) _
    exact retI X575 hx Bd.returns (hb hby d8_60) hr
  · show Qrm8h3 Z r al cb kc dce kd mo k n se h0 n0 _ T575.heap _
    exact ⟨rfl, N576, Nat.le_trans K574.1 hz3, W3⟩
theorem ef_rm8c3 (m : MethodId) (r : Addr) : entryFrame m #[(.ref r), (.int (3 : Int32))] 2 = mkF m 0 #[.val (.ref r), .val (.int (3 : Int32))] [] := by first | (simp [entryFrame, mkF, argsToLocals, Value.category]; done) | rfl
def Qrm8c3 (Z : State) (r : Addr) (al : Addr) (cb : Addr) (kc : ClassId) (dce : Addr) (kd : ClassId) (mo : Int32) (k : Int) (n : Int64) (se : Addr) (h0 : Heap) (n0 : Nat) (v : Option Value) (h : Heap) (L : List Loc) : Prop := v = some (.int 1) ∧ Fr n0 L ∧ h0.size ≤ h.size ∧ own_W Z n0 h r al cb kc dce mo (k + 1) (n + 1)
set_option maxRecDepth 65536 in
set_option maxHeartbeats 40000000 in
theorem rm8c3 (l : Launch) (Z : State) (a0 : Array Value) (hw : ∀ d ∈ tables_1, d.before a0 Z = true) (ws : List Jvm.Cond) (r : Addr) (al : Addr) (cb : Addr) (kc : ClassId) (dce : Addr) (kd : ClassId) (mo : Int32) (k : Int) (n : Int64) (se : Addr) (h0 : Heap) (n0 : Nat) (Z0 : n0 ≤ h0.size) (W1 : own_W Z n0 h0 r al cb kc dce mo k n) (SD : Sta Z Z.heap "java/util/ArrayList" "DEFAULTCAPACITY_EMPTY_ELEMENTDATA" "[Ljava/lang/Object;" (.ref dce)) (AD : Arv Z Z.heap dce kd (.object "java/lang/Object") (0 : Int32) [] .null) (hk3 : 0 ≤ k ∧ k ≤ 3) (Ss : Sta Z Z.heap "com/example/tenon/tenon/Finding$Severity" "NOTE" "Lcom/example/tenon/tenon/Finding$Severity;" (.ref se)) (Es : Exa Z Z.heap se "com/example/tenon/tenon/Finding$Severity") (Fd : Fld Z Z.heap se "java/lang/Enum" "ordinal" "I" (.int (2 : Int32))) :
    MetFree l (⟨"com/example/tenon/tenon/ReportSizePinLaw", "put", "(Lcom/example/tenon/tenon/Report;I)I"⟩ : MethodName) (head1 (Jvm.Cond.code (⟨"com/example/tenon/tenon/ReportSizePinLaw", "put", "(Lcom/example/tenon/tenon/Report;I)I"⟩ : MethodName) method_2_code 2 (some .int) :: ws) ({ frames := 6, cells := 8, slots := 38, locals := 82 } : Room)) (fun a U => a = #[(.ref r), (.int (3 : Int32))] ∧ Z.Warmed39 U.vm ∧ U.heap = h0) (fun _ _ _ _ _ => True) (fun _ U o U' => ∃ v L, o = .returned v ∧ (Qrm8c3 Z r al cb kc dce kd mo k n se h0 n0 v U'.heap L ∧ own_Lit U') ∧ ReturnedEndW U o U' L ({ frames := 6, cells := 8, slots := 38, locals := 82 } : Room).cells ({ frames := 6, cells := 8, slots := 38, locals := 82 } : Room).slots) := by
  refine MetFree.of_bodySF (plainFor_of_name pn_com_example_tenon_tenon_ReportSizePinLaw) hisR ?_
  intro p e s m args below meth c s₁ Bd hml0 hP hK
  obtain ⟨rfl, hZ, hh⟩ := hP
  have hx := Bd.exec
  have hby := Bd.bytes
  have hml : c.maxLocals = 2 := hml0
  have hown : s.vm.findClass "com/example/tenon/tenon/ReportSizePinLaw" = some m.cls := findClass_of_methodNamed Bd.named
  have hnm := (name_of_methodNamed Bd.named Bd.method).1
  have X0 : Stand p l e ({ frames := 6, cells := 8, slots := 38, locals := 82 } : Room) s m #[(.ref r), (.int (3 : Int32))] below meth c s₁ [] 0 0 := Stand.of_body Bd
  have e0 : s₁.heap = h0 := by rw [← hh, Bd.state]; rfl
  have N0 := Fr.nil n0
  have pre0 : ∀ t, Steps p.tables e below (s₁.setTop (mkF m 0 #[.val (.ref r), .val (.int (3 : Int32))] [])) t → Steps p.tables e below (s₁.setTop (entryFrame m #[(.ref r), (.int (3 : Int32))] 2)) t := fun t k => castTop (ef_rm8c3 m r) k
  obtain ⟨Xo, Zo, gr, -, -, -, -, -, Er, -⟩ := id W1
  have K0 := Keep.refl h0 []
  obtain ⟨T577, h577, X577, e577, E577, A577, D577, U577, st577⟩ := newO X0 hx hZ hown (hw _ (List.mem_of_getElem? (i := 68) rfl)) (hw _ (List.mem_of_getElem? (i := 69) rfl)) (hw _ (List.mem_of_getElem? (i := 70) rfl)) e0 (g := (mkF m 40 #[.val (.ref r), .val (.int (3 : Int32))] [(.ref r)])) rfl (hb hby d8_40) (by decide) (by decide)
  obtain ⟨b577, g577⟩ : ∃ z, z = h0.size := ⟨_, rfl⟩
  rw [← g577] at A577 D577 st577
  have g578 : n0 ≤ b577 := Nat.le_trans Zo (Nat.le_of_eq g577.symm)
  have sz579 : h0.size ≤ b577 := Nat.le_trans K0.1 (Nat.le_of_eq g577.symm)
  have ne580 : r ≠ b577 := Nat.ne_of_lt (Nat.lt_of_lt_of_le Er.lt (Nat.le_of_eq g577.symm))
  have f581 := Er.ext E577
  have Zn582 := Nat.le_trans Zo E577.1
  have Od583 := Xo.ext E577
  have K584 := K0.ext E577
  have f585 : Fld Z h577 b577 "com/example/tenon/tenon/Finding" "severity" "Lcom/example/tenon/tenon/Finding$Severity;" .null := D577 (Or.inr (hw _ (List.mem_of_getElem? (i := 92) rfl))) (ty := (.object "com/example/tenon/tenon/Finding$Severity")) (by decide)
  have f586 : Fld Z h577 b577 "com/example/tenon/tenon/Finding" "rule" "Ljava/lang/String;" .null := D577 (Or.inr (hw _ (List.mem_of_getElem? (i := 94) rfl))) (ty := (.object "java/lang/String")) (by decide)
  have f587 : Fld Z h577 b577 "com/example/tenon/tenon/Finding" "subject" "Ljava/lang/String;" .null := D577 (Or.inr (hw _ (List.mem_of_getElem? (i := 96) rfl))) (ty := (.object "java/lang/String")) (by decide)
  have f588 : Fld Z h577 b577 "com/example/tenon/tenon/Finding" "message" "Ljava/lang/String;" .null := D577 (Or.inr (hw _ (List.mem_of_getElem? (i := 98) rfl))) (ty := (.object "java/lang/String")) (by decide)
  obtain ⟨T589, X589, e589, st589⟩ := getS2 X577 hx hZ hown (host := "") (Or.inl (hw _ (List.mem_of_getElem? (i := 71) rfl))) Via.refl e577 (Ss.ext Od583.2) (g := (mkF m 44 #[.val (.ref r), .val (.int (3 : Int32))] [(.ref b577), (.ref b577), (.ref r)])) rfl (hb hby d8_44)
  have Xb : Stand p l e ({ frames := 6, cells := 8, slots := 38, locals := 82 } : Room) (s.setVm s.vm) m #[(.ref r), (.int (3 : Int32))] below meth c T589 [] 1 4 := by rw [own_setVm]; exact X589
  have hZ : Z.Warmed39 (s.setVm s.vm).vm := hZ
  have hown : (s.setVm s.vm).vm.findClass "com/example/tenon/tenon/ReportSizePinLaw" = some m.cls := hown
  have hSn : s.Since s.vm 0 := (State.WarmedH.refl s).since 0
  have hSk : 0 ≤ h577.size := Nat.zero_le _
  have hwS : ∀ a ∈ Bundle.stringAtoms, a.before a0 Z = true := fun d hd => hw d ((by decide +kernel : ∀ d ∈ Bundle.stringAtoms, d ∈ tables_1) d hd)
  obtain ⟨sa590, T590, h590, k590, X590, e590, E590, hSn, hSk, hZ, hown, L590, hW590, st590⟩ := own_ldc Xb hx hZ hown (hw _ (List.mem_of_getElem? (i := 72) rfl)) hwS e589 hSn hSk (g := (mkF m 47 #[.val (.ref r), .val (.int (3 : Int32))] [(.ref se), (.ref b577), (.ref b577), (.ref r)])) rfl (hb hby d8_47) (n := 4) (by decide) (by decide) (by decide) (by decide)
  have f591 := f581.ext E590
  have f592 := A577.ext E590
  have f593 := f585.ext E590
  have f594 := f586.ext E590
  have f595 := f587.ext E590
  have f596 := f588.ext E590
  have Zn597 := Nat.le_trans Zn582 E590.1
  have Od598 := Od583.ext E590
  have K599 := K584.ext E590
  obtain ⟨sa600, T600, h600, k600, X600, e600, E600, hSn, hSk, hZ, hown, L600, hW600, st600⟩ := own_ldc X590 hx hZ hown (hw _ (List.mem_of_getElem? (i := 80) rfl)) hwS e590 hSn hSk (g := (mkF m 49 #[.val (.ref r), .val (.int (3 : Int32))] [(.ref sa590), (.ref se), (.ref b577), (.ref b577), (.ref r)])) rfl (hb hby d8_49) (n := 4) (by decide) (by decide) (by decide) (by decide)
  have Lq601 : Lit (s.setVm T600.vm) "com/example/tenon/tenon/ReportSizePinLaw" 7 _ := own_lit_stays (s := s.setVm T590.vm) L590 hW600
  have f602 := f591.ext E600
  have f603 := f592.ext E600
  have f604 := f593.ext E600
  have f605 := f594.ext E600
  have f606 := f595.ext E600
  have f607 := f596.ext E600
  have Zn608 := Nat.le_trans Zn597 E600.1
  have Od609 := Od598.ext E600
  have K610 := K599.ext E600
  obtain ⟨sa611, T611, h611, k611, X611, e611, E611, hSn, hSk, hZ, hown, L611, hW611, st611⟩ := own_ldc X600 hx hZ hown (hw _ (List.mem_of_getElem? (i := 81) rfl)) hwS e600 hSn hSk (g := (mkF m 51 #[.val (.ref r), .val (.int (3 : Int32))] [(.ref sa600), (.ref sa590), (.ref se), (.ref b577), (.ref b577), (.ref r)])) rfl (hb hby d8_51) (n := 4) (by decide) (by decide) (by decide) (by decide)
  have Lq612 : Lit (s.setVm T611.vm) "com/example/tenon/tenon/ReportSizePinLaw" 7 _ := own_lit_stays (s := s.setVm T600.vm) Lq601 hW611
  have Lq613 : Lit (s.setVm T611.vm) "com/example/tenon/tenon/ReportSizePinLaw" 9 _ := own_lit_stays (s := s.setVm T600.vm) L600 hW611
  have f614 := f602.ext E611
  have f615 := f603.ext E611
  have f616 := f604.ext E611
  have f617 := f605.ext E611
  have f618 := f606.ext E611
  have f619 := f607.ext E611
  have Zn620 := Nat.le_trans Zn608 E611.1
  have Od621 := Od609.ext E611
  have K622 := K610.ext E611
  obtain ⟨_, _, ⟨T623, L623, k623, n623⟩, -, X623, ⟨Lc623, hQ623, l623, y623, z623⟩, st623⟩ := X611.specialBack hx (y := (⟨"com/example/tenon/tenon/Finding", "<init>", "(Lcom/example/tenon/tenon/Finding$Severity;Ljava/lang/String;Ljava/lang/String;Ljava/lang/String;)V"⟩ : MethodName)) rfl hown (mvT hZ (hw _ (List.mem_of_getElem? (i := 82) rfl))) (mvT hZ (hw _ (List.mem_of_getElem? (i := 83) rfl))) (mvT hZ (hw _ (List.mem_of_getElem? (i := 84) rfl))) (by decide) (backOf (W := 2) (rm9 l Z a0 hw [] b577 se sa590 sa600 sa611  h611 n0 Zn620 f615 f616 f617 f618 f619 g578) hZ (hw _ (List.mem_of_getElem? (i := 84) rfl)) (hw _ (List.mem_of_getElem? (i := 70) rfl)) (by decide) (by decide)) (g := (mkF m 53 #[.val (.ref r), .val (.int (3 : Int32))] [(.ref sa611), (.ref sa600), (.ref sa590), (.ref se), (.ref b577), (.ref b577), (.ref r)])) rfl (by rw [hml]; rfl) (Steps.refl _) (a := b577) (argsL := [(.ref se), (.ref sa590), (.ref sa600), (.ref sa611)]) (rest := [(.ref b577), (.ref r)]) (lenOf pd__Lcom_example_tenon_tenon_Finding_Severity_Ljava_lang_String_Ljava_lang_String_Ljava_lang_String__V rfl) rfl (by show 2 * 0 + _ ≤ _; exact Nat.le_of_eq rfl) (hb hby d8_53) (fun _ _ => ⟨rfl, e611, (by decide : 7 + 0 ≤ _), (by decide : 28 + 0 ≤ _)⟩)
  dsimp only [Pt.U, Pt.locs, Pt.cells, Pt.slots] at X623 l623 y623 z623 st623 hQ623
  subst l623 y623 z623
  obtain ⟨rfl, N623q, Kf623, Fv623⟩ := hQ623
  have N624 := Fr.app N0 N623q
  have f625 := f614.keep Kf623
  have f626 := f615.keep Kf623
  have Zn627 := Nat.le_trans Zn620 Kf623.1
  have Od628 := Od621.keep Kf623 (allS g578 all0)
  have K629 := K622.trans Kf623 (allS (Or.inr sz579) all0)
  have W2 := own_W_keep W1 K629
  obtain ⟨cq630, kq630, q630a, q630b, q630c⟩ := isOf hZ rfl f625
  obtain ⟨_, _, ⟨T630, L630, k630, n630⟩, -, X630, ⟨Lc630, hQ630, l630, y630, z630⟩, st630⟩ := X623.virtualBack hx (y := (⟨"com/example/tenon/tenon/Report", "add", "(Lcom/example/tenon/tenon/Finding;)V"⟩ : MethodName)) (z := (⟨"com/example/tenon/tenon/Report", "add", "(Lcom/example/tenon/tenon/Finding;)V"⟩ : MethodName)) hown (mvT hZ (hw _ (List.mem_of_getElem? (i := 99) rfl))) (mvT hZ (hw _ (List.mem_of_getElem? (i := 100) rfl))) (notFace_of_selects (args := #[]) (mvT hZ (hw _ (List.mem_of_getElem? (i := 102) rfl)))) (mvT hZ (hw _ (List.mem_of_getElem? (i := 102) rfl))) (mvT hZ (hw _ (List.mem_of_getElem? (i := 101) rfl))) (by decide) (backOf (W := 0) (rm11_2 l Z a0 hw [] r b577 al cb kc dce kd mo k n se T623.heap n0 Zn627 W2 SD AD hk3 f626 Fv623 Es Fd) hZ (hw _ (List.mem_of_getElem? (i := 103) rfl)) (hw _ (List.mem_of_getElem? (i := 2) rfl)) (by decide) (by decide)) q630a q630c (g := (mkF m 56 #[.val (.ref r), .val (.int (3 : Int32))] [(.ref b577), (.ref r)])) rfl (by rw [hml]; rfl) (Steps.refl _) (argsL := [(.ref b577)]) (rest := []) (lenOf pd__Lcom_example_tenon_tenon_Finding__V rfl) rfl (by show 2 * 0 + _ ≤ _; exact Nat.le_of_eq rfl) (hb hby d8_56) (fun _ _ => ⟨rfl, rfl, (by decide : 7 + 1 ≤ _), (by decide : 28 + 10 ≤ _)⟩)
  dsimp only [Pt.U, Pt.locs, Pt.cells, Pt.slots] at X630 l630 y630 z630 st630 hQ630
  subst l630 y630 z630
  obtain ⟨rfl, N630q, hz3, W3⟩ := hQ630
  have N631 := Fr.app N624 N630q
  have hLitF : own_Lit (s.setVm T611.vm) := ⟨⟨_, Lq612⟩, ⟨_, Lq613⟩, _, L611⟩
  have hSk := Nat.le_trans hSk (Nat.le_trans Kf623.1 hz3)
  obtain ⟨fs, hr, hrun, hended, hRE⟩ := X630.leaveW hSn hSk (v := some (.int (1 : Int32))) (fun h => by rw [Bd.returns] at h; cases h)
  refine ⟨_, _, pre0 _ ?_, hrun, hended, _, _, rfl, ⟨?_, (own_Lit.stays (s := s.setVm T611.vm) hLitF X630.warmed.wide).vm rfl⟩, hRE.1, hRE.2.1, hRE.2.2.1, hRE.2.2.2.mono (by decide) (by decide)⟩
  · show Steps p.tables e below (s₁.setTop (mkF m 0 #[.val (.ref r), .val (.int (3 : Int32))] [])) _
    refine XS.iloadN X0.here hx rfl (hb hby d8_0) rfl ?_
    show Steps p.tables e below (s₁.setTop (mkF m 1 #[.val (.ref r), .val (.int (3 : Int32))] [(.int (3 : Int32))])) _
    refine XS.iconst X0.here hx rfl (hb hby d8_1) ?_
    show Steps p.tables e below (s₁.setTop (mkF m 2 #[.val (.ref r), .val (.int (3 : Int32))] [(.int (1 : Int32)), (.int (3 : Int32))])) _
    refine XS.icmpYes X0.here hx rfl (pc0 := 2) (pc' := 17) rfl (hb hby d8_2) rfl (feq (by decide)).2 (by decide) (by decide) ?_
    show Steps p.tables e below (s₁.setTop (mkF m 17 #[.val (.ref r), .val (.int (3 : Int32))] [])) _
    refine XS.iloadN X0.here hx rfl (hb hby d8_17) rfl ?_
    show Steps p.tables e below (s₁.setTop (mkF m 18 #[.val (.ref r), .val (.int (3 : Int32))] [(.int (3 : Int32))])) _
    refine XS.iconst X0.here hx rfl (hb hby d8_18) ?_
    show Steps p.tables e below (s₁.setTop (mkF m 19 #[.val (.ref r), .val (.int (3 : Int32))] [(.int (2 : Int32)), (.int (3 : Int32))])) _
    refine XS.icmpYes X0.here hx rfl (pc0 := 19) (pc' := 34) rfl (hb hby d8_19) rfl (feq (by decide)).2 (by decide) (by decide) ?_
    show Steps p.tables e below (s₁.setTop (mkF m 34 #[.val (.ref r), .val (.int (3 : Int32))] [])) _
    refine XS.iloadN X0.here hx rfl (hb hby d8_34) rfl ?_
    show Steps p.tables e below (s₁.setTop (mkF m 35 #[.val (.ref r), .val (.int (3 : Int32))] [(.int (3 : Int32))])) _
    refine XS.iconst X0.here hx rfl (hb hby d8_35) ?_
    show Steps p.tables e below (s₁.setTop (mkF m 36 #[.val (.ref r), .val (.int (3 : Int32))] [(.int (3 : Int32)), (.int (3 : Int32))])) _
    refine XS.icmpNo X0.here hx rfl (hb hby d8_36) rfl (teq rfl).2 ?_
    show Steps p.tables e below (s₁.setTop (mkF m 39 #[.val (.ref r), .val (.int (3 : Int32))] [])) _
    refine XS.aloadN X0.here hx rfl (hb hby d8_39) rfl rfl ?_
    show Steps p.tables e below (s₁.setTop (mkF m 40 #[.val (.ref r), .val (.int (3 : Int32))] [(.ref r)])) _
    refine st577 _ ?_
    show Steps p.tables e below (T577.setTop (mkF m 43 #[.val (.ref r), .val (.int (3 : Int32))] [(.ref b577), (.ref r)])) _
    refine XS.dup X577.here hx rfl (hb hby d8_43) rfl rfl ?_
    show Steps p.tables e below (T577.setTop (mkF m 44 #[.val (.ref r), .val (.int (3 : Int32))] [(.ref b577), (.ref b577), (.ref r)])) _
    refine st589 _ ?_
    show Steps p.tables e below (T589.setTop (mkF m 47 #[.val (.ref r), .val (.int (3 : Int32))] [(.ref se), (.ref b577), (.ref b577), (.ref r)])) _
    refine st590 _ ?_
    show Steps p.tables e below (T590.setTop (mkF m 49 #[.val (.ref r), .val (.int (3 : Int32))] [(.ref sa590), (.ref se), (.ref b577), (.ref b577), (.ref r)])) _
    refine st600 _ ?_
    show Steps p.tables e below (T600.setTop (mkF m 51 #[.val (.ref r), .val (.int (3 : Int32))] [(.ref sa600), (.ref sa590), (.ref se), (.ref b577), (.ref b577), (.ref r)])) _
    refine st611 _ ?_
    show Steps p.tables e below (T611.setTop (mkF m 53 #[.val (.ref r), .val (.int (3 : Int32))] [(.ref sa611), (.ref sa600), (.ref sa590), (.ref se), (.ref b577), (.ref b577), (.ref r)])) _
    refine st623.trans ?_
    show Steps p.tables e below (T623.setTop (mkF m 56 #[.val (.ref r), .val (.int (3 : Int32))] [(.ref b577), (.ref r)])) _
    refine st630.trans ?_
    show Steps p.tables e below (T630.setTop (mkF m 59 #[.val (.ref r), .val (.int (3 : Int32))] [])) _
    refine XS.iconst X630.here hx rfl (hb hby d8_59) ?_
    show Steps p.tables e below (T630.setTop (mkF m 60 #[.val (.ref r), .val (.int (3 : Int32))] [(.int (1 : Int32))])) _
    exact retI X630 hx Bd.returns (hb hby d8_60) hr
  · show Qrm8c3 Z r al cb kc dce kd mo k n se h0 n0 _ T630.heap _
    exact ⟨rfl, N631, Nat.le_trans K629.1 hz3, W3⟩
def own_p32 (x : Int32) : Int32 := if x = (1 : Int32) then 1 else if x = (2 : Int32) then 1 else if x = (3 : Int32) then 1 else 0
def own_p64 (x : Int32) : Int64 := if x = (1 : Int32) then 1 else if x = (2 : Int32) then 1 else if x = (3 : Int32) then 1 else 0
theorem own_pp (x : Int32) : (own_p32 x = 0 ∧ own_p64 x = 0) ∨ (own_p32 x = 1 ∧ own_p64 x = 1) := by
  unfold own_p32 own_p64
  by_cases h1 : x = 1
  · simp [h1]
  · by_cases h2 : x = 2
    · simp [h2]
    · by_cases h3 : x = 3
      · simp [h3]
      · simp [h1, h2, h3]
theorem own_sum (a b c d : Int32) : (0 : Int64) + own_p64 a + own_p64 b + own_p64 c + own_p64 d = ((((0 : Int32) + own_p32 a) + own_p32 b) + own_p32 c + own_p32 d).toInt64 := by
  rcases own_pp a with ⟨a1, a2⟩ | ⟨a1, a2⟩ <;> rcases own_pp b with ⟨b1, b2⟩ | ⟨b1, b2⟩ <;> rcases own_pp c with ⟨c1, c2⟩ | ⟨c1, c2⟩ <;> rcases own_pp d with ⟨d1, d2⟩ | ⟨d1, d2⟩ <;> rw [a1, a2, b1, b2, c1, c2, d1, d2] <;> decide
theorem own_W_mono {Z : State} {n0 : Nat} {h : Heap} {r al cb dce : Addr} {kc : ClassId} {mo : Int32} {k k' : Int} {n : Int64} (W : own_W Z n0 h r al cb kc dce mo k n) (hk : k ≤ k') : own_W Z n0 h r al cb kc dce mo k' n := by
  obtain ⟨Xo, Zo, gr, ga, gc, nra, nrc, nac, Er, Ff, Fc, Fo, Ea, hLS, q⟩ := W
  exact ⟨Xo, Zo, gr, ga, gc, nra, nrc, nac, Er, Ff, Fc, Fo, Ea, hLS.imp id (fun ⟨ed, ke, sz, a, b, c⟩ => ⟨ed, ke, sz, a, b, Int.le_trans c hk⟩), q⟩
def own_I (Z s : State) (p : Program) (l : Launch) (e : Env) (m : MethodId) (args : Array Value) (below : List Frame) (meth : Method) (c : Code) (n0 : Nat) (r al cb : Addr) (kc : ClassId) (dce : Addr) (mo : Int32) (j : Nat) (n : Int64) (T : State) : Prop :=
  ∃ (vm0 : Vm) (k0 : Nat) (locs : List Loc) (cells slots : Nat), Stand p l e room_1 (s.setVm vm0) m args below meth c T locs cells slots ∧ s.Since vm0 k0 ∧ k0 ≤ T.heap.size ∧ Z.Warmed39 vm0 ∧ vm0.findClass "com/example/tenon/tenon/ReportSizePinLaw" = some m.cls ∧ Fr n0 locs ∧ own_W Z n0 T.heap r al cb kc dce mo (j : Int) n ∧
    ((cells ≤ 4 + 2 * j ∧ slots ≤ 12 + 14 * j) ∨ (own_Lit (s.setVm vm0) ∧ cells ≤ 10 + 2 * j ∧ slots ≤ 36 + 14 * j))
theorem pd__Lcom_example_tenon_tenon_Report_I_I : parseMethodDescriptor "(Lcom/example/tenon/tenon/Report;I)I" = some ⟨[(.object "com/example/tenon/tenon/Report"), .int], some .int⟩ := by decide +kernel
set_option maxRecDepth 65536 in
set_option maxHeartbeats 40000000 in
theorem seg0 {p : Program} {l : Launch} {e : Env} {s : State} {m : MethodId} {args : Array Value} {below : List Frame} {meth : Method} {c : Code} {T0 : State} {Z : State} {a0 : Array Value} {n0 : Nat} {r al cb dce e1 e2 e3 : Addr} {kc kd : ClassId} {mo q0 q1 c5 : Int32} {n b4 : Int64}
    (hx : p.tables.exec = Jvm.exec) (hw : ∀ d ∈ tables_1, d.before a0 Z = true) (hby : c.code = code) (hml : c.maxLocals = 10) (SD : Sta Z Z.heap "java/util/ArrayList" "DEFAULTCAPACITY_EMPTY_ELEMENTDATA" "[Ljava/lang/Object;" (.ref dce)) (AD : Arv Z Z.heap dce kd (.object "java/lang/Object") (0 : Int32) [] .null) (S_e1 : Sta Z Z.heap "com/example/tenon/tenon/Finding$Severity" "ERROR" "Lcom/example/tenon/tenon/Finding$Severity;" (.ref e1)) (E_e1 : Exa Z Z.heap e1 "com/example/tenon/tenon/Finding$Severity") (F_e1 : Fld Z Z.heap e1 "java/lang/Enum" "ordinal" "I" (.int (0 : Int32))) (S_e2 : Sta Z Z.heap "com/example/tenon/tenon/Finding$Severity" "WARNING" "Lcom/example/tenon/tenon/Finding$Severity;" (.ref e2)) (E_e2 : Exa Z Z.heap e2 "com/example/tenon/tenon/Finding$Severity") (F_e2 : Fld Z Z.heap e2 "java/lang/Enum" "ordinal" "I" (.int (1 : Int32))) (S_e3 : Sta Z Z.heap "com/example/tenon/tenon/Finding$Severity" "NOTE" "Lcom/example/tenon/tenon/Finding$Severity;" (.ref e3)) (E_e3 : Exa Z Z.heap e3 "com/example/tenon/tenon/Finding$Severity") (F_e3 : Fld Z Z.heap e3 "java/lang/Enum" "ordinal" "I" (.int (2 : Int32))) (hI : own_I Z s p l e m args below meth c n0 r al cb kc dce mo 0 n T0) :
    ∃ T' : State, own_I Z s p l e m args below meth c n0 r al cb kc dce mo 1 (n + own_p64 (q1 &&& (3 : Int32))) T' ∧ ∀ target, Steps p.tables e below (T'.setTop (mkF m 29 #[.val (.int q0), .val (.int q1), .val (.ref r), .val (.long b4), .second, .val (.int (c5 + own_p32 (q1 &&& (3 : Int32)))), .unset, .unset, .unset, .unset] [])) target → Steps p.tables e below (T0.setTop (mkF m 17 #[.val (.int q0), .val (.int q1), .val (.ref r), .val (.long b4), .second, .val (.int c5), .unset, .unset, .unset, .unset] [])) target := by
  obtain ⟨vm0, k0, locs, cells, slots, X0, hSn, hSk, hZ, hown, N0, W1, hB⟩ := hI
  have hZ : Z.Warmed39 (s.setVm vm0).vm := hZ
  have hown : (s.setVm vm0).vm.findClass "com/example/tenon/tenon/ReportSizePinLaw" = some m.cls := hown
  have Zo := W1.2.1
  by_cases hc1 : (q1 &&& (3 : Int32)) = (1 : Int32)
  · rw [show own_p32 (q1 &&& (3 : Int32)) = 1 from by unfold own_p32; rw [if_pos hc1], show own_p64 (q1 &&& (3 : Int32)) = 1 from by unfold own_p64; rw [if_pos hc1]]
    rcases hB with hB | ⟨hL, hB⟩
    · obtain ⟨_, _, ⟨T632, L632, k632, n632⟩, -, X632, hS2, hsz, ⟨Lc632, hQ632, l632, y632, z632⟩, st632⟩ := callSS X0 hx (y := (⟨"com/example/tenon/tenon/ReportSizePinLaw", "put", "(Lcom/example/tenon/tenon/Report;I)I"⟩ : MethodName)) hown (mvT hZ (hw _ (List.mem_of_getElem? (i := 64) rfl))) (mvT hZ (hw _ (List.mem_of_getElem? (i := 65) rfl))) (mvT hZ (hw _ (List.mem_of_getElem? (i := 66) rfl))) (mvT hZ (hw _ (List.mem_of_getElem? (i := 67) rfl))) (by decide) (own_backS (W := 1) (rm8c1 l Z a0 hw [] r al cb kc dce kd mo (0 : Int) n e1 T0.heap n0 Zo W1 SD AD (by decide) S_e1 E_e1 F_e1) hZ (hw _ (List.mem_of_getElem? (i := 67) rfl)) (hw _ (List.mem_of_getElem? (i := 66) rfl)) (by decide) (by decide)) (g := (mkF m 23 #[.val (.int q0), .val (.int q1), .val (.ref r), .val (.long b4), .second, .val (.int c5), .unset, .unset, .unset, .unset] [(.int (1 : Int32)), (.ref r), (.int c5)])) rfl (by rw [hml]; rfl) (argsL := [(.ref r), (.int (1 : Int32))]) (rest := [(.int c5)]) (lenOf pd__Lcom_example_tenon_tenon_Report_I_I rfl) rfl (by show 2 * 0 + _ ≤ _; exact Nat.le_of_eq rfl) (hb hby at_23) (fun _ _ => ⟨rfl, rfl, (by show cells + 8 ≤ 32; omega), (by show slots + 38 ≤ 3264; omega)⟩)
      dsimp only [Pt.U, Pt.locs, Pt.cells, Pt.slots] at X632 l632 y632 z632 st632 hQ632 hS2 hsz
      subst l632 y632 z632
      obtain ⟨⟨rfl, N632q, hz3, W3⟩, hLn⟩ := hQ632
      have hf : T632.vm.findClass "com/example/tenon/tenon/ReportSizePinLaw" = some m.cls := by rw [hS2.1.alike.findClass]; exact hown
      refine ⟨T632, ⟨T632.vm, _, _, _, _, X632, hSn.trans hS2 (Nat.le_trans hSk hsz), Nat.le_refl _, State.Warmed39.trans (t := s.setVm vm0) hZ hS2.1, hf, Fr.app N0 N632q, W3, Or.inr ⟨hLn.vm rfl, by omega, by omega⟩⟩, fun target kt => ?_⟩
      show Steps p.tables e below (T0.setTop (mkF m 17 #[.val (.int q0), .val (.int q1), .val (.ref r), .val (.long b4), .second, .val (.int c5), .unset, .unset, .unset, .unset] [])) _
      refine XS.iload X0.here hx rfl (hb hby at_17) rfl ?_
      show Steps p.tables e below (T0.setTop (mkF m 19 #[.val (.int q0), .val (.int q1), .val (.ref r), .val (.long b4), .second, .val (.int c5), .unset, .unset, .unset, .unset] [(.int c5)])) _
      refine XS.aloadN X0.here hx rfl (hb hby at_19) rfl rfl ?_
      show Steps p.tables e below (T0.setTop (mkF m 20 #[.val (.int q0), .val (.int q1), .val (.ref r), .val (.long b4), .second, .val (.int c5), .unset, .unset, .unset, .unset] [(.ref r), (.int c5)])) _
      refine XS.iloadN X0.here hx rfl (hb hby at_20) rfl ?_
      show Steps p.tables e below (T0.setTop (mkF m 21 #[.val (.int q0), .val (.int q1), .val (.ref r), .val (.long b4), .second, .val (.int c5), .unset, .unset, .unset, .unset] [(.int q1), (.ref r), (.int c5)])) _
      refine XS.iconst X0.here hx rfl (hb hby at_21) ?_
      show Steps p.tables e below (T0.setTop (mkF m 22 #[.val (.int q0), .val (.int q1), .val (.ref r), .val (.long b4), .second, .val (.int c5), .unset, .unset, .unset, .unset] [(.int (3 : Int32)), (.int q1), (.ref r), (.int c5)])) _
      refine XS.iand X0.here hx rfl (hb hby at_22) rfl ?_
      show Steps p.tables e below (T0.setTop (mkF m 23 #[.val (.int q0), .val (.int q1), .val (.ref r), .val (.long b4), .second, .val (.int c5), .unset, .unset, .unset, .unset] [(.int (q1 &&& (3 : Int32))), (.ref r), (.int c5)])) _
      rw [hc1]
      show Steps p.tables e below (T0.setTop (mkF m 23 #[.val (.int q0), .val (.int q1), .val (.ref r), .val (.long b4), .second, .val (.int c5), .unset, .unset, .unset, .unset] [(.int (1 : Int32)), (.ref r), (.int c5)])) _
      refine st632.trans ?_
      show Steps p.tables e below (T632.setTop (mkF m 26 #[.val (.int q0), .val (.int q1), .val (.ref r), .val (.long b4), .second, .val (.int c5), .unset, .unset, .unset, .unset] [(.int (1 : Int32)), (.int c5)])) _
      refine XS.iadd X632.here hx rfl (hb hby at_26) rfl ?_
      show Steps p.tables e below (T632.setTop (mkF m 27 #[.val (.int q0), .val (.int q1), .val (.ref r), .val (.long b4), .second, .val (.int c5), .unset, .unset, .unset, .unset] [(.int (c5 + (1 : Int32)))])) _
      refine XS.istore X632.here hx rfl (hb hby at_27) rfl (l' := #[.val (.int q0), .val (.int q1), .val (.ref r), .val (.long b4), .second, .val (.int (c5 + (1 : Int32))), .unset, .unset, .unset, .unset]) rfl ?_
      show Steps p.tables e below (T632.setTop (mkF m 29 #[.val (.int q0), .val (.int q1), .val (.ref r), .val (.long b4), .second, .val (.int (c5 + (1 : Int32))), .unset, .unset, .unset, .unset] [])) _
      exact kt
    · obtain ⟨_, _, ⟨T633, L633, k633, n633⟩, -, X633, ⟨Lc633, hQ633, l633, y633, z633⟩, st633⟩ := Jvm.LawKit.callS X0 hx (y := (⟨"com/example/tenon/tenon/ReportSizePinLaw", "put", "(Lcom/example/tenon/tenon/Report;I)I"⟩ : MethodName)) hown (mvT hZ (hw _ (List.mem_of_getElem? (i := 64) rfl))) (mvT hZ (hw _ (List.mem_of_getElem? (i := 65) rfl))) (mvT hZ (hw _ (List.mem_of_getElem? (i := 66) rfl))) (mvT hZ (hw _ (List.mem_of_getElem? (i := 67) rfl))) (by decide) (own_backL (W := 1) (rm8h1 l Z a0 hw [] r al cb kc dce kd mo (0 : Int) n e1 T0.heap n0 Zo W1 SD AD (by decide) S_e1 E_e1 F_e1) hZ (hw _ (List.mem_of_getElem? (i := 67) rfl)) (hw _ (List.mem_of_getElem? (i := 66) rfl)) (by decide) (by decide)) (g := (mkF m 23 #[.val (.int q0), .val (.int q1), .val (.ref r), .val (.long b4), .second, .val (.int c5), .unset, .unset, .unset, .unset] [(.int (1 : Int32)), (.ref r), (.int c5)])) rfl (by rw [hml]; rfl) (argsL := [(.ref r), (.int (1 : Int32))]) (rest := [(.int c5)]) (lenOf pd__Lcom_example_tenon_tenon_Report_I_I rfl) rfl (by show 2 * 0 + _ ≤ _; exact Nat.le_of_eq rfl) (hb hby at_23) (fun vm₁ hW₁ => ⟨rfl, rfl, (hL.stays hW₁.wide).vm rfl, (by show cells + 2 ≤ 32; omega), (by show slots + 14 ≤ 3264; omega)⟩)
      dsimp only [Pt.U, Pt.locs, Pt.cells, Pt.slots] at X633 l633 y633 z633 st633 hQ633
      subst l633 y633 z633
      obtain ⟨rfl, N633q, hz3, W3⟩ := hQ633
      refine ⟨T633, ⟨vm0, k0, _, _, _, X633, hSn, Nat.le_trans hSk hz3, hZ, hown, Fr.app N0 N633q, W3, Or.inr ⟨hL, by omega, by omega⟩⟩, fun target kt => ?_⟩
      show Steps p.tables e below (T0.setTop (mkF m 17 #[.val (.int q0), .val (.int q1), .val (.ref r), .val (.long b4), .second, .val (.int c5), .unset, .unset, .unset, .unset] [])) _
      refine XS.iload X0.here hx rfl (hb hby at_17) rfl ?_
      show Steps p.tables e below (T0.setTop (mkF m 19 #[.val (.int q0), .val (.int q1), .val (.ref r), .val (.long b4), .second, .val (.int c5), .unset, .unset, .unset, .unset] [(.int c5)])) _
      refine XS.aloadN X0.here hx rfl (hb hby at_19) rfl rfl ?_
      show Steps p.tables e below (T0.setTop (mkF m 20 #[.val (.int q0), .val (.int q1), .val (.ref r), .val (.long b4), .second, .val (.int c5), .unset, .unset, .unset, .unset] [(.ref r), (.int c5)])) _
      refine XS.iloadN X0.here hx rfl (hb hby at_20) rfl ?_
      show Steps p.tables e below (T0.setTop (mkF m 21 #[.val (.int q0), .val (.int q1), .val (.ref r), .val (.long b4), .second, .val (.int c5), .unset, .unset, .unset, .unset] [(.int q1), (.ref r), (.int c5)])) _
      refine XS.iconst X0.here hx rfl (hb hby at_21) ?_
      show Steps p.tables e below (T0.setTop (mkF m 22 #[.val (.int q0), .val (.int q1), .val (.ref r), .val (.long b4), .second, .val (.int c5), .unset, .unset, .unset, .unset] [(.int (3 : Int32)), (.int q1), (.ref r), (.int c5)])) _
      refine XS.iand X0.here hx rfl (hb hby at_22) rfl ?_
      show Steps p.tables e below (T0.setTop (mkF m 23 #[.val (.int q0), .val (.int q1), .val (.ref r), .val (.long b4), .second, .val (.int c5), .unset, .unset, .unset, .unset] [(.int (q1 &&& (3 : Int32))), (.ref r), (.int c5)])) _
      rw [hc1]
      show Steps p.tables e below (T0.setTop (mkF m 23 #[.val (.int q0), .val (.int q1), .val (.ref r), .val (.long b4), .second, .val (.int c5), .unset, .unset, .unset, .unset] [(.int (1 : Int32)), (.ref r), (.int c5)])) _
      refine st633 _ ?_
      show Steps p.tables e below (T633.setTop (mkF m 26 #[.val (.int q0), .val (.int q1), .val (.ref r), .val (.long b4), .second, .val (.int c5), .unset, .unset, .unset, .unset] [(.int (1 : Int32)), (.int c5)])) _
      refine XS.iadd X633.here hx rfl (hb hby at_26) rfl ?_
      show Steps p.tables e below (T633.setTop (mkF m 27 #[.val (.int q0), .val (.int q1), .val (.ref r), .val (.long b4), .second, .val (.int c5), .unset, .unset, .unset, .unset] [(.int (c5 + (1 : Int32)))])) _
      refine XS.istore X633.here hx rfl (hb hby at_27) rfl (l' := #[.val (.int q0), .val (.int q1), .val (.ref r), .val (.long b4), .second, .val (.int (c5 + (1 : Int32))), .unset, .unset, .unset, .unset]) rfl ?_
      show Steps p.tables e below (T633.setTop (mkF m 29 #[.val (.int q0), .val (.int q1), .val (.ref r), .val (.long b4), .second, .val (.int (c5 + (1 : Int32))), .unset, .unset, .unset, .unset] [])) _
      exact kt
  by_cases hc2 : (q1 &&& (3 : Int32)) = (2 : Int32)
  · rw [show own_p32 (q1 &&& (3 : Int32)) = 1 from by unfold own_p32; rw [if_neg hc1, if_pos hc2], show own_p64 (q1 &&& (3 : Int32)) = 1 from by unfold own_p64; rw [if_neg hc1, if_pos hc2]]
    rcases hB with hB | ⟨hL, hB⟩
    · obtain ⟨_, _, ⟨T634, L634, k634, n634⟩, -, X634, hS2, hsz, ⟨Lc634, hQ634, l634, y634, z634⟩, st634⟩ := callSS X0 hx (y := (⟨"com/example/tenon/tenon/ReportSizePinLaw", "put", "(Lcom/example/tenon/tenon/Report;I)I"⟩ : MethodName)) hown (mvT hZ (hw _ (List.mem_of_getElem? (i := 64) rfl))) (mvT hZ (hw _ (List.mem_of_getElem? (i := 65) rfl))) (mvT hZ (hw _ (List.mem_of_getElem? (i := 66) rfl))) (mvT hZ (hw _ (List.mem_of_getElem? (i := 67) rfl))) (by decide) (own_backS (W := 1) (rm8c2 l Z a0 hw [] r al cb kc dce kd mo (0 : Int) n e2 T0.heap n0 Zo W1 SD AD (by decide) S_e2 E_e2 F_e2) hZ (hw _ (List.mem_of_getElem? (i := 67) rfl)) (hw _ (List.mem_of_getElem? (i := 66) rfl)) (by decide) (by decide)) (g := (mkF m 23 #[.val (.int q0), .val (.int q1), .val (.ref r), .val (.long b4), .second, .val (.int c5), .unset, .unset, .unset, .unset] [(.int (2 : Int32)), (.ref r), (.int c5)])) rfl (by rw [hml]; rfl) (argsL := [(.ref r), (.int (2 : Int32))]) (rest := [(.int c5)]) (lenOf pd__Lcom_example_tenon_tenon_Report_I_I rfl) rfl (by show 2 * 0 + _ ≤ _; exact Nat.le_of_eq rfl) (hb hby at_23) (fun _ _ => ⟨rfl, rfl, (by show cells + 8 ≤ 32; omega), (by show slots + 38 ≤ 3264; omega)⟩)
      dsimp only [Pt.U, Pt.locs, Pt.cells, Pt.slots] at X634 l634 y634 z634 st634 hQ634 hS2 hsz
      subst l634 y634 z634
      obtain ⟨⟨rfl, N634q, hz3, W3⟩, hLn⟩ := hQ634
      have hf : T634.vm.findClass "com/example/tenon/tenon/ReportSizePinLaw" = some m.cls := by rw [hS2.1.alike.findClass]; exact hown
      refine ⟨T634, ⟨T634.vm, _, _, _, _, X634, hSn.trans hS2 (Nat.le_trans hSk hsz), Nat.le_refl _, State.Warmed39.trans (t := s.setVm vm0) hZ hS2.1, hf, Fr.app N0 N634q, W3, Or.inr ⟨hLn.vm rfl, by omega, by omega⟩⟩, fun target kt => ?_⟩
      show Steps p.tables e below (T0.setTop (mkF m 17 #[.val (.int q0), .val (.int q1), .val (.ref r), .val (.long b4), .second, .val (.int c5), .unset, .unset, .unset, .unset] [])) _
      refine XS.iload X0.here hx rfl (hb hby at_17) rfl ?_
      show Steps p.tables e below (T0.setTop (mkF m 19 #[.val (.int q0), .val (.int q1), .val (.ref r), .val (.long b4), .second, .val (.int c5), .unset, .unset, .unset, .unset] [(.int c5)])) _
      refine XS.aloadN X0.here hx rfl (hb hby at_19) rfl rfl ?_
      show Steps p.tables e below (T0.setTop (mkF m 20 #[.val (.int q0), .val (.int q1), .val (.ref r), .val (.long b4), .second, .val (.int c5), .unset, .unset, .unset, .unset] [(.ref r), (.int c5)])) _
      refine XS.iloadN X0.here hx rfl (hb hby at_20) rfl ?_
      show Steps p.tables e below (T0.setTop (mkF m 21 #[.val (.int q0), .val (.int q1), .val (.ref r), .val (.long b4), .second, .val (.int c5), .unset, .unset, .unset, .unset] [(.int q1), (.ref r), (.int c5)])) _
      refine XS.iconst X0.here hx rfl (hb hby at_21) ?_
      show Steps p.tables e below (T0.setTop (mkF m 22 #[.val (.int q0), .val (.int q1), .val (.ref r), .val (.long b4), .second, .val (.int c5), .unset, .unset, .unset, .unset] [(.int (3 : Int32)), (.int q1), (.ref r), (.int c5)])) _
      refine XS.iand X0.here hx rfl (hb hby at_22) rfl ?_
      show Steps p.tables e below (T0.setTop (mkF m 23 #[.val (.int q0), .val (.int q1), .val (.ref r), .val (.long b4), .second, .val (.int c5), .unset, .unset, .unset, .unset] [(.int (q1 &&& (3 : Int32))), (.ref r), (.int c5)])) _
      rw [hc2]
      show Steps p.tables e below (T0.setTop (mkF m 23 #[.val (.int q0), .val (.int q1), .val (.ref r), .val (.long b4), .second, .val (.int c5), .unset, .unset, .unset, .unset] [(.int (2 : Int32)), (.ref r), (.int c5)])) _
      refine st634.trans ?_
      show Steps p.tables e below (T634.setTop (mkF m 26 #[.val (.int q0), .val (.int q1), .val (.ref r), .val (.long b4), .second, .val (.int c5), .unset, .unset, .unset, .unset] [(.int (1 : Int32)), (.int c5)])) _
      refine XS.iadd X634.here hx rfl (hb hby at_26) rfl ?_
      show Steps p.tables e below (T634.setTop (mkF m 27 #[.val (.int q0), .val (.int q1), .val (.ref r), .val (.long b4), .second, .val (.int c5), .unset, .unset, .unset, .unset] [(.int (c5 + (1 : Int32)))])) _
      refine XS.istore X634.here hx rfl (hb hby at_27) rfl (l' := #[.val (.int q0), .val (.int q1), .val (.ref r), .val (.long b4), .second, .val (.int (c5 + (1 : Int32))), .unset, .unset, .unset, .unset]) rfl ?_
      show Steps p.tables e below (T634.setTop (mkF m 29 #[.val (.int q0), .val (.int q1), .val (.ref r), .val (.long b4), .second, .val (.int (c5 + (1 : Int32))), .unset, .unset, .unset, .unset] [])) _
      exact kt
    · obtain ⟨_, _, ⟨T635, L635, k635, n635⟩, -, X635, ⟨Lc635, hQ635, l635, y635, z635⟩, st635⟩ := Jvm.LawKit.callS X0 hx (y := (⟨"com/example/tenon/tenon/ReportSizePinLaw", "put", "(Lcom/example/tenon/tenon/Report;I)I"⟩ : MethodName)) hown (mvT hZ (hw _ (List.mem_of_getElem? (i := 64) rfl))) (mvT hZ (hw _ (List.mem_of_getElem? (i := 65) rfl))) (mvT hZ (hw _ (List.mem_of_getElem? (i := 66) rfl))) (mvT hZ (hw _ (List.mem_of_getElem? (i := 67) rfl))) (by decide) (own_backL (W := 1) (rm8h2 l Z a0 hw [] r al cb kc dce kd mo (0 : Int) n e2 T0.heap n0 Zo W1 SD AD (by decide) S_e2 E_e2 F_e2) hZ (hw _ (List.mem_of_getElem? (i := 67) rfl)) (hw _ (List.mem_of_getElem? (i := 66) rfl)) (by decide) (by decide)) (g := (mkF m 23 #[.val (.int q0), .val (.int q1), .val (.ref r), .val (.long b4), .second, .val (.int c5), .unset, .unset, .unset, .unset] [(.int (2 : Int32)), (.ref r), (.int c5)])) rfl (by rw [hml]; rfl) (argsL := [(.ref r), (.int (2 : Int32))]) (rest := [(.int c5)]) (lenOf pd__Lcom_example_tenon_tenon_Report_I_I rfl) rfl (by show 2 * 0 + _ ≤ _; exact Nat.le_of_eq rfl) (hb hby at_23) (fun vm₁ hW₁ => ⟨rfl, rfl, (hL.stays hW₁.wide).vm rfl, (by show cells + 2 ≤ 32; omega), (by show slots + 14 ≤ 3264; omega)⟩)
      dsimp only [Pt.U, Pt.locs, Pt.cells, Pt.slots] at X635 l635 y635 z635 st635 hQ635
      subst l635 y635 z635
      obtain ⟨rfl, N635q, hz3, W3⟩ := hQ635
      refine ⟨T635, ⟨vm0, k0, _, _, _, X635, hSn, Nat.le_trans hSk hz3, hZ, hown, Fr.app N0 N635q, W3, Or.inr ⟨hL, by omega, by omega⟩⟩, fun target kt => ?_⟩
      show Steps p.tables e below (T0.setTop (mkF m 17 #[.val (.int q0), .val (.int q1), .val (.ref r), .val (.long b4), .second, .val (.int c5), .unset, .unset, .unset, .unset] [])) _
      refine XS.iload X0.here hx rfl (hb hby at_17) rfl ?_
      show Steps p.tables e below (T0.setTop (mkF m 19 #[.val (.int q0), .val (.int q1), .val (.ref r), .val (.long b4), .second, .val (.int c5), .unset, .unset, .unset, .unset] [(.int c5)])) _
      refine XS.aloadN X0.here hx rfl (hb hby at_19) rfl rfl ?_
      show Steps p.tables e below (T0.setTop (mkF m 20 #[.val (.int q0), .val (.int q1), .val (.ref r), .val (.long b4), .second, .val (.int c5), .unset, .unset, .unset, .unset] [(.ref r), (.int c5)])) _
      refine XS.iloadN X0.here hx rfl (hb hby at_20) rfl ?_
      show Steps p.tables e below (T0.setTop (mkF m 21 #[.val (.int q0), .val (.int q1), .val (.ref r), .val (.long b4), .second, .val (.int c5), .unset, .unset, .unset, .unset] [(.int q1), (.ref r), (.int c5)])) _
      refine XS.iconst X0.here hx rfl (hb hby at_21) ?_
      show Steps p.tables e below (T0.setTop (mkF m 22 #[.val (.int q0), .val (.int q1), .val (.ref r), .val (.long b4), .second, .val (.int c5), .unset, .unset, .unset, .unset] [(.int (3 : Int32)), (.int q1), (.ref r), (.int c5)])) _
      refine XS.iand X0.here hx rfl (hb hby at_22) rfl ?_
      show Steps p.tables e below (T0.setTop (mkF m 23 #[.val (.int q0), .val (.int q1), .val (.ref r), .val (.long b4), .second, .val (.int c5), .unset, .unset, .unset, .unset] [(.int (q1 &&& (3 : Int32))), (.ref r), (.int c5)])) _
      rw [hc2]
      show Steps p.tables e below (T0.setTop (mkF m 23 #[.val (.int q0), .val (.int q1), .val (.ref r), .val (.long b4), .second, .val (.int c5), .unset, .unset, .unset, .unset] [(.int (2 : Int32)), (.ref r), (.int c5)])) _
      refine st635 _ ?_
      show Steps p.tables e below (T635.setTop (mkF m 26 #[.val (.int q0), .val (.int q1), .val (.ref r), .val (.long b4), .second, .val (.int c5), .unset, .unset, .unset, .unset] [(.int (1 : Int32)), (.int c5)])) _
      refine XS.iadd X635.here hx rfl (hb hby at_26) rfl ?_
      show Steps p.tables e below (T635.setTop (mkF m 27 #[.val (.int q0), .val (.int q1), .val (.ref r), .val (.long b4), .second, .val (.int c5), .unset, .unset, .unset, .unset] [(.int (c5 + (1 : Int32)))])) _
      refine XS.istore X635.here hx rfl (hb hby at_27) rfl (l' := #[.val (.int q0), .val (.int q1), .val (.ref r), .val (.long b4), .second, .val (.int (c5 + (1 : Int32))), .unset, .unset, .unset, .unset]) rfl ?_
      show Steps p.tables e below (T635.setTop (mkF m 29 #[.val (.int q0), .val (.int q1), .val (.ref r), .val (.long b4), .second, .val (.int (c5 + (1 : Int32))), .unset, .unset, .unset, .unset] [])) _
      exact kt
  by_cases hc3 : (q1 &&& (3 : Int32)) = (3 : Int32)
  · rw [show own_p32 (q1 &&& (3 : Int32)) = 1 from by unfold own_p32; rw [if_neg hc1, if_neg hc2, if_pos hc3], show own_p64 (q1 &&& (3 : Int32)) = 1 from by unfold own_p64; rw [if_neg hc1, if_neg hc2, if_pos hc3]]
    rcases hB with hB | ⟨hL, hB⟩
    · obtain ⟨_, _, ⟨T636, L636, k636, n636⟩, -, X636, hS2, hsz, ⟨Lc636, hQ636, l636, y636, z636⟩, st636⟩ := callSS X0 hx (y := (⟨"com/example/tenon/tenon/ReportSizePinLaw", "put", "(Lcom/example/tenon/tenon/Report;I)I"⟩ : MethodName)) hown (mvT hZ (hw _ (List.mem_of_getElem? (i := 64) rfl))) (mvT hZ (hw _ (List.mem_of_getElem? (i := 65) rfl))) (mvT hZ (hw _ (List.mem_of_getElem? (i := 66) rfl))) (mvT hZ (hw _ (List.mem_of_getElem? (i := 67) rfl))) (by decide) (own_backS (W := 1) (rm8c3 l Z a0 hw [] r al cb kc dce kd mo (0 : Int) n e3 T0.heap n0 Zo W1 SD AD (by decide) S_e3 E_e3 F_e3) hZ (hw _ (List.mem_of_getElem? (i := 67) rfl)) (hw _ (List.mem_of_getElem? (i := 66) rfl)) (by decide) (by decide)) (g := (mkF m 23 #[.val (.int q0), .val (.int q1), .val (.ref r), .val (.long b4), .second, .val (.int c5), .unset, .unset, .unset, .unset] [(.int (3 : Int32)), (.ref r), (.int c5)])) rfl (by rw [hml]; rfl) (argsL := [(.ref r), (.int (3 : Int32))]) (rest := [(.int c5)]) (lenOf pd__Lcom_example_tenon_tenon_Report_I_I rfl) rfl (by show 2 * 0 + _ ≤ _; exact Nat.le_of_eq rfl) (hb hby at_23) (fun _ _ => ⟨rfl, rfl, (by show cells + 8 ≤ 32; omega), (by show slots + 38 ≤ 3264; omega)⟩)
      dsimp only [Pt.U, Pt.locs, Pt.cells, Pt.slots] at X636 l636 y636 z636 st636 hQ636 hS2 hsz
      subst l636 y636 z636
      obtain ⟨⟨rfl, N636q, hz3, W3⟩, hLn⟩ := hQ636
      have hf : T636.vm.findClass "com/example/tenon/tenon/ReportSizePinLaw" = some m.cls := by rw [hS2.1.alike.findClass]; exact hown
      refine ⟨T636, ⟨T636.vm, _, _, _, _, X636, hSn.trans hS2 (Nat.le_trans hSk hsz), Nat.le_refl _, State.Warmed39.trans (t := s.setVm vm0) hZ hS2.1, hf, Fr.app N0 N636q, W3, Or.inr ⟨hLn.vm rfl, by omega, by omega⟩⟩, fun target kt => ?_⟩
      show Steps p.tables e below (T0.setTop (mkF m 17 #[.val (.int q0), .val (.int q1), .val (.ref r), .val (.long b4), .second, .val (.int c5), .unset, .unset, .unset, .unset] [])) _
      refine XS.iload X0.here hx rfl (hb hby at_17) rfl ?_
      show Steps p.tables e below (T0.setTop (mkF m 19 #[.val (.int q0), .val (.int q1), .val (.ref r), .val (.long b4), .second, .val (.int c5), .unset, .unset, .unset, .unset] [(.int c5)])) _
      refine XS.aloadN X0.here hx rfl (hb hby at_19) rfl rfl ?_
      show Steps p.tables e below (T0.setTop (mkF m 20 #[.val (.int q0), .val (.int q1), .val (.ref r), .val (.long b4), .second, .val (.int c5), .unset, .unset, .unset, .unset] [(.ref r), (.int c5)])) _
      refine XS.iloadN X0.here hx rfl (hb hby at_20) rfl ?_
      show Steps p.tables e below (T0.setTop (mkF m 21 #[.val (.int q0), .val (.int q1), .val (.ref r), .val (.long b4), .second, .val (.int c5), .unset, .unset, .unset, .unset] [(.int q1), (.ref r), (.int c5)])) _
      refine XS.iconst X0.here hx rfl (hb hby at_21) ?_
      show Steps p.tables e below (T0.setTop (mkF m 22 #[.val (.int q0), .val (.int q1), .val (.ref r), .val (.long b4), .second, .val (.int c5), .unset, .unset, .unset, .unset] [(.int (3 : Int32)), (.int q1), (.ref r), (.int c5)])) _
      refine XS.iand X0.here hx rfl (hb hby at_22) rfl ?_
      show Steps p.tables e below (T0.setTop (mkF m 23 #[.val (.int q0), .val (.int q1), .val (.ref r), .val (.long b4), .second, .val (.int c5), .unset, .unset, .unset, .unset] [(.int (q1 &&& (3 : Int32))), (.ref r), (.int c5)])) _
      rw [hc3]
      show Steps p.tables e below (T0.setTop (mkF m 23 #[.val (.int q0), .val (.int q1), .val (.ref r), .val (.long b4), .second, .val (.int c5), .unset, .unset, .unset, .unset] [(.int (3 : Int32)), (.ref r), (.int c5)])) _
      refine st636.trans ?_
      show Steps p.tables e below (T636.setTop (mkF m 26 #[.val (.int q0), .val (.int q1), .val (.ref r), .val (.long b4), .second, .val (.int c5), .unset, .unset, .unset, .unset] [(.int (1 : Int32)), (.int c5)])) _
      refine XS.iadd X636.here hx rfl (hb hby at_26) rfl ?_
      show Steps p.tables e below (T636.setTop (mkF m 27 #[.val (.int q0), .val (.int q1), .val (.ref r), .val (.long b4), .second, .val (.int c5), .unset, .unset, .unset, .unset] [(.int (c5 + (1 : Int32)))])) _
      refine XS.istore X636.here hx rfl (hb hby at_27) rfl (l' := #[.val (.int q0), .val (.int q1), .val (.ref r), .val (.long b4), .second, .val (.int (c5 + (1 : Int32))), .unset, .unset, .unset, .unset]) rfl ?_
      show Steps p.tables e below (T636.setTop (mkF m 29 #[.val (.int q0), .val (.int q1), .val (.ref r), .val (.long b4), .second, .val (.int (c5 + (1 : Int32))), .unset, .unset, .unset, .unset] [])) _
      exact kt
    · obtain ⟨_, _, ⟨T637, L637, k637, n637⟩, -, X637, ⟨Lc637, hQ637, l637, y637, z637⟩, st637⟩ := Jvm.LawKit.callS X0 hx (y := (⟨"com/example/tenon/tenon/ReportSizePinLaw", "put", "(Lcom/example/tenon/tenon/Report;I)I"⟩ : MethodName)) hown (mvT hZ (hw _ (List.mem_of_getElem? (i := 64) rfl))) (mvT hZ (hw _ (List.mem_of_getElem? (i := 65) rfl))) (mvT hZ (hw _ (List.mem_of_getElem? (i := 66) rfl))) (mvT hZ (hw _ (List.mem_of_getElem? (i := 67) rfl))) (by decide) (own_backL (W := 1) (rm8h3 l Z a0 hw [] r al cb kc dce kd mo (0 : Int) n e3 T0.heap n0 Zo W1 SD AD (by decide) S_e3 E_e3 F_e3) hZ (hw _ (List.mem_of_getElem? (i := 67) rfl)) (hw _ (List.mem_of_getElem? (i := 66) rfl)) (by decide) (by decide)) (g := (mkF m 23 #[.val (.int q0), .val (.int q1), .val (.ref r), .val (.long b4), .second, .val (.int c5), .unset, .unset, .unset, .unset] [(.int (3 : Int32)), (.ref r), (.int c5)])) rfl (by rw [hml]; rfl) (argsL := [(.ref r), (.int (3 : Int32))]) (rest := [(.int c5)]) (lenOf pd__Lcom_example_tenon_tenon_Report_I_I rfl) rfl (by show 2 * 0 + _ ≤ _; exact Nat.le_of_eq rfl) (hb hby at_23) (fun vm₁ hW₁ => ⟨rfl, rfl, (hL.stays hW₁.wide).vm rfl, (by show cells + 2 ≤ 32; omega), (by show slots + 14 ≤ 3264; omega)⟩)
      dsimp only [Pt.U, Pt.locs, Pt.cells, Pt.slots] at X637 l637 y637 z637 st637 hQ637
      subst l637 y637 z637
      obtain ⟨rfl, N637q, hz3, W3⟩ := hQ637
      refine ⟨T637, ⟨vm0, k0, _, _, _, X637, hSn, Nat.le_trans hSk hz3, hZ, hown, Fr.app N0 N637q, W3, Or.inr ⟨hL, by omega, by omega⟩⟩, fun target kt => ?_⟩
      show Steps p.tables e below (T0.setTop (mkF m 17 #[.val (.int q0), .val (.int q1), .val (.ref r), .val (.long b4), .second, .val (.int c5), .unset, .unset, .unset, .unset] [])) _
      refine XS.iload X0.here hx rfl (hb hby at_17) rfl ?_
      show Steps p.tables e below (T0.setTop (mkF m 19 #[.val (.int q0), .val (.int q1), .val (.ref r), .val (.long b4), .second, .val (.int c5), .unset, .unset, .unset, .unset] [(.int c5)])) _
      refine XS.aloadN X0.here hx rfl (hb hby at_19) rfl rfl ?_
      show Steps p.tables e below (T0.setTop (mkF m 20 #[.val (.int q0), .val (.int q1), .val (.ref r), .val (.long b4), .second, .val (.int c5), .unset, .unset, .unset, .unset] [(.ref r), (.int c5)])) _
      refine XS.iloadN X0.here hx rfl (hb hby at_20) rfl ?_
      show Steps p.tables e below (T0.setTop (mkF m 21 #[.val (.int q0), .val (.int q1), .val (.ref r), .val (.long b4), .second, .val (.int c5), .unset, .unset, .unset, .unset] [(.int q1), (.ref r), (.int c5)])) _
      refine XS.iconst X0.here hx rfl (hb hby at_21) ?_
      show Steps p.tables e below (T0.setTop (mkF m 22 #[.val (.int q0), .val (.int q1), .val (.ref r), .val (.long b4), .second, .val (.int c5), .unset, .unset, .unset, .unset] [(.int (3 : Int32)), (.int q1), (.ref r), (.int c5)])) _
      refine XS.iand X0.here hx rfl (hb hby at_22) rfl ?_
      show Steps p.tables e below (T0.setTop (mkF m 23 #[.val (.int q0), .val (.int q1), .val (.ref r), .val (.long b4), .second, .val (.int c5), .unset, .unset, .unset, .unset] [(.int (q1 &&& (3 : Int32))), (.ref r), (.int c5)])) _
      rw [hc3]
      show Steps p.tables e below (T0.setTop (mkF m 23 #[.val (.int q0), .val (.int q1), .val (.ref r), .val (.long b4), .second, .val (.int c5), .unset, .unset, .unset, .unset] [(.int (3 : Int32)), (.ref r), (.int c5)])) _
      refine st637 _ ?_
      show Steps p.tables e below (T637.setTop (mkF m 26 #[.val (.int q0), .val (.int q1), .val (.ref r), .val (.long b4), .second, .val (.int c5), .unset, .unset, .unset, .unset] [(.int (1 : Int32)), (.int c5)])) _
      refine XS.iadd X637.here hx rfl (hb hby at_26) rfl ?_
      show Steps p.tables e below (T637.setTop (mkF m 27 #[.val (.int q0), .val (.int q1), .val (.ref r), .val (.long b4), .second, .val (.int c5), .unset, .unset, .unset, .unset] [(.int (c5 + (1 : Int32)))])) _
      refine XS.istore X637.here hx rfl (hb hby at_27) rfl (l' := #[.val (.int q0), .val (.int q1), .val (.ref r), .val (.long b4), .second, .val (.int (c5 + (1 : Int32))), .unset, .unset, .unset, .unset]) rfl ?_
      show Steps p.tables e below (T637.setTop (mkF m 29 #[.val (.int q0), .val (.int q1), .val (.ref r), .val (.long b4), .second, .val (.int (c5 + (1 : Int32))), .unset, .unset, .unset, .unset] [])) _
      exact kt
  rw [show own_p32 (q1 &&& (3 : Int32)) = 0 from by unfold own_p32; rw [if_neg hc1, if_neg hc2, if_neg hc3], show own_p64 (q1 &&& (3 : Int32)) = 0 from by unfold own_p64; rw [if_neg hc1, if_neg hc2, if_neg hc3]]
  obtain ⟨_, _, ⟨T638, L638, k638, n638⟩, -, X638, ⟨Lc638, hQ638, l638, y638, z638⟩, st638⟩ := Jvm.LawKit.callS X0 hx (y := (⟨"com/example/tenon/tenon/ReportSizePinLaw", "put", "(Lcom/example/tenon/tenon/Report;I)I"⟩ : MethodName)) hown (mvT hZ (hw _ (List.mem_of_getElem? (i := 64) rfl))) (mvT hZ (hw _ (List.mem_of_getElem? (i := 65) rfl))) (mvT hZ (hw _ (List.mem_of_getElem? (i := 66) rfl))) (mvT hZ (hw _ (List.mem_of_getElem? (i := 67) rfl))) (by decide) (backOf (W := 1) (rm8z l Z a0 hw [] r (q1 &&& (3 : Int32)) T0.heap n0 Zo hc1 hc2 hc3) hZ (hw _ (List.mem_of_getElem? (i := 67) rfl)) (hw _ (List.mem_of_getElem? (i := 66) rfl)) (by decide) (by decide)) (g := (mkF m 23 #[.val (.int q0), .val (.int q1), .val (.ref r), .val (.long b4), .second, .val (.int c5), .unset, .unset, .unset, .unset] [(.int (q1 &&& (3 : Int32))), (.ref r), (.int c5)])) rfl (by rw [hml]; rfl) (argsL := [(.ref r), (.int (q1 &&& (3 : Int32)))]) (rest := [(.int c5)]) (lenOf pd__Lcom_example_tenon_tenon_Report_I_I rfl) rfl (by show 2 * 0 + _ ≤ _; exact Nat.le_of_eq rfl) (hb hby at_23) (fun _ _ => ⟨rfl, rfl, (by show cells + 0 ≤ 32; omega), (by show slots + 0 ≤ 3264; omega)⟩)
  dsimp only [Pt.U, Pt.locs, Pt.cells, Pt.slots] at X638 l638 y638 z638 st638 hQ638
  subst l638 y638 z638
  obtain ⟨rfl, N638q, e638⟩ := hQ638
  refine ⟨T638, ⟨vm0, k0, _, _, _, X638, hSn, by rw [e638]; exact hSk, hZ, hown, Fr.app N0 N638q, own_W_mono (by rw [Int64.add_zero, e638]; exact W1) (by decide), hB.imp (fun q => ⟨by omega, by omega⟩) (fun q => ⟨q.1, by omega, by omega⟩)⟩, fun target kt => ?_⟩
  show Steps p.tables e below (T0.setTop (mkF m 17 #[.val (.int q0), .val (.int q1), .val (.ref r), .val (.long b4), .second, .val (.int c5), .unset, .unset, .unset, .unset] [])) _
  refine XS.iload X0.here hx rfl (hb hby at_17) rfl ?_
  show Steps p.tables e below (T0.setTop (mkF m 19 #[.val (.int q0), .val (.int q1), .val (.ref r), .val (.long b4), .second, .val (.int c5), .unset, .unset, .unset, .unset] [(.int c5)])) _
  refine XS.aloadN X0.here hx rfl (hb hby at_19) rfl rfl ?_
  show Steps p.tables e below (T0.setTop (mkF m 20 #[.val (.int q0), .val (.int q1), .val (.ref r), .val (.long b4), .second, .val (.int c5), .unset, .unset, .unset, .unset] [(.ref r), (.int c5)])) _
  refine XS.iloadN X0.here hx rfl (hb hby at_20) rfl ?_
  show Steps p.tables e below (T0.setTop (mkF m 21 #[.val (.int q0), .val (.int q1), .val (.ref r), .val (.long b4), .second, .val (.int c5), .unset, .unset, .unset, .unset] [(.int q1), (.ref r), (.int c5)])) _
  refine XS.iconst X0.here hx rfl (hb hby at_21) ?_
  show Steps p.tables e below (T0.setTop (mkF m 22 #[.val (.int q0), .val (.int q1), .val (.ref r), .val (.long b4), .second, .val (.int c5), .unset, .unset, .unset, .unset] [(.int (3 : Int32)), (.int q1), (.ref r), (.int c5)])) _
  refine XS.iand X0.here hx rfl (hb hby at_22) rfl ?_
  show Steps p.tables e below (T0.setTop (mkF m 23 #[.val (.int q0), .val (.int q1), .val (.ref r), .val (.long b4), .second, .val (.int c5), .unset, .unset, .unset, .unset] [(.int (q1 &&& (3 : Int32))), (.ref r), (.int c5)])) _
  refine st638 _ ?_
  show Steps p.tables e below (T638.setTop (mkF m 26 #[.val (.int q0), .val (.int q1), .val (.ref r), .val (.long b4), .second, .val (.int c5), .unset, .unset, .unset, .unset] [(.int (0 : Int32)), (.int c5)])) _
  refine XS.iadd X638.here hx rfl (hb hby at_26) rfl ?_
  show Steps p.tables e below (T638.setTop (mkF m 27 #[.val (.int q0), .val (.int q1), .val (.ref r), .val (.long b4), .second, .val (.int c5), .unset, .unset, .unset, .unset] [(.int (c5 + (0 : Int32)))])) _
  refine XS.istore X638.here hx rfl (hb hby at_27) rfl (l' := #[.val (.int q0), .val (.int q1), .val (.ref r), .val (.long b4), .second, .val (.int (c5 + (0 : Int32))), .unset, .unset, .unset, .unset]) rfl ?_
  show Steps p.tables e below (T638.setTop (mkF m 29 #[.val (.int q0), .val (.int q1), .val (.ref r), .val (.long b4), .second, .val (.int (c5 + (0 : Int32))), .unset, .unset, .unset, .unset] [])) _
  exact kt
set_option maxRecDepth 65536 in
set_option maxHeartbeats 40000000 in
theorem seg1 {p : Program} {l : Launch} {e : Env} {s : State} {m : MethodId} {args : Array Value} {below : List Frame} {meth : Method} {c : Code} {T0 : State} {Z : State} {a0 : Array Value} {n0 : Nat} {r al cb dce e1 e2 e3 : Addr} {kc kd : ClassId} {mo q0 q1 c5 : Int32} {n b4 : Int64}
    (hx : p.tables.exec = Jvm.exec) (hw : ∀ d ∈ tables_1, d.before a0 Z = true) (hby : c.code = code) (hml : c.maxLocals = 10) (SD : Sta Z Z.heap "java/util/ArrayList" "DEFAULTCAPACITY_EMPTY_ELEMENTDATA" "[Ljava/lang/Object;" (.ref dce)) (AD : Arv Z Z.heap dce kd (.object "java/lang/Object") (0 : Int32) [] .null) (S_e1 : Sta Z Z.heap "com/example/tenon/tenon/Finding$Severity" "ERROR" "Lcom/example/tenon/tenon/Finding$Severity;" (.ref e1)) (E_e1 : Exa Z Z.heap e1 "com/example/tenon/tenon/Finding$Severity") (F_e1 : Fld Z Z.heap e1 "java/lang/Enum" "ordinal" "I" (.int (0 : Int32))) (S_e2 : Sta Z Z.heap "com/example/tenon/tenon/Finding$Severity" "WARNING" "Lcom/example/tenon/tenon/Finding$Severity;" (.ref e2)) (E_e2 : Exa Z Z.heap e2 "com/example/tenon/tenon/Finding$Severity") (F_e2 : Fld Z Z.heap e2 "java/lang/Enum" "ordinal" "I" (.int (1 : Int32))) (S_e3 : Sta Z Z.heap "com/example/tenon/tenon/Finding$Severity" "NOTE" "Lcom/example/tenon/tenon/Finding$Severity;" (.ref e3)) (E_e3 : Exa Z Z.heap e3 "com/example/tenon/tenon/Finding$Severity") (F_e3 : Fld Z Z.heap e3 "java/lang/Enum" "ordinal" "I" (.int (2 : Int32))) (hI : own_I Z s p l e m args below meth c n0 r al cb kc dce mo 1 n T0) :
    ∃ T' : State, own_I Z s p l e m args below meth c n0 r al cb kc dce mo 2 (n + own_p64 (((q1.toUInt32 >>> ((2 : Int32) &&& 31).toUInt32).toInt32) &&& (3 : Int32))) T' ∧ ∀ target, Steps p.tables e below (T'.setTop (mkF m 43 #[.val (.int q0), .val (.int q1), .val (.ref r), .val (.long b4), .second, .val (.int (c5 + own_p32 (((q1.toUInt32 >>> ((2 : Int32) &&& 31).toUInt32).toInt32) &&& (3 : Int32)))), .unset, .unset, .unset, .unset] [])) target → Steps p.tables e below (T0.setTop (mkF m 29 #[.val (.int q0), .val (.int q1), .val (.ref r), .val (.long b4), .second, .val (.int c5), .unset, .unset, .unset, .unset] [])) target := by
  obtain ⟨vm0, k0, locs, cells, slots, X0, hSn, hSk, hZ, hown, N0, W1, hB⟩ := hI
  have hZ : Z.Warmed39 (s.setVm vm0).vm := hZ
  have hown : (s.setVm vm0).vm.findClass "com/example/tenon/tenon/ReportSizePinLaw" = some m.cls := hown
  have Zo := W1.2.1
  by_cases hc1 : (((q1.toUInt32 >>> ((2 : Int32) &&& 31).toUInt32).toInt32) &&& (3 : Int32)) = (1 : Int32)
  · rw [show own_p32 (((q1.toUInt32 >>> ((2 : Int32) &&& 31).toUInt32).toInt32) &&& (3 : Int32)) = 1 from by unfold own_p32; rw [if_pos hc1], show own_p64 (((q1.toUInt32 >>> ((2 : Int32) &&& 31).toUInt32).toInt32) &&& (3 : Int32)) = 1 from by unfold own_p64; rw [if_pos hc1]]
    rcases hB with hB | ⟨hL, hB⟩
    · obtain ⟨_, _, ⟨T639, L639, k639, n639⟩, -, X639, hS2, hsz, ⟨Lc639, hQ639, l639, y639, z639⟩, st639⟩ := callSS X0 hx (y := (⟨"com/example/tenon/tenon/ReportSizePinLaw", "put", "(Lcom/example/tenon/tenon/Report;I)I"⟩ : MethodName)) hown (mvT hZ (hw _ (List.mem_of_getElem? (i := 64) rfl))) (mvT hZ (hw _ (List.mem_of_getElem? (i := 65) rfl))) (mvT hZ (hw _ (List.mem_of_getElem? (i := 66) rfl))) (mvT hZ (hw _ (List.mem_of_getElem? (i := 67) rfl))) (by decide) (own_backS (W := 1) (rm8c1 l Z a0 hw [] r al cb kc dce kd mo (1 : Int) n e1 T0.heap n0 Zo W1 SD AD (by decide) S_e1 E_e1 F_e1) hZ (hw _ (List.mem_of_getElem? (i := 67) rfl)) (hw _ (List.mem_of_getElem? (i := 66) rfl)) (by decide) (by decide)) (g := (mkF m 37 #[.val (.int q0), .val (.int q1), .val (.ref r), .val (.long b4), .second, .val (.int c5), .unset, .unset, .unset, .unset] [(.int (1 : Int32)), (.ref r), (.int c5)])) rfl (by rw [hml]; rfl) (argsL := [(.ref r), (.int (1 : Int32))]) (rest := [(.int c5)]) (lenOf pd__Lcom_example_tenon_tenon_Report_I_I rfl) rfl (by show 2 * 0 + _ ≤ _; exact Nat.le_of_eq rfl) (hb hby at_37) (fun _ _ => ⟨rfl, rfl, (by show cells + 8 ≤ 32; omega), (by show slots + 38 ≤ 3264; omega)⟩)
      dsimp only [Pt.U, Pt.locs, Pt.cells, Pt.slots] at X639 l639 y639 z639 st639 hQ639 hS2 hsz
      subst l639 y639 z639
      obtain ⟨⟨rfl, N639q, hz3, W3⟩, hLn⟩ := hQ639
      have hf : T639.vm.findClass "com/example/tenon/tenon/ReportSizePinLaw" = some m.cls := by rw [hS2.1.alike.findClass]; exact hown
      refine ⟨T639, ⟨T639.vm, _, _, _, _, X639, hSn.trans hS2 (Nat.le_trans hSk hsz), Nat.le_refl _, State.Warmed39.trans (t := s.setVm vm0) hZ hS2.1, hf, Fr.app N0 N639q, W3, Or.inr ⟨hLn.vm rfl, by omega, by omega⟩⟩, fun target kt => ?_⟩
      show Steps p.tables e below (T0.setTop (mkF m 29 #[.val (.int q0), .val (.int q1), .val (.ref r), .val (.long b4), .second, .val (.int c5), .unset, .unset, .unset, .unset] [])) _
      refine XS.iload X0.here hx rfl (hb hby at_29) rfl ?_
      show Steps p.tables e below (T0.setTop (mkF m 31 #[.val (.int q0), .val (.int q1), .val (.ref r), .val (.long b4), .second, .val (.int c5), .unset, .unset, .unset, .unset] [(.int c5)])) _
      refine XS.aloadN X0.here hx rfl (hb hby at_31) rfl rfl ?_
      show Steps p.tables e below (T0.setTop (mkF m 32 #[.val (.int q0), .val (.int q1), .val (.ref r), .val (.long b4), .second, .val (.int c5), .unset, .unset, .unset, .unset] [(.ref r), (.int c5)])) _
      refine XS.iloadN X0.here hx rfl (hb hby at_32) rfl ?_
      show Steps p.tables e below (T0.setTop (mkF m 33 #[.val (.int q0), .val (.int q1), .val (.ref r), .val (.long b4), .second, .val (.int c5), .unset, .unset, .unset, .unset] [(.int q1), (.ref r), (.int c5)])) _
      refine XS.iconst X0.here hx rfl (hb hby at_33) ?_
      show Steps p.tables e below (T0.setTop (mkF m 34 #[.val (.int q0), .val (.int q1), .val (.ref r), .val (.long b4), .second, .val (.int c5), .unset, .unset, .unset, .unset] [(.int (2 : Int32)), (.int q1), (.ref r), (.int c5)])) _
      refine XS.iushr X0.here hx rfl (hb hby at_34) rfl ?_
      show Steps p.tables e below (T0.setTop (mkF m 35 #[.val (.int q0), .val (.int q1), .val (.ref r), .val (.long b4), .second, .val (.int c5), .unset, .unset, .unset, .unset] [(.int ((q1.toUInt32 >>> ((2 : Int32) &&& 31).toUInt32).toInt32)), (.ref r), (.int c5)])) _
      refine XS.iconst X0.here hx rfl (hb hby at_35) ?_
      show Steps p.tables e below (T0.setTop (mkF m 36 #[.val (.int q0), .val (.int q1), .val (.ref r), .val (.long b4), .second, .val (.int c5), .unset, .unset, .unset, .unset] [(.int (3 : Int32)), (.int ((q1.toUInt32 >>> ((2 : Int32) &&& 31).toUInt32).toInt32)), (.ref r), (.int c5)])) _
      refine XS.iand X0.here hx rfl (hb hby at_36) rfl ?_
      show Steps p.tables e below (T0.setTop (mkF m 37 #[.val (.int q0), .val (.int q1), .val (.ref r), .val (.long b4), .second, .val (.int c5), .unset, .unset, .unset, .unset] [(.int (((q1.toUInt32 >>> ((2 : Int32) &&& 31).toUInt32).toInt32) &&& (3 : Int32))), (.ref r), (.int c5)])) _
      rw [hc1]
      show Steps p.tables e below (T0.setTop (mkF m 37 #[.val (.int q0), .val (.int q1), .val (.ref r), .val (.long b4), .second, .val (.int c5), .unset, .unset, .unset, .unset] [(.int (1 : Int32)), (.ref r), (.int c5)])) _
      refine st639.trans ?_
      show Steps p.tables e below (T639.setTop (mkF m 40 #[.val (.int q0), .val (.int q1), .val (.ref r), .val (.long b4), .second, .val (.int c5), .unset, .unset, .unset, .unset] [(.int (1 : Int32)), (.int c5)])) _
      refine XS.iadd X639.here hx rfl (hb hby at_40) rfl ?_
      show Steps p.tables e below (T639.setTop (mkF m 41 #[.val (.int q0), .val (.int q1), .val (.ref r), .val (.long b4), .second, .val (.int c5), .unset, .unset, .unset, .unset] [(.int (c5 + (1 : Int32)))])) _
      refine XS.istore X639.here hx rfl (hb hby at_41) rfl (l' := #[.val (.int q0), .val (.int q1), .val (.ref r), .val (.long b4), .second, .val (.int (c5 + (1 : Int32))), .unset, .unset, .unset, .unset]) rfl ?_
      show Steps p.tables e below (T639.setTop (mkF m 43 #[.val (.int q0), .val (.int q1), .val (.ref r), .val (.long b4), .second, .val (.int (c5 + (1 : Int32))), .unset, .unset, .unset, .unset] [])) _
      exact kt
    · obtain ⟨_, _, ⟨T640, L640, k640, n640⟩, -, X640, ⟨Lc640, hQ640, l640, y640, z640⟩, st640⟩ := Jvm.LawKit.callS X0 hx (y := (⟨"com/example/tenon/tenon/ReportSizePinLaw", "put", "(Lcom/example/tenon/tenon/Report;I)I"⟩ : MethodName)) hown (mvT hZ (hw _ (List.mem_of_getElem? (i := 64) rfl))) (mvT hZ (hw _ (List.mem_of_getElem? (i := 65) rfl))) (mvT hZ (hw _ (List.mem_of_getElem? (i := 66) rfl))) (mvT hZ (hw _ (List.mem_of_getElem? (i := 67) rfl))) (by decide) (own_backL (W := 1) (rm8h1 l Z a0 hw [] r al cb kc dce kd mo (1 : Int) n e1 T0.heap n0 Zo W1 SD AD (by decide) S_e1 E_e1 F_e1) hZ (hw _ (List.mem_of_getElem? (i := 67) rfl)) (hw _ (List.mem_of_getElem? (i := 66) rfl)) (by decide) (by decide)) (g := (mkF m 37 #[.val (.int q0), .val (.int q1), .val (.ref r), .val (.long b4), .second, .val (.int c5), .unset, .unset, .unset, .unset] [(.int (1 : Int32)), (.ref r), (.int c5)])) rfl (by rw [hml]; rfl) (argsL := [(.ref r), (.int (1 : Int32))]) (rest := [(.int c5)]) (lenOf pd__Lcom_example_tenon_tenon_Report_I_I rfl) rfl (by show 2 * 0 + _ ≤ _; exact Nat.le_of_eq rfl) (hb hby at_37) (fun vm₁ hW₁ => ⟨rfl, rfl, (hL.stays hW₁.wide).vm rfl, (by show cells + 2 ≤ 32; omega), (by show slots + 14 ≤ 3264; omega)⟩)
      dsimp only [Pt.U, Pt.locs, Pt.cells, Pt.slots] at X640 l640 y640 z640 st640 hQ640
      subst l640 y640 z640
      obtain ⟨rfl, N640q, hz3, W3⟩ := hQ640
      refine ⟨T640, ⟨vm0, k0, _, _, _, X640, hSn, Nat.le_trans hSk hz3, hZ, hown, Fr.app N0 N640q, W3, Or.inr ⟨hL, by omega, by omega⟩⟩, fun target kt => ?_⟩
      show Steps p.tables e below (T0.setTop (mkF m 29 #[.val (.int q0), .val (.int q1), .val (.ref r), .val (.long b4), .second, .val (.int c5), .unset, .unset, .unset, .unset] [])) _
      refine XS.iload X0.here hx rfl (hb hby at_29) rfl ?_
      show Steps p.tables e below (T0.setTop (mkF m 31 #[.val (.int q0), .val (.int q1), .val (.ref r), .val (.long b4), .second, .val (.int c5), .unset, .unset, .unset, .unset] [(.int c5)])) _
      refine XS.aloadN X0.here hx rfl (hb hby at_31) rfl rfl ?_
      show Steps p.tables e below (T0.setTop (mkF m 32 #[.val (.int q0), .val (.int q1), .val (.ref r), .val (.long b4), .second, .val (.int c5), .unset, .unset, .unset, .unset] [(.ref r), (.int c5)])) _
      refine XS.iloadN X0.here hx rfl (hb hby at_32) rfl ?_
      show Steps p.tables e below (T0.setTop (mkF m 33 #[.val (.int q0), .val (.int q1), .val (.ref r), .val (.long b4), .second, .val (.int c5), .unset, .unset, .unset, .unset] [(.int q1), (.ref r), (.int c5)])) _
      refine XS.iconst X0.here hx rfl (hb hby at_33) ?_
      show Steps p.tables e below (T0.setTop (mkF m 34 #[.val (.int q0), .val (.int q1), .val (.ref r), .val (.long b4), .second, .val (.int c5), .unset, .unset, .unset, .unset] [(.int (2 : Int32)), (.int q1), (.ref r), (.int c5)])) _
      refine XS.iushr X0.here hx rfl (hb hby at_34) rfl ?_
      show Steps p.tables e below (T0.setTop (mkF m 35 #[.val (.int q0), .val (.int q1), .val (.ref r), .val (.long b4), .second, .val (.int c5), .unset, .unset, .unset, .unset] [(.int ((q1.toUInt32 >>> ((2 : Int32) &&& 31).toUInt32).toInt32)), (.ref r), (.int c5)])) _
      refine XS.iconst X0.here hx rfl (hb hby at_35) ?_
      show Steps p.tables e below (T0.setTop (mkF m 36 #[.val (.int q0), .val (.int q1), .val (.ref r), .val (.long b4), .second, .val (.int c5), .unset, .unset, .unset, .unset] [(.int (3 : Int32)), (.int ((q1.toUInt32 >>> ((2 : Int32) &&& 31).toUInt32).toInt32)), (.ref r), (.int c5)])) _
      refine XS.iand X0.here hx rfl (hb hby at_36) rfl ?_
      show Steps p.tables e below (T0.setTop (mkF m 37 #[.val (.int q0), .val (.int q1), .val (.ref r), .val (.long b4), .second, .val (.int c5), .unset, .unset, .unset, .unset] [(.int (((q1.toUInt32 >>> ((2 : Int32) &&& 31).toUInt32).toInt32) &&& (3 : Int32))), (.ref r), (.int c5)])) _
      rw [hc1]
      show Steps p.tables e below (T0.setTop (mkF m 37 #[.val (.int q0), .val (.int q1), .val (.ref r), .val (.long b4), .second, .val (.int c5), .unset, .unset, .unset, .unset] [(.int (1 : Int32)), (.ref r), (.int c5)])) _
      refine st640 _ ?_
      show Steps p.tables e below (T640.setTop (mkF m 40 #[.val (.int q0), .val (.int q1), .val (.ref r), .val (.long b4), .second, .val (.int c5), .unset, .unset, .unset, .unset] [(.int (1 : Int32)), (.int c5)])) _
      refine XS.iadd X640.here hx rfl (hb hby at_40) rfl ?_
      show Steps p.tables e below (T640.setTop (mkF m 41 #[.val (.int q0), .val (.int q1), .val (.ref r), .val (.long b4), .second, .val (.int c5), .unset, .unset, .unset, .unset] [(.int (c5 + (1 : Int32)))])) _
      refine XS.istore X640.here hx rfl (hb hby at_41) rfl (l' := #[.val (.int q0), .val (.int q1), .val (.ref r), .val (.long b4), .second, .val (.int (c5 + (1 : Int32))), .unset, .unset, .unset, .unset]) rfl ?_
      show Steps p.tables e below (T640.setTop (mkF m 43 #[.val (.int q0), .val (.int q1), .val (.ref r), .val (.long b4), .second, .val (.int (c5 + (1 : Int32))), .unset, .unset, .unset, .unset] [])) _
      exact kt
  by_cases hc2 : (((q1.toUInt32 >>> ((2 : Int32) &&& 31).toUInt32).toInt32) &&& (3 : Int32)) = (2 : Int32)
  · rw [show own_p32 (((q1.toUInt32 >>> ((2 : Int32) &&& 31).toUInt32).toInt32) &&& (3 : Int32)) = 1 from by unfold own_p32; rw [if_neg hc1, if_pos hc2], show own_p64 (((q1.toUInt32 >>> ((2 : Int32) &&& 31).toUInt32).toInt32) &&& (3 : Int32)) = 1 from by unfold own_p64; rw [if_neg hc1, if_pos hc2]]
    rcases hB with hB | ⟨hL, hB⟩
    · obtain ⟨_, _, ⟨T641, L641, k641, n641⟩, -, X641, hS2, hsz, ⟨Lc641, hQ641, l641, y641, z641⟩, st641⟩ := callSS X0 hx (y := (⟨"com/example/tenon/tenon/ReportSizePinLaw", "put", "(Lcom/example/tenon/tenon/Report;I)I"⟩ : MethodName)) hown (mvT hZ (hw _ (List.mem_of_getElem? (i := 64) rfl))) (mvT hZ (hw _ (List.mem_of_getElem? (i := 65) rfl))) (mvT hZ (hw _ (List.mem_of_getElem? (i := 66) rfl))) (mvT hZ (hw _ (List.mem_of_getElem? (i := 67) rfl))) (by decide) (own_backS (W := 1) (rm8c2 l Z a0 hw [] r al cb kc dce kd mo (1 : Int) n e2 T0.heap n0 Zo W1 SD AD (by decide) S_e2 E_e2 F_e2) hZ (hw _ (List.mem_of_getElem? (i := 67) rfl)) (hw _ (List.mem_of_getElem? (i := 66) rfl)) (by decide) (by decide)) (g := (mkF m 37 #[.val (.int q0), .val (.int q1), .val (.ref r), .val (.long b4), .second, .val (.int c5), .unset, .unset, .unset, .unset] [(.int (2 : Int32)), (.ref r), (.int c5)])) rfl (by rw [hml]; rfl) (argsL := [(.ref r), (.int (2 : Int32))]) (rest := [(.int c5)]) (lenOf pd__Lcom_example_tenon_tenon_Report_I_I rfl) rfl (by show 2 * 0 + _ ≤ _; exact Nat.le_of_eq rfl) (hb hby at_37) (fun _ _ => ⟨rfl, rfl, (by show cells + 8 ≤ 32; omega), (by show slots + 38 ≤ 3264; omega)⟩)
      dsimp only [Pt.U, Pt.locs, Pt.cells, Pt.slots] at X641 l641 y641 z641 st641 hQ641 hS2 hsz
      subst l641 y641 z641
      obtain ⟨⟨rfl, N641q, hz3, W3⟩, hLn⟩ := hQ641
      have hf : T641.vm.findClass "com/example/tenon/tenon/ReportSizePinLaw" = some m.cls := by rw [hS2.1.alike.findClass]; exact hown
      refine ⟨T641, ⟨T641.vm, _, _, _, _, X641, hSn.trans hS2 (Nat.le_trans hSk hsz), Nat.le_refl _, State.Warmed39.trans (t := s.setVm vm0) hZ hS2.1, hf, Fr.app N0 N641q, W3, Or.inr ⟨hLn.vm rfl, by omega, by omega⟩⟩, fun target kt => ?_⟩
      show Steps p.tables e below (T0.setTop (mkF m 29 #[.val (.int q0), .val (.int q1), .val (.ref r), .val (.long b4), .second, .val (.int c5), .unset, .unset, .unset, .unset] [])) _
      refine XS.iload X0.here hx rfl (hb hby at_29) rfl ?_
      show Steps p.tables e below (T0.setTop (mkF m 31 #[.val (.int q0), .val (.int q1), .val (.ref r), .val (.long b4), .second, .val (.int c5), .unset, .unset, .unset, .unset] [(.int c5)])) _
      refine XS.aloadN X0.here hx rfl (hb hby at_31) rfl rfl ?_
      show Steps p.tables e below (T0.setTop (mkF m 32 #[.val (.int q0), .val (.int q1), .val (.ref r), .val (.long b4), .second, .val (.int c5), .unset, .unset, .unset, .unset] [(.ref r), (.int c5)])) _
      refine XS.iloadN X0.here hx rfl (hb hby at_32) rfl ?_
      show Steps p.tables e below (T0.setTop (mkF m 33 #[.val (.int q0), .val (.int q1), .val (.ref r), .val (.long b4), .second, .val (.int c5), .unset, .unset, .unset, .unset] [(.int q1), (.ref r), (.int c5)])) _
      refine XS.iconst X0.here hx rfl (hb hby at_33) ?_
      show Steps p.tables e below (T0.setTop (mkF m 34 #[.val (.int q0), .val (.int q1), .val (.ref r), .val (.long b4), .second, .val (.int c5), .unset, .unset, .unset, .unset] [(.int (2 : Int32)), (.int q1), (.ref r), (.int c5)])) _
      refine XS.iushr X0.here hx rfl (hb hby at_34) rfl ?_
      show Steps p.tables e below (T0.setTop (mkF m 35 #[.val (.int q0), .val (.int q1), .val (.ref r), .val (.long b4), .second, .val (.int c5), .unset, .unset, .unset, .unset] [(.int ((q1.toUInt32 >>> ((2 : Int32) &&& 31).toUInt32).toInt32)), (.ref r), (.int c5)])) _
      refine XS.iconst X0.here hx rfl (hb hby at_35) ?_
      show Steps p.tables e below (T0.setTop (mkF m 36 #[.val (.int q0), .val (.int q1), .val (.ref r), .val (.long b4), .second, .val (.int c5), .unset, .unset, .unset, .unset] [(.int (3 : Int32)), (.int ((q1.toUInt32 >>> ((2 : Int32) &&& 31).toUInt32).toInt32)), (.ref r), (.int c5)])) _
      refine XS.iand X0.here hx rfl (hb hby at_36) rfl ?_
      show Steps p.tables e below (T0.setTop (mkF m 37 #[.val (.int q0), .val (.int q1), .val (.ref r), .val (.long b4), .second, .val (.int c5), .unset, .unset, .unset, .unset] [(.int (((q1.toUInt32 >>> ((2 : Int32) &&& 31).toUInt32).toInt32) &&& (3 : Int32))), (.ref r), (.int c5)])) _
      rw [hc2]
      show Steps p.tables e below (T0.setTop (mkF m 37 #[.val (.int q0), .val (.int q1), .val (.ref r), .val (.long b4), .second, .val (.int c5), .unset, .unset, .unset, .unset] [(.int (2 : Int32)), (.ref r), (.int c5)])) _
      refine st641.trans ?_
      show Steps p.tables e below (T641.setTop (mkF m 40 #[.val (.int q0), .val (.int q1), .val (.ref r), .val (.long b4), .second, .val (.int c5), .unset, .unset, .unset, .unset] [(.int (1 : Int32)), (.int c5)])) _
      refine XS.iadd X641.here hx rfl (hb hby at_40) rfl ?_
      show Steps p.tables e below (T641.setTop (mkF m 41 #[.val (.int q0), .val (.int q1), .val (.ref r), .val (.long b4), .second, .val (.int c5), .unset, .unset, .unset, .unset] [(.int (c5 + (1 : Int32)))])) _
      refine XS.istore X641.here hx rfl (hb hby at_41) rfl (l' := #[.val (.int q0), .val (.int q1), .val (.ref r), .val (.long b4), .second, .val (.int (c5 + (1 : Int32))), .unset, .unset, .unset, .unset]) rfl ?_
      show Steps p.tables e below (T641.setTop (mkF m 43 #[.val (.int q0), .val (.int q1), .val (.ref r), .val (.long b4), .second, .val (.int (c5 + (1 : Int32))), .unset, .unset, .unset, .unset] [])) _
      exact kt
    · obtain ⟨_, _, ⟨T642, L642, k642, n642⟩, -, X642, ⟨Lc642, hQ642, l642, y642, z642⟩, st642⟩ := Jvm.LawKit.callS X0 hx (y := (⟨"com/example/tenon/tenon/ReportSizePinLaw", "put", "(Lcom/example/tenon/tenon/Report;I)I"⟩ : MethodName)) hown (mvT hZ (hw _ (List.mem_of_getElem? (i := 64) rfl))) (mvT hZ (hw _ (List.mem_of_getElem? (i := 65) rfl))) (mvT hZ (hw _ (List.mem_of_getElem? (i := 66) rfl))) (mvT hZ (hw _ (List.mem_of_getElem? (i := 67) rfl))) (by decide) (own_backL (W := 1) (rm8h2 l Z a0 hw [] r al cb kc dce kd mo (1 : Int) n e2 T0.heap n0 Zo W1 SD AD (by decide) S_e2 E_e2 F_e2) hZ (hw _ (List.mem_of_getElem? (i := 67) rfl)) (hw _ (List.mem_of_getElem? (i := 66) rfl)) (by decide) (by decide)) (g := (mkF m 37 #[.val (.int q0), .val (.int q1), .val (.ref r), .val (.long b4), .second, .val (.int c5), .unset, .unset, .unset, .unset] [(.int (2 : Int32)), (.ref r), (.int c5)])) rfl (by rw [hml]; rfl) (argsL := [(.ref r), (.int (2 : Int32))]) (rest := [(.int c5)]) (lenOf pd__Lcom_example_tenon_tenon_Report_I_I rfl) rfl (by show 2 * 0 + _ ≤ _; exact Nat.le_of_eq rfl) (hb hby at_37) (fun vm₁ hW₁ => ⟨rfl, rfl, (hL.stays hW₁.wide).vm rfl, (by show cells + 2 ≤ 32; omega), (by show slots + 14 ≤ 3264; omega)⟩)
      dsimp only [Pt.U, Pt.locs, Pt.cells, Pt.slots] at X642 l642 y642 z642 st642 hQ642
      subst l642 y642 z642
      obtain ⟨rfl, N642q, hz3, W3⟩ := hQ642
      refine ⟨T642, ⟨vm0, k0, _, _, _, X642, hSn, Nat.le_trans hSk hz3, hZ, hown, Fr.app N0 N642q, W3, Or.inr ⟨hL, by omega, by omega⟩⟩, fun target kt => ?_⟩
      show Steps p.tables e below (T0.setTop (mkF m 29 #[.val (.int q0), .val (.int q1), .val (.ref r), .val (.long b4), .second, .val (.int c5), .unset, .unset, .unset, .unset] [])) _
      refine XS.iload X0.here hx rfl (hb hby at_29) rfl ?_
      show Steps p.tables e below (T0.setTop (mkF m 31 #[.val (.int q0), .val (.int q1), .val (.ref r), .val (.long b4), .second, .val (.int c5), .unset, .unset, .unset, .unset] [(.int c5)])) _
      refine XS.aloadN X0.here hx rfl (hb hby at_31) rfl rfl ?_
      show Steps p.tables e below (T0.setTop (mkF m 32 #[.val (.int q0), .val (.int q1), .val (.ref r), .val (.long b4), .second, .val (.int c5), .unset, .unset, .unset, .unset] [(.ref r), (.int c5)])) _
      refine XS.iloadN X0.here hx rfl (hb hby at_32) rfl ?_
      show Steps p.tables e below (T0.setTop (mkF m 33 #[.val (.int q0), .val (.int q1), .val (.ref r), .val (.long b4), .second, .val (.int c5), .unset, .unset, .unset, .unset] [(.int q1), (.ref r), (.int c5)])) _
      refine XS.iconst X0.here hx rfl (hb hby at_33) ?_
      show Steps p.tables e below (T0.setTop (mkF m 34 #[.val (.int q0), .val (.int q1), .val (.ref r), .val (.long b4), .second, .val (.int c5), .unset, .unset, .unset, .unset] [(.int (2 : Int32)), (.int q1), (.ref r), (.int c5)])) _
      refine XS.iushr X0.here hx rfl (hb hby at_34) rfl ?_
      show Steps p.tables e below (T0.setTop (mkF m 35 #[.val (.int q0), .val (.int q1), .val (.ref r), .val (.long b4), .second, .val (.int c5), .unset, .unset, .unset, .unset] [(.int ((q1.toUInt32 >>> ((2 : Int32) &&& 31).toUInt32).toInt32)), (.ref r), (.int c5)])) _
      refine XS.iconst X0.here hx rfl (hb hby at_35) ?_
      show Steps p.tables e below (T0.setTop (mkF m 36 #[.val (.int q0), .val (.int q1), .val (.ref r), .val (.long b4), .second, .val (.int c5), .unset, .unset, .unset, .unset] [(.int (3 : Int32)), (.int ((q1.toUInt32 >>> ((2 : Int32) &&& 31).toUInt32).toInt32)), (.ref r), (.int c5)])) _
      refine XS.iand X0.here hx rfl (hb hby at_36) rfl ?_
      show Steps p.tables e below (T0.setTop (mkF m 37 #[.val (.int q0), .val (.int q1), .val (.ref r), .val (.long b4), .second, .val (.int c5), .unset, .unset, .unset, .unset] [(.int (((q1.toUInt32 >>> ((2 : Int32) &&& 31).toUInt32).toInt32) &&& (3 : Int32))), (.ref r), (.int c5)])) _
      rw [hc2]
      show Steps p.tables e below (T0.setTop (mkF m 37 #[.val (.int q0), .val (.int q1), .val (.ref r), .val (.long b4), .second, .val (.int c5), .unset, .unset, .unset, .unset] [(.int (2 : Int32)), (.ref r), (.int c5)])) _
      refine st642 _ ?_
      show Steps p.tables e below (T642.setTop (mkF m 40 #[.val (.int q0), .val (.int q1), .val (.ref r), .val (.long b4), .second, .val (.int c5), .unset, .unset, .unset, .unset] [(.int (1 : Int32)), (.int c5)])) _
      refine XS.iadd X642.here hx rfl (hb hby at_40) rfl ?_
      show Steps p.tables e below (T642.setTop (mkF m 41 #[.val (.int q0), .val (.int q1), .val (.ref r), .val (.long b4), .second, .val (.int c5), .unset, .unset, .unset, .unset] [(.int (c5 + (1 : Int32)))])) _
      refine XS.istore X642.here hx rfl (hb hby at_41) rfl (l' := #[.val (.int q0), .val (.int q1), .val (.ref r), .val (.long b4), .second, .val (.int (c5 + (1 : Int32))), .unset, .unset, .unset, .unset]) rfl ?_
      show Steps p.tables e below (T642.setTop (mkF m 43 #[.val (.int q0), .val (.int q1), .val (.ref r), .val (.long b4), .second, .val (.int (c5 + (1 : Int32))), .unset, .unset, .unset, .unset] [])) _
      exact kt
  by_cases hc3 : (((q1.toUInt32 >>> ((2 : Int32) &&& 31).toUInt32).toInt32) &&& (3 : Int32)) = (3 : Int32)
  · rw [show own_p32 (((q1.toUInt32 >>> ((2 : Int32) &&& 31).toUInt32).toInt32) &&& (3 : Int32)) = 1 from by unfold own_p32; rw [if_neg hc1, if_neg hc2, if_pos hc3], show own_p64 (((q1.toUInt32 >>> ((2 : Int32) &&& 31).toUInt32).toInt32) &&& (3 : Int32)) = 1 from by unfold own_p64; rw [if_neg hc1, if_neg hc2, if_pos hc3]]
    rcases hB with hB | ⟨hL, hB⟩
    · obtain ⟨_, _, ⟨T643, L643, k643, n643⟩, -, X643, hS2, hsz, ⟨Lc643, hQ643, l643, y643, z643⟩, st643⟩ := callSS X0 hx (y := (⟨"com/example/tenon/tenon/ReportSizePinLaw", "put", "(Lcom/example/tenon/tenon/Report;I)I"⟩ : MethodName)) hown (mvT hZ (hw _ (List.mem_of_getElem? (i := 64) rfl))) (mvT hZ (hw _ (List.mem_of_getElem? (i := 65) rfl))) (mvT hZ (hw _ (List.mem_of_getElem? (i := 66) rfl))) (mvT hZ (hw _ (List.mem_of_getElem? (i := 67) rfl))) (by decide) (own_backS (W := 1) (rm8c3 l Z a0 hw [] r al cb kc dce kd mo (1 : Int) n e3 T0.heap n0 Zo W1 SD AD (by decide) S_e3 E_e3 F_e3) hZ (hw _ (List.mem_of_getElem? (i := 67) rfl)) (hw _ (List.mem_of_getElem? (i := 66) rfl)) (by decide) (by decide)) (g := (mkF m 37 #[.val (.int q0), .val (.int q1), .val (.ref r), .val (.long b4), .second, .val (.int c5), .unset, .unset, .unset, .unset] [(.int (3 : Int32)), (.ref r), (.int c5)])) rfl (by rw [hml]; rfl) (argsL := [(.ref r), (.int (3 : Int32))]) (rest := [(.int c5)]) (lenOf pd__Lcom_example_tenon_tenon_Report_I_I rfl) rfl (by show 2 * 0 + _ ≤ _; exact Nat.le_of_eq rfl) (hb hby at_37) (fun _ _ => ⟨rfl, rfl, (by show cells + 8 ≤ 32; omega), (by show slots + 38 ≤ 3264; omega)⟩)
      dsimp only [Pt.U, Pt.locs, Pt.cells, Pt.slots] at X643 l643 y643 z643 st643 hQ643 hS2 hsz
      subst l643 y643 z643
      obtain ⟨⟨rfl, N643q, hz3, W3⟩, hLn⟩ := hQ643
      have hf : T643.vm.findClass "com/example/tenon/tenon/ReportSizePinLaw" = some m.cls := by rw [hS2.1.alike.findClass]; exact hown
      refine ⟨T643, ⟨T643.vm, _, _, _, _, X643, hSn.trans hS2 (Nat.le_trans hSk hsz), Nat.le_refl _, State.Warmed39.trans (t := s.setVm vm0) hZ hS2.1, hf, Fr.app N0 N643q, W3, Or.inr ⟨hLn.vm rfl, by omega, by omega⟩⟩, fun target kt => ?_⟩
      show Steps p.tables e below (T0.setTop (mkF m 29 #[.val (.int q0), .val (.int q1), .val (.ref r), .val (.long b4), .second, .val (.int c5), .unset, .unset, .unset, .unset] [])) _
      refine XS.iload X0.here hx rfl (hb hby at_29) rfl ?_
      show Steps p.tables e below (T0.setTop (mkF m 31 #[.val (.int q0), .val (.int q1), .val (.ref r), .val (.long b4), .second, .val (.int c5), .unset, .unset, .unset, .unset] [(.int c5)])) _
      refine XS.aloadN X0.here hx rfl (hb hby at_31) rfl rfl ?_
      show Steps p.tables e below (T0.setTop (mkF m 32 #[.val (.int q0), .val (.int q1), .val (.ref r), .val (.long b4), .second, .val (.int c5), .unset, .unset, .unset, .unset] [(.ref r), (.int c5)])) _
      refine XS.iloadN X0.here hx rfl (hb hby at_32) rfl ?_
      show Steps p.tables e below (T0.setTop (mkF m 33 #[.val (.int q0), .val (.int q1), .val (.ref r), .val (.long b4), .second, .val (.int c5), .unset, .unset, .unset, .unset] [(.int q1), (.ref r), (.int c5)])) _
      refine XS.iconst X0.here hx rfl (hb hby at_33) ?_
      show Steps p.tables e below (T0.setTop (mkF m 34 #[.val (.int q0), .val (.int q1), .val (.ref r), .val (.long b4), .second, .val (.int c5), .unset, .unset, .unset, .unset] [(.int (2 : Int32)), (.int q1), (.ref r), (.int c5)])) _
      refine XS.iushr X0.here hx rfl (hb hby at_34) rfl ?_
      show Steps p.tables e below (T0.setTop (mkF m 35 #[.val (.int q0), .val (.int q1), .val (.ref r), .val (.long b4), .second, .val (.int c5), .unset, .unset, .unset, .unset] [(.int ((q1.toUInt32 >>> ((2 : Int32) &&& 31).toUInt32).toInt32)), (.ref r), (.int c5)])) _
      refine XS.iconst X0.here hx rfl (hb hby at_35) ?_
      show Steps p.tables e below (T0.setTop (mkF m 36 #[.val (.int q0), .val (.int q1), .val (.ref r), .val (.long b4), .second, .val (.int c5), .unset, .unset, .unset, .unset] [(.int (3 : Int32)), (.int ((q1.toUInt32 >>> ((2 : Int32) &&& 31).toUInt32).toInt32)), (.ref r), (.int c5)])) _
      refine XS.iand X0.here hx rfl (hb hby at_36) rfl ?_
      show Steps p.tables e below (T0.setTop (mkF m 37 #[.val (.int q0), .val (.int q1), .val (.ref r), .val (.long b4), .second, .val (.int c5), .unset, .unset, .unset, .unset] [(.int (((q1.toUInt32 >>> ((2 : Int32) &&& 31).toUInt32).toInt32) &&& (3 : Int32))), (.ref r), (.int c5)])) _
      rw [hc3]
      show Steps p.tables e below (T0.setTop (mkF m 37 #[.val (.int q0), .val (.int q1), .val (.ref r), .val (.long b4), .second, .val (.int c5), .unset, .unset, .unset, .unset] [(.int (3 : Int32)), (.ref r), (.int c5)])) _
      refine st643.trans ?_
      show Steps p.tables e below (T643.setTop (mkF m 40 #[.val (.int q0), .val (.int q1), .val (.ref r), .val (.long b4), .second, .val (.int c5), .unset, .unset, .unset, .unset] [(.int (1 : Int32)), (.int c5)])) _
      refine XS.iadd X643.here hx rfl (hb hby at_40) rfl ?_
      show Steps p.tables e below (T643.setTop (mkF m 41 #[.val (.int q0), .val (.int q1), .val (.ref r), .val (.long b4), .second, .val (.int c5), .unset, .unset, .unset, .unset] [(.int (c5 + (1 : Int32)))])) _
      refine XS.istore X643.here hx rfl (hb hby at_41) rfl (l' := #[.val (.int q0), .val (.int q1), .val (.ref r), .val (.long b4), .second, .val (.int (c5 + (1 : Int32))), .unset, .unset, .unset, .unset]) rfl ?_
      show Steps p.tables e below (T643.setTop (mkF m 43 #[.val (.int q0), .val (.int q1), .val (.ref r), .val (.long b4), .second, .val (.int (c5 + (1 : Int32))), .unset, .unset, .unset, .unset] [])) _
      exact kt
    · obtain ⟨_, _, ⟨T644, L644, k644, n644⟩, -, X644, ⟨Lc644, hQ644, l644, y644, z644⟩, st644⟩ := Jvm.LawKit.callS X0 hx (y := (⟨"com/example/tenon/tenon/ReportSizePinLaw", "put", "(Lcom/example/tenon/tenon/Report;I)I"⟩ : MethodName)) hown (mvT hZ (hw _ (List.mem_of_getElem? (i := 64) rfl))) (mvT hZ (hw _ (List.mem_of_getElem? (i := 65) rfl))) (mvT hZ (hw _ (List.mem_of_getElem? (i := 66) rfl))) (mvT hZ (hw _ (List.mem_of_getElem? (i := 67) rfl))) (by decide) (own_backL (W := 1) (rm8h3 l Z a0 hw [] r al cb kc dce kd mo (1 : Int) n e3 T0.heap n0 Zo W1 SD AD (by decide) S_e3 E_e3 F_e3) hZ (hw _ (List.mem_of_getElem? (i := 67) rfl)) (hw _ (List.mem_of_getElem? (i := 66) rfl)) (by decide) (by decide)) (g := (mkF m 37 #[.val (.int q0), .val (.int q1), .val (.ref r), .val (.long b4), .second, .val (.int c5), .unset, .unset, .unset, .unset] [(.int (3 : Int32)), (.ref r), (.int c5)])) rfl (by rw [hml]; rfl) (argsL := [(.ref r), (.int (3 : Int32))]) (rest := [(.int c5)]) (lenOf pd__Lcom_example_tenon_tenon_Report_I_I rfl) rfl (by show 2 * 0 + _ ≤ _; exact Nat.le_of_eq rfl) (hb hby at_37) (fun vm₁ hW₁ => ⟨rfl, rfl, (hL.stays hW₁.wide).vm rfl, (by show cells + 2 ≤ 32; omega), (by show slots + 14 ≤ 3264; omega)⟩)
      dsimp only [Pt.U, Pt.locs, Pt.cells, Pt.slots] at X644 l644 y644 z644 st644 hQ644
      subst l644 y644 z644
      obtain ⟨rfl, N644q, hz3, W3⟩ := hQ644
      refine ⟨T644, ⟨vm0, k0, _, _, _, X644, hSn, Nat.le_trans hSk hz3, hZ, hown, Fr.app N0 N644q, W3, Or.inr ⟨hL, by omega, by omega⟩⟩, fun target kt => ?_⟩
      show Steps p.tables e below (T0.setTop (mkF m 29 #[.val (.int q0), .val (.int q1), .val (.ref r), .val (.long b4), .second, .val (.int c5), .unset, .unset, .unset, .unset] [])) _
      refine XS.iload X0.here hx rfl (hb hby at_29) rfl ?_
      show Steps p.tables e below (T0.setTop (mkF m 31 #[.val (.int q0), .val (.int q1), .val (.ref r), .val (.long b4), .second, .val (.int c5), .unset, .unset, .unset, .unset] [(.int c5)])) _
      refine XS.aloadN X0.here hx rfl (hb hby at_31) rfl rfl ?_
      show Steps p.tables e below (T0.setTop (mkF m 32 #[.val (.int q0), .val (.int q1), .val (.ref r), .val (.long b4), .second, .val (.int c5), .unset, .unset, .unset, .unset] [(.ref r), (.int c5)])) _
      refine XS.iloadN X0.here hx rfl (hb hby at_32) rfl ?_
      show Steps p.tables e below (T0.setTop (mkF m 33 #[.val (.int q0), .val (.int q1), .val (.ref r), .val (.long b4), .second, .val (.int c5), .unset, .unset, .unset, .unset] [(.int q1), (.ref r), (.int c5)])) _
      refine XS.iconst X0.here hx rfl (hb hby at_33) ?_
      show Steps p.tables e below (T0.setTop (mkF m 34 #[.val (.int q0), .val (.int q1), .val (.ref r), .val (.long b4), .second, .val (.int c5), .unset, .unset, .unset, .unset] [(.int (2 : Int32)), (.int q1), (.ref r), (.int c5)])) _
      refine XS.iushr X0.here hx rfl (hb hby at_34) rfl ?_
      show Steps p.tables e below (T0.setTop (mkF m 35 #[.val (.int q0), .val (.int q1), .val (.ref r), .val (.long b4), .second, .val (.int c5), .unset, .unset, .unset, .unset] [(.int ((q1.toUInt32 >>> ((2 : Int32) &&& 31).toUInt32).toInt32)), (.ref r), (.int c5)])) _
      refine XS.iconst X0.here hx rfl (hb hby at_35) ?_
      show Steps p.tables e below (T0.setTop (mkF m 36 #[.val (.int q0), .val (.int q1), .val (.ref r), .val (.long b4), .second, .val (.int c5), .unset, .unset, .unset, .unset] [(.int (3 : Int32)), (.int ((q1.toUInt32 >>> ((2 : Int32) &&& 31).toUInt32).toInt32)), (.ref r), (.int c5)])) _
      refine XS.iand X0.here hx rfl (hb hby at_36) rfl ?_
      show Steps p.tables e below (T0.setTop (mkF m 37 #[.val (.int q0), .val (.int q1), .val (.ref r), .val (.long b4), .second, .val (.int c5), .unset, .unset, .unset, .unset] [(.int (((q1.toUInt32 >>> ((2 : Int32) &&& 31).toUInt32).toInt32) &&& (3 : Int32))), (.ref r), (.int c5)])) _
      rw [hc3]
      show Steps p.tables e below (T0.setTop (mkF m 37 #[.val (.int q0), .val (.int q1), .val (.ref r), .val (.long b4), .second, .val (.int c5), .unset, .unset, .unset, .unset] [(.int (3 : Int32)), (.ref r), (.int c5)])) _
      refine st644 _ ?_
      show Steps p.tables e below (T644.setTop (mkF m 40 #[.val (.int q0), .val (.int q1), .val (.ref r), .val (.long b4), .second, .val (.int c5), .unset, .unset, .unset, .unset] [(.int (1 : Int32)), (.int c5)])) _
      refine XS.iadd X644.here hx rfl (hb hby at_40) rfl ?_
      show Steps p.tables e below (T644.setTop (mkF m 41 #[.val (.int q0), .val (.int q1), .val (.ref r), .val (.long b4), .second, .val (.int c5), .unset, .unset, .unset, .unset] [(.int (c5 + (1 : Int32)))])) _
      refine XS.istore X644.here hx rfl (hb hby at_41) rfl (l' := #[.val (.int q0), .val (.int q1), .val (.ref r), .val (.long b4), .second, .val (.int (c5 + (1 : Int32))), .unset, .unset, .unset, .unset]) rfl ?_
      show Steps p.tables e below (T644.setTop (mkF m 43 #[.val (.int q0), .val (.int q1), .val (.ref r), .val (.long b4), .second, .val (.int (c5 + (1 : Int32))), .unset, .unset, .unset, .unset] [])) _
      exact kt
  rw [show own_p32 (((q1.toUInt32 >>> ((2 : Int32) &&& 31).toUInt32).toInt32) &&& (3 : Int32)) = 0 from by unfold own_p32; rw [if_neg hc1, if_neg hc2, if_neg hc3], show own_p64 (((q1.toUInt32 >>> ((2 : Int32) &&& 31).toUInt32).toInt32) &&& (3 : Int32)) = 0 from by unfold own_p64; rw [if_neg hc1, if_neg hc2, if_neg hc3]]
  obtain ⟨_, _, ⟨T645, L645, k645, n645⟩, -, X645, ⟨Lc645, hQ645, l645, y645, z645⟩, st645⟩ := Jvm.LawKit.callS X0 hx (y := (⟨"com/example/tenon/tenon/ReportSizePinLaw", "put", "(Lcom/example/tenon/tenon/Report;I)I"⟩ : MethodName)) hown (mvT hZ (hw _ (List.mem_of_getElem? (i := 64) rfl))) (mvT hZ (hw _ (List.mem_of_getElem? (i := 65) rfl))) (mvT hZ (hw _ (List.mem_of_getElem? (i := 66) rfl))) (mvT hZ (hw _ (List.mem_of_getElem? (i := 67) rfl))) (by decide) (backOf (W := 1) (rm8z l Z a0 hw [] r (((q1.toUInt32 >>> ((2 : Int32) &&& 31).toUInt32).toInt32) &&& (3 : Int32)) T0.heap n0 Zo hc1 hc2 hc3) hZ (hw _ (List.mem_of_getElem? (i := 67) rfl)) (hw _ (List.mem_of_getElem? (i := 66) rfl)) (by decide) (by decide)) (g := (mkF m 37 #[.val (.int q0), .val (.int q1), .val (.ref r), .val (.long b4), .second, .val (.int c5), .unset, .unset, .unset, .unset] [(.int (((q1.toUInt32 >>> ((2 : Int32) &&& 31).toUInt32).toInt32) &&& (3 : Int32))), (.ref r), (.int c5)])) rfl (by rw [hml]; rfl) (argsL := [(.ref r), (.int (((q1.toUInt32 >>> ((2 : Int32) &&& 31).toUInt32).toInt32) &&& (3 : Int32)))]) (rest := [(.int c5)]) (lenOf pd__Lcom_example_tenon_tenon_Report_I_I rfl) rfl (by show 2 * 0 + _ ≤ _; exact Nat.le_of_eq rfl) (hb hby at_37) (fun _ _ => ⟨rfl, rfl, (by show cells + 0 ≤ 32; omega), (by show slots + 0 ≤ 3264; omega)⟩)
  dsimp only [Pt.U, Pt.locs, Pt.cells, Pt.slots] at X645 l645 y645 z645 st645 hQ645
  subst l645 y645 z645
  obtain ⟨rfl, N645q, e645⟩ := hQ645
  refine ⟨T645, ⟨vm0, k0, _, _, _, X645, hSn, by rw [e645]; exact hSk, hZ, hown, Fr.app N0 N645q, own_W_mono (by rw [Int64.add_zero, e645]; exact W1) (by decide), hB.imp (fun q => ⟨by omega, by omega⟩) (fun q => ⟨q.1, by omega, by omega⟩)⟩, fun target kt => ?_⟩
  show Steps p.tables e below (T0.setTop (mkF m 29 #[.val (.int q0), .val (.int q1), .val (.ref r), .val (.long b4), .second, .val (.int c5), .unset, .unset, .unset, .unset] [])) _
  refine XS.iload X0.here hx rfl (hb hby at_29) rfl ?_
  show Steps p.tables e below (T0.setTop (mkF m 31 #[.val (.int q0), .val (.int q1), .val (.ref r), .val (.long b4), .second, .val (.int c5), .unset, .unset, .unset, .unset] [(.int c5)])) _
  refine XS.aloadN X0.here hx rfl (hb hby at_31) rfl rfl ?_
  show Steps p.tables e below (T0.setTop (mkF m 32 #[.val (.int q0), .val (.int q1), .val (.ref r), .val (.long b4), .second, .val (.int c5), .unset, .unset, .unset, .unset] [(.ref r), (.int c5)])) _
  refine XS.iloadN X0.here hx rfl (hb hby at_32) rfl ?_
  show Steps p.tables e below (T0.setTop (mkF m 33 #[.val (.int q0), .val (.int q1), .val (.ref r), .val (.long b4), .second, .val (.int c5), .unset, .unset, .unset, .unset] [(.int q1), (.ref r), (.int c5)])) _
  refine XS.iconst X0.here hx rfl (hb hby at_33) ?_
  show Steps p.tables e below (T0.setTop (mkF m 34 #[.val (.int q0), .val (.int q1), .val (.ref r), .val (.long b4), .second, .val (.int c5), .unset, .unset, .unset, .unset] [(.int (2 : Int32)), (.int q1), (.ref r), (.int c5)])) _
  refine XS.iushr X0.here hx rfl (hb hby at_34) rfl ?_
  show Steps p.tables e below (T0.setTop (mkF m 35 #[.val (.int q0), .val (.int q1), .val (.ref r), .val (.long b4), .second, .val (.int c5), .unset, .unset, .unset, .unset] [(.int ((q1.toUInt32 >>> ((2 : Int32) &&& 31).toUInt32).toInt32)), (.ref r), (.int c5)])) _
  refine XS.iconst X0.here hx rfl (hb hby at_35) ?_
  show Steps p.tables e below (T0.setTop (mkF m 36 #[.val (.int q0), .val (.int q1), .val (.ref r), .val (.long b4), .second, .val (.int c5), .unset, .unset, .unset, .unset] [(.int (3 : Int32)), (.int ((q1.toUInt32 >>> ((2 : Int32) &&& 31).toUInt32).toInt32)), (.ref r), (.int c5)])) _
  refine XS.iand X0.here hx rfl (hb hby at_36) rfl ?_
  show Steps p.tables e below (T0.setTop (mkF m 37 #[.val (.int q0), .val (.int q1), .val (.ref r), .val (.long b4), .second, .val (.int c5), .unset, .unset, .unset, .unset] [(.int (((q1.toUInt32 >>> ((2 : Int32) &&& 31).toUInt32).toInt32) &&& (3 : Int32))), (.ref r), (.int c5)])) _
  refine st645 _ ?_
  show Steps p.tables e below (T645.setTop (mkF m 40 #[.val (.int q0), .val (.int q1), .val (.ref r), .val (.long b4), .second, .val (.int c5), .unset, .unset, .unset, .unset] [(.int (0 : Int32)), (.int c5)])) _
  refine XS.iadd X645.here hx rfl (hb hby at_40) rfl ?_
  show Steps p.tables e below (T645.setTop (mkF m 41 #[.val (.int q0), .val (.int q1), .val (.ref r), .val (.long b4), .second, .val (.int c5), .unset, .unset, .unset, .unset] [(.int (c5 + (0 : Int32)))])) _
  refine XS.istore X645.here hx rfl (hb hby at_41) rfl (l' := #[.val (.int q0), .val (.int q1), .val (.ref r), .val (.long b4), .second, .val (.int (c5 + (0 : Int32))), .unset, .unset, .unset, .unset]) rfl ?_
  show Steps p.tables e below (T645.setTop (mkF m 43 #[.val (.int q0), .val (.int q1), .val (.ref r), .val (.long b4), .second, .val (.int (c5 + (0 : Int32))), .unset, .unset, .unset, .unset] [])) _
  exact kt
set_option maxRecDepth 65536 in
set_option maxHeartbeats 40000000 in
theorem seg2 {p : Program} {l : Launch} {e : Env} {s : State} {m : MethodId} {args : Array Value} {below : List Frame} {meth : Method} {c : Code} {T0 : State} {Z : State} {a0 : Array Value} {n0 : Nat} {r al cb dce e1 e2 e3 : Addr} {kc kd : ClassId} {mo q0 q1 c5 : Int32} {n b4 : Int64}
    (hx : p.tables.exec = Jvm.exec) (hw : ∀ d ∈ tables_1, d.before a0 Z = true) (hby : c.code = code) (hml : c.maxLocals = 10) (SD : Sta Z Z.heap "java/util/ArrayList" "DEFAULTCAPACITY_EMPTY_ELEMENTDATA" "[Ljava/lang/Object;" (.ref dce)) (AD : Arv Z Z.heap dce kd (.object "java/lang/Object") (0 : Int32) [] .null) (S_e1 : Sta Z Z.heap "com/example/tenon/tenon/Finding$Severity" "ERROR" "Lcom/example/tenon/tenon/Finding$Severity;" (.ref e1)) (E_e1 : Exa Z Z.heap e1 "com/example/tenon/tenon/Finding$Severity") (F_e1 : Fld Z Z.heap e1 "java/lang/Enum" "ordinal" "I" (.int (0 : Int32))) (S_e2 : Sta Z Z.heap "com/example/tenon/tenon/Finding$Severity" "WARNING" "Lcom/example/tenon/tenon/Finding$Severity;" (.ref e2)) (E_e2 : Exa Z Z.heap e2 "com/example/tenon/tenon/Finding$Severity") (F_e2 : Fld Z Z.heap e2 "java/lang/Enum" "ordinal" "I" (.int (1 : Int32))) (S_e3 : Sta Z Z.heap "com/example/tenon/tenon/Finding$Severity" "NOTE" "Lcom/example/tenon/tenon/Finding$Severity;" (.ref e3)) (E_e3 : Exa Z Z.heap e3 "com/example/tenon/tenon/Finding$Severity") (F_e3 : Fld Z Z.heap e3 "java/lang/Enum" "ordinal" "I" (.int (2 : Int32))) (hI : own_I Z s p l e m args below meth c n0 r al cb kc dce mo 2 n T0) :
    ∃ T' : State, own_I Z s p l e m args below meth c n0 r al cb kc dce mo 3 (n + own_p64 (((q1.toUInt32 >>> ((4 : Int32) &&& 31).toUInt32).toInt32) &&& (3 : Int32))) T' ∧ ∀ target, Steps p.tables e below (T'.setTop (mkF m 57 #[.val (.int q0), .val (.int q1), .val (.ref r), .val (.long b4), .second, .val (.int (c5 + own_p32 (((q1.toUInt32 >>> ((4 : Int32) &&& 31).toUInt32).toInt32) &&& (3 : Int32)))), .unset, .unset, .unset, .unset] [])) target → Steps p.tables e below (T0.setTop (mkF m 43 #[.val (.int q0), .val (.int q1), .val (.ref r), .val (.long b4), .second, .val (.int c5), .unset, .unset, .unset, .unset] [])) target := by
  obtain ⟨vm0, k0, locs, cells, slots, X0, hSn, hSk, hZ, hown, N0, W1, hB⟩ := hI
  have hZ : Z.Warmed39 (s.setVm vm0).vm := hZ
  have hown : (s.setVm vm0).vm.findClass "com/example/tenon/tenon/ReportSizePinLaw" = some m.cls := hown
  have Zo := W1.2.1
  by_cases hc1 : (((q1.toUInt32 >>> ((4 : Int32) &&& 31).toUInt32).toInt32) &&& (3 : Int32)) = (1 : Int32)
  · rw [show own_p32 (((q1.toUInt32 >>> ((4 : Int32) &&& 31).toUInt32).toInt32) &&& (3 : Int32)) = 1 from by unfold own_p32; rw [if_pos hc1], show own_p64 (((q1.toUInt32 >>> ((4 : Int32) &&& 31).toUInt32).toInt32) &&& (3 : Int32)) = 1 from by unfold own_p64; rw [if_pos hc1]]
    rcases hB with hB | ⟨hL, hB⟩
    · obtain ⟨_, _, ⟨T646, L646, k646, n646⟩, -, X646, hS2, hsz, ⟨Lc646, hQ646, l646, y646, z646⟩, st646⟩ := callSS X0 hx (y := (⟨"com/example/tenon/tenon/ReportSizePinLaw", "put", "(Lcom/example/tenon/tenon/Report;I)I"⟩ : MethodName)) hown (mvT hZ (hw _ (List.mem_of_getElem? (i := 64) rfl))) (mvT hZ (hw _ (List.mem_of_getElem? (i := 65) rfl))) (mvT hZ (hw _ (List.mem_of_getElem? (i := 66) rfl))) (mvT hZ (hw _ (List.mem_of_getElem? (i := 67) rfl))) (by decide) (own_backS (W := 1) (rm8c1 l Z a0 hw [] r al cb kc dce kd mo (2 : Int) n e1 T0.heap n0 Zo W1 SD AD (by decide) S_e1 E_e1 F_e1) hZ (hw _ (List.mem_of_getElem? (i := 67) rfl)) (hw _ (List.mem_of_getElem? (i := 66) rfl)) (by decide) (by decide)) (g := (mkF m 51 #[.val (.int q0), .val (.int q1), .val (.ref r), .val (.long b4), .second, .val (.int c5), .unset, .unset, .unset, .unset] [(.int (1 : Int32)), (.ref r), (.int c5)])) rfl (by rw [hml]; rfl) (argsL := [(.ref r), (.int (1 : Int32))]) (rest := [(.int c5)]) (lenOf pd__Lcom_example_tenon_tenon_Report_I_I rfl) rfl (by show 2 * 0 + _ ≤ _; exact Nat.le_of_eq rfl) (hb hby at_51) (fun _ _ => ⟨rfl, rfl, (by show cells + 8 ≤ 32; omega), (by show slots + 38 ≤ 3264; omega)⟩)
      dsimp only [Pt.U, Pt.locs, Pt.cells, Pt.slots] at X646 l646 y646 z646 st646 hQ646 hS2 hsz
      subst l646 y646 z646
      obtain ⟨⟨rfl, N646q, hz3, W3⟩, hLn⟩ := hQ646
      have hf : T646.vm.findClass "com/example/tenon/tenon/ReportSizePinLaw" = some m.cls := by rw [hS2.1.alike.findClass]; exact hown
      refine ⟨T646, ⟨T646.vm, _, _, _, _, X646, hSn.trans hS2 (Nat.le_trans hSk hsz), Nat.le_refl _, State.Warmed39.trans (t := s.setVm vm0) hZ hS2.1, hf, Fr.app N0 N646q, W3, Or.inr ⟨hLn.vm rfl, by omega, by omega⟩⟩, fun target kt => ?_⟩
      show Steps p.tables e below (T0.setTop (mkF m 43 #[.val (.int q0), .val (.int q1), .val (.ref r), .val (.long b4), .second, .val (.int c5), .unset, .unset, .unset, .unset] [])) _
      refine XS.iload X0.here hx rfl (hb hby at_43) rfl ?_
      show Steps p.tables e below (T0.setTop (mkF m 45 #[.val (.int q0), .val (.int q1), .val (.ref r), .val (.long b4), .second, .val (.int c5), .unset, .unset, .unset, .unset] [(.int c5)])) _
      refine XS.aloadN X0.here hx rfl (hb hby at_45) rfl rfl ?_
      show Steps p.tables e below (T0.setTop (mkF m 46 #[.val (.int q0), .val (.int q1), .val (.ref r), .val (.long b4), .second, .val (.int c5), .unset, .unset, .unset, .unset] [(.ref r), (.int c5)])) _
      refine XS.iloadN X0.here hx rfl (hb hby at_46) rfl ?_
      show Steps p.tables e below (T0.setTop (mkF m 47 #[.val (.int q0), .val (.int q1), .val (.ref r), .val (.long b4), .second, .val (.int c5), .unset, .unset, .unset, .unset] [(.int q1), (.ref r), (.int c5)])) _
      refine XS.iconst X0.here hx rfl (hb hby at_47) ?_
      show Steps p.tables e below (T0.setTop (mkF m 48 #[.val (.int q0), .val (.int q1), .val (.ref r), .val (.long b4), .second, .val (.int c5), .unset, .unset, .unset, .unset] [(.int (4 : Int32)), (.int q1), (.ref r), (.int c5)])) _
      refine XS.iushr X0.here hx rfl (hb hby at_48) rfl ?_
      show Steps p.tables e below (T0.setTop (mkF m 49 #[.val (.int q0), .val (.int q1), .val (.ref r), .val (.long b4), .second, .val (.int c5), .unset, .unset, .unset, .unset] [(.int ((q1.toUInt32 >>> ((4 : Int32) &&& 31).toUInt32).toInt32)), (.ref r), (.int c5)])) _
      refine XS.iconst X0.here hx rfl (hb hby at_49) ?_
      show Steps p.tables e below (T0.setTop (mkF m 50 #[.val (.int q0), .val (.int q1), .val (.ref r), .val (.long b4), .second, .val (.int c5), .unset, .unset, .unset, .unset] [(.int (3 : Int32)), (.int ((q1.toUInt32 >>> ((4 : Int32) &&& 31).toUInt32).toInt32)), (.ref r), (.int c5)])) _
      refine XS.iand X0.here hx rfl (hb hby at_50) rfl ?_
      show Steps p.tables e below (T0.setTop (mkF m 51 #[.val (.int q0), .val (.int q1), .val (.ref r), .val (.long b4), .second, .val (.int c5), .unset, .unset, .unset, .unset] [(.int (((q1.toUInt32 >>> ((4 : Int32) &&& 31).toUInt32).toInt32) &&& (3 : Int32))), (.ref r), (.int c5)])) _
      rw [hc1]
      show Steps p.tables e below (T0.setTop (mkF m 51 #[.val (.int q0), .val (.int q1), .val (.ref r), .val (.long b4), .second, .val (.int c5), .unset, .unset, .unset, .unset] [(.int (1 : Int32)), (.ref r), (.int c5)])) _
      refine st646.trans ?_
      show Steps p.tables e below (T646.setTop (mkF m 54 #[.val (.int q0), .val (.int q1), .val (.ref r), .val (.long b4), .second, .val (.int c5), .unset, .unset, .unset, .unset] [(.int (1 : Int32)), (.int c5)])) _
      refine XS.iadd X646.here hx rfl (hb hby at_54) rfl ?_
      show Steps p.tables e below (T646.setTop (mkF m 55 #[.val (.int q0), .val (.int q1), .val (.ref r), .val (.long b4), .second, .val (.int c5), .unset, .unset, .unset, .unset] [(.int (c5 + (1 : Int32)))])) _
      refine XS.istore X646.here hx rfl (hb hby at_55) rfl (l' := #[.val (.int q0), .val (.int q1), .val (.ref r), .val (.long b4), .second, .val (.int (c5 + (1 : Int32))), .unset, .unset, .unset, .unset]) rfl ?_
      show Steps p.tables e below (T646.setTop (mkF m 57 #[.val (.int q0), .val (.int q1), .val (.ref r), .val (.long b4), .second, .val (.int (c5 + (1 : Int32))), .unset, .unset, .unset, .unset] [])) _
      exact kt
    · obtain ⟨_, _, ⟨T647, L647, k647, n647⟩, -, X647, ⟨Lc647, hQ647, l647, y647, z647⟩, st647⟩ := Jvm.LawKit.callS X0 hx (y := (⟨"com/example/tenon/tenon/ReportSizePinLaw", "put", "(Lcom/example/tenon/tenon/Report;I)I"⟩ : MethodName)) hown (mvT hZ (hw _ (List.mem_of_getElem? (i := 64) rfl))) (mvT hZ (hw _ (List.mem_of_getElem? (i := 65) rfl))) (mvT hZ (hw _ (List.mem_of_getElem? (i := 66) rfl))) (mvT hZ (hw _ (List.mem_of_getElem? (i := 67) rfl))) (by decide) (own_backL (W := 1) (rm8h1 l Z a0 hw [] r al cb kc dce kd mo (2 : Int) n e1 T0.heap n0 Zo W1 SD AD (by decide) S_e1 E_e1 F_e1) hZ (hw _ (List.mem_of_getElem? (i := 67) rfl)) (hw _ (List.mem_of_getElem? (i := 66) rfl)) (by decide) (by decide)) (g := (mkF m 51 #[.val (.int q0), .val (.int q1), .val (.ref r), .val (.long b4), .second, .val (.int c5), .unset, .unset, .unset, .unset] [(.int (1 : Int32)), (.ref r), (.int c5)])) rfl (by rw [hml]; rfl) (argsL := [(.ref r), (.int (1 : Int32))]) (rest := [(.int c5)]) (lenOf pd__Lcom_example_tenon_tenon_Report_I_I rfl) rfl (by show 2 * 0 + _ ≤ _; exact Nat.le_of_eq rfl) (hb hby at_51) (fun vm₁ hW₁ => ⟨rfl, rfl, (hL.stays hW₁.wide).vm rfl, (by show cells + 2 ≤ 32; omega), (by show slots + 14 ≤ 3264; omega)⟩)
      dsimp only [Pt.U, Pt.locs, Pt.cells, Pt.slots] at X647 l647 y647 z647 st647 hQ647
      subst l647 y647 z647
      obtain ⟨rfl, N647q, hz3, W3⟩ := hQ647
      refine ⟨T647, ⟨vm0, k0, _, _, _, X647, hSn, Nat.le_trans hSk hz3, hZ, hown, Fr.app N0 N647q, W3, Or.inr ⟨hL, by omega, by omega⟩⟩, fun target kt => ?_⟩
      show Steps p.tables e below (T0.setTop (mkF m 43 #[.val (.int q0), .val (.int q1), .val (.ref r), .val (.long b4), .second, .val (.int c5), .unset, .unset, .unset, .unset] [])) _
      refine XS.iload X0.here hx rfl (hb hby at_43) rfl ?_
      show Steps p.tables e below (T0.setTop (mkF m 45 #[.val (.int q0), .val (.int q1), .val (.ref r), .val (.long b4), .second, .val (.int c5), .unset, .unset, .unset, .unset] [(.int c5)])) _
      refine XS.aloadN X0.here hx rfl (hb hby at_45) rfl rfl ?_
      show Steps p.tables e below (T0.setTop (mkF m 46 #[.val (.int q0), .val (.int q1), .val (.ref r), .val (.long b4), .second, .val (.int c5), .unset, .unset, .unset, .unset] [(.ref r), (.int c5)])) _
      refine XS.iloadN X0.here hx rfl (hb hby at_46) rfl ?_
      show Steps p.tables e below (T0.setTop (mkF m 47 #[.val (.int q0), .val (.int q1), .val (.ref r), .val (.long b4), .second, .val (.int c5), .unset, .unset, .unset, .unset] [(.int q1), (.ref r), (.int c5)])) _
      refine XS.iconst X0.here hx rfl (hb hby at_47) ?_
      show Steps p.tables e below (T0.setTop (mkF m 48 #[.val (.int q0), .val (.int q1), .val (.ref r), .val (.long b4), .second, .val (.int c5), .unset, .unset, .unset, .unset] [(.int (4 : Int32)), (.int q1), (.ref r), (.int c5)])) _
      refine XS.iushr X0.here hx rfl (hb hby at_48) rfl ?_
      show Steps p.tables e below (T0.setTop (mkF m 49 #[.val (.int q0), .val (.int q1), .val (.ref r), .val (.long b4), .second, .val (.int c5), .unset, .unset, .unset, .unset] [(.int ((q1.toUInt32 >>> ((4 : Int32) &&& 31).toUInt32).toInt32)), (.ref r), (.int c5)])) _
      refine XS.iconst X0.here hx rfl (hb hby at_49) ?_
      show Steps p.tables e below (T0.setTop (mkF m 50 #[.val (.int q0), .val (.int q1), .val (.ref r), .val (.long b4), .second, .val (.int c5), .unset, .unset, .unset, .unset] [(.int (3 : Int32)), (.int ((q1.toUInt32 >>> ((4 : Int32) &&& 31).toUInt32).toInt32)), (.ref r), (.int c5)])) _
      refine XS.iand X0.here hx rfl (hb hby at_50) rfl ?_
      show Steps p.tables e below (T0.setTop (mkF m 51 #[.val (.int q0), .val (.int q1), .val (.ref r), .val (.long b4), .second, .val (.int c5), .unset, .unset, .unset, .unset] [(.int (((q1.toUInt32 >>> ((4 : Int32) &&& 31).toUInt32).toInt32) &&& (3 : Int32))), (.ref r), (.int c5)])) _
      rw [hc1]
      show Steps p.tables e below (T0.setTop (mkF m 51 #[.val (.int q0), .val (.int q1), .val (.ref r), .val (.long b4), .second, .val (.int c5), .unset, .unset, .unset, .unset] [(.int (1 : Int32)), (.ref r), (.int c5)])) _
      refine st647 _ ?_
      show Steps p.tables e below (T647.setTop (mkF m 54 #[.val (.int q0), .val (.int q1), .val (.ref r), .val (.long b4), .second, .val (.int c5), .unset, .unset, .unset, .unset] [(.int (1 : Int32)), (.int c5)])) _
      refine XS.iadd X647.here hx rfl (hb hby at_54) rfl ?_
      show Steps p.tables e below (T647.setTop (mkF m 55 #[.val (.int q0), .val (.int q1), .val (.ref r), .val (.long b4), .second, .val (.int c5), .unset, .unset, .unset, .unset] [(.int (c5 + (1 : Int32)))])) _
      refine XS.istore X647.here hx rfl (hb hby at_55) rfl (l' := #[.val (.int q0), .val (.int q1), .val (.ref r), .val (.long b4), .second, .val (.int (c5 + (1 : Int32))), .unset, .unset, .unset, .unset]) rfl ?_
      show Steps p.tables e below (T647.setTop (mkF m 57 #[.val (.int q0), .val (.int q1), .val (.ref r), .val (.long b4), .second, .val (.int (c5 + (1 : Int32))), .unset, .unset, .unset, .unset] [])) _
      exact kt
  by_cases hc2 : (((q1.toUInt32 >>> ((4 : Int32) &&& 31).toUInt32).toInt32) &&& (3 : Int32)) = (2 : Int32)
  · rw [show own_p32 (((q1.toUInt32 >>> ((4 : Int32) &&& 31).toUInt32).toInt32) &&& (3 : Int32)) = 1 from by unfold own_p32; rw [if_neg hc1, if_pos hc2], show own_p64 (((q1.toUInt32 >>> ((4 : Int32) &&& 31).toUInt32).toInt32) &&& (3 : Int32)) = 1 from by unfold own_p64; rw [if_neg hc1, if_pos hc2]]
    rcases hB with hB | ⟨hL, hB⟩
    · obtain ⟨_, _, ⟨T648, L648, k648, n648⟩, -, X648, hS2, hsz, ⟨Lc648, hQ648, l648, y648, z648⟩, st648⟩ := callSS X0 hx (y := (⟨"com/example/tenon/tenon/ReportSizePinLaw", "put", "(Lcom/example/tenon/tenon/Report;I)I"⟩ : MethodName)) hown (mvT hZ (hw _ (List.mem_of_getElem? (i := 64) rfl))) (mvT hZ (hw _ (List.mem_of_getElem? (i := 65) rfl))) (mvT hZ (hw _ (List.mem_of_getElem? (i := 66) rfl))) (mvT hZ (hw _ (List.mem_of_getElem? (i := 67) rfl))) (by decide) (own_backS (W := 1) (rm8c2 l Z a0 hw [] r al cb kc dce kd mo (2 : Int) n e2 T0.heap n0 Zo W1 SD AD (by decide) S_e2 E_e2 F_e2) hZ (hw _ (List.mem_of_getElem? (i := 67) rfl)) (hw _ (List.mem_of_getElem? (i := 66) rfl)) (by decide) (by decide)) (g := (mkF m 51 #[.val (.int q0), .val (.int q1), .val (.ref r), .val (.long b4), .second, .val (.int c5), .unset, .unset, .unset, .unset] [(.int (2 : Int32)), (.ref r), (.int c5)])) rfl (by rw [hml]; rfl) (argsL := [(.ref r), (.int (2 : Int32))]) (rest := [(.int c5)]) (lenOf pd__Lcom_example_tenon_tenon_Report_I_I rfl) rfl (by show 2 * 0 + _ ≤ _; exact Nat.le_of_eq rfl) (hb hby at_51) (fun _ _ => ⟨rfl, rfl, (by show cells + 8 ≤ 32; omega), (by show slots + 38 ≤ 3264; omega)⟩)
      dsimp only [Pt.U, Pt.locs, Pt.cells, Pt.slots] at X648 l648 y648 z648 st648 hQ648 hS2 hsz
      subst l648 y648 z648
      obtain ⟨⟨rfl, N648q, hz3, W3⟩, hLn⟩ := hQ648
      have hf : T648.vm.findClass "com/example/tenon/tenon/ReportSizePinLaw" = some m.cls := by rw [hS2.1.alike.findClass]; exact hown
      refine ⟨T648, ⟨T648.vm, _, _, _, _, X648, hSn.trans hS2 (Nat.le_trans hSk hsz), Nat.le_refl _, State.Warmed39.trans (t := s.setVm vm0) hZ hS2.1, hf, Fr.app N0 N648q, W3, Or.inr ⟨hLn.vm rfl, by omega, by omega⟩⟩, fun target kt => ?_⟩
      show Steps p.tables e below (T0.setTop (mkF m 43 #[.val (.int q0), .val (.int q1), .val (.ref r), .val (.long b4), .second, .val (.int c5), .unset, .unset, .unset, .unset] [])) _
      refine XS.iload X0.here hx rfl (hb hby at_43) rfl ?_
      show Steps p.tables e below (T0.setTop (mkF m 45 #[.val (.int q0), .val (.int q1), .val (.ref r), .val (.long b4), .second, .val (.int c5), .unset, .unset, .unset, .unset] [(.int c5)])) _
      refine XS.aloadN X0.here hx rfl (hb hby at_45) rfl rfl ?_
      show Steps p.tables e below (T0.setTop (mkF m 46 #[.val (.int q0), .val (.int q1), .val (.ref r), .val (.long b4), .second, .val (.int c5), .unset, .unset, .unset, .unset] [(.ref r), (.int c5)])) _
      refine XS.iloadN X0.here hx rfl (hb hby at_46) rfl ?_
      show Steps p.tables e below (T0.setTop (mkF m 47 #[.val (.int q0), .val (.int q1), .val (.ref r), .val (.long b4), .second, .val (.int c5), .unset, .unset, .unset, .unset] [(.int q1), (.ref r), (.int c5)])) _
      refine XS.iconst X0.here hx rfl (hb hby at_47) ?_
      show Steps p.tables e below (T0.setTop (mkF m 48 #[.val (.int q0), .val (.int q1), .val (.ref r), .val (.long b4), .second, .val (.int c5), .unset, .unset, .unset, .unset] [(.int (4 : Int32)), (.int q1), (.ref r), (.int c5)])) _
      refine XS.iushr X0.here hx rfl (hb hby at_48) rfl ?_
      show Steps p.tables e below (T0.setTop (mkF m 49 #[.val (.int q0), .val (.int q1), .val (.ref r), .val (.long b4), .second, .val (.int c5), .unset, .unset, .unset, .unset] [(.int ((q1.toUInt32 >>> ((4 : Int32) &&& 31).toUInt32).toInt32)), (.ref r), (.int c5)])) _
      refine XS.iconst X0.here hx rfl (hb hby at_49) ?_
      show Steps p.tables e below (T0.setTop (mkF m 50 #[.val (.int q0), .val (.int q1), .val (.ref r), .val (.long b4), .second, .val (.int c5), .unset, .unset, .unset, .unset] [(.int (3 : Int32)), (.int ((q1.toUInt32 >>> ((4 : Int32) &&& 31).toUInt32).toInt32)), (.ref r), (.int c5)])) _
      refine XS.iand X0.here hx rfl (hb hby at_50) rfl ?_
      show Steps p.tables e below (T0.setTop (mkF m 51 #[.val (.int q0), .val (.int q1), .val (.ref r), .val (.long b4), .second, .val (.int c5), .unset, .unset, .unset, .unset] [(.int (((q1.toUInt32 >>> ((4 : Int32) &&& 31).toUInt32).toInt32) &&& (3 : Int32))), (.ref r), (.int c5)])) _
      rw [hc2]
      show Steps p.tables e below (T0.setTop (mkF m 51 #[.val (.int q0), .val (.int q1), .val (.ref r), .val (.long b4), .second, .val (.int c5), .unset, .unset, .unset, .unset] [(.int (2 : Int32)), (.ref r), (.int c5)])) _
      refine st648.trans ?_
      show Steps p.tables e below (T648.setTop (mkF m 54 #[.val (.int q0), .val (.int q1), .val (.ref r), .val (.long b4), .second, .val (.int c5), .unset, .unset, .unset, .unset] [(.int (1 : Int32)), (.int c5)])) _
      refine XS.iadd X648.here hx rfl (hb hby at_54) rfl ?_
      show Steps p.tables e below (T648.setTop (mkF m 55 #[.val (.int q0), .val (.int q1), .val (.ref r), .val (.long b4), .second, .val (.int c5), .unset, .unset, .unset, .unset] [(.int (c5 + (1 : Int32)))])) _
      refine XS.istore X648.here hx rfl (hb hby at_55) rfl (l' := #[.val (.int q0), .val (.int q1), .val (.ref r), .val (.long b4), .second, .val (.int (c5 + (1 : Int32))), .unset, .unset, .unset, .unset]) rfl ?_
      show Steps p.tables e below (T648.setTop (mkF m 57 #[.val (.int q0), .val (.int q1), .val (.ref r), .val (.long b4), .second, .val (.int (c5 + (1 : Int32))), .unset, .unset, .unset, .unset] [])) _
      exact kt
    · obtain ⟨_, _, ⟨T649, L649, k649, n649⟩, -, X649, ⟨Lc649, hQ649, l649, y649, z649⟩, st649⟩ := Jvm.LawKit.callS X0 hx (y := (⟨"com/example/tenon/tenon/ReportSizePinLaw", "put", "(Lcom/example/tenon/tenon/Report;I)I"⟩ : MethodName)) hown (mvT hZ (hw _ (List.mem_of_getElem? (i := 64) rfl))) (mvT hZ (hw _ (List.mem_of_getElem? (i := 65) rfl))) (mvT hZ (hw _ (List.mem_of_getElem? (i := 66) rfl))) (mvT hZ (hw _ (List.mem_of_getElem? (i := 67) rfl))) (by decide) (own_backL (W := 1) (rm8h2 l Z a0 hw [] r al cb kc dce kd mo (2 : Int) n e2 T0.heap n0 Zo W1 SD AD (by decide) S_e2 E_e2 F_e2) hZ (hw _ (List.mem_of_getElem? (i := 67) rfl)) (hw _ (List.mem_of_getElem? (i := 66) rfl)) (by decide) (by decide)) (g := (mkF m 51 #[.val (.int q0), .val (.int q1), .val (.ref r), .val (.long b4), .second, .val (.int c5), .unset, .unset, .unset, .unset] [(.int (2 : Int32)), (.ref r), (.int c5)])) rfl (by rw [hml]; rfl) (argsL := [(.ref r), (.int (2 : Int32))]) (rest := [(.int c5)]) (lenOf pd__Lcom_example_tenon_tenon_Report_I_I rfl) rfl (by show 2 * 0 + _ ≤ _; exact Nat.le_of_eq rfl) (hb hby at_51) (fun vm₁ hW₁ => ⟨rfl, rfl, (hL.stays hW₁.wide).vm rfl, (by show cells + 2 ≤ 32; omega), (by show slots + 14 ≤ 3264; omega)⟩)
      dsimp only [Pt.U, Pt.locs, Pt.cells, Pt.slots] at X649 l649 y649 z649 st649 hQ649
      subst l649 y649 z649
      obtain ⟨rfl, N649q, hz3, W3⟩ := hQ649
      refine ⟨T649, ⟨vm0, k0, _, _, _, X649, hSn, Nat.le_trans hSk hz3, hZ, hown, Fr.app N0 N649q, W3, Or.inr ⟨hL, by omega, by omega⟩⟩, fun target kt => ?_⟩
      show Steps p.tables e below (T0.setTop (mkF m 43 #[.val (.int q0), .val (.int q1), .val (.ref r), .val (.long b4), .second, .val (.int c5), .unset, .unset, .unset, .unset] [])) _
      refine XS.iload X0.here hx rfl (hb hby at_43) rfl ?_
      show Steps p.tables e below (T0.setTop (mkF m 45 #[.val (.int q0), .val (.int q1), .val (.ref r), .val (.long b4), .second, .val (.int c5), .unset, .unset, .unset, .unset] [(.int c5)])) _
      refine XS.aloadN X0.here hx rfl (hb hby at_45) rfl rfl ?_
      show Steps p.tables e below (T0.setTop (mkF m 46 #[.val (.int q0), .val (.int q1), .val (.ref r), .val (.long b4), .second, .val (.int c5), .unset, .unset, .unset, .unset] [(.ref r), (.int c5)])) _
      refine XS.iloadN X0.here hx rfl (hb hby at_46) rfl ?_
      show Steps p.tables e below (T0.setTop (mkF m 47 #[.val (.int q0), .val (.int q1), .val (.ref r), .val (.long b4), .second, .val (.int c5), .unset, .unset, .unset, .unset] [(.int q1), (.ref r), (.int c5)])) _
      refine XS.iconst X0.here hx rfl (hb hby at_47) ?_
      show Steps p.tables e below (T0.setTop (mkF m 48 #[.val (.int q0), .val (.int q1), .val (.ref r), .val (.long b4), .second, .val (.int c5), .unset, .unset, .unset, .unset] [(.int (4 : Int32)), (.int q1), (.ref r), (.int c5)])) _
      refine XS.iushr X0.here hx rfl (hb hby at_48) rfl ?_
      show Steps p.tables e below (T0.setTop (mkF m 49 #[.val (.int q0), .val (.int q1), .val (.ref r), .val (.long b4), .second, .val (.int c5), .unset, .unset, .unset, .unset] [(.int ((q1.toUInt32 >>> ((4 : Int32) &&& 31).toUInt32).toInt32)), (.ref r), (.int c5)])) _
      refine XS.iconst X0.here hx rfl (hb hby at_49) ?_
      show Steps p.tables e below (T0.setTop (mkF m 50 #[.val (.int q0), .val (.int q1), .val (.ref r), .val (.long b4), .second, .val (.int c5), .unset, .unset, .unset, .unset] [(.int (3 : Int32)), (.int ((q1.toUInt32 >>> ((4 : Int32) &&& 31).toUInt32).toInt32)), (.ref r), (.int c5)])) _
      refine XS.iand X0.here hx rfl (hb hby at_50) rfl ?_
      show Steps p.tables e below (T0.setTop (mkF m 51 #[.val (.int q0), .val (.int q1), .val (.ref r), .val (.long b4), .second, .val (.int c5), .unset, .unset, .unset, .unset] [(.int (((q1.toUInt32 >>> ((4 : Int32) &&& 31).toUInt32).toInt32) &&& (3 : Int32))), (.ref r), (.int c5)])) _
      rw [hc2]
      show Steps p.tables e below (T0.setTop (mkF m 51 #[.val (.int q0), .val (.int q1), .val (.ref r), .val (.long b4), .second, .val (.int c5), .unset, .unset, .unset, .unset] [(.int (2 : Int32)), (.ref r), (.int c5)])) _
      refine st649 _ ?_
      show Steps p.tables e below (T649.setTop (mkF m 54 #[.val (.int q0), .val (.int q1), .val (.ref r), .val (.long b4), .second, .val (.int c5), .unset, .unset, .unset, .unset] [(.int (1 : Int32)), (.int c5)])) _
      refine XS.iadd X649.here hx rfl (hb hby at_54) rfl ?_
      show Steps p.tables e below (T649.setTop (mkF m 55 #[.val (.int q0), .val (.int q1), .val (.ref r), .val (.long b4), .second, .val (.int c5), .unset, .unset, .unset, .unset] [(.int (c5 + (1 : Int32)))])) _
      refine XS.istore X649.here hx rfl (hb hby at_55) rfl (l' := #[.val (.int q0), .val (.int q1), .val (.ref r), .val (.long b4), .second, .val (.int (c5 + (1 : Int32))), .unset, .unset, .unset, .unset]) rfl ?_
      show Steps p.tables e below (T649.setTop (mkF m 57 #[.val (.int q0), .val (.int q1), .val (.ref r), .val (.long b4), .second, .val (.int (c5 + (1 : Int32))), .unset, .unset, .unset, .unset] [])) _
      exact kt
  by_cases hc3 : (((q1.toUInt32 >>> ((4 : Int32) &&& 31).toUInt32).toInt32) &&& (3 : Int32)) = (3 : Int32)
  · rw [show own_p32 (((q1.toUInt32 >>> ((4 : Int32) &&& 31).toUInt32).toInt32) &&& (3 : Int32)) = 1 from by unfold own_p32; rw [if_neg hc1, if_neg hc2, if_pos hc3], show own_p64 (((q1.toUInt32 >>> ((4 : Int32) &&& 31).toUInt32).toInt32) &&& (3 : Int32)) = 1 from by unfold own_p64; rw [if_neg hc1, if_neg hc2, if_pos hc3]]
    rcases hB with hB | ⟨hL, hB⟩
    · obtain ⟨_, _, ⟨T650, L650, k650, n650⟩, -, X650, hS2, hsz, ⟨Lc650, hQ650, l650, y650, z650⟩, st650⟩ := callSS X0 hx (y := (⟨"com/example/tenon/tenon/ReportSizePinLaw", "put", "(Lcom/example/tenon/tenon/Report;I)I"⟩ : MethodName)) hown (mvT hZ (hw _ (List.mem_of_getElem? (i := 64) rfl))) (mvT hZ (hw _ (List.mem_of_getElem? (i := 65) rfl))) (mvT hZ (hw _ (List.mem_of_getElem? (i := 66) rfl))) (mvT hZ (hw _ (List.mem_of_getElem? (i := 67) rfl))) (by decide) (own_backS (W := 1) (rm8c3 l Z a0 hw [] r al cb kc dce kd mo (2 : Int) n e3 T0.heap n0 Zo W1 SD AD (by decide) S_e3 E_e3 F_e3) hZ (hw _ (List.mem_of_getElem? (i := 67) rfl)) (hw _ (List.mem_of_getElem? (i := 66) rfl)) (by decide) (by decide)) (g := (mkF m 51 #[.val (.int q0), .val (.int q1), .val (.ref r), .val (.long b4), .second, .val (.int c5), .unset, .unset, .unset, .unset] [(.int (3 : Int32)), (.ref r), (.int c5)])) rfl (by rw [hml]; rfl) (argsL := [(.ref r), (.int (3 : Int32))]) (rest := [(.int c5)]) (lenOf pd__Lcom_example_tenon_tenon_Report_I_I rfl) rfl (by show 2 * 0 + _ ≤ _; exact Nat.le_of_eq rfl) (hb hby at_51) (fun _ _ => ⟨rfl, rfl, (by show cells + 8 ≤ 32; omega), (by show slots + 38 ≤ 3264; omega)⟩)
      dsimp only [Pt.U, Pt.locs, Pt.cells, Pt.slots] at X650 l650 y650 z650 st650 hQ650 hS2 hsz
      subst l650 y650 z650
      obtain ⟨⟨rfl, N650q, hz3, W3⟩, hLn⟩ := hQ650
      have hf : T650.vm.findClass "com/example/tenon/tenon/ReportSizePinLaw" = some m.cls := by rw [hS2.1.alike.findClass]; exact hown
      refine ⟨T650, ⟨T650.vm, _, _, _, _, X650, hSn.trans hS2 (Nat.le_trans hSk hsz), Nat.le_refl _, State.Warmed39.trans (t := s.setVm vm0) hZ hS2.1, hf, Fr.app N0 N650q, W3, Or.inr ⟨hLn.vm rfl, by omega, by omega⟩⟩, fun target kt => ?_⟩
      show Steps p.tables e below (T0.setTop (mkF m 43 #[.val (.int q0), .val (.int q1), .val (.ref r), .val (.long b4), .second, .val (.int c5), .unset, .unset, .unset, .unset] [])) _
      refine XS.iload X0.here hx rfl (hb hby at_43) rfl ?_
      show Steps p.tables e below (T0.setTop (mkF m 45 #[.val (.int q0), .val (.int q1), .val (.ref r), .val (.long b4), .second, .val (.int c5), .unset, .unset, .unset, .unset] [(.int c5)])) _
      refine XS.aloadN X0.here hx rfl (hb hby at_45) rfl rfl ?_
      show Steps p.tables e below (T0.setTop (mkF m 46 #[.val (.int q0), .val (.int q1), .val (.ref r), .val (.long b4), .second, .val (.int c5), .unset, .unset, .unset, .unset] [(.ref r), (.int c5)])) _
      refine XS.iloadN X0.here hx rfl (hb hby at_46) rfl ?_
      show Steps p.tables e below (T0.setTop (mkF m 47 #[.val (.int q0), .val (.int q1), .val (.ref r), .val (.long b4), .second, .val (.int c5), .unset, .unset, .unset, .unset] [(.int q1), (.ref r), (.int c5)])) _
      refine XS.iconst X0.here hx rfl (hb hby at_47) ?_
      show Steps p.tables e below (T0.setTop (mkF m 48 #[.val (.int q0), .val (.int q1), .val (.ref r), .val (.long b4), .second, .val (.int c5), .unset, .unset, .unset, .unset] [(.int (4 : Int32)), (.int q1), (.ref r), (.int c5)])) _
      refine XS.iushr X0.here hx rfl (hb hby at_48) rfl ?_
      show Steps p.tables e below (T0.setTop (mkF m 49 #[.val (.int q0), .val (.int q1), .val (.ref r), .val (.long b4), .second, .val (.int c5), .unset, .unset, .unset, .unset] [(.int ((q1.toUInt32 >>> ((4 : Int32) &&& 31).toUInt32).toInt32)), (.ref r), (.int c5)])) _
      refine XS.iconst X0.here hx rfl (hb hby at_49) ?_
      show Steps p.tables e below (T0.setTop (mkF m 50 #[.val (.int q0), .val (.int q1), .val (.ref r), .val (.long b4), .second, .val (.int c5), .unset, .unset, .unset, .unset] [(.int (3 : Int32)), (.int ((q1.toUInt32 >>> ((4 : Int32) &&& 31).toUInt32).toInt32)), (.ref r), (.int c5)])) _
      refine XS.iand X0.here hx rfl (hb hby at_50) rfl ?_
      show Steps p.tables e below (T0.setTop (mkF m 51 #[.val (.int q0), .val (.int q1), .val (.ref r), .val (.long b4), .second, .val (.int c5), .unset, .unset, .unset, .unset] [(.int (((q1.toUInt32 >>> ((4 : Int32) &&& 31).toUInt32).toInt32) &&& (3 : Int32))), (.ref r), (.int c5)])) _
      rw [hc3]
      show Steps p.tables e below (T0.setTop (mkF m 51 #[.val (.int q0), .val (.int q1), .val (.ref r), .val (.long b4), .second, .val (.int c5), .unset, .unset, .unset, .unset] [(.int (3 : Int32)), (.ref r), (.int c5)])) _
      refine st650.trans ?_
      show Steps p.tables e below (T650.setTop (mkF m 54 #[.val (.int q0), .val (.int q1), .val (.ref r), .val (.long b4), .second, .val (.int c5), .unset, .unset, .unset, .unset] [(.int (1 : Int32)), (.int c5)])) _
      refine XS.iadd X650.here hx rfl (hb hby at_54) rfl ?_
      show Steps p.tables e below (T650.setTop (mkF m 55 #[.val (.int q0), .val (.int q1), .val (.ref r), .val (.long b4), .second, .val (.int c5), .unset, .unset, .unset, .unset] [(.int (c5 + (1 : Int32)))])) _
      refine XS.istore X650.here hx rfl (hb hby at_55) rfl (l' := #[.val (.int q0), .val (.int q1), .val (.ref r), .val (.long b4), .second, .val (.int (c5 + (1 : Int32))), .unset, .unset, .unset, .unset]) rfl ?_
      show Steps p.tables e below (T650.setTop (mkF m 57 #[.val (.int q0), .val (.int q1), .val (.ref r), .val (.long b4), .second, .val (.int (c5 + (1 : Int32))), .unset, .unset, .unset, .unset] [])) _
      exact kt
    · obtain ⟨_, _, ⟨T651, L651, k651, n651⟩, -, X651, ⟨Lc651, hQ651, l651, y651, z651⟩, st651⟩ := Jvm.LawKit.callS X0 hx (y := (⟨"com/example/tenon/tenon/ReportSizePinLaw", "put", "(Lcom/example/tenon/tenon/Report;I)I"⟩ : MethodName)) hown (mvT hZ (hw _ (List.mem_of_getElem? (i := 64) rfl))) (mvT hZ (hw _ (List.mem_of_getElem? (i := 65) rfl))) (mvT hZ (hw _ (List.mem_of_getElem? (i := 66) rfl))) (mvT hZ (hw _ (List.mem_of_getElem? (i := 67) rfl))) (by decide) (own_backL (W := 1) (rm8h3 l Z a0 hw [] r al cb kc dce kd mo (2 : Int) n e3 T0.heap n0 Zo W1 SD AD (by decide) S_e3 E_e3 F_e3) hZ (hw _ (List.mem_of_getElem? (i := 67) rfl)) (hw _ (List.mem_of_getElem? (i := 66) rfl)) (by decide) (by decide)) (g := (mkF m 51 #[.val (.int q0), .val (.int q1), .val (.ref r), .val (.long b4), .second, .val (.int c5), .unset, .unset, .unset, .unset] [(.int (3 : Int32)), (.ref r), (.int c5)])) rfl (by rw [hml]; rfl) (argsL := [(.ref r), (.int (3 : Int32))]) (rest := [(.int c5)]) (lenOf pd__Lcom_example_tenon_tenon_Report_I_I rfl) rfl (by show 2 * 0 + _ ≤ _; exact Nat.le_of_eq rfl) (hb hby at_51) (fun vm₁ hW₁ => ⟨rfl, rfl, (hL.stays hW₁.wide).vm rfl, (by show cells + 2 ≤ 32; omega), (by show slots + 14 ≤ 3264; omega)⟩)
      dsimp only [Pt.U, Pt.locs, Pt.cells, Pt.slots] at X651 l651 y651 z651 st651 hQ651
      subst l651 y651 z651
      obtain ⟨rfl, N651q, hz3, W3⟩ := hQ651
      refine ⟨T651, ⟨vm0, k0, _, _, _, X651, hSn, Nat.le_trans hSk hz3, hZ, hown, Fr.app N0 N651q, W3, Or.inr ⟨hL, by omega, by omega⟩⟩, fun target kt => ?_⟩
      show Steps p.tables e below (T0.setTop (mkF m 43 #[.val (.int q0), .val (.int q1), .val (.ref r), .val (.long b4), .second, .val (.int c5), .unset, .unset, .unset, .unset] [])) _
      refine XS.iload X0.here hx rfl (hb hby at_43) rfl ?_
      show Steps p.tables e below (T0.setTop (mkF m 45 #[.val (.int q0), .val (.int q1), .val (.ref r), .val (.long b4), .second, .val (.int c5), .unset, .unset, .unset, .unset] [(.int c5)])) _
      refine XS.aloadN X0.here hx rfl (hb hby at_45) rfl rfl ?_
      show Steps p.tables e below (T0.setTop (mkF m 46 #[.val (.int q0), .val (.int q1), .val (.ref r), .val (.long b4), .second, .val (.int c5), .unset, .unset, .unset, .unset] [(.ref r), (.int c5)])) _
      refine XS.iloadN X0.here hx rfl (hb hby at_46) rfl ?_
      show Steps p.tables e below (T0.setTop (mkF m 47 #[.val (.int q0), .val (.int q1), .val (.ref r), .val (.long b4), .second, .val (.int c5), .unset, .unset, .unset, .unset] [(.int q1), (.ref r), (.int c5)])) _
      refine XS.iconst X0.here hx rfl (hb hby at_47) ?_
      show Steps p.tables e below (T0.setTop (mkF m 48 #[.val (.int q0), .val (.int q1), .val (.ref r), .val (.long b4), .second, .val (.int c5), .unset, .unset, .unset, .unset] [(.int (4 : Int32)), (.int q1), (.ref r), (.int c5)])) _
      refine XS.iushr X0.here hx rfl (hb hby at_48) rfl ?_
      show Steps p.tables e below (T0.setTop (mkF m 49 #[.val (.int q0), .val (.int q1), .val (.ref r), .val (.long b4), .second, .val (.int c5), .unset, .unset, .unset, .unset] [(.int ((q1.toUInt32 >>> ((4 : Int32) &&& 31).toUInt32).toInt32)), (.ref r), (.int c5)])) _
      refine XS.iconst X0.here hx rfl (hb hby at_49) ?_
      show Steps p.tables e below (T0.setTop (mkF m 50 #[.val (.int q0), .val (.int q1), .val (.ref r), .val (.long b4), .second, .val (.int c5), .unset, .unset, .unset, .unset] [(.int (3 : Int32)), (.int ((q1.toUInt32 >>> ((4 : Int32) &&& 31).toUInt32).toInt32)), (.ref r), (.int c5)])) _
      refine XS.iand X0.here hx rfl (hb hby at_50) rfl ?_
      show Steps p.tables e below (T0.setTop (mkF m 51 #[.val (.int q0), .val (.int q1), .val (.ref r), .val (.long b4), .second, .val (.int c5), .unset, .unset, .unset, .unset] [(.int (((q1.toUInt32 >>> ((4 : Int32) &&& 31).toUInt32).toInt32) &&& (3 : Int32))), (.ref r), (.int c5)])) _
      rw [hc3]
      show Steps p.tables e below (T0.setTop (mkF m 51 #[.val (.int q0), .val (.int q1), .val (.ref r), .val (.long b4), .second, .val (.int c5), .unset, .unset, .unset, .unset] [(.int (3 : Int32)), (.ref r), (.int c5)])) _
      refine st651 _ ?_
      show Steps p.tables e below (T651.setTop (mkF m 54 #[.val (.int q0), .val (.int q1), .val (.ref r), .val (.long b4), .second, .val (.int c5), .unset, .unset, .unset, .unset] [(.int (1 : Int32)), (.int c5)])) _
      refine XS.iadd X651.here hx rfl (hb hby at_54) rfl ?_
      show Steps p.tables e below (T651.setTop (mkF m 55 #[.val (.int q0), .val (.int q1), .val (.ref r), .val (.long b4), .second, .val (.int c5), .unset, .unset, .unset, .unset] [(.int (c5 + (1 : Int32)))])) _
      refine XS.istore X651.here hx rfl (hb hby at_55) rfl (l' := #[.val (.int q0), .val (.int q1), .val (.ref r), .val (.long b4), .second, .val (.int (c5 + (1 : Int32))), .unset, .unset, .unset, .unset]) rfl ?_
      show Steps p.tables e below (T651.setTop (mkF m 57 #[.val (.int q0), .val (.int q1), .val (.ref r), .val (.long b4), .second, .val (.int (c5 + (1 : Int32))), .unset, .unset, .unset, .unset] [])) _
      exact kt
  rw [show own_p32 (((q1.toUInt32 >>> ((4 : Int32) &&& 31).toUInt32).toInt32) &&& (3 : Int32)) = 0 from by unfold own_p32; rw [if_neg hc1, if_neg hc2, if_neg hc3], show own_p64 (((q1.toUInt32 >>> ((4 : Int32) &&& 31).toUInt32).toInt32) &&& (3 : Int32)) = 0 from by unfold own_p64; rw [if_neg hc1, if_neg hc2, if_neg hc3]]
  obtain ⟨_, _, ⟨T652, L652, k652, n652⟩, -, X652, ⟨Lc652, hQ652, l652, y652, z652⟩, st652⟩ := Jvm.LawKit.callS X0 hx (y := (⟨"com/example/tenon/tenon/ReportSizePinLaw", "put", "(Lcom/example/tenon/tenon/Report;I)I"⟩ : MethodName)) hown (mvT hZ (hw _ (List.mem_of_getElem? (i := 64) rfl))) (mvT hZ (hw _ (List.mem_of_getElem? (i := 65) rfl))) (mvT hZ (hw _ (List.mem_of_getElem? (i := 66) rfl))) (mvT hZ (hw _ (List.mem_of_getElem? (i := 67) rfl))) (by decide) (backOf (W := 1) (rm8z l Z a0 hw [] r (((q1.toUInt32 >>> ((4 : Int32) &&& 31).toUInt32).toInt32) &&& (3 : Int32)) T0.heap n0 Zo hc1 hc2 hc3) hZ (hw _ (List.mem_of_getElem? (i := 67) rfl)) (hw _ (List.mem_of_getElem? (i := 66) rfl)) (by decide) (by decide)) (g := (mkF m 51 #[.val (.int q0), .val (.int q1), .val (.ref r), .val (.long b4), .second, .val (.int c5), .unset, .unset, .unset, .unset] [(.int (((q1.toUInt32 >>> ((4 : Int32) &&& 31).toUInt32).toInt32) &&& (3 : Int32))), (.ref r), (.int c5)])) rfl (by rw [hml]; rfl) (argsL := [(.ref r), (.int (((q1.toUInt32 >>> ((4 : Int32) &&& 31).toUInt32).toInt32) &&& (3 : Int32)))]) (rest := [(.int c5)]) (lenOf pd__Lcom_example_tenon_tenon_Report_I_I rfl) rfl (by show 2 * 0 + _ ≤ _; exact Nat.le_of_eq rfl) (hb hby at_51) (fun _ _ => ⟨rfl, rfl, (by show cells + 0 ≤ 32; omega), (by show slots + 0 ≤ 3264; omega)⟩)
  dsimp only [Pt.U, Pt.locs, Pt.cells, Pt.slots] at X652 l652 y652 z652 st652 hQ652
  subst l652 y652 z652
  obtain ⟨rfl, N652q, e652⟩ := hQ652
  refine ⟨T652, ⟨vm0, k0, _, _, _, X652, hSn, by rw [e652]; exact hSk, hZ, hown, Fr.app N0 N652q, own_W_mono (by rw [Int64.add_zero, e652]; exact W1) (by decide), hB.imp (fun q => ⟨by omega, by omega⟩) (fun q => ⟨q.1, by omega, by omega⟩)⟩, fun target kt => ?_⟩
  show Steps p.tables e below (T0.setTop (mkF m 43 #[.val (.int q0), .val (.int q1), .val (.ref r), .val (.long b4), .second, .val (.int c5), .unset, .unset, .unset, .unset] [])) _
  refine XS.iload X0.here hx rfl (hb hby at_43) rfl ?_
  show Steps p.tables e below (T0.setTop (mkF m 45 #[.val (.int q0), .val (.int q1), .val (.ref r), .val (.long b4), .second, .val (.int c5), .unset, .unset, .unset, .unset] [(.int c5)])) _
  refine XS.aloadN X0.here hx rfl (hb hby at_45) rfl rfl ?_
  show Steps p.tables e below (T0.setTop (mkF m 46 #[.val (.int q0), .val (.int q1), .val (.ref r), .val (.long b4), .second, .val (.int c5), .unset, .unset, .unset, .unset] [(.ref r), (.int c5)])) _
  refine XS.iloadN X0.here hx rfl (hb hby at_46) rfl ?_
  show Steps p.tables e below (T0.setTop (mkF m 47 #[.val (.int q0), .val (.int q1), .val (.ref r), .val (.long b4), .second, .val (.int c5), .unset, .unset, .unset, .unset] [(.int q1), (.ref r), (.int c5)])) _
  refine XS.iconst X0.here hx rfl (hb hby at_47) ?_
  show Steps p.tables e below (T0.setTop (mkF m 48 #[.val (.int q0), .val (.int q1), .val (.ref r), .val (.long b4), .second, .val (.int c5), .unset, .unset, .unset, .unset] [(.int (4 : Int32)), (.int q1), (.ref r), (.int c5)])) _
  refine XS.iushr X0.here hx rfl (hb hby at_48) rfl ?_
  show Steps p.tables e below (T0.setTop (mkF m 49 #[.val (.int q0), .val (.int q1), .val (.ref r), .val (.long b4), .second, .val (.int c5), .unset, .unset, .unset, .unset] [(.int ((q1.toUInt32 >>> ((4 : Int32) &&& 31).toUInt32).toInt32)), (.ref r), (.int c5)])) _
  refine XS.iconst X0.here hx rfl (hb hby at_49) ?_
  show Steps p.tables e below (T0.setTop (mkF m 50 #[.val (.int q0), .val (.int q1), .val (.ref r), .val (.long b4), .second, .val (.int c5), .unset, .unset, .unset, .unset] [(.int (3 : Int32)), (.int ((q1.toUInt32 >>> ((4 : Int32) &&& 31).toUInt32).toInt32)), (.ref r), (.int c5)])) _
  refine XS.iand X0.here hx rfl (hb hby at_50) rfl ?_
  show Steps p.tables e below (T0.setTop (mkF m 51 #[.val (.int q0), .val (.int q1), .val (.ref r), .val (.long b4), .second, .val (.int c5), .unset, .unset, .unset, .unset] [(.int (((q1.toUInt32 >>> ((4 : Int32) &&& 31).toUInt32).toInt32) &&& (3 : Int32))), (.ref r), (.int c5)])) _
  refine st652 _ ?_
  show Steps p.tables e below (T652.setTop (mkF m 54 #[.val (.int q0), .val (.int q1), .val (.ref r), .val (.long b4), .second, .val (.int c5), .unset, .unset, .unset, .unset] [(.int (0 : Int32)), (.int c5)])) _
  refine XS.iadd X652.here hx rfl (hb hby at_54) rfl ?_
  show Steps p.tables e below (T652.setTop (mkF m 55 #[.val (.int q0), .val (.int q1), .val (.ref r), .val (.long b4), .second, .val (.int c5), .unset, .unset, .unset, .unset] [(.int (c5 + (0 : Int32)))])) _
  refine XS.istore X652.here hx rfl (hb hby at_55) rfl (l' := #[.val (.int q0), .val (.int q1), .val (.ref r), .val (.long b4), .second, .val (.int (c5 + (0 : Int32))), .unset, .unset, .unset, .unset]) rfl ?_
  show Steps p.tables e below (T652.setTop (mkF m 57 #[.val (.int q0), .val (.int q1), .val (.ref r), .val (.long b4), .second, .val (.int (c5 + (0 : Int32))), .unset, .unset, .unset, .unset] [])) _
  exact kt
set_option maxRecDepth 65536 in
set_option maxHeartbeats 40000000 in
theorem seg3 {p : Program} {l : Launch} {e : Env} {s : State} {m : MethodId} {args : Array Value} {below : List Frame} {meth : Method} {c : Code} {T0 : State} {Z : State} {a0 : Array Value} {n0 : Nat} {r al cb dce e1 e2 e3 : Addr} {kc kd : ClassId} {mo q0 q1 c5 : Int32} {n b4 : Int64}
    (hx : p.tables.exec = Jvm.exec) (hw : ∀ d ∈ tables_1, d.before a0 Z = true) (hby : c.code = code) (hml : c.maxLocals = 10) (SD : Sta Z Z.heap "java/util/ArrayList" "DEFAULTCAPACITY_EMPTY_ELEMENTDATA" "[Ljava/lang/Object;" (.ref dce)) (AD : Arv Z Z.heap dce kd (.object "java/lang/Object") (0 : Int32) [] .null) (S_e1 : Sta Z Z.heap "com/example/tenon/tenon/Finding$Severity" "ERROR" "Lcom/example/tenon/tenon/Finding$Severity;" (.ref e1)) (E_e1 : Exa Z Z.heap e1 "com/example/tenon/tenon/Finding$Severity") (F_e1 : Fld Z Z.heap e1 "java/lang/Enum" "ordinal" "I" (.int (0 : Int32))) (S_e2 : Sta Z Z.heap "com/example/tenon/tenon/Finding$Severity" "WARNING" "Lcom/example/tenon/tenon/Finding$Severity;" (.ref e2)) (E_e2 : Exa Z Z.heap e2 "com/example/tenon/tenon/Finding$Severity") (F_e2 : Fld Z Z.heap e2 "java/lang/Enum" "ordinal" "I" (.int (1 : Int32))) (S_e3 : Sta Z Z.heap "com/example/tenon/tenon/Finding$Severity" "NOTE" "Lcom/example/tenon/tenon/Finding$Severity;" (.ref e3)) (E_e3 : Exa Z Z.heap e3 "com/example/tenon/tenon/Finding$Severity") (F_e3 : Fld Z Z.heap e3 "java/lang/Enum" "ordinal" "I" (.int (2 : Int32))) (hI : own_I Z s p l e m args below meth c n0 r al cb kc dce mo 3 n T0) :
    ∃ T' : State, own_I Z s p l e m args below meth c n0 r al cb kc dce mo 4 (n + own_p64 (((q1.toUInt32 >>> ((6 : Int32) &&& 31).toUInt32).toInt32) &&& (3 : Int32))) T' ∧ ∀ target, Steps p.tables e below (T'.setTop (mkF m 72 #[.val (.int q0), .val (.int q1), .val (.ref r), .val (.long b4), .second, .val (.int (c5 + own_p32 (((q1.toUInt32 >>> ((6 : Int32) &&& 31).toUInt32).toInt32) &&& (3 : Int32)))), .unset, .unset, .unset, .unset] [])) target → Steps p.tables e below (T0.setTop (mkF m 57 #[.val (.int q0), .val (.int q1), .val (.ref r), .val (.long b4), .second, .val (.int c5), .unset, .unset, .unset, .unset] [])) target := by
  obtain ⟨vm0, k0, locs, cells, slots, X0, hSn, hSk, hZ, hown, N0, W1, hB⟩ := hI
  have hZ : Z.Warmed39 (s.setVm vm0).vm := hZ
  have hown : (s.setVm vm0).vm.findClass "com/example/tenon/tenon/ReportSizePinLaw" = some m.cls := hown
  have Zo := W1.2.1
  by_cases hc1 : (((q1.toUInt32 >>> ((6 : Int32) &&& 31).toUInt32).toInt32) &&& (3 : Int32)) = (1 : Int32)
  · rw [show own_p32 (((q1.toUInt32 >>> ((6 : Int32) &&& 31).toUInt32).toInt32) &&& (3 : Int32)) = 1 from by unfold own_p32; rw [if_pos hc1], show own_p64 (((q1.toUInt32 >>> ((6 : Int32) &&& 31).toUInt32).toInt32) &&& (3 : Int32)) = 1 from by unfold own_p64; rw [if_pos hc1]]
    rcases hB with hB | ⟨hL, hB⟩
    · obtain ⟨_, _, ⟨T653, L653, k653, n653⟩, -, X653, hS2, hsz, ⟨Lc653, hQ653, l653, y653, z653⟩, st653⟩ := callSS X0 hx (y := (⟨"com/example/tenon/tenon/ReportSizePinLaw", "put", "(Lcom/example/tenon/tenon/Report;I)I"⟩ : MethodName)) hown (mvT hZ (hw _ (List.mem_of_getElem? (i := 64) rfl))) (mvT hZ (hw _ (List.mem_of_getElem? (i := 65) rfl))) (mvT hZ (hw _ (List.mem_of_getElem? (i := 66) rfl))) (mvT hZ (hw _ (List.mem_of_getElem? (i := 67) rfl))) (by decide) (own_backS (W := 1) (rm8c1 l Z a0 hw [] r al cb kc dce kd mo (3 : Int) n e1 T0.heap n0 Zo W1 SD AD (by decide) S_e1 E_e1 F_e1) hZ (hw _ (List.mem_of_getElem? (i := 67) rfl)) (hw _ (List.mem_of_getElem? (i := 66) rfl)) (by decide) (by decide)) (g := (mkF m 66 #[.val (.int q0), .val (.int q1), .val (.ref r), .val (.long b4), .second, .val (.int c5), .unset, .unset, .unset, .unset] [(.int (1 : Int32)), (.ref r), (.int c5)])) rfl (by rw [hml]; rfl) (argsL := [(.ref r), (.int (1 : Int32))]) (rest := [(.int c5)]) (lenOf pd__Lcom_example_tenon_tenon_Report_I_I rfl) rfl (by show 2 * 0 + _ ≤ _; exact Nat.le_of_eq rfl) (hb hby at_66) (fun _ _ => ⟨rfl, rfl, (by show cells + 8 ≤ 32; omega), (by show slots + 38 ≤ 3264; omega)⟩)
      dsimp only [Pt.U, Pt.locs, Pt.cells, Pt.slots] at X653 l653 y653 z653 st653 hQ653 hS2 hsz
      subst l653 y653 z653
      obtain ⟨⟨rfl, N653q, hz3, W3⟩, hLn⟩ := hQ653
      have hf : T653.vm.findClass "com/example/tenon/tenon/ReportSizePinLaw" = some m.cls := by rw [hS2.1.alike.findClass]; exact hown
      refine ⟨T653, ⟨T653.vm, _, _, _, _, X653, hSn.trans hS2 (Nat.le_trans hSk hsz), Nat.le_refl _, State.Warmed39.trans (t := s.setVm vm0) hZ hS2.1, hf, Fr.app N0 N653q, W3, Or.inr ⟨hLn.vm rfl, by omega, by omega⟩⟩, fun target kt => ?_⟩
      show Steps p.tables e below (T0.setTop (mkF m 57 #[.val (.int q0), .val (.int q1), .val (.ref r), .val (.long b4), .second, .val (.int c5), .unset, .unset, .unset, .unset] [])) _
      refine XS.iload X0.here hx rfl (hb hby at_57) rfl ?_
      show Steps p.tables e below (T0.setTop (mkF m 59 #[.val (.int q0), .val (.int q1), .val (.ref r), .val (.long b4), .second, .val (.int c5), .unset, .unset, .unset, .unset] [(.int c5)])) _
      refine XS.aloadN X0.here hx rfl (hb hby at_59) rfl rfl ?_
      show Steps p.tables e below (T0.setTop (mkF m 60 #[.val (.int q0), .val (.int q1), .val (.ref r), .val (.long b4), .second, .val (.int c5), .unset, .unset, .unset, .unset] [(.ref r), (.int c5)])) _
      refine XS.iloadN X0.here hx rfl (hb hby at_60) rfl ?_
      show Steps p.tables e below (T0.setTop (mkF m 61 #[.val (.int q0), .val (.int q1), .val (.ref r), .val (.long b4), .second, .val (.int c5), .unset, .unset, .unset, .unset] [(.int q1), (.ref r), (.int c5)])) _
      refine XS.bipush X0.here hx rfl (hb hby at_61) ?_
      show Steps p.tables e below (T0.setTop (mkF m 63 #[.val (.int q0), .val (.int q1), .val (.ref r), .val (.long b4), .second, .val (.int c5), .unset, .unset, .unset, .unset] [(.int (6 : Int32)), (.int q1), (.ref r), (.int c5)])) _
      refine XS.iushr X0.here hx rfl (hb hby at_63) rfl ?_
      show Steps p.tables e below (T0.setTop (mkF m 64 #[.val (.int q0), .val (.int q1), .val (.ref r), .val (.long b4), .second, .val (.int c5), .unset, .unset, .unset, .unset] [(.int ((q1.toUInt32 >>> ((6 : Int32) &&& 31).toUInt32).toInt32)), (.ref r), (.int c5)])) _
      refine XS.iconst X0.here hx rfl (hb hby at_64) ?_
      show Steps p.tables e below (T0.setTop (mkF m 65 #[.val (.int q0), .val (.int q1), .val (.ref r), .val (.long b4), .second, .val (.int c5), .unset, .unset, .unset, .unset] [(.int (3 : Int32)), (.int ((q1.toUInt32 >>> ((6 : Int32) &&& 31).toUInt32).toInt32)), (.ref r), (.int c5)])) _
      refine XS.iand X0.here hx rfl (hb hby at_65) rfl ?_
      show Steps p.tables e below (T0.setTop (mkF m 66 #[.val (.int q0), .val (.int q1), .val (.ref r), .val (.long b4), .second, .val (.int c5), .unset, .unset, .unset, .unset] [(.int (((q1.toUInt32 >>> ((6 : Int32) &&& 31).toUInt32).toInt32) &&& (3 : Int32))), (.ref r), (.int c5)])) _
      rw [hc1]
      show Steps p.tables e below (T0.setTop (mkF m 66 #[.val (.int q0), .val (.int q1), .val (.ref r), .val (.long b4), .second, .val (.int c5), .unset, .unset, .unset, .unset] [(.int (1 : Int32)), (.ref r), (.int c5)])) _
      refine st653.trans ?_
      show Steps p.tables e below (T653.setTop (mkF m 69 #[.val (.int q0), .val (.int q1), .val (.ref r), .val (.long b4), .second, .val (.int c5), .unset, .unset, .unset, .unset] [(.int (1 : Int32)), (.int c5)])) _
      refine XS.iadd X653.here hx rfl (hb hby at_69) rfl ?_
      show Steps p.tables e below (T653.setTop (mkF m 70 #[.val (.int q0), .val (.int q1), .val (.ref r), .val (.long b4), .second, .val (.int c5), .unset, .unset, .unset, .unset] [(.int (c5 + (1 : Int32)))])) _
      refine XS.istore X653.here hx rfl (hb hby at_70) rfl (l' := #[.val (.int q0), .val (.int q1), .val (.ref r), .val (.long b4), .second, .val (.int (c5 + (1 : Int32))), .unset, .unset, .unset, .unset]) rfl ?_
      show Steps p.tables e below (T653.setTop (mkF m 72 #[.val (.int q0), .val (.int q1), .val (.ref r), .val (.long b4), .second, .val (.int (c5 + (1 : Int32))), .unset, .unset, .unset, .unset] [])) _
      exact kt
    · obtain ⟨_, _, ⟨T654, L654, k654, n654⟩, -, X654, ⟨Lc654, hQ654, l654, y654, z654⟩, st654⟩ := Jvm.LawKit.callS X0 hx (y := (⟨"com/example/tenon/tenon/ReportSizePinLaw", "put", "(Lcom/example/tenon/tenon/Report;I)I"⟩ : MethodName)) hown (mvT hZ (hw _ (List.mem_of_getElem? (i := 64) rfl))) (mvT hZ (hw _ (List.mem_of_getElem? (i := 65) rfl))) (mvT hZ (hw _ (List.mem_of_getElem? (i := 66) rfl))) (mvT hZ (hw _ (List.mem_of_getElem? (i := 67) rfl))) (by decide) (own_backL (W := 1) (rm8h1 l Z a0 hw [] r al cb kc dce kd mo (3 : Int) n e1 T0.heap n0 Zo W1 SD AD (by decide) S_e1 E_e1 F_e1) hZ (hw _ (List.mem_of_getElem? (i := 67) rfl)) (hw _ (List.mem_of_getElem? (i := 66) rfl)) (by decide) (by decide)) (g := (mkF m 66 #[.val (.int q0), .val (.int q1), .val (.ref r), .val (.long b4), .second, .val (.int c5), .unset, .unset, .unset, .unset] [(.int (1 : Int32)), (.ref r), (.int c5)])) rfl (by rw [hml]; rfl) (argsL := [(.ref r), (.int (1 : Int32))]) (rest := [(.int c5)]) (lenOf pd__Lcom_example_tenon_tenon_Report_I_I rfl) rfl (by show 2 * 0 + _ ≤ _; exact Nat.le_of_eq rfl) (hb hby at_66) (fun vm₁ hW₁ => ⟨rfl, rfl, (hL.stays hW₁.wide).vm rfl, (by show cells + 2 ≤ 32; omega), (by show slots + 14 ≤ 3264; omega)⟩)
      dsimp only [Pt.U, Pt.locs, Pt.cells, Pt.slots] at X654 l654 y654 z654 st654 hQ654
      subst l654 y654 z654
      obtain ⟨rfl, N654q, hz3, W3⟩ := hQ654
      refine ⟨T654, ⟨vm0, k0, _, _, _, X654, hSn, Nat.le_trans hSk hz3, hZ, hown, Fr.app N0 N654q, W3, Or.inr ⟨hL, by omega, by omega⟩⟩, fun target kt => ?_⟩
      show Steps p.tables e below (T0.setTop (mkF m 57 #[.val (.int q0), .val (.int q1), .val (.ref r), .val (.long b4), .second, .val (.int c5), .unset, .unset, .unset, .unset] [])) _
      refine XS.iload X0.here hx rfl (hb hby at_57) rfl ?_
      show Steps p.tables e below (T0.setTop (mkF m 59 #[.val (.int q0), .val (.int q1), .val (.ref r), .val (.long b4), .second, .val (.int c5), .unset, .unset, .unset, .unset] [(.int c5)])) _
      refine XS.aloadN X0.here hx rfl (hb hby at_59) rfl rfl ?_
      show Steps p.tables e below (T0.setTop (mkF m 60 #[.val (.int q0), .val (.int q1), .val (.ref r), .val (.long b4), .second, .val (.int c5), .unset, .unset, .unset, .unset] [(.ref r), (.int c5)])) _
      refine XS.iloadN X0.here hx rfl (hb hby at_60) rfl ?_
      show Steps p.tables e below (T0.setTop (mkF m 61 #[.val (.int q0), .val (.int q1), .val (.ref r), .val (.long b4), .second, .val (.int c5), .unset, .unset, .unset, .unset] [(.int q1), (.ref r), (.int c5)])) _
      refine XS.bipush X0.here hx rfl (hb hby at_61) ?_
      show Steps p.tables e below (T0.setTop (mkF m 63 #[.val (.int q0), .val (.int q1), .val (.ref r), .val (.long b4), .second, .val (.int c5), .unset, .unset, .unset, .unset] [(.int (6 : Int32)), (.int q1), (.ref r), (.int c5)])) _
      refine XS.iushr X0.here hx rfl (hb hby at_63) rfl ?_
      show Steps p.tables e below (T0.setTop (mkF m 64 #[.val (.int q0), .val (.int q1), .val (.ref r), .val (.long b4), .second, .val (.int c5), .unset, .unset, .unset, .unset] [(.int ((q1.toUInt32 >>> ((6 : Int32) &&& 31).toUInt32).toInt32)), (.ref r), (.int c5)])) _
      refine XS.iconst X0.here hx rfl (hb hby at_64) ?_
      show Steps p.tables e below (T0.setTop (mkF m 65 #[.val (.int q0), .val (.int q1), .val (.ref r), .val (.long b4), .second, .val (.int c5), .unset, .unset, .unset, .unset] [(.int (3 : Int32)), (.int ((q1.toUInt32 >>> ((6 : Int32) &&& 31).toUInt32).toInt32)), (.ref r), (.int c5)])) _
      refine XS.iand X0.here hx rfl (hb hby at_65) rfl ?_
      show Steps p.tables e below (T0.setTop (mkF m 66 #[.val (.int q0), .val (.int q1), .val (.ref r), .val (.long b4), .second, .val (.int c5), .unset, .unset, .unset, .unset] [(.int (((q1.toUInt32 >>> ((6 : Int32) &&& 31).toUInt32).toInt32) &&& (3 : Int32))), (.ref r), (.int c5)])) _
      rw [hc1]
      show Steps p.tables e below (T0.setTop (mkF m 66 #[.val (.int q0), .val (.int q1), .val (.ref r), .val (.long b4), .second, .val (.int c5), .unset, .unset, .unset, .unset] [(.int (1 : Int32)), (.ref r), (.int c5)])) _
      refine st654 _ ?_
      show Steps p.tables e below (T654.setTop (mkF m 69 #[.val (.int q0), .val (.int q1), .val (.ref r), .val (.long b4), .second, .val (.int c5), .unset, .unset, .unset, .unset] [(.int (1 : Int32)), (.int c5)])) _
      refine XS.iadd X654.here hx rfl (hb hby at_69) rfl ?_
      show Steps p.tables e below (T654.setTop (mkF m 70 #[.val (.int q0), .val (.int q1), .val (.ref r), .val (.long b4), .second, .val (.int c5), .unset, .unset, .unset, .unset] [(.int (c5 + (1 : Int32)))])) _
      refine XS.istore X654.here hx rfl (hb hby at_70) rfl (l' := #[.val (.int q0), .val (.int q1), .val (.ref r), .val (.long b4), .second, .val (.int (c5 + (1 : Int32))), .unset, .unset, .unset, .unset]) rfl ?_
      show Steps p.tables e below (T654.setTop (mkF m 72 #[.val (.int q0), .val (.int q1), .val (.ref r), .val (.long b4), .second, .val (.int (c5 + (1 : Int32))), .unset, .unset, .unset, .unset] [])) _
      exact kt
  by_cases hc2 : (((q1.toUInt32 >>> ((6 : Int32) &&& 31).toUInt32).toInt32) &&& (3 : Int32)) = (2 : Int32)
  · rw [show own_p32 (((q1.toUInt32 >>> ((6 : Int32) &&& 31).toUInt32).toInt32) &&& (3 : Int32)) = 1 from by unfold own_p32; rw [if_neg hc1, if_pos hc2], show own_p64 (((q1.toUInt32 >>> ((6 : Int32) &&& 31).toUInt32).toInt32) &&& (3 : Int32)) = 1 from by unfold own_p64; rw [if_neg hc1, if_pos hc2]]
    rcases hB with hB | ⟨hL, hB⟩
    · obtain ⟨_, _, ⟨T655, L655, k655, n655⟩, -, X655, hS2, hsz, ⟨Lc655, hQ655, l655, y655, z655⟩, st655⟩ := callSS X0 hx (y := (⟨"com/example/tenon/tenon/ReportSizePinLaw", "put", "(Lcom/example/tenon/tenon/Report;I)I"⟩ : MethodName)) hown (mvT hZ (hw _ (List.mem_of_getElem? (i := 64) rfl))) (mvT hZ (hw _ (List.mem_of_getElem? (i := 65) rfl))) (mvT hZ (hw _ (List.mem_of_getElem? (i := 66) rfl))) (mvT hZ (hw _ (List.mem_of_getElem? (i := 67) rfl))) (by decide) (own_backS (W := 1) (rm8c2 l Z a0 hw [] r al cb kc dce kd mo (3 : Int) n e2 T0.heap n0 Zo W1 SD AD (by decide) S_e2 E_e2 F_e2) hZ (hw _ (List.mem_of_getElem? (i := 67) rfl)) (hw _ (List.mem_of_getElem? (i := 66) rfl)) (by decide) (by decide)) (g := (mkF m 66 #[.val (.int q0), .val (.int q1), .val (.ref r), .val (.long b4), .second, .val (.int c5), .unset, .unset, .unset, .unset] [(.int (2 : Int32)), (.ref r), (.int c5)])) rfl (by rw [hml]; rfl) (argsL := [(.ref r), (.int (2 : Int32))]) (rest := [(.int c5)]) (lenOf pd__Lcom_example_tenon_tenon_Report_I_I rfl) rfl (by show 2 * 0 + _ ≤ _; exact Nat.le_of_eq rfl) (hb hby at_66) (fun _ _ => ⟨rfl, rfl, (by show cells + 8 ≤ 32; omega), (by show slots + 38 ≤ 3264; omega)⟩)
      dsimp only [Pt.U, Pt.locs, Pt.cells, Pt.slots] at X655 l655 y655 z655 st655 hQ655 hS2 hsz
      subst l655 y655 z655
      obtain ⟨⟨rfl, N655q, hz3, W3⟩, hLn⟩ := hQ655
      have hf : T655.vm.findClass "com/example/tenon/tenon/ReportSizePinLaw" = some m.cls := by rw [hS2.1.alike.findClass]; exact hown
      refine ⟨T655, ⟨T655.vm, _, _, _, _, X655, hSn.trans hS2 (Nat.le_trans hSk hsz), Nat.le_refl _, State.Warmed39.trans (t := s.setVm vm0) hZ hS2.1, hf, Fr.app N0 N655q, W3, Or.inr ⟨hLn.vm rfl, by omega, by omega⟩⟩, fun target kt => ?_⟩
      show Steps p.tables e below (T0.setTop (mkF m 57 #[.val (.int q0), .val (.int q1), .val (.ref r), .val (.long b4), .second, .val (.int c5), .unset, .unset, .unset, .unset] [])) _
      refine XS.iload X0.here hx rfl (hb hby at_57) rfl ?_
      show Steps p.tables e below (T0.setTop (mkF m 59 #[.val (.int q0), .val (.int q1), .val (.ref r), .val (.long b4), .second, .val (.int c5), .unset, .unset, .unset, .unset] [(.int c5)])) _
      refine XS.aloadN X0.here hx rfl (hb hby at_59) rfl rfl ?_
      show Steps p.tables e below (T0.setTop (mkF m 60 #[.val (.int q0), .val (.int q1), .val (.ref r), .val (.long b4), .second, .val (.int c5), .unset, .unset, .unset, .unset] [(.ref r), (.int c5)])) _
      refine XS.iloadN X0.here hx rfl (hb hby at_60) rfl ?_
      show Steps p.tables e below (T0.setTop (mkF m 61 #[.val (.int q0), .val (.int q1), .val (.ref r), .val (.long b4), .second, .val (.int c5), .unset, .unset, .unset, .unset] [(.int q1), (.ref r), (.int c5)])) _
      refine XS.bipush X0.here hx rfl (hb hby at_61) ?_
      show Steps p.tables e below (T0.setTop (mkF m 63 #[.val (.int q0), .val (.int q1), .val (.ref r), .val (.long b4), .second, .val (.int c5), .unset, .unset, .unset, .unset] [(.int (6 : Int32)), (.int q1), (.ref r), (.int c5)])) _
      refine XS.iushr X0.here hx rfl (hb hby at_63) rfl ?_
      show Steps p.tables e below (T0.setTop (mkF m 64 #[.val (.int q0), .val (.int q1), .val (.ref r), .val (.long b4), .second, .val (.int c5), .unset, .unset, .unset, .unset] [(.int ((q1.toUInt32 >>> ((6 : Int32) &&& 31).toUInt32).toInt32)), (.ref r), (.int c5)])) _
      refine XS.iconst X0.here hx rfl (hb hby at_64) ?_
      show Steps p.tables e below (T0.setTop (mkF m 65 #[.val (.int q0), .val (.int q1), .val (.ref r), .val (.long b4), .second, .val (.int c5), .unset, .unset, .unset, .unset] [(.int (3 : Int32)), (.int ((q1.toUInt32 >>> ((6 : Int32) &&& 31).toUInt32).toInt32)), (.ref r), (.int c5)])) _
      refine XS.iand X0.here hx rfl (hb hby at_65) rfl ?_
      show Steps p.tables e below (T0.setTop (mkF m 66 #[.val (.int q0), .val (.int q1), .val (.ref r), .val (.long b4), .second, .val (.int c5), .unset, .unset, .unset, .unset] [(.int (((q1.toUInt32 >>> ((6 : Int32) &&& 31).toUInt32).toInt32) &&& (3 : Int32))), (.ref r), (.int c5)])) _
      rw [hc2]
      show Steps p.tables e below (T0.setTop (mkF m 66 #[.val (.int q0), .val (.int q1), .val (.ref r), .val (.long b4), .second, .val (.int c5), .unset, .unset, .unset, .unset] [(.int (2 : Int32)), (.ref r), (.int c5)])) _
      refine st655.trans ?_
      show Steps p.tables e below (T655.setTop (mkF m 69 #[.val (.int q0), .val (.int q1), .val (.ref r), .val (.long b4), .second, .val (.int c5), .unset, .unset, .unset, .unset] [(.int (1 : Int32)), (.int c5)])) _
      refine XS.iadd X655.here hx rfl (hb hby at_69) rfl ?_
      show Steps p.tables e below (T655.setTop (mkF m 70 #[.val (.int q0), .val (.int q1), .val (.ref r), .val (.long b4), .second, .val (.int c5), .unset, .unset, .unset, .unset] [(.int (c5 + (1 : Int32)))])) _
      refine XS.istore X655.here hx rfl (hb hby at_70) rfl (l' := #[.val (.int q0), .val (.int q1), .val (.ref r), .val (.long b4), .second, .val (.int (c5 + (1 : Int32))), .unset, .unset, .unset, .unset]) rfl ?_
      show Steps p.tables e below (T655.setTop (mkF m 72 #[.val (.int q0), .val (.int q1), .val (.ref r), .val (.long b4), .second, .val (.int (c5 + (1 : Int32))), .unset, .unset, .unset, .unset] [])) _
      exact kt
    · obtain ⟨_, _, ⟨T656, L656, k656, n656⟩, -, X656, ⟨Lc656, hQ656, l656, y656, z656⟩, st656⟩ := Jvm.LawKit.callS X0 hx (y := (⟨"com/example/tenon/tenon/ReportSizePinLaw", "put", "(Lcom/example/tenon/tenon/Report;I)I"⟩ : MethodName)) hown (mvT hZ (hw _ (List.mem_of_getElem? (i := 64) rfl))) (mvT hZ (hw _ (List.mem_of_getElem? (i := 65) rfl))) (mvT hZ (hw _ (List.mem_of_getElem? (i := 66) rfl))) (mvT hZ (hw _ (List.mem_of_getElem? (i := 67) rfl))) (by decide) (own_backL (W := 1) (rm8h2 l Z a0 hw [] r al cb kc dce kd mo (3 : Int) n e2 T0.heap n0 Zo W1 SD AD (by decide) S_e2 E_e2 F_e2) hZ (hw _ (List.mem_of_getElem? (i := 67) rfl)) (hw _ (List.mem_of_getElem? (i := 66) rfl)) (by decide) (by decide)) (g := (mkF m 66 #[.val (.int q0), .val (.int q1), .val (.ref r), .val (.long b4), .second, .val (.int c5), .unset, .unset, .unset, .unset] [(.int (2 : Int32)), (.ref r), (.int c5)])) rfl (by rw [hml]; rfl) (argsL := [(.ref r), (.int (2 : Int32))]) (rest := [(.int c5)]) (lenOf pd__Lcom_example_tenon_tenon_Report_I_I rfl) rfl (by show 2 * 0 + _ ≤ _; exact Nat.le_of_eq rfl) (hb hby at_66) (fun vm₁ hW₁ => ⟨rfl, rfl, (hL.stays hW₁.wide).vm rfl, (by show cells + 2 ≤ 32; omega), (by show slots + 14 ≤ 3264; omega)⟩)
      dsimp only [Pt.U, Pt.locs, Pt.cells, Pt.slots] at X656 l656 y656 z656 st656 hQ656
      subst l656 y656 z656
      obtain ⟨rfl, N656q, hz3, W3⟩ := hQ656
      refine ⟨T656, ⟨vm0, k0, _, _, _, X656, hSn, Nat.le_trans hSk hz3, hZ, hown, Fr.app N0 N656q, W3, Or.inr ⟨hL, by omega, by omega⟩⟩, fun target kt => ?_⟩
      show Steps p.tables e below (T0.setTop (mkF m 57 #[.val (.int q0), .val (.int q1), .val (.ref r), .val (.long b4), .second, .val (.int c5), .unset, .unset, .unset, .unset] [])) _
      refine XS.iload X0.here hx rfl (hb hby at_57) rfl ?_
      show Steps p.tables e below (T0.setTop (mkF m 59 #[.val (.int q0), .val (.int q1), .val (.ref r), .val (.long b4), .second, .val (.int c5), .unset, .unset, .unset, .unset] [(.int c5)])) _
      refine XS.aloadN X0.here hx rfl (hb hby at_59) rfl rfl ?_
      show Steps p.tables e below (T0.setTop (mkF m 60 #[.val (.int q0), .val (.int q1), .val (.ref r), .val (.long b4), .second, .val (.int c5), .unset, .unset, .unset, .unset] [(.ref r), (.int c5)])) _
      refine XS.iloadN X0.here hx rfl (hb hby at_60) rfl ?_
      show Steps p.tables e below (T0.setTop (mkF m 61 #[.val (.int q0), .val (.int q1), .val (.ref r), .val (.long b4), .second, .val (.int c5), .unset, .unset, .unset, .unset] [(.int q1), (.ref r), (.int c5)])) _
      refine XS.bipush X0.here hx rfl (hb hby at_61) ?_
      show Steps p.tables e below (T0.setTop (mkF m 63 #[.val (.int q0), .val (.int q1), .val (.ref r), .val (.long b4), .second, .val (.int c5), .unset, .unset, .unset, .unset] [(.int (6 : Int32)), (.int q1), (.ref r), (.int c5)])) _
      refine XS.iushr X0.here hx rfl (hb hby at_63) rfl ?_
      show Steps p.tables e below (T0.setTop (mkF m 64 #[.val (.int q0), .val (.int q1), .val (.ref r), .val (.long b4), .second, .val (.int c5), .unset, .unset, .unset, .unset] [(.int ((q1.toUInt32 >>> ((6 : Int32) &&& 31).toUInt32).toInt32)), (.ref r), (.int c5)])) _
      refine XS.iconst X0.here hx rfl (hb hby at_64) ?_
      show Steps p.tables e below (T0.setTop (mkF m 65 #[.val (.int q0), .val (.int q1), .val (.ref r), .val (.long b4), .second, .val (.int c5), .unset, .unset, .unset, .unset] [(.int (3 : Int32)), (.int ((q1.toUInt32 >>> ((6 : Int32) &&& 31).toUInt32).toInt32)), (.ref r), (.int c5)])) _
      refine XS.iand X0.here hx rfl (hb hby at_65) rfl ?_
      show Steps p.tables e below (T0.setTop (mkF m 66 #[.val (.int q0), .val (.int q1), .val (.ref r), .val (.long b4), .second, .val (.int c5), .unset, .unset, .unset, .unset] [(.int (((q1.toUInt32 >>> ((6 : Int32) &&& 31).toUInt32).toInt32) &&& (3 : Int32))), (.ref r), (.int c5)])) _
      rw [hc2]
      show Steps p.tables e below (T0.setTop (mkF m 66 #[.val (.int q0), .val (.int q1), .val (.ref r), .val (.long b4), .second, .val (.int c5), .unset, .unset, .unset, .unset] [(.int (2 : Int32)), (.ref r), (.int c5)])) _
      refine st656 _ ?_
      show Steps p.tables e below (T656.setTop (mkF m 69 #[.val (.int q0), .val (.int q1), .val (.ref r), .val (.long b4), .second, .val (.int c5), .unset, .unset, .unset, .unset] [(.int (1 : Int32)), (.int c5)])) _
      refine XS.iadd X656.here hx rfl (hb hby at_69) rfl ?_
      show Steps p.tables e below (T656.setTop (mkF m 70 #[.val (.int q0), .val (.int q1), .val (.ref r), .val (.long b4), .second, .val (.int c5), .unset, .unset, .unset, .unset] [(.int (c5 + (1 : Int32)))])) _
      refine XS.istore X656.here hx rfl (hb hby at_70) rfl (l' := #[.val (.int q0), .val (.int q1), .val (.ref r), .val (.long b4), .second, .val (.int (c5 + (1 : Int32))), .unset, .unset, .unset, .unset]) rfl ?_
      show Steps p.tables e below (T656.setTop (mkF m 72 #[.val (.int q0), .val (.int q1), .val (.ref r), .val (.long b4), .second, .val (.int (c5 + (1 : Int32))), .unset, .unset, .unset, .unset] [])) _
      exact kt
  by_cases hc3 : (((q1.toUInt32 >>> ((6 : Int32) &&& 31).toUInt32).toInt32) &&& (3 : Int32)) = (3 : Int32)
  · rw [show own_p32 (((q1.toUInt32 >>> ((6 : Int32) &&& 31).toUInt32).toInt32) &&& (3 : Int32)) = 1 from by unfold own_p32; rw [if_neg hc1, if_neg hc2, if_pos hc3], show own_p64 (((q1.toUInt32 >>> ((6 : Int32) &&& 31).toUInt32).toInt32) &&& (3 : Int32)) = 1 from by unfold own_p64; rw [if_neg hc1, if_neg hc2, if_pos hc3]]
    rcases hB with hB | ⟨hL, hB⟩
    · obtain ⟨_, _, ⟨T657, L657, k657, n657⟩, -, X657, hS2, hsz, ⟨Lc657, hQ657, l657, y657, z657⟩, st657⟩ := callSS X0 hx (y := (⟨"com/example/tenon/tenon/ReportSizePinLaw", "put", "(Lcom/example/tenon/tenon/Report;I)I"⟩ : MethodName)) hown (mvT hZ (hw _ (List.mem_of_getElem? (i := 64) rfl))) (mvT hZ (hw _ (List.mem_of_getElem? (i := 65) rfl))) (mvT hZ (hw _ (List.mem_of_getElem? (i := 66) rfl))) (mvT hZ (hw _ (List.mem_of_getElem? (i := 67) rfl))) (by decide) (own_backS (W := 1) (rm8c3 l Z a0 hw [] r al cb kc dce kd mo (3 : Int) n e3 T0.heap n0 Zo W1 SD AD (by decide) S_e3 E_e3 F_e3) hZ (hw _ (List.mem_of_getElem? (i := 67) rfl)) (hw _ (List.mem_of_getElem? (i := 66) rfl)) (by decide) (by decide)) (g := (mkF m 66 #[.val (.int q0), .val (.int q1), .val (.ref r), .val (.long b4), .second, .val (.int c5), .unset, .unset, .unset, .unset] [(.int (3 : Int32)), (.ref r), (.int c5)])) rfl (by rw [hml]; rfl) (argsL := [(.ref r), (.int (3 : Int32))]) (rest := [(.int c5)]) (lenOf pd__Lcom_example_tenon_tenon_Report_I_I rfl) rfl (by show 2 * 0 + _ ≤ _; exact Nat.le_of_eq rfl) (hb hby at_66) (fun _ _ => ⟨rfl, rfl, (by show cells + 8 ≤ 32; omega), (by show slots + 38 ≤ 3264; omega)⟩)
      dsimp only [Pt.U, Pt.locs, Pt.cells, Pt.slots] at X657 l657 y657 z657 st657 hQ657 hS2 hsz
      subst l657 y657 z657
      obtain ⟨⟨rfl, N657q, hz3, W3⟩, hLn⟩ := hQ657
      have hf : T657.vm.findClass "com/example/tenon/tenon/ReportSizePinLaw" = some m.cls := by rw [hS2.1.alike.findClass]; exact hown
      refine ⟨T657, ⟨T657.vm, _, _, _, _, X657, hSn.trans hS2 (Nat.le_trans hSk hsz), Nat.le_refl _, State.Warmed39.trans (t := s.setVm vm0) hZ hS2.1, hf, Fr.app N0 N657q, W3, Or.inr ⟨hLn.vm rfl, by omega, by omega⟩⟩, fun target kt => ?_⟩
      show Steps p.tables e below (T0.setTop (mkF m 57 #[.val (.int q0), .val (.int q1), .val (.ref r), .val (.long b4), .second, .val (.int c5), .unset, .unset, .unset, .unset] [])) _
      refine XS.iload X0.here hx rfl (hb hby at_57) rfl ?_
      show Steps p.tables e below (T0.setTop (mkF m 59 #[.val (.int q0), .val (.int q1), .val (.ref r), .val (.long b4), .second, .val (.int c5), .unset, .unset, .unset, .unset] [(.int c5)])) _
      refine XS.aloadN X0.here hx rfl (hb hby at_59) rfl rfl ?_
      show Steps p.tables e below (T0.setTop (mkF m 60 #[.val (.int q0), .val (.int q1), .val (.ref r), .val (.long b4), .second, .val (.int c5), .unset, .unset, .unset, .unset] [(.ref r), (.int c5)])) _
      refine XS.iloadN X0.here hx rfl (hb hby at_60) rfl ?_
      show Steps p.tables e below (T0.setTop (mkF m 61 #[.val (.int q0), .val (.int q1), .val (.ref r), .val (.long b4), .second, .val (.int c5), .unset, .unset, .unset, .unset] [(.int q1), (.ref r), (.int c5)])) _
      refine XS.bipush X0.here hx rfl (hb hby at_61) ?_
      show Steps p.tables e below (T0.setTop (mkF m 63 #[.val (.int q0), .val (.int q1), .val (.ref r), .val (.long b4), .second, .val (.int c5), .unset, .unset, .unset, .unset] [(.int (6 : Int32)), (.int q1), (.ref r), (.int c5)])) _
      refine XS.iushr X0.here hx rfl (hb hby at_63) rfl ?_
      show Steps p.tables e below (T0.setTop (mkF m 64 #[.val (.int q0), .val (.int q1), .val (.ref r), .val (.long b4), .second, .val (.int c5), .unset, .unset, .unset, .unset] [(.int ((q1.toUInt32 >>> ((6 : Int32) &&& 31).toUInt32).toInt32)), (.ref r), (.int c5)])) _
      refine XS.iconst X0.here hx rfl (hb hby at_64) ?_
      show Steps p.tables e below (T0.setTop (mkF m 65 #[.val (.int q0), .val (.int q1), .val (.ref r), .val (.long b4), .second, .val (.int c5), .unset, .unset, .unset, .unset] [(.int (3 : Int32)), (.int ((q1.toUInt32 >>> ((6 : Int32) &&& 31).toUInt32).toInt32)), (.ref r), (.int c5)])) _
      refine XS.iand X0.here hx rfl (hb hby at_65) rfl ?_
      show Steps p.tables e below (T0.setTop (mkF m 66 #[.val (.int q0), .val (.int q1), .val (.ref r), .val (.long b4), .second, .val (.int c5), .unset, .unset, .unset, .unset] [(.int (((q1.toUInt32 >>> ((6 : Int32) &&& 31).toUInt32).toInt32) &&& (3 : Int32))), (.ref r), (.int c5)])) _
      rw [hc3]
      show Steps p.tables e below (T0.setTop (mkF m 66 #[.val (.int q0), .val (.int q1), .val (.ref r), .val (.long b4), .second, .val (.int c5), .unset, .unset, .unset, .unset] [(.int (3 : Int32)), (.ref r), (.int c5)])) _
      refine st657.trans ?_
      show Steps p.tables e below (T657.setTop (mkF m 69 #[.val (.int q0), .val (.int q1), .val (.ref r), .val (.long b4), .second, .val (.int c5), .unset, .unset, .unset, .unset] [(.int (1 : Int32)), (.int c5)])) _
      refine XS.iadd X657.here hx rfl (hb hby at_69) rfl ?_
      show Steps p.tables e below (T657.setTop (mkF m 70 #[.val (.int q0), .val (.int q1), .val (.ref r), .val (.long b4), .second, .val (.int c5), .unset, .unset, .unset, .unset] [(.int (c5 + (1 : Int32)))])) _
      refine XS.istore X657.here hx rfl (hb hby at_70) rfl (l' := #[.val (.int q0), .val (.int q1), .val (.ref r), .val (.long b4), .second, .val (.int (c5 + (1 : Int32))), .unset, .unset, .unset, .unset]) rfl ?_
      show Steps p.tables e below (T657.setTop (mkF m 72 #[.val (.int q0), .val (.int q1), .val (.ref r), .val (.long b4), .second, .val (.int (c5 + (1 : Int32))), .unset, .unset, .unset, .unset] [])) _
      exact kt
    · obtain ⟨_, _, ⟨T658, L658, k658, n658⟩, -, X658, ⟨Lc658, hQ658, l658, y658, z658⟩, st658⟩ := Jvm.LawKit.callS X0 hx (y := (⟨"com/example/tenon/tenon/ReportSizePinLaw", "put", "(Lcom/example/tenon/tenon/Report;I)I"⟩ : MethodName)) hown (mvT hZ (hw _ (List.mem_of_getElem? (i := 64) rfl))) (mvT hZ (hw _ (List.mem_of_getElem? (i := 65) rfl))) (mvT hZ (hw _ (List.mem_of_getElem? (i := 66) rfl))) (mvT hZ (hw _ (List.mem_of_getElem? (i := 67) rfl))) (by decide) (own_backL (W := 1) (rm8h3 l Z a0 hw [] r al cb kc dce kd mo (3 : Int) n e3 T0.heap n0 Zo W1 SD AD (by decide) S_e3 E_e3 F_e3) hZ (hw _ (List.mem_of_getElem? (i := 67) rfl)) (hw _ (List.mem_of_getElem? (i := 66) rfl)) (by decide) (by decide)) (g := (mkF m 66 #[.val (.int q0), .val (.int q1), .val (.ref r), .val (.long b4), .second, .val (.int c5), .unset, .unset, .unset, .unset] [(.int (3 : Int32)), (.ref r), (.int c5)])) rfl (by rw [hml]; rfl) (argsL := [(.ref r), (.int (3 : Int32))]) (rest := [(.int c5)]) (lenOf pd__Lcom_example_tenon_tenon_Report_I_I rfl) rfl (by show 2 * 0 + _ ≤ _; exact Nat.le_of_eq rfl) (hb hby at_66) (fun vm₁ hW₁ => ⟨rfl, rfl, (hL.stays hW₁.wide).vm rfl, (by show cells + 2 ≤ 32; omega), (by show slots + 14 ≤ 3264; omega)⟩)
      dsimp only [Pt.U, Pt.locs, Pt.cells, Pt.slots] at X658 l658 y658 z658 st658 hQ658
      subst l658 y658 z658
      obtain ⟨rfl, N658q, hz3, W3⟩ := hQ658
      refine ⟨T658, ⟨vm0, k0, _, _, _, X658, hSn, Nat.le_trans hSk hz3, hZ, hown, Fr.app N0 N658q, W3, Or.inr ⟨hL, by omega, by omega⟩⟩, fun target kt => ?_⟩
      show Steps p.tables e below (T0.setTop (mkF m 57 #[.val (.int q0), .val (.int q1), .val (.ref r), .val (.long b4), .second, .val (.int c5), .unset, .unset, .unset, .unset] [])) _
      refine XS.iload X0.here hx rfl (hb hby at_57) rfl ?_
      show Steps p.tables e below (T0.setTop (mkF m 59 #[.val (.int q0), .val (.int q1), .val (.ref r), .val (.long b4), .second, .val (.int c5), .unset, .unset, .unset, .unset] [(.int c5)])) _
      refine XS.aloadN X0.here hx rfl (hb hby at_59) rfl rfl ?_
      show Steps p.tables e below (T0.setTop (mkF m 60 #[.val (.int q0), .val (.int q1), .val (.ref r), .val (.long b4), .second, .val (.int c5), .unset, .unset, .unset, .unset] [(.ref r), (.int c5)])) _
      refine XS.iloadN X0.here hx rfl (hb hby at_60) rfl ?_
      show Steps p.tables e below (T0.setTop (mkF m 61 #[.val (.int q0), .val (.int q1), .val (.ref r), .val (.long b4), .second, .val (.int c5), .unset, .unset, .unset, .unset] [(.int q1), (.ref r), (.int c5)])) _
      refine XS.bipush X0.here hx rfl (hb hby at_61) ?_
      show Steps p.tables e below (T0.setTop (mkF m 63 #[.val (.int q0), .val (.int q1), .val (.ref r), .val (.long b4), .second, .val (.int c5), .unset, .unset, .unset, .unset] [(.int (6 : Int32)), (.int q1), (.ref r), (.int c5)])) _
      refine XS.iushr X0.here hx rfl (hb hby at_63) rfl ?_
      show Steps p.tables e below (T0.setTop (mkF m 64 #[.val (.int q0), .val (.int q1), .val (.ref r), .val (.long b4), .second, .val (.int c5), .unset, .unset, .unset, .unset] [(.int ((q1.toUInt32 >>> ((6 : Int32) &&& 31).toUInt32).toInt32)), (.ref r), (.int c5)])) _
      refine XS.iconst X0.here hx rfl (hb hby at_64) ?_
      show Steps p.tables e below (T0.setTop (mkF m 65 #[.val (.int q0), .val (.int q1), .val (.ref r), .val (.long b4), .second, .val (.int c5), .unset, .unset, .unset, .unset] [(.int (3 : Int32)), (.int ((q1.toUInt32 >>> ((6 : Int32) &&& 31).toUInt32).toInt32)), (.ref r), (.int c5)])) _
      refine XS.iand X0.here hx rfl (hb hby at_65) rfl ?_
      show Steps p.tables e below (T0.setTop (mkF m 66 #[.val (.int q0), .val (.int q1), .val (.ref r), .val (.long b4), .second, .val (.int c5), .unset, .unset, .unset, .unset] [(.int (((q1.toUInt32 >>> ((6 : Int32) &&& 31).toUInt32).toInt32) &&& (3 : Int32))), (.ref r), (.int c5)])) _
      rw [hc3]
      show Steps p.tables e below (T0.setTop (mkF m 66 #[.val (.int q0), .val (.int q1), .val (.ref r), .val (.long b4), .second, .val (.int c5), .unset, .unset, .unset, .unset] [(.int (3 : Int32)), (.ref r), (.int c5)])) _
      refine st658 _ ?_
      show Steps p.tables e below (T658.setTop (mkF m 69 #[.val (.int q0), .val (.int q1), .val (.ref r), .val (.long b4), .second, .val (.int c5), .unset, .unset, .unset, .unset] [(.int (1 : Int32)), (.int c5)])) _
      refine XS.iadd X658.here hx rfl (hb hby at_69) rfl ?_
      show Steps p.tables e below (T658.setTop (mkF m 70 #[.val (.int q0), .val (.int q1), .val (.ref r), .val (.long b4), .second, .val (.int c5), .unset, .unset, .unset, .unset] [(.int (c5 + (1 : Int32)))])) _
      refine XS.istore X658.here hx rfl (hb hby at_70) rfl (l' := #[.val (.int q0), .val (.int q1), .val (.ref r), .val (.long b4), .second, .val (.int (c5 + (1 : Int32))), .unset, .unset, .unset, .unset]) rfl ?_
      show Steps p.tables e below (T658.setTop (mkF m 72 #[.val (.int q0), .val (.int q1), .val (.ref r), .val (.long b4), .second, .val (.int (c5 + (1 : Int32))), .unset, .unset, .unset, .unset] [])) _
      exact kt
  rw [show own_p32 (((q1.toUInt32 >>> ((6 : Int32) &&& 31).toUInt32).toInt32) &&& (3 : Int32)) = 0 from by unfold own_p32; rw [if_neg hc1, if_neg hc2, if_neg hc3], show own_p64 (((q1.toUInt32 >>> ((6 : Int32) &&& 31).toUInt32).toInt32) &&& (3 : Int32)) = 0 from by unfold own_p64; rw [if_neg hc1, if_neg hc2, if_neg hc3]]
  obtain ⟨_, _, ⟨T659, L659, k659, n659⟩, -, X659, ⟨Lc659, hQ659, l659, y659, z659⟩, st659⟩ := Jvm.LawKit.callS X0 hx (y := (⟨"com/example/tenon/tenon/ReportSizePinLaw", "put", "(Lcom/example/tenon/tenon/Report;I)I"⟩ : MethodName)) hown (mvT hZ (hw _ (List.mem_of_getElem? (i := 64) rfl))) (mvT hZ (hw _ (List.mem_of_getElem? (i := 65) rfl))) (mvT hZ (hw _ (List.mem_of_getElem? (i := 66) rfl))) (mvT hZ (hw _ (List.mem_of_getElem? (i := 67) rfl))) (by decide) (backOf (W := 1) (rm8z l Z a0 hw [] r (((q1.toUInt32 >>> ((6 : Int32) &&& 31).toUInt32).toInt32) &&& (3 : Int32)) T0.heap n0 Zo hc1 hc2 hc3) hZ (hw _ (List.mem_of_getElem? (i := 67) rfl)) (hw _ (List.mem_of_getElem? (i := 66) rfl)) (by decide) (by decide)) (g := (mkF m 66 #[.val (.int q0), .val (.int q1), .val (.ref r), .val (.long b4), .second, .val (.int c5), .unset, .unset, .unset, .unset] [(.int (((q1.toUInt32 >>> ((6 : Int32) &&& 31).toUInt32).toInt32) &&& (3 : Int32))), (.ref r), (.int c5)])) rfl (by rw [hml]; rfl) (argsL := [(.ref r), (.int (((q1.toUInt32 >>> ((6 : Int32) &&& 31).toUInt32).toInt32) &&& (3 : Int32)))]) (rest := [(.int c5)]) (lenOf pd__Lcom_example_tenon_tenon_Report_I_I rfl) rfl (by show 2 * 0 + _ ≤ _; exact Nat.le_of_eq rfl) (hb hby at_66) (fun _ _ => ⟨rfl, rfl, (by show cells + 0 ≤ 32; omega), (by show slots + 0 ≤ 3264; omega)⟩)
  dsimp only [Pt.U, Pt.locs, Pt.cells, Pt.slots] at X659 l659 y659 z659 st659 hQ659
  subst l659 y659 z659
  obtain ⟨rfl, N659q, e659⟩ := hQ659
  refine ⟨T659, ⟨vm0, k0, _, _, _, X659, hSn, by rw [e659]; exact hSk, hZ, hown, Fr.app N0 N659q, own_W_mono (by rw [Int64.add_zero, e659]; exact W1) (by decide), hB.imp (fun q => ⟨by omega, by omega⟩) (fun q => ⟨q.1, by omega, by omega⟩)⟩, fun target kt => ?_⟩
  show Steps p.tables e below (T0.setTop (mkF m 57 #[.val (.int q0), .val (.int q1), .val (.ref r), .val (.long b4), .second, .val (.int c5), .unset, .unset, .unset, .unset] [])) _
  refine XS.iload X0.here hx rfl (hb hby at_57) rfl ?_
  show Steps p.tables e below (T0.setTop (mkF m 59 #[.val (.int q0), .val (.int q1), .val (.ref r), .val (.long b4), .second, .val (.int c5), .unset, .unset, .unset, .unset] [(.int c5)])) _
  refine XS.aloadN X0.here hx rfl (hb hby at_59) rfl rfl ?_
  show Steps p.tables e below (T0.setTop (mkF m 60 #[.val (.int q0), .val (.int q1), .val (.ref r), .val (.long b4), .second, .val (.int c5), .unset, .unset, .unset, .unset] [(.ref r), (.int c5)])) _
  refine XS.iloadN X0.here hx rfl (hb hby at_60) rfl ?_
  show Steps p.tables e below (T0.setTop (mkF m 61 #[.val (.int q0), .val (.int q1), .val (.ref r), .val (.long b4), .second, .val (.int c5), .unset, .unset, .unset, .unset] [(.int q1), (.ref r), (.int c5)])) _
  refine XS.bipush X0.here hx rfl (hb hby at_61) ?_
  show Steps p.tables e below (T0.setTop (mkF m 63 #[.val (.int q0), .val (.int q1), .val (.ref r), .val (.long b4), .second, .val (.int c5), .unset, .unset, .unset, .unset] [(.int (6 : Int32)), (.int q1), (.ref r), (.int c5)])) _
  refine XS.iushr X0.here hx rfl (hb hby at_63) rfl ?_
  show Steps p.tables e below (T0.setTop (mkF m 64 #[.val (.int q0), .val (.int q1), .val (.ref r), .val (.long b4), .second, .val (.int c5), .unset, .unset, .unset, .unset] [(.int ((q1.toUInt32 >>> ((6 : Int32) &&& 31).toUInt32).toInt32)), (.ref r), (.int c5)])) _
  refine XS.iconst X0.here hx rfl (hb hby at_64) ?_
  show Steps p.tables e below (T0.setTop (mkF m 65 #[.val (.int q0), .val (.int q1), .val (.ref r), .val (.long b4), .second, .val (.int c5), .unset, .unset, .unset, .unset] [(.int (3 : Int32)), (.int ((q1.toUInt32 >>> ((6 : Int32) &&& 31).toUInt32).toInt32)), (.ref r), (.int c5)])) _
  refine XS.iand X0.here hx rfl (hb hby at_65) rfl ?_
  show Steps p.tables e below (T0.setTop (mkF m 66 #[.val (.int q0), .val (.int q1), .val (.ref r), .val (.long b4), .second, .val (.int c5), .unset, .unset, .unset, .unset] [(.int (((q1.toUInt32 >>> ((6 : Int32) &&& 31).toUInt32).toInt32) &&& (3 : Int32))), (.ref r), (.int c5)])) _
  refine st659 _ ?_
  show Steps p.tables e below (T659.setTop (mkF m 69 #[.val (.int q0), .val (.int q1), .val (.ref r), .val (.long b4), .second, .val (.int c5), .unset, .unset, .unset, .unset] [(.int (0 : Int32)), (.int c5)])) _
  refine XS.iadd X659.here hx rfl (hb hby at_69) rfl ?_
  show Steps p.tables e below (T659.setTop (mkF m 70 #[.val (.int q0), .val (.int q1), .val (.ref r), .val (.long b4), .second, .val (.int c5), .unset, .unset, .unset, .unset] [(.int (c5 + (0 : Int32)))])) _
  refine XS.istore X659.here hx rfl (hb hby at_70) rfl (l' := #[.val (.int q0), .val (.int q1), .val (.ref r), .val (.long b4), .second, .val (.int (c5 + (0 : Int32))), .unset, .unset, .unset, .unset]) rfl ?_
  show Steps p.tables e below (T659.setTop (mkF m 72 #[.val (.int q0), .val (.int q1), .val (.ref r), .val (.long b4), .second, .val (.int (c5 + (0 : Int32))), .unset, .unset, .unset, .unset] [])) _
  exact kt
theorem pd__I_V : parseMethodDescriptor "(I)V" = some ⟨[.int], none⟩ := by decide +kernel
theorem pd___J : parseMethodDescriptor "()J" = some ⟨[], some .long⟩ := by decide +kernel
theorem ef_rm0 (m : MethodId) (q0 : Int32) (q1 : Int32) : entryFrame m #[(.int q0), (.int q1)] maxLocals = mkF m 0 #[.val (.int q0), .val (.int q1), .unset, .unset, .unset, .unset, .unset, .unset, .unset, .unset] [] := by first | (simp [entryFrame, mkF, argsToLocals, Value.category, maxLocals]; done) | rfl
def Qrm0 (Z : State) (q0 : Int32) (q1 : Int32) (dce : Addr) (kd : ClassId) (sv : Addr) (cv : Cell) (e1 : Addr) (e2 : Addr) (e3 : Addr) (h0 : Heap) (n0 : Nat) (v : Option Value) (h : Heap) (L : List Loc) : Prop := v = some (.int 1) ∧ Fr n0 L
set_option maxRecDepth 65536 in
set_option maxHeartbeats 40000000 in
theorem rm0 (l : Launch) (Z : State) (a0 : Array Value) (hw : ∀ d ∈ tables_1, d.before a0 Z = true) (ws : List Jvm.Cond) (q0 : Int32) (q1 : Int32) (dce : Addr) (kd : ClassId) (sv : Addr) (cv : Cell) (e1 : Addr) (e2 : Addr) (e3 : Addr) (h0 : Heap) (n0 : Nat) (Z0 : n0 ≤ h0.size) (X00 : Old Z n0 h0) (SD : Sta Z Z.heap "java/util/ArrayList" "DEFAULTCAPACITY_EMPTY_ELEMENTDATA" "[Ljava/lang/Object;" (.ref dce)) (AD : Arv Z Z.heap dce kd (.object "java/lang/Object") (0 : Int32) [] .null) (S_e1 : Sta Z Z.heap "com/example/tenon/tenon/Finding$Severity" "ERROR" "Lcom/example/tenon/tenon/Finding$Severity;" (.ref e1)) (E_e1 : Exa Z Z.heap e1 "com/example/tenon/tenon/Finding$Severity") (F_e1 : Fld Z Z.heap e1 "java/lang/Enum" "ordinal" "I" (.int (0 : Int32))) (S_e2 : Sta Z Z.heap "com/example/tenon/tenon/Finding$Severity" "WARNING" "Lcom/example/tenon/tenon/Finding$Severity;" (.ref e2)) (E_e2 : Exa Z Z.heap e2 "com/example/tenon/tenon/Finding$Severity") (F_e2 : Fld Z Z.heap e2 "java/lang/Enum" "ordinal" "I" (.int (1 : Int32))) (S_e3 : Sta Z Z.heap "com/example/tenon/tenon/Finding$Severity" "NOTE" "Lcom/example/tenon/tenon/Finding$Severity;" (.ref e3)) (E_e3 : Exa Z Z.heap e3 "com/example/tenon/tenon/Finding$Severity") (F_e3 : Fld Z Z.heap e3 "java/lang/Enum" "ordinal" "I" (.int (2 : Int32))) (SV : Sta Z Z.heap "com/example/tenon/tenon/Finding$Severity" "$VALUES" "[Lcom/example/tenon/tenon/Finding$Severity;" (.ref sv)) (AV : Arr Z Z.heap sv cv (.object "com/example/tenon/tenon/Finding$Severity")) (hcv : cv.slots.size = 3) (EV : Exa Z Z.heap sv "[Lcom/example/tenon/tenon/Finding$Severity;") (FV : FitC Z cv) :
    MetFree l x (head1 (Jvm.Cond.code x code maxLocals ret :: ws) room_1) (fun a U => a = #[(.int q0), (.int q1)] ∧ Z.Warmed39 U.vm ∧ U.heap = h0) (fun _ _ _ _ _ => True) (fun _ U o U' => ∃ v L, o = .returned v ∧ Qrm0 Z q0 q1 dce kd sv cv e1 e2 e3 h0 n0 v U'.heap L ∧ ReturnedEndW U o U' L room_1.cells room_1.slots) := by
  refine MetFree.of_bodySF (plainFor_of_name pn_com_example_tenon_tenon_ReportSizePinLaw) hisR ?_
  intro p e s m args below meth c s₁ Bd hml0 hP hK
  obtain ⟨rfl, hZ, hh⟩ := hP
  have hx := Bd.exec
  have hby := Bd.bytes
  have hml : c.maxLocals = 10 := hml0
  have hown : s.vm.findClass "com/example/tenon/tenon/ReportSizePinLaw" = some m.cls := findClass_of_methodNamed Bd.named
  have hnm := (name_of_methodNamed Bd.named Bd.method).1
  have X0 : Stand p l e room_1 s m #[(.int q0), (.int q1)] below meth c s₁ [] 0 0 := Stand.of_body Bd
  have e0 : s₁.heap = h0 := by rw [← hh, Bd.state]; rfl
  have N0 := Fr.nil n0
  have pre0 : ∀ t, Steps p.tables e below (s₁.setTop (mkF m 0 #[.val (.int q0), .val (.int q1), .unset, .unset, .unset, .unset, .unset, .unset, .unset, .unset] [])) t → Steps p.tables e below (s₁.setTop (entryFrame m #[(.int q0), (.int q1)] maxLocals)) t := fun t k => castTop (ef_rm0 m q0 q1) k
  obtain ⟨T660, h660, X660, e660, E660, A660, D660, U660, st660⟩ := newO X0 hx hZ hown (hw _ (List.mem_of_getElem? (i := 0) rfl)) (hw _ (List.mem_of_getElem? (i := 1) rfl)) (hw _ (List.mem_of_getElem? (i := 2) rfl)) e0 (g := (mkF m 0 #[.val (.int q0), .val (.int q1), .unset, .unset, .unset, .unset, .unset, .unset, .unset, .unset] [])) rfl (hb hby at_0) (by decide) (by decide)
  obtain ⟨b660, g660⟩ : ∃ z, z = h0.size := ⟨_, rfl⟩
  rw [← g660] at A660 D660 st660
  have g661 : n0 ≤ b660 := Nat.le_trans Z0 (Nat.le_of_eq g660.symm)
  have Zn662 := Nat.le_trans Z0 E660.1
  have Od663 := X00.ext E660
  have f664 : Fld Z h660 b660 "com/example/tenon/tenon/Report" "findings" "Ljava/util/List;" .null := D660 (Or.inr (hw _ (List.mem_of_getElem? (i := 34) rfl))) (ty := (.object "java/util/List")) (by decide)
  have f665 : Fld Z h660 b660 "com/example/tenon/tenon/Report" "counts" "[J" .null := D660 (Or.inr (hw _ (List.mem_of_getElem? (i := 56) rfl))) (ty := (.array .long)) (by decide)
  have f666 : Fld Z h660 b660 "com/example/tenon/tenon/Report" "most" "I" (.int (0 : Int32)) := D660 (Or.inr (hw _ (List.mem_of_getElem? (i := 58) rfl))) (ty := .int) (by decide)
  obtain ⟨_, _, ⟨T667, L667, k667, n667⟩, -, X667, ⟨Lc667, hQ667, l667, y667, z667⟩, st667⟩ := X660.specialBack hx (y := (⟨"com/example/tenon/tenon/Report", "<init>", "(I)V"⟩ : MethodName)) rfl hown (mvT hZ (hw _ (List.mem_of_getElem? (i := 3) rfl))) (mvT hZ (hw _ (List.mem_of_getElem? (i := 4) rfl))) (mvT hZ (hw _ (List.mem_of_getElem? (i := 5) rfl))) (by decide) (backOf (W := 1) (rm1 l Z a0 hw [] b660 q0 dce sv cv h660 n0 Zn662 A660 f664 f665 f666 g661 Od663 SD SV AV hcv EV FV) hZ (hw _ (List.mem_of_getElem? (i := 5) rfl)) (hw _ (List.mem_of_getElem? (i := 2) rfl)) (by decide) (by decide)) (g := (mkF m 5 #[.val (.int q0), .val (.int q1), .unset, .unset, .unset, .unset, .unset, .unset, .unset, .unset] [(.int q0), (.ref b660), (.ref b660)])) rfl (by rw [hml]; rfl) (Steps.refl _) (a := b660) (argsL := [(.int q0)]) (rest := [(.ref b660)]) (lenOf pd__I_V rfl) rfl (by show 2 * 0 + _ ≤ _; exact Nat.le_of_eq rfl) (hb hby at_5) (fun _ _ => ⟨rfl, e660, (by decide : 1 + 3 ≤ _), (by decide : 3 + 9 ≤ _)⟩)
  dsimp only [Pt.U, Pt.locs, Pt.cells, Pt.slots] at X667 l667 y667 z667 st667 hQ667
  subst l667 y667 z667
  obtain ⟨rfl, N667q, al, cb, kc, W0⟩ := hQ667
  have N668 := Fr.app N0 N667q
  obtain ⟨Xo, Zo, gr, ga, gc, nra, nrc, nac, Er, Ff, Fc, Fo, Ea, hLS, c0, c1, c2, Vc, hsum⟩ := id W0
  obtain ⟨cq669, kq669, q669a, q669b, q669c⟩ := isOf hZ rfl Er
  obtain ⟨_, _, ⟨T669, L669, k669, n669⟩, -, X669, ⟨Lc669, hQ669, l669, y669, z669⟩, st669⟩ := X667.virtualBack hx (y := (⟨"com/example/tenon/tenon/Report", "size", "()J"⟩ : MethodName)) (z := (⟨"com/example/tenon/tenon/Report", "size", "()J"⟩ : MethodName)) hown (mvT hZ (hw _ (List.mem_of_getElem? (i := 59) rfl))) (mvT hZ (hw _ (List.mem_of_getElem? (i := 60) rfl))) (notFace_of_selects (args := #[]) (mvT hZ (hw _ (List.mem_of_getElem? (i := 62) rfl)))) (mvT hZ (hw _ (List.mem_of_getElem? (i := 62) rfl))) (mvT hZ (hw _ (List.mem_of_getElem? (i := 61) rfl))) (by decide) (backOf (W := 0) (rm7 l Z a0 hw [] b660 cb kc c0 c1 c2 T667.heap n0 Zo Fc Vc) hZ (hw _ (List.mem_of_getElem? (i := 63) rfl)) (hw _ (List.mem_of_getElem? (i := 2) rfl)) (by decide) (by decide)) q669a q669c (g := (mkF m 10 #[.val (.int q0), .val (.int q1), .val (.ref b660), .unset, .unset, .unset, .unset, .unset, .unset, .unset] [(.ref b660)])) rfl (by rw [hml]; rfl) (Steps.refl _) (argsL := []) (rest := []) (lenOf pd___J rfl) rfl (by show 2 * 0 + _ ≤ _; exact Nat.le_of_eq rfl) (hb hby at_10) (fun _ _ => ⟨rfl, rfl, (by decide : 4 + 0 ≤ _), (by decide : 12 + 0 ≤ _)⟩)
  dsimp only [Pt.U, Pt.locs, Pt.cells, Pt.slots] at X669 l669 y669 z669 st669 hQ669
  subst l669 y669 z669
  obtain ⟨rfl, N669q, e669⟩ := hQ669
  have N670 := Fr.app N668 N669q
  have I0 : own_I Z s p l e m #[(.int q0), (.int q1)] below meth c n0 b660 al cb kc dce q0 0 (0 : Int64) T669 := ⟨s.vm, 0, _, _, _, (by rw [own_setVm]; exact X669), (State.WarmedH.refl s).since 0, Nat.zero_le _, hZ, hown, N670, (by rw [e669]; exact W0), Or.inl ⟨by decide, by decide⟩⟩
  obtain ⟨Ts0, I1, sts0⟩ := seg0 (q0 := q0) (q1 := q1) (c5 := (0 : Int32)) (b4 := (0 : Int64)) hx hw hby hml SD AD S_e1 E_e1 F_e1 S_e2 E_e2 F_e2 S_e3 E_e3 F_e3 I0
  obtain ⟨Ts1, I2, sts1⟩ := seg1 (q0 := q0) (q1 := q1) (c5 := ((0 : Int32) + own_p32 (q1 &&& (3 : Int32)))) (b4 := (0 : Int64)) hx hw hby hml SD AD S_e1 E_e1 F_e1 S_e2 E_e2 F_e2 S_e3 E_e3 F_e3 I1
  obtain ⟨Ts2, I3, sts2⟩ := seg2 (q0 := q0) (q1 := q1) (c5 := (((0 : Int32) + own_p32 (q1 &&& (3 : Int32))) + own_p32 (((q1.toUInt32 >>> ((2 : Int32) &&& 31).toUInt32).toInt32) &&& (3 : Int32)))) (b4 := (0 : Int64)) hx hw hby hml SD AD S_e1 E_e1 F_e1 S_e2 E_e2 F_e2 S_e3 E_e3 F_e3 I2
  obtain ⟨Ts3, I4, sts3⟩ := seg3 (q0 := q0) (q1 := q1) (c5 := ((((0 : Int32) + own_p32 (q1 &&& (3 : Int32))) + own_p32 (((q1.toUInt32 >>> ((2 : Int32) &&& 31).toUInt32).toInt32) &&& (3 : Int32))) + own_p32 (((q1.toUInt32 >>> ((4 : Int32) &&& 31).toUInt32).toInt32) &&& (3 : Int32)))) (b4 := (0 : Int64)) hx hw hby hml SD AD S_e1 E_e1 F_e1 S_e2 E_e2 F_e2 S_e3 E_e3 F_e3 I3
  obtain ⟨vm4, k4, locs4, cells4, slots4, X4, hSn, hSk, hZ, hown, N4, W4, hB4⟩ := I4
  have hZ : Z.Warmed39 (s.setVm vm4).vm := hZ
  have hown : (s.setVm vm4).vm.findClass "com/example/tenon/tenon/ReportSizePinLaw" = some m.cls := hown
  obtain ⟨Xo, Zo, gr, ga, gc, nra, nrc, nac, Er, Ff, Fc, Fo, Ea, hLS, c0', c1', c2', Vc, hsum'⟩ := id W4
  have hc4 : cells4 ≤ 18 ∧ slots4 ≤ 92 := by rcases hB4 with ⟨a, b⟩ | ⟨-, a, b⟩ <;> omega
  obtain ⟨cq671, kq671, q671a, q671b, q671c⟩ := isOf hZ rfl Er
  obtain ⟨_, _, ⟨T671, L671, k671, n671⟩, -, X671, ⟨Lc671, hQ671, l671, y671, z671⟩, st671⟩ := X4.virtualBack hx (y := (⟨"com/example/tenon/tenon/Report", "size", "()J"⟩ : MethodName)) (z := (⟨"com/example/tenon/tenon/Report", "size", "()J"⟩ : MethodName)) hown (mvT hZ (hw _ (List.mem_of_getElem? (i := 59) rfl))) (mvT hZ (hw _ (List.mem_of_getElem? (i := 60) rfl))) (notFace_of_selects (args := #[]) (mvT hZ (hw _ (List.mem_of_getElem? (i := 62) rfl)))) (mvT hZ (hw _ (List.mem_of_getElem? (i := 62) rfl))) (mvT hZ (hw _ (List.mem_of_getElem? (i := 61) rfl))) (by decide) (backOf (W := 0) (rm7 l Z a0 hw [] b660 cb kc c0' c1' c2' Ts3.heap n0 Zo Fc Vc) hZ (hw _ (List.mem_of_getElem? (i := 63) rfl)) (hw _ (List.mem_of_getElem? (i := 2) rfl)) (by decide) (by decide)) q671a q671c (g := (mkF m 73 #[.val (.int q0), .val (.int q1), .val (.ref b660), .val (.long (0 : Int64)), .second, .val (.int (((((0 : Int32) + own_p32 (q1 &&& (3 : Int32))) + own_p32 (((q1.toUInt32 >>> ((2 : Int32) &&& 31).toUInt32).toInt32) &&& (3 : Int32))) + own_p32 (((q1.toUInt32 >>> ((4 : Int32) &&& 31).toUInt32).toInt32) &&& (3 : Int32))) + own_p32 (((q1.toUInt32 >>> ((6 : Int32) &&& 31).toUInt32).toInt32) &&& (3 : Int32)))), .unset, .unset, .unset, .unset] [(.ref b660)])) rfl (by rw [hml]; rfl) (Steps.refl _) (argsL := []) (rest := []) (lenOf pd___J rfl) rfl (by show 2 * 0 + _ ≤ _; exact Nat.le_of_eq rfl) (hb hby at_73) (fun _ _ => ⟨rfl, rfl, (Nat.le_trans hc4.1 (by decide)), (Nat.le_trans hc4.2 (by decide))⟩)
  dsimp only [Pt.U, Pt.locs, Pt.cells, Pt.slots] at X671 l671 y671 z671 st671 hQ671
  subst l671 y671 z671
  obtain ⟨rfl, N671q, e671⟩ := hQ671
  have N672 := Fr.app N4 N671q
  obtain ⟨cq673, kq673, q673a, q673b, q673c⟩ := isOf hZ e671 Er
  obtain ⟨_, _, ⟨T673, L673, k673, n673⟩, -, X673, ⟨Lc673, hQ673, l673, y673, z673⟩, st673⟩ := X671.virtualBack hx (y := (⟨"com/example/tenon/tenon/Report", "size", "()J"⟩ : MethodName)) (z := (⟨"com/example/tenon/tenon/Report", "size", "()J"⟩ : MethodName)) hown (mvT hZ (hw _ (List.mem_of_getElem? (i := 59) rfl))) (mvT hZ (hw _ (List.mem_of_getElem? (i := 60) rfl))) (notFace_of_selects (args := #[]) (mvT hZ (hw _ (List.mem_of_getElem? (i := 62) rfl)))) (mvT hZ (hw _ (List.mem_of_getElem? (i := 62) rfl))) (mvT hZ (hw _ (List.mem_of_getElem? (i := 61) rfl))) (by decide) (backOf (W := 0) (rm7 l Z a0 hw [] b660 cb kc c0' c1' c2' Ts3.heap n0 Zo Fc Vc) hZ (hw _ (List.mem_of_getElem? (i := 63) rfl)) (hw _ (List.mem_of_getElem? (i := 2) rfl)) (by decide) (by decide)) q673a q673c (g := (mkF m 79 #[.val (.int q0), .val (.int q1), .val (.ref b660), .val (.long (0 : Int64)), .second, .val (.int (((((0 : Int32) + own_p32 (q1 &&& (3 : Int32))) + own_p32 (((q1.toUInt32 >>> ((2 : Int32) &&& 31).toUInt32).toInt32) &&& (3 : Int32))) + own_p32 (((q1.toUInt32 >>> ((4 : Int32) &&& 31).toUInt32).toInt32) &&& (3 : Int32))) + own_p32 (((q1.toUInt32 >>> ((6 : Int32) &&& 31).toUInt32).toInt32) &&& (3 : Int32)))), .val (.long (((((0 : Int64) + own_p64 (q1 &&& (3 : Int32))) + own_p64 (((q1.toUInt32 >>> ((2 : Int32) &&& 31).toUInt32).toInt32) &&& (3 : Int32))) + own_p64 (((q1.toUInt32 >>> ((4 : Int32) &&& 31).toUInt32).toInt32) &&& (3 : Int32))) + own_p64 (((q1.toUInt32 >>> ((6 : Int32) &&& 31).toUInt32).toInt32) &&& (3 : Int32)))), .second, .unset, .unset] [(.ref b660)])) rfl (by rw [hml]; rfl) (Steps.refl _) (argsL := []) (rest := []) (lenOf pd___J rfl) rfl (by show 2 * 0 + _ ≤ _; exact Nat.le_of_eq rfl) (hb hby at_79) (fun _ _ => ⟨rfl, e671, (Nat.le_trans hc4.1 (by decide)), (Nat.le_trans hc4.2 (by decide))⟩)
  dsimp only [Pt.U, Pt.locs, Pt.cells, Pt.slots] at X673 l673 y673 z673 st673 hQ673
  subst l673 y673 z673
  obtain ⟨rfl, N673q, e673⟩ := hQ673
  have N674 := Fr.app N672 N673q
  have hSk' : k4 ≤ T673.heap.size := by rw [e673]; exact hSk
  obtain ⟨fs, hr, hrun, hended, hRE⟩ := X673.leaveW hSn hSk' (v := some (.int (1 : Int32))) (fun h => by rw [Bd.returns] at h; cases h)
  refine ⟨_, _, pre0 _ ?_, hrun, hended, _, _, rfl, ⟨rfl, N674⟩, hRE.1, hRE.2.1, hRE.2.2.1, hRE.2.2.2.mono (Nat.le_trans hc4.1 (by decide)) (Nat.le_trans hc4.2 (by decide))⟩
  show Steps p.tables e below (s₁.setTop (mkF m 0 #[.val (.int q0), .val (.int q1), .unset, .unset, .unset, .unset, .unset, .unset, .unset, .unset] [])) _
  refine st660 _ ?_
  show Steps p.tables e below (T660.setTop (mkF m 3 #[.val (.int q0), .val (.int q1), .unset, .unset, .unset, .unset, .unset, .unset, .unset, .unset] [(.ref b660)])) _
  refine XS.dup X660.here hx rfl (hb hby at_3) rfl rfl ?_
  show Steps p.tables e below (T660.setTop (mkF m 4 #[.val (.int q0), .val (.int q1), .unset, .unset, .unset, .unset, .unset, .unset, .unset, .unset] [(.ref b660), (.ref b660)])) _
  refine XS.iloadN X660.here hx rfl (hb hby at_4) rfl ?_
  show Steps p.tables e below (T660.setTop (mkF m 5 #[.val (.int q0), .val (.int q1), .unset, .unset, .unset, .unset, .unset, .unset, .unset, .unset] [(.int q0), (.ref b660), (.ref b660)])) _
  refine st667.trans ?_
  show Steps p.tables e below (T667.setTop (mkF m 8 #[.val (.int q0), .val (.int q1), .unset, .unset, .unset, .unset, .unset, .unset, .unset, .unset] [(.ref b660)])) _
  refine XS.astoreN X667.here hx rfl (hb hby at_8) rfl rfl (l' := #[.val (.int q0), .val (.int q1), .val (.ref b660), .unset, .unset, .unset, .unset, .unset, .unset, .unset]) rfl ?_
  show Steps p.tables e below (T667.setTop (mkF m 9 #[.val (.int q0), .val (.int q1), .val (.ref b660), .unset, .unset, .unset, .unset, .unset, .unset, .unset] [])) _
  refine XS.aloadN X667.here hx rfl (hb hby at_9) rfl rfl ?_
  show Steps p.tables e below (T667.setTop (mkF m 10 #[.val (.int q0), .val (.int q1), .val (.ref b660), .unset, .unset, .unset, .unset, .unset, .unset, .unset] [(.ref b660)])) _
  refine st669.trans ?_
  show Steps p.tables e below (T669.setTop (mkF m 13 #[.val (.int q0), .val (.int q1), .val (.ref b660), .unset, .unset, .unset, .unset, .unset, .unset, .unset] [(.long (c0 + c1 + c2))])) _
  rw [hsum]
  show Steps p.tables e below (T669.setTop (mkF m 13 #[.val (.int q0), .val (.int q1), .val (.ref b660), .unset, .unset, .unset, .unset, .unset, .unset, .unset] [(.long (0 : Int64))])) _
  refine XS.lstoreN X669.here hx rfl (hb hby at_13) rfl (l' := #[.val (.int q0), .val (.int q1), .val (.ref b660), .val (.long (0 : Int64)), .second, .unset, .unset, .unset, .unset, .unset]) rfl ?_
  show Steps p.tables e below (T669.setTop (mkF m 14 #[.val (.int q0), .val (.int q1), .val (.ref b660), .val (.long (0 : Int64)), .second, .unset, .unset, .unset, .unset, .unset] [])) _
  refine XS.iconst X669.here hx rfl (hb hby at_14) ?_
  show Steps p.tables e below (T669.setTop (mkF m 15 #[.val (.int q0), .val (.int q1), .val (.ref b660), .val (.long (0 : Int64)), .second, .unset, .unset, .unset, .unset, .unset] [(.int (0 : Int32))])) _
  refine XS.istore X669.here hx rfl (hb hby at_15) rfl (l' := #[.val (.int q0), .val (.int q1), .val (.ref b660), .val (.long (0 : Int64)), .second, .val (.int (0 : Int32)), .unset, .unset, .unset, .unset]) rfl ?_
  show Steps p.tables e below (T669.setTop (mkF m 17 #[.val (.int q0), .val (.int q1), .val (.ref b660), .val (.long (0 : Int64)), .second, .val (.int (0 : Int32)), .unset, .unset, .unset, .unset] [])) _
  refine sts0 _ ?_
  show Steps p.tables e below (Ts0.setTop (mkF m 29 #[.val (.int q0), .val (.int q1), .val (.ref b660), .val (.long (0 : Int64)), .second, .val (.int ((0 : Int32) + own_p32 (q1 &&& (3 : Int32)))), .unset, .unset, .unset, .unset] [])) _
  refine sts1 _ ?_
  show Steps p.tables e below (Ts1.setTop (mkF m 43 #[.val (.int q0), .val (.int q1), .val (.ref b660), .val (.long (0 : Int64)), .second, .val (.int (((0 : Int32) + own_p32 (q1 &&& (3 : Int32))) + own_p32 (((q1.toUInt32 >>> ((2 : Int32) &&& 31).toUInt32).toInt32) &&& (3 : Int32)))), .unset, .unset, .unset, .unset] [])) _
  refine sts2 _ ?_
  show Steps p.tables e below (Ts2.setTop (mkF m 57 #[.val (.int q0), .val (.int q1), .val (.ref b660), .val (.long (0 : Int64)), .second, .val (.int ((((0 : Int32) + own_p32 (q1 &&& (3 : Int32))) + own_p32 (((q1.toUInt32 >>> ((2 : Int32) &&& 31).toUInt32).toInt32) &&& (3 : Int32))) + own_p32 (((q1.toUInt32 >>> ((4 : Int32) &&& 31).toUInt32).toInt32) &&& (3 : Int32)))), .unset, .unset, .unset, .unset] [])) _
  refine sts3 _ ?_
  show Steps p.tables e below (Ts3.setTop (mkF m 72 #[.val (.int q0), .val (.int q1), .val (.ref b660), .val (.long (0 : Int64)), .second, .val (.int (((((0 : Int32) + own_p32 (q1 &&& (3 : Int32))) + own_p32 (((q1.toUInt32 >>> ((2 : Int32) &&& 31).toUInt32).toInt32) &&& (3 : Int32))) + own_p32 (((q1.toUInt32 >>> ((4 : Int32) &&& 31).toUInt32).toInt32) &&& (3 : Int32))) + own_p32 (((q1.toUInt32 >>> ((6 : Int32) &&& 31).toUInt32).toInt32) &&& (3 : Int32)))), .unset, .unset, .unset, .unset] [])) _
  refine XS.aloadN X4.here hx rfl (hb hby at_72) rfl rfl ?_
  show Steps p.tables e below (Ts3.setTop (mkF m 73 #[.val (.int q0), .val (.int q1), .val (.ref b660), .val (.long (0 : Int64)), .second, .val (.int (((((0 : Int32) + own_p32 (q1 &&& (3 : Int32))) + own_p32 (((q1.toUInt32 >>> ((2 : Int32) &&& 31).toUInt32).toInt32) &&& (3 : Int32))) + own_p32 (((q1.toUInt32 >>> ((4 : Int32) &&& 31).toUInt32).toInt32) &&& (3 : Int32))) + own_p32 (((q1.toUInt32 >>> ((6 : Int32) &&& 31).toUInt32).toInt32) &&& (3 : Int32)))), .unset, .unset, .unset, .unset] [(.ref b660)])) _
  refine st671.trans ?_
  show Steps p.tables e below (T671.setTop (mkF m 76 #[.val (.int q0), .val (.int q1), .val (.ref b660), .val (.long (0 : Int64)), .second, .val (.int (((((0 : Int32) + own_p32 (q1 &&& (3 : Int32))) + own_p32 (((q1.toUInt32 >>> ((2 : Int32) &&& 31).toUInt32).toInt32) &&& (3 : Int32))) + own_p32 (((q1.toUInt32 >>> ((4 : Int32) &&& 31).toUInt32).toInt32) &&& (3 : Int32))) + own_p32 (((q1.toUInt32 >>> ((6 : Int32) &&& 31).toUInt32).toInt32) &&& (3 : Int32)))), .unset, .unset, .unset, .unset] [(.long (c0' + c1' + c2'))])) _
  rw [hsum']
  show Steps p.tables e below (T671.setTop (mkF m 76 #[.val (.int q0), .val (.int q1), .val (.ref b660), .val (.long (0 : Int64)), .second, .val (.int (((((0 : Int32) + own_p32 (q1 &&& (3 : Int32))) + own_p32 (((q1.toUInt32 >>> ((2 : Int32) &&& 31).toUInt32).toInt32) &&& (3 : Int32))) + own_p32 (((q1.toUInt32 >>> ((4 : Int32) &&& 31).toUInt32).toInt32) &&& (3 : Int32))) + own_p32 (((q1.toUInt32 >>> ((6 : Int32) &&& 31).toUInt32).toInt32) &&& (3 : Int32)))), .unset, .unset, .unset, .unset] [(.long (((((0 : Int64) + own_p64 (q1 &&& (3 : Int32))) + own_p64 (((q1.toUInt32 >>> ((2 : Int32) &&& 31).toUInt32).toInt32) &&& (3 : Int32))) + own_p64 (((q1.toUInt32 >>> ((4 : Int32) &&& 31).toUInt32).toInt32) &&& (3 : Int32))) + own_p64 (((q1.toUInt32 >>> ((6 : Int32) &&& 31).toUInt32).toInt32) &&& (3 : Int32))))])) _
  refine XS.lstore X671.here hx rfl (hb hby at_76) rfl (l' := #[.val (.int q0), .val (.int q1), .val (.ref b660), .val (.long (0 : Int64)), .second, .val (.int (((((0 : Int32) + own_p32 (q1 &&& (3 : Int32))) + own_p32 (((q1.toUInt32 >>> ((2 : Int32) &&& 31).toUInt32).toInt32) &&& (3 : Int32))) + own_p32 (((q1.toUInt32 >>> ((4 : Int32) &&& 31).toUInt32).toInt32) &&& (3 : Int32))) + own_p32 (((q1.toUInt32 >>> ((6 : Int32) &&& 31).toUInt32).toInt32) &&& (3 : Int32)))), .val (.long (((((0 : Int64) + own_p64 (q1 &&& (3 : Int32))) + own_p64 (((q1.toUInt32 >>> ((2 : Int32) &&& 31).toUInt32).toInt32) &&& (3 : Int32))) + own_p64 (((q1.toUInt32 >>> ((4 : Int32) &&& 31).toUInt32).toInt32) &&& (3 : Int32))) + own_p64 (((q1.toUInt32 >>> ((6 : Int32) &&& 31).toUInt32).toInt32) &&& (3 : Int32)))), .second, .unset, .unset]) rfl ?_
  show Steps p.tables e below (T671.setTop (mkF m 78 #[.val (.int q0), .val (.int q1), .val (.ref b660), .val (.long (0 : Int64)), .second, .val (.int (((((0 : Int32) + own_p32 (q1 &&& (3 : Int32))) + own_p32 (((q1.toUInt32 >>> ((2 : Int32) &&& 31).toUInt32).toInt32) &&& (3 : Int32))) + own_p32 (((q1.toUInt32 >>> ((4 : Int32) &&& 31).toUInt32).toInt32) &&& (3 : Int32))) + own_p32 (((q1.toUInt32 >>> ((6 : Int32) &&& 31).toUInt32).toInt32) &&& (3 : Int32)))), .val (.long (((((0 : Int64) + own_p64 (q1 &&& (3 : Int32))) + own_p64 (((q1.toUInt32 >>> ((2 : Int32) &&& 31).toUInt32).toInt32) &&& (3 : Int32))) + own_p64 (((q1.toUInt32 >>> ((4 : Int32) &&& 31).toUInt32).toInt32) &&& (3 : Int32))) + own_p64 (((q1.toUInt32 >>> ((6 : Int32) &&& 31).toUInt32).toInt32) &&& (3 : Int32)))), .second, .unset, .unset] [])) _
  refine XS.aloadN X671.here hx rfl (hb hby at_78) rfl rfl ?_
  show Steps p.tables e below (T671.setTop (mkF m 79 #[.val (.int q0), .val (.int q1), .val (.ref b660), .val (.long (0 : Int64)), .second, .val (.int (((((0 : Int32) + own_p32 (q1 &&& (3 : Int32))) + own_p32 (((q1.toUInt32 >>> ((2 : Int32) &&& 31).toUInt32).toInt32) &&& (3 : Int32))) + own_p32 (((q1.toUInt32 >>> ((4 : Int32) &&& 31).toUInt32).toInt32) &&& (3 : Int32))) + own_p32 (((q1.toUInt32 >>> ((6 : Int32) &&& 31).toUInt32).toInt32) &&& (3 : Int32)))), .val (.long (((((0 : Int64) + own_p64 (q1 &&& (3 : Int32))) + own_p64 (((q1.toUInt32 >>> ((2 : Int32) &&& 31).toUInt32).toInt32) &&& (3 : Int32))) + own_p64 (((q1.toUInt32 >>> ((4 : Int32) &&& 31).toUInt32).toInt32) &&& (3 : Int32))) + own_p64 (((q1.toUInt32 >>> ((6 : Int32) &&& 31).toUInt32).toInt32) &&& (3 : Int32)))), .second, .unset, .unset] [(.ref b660)])) _
  refine st673.trans ?_
  show Steps p.tables e below (T673.setTop (mkF m 82 #[.val (.int q0), .val (.int q1), .val (.ref b660), .val (.long (0 : Int64)), .second, .val (.int (((((0 : Int32) + own_p32 (q1 &&& (3 : Int32))) + own_p32 (((q1.toUInt32 >>> ((2 : Int32) &&& 31).toUInt32).toInt32) &&& (3 : Int32))) + own_p32 (((q1.toUInt32 >>> ((4 : Int32) &&& 31).toUInt32).toInt32) &&& (3 : Int32))) + own_p32 (((q1.toUInt32 >>> ((6 : Int32) &&& 31).toUInt32).toInt32) &&& (3 : Int32)))), .val (.long (((((0 : Int64) + own_p64 (q1 &&& (3 : Int32))) + own_p64 (((q1.toUInt32 >>> ((2 : Int32) &&& 31).toUInt32).toInt32) &&& (3 : Int32))) + own_p64 (((q1.toUInt32 >>> ((4 : Int32) &&& 31).toUInt32).toInt32) &&& (3 : Int32))) + own_p64 (((q1.toUInt32 >>> ((6 : Int32) &&& 31).toUInt32).toInt32) &&& (3 : Int32)))), .second, .unset, .unset] [(.long (c0' + c1' + c2'))])) _
  rw [hsum']
  show Steps p.tables e below (T673.setTop (mkF m 82 #[.val (.int q0), .val (.int q1), .val (.ref b660), .val (.long (0 : Int64)), .second, .val (.int (((((0 : Int32) + own_p32 (q1 &&& (3 : Int32))) + own_p32 (((q1.toUInt32 >>> ((2 : Int32) &&& 31).toUInt32).toInt32) &&& (3 : Int32))) + own_p32 (((q1.toUInt32 >>> ((4 : Int32) &&& 31).toUInt32).toInt32) &&& (3 : Int32))) + own_p32 (((q1.toUInt32 >>> ((6 : Int32) &&& 31).toUInt32).toInt32) &&& (3 : Int32)))), .val (.long (((((0 : Int64) + own_p64 (q1 &&& (3 : Int32))) + own_p64 (((q1.toUInt32 >>> ((2 : Int32) &&& 31).toUInt32).toInt32) &&& (3 : Int32))) + own_p64 (((q1.toUInt32 >>> ((4 : Int32) &&& 31).toUInt32).toInt32) &&& (3 : Int32))) + own_p64 (((q1.toUInt32 >>> ((6 : Int32) &&& 31).toUInt32).toInt32) &&& (3 : Int32)))), .second, .unset, .unset] [(.long (((((0 : Int64) + own_p64 (q1 &&& (3 : Int32))) + own_p64 (((q1.toUInt32 >>> ((2 : Int32) &&& 31).toUInt32).toInt32) &&& (3 : Int32))) + own_p64 (((q1.toUInt32 >>> ((4 : Int32) &&& 31).toUInt32).toInt32) &&& (3 : Int32))) + own_p64 (((q1.toUInt32 >>> ((6 : Int32) &&& 31).toUInt32).toInt32) &&& (3 : Int32))))])) _
  refine XS.lstore X673.here hx rfl (hb hby at_82) rfl (l' := #[.val (.int q0), .val (.int q1), .val (.ref b660), .val (.long (0 : Int64)), .second, .val (.int (((((0 : Int32) + own_p32 (q1 &&& (3 : Int32))) + own_p32 (((q1.toUInt32 >>> ((2 : Int32) &&& 31).toUInt32).toInt32) &&& (3 : Int32))) + own_p32 (((q1.toUInt32 >>> ((4 : Int32) &&& 31).toUInt32).toInt32) &&& (3 : Int32))) + own_p32 (((q1.toUInt32 >>> ((6 : Int32) &&& 31).toUInt32).toInt32) &&& (3 : Int32)))), .val (.long (((((0 : Int64) + own_p64 (q1 &&& (3 : Int32))) + own_p64 (((q1.toUInt32 >>> ((2 : Int32) &&& 31).toUInt32).toInt32) &&& (3 : Int32))) + own_p64 (((q1.toUInt32 >>> ((4 : Int32) &&& 31).toUInt32).toInt32) &&& (3 : Int32))) + own_p64 (((q1.toUInt32 >>> ((6 : Int32) &&& 31).toUInt32).toInt32) &&& (3 : Int32)))), .second, .val (.long (((((0 : Int64) + own_p64 (q1 &&& (3 : Int32))) + own_p64 (((q1.toUInt32 >>> ((2 : Int32) &&& 31).toUInt32).toInt32) &&& (3 : Int32))) + own_p64 (((q1.toUInt32 >>> ((4 : Int32) &&& 31).toUInt32).toInt32) &&& (3 : Int32))) + own_p64 (((q1.toUInt32 >>> ((6 : Int32) &&& 31).toUInt32).toInt32) &&& (3 : Int32)))), .second]) rfl ?_
  show Steps p.tables e below (T673.setTop (mkF m 84 #[.val (.int q0), .val (.int q1), .val (.ref b660), .val (.long (0 : Int64)), .second, .val (.int (((((0 : Int32) + own_p32 (q1 &&& (3 : Int32))) + own_p32 (((q1.toUInt32 >>> ((2 : Int32) &&& 31).toUInt32).toInt32) &&& (3 : Int32))) + own_p32 (((q1.toUInt32 >>> ((4 : Int32) &&& 31).toUInt32).toInt32) &&& (3 : Int32))) + own_p32 (((q1.toUInt32 >>> ((6 : Int32) &&& 31).toUInt32).toInt32) &&& (3 : Int32)))), .val (.long (((((0 : Int64) + own_p64 (q1 &&& (3 : Int32))) + own_p64 (((q1.toUInt32 >>> ((2 : Int32) &&& 31).toUInt32).toInt32) &&& (3 : Int32))) + own_p64 (((q1.toUInt32 >>> ((4 : Int32) &&& 31).toUInt32).toInt32) &&& (3 : Int32))) + own_p64 (((q1.toUInt32 >>> ((6 : Int32) &&& 31).toUInt32).toInt32) &&& (3 : Int32)))), .second, .val (.long (((((0 : Int64) + own_p64 (q1 &&& (3 : Int32))) + own_p64 (((q1.toUInt32 >>> ((2 : Int32) &&& 31).toUInt32).toInt32) &&& (3 : Int32))) + own_p64 (((q1.toUInt32 >>> ((4 : Int32) &&& 31).toUInt32).toInt32) &&& (3 : Int32))) + own_p64 (((q1.toUInt32 >>> ((6 : Int32) &&& 31).toUInt32).toInt32) &&& (3 : Int32)))), .second] [])) _
  refine XS.lloadN X673.here hx rfl (hb hby at_84) rfl ?_
  show Steps p.tables e below (T673.setTop (mkF m 85 #[.val (.int q0), .val (.int q1), .val (.ref b660), .val (.long (0 : Int64)), .second, .val (.int (((((0 : Int32) + own_p32 (q1 &&& (3 : Int32))) + own_p32 (((q1.toUInt32 >>> ((2 : Int32) &&& 31).toUInt32).toInt32) &&& (3 : Int32))) + own_p32 (((q1.toUInt32 >>> ((4 : Int32) &&& 31).toUInt32).toInt32) &&& (3 : Int32))) + own_p32 (((q1.toUInt32 >>> ((6 : Int32) &&& 31).toUInt32).toInt32) &&& (3 : Int32)))), .val (.long (((((0 : Int64) + own_p64 (q1 &&& (3 : Int32))) + own_p64 (((q1.toUInt32 >>> ((2 : Int32) &&& 31).toUInt32).toInt32) &&& (3 : Int32))) + own_p64 (((q1.toUInt32 >>> ((4 : Int32) &&& 31).toUInt32).toInt32) &&& (3 : Int32))) + own_p64 (((q1.toUInt32 >>> ((6 : Int32) &&& 31).toUInt32).toInt32) &&& (3 : Int32)))), .second, .val (.long (((((0 : Int64) + own_p64 (q1 &&& (3 : Int32))) + own_p64 (((q1.toUInt32 >>> ((2 : Int32) &&& 31).toUInt32).toInt32) &&& (3 : Int32))) + own_p64 (((q1.toUInt32 >>> ((4 : Int32) &&& 31).toUInt32).toInt32) &&& (3 : Int32))) + own_p64 (((q1.toUInt32 >>> ((6 : Int32) &&& 31).toUInt32).toInt32) &&& (3 : Int32)))), .second] [(.long (0 : Int64))])) _
  refine XS.lconst X673.here hx rfl (hb hby at_85) ?_
  show Steps p.tables e below (T673.setTop (mkF m 86 #[.val (.int q0), .val (.int q1), .val (.ref b660), .val (.long (0 : Int64)), .second, .val (.int (((((0 : Int32) + own_p32 (q1 &&& (3 : Int32))) + own_p32 (((q1.toUInt32 >>> ((2 : Int32) &&& 31).toUInt32).toInt32) &&& (3 : Int32))) + own_p32 (((q1.toUInt32 >>> ((4 : Int32) &&& 31).toUInt32).toInt32) &&& (3 : Int32))) + own_p32 (((q1.toUInt32 >>> ((6 : Int32) &&& 31).toUInt32).toInt32) &&& (3 : Int32)))), .val (.long (((((0 : Int64) + own_p64 (q1 &&& (3 : Int32))) + own_p64 (((q1.toUInt32 >>> ((2 : Int32) &&& 31).toUInt32).toInt32) &&& (3 : Int32))) + own_p64 (((q1.toUInt32 >>> ((4 : Int32) &&& 31).toUInt32).toInt32) &&& (3 : Int32))) + own_p64 (((q1.toUInt32 >>> ((6 : Int32) &&& 31).toUInt32).toInt32) &&& (3 : Int32)))), .second, .val (.long (((((0 : Int64) + own_p64 (q1 &&& (3 : Int32))) + own_p64 (((q1.toUInt32 >>> ((2 : Int32) &&& 31).toUInt32).toInt32) &&& (3 : Int32))) + own_p64 (((q1.toUInt32 >>> ((4 : Int32) &&& 31).toUInt32).toInt32) &&& (3 : Int32))) + own_p64 (((q1.toUInt32 >>> ((6 : Int32) &&& 31).toUInt32).toInt32) &&& (3 : Int32)))), .second] [(.long (0 : Int64)), (.long (0 : Int64))])) _
  refine XS.lcmp X673.here hx rfl (hb hby at_86) rfl ?_
  show Steps p.tables e below (T673.setTop (mkF m 87 #[.val (.int q0), .val (.int q1), .val (.ref b660), .val (.long (0 : Int64)), .second, .val (.int (((((0 : Int32) + own_p32 (q1 &&& (3 : Int32))) + own_p32 (((q1.toUInt32 >>> ((2 : Int32) &&& 31).toUInt32).toInt32) &&& (3 : Int32))) + own_p32 (((q1.toUInt32 >>> ((4 : Int32) &&& 31).toUInt32).toInt32) &&& (3 : Int32))) + own_p32 (((q1.toUInt32 >>> ((6 : Int32) &&& 31).toUInt32).toInt32) &&& (3 : Int32)))), .val (.long (((((0 : Int64) + own_p64 (q1 &&& (3 : Int32))) + own_p64 (((q1.toUInt32 >>> ((2 : Int32) &&& 31).toUInt32).toInt32) &&& (3 : Int32))) + own_p64 (((q1.toUInt32 >>> ((4 : Int32) &&& 31).toUInt32).toInt32) &&& (3 : Int32))) + own_p64 (((q1.toUInt32 >>> ((6 : Int32) &&& 31).toUInt32).toInt32) &&& (3 : Int32)))), .second, .val (.long (((((0 : Int64) + own_p64 (q1 &&& (3 : Int32))) + own_p64 (((q1.toUInt32 >>> ((2 : Int32) &&& 31).toUInt32).toInt32) &&& (3 : Int32))) + own_p64 (((q1.toUInt32 >>> ((4 : Int32) &&& 31).toUInt32).toInt32) &&& (3 : Int32))) + own_p64 (((q1.toUInt32 >>> ((6 : Int32) &&& 31).toUInt32).toInt32) &&& (3 : Int32)))), .second] [(.int (lcmpW (0 : Int64) (0 : Int64)))])) _
  refine XS.ifNo X673.here hx rfl (hb hby at_87) rfl ((if0 _ _).trans (teq ((lw_eq _ _).2 rfl)).2) ?_
  show Steps p.tables e below (T673.setTop (mkF m 90 #[.val (.int q0), .val (.int q1), .val (.ref b660), .val (.long (0 : Int64)), .second, .val (.int (((((0 : Int32) + own_p32 (q1 &&& (3 : Int32))) + own_p32 (((q1.toUInt32 >>> ((2 : Int32) &&& 31).toUInt32).toInt32) &&& (3 : Int32))) + own_p32 (((q1.toUInt32 >>> ((4 : Int32) &&& 31).toUInt32).toInt32) &&& (3 : Int32))) + own_p32 (((q1.toUInt32 >>> ((6 : Int32) &&& 31).toUInt32).toInt32) &&& (3 : Int32)))), .val (.long (((((0 : Int64) + own_p64 (q1 &&& (3 : Int32))) + own_p64 (((q1.toUInt32 >>> ((2 : Int32) &&& 31).toUInt32).toInt32) &&& (3 : Int32))) + own_p64 (((q1.toUInt32 >>> ((4 : Int32) &&& 31).toUInt32).toInt32) &&& (3 : Int32))) + own_p64 (((q1.toUInt32 >>> ((6 : Int32) &&& 31).toUInt32).toInt32) &&& (3 : Int32)))), .second, .val (.long (((((0 : Int64) + own_p64 (q1 &&& (3 : Int32))) + own_p64 (((q1.toUInt32 >>> ((2 : Int32) &&& 31).toUInt32).toInt32) &&& (3 : Int32))) + own_p64 (((q1.toUInt32 >>> ((4 : Int32) &&& 31).toUInt32).toInt32) &&& (3 : Int32))) + own_p64 (((q1.toUInt32 >>> ((6 : Int32) &&& 31).toUInt32).toInt32) &&& (3 : Int32)))), .second] [])) _
  refine XS.lload X673.here hx rfl (hb hby at_90) rfl ?_
  show Steps p.tables e below (T673.setTop (mkF m 92 #[.val (.int q0), .val (.int q1), .val (.ref b660), .val (.long (0 : Int64)), .second, .val (.int (((((0 : Int32) + own_p32 (q1 &&& (3 : Int32))) + own_p32 (((q1.toUInt32 >>> ((2 : Int32) &&& 31).toUInt32).toInt32) &&& (3 : Int32))) + own_p32 (((q1.toUInt32 >>> ((4 : Int32) &&& 31).toUInt32).toInt32) &&& (3 : Int32))) + own_p32 (((q1.toUInt32 >>> ((6 : Int32) &&& 31).toUInt32).toInt32) &&& (3 : Int32)))), .val (.long (((((0 : Int64) + own_p64 (q1 &&& (3 : Int32))) + own_p64 (((q1.toUInt32 >>> ((2 : Int32) &&& 31).toUInt32).toInt32) &&& (3 : Int32))) + own_p64 (((q1.toUInt32 >>> ((4 : Int32) &&& 31).toUInt32).toInt32) &&& (3 : Int32))) + own_p64 (((q1.toUInt32 >>> ((6 : Int32) &&& 31).toUInt32).toInt32) &&& (3 : Int32)))), .second, .val (.long (((((0 : Int64) + own_p64 (q1 &&& (3 : Int32))) + own_p64 (((q1.toUInt32 >>> ((2 : Int32) &&& 31).toUInt32).toInt32) &&& (3 : Int32))) + own_p64 (((q1.toUInt32 >>> ((4 : Int32) &&& 31).toUInt32).toInt32) &&& (3 : Int32))) + own_p64 (((q1.toUInt32 >>> ((6 : Int32) &&& 31).toUInt32).toInt32) &&& (3 : Int32)))), .second] [(.long (((((0 : Int64) + own_p64 (q1 &&& (3 : Int32))) + own_p64 (((q1.toUInt32 >>> ((2 : Int32) &&& 31).toUInt32).toInt32) &&& (3 : Int32))) + own_p64 (((q1.toUInt32 >>> ((4 : Int32) &&& 31).toUInt32).toInt32) &&& (3 : Int32))) + own_p64 (((q1.toUInt32 >>> ((6 : Int32) &&& 31).toUInt32).toInt32) &&& (3 : Int32))))])) _
  refine XS.iload X673.here hx rfl (hb hby at_92) rfl ?_
  show Steps p.tables e below (T673.setTop (mkF m 94 #[.val (.int q0), .val (.int q1), .val (.ref b660), .val (.long (0 : Int64)), .second, .val (.int (((((0 : Int32) + own_p32 (q1 &&& (3 : Int32))) + own_p32 (((q1.toUInt32 >>> ((2 : Int32) &&& 31).toUInt32).toInt32) &&& (3 : Int32))) + own_p32 (((q1.toUInt32 >>> ((4 : Int32) &&& 31).toUInt32).toInt32) &&& (3 : Int32))) + own_p32 (((q1.toUInt32 >>> ((6 : Int32) &&& 31).toUInt32).toInt32) &&& (3 : Int32)))), .val (.long (((((0 : Int64) + own_p64 (q1 &&& (3 : Int32))) + own_p64 (((q1.toUInt32 >>> ((2 : Int32) &&& 31).toUInt32).toInt32) &&& (3 : Int32))) + own_p64 (((q1.toUInt32 >>> ((4 : Int32) &&& 31).toUInt32).toInt32) &&& (3 : Int32))) + own_p64 (((q1.toUInt32 >>> ((6 : Int32) &&& 31).toUInt32).toInt32) &&& (3 : Int32)))), .second, .val (.long (((((0 : Int64) + own_p64 (q1 &&& (3 : Int32))) + own_p64 (((q1.toUInt32 >>> ((2 : Int32) &&& 31).toUInt32).toInt32) &&& (3 : Int32))) + own_p64 (((q1.toUInt32 >>> ((4 : Int32) &&& 31).toUInt32).toInt32) &&& (3 : Int32))) + own_p64 (((q1.toUInt32 >>> ((6 : Int32) &&& 31).toUInt32).toInt32) &&& (3 : Int32)))), .second] [(.int (((((0 : Int32) + own_p32 (q1 &&& (3 : Int32))) + own_p32 (((q1.toUInt32 >>> ((2 : Int32) &&& 31).toUInt32).toInt32) &&& (3 : Int32))) + own_p32 (((q1.toUInt32 >>> ((4 : Int32) &&& 31).toUInt32).toInt32) &&& (3 : Int32))) + own_p32 (((q1.toUInt32 >>> ((6 : Int32) &&& 31).toUInt32).toInt32) &&& (3 : Int32)))), (.long (((((0 : Int64) + own_p64 (q1 &&& (3 : Int32))) + own_p64 (((q1.toUInt32 >>> ((2 : Int32) &&& 31).toUInt32).toInt32) &&& (3 : Int32))) + own_p64 (((q1.toUInt32 >>> ((4 : Int32) &&& 31).toUInt32).toInt32) &&& (3 : Int32))) + own_p64 (((q1.toUInt32 >>> ((6 : Int32) &&& 31).toUInt32).toInt32) &&& (3 : Int32))))])) _
  refine XS.i2l X673.here hx rfl (hb hby at_94) rfl ?_
  show Steps p.tables e below (T673.setTop (mkF m 95 #[.val (.int q0), .val (.int q1), .val (.ref b660), .val (.long (0 : Int64)), .second, .val (.int (((((0 : Int32) + own_p32 (q1 &&& (3 : Int32))) + own_p32 (((q1.toUInt32 >>> ((2 : Int32) &&& 31).toUInt32).toInt32) &&& (3 : Int32))) + own_p32 (((q1.toUInt32 >>> ((4 : Int32) &&& 31).toUInt32).toInt32) &&& (3 : Int32))) + own_p32 (((q1.toUInt32 >>> ((6 : Int32) &&& 31).toUInt32).toInt32) &&& (3 : Int32)))), .val (.long (((((0 : Int64) + own_p64 (q1 &&& (3 : Int32))) + own_p64 (((q1.toUInt32 >>> ((2 : Int32) &&& 31).toUInt32).toInt32) &&& (3 : Int32))) + own_p64 (((q1.toUInt32 >>> ((4 : Int32) &&& 31).toUInt32).toInt32) &&& (3 : Int32))) + own_p64 (((q1.toUInt32 >>> ((6 : Int32) &&& 31).toUInt32).toInt32) &&& (3 : Int32)))), .second, .val (.long (((((0 : Int64) + own_p64 (q1 &&& (3 : Int32))) + own_p64 (((q1.toUInt32 >>> ((2 : Int32) &&& 31).toUInt32).toInt32) &&& (3 : Int32))) + own_p64 (((q1.toUInt32 >>> ((4 : Int32) &&& 31).toUInt32).toInt32) &&& (3 : Int32))) + own_p64 (((q1.toUInt32 >>> ((6 : Int32) &&& 31).toUInt32).toInt32) &&& (3 : Int32)))), .second] [(.long (((((0 : Int32) + own_p32 (q1 &&& (3 : Int32))) + own_p32 (((q1.toUInt32 >>> ((2 : Int32) &&& 31).toUInt32).toInt32) &&& (3 : Int32))) + own_p32 (((q1.toUInt32 >>> ((4 : Int32) &&& 31).toUInt32).toInt32) &&& (3 : Int32))) + own_p32 (((q1.toUInt32 >>> ((6 : Int32) &&& 31).toUInt32).toInt32) &&& (3 : Int32))).toInt64), (.long (((((0 : Int64) + own_p64 (q1 &&& (3 : Int32))) + own_p64 (((q1.toUInt32 >>> ((2 : Int32) &&& 31).toUInt32).toInt32) &&& (3 : Int32))) + own_p64 (((q1.toUInt32 >>> ((4 : Int32) &&& 31).toUInt32).toInt32) &&& (3 : Int32))) + own_p64 (((q1.toUInt32 >>> ((6 : Int32) &&& 31).toUInt32).toInt32) &&& (3 : Int32))))])) _
  refine XS.lcmp X673.here hx rfl (hb hby at_95) rfl ?_
  show Steps p.tables e below (T673.setTop (mkF m 96 #[.val (.int q0), .val (.int q1), .val (.ref b660), .val (.long (0 : Int64)), .second, .val (.int (((((0 : Int32) + own_p32 (q1 &&& (3 : Int32))) + own_p32 (((q1.toUInt32 >>> ((2 : Int32) &&& 31).toUInt32).toInt32) &&& (3 : Int32))) + own_p32 (((q1.toUInt32 >>> ((4 : Int32) &&& 31).toUInt32).toInt32) &&& (3 : Int32))) + own_p32 (((q1.toUInt32 >>> ((6 : Int32) &&& 31).toUInt32).toInt32) &&& (3 : Int32)))), .val (.long (((((0 : Int64) + own_p64 (q1 &&& (3 : Int32))) + own_p64 (((q1.toUInt32 >>> ((2 : Int32) &&& 31).toUInt32).toInt32) &&& (3 : Int32))) + own_p64 (((q1.toUInt32 >>> ((4 : Int32) &&& 31).toUInt32).toInt32) &&& (3 : Int32))) + own_p64 (((q1.toUInt32 >>> ((6 : Int32) &&& 31).toUInt32).toInt32) &&& (3 : Int32)))), .second, .val (.long (((((0 : Int64) + own_p64 (q1 &&& (3 : Int32))) + own_p64 (((q1.toUInt32 >>> ((2 : Int32) &&& 31).toUInt32).toInt32) &&& (3 : Int32))) + own_p64 (((q1.toUInt32 >>> ((4 : Int32) &&& 31).toUInt32).toInt32) &&& (3 : Int32))) + own_p64 (((q1.toUInt32 >>> ((6 : Int32) &&& 31).toUInt32).toInt32) &&& (3 : Int32)))), .second] [(.int (lcmpW (((((0 : Int64) + own_p64 (q1 &&& (3 : Int32))) + own_p64 (((q1.toUInt32 >>> ((2 : Int32) &&& 31).toUInt32).toInt32) &&& (3 : Int32))) + own_p64 (((q1.toUInt32 >>> ((4 : Int32) &&& 31).toUInt32).toInt32) &&& (3 : Int32))) + own_p64 (((q1.toUInt32 >>> ((6 : Int32) &&& 31).toUInt32).toInt32) &&& (3 : Int32))) (((((0 : Int32) + own_p32 (q1 &&& (3 : Int32))) + own_p32 (((q1.toUInt32 >>> ((2 : Int32) &&& 31).toUInt32).toInt32) &&& (3 : Int32))) + own_p32 (((q1.toUInt32 >>> ((4 : Int32) &&& 31).toUInt32).toInt32) &&& (3 : Int32))) + own_p32 (((q1.toUInt32 >>> ((6 : Int32) &&& 31).toUInt32).toInt32) &&& (3 : Int32))).toInt64))])) _
  refine XS.ifNo X673.here hx rfl (hb hby at_96) rfl ((if0 _ _).trans (teq ((lw_eq _ _).2 (own_sum (q1 &&& (3 : Int32)) (((q1.toUInt32 >>> ((2 : Int32) &&& 31).toUInt32).toInt32) &&& (3 : Int32)) (((q1.toUInt32 >>> ((4 : Int32) &&& 31).toUInt32).toInt32) &&& (3 : Int32)) (((q1.toUInt32 >>> ((6 : Int32) &&& 31).toUInt32).toInt32) &&& (3 : Int32))))).2) ?_
  show Steps p.tables e below (T673.setTop (mkF m 99 #[.val (.int q0), .val (.int q1), .val (.ref b660), .val (.long (0 : Int64)), .second, .val (.int (((((0 : Int32) + own_p32 (q1 &&& (3 : Int32))) + own_p32 (((q1.toUInt32 >>> ((2 : Int32) &&& 31).toUInt32).toInt32) &&& (3 : Int32))) + own_p32 (((q1.toUInt32 >>> ((4 : Int32) &&& 31).toUInt32).toInt32) &&& (3 : Int32))) + own_p32 (((q1.toUInt32 >>> ((6 : Int32) &&& 31).toUInt32).toInt32) &&& (3 : Int32)))), .val (.long (((((0 : Int64) + own_p64 (q1 &&& (3 : Int32))) + own_p64 (((q1.toUInt32 >>> ((2 : Int32) &&& 31).toUInt32).toInt32) &&& (3 : Int32))) + own_p64 (((q1.toUInt32 >>> ((4 : Int32) &&& 31).toUInt32).toInt32) &&& (3 : Int32))) + own_p64 (((q1.toUInt32 >>> ((6 : Int32) &&& 31).toUInt32).toInt32) &&& (3 : Int32)))), .second, .val (.long (((((0 : Int64) + own_p64 (q1 &&& (3 : Int32))) + own_p64 (((q1.toUInt32 >>> ((2 : Int32) &&& 31).toUInt32).toInt32) &&& (3 : Int32))) + own_p64 (((q1.toUInt32 >>> ((4 : Int32) &&& 31).toUInt32).toInt32) &&& (3 : Int32))) + own_p64 (((q1.toUInt32 >>> ((6 : Int32) &&& 31).toUInt32).toInt32) &&& (3 : Int32)))), .second] [])) _
  refine XS.lload X673.here hx rfl (hb hby at_99) rfl ?_
  show Steps p.tables e below (T673.setTop (mkF m 101 #[.val (.int q0), .val (.int q1), .val (.ref b660), .val (.long (0 : Int64)), .second, .val (.int (((((0 : Int32) + own_p32 (q1 &&& (3 : Int32))) + own_p32 (((q1.toUInt32 >>> ((2 : Int32) &&& 31).toUInt32).toInt32) &&& (3 : Int32))) + own_p32 (((q1.toUInt32 >>> ((4 : Int32) &&& 31).toUInt32).toInt32) &&& (3 : Int32))) + own_p32 (((q1.toUInt32 >>> ((6 : Int32) &&& 31).toUInt32).toInt32) &&& (3 : Int32)))), .val (.long (((((0 : Int64) + own_p64 (q1 &&& (3 : Int32))) + own_p64 (((q1.toUInt32 >>> ((2 : Int32) &&& 31).toUInt32).toInt32) &&& (3 : Int32))) + own_p64 (((q1.toUInt32 >>> ((4 : Int32) &&& 31).toUInt32).toInt32) &&& (3 : Int32))) + own_p64 (((q1.toUInt32 >>> ((6 : Int32) &&& 31).toUInt32).toInt32) &&& (3 : Int32)))), .second, .val (.long (((((0 : Int64) + own_p64 (q1 &&& (3 : Int32))) + own_p64 (((q1.toUInt32 >>> ((2 : Int32) &&& 31).toUInt32).toInt32) &&& (3 : Int32))) + own_p64 (((q1.toUInt32 >>> ((4 : Int32) &&& 31).toUInt32).toInt32) &&& (3 : Int32))) + own_p64 (((q1.toUInt32 >>> ((6 : Int32) &&& 31).toUInt32).toInt32) &&& (3 : Int32)))), .second] [(.long (((((0 : Int64) + own_p64 (q1 &&& (3 : Int32))) + own_p64 (((q1.toUInt32 >>> ((2 : Int32) &&& 31).toUInt32).toInt32) &&& (3 : Int32))) + own_p64 (((q1.toUInt32 >>> ((4 : Int32) &&& 31).toUInt32).toInt32) &&& (3 : Int32))) + own_p64 (((q1.toUInt32 >>> ((6 : Int32) &&& 31).toUInt32).toInt32) &&& (3 : Int32))))])) _
  refine XS.lload X673.here hx rfl (hb hby at_101) rfl ?_
  show Steps p.tables e below (T673.setTop (mkF m 103 #[.val (.int q0), .val (.int q1), .val (.ref b660), .val (.long (0 : Int64)), .second, .val (.int (((((0 : Int32) + own_p32 (q1 &&& (3 : Int32))) + own_p32 (((q1.toUInt32 >>> ((2 : Int32) &&& 31).toUInt32).toInt32) &&& (3 : Int32))) + own_p32 (((q1.toUInt32 >>> ((4 : Int32) &&& 31).toUInt32).toInt32) &&& (3 : Int32))) + own_p32 (((q1.toUInt32 >>> ((6 : Int32) &&& 31).toUInt32).toInt32) &&& (3 : Int32)))), .val (.long (((((0 : Int64) + own_p64 (q1 &&& (3 : Int32))) + own_p64 (((q1.toUInt32 >>> ((2 : Int32) &&& 31).toUInt32).toInt32) &&& (3 : Int32))) + own_p64 (((q1.toUInt32 >>> ((4 : Int32) &&& 31).toUInt32).toInt32) &&& (3 : Int32))) + own_p64 (((q1.toUInt32 >>> ((6 : Int32) &&& 31).toUInt32).toInt32) &&& (3 : Int32)))), .second, .val (.long (((((0 : Int64) + own_p64 (q1 &&& (3 : Int32))) + own_p64 (((q1.toUInt32 >>> ((2 : Int32) &&& 31).toUInt32).toInt32) &&& (3 : Int32))) + own_p64 (((q1.toUInt32 >>> ((4 : Int32) &&& 31).toUInt32).toInt32) &&& (3 : Int32))) + own_p64 (((q1.toUInt32 >>> ((6 : Int32) &&& 31).toUInt32).toInt32) &&& (3 : Int32)))), .second] [(.long (((((0 : Int64) + own_p64 (q1 &&& (3 : Int32))) + own_p64 (((q1.toUInt32 >>> ((2 : Int32) &&& 31).toUInt32).toInt32) &&& (3 : Int32))) + own_p64 (((q1.toUInt32 >>> ((4 : Int32) &&& 31).toUInt32).toInt32) &&& (3 : Int32))) + own_p64 (((q1.toUInt32 >>> ((6 : Int32) &&& 31).toUInt32).toInt32) &&& (3 : Int32)))), (.long (((((0 : Int64) + own_p64 (q1 &&& (3 : Int32))) + own_p64 (((q1.toUInt32 >>> ((2 : Int32) &&& 31).toUInt32).toInt32) &&& (3 : Int32))) + own_p64 (((q1.toUInt32 >>> ((4 : Int32) &&& 31).toUInt32).toInt32) &&& (3 : Int32))) + own_p64 (((q1.toUInt32 >>> ((6 : Int32) &&& 31).toUInt32).toInt32) &&& (3 : Int32))))])) _
  refine XS.lcmp X673.here hx rfl (hb hby at_103) rfl ?_
  show Steps p.tables e below (T673.setTop (mkF m 104 #[.val (.int q0), .val (.int q1), .val (.ref b660), .val (.long (0 : Int64)), .second, .val (.int (((((0 : Int32) + own_p32 (q1 &&& (3 : Int32))) + own_p32 (((q1.toUInt32 >>> ((2 : Int32) &&& 31).toUInt32).toInt32) &&& (3 : Int32))) + own_p32 (((q1.toUInt32 >>> ((4 : Int32) &&& 31).toUInt32).toInt32) &&& (3 : Int32))) + own_p32 (((q1.toUInt32 >>> ((6 : Int32) &&& 31).toUInt32).toInt32) &&& (3 : Int32)))), .val (.long (((((0 : Int64) + own_p64 (q1 &&& (3 : Int32))) + own_p64 (((q1.toUInt32 >>> ((2 : Int32) &&& 31).toUInt32).toInt32) &&& (3 : Int32))) + own_p64 (((q1.toUInt32 >>> ((4 : Int32) &&& 31).toUInt32).toInt32) &&& (3 : Int32))) + own_p64 (((q1.toUInt32 >>> ((6 : Int32) &&& 31).toUInt32).toInt32) &&& (3 : Int32)))), .second, .val (.long (((((0 : Int64) + own_p64 (q1 &&& (3 : Int32))) + own_p64 (((q1.toUInt32 >>> ((2 : Int32) &&& 31).toUInt32).toInt32) &&& (3 : Int32))) + own_p64 (((q1.toUInt32 >>> ((4 : Int32) &&& 31).toUInt32).toInt32) &&& (3 : Int32))) + own_p64 (((q1.toUInt32 >>> ((6 : Int32) &&& 31).toUInt32).toInt32) &&& (3 : Int32)))), .second] [(.int (lcmpW (((((0 : Int64) + own_p64 (q1 &&& (3 : Int32))) + own_p64 (((q1.toUInt32 >>> ((2 : Int32) &&& 31).toUInt32).toInt32) &&& (3 : Int32))) + own_p64 (((q1.toUInt32 >>> ((4 : Int32) &&& 31).toUInt32).toInt32) &&& (3 : Int32))) + own_p64 (((q1.toUInt32 >>> ((6 : Int32) &&& 31).toUInt32).toInt32) &&& (3 : Int32))) (((((0 : Int64) + own_p64 (q1 &&& (3 : Int32))) + own_p64 (((q1.toUInt32 >>> ((2 : Int32) &&& 31).toUInt32).toInt32) &&& (3 : Int32))) + own_p64 (((q1.toUInt32 >>> ((4 : Int32) &&& 31).toUInt32).toInt32) &&& (3 : Int32))) + own_p64 (((q1.toUInt32 >>> ((6 : Int32) &&& 31).toUInt32).toInt32) &&& (3 : Int32)))))])) _
  refine XS.ifNo X673.here hx rfl (hb hby at_104) rfl ((if0 _ _).trans (teq ((lw_eq _ _).2 rfl)).2) ?_
  show Steps p.tables e below (T673.setTop (mkF m 107 #[.val (.int q0), .val (.int q1), .val (.ref b660), .val (.long (0 : Int64)), .second, .val (.int (((((0 : Int32) + own_p32 (q1 &&& (3 : Int32))) + own_p32 (((q1.toUInt32 >>> ((2 : Int32) &&& 31).toUInt32).toInt32) &&& (3 : Int32))) + own_p32 (((q1.toUInt32 >>> ((4 : Int32) &&& 31).toUInt32).toInt32) &&& (3 : Int32))) + own_p32 (((q1.toUInt32 >>> ((6 : Int32) &&& 31).toUInt32).toInt32) &&& (3 : Int32)))), .val (.long (((((0 : Int64) + own_p64 (q1 &&& (3 : Int32))) + own_p64 (((q1.toUInt32 >>> ((2 : Int32) &&& 31).toUInt32).toInt32) &&& (3 : Int32))) + own_p64 (((q1.toUInt32 >>> ((4 : Int32) &&& 31).toUInt32).toInt32) &&& (3 : Int32))) + own_p64 (((q1.toUInt32 >>> ((6 : Int32) &&& 31).toUInt32).toInt32) &&& (3 : Int32)))), .second, .val (.long (((((0 : Int64) + own_p64 (q1 &&& (3 : Int32))) + own_p64 (((q1.toUInt32 >>> ((2 : Int32) &&& 31).toUInt32).toInt32) &&& (3 : Int32))) + own_p64 (((q1.toUInt32 >>> ((4 : Int32) &&& 31).toUInt32).toInt32) &&& (3 : Int32))) + own_p64 (((q1.toUInt32 >>> ((6 : Int32) &&& 31).toUInt32).toInt32) &&& (3 : Int32)))), .second] [])) _
  refine XS.iconst X673.here hx rfl (hb hby at_107) ?_
  show Steps p.tables e below (T673.setTop (mkF m 108 #[.val (.int q0), .val (.int q1), .val (.ref b660), .val (.long (0 : Int64)), .second, .val (.int (((((0 : Int32) + own_p32 (q1 &&& (3 : Int32))) + own_p32 (((q1.toUInt32 >>> ((2 : Int32) &&& 31).toUInt32).toInt32) &&& (3 : Int32))) + own_p32 (((q1.toUInt32 >>> ((4 : Int32) &&& 31).toUInt32).toInt32) &&& (3 : Int32))) + own_p32 (((q1.toUInt32 >>> ((6 : Int32) &&& 31).toUInt32).toInt32) &&& (3 : Int32)))), .val (.long (((((0 : Int64) + own_p64 (q1 &&& (3 : Int32))) + own_p64 (((q1.toUInt32 >>> ((2 : Int32) &&& 31).toUInt32).toInt32) &&& (3 : Int32))) + own_p64 (((q1.toUInt32 >>> ((4 : Int32) &&& 31).toUInt32).toInt32) &&& (3 : Int32))) + own_p64 (((q1.toUInt32 >>> ((6 : Int32) &&& 31).toUInt32).toInt32) &&& (3 : Int32)))), .second, .val (.long (((((0 : Int64) + own_p64 (q1 &&& (3 : Int32))) + own_p64 (((q1.toUInt32 >>> ((2 : Int32) &&& 31).toUInt32).toInt32) &&& (3 : Int32))) + own_p64 (((q1.toUInt32 >>> ((4 : Int32) &&& 31).toUInt32).toInt32) &&& (3 : Int32))) + own_p64 (((q1.toUInt32 >>> ((6 : Int32) &&& 31).toUInt32).toInt32) &&& (3 : Int32)))), .second] [(.int (1 : Int32))])) _
  refine XS.goto X673.here hx rfl (pc0 := 108) (pc' := 112) rfl (hb hby at_108) (by decide) (by decide) ?_
  show Steps p.tables e below (T673.setTop (mkF m 112 #[.val (.int q0), .val (.int q1), .val (.ref b660), .val (.long (0 : Int64)), .second, .val (.int (((((0 : Int32) + own_p32 (q1 &&& (3 : Int32))) + own_p32 (((q1.toUInt32 >>> ((2 : Int32) &&& 31).toUInt32).toInt32) &&& (3 : Int32))) + own_p32 (((q1.toUInt32 >>> ((4 : Int32) &&& 31).toUInt32).toInt32) &&& (3 : Int32))) + own_p32 (((q1.toUInt32 >>> ((6 : Int32) &&& 31).toUInt32).toInt32) &&& (3 : Int32)))), .val (.long (((((0 : Int64) + own_p64 (q1 &&& (3 : Int32))) + own_p64 (((q1.toUInt32 >>> ((2 : Int32) &&& 31).toUInt32).toInt32) &&& (3 : Int32))) + own_p64 (((q1.toUInt32 >>> ((4 : Int32) &&& 31).toUInt32).toInt32) &&& (3 : Int32))) + own_p64 (((q1.toUInt32 >>> ((6 : Int32) &&& 31).toUInt32).toInt32) &&& (3 : Int32)))), .second, .val (.long (((((0 : Int64) + own_p64 (q1 &&& (3 : Int32))) + own_p64 (((q1.toUInt32 >>> ((2 : Int32) &&& 31).toUInt32).toInt32) &&& (3 : Int32))) + own_p64 (((q1.toUInt32 >>> ((4 : Int32) &&& 31).toUInt32).toInt32) &&& (3 : Int32))) + own_p64 (((q1.toUInt32 >>> ((6 : Int32) &&& 31).toUInt32).toInt32) &&& (3 : Int32)))), .second] [(.int (1 : Int32))])) _
  exact retN X673 hx (t := .boolean) Bd.returns (by simp) (hb hby at_112) hr
theorem own_eqv {args : Array Value} {first s : State} {o : Option Outcome} {idx : List Nat} {t : Term} {k : Int32} (h : (Cond.eq t (Term.int k)).value args first o s idx = some true) : t.eval args first o idx s = some (.int k) := by
  obtain ⟨x, y, h1, h2, h3, -⟩ := cmp_v (Or.inl h)
  cases h2
  cases x <;> simp [Kin, Value.isRef] at h3
  rename_i z
  simp [Cond.value, h1, Term.eval] at h
  rw [h1, h]
theorem own_len {args : Array Value} {s : State} {t : Term} {k : Int32} {a : Addr} {c : Cell} {ty : FieldType} (h : (Cond.eq (Term.length t) (Term.int k)).value args s none s [] = some true) (et : t.eval args s none [] s = some (.ref a)) (A : Arr s s.heap a c ty) (n : Nat) (hk : k = Int32.ofNat n) (hn : n < 2 ^ 31) : c.slots.size = n := by
  have e := own_eqv h
  obtain ⟨a', c', e1, e2, e3⟩ := Term.length_spec e
  cases et.symm.trans e1
  have e4 := A.fin (Vm.Alike.refl _)
  cases e4.symm.trans e2
  have hsmall : c.slots.size < 2 ^ 31 := by
    by_cases q : c.slots.size < 2 ^ 31
    · exact q
    · simp [Term.eval, et, e4, q] at e
  have e5 : c.slots.size.toInt32 = k := (Value.int.inj e3).symm
  have e6 := len_toInt hsmall
  rw [e5, hk, Int32.toInt_ofNat_of_lt hn] at e6
  omega
set_option maxRecDepth 65536 in
set_option maxHeartbeats 40000000 in
theorem comes_1 {Post : Tables → Env → Array Value → State → Outcome → State → Prop} (hpost : ∀ tb e args s v u, (limb_1_1.after args s (.returned v) u = true ∧ limb_1_2.after args s (.returned v) u = true ∧ True) → Jvm.Pilot.@@N@@.Jvm.D.FramedW s (.returned v) u (Jvm.fieldLocs frame_1_writes args s ++ Jvm.arrayLocs frame_1_arrays args s ++ Jvm.staticLocs frame_1_statics s) 32 3264 → Post tb e args s (.returned v) u) :
    ArmFor flags0 classFile x code maxLocals ret World_1 tables_1 room_1 Calls_1 rest_1 Pre_1 Post := by
  intro l hfl _ _ p e ha hc hk s m args below hf hA hF happ hP
  obtain ⟨hcalls, hrest, hpre⟩ := hP
  obtain ⟨-, -, -, hnamed, -, -, -, hat⟩ := (Spec.applies_iff hf).mp happ
  obtain ⟨hg, hn⟩ := and_e (Cond.before_iff.mp (show (Jvm.Cond.and given_1 narrow_1).before args s = true from hpre))
  obtain ⟨hcount, hg0⟩ := and_e hg
  obtain ⟨ha0, hg1⟩ := and_e hg0
  have ha1 := hg1
  obtain ⟨w0, w1, rfl⟩ : ∃ w0 w1 : Value, args = #[w0, w1] := by
    have hs : args.size = 2 := by simpa [Cond.value, given_1] using hcount
    obtain ⟨L⟩ := args
    match L, hs with
    | [w0, w1], _ => exact ⟨w0, w1, rfl⟩
  have hw := fun d (hd : d ∈ tables_1) => atoms_spec (ws := Jvm.Cond.code x code maxLocals ret :: tables_1) hat d (List.mem_cons_of_mem _ hd)
  obtain ⟨i0, ei0⟩ := is_v ha0
  obtain rfl : w0 = (.int i0) := Option.some.inj ei0
  obtain ⟨i1, ei1⟩ := is_v ha1
  obtain rfl : w1 = (.int i1) := Option.some.inj ei1
  have hfit : Fit s := fun {y c} hc i hi => by
    obtain ⟨ha, rfl⟩ := Array.getElem?_eq_some_iff.mp hc
    have q := List.all_eq_true.mp ((Array.all_eq_true_iff_forall_mem.mp hF) _ (Array.getElem_mem ha)) i (List.mem_range.mpr hi)
    simpa [Array.getElem?_eq_getElem hi] using q
  obtain ⟨hsets, hown0⟩ := atoms_of _ (rest_1_c_eq ▸ (show rest_1_c.before _ s = true from hrest))
  have hq := Cond.before_iff.mp (hsets _ (List.mem_of_getElem? (i := 6) rfl))
  obtain ⟨dce, edce⟩ := arr_v hq
  obtain ⟨cd, Ad⟩ := Arr.start edce hq
  have SD := Sta.start edce (Or.inr ⟨(hw _ (List.mem_of_getElem? (i := 11) rfl)), hsets _ (List.mem_of_getElem? (i := 2) rfl)⟩)
  have hcd := own_len (Cond.before_iff.mp (hsets _ (List.mem_of_getElem? (i := 8) rfl))) edce Ad 0 rfl (by decide)
  have AD : Arv s s.heap dce cd.cls (.object "java/lang/Object") (0 : Int32) [] .null := ⟨cd, Ad, rfl, hcd, by decide, fun k hk => absurd hk (by rw [hcd]; exact Nat.not_lt_zero _), fun k hk => absurd hk (by rw [hcd]; exact Nat.not_lt_zero _)⟩
  obtain ⟨v1, hn⟩ := and_e hn
  obtain ⟨v2, hn⟩ := and_e hn
  obtain ⟨v3, hn⟩ := and_e hn
  obtain ⟨v4, hn⟩ := and_e hn
  obtain ⟨v5, hn⟩ := and_e hn
  obtain ⟨v6, hn⟩ := and_e hn
  obtain ⟨v7, hn⟩ := and_e hn
  obtain ⟨v8, hn⟩ := and_e hn
  obtain ⟨v9, hn⟩ := and_e hn
  obtain ⟨v10, hn⟩ := and_e hn
  obtain ⟨v11, v12⟩ := and_e hn
  obtain ⟨sv, esv⟩ := arr_v v1
  obtain ⟨cv, AV⟩ := Arr.start esv v1
  have EV := Exa.start esv v2
  have hcv := own_len v3 esv AV 3 rfl (by decide)
  have FV := FitC.start hfit AV
  have SV := Sta.start esv (Or.inl (hw _ (List.mem_of_getElem? (i := 51) rfl)))
  obtain ⟨e1, ee1⟩ := exa_v v4
  obtain ⟨e2, ee2⟩ := exa_v v6
  obtain ⟨e3, ee3⟩ := exa_v v8
  have E_e1 := Exa.start ee1 v4
  have E_e2 := Exa.start ee2 v6
  have E_e3 := Exa.start ee3 v8
  have S_e1 := Sta.start ee1 (Or.inr ⟨(hw _ (List.mem_of_getElem? (i := 37) rfl)), (hw _ (List.mem_of_getElem? (i := 48) rfl))⟩)
  have S_e2 := Sta.start ee2 (Or.inr ⟨(hw _ (List.mem_of_getElem? (i := 37) rfl)), (hw _ (List.mem_of_getElem? (i := 49) rfl))⟩)
  have S_e3 := Sta.start ee3 (Or.inr ⟨(hw _ (List.mem_of_getElem? (i := 37) rfl)), (hw _ (List.mem_of_getElem? (i := 50) rfl))⟩)
  have F_e3 := Fld.start ((fld_at ee3).symm.trans (own_eqv v10))
  have F_e1 := Fld.start ((fld_at ee1).symm.trans (own_eqv v11))
  have F_e2 := Fld.start ((fld_at ee2).symm.trans (own_eqv v12))
  obtain ⟨n, o, h1, h2, h3, _, L, rfl, ⟨rfl, N⟩, hq⟩ := rm0 l s _ hw tables_1 i0 i1 dce cd.cls sv cv e1 e2 e3 s.heap s.heap.size (Nat.le_refl _) (Old.start s) SD AD S_e1 E_e1 F_e1 S_e2 E_e2 F_e2 S_e3 E_e3 F_e3 SV AV hcv EV FV p e ha hc hk s m _ below hf ((Spec.applies_iff_loose hf).mp happ).1 ⟨rfl, State.Warmed39.refl s, rfl⟩ trivial
  refine ⟨n, _, h1, h2, h3, hpost _ _ _ _ _ _ ⟨Cond.after_iff.mpr rfl, Cond.after_iff.mpr (eq_i res_at (Term.int_eval (1)) rfl), trivial⟩ ⟨hq.1, hq.2.1, hq.2.2.1, (hq.2.2.2.sift fun y hy => Or.inr (N y hy)).mono (by decide) (by decide)⟩⟩
theorem main_1_1 : Claimed_1_1 := comes_1 fun _ _ _ _ _ _ h hF => ⟨h.1, hF⟩
theorem main_1_2 : Claimed_1_2 := comes_1 fun _ _ _ _ _ _ h hF => ⟨h.2.1, hF⟩
end Jvm.Pilot.@@N@@
namespace Jvm.Pilot.@@N@@
open Jvm Jvm.ClassFile Sem Op Lib Jvm.Free Jvm.Stand Jvm.Pilot.@@N@@.Jvm.D
/-! MADE BY PROGRAM (witnessworld.py) out of the Statement's table words and the real class files: 31 classes; the members and pool entries that the words name. The judged class is class 1, her method 2. -/
namespace start1
open Jvm.ClassFile
def u (s : String) : CpInfo := .utf8 (stringToUtf16 s)
/-- a pool by its gaps: so many unusable entries, then the entry; so many at the end -/
def gap : Nat → List CpInfo → List CpInfo
  | 0, r => r
  | n + 1, r => .unusable :: gap n r
def poolList (es : List (Nat × CpInfo)) (last : Nat) : List CpInfo := es.foldr (fun e r => gap e.1 (e.2 :: r)) (gap last [])
def pool (es : List (Nat × CpInfo)) (last : Nat) : Array CpInfo := ⟨poolList es last⟩
def fileOf (pool : Array CpInfo) (this : Nat) (attrs : Array Attribute := #[]) (ms : Array MethodInfo := #[]) (fl : Nat := 33) (sup : Nat := 0) (ifs : Array Nat := #[]) (fds : Array FieldInfo := #[]) : ClassFile where
  minorVersion := 0
  majorVersion := 65
  constantPool := pool
  accessFlags := fl
  thisClass := this
  superClass := sup
  interfaces := ifs
  fields := fds
  methods := ms
  attributes := attrs
def plain (name : String) (sup : Option ClassId) : Class where
  name := name
  kind := .ordinary
  loader := none
  accessFlags := 33
  super := sup
  interfaces := #[]
  cf := none
  fields := #[]
  methods := #[]
  instanceTypes := #[]
  staticTypes := #[]
  resolved := #[]
  callSites := []
  init := .initialized
  statics := none
  mirror := none

def pool0 : Array CpInfo := pool [(5, u "<init>"), (0, u "()V"), (1, .class_ 10), (1, u "java/lang/Object"), (85, u "clone"), (0, u "()Ljava/lang/Object;")] 26

def k0c0 : Code := { maxStack := 0, maxLocals := 1, code := object_method_1_code, exceptionTable := #[], attributes := #[] }
def k0m0 : Method := { name := "<init>", desc := "()V", sig := { parameters := [], returnType := none }, accessFlags := 1, code := some k0c0 }
def k0m1 : Method := { name := "clone", desc := "()Ljava/lang/Object;", sig := { parameters := [], returnType := some (.object "java/lang/Object") }, accessFlags := 260, code := none }
/-- java/lang/Object -/
def k0 : Class := { plain "java/lang/Object" none with
  accessFlags := 33
  interfaces := #[]
  cf := some (fileOf pool0 8 #[] #[{ accessFlags := 1, nameIndex := 5, descriptorIndex := 6, attributes := #[] }, { accessFlags := 260, nameIndex := 96, descriptorIndex := 97, attributes := #[] }] 33 0 #[] #[])
  fields := #[]
  methods := #[k0m0, k0m1]
  instanceTypes := #[]
  staticTypes := #[]
  resolved := Array.replicate 124 none
  statics := none }

def pool1 : Array CpInfo := pool [(2, .class_ 4), (1, u "java/lang/Object"), (0, u "<init>"), (0, u "()V"), (0, .string 8), (0, u "r"), (0, .string 10), (0, u "s"), (0, .string 12), (0, u "m"), (0, .methodref 14 15), (0, .class_ 16), (0, .nameAndType 17 18), (0, u "com/example/tenon/tenon/Report"), (0, u "error"), (0, u "(Ljava/lang/String;Ljava/lang/String;Ljava/lang/String;)V"), (0, .methodref 14 20), (0, .nameAndType 21 18), (0, u "warning"), (0, .class_ 23), (0, u "com/example/tenon/tenon/Finding"), (0, .fieldref 25 26), (0, .class_ 27), (0, .nameAndType 28 29), (0, u "com/example/tenon/tenon/Finding$Severity"), (0, u "NOTE"), (0, u "Lcom/example/tenon/tenon/Finding$Severity;"), (0, .methodref 22 31), (0, .nameAndType 5 32), (0, u "(Lcom/example/tenon/tenon/Finding$Severity;Ljava/lang/String;Ljava/lang/String;Ljava/lang/String;)V"), (0, .methodref 14 34), (0, .nameAndType 35 36), (0, u "add"), (0, u "(Lcom/example/tenon/tenon/Finding;)V"), (0, .methodref 14 38), (0, .nameAndType 5 39), (0, u "(I)V"), (0, .methodref 14 41), (0, .nameAndType 42 43), (0, u "size"), (0, u "()J"), (0, .methodref 45 46), (0, .class_ 47), (0, .nameAndType 48 49), (0, u "com/example/tenon/tenon/ReportSizePinLaw"), (0, u "put"), (0, u "(Lcom/example/tenon/tenon/Report;I)I"), (3, u "law"), (0, u "(II)Z")] 4

def k1m0 : Method := { name := "<init>", desc := "()V", sig := { parameters := [], returnType := none }, accessFlags := 1, code := none }
def k1c1 : Code := { maxStack := 7, maxLocals := 2, code := method_2_code, exceptionTable := #[], attributes := #[] }
def k1m1 : Method := { name := "put", desc := "(Lcom/example/tenon/tenon/Report;I)I", sig := { parameters := [(.object "com/example/tenon/tenon/Report"), .int], returnType := some .int }, accessFlags := 10, code := some k1c1 }
def k1c2 : Code := { maxStack := 4, maxLocals := 10, code := code, exceptionTable := #[], attributes := #[] }
def k1m2 : Method := { name := "law", desc := "(II)Z", sig := { parameters := [.int, .int], returnType := some .boolean }, accessFlags := 9, code := some k1c2 }
/-- com/example/tenon/tenon/ReportSizePinLaw -/
def k1 : Class := { plain "com/example/tenon/tenon/ReportSizePinLaw" (some 0) with
  accessFlags := 49
  interfaces := #[]
  cf := some (fileOf pool1 45 #[] #[{ accessFlags := 1, nameIndex := 5, descriptorIndex := 6, attributes := #[] }, { accessFlags := 10, nameIndex := 48, descriptorIndex := 49, attributes := #[] }, { accessFlags := 9, nameIndex := 53, descriptorIndex := 54, attributes := #[] }] 49 2 #[] #[])
  fields := #[]
  methods := #[k1m0, k1m1, k1m2]
  instanceTypes := #[]
  staticTypes := #[]
  resolved := Array.replicate 59 none
  statics := none }

def pool2 : Array CpInfo := pool [(5, .class_ 7), (1, u "com/example/tenon/tenon/Report"), (0, u "<init>"), (0, u "(I)V"), (0, .methodref 11 12), (0, .class_ 13), (0, .nameAndType 8 14), (0, u "java/lang/Object"), (0, u "()V"), (0, .class_ 16), (0, u "java/util/ArrayList"), (0, .methodref 15 12), (0, .fieldref 5 19), (0, .nameAndType 20 21), (0, u "findings"), (0, u "Ljava/util/List;"), (0, .methodref 23 24), (0, .class_ 25), (0, .nameAndType 26 27), (0, u "com/example/tenon/tenon/Finding$Severity"), (0, u "values"), (0, u "()[Lcom/example/tenon/tenon/Finding$Severity;"), (0, .fieldref 5 29), (0, .nameAndType 30 31), (0, u "counts"), (0, u "[J"), (0, .fieldref 5 33), (0, .nameAndType 34 35), (0, u "most"), (0, u "I"), (0, .class_ 37), (0, u "com/example/tenon/tenon/Finding"), (0, .fieldref 23 39), (0, .nameAndType 40 41), (0, u "ERROR"), (0, u "Lcom/example/tenon/tenon/Finding$Severity;"), (0, .methodref 36 43), (0, .nameAndType 8 44), (0, u "(Lcom/example/tenon/tenon/Finding$Severity;Ljava/lang/String;Ljava/lang/String;Ljava/lang/String;)V"), (0, .methodref 5 46), (0, .nameAndType 47 48), (0, u "add"), (0, u "(Lcom/example/tenon/tenon/Finding;)V"), (0, .fieldref 23 50), (0, .nameAndType 51 41), (0, u "WARNING"), (0, .methodref 36 53), (0, .nameAndType 54 55), (0, u "severity"), (0, u "()Lcom/example/tenon/tenon/Finding$Severity;"), (0, .methodref 23 57), (0, .nameAndType 58 59), (0, u "ordinal"), (0, u "()I"), (0, .interfaceMethodref 61 62), (0, .class_ 63), (0, .nameAndType 64 59), (0, u "java/util/List"), (0, u "size"), (0, .interfaceMethodref 61 66), (0, .nameAndType 47 67), (0, u "(Ljava/lang/Object;)Z"), (40, u "error"), (0, u "(Ljava/lang/String;Ljava/lang/String;Ljava/lang/String;)V"), (0, u "warning"), (5, u "()J")] 7

def k2m0 : Method := { name := "<init>", desc := "()V", sig := { parameters := [], returnType := none }, accessFlags := 0, code := none }
def k2c1 : Code := { maxStack := 3, maxLocals := 2, code := prog_74_method_2_code, exceptionTable := #[], attributes := #[] }
def k2m1 : Method := { name := "<init>", desc := "(I)V", sig := { parameters := [.int], returnType := none }, accessFlags := 0, code := some k2c1 }
def k2c2 : Code := { maxStack := 7, maxLocals := 4, code := prog_74_method_4_code, exceptionTable := #[], attributes := #[] }
def k2m2 : Method := { name := "error", desc := "(Ljava/lang/String;Ljava/lang/String;Ljava/lang/String;)V", sig := { parameters := [(.object "java/lang/String"), (.object "java/lang/String"), (.object "java/lang/String")], returnType := none }, accessFlags := 0, code := some k2c2 }
def k2c3 : Code := { maxStack := 7, maxLocals := 4, code := prog_74_method_5_code, exceptionTable := #[], attributes := #[] }
def k2m3 : Method := { name := "warning", desc := "(Ljava/lang/String;Ljava/lang/String;Ljava/lang/String;)V", sig := { parameters := [(.object "java/lang/String"), (.object "java/lang/String"), (.object "java/lang/String")], returnType := none }, accessFlags := 0, code := some k2c3 }
def k2c4 : Code := { maxStack := 6, maxLocals := 2, code := prog_74_method_6_code, exceptionTable := #[], attributes := #[] }
def k2m4 : Method := { name := "add", desc := "(Lcom/example/tenon/tenon/Finding;)V", sig := { parameters := [(.object "com/example/tenon/tenon/Finding")], returnType := none }, accessFlags := 0, code := some k2c4 }
def k2c5 : Code := { maxStack := 4, maxLocals := 8, code := prog_74_method_9_code, exceptionTable := #[], attributes := #[] }
def k2m5 : Method := { name := "size", desc := "()J", sig := { parameters := [], returnType := some .long }, accessFlags := 0, code := some k2c5 }
/-- com/example/tenon/tenon/Report -/
def k2 : Class := { plain "com/example/tenon/tenon/Report" (some 0) with
  accessFlags := 48
  interfaces := #[]
  cf := some (fileOf pool2 5 #[] #[{ accessFlags := 0, nameIndex := 8, descriptorIndex := 14, attributes := #[] }, { accessFlags := 0, nameIndex := 8, descriptorIndex := 9, attributes := #[] }, { accessFlags := 0, nameIndex := 108, descriptorIndex := 109, attributes := #[] }, { accessFlags := 0, nameIndex := 110, descriptorIndex := 109, attributes := #[] }, { accessFlags := 0, nameIndex := 47, descriptorIndex := 48, attributes := #[] }, { accessFlags := 0, nameIndex := 64, descriptorIndex := 116, attributes := #[] }] 48 11 #[] #[{ accessFlags := 18, nameIndex := 34, descriptorIndex := 35, attributes := #[] }, { accessFlags := 18, nameIndex := 20, descriptorIndex := 21, attributes := #[] }, { accessFlags := 18, nameIndex := 30, descriptorIndex := 31, attributes := #[] }])
  fields := #[{ name := "most", type := .int, accessFlags := 18, slot := 0, constantValue := 0 }, { name := "findings", type := (.object "java/util/List"), accessFlags := 18, slot := 1, constantValue := 0 }, { name := "counts", type := (.array .long), accessFlags := 18, slot := 2, constantValue := 0 }]
  methods := #[k2m0, k2m1, k2m2, k2m3, k2m4, k2m5]
  instanceTypes := #[.int, (.object "java/util/List"), (.array .long)]
  staticTypes := #[]
  resolved := Array.replicate 124 none
  statics := none }

def pool3 : Array CpInfo := pool [(8, .class_ 10), (1, u "java/lang/Iterable"), (24, .class_ 36), (0, u "java/lang/Object")] 25

/-- java/lang/Iterable -/
def k3 : Class := { plain "java/lang/Iterable" (some 0) with
  accessFlags := 1537
  interfaces := #[]
  cf := some (fileOf pool3 8 #[] #[] 1537 35 #[] #[])
  fields := #[]
  methods := #[]
  instanceTypes := #[]
  staticTypes := #[]
  resolved := Array.replicate 62 none
  statics := none }

def pool4 : Array CpInfo := pool [(10, .class_ 12), (1, u "java/util/Collection"), (47, .class_ 61), (0, u "java/lang/Object"), (0, .class_ 63), (0, u "java/lang/Iterable")] 51

/-- java/util/Collection -/
def k4 : Class := { plain "java/util/Collection" (some 0) with
  accessFlags := 1537
  interfaces := #[3]
  cf := some (fileOf pool4 10 #[] #[] 1537 60 #[62] #[])
  fields := #[]
  methods := #[]
  instanceTypes := #[]
  staticTypes := #[]
  resolved := Array.replicate 115 none
  statics := none }

def pool5 : Array CpInfo := pool [(1, .methodref 2 3), (0, .class_ 4), (0, .nameAndType 5 6), (0, u "java/lang/Object"), (0, u "<init>"), (0, u "()V"), (1, .class_ 10), (1, u "java/util/AbstractCollection"), (66, .class_ 78), (0, u "java/util/Collection")] 81

def k5c0 : Code := { maxStack := 1, maxLocals := 1, code := jdk_22_method_1_code, exceptionTable := #[], attributes := #[] }
def k5m0 : Method := { name := "<init>", desc := "()V", sig := { parameters := [], returnType := none }, accessFlags := 4, code := some k5c0 }
/-- java/util/AbstractCollection -/
def k5 : Class := { plain "java/util/AbstractCollection" (some 0) with
  accessFlags := 1057
  interfaces := #[4]
  cf := some (fileOf pool5 8 #[] #[{ accessFlags := 4, nameIndex := 5, descriptorIndex := 6, attributes := #[] }] 1057 2 #[77] #[])
  fields := #[]
  methods := #[k5m0]
  instanceTypes := #[]
  staticTypes := #[]
  resolved := Array.replicate 160 none
  statics := none }

def pool6 : Array CpInfo := pool [(8, .class_ 10), (1, u "java/util/SequencedCollection"), (15, .class_ 27), (0, u "java/lang/Object"), (0, .class_ 29), (0, u "java/util/Collection")] 27

/-- java/util/SequencedCollection -/
def k6 : Class := { plain "java/util/SequencedCollection" (some 0) with
  accessFlags := 1537
  interfaces := #[4]
  cf := some (fileOf pool6 8 #[] #[] 1537 26 #[28] #[])
  fields := #[]
  methods := #[]
  instanceTypes := #[]
  staticTypes := #[]
  resolved := Array.replicate 57 none
  statics := none }

def pool7 : Array CpInfo := pool [(8, .class_ 10), (1, u "java/util/List"), (49, u "add"), (3, u "(Ljava/lang/Object;)Z"), (14, u "size"), (0, u "()I"), (22, .class_ 104), (0, u "java/lang/Object"), (15, .class_ 121), (0, u "java/util/SequencedCollection")] 129

def k7m0 : Method := { name := "size", desc := "()I", sig := { parameters := [], returnType := some .int }, accessFlags := 1025, code := none }
def k7m1 : Method := { name := "add", desc := "(Ljava/lang/Object;)Z", sig := { parameters := [(.object "java/lang/Object")], returnType := some .boolean }, accessFlags := 1025, code := none }
/-- java/util/List -/
def k7 : Class := { plain "java/util/List" (some 0) with
  accessFlags := 1537
  interfaces := #[6]
  cf := some (fileOf pool7 8 #[] #[{ accessFlags := 1025, nameIndex := 79, descriptorIndex := 80, attributes := #[] }, { accessFlags := 1025, nameIndex := 60, descriptorIndex := 64, attributes := #[] }] 1537 103 #[120] #[])
  fields := #[]
  methods := #[k7m0, k7m1]
  instanceTypes := #[]
  staticTypes := #[]
  resolved := Array.replicate 251 none
  statics := none }

def pool8 : Array CpInfo := pool [(1, .methodref 2 3), (0, .class_ 4), (0, .nameAndType 5 6), (0, u "java/util/AbstractCollection"), (0, u "<init>"), (0, u "()V"), (0, .fieldref 8 9), (0, .class_ 10), (0, .nameAndType 11 12), (0, u "java/util/AbstractList"), (0, u "modCount"), (0, u "I"), (64, .class_ 78), (0, u "java/util/AbstractList$Itr"), (3, .class_ 83), (0, u "java/util/AbstractList$ListItr"), (9, .class_ 94), (0, u "java/util/AbstractList$RandomAccessSubList"), (3, .class_ 99), (0, u "java/util/AbstractList$SubList"), (33, .class_ 134), (0, u "java/util/List"), (73, .class_ 209), (0, u "java/util/AbstractList$SubList$1"), (0, .class_ 211), (0, u "java/util/AbstractList$RandomAccessSpliterator")] 6

def k8c0 : Code := { maxStack := 2, maxLocals := 1, code := jdk_39_method_1_code, exceptionTable := #[], attributes := #[] }
def k8m0 : Method := { name := "<init>", desc := "()V", sig := { parameters := [], returnType := none }, accessFlags := 4, code := some k8c0 }
/-- java/util/AbstractList -/
def k8 : Class := { plain "java/util/AbstractList" (some 5) with
  accessFlags := 1057
  interfaces := #[7]
  cf := some (fileOf pool8 8 #[.nestMembers #[93, 98, 208, 210, 82, 77]] #[{ accessFlags := 4, nameIndex := 5, descriptorIndex := 6, attributes := #[] }] 1057 2 #[133] #[{ accessFlags := 132, nameIndex := 11, descriptorIndex := 12, attributes := #[] }])
  fields := #[{ name := "modCount", type := .int, accessFlags := 132, slot := 0, constantValue := 0 }]
  methods := #[k8m0]
  instanceTypes := #[.int]
  staticTypes := #[]
  resolved := Array.replicate 218 none
  statics := none }

def pool9 : Array CpInfo := pool [(1, .class_ 2), (0, u "java/util/RandomAccess"), (0, .class_ 4), (0, u "java/lang/Object")] 2

/-- java/util/RandomAccess -/
def k9 : Class := { plain "java/util/RandomAccess" (some 0) with
  accessFlags := 1537
  interfaces := #[]
  cf := some (fileOf pool9 1 #[] #[] 1537 3 #[] #[])
  fields := #[]
  methods := #[]
  instanceTypes := #[]
  staticTypes := #[]
  resolved := Array.replicate 7 none
  statics := none }

def pool10 : Array CpInfo := pool [(1, .class_ 2), (0, u "java/lang/Cloneable"), (0, .class_ 4), (0, u "java/lang/Object")] 2

/-- java/lang/Cloneable -/
def k10 : Class := { plain "java/lang/Cloneable" (some 0) with
  accessFlags := 1537
  interfaces := #[]
  cf := some (fileOf pool10 1 #[] #[] 1537 3 #[] #[])
  fields := #[]
  methods := #[]
  instanceTypes := #[]
  staticTypes := #[]
  resolved := Array.replicate 7 none
  statics := none }

def pool11 : Array CpInfo := pool [(1, .class_ 2), (0, u "java/io/Serializable"), (0, .class_ 4), (0, u "java/lang/Object")] 2

/-- java/io/Serializable -/
def k11 : Class := { plain "java/io/Serializable" (some 0) with
  accessFlags := 1537
  interfaces := #[]
  cf := some (fileOf pool11 1 #[] #[] 1537 3 #[] #[])
  fields := #[]
  methods := #[]
  instanceTypes := #[]
  staticTypes := #[]
  resolved := Array.replicate 7 none
  statics := none }

def pool12 : Array CpInfo := pool [(1, .methodref 2 3), (0, .class_ 4), (0, .nameAndType 5 6), (0, u "java/util/AbstractList"), (0, u "<init>"), (0, u "()V"), (0, .class_ 8), (0, u "java/lang/Object"), (0, .fieldref 10 11), (0, .class_ 12), (0, .nameAndType 13 14), (0, u "java/util/ArrayList"), (0, u "elementData"), (0, u "[Ljava/lang/Object;"), (2, u "EMPTY_ELEMENTDATA"), (21, .fieldref 10 40), (0, .nameAndType 41 14), (0, u "DEFAULTCAPACITY_EMPTY_ELEMENTDATA"), (5, u "()[Ljava/lang/Object;"), (0, .fieldref 10 49), (0, .nameAndType 50 51), (0, u "size"), (0, u "I"), (11, .fieldref 10 64), (0, .nameAndType 65 51), (0, u "modCount"), (3, .methodref 10 70), (0, .nameAndType 71 72), (0, u "grow"), (0, u "(I)[Ljava/lang/Object;"), (6, .methodref 80 81), (0, .class_ 82), (0, .nameAndType 83 84), (0, u "java/lang/Math"), (0, u "max"), (0, u "(II)I"), (11, u "(Ljava/lang/Object;)Z"), (32, .methodref 10 130), (0, .nameAndType 71 47), (0, .methodref 10 132), (0, .nameAndType 133 134), (0, u "add"), (0, u "(Ljava/lang/Object;[Ljava/lang/Object;I)V"), (13, .class_ 149), (0, u "java/util/List"), (36, u "()I"), (75, .class_ 263), (0, u "java/util/ArrayList$ListItr"), (3, .class_ 268), (0, u "java/util/ArrayList$Itr"), (7, .class_ 277), (0, u "java/util/ArrayList$SubList"), (12, .class_ 291), (0, u "java/util/ArrayList$ArrayListSpliterator"), (37, .class_ 330), (0, u "java/util/RandomAccess"), (0, .class_ 332), (0, u "java/lang/Cloneable"), (0, .class_ 334), (0, u "java/io/Serializable"), (0, u "serialVersionUID"), (0, u "J"), (3, u "DEFAULT_CAPACITY"), (159, .class_ 501), (0, u "java/util/ArrayList$SubList$2"), (0, .class_ 503), (0, u "java/util/ArrayList$SubList$1")] 5

def k12c0 : Code := { maxStack := 2, maxLocals := 1, code := jdk_38_method_2_code, exceptionTable := #[], attributes := #[] }
def k12m0 : Method := { name := "<init>", desc := "()V", sig := { parameters := [], returnType := none }, accessFlags := 1, code := some k12c0 }
def k12c1 : Code := { maxStack := 4, maxLocals := 4, code := jdk_38_method_6_code, exceptionTable := #[], attributes := #[] }
def k12m1 : Method := { name := "grow", desc := "(I)[Ljava/lang/Object;", sig := { parameters := [.int], returnType := some (.array (.object "java/lang/Object")) }, accessFlags := 2, code := some k12c1 }
def k12c2 : Code := { maxStack := 3, maxLocals := 1, code := jdk_38_method_7_code, exceptionTable := #[], attributes := #[] }
def k12m2 : Method := { name := "grow", desc := "()[Ljava/lang/Object;", sig := { parameters := [], returnType := some (.array (.object "java/lang/Object")) }, accessFlags := 2, code := some k12c2 }
def k12c3 : Code := { maxStack := 1, maxLocals := 1, code := jdk_38_method_8_code, exceptionTable := #[], attributes := #[] }
def k12m3 : Method := { name := "size", desc := "()I", sig := { parameters := [], returnType := some .int }, accessFlags := 1, code := some k12c3 }
def k12c4 : Code := { maxStack := 3, maxLocals := 4, code := jdk_38_method_24_code, exceptionTable := #[], attributes := #[] }
def k12m4 : Method := { name := "add", desc := "(Ljava/lang/Object;[Ljava/lang/Object;I)V", sig := { parameters := [(.object "java/lang/Object"), (.array (.object "java/lang/Object")), .int], returnType := none }, accessFlags := 2, code := some k12c4 }
def k12c5 : Code := { maxStack := 4, maxLocals := 2, code := jdk_38_method_25_code, exceptionTable := #[], attributes := #[] }
def k12m5 : Method := { name := "add", desc := "(Ljava/lang/Object;)Z", sig := { parameters := [(.object "java/lang/Object")], returnType := some .boolean }, accessFlags := 1, code := some k12c5 }
/-- java/util/ArrayList -/
def k12 : Class := { plain "java/util/ArrayList" (some 8) with
  accessFlags := 33
  interfaces := #[7, 9, 10, 11]
  cf := some (fileOf pool12 10 #[.nestMembers #[290, 276, 500, 502, 262, 267]] #[{ accessFlags := 1, nameIndex := 5, descriptorIndex := 6, attributes := #[] }, { accessFlags := 2, nameIndex := 71, descriptorIndex := 72, attributes := #[] }, { accessFlags := 2, nameIndex := 71, descriptorIndex := 47, attributes := #[] }, { accessFlags := 1, nameIndex := 50, descriptorIndex := 186, attributes := #[] }, { accessFlags := 2, nameIndex := 133, descriptorIndex := 134, attributes := #[] }, { accessFlags := 1, nameIndex := 133, descriptorIndex := 96, attributes := #[] }] 33 2 #[148, 329, 331, 333] #[{ accessFlags := 26, nameIndex := 335, descriptorIndex := 336, attributes := #[] }, { accessFlags := 26, nameIndex := 340, descriptorIndex := 51, attributes := #[] }, { accessFlags := 26, nameIndex := 17, descriptorIndex := 14, attributes := #[] }, { accessFlags := 26, nameIndex := 41, descriptorIndex := 14, attributes := #[] }, { accessFlags := 128, nameIndex := 13, descriptorIndex := 14, attributes := #[] }, { accessFlags := 2, nameIndex := 50, descriptorIndex := 51, attributes := #[] }])
  fields := #[{ name := "serialVersionUID", type := .long, accessFlags := 26, slot := 0, constantValue := 0 }, { name := "DEFAULT_CAPACITY", type := .int, accessFlags := 26, slot := 1, constantValue := 0 }, { name := "EMPTY_ELEMENTDATA", type := (.array (.object "java/lang/Object")), accessFlags := 26, slot := 2, constantValue := 0 }, { name := "DEFAULTCAPACITY_EMPTY_ELEMENTDATA", type := (.array (.object "java/lang/Object")), accessFlags := 26, slot := 3, constantValue := 0 }, { name := "elementData", type := (.array (.object "java/lang/Object")), accessFlags := 128, slot := 1, constantValue := 0 }, { name := "size", type := .int, accessFlags := 2, slot := 2, constantValue := 0 }]
  methods := #[k12m0, k12m1, k12m2, k12m3, k12m4, k12m5]
  instanceTypes := #[.int, (.array (.object "java/lang/Object")), .int]
  staticTypes := #[.long, .int, (.array (.object "java/lang/Object")), (.array (.object "java/lang/Object"))]
  resolved := Array.replicate 509 none
  statics := some 0 }

def pool13 : Array CpInfo := pool [(1, .class_ 2), (0, u "java/lang/constant/Constable"), (0, .class_ 4), (0, u "java/lang/Object")] 6

/-- java/lang/constant/Constable -/
def k13 : Class := { plain "java/lang/constant/Constable" (some 0) with
  accessFlags := 1537
  interfaces := #[]
  cf := some (fileOf pool13 1 #[] #[] 1537 3 #[] #[])
  fields := #[]
  methods := #[]
  instanceTypes := #[]
  staticTypes := #[]
  resolved := Array.replicate 11 none
  statics := none }

def pool14 : Array CpInfo := pool [(1, .class_ 2), (0, u "java/lang/Comparable"), (0, .class_ 4), (0, u "java/lang/Object")] 7

/-- java/lang/Comparable -/
def k14 : Class := { plain "java/lang/Comparable" (some 0) with
  accessFlags := 1537
  interfaces := #[]
  cf := some (fileOf pool14 1 #[] #[] 1537 3 #[] #[])
  fields := #[]
  methods := #[]
  instanceTypes := #[]
  staticTypes := #[]
  resolved := Array.replicate 12 none
  statics := none }

def pool15 : Array CpInfo := pool [(2, .class_ 4), (1, u "java/lang/Enum"), (0, u "name"), (0, u "Ljava/lang/String;"), (0, .fieldref 2 8), (0, .nameAndType 9 10), (0, u "ordinal"), (0, u "I"), (1, .class_ 14), (1, u "java/lang/Object"), (4, u "hash"), (86, .class_ 108), (1, u "java/lang/Enum$EnumDesc"), (2, .class_ 112), (0, u "java/lang/constant/Constable"), (0, .class_ 114), (0, u "java/lang/Comparable"), (0, .class_ 116), (0, u "java/io/Serializable"), (9, u "()I")] 77

def k15c0 : Code := { maxStack := 1, maxLocals := 1, code := jdk_37_method_2_code, exceptionTable := #[], attributes := #[] }
def k15m0 : Method := { name := "ordinal", desc := "()I", sig := { parameters := [], returnType := some .int }, accessFlags := 17, code := some k15c0 }
/-- java/lang/Enum -/
def k15 : Class := { plain "java/lang/Enum" (some 0) with
  accessFlags := 1057
  interfaces := #[13, 14, 11]
  cf := some (fileOf pool15 2 #[.nestMembers #[106]] #[{ accessFlags := 17, nameIndex := 9, descriptorIndex := 126, attributes := #[] }] 1057 12 #[111, 113, 115] #[{ accessFlags := 18, nameIndex := 5, descriptorIndex := 6, attributes := #[] }, { accessFlags := 18, nameIndex := 9, descriptorIndex := 10, attributes := #[] }, { accessFlags := 2, nameIndex := 19, descriptorIndex := 10, attributes := #[] }])
  fields := #[{ name := "name", type := (.object "java/lang/String"), accessFlags := 18, slot := 0, constantValue := 0 }, { name := "ordinal", type := .int, accessFlags := 18, slot := 1, constantValue := 0 }, { name := "hash", type := .int, accessFlags := 2, slot := 2, constantValue := 0 }]
  methods := #[k15m0]
  instanceTypes := #[(.object "java/lang/String"), .int, .int]
  staticTypes := #[]
  resolved := Array.replicate 204 none
  statics := none }

def pool16 : Array CpInfo := pool [(1, .class_ 2), (0, u "com/example/tenon/tenon/Finding$Severity"), (2, u "ERROR"), (0, u "Lcom/example/tenon/tenon/Finding$Severity;"), (2, u "WARNING"), (2, u "NOTE"), (0, .fieldref 1 14), (0, .nameAndType 15 16), (0, u "$VALUES"), (0, u "[Lcom/example/tenon/tenon/Finding$Severity;"), (0, .methodref 18 19), (0, .class_ 16), (0, .nameAndType 20 21), (0, u "clone"), (0, u "()Ljava/lang/Object;"), (1, .class_ 25), (1, u "java/lang/Enum"), (13, u "()[Lcom/example/tenon/tenon/Finding$Severity;"), (0, u "values"), (11, .class_ 53), (0, u "com/example/tenon/tenon/Finding")] 2

def k16c0 : Code := { maxStack := 1, maxLocals := 0, code := prog_23_method_1_code, exceptionTable := #[], attributes := #[] }
def k16m0 : Method := { name := "values", desc := "()[Lcom/example/tenon/tenon/Finding$Severity;", sig := { parameters := [], returnType := some (.array (.object "com/example/tenon/tenon/Finding$Severity")) }, accessFlags := 9, code := some k16c0 }
/-- com/example/tenon/tenon/Finding$Severity -/
def k16 : Class := { plain "com/example/tenon/tenon/Finding$Severity" (some 15) with
  accessFlags := 16432
  interfaces := #[]
  cf := some (fileOf pool16 1 #[.nestHost 52] #[{ accessFlags := 9, nameIndex := 40, descriptorIndex := 39, attributes := #[] }] 16432 23 #[] #[{ accessFlags := 16409, nameIndex := 5, descriptorIndex := 6, attributes := #[] }, { accessFlags := 16409, nameIndex := 9, descriptorIndex := 6, attributes := #[] }, { accessFlags := 16409, nameIndex := 12, descriptorIndex := 6, attributes := #[] }, { accessFlags := 4122, nameIndex := 15, descriptorIndex := 16, attributes := #[] }])
  fields := #[{ name := "ERROR", type := (.object "com/example/tenon/tenon/Finding$Severity"), accessFlags := 16409, slot := 0, constantValue := 0 }, { name := "WARNING", type := (.object "com/example/tenon/tenon/Finding$Severity"), accessFlags := 16409, slot := 1, constantValue := 0 }, { name := "NOTE", type := (.object "com/example/tenon/tenon/Finding$Severity"), accessFlags := 16409, slot := 2, constantValue := 0 }, { name := "$VALUES", type := (.array (.object "com/example/tenon/tenon/Finding$Severity")), accessFlags := 4122, slot := 3, constantValue := 0 }]
  methods := #[k16m0]
  instanceTypes := #[(.object "java/lang/String"), .int, .int]
  staticTypes := #[(.object "com/example/tenon/tenon/Finding$Severity"), (.object "com/example/tenon/tenon/Finding$Severity"), (.object "com/example/tenon/tenon/Finding$Severity"), (.array (.object "com/example/tenon/tenon/Finding$Severity"))]
  resolved := Array.replicate 56 none
  statics := some 1 }

def pool17 : Array CpInfo := pool [(1, .methodref 2 3), (0, .class_ 4), (0, .nameAndType 5 6), (0, u "java/lang/Object"), (0, u "<init>"), (0, u "()V"), (0, .class_ 8), (0, u "java/lang/Record")] 13

def k17c0 : Code := { maxStack := 1, maxLocals := 1, code := jdk_30_method_1_code, exceptionTable := #[], attributes := #[] }
def k17m0 : Method := { name := "<init>", desc := "()V", sig := { parameters := [], returnType := none }, accessFlags := 4, code := some k17c0 }
/-- java/lang/Record -/
def k17 : Class := { plain "java/lang/Record" (some 0) with
  accessFlags := 1057
  interfaces := #[]
  cf := some (fileOf pool17 7 #[] #[{ accessFlags := 4, nameIndex := 5, descriptorIndex := 6, attributes := #[] }] 1057 2 #[] #[])
  fields := #[]
  methods := #[k17m0]
  instanceTypes := #[]
  staticTypes := #[]
  resolved := Array.replicate 22 none
  statics := none }

def pool18 : Array CpInfo := pool [(1, .methodref 2 3), (0, .class_ 4), (0, .nameAndType 5 6), (0, u "java/lang/Record"), (0, u "<init>"), (0, u "()V"), (0, .fieldref 8 9), (0, .class_ 10), (0, .nameAndType 11 12), (0, u "com/example/tenon/tenon/Finding"), (0, u "severity"), (0, u "Lcom/example/tenon/tenon/Finding$Severity;"), (0, .fieldref 8 14), (0, .nameAndType 15 16), (0, u "rule"), (0, u "Ljava/lang/String;"), (0, .fieldref 8 18), (0, .nameAndType 19 16), (0, u "subject"), (0, .fieldref 8 21), (0, .nameAndType 22 16), (0, u "message"), (114, u "MAX_QUOTED"), (0, u "I"), (2, u "LINE_SEPARATOR"), (0, u "C"), (1, u "PARAGRAPH_SEPARATOR"), (1, u "(Lcom/example/tenon/tenon/Finding$Severity;Ljava/lang/String;Ljava/lang/String;Ljava/lang/String;)V"), (8, u "()Lcom/example/tenon/tenon/Finding$Severity;"), (3, .class_ 160), (0, u "com/example/tenon/tenon/Finding$Severity")] 40

def k18c0 : Code := { maxStack := 2, maxLocals := 5, code := prog_22_method_1_code, exceptionTable := #[], attributes := #[] }
def k18m0 : Method := { name := "<init>", desc := "(Lcom/example/tenon/tenon/Finding$Severity;Ljava/lang/String;Ljava/lang/String;Ljava/lang/String;)V", sig := { parameters := [(.object "com/example/tenon/tenon/Finding$Severity"), (.object "java/lang/String"), (.object "java/lang/String"), (.object "java/lang/String")], returnType := none }, accessFlags := 0, code := some k18c0 }
def k18c1 : Code := { maxStack := 1, maxLocals := 1, code := prog_22_method_11_code, exceptionTable := #[], attributes := #[] }
def k18m1 : Method := { name := "severity", desc := "()Lcom/example/tenon/tenon/Finding$Severity;", sig := { parameters := [], returnType := some (.object "com/example/tenon/tenon/Finding$Severity") }, accessFlags := 1, code := some k18c1 }
/-- com/example/tenon/tenon/Finding -/
def k18 : Class := { plain "com/example/tenon/tenon/Finding" (some 17) with
  accessFlags := 48
  interfaces := #[]
  cf := some (fileOf pool18 8 #[.nestMembers #[159]] #[{ accessFlags := 0, nameIndex := 5, descriptorIndex := 146, attributes := #[] }, { accessFlags := 1, nameIndex := 11, descriptorIndex := 155, attributes := #[] }] 48 2 #[] #[{ accessFlags := 18, nameIndex := 11, descriptorIndex := 12, attributes := #[] }, { accessFlags := 18, nameIndex := 15, descriptorIndex := 16, attributes := #[] }, { accessFlags := 18, nameIndex := 19, descriptorIndex := 16, attributes := #[] }, { accessFlags := 18, nameIndex := 22, descriptorIndex := 16, attributes := #[] }, { accessFlags := 26, nameIndex := 137, descriptorIndex := 138, attributes := #[] }, { accessFlags := 26, nameIndex := 141, descriptorIndex := 142, attributes := #[] }, { accessFlags := 26, nameIndex := 144, descriptorIndex := 142, attributes := #[] }])
  fields := #[{ name := "severity", type := (.object "com/example/tenon/tenon/Finding$Severity"), accessFlags := 18, slot := 0, constantValue := 0 }, { name := "rule", type := (.object "java/lang/String"), accessFlags := 18, slot := 1, constantValue := 0 }, { name := "subject", type := (.object "java/lang/String"), accessFlags := 18, slot := 2, constantValue := 0 }, { name := "message", type := (.object "java/lang/String"), accessFlags := 18, slot := 3, constantValue := 0 }, { name := "MAX_QUOTED", type := .int, accessFlags := 26, slot := 0, constantValue := 0 }, { name := "LINE_SEPARATOR", type := .char, accessFlags := 26, slot := 1, constantValue := 0 }, { name := "PARAGRAPH_SEPARATOR", type := .char, accessFlags := 26, slot := 2, constantValue := 0 }]
  methods := #[k18m0, k18m1]
  instanceTypes := #[(.object "com/example/tenon/tenon/Finding$Severity"), (.object "java/lang/String"), (.object "java/lang/String"), (.object "java/lang/String")]
  staticTypes := #[.int, .char, .char]
  resolved := Array.replicate 201 none
  statics := none }

def pool19 : Array CpInfo := pool [(2, .class_ 4), (1, u "java/lang/CharSequence"), (42, .class_ 48), (0, u "java/lang/CharSequence$1CodePointIterator"), (10, .class_ 60), (0, u "java/lang/CharSequence$1CharIterator"), (5, .class_ 67), (0, u "java/lang/Object")] 63

/-- java/lang/CharSequence -/
def k19 : Class := { plain "java/lang/CharSequence" (some 0) with
  accessFlags := 1537
  interfaces := #[]
  cf := some (fileOf pool19 2 #[.nestMembers #[47, 59]] #[] 1537 66 #[] #[])
  fields := #[]
  methods := #[]
  instanceTypes := #[]
  staticTypes := #[]
  resolved := Array.replicate 131 none
  statics := none }

def pool20 : Array CpInfo := pool [(1, .class_ 2), (0, u "java/lang/constant/ConstantDesc"), (0, .class_ 4), (0, u "java/lang/Object")] 32

/-- java/lang/constant/ConstantDesc -/
def k20 : Class := { plain "java/lang/constant/ConstantDesc" (some 0) with
  accessFlags := 1537
  interfaces := #[]
  cf := some (fileOf pool20 1 #[] #[] 1537 3 #[] #[])
  fields := #[]
  methods := #[]
  instanceTypes := #[]
  staticTypes := #[]
  resolved := Array.replicate 37 none
  statics := none }

def pool21 : Array CpInfo := pool [(2, .class_ 4), (1, u "java/lang/Object"), (0, u "<init>"), (0, u "()V"), (3, .class_ 12), (1, u "java/lang/String"), (0, u "value"), (0, u "[B"), (2, u "coder"), (0, u "B"), (2, u "hash"), (0, u "I"), (2, u "hashIsZero"), (0, u "Z"), (13, u "COMPACT_STRINGS"), (534, .class_ 576), (0, u "java/lang/CharSequence"), (22, u "CASE_INSENSITIVE_ORDER"), (0, u "Ljava/util/Comparator;"), (500, u "serialPersistentFields"), (0, u "[Ljava/io/ObjectStreamField;"), (0, .class_ 1104), (0, u "java/lang/String$CaseInsensitiveComparator"), (1, .class_ 1107), (0, u "java/io/Serializable"), (0, .class_ 1109), (0, u "java/lang/Comparable"), (0, .class_ 1111), (0, u "java/lang/constant/Constable"), (0, .class_ 1113), (0, u "java/lang/constant/ConstantDesc"), (2, u "serialVersionUID"), (0, u "J"), (3, u "REPL"), (0, u "C"), (2, u "LATIN1"), (1, u "UTF16")] 323

def k21m0 : Method := { name := "<init>", desc := "()V", sig := { parameters := [], returnType := none }, accessFlags := 1, code := none }
/-- java/lang/String -/
def k21 : Class := { plain "java/lang/String" (some 0) with
  accessFlags := 49
  interfaces := #[11, 14, 19, 13, 20]
  cf := some (fileOf pool21 10 #[.nestMembers #[1103]] #[{ accessFlags := 1, nameIndex := 5, descriptorIndex := 6, attributes := #[] }] 49 2 #[1106, 1108, 575, 1110, 1112] #[{ accessFlags := 18, nameIndex := 13, descriptorIndex := 14, attributes := #[] }, { accessFlags := 18, nameIndex := 17, descriptorIndex := 18, attributes := #[] }, { accessFlags := 2, nameIndex := 21, descriptorIndex := 22, attributes := #[] }, { accessFlags := 2, nameIndex := 25, descriptorIndex := 26, attributes := #[] }, { accessFlags := 26, nameIndex := 1116, descriptorIndex := 1117, attributes := #[] }, { accessFlags := 24, nameIndex := 40, descriptorIndex := 26, attributes := #[] }, { accessFlags := 26, nameIndex := 1101, descriptorIndex := 1102, attributes := #[] }, { accessFlags := 26, nameIndex := 1121, descriptorIndex := 1122, attributes := #[] }, { accessFlags := 25, nameIndex := 599, descriptorIndex := 600, attributes := #[] }, { accessFlags := 24, nameIndex := 1125, descriptorIndex := 18, attributes := #[] }, { accessFlags := 24, nameIndex := 1127, descriptorIndex := 18, attributes := #[] }])
  fields := #[{ name := "value", type := (.array .byte), accessFlags := 18, slot := 0, constantValue := 0 }, { name := "coder", type := .byte, accessFlags := 18, slot := 1, constantValue := 0 }, { name := "hash", type := .int, accessFlags := 2, slot := 2, constantValue := 0 }, { name := "hashIsZero", type := .boolean, accessFlags := 2, slot := 3, constantValue := 0 }, { name := "serialVersionUID", type := .long, accessFlags := 26, slot := 0, constantValue := 0 }, { name := "COMPACT_STRINGS", type := .boolean, accessFlags := 24, slot := 1, constantValue := 0 }, { name := "serialPersistentFields", type := (.array (.object "java/io/ObjectStreamField")), accessFlags := 26, slot := 2, constantValue := 0 }, { name := "REPL", type := .char, accessFlags := 26, slot := 3, constantValue := 0 }, { name := "CASE_INSENSITIVE_ORDER", type := (.object "java/util/Comparator"), accessFlags := 25, slot := 4, constantValue := 0 }, { name := "LATIN1", type := .byte, accessFlags := 24, slot := 5, constantValue := 0 }, { name := "UTF16", type := .byte, accessFlags := 24, slot := 6, constantValue := 0 }]
  methods := #[k21m0]
  instanceTypes := #[(.array .byte), .byte, .int, .boolean]
  staticTypes := #[.long, .boolean, (.array (.object "java/io/ObjectStreamField")), .char, (.object "java/util/Comparator"), .byte, .byte]
  resolved := Array.replicate 1451 none
  statics := none }

def pool22 : Array CpInfo := pool [(1, .class_ 2), (0, u "java/lang/Math"), (1, .class_ 6), (1, u "java/lang/Object"), (0, u "<init>"), (0, u "()V"), (89, .class_ 100), (1, u "java/lang/Math$RandomNumberGeneratorHolder"), (71, u "negativeZeroFloatBits"), (0, u "J"), (2, u "negativeZeroDoubleBits"), (21, u "max"), (46, u "$assertionsDisabled"), (0, u "Z"), (88, u "(II)I"), (2, u "twoToTheDoubleScaleDown"), (0, u "D"), (4, u "twoToTheDoubleScaleUp"), (9, u "E"), (3, u "PI"), (2, u "TAU"), (2, u "DEGREES_TO_RADIANS"), (0, u "RADIANS_TO_DEGREES")] 94

def k22m0 : Method := { name := "<init>", desc := "()V", sig := { parameters := [], returnType := none }, accessFlags := 2, code := none }
def k22c1 : Code := { maxStack := 2, maxLocals := 2, code := jdk_29_method_65_code, exceptionTable := #[], attributes := #[] }
def k22m1 : Method := { name := "max", desc := "(II)I", sig := { parameters := [.int, .int], returnType := some .int }, accessFlags := 9, code := some k22c1 }
/-- java/lang/Math -/
def k22 : Class := { plain "java/lang/Math" (some 0) with
  accessFlags := 49
  interfaces := #[]
  cf := some (fileOf pool22 1 #[.nestMembers #[98]] #[{ accessFlags := 2, nameIndex := 7, descriptorIndex := 8, attributes := #[] }, { accessFlags := 9, nameIndex := 198, descriptorIndex := 335, attributes := #[] }] 49 4 #[] #[{ accessFlags := 25, nameIndex := 354, descriptorIndex := 339, attributes := #[] }, { accessFlags := 25, nameIndex := 358, descriptorIndex := 339, attributes := #[] }, { accessFlags := 25, nameIndex := 361, descriptorIndex := 339, attributes := #[] }, { accessFlags := 26, nameIndex := 364, descriptorIndex := 339, attributes := #[] }, { accessFlags := 26, nameIndex := 365, descriptorIndex := 339, attributes := #[] }, { accessFlags := 26, nameIndex := 172, descriptorIndex := 173, attributes := #[] }, { accessFlags := 26, nameIndex := 176, descriptorIndex := 173, attributes := #[] }, { accessFlags := 8, nameIndex := 344, descriptorIndex := 339, attributes := #[] }, { accessFlags := 8, nameIndex := 338, descriptorIndex := 339, attributes := #[] }, { accessFlags := 4120, nameIndex := 245, descriptorIndex := 246, attributes := #[] }])
  fields := #[{ name := "E", type := .double, accessFlags := 25, slot := 0, constantValue := 0 }, { name := "PI", type := .double, accessFlags := 25, slot := 1, constantValue := 0 }, { name := "TAU", type := .double, accessFlags := 25, slot := 2, constantValue := 0 }, { name := "DEGREES_TO_RADIANS", type := .double, accessFlags := 26, slot := 3, constantValue := 0 }, { name := "RADIANS_TO_DEGREES", type := .double, accessFlags := 26, slot := 4, constantValue := 0 }, { name := "negativeZeroFloatBits", type := .long, accessFlags := 26, slot := 5, constantValue := 0 }, { name := "negativeZeroDoubleBits", type := .long, accessFlags := 26, slot := 6, constantValue := 0 }, { name := "twoToTheDoubleScaleUp", type := .double, accessFlags := 8, slot := 7, constantValue := 0 }, { name := "twoToTheDoubleScaleDown", type := .double, accessFlags := 8, slot := 8, constantValue := 0 }, { name := "$assertionsDisabled", type := .boolean, accessFlags := 4120, slot := 9, constantValue := 0 }]
  methods := #[k22m0, k22m1]
  instanceTypes := #[]
  staticTypes := #[.double, .double, .double, .double, .double, .long, .long, .double, .double, .boolean]
  resolved := Array.replicate 460 none
  statics := none }

/-- the primitive byte -/
def k23 : Class := { plain "byte" none with kind := .primitive 'B', accessFlags := 0x411 }
/-- [B -/
def k24 : Class := { plain "[B" (some 0) with kind := .array 23 .byte, interfaces := #[10, 11], accessFlags := 1041 }

/-- the primitive int -/
def k25 : Class := { plain "int" none with kind := .primitive 'I', accessFlags := 0x411 }
/-- [I -/
def k26 : Class := { plain "[I" (some 0) with kind := .array 25 .int, interfaces := #[10, 11], accessFlags := 1041 }

/-- the primitive long -/
def k27 : Class := { plain "long" none with kind := .primitive 'J', accessFlags := 0x411 }
/-- [J -/
def k28 : Class := { plain "[J" (some 0) with kind := .array 27 .long, interfaces := #[10, 11], accessFlags := 1041 }

/-- [Lcom/example/tenon/tenon/Finding$Severity; -/
def k29 : Class := { plain "[Lcom/example/tenon/tenon/Finding$Severity;" (some 0) with kind := .array 16 (.object "com/example/tenon/tenon/Finding$Severity"), interfaces := #[10, 11], accessFlags := 1041 }

/-- [Ljava/lang/Object; -/
def k30 : Class := { plain "[Ljava/lang/Object;" (some 0) with kind := .array 0 (.object "java/lang/Object"), interfaces := #[10, 11], accessFlags := 1041 }

def heap : Heap := #[{ cls := 12, slots := #[.long 0, .int 0, .ref 6, .ref 7], vm := .statics 12 },
  { cls := 16, slots := #[.ref 3, .ref 4, .ref 5, .ref 2], vm := .statics 16 },
  { cls := 29, slots := #[.ref 3, .ref 4, .ref 5], vm := .none },
  { cls := 16, slots := #[.null, .int 0, .int 0], vm := .none },
  { cls := 16, slots := #[.null, .int 1, .int 0], vm := .none },
  { cls := 16, slots := #[.null, .int 2, .int 0], vm := .none },
  { cls := 30, slots := #[], vm := .none },
  { cls := 30, slots := #[], vm := .none }]
def classes : Array Class := #[k0, k1, k2, k3, k4, k5, k6, k7, k8, k9, k10, k11, k12, k13, k14, k15, k16, k17, k18, k19, k20, k21, k22, k23, k24, k25, k26, k27, k28, k29, k30]
def interned : List (Array UInt16 × Addr) := []
def slotsUsed : Nat := 20
def theMethod : MethodId := ⟨1, 2⟩
def args0 : Array Value := #[.int 3, .int 27]
def aboutOver (below : List Frame) : State where
  vm := { classes := classes, interned := interned.toArray }
  heap := heap
  slotsUsed := slotsUsed
  threads := #[{ frames := .invoking theMethod args0 :: below }]
def below0 : List Frame := [.native { method := ⟨0, 0⟩, args := #[] }]
def about1 : State := aboutOver below0
def p0 : Program := .bare "" "" ""
def e0 : Env := launch0.env 0 0 0
theorem w_frames : about1.frames = Frame.invoking theMethod args0 :: below0 := rfl
set_option maxRecDepth 65536 in
theorem w_args : argsFit about1.vm theMethod args0 = true := by decide +kernel
set_option maxRecDepth 65536 in
theorem w_heap : heapFits about1 = true := by decide +kernel
set_option maxRecDepth 65536 in
theorem w_runnable : about1.curStatus? = some .runnable := by decide +kernel
set_option maxRecDepth 65536 in
theorem w_alone : about1.alone = true := by decide +kernel
set_option maxRecDepth 65536 in
theorem w_named : about1.methodNamed? x = some theMethod := by decide +kernel
set_option maxRecDepth 65536 in
theorem w_hears : about1.hears theMethod below0 = true := by decide +kernel
set_option maxRecDepth 65536 in
theorem w_ripe : about1.ripe theMethod args0 below0 = true := by decide +kernel
theorem w_running : about1.status = .running := rfl
set_option maxRecDepth 65536 in
theorem w_room : about1.hasRoom e0.platform room_1 = true :=
  launch0.hasRoom_least _ room_1 (by decide +kernel) (by decide +kernel) (by decide +kernel) (by decide +kernel) (by decide +kernel) (by decide +kernel)
theorem allAtoms_all (ts : List Jvm.Cond) (a : Array Jvm.Value) (st : Jvm.State) : (allAtoms ts).before a st = ts.all (fun c => c.before a st) := by
  induction ts with
  | nil => rfl
  | cons c t ih =>
    show (Jvm.Cond.and c (allAtoms t)).before a st = _
    rw [Jvm.Cond.before_and, ih, List.all_cons]
def words1 : List Jvm.Cond := Jvm.Cond.code x code maxLocals ret :: tables_1
/-- a 'code' word, met by the world's own term for the bytes: nothing is compared byte by byte -/
theorem code_word {y : MethodName} {bytes : ByteArray} {mx : Nat} {rt : Option FieldType} {a : Array Value} {s : State} {m : MethodId} {meth : Method} {c : Code} (h1 : s.methodNamed? y = some m) (h2 : s.vm.method? m = some meth) (h3 : meth.code = some c) (h4 : c.code = bytes)
    (h5 : (c.maxLocals == mx && c.exceptionTable.isEmpty && decide (c.maxStack ≤ mostOperands) && decide (meth.sig.returnType = rt) && !meth.locks && decide (parseMethodDescriptor y.desc = some meth.sig)) = true) : (Jvm.Cond.code y bytes mx rt).before a s = true := by
  simp only [Bool.and_eq_true, beq_iff_eq, Bool.not_eq_true', decide_eq_true_eq] at h5
  obtain ⟨⟨⟨⟨⟨g1, g2⟩, g3⟩, g4⟩, g5⟩, g6⟩ := h5
  simp [Cond.before, Cond.holds, Cond.value, h1, h2, h3, h4, g1, g2, g3, g4, g5, g6]
def isCode : Jvm.Cond → Bool
  | .code _ _ _ _ => true
  | _ => false
theorem all_split {L : List Jvm.Cond} {P : Jvm.Cond → Bool} (h1 : L.all (fun c => isCode c || P c) = true) (h2 : ∀ c ∈ L.filter isCode, P c = true) : L.all P = true := by
  refine List.all_eq_true.mpr fun c hc => ?_
  have h := List.all_eq_true.mp h1 c hc
  rcases Bool.eq_false_or_eq_true (isCode c) with hi | hi
  · exact h2 c (List.mem_filter.mpr ⟨hc, hi⟩)
  · simpa [hi] using h
set_option maxRecDepth 65536 in
theorem w_c0 : (Jvm.Cond.code x code maxLocals ret).before args0 about1 = true := code_word (m := ⟨1, 2⟩) (meth := k1m2) (c := k1c2) (by decide +kernel) rfl rfl rfl (by decide +kernel)
set_option maxRecDepth 65536 in
theorem w_c1 : (Jvm.Cond.code ({ cls := "com/example/tenon/tenon/Report", name := "<init>", desc := "(I)V" } : Jvm.MethodName) prog_74_method_2_code (2 : Nat) (Option.none : Option Jvm.ClassFile.FieldType)).before args0 about1 = true := code_word (m := ⟨2, 1⟩) (meth := k2m1) (c := k2c1) (by decide +kernel) rfl rfl rfl (by decide +kernel)
set_option maxRecDepth 65536 in
theorem w_c2 : (Jvm.Cond.code ({ cls := "java/lang/Object", name := "<init>", desc := "()V" } : Jvm.MethodName) object_method_1_code (1 : Nat) (Option.none : Option Jvm.ClassFile.FieldType)).before args0 about1 = true := code_word (m := ⟨0, 0⟩) (meth := k0m0) (c := k0c0) (by decide +kernel) rfl rfl rfl (by decide +kernel)
set_option maxRecDepth 65536 in
theorem w_c3 : (Jvm.Cond.code ({ cls := "java/util/ArrayList", name := "<init>", desc := "()V" } : Jvm.MethodName) jdk_38_method_2_code (1 : Nat) (Option.none : Option Jvm.ClassFile.FieldType)).before args0 about1 = true := code_word (m := ⟨12, 0⟩) (meth := k12m0) (c := k12c0) (by decide +kernel) rfl rfl rfl (by decide +kernel)
set_option maxRecDepth 65536 in
theorem w_c4 : (Jvm.Cond.code ({ cls := "java/util/AbstractList", name := "<init>", desc := "()V" } : Jvm.MethodName) jdk_39_method_1_code (1 : Nat) (Option.none : Option Jvm.ClassFile.FieldType)).before args0 about1 = true := code_word (m := ⟨8, 0⟩) (meth := k8m0) (c := k8c0) (by decide +kernel) rfl rfl rfl (by decide +kernel)
set_option maxRecDepth 65536 in
theorem w_c5 : (Jvm.Cond.code ({ cls := "java/util/AbstractCollection", name := "<init>", desc := "()V" } : Jvm.MethodName) jdk_22_method_1_code (1 : Nat) (Option.none : Option Jvm.ClassFile.FieldType)).before args0 about1 = true := code_word (m := ⟨5, 0⟩) (meth := k5m0) (c := k5c0) (by decide +kernel) rfl rfl rfl (by decide +kernel)
set_option maxRecDepth 65536 in
theorem w_c6 : (Jvm.Cond.code ({ cls := "com/example/tenon/tenon/Finding$Severity", name := "values", desc := "()[Lcom/example/tenon/tenon/Finding$Severity;" } : Jvm.MethodName) prog_23_method_1_code (0 : Nat) (Option.some (Jvm.ClassFile.FieldType.array (Jvm.ClassFile.FieldType.object "com/example/tenon/tenon/Finding$Severity")))).before args0 about1 = true := code_word (m := ⟨16, 0⟩) (meth := k16m0) (c := k16c0) (by decide +kernel) rfl rfl rfl (by decide +kernel)
set_option maxRecDepth 65536 in
theorem w_c7 : (Jvm.Cond.code ({ cls := "com/example/tenon/tenon/Report", name := "size", desc := "()J" } : Jvm.MethodName) prog_74_method_9_code (8 : Nat) (Option.some Jvm.ClassFile.FieldType.long)).before args0 about1 = true := code_word (m := ⟨2, 5⟩) (meth := k2m5) (c := k2c5) (by decide +kernel) rfl rfl rfl (by decide +kernel)
set_option maxRecDepth 65536 in
theorem w_c8 : (Jvm.Cond.code ({ cls := "com/example/tenon/tenon/ReportSizePinLaw", name := "put", desc := "(Lcom/example/tenon/tenon/Report;I)I" } : Jvm.MethodName) method_2_code (2 : Nat) (Option.some Jvm.ClassFile.FieldType.int)).before args0 about1 = true := code_word (m := ⟨1, 1⟩) (meth := k1m1) (c := k1c1) (by decide +kernel) rfl rfl rfl (by decide +kernel)
set_option maxRecDepth 65536 in
theorem w_c9 : (Jvm.Cond.code ({ cls := "com/example/tenon/tenon/Finding", name := "<init>", desc := "(Lcom/example/tenon/tenon/Finding$Severity;Ljava/lang/String;Ljava/lang/String;Ljava/lang/String;)V" } : Jvm.MethodName) prog_22_method_1_code (5 : Nat) (Option.none : Option Jvm.ClassFile.FieldType)).before args0 about1 = true := code_word (m := ⟨18, 0⟩) (meth := k18m0) (c := k18c0) (by decide +kernel) rfl rfl rfl (by decide +kernel)
set_option maxRecDepth 65536 in
theorem w_c10 : (Jvm.Cond.code ({ cls := "java/lang/Record", name := "<init>", desc := "()V" } : Jvm.MethodName) jdk_30_method_1_code (1 : Nat) (Option.none : Option Jvm.ClassFile.FieldType)).before args0 about1 = true := code_word (m := ⟨17, 0⟩) (meth := k17m0) (c := k17c0) (by decide +kernel) rfl rfl rfl (by decide +kernel)
set_option maxRecDepth 65536 in
theorem w_c11 : (Jvm.Cond.code ({ cls := "com/example/tenon/tenon/Report", name := "add", desc := "(Lcom/example/tenon/tenon/Finding;)V" } : Jvm.MethodName) prog_74_method_6_code (2 : Nat) (Option.none : Option Jvm.ClassFile.FieldType)).before args0 about1 = true := code_word (m := ⟨2, 4⟩) (meth := k2m4) (c := k2c4) (by decide +kernel) rfl rfl rfl (by decide +kernel)
set_option maxRecDepth 65536 in
theorem w_c12 : (Jvm.Cond.code ({ cls := "com/example/tenon/tenon/Finding", name := "severity", desc := "()Lcom/example/tenon/tenon/Finding$Severity;" } : Jvm.MethodName) prog_22_method_11_code (1 : Nat) (Option.some (Jvm.ClassFile.FieldType.object "com/example/tenon/tenon/Finding$Severity"))).before args0 about1 = true := code_word (m := ⟨18, 1⟩) (meth := k18m1) (c := k18c1) (by decide +kernel) rfl rfl rfl (by decide +kernel)
set_option maxRecDepth 65536 in
theorem w_c13 : (Jvm.Cond.code ({ cls := "java/lang/Enum", name := "ordinal", desc := "()I" } : Jvm.MethodName) jdk_37_method_2_code (1 : Nat) (Option.some Jvm.ClassFile.FieldType.int)).before args0 about1 = true := code_word (m := ⟨15, 0⟩) (meth := k15m0) (c := k15c0) (by decide +kernel) rfl rfl rfl (by decide +kernel)
set_option maxRecDepth 65536 in
theorem w_c14 : (Jvm.Cond.code ({ cls := "java/util/ArrayList", name := "size", desc := "()I" } : Jvm.MethodName) jdk_38_method_8_code (1 : Nat) (Option.some Jvm.ClassFile.FieldType.int)).before args0 about1 = true := code_word (m := ⟨12, 3⟩) (meth := k12m3) (c := k12c3) (by decide +kernel) rfl rfl rfl (by decide +kernel)
set_option maxRecDepth 65536 in
theorem w_c15 : (Jvm.Cond.code ({ cls := "com/example/tenon/tenon/Report", name := "error", desc := "(Ljava/lang/String;Ljava/lang/String;Ljava/lang/String;)V" } : Jvm.MethodName) prog_74_method_4_code (4 : Nat) (Option.none : Option Jvm.ClassFile.FieldType)).before args0 about1 = true := code_word (m := ⟨2, 2⟩) (meth := k2m2) (c := k2c2) (by decide +kernel) rfl rfl rfl (by decide +kernel)
set_option maxRecDepth 65536 in
theorem w_c16 : (Jvm.Cond.code ({ cls := "java/util/ArrayList", name := "add", desc := "(Ljava/lang/Object;)Z" } : Jvm.MethodName) jdk_38_method_25_code (2 : Nat) (Option.some Jvm.ClassFile.FieldType.boolean)).before args0 about1 = true := code_word (m := ⟨12, 5⟩) (meth := k12m5) (c := k12c5) (by decide +kernel) rfl rfl rfl (by decide +kernel)
set_option maxRecDepth 65536 in
theorem w_c17 : (Jvm.Cond.code ({ cls := "java/util/ArrayList", name := "add", desc := "(Ljava/lang/Object;[Ljava/lang/Object;I)V" } : Jvm.MethodName) jdk_38_method_24_code (4 : Nat) (Option.none : Option Jvm.ClassFile.FieldType)).before args0 about1 = true := code_word (m := ⟨12, 4⟩) (meth := k12m4) (c := k12c4) (by decide +kernel) rfl rfl rfl (by decide +kernel)
set_option maxRecDepth 65536 in
theorem w_c18 : (Jvm.Cond.code ({ cls := "java/util/ArrayList", name := "grow", desc := "()[Ljava/lang/Object;" } : Jvm.MethodName) jdk_38_method_7_code (1 : Nat) (Option.some (Jvm.ClassFile.FieldType.array (Jvm.ClassFile.FieldType.object "java/lang/Object")))).before args0 about1 = true := code_word (m := ⟨12, 2⟩) (meth := k12m2) (c := k12c2) (by decide +kernel) rfl rfl rfl (by decide +kernel)
set_option maxRecDepth 65536 in
theorem w_c19 : (Jvm.Cond.code ({ cls := "java/util/ArrayList", name := "grow", desc := "(I)[Ljava/lang/Object;" } : Jvm.MethodName) jdk_38_method_6_code (4 : Nat) (Option.some (Jvm.ClassFile.FieldType.array (Jvm.ClassFile.FieldType.object "java/lang/Object")))).before args0 about1 = true := code_word (m := ⟨12, 1⟩) (meth := k12m1) (c := k12c1) (by decide +kernel) rfl rfl rfl (by decide +kernel)
set_option maxRecDepth 65536 in
theorem w_c20 : (Jvm.Cond.code ({ cls := "java/lang/Math", name := "max", desc := "(II)I" } : Jvm.MethodName) jdk_29_method_65_code (2 : Nat) (Option.some Jvm.ClassFile.FieldType.int)).before args0 about1 = true := code_word (m := ⟨22, 1⟩) (meth := k22m1) (c := k22c1) (by decide +kernel) rfl rfl rfl (by decide +kernel)
set_option maxRecDepth 65536 in
theorem w_c21 : (Jvm.Cond.code ({ cls := "com/example/tenon/tenon/Report", name := "warning", desc := "(Ljava/lang/String;Ljava/lang/String;Ljava/lang/String;)V" } : Jvm.MethodName) prog_74_method_5_code (4 : Nat) (Option.none : Option Jvm.ClassFile.FieldType)).before args0 about1 = true := code_word (m := ⟨2, 3⟩) (meth := k2m3) (c := k2c3) (by decide +kernel) rfl rfl rfl (by decide +kernel)
def codes1 : List Jvm.Cond := [Jvm.Cond.code x code maxLocals ret, Jvm.Cond.code ({ cls := "com/example/tenon/tenon/Report", name := "<init>", desc := "(I)V" } : Jvm.MethodName) prog_74_method_2_code (2 : Nat) (Option.none : Option Jvm.ClassFile.FieldType), Jvm.Cond.code ({ cls := "java/lang/Object", name := "<init>", desc := "()V" } : Jvm.MethodName) object_method_1_code (1 : Nat) (Option.none : Option Jvm.ClassFile.FieldType), Jvm.Cond.code ({ cls := "java/util/ArrayList", name := "<init>", desc := "()V" } : Jvm.MethodName) jdk_38_method_2_code (1 : Nat) (Option.none : Option Jvm.ClassFile.FieldType), Jvm.Cond.code ({ cls := "java/util/AbstractList", name := "<init>", desc := "()V" } : Jvm.MethodName) jdk_39_method_1_code (1 : Nat) (Option.none : Option Jvm.ClassFile.FieldType), Jvm.Cond.code ({ cls := "java/util/AbstractCollection", name := "<init>", desc := "()V" } : Jvm.MethodName) jdk_22_method_1_code (1 : Nat) (Option.none : Option Jvm.ClassFile.FieldType), Jvm.Cond.code ({ cls := "com/example/tenon/tenon/Finding$Severity", name := "values", desc := "()[Lcom/example/tenon/tenon/Finding$Severity;" } : Jvm.MethodName) prog_23_method_1_code (0 : Nat) (Option.some (Jvm.ClassFile.FieldType.array (Jvm.ClassFile.FieldType.object "com/example/tenon/tenon/Finding$Severity"))), Jvm.Cond.code ({ cls := "com/example/tenon/tenon/Report", name := "size", desc := "()J" } : Jvm.MethodName) prog_74_method_9_code (8 : Nat) (Option.some Jvm.ClassFile.FieldType.long), Jvm.Cond.code ({ cls := "com/example/tenon/tenon/ReportSizePinLaw", name := "put", desc := "(Lcom/example/tenon/tenon/Report;I)I" } : Jvm.MethodName) method_2_code (2 : Nat) (Option.some Jvm.ClassFile.FieldType.int), Jvm.Cond.code ({ cls := "com/example/tenon/tenon/Finding", name := "<init>", desc := "(Lcom/example/tenon/tenon/Finding$Severity;Ljava/lang/String;Ljava/lang/String;Ljava/lang/String;)V" } : Jvm.MethodName) prog_22_method_1_code (5 : Nat) (Option.none : Option Jvm.ClassFile.FieldType), Jvm.Cond.code ({ cls := "java/lang/Record", name := "<init>", desc := "()V" } : Jvm.MethodName) jdk_30_method_1_code (1 : Nat) (Option.none : Option Jvm.ClassFile.FieldType), Jvm.Cond.code ({ cls := "com/example/tenon/tenon/Report", name := "add", desc := "(Lcom/example/tenon/tenon/Finding;)V" } : Jvm.MethodName) prog_74_method_6_code (2 : Nat) (Option.none : Option Jvm.ClassFile.FieldType), Jvm.Cond.code ({ cls := "com/example/tenon/tenon/Finding", name := "severity", desc := "()Lcom/example/tenon/tenon/Finding$Severity;" } : Jvm.MethodName) prog_22_method_11_code (1 : Nat) (Option.some (Jvm.ClassFile.FieldType.object "com/example/tenon/tenon/Finding$Severity")), Jvm.Cond.code ({ cls := "java/lang/Enum", name := "ordinal", desc := "()I" } : Jvm.MethodName) jdk_37_method_2_code (1 : Nat) (Option.some Jvm.ClassFile.FieldType.int), Jvm.Cond.code ({ cls := "java/util/ArrayList", name := "size", desc := "()I" } : Jvm.MethodName) jdk_38_method_8_code (1 : Nat) (Option.some Jvm.ClassFile.FieldType.int), Jvm.Cond.code ({ cls := "com/example/tenon/tenon/Report", name := "error", desc := "(Ljava/lang/String;Ljava/lang/String;Ljava/lang/String;)V" } : Jvm.MethodName) prog_74_method_4_code (4 : Nat) (Option.none : Option Jvm.ClassFile.FieldType), Jvm.Cond.code ({ cls := "java/util/ArrayList", name := "add", desc := "(Ljava/lang/Object;)Z" } : Jvm.MethodName) jdk_38_method_25_code (2 : Nat) (Option.some Jvm.ClassFile.FieldType.boolean), Jvm.Cond.code ({ cls := "java/util/ArrayList", name := "add", desc := "(Ljava/lang/Object;[Ljava/lang/Object;I)V" } : Jvm.MethodName) jdk_38_method_24_code (4 : Nat) (Option.none : Option Jvm.ClassFile.FieldType), Jvm.Cond.code ({ cls := "java/util/ArrayList", name := "grow", desc := "()[Ljava/lang/Object;" } : Jvm.MethodName) jdk_38_method_7_code (1 : Nat) (Option.some (Jvm.ClassFile.FieldType.array (Jvm.ClassFile.FieldType.object "java/lang/Object"))), Jvm.Cond.code ({ cls := "java/util/ArrayList", name := "grow", desc := "(I)[Ljava/lang/Object;" } : Jvm.MethodName) jdk_38_method_6_code (4 : Nat) (Option.some (Jvm.ClassFile.FieldType.array (Jvm.ClassFile.FieldType.object "java/lang/Object"))), Jvm.Cond.code ({ cls := "java/lang/Math", name := "max", desc := "(II)I" } : Jvm.MethodName) jdk_29_method_65_code (2 : Nat) (Option.some Jvm.ClassFile.FieldType.int), Jvm.Cond.code ({ cls := "com/example/tenon/tenon/Report", name := "warning", desc := "(Ljava/lang/String;Ljava/lang/String;Ljava/lang/String;)V" } : Jvm.MethodName) prog_74_method_5_code (4 : Nat) (Option.none : Option Jvm.ClassFile.FieldType)]
set_option maxRecDepth 65536 in
theorem codes_eq : words1.filter isCode = codes1 := rfl
theorem w_codes : ∀ c ∈ words1.filter isCode, c.before args0 about1 = true := by
  rw [codes_eq]
  intro c hc
  simp only [codes1, List.mem_cons, List.not_mem_nil, or_false] at hc
  rcases hc with rfl | rfl | rfl | rfl | rfl | rfl | rfl | rfl | rfl | rfl | rfl | rfl | rfl | rfl | rfl | rfl | rfl | rfl | rfl | rfl | rfl | rfl
  · exact w_c0
  · exact w_c1
  · exact w_c2
  · exact w_c3
  · exact w_c4
  · exact w_c5
  · exact w_c6
  · exact w_c7
  · exact w_c8
  · exact w_c9
  · exact w_c10
  · exact w_c11
  · exact w_c12
  · exact w_c13
  · exact w_c14
  · exact w_c15
  · exact w_c16
  · exact w_c17
  · exact w_c18
  · exact w_c19
  · exact w_c20
  · exact w_c21
set_option maxRecDepth 65536 in
theorem w_t1 : (words1.take 24).all (fun c => isCode c || c.before args0 about1) = true := by decide +kernel
set_option maxRecDepth 65536 in
theorem w_t2 : ((words1.drop 24).take 24).all (fun c => isCode c || c.before args0 about1) = true := by decide +kernel
set_option maxRecDepth 65536 in
theorem w_t3 : (((words1.drop 24).drop 24).take 24).all (fun c => isCode c || c.before args0 about1) = true := by decide +kernel
set_option maxRecDepth 65536 in
theorem w_t4 : ((((words1.drop 24).drop 24).drop 24).take 24).all (fun c => isCode c || c.before args0 about1) = true := by decide +kernel
set_option maxRecDepth 65536 in
theorem w_t5 : (((((words1.drop 24).drop 24).drop 24).drop 24).take 24).all (fun c => isCode c || c.before args0 about1) = true := by decide +kernel
set_option maxRecDepth 65536 in
theorem w_t6 : ((((((words1.drop 24).drop 24).drop 24).drop 24).drop 24).take 24).all (fun c => isCode c || c.before args0 about1) = true := by decide +kernel
set_option maxRecDepth 65536 in
theorem w_t7 : (((((((words1.drop 24).drop 24).drop 24).drop 24).drop 24).drop 24).take 24).all (fun c => isCode c || c.before args0 about1) = true := by decide +kernel
set_option maxRecDepth 65536 in
theorem w_t8 : (((((((words1.drop 24).drop 24).drop 24).drop 24).drop 24).drop 24).drop 24).all (fun c => isCode c || c.before args0 about1) = true := by decide +kernel
theorem w_tables : (allAtoms (Jvm.Cond.code x code maxLocals ret :: tables_1)).before args0 about1 = true := by
  rw [allAtoms_all]
  show words1.all (fun c => c.before args0 about1) = true
  refine all_split ?_ w_codes
  rw [← List.take_append_drop 24 words1, List.all_append, w_t1, ← List.take_append_drop 24 (words1.drop 24), List.all_append, w_t2, ← List.take_append_drop 24 ((words1.drop 24).drop 24), List.all_append, w_t3, ← List.take_append_drop 24 (((words1.drop 24).drop 24).drop 24), List.all_append, w_t4, ← List.take_append_drop 24 ((((words1.drop 24).drop 24).drop 24).drop 24), List.all_append, w_t5, ← List.take_append_drop 24 (((((words1.drop 24).drop 24).drop 24).drop 24).drop 24), List.all_append, w_t6, ← List.take_append_drop 24 ((((((words1.drop 24).drop 24).drop 24).drop 24).drop 24).drop 24), List.all_append, w_t7, w_t8]
  rfl
set_option maxRecDepth 65536 in
theorem w_rest : rest_1_c.before args0 about1 = true := by decide +kernel
set_option maxRecDepth 65536 in
theorem w_case : (Jvm.Cond.and given_1 narrow_1).before args0 about1 = true := by decide +kernel
theorem w_applies : (headSpec (Jvm.Cond.code x code maxLocals ret :: tables_1) room_1).applies x e0.platform about1 = true :=
  (Spec.applies_iff w_frames).mpr ⟨w_running, w_runnable, w_alone, w_named, w_hears, w_ripe, w_room, w_tables⟩
theorem atStart : AtStart classFile x code maxLocals ret World_1 tables_1 room_1 Calls_1 rest_1 Pre_1 launch0 p0 e0 about1 theMethod args0 below0 :=
  ⟨lists_1, trivial, launch0.admits_env _ _ _, launch0.least_env, fairChoices_fair.cas, fairChoices_fair.clock, w_frames, w_args, w_heap, w_applies, trivial, w_rest, w_case⟩
end start1
theorem witness_1 : WitnessClaimed_1 := ⟨start1.p0, start1.e0, start1.about1, start1.theMethod, start1.args0, start1.below0, start1.atStart⟩
end Jvm.Pilot.@@N@@
