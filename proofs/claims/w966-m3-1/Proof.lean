import JvmDerived
import JvmDerived.Pilot.@@N@@Statement
import JvmDerived.Pilot.@@N@@Code
set_option linter.unusedVariables false
set_option linter.unusedSimpArgs false
namespace Jvm.RoadKit
open Sem ClassFile Op Lib Jvm.Stand Jvm.Free Jvm.LawKit
section New
variable {p : Program} {l : Launch} {e : Env} {R : Room} {s : State} {m : MethodId} {args : Array Value} {below : List Frame} {meth : Method} {c : Code} {T : State} {locs : List Loc} {cells slots : Nat}
theorem retI (X : Stand p l e R s m args below meth c T locs cells slots) (hx : p.tables.exec = Jvm.exec) {pc : Nat} {Ls : Array Slot} {z : Int32} {rest : List Value} (hret : meth.sig.returnType = some .int) (hd : decode c.code pc = .ok (.ireturn, 1)) {fs : List Frame}
    (hl : ∀ (f : JFrame) (acts : List Action), f.method = m → f.locked = none → f.entered = [] → (doReturn e (T.setTop f) acts (some (.int z))).1 = T.setFrames fs) : Steps p.tables e below (T.setTop (mkF m pc Ls (.int z :: rest))) (T.setFrames fs) := by
  have hm' : T.vm.method? m = some meth := X.method'
  have hn : narrow .int (.int z) = .int z := rfl
  show Steps p.tables e below (T.setTop { method := m, pc := pc, locals := Ls, stack := _ :: rest, locked := none }) _
  jvm_step X.here [X.here.top, hx, hd, hm', hret, hn]
  first | (intro acts; rw [hl _ acts rfl rfl rfl]) | rw [hl _ _ rfl rfl rfl]
  exact Steps.refl _
end New
end Jvm.RoadKit
namespace Jvm.Pilot.@@N@@
open Jvm Jvm.ClassFile Sem Op Lib Jvm.Free Jvm.Stand Jvm.LawKit Jvm.RoadKit Bundle Jvm.Pilot.@@N@@.Jvm.D
theorem joinS {tb : Tables} {e : Env} {below : List Frame} {A B t : State} (h1 : Steps tb e below B t → Steps tb e below A t) (h2 : Steps tb e below B t) : Steps tb e below A t := h1 h2
theorem mvMN {Z s : State} {a0 args : Array Value} {own host : String} {index : Nat} {y : MethodName} (hZ : Z.Warmed39 s.vm) (w : (Cond.methodLinkNest own index y host).before a0 Z = true) : (Cond.methodLinkNest own index y host).before args s = true := (Cond.methodLinkNest_wide hZ w :)
theorem wd {a0 : Array Value} {Z : State} (hw : ∀ d ∈ tables_1, d.before a0 Z = true) (i : Nat) {d : Jvm.Cond} (h : tables_1[i]? = some d) : d.before a0 Z = true := hw d (List.mem_of_getElem? h)
abbrev vI (x : Int32) : Slot := .val (.int x)
abbrev vR (x : Addr) : Slot := .val (.ref x)
abbrev vD (x : UInt64) : Slot := .val (.double x)
section OwnD
variable {tb : Tables} [Ours tb] {e : Env} {below : List Frame} {T target : State} {m : MethodId} {c : Code} {pc : Nat} {Ls : Array Slot} {rest : List Value} {x y : UInt64}
theorem own_sadd (h : At T m c below) (hx : tb.exec = Jvm.exec) (hd : decode c.code pc = .ok (.dadd, 1)) (hn : Jvm.Free.Fl.NoNaN64 (FP.dadd x y)) (hr : Steps tb e below (T.setTop (mkF m (pc + 1) Ls (.double (FP.dadd x y) :: rest))) target) : Steps tb e below (T.setTop (mkF m pc Ls (.double y :: .double x :: rest))) target := by
  jvm_step h [h.top, hx, hd, Op.dadd.at_number h.top hn]
  exact hr
theorem own_ssub (h : At T m c below) (hx : tb.exec = Jvm.exec) (hd : decode c.code pc = .ok (.dsub, 1)) (hn : Jvm.Free.Fl.NoNaN64 (FP.dsub x y)) (hr : Steps tb e below (T.setTop (mkF m (pc + 1) Ls (.double (FP.dsub x y) :: rest))) target) : Steps tb e below (T.setTop (mkF m pc Ls (.double y :: .double x :: rest))) target := by
  jvm_step h [h.top, hx, hd, Op.dsub.at_number h.top hn]
  exact hr
theorem own_smul (h : At T m c below) (hx : tb.exec = Jvm.exec) (hd : decode c.code pc = .ok (.dmul, 1)) (hn : Jvm.Free.Fl.NoNaN64 (FP.dmul x y)) (hr : Steps tb e below (T.setTop (mkF m (pc + 1) Ls (.double (FP.dmul x y) :: rest))) target) : Steps tb e below (T.setTop (mkF m pc Ls (.double y :: .double x :: rest))) target := by
  jvm_step h [h.top, hx, hd, Op.dmul.at_number h.top hn]
  exact hr
theorem own_sdiv (h : At T m c below) (hx : tb.exec = Jvm.exec) (hd : decode c.code pc = .ok (.ddiv, 1)) (hn : Jvm.Free.Fl.NoNaN64 (FP.ddiv x y)) (hr : Steps tb e below (T.setTop (mkF m (pc + 1) Ls (.double (FP.ddiv x y) :: rest))) target) : Steps tb e below (T.setTop (mkF m pc Ls (.double y :: .double x :: rest))) target := by
  jvm_step h [h.top, hx, hd, Op.ddiv.at_number h.top hn]
  exact hr
theorem own_si2d (h : At T m c below) (hx : tb.exec = Jvm.exec) {n : Int32} (hd : decode c.code pc = .ok (.i2d, 1)) (hr : Steps tb e below (T.setTop (mkF m (pc + 1) Ls (.double (FP.i2d n) :: rest))) target) : Steps tb e below (T.setTop (mkF m pc Ls (.int n :: rest))) target := by
  jvm_step h [h.top, hx, hd]
  exact hr
theorem own_sl2d (h : At T m c below) (hx : tb.exec = Jvm.exec) {n : Int64} (hd : decode c.code pc = .ok (.l2d, 1)) (hr : Steps tb e below (T.setTop (mkF m (pc + 1) Ls (.double (FP.l2d n) :: rest))) target) : Steps tb e below (T.setTop (mkF m pc Ls (.long n :: rest))) target := by
  jvm_step h [h.top, hx, hd]
  exact hr
theorem own_sone (h : At T m c below) (hx : tb.exec = Jvm.exec) (hd : decode c.code pc = .ok (.dconst 1, 1)) (hr : Steps tb e below (T.setTop (mkF m (pc + 1) Ls (.double (4607182418800017408 : UInt64) :: rest))) target) : Steps tb e below (T.setTop (mkF m pc Ls rest)) target := by
  jvm_step h [h.top, hx, hd]
  exact hr
theorem own_szero (h : At T m c below) (hx : tb.exec = Jvm.exec) (hd : decode c.code pc = .ok (.dconst 0, 1)) (hr : Steps tb e below (T.setTop (mkF m (pc + 1) Ls (.double (0 : UInt64) :: rest))) target) : Steps tb e below (T.setTop (mkF m pc Ls rest)) target := by
  jvm_step h [h.top, hx, hd]
  exact hr
theorem own_sload (h : At T m c below) (hx : tb.exec = Jvm.exec) {k : Nat} (hd : decode c.code pc = .ok (.dload k, 2)) (hl : Ls[k]? = some (.val (.double x))) (hr : Steps tb e below (T.setTop (mkF m (pc + 2) Ls (.double x :: rest))) target) : Steps tb e below (T.setTop (mkF m pc Ls rest)) target := by
  jvm_step h [h.top, hx, hd, hl]
  exact hr
theorem own_sloadN (h : At T m c below) (hx : tb.exec = Jvm.exec) {k : Fin 4} (hd : decode c.code pc = .ok (.dload_n k, 1)) (hl : Ls[k.val]? = some (.val (.double x))) (hr : Steps tb e below (T.setTop (mkF m (pc + 1) Ls (.double x :: rest))) target) : Steps tb e below (T.setTop (mkF m pc Ls rest)) target := by
  jvm_step h [h.top, hx, hd, hl]
  exact hr
theorem own_sstore (h : At T m c below) (hx : tb.exec = Jvm.exec) {k : Nat} {l' : Array Slot} (hd : decode c.code pc = .ok (.dstore k, 2)) (hl : storeLocals Ls k (.double x) = some l') (hr : Steps tb e below (T.setTop (mkF m (pc + 2) l' rest)) target) : Steps tb e below (T.setTop (mkF m pc Ls (.double x :: rest))) target := by
  jvm_step h [h.top, hx, hd, hl]
  exact hr
theorem own_sstoreN (h : At T m c below) (hx : tb.exec = Jvm.exec) {k : Fin 4} {l' : Array Slot} (hd : decode c.code pc = .ok (.dstore_n k, 1)) (hl : storeLocals Ls k.val (.double x) = some l') (hr : Steps tb e below (T.setTop (mkF m (pc + 1) l' rest)) target) : Steps tb e below (T.setTop (mkF m pc Ls (.double x :: rest))) target := by
  jvm_step h [h.top, hx, hd, hl]
  exact hr
theorem own_scmp (h : At T m c below) (hx : tb.exec = Jvm.exec) {k : CmpOp} {z : Int32} (hd : decode c.code pc = .ok (.dcmp k, 1)) (hz : cmpValue (FP.dcmp x y) k = z) (hr : Steps tb e below (T.setTop (mkF m (pc + 1) Ls (.int z :: rest))) target) : Steps tb e below (T.setTop (mkF m pc Ls (.double y :: .double x :: rest))) target := by
  subst hz
  jvm_step h [h.top, hx, hd]
  exact hr
end OwnD
section OwnA
variable {Z : State} {h h' : Heap} {a b : Addr} {ty : FieldType} {n : Nat} {g : Nat → Value} {sl : Nat} {v : Value} {ws : List Addr}
/-- an array of n components; the i-th is g i -/
def own_V (Z : State) (h : Heap) (a : Addr) (ty : FieldType) (n : Nat) (g : Nat → Value) : Prop := ∃ c : Cell, Arr Z h a c ty ∧ c.slots.size = n ∧ ∀ i, i < n → c.slots[i]? = some (g i)
theorem own_V.lt (F : own_V Z h a ty n g) : a < h.size := by obtain ⟨c, A, -⟩ := F; exact A.lt
theorem own_V.ext (F : own_V Z h a ty n g) (E : Ext h h') : own_V Z h' a ty n g := by obtain ⟨c, A, r⟩ := F; exact ⟨c, A.ext E, r⟩
theorem own_V.other (F : own_V Z h b ty n g) (W : Wr h h' a sl v) (q : b ≠ a) : own_V Z h' b ty n g := by obtain ⟨c, A, r⟩ := F; exact ⟨c, A.other W q, r⟩
theorem own_V.keep (F : own_V Z h a ty n g) (K : Keep h h' ws) (q : a ∉ ws) : own_V Z h' a ty n g := by obtain ⟨c, A, r⟩ := F; exact ⟨c, ⟨K.2.1 a c A.1 q, A.2⟩, r⟩
theorem own_V.set (F : own_V Z h a ty n g) (W : Wr h h' a sl v) : own_V Z h' a ty n (fun i => if i = sl then v else g i) := by
  obtain ⟨c, A, S, H⟩ := F
  have hs : sl < c.slots.size := by obtain ⟨cell, h1, -, h3, -⟩ := W; cases A.1.symm.trans h1; exact h3
  refine ⟨_, Arr.same W A, (sz_set c sl v).trans S, fun i hi => ?_⟩
  show (c.slots.setIfInBounds sl v)[i]? = some (if i = sl then v else g i)
  by_cases e : i = sl
  · subst e; rw [if_pos rfl, Array.getElem?_setIfInBounds_self_of_lt hs]
  · rw [if_neg e, Array.getElem?_setIfInBounds_ne (Ne.symm e)]; exact H i hi
theorem own_V.new {k : ClassId} {z : Int32} (A : Arr Z h a (newA k ty z) ty) : own_V Z h a ty z.toNatClampNeg (fun _ => defaultValue ty) := ⟨_, A, sz_new _ _ _, fun i hi => by
  show (Array.replicate z.toNatClampNeg (defaultValue ty))[i]? = _
  rw [Array.getElem?_replicate, if_pos hi]⟩
/-- f, changed at j -/
def own_up {α : Type} (f : Nat → α) (j : Nat) (x : α) : Nat → α := fun i => if i = j then x else f i
theorem own_upP {α : Type} {P : α → Prop} {f : Nat → α} {j : Nat} {x : α} (hf : ∀ i, P (f i)) (hx : P x) : ∀ i, P (own_up f j x i) := fun i => by
  unfold own_up
  by_cases e : i = j
  · rw [if_pos e]; exact hx
  · rw [if_neg e]; exact hf i
theorem own_V.setI {f : Nat → Int32} {x : Int32} (F : own_V Z h a ty n (fun i => .int (f i))) (W : Wr h h' a sl (.int x)) : own_V Z h' a ty n (fun i => .int (own_up f sl x i)) := by
  have e : (fun i => Value.int (own_up f sl x i)) = (fun i => if i = sl then Value.int x else Value.int (f i)) := by
    funext i; unfold own_up; by_cases q : i = sl <;> simp [q]
  rw [e]; exact F.set W
theorem own_V.setD {f : Nat → UInt64} {x : UInt64} (F : own_V Z h a ty n (fun i => .double (f i))) (W : Wr h h' a sl (.double x)) : own_V Z h' a ty n (fun i => .double (own_up f sl x i)) := by
  have e : (fun i => Value.double (own_up f sl x i)) = (fun i => if i = sl then Value.double x else Value.double (f i)) := by
    funext i; unfold own_up; by_cases q : i = sl <;> simp [q]
  rw [e]; exact F.set W
theorem own_nd {L : List Addr} (hL : L.Nodup) (i j : Nat) {x y : Addr} (hij : i < j) (hi : L[i]? = some x) (hj : L[j]? = some y) : x ≠ y := by
  obtain ⟨hi1, rfl⟩ := List.getElem?_eq_some_iff.mp hi
  obtain ⟨hj1, rfl⟩ := List.getElem?_eq_some_iff.mp hj
  exact fun q => absurd ((List.getElem_inj hL).mp q) (Nat.ne_of_lt hij)
/-- j is an index of n components -/
def own_ix (n : Nat) (j : Int32) : Prop := 0 ≤ j.toInt ∧ j.toInt < n
theorem own_clamp {j : Int32} (h : 0 ≤ j.toInt) : (j.toNatClampNeg : Int) = j.toInt := by
  rw [show j.toNatClampNeg = j.toInt.toNat from rfl]; exact Int.toNat_of_nonneg h
theorem own_inb {c : Cell} {j : Int32} (S : c.slots.size = n) (q : own_ix n j) : ¬ (j < 0 ∨ c.slots.size ≤ j.toNatClampNeg) := by
  have h1 := own_clamp q.1
  have h2 := q.2
  rintro (z | z)
  · rw [Int32.lt_iff_toInt_lt] at z; have := q.1; have : (0 : Int32).toInt = 0 := rfl; omega
  · omega
theorem own_ix.lt {j : Int32} (q : own_ix n j) : j.toNatClampNeg < n := by have h1 := own_clamp q.1; have h2 := q.2; omega
variable {p : Program} {l : Launch} {e : Env} {R : Room} {s : State} {m : MethodId} {args : Array Value} {below : List Frame} {meth : Method} {c : Code} {T : State} {locs : List Loc} {cells slots : Nat} {a0 : Array Value}
theorem own_ldI (X : Stand p l e R s m args below meth c T locs cells slots) (hx : p.tables.exec = Jvm.exec) (hZ : Z.Warmed39 s.vm) (eT : T.heap = h) (F : own_V Z h a .int n g) {j : Int32} (q : own_ix n j) {f : JFrame} (hg : f.method = m) {rest : List Value} (hs : f.stack = .int j :: .ref a :: rest) (hd : decode c.code f.pc = .ok (.iaload, 1)) (target : State)
    (hr : Steps p.tables e below (T.setTop { f with pc := f.pc + 1, stack := g j.toNatClampNeg :: rest }) target) : Steps p.tables e below (T.setTop f) target := by
  obtain ⟨cl, A, S, H⟩ := F
  exact X.iaload hx (by rw [eT]; exact A.1) (State.isArrayOf_alike hZ.alike A.2.1) A.2.2 (own_inb S q) (H _ q.lt) hg hs hd target hr
theorem own_ldD (X : Stand p l e R s m args below meth c T locs cells slots) (hx : p.tables.exec = Jvm.exec) (hZ : Z.Warmed39 s.vm) (eT : T.heap = h) (F : own_V Z h a .double n g) {j : Int32} (q : own_ix n j) {f : JFrame} (hg : f.method = m) {rest : List Value} (hs : f.stack = .int j :: .ref a :: rest) (hd : decode c.code f.pc = .ok (.daload, 1)) (target : State)
    (hr : Steps p.tables e below (T.setTop { f with pc := f.pc + 1, stack := g j.toNatClampNeg :: rest }) target) : Steps p.tables e below (T.setTop f) target := by
  obtain ⟨cl, A, S, H⟩ := F
  exact X.daload hx (by rw [eT]; exact A.1) (State.isArrayOf_alike hZ.alike A.2.1) A.2.2 (own_inb S q) (H _ q.lt) hg hs hd target hr
theorem own_len (X : Stand p l e R s m args below meth c T locs cells slots) (hx : p.tables.exec = Jvm.exec) (hZ : Z.Warmed39 s.vm) (eT : T.heap = h) (F : own_V Z h a ty n g) {z : Int32} (hz : n.toInt32 = z) {f : JFrame} (hg : f.method = m) {rest : List Value} (hs : f.stack = .ref a :: rest) (hd : decode c.code f.pc = .ok (.arraylength, 1)) (target : State)
    (hr : Steps p.tables e below (T.setTop { f with pc := f.pc + 1, stack := .int z :: rest }) target) : Steps p.tables e below (T.setTop f) target := by
  obtain ⟨cl, A, S, H⟩ := F
  subst S hz
  exact X.arraylength hx (by rw [eT]; exact A.1) (State.isArrayOf_alike hZ.alike A.2.1) hg hs hd target hr
theorem own_sI (X : Stand p l e R s m args below meth c T locs cells slots) (hx : p.tables.exec = Jvm.exec) (hZ : Z.Warmed39 s.vm) (eT : T.heap = h) (F : own_V Z h a .int n g) {j x : Int32} (q : own_ix n j) {f : JFrame} (hg : f.method = m) {rest : List Value} (hs : f.stack = .int x :: .int j :: .ref a :: rest) (hd : decode c.code f.pc = .ok (.iastore, 1)) :
    ∃ T' h', Stand p l e R s m args below meth c T' (locs ++ [⟨a, j.toNatClampNeg⟩]) cells slots ∧ T'.heap = h' ∧ Wr h h' a j.toNatClampNeg (.int x) ∧ ∀ target, Steps p.tables e below (T'.setTop { f with pc := f.pc + 1, stack := rest }) target → Steps p.tables e below (T.setTop f) target := by
  obtain ⟨cl, A, S, H⟩ := F
  exact stI X hx hZ eT A (own_inb S q) hg hs hd
theorem own_sD (X : Stand p l e R s m args below meth c T locs cells slots) (hx : p.tables.exec = Jvm.exec) (hZ : Z.Warmed39 s.vm) (eT : T.heap = h) (F : own_V Z h a .double n g) {j : Int32} {x : UInt64} (q : own_ix n j) {f : JFrame} (hg : f.method = m) {rest : List Value} (hs : f.stack = .double x :: .int j :: .ref a :: rest) (hd : decode c.code f.pc = .ok (.dastore, 1)) :
    ∃ T' h', Stand p l e R s m args below meth c T' (locs ++ [⟨a, j.toNatClampNeg⟩]) cells slots ∧ T'.heap = h' ∧ Wr h h' a j.toNatClampNeg (.double x) ∧ ∀ target, Steps p.tables e below (T'.setTop { f with pc := f.pc + 1, stack := rest }) target → Steps p.tables e below (T.setTop f) target := by
  obtain ⟨cl, A, S, H⟩ := F
  exact stD X hx hZ eT A (own_inb S q) hg hs hd
/-- newarray, the class of the new array kept -/
theorem own_newP (X : Stand p l e R s m args below meth c T locs cells slots) (hx : p.tables.exec = Jvm.exec) (hZ : Z.Warmed39 s.vm) {aty : ArrayType} (w : (Cond.arrayClass (newarray.typeOf aty)).before a0 Z = true) (eT : T.heap = h) {f : JFrame} (hg : f.method = m) (hd : decode c.code f.pc = .ok (.newarray aty, 2)) {z : Int32} {rest : List Value} (hs : f.stack = .int z :: rest)
    (hn : ¬ z < 0) {cap : Nat} (hcap : z.toNatClampNeg ≤ cap) (hb : cap * 8 ≤ 536870912) (hc : cells + 1 ≤ R.cells) (hl : slots + cap ≤ R.slots) :
    ∃ T' h', Stand p l e R s m args below meth c T' locs (cells + 1) (slots + cap) ∧ T'.heap = h' ∧ Ext h h' ∧ own_V Z h' h.size (newarray.typeOf aty) z.toNatClampNeg (fun _ => defaultValue (newarray.typeOf aty)) ∧ Exa Z h' h.size ("[" ++ (newarray.typeOf aty).toString) ∧
      ∀ target, Steps p.tables e below (T'.setTop { f with pc := f.pc + 2, stack := .ref h.size :: rest }) target → Steps p.tables e below (T.setTop f) target := by
  have hcb : componentBytes (newarray.typeOf aty) ≤ 8 := by cases aty <;> decide
  obtain ⟨cA, kA, comp, h1, h2, h3, X', st⟩ := X.newarrayPrim hx (mvA hZ w) hg hd hs hn (Nat.le_trans (Nat.mul_le_mul hcap hcb) hb) hc (by omega)
  subst eT
  rw [hZ.alike.findClass] at h1
  obtain ⟨kZ, z1, -⟩ := Vm.findClass_spec h1
  obtain ⟨k', z2, z3⟩ := hZ.alike.2.2 _ _ z1
  cases h2.symm.trans z2
  have hk : kZ.kind = .array comp (newarray.typeOf aty) := by rw [← h3, z3]
  have hN : (T.heap.push { cls := cA, slots := Array.replicate z.toNatClampNeg (defaultValue (newarray.typeOf aty)), vm := .none })[T.heap.size]? = some { cls := cA, slots := Array.replicate z.toNatClampNeg (defaultValue (newarray.typeOf aty)), vm := .none } := by simp
  refine ⟨_, _, X'.more (Nat.le_refl _) (by omega), rfl, ⟨by show T.heap.size ≤ (T.heap.push _).size; simp, fun a c h => ?_⟩, own_V.new (k := cA) ⟨hN, ⟨by simp [newA], kZ, z1, comp, hk⟩, by simp [newA]⟩, ⟨_, kZ, hN, h1, z1, rfl, fun q => by rw [hk] at q; cases q⟩, st⟩
  show (T.heap.push _)[a]? = _
  rw [Array.getElem?_push_lt (Array.getElem?_eq_some_iff.mp h).1]; exact (Array.getElem?_eq_getElem _).symm.trans h
theorem own_fitc {cl : Cell} (A : Arr Z h a cl ty) (S : cl.slots.size = n) (H : ∀ i, i < n → cl.slots[i]? = some (g i)) (G : ∀ i, i < n → fits ty (g i) = true) : FitC Z cl := fun i v hv => by
  have hi : i < n := by rw [← S]; exact (Array.getElem?_eq_some_iff.mp hv).1
  cases hv.symm.trans (H i hi)
  obtain ⟨hs, k, hk, comp, hkind⟩ := A.2.1
  have := G i hi
  simp [State.fitsSlot, State.slotType?, hk, hkind, this]
/-- an array's clone -/
theorem own_clone (X : Stand p l e R s m args below meth c T locs cells slots) (hx : p.tables.exec = Jvm.exec) (hZ : Z.Warmed39 s.vm) {own ad : String} {index : Nat} (hown : s.vm.findClass own = some m.cls)
    (w1 : (Cond.methodLink own index ⟨ad, "clone", "()Ljava/lang/Object;"⟩).before a0 Z = true) (w2 : (Cond.sameMethod ad "java/lang/Object" "clone" "()Ljava/lang/Object;").before a0 Z = true) (w3 : (Cond.native ⟨"java/lang/Object", "clone", "()Ljava/lang/Object;"⟩).before a0 Z = true)
    (w4 : (Cond.instanceMethod ⟨"java/lang/Object", "clone", "()Ljava/lang/Object;"⟩).before a0 Z = true) (w5 : (Cond.selects ad ⟨ad, "clone", "()Ljava/lang/Object;"⟩ ⟨"java/lang/Object", "clone", "()Ljava/lang/Object;"⟩).before a0 Z = true) (w6 : (Cond.castable ad "java/lang/Cloneable").before a0 Z = true)
    (eT : T.heap = h) (F : own_V Z h a ty n g) (G : ∀ i, i < n → fits ty (g i) = true) (E : Exa Z h a ad) {f : JFrame} (hg : f.method = m) (hsize : f.locals.size = c.maxLocals) {rest : List Value} (hs : f.stack = .ref a :: rest) (hd : decode c.code f.pc = .ok (.invokevirtual index, 3))
    (hf : 1 ≤ R.frames) {W : Nat} (hW : 2 * f.monitorRoom + (rest.map fun v => v.category).sum ≤ W) (hl : W + 14 ≤ R.locals) (hc : cells + 1 ≤ R.cells) (hsl : slots + n ≤ R.slots) :
    ∃ T' h', Stand p l e R s m args below meth c T' locs (cells + 1) (slots + n) ∧ T'.heap = h' ∧ Ext h h' ∧ own_V Z h' h.size ty n g ∧ Exa Z h' h.size ad ∧
      ∀ target, Steps p.tables e below (T'.setTop { f with pc := f.pc + 3, stack := .ref h.size :: rest }) target → Steps p.tables e below (T.setTop f) target := by
  obtain ⟨cl, A, S, H⟩ := F
  obtain ⟨T', h', X', e', E', A', C', st⟩ := cloneA X hx hZ hown w1 w2 w3 w4 w5 w6 eT A E (own_fitc A S H G) hg hsize hs hd hf hW hl (cap := n) (Nat.le_of_eq S) hc hsl
  exact ⟨T', h', X', e', E', ⟨_, A', S, H⟩, C', st⟩
/-- getfield by an entry that is resolved -/
theorem own_getRef (X : Stand p l e R s m args below meth c T locs cells slots) (hx : p.tables.exec = Jvm.exec) (hZ : Z.Warmed39 s.vm) {own O nm d : String} {index : Nat} (hown : s.vm.findClass own = some m.cls) (w : (Cond.fieldRef own index O nm d).before a0 Z = true)
    (eT : T.heap = h) {v : Value} (F : Fld Z h a O nm d v) {f : JFrame} (hg : f.method = m) {rest : List Value} (hs : f.stack = .ref a :: rest) (hd : decode c.code f.pc = .ok (.getfield index, 3)) : ∃ T', Stand p l e R s m args below meth c T' locs cells slots ∧ T'.heap = h ∧ ∀ target, Steps p.tables e below (T'.setTop { f with pc := f.pc + 3, stack := v :: rest }) target → Steps p.tables e below (T.setTop f) target := by
  obtain ⟨cell, cf, k, i, fd, h1, h2, h3, h4, -, -, h7⟩ := F
  have hZT : Z.Warmed39 T.vm := wtrans hZ X.warmed
  have w2 : (Cond.fieldRef own index O nm d).before a0 (Z.setVm T.vm) = true := Cond.fieldRef_warmed39 hZT w
  have hownT : (Z.setVm T.vm).vm.findClass own = some m.cls := by show T.vm.findClass own = _; rw [X.warmed.alike.findClass]; exact hown
  obtain ⟨c2, k2, i2, f2, q1, hready⟩ := Cond.fieldRef_spec hownT w2
  obtain ⟨k3, hi, -⟩ := State.fieldFound?_setVm (s := Z) hZT.alike h2
  cases q1.symm.trans hi
  subst hg
  refine ⟨T, X, eT, fun target hrest => ?_⟩
  jvm_step X.here [hx, hd, getfield.wp_ready (e := e) (s := T) (f := f) X.here.top hready h3 hs (show T.heap[a]? = some cell by rw [eT]; exact h1) h4 h7]
  exact hrest
end OwnA
theorem own_selSelf {s : State} {args : Array Value} {y : MethodName} {kI : Nat} (hI : (Cond.instantiable y.cls kI).before args s = true) (hpriv : s.PrivateAt y) (hinst : (Cond.instanceMethod y).before args s = true) (hy : y.cls ≠ "java/lang/invoke/MethodHandle" ∧ y.cls ≠ "java/lang/invoke/VarHandle") : (Cond.selects y.cls y y).before args s = true := by
  obtain ⟨ci, ki, i1, i2, -, i4, -⟩ := Cond.instantiable_spec hI
  exact selects_self_of_private i1 i2 (by cases hi : ki.isInterface <;> simp_all) hpriv hinst hy
theorem own_specialRef {p : Program} {l : Launch} {e : Env} {R : Room} {s : State} {m : MethodId} {args : Array Value} {below : List Frame} {meth : Method} {c : Code} {T : State} {locs : List Loc} {cells slots : Nat} (X : Stand p l e R s m args below meth c T locs cells slots) (hexec : p.tables.exec = Jvm.exec) {own : String} {index : Nat} {y : MethodName} (hy1 : y.name = "<init>")
    (hown : s.vm.findClass own = some m.cls) (hlink : (Cond.methodRef own index y).before args s = true) (hinst : (Cond.instanceMethod y).before args s = true)
    {bytes : ByteArray} {maxL : Nat} (hcode : (Cond.code y bytes maxL none).before args s = true)
    (hy : y.cls ≠ "java/lang/invoke/MethodHandle" ∧ y.cls ≠ "java/lang/invoke/VarHandle")
    {W : Nat} {Pre : Pt → Array Value → Prop} {Post : Pt → Array Value → Option Value → Pt → Prop} (hK : Back l R p e below s args y 3 W Pre Post)
    {g : JFrame} (hg : g.method = m) (hsize : g.locals.size = c.maxLocals) {s₀ : State} (hcome : Steps p.tables e below s₀ (T.setTop g)) {a : Addr} {argsL rest : List Value}
    (hlen : ∀ sig, parseMethodDescriptor y.desc = some sig → argsL.length = sig.parameters.length) (hstack : g.stack = argsL.reverse ++ .ref a :: rest) (hW : 2 * g.monitorRoom + (rest.map fun v => v.category).sum ≤ W)
    (hdg : decode c.code g.pc = .ok (.invokespecial index, 3)) (hpre : ∀ vm₁, s.WarmedH vm₁ → Pre ⟨T.setVm vm₁, locs, cells, slots⟩ (.ref a :: argsL).toArray) :
    ∃ (v : Option Value) (vm₁ : Vm) (B : Pt), s.WarmedH vm₁ ∧ Stand p l e R s m args below meth c B.U B.locs B.cells B.slots ∧ Post ⟨T.setVm vm₁, locs, cells, slots⟩ (.ref a :: argsL).toArray v B ∧
      Steps p.tables e below s₀ (B.U.setTop { g with pc := g.pc + 3, stack := v.toList ++ rest }) := by
  subst hg
  have hWa : s.WarmedH T.vm := X.warmed
  obtain ⟨obj, methO, hnO, hmO, hstO, habO⟩ := Cond.instanceMethod_spec hinst
  obtain ⟨methO', cO, hmO', -, -, -, -, -, -, hsigO⟩ := Cond.code_spec hnO hcode
  cases hmO.symm.trans hmO'
  obtain ⟨kO, hkO, hnameO⟩ := className_of_methodNamed hnO
  obtain ⟨hnameMO, hdescO⟩ := name_of_methodNamed hnO hmO
  have al := hWa.alike
  have hT : (Cond.methodRef own index y).before args (s.setVm T.vm) = true := Cond.methodRef_warmed39 hWa.wide hnO hy hlink
  have hownT : (s.setVm T.vm).vm.findClass own = some g.method.cls := by show T.vm.findClass own = _; rw [al.findClass]; exact hown
  obtain ⟨m', c', ci, b, hf, hready, hcls, hask, hcr⟩ := Cond.methodRef_spec (e := e) hownT hT
  have hfound0 : (s.setVm T.vm).methodFound? y.cls y.name y.desc = some obj := by
    rw [State.methodFound?_setVm_of_named al hnO hy]; exact State.methodFound?_of_named hnO hy
  cases hf.symm.trans hfound0
  have hc' : c' = obj.cls := by
    have h1 : s.vm.findClass y.cls = some obj.cls := findClass_of_methodNamed hnO
    have h2 : T.vm.findClass y.cls = some c' := hcls
    rw [al.findClass, h1] at h2
    exact (Option.some.inj h2).symm
  subst hc'
  have hnamed : Op.namesResolved T.vm g.method.cls index obj.cls := by
    have hT' := hT
    simp only [Cond.before, Cond.holds, Cond.value, hownT, hfound0, beq_iff_eq, Option.some.injEq, Bool.and_eq_true, decide_eq_true_eq] at hT'
    obtain ⟨⟨hnames, -⟩, -⟩ := hT'
    obtain ⟨cp, hcp, hn⟩ := State.names_spec hnames
    obtain ⟨ci', nt, hentry, hnt, -⟩ := namesOf?_method hn
    obtain ⟨k, cf, hk, hcf, rfl⟩ := State.poolOf?_spec hownT hcp
    obtain ⟨b', hask'⟩ := memberRef_ask' (e := e) hk hcf hentry hnt
    have : ci = ci' := by
      have q := hask.symm.trans hask'
      simp only [Except.ok.injEq, Prod.mk.injEq] at q
      exact q.1
    subst this
    exact ⟨k, cf, ci, nt, hk, hcf, hentry, hcr⟩
  obtain ⟨kO₂, hkO₂, heO₂⟩ := al.2.2 _ _ hkO
  have hmO₂ : T.vm.method? obj = some methO := by rw [al.method?]; exact hmO
  have hfound : lookupSpecial T.vm obj.cls "<init>" methO.desc = .method obj := by
    rw [al.lookupSpecial, hdescO, ← hy1]; exact lookupSpecial_of_named hnO hmO hstO
  have hstep₁ : ∀ target, (∀ acts, Steps p.tables e below (doInvoke e (T.setTop { g with stack := rest }) acts obj (.ref a :: argsL).toArray).1 target) → Steps p.tables e below (T.setTop g) target := fun target hrest => by
    jvm_step X.here [hexec, hdg, Op.invokespecial.wp_init (e := e) (s := T) (k := kO₂) (meth := methO) (m := obj) (a := a) (args := argsL) (rest := rest) (f := g) X.here.top hnamed hready hkO₂ hmO₂ (by rw [hnameMO]; exact hy1) hstO habO hfound (hlen _ hsigO) hstack]
    exact hrest
  have hT0 : T.setVm T.vm = T := by cases T; rfl
  obtain ⟨v, B, X', hpost, hsteps⟩ := hK g.method meth c ⟨T, locs, cells, slots⟩ { g with stack := rest } (.invokespecial index) obj (.ref a :: argsL).toArray X rfl hsize hdg hW (X.named hnO) (by have := hpre T.vm hWa; rw [hT0] at this; exact this)
  exact ⟨v, T.vm, B, hWa, X', by rw [hT0]; exact hpost, (hcome.trans (hstep₁ _ fun acts => by rw [doInvoke_state]; exact Steps.refl _)).trans hsteps⟩
theorem own_privNest {p : Program} {l : Launch} {e : Env} {R : Room} {s : State} {m : MethodId} {args : Array Value} {below : List Frame} {meth : Method} {c : Code} {T : State} {locs : List Loc} {cells slots : Nat} (X : Stand p l e R s m args below meth c T locs cells slots) (hexec : p.tables.exec = Jvm.exec) {own host : String} {index kI : Nat} {y : MethodName}
    (hown : s.vm.findClass own = some m.cls) (hlink : (Cond.methodLinkNest own index y host).before args s = true) (hinst : (Cond.instanceMethod y).before args s = true) (hI : (Cond.instantiable y.cls kI).before args s = true) (hpriv : s.PrivateAt y)
    {bytes : ByteArray} {maxL : Nat} {ret : Option FieldType} (hcode : (Cond.code y bytes maxL ret).before args s = true)
    (hy : y.cls ≠ "java/lang/invoke/MethodHandle" ∧ y.cls ≠ "java/lang/invoke/VarHandle")
    {W : Nat} {Pre : Pt → Array Value → Prop} {Post : Pt → Array Value → Option Value → Pt → Prop} (hK : Back l R p e below s args y 3 W Pre Post)
    {g : JFrame} (hg : g.method = m) (hsize : g.locals.size = c.maxLocals) {s₀ : State} (hcome : Steps p.tables e below s₀ (T.setTop g)) {a : Addr} {cell : Cell} (hcell : T.heap[a]? = some cell) (hobj : ∀ q, cell.vm ≠ .statics q) {argsL rest : List Value}
    (hlen : ∀ sig, parseMethodDescriptor y.desc = some sig → argsL.length = sig.parameters.length) (hstack : g.stack = argsL.reverse ++ .ref a :: rest) (hW : 2 * g.monitorRoom + (rest.map fun v => v.category).sum ≤ W)
    (hdg : decode c.code g.pc = .ok (.invokevirtual index, 3)) (hpre : ∀ vm₁, s.WarmedH vm₁ → Pre ⟨T.setVm vm₁, locs, cells, slots⟩ (.ref a :: argsL).toArray) :
    ∃ (v : Option Value) (vm₁ : Vm) (B : Pt), s.WarmedH vm₁ ∧ Stand p l e R s m args below meth c B.U B.locs B.cells B.slots ∧ Post ⟨T.setVm vm₁, locs, cells, slots⟩ (.ref a :: argsL).toArray v B ∧
      Steps p.tables e below s₀ (B.U.setTop { g with pc := g.pc + 3, stack := v.toList ++ rest }) := by
  obtain ⟨mk, methM, hnamed, hmethM, hstM, habM⟩ := Cond.instanceMethod_spec hinst
  obtain ⟨methM', cM, hmethM', -, -, -, -, -, -, hsigM⟩ := Cond.code_spec hnamed hcode
  cases hmethM.symm.trans hmethM'
  obtain ⟨ci, ki, i1, i2, -, i4, -⟩ := Cond.instantiable_spec hI
  have hci : ci = mk.cls := Option.some.inj (i1.symm.trans (findClass_of_methodNamed hnamed))
  subst hci
  have hni : ki.isInterface = false := by cases hi : ki.isInterface <;> simp_all
  have hsel : selectMethod e.platform s.vm cell.cls mk = .method mk := selectMethod_private hmethM (hpriv mk methM hnamed hmethM)
  obtain ⟨vm₁, X₁, hstep₁⟩ := X.invokevirtualNest hexec hown hlink hnamed hmethM hstM i2 hni hy (a := a) (cell := cell) hcell hobj hsel hmethM habM i2 hni (g := g) hg (argsL := argsL) (rest := rest) (hlen _ hsigM) hstack hdg
  have hW₁ : s.WarmedH vm₁ := X₁.warmed
  obtain ⟨v, B, X', hpost, hsteps⟩ := hK m meth c ⟨T.setVm vm₁, locs, cells, slots⟩ { g with stack := rest } (.invokevirtual index) mk (.ref a :: argsL).toArray X₁ hg hsize hdg hW (X₁.named hnamed) (hpre vm₁ hW₁)
  exact ⟨v, vm₁, B, hW₁, X', hpost, (hcome.trans (hstep₁ _ fun acts => by rw [doInvoke_state]; exact Steps.refl _)).trans hsteps⟩
theorem own_mvRef {Z s : State} {a0 args : Array Value} {own : String} {index : Nat} {y : MethodName} (hZ : Z.Warmed39 s.vm) (hinst : (Cond.instanceMethod y).before a0 Z = true) (hy : y.cls ≠ "java/lang/invoke/MethodHandle" ∧ y.cls ≠ "java/lang/invoke/VarHandle") (w : (Cond.methodRef own index y).before a0 Z = true) : (Cond.methodRef own index y).before args s = true := by
  obtain ⟨mk, -, hn, -⟩ := Cond.instanceMethod_spec hinst
  have h1 : (Cond.methodRef own index y).before a0 (Z.setVm s.vm) = true := Cond.methodRef_warmed39 hZ hn hy w
  exact h1
open Jvm.Free.Fl (NoNaN64 Fin64)
def own_max (x y : Int32) : Int32 := if x < y then y else x
/-- 66 row numbers -/
def own_Rw (Z : State) (h : Heap) (a : Addr) : Prop := ∃ f : Nat → Int32, own_V Z h a .int 66 (fun i => .int (f i)) ∧ ∀ i, own_ix 66 (f i)
/-- n finite numbers -/
def own_Fd (Z : State) (h : Heap) (a : Addr) (n : Nat) : Prop := ∃ f : Nat → UInt64, own_V Z h a .double n (fun i => .double (f i)) ∧ ∀ i, Fin64 (f i)
def own_Ai (Z : State) (h : Heap) (a : Addr) (n : Nat) : Prop := ∃ f : Nat → Int32, own_V Z h a .int n (fun i => .int (f i))
def own_Ad (Z : State) (h : Heap) (a : Addr) (n : Nat) : Prop := ∃ f : Nat → UInt64, own_V Z h a .double n (fun i => .double (f i))
theorem own_le' {d : UInt64} (h : Fin64 d) : ¬ ((0 : Int32) < cmpValue (FP.dcmp (d &&& 0x7fffffffffffffff) Jvm.Free.Fl.maxD) .g) := by
  rcases Jvm.Free.Fl.relLe_iff.mp ((Jvm.Free.Fl.le_max_iff h.noNaN).mpr h) with q | q <;> rw [q] <;> decide
theorem own_self {d : UInt64} (h : NoNaN64 d) (k : CmpOp) : cmpValue (FP.dcmp d d) k = (0 : Int32) := by
  rw [show FP.dcmp d d = some .eq from Jvm.FP.Core.dcmp_self (Jvm.Free.Fl.val64_no.mp h)]; rfl
abbrev own_pk (b : Bool) (x y : UInt64) : UInt64 := Native.java_lang_Math.nans.pick64 b x y
theorem own_pick (b : Bool) (x y : UInt64) : own_pk b x y = x ∨ own_pk b x y = y := by
  unfold own_pk Native.java_lang_Math.nans.pick64
  cases b <;> rcases FP.dcmp x y with _ | (_ | _ | _) <;> by_cases q : x >>> 63 = 1 <;> simp [q]
theorem own_pkP {P : UInt64 → Prop} {b : Bool} {x y : UInt64} (hx : P x) (hy : P y) : P (own_pk b x y) := by
  rcases own_pick b x y with q | q <;> rw [q] <;> assumption
def own_med (x y z : UInt64) : UInt64 := own_pk true (own_pk false x y) (own_pk false (own_pk true x y) z)
theorem own_med3 (x y z : UInt64) : own_med x y z = x ∨ own_med x y z = y ∨ own_med x y z = z := by
  unfold own_med
  rcases own_pick true (own_pk false x y) (own_pk false (own_pk true x y) z) with q | q
  · rw [q]; rcases own_pick false x y with r | r <;> simp [r]
  · rw [q]
    rcases own_pick false (own_pk true x y) z with r | r
    · rw [r]; rcases own_pick true x y with t | t <;> simp [t]
    · rw [r]; simp
theorem own_ix0 {n : Nat} {j : Int32} (q : own_ix n j) : ¬ j < (0 : Int32) := by
  rw [Int32.lt_iff_toInt_lt]; have := q.1; have : (0 : Int32).toInt = 0 := rfl; omega
theorem own_ixl {n : Nat} {j z : Int32} (q : own_ix n j) (hz : z.toInt = n) : j < z := by
  rw [Int32.lt_iff_toInt_lt, hz]; exact q.2
theorem own_idx (p : Int32) : p * (1 : Int32) + (0 : Int32) = p := by rw [Int32.mul_one, Int32.add_zero]
theorem own_add1 {i : Int32} (h : -100 ≤ i.toInt) (h' : i.toInt ≤ 1000) : (i + (1 : Int32)).toInt = i.toInt + 1 := by
  rw [Int32.toInt_add, show (1 : Int32).toInt = 1 by decide, Int.bmod_eq_of_le (by omega) (by omega)]
theorem own_sub1 {i : Int32} (h : -100 ≤ i.toInt) (h' : i.toInt ≤ 1000) : (i + Int32.ofInt (-1)).toInt = i.toInt - 1 := by
  rw [Int32.toInt_add, show (Int32.ofInt (-1)).toInt = -1 by decide, Int.bmod_eq_of_le (by omega) (by omega)]; rfl
theorem own_sub {i j : Int32} (h : 0 ≤ i.toInt) (h' : i.toInt ≤ 1000) (k : 0 ≤ j.toInt) (k' : j.toInt ≤ 1000) : (i - j).toInt = i.toInt - j.toInt := by
  rw [Int32.toInt_sub, Int.bmod_eq_of_le (by omega) (by omega)]
theorem own_lt {i j : Int32} : i < j ↔ i.toInt < j.toInt := Int32.lt_iff_toInt_lt
theorem own_66 : (66 : Int32).toInt = 66 := by decide
def own_Two (x y : Slot) : Prop := (x = .unset ∧ y = .unset) ∨ ∃ u : UInt64, x = .val (.double u) ∧ y = .second
def own_One (x : Slot) : Prop := x = .unset ∨ ∃ u : Int32, x = .val (.int u)
theorem own_Two.v {u : UInt64} : own_Two (.val (.double u)) .second := Or.inr ⟨u, rfl, rfl⟩
theorem own_One.v {u : Int32} : own_One (.val (.int u)) := Or.inr ⟨u, rfl⟩
theorem own_Two.u : own_Two .unset .unset := Or.inl ⟨rfl, rfl⟩
theorem own_One.u : own_One .unset := Or.inl rfl
abbrev own_half (x : Int32) : Int32 := (x.toUInt32 >>> ((1 : Int32) &&& 31).toUInt32).toInt32
theorem own_half_fin : ∀ k : Fin 200, (own_half (Int32.ofNat k.val)).toInt = (k.val / 2 : Nat) := by decide +kernel
theorem own_ofnat {x : Int32} (h : 0 ≤ x.toInt) : x = Int32.ofNat x.toInt.toNat := by
  apply Int32.toInt_inj.mp
  have := Int32.toInt_lt x
  rw [Int32.toInt_ofNat_of_lt (by omega)]
  omega
theorem own_half_eq {x : Int32} (h : 0 ≤ x.toInt) (h' : x.toInt < 200) : (own_half x).toInt = x.toInt / 2 := by
  have := own_half_fin ⟨x.toInt.toNat, by omega⟩
  rw [← own_ofnat h] at this
  rw [this]
  simp only []
  omega
theorem own_mid {lo hi : Int32} (h : 0 ≤ lo.toInt) (h1 : lo.toInt ≤ hi.toInt) (h2 : hi.toInt < 99) : lo.toInt ≤ (own_half (lo + hi)).toInt ∧ (own_half (lo + hi)).toInt ≤ hi.toInt := by
  have e : (lo + hi).toInt = lo.toInt + hi.toInt := by rw [Int32.toInt_add, Int.bmod_eq_of_le (by omega) (by omega)]
  rw [own_half_eq (by omega) (by omega), e]
  omega
/-- the scans stop -/
def own_stI (pv v : UInt64) : Prop := ¬ cmpValue (FP.dcmp v pv) .g < (0 : Int32)
def own_stJ (pv v : UInt64) : Prop := ¬ (0 : Int32) < cmpValue (FP.dcmp v pv) .l
theorem own_sIself {pv : UInt64} (h : NoNaN64 pv) : own_stI pv pv := by unfold own_stI; rw [own_self h]; decide
theorem own_sJself {pv : UInt64} (h : NoNaN64 pv) : own_stJ pv pv := by unfold own_stJ; rw [own_self h]; decide
/-- what the inner loop of the selection knows where i ≤ j -/
def own_sen (g : Nat → UInt64) (pv : UInt64) (lo hi i j : Int) : Prop := ∃ x y : Nat, i ≤ x ∧ (x : Int) ≤ hi ∧ own_stI pv (g x) ∧ lo ≤ y ∧ (y : Int) ≤ j ∧ own_stJ pv (g y) ∧ ((x = y ∧ i = lo ∧ j = hi) ∨ (lo < i ∧ j < hi))
theorem own_sen_start {g : Nat → UInt64} {lo md hi : Int32} (hF : ∀ i, Fin64 (g i)) (h0 : 0 ≤ lo.toInt) (h1 : lo.toInt ≤ md.toInt ∧ md.toInt ≤ hi.toInt) : own_sen g (own_med (g lo.toNatClampNeg) (g md.toNatClampNeg) (g hi.toNatClampNeg)) lo.toInt hi.toInt lo.toInt hi.toInt := by
  have c1 := own_clamp (j := lo) h0
  have c2 := own_clamp (j := md) (by omega)
  have c3 := own_clamp (j := hi) (by omega)
  rcases own_med3 (g lo.toNatClampNeg) (g md.toNatClampNeg) (g hi.toNatClampNeg) with q | q | q <;> rw [q]
  · exact ⟨_, _, by omega, by omega, own_sIself (hF _).noNaN, by omega, by omega, own_sJself (hF _).noNaN, Or.inl ⟨rfl, rfl, rfl⟩⟩
  · exact ⟨md.toNatClampNeg, md.toNatClampNeg, by omega, by omega, own_sIself (hF _).noNaN, by omega, by omega, own_sJself (hF _).noNaN, Or.inl ⟨rfl, rfl, rfl⟩⟩
  · exact ⟨_, _, by omega, by omega, own_sIself (hF _).noNaN, by omega, by omega, own_sJself (hF _).noNaN, Or.inl ⟨rfl, rfl, rfl⟩⟩
theorem own_sen_next {g : Nat → UInt64} {pv : UInt64} {lo hi i j : Int32} (h0 : 0 ≤ i.toInt) (h1 : 0 ≤ j.toInt) (hi1 : lo.toInt ≤ i.toInt) (hj1 : j.toInt ≤ hi.toInt) (si : own_stI pv (g i.toNatClampNeg)) (sj : own_stJ pv (g j.toNatClampNeg)) (hij : i.toInt + 1 ≤ j.toInt - 1) :
    own_sen (own_up (own_up g i.toNatClampNeg (g j.toNatClampNeg)) j.toNatClampNeg (g i.toNatClampNeg)) pv lo.toInt hi.toInt (i.toInt + 1) (j.toInt - 1) := by
  have c1 := own_clamp (j := i) h0
  have c2 := own_clamp (j := j) h1
  have ne : i.toNatClampNeg ≠ j.toNatClampNeg := by omega
  refine ⟨j.toNatClampNeg, i.toNatClampNeg, by omega, by omega, ?_, by omega, by omega, ?_, Or.inr ⟨by omega, by omega⟩⟩
  · unfold own_up; rw [if_pos rfl]; exact si
  · unfold own_up; rw [if_neg ne, if_pos rfl]; exact sj
theorem own_kb {p1 p2 : Int32} (h : 1 ≤ p2.toInt ∧ p2.toInt ≤ p1.toInt ∧ p1.toInt ≤ 66) : 0 ≤ (0 : Int32).toInt ∧ (0 : Int32).toInt ≤ (p2 - (1 : Int32)).toInt ∧ (p2 - (1 : Int32)).toInt ≤ (p1 - (1 : Int32)).toInt ∧ (p1 - (1 : Int32)).toInt < p1.toNatClampNeg := by
  have e : (1 : Int32).toInt = 1 := by decide
  have z : (0 : Int32).toInt = 0 := by decide
  have c := own_clamp (j := p1) (by omega)
  rw [own_sub (by omega) (by omega) (by omega) (by omega), own_sub (by omega) (by omega) (by omega) (by omega), e, z]
  omega
theorem own_km {p1 : Int32} (h : 1 ≤ p1.toInt ∧ p1.toInt ≤ 66) : ((p1 - (1 : Int32)).toInt - (0 : Int32).toInt).toNat < 70 := by
  have e : (1 : Int32).toInt = 1 := by decide
  have z : (0 : Int32).toInt = 0 := by decide
  rw [own_sub (by omega) (by omega) (by omega) (by omega), e, z]
  omega
theorem own_pd {p1 p2 : Int32} (h : 0 ≤ p1.toInt ∧ p1.toInt ≤ p2.toInt ∧ p2.toInt ≤ 66) : (p2 - p1).toInt = p2.toInt - p1.toInt ∧ ¬ (p2 - p1) < 0 ∧ (p2 - p1).toNatClampNeg ≤ 66 ∧ ((p2 - p1).toNatClampNeg : Int) = p2.toInt - p1.toInt ∧ (p2 - p1).toNatClampNeg.toInt32 = p2 - p1 := by
  have e := own_sub (i := p2) (j := p1) (by omega) (by omega) (by omega) (by omega)
  have z : (0 : Int32).toInt = 0 := by decide
  have n : ¬ (p2 - p1) < 0 := by rw [own_lt, e, z]; omega
  have c := own_clamp (j := p2 - p1) (by omega)
  exact ⟨e, n, by omega, by omega, (back32 n).1⟩
theorem own_kk {p1 p2 p3 : Int32} (h : 0 ≤ p1.toInt ∧ p1.toInt ≤ p3.toInt ∧ p3.toInt < p2.toInt ∧ p2.toInt ≤ 66) : 1 ≤ ((p3 - p1) + (1 : Int32)).toInt ∧ ((p3 - p1) + (1 : Int32)).toInt ≤ (p2 - p1).toInt ∧ (p2 - p1).toInt ≤ 66 := by
  have e := own_sub (i := p2) (j := p1) (by omega) (by omega) (by omega) (by omega)
  have e3 := own_sub (i := p3) (j := p1) (by omega) (by omega) (by omega) (by omega)
  have e4 := own_add1 (i := p3 - p1) (by omega) (by omega)
  omega
theorem own_fin0 : ∀ _ : Nat, Fin64 (0 : UInt64) := fun _ => by unfold Jvm.Free.Fl.Fin64; decide
theorem own_mininf {c : UInt64} (h : Fin64 c) : own_pk false 9218868437227405312 c = c := by
  unfold own_pk Native.java_lang_Math.nans.pick64
  rw [show FP.dcmp 9218868437227405312 c = some .gt from (Jvm.FP.Core.fin_lt_inf (Jvm.Free.Fl.fin64_core.mp h)).2.2.1]; rfl
theorem own_maxinf {c : UInt64} (h : Fin64 c) : own_pk true 18442240474082181120 c = c := by
  unfold own_pk Native.java_lang_Math.nans.pick64
  rw [show FP.dcmp 18442240474082181120 c = some .lt from (Jvm.FP.Core.fin_lt_inf (Jvm.Free.Fl.fin64_core.mp h)).2.2.2]; rfl
theorem own_lo1 {lo c : UInt64} {P : Prop} (h : (lo = 9218868437227405312 ∧ P) ∨ Fin64 lo) (hc : Fin64 c) : Fin64 (own_pk false lo c) := by
  rcases h with ⟨rfl, -⟩ | h
  · rw [own_mininf hc]; exact hc
  · exact own_pkP (P := Fin64) h hc
theorem own_hi1 {lo c : UInt64} {P : Prop} (h : (lo = 18442240474082181120 ∧ P) ∨ Fin64 lo) (hc : Fin64 c) : Fin64 (own_pk true lo c) := by
  rcases h with ⟨rfl, -⟩ | h
  · rw [own_maxinf hc]; exact hc
  · exact own_pkP (P := Fin64) h hc
theorem own_lon {lo : UInt64} {P : Prop} (h : (lo = 9218868437227405312 ∧ P) ∨ Fin64 lo) : NoNaN64 lo := by
  rcases h with ⟨rfl, -⟩ | h
  · exact Jvm.Free.Fl.val64_no.mpr (by decide +kernel)
  · exact h.noNaN
theorem own_hin {lo : UInt64} {P : Prop} (h : (lo = 18442240474082181120 ∧ P) ∨ Fin64 lo) : NoNaN64 lo := by
  rcases h with ⟨rfl, -⟩ | h
  · exact Jvm.Free.Fl.val64_no.mpr (by decide +kernel)
  · exact h.noNaN
/-- what the builder keeps -/
def own_St (Z : State) (h : Heap) (a1 t r x1 x2 x3 x4 x5 : Addr) (nx : Int32) (F E U : Nat → Int32) : Prop :=
  Fld Z h a1 "com/example/flatfinder/flatfinder/neighbours/KdTree$Builder" "this$0" "Lcom/example/flatfinder/flatfinder/neighbours/KdTree;" (.ref t) ∧ Fld Z h a1 "com/example/flatfinder/flatfinder/neighbours/KdTree$Builder" "next" "I" (.int nx) ∧ (∃ d : Int32, Fld Z h a1 "com/example/flatfinder/flatfinder/neighbours/KdTree$Builder" "depth" "I" (.int d)) ∧ own_Rw Z h r ∧ own_V Z h x1 .int 9 (fun ii => .int (F ii)) ∧ own_V Z h x2 .int 9 (fun ii => .int (E ii)) ∧ own_V Z h x3 .int 9 (fun ii => .int (U ii)) ∧ own_Ad Z h x4 9 ∧ own_Ad Z h x5 9
def own_bx (nx p1 p2 : Int32) (F E U : Nat → Int32) (n' : Int32) (F' E' U' : Nat → Int32) : Prop := n' = nx + (1 : Int32) ∧ F' = own_up F nx.toNatClampNeg p1 ∧ E' = own_up E nx.toNatClampNeg p2 ∧ U' = own_up U nx.toNatClampNeg (-1 : Int32)
/-- what build does to first, end, upper and next -/
def own_rel : Nat → Int32 → Int32 → Int32 → (Nat → Int32) → (Nat → Int32) → (Nat → Int32) → Int32 → (Nat → Int32) → (Nat → Int32) → (Nat → Int32) → Prop
  | 0, nx, p1, p2, F, E, U, n', F', E', U' => own_bx nx p1 p2 F E U n' F' E' U'
  | k + 1, nx, p1, p2, F, E, U, n', F', E', U' => own_bx nx p1 p2 F E U n' F' E' U' ∨ ∃ n1 F1 E1 U1 n2 F2 E2 U2, own_bx nx p1 p2 F E U n1 F1 E1 U1 ∧ own_rel k n1 p1 (own_half (p1 + p2)) F1 E1 U1 n2 F2 E2 U2 ∧ own_rel k n2 (own_half (p1 + p2)) p2 F2 E2 (own_up U2 nx.toNatClampNeg n2) n' F' E' U'
theorem own_rel_leaf (k : Nat) {nx p1 p2 n' : Int32} {F E U F' E' U' : Nat → Int32} (h : own_bx nx p1 p2 F E U n' F' E' U') : own_rel k nx p1 p2 F E U n' F' E' U' := by
  cases k with
  | zero => exact h
  | succ k => exact Or.inl h
theorem own_rel_split (k : Nat) {nx p1 p2 n' n2 : Int32} {F E U F' E' U' F2 E2 U2 : Nat → Int32} (h1 : own_rel k (nx + (1 : Int32)) p1 (own_half (p1 + p2)) (own_up F nx.toNatClampNeg p1) (own_up E nx.toNatClampNeg p2) (own_up U nx.toNatClampNeg (-1 : Int32)) n2 F2 E2 U2) (h2 : own_rel k n2 (own_half (p1 + p2)) p2 F2 E2 (own_up U2 nx.toNatClampNeg n2) n' F' E' U') : own_rel (k + 1) nx p1 p2 F E U n' F' E' U' :=
  Or.inr ⟨_, _, _, _, _, _, _, _, ⟨rfl, rfl, rfl, rfl⟩, h1, h2⟩
theorem own_rel_n0 {nx p1 p2 n' : Int32} {F E U F' E' U' : Nat → Int32} (h : own_rel 0 nx p1 p2 F E U n' F' E' U') (h0 : 0 ≤ nx.toInt) (h1 : nx.toInt ≤ 50) : nx.toInt + 1 ≤ n'.toInt ∧ n'.toInt ≤ nx.toInt + 1 := by
  have e : n' = nx + (1 : Int32) := h.1
  have := own_add1 (i := nx) (by omega) (by omega)
  rw [e]; omega
theorem own_rel_n1 {nx p1 p2 n' : Int32} {F E U F' E' U' : Nat → Int32} (h : own_rel 1 nx p1 p2 F E U n' F' E' U') (h0 : 0 ≤ nx.toInt) (h9 : nx.toInt ≤ 40) : nx.toInt + 1 ≤ n'.toInt ∧ n'.toInt ≤ nx.toInt + 3 := by
  have e1 := own_add1 (i := nx) (by omega) (by omega)
  rcases h with h | ⟨n1, F1, E1, U1, n2, F2, E2, U2, h1, h2, h3⟩
  · rw [h.1]; omega
  · have a1 : n1 = nx + (1 : Int32) := h1.1
    rw [← a1] at e1
    have a2 := own_rel_n0 h2 (by omega) (by omega)
    have a3 := own_rel_n0 h3 (by omega) (by omega)
    omega
theorem own_md {p1 p2 : Int32} (h : 0 ≤ p1.toInt) (h1 : p1.toInt < p2.toInt) (h2 : p2.toInt ≤ 66) : (own_half (p1 + p2)).toInt = (p1.toInt + p2.toInt) / 2 := by
  have e : (p1 + p2).toInt = p1.toInt + p2.toInt := by rw [Int32.toInt_add, Int.bmod_eq_of_le (by omega) (by omega)]
  rw [own_half_eq (by omega) (by omega), e]
theorem own_le32 {p1 p2 : Int32} (e : (p2 - p1).toInt = p2.toInt - p1.toInt) (h : p2.toInt - p1.toInt ≤ 32) : ¬ (32 : Int32) < p2 - p1 := by
  rw [own_lt, e, show (32 : Int32).toInt = 32 by decide]; omega
theorem own_gt32 {p1 p2 : Int32} (e : (p2 - p1).toInt = p2.toInt - p1.toInt) (h : (32 : Int32) < p2 - p1) : 32 < p2.toInt - p1.toInt := by
  rw [own_lt, e, show (32 : Int32).toInt = 32 by decide] at h; exact h
theorem own_nine : (2 : Int32) * ((66 : Int32) / (16 : Int32)) + (1 : Int32) = (9 : Int32) := by decide
theorem own_ndc {x : Addr} {L : List Addr} (h : ∀ y ∈ L, x ≠ y) (hL : L.Nodup) : (x :: L).Nodup := List.nodup_cons.mpr ⟨fun q => h x q rfl, hL⟩
instance (n : Nat) (j : Int32) : Decidable (own_ix n j) := by unfold own_ix; infer_instance
/-- what leafOf's loop does from box b, in j turns -/
def own_find (E U : Nat → Int32) (p : Int32) : Nat → Int32 → Option Int32
  | 0, _ => none
  | j + 1, b => if own_ix 9 b then (if U b.toNatClampNeg < (0 : Int32) then some b else if own_ix 9 (b + (1 : Int32)) then (if p < E (b + (1 : Int32)).toNatClampNeg then own_find E U p j (b + (1 : Int32)) else own_find E U p j (U b.toNatClampNeg)) else none) else none
theorem own_find_step {E U : Nat → Int32} {p r b : Int32} {j : Nat} (h : own_find E U p j b = some r) : ∃ i, j = i + 1 ∧ own_ix 9 b ∧ ((U b.toNatClampNeg < (0 : Int32) ∧ b = r) ∨ (¬ U b.toNatClampNeg < (0 : Int32) ∧ own_ix 9 (b + (1 : Int32)) ∧ ((p < E (b + (1 : Int32)).toNatClampNeg ∧ own_find E U p i (b + (1 : Int32)) = some r) ∨ (¬ p < E (b + (1 : Int32)).toNatClampNeg ∧ own_find E U p i (U b.toNatClampNeg) = some r)))) := by
  cases j with
  | zero => cases h
  | succ i =>
    unfold own_find at h
    by_cases h1 : own_ix 9 b
    · rw [if_pos h1] at h
      refine ⟨i, rfl, h1, ?_⟩
      by_cases h2 : U b.toNatClampNeg < (0 : Int32)
      · rw [if_pos h2] at h; exact Or.inl ⟨h2, Option.some.inj h⟩
      · rw [if_neg h2] at h
        by_cases h3 : own_ix 9 (b + (1 : Int32))
        · rw [if_pos h3] at h
          refine Or.inr ⟨h2, h3, ?_⟩
          by_cases h4 : p < E (b + (1 : Int32)).toNatClampNeg
          · rw [if_pos h4] at h; exact Or.inl ⟨h4, h⟩
          · rw [if_neg h4] at h; exact Or.inr ⟨h4, h⟩
        · rw [if_neg h3] at h; cases h
    · rw [if_neg h1] at h; cases h
/-- the law's question, as a computation -/
def own_goodb (n : Int32) (F E U : Nat → Int32) (p : Int32) : Bool :=
  match own_find E U p 3 (0 : Int32) with
  | none => false
  | some r => decide (own_ix 9 r) && decide (¬ r < (0 : Int32)) && decide (r < n) && decide (U r.toNatClampNeg < (0 : Int32)) && decide (¬ p < F r.toNatClampNeg) && decide (p < E r.toNatClampNeg)
theorem own_goodb_spec {n p : Int32} {F E U : Nat → Int32} (h : own_goodb n F E U p = true) : ∃ r, own_find E U p 3 (0 : Int32) = some r ∧ own_ix 9 r ∧ ¬ r < (0 : Int32) ∧ r < n ∧ U r.toNatClampNeg < (0 : Int32) ∧ ¬ p < F r.toNatClampNeg ∧ p < E r.toNatClampNeg := by
  unfold own_goodb at h
  split at h
  · cases h
  · rename_i r hr
    simp only [Bool.and_eq_true, decide_eq_true_eq] at h
    exact ⟨r, hr, h.1.1.1.1.1, h.1.1.1.1.2, h.1.1.1.2, h.1.1.2, h.1.2, h.2⟩
theorem own_shapes {n' : Int32} {F' E' U' : Nat → Int32} (h : own_rel 2 (0 : Int32) (0 : Int32) (66 : Int32) (fun _ => (0 : Int32)) (fun _ => (0 : Int32)) (fun _ => (0 : Int32)) n' F' E' U') : ∀ k : Fin 66, own_goodb n' F' E' U' (Int32.ofNat k.val) = true := by
  rcases h with ⟨rfl, rfl, rfl, rfl⟩ | ⟨n1, F1, E1, U1, n2, F2, E2, U2, ⟨rfl, rfl, rfl, rfl⟩, h1, h2⟩
  · decide +kernel
  · rcases h1 with ⟨rfl, rfl, rfl, rfl⟩ | ⟨n3, F3, E3, U3, n4, F4, E4, U4, ⟨rfl, rfl, rfl, rfl⟩, ⟨rfl, rfl, rfl, rfl⟩, ⟨rfl, rfl, rfl, rfl⟩⟩ <;> rcases h2 with ⟨rfl, rfl, rfl, rfl⟩ | ⟨n5, F5, E5, U5, n6, F6, E6, U6, ⟨rfl, rfl, rfl, rfl⟩, ⟨rfl, rfl, rfl, rfl⟩, ⟨rfl, rfl, rfl, rfl⟩⟩
    · decide +kernel
    · decide +kernel
    · decide +kernel
    · decide +kernel
theorem own_leaf {n' p : Int32} {F' E' U' : Nat → Int32} (h : own_rel 2 (0 : Int32) (0 : Int32) (66 : Int32) (fun _ => (0 : Int32)) (fun _ => (0 : Int32)) (fun _ => (0 : Int32)) n' F' E' U') (hp : own_ix 66 p) : ∃ r, own_find E' U' p 3 (0 : Int32) = some r ∧ own_ix 9 r ∧ ¬ r < (0 : Int32) ∧ r < n' ∧ U' r.toNatClampNeg < (0 : Int32) ∧ ¬ p < F' r.toNatClampNeg ∧ p < E' r.toNatClampNeg := by
  have := own_shapes h ⟨p.toInt.toNat, by have := hp.1; have := hp.2; omega⟩
  rw [← own_ofnat hp.1] at this
  exact own_goodb_spec this
theorem own_irem {x y : Int32} (hx : 0 ≤ x.toInt) (hy : 0 < y.toInt) : x - x / y * y = x % y := by
  apply Int32.toInt_inj.mp
  rw [Int32.toInt_mod, Int32.toInt_sub, Int32.toInt_mul, Int32.toInt_div]
  have h1 := Int32.toInt_lt x
  have h2 := Int32.toInt_lt y
  rw [Int.tdiv_eq_ediv_of_nonneg hx, Int.tmod_eq_emod_of_nonneg hx]
  have e := Int.mul_ediv_add_emod x.toInt y.toInt
  have r0 := Int.emod_nonneg x.toInt (show y.toInt ≠ 0 by omega)
  have r1 := Int.emod_lt_of_pos x.toInt hy
  have d1 : 0 ≤ x.toInt / y.toInt := Int.ediv_nonneg hx (by omega)
  have d2 : x.toInt / y.toInt ≤ x.toInt := Int.ediv_le_self _ hx
  rw [Int.mul_comm] at e
  have m1 : 0 ≤ x.toInt / y.toInt * y.toInt := Int.mul_nonneg d1 (by omega)
  rw [show (x.toInt / y.toInt).bmod (2 ^ 32) = x.toInt / y.toInt from Int.bmod_eq_of_le (by omega) (by omega)]
  rw [show (x.toInt / y.toInt * y.toInt).bmod (2 ^ 32) = x.toInt / y.toInt * y.toInt from Int.bmod_eq_of_le (by omega) (by omega)]
  rw [Int.bmod_eq_of_le (by omega) (by omega)]
  omega
theorem own_masknn (n k : Int32) (mk : k.toBitVec.msb = false) : 0 ≤ (n &&& k).toInt := by
  have e1 : (n &&& k).toInt = ((n.toBitVec &&& k.toBitVec).toNat : Int) := by
    rw [← Int32.toInt_toBitVec, Int32.toBitVec_and, BitVec.toInt_eq_toNat_of_msb]
    rw [BitVec.msb_and, mk, Bool.and_false]
  rw [e1]; omega
theorem own_r66 {x : Int32} (hx : 0 ≤ x.toInt) : own_ix 66 (x - x / (66 : Int32) * (66 : Int32)) := by
  rw [own_irem hx (by decide)]
  unfold own_ix
  rw [Int32.toInt_mod, own_66, Int.tmod_eq_emod_of_nonneg hx]
  have r0 := Int.emod_nonneg x.toInt (show (66 : Int) ≠ 0 by omega)
  have r1 := Int.emod_lt_of_pos x.toInt (show (0 : Int) < 66 by omega)
  exact ⟨r0, r1⟩
theorem own_c66 (p : Int32) : own_ix 66 ((p &&& (255 : Int32)) - (p &&& (255 : Int32)) / (66 : Int32) * (66 : Int32)) := own_r66 (own_masknn p 255 (by decide))
theorem own_m66 (p : Int32) : own_ix 66 ((p &&& (2147483647 : Int32)) - (p &&& (2147483647 : Int32)) / (66 : Int32) * (66 : Int32)) := own_r66 (own_masknn p 2147483647 (by decide))
theorem d3_0 : decode jdk_117_method_8_code 0 = .ok (.dload_n 0, 1) := by decide +kernel
theorem d3_1 : decode jdk_117_method_8_code 1 = .ok (.invokestatic 38, 3) := by decide +kernel
theorem pd__D_D : parseMethodDescriptor "(D)D" = some ⟨[.double], some .double⟩ := by decide +kernel
theorem d3_4 : decode jdk_117_method_8_code 4 = .ok (.ldc2_w 111, 3) := by decide +kernel
theorem d3_7 : decode jdk_117_method_8_code 7 = .ok (.dcmp .g, 1) := by decide +kernel
theorem d3_8 : decode jdk_117_method_8_code 8 = .ok (.ifCond .gt 7, 3) := by decide +kernel
theorem d3_11 : decode jdk_117_method_8_code 11 = .ok (.iconst 1, 1) := by decide +kernel
theorem d3_12 : decode jdk_117_method_8_code 12 = .ok (.goto 4, 3) := by decide +kernel
theorem d3_16 : decode jdk_117_method_8_code 16 = .ok (.ireturn, 1) := by decide +kernel
theorem pn_java_lang_Double : plainName "java/lang/Double" = true := by first | (simp [plainName, overriddenIn]; done) | decide +kernel
theorem ef_rm3 (m : MethodId) (d0 : UInt64) : entryFrame m #[(.double d0)] 2 = mkF m 0 #[.val (.double d0), .second] [] := by first | (simp [entryFrame, mkF, argsToLocals, Value.category]; done) | rfl
def Qrm3 (Z : State) (d0 : UInt64) (h0 : Heap) (n0 : Nat) (v : Option Value) (h : Heap) (L : List Loc) : Prop := v = some (.int 1) ∧ Fr n0 L ∧ h = h0
set_option maxRecDepth 65536 in
set_option maxHeartbeats 40000000 in
theorem rm3 (l : Launch) (Z : State) (a0 : Array Value) (hw : ∀ d ∈ tables_1, d.before a0 Z = true) (ws : List Jvm.Cond) (d0 : UInt64) (h0 : Heap) (n0 : Nat) (Z0 : n0 ≤ h0.size) (hF : Jvm.Free.Fl.Fin64 d0) :
    MetFree l (⟨"java/lang/Double", "isFinite", "(D)Z"⟩ : MethodName) (head1 (Jvm.Cond.code (⟨"java/lang/Double", "isFinite", "(D)Z"⟩ : MethodName) jdk_117_method_8_code 2 (some .boolean) :: ws) ({ frames := 1, cells := 0, slots := 0, locals := 13 } : Room)) (fun a U => a = #[(.double d0)] ∧ Z.Warmed39 U.vm ∧ U.heap = h0) (fun _ _ _ _ _ => True) (fun _ U o U' => ∃ v L, o = .returned v ∧ Qrm3 Z d0 h0 n0 v U'.heap L ∧ FrameEnd U o U' L ({ frames := 1, cells := 0, slots := 0, locals := 13 } : Room).cells ({ frames := 1, cells := 0, slots := 0, locals := 13 } : Room).slots) := by
  refine MetFree.of_bodySF (plainFor_of_name pn_java_lang_Double) hisR ?_
  intro p e s m args below meth c s₁ Bd hml0 hP hK
  obtain ⟨rfl, hZ, hh⟩ := hP
  have hx := Bd.exec
  have hby := Bd.bytes
  have hml : c.maxLocals = 2 := hml0
  have hown : s.vm.findClass "java/lang/Double" = some m.cls := findClass_of_methodNamed Bd.named
  have hnm := (name_of_methodNamed Bd.named Bd.method).1
  have X0 : Stand p l e ({ frames := 1, cells := 0, slots := 0, locals := 13 } : Room) s m #[(.double d0)] below meth c s₁ [] 0 0 := Stand.of_body Bd
  have e0 : s₁.heap = h0 := by rw [← hh, Bd.state]; rfl
  have N0 := Fr.nil n0
  have pre0 : ∀ tg, Steps p.tables e below (s₁.setTop (mkF m 0 #[.val (.double d0), .second] [])) tg → Steps p.tables e below (s₁.setTop (entryFrame m #[(.double d0)] 2)) tg := fun tg kg => castTop (ef_rm3 m d0) kg
  obtain ⟨_, vm1, ⟨Tq1, L1, k1, n1⟩, -, X1, ⟨hr1, hB1⟩, st1⟩ := Jvm.LawKit.callS X0 hx (y := (⟨"java/lang/Math", "abs", "(D)D"⟩ : MethodName)) hown (mvT hZ (wd hw 15 rfl)) (mvT hZ (wd hw 16 rfl)) (mvT hZ (wd hw 17 rfl)) (mvT hZ (wd hw 18 rfl)) (by decide) (Jvm.Free.Fl.Abs.absD_pays (W := 0) d0 (mvT hZ (wd hw 18 rfl)) (by decide) (by decide)) (g := (mkF m 1 #[vD d0, .second] [(.double d0)])) rfl (by rw [hml]; rfl) (argsL := [(.double d0)]) (rest := []) (lenOf pd__D_D rfl) rfl (by show 2 * 0 + _ ≤ _; exact Nat.le_of_eq rfl) (hb hby d3_1) (fun _ _ => ⟨by show 0 ≤ _; decide, by show 0 ≤ _; decide, rfl, hF.noNaN⟩)
  simp only [Prod.mk.injEq] at hB1
  obtain ⟨rfl, rfl, rfl, rfl⟩ := hB1
  subst hr1
  dsimp only [Pt.U, Pt.locs, Pt.cells, Pt.slots] at X1 st1
  have e1 : (s₁.setVm vm1).heap = h0 := e0
  generalize s₁.setVm vm1 = T1 at X1 st1 e1
  obtain ⟨fs, hr, hrun, hended, hW, hsame⟩ := X1.leave (v := some (.int (1 : Int32))) (fun h => by rw [Bd.returns] at h; cases h)
  refine ⟨_, _, pre0 _ ?_, hrun, hended, _, _, rfl, ?_, ⟨_, rfl⟩, hW, hsame.mono (by decide) (by decide)⟩
  · show Steps p.tables e below (s₁.setTop (mkF m 0 #[vD d0, .second] [])) _
    refine own_sloadN X0.here hx (hb hby d3_0) rfl ?_
    show Steps p.tables e below (s₁.setTop (mkF m 1 #[vD d0, .second] [(.double d0)])) _
    refine st1 _ ?_
    show Steps p.tables e below (T1.setTop (mkF m 4 #[vD d0, .second] [(.double (d0 &&& 0x7fffffffffffffff))])) _
    refine X1.ldc2DoubleC hx hown (mvT hZ (wd hw 19 rfl)) (g := (mkF m 4 #[vD d0, .second] [(.double (d0 &&& 0x7fffffffffffffff))])) rfl (hb hby d3_4) _ ?_
    show Steps p.tables e below (T1.setTop (mkF m 7 #[vD d0, .second] [(.double (9218868437227405311 : UInt64)), (.double (d0 &&& 0x7fffffffffffffff))])) _
    refine own_scmp X1.here hx (z := (cmpValue (FP.dcmp (d0 &&& 0x7fffffffffffffff) Jvm.Free.Fl.maxD) .g)) (hb hby d3_7) rfl ?_
    show Steps p.tables e below (T1.setTop (mkF m 8 #[vD d0, .second] [(.int (cmpValue (FP.dcmp (d0 &&& 0x7fffffffffffffff) Jvm.Free.Fl.maxD) .g))])) _
    refine XS.ifNo X1.here hx rfl (hb hby d3_8) rfl ((if0 _ _).trans (flt (own_le' hF)).2.2.1) ?_
    refine XS.iconst X1.here hx rfl (hb hby d3_11) ?_
    refine XS.goto X1.here hx rfl (pc0 := 12) (pc' := 16) rfl (hb hby d3_12) (by decide) (by decide) ?_
    show Steps p.tables e below (T1.setTop (mkF m 16 #[vD d0, .second] [(.int (1 : Int32))])) _
    exact retN X1 hx (t := .boolean) Bd.returns (by simp) (hb hby d3_16) hr
  · show Qrm3 Z d0 h0 n0 _ T1.heap _
    rw [e1]
    exact ⟨rfl, N0, rfl⟩
theorem d12_0 : decode jdk_41_method_11_code 0 = .ok (.iload_n 0, 1) := by decide +kernel
theorem d12_1 : decode jdk_41_method_11_code 1 = .ok (.ifCond .lt 8, 3) := by decide +kernel
theorem d12_4 : decode jdk_41_method_11_code 4 = .ok (.iload_n 0, 1) := by decide +kernel
theorem d12_5 : decode jdk_41_method_11_code 5 = .ok (.iload_n 1, 1) := by decide +kernel
theorem d12_6 : decode jdk_41_method_11_code 6 = .ok (.if_icmp .lt 10, 3) := by decide +kernel
theorem d12_16 : decode jdk_41_method_11_code 16 = .ok (.iload_n 0, 1) := by decide +kernel
theorem d12_17 : decode jdk_41_method_11_code 17 = .ok (.ireturn, 1) := by decide +kernel
theorem pn_jdk_internal_util_Preconditions : plainName "jdk/internal/util/Preconditions" = true := by first | (simp [plainName, overriddenIn]; done) | decide +kernel
theorem ef_rm12 (m : MethodId) (p0 : Int32) (p1 : Int32) : entryFrame m #[(.int p0), (.int p1), .null] 3 = mkF m 0 #[.val (.int p0), .val (.int p1), .val .null] [] := by first | (simp [entryFrame, mkF, argsToLocals, Value.category]; done) | rfl
def Qrm12 (Z : State) (p0 : Int32) (p1 : Int32) (h0 : Heap) (n0 : Nat) (v : Option Value) (h : Heap) (L : List Loc) : Prop := v = some (.int p0) ∧ Fr n0 L ∧ h = h0
set_option maxRecDepth 65536 in
set_option maxHeartbeats 40000000 in
theorem rm12 (l : Launch) (Z : State) (a0 : Array Value) (hw : ∀ d ∈ tables_1, d.before a0 Z = true) (ws : List Jvm.Cond) (p0 : Int32) (p1 : Int32) (h0 : Heap) (n0 : Nat) (Z0 : n0 ≤ h0.size) (hc1 : ¬ p0 < (0 : Int32)) (hc2 : p0 < p1) :
    MetFree l (⟨"jdk/internal/util/Preconditions", "checkIndex", "(IILjava/util/function/BiFunction;)I"⟩ : MethodName) (head1 (Jvm.Cond.code (⟨"jdk/internal/util/Preconditions", "checkIndex", "(IILjava/util/function/BiFunction;)I"⟩ : MethodName) jdk_41_method_11_code 3 (some .int) :: ws) ({ frames := 0, cells := 0, slots := 0, locals := 0 } : Room)) (fun a U => a = #[(.int p0), (.int p1), .null] ∧ Z.Warmed39 U.vm ∧ U.heap = h0) (fun _ _ _ _ _ => True) (fun _ U o U' => ∃ v L, o = .returned v ∧ Qrm12 Z p0 p1 h0 n0 v U'.heap L ∧ FrameEnd U o U' L ({ frames := 0, cells := 0, slots := 0, locals := 0 } : Room).cells ({ frames := 0, cells := 0, slots := 0, locals := 0 } : Room).slots) := by
  refine MetFree.of_bodySF (plainFor_of_name pn_jdk_internal_util_Preconditions) hisR ?_
  intro p e s m args below meth c s₁ Bd hml0 hP hK
  obtain ⟨rfl, hZ, hh⟩ := hP
  have hx := Bd.exec
  have hby := Bd.bytes
  have hml : c.maxLocals = 3 := hml0
  have hown : s.vm.findClass "jdk/internal/util/Preconditions" = some m.cls := findClass_of_methodNamed Bd.named
  have hnm := (name_of_methodNamed Bd.named Bd.method).1
  have X0 : Stand p l e ({ frames := 0, cells := 0, slots := 0, locals := 0 } : Room) s m #[(.int p0), (.int p1), .null] below meth c s₁ [] 0 0 := Stand.of_body Bd
  have e0 : s₁.heap = h0 := by rw [← hh, Bd.state]; rfl
  have N0 := Fr.nil n0
  have pre0 : ∀ tg, Steps p.tables e below (s₁.setTop (mkF m 0 #[.val (.int p0), .val (.int p1), .val .null] [])) tg → Steps p.tables e below (s₁.setTop (entryFrame m #[(.int p0), (.int p1), .null] 3)) tg := fun tg kg => castTop (ef_rm12 m p0 p1) kg
  obtain ⟨fs, hr, hrun, hended, hW, hsame⟩ := X0.leave (v := some (.int p0)) (fun h => by rw [Bd.returns] at h; cases h)
  refine ⟨_, _, pre0 _ ?_, hrun, hended, _, _, rfl, ?_, ⟨_, rfl⟩, hW, hsame.mono (by decide) (by decide)⟩
  · show Steps p.tables e below (s₁.setTop (mkF m 0 #[vI p0, vI p1, .val .null] [])) _
    refine XS.iloadN X0.here hx rfl (hb hby d12_0) rfl ?_
    refine XS.ifNo X0.here hx rfl (hb hby d12_1) rfl ((if0 _ _).trans (flt hc1).1) ?_
    refine XS.iloadN X0.here hx rfl (hb hby d12_4) rfl ?_
    refine XS.iloadN X0.here hx rfl (hb hby d12_5) rfl ?_
    refine XS.icmpYes X0.here hx rfl (pc0 := 6) (pc' := 16) rfl (hb hby d12_6) rfl (tlt hc2).1 (by decide) (by decide) ?_
    refine XS.iloadN X0.here hx rfl (hb hby d12_16) rfl ?_
    show Steps p.tables e below (s₁.setTop (mkF m 17 #[vI p0, vI p1, .val .null] [(.int p0)])) _
    exact retI X0 hx Bd.returns (hb hby d12_17) hr
  · show Qrm12 Z p0 p1 h0 n0 _ s₁.heap _
    rw [e0]
    exact ⟨rfl, N0, rfl⟩
theorem d11_0 : decode jdk_31_method_17_code 0 = .ok (.iload_n 0, 1) := by decide +kernel
theorem d11_1 : decode jdk_31_method_17_code 1 = .ok (.iload_n 1, 1) := by decide +kernel
theorem d11_2 : decode jdk_31_method_17_code 2 = .ok (.aconst_null, 1) := by decide +kernel
theorem d11_3 : decode jdk_31_method_17_code 3 = .ok (.invokestatic 105, 3) := by decide +kernel
theorem pd__IILjava_util_function_BiFunction__I : parseMethodDescriptor "(IILjava/util/function/BiFunction;)I" = some ⟨[.int, .int, (.object "java/util/function/BiFunction")], some .int⟩ := by decide +kernel
theorem d11_6 : decode jdk_31_method_17_code 6 = .ok (.ireturn, 1) := by decide +kernel
theorem pn_java_util_Objects : plainName "java/util/Objects" = true := by first | (simp [plainName, overriddenIn]; done) | decide +kernel
theorem ef_rm11 (m : MethodId) (p0 : Int32) (p1 : Int32) : entryFrame m #[(.int p0), (.int p1)] 2 = mkF m 0 #[.val (.int p0), .val (.int p1)] [] := by first | (simp [entryFrame, mkF, argsToLocals, Value.category]; done) | rfl
def Qrm11 (Z : State) (p0 : Int32) (p1 : Int32) (h0 : Heap) (n0 : Nat) (v : Option Value) (h : Heap) (L : List Loc) : Prop := v = some (.int p0) ∧ Fr n0 L ∧ h = h0
set_option maxRecDepth 65536 in
set_option maxHeartbeats 40000000 in
theorem rm11 (l : Launch) (Z : State) (a0 : Array Value) (hw : ∀ d ∈ tables_1, d.before a0 Z = true) (ws : List Jvm.Cond) (p0 : Int32) (p1 : Int32) (h0 : Heap) (n0 : Nat) (Z0 : n0 ≤ h0.size) (hc1 : ¬ p0 < (0 : Int32)) (hc2 : p0 < p1) :
    MetFree l (⟨"java/util/Objects", "checkIndex", "(II)I"⟩ : MethodName) (head1 (Jvm.Cond.code (⟨"java/util/Objects", "checkIndex", "(II)I"⟩ : MethodName) jdk_31_method_17_code 2 (some .int) :: ws) ({ frames := 1, cells := 0, slots := 0, locals := 14 } : Room)) (fun a U => a = #[(.int p0), (.int p1)] ∧ Z.Warmed39 U.vm ∧ U.heap = h0) (fun _ _ _ _ _ => True) (fun _ U o U' => ∃ v L, o = .returned v ∧ Qrm11 Z p0 p1 h0 n0 v U'.heap L ∧ FrameEnd U o U' L ({ frames := 1, cells := 0, slots := 0, locals := 14 } : Room).cells ({ frames := 1, cells := 0, slots := 0, locals := 14 } : Room).slots) := by
  refine MetFree.of_bodySF (plainFor_of_name pn_java_util_Objects) hisR ?_
  intro p e s m args below meth c s₁ Bd hml0 hP hK
  obtain ⟨rfl, hZ, hh⟩ := hP
  have hx := Bd.exec
  have hby := Bd.bytes
  have hml : c.maxLocals = 2 := hml0
  have hown : s.vm.findClass "java/util/Objects" = some m.cls := findClass_of_methodNamed Bd.named
  have hnm := (name_of_methodNamed Bd.named Bd.method).1
  have X0 : Stand p l e ({ frames := 1, cells := 0, slots := 0, locals := 14 } : Room) s m #[(.int p0), (.int p1)] below meth c s₁ [] 0 0 := Stand.of_body Bd
  have e0 : s₁.heap = h0 := by rw [← hh, Bd.state]; rfl
  have N0 := Fr.nil n0
  have pre0 : ∀ tg, Steps p.tables e below (s₁.setTop (mkF m 0 #[.val (.int p0), .val (.int p1)] [])) tg → Steps p.tables e below (s₁.setTop (entryFrame m #[(.int p0), (.int p1)] 2)) tg := fun tg kg => castTop (ef_rm11 m p0 p1) kg
  obtain ⟨_, _, ⟨T2, L2, k2, n2⟩, -, X2, ⟨Lc2, hQ2, l2, y2, z2⟩, st2⟩ := Jvm.LawKit.callS X0 hx (y := (⟨"jdk/internal/util/Preconditions", "checkIndex", "(IILjava/util/function/BiFunction;)I"⟩ : MethodName)) hown (mvT hZ (wd hw 105 rfl)) (mvT hZ (wd hw 106 rfl)) (mvT hZ (wd hw 107 rfl)) (mvT hZ (wd hw 108 rfl)) (by decide) (backOf (W := 0) (rm12 l Z a0 hw [] p0 p1  h0 n0 Z0 hc1 hc2) hZ (wd hw 108 rfl) (wd hw 107 rfl) (by decide) (by decide)) (g := (mkF m 3 #[vI p0, vI p1] [.null, (.int p1), (.int p0)])) rfl (by rw [hml]; rfl) (argsL := [(.int p0), (.int p1), .null]) (rest := []) (lenOf pd__IILjava_util_function_BiFunction__I rfl) rfl (by show 2 * 0 + _ ≤ _; exact Nat.le_of_eq rfl) (hb hby d11_3) (fun _ _ => ⟨rfl, e0, (by decide : 0 + 0 ≤ _), (by decide : 0 + 0 ≤ _)⟩)
  dsimp only [Pt.U, Pt.locs, Pt.cells, Pt.slots] at X2 l2 y2 z2 st2 hQ2
  subst l2 y2 z2
  obtain ⟨rfl, N2q, e2⟩ := hQ2
  have N3 := Fr.app N0 N2q
  obtain ⟨fs, hr, hrun, hended, hW, hsame⟩ := X2.leave (v := some (.int p0)) (fun h => by rw [Bd.returns] at h; cases h)
  refine ⟨_, _, pre0 _ ?_, hrun, hended, _, _, rfl, ?_, ⟨_, rfl⟩, hW, hsame.mono (by decide) (by decide)⟩
  · show Steps p.tables e below (s₁.setTop (mkF m 0 #[vI p0, vI p1] [])) _
    refine XS.iloadN X0.here hx rfl (hb hby d11_0) rfl ?_
    refine XS.iloadN X0.here hx rfl (hb hby d11_1) rfl ?_
    refine XS.aconstNull X0.here hx rfl (hb hby d11_2) ?_
    show Steps p.tables e below (s₁.setTop (mkF m 3 #[vI p0, vI p1] [.null, (.int p1), (.int p0)])) _
    refine st2 _ ?_
    show Steps p.tables e below (T2.setTop (mkF m 6 #[vI p0, vI p1] [(.int p0)])) _
    exact retI X2 hx Bd.returns (hb hby d11_6) hr
  · show Qrm11 Z p0 p1 h0 n0 _ T2.heap _
    rw [e2]
    exact ⟨rfl, N3, rfl⟩
theorem d15_0 : decode prog_66_method_2_code 0 = .ok (.aload_n 0, 1) := by decide +kernel
theorem d15_1 : decode prog_66_method_2_code 1 = .ok (.getfield 25, 3) := by decide +kernel
theorem d15_4 : decode prog_66_method_2_code 4 = .ok (.ireturn, 1) := by decide +kernel
theorem pn_com_example_flatfinder_flatfinder_neighbours_Points : plainName "com/example/flatfinder/flatfinder/neighbours/Points" = true := by first | (simp [plainName, overriddenIn]; done) | decide +kernel
theorem ef_rm15 (m : MethodId) (a1 : Addr) : entryFrame m #[(.ref a1)] 1 = mkF m 0 #[.val (.ref a1)] [] := by first | (simp [entryFrame, mkF, argsToLocals, Value.category]; done) | rfl
def Qrm15 (Z : State) (a1 : Addr) (h0 : Heap) (n0 : Nat) (v : Option Value) (h : Heap) (L : List Loc) : Prop := v = some (.int (66 : Int32)) ∧ Fr n0 L ∧ h = h0
set_option maxRecDepth 65536 in
set_option maxHeartbeats 40000000 in
theorem rm15 (l : Launch) (Z : State) (a0 : Array Value) (hw : ∀ d ∈ tables_1, d.before a0 Z = true) (ws : List Jvm.Cond) (a1 : Addr) (h0 : Heap) (n0 : Nat) (Z0 : n0 ≤ h0.size) (Fs : Fld Z h0 a1 "com/example/flatfinder/flatfinder/neighbours/Points" "size" "I" (.int (66 : Int32))) :
    MetFree l (⟨"com/example/flatfinder/flatfinder/neighbours/Points", "size", "()I"⟩ : MethodName) (head1 (Jvm.Cond.code (⟨"com/example/flatfinder/flatfinder/neighbours/Points", "size", "()I"⟩ : MethodName) prog_66_method_2_code 1 (some .int) :: ws) ({ frames := 0, cells := 0, slots := 0, locals := 0 } : Room)) (fun a U => a = #[(.ref a1)] ∧ Z.Warmed39 U.vm ∧ U.heap = h0) (fun _ _ _ _ _ => True) (fun _ U o U' => ∃ v L, o = .returned v ∧ Qrm15 Z a1 h0 n0 v U'.heap L ∧ FrameEnd U o U' L ({ frames := 0, cells := 0, slots := 0, locals := 0 } : Room).cells ({ frames := 0, cells := 0, slots := 0, locals := 0 } : Room).slots) := by
  refine MetFree.of_bodySF (plainFor_of_name pn_com_example_flatfinder_flatfinder_neighbours_Points) hisR ?_
  intro p e s m args below meth c s₁ Bd hml0 hP hK
  obtain ⟨rfl, hZ, hh⟩ := hP
  have hx := Bd.exec
  have hby := Bd.bytes
  have hml : c.maxLocals = 1 := hml0
  have hown : s.vm.findClass "com/example/flatfinder/flatfinder/neighbours/Points" = some m.cls := findClass_of_methodNamed Bd.named
  have hnm := (name_of_methodNamed Bd.named Bd.method).1
  have X0 : Stand p l e ({ frames := 0, cells := 0, slots := 0, locals := 0 } : Room) s m #[(.ref a1)] below meth c s₁ [] 0 0 := Stand.of_body Bd
  have e0 : s₁.heap = h0 := by rw [← hh, Bd.state]; rfl
  have N0 := Fr.nil n0
  have pre0 : ∀ tg, Steps p.tables e below (s₁.setTop (mkF m 0 #[.val (.ref a1)] [])) tg → Steps p.tables e below (s₁.setTop (entryFrame m #[(.ref a1)] 1)) tg := fun tg kg => castTop (ef_rm15 m a1) kg
  obtain ⟨T4, X4, e4, st4⟩ := getF X0 hx hZ hown (host := "") (Or.inl (wd hw 20 rfl)) Via.refl e0 Fs (g := (mkF m 1 #[vR a1] [(.ref a1)])) rfl rfl (hb hby d15_1)
  obtain ⟨fs, hr, hrun, hended, hW, hsame⟩ := X4.leave (v := some (.int (66 : Int32))) (fun h => by rw [Bd.returns] at h; cases h)
  refine ⟨_, _, pre0 _ ?_, hrun, hended, _, _, rfl, ?_, ⟨_, rfl⟩, hW, hsame.mono (by decide) (by decide)⟩
  · show Steps p.tables e below (s₁.setTop (mkF m 0 #[vR a1] [])) _
    refine XS.aloadN X0.here hx rfl (hb hby d15_0) rfl rfl ?_
    show Steps p.tables e below (s₁.setTop (mkF m 1 #[vR a1] [(.ref a1)])) _
    refine st4 _ ?_
    show Steps p.tables e below (T4.setTop (mkF m 4 #[vR a1] [(.int (66 : Int32))])) _
    exact retI X4 hx Bd.returns (hb hby d15_4) hr
  · show Qrm15 Z a1 h0 n0 _ T4.heap _
    rw [e4]
    exact ⟨rfl, N0, rfl⟩
theorem d6_0 : decode prog_66_method_3_code 0 = .ok (.aload_n 0, 1) := by decide +kernel
theorem d6_1 : decode prog_66_method_3_code 1 = .ok (.getfield 31, 3) := by decide +kernel
theorem d6_4 : decode prog_66_method_3_code 4 = .ok (.ireturn, 1) := by decide +kernel
theorem ef_rm6 (m : MethodId) (a1 : Addr) : entryFrame m #[(.ref a1)] 1 = mkF m 0 #[.val (.ref a1)] [] := by first | (simp [entryFrame, mkF, argsToLocals, Value.category]; done) | rfl
def Qrm6 (Z : State) (a1 : Addr) (h0 : Heap) (n0 : Nat) (v : Option Value) (h : Heap) (L : List Loc) : Prop := v = some (.int (1 : Int32)) ∧ Fr n0 L ∧ h = h0
set_option maxRecDepth 65536 in
set_option maxHeartbeats 40000000 in
theorem rm6 (l : Launch) (Z : State) (a0 : Array Value) (hw : ∀ d ∈ tables_1, d.before a0 Z = true) (ws : List Jvm.Cond) (a1 : Addr) (h0 : Heap) (n0 : Nat) (Z0 : n0 ≤ h0.size) (Fd : Fld Z h0 a1 "com/example/flatfinder/flatfinder/neighbours/Points" "dimensions" "I" (.int (1 : Int32))) :
    MetFree l (⟨"com/example/flatfinder/flatfinder/neighbours/Points", "dimensions", "()I"⟩ : MethodName) (head1 (Jvm.Cond.code (⟨"com/example/flatfinder/flatfinder/neighbours/Points", "dimensions", "()I"⟩ : MethodName) prog_66_method_3_code 1 (some .int) :: ws) ({ frames := 0, cells := 0, slots := 0, locals := 0 } : Room)) (fun a U => a = #[(.ref a1)] ∧ Z.Warmed39 U.vm ∧ U.heap = h0) (fun _ _ _ _ _ => True) (fun _ U o U' => ∃ v L, o = .returned v ∧ Qrm6 Z a1 h0 n0 v U'.heap L ∧ FrameEnd U o U' L ({ frames := 0, cells := 0, slots := 0, locals := 0 } : Room).cells ({ frames := 0, cells := 0, slots := 0, locals := 0 } : Room).slots) := by
  refine MetFree.of_bodySF (plainFor_of_name pn_com_example_flatfinder_flatfinder_neighbours_Points) hisR ?_
  intro p e s m args below meth c s₁ Bd hml0 hP hK
  obtain ⟨rfl, hZ, hh⟩ := hP
  have hx := Bd.exec
  have hby := Bd.bytes
  have hml : c.maxLocals = 1 := hml0
  have hown : s.vm.findClass "com/example/flatfinder/flatfinder/neighbours/Points" = some m.cls := findClass_of_methodNamed Bd.named
  have hnm := (name_of_methodNamed Bd.named Bd.method).1
  have X0 : Stand p l e ({ frames := 0, cells := 0, slots := 0, locals := 0 } : Room) s m #[(.ref a1)] below meth c s₁ [] 0 0 := Stand.of_body Bd
  have e0 : s₁.heap = h0 := by rw [← hh, Bd.state]; rfl
  have N0 := Fr.nil n0
  have pre0 : ∀ tg, Steps p.tables e below (s₁.setTop (mkF m 0 #[.val (.ref a1)] [])) tg → Steps p.tables e below (s₁.setTop (entryFrame m #[(.ref a1)] 1)) tg := fun tg kg => castTop (ef_rm6 m a1) kg
  obtain ⟨T5, X5, e5, st5⟩ := getF X0 hx hZ hown (host := "") (Or.inl (wd hw 22 rfl)) Via.refl e0 Fd (g := (mkF m 1 #[vR a1] [(.ref a1)])) rfl rfl (hb hby d6_1)
  obtain ⟨fs, hr, hrun, hended, hW, hsame⟩ := X5.leave (v := some (.int (1 : Int32))) (fun h => by rw [Bd.returns] at h; cases h)
  refine ⟨_, _, pre0 _ ?_, hrun, hended, _, _, rfl, ?_, ⟨_, rfl⟩, hW, hsame.mono (by decide) (by decide)⟩
  · show Steps p.tables e below (s₁.setTop (mkF m 0 #[vR a1] [])) _
    refine XS.aloadN X0.here hx rfl (hb hby d6_0) rfl rfl ?_
    show Steps p.tables e below (s₁.setTop (mkF m 1 #[vR a1] [(.ref a1)])) _
    refine st5 _ ?_
    show Steps p.tables e below (T5.setTop (mkF m 4 #[vR a1] [(.int (1 : Int32))])) _
    exact retI X5 hx Bd.returns (hb hby d6_4) hr
  · show Qrm6 Z a1 h0 n0 _ T5.heap _
    rw [e5]
    exact ⟨rfl, N0, rfl⟩
theorem d10_0 : decode prog_66_method_4_code 0 = .ok (.iload_n 1, 1) := by decide +kernel
theorem d10_1 : decode prog_66_method_4_code 1 = .ok (.aload_n 0, 1) := by decide +kernel
theorem d10_2 : decode prog_66_method_4_code 2 = .ok (.getfield 25, 3) := by decide +kernel
theorem d10_5 : decode prog_66_method_4_code 5 = .ok (.invokestatic 43, 3) := by decide +kernel
theorem pd__II_I : parseMethodDescriptor "(II)I" = some ⟨[.int, .int], some .int⟩ := by decide +kernel
theorem d10_8 : decode prog_66_method_4_code 8 = .ok (.pop, 1) := by decide +kernel
theorem d10_9 : decode prog_66_method_4_code 9 = .ok (.iload_n 2, 1) := by decide +kernel
theorem d10_10 : decode prog_66_method_4_code 10 = .ok (.aload_n 0, 1) := by decide +kernel
theorem d10_11 : decode prog_66_method_4_code 11 = .ok (.getfield 31, 3) := by decide +kernel
theorem d10_14 : decode prog_66_method_4_code 14 = .ok (.invokestatic 43, 3) := by decide +kernel
theorem d10_17 : decode prog_66_method_4_code 17 = .ok (.pop, 1) := by decide +kernel
theorem d10_18 : decode prog_66_method_4_code 18 = .ok (.aload_n 0, 1) := by decide +kernel
theorem d10_19 : decode prog_66_method_4_code 19 = .ok (.getfield 40, 3) := by decide +kernel
theorem d10_22 : decode prog_66_method_4_code 22 = .ok (.iload_n 1, 1) := by decide +kernel
theorem d10_23 : decode prog_66_method_4_code 23 = .ok (.aload_n 0, 1) := by decide +kernel
theorem d10_24 : decode prog_66_method_4_code 24 = .ok (.getfield 31, 3) := by decide +kernel
theorem d10_27 : decode prog_66_method_4_code 27 = .ok (.imul, 1) := by decide +kernel
theorem d10_28 : decode prog_66_method_4_code 28 = .ok (.iload_n 2, 1) := by decide +kernel
theorem d10_29 : decode prog_66_method_4_code 29 = .ok (.iadd, 1) := by decide +kernel
theorem d10_30 : decode prog_66_method_4_code 30 = .ok (.daload, 1) := by decide +kernel
theorem d10_31 : decode prog_66_method_4_code 31 = .ok (.dreturn, 1) := by decide +kernel
theorem ef_rm10 (m : MethodId) (a1 : Addr) (p1 : Int32) : entryFrame m #[(.ref a1), (.int p1), (.int (0 : Int32))] 3 = mkF m 0 #[.val (.ref a1), .val (.int p1), .val (.int (0 : Int32))] [] := by first | (simp [entryFrame, mkF, argsToLocals, Value.category]; done) | rfl
def Qrm10 (Z : State) (a1 : Addr) (p1 : Int32) (co : Addr) (gc : Nat → UInt64) (h0 : Heap) (n0 : Nat) (v : Option Value) (h : Heap) (L : List Loc) : Prop := v = some (.double (gc p1.toNatClampNeg)) ∧ Fr n0 L ∧ h = h0
set_option maxRecDepth 65536 in
set_option maxHeartbeats 40000000 in
theorem rm10 (l : Launch) (Z : State) (a0 : Array Value) (hw : ∀ d ∈ tables_1, d.before a0 Z = true) (ws : List Jvm.Cond) (a1 : Addr) (p1 : Int32) (co : Addr) (gc : Nat → UInt64) (h0 : Heap) (n0 : Nat) (Z0 : n0 ≤ h0.size) (Fs : Fld Z h0 a1 "com/example/flatfinder/flatfinder/neighbours/Points" "size" "I" (.int (66 : Int32))) (Fd : Fld Z h0 a1 "com/example/flatfinder/flatfinder/neighbours/Points" "dimensions" "I" (.int (1 : Int32))) (Fc : Fld Z h0 a1 "com/example/flatfinder/flatfinder/neighbours/Points" "coordinates" "[D" (.ref co)) (Vc : own_V Z h0 co .double 66 (fun ii => .double (gc ii))) (hi : own_ix 66 p1) :
    MetFree l (⟨"com/example/flatfinder/flatfinder/neighbours/Points", "coordinate", "(II)D"⟩ : MethodName) (head1 (Jvm.Cond.code (⟨"com/example/flatfinder/flatfinder/neighbours/Points", "coordinate", "(II)D"⟩ : MethodName) prog_66_method_4_code 3 (some .double) :: ws) ({ frames := 2, cells := 0, slots := 0, locals := 27 } : Room)) (fun a U => a = #[(.ref a1), (.int p1), (.int (0 : Int32))] ∧ Z.Warmed39 U.vm ∧ U.heap = h0) (fun _ _ _ _ _ => True) (fun _ U o U' => ∃ v L, o = .returned v ∧ Qrm10 Z a1 p1 co gc h0 n0 v U'.heap L ∧ FrameEnd U o U' L ({ frames := 2, cells := 0, slots := 0, locals := 27 } : Room).cells ({ frames := 2, cells := 0, slots := 0, locals := 27 } : Room).slots) := by
  refine MetFree.of_bodySF (plainFor_of_name pn_com_example_flatfinder_flatfinder_neighbours_Points) hisR ?_
  intro p e s m args below meth c s₁ Bd hml0 hP hK
  obtain ⟨rfl, hZ, hh⟩ := hP
  have hx := Bd.exec
  have hby := Bd.bytes
  have hml : c.maxLocals = 3 := hml0
  have hown : s.vm.findClass "com/example/flatfinder/flatfinder/neighbours/Points" = some m.cls := findClass_of_methodNamed Bd.named
  have hnm := (name_of_methodNamed Bd.named Bd.method).1
  have X0 : Stand p l e ({ frames := 2, cells := 0, slots := 0, locals := 27 } : Room) s m #[(.ref a1), (.int p1), (.int (0 : Int32))] below meth c s₁ [] 0 0 := Stand.of_body Bd
  have e0 : s₁.heap = h0 := by rw [← hh, Bd.state]; rfl
  have N0 := Fr.nil n0
  have pre0 : ∀ tg, Steps p.tables e below (s₁.setTop (mkF m 0 #[.val (.ref a1), .val (.int p1), .val (.int (0 : Int32))] [])) tg → Steps p.tables e below (s₁.setTop (entryFrame m #[(.ref a1), (.int p1), (.int (0 : Int32))] 3)) tg := fun tg kg => castTop (ef_rm10 m a1 p1) kg
  obtain ⟨T6, X6, e6, st6⟩ := getF X0 hx hZ hown (host := "") (Or.inl (wd hw 20 rfl)) Via.refl e0 Fs (g := (mkF m 2 #[vR a1, vI p1, vI 0] [(.ref a1), (.int p1)])) rfl rfl (hb hby d10_2)
  obtain ⟨_, _, ⟨T7, L7, k7, n7⟩, -, X7, ⟨Lc7, hQ7, l7, y7, z7⟩, st7⟩ := Jvm.LawKit.callS X6 hx (y := (⟨"java/util/Objects", "checkIndex", "(II)I"⟩ : MethodName)) hown (mvT hZ (wd hw 101 rfl)) (mvT hZ (wd hw 102 rfl)) (mvT hZ (wd hw 103 rfl)) (mvT hZ (wd hw 104 rfl)) (by decide) (backOf (W := 0) (rm11 l Z a0 hw [] p1 (66 : Int32)  h0 n0 Z0 (own_ix0 hi) (own_ixl hi (by decide))) hZ (wd hw 104 rfl) (wd hw 103 rfl) (by decide) (by decide)) (g := (mkF m 5 #[vR a1, vI p1, vI 0] [(.int (66 : Int32)), (.int p1)])) rfl (by rw [hml]; rfl) (argsL := [(.int p1), (.int (66 : Int32))]) (rest := []) (lenOf pd__II_I rfl) rfl (by show 2 * 0 + _ ≤ _; exact Nat.le_of_eq rfl) (hb hby d10_5) (fun _ _ => ⟨rfl, e6, (by decide : 0 + 0 ≤ _), (by decide : 0 + 0 ≤ _)⟩)
  dsimp only [Pt.U, Pt.locs, Pt.cells, Pt.slots] at X7 l7 y7 z7 st7 hQ7
  subst l7 y7 z7
  obtain ⟨rfl, N7q, e7⟩ := hQ7
  have N8 := Fr.app N0 N7q
  obtain ⟨T9, X9, e9, st9⟩ := getF X7 hx hZ hown (host := "") (Or.inl (wd hw 22 rfl)) Via.refl e7 Fd (g := (mkF m 11 #[vR a1, vI p1, vI 0] [(.ref a1), (.int (0 : Int32))])) rfl rfl (hb hby d10_11)
  obtain ⟨_, _, ⟨T10, L10, k10, n10⟩, -, X10, ⟨Lc10, hQ10, l10, y10, z10⟩, st10⟩ := Jvm.LawKit.callS X9 hx (y := (⟨"java/util/Objects", "checkIndex", "(II)I"⟩ : MethodName)) hown (mvT hZ (wd hw 101 rfl)) (mvT hZ (wd hw 102 rfl)) (mvT hZ (wd hw 103 rfl)) (mvT hZ (wd hw 104 rfl)) (by decide) (backOf (W := 0) (rm11 l Z a0 hw [] (0 : Int32) (1 : Int32)  h0 n0 Z0 (by decide) (by decide)) hZ (wd hw 104 rfl) (wd hw 103 rfl) (by decide) (by decide)) (g := (mkF m 14 #[vR a1, vI p1, vI 0] [(.int (1 : Int32)), (.int (0 : Int32))])) rfl (by rw [hml]; rfl) (argsL := [(.int (0 : Int32)), (.int (1 : Int32))]) (rest := []) (lenOf pd__II_I rfl) rfl (by show 2 * 0 + _ ≤ _; exact Nat.le_of_eq rfl) (hb hby d10_14) (fun _ _ => ⟨rfl, e9, (by decide : 0 + 0 ≤ _), (by decide : 0 + 0 ≤ _)⟩)
  dsimp only [Pt.U, Pt.locs, Pt.cells, Pt.slots] at X10 l10 y10 z10 st10 hQ10
  subst l10 y10 z10
  obtain ⟨rfl, N10q, e10⟩ := hQ10
  have N11 := Fr.app N8 N10q
  obtain ⟨T12, X12, e12, st12⟩ := getF X10 hx hZ hown (host := "") (Or.inl (wd hw 33 rfl)) Via.refl e10 Fc (g := (mkF m 19 #[vR a1, vI p1, vI 0] [(.ref a1)])) rfl rfl (hb hby d10_19)
  obtain ⟨T13, X13, e13, st13⟩ := getF X12 hx hZ hown (host := "") (Or.inl (wd hw 22 rfl)) Via.refl e12 Fd (g := (mkF m 24 #[vR a1, vI p1, vI 0] [(.ref a1), (.int p1), (.ref co)])) rfl rfl (hb hby d10_24)
  obtain ⟨fs, hr, hrun, hended, hW, hsame⟩ := X13.leave (v := some (.double (gc (p1).toNatClampNeg))) (fun h => by rw [Bd.returns] at h; cases h)
  refine ⟨_, _, pre0 _ ?_, hrun, hended, _, _, rfl, ?_, ⟨_, rfl⟩, hW, hsame.mono (by decide) (by decide)⟩
  · show Steps p.tables e below (s₁.setTop (mkF m 0 #[vR a1, vI p1, vI 0] [])) _
    refine XS.iloadN X0.here hx rfl (hb hby d10_0) rfl ?_
    refine XS.aloadN X0.here hx rfl (hb hby d10_1) rfl rfl ?_
    show Steps p.tables e below (s₁.setTop (mkF m 2 #[vR a1, vI p1, vI 0] [(.ref a1), (.int p1)])) _
    refine st6 _ ?_
    show Steps p.tables e below (T6.setTop (mkF m 5 #[vR a1, vI p1, vI 0] [(.int (66 : Int32)), (.int p1)])) _
    refine st7 _ ?_
    show Steps p.tables e below (T7.setTop (mkF m 8 #[vR a1, vI p1, vI 0] [(.int p1)])) _
    refine XS.pop X7.here hx rfl (hb hby d10_8) rfl rfl ?_
    refine XS.iloadN X7.here hx rfl (hb hby d10_9) rfl ?_
    refine XS.aloadN X7.here hx rfl (hb hby d10_10) rfl rfl ?_
    show Steps p.tables e below (T7.setTop (mkF m 11 #[vR a1, vI p1, vI 0] [(.ref a1), (.int (0 : Int32))])) _
    refine st9 _ ?_
    show Steps p.tables e below (T9.setTop (mkF m 14 #[vR a1, vI p1, vI 0] [(.int (1 : Int32)), (.int (0 : Int32))])) _
    refine st10 _ ?_
    show Steps p.tables e below (T10.setTop (mkF m 17 #[vR a1, vI p1, vI 0] [(.int (0 : Int32))])) _
    refine XS.pop X10.here hx rfl (hb hby d10_17) rfl rfl ?_
    refine XS.aloadN X10.here hx rfl (hb hby d10_18) rfl rfl ?_
    show Steps p.tables e below (T10.setTop (mkF m 19 #[vR a1, vI p1, vI 0] [(.ref a1)])) _
    refine st12 _ ?_
    show Steps p.tables e below (T12.setTop (mkF m 22 #[vR a1, vI p1, vI 0] [(.ref co)])) _
    refine XS.iloadN X12.here hx rfl (hb hby d10_22) rfl ?_
    refine XS.aloadN X12.here hx rfl (hb hby d10_23) rfl rfl ?_
    show Steps p.tables e below (T12.setTop (mkF m 24 #[vR a1, vI p1, vI 0] [(.ref a1), (.int p1), (.ref co)])) _
    refine st13 _ ?_
    show Steps p.tables e below (T13.setTop (mkF m 27 #[vR a1, vI p1, vI 0] [(.int (1 : Int32)), (.int p1), (.ref co)])) _
    refine XS.imul X13.here hx rfl (hb hby d10_27) rfl ?_
    refine XS.iloadN X13.here hx rfl (hb hby d10_28) rfl ?_
    refine XS.iadd X13.here hx rfl (hb hby d10_29) rfl ?_
    show Steps p.tables e below (T13.setTop (mkF m 30 #[vR a1, vI p1, vI 0] [(.int ((p1 * (1 : Int32)) + (0 : Int32))), (.ref co)])) _
    rw [own_idx]
    show Steps p.tables e below (T13.setTop (mkF m 30 #[vR a1, vI p1, vI 0] [(.int p1), (.ref co)])) _
    refine own_ldD X13 hx hZ e13 Vc (j := p1) hi (f := (mkF m 30 #[vR a1, vI p1, vI 0] [(.int p1), (.ref co)])) rfl rfl (hb hby d10_30) _ ?_
    show Steps p.tables e below (T13.setTop (mkF m 31 #[vR a1, vI p1, vI 0] [(.double (gc (p1).toNatClampNeg))])) _
    exact retOut X13 hx Bd.returns rfl (Or.inr (Or.inr (Or.inl ⟨rfl, rfl, _, rfl⟩))) (hb hby d10_31) hr
  · show Qrm10 Z a1 p1 co gc h0 n0 _ T13.heap _
    rw [e13]
    exact ⟨rfl, N11, rfl⟩
theorem d9_0 : decode jdk_29_method_65_code 0 = .ok (.iload_n 0, 1) := by decide +kernel
theorem d9_1 : decode jdk_29_method_65_code 1 = .ok (.iload_n 1, 1) := by decide +kernel
theorem d9_2 : decode jdk_29_method_65_code 2 = .ok (.if_icmp .lt 7, 3) := by decide +kernel
theorem d9_9 : decode jdk_29_method_65_code 9 = .ok (.iload_n 1, 1) := by decide +kernel
theorem d9_10 : decode jdk_29_method_65_code 10 = .ok (.ireturn, 1) := by decide +kernel
theorem d9_5 : decode jdk_29_method_65_code 5 = .ok (.iload_n 0, 1) := by decide +kernel
theorem d9_6 : decode jdk_29_method_65_code 6 = .ok (.goto 4, 3) := by decide +kernel
theorem ef_rm9 (m : MethodId) (p0 : Int32) (p1 : Int32) : entryFrame m #[(.int p0), (.int p1)] 2 = mkF m 0 #[.val (.int p0), .val (.int p1)] [] := by first | (simp [entryFrame, mkF, argsToLocals, Value.category]; done) | rfl
def Qrm9 (Z : State) (p0 : Int32) (p1 : Int32) (h0 : Heap) (n0 : Nat) (v : Option Value) (h : Heap) (L : List Loc) : Prop := v = some (.int (own_max p0 p1)) ∧ Fr n0 L ∧ h = h0
set_option maxRecDepth 65536 in
set_option maxHeartbeats 40000000 in
theorem rm9 (l : Launch) (Z : State) (a0 : Array Value) (hw : ∀ d ∈ tables_1, d.before a0 Z = true) (ws : List Jvm.Cond) (p0 : Int32) (p1 : Int32) (h0 : Heap) (n0 : Nat) (Z0 : n0 ≤ h0.size) :
    MetFree l (⟨"java/lang/Math", "max", "(II)I"⟩ : MethodName) (head1 (Jvm.Cond.code (⟨"java/lang/Math", "max", "(II)I"⟩ : MethodName) jdk_29_method_65_code 2 (some .int) :: ws) ({ frames := 0, cells := 0, slots := 0, locals := 0 } : Room)) (fun a U => a = #[(.int p0), (.int p1)] ∧ Z.Warmed39 U.vm ∧ U.heap = h0) (fun _ _ _ _ _ => True) (fun _ U o U' => ∃ v L, o = .returned v ∧ Qrm9 Z p0 p1 h0 n0 v U'.heap L ∧ FrameEnd U o U' L ({ frames := 0, cells := 0, slots := 0, locals := 0 } : Room).cells ({ frames := 0, cells := 0, slots := 0, locals := 0 } : Room).slots) := by
  refine MetFree.of_bodySF (Jvm.Free.JP.mathPlain rfl (by decide +kernel)) hisR ?_
  intro p e s m args below meth c s₁ Bd hml0 hP hK
  obtain ⟨rfl, hZ, hh⟩ := hP
  have hx := Bd.exec
  have hby := Bd.bytes
  have hml : c.maxLocals = 2 := hml0
  have hown : s.vm.findClass "java/lang/Math" = some m.cls := findClass_of_methodNamed Bd.named
  have hnm := (name_of_methodNamed Bd.named Bd.method).1
  have X0 : Stand p l e ({ frames := 0, cells := 0, slots := 0, locals := 0 } : Room) s m #[(.int p0), (.int p1)] below meth c s₁ [] 0 0 := Stand.of_body Bd
  have e0 : s₁.heap = h0 := by rw [← hh, Bd.state]; rfl
  have N0 := Fr.nil n0
  have pre0 : ∀ tg, Steps p.tables e below (s₁.setTop (mkF m 0 #[.val (.int p0), .val (.int p1)] [])) tg → Steps p.tables e below (s₁.setTop (entryFrame m #[(.int p0), (.int p1)] 2)) tg := fun tg kg => castTop (ef_rm9 m p0 p1) kg
  obtain ⟨v15, hv15⟩ : ∃ v : Int32, v = if p0 < p1 then p1 else p0 := ⟨_, rfl⟩
  obtain ⟨fs, hr, hrun, hended, hW, hsame⟩ := X0.leave (v := some (.int v15)) (fun h => by rw [Bd.returns] at h; cases h)
  refine ⟨_, _, pre0 _ ?_, hrun, hended, _, _, rfl, ?_, ⟨_, rfl⟩, hW, hsame.mono (by decide) (by decide)⟩
  · show Steps p.tables e below (s₁.setTop (mkF m 0 #[vI p0, vI p1] [])) _
    refine XS.iloadN X0.here hx rfl (hb hby d9_0) rfl ?_
    refine XS.iloadN X0.here hx rfl (hb hby d9_1) rfl ?_
    by_cases hc14 : p0 < p1
    · rw [show v15 = p1 from by rw [hv15, if_pos hc14]] at hr
      show Steps p.tables e below (s₁.setTop (mkF m 2 #[vI p0, vI p1] [(.int p1), (.int p0)])) _
      refine XS.icmpYes X0.here hx rfl (pc0 := 2) (pc' := 9) rfl (hb hby d9_2) rfl (tlt hc14).1 (by decide) (by decide) ?_
      refine XS.iloadN X0.here hx rfl (hb hby d9_9) rfl ?_
      show Steps p.tables e below (s₁.setTop (mkF m 10 #[vI p0, vI p1] [(.int p1)])) _
      exact retI X0 hx Bd.returns (hb hby d9_10) hr
    · rw [show v15 = p0 from by rw [hv15, if_neg hc14]] at hr
      show Steps p.tables e below (s₁.setTop (mkF m 2 #[vI p0, vI p1] [(.int p1), (.int p0)])) _
      refine XS.icmpNo X0.here hx rfl (hb hby d9_2) rfl (flt hc14).1 ?_
      refine XS.iloadN X0.here hx rfl (hb hby d9_5) rfl ?_
      refine XS.goto X0.here hx rfl (pc0 := 6) (pc' := 10) rfl (hb hby d9_6) (by decide) (by decide) ?_
      show Steps p.tables e below (s₁.setTop (mkF m 10 #[vI p0, vI p1] [(.int p0)])) _
      exact retI X0 hx Bd.returns (hb hby d9_10) hr
  · show Qrm9 Z p0 p1 h0 n0 _ s₁.heap _
    rw [e0]
    exact ⟨by rw [hv15]; rfl, N0, rfl⟩
theorem d24_0 : decode prog_67_method_3_code 0 = .ok (.dload_n 0, 1) := by decide +kernel
theorem d24_1 : decode prog_67_method_3_code 1 = .ok (.dload_n 2, 1) := by decide +kernel
theorem d24_2 : decode prog_67_method_3_code 2 = .ok (.invokestatic 13, 3) := by decide +kernel
theorem pd__DD_D : parseMethodDescriptor "(DD)D" = some ⟨[.double, .double], some .double⟩ := by decide +kernel
theorem d24_5 : decode prog_67_method_3_code 5 = .ok (.dload_n 0, 1) := by decide +kernel
theorem d24_6 : decode prog_67_method_3_code 6 = .ok (.dload_n 2, 1) := by decide +kernel
theorem d24_7 : decode prog_67_method_3_code 7 = .ok (.invokestatic 19, 3) := by decide +kernel
theorem d24_10 : decode prog_67_method_3_code 10 = .ok (.dload 4, 2) := by decide +kernel
theorem d24_12 : decode prog_67_method_3_code 12 = .ok (.invokestatic 13, 3) := by decide +kernel
theorem d24_15 : decode prog_67_method_3_code 15 = .ok (.invokestatic 19, 3) := by decide +kernel
theorem d24_18 : decode prog_67_method_3_code 18 = .ok (.dreturn, 1) := by decide +kernel
theorem pn_com_example_flatfinder_flatfinder_neighbours_Selection : plainName "com/example/flatfinder/flatfinder/neighbours/Selection" = true := by first | (simp [plainName, overriddenIn]; done) | decide +kernel
theorem ef_rm24 (m : MethodId) (d0 : UInt64) (d1 : UInt64) (d2 : UInt64) : entryFrame m #[(.double d0), (.double d1), (.double d2)] 6 = mkF m 0 #[.val (.double d0), .second, .val (.double d1), .second, .val (.double d2), .second] [] := by first | (simp [entryFrame, mkF, argsToLocals, Value.category]; done) | rfl
def Qrm24 (Z : State) (d0 : UInt64) (d1 : UInt64) (d2 : UInt64) (h0 : Heap) (n0 : Nat) (v : Option Value) (h : Heap) (L : List Loc) : Prop := v = some (.double (own_med d0 d1 d2)) ∧ Fr n0 L ∧ h = h0
set_option maxRecDepth 65536 in
set_option maxHeartbeats 40000000 in
theorem rm24 (l : Launch) (Z : State) (a0 : Array Value) (hw : ∀ d ∈ tables_1, d.before a0 Z = true) (ws : List Jvm.Cond) (d0 : UInt64) (d1 : UInt64) (d2 : UInt64) (h0 : Heap) (n0 : Nat) (Z0 : n0 ≤ h0.size) (h0n : Jvm.Free.Fl.NoNaN64 d0) (h1n : Jvm.Free.Fl.NoNaN64 d1) (h2n : Jvm.Free.Fl.NoNaN64 d2) :
    MetFree l (⟨"com/example/flatfinder/flatfinder/neighbours/Selection", "median", "(DDD)D"⟩ : MethodName) (head1 (Jvm.Cond.code (⟨"com/example/flatfinder/flatfinder/neighbours/Selection", "median", "(DDD)D"⟩ : MethodName) prog_67_method_3_code 6 (some .double) :: ws) ({ frames := 1, cells := 0, slots := 0, locals := 17 } : Room)) (fun a U => a = #[(.double d0), (.double d1), (.double d2)] ∧ Z.Warmed39 U.vm ∧ U.heap = h0) (fun _ _ _ _ _ => True) (fun _ U o U' => ∃ v L, o = .returned v ∧ Qrm24 Z d0 d1 d2 h0 n0 v U'.heap L ∧ FrameEnd U o U' L ({ frames := 1, cells := 0, slots := 0, locals := 17 } : Room).cells ({ frames := 1, cells := 0, slots := 0, locals := 17 } : Room).slots) := by
  refine MetFree.of_bodySF (plainFor_of_name pn_com_example_flatfinder_flatfinder_neighbours_Selection) hisR ?_
  intro p e s m args below meth c s₁ Bd hml0 hP hK
  obtain ⟨rfl, hZ, hh⟩ := hP
  have hx := Bd.exec
  have hby := Bd.bytes
  have hml : c.maxLocals = 6 := hml0
  have hown : s.vm.findClass "com/example/flatfinder/flatfinder/neighbours/Selection" = some m.cls := findClass_of_methodNamed Bd.named
  have hnm := (name_of_methodNamed Bd.named Bd.method).1
  have X0 : Stand p l e ({ frames := 1, cells := 0, slots := 0, locals := 17 } : Room) s m #[(.double d0), (.double d1), (.double d2)] below meth c s₁ [] 0 0 := Stand.of_body Bd
  have e0 : s₁.heap = h0 := by rw [← hh, Bd.state]; rfl
  have N0 := Fr.nil n0
  have pre0 : ∀ tg, Steps p.tables e below (s₁.setTop (mkF m 0 #[.val (.double d0), .second, .val (.double d1), .second, .val (.double d2), .second] [])) tg → Steps p.tables e below (s₁.setTop (entryFrame m #[(.double d0), (.double d1), (.double d2)] 6)) tg := fun tg kg => castTop (ef_rm24 m d0 d1 d2) kg
  obtain ⟨_, vm16, ⟨Tq16, L16, k16, n16⟩, -, X16, ⟨hr16, hB16⟩, st16⟩ := Jvm.LawKit.callS X0 hx (y := (⟨"java/lang/Math", "min", "(DD)D"⟩ : MethodName)) hown (mvT hZ (wd hw 176 rfl)) (mvT hZ (wd hw 110 rfl)) (mvT hZ (wd hw 17 rfl)) (mvT hZ (wd hw 111 rfl)) (by decide) (Jvm.Free.Fl.Abs.minD_pays (W := 0) d0 d1 (mvT hZ (wd hw 111 rfl)) (by decide) (by decide)) (g := (mkF m 2 #[vD d0, .second, vD d1, .second, vD d2, .second] [(.double d1), (.double d0)])) rfl (by rw [hml]; rfl) (argsL := [(.double d0), (.double d1)]) (rest := []) (lenOf pd__DD_D rfl) rfl (by show 2 * 0 + _ ≤ _; exact Nat.le_of_eq rfl) (hb hby d24_2) (fun _ _ => ⟨by show 0 ≤ _; decide, by show 0 ≤ _; decide, rfl, h0n, h1n⟩)
  simp only [Prod.mk.injEq] at hB16
  obtain ⟨rfl, rfl, rfl, rfl⟩ := hB16
  subst hr16
  dsimp only [Pt.U, Pt.locs, Pt.cells, Pt.slots] at X16 st16
  have e16 : (s₁.setVm vm16).heap = h0 := e0
  generalize s₁.setVm vm16 = T16 at X16 st16 e16
  obtain ⟨_, vm17, ⟨Tq17, L17, k17, n17⟩, -, X17, ⟨hr17, hB17⟩, st17⟩ := Jvm.LawKit.callS X16 hx (y := (⟨"java/lang/Math", "max", "(DD)D"⟩ : MethodName)) hown (mvT hZ (wd hw 177 rfl)) (mvT hZ (wd hw 113 rfl)) (mvT hZ (wd hw 17 rfl)) (mvT hZ (wd hw 114 rfl)) (by decide) (Jvm.Free.Fl.Abs.maxD_pays (W := 2) d0 d1 (mvT hZ (wd hw 114 rfl)) (by decide) (by decide)) (g := (mkF m 7 #[vD d0, .second, vD d1, .second, vD d2, .second] [(.double d1), (.double d0), (.double (own_pk false d0 d1))])) rfl (by rw [hml]; rfl) (argsL := [(.double d0), (.double d1)]) (rest := [(.double (own_pk false d0 d1))]) (lenOf pd__DD_D rfl) rfl (by show 2 * 0 + _ ≤ _; exact Nat.le_of_eq rfl) (hb hby d24_7) (fun _ _ => ⟨by show 0 ≤ _; decide, by show 0 ≤ _; decide, rfl, h0n, h1n⟩)
  simp only [Prod.mk.injEq] at hB17
  obtain ⟨rfl, rfl, rfl, rfl⟩ := hB17
  subst hr17
  dsimp only [Pt.U, Pt.locs, Pt.cells, Pt.slots] at X17 st17
  have e17 : (T16.setVm vm17).heap = h0 := e16
  generalize T16.setVm vm17 = T17 at X17 st17 e17
  obtain ⟨_, vm18, ⟨Tq18, L18, k18, n18⟩, -, X18, ⟨hr18, hB18⟩, st18⟩ := Jvm.LawKit.callS X17 hx (y := (⟨"java/lang/Math", "min", "(DD)D"⟩ : MethodName)) hown (mvT hZ (wd hw 176 rfl)) (mvT hZ (wd hw 110 rfl)) (mvT hZ (wd hw 17 rfl)) (mvT hZ (wd hw 111 rfl)) (by decide) (Jvm.Free.Fl.Abs.minD_pays (W := 2) (own_pk true d0 d1) d2 (mvT hZ (wd hw 111 rfl)) (by decide) (by decide)) (g := (mkF m 12 #[vD d0, .second, vD d1, .second, vD d2, .second] [(.double d2), (.double (own_pk true d0 d1)), (.double (own_pk false d0 d1))])) rfl (by rw [hml]; rfl) (argsL := [(.double (own_pk true d0 d1)), (.double d2)]) (rest := [(.double (own_pk false d0 d1))]) (lenOf pd__DD_D rfl) rfl (by show 2 * 0 + _ ≤ _; exact Nat.le_of_eq rfl) (hb hby d24_12) (fun _ _ => ⟨by show 0 ≤ _; decide, by show 0 ≤ _; decide, rfl, own_pkP (P := Jvm.Free.Fl.NoNaN64) h0n h1n, h2n⟩)
  simp only [Prod.mk.injEq] at hB18
  obtain ⟨rfl, rfl, rfl, rfl⟩ := hB18
  subst hr18
  dsimp only [Pt.U, Pt.locs, Pt.cells, Pt.slots] at X18 st18
  have e18 : (T17.setVm vm18).heap = h0 := e17
  generalize T17.setVm vm18 = T18 at X18 st18 e18
  obtain ⟨_, vm19, ⟨Tq19, L19, k19, n19⟩, -, X19, ⟨hr19, hB19⟩, st19⟩ := Jvm.LawKit.callS X18 hx (y := (⟨"java/lang/Math", "max", "(DD)D"⟩ : MethodName)) hown (mvT hZ (wd hw 177 rfl)) (mvT hZ (wd hw 113 rfl)) (mvT hZ (wd hw 17 rfl)) (mvT hZ (wd hw 114 rfl)) (by decide) (Jvm.Free.Fl.Abs.maxD_pays (W := 0) (own_pk false d0 d1) (own_pk false (own_pk true d0 d1) d2) (mvT hZ (wd hw 114 rfl)) (by decide) (by decide)) (g := (mkF m 15 #[vD d0, .second, vD d1, .second, vD d2, .second] [(.double (own_pk false (own_pk true d0 d1) d2)), (.double (own_pk false d0 d1))])) rfl (by rw [hml]; rfl) (argsL := [(.double (own_pk false d0 d1)), (.double (own_pk false (own_pk true d0 d1) d2))]) (rest := []) (lenOf pd__DD_D rfl) rfl (by show 2 * 0 + _ ≤ _; exact Nat.le_of_eq rfl) (hb hby d24_15) (fun _ _ => ⟨by show 0 ≤ _; decide, by show 0 ≤ _; decide, rfl, own_pkP (P := Jvm.Free.Fl.NoNaN64) h0n h1n, own_pkP (P := Jvm.Free.Fl.NoNaN64) (own_pkP (P := Jvm.Free.Fl.NoNaN64) h0n h1n) h2n⟩)
  simp only [Prod.mk.injEq] at hB19
  obtain ⟨rfl, rfl, rfl, rfl⟩ := hB19
  subst hr19
  dsimp only [Pt.U, Pt.locs, Pt.cells, Pt.slots] at X19 st19
  have e19 : (T18.setVm vm19).heap = h0 := e18
  generalize T18.setVm vm19 = T19 at X19 st19 e19
  obtain ⟨fs, hr, hrun, hended, hW, hsame⟩ := X19.leave (v := some (.double (own_med d0 d1 d2))) (fun h => by rw [Bd.returns] at h; cases h)
  refine ⟨_, _, pre0 _ ?_, hrun, hended, _, _, rfl, ?_, ⟨_, rfl⟩, hW, hsame.mono (by decide) (by decide)⟩
  · show Steps p.tables e below (s₁.setTop (mkF m 0 #[vD d0, .second, vD d1, .second, vD d2, .second] [])) _
    refine own_sloadN X0.here hx (hb hby d24_0) rfl ?_
    show Steps p.tables e below (s₁.setTop (mkF m 1 #[vD d0, .second, vD d1, .second, vD d2, .second] [(.double d0)])) _
    refine own_sloadN X0.here hx (hb hby d24_1) rfl ?_
    show Steps p.tables e below (s₁.setTop (mkF m 2 #[vD d0, .second, vD d1, .second, vD d2, .second] [(.double d1), (.double d0)])) _
    refine st16 _ ?_
    show Steps p.tables e below (T16.setTop (mkF m 5 #[vD d0, .second, vD d1, .second, vD d2, .second] [(.double (own_pk false d0 d1))])) _
    refine own_sloadN X16.here hx (hb hby d24_5) rfl ?_
    show Steps p.tables e below (T16.setTop (mkF m 6 #[vD d0, .second, vD d1, .second, vD d2, .second] [(.double d0), (.double (own_pk false d0 d1))])) _
    refine own_sloadN X16.here hx (hb hby d24_6) rfl ?_
    show Steps p.tables e below (T16.setTop (mkF m 7 #[vD d0, .second, vD d1, .second, vD d2, .second] [(.double d1), (.double d0), (.double (own_pk false d0 d1))])) _
    refine st17 _ ?_
    show Steps p.tables e below (T17.setTop (mkF m 10 #[vD d0, .second, vD d1, .second, vD d2, .second] [(.double (own_pk true d0 d1)), (.double (own_pk false d0 d1))])) _
    refine own_sload X17.here hx (hb hby d24_10) rfl ?_
    show Steps p.tables e below (T17.setTop (mkF m 12 #[vD d0, .second, vD d1, .second, vD d2, .second] [(.double d2), (.double (own_pk true d0 d1)), (.double (own_pk false d0 d1))])) _
    refine st18 _ ?_
    show Steps p.tables e below (T18.setTop (mkF m 15 #[vD d0, .second, vD d1, .second, vD d2, .second] [(.double (own_pk false (own_pk true d0 d1) d2)), (.double (own_pk false d0 d1))])) _
    refine st19 _ ?_
    show Steps p.tables e below (T19.setTop (mkF m 18 #[vD d0, .second, vD d1, .second, vD d2, .second] [(.double (own_med d0 d1 d2))])) _
    exact retOut X19 hx Bd.returns rfl (Or.inr (Or.inr (Or.inl ⟨rfl, rfl, _, rfl⟩))) (hb hby d24_18) hr
  · show Qrm24 Z d0 d1 d2 h0 n0 _ T19.heap _
    rw [e19]
    exact ⟨rfl, N0, rfl⟩
theorem d7_0 : decode prog_54_method_1_code 0 = .ok (.aload_n 0, 1) := by decide +kernel
theorem d7_1 : decode prog_54_method_1_code 1 = .ok (.aload_n 1, 1) := by decide +kernel
theorem d7_2 : decode prog_54_method_1_code 2 = .ok (.putfield 3, 3) := by decide +kernel
theorem d7_5 : decode prog_54_method_1_code 5 = .ok (.aload_n 0, 1) := by decide +kernel
theorem d7_6 : decode prog_54_method_1_code 6 = .ok (.invokespecial 9, 3) := by decide +kernel
theorem d7_9 : decode prog_54_method_1_code 9 = .ok (.return_, 1) := by decide +kernel
theorem pn_com_example_flatfinder_flatfinder_neighbours_KdTree_Builder : plainName "com/example/flatfinder/flatfinder/neighbours/KdTree$Builder" = true := by first | (simp [plainName, overriddenIn]; done) | decide +kernel
theorem ef_rm7 (m : MethodId) (a1 : Addr) (a2 : Addr) : entryFrame m #[(.ref a1), (.ref a2)] 2 = mkF m 0 #[.val (.ref a1), .val (.ref a2)] [] := by first | (simp [entryFrame, mkF, argsToLocals, Value.category]; done) | rfl
def Qrm7 (Z : State) (a1 : Addr) (a2 : Addr) (h0 : Heap) (n0 : Nat) (v : Option Value) (h : Heap) (L : List Loc) : Prop := v = none ∧ Fr n0 L ∧ Keep h0 h [a1] ∧ Fld Z h a1 "com/example/flatfinder/flatfinder/neighbours/KdTree$Builder" "this$0" "Lcom/example/flatfinder/flatfinder/neighbours/KdTree;" (.ref a2) ∧ Fld Z h a1 "com/example/flatfinder/flatfinder/neighbours/KdTree$Builder" "next" "I" (.int (0 : Int32)) ∧ Fld Z h a1 "com/example/flatfinder/flatfinder/neighbours/KdTree$Builder" "depth" "I" (.int (0 : Int32))
set_option maxRecDepth 65536 in
set_option maxHeartbeats 40000000 in
theorem rm7 (l : Launch) (Z : State) (a0 : Array Value) (hw : ∀ d ∈ tables_1, d.before a0 Z = true) (ws : List Jvm.Cond) (a1 : Addr) (a2 : Addr) (h0 : Heap) (n0 : Nat) (Z0 : n0 ≤ h0.size) (E1 : Exa Z h0 a1 "com/example/flatfinder/flatfinder/neighbours/KdTree$Builder") (Ft : Fld Z h0 a1 "com/example/flatfinder/flatfinder/neighbours/KdTree$Builder" "this$0" "Lcom/example/flatfinder/flatfinder/neighbours/KdTree;" .null) (Fn : Fld Z h0 a1 "com/example/flatfinder/flatfinder/neighbours/KdTree$Builder" "next" "I" (.int (0 : Int32))) (Fd : Fld Z h0 a1 "com/example/flatfinder/flatfinder/neighbours/KdTree$Builder" "depth" "I" (.int (0 : Int32))) (g1 : n0 ≤ a1) :
    MetFree l (⟨"com/example/flatfinder/flatfinder/neighbours/KdTree$Builder", "<init>", "(Lcom/example/flatfinder/flatfinder/neighbours/KdTree;)V"⟩ : MethodName) (head1 (Jvm.Cond.code (⟨"com/example/flatfinder/flatfinder/neighbours/KdTree$Builder", "<init>", "(Lcom/example/flatfinder/flatfinder/neighbours/KdTree;)V"⟩ : MethodName) prog_54_method_1_code 2 none :: ws) ({ frames := 1, cells := 0, slots := 0, locals := 12 } : Room)) (fun a U => a = #[(.ref a1), (.ref a2)] ∧ Z.Warmed39 U.vm ∧ U.heap = h0) (fun _ _ _ _ _ => True) (fun _ U o U' => ∃ v L, o = .returned v ∧ Qrm7 Z a1 a2 h0 n0 v U'.heap L ∧ FrameEnd U o U' L ({ frames := 1, cells := 0, slots := 0, locals := 12 } : Room).cells ({ frames := 1, cells := 0, slots := 0, locals := 12 } : Room).slots) := by
  refine MetFree.of_bodySF (plainFor_of_name pn_com_example_flatfinder_flatfinder_neighbours_KdTree_Builder) hisR ?_
  intro p e s m args below meth c s₁ Bd hml0 hP hK
  obtain ⟨rfl, hZ, hh⟩ := hP
  have hx := Bd.exec
  have hby := Bd.bytes
  have hml : c.maxLocals = 2 := hml0
  have hown : s.vm.findClass "com/example/flatfinder/flatfinder/neighbours/KdTree$Builder" = some m.cls := findClass_of_methodNamed Bd.named
  have hnm := (name_of_methodNamed Bd.named Bd.method).1
  have X0 : Stand p l e ({ frames := 1, cells := 0, slots := 0, locals := 12 } : Room) s m #[(.ref a1), (.ref a2)] below meth c s₁ [] 0 0 := Stand.of_body Bd
  have e0 : s₁.heap = h0 := by rw [← hh, Bd.state]; rfl
  have N0 := Fr.nil n0
  have pre0 : ∀ tg, Steps p.tables e below (s₁.setTop (mkF m 0 #[.val (.ref a1), .val (.ref a2)] [])) tg → Steps p.tables e below (s₁.setTop (entryFrame m #[(.ref a1), (.ref a2)] 2)) tg := fun tg kg => castTop (ef_rm7 m a1 a2) kg
  have K0 := Keep.refl h0 [a1]
  obtain ⟨T20, h20, X20, e20, W20, st20⟩ := putF X0 hx hZ hown (host := "") (Or.inl (wd hw 73 rfl)) Via.refl e0 Ft E1 (Or.inr ⟨(wd hw 74 rfl), rfl, hnm⟩) (wd hw 68 rfl) (ty := (.object "com/example/flatfinder/flatfinder/neighbours/KdTree")) (by decide) rfl rfl (g := (mkF m 2 #[vR a1, vR a2] [(.ref a2), (.ref a1)])) rfl rfl (hb hby d7_2)
  have f21 := Ft.same W20
  have f22 := E1.wr W20
  have f23 := Fn.other W20 (Or.inr (slot_ne (Or.inl (wd hw 84 rfl)) (Or.inr (wd hw 74 rfl)) (by decide) (t := .int) (t' := (.object "com/example/flatfinder/flatfinder/neighbours/KdTree")) (by decide) (by decide)))
  have f24 := Fd.other W20 (Or.inr (slot_ne (Or.inl (wd hw 86 rfl)) (Or.inr (wd hw 74 rfl)) (by decide) (t := .int) (t' := (.object "com/example/flatfinder/flatfinder/neighbours/KdTree")) (by decide) (by decide)))
  have Zn25 := Nat.le_trans Z0 (Keep.of_wr W20).1
  have N26 := Fr.snoc X20 N0 g1
  have K27 := K0.wr W20 (Or.inl (List.mem_of_getElem? (i := 0) rfl))
  obtain ⟨T28, X28, e28, st28⟩ := initO X20 hx hZ hown (wd hw 75 rfl) (wd hw 9 rfl) (wd hw 10 rfl) e20 (g := (mkF m 6 #[vR a1, vR a2] [(.ref a1)])) rfl (by rw [hml]; rfl) rfl (hb hby d7_6) (by decide) (W := 0) (by show 2 * 0 + _ ≤ _; exact Nat.le_of_eq rfl) (by decide)
  obtain ⟨fs, hr, hrun, hended, hW, hsame⟩ := X28.leave (v := none) (fun _ => rfl)
  refine ⟨_, _, pre0 _ ?_, hrun, hended, _, _, rfl, ?_, ⟨_, rfl⟩, hW, hsame.mono (by decide) (by decide)⟩
  · show Steps p.tables e below (s₁.setTop (mkF m 0 #[vR a1, vR a2] [])) _
    refine XS.aloadN X0.here hx rfl (hb hby d7_0) rfl rfl ?_
    refine XS.aloadN X0.here hx rfl (hb hby d7_1) rfl rfl ?_
    show Steps p.tables e below (s₁.setTop (mkF m 2 #[vR a1, vR a2] [(.ref a2), (.ref a1)])) _
    refine st20 _ ?_
    show Steps p.tables e below (T20.setTop (mkF m 5 #[vR a1, vR a2] [])) _
    refine XS.aloadN X20.here hx rfl (hb hby d7_5) rfl rfl ?_
    show Steps p.tables e below (T20.setTop (mkF m 6 #[vR a1, vR a2] [(.ref a1)])) _
    refine st28 _ ?_
    show Steps p.tables e below (T28.setTop (mkF m 9 #[vR a1, vR a2] [])) _
    exact X28.returnOut hx Bd.returns (hb hby d7_9) hr
  · show Qrm7 Z a1 a2 h0 n0 _ T28.heap _
    rw [e28]
    exact ⟨rfl, N26, K27, f21, f23, f24⟩
theorem d25_0 : decode prog_54_method_4_code 0 = .ok (.aload_n 0, 1) := by decide +kernel
theorem d25_1 : decode prog_54_method_4_code 1 = .ok (.getfield 3, 3) := by decide +kernel
theorem d25_4 : decode prog_54_method_4_code 4 = .ok (.getfield 54, 3) := by decide +kernel
theorem d25_7 : decode prog_54_method_4_code 7 = .ok (.iload_n 1, 1) := by decide +kernel
theorem d25_8 : decode prog_54_method_4_code 8 = .ok (.iaload, 1) := by decide +kernel
theorem d25_9 : decode prog_54_method_4_code 9 = .ok (.istore_n 3, 1) := by decide +kernel
theorem d25_10 : decode prog_54_method_4_code 10 = .ok (.aload_n 0, 1) := by decide +kernel
theorem d25_11 : decode prog_54_method_4_code 11 = .ok (.getfield 3, 3) := by decide +kernel
theorem d25_14 : decode prog_54_method_4_code 14 = .ok (.getfield 54, 3) := by decide +kernel
theorem d25_17 : decode prog_54_method_4_code 17 = .ok (.iload_n 1, 1) := by decide +kernel
theorem d25_18 : decode prog_54_method_4_code 18 = .ok (.aload_n 0, 1) := by decide +kernel
theorem d25_19 : decode prog_54_method_4_code 19 = .ok (.getfield 3, 3) := by decide +kernel
theorem d25_22 : decode prog_54_method_4_code 22 = .ok (.getfield 54, 3) := by decide +kernel
theorem d25_25 : decode prog_54_method_4_code 25 = .ok (.iload_n 2, 1) := by decide +kernel
theorem d25_26 : decode prog_54_method_4_code 26 = .ok (.iaload, 1) := by decide +kernel
theorem d25_27 : decode prog_54_method_4_code 27 = .ok (.iastore, 1) := by decide +kernel
theorem d25_28 : decode prog_54_method_4_code 28 = .ok (.aload_n 0, 1) := by decide +kernel
theorem d25_29 : decode prog_54_method_4_code 29 = .ok (.getfield 3, 3) := by decide +kernel
theorem d25_32 : decode prog_54_method_4_code 32 = .ok (.getfield 54, 3) := by decide +kernel
theorem d25_35 : decode prog_54_method_4_code 35 = .ok (.iload_n 2, 1) := by decide +kernel
theorem d25_36 : decode prog_54_method_4_code 36 = .ok (.iload_n 3, 1) := by decide +kernel
theorem d25_37 : decode prog_54_method_4_code 37 = .ok (.iastore, 1) := by decide +kernel
theorem d25_38 : decode prog_54_method_4_code 38 = .ok (.return_, 1) := by decide +kernel
theorem ef_rm25 (m : MethodId) (a1 : Addr) (p1 : Int32) (p2 : Int32) : entryFrame m #[(.ref a1), (.int p1), (.int p2)] 4 = mkF m 0 #[.val (.ref a1), .val (.int p1), .val (.int p2), .unset] [] := by first | (simp [entryFrame, mkF, argsToLocals, Value.category]; done) | rfl
def Qrm25 (Z : State) (a1 : Addr) (p1 : Int32) (p2 : Int32) (t : Addr) (r : Addr) (h0 : Heap) (n0 : Nat) (v : Option Value) (h : Heap) (L : List Loc) : Prop := v = none ∧ Fr n0 L ∧ Keep h0 h [r] ∧ own_Rw Z h r
set_option maxRecDepth 65536 in
set_option maxHeartbeats 40000000 in
theorem rm25 (l : Launch) (Z : State) (a0 : Array Value) (hw : ∀ d ∈ tables_1, d.before a0 Z = true) (ws : List Jvm.Cond) (a1 : Addr) (p1 : Int32) (p2 : Int32) (t : Addr) (r : Addr) (h0 : Heap) (n0 : Nat) (Z0 : n0 ≤ h0.size) (Ft : Fld Z h0 a1 "com/example/flatfinder/flatfinder/neighbours/KdTree$Builder" "this$0" "Lcom/example/flatfinder/flatfinder/neighbours/KdTree;" (.ref t)) (Frw : Fld Z h0 t "com/example/flatfinder/flatfinder/neighbours/KdTree" "rows" "[I" (.ref r)) (RW : own_Rw Z h0 r) (hi1 : own_ix 66 p1) (hi2 : own_ix 66 p2) (gr : n0 ≤ r) (nb : a1 ≠ r) (nt : t ≠ r) :
    MetFree l (⟨"com/example/flatfinder/flatfinder/neighbours/KdTree$Builder", "swap", "(II)V"⟩ : MethodName) (head1 (Jvm.Cond.code (⟨"com/example/flatfinder/flatfinder/neighbours/KdTree$Builder", "swap", "(II)V"⟩ : MethodName) prog_54_method_4_code 4 none :: ws) ({ frames := 0, cells := 0, slots := 0, locals := 0 } : Room)) (fun a U => a = #[(.ref a1), (.int p1), (.int p2)] ∧ Z.Warmed39 U.vm ∧ U.heap = h0) (fun _ _ _ _ _ => True) (fun _ U o U' => ∃ v L, o = .returned v ∧ Qrm25 Z a1 p1 p2 t r h0 n0 v U'.heap L ∧ FrameEnd U o U' L ({ frames := 0, cells := 0, slots := 0, locals := 0 } : Room).cells ({ frames := 0, cells := 0, slots := 0, locals := 0 } : Room).slots) := by
  refine MetFree.of_bodySF (plainFor_of_name pn_com_example_flatfinder_flatfinder_neighbours_KdTree_Builder) hisR ?_
  intro p e s m args below meth c s₁ Bd hml0 hP hK
  obtain ⟨rfl, hZ, hh⟩ := hP
  have hx := Bd.exec
  have hby := Bd.bytes
  have hml : c.maxLocals = 4 := hml0
  have hown : s.vm.findClass "com/example/flatfinder/flatfinder/neighbours/KdTree$Builder" = some m.cls := findClass_of_methodNamed Bd.named
  have hnm := (name_of_methodNamed Bd.named Bd.method).1
  have X0 : Stand p l e ({ frames := 0, cells := 0, slots := 0, locals := 0 } : Room) s m #[(.ref a1), (.int p1), (.int p2)] below meth c s₁ [] 0 0 := Stand.of_body Bd
  have e0 : s₁.heap = h0 := by rw [← hh, Bd.state]; rfl
  have N0 := Fr.nil n0
  have pre0 : ∀ tg, Steps p.tables e below (s₁.setTop (mkF m 0 #[.val (.ref a1), .val (.int p1), .val (.int p2), .unset] [])) tg → Steps p.tables e below (s₁.setTop (entryFrame m #[(.ref a1), (.int p1), (.int p2)] 4)) tg := fun tg kg => castTop (ef_rm25 m a1 p1 p2) kg
  have K0 := Keep.refl h0 [r]
  obtain ⟨f0, V0, q0⟩ := RW
  obtain ⟨T29, X29, e29, st29⟩ := getF X0 hx hZ hown (host := "") (Or.inl (wd hw 73 rfl)) Via.refl e0 Ft (g := (mkF m 1 #[vR a1, vI p1, vI p2, .unset] [(.ref a1)])) rfl rfl (hb hby d25_1)
  obtain ⟨T30, X30, e30, st30⟩ := getF X29 hx hZ hown (Or.inr (wd hw 95 rfl)) Via.refl e29 Frw (g := (mkF m 4 #[vR a1, vI p1, vI p2, .unset] [(.ref t)])) rfl rfl (hb hby d25_4)
  obtain ⟨T31, X31, e31, st31⟩ := getF X30 hx hZ hown (host := "") (Or.inl (wd hw 73 rfl)) Via.refl e30 Ft (g := (mkF m 11 #[vR a1, vI p1, vI p2, vI (f0 (p1).toNatClampNeg)] [(.ref a1)])) rfl rfl (hb hby d25_11)
  obtain ⟨T32, X32, e32, st32⟩ := getF X31 hx hZ hown (Or.inr (wd hw 95 rfl)) Via.refl e31 Frw (g := (mkF m 14 #[vR a1, vI p1, vI p2, vI (f0 (p1).toNatClampNeg)] [(.ref t)])) rfl rfl (hb hby d25_14)
  obtain ⟨T33, X33, e33, st33⟩ := getF X32 hx hZ hown (host := "") (Or.inl (wd hw 73 rfl)) Via.refl e32 Ft (g := (mkF m 19 #[vR a1, vI p1, vI p2, vI (f0 (p1).toNatClampNeg)] [(.ref a1), (.int p1), (.ref r)])) rfl rfl (hb hby d25_19)
  obtain ⟨T34, X34, e34, st34⟩ := getF X33 hx hZ hown (Or.inr (wd hw 95 rfl)) Via.refl e33 Frw (g := (mkF m 22 #[vR a1, vI p1, vI p2, vI (f0 (p1).toNatClampNeg)] [(.ref t), (.int p1), (.ref r)])) rfl rfl (hb hby d25_22)
  obtain ⟨T35, h35, X35, e35, W35, st35⟩ := own_sI X34 hx hZ e34 V0 (j := p1) hi1 (f := (mkF m 27 #[vR a1, vI p1, vI p2, vI (f0 (p1).toNatClampNeg)] [(.int (f0 (p2).toNatClampNeg)), (.int p1), (.ref r)])) rfl rfl (hb hby d25_27)
  have f36 : own_V Z h35 r .int 66 (fun ii => .int ((own_up f0 (p1).toNatClampNeg (f0 (p2).toNatClampNeg)) ii)) := own_V.setI V0 W35
  have q37 := own_upP (j := (p1).toNatClampNeg) (x := (f0 (p2).toNatClampNeg)) q0 (q0 _)
  have f38 := Ft.other W35 (Or.inl nb)
  have f39 := Frw.other W35 (Or.inl nt)
  have Zn40 := Nat.le_trans Z0 (Keep.of_wr W35).1
  have N41 := Fr.snoc X35 N0 gr
  have K42 := K0.wr W35 (Or.inl (List.mem_of_getElem? (i := 0) rfl))
  obtain ⟨T43, X43, e43, st43⟩ := getF X35 hx hZ hown (host := "") (Or.inl (wd hw 73 rfl)) Via.refl e35 f38 (g := (mkF m 29 #[vR a1, vI p1, vI p2, vI (f0 (p1).toNatClampNeg)] [(.ref a1)])) rfl rfl (hb hby d25_29)
  obtain ⟨T44, X44, e44, st44⟩ := getF X43 hx hZ hown (Or.inr (wd hw 95 rfl)) Via.refl e43 f39 (g := (mkF m 32 #[vR a1, vI p1, vI p2, vI (f0 (p1).toNatClampNeg)] [(.ref t)])) rfl rfl (hb hby d25_32)
  obtain ⟨T45, h45, X45, e45, W45, st45⟩ := own_sI X44 hx hZ e44 f36 (j := p2) hi2 (f := (mkF m 37 #[vR a1, vI p1, vI p2, vI (f0 (p1).toNatClampNeg)] [(.int (f0 (p1).toNatClampNeg)), (.int p2), (.ref r)])) rfl rfl (hb hby d25_37)
  have f46 : own_V Z h45 r .int 66 (fun ii => .int ((own_up (own_up f0 (p1).toNatClampNeg (f0 (p2).toNatClampNeg)) (p2).toNatClampNeg (f0 (p1).toNatClampNeg)) ii)) := own_V.setI f36 W45
  have q47 := own_upP (j := (p2).toNatClampNeg) (x := (f0 (p1).toNatClampNeg)) q37 (q0 _)
  have f48 := f38.other W45 (Or.inl nb)
  have f49 := f39.other W45 (Or.inl nt)
  have Zn50 := Nat.le_trans Zn40 (Keep.of_wr W45).1
  have N51 := Fr.snoc X45 N41 gr
  have K52 := K42.wr W45 (Or.inl (List.mem_of_getElem? (i := 0) rfl))
  obtain ⟨fs, hr, hrun, hended, hW, hsame⟩ := X45.leave (v := none) (fun _ => rfl)
  refine ⟨_, _, pre0 _ ?_, hrun, hended, _, _, rfl, ?_, ⟨_, rfl⟩, hW, hsame.mono (by decide) (by decide)⟩
  · show Steps p.tables e below (s₁.setTop (mkF m 0 #[vR a1, vI p1, vI p2, .unset] [])) _
    refine XS.aloadN X0.here hx rfl (hb hby d25_0) rfl rfl ?_
    show Steps p.tables e below (s₁.setTop (mkF m 1 #[vR a1, vI p1, vI p2, .unset] [(.ref a1)])) _
    refine st29 _ ?_
    show Steps p.tables e below (T29.setTop (mkF m 4 #[vR a1, vI p1, vI p2, .unset] [(.ref t)])) _
    refine st30 _ ?_
    show Steps p.tables e below (T30.setTop (mkF m 7 #[vR a1, vI p1, vI p2, .unset] [(.ref r)])) _
    refine XS.iloadN X30.here hx rfl (hb hby d25_7) rfl ?_
    show Steps p.tables e below (T30.setTop (mkF m 8 #[vR a1, vI p1, vI p2, .unset] [(.int p1), (.ref r)])) _
    refine own_ldI X30 hx hZ e30 V0 (j := p1) hi1 (f := (mkF m 8 #[vR a1, vI p1, vI p2, .unset] [(.int p1), (.ref r)])) rfl rfl (hb hby d25_8) _ ?_
    show Steps p.tables e below (T30.setTop (mkF m 9 #[vR a1, vI p1, vI p2, .unset] [(.int (f0 (p1).toNatClampNeg))])) _
    refine XS.istoreN X30.here hx rfl (hb hby d25_9) rfl (l' := #[vR a1, vI p1, vI p2, vI (f0 (p1).toNatClampNeg)]) rfl ?_
    refine XS.aloadN X30.here hx rfl (hb hby d25_10) rfl rfl ?_
    show Steps p.tables e below (T30.setTop (mkF m 11 #[vR a1, vI p1, vI p2, vI (f0 (p1).toNatClampNeg)] [(.ref a1)])) _
    refine st31 _ ?_
    show Steps p.tables e below (T31.setTop (mkF m 14 #[vR a1, vI p1, vI p2, vI (f0 (p1).toNatClampNeg)] [(.ref t)])) _
    refine st32 _ ?_
    show Steps p.tables e below (T32.setTop (mkF m 17 #[vR a1, vI p1, vI p2, vI (f0 (p1).toNatClampNeg)] [(.ref r)])) _
    refine XS.iloadN X32.here hx rfl (hb hby d25_17) rfl ?_
    refine XS.aloadN X32.here hx rfl (hb hby d25_18) rfl rfl ?_
    show Steps p.tables e below (T32.setTop (mkF m 19 #[vR a1, vI p1, vI p2, vI (f0 (p1).toNatClampNeg)] [(.ref a1), (.int p1), (.ref r)])) _
    refine st33 _ ?_
    show Steps p.tables e below (T33.setTop (mkF m 22 #[vR a1, vI p1, vI p2, vI (f0 (p1).toNatClampNeg)] [(.ref t), (.int p1), (.ref r)])) _
    refine st34 _ ?_
    show Steps p.tables e below (T34.setTop (mkF m 25 #[vR a1, vI p1, vI p2, vI (f0 (p1).toNatClampNeg)] [(.ref r), (.int p1), (.ref r)])) _
    refine XS.iloadN X34.here hx rfl (hb hby d25_25) rfl ?_
    show Steps p.tables e below (T34.setTop (mkF m 26 #[vR a1, vI p1, vI p2, vI (f0 (p1).toNatClampNeg)] [(.int p2), (.ref r), (.int p1), (.ref r)])) _
    refine own_ldI X34 hx hZ e34 V0 (j := p2) hi2 (f := (mkF m 26 #[vR a1, vI p1, vI p2, vI (f0 (p1).toNatClampNeg)] [(.int p2), (.ref r), (.int p1), (.ref r)])) rfl rfl (hb hby d25_26) _ ?_
    show Steps p.tables e below (T34.setTop (mkF m 27 #[vR a1, vI p1, vI p2, vI (f0 (p1).toNatClampNeg)] [(.int (f0 (p2).toNatClampNeg)), (.int p1), (.ref r)])) _
    refine st35 _ ?_
    show Steps p.tables e below (T35.setTop (mkF m 28 #[vR a1, vI p1, vI p2, vI (f0 (p1).toNatClampNeg)] [])) _
    refine XS.aloadN X35.here hx rfl (hb hby d25_28) rfl rfl ?_
    show Steps p.tables e below (T35.setTop (mkF m 29 #[vR a1, vI p1, vI p2, vI (f0 (p1).toNatClampNeg)] [(.ref a1)])) _
    refine st43 _ ?_
    show Steps p.tables e below (T43.setTop (mkF m 32 #[vR a1, vI p1, vI p2, vI (f0 (p1).toNatClampNeg)] [(.ref t)])) _
    refine st44 _ ?_
    show Steps p.tables e below (T44.setTop (mkF m 35 #[vR a1, vI p1, vI p2, vI (f0 (p1).toNatClampNeg)] [(.ref r)])) _
    refine XS.iloadN X44.here hx rfl (hb hby d25_35) rfl ?_
    refine XS.iloadN X44.here hx rfl (hb hby d25_36) rfl ?_
    show Steps p.tables e below (T44.setTop (mkF m 37 #[vR a1, vI p1, vI p2, vI (f0 (p1).toNatClampNeg)] [(.int (f0 (p1).toNatClampNeg)), (.int p2), (.ref r)])) _
    refine st45 _ ?_
    show Steps p.tables e below (T45.setTop (mkF m 38 #[vR a1, vI p1, vI p2, vI (f0 (p1).toNatClampNeg)] [])) _
    exact X45.returnOut hx Bd.returns (hb hby d25_38) hr
  · show Qrm25 Z a1 p1 p2 t r h0 n0 _ T45.heap _
    rw [e45]
    exact ⟨rfl, N51, K52, _, f46, q47⟩
theorem d18_0 : decode prog_53_method_3_code 0 = .ok (.aload_n 0, 1) := by decide +kernel
theorem d18_1 : decode prog_53_method_3_code 1 = .ok (.getfield 57, 3) := by decide +kernel
theorem d18_4 : decode prog_53_method_3_code 4 = .ok (.ireturn, 1) := by decide +kernel
theorem pn_com_example_flatfinder_flatfinder_neighbours_KdTree : plainName "com/example/flatfinder/flatfinder/neighbours/KdTree" = true := by first | (simp [plainName, overriddenIn]; done) | decide +kernel
theorem ef_rm18 (m : MethodId) (a1 : Addr) : entryFrame m #[(.ref a1)] 1 = mkF m 0 #[.val (.ref a1)] [] := by first | (simp [entryFrame, mkF, argsToLocals, Value.category]; done) | rfl
def Qrm18 (Z : State) (a1 : Addr) (p1 : Int32) (h0 : Heap) (n0 : Nat) (v : Option Value) (h : Heap) (L : List Loc) : Prop := v = some (.int p1) ∧ Fr n0 L ∧ h = h0
set_option maxRecDepth 65536 in
set_option maxHeartbeats 40000000 in
theorem rm18 (l : Launch) (Z : State) (a0 : Array Value) (hw : ∀ d ∈ tables_1, d.before a0 Z = true) (ws : List Jvm.Cond) (a1 : Addr) (p1 : Int32) (h0 : Heap) (n0 : Nat) (Z0 : n0 ≤ h0.size) (Ff : Fld Z h0 a1 "com/example/flatfinder/flatfinder/neighbours/KdTree" "boxes" "I" (.int p1)) :
    MetFree l (⟨"com/example/flatfinder/flatfinder/neighbours/KdTree", "boxes", "()I"⟩ : MethodName) (head1 (Jvm.Cond.code (⟨"com/example/flatfinder/flatfinder/neighbours/KdTree", "boxes", "()I"⟩ : MethodName) prog_53_method_3_code 1 (some .int) :: ws) ({ frames := 0, cells := 0, slots := 0, locals := 0 } : Room)) (fun a U => a = #[(.ref a1)] ∧ Z.Warmed39 U.vm ∧ U.heap = h0) (fun _ _ _ _ _ => True) (fun _ U o U' => ∃ v L, o = .returned v ∧ Qrm18 Z a1 p1 h0 n0 v U'.heap L ∧ FrameEnd U o U' L ({ frames := 0, cells := 0, slots := 0, locals := 0 } : Room).cells ({ frames := 0, cells := 0, slots := 0, locals := 0 } : Room).slots) := by
  refine MetFree.of_bodySF (plainFor_of_name pn_com_example_flatfinder_flatfinder_neighbours_KdTree) hisR ?_
  intro p e s m args below meth c s₁ Bd hml0 hP hK
  obtain ⟨rfl, hZ, hh⟩ := hP
  have hx := Bd.exec
  have hby := Bd.bytes
  have hml : c.maxLocals = 1 := hml0
  have hown : s.vm.findClass "com/example/flatfinder/flatfinder/neighbours/KdTree" = some m.cls := findClass_of_methodNamed Bd.named
  have hnm := (name_of_methodNamed Bd.named Bd.method).1
  have X0 : Stand p l e ({ frames := 0, cells := 0, slots := 0, locals := 0 } : Room) s m #[(.ref a1)] below meth c s₁ [] 0 0 := Stand.of_body Bd
  have e0 : s₁.heap = h0 := by rw [← hh, Bd.state]; rfl
  have N0 := Fr.nil n0
  have pre0 : ∀ tg, Steps p.tables e below (s₁.setTop (mkF m 0 #[.val (.ref a1)] [])) tg → Steps p.tables e below (s₁.setTop (entryFrame m #[(.ref a1)] 1)) tg := fun tg kg => castTop (ef_rm18 m a1) kg
  obtain ⟨T53, X53, e53, st53⟩ := getF X0 hx hZ hown (host := "") (Or.inl (wd hw 118 rfl)) Via.refl e0 Ff (g := (mkF m 1 #[vR a1] [(.ref a1)])) rfl rfl (hb hby d18_1)
  obtain ⟨fs, hr, hrun, hended, hW, hsame⟩ := X53.leave (v := some (.int p1)) (fun h => by rw [Bd.returns] at h; cases h)
  refine ⟨_, _, pre0 _ ?_, hrun, hended, _, _, rfl, ?_, ⟨_, rfl⟩, hW, hsame.mono (by decide) (by decide)⟩
  · show Steps p.tables e below (s₁.setTop (mkF m 0 #[vR a1] [])) _
    refine XS.aloadN X0.here hx rfl (hb hby d18_0) rfl rfl ?_
    show Steps p.tables e below (s₁.setTop (mkF m 1 #[vR a1] [(.ref a1)])) _
    refine st53 _ ?_
    show Steps p.tables e below (T53.setTop (mkF m 4 #[vR a1] [(.int p1)])) _
    exact retI X53 hx Bd.returns (hb hby d18_4) hr
  · show Qrm18 Z a1 p1 h0 n0 _ T53.heap _
    rw [e53]
    exact ⟨rfl, N0, rfl⟩
theorem d19_0 : decode prog_53_method_10_code 0 = .ok (.aload_n 0, 1) := by decide +kernel
theorem d19_1 : decode prog_53_method_10_code 1 = .ok (.getfield 34, 3) := by decide +kernel
theorem d19_4 : decode prog_53_method_10_code 4 = .ok (.iload_n 1, 1) := by decide +kernel
theorem d19_5 : decode prog_53_method_10_code 5 = .ok (.iaload, 1) := by decide +kernel
theorem d19_6 : decode prog_53_method_10_code 6 = .ok (.ifCond .lt 7, 3) := by decide +kernel
theorem d19_13 : decode prog_53_method_10_code 13 = .ok (.iconst 0, 1) := by decide +kernel
theorem d19_14 : decode prog_53_method_10_code 14 = .ok (.ireturn, 1) := by decide +kernel
theorem d19_9 : decode prog_53_method_10_code 9 = .ok (.iconst 1, 1) := by decide +kernel
theorem d19_10 : decode prog_53_method_10_code 10 = .ok (.goto 4, 3) := by decide +kernel
theorem ef_rm19 (m : MethodId) (a1 : Addr) (p1 : Int32) : entryFrame m #[(.ref a1), (.int p1)] 2 = mkF m 0 #[.val (.ref a1), .val (.int p1)] [] := by first | (simp [entryFrame, mkF, argsToLocals, Value.category]; done) | rfl
def Qrm19 (Z : State) (a1 : Addr) (p1 : Int32) (x1 : Addr) (f1 : Nat → Int32) (h0 : Heap) (n0 : Nat) (v : Option Value) (h : Heap) (L : List Loc) : Prop := v = some (.int (if f1 p1.toNatClampNeg < (0 : Int32) then (0 : Int32) else (1 : Int32))) ∧ Fr n0 L ∧ h = h0
set_option maxRecDepth 65536 in
set_option maxHeartbeats 40000000 in
theorem rm19 (l : Launch) (Z : State) (a0 : Array Value) (hw : ∀ d ∈ tables_1, d.before a0 Z = true) (ws : List Jvm.Cond) (a1 : Addr) (p1 : Int32) (x1 : Addr) (f1 : Nat → Int32) (h0 : Heap) (n0 : Nat) (Z0 : n0 ≤ h0.size) (Ff : Fld Z h0 a1 "com/example/flatfinder/flatfinder/neighbours/KdTree" "upper" "[I" (.ref x1)) (V1 : own_V Z h0 x1 .int 9 (fun ii => .int (f1 ii))) (hi : own_ix 9 p1) :
    MetFree l (⟨"com/example/flatfinder/flatfinder/neighbours/KdTree", "isSplit", "(I)Z"⟩ : MethodName) (head1 (Jvm.Cond.code (⟨"com/example/flatfinder/flatfinder/neighbours/KdTree", "isSplit", "(I)Z"⟩ : MethodName) prog_53_method_10_code 2 (some .boolean) :: ws) ({ frames := 0, cells := 0, slots := 0, locals := 0 } : Room)) (fun a U => a = #[(.ref a1), (.int p1)] ∧ Z.Warmed39 U.vm ∧ U.heap = h0) (fun _ _ _ _ _ => True) (fun _ U o U' => ∃ v L, o = .returned v ∧ Qrm19 Z a1 p1 x1 f1 h0 n0 v U'.heap L ∧ FrameEnd U o U' L ({ frames := 0, cells := 0, slots := 0, locals := 0 } : Room).cells ({ frames := 0, cells := 0, slots := 0, locals := 0 } : Room).slots) := by
  refine MetFree.of_bodySF (plainFor_of_name pn_com_example_flatfinder_flatfinder_neighbours_KdTree) hisR ?_
  intro p e s m args below meth c s₁ Bd hml0 hP hK
  obtain ⟨rfl, hZ, hh⟩ := hP
  have hx := Bd.exec
  have hby := Bd.bytes
  have hml : c.maxLocals = 2 := hml0
  have hown : s.vm.findClass "com/example/flatfinder/flatfinder/neighbours/KdTree" = some m.cls := findClass_of_methodNamed Bd.named
  have hnm := (name_of_methodNamed Bd.named Bd.method).1
  have X0 : Stand p l e ({ frames := 0, cells := 0, slots := 0, locals := 0 } : Room) s m #[(.ref a1), (.int p1)] below meth c s₁ [] 0 0 := Stand.of_body Bd
  have e0 : s₁.heap = h0 := by rw [← hh, Bd.state]; rfl
  have N0 := Fr.nil n0
  have pre0 : ∀ tg, Steps p.tables e below (s₁.setTop (mkF m 0 #[.val (.ref a1), .val (.int p1)] [])) tg → Steps p.tables e below (s₁.setTop (entryFrame m #[(.ref a1), (.int p1)] 2)) tg := fun tg kg => castTop (ef_rm19 m a1 p1) kg
  obtain ⟨T54, X54, e54, st54⟩ := getF X0 hx hZ hown (host := "") (Or.inl (wd hw 61 rfl)) Via.refl e0 Ff (g := (mkF m 1 #[vR a1, vI p1] [(.ref a1)])) rfl rfl (hb hby d19_1)
  obtain ⟨v56, hv56⟩ : ∃ v : Int32, v = if (f1 (p1).toNatClampNeg) < (0 : Int32) then (0 : Int32) else (1 : Int32) := ⟨_, rfl⟩
  obtain ⟨fs, hr, hrun, hended, hW, hsame⟩ := X54.leave (v := some (.int v56)) (fun h => by rw [Bd.returns] at h; cases h)
  refine ⟨_, _, pre0 _ ?_, hrun, hended, _, _, rfl, ?_, ⟨_, rfl⟩, hW, hsame.mono (by decide) (by decide)⟩
  · show Steps p.tables e below (s₁.setTop (mkF m 0 #[vR a1, vI p1] [])) _
    refine XS.aloadN X0.here hx rfl (hb hby d19_0) rfl rfl ?_
    show Steps p.tables e below (s₁.setTop (mkF m 1 #[vR a1, vI p1] [(.ref a1)])) _
    refine st54 _ ?_
    show Steps p.tables e below (T54.setTop (mkF m 4 #[vR a1, vI p1] [(.ref x1)])) _
    refine XS.iloadN X54.here hx rfl (hb hby d19_4) rfl ?_
    show Steps p.tables e below (T54.setTop (mkF m 5 #[vR a1, vI p1] [(.int p1), (.ref x1)])) _
    refine own_ldI X54 hx hZ e54 V1 (j := p1) hi (f := (mkF m 5 #[vR a1, vI p1] [(.int p1), (.ref x1)])) rfl rfl (hb hby d19_5) _ ?_
    by_cases hc55 : (f1 (p1).toNatClampNeg) < (0 : Int32)
    · rw [show v56 = (0 : Int32) from by rw [hv56, if_pos hc55]] at hr
      show Steps p.tables e below (T54.setTop (mkF m 6 #[vR a1, vI p1] [(.int (f1 (p1).toNatClampNeg))])) _
      refine XS.ifYes X54.here hx rfl (pc0 := 6) (pc' := 13) rfl (hb hby d19_6) rfl ((if0 _ _).trans (tlt hc55).1) (by decide) (by decide) ?_
      refine XS.iconst X54.here hx rfl (hb hby d19_13) ?_
      show Steps p.tables e below (T54.setTop (mkF m 14 #[vR a1, vI p1] [(.int (0 : Int32))])) _
      exact retN X54 hx (t := .boolean) Bd.returns (by simp) (hb hby d19_14) hr
    · rw [show v56 = (1 : Int32) from by rw [hv56, if_neg hc55]] at hr
      show Steps p.tables e below (T54.setTop (mkF m 6 #[vR a1, vI p1] [(.int (f1 (p1).toNatClampNeg))])) _
      refine XS.ifNo X54.here hx rfl (hb hby d19_6) rfl ((if0 _ _).trans (flt hc55).1) ?_
      refine XS.iconst X54.here hx rfl (hb hby d19_9) ?_
      refine XS.goto X54.here hx rfl (pc0 := 10) (pc' := 14) rfl (hb hby d19_10) (by decide) (by decide) ?_
      show Steps p.tables e below (T54.setTop (mkF m 14 #[vR a1, vI p1] [(.int (1 : Int32))])) _
      exact retN X54 hx (t := .boolean) Bd.returns (by simp) (hb hby d19_14) hr
  · show Qrm19 Z a1 p1 x1 f1 h0 n0 _ T54.heap _
    rw [e54]
    exact ⟨by rw [hv56], N0, rfl⟩
theorem d20_0 : decode prog_53_method_7_code 0 = .ok (.aload_n 0, 1) := by decide +kernel
theorem d20_1 : decode prog_53_method_7_code 1 = .ok (.getfield 28, 3) := by decide +kernel
theorem d20_4 : decode prog_53_method_7_code 4 = .ok (.iload_n 1, 1) := by decide +kernel
theorem d20_5 : decode prog_53_method_7_code 5 = .ok (.iaload, 1) := by decide +kernel
theorem d20_6 : decode prog_53_method_7_code 6 = .ok (.ireturn, 1) := by decide +kernel
theorem ef_rm20 (m : MethodId) (a1 : Addr) (p1 : Int32) : entryFrame m #[(.ref a1), (.int p1)] 2 = mkF m 0 #[.val (.ref a1), .val (.int p1)] [] := by first | (simp [entryFrame, mkF, argsToLocals, Value.category]; done) | rfl
def Qrm20 (Z : State) (a1 : Addr) (p1 : Int32) (x1 : Addr) (f1 : Nat → Int32) (h0 : Heap) (n0 : Nat) (v : Option Value) (h : Heap) (L : List Loc) : Prop := v = some (.int (f1 p1.toNatClampNeg)) ∧ Fr n0 L ∧ h = h0
set_option maxRecDepth 65536 in
set_option maxHeartbeats 40000000 in
theorem rm20 (l : Launch) (Z : State) (a0 : Array Value) (hw : ∀ d ∈ tables_1, d.before a0 Z = true) (ws : List Jvm.Cond) (a1 : Addr) (p1 : Int32) (x1 : Addr) (f1 : Nat → Int32) (h0 : Heap) (n0 : Nat) (Z0 : n0 ≤ h0.size) (Ff : Fld Z h0 a1 "com/example/flatfinder/flatfinder/neighbours/KdTree" "first" "[I" (.ref x1)) (V1 : own_V Z h0 x1 .int 9 (fun ii => .int (f1 ii))) (hi : own_ix 9 p1) :
    MetFree l (⟨"com/example/flatfinder/flatfinder/neighbours/KdTree", "first", "(I)I"⟩ : MethodName) (head1 (Jvm.Cond.code (⟨"com/example/flatfinder/flatfinder/neighbours/KdTree", "first", "(I)I"⟩ : MethodName) prog_53_method_7_code 2 (some .int) :: ws) ({ frames := 0, cells := 0, slots := 0, locals := 0 } : Room)) (fun a U => a = #[(.ref a1), (.int p1)] ∧ Z.Warmed39 U.vm ∧ U.heap = h0) (fun _ _ _ _ _ => True) (fun _ U o U' => ∃ v L, o = .returned v ∧ Qrm20 Z a1 p1 x1 f1 h0 n0 v U'.heap L ∧ FrameEnd U o U' L ({ frames := 0, cells := 0, slots := 0, locals := 0 } : Room).cells ({ frames := 0, cells := 0, slots := 0, locals := 0 } : Room).slots) := by
  refine MetFree.of_bodySF (plainFor_of_name pn_com_example_flatfinder_flatfinder_neighbours_KdTree) hisR ?_
  intro p e s m args below meth c s₁ Bd hml0 hP hK
  obtain ⟨rfl, hZ, hh⟩ := hP
  have hx := Bd.exec
  have hby := Bd.bytes
  have hml : c.maxLocals = 2 := hml0
  have hown : s.vm.findClass "com/example/flatfinder/flatfinder/neighbours/KdTree" = some m.cls := findClass_of_methodNamed Bd.named
  have hnm := (name_of_methodNamed Bd.named Bd.method).1
  have X0 : Stand p l e ({ frames := 0, cells := 0, slots := 0, locals := 0 } : Room) s m #[(.ref a1), (.int p1)] below meth c s₁ [] 0 0 := Stand.of_body Bd
  have e0 : s₁.heap = h0 := by rw [← hh, Bd.state]; rfl
  have N0 := Fr.nil n0
  have pre0 : ∀ tg, Steps p.tables e below (s₁.setTop (mkF m 0 #[.val (.ref a1), .val (.int p1)] [])) tg → Steps p.tables e below (s₁.setTop (entryFrame m #[(.ref a1), (.int p1)] 2)) tg := fun tg kg => castTop (ef_rm20 m a1 p1) kg
  obtain ⟨T57, X57, e57, st57⟩ := getF X0 hx hZ hown (host := "") (Or.inl (wd hw 57 rfl)) Via.refl e0 Ff (g := (mkF m 1 #[vR a1, vI p1] [(.ref a1)])) rfl rfl (hb hby d20_1)
  obtain ⟨fs, hr, hrun, hended, hW, hsame⟩ := X57.leave (v := some (.int (f1 (p1).toNatClampNeg))) (fun h => by rw [Bd.returns] at h; cases h)
  refine ⟨_, _, pre0 _ ?_, hrun, hended, _, _, rfl, ?_, ⟨_, rfl⟩, hW, hsame.mono (by decide) (by decide)⟩
  · show Steps p.tables e below (s₁.setTop (mkF m 0 #[vR a1, vI p1] [])) _
    refine XS.aloadN X0.here hx rfl (hb hby d20_0) rfl rfl ?_
    show Steps p.tables e below (s₁.setTop (mkF m 1 #[vR a1, vI p1] [(.ref a1)])) _
    refine st57 _ ?_
    show Steps p.tables e below (T57.setTop (mkF m 4 #[vR a1, vI p1] [(.ref x1)])) _
    refine XS.iloadN X57.here hx rfl (hb hby d20_4) rfl ?_
    show Steps p.tables e below (T57.setTop (mkF m 5 #[vR a1, vI p1] [(.int p1), (.ref x1)])) _
    refine own_ldI X57 hx hZ e57 V1 (j := p1) hi (f := (mkF m 5 #[vR a1, vI p1] [(.int p1), (.ref x1)])) rfl rfl (hb hby d20_5) _ ?_
    show Steps p.tables e below (T57.setTop (mkF m 6 #[vR a1, vI p1] [(.int (f1 (p1).toNatClampNeg))])) _
    exact retI X57 hx Bd.returns (hb hby d20_6) hr
  · show Qrm20 Z a1 p1 x1 f1 h0 n0 _ T57.heap _
    rw [e57]
    exact ⟨rfl, N0, rfl⟩
theorem d21_0 : decode prog_53_method_8_code 0 = .ok (.aload_n 0, 1) := by decide +kernel
theorem d21_1 : decode prog_53_method_8_code 1 = .ok (.getfield 31, 3) := by decide +kernel
theorem d21_4 : decode prog_53_method_8_code 4 = .ok (.iload_n 1, 1) := by decide +kernel
theorem d21_5 : decode prog_53_method_8_code 5 = .ok (.iaload, 1) := by decide +kernel
theorem d21_6 : decode prog_53_method_8_code 6 = .ok (.ireturn, 1) := by decide +kernel
theorem ef_rm21 (m : MethodId) (a1 : Addr) (p1 : Int32) : entryFrame m #[(.ref a1), (.int p1)] 2 = mkF m 0 #[.val (.ref a1), .val (.int p1)] [] := by first | (simp [entryFrame, mkF, argsToLocals, Value.category]; done) | rfl
def Qrm21 (Z : State) (a1 : Addr) (p1 : Int32) (x1 : Addr) (f1 : Nat → Int32) (h0 : Heap) (n0 : Nat) (v : Option Value) (h : Heap) (L : List Loc) : Prop := v = some (.int (f1 p1.toNatClampNeg)) ∧ Fr n0 L ∧ h = h0
set_option maxRecDepth 65536 in
set_option maxHeartbeats 40000000 in
theorem rm21 (l : Launch) (Z : State) (a0 : Array Value) (hw : ∀ d ∈ tables_1, d.before a0 Z = true) (ws : List Jvm.Cond) (a1 : Addr) (p1 : Int32) (x1 : Addr) (f1 : Nat → Int32) (h0 : Heap) (n0 : Nat) (Z0 : n0 ≤ h0.size) (Ff : Fld Z h0 a1 "com/example/flatfinder/flatfinder/neighbours/KdTree" "end" "[I" (.ref x1)) (V1 : own_V Z h0 x1 .int 9 (fun ii => .int (f1 ii))) (hi : own_ix 9 p1) :
    MetFree l (⟨"com/example/flatfinder/flatfinder/neighbours/KdTree", "end", "(I)I"⟩ : MethodName) (head1 (Jvm.Cond.code (⟨"com/example/flatfinder/flatfinder/neighbours/KdTree", "end", "(I)I"⟩ : MethodName) prog_53_method_8_code 2 (some .int) :: ws) ({ frames := 0, cells := 0, slots := 0, locals := 0 } : Room)) (fun a U => a = #[(.ref a1), (.int p1)] ∧ Z.Warmed39 U.vm ∧ U.heap = h0) (fun _ _ _ _ _ => True) (fun _ U o U' => ∃ v L, o = .returned v ∧ Qrm21 Z a1 p1 x1 f1 h0 n0 v U'.heap L ∧ FrameEnd U o U' L ({ frames := 0, cells := 0, slots := 0, locals := 0 } : Room).cells ({ frames := 0, cells := 0, slots := 0, locals := 0 } : Room).slots) := by
  refine MetFree.of_bodySF (plainFor_of_name pn_com_example_flatfinder_flatfinder_neighbours_KdTree) hisR ?_
  intro p e s m args below meth c s₁ Bd hml0 hP hK
  obtain ⟨rfl, hZ, hh⟩ := hP
  have hx := Bd.exec
  have hby := Bd.bytes
  have hml : c.maxLocals = 2 := hml0
  have hown : s.vm.findClass "com/example/flatfinder/flatfinder/neighbours/KdTree" = some m.cls := findClass_of_methodNamed Bd.named
  have hnm := (name_of_methodNamed Bd.named Bd.method).1
  have X0 : Stand p l e ({ frames := 0, cells := 0, slots := 0, locals := 0 } : Room) s m #[(.ref a1), (.int p1)] below meth c s₁ [] 0 0 := Stand.of_body Bd
  have e0 : s₁.heap = h0 := by rw [← hh, Bd.state]; rfl
  have N0 := Fr.nil n0
  have pre0 : ∀ tg, Steps p.tables e below (s₁.setTop (mkF m 0 #[.val (.ref a1), .val (.int p1)] [])) tg → Steps p.tables e below (s₁.setTop (entryFrame m #[(.ref a1), (.int p1)] 2)) tg := fun tg kg => castTop (ef_rm21 m a1 p1) kg
  obtain ⟨T58, X58, e58, st58⟩ := getF X0 hx hZ hown (host := "") (Or.inl (wd hw 59 rfl)) Via.refl e0 Ff (g := (mkF m 1 #[vR a1, vI p1] [(.ref a1)])) rfl rfl (hb hby d21_1)
  obtain ⟨fs, hr, hrun, hended, hW, hsame⟩ := X58.leave (v := some (.int (f1 (p1).toNatClampNeg))) (fun h => by rw [Bd.returns] at h; cases h)
  refine ⟨_, _, pre0 _ ?_, hrun, hended, _, _, rfl, ?_, ⟨_, rfl⟩, hW, hsame.mono (by decide) (by decide)⟩
  · show Steps p.tables e below (s₁.setTop (mkF m 0 #[vR a1, vI p1] [])) _
    refine XS.aloadN X0.here hx rfl (hb hby d21_0) rfl rfl ?_
    show Steps p.tables e below (s₁.setTop (mkF m 1 #[vR a1, vI p1] [(.ref a1)])) _
    refine st58 _ ?_
    show Steps p.tables e below (T58.setTop (mkF m 4 #[vR a1, vI p1] [(.ref x1)])) _
    refine XS.iloadN X58.here hx rfl (hb hby d21_4) rfl ?_
    show Steps p.tables e below (T58.setTop (mkF m 5 #[vR a1, vI p1] [(.int p1), (.ref x1)])) _
    refine own_ldI X58 hx hZ e58 V1 (j := p1) hi (f := (mkF m 5 #[vR a1, vI p1] [(.int p1), (.ref x1)])) rfl rfl (hb hby d21_5) _ ?_
    show Steps p.tables e below (T58.setTop (mkF m 6 #[vR a1, vI p1] [(.int (f1 (p1).toNatClampNeg))])) _
    exact retI X58 hx Bd.returns (hb hby d21_6) hr
  · show Qrm21 Z a1 p1 x1 f1 h0 n0 _ T58.heap _
    rw [e58]
    exact ⟨rfl, N0, rfl⟩
theorem d1_41 : decode prog_66_method_1_code 41 = .ok (.iload 5, 2) := by decide +kernel
theorem d1_43 : decode prog_66_method_1_code 43 = .ok (.iload 4, 2) := by decide +kernel
theorem d1_45 : decode prog_66_method_1_code 45 = .ok (.if_icmp .ge 38, 3) := by decide +kernel
theorem d1_48 : decode prog_66_method_1_code 48 = .ok (.aload_n 3, 1) := by decide +kernel
theorem d1_49 : decode prog_66_method_1_code 49 = .ok (.iload 5, 2) := by decide +kernel
theorem d1_51 : decode prog_66_method_1_code 51 = .ok (.daload, 1) := by decide +kernel
theorem d1_52 : decode prog_66_method_1_code 52 = .ok (.dstore 6, 2) := by decide +kernel
theorem d1_54 : decode prog_66_method_1_code 54 = .ok (.dload 6, 2) := by decide +kernel
theorem d1_56 : decode prog_66_method_1_code 56 = .ok (.invokestatic 16, 3) := by decide +kernel
theorem pd__D_Z : parseMethodDescriptor "(D)Z" = some ⟨[.double], some .boolean⟩ := by decide +kernel
theorem d1_59 : decode prog_66_method_1_code 59 = .ok (.ifCond .ne 18, 3) := by decide +kernel
theorem d1_77 : decode prog_66_method_1_code 77 = .ok (.iinc 5 1, 3) := by decide +kernel
theorem d1_80 : decode prog_66_method_1_code 80 = .ok (.goto (-39), 3) := by decide +kernel
set_option maxRecDepth 65536 in
set_option maxHeartbeats 40000000 in
theorem loop1 {p : Program} {l : Launch} {e : Env} {s : State} {m : MethodId} {args : Array Value} {below : List Frame} {meth : Method} {c : Code} {Z : State} {a0 : Array Value} {n0 : Nat} (hw : ∀ d ∈ tables_1, d.before a0 Z = true) (hx : p.tables.exec = Jvm.exec) (hZ : Z.Warmed39 s.vm) (hby : c.code = prog_66_method_1_code) (hml : c.maxLocals = 8) (hown : s.vm.findClass "com/example/flatfinder/flatfinder/neighbours/Points" = some m.cls) (a1 : Addr) (a2 : Addr) (g2 : Nat → UInt64) (F2 : ∀ i, Jvm.Free.Fl.Fin64 (g2 i)) :
    ∀ (k : Nat) (i : Int32) (s6 : Slot) (s7 : Slot) (T : State) (h : Heap) (locs : List Loc) (X0 : Stand p l e ({ frames := 2, cells := 1, slots := 66, locals := 26 } : Room) s m args below meth c T locs 0 0) (e0 : T.heap = h) (N0 : Fr n0 locs) (Z0 : n0 ≤ h.size) (hs6 : own_Two s6 s7) (hi : 0 ≤ i.toInt ∧ i.toInt ≤ 66) (V2 : own_V Z h a2 .double 66 (fun ii => .double (g2 ii))) (hk : (66 - i.toInt).toNat < k),
      ∃ (T' : State) (locs' : List Loc) (i' : Int32) (s6' : Slot) (s7' : Slot), Stand p l e ({ frames := 2, cells := 1, slots := 66, locals := 26 } : Room) s m args below meth c T' locs' 0 0 ∧ Fr n0 locs' ∧ T'.heap = h ∧ ∀ target, Steps p.tables e below (T'.setTop (mkF m 83 #[vR a1, vI 1, vR a2, vR a2, vI 66, vI i', s6', s7'] [])) target → Steps p.tables e below (T.setTop (mkF m 41 #[vR a1, vI 1, vR a2, vR a2, vI 66, vI i, s6, s7] [])) target := by
  intro k
  induction k with
  | zero => intro i s6 s7 T h locs X0 e0 N0 Z0 hs6 hi V2 hk; exact absurd hk (Nat.not_lt_zero _)
  | succ k ih =>
    intro i s6 s7 T h locs X0 e0 N0 Z0 hs6 hi V2 hk
    by_cases hg : i < (66 : Int32)
    · have hg' := own_lt.mp hg
      rw [own_66] at hg'
      have hix : own_ix 66 i := ⟨hi.1, by omega⟩
      have hi1 := own_add1 (i := i) (by omega) (by omega)
      obtain ⟨_, _, ⟨T59, L59, k59, n59⟩, -, X59, ⟨Lc59, hQ59, l59, y59, z59⟩, st59⟩ := Jvm.LawKit.callS X0 hx (y := (⟨"java/lang/Double", "isFinite", "(D)Z"⟩ : MethodName)) hown (mvT hZ (wd hw 11 rfl)) (mvT hZ (wd hw 12 rfl)) (mvT hZ (wd hw 13 rfl)) (mvT hZ (wd hw 14 rfl)) (by decide) (backOf (W := 0) (rm3 l Z a0 hw [] (g2 (i).toNatClampNeg)  h n0 Z0 (F2 _)) hZ (wd hw 14 rfl) (wd hw 13 rfl) (by decide) (by decide)) (g := (mkF m 56 #[vR a1, vI 1, vR a2, vR a2, vI 66, vI i, vD (g2 (i).toNatClampNeg), .second] [(.double (g2 (i).toNatClampNeg))])) rfl (by rw [hml]; rfl) (argsL := [(.double (g2 (i).toNatClampNeg))]) (rest := []) (lenOf pd__D_Z rfl) rfl (by show 2 * 0 + _ ≤ _; exact Nat.le_of_eq rfl) (hb hby d1_56) (fun _ _ => ⟨rfl, e0, (by decide : 0 + 0 ≤ _), (by decide : 0 + 0 ≤ _)⟩)
      dsimp only [Pt.U, Pt.locs, Pt.cells, Pt.slots] at X59 l59 y59 z59 st59 hQ59
      subst l59 y59 z59
      obtain ⟨rfl, N59q, e59⟩ := hQ59
      have N60 := Fr.app N0 N59q
      obtain ⟨T9, locs9, i9, s69, s79, X9, N9, e9, st9⟩ := ih (i + (1 : Int32)) (vD (g2 (i).toNatClampNeg)) (.second) T59 h _ X59 e59 N60 Z0 own_Two.v (by omega) V2 (by omega)
      refine ⟨T9, locs9, i9, s69, s79, X9, N9, e9, fun target kt => ?_⟩
      show Steps p.tables e below (T.setTop (mkF m 41 #[vR a1, vI 1, vR a2, vR a2, vI 66, vI i, s6, s7] [])) _
      refine XS.iload X0.here hx rfl (hb hby d1_41) rfl ?_
      refine XS.iload X0.here hx rfl (hb hby d1_43) rfl ?_
      refine XS.icmpNo X0.here hx rfl (hb hby d1_45) rfl (tlt hg).2.1 ?_
      refine XS.aloadN X0.here hx rfl (hb hby d1_48) rfl rfl ?_
      refine XS.iload X0.here hx rfl (hb hby d1_49) rfl ?_
      show Steps p.tables e below (T.setTop (mkF m 51 #[vR a1, vI 1, vR a2, vR a2, vI 66, vI i, s6, s7] [(.int i), (.ref a2)])) _
      refine own_ldD X0 hx hZ e0 V2 (j := i) hix (f := (mkF m 51 #[vR a1, vI 1, vR a2, vR a2, vI 66, vI i, s6, s7] [(.int i), (.ref a2)])) rfl rfl (hb hby d1_51) _ ?_
      show Steps p.tables e below (T.setTop (mkF m 52 #[vR a1, vI 1, vR a2, vR a2, vI 66, vI i, s6, s7] [(.double (g2 (i).toNatClampNeg))])) _
      refine own_sstore X0.here hx (l' := #[vR a1, vI 1, vR a2, vR a2, vI 66, vI i, vD (g2 (i).toNatClampNeg), .second]) (hb hby d1_52) (by rcases hs6 with ⟨q, q'⟩ | ⟨_, q, q'⟩ <;> subst q q' <;> rfl) ?_
      show Steps p.tables e below (T.setTop (mkF m 54 #[vR a1, vI 1, vR a2, vR a2, vI 66, vI i, vD (g2 (i).toNatClampNeg), .second] [])) _
      refine own_sload X0.here hx (hb hby d1_54) rfl ?_
      show Steps p.tables e below (T.setTop (mkF m 56 #[vR a1, vI 1, vR a2, vR a2, vI 66, vI i, vD (g2 (i).toNatClampNeg), .second] [(.double (g2 (i).toNatClampNeg))])) _
      refine st59 _ ?_
      show Steps p.tables e below (T59.setTop (mkF m 59 #[vR a1, vI 1, vR a2, vR a2, vI 66, vI i, vD (g2 (i).toNatClampNeg), .second] [(.int (1 : Int32))])) _
      refine XS.ifYes X59.here hx rfl (pc0 := 59) (pc' := 77) rfl (hb hby d1_59) rfl ((if0 _ _).trans (feq (by decide)).2) (by decide) (by decide) ?_
      refine XS.iinc X59.here hx rfl (hb hby d1_77) rfl (l' := #[vR a1, vI 1, vR a2, vR a2, vI 66, vI (i + (1 : Int32)), vD (g2 (i).toNatClampNeg), .second]) rfl ?_
      refine XS.goto X59.here hx rfl (pc0 := 80) (pc' := 41) rfl (hb hby d1_80) (by decide) (by decide) ?_
      show Steps p.tables e below (T59.setTop (mkF m 41 #[vR a1, vI 1, vR a2, vR a2, vI 66, vI (i + (1 : Int32)), vD (g2 (i).toNatClampNeg), .second] [])) _
      exact st9 target kt
    · refine ⟨T, locs, i, s6, s7, X0, N0, e0, fun target kt => ?_⟩
      show Steps p.tables e below (T.setTop (mkF m 41 #[vR a1, vI 1, vR a2, vR a2, vI 66, vI i, s6, s7] [])) _
      refine XS.iload X0.here hx rfl (hb hby d1_41) rfl ?_
      refine XS.iload X0.here hx rfl (hb hby d1_43) rfl ?_
      refine XS.icmpYes X0.here hx rfl (pc0 := 45) (pc' := 83) rfl (hb hby d1_45) rfl (flt hg).2.1 (by decide) (by decide) ?_
      exact kt
theorem d1_0 : decode prog_66_method_1_code 0 = .ok (.aload_n 0, 1) := by decide +kernel
theorem d1_1 : decode prog_66_method_1_code 1 = .ok (.invokespecial 1, 3) := by decide +kernel
theorem d1_4 : decode prog_66_method_1_code 4 = .ok (.iload_n 1, 1) := by decide +kernel
theorem d1_5 : decode prog_66_method_1_code 5 = .ok (.iconst 1, 1) := by decide +kernel
theorem d1_6 : decode prog_66_method_1_code 6 = .ok (.if_icmp .lt 10, 3) := by decide +kernel
theorem d1_9 : decode prog_66_method_1_code 9 = .ok (.aload_n 2, 1) := by decide +kernel
theorem d1_10 : decode prog_66_method_1_code 10 = .ok (.arraylength, 1) := by decide +kernel
theorem d1_11 : decode prog_66_method_1_code 11 = .ok (.iload_n 1, 1) := by decide +kernel
theorem d1_12 : decode prog_66_method_1_code 12 = .ok (.irem, 1) := by decide +kernel
theorem d1_13 : decode prog_66_method_1_code 13 = .ok (.ifCond .eq 19, 3) := by decide +kernel
theorem d1_32 : decode prog_66_method_1_code 32 = .ok (.aload_n 2, 1) := by decide +kernel
theorem d1_33 : decode prog_66_method_1_code 33 = .ok (.astore_n 3, 1) := by decide +kernel
theorem d1_34 : decode prog_66_method_1_code 34 = .ok (.aload_n 3, 1) := by decide +kernel
theorem d1_35 : decode prog_66_method_1_code 35 = .ok (.arraylength, 1) := by decide +kernel
theorem d1_36 : decode prog_66_method_1_code 36 = .ok (.istore 4, 2) := by decide +kernel
theorem d1_38 : decode prog_66_method_1_code 38 = .ok (.iconst 0, 1) := by decide +kernel
theorem d1_39 : decode prog_66_method_1_code 39 = .ok (.istore 5, 2) := by decide +kernel
theorem d1_83 : decode prog_66_method_1_code 83 = .ok (.aload_n 0, 1) := by decide +kernel
theorem d1_84 : decode prog_66_method_1_code 84 = .ok (.aload_n 2, 1) := by decide +kernel
theorem d1_85 : decode prog_66_method_1_code 85 = .ok (.arraylength, 1) := by decide +kernel
theorem d1_86 : decode prog_66_method_1_code 86 = .ok (.iload_n 1, 1) := by decide +kernel
theorem d1_87 : decode prog_66_method_1_code 87 = .ok (.idiv, 1) := by decide +kernel
theorem d1_88 : decode prog_66_method_1_code 88 = .ok (.putfield 25, 3) := by decide +kernel
theorem d1_91 : decode prog_66_method_1_code 91 = .ok (.aload_n 0, 1) := by decide +kernel
theorem d1_92 : decode prog_66_method_1_code 92 = .ok (.iload_n 1, 1) := by decide +kernel
theorem d1_93 : decode prog_66_method_1_code 93 = .ok (.putfield 31, 3) := by decide +kernel
theorem d1_96 : decode prog_66_method_1_code 96 = .ok (.aload_n 0, 1) := by decide +kernel
theorem d1_97 : decode prog_66_method_1_code 97 = .ok (.aload_n 2, 1) := by decide +kernel
theorem d1_98 : decode prog_66_method_1_code 98 = .ok (.invokevirtual 34, 3) := by decide +kernel
theorem d1_101 : decode prog_66_method_1_code 101 = .ok (.checkcast 35, 3) := by decide +kernel
theorem d1_104 : decode prog_66_method_1_code 104 = .ok (.putfield 40, 3) := by decide +kernel
theorem d1_107 : decode prog_66_method_1_code 107 = .ok (.return_, 1) := by decide +kernel
theorem ef_rm1 (m : MethodId) (a1 : Addr) (a2 : Addr) : entryFrame m #[(.ref a1), (.int (1 : Int32)), (.ref a2)] 8 = mkF m 0 #[.val (.ref a1), .val (.int (1 : Int32)), .val (.ref a2), .unset, .unset, .unset, .unset, .unset] [] := by first | (simp [entryFrame, mkF, argsToLocals, Value.category]; done) | rfl
def Qrm1 (Z : State) (a1 : Addr) (a2 : Addr) (g2 : Nat → UInt64) (h0 : Heap) (n0 : Nat) (v : Option Value) (h : Heap) (L : List Loc) : Prop := v = none ∧ Fr n0 L ∧ Keep h0 h [a1] ∧ Fld Z h a1 "com/example/flatfinder/flatfinder/neighbours/Points" "size" "I" (.int (66 : Int32)) ∧ Fld Z h a1 "com/example/flatfinder/flatfinder/neighbours/Points" "dimensions" "I" (.int (1 : Int32)) ∧ ∃ co, n0 ≤ co ∧ h0.size ≤ co ∧ Fld Z h a1 "com/example/flatfinder/flatfinder/neighbours/Points" "coordinates" "[D" (.ref co) ∧ own_V Z h co .double 66 (fun ii => .double (g2 ii))
set_option maxRecDepth 65536 in
set_option maxHeartbeats 40000000 in
theorem rm1 (l : Launch) (Z : State) (a0 : Array Value) (hw : ∀ d ∈ tables_1, d.before a0 Z = true) (ws : List Jvm.Cond) (a1 : Addr) (a2 : Addr) (g2 : Nat → UInt64) (h0 : Heap) (n0 : Nat) (Z0 : n0 ≤ h0.size) (E1 : Exa Z h0 a1 "com/example/flatfinder/flatfinder/neighbours/Points") (Ps : Fld Z h0 a1 "com/example/flatfinder/flatfinder/neighbours/Points" "size" "I" (.int (0 : Int32))) (Pd : Fld Z h0 a1 "com/example/flatfinder/flatfinder/neighbours/Points" "dimensions" "I" (.int (0 : Int32))) (Pc : Fld Z h0 a1 "com/example/flatfinder/flatfinder/neighbours/Points" "coordinates" "[D" .null) (E2 : Exa Z h0 a2 "[D") (V2 : own_V Z h0 a2 .double 66 (fun ii => .double (g2 ii))) (F2 : ∀ i, Jvm.Free.Fl.Fin64 (g2 i)) (g1 : n0 ≤ a1) (n12 : a1 ≠ a2) :
    MetFree l (⟨"com/example/flatfinder/flatfinder/neighbours/Points", "<init>", "(I[D)V"⟩ : MethodName) (head1 (Jvm.Cond.code (⟨"com/example/flatfinder/flatfinder/neighbours/Points", "<init>", "(I[D)V"⟩ : MethodName) prog_66_method_1_code 8 none :: ws) ({ frames := 2, cells := 1, slots := 66, locals := 26 } : Room)) (fun a U => a = #[(.ref a1), (.int (1 : Int32)), (.ref a2)] ∧ Z.Warmed39 U.vm ∧ U.heap = h0) (fun _ _ _ _ _ => True) (fun _ U o U' => ∃ v L, o = .returned v ∧ Qrm1 Z a1 a2 g2 h0 n0 v U'.heap L ∧ FrameEnd U o U' L ({ frames := 2, cells := 1, slots := 66, locals := 26 } : Room).cells ({ frames := 2, cells := 1, slots := 66, locals := 26 } : Room).slots) := by
  refine MetFree.of_bodySF (plainFor_of_name pn_com_example_flatfinder_flatfinder_neighbours_Points) hisR ?_
  intro p e s m args below meth c s₁ Bd hml0 hP hK
  obtain ⟨rfl, hZ, hh⟩ := hP
  have hx := Bd.exec
  have hby := Bd.bytes
  have hml : c.maxLocals = 8 := hml0
  have hown : s.vm.findClass "com/example/flatfinder/flatfinder/neighbours/Points" = some m.cls := findClass_of_methodNamed Bd.named
  have hnm := (name_of_methodNamed Bd.named Bd.method).1
  have X0 : Stand p l e ({ frames := 2, cells := 1, slots := 66, locals := 26 } : Room) s m #[(.ref a1), (.int (1 : Int32)), (.ref a2)] below meth c s₁ [] 0 0 := Stand.of_body Bd
  have e0 : s₁.heap = h0 := by rw [← hh, Bd.state]; rfl
  have N0 := Fr.nil n0
  have pre0 : ∀ tg, Steps p.tables e below (s₁.setTop (mkF m 0 #[.val (.ref a1), .val (.int (1 : Int32)), .val (.ref a2), .unset, .unset, .unset, .unset, .unset] [])) tg → Steps p.tables e below (s₁.setTop (entryFrame m #[(.ref a1), (.int (1 : Int32)), (.ref a2)] 8)) tg := fun tg kg => castTop (ef_rm1 m a1 a2) kg
  have K0 := Keep.refl h0 [a1]
  obtain ⟨T61, X61, e61, st61⟩ := initO X0 hx hZ hown (wd hw 8 rfl) (wd hw 9 rfl) (wd hw 10 rfl) e0 (g := (mkF m 1 #[vR a1, vI 1, vR a2, .unset, .unset, .unset, .unset, .unset] [(.ref a1)])) rfl (by rw [hml]; rfl) rfl (hb hby d1_1) (by decide) (W := 0) (by show 2 * 0 + _ ≤ _; exact Nat.le_of_eq rfl) (by decide)
  obtain ⟨T62, lo62, i_62, s6_62, s7_62,  X62, N62, e62, st62⟩ := loop1 hw hx hZ hby hml hown a1 a2 g2 F2 67 (0 : Int32) .unset .unset T61 h0 _ X61 e61 N0 Z0 own_Two.u (by decide) V2 (by decide)
  obtain ⟨T63, h63, X63, e63, W63, st63⟩ := putF X62 hx hZ hown (host := "") (Or.inl (wd hw 20 rfl)) Via.refl e62 Ps E1 (Or.inr ⟨(wd hw 21 rfl), rfl, hnm⟩) (wd hw 3 rfl) (ty := .int) (by decide) rfl rfl (g := (mkF m 88 #[vR a1, vI 1, vR a2, vR a2, vI 66, vI i_62, s6_62, s7_62] [(.int ((66 : Int32) / (1 : Int32))), (.ref a1)])) rfl rfl (hb hby d1_88)
  have f64 := Ps.same W63
  have f65 := E1.wr W63
  have f66 := E2.wr W63
  have f67 := V2.other W63 (Ne.symm n12)
  have f68 := Pd.other W63 (Or.inr (slot_ne (Or.inr (wd hw 23 rfl)) (Or.inr (wd hw 21 rfl)) (by decide) (t := .int) (t' := .int) (by decide) (by decide)))
  have f69 := Pc.other W63 (Or.inr (slot_ne (Or.inr (wd hw 34 rfl)) (Or.inr (wd hw 21 rfl)) (by decide) (t := (.array .double)) (t' := .int) (by decide) (by decide)))
  have Zn70 := Nat.le_trans Z0 (Keep.of_wr W63).1
  have N71 := Fr.snoc X63 N62 g1
  have K72 := K0.wr W63 (Or.inl (List.mem_of_getElem? (i := 0) rfl))
  obtain ⟨T73, h73, X73, e73, W73, st73⟩ := putF X63 hx hZ hown (host := "") (Or.inl (wd hw 22 rfl)) Via.refl e63 f68 f65 (Or.inr ⟨(wd hw 23 rfl), rfl, hnm⟩) (wd hw 3 rfl) (ty := .int) (by decide) rfl rfl (g := (mkF m 93 #[vR a1, vI 1, vR a2, vR a2, vI 66, vI i_62, s6_62, s7_62] [(.int (1 : Int32)), (.ref a1)])) rfl rfl (hb hby d1_93)
  have f74 := f68.same W73
  have f75 := f65.wr W73
  have f76 := f66.wr W73
  have f77 := f67.other W73 (Ne.symm n12)
  have f78 := f69.other W73 (Or.inr (slot_ne (Or.inr (wd hw 34 rfl)) (Or.inr (wd hw 23 rfl)) (by decide) (t := (.array .double)) (t' := .int) (by decide) (by decide)))
  have f79 := f64.other W73 (Or.inr (slot_ne (Or.inr (wd hw 21 rfl)) (Or.inr (wd hw 23 rfl)) (by decide) (t := .int) (t' := .int) (by decide) (by decide)))
  have Zn80 := Nat.le_trans Zn70 (Keep.of_wr W73).1
  have N81 := Fr.snoc X73 N71 g1
  have K82 := K72.wr W73 (Or.inl (List.mem_of_getElem? (i := 0) rfl))
  obtain ⟨T83, h83, X83, e83, E83, A83, C83, st83⟩ := own_clone X73 hx hZ hown (wd hw 24 rfl) (wd hw 25 rfl) (wd hw 29 rfl) (wd hw 27 rfl) (wd hw 28 rfl) (wd hw 30 rfl) e73 f77 (fun _ _ => rfl) f76 (f := (mkF m 98 #[vR a1, vI 1, vR a2, vR a2, vI 66, vI i_62, s6_62, s7_62] [(.ref a2), (.ref a1)])) rfl (by rw [hml]; rfl) rfl (hb hby d1_98) (by decide) (W := 1) (by show 2 * 0 + _ ≤ _; exact Nat.le_of_eq rfl) (by decide) (by decide) (by decide)
  obtain ⟨b83, g83⟩ : ∃ z, z = h73.size := ⟨_, rfl⟩
  rw [← g83] at A83 C83 st83
  have g84 : n0 ≤ b83 := Nat.le_trans Zn80 (Nat.le_of_eq g83.symm)
  have sz85 : h0.size ≤ b83 := Nat.le_trans K82.1 (Nat.le_of_eq g83.symm)
  have ne86 : a1 ≠ b83 := Nat.ne_of_lt (Nat.lt_of_lt_of_le f75.lt (Nat.le_of_eq g83.symm))
  have ne87 : a2 ≠ b83 := Nat.ne_of_lt (Nat.lt_of_lt_of_le f76.lt (Nat.le_of_eq g83.symm))
  have f88 := f75.ext E83
  have f89 := f76.ext E83
  have f90 := f77.ext E83
  have f91 := f78.ext E83
  have f92 := f79.ext E83
  have f93 := f74.ext E83
  have Zn94 := Nat.le_trans Zn80 E83.1
  have K95 := K82.ext E83
  obtain ⟨T96, X96, e96, st96⟩ := castY X83 hx hZ hown (wd hw 31 rfl) e83 (Ins.self C83) (g := (mkF m 101 #[vR a1, vI 1, vR a2, vR a2, vI 66, vI i_62, s6_62, s7_62] [(.ref b83), (.ref a1)])) rfl rfl (hb hby d1_101)
  obtain ⟨T97, h97, X97, e97, W97, st97⟩ := putF X96 hx hZ hown (host := "") (Or.inl (wd hw 33 rfl)) Via.refl e96 f91 f88 (Or.inr ⟨(wd hw 34 rfl), rfl, hnm⟩) (wd hw 3 rfl) (ty := (.array .double)) (by decide) rfl rfl (g := (mkF m 104 #[vR a1, vI 1, vR a2, vR a2, vI 66, vI i_62, s6_62, s7_62] [(.ref b83), (.ref a1)])) rfl rfl (hb hby d1_104)
  have f98 := f91.same W97
  have f99 := f88.wr W97
  have f100 := f89.wr W97
  have f101 := f90.other W97 (Ne.symm n12)
  have f102 := f92.other W97 (Or.inr (slot_ne (Or.inr (wd hw 21 rfl)) (Or.inr (wd hw 34 rfl)) (by decide) (t := .int) (t' := (.array .double)) (by decide) (by decide)))
  have f103 := f93.other W97 (Or.inr (slot_ne (Or.inr (wd hw 23 rfl)) (Or.inr (wd hw 34 rfl)) (by decide) (t := .int) (t' := (.array .double)) (by decide) (by decide)))
  have f104 := A83.other W97 (Ne.symm ne86)
  have f105 := C83.wr W97
  have Zn106 := Nat.le_trans Zn94 (Keep.of_wr W97).1
  have N107 := Fr.snoc X97 N81 g1
  have K108 := K95.wr W97 (Or.inl (List.mem_of_getElem? (i := 0) rfl))
  obtain ⟨fs, hr, hrun, hended, hW, hsame⟩ := X97.leave (v := none) (fun _ => rfl)
  refine ⟨_, _, pre0 _ ?_, hrun, hended, _, _, rfl, ?_, ⟨_, rfl⟩, hW, hsame.mono (by decide) (by decide)⟩
  · show Steps p.tables e below (s₁.setTop (mkF m 0 #[vR a1, vI 1, vR a2, .unset, .unset, .unset, .unset, .unset] [])) _
    refine XS.aloadN X0.here hx rfl (hb hby d1_0) rfl rfl ?_
    show Steps p.tables e below (s₁.setTop (mkF m 1 #[vR a1, vI 1, vR a2, .unset, .unset, .unset, .unset, .unset] [(.ref a1)])) _
    refine st61 _ ?_
    show Steps p.tables e below (T61.setTop (mkF m 4 #[vR a1, vI 1, vR a2, .unset, .unset, .unset, .unset, .unset] [])) _
    refine XS.iloadN X61.here hx rfl (hb hby d1_4) rfl ?_
    refine XS.iconst X61.here hx rfl (hb hby d1_5) ?_
    refine XS.icmpNo X61.here hx rfl (hb hby d1_6) rfl (flt (by decide)).1 ?_
    refine XS.aloadN X61.here hx rfl (hb hby d1_9) rfl rfl ?_
    show Steps p.tables e below (T61.setTop (mkF m 10 #[vR a1, vI 1, vR a2, .unset, .unset, .unset, .unset, .unset] [(.ref a2)])) _
    refine own_len X61 hx hZ e61 V2 (z := (66 : Int32)) rfl (f := (mkF m 10 #[vR a1, vI 1, vR a2, .unset, .unset, .unset, .unset, .unset] [(.ref a2)])) rfl rfl (hb hby d1_10) _ ?_
    show Steps p.tables e below (T61.setTop (mkF m 11 #[vR a1, vI 1, vR a2, .unset, .unset, .unset, .unset, .unset] [(.int (66 : Int32))])) _
    refine XS.iloadN X61.here hx rfl (hb hby d1_11) rfl ?_
    refine XS.irem X61.here hx rfl (hb hby d1_12) rfl (by decide) ?_
    refine XS.ifYes X61.here hx rfl (pc0 := 13) (pc' := 32) rfl (hb hby d1_13) rfl ((if0 _ _).trans (teq (by decide)).1) (by decide) (by decide) ?_
    refine XS.aloadN X61.here hx rfl (hb hby d1_32) rfl rfl ?_
    refine XS.astoreN X61.here hx rfl (hb hby d1_33) rfl rfl (l' := #[vR a1, vI 1, vR a2, vR a2, .unset, .unset, .unset, .unset]) rfl ?_
    refine XS.aloadN X61.here hx rfl (hb hby d1_34) rfl rfl ?_
    show Steps p.tables e below (T61.setTop (mkF m 35 #[vR a1, vI 1, vR a2, vR a2, .unset, .unset, .unset, .unset] [(.ref a2)])) _
    refine own_len X61 hx hZ e61 V2 (z := (66 : Int32)) rfl (f := (mkF m 35 #[vR a1, vI 1, vR a2, vR a2, .unset, .unset, .unset, .unset] [(.ref a2)])) rfl rfl (hb hby d1_35) _ ?_
    show Steps p.tables e below (T61.setTop (mkF m 36 #[vR a1, vI 1, vR a2, vR a2, .unset, .unset, .unset, .unset] [(.int (66 : Int32))])) _
    refine XS.istore X61.here hx rfl (hb hby d1_36) rfl (l' := #[vR a1, vI 1, vR a2, vR a2, vI 66, .unset, .unset, .unset]) rfl ?_
    refine XS.iconst X61.here hx rfl (hb hby d1_38) ?_
    refine XS.istore X61.here hx rfl (hb hby d1_39) rfl (l' := #[vR a1, vI 1, vR a2, vR a2, vI 66, vI 0, .unset, .unset]) rfl ?_
    show Steps p.tables e below (T61.setTop (mkF m 41 #[vR a1, vI 1, vR a2, vR a2, vI 66, vI 0, .unset, .unset] [])) _
    refine st62 _ ?_
    show Steps p.tables e below (T62.setTop (mkF m 83 #[vR a1, vI 1, vR a2, vR a2, vI 66, vI i_62, s6_62, s7_62] [])) _
    refine XS.aloadN X62.here hx rfl (hb hby d1_83) rfl rfl ?_
    refine XS.aloadN X62.here hx rfl (hb hby d1_84) rfl rfl ?_
    show Steps p.tables e below (T62.setTop (mkF m 85 #[vR a1, vI 1, vR a2, vR a2, vI 66, vI i_62, s6_62, s7_62] [(.ref a2), (.ref a1)])) _
    refine own_len X62 hx hZ e62 V2 (z := (66 : Int32)) rfl (f := (mkF m 85 #[vR a1, vI 1, vR a2, vR a2, vI 66, vI i_62, s6_62, s7_62] [(.ref a2), (.ref a1)])) rfl rfl (hb hby d1_85) _ ?_
    show Steps p.tables e below (T62.setTop (mkF m 86 #[vR a1, vI 1, vR a2, vR a2, vI 66, vI i_62, s6_62, s7_62] [(.int (66 : Int32)), (.ref a1)])) _
    refine XS.iloadN X62.here hx rfl (hb hby d1_86) rfl ?_
    refine XS.idiv X62.here hx rfl (hb hby d1_87) rfl (by decide) ?_
    show Steps p.tables e below (T62.setTop (mkF m 88 #[vR a1, vI 1, vR a2, vR a2, vI 66, vI i_62, s6_62, s7_62] [(.int ((66 : Int32) / (1 : Int32))), (.ref a1)])) _
    refine st63 _ ?_
    show Steps p.tables e below (T63.setTop (mkF m 91 #[vR a1, vI 1, vR a2, vR a2, vI 66, vI i_62, s6_62, s7_62] [])) _
    refine XS.aloadN X63.here hx rfl (hb hby d1_91) rfl rfl ?_
    refine XS.iloadN X63.here hx rfl (hb hby d1_92) rfl ?_
    show Steps p.tables e below (T63.setTop (mkF m 93 #[vR a1, vI 1, vR a2, vR a2, vI 66, vI i_62, s6_62, s7_62] [(.int (1 : Int32)), (.ref a1)])) _
    refine st73 _ ?_
    show Steps p.tables e below (T73.setTop (mkF m 96 #[vR a1, vI 1, vR a2, vR a2, vI 66, vI i_62, s6_62, s7_62] [])) _
    refine XS.aloadN X73.here hx rfl (hb hby d1_96) rfl rfl ?_
    refine XS.aloadN X73.here hx rfl (hb hby d1_97) rfl rfl ?_
    show Steps p.tables e below (T73.setTop (mkF m 98 #[vR a1, vI 1, vR a2, vR a2, vI 66, vI i_62, s6_62, s7_62] [(.ref a2), (.ref a1)])) _
    refine st83 _ ?_
    show Steps p.tables e below (T83.setTop (mkF m 101 #[vR a1, vI 1, vR a2, vR a2, vI 66, vI i_62, s6_62, s7_62] [(.ref b83), (.ref a1)])) _
    refine st96 _ ?_
    show Steps p.tables e below (T96.setTop (mkF m 104 #[vR a1, vI 1, vR a2, vR a2, vI 66, vI i_62, s6_62, s7_62] [(.ref b83), (.ref a1)])) _
    refine st97 _ ?_
    show Steps p.tables e below (T97.setTop (mkF m 107 #[vR a1, vI 1, vR a2, vR a2, vI 66, vI i_62, s6_62, s7_62] [])) _
    exact X97.returnOut hx Bd.returns (hb hby d1_107) hr
  · show Qrm1 Z a1 a2 g2 h0 n0 _ T97.heap _
    rw [e97]
    exact ⟨rfl, N107, K108, f102, f103, b83, g84, sz85, f98, f104⟩
theorem d16_5 : decode jdk_65_method_103_code 5 = .ok (.iload_n 2, 1) := by decide +kernel
theorem d16_6 : decode jdk_65_method_103_code 6 = .ok (.iload_n 3, 1) := by decide +kernel
theorem d16_7 : decode jdk_65_method_103_code 7 = .ok (.if_icmp .ge 13, 3) := by decide +kernel
theorem d16_10 : decode jdk_65_method_103_code 10 = .ok (.aload_n 0, 1) := by decide +kernel
theorem d16_11 : decode jdk_65_method_103_code 11 = .ok (.iload_n 2, 1) := by decide +kernel
theorem d16_12 : decode jdk_65_method_103_code 12 = .ok (.iload_n 1, 1) := by decide +kernel
theorem d16_13 : decode jdk_65_method_103_code 13 = .ok (.iastore, 1) := by decide +kernel
theorem d16_14 : decode jdk_65_method_103_code 14 = .ok (.iinc 2 1, 3) := by decide +kernel
theorem d16_17 : decode jdk_65_method_103_code 17 = .ok (.goto (-12), 3) := by decide +kernel
set_option maxRecDepth 65536 in
set_option maxHeartbeats 40000000 in
theorem loop16 {p : Program} {l : Launch} {e : Env} {s : State} {m : MethodId} {args : Array Value} {below : List Frame} {meth : Method} {c : Code} {Z : State} {a0 : Array Value} {n0 : Nat} (hw : ∀ d ∈ tables_1, d.before a0 Z = true) (hx : p.tables.exec = Jvm.exec) (hZ : Z.Warmed39 s.vm) (hby : c.code = jdk_65_method_103_code) (hml : c.maxLocals = 4) (hown : s.vm.findClass "java/util/Arrays" = some m.cls) (a1 : Addr) (p1 : Int32) (g1 : n0 ≤ a1) :
    ∀ (k : Nat) (i : Int32) (f1 : Nat → Int32) (T : State) (h : Heap) (locs : List Loc) (X0 : Stand p l e ({ frames := 0, cells := 0, slots := 0, locals := 0 } : Room) s m args below meth c T locs 0 0) (e0 : T.heap = h) (N0 : Fr n0 locs) (Z0 : n0 ≤ h.size) (hi : 0 ≤ i.toInt ∧ i.toInt ≤ 66) (V1 : own_V Z h a1 .int 66 (fun ii => .int (f1 ii))) (hk : (66 - i.toInt).toNat < k),
      ∃ (T' : State) (locs' : List Loc) (i' : Int32), Stand p l e ({ frames := 0, cells := 0, slots := 0, locals := 0 } : Room) s m args below meth c T' locs' 0 0 ∧ Fr n0 locs' ∧ Keep h T'.heap [a1] ∧ own_Ai Z T'.heap a1 66 ∧ ∀ target, Steps p.tables e below (T'.setTop (mkF m 20 #[vR a1, vI p1, vI i', vI 66] [])) target → Steps p.tables e below (T.setTop (mkF m 5 #[vR a1, vI p1, vI i, vI 66] [])) target := by
  intro k
  induction k with
  | zero => intro i f1 T h locs X0 e0 N0 Z0 hi V1 hk; exact absurd hk (Nat.not_lt_zero _)
  | succ k ih =>
    intro i f1 T h locs X0 e0 N0 Z0 hi V1 hk
    by_cases hg : i < (66 : Int32)
    · have hg' := own_lt.mp hg
      rw [own_66] at hg'
      have hix : own_ix 66 i := ⟨hi.1, by omega⟩
      have hi1 := own_add1 (i := i) (by omega) (by omega)
      have K0 := Keep.refl h [a1]
      obtain ⟨T109, h109, X109, e109, W109, st109⟩ := own_sI X0 hx hZ e0 V1 (j := i) hix (f := (mkF m 13 #[vR a1, vI p1, vI i, vI 66] [(.int p1), (.int i), (.ref a1)])) rfl rfl (hb hby d16_13)
      have f110 : own_V Z h109 a1 .int 66 (fun ii => .int ((own_up f1 (i).toNatClampNeg p1) ii)) := own_V.setI V1 W109
      have Zn111 := Nat.le_trans Z0 (Keep.of_wr W109).1
      have N112 := Fr.snoc X109 N0 g1
      have K113 := K0.wr W109 (Or.inl (List.mem_of_getElem? (i := 0) rfl))
      obtain ⟨T9, locs9, i9, X9, N9, K9, A9, st9⟩ := ih (i + (1 : Int32)) (own_up f1 (i).toNatClampNeg p1) T109 h109 _ X109 e109 N112 Zn111 (by omega) f110 (by omega)
      refine ⟨T9, locs9, i9, X9, N9, K113.trans K9 (allS (Or.inl (List.mem_of_getElem? (i := 0) rfl)) all0), A9, fun target kt => ?_⟩
      show Steps p.tables e below (T.setTop (mkF m 5 #[vR a1, vI p1, vI i, vI 66] [])) _
      refine XS.iloadN X0.here hx rfl (hb hby d16_5) rfl ?_
      refine XS.iloadN X0.here hx rfl (hb hby d16_6) rfl ?_
      refine XS.icmpNo X0.here hx rfl (hb hby d16_7) rfl (tlt hg).2.1 ?_
      refine XS.aloadN X0.here hx rfl (hb hby d16_10) rfl rfl ?_
      refine XS.iloadN X0.here hx rfl (hb hby d16_11) rfl ?_
      refine XS.iloadN X0.here hx rfl (hb hby d16_12) rfl ?_
      show Steps p.tables e below (T.setTop (mkF m 13 #[vR a1, vI p1, vI i, vI 66] [(.int p1), (.int i), (.ref a1)])) _
      refine st109 _ ?_
      show Steps p.tables e below (T109.setTop (mkF m 14 #[vR a1, vI p1, vI i, vI 66] [])) _
      refine XS.iinc X109.here hx rfl (hb hby d16_14) rfl (l' := #[vR a1, vI p1, vI (i + (1 : Int32)), vI 66]) rfl ?_
      refine XS.goto X109.here hx rfl (pc0 := 17) (pc' := 5) rfl (hb hby d16_17) (by decide) (by decide) ?_
      show Steps p.tables e below (T109.setTop (mkF m 5 #[vR a1, vI p1, vI (i + (1 : Int32)), vI 66] [])) _
      exact st9 target kt
    · refine ⟨T, locs, i, X0, N0, e0 ▸ Keep.refl _ _, ⟨f1, e0 ▸ V1⟩, fun target kt => ?_⟩
      show Steps p.tables e below (T.setTop (mkF m 5 #[vR a1, vI p1, vI i, vI 66] [])) _
      refine XS.iloadN X0.here hx rfl (hb hby d16_5) rfl ?_
      refine XS.iloadN X0.here hx rfl (hb hby d16_6) rfl ?_
      refine XS.icmpYes X0.here hx rfl (pc0 := 7) (pc' := 20) rfl (hb hby d16_7) rfl (flt hg).2.1 (by decide) (by decide) ?_
      exact kt
theorem d16_0 : decode jdk_65_method_103_code 0 = .ok (.iconst 0, 1) := by decide +kernel
theorem d16_1 : decode jdk_65_method_103_code 1 = .ok (.istore_n 2, 1) := by decide +kernel
theorem d16_2 : decode jdk_65_method_103_code 2 = .ok (.aload_n 0, 1) := by decide +kernel
theorem d16_3 : decode jdk_65_method_103_code 3 = .ok (.arraylength, 1) := by decide +kernel
theorem d16_4 : decode jdk_65_method_103_code 4 = .ok (.istore_n 3, 1) := by decide +kernel
theorem d16_20 : decode jdk_65_method_103_code 20 = .ok (.return_, 1) := by decide +kernel
theorem pn_java_util_Arrays : plainName "java/util/Arrays" = true := by first | (simp [plainName, overriddenIn]; done) | decide +kernel
theorem ef_rm16 (m : MethodId) (a1 : Addr) (p1 : Int32) : entryFrame m #[(.ref a1), (.int p1)] 4 = mkF m 0 #[.val (.ref a1), .val (.int p1), .unset, .unset] [] := by first | (simp [entryFrame, mkF, argsToLocals, Value.category]; done) | rfl
def Qrm16 (Z : State) (a1 : Addr) (p1 : Int32) (f1 : Nat → Int32) (h0 : Heap) (n0 : Nat) (v : Option Value) (h : Heap) (L : List Loc) : Prop := v = none ∧ Fr n0 L ∧ Keep h0 h [a1] ∧ own_Ai Z h a1 66
set_option maxRecDepth 65536 in
set_option maxHeartbeats 40000000 in
theorem rm16 (l : Launch) (Z : State) (a0 : Array Value) (hw : ∀ d ∈ tables_1, d.before a0 Z = true) (ws : List Jvm.Cond) (a1 : Addr) (p1 : Int32) (f1 : Nat → Int32) (h0 : Heap) (n0 : Nat) (Z0 : n0 ≤ h0.size) (V1 : own_V Z h0 a1 .int 66 (fun ii => .int (f1 ii))) (g1 : n0 ≤ a1) :
    MetFree l (⟨"java/util/Arrays", "fill", "([II)V"⟩ : MethodName) (head1 (Jvm.Cond.code (⟨"java/util/Arrays", "fill", "([II)V"⟩ : MethodName) jdk_65_method_103_code 4 none :: ws) ({ frames := 0, cells := 0, slots := 0, locals := 0 } : Room)) (fun a U => a = #[(.ref a1), (.int p1)] ∧ Z.Warmed39 U.vm ∧ U.heap = h0) (fun _ _ _ _ _ => True) (fun _ U o U' => ∃ v L, o = .returned v ∧ Qrm16 Z a1 p1 f1 h0 n0 v U'.heap L ∧ FrameEnd U o U' L ({ frames := 0, cells := 0, slots := 0, locals := 0 } : Room).cells ({ frames := 0, cells := 0, slots := 0, locals := 0 } : Room).slots) := by
  refine MetFree.of_bodySF (plainFor_of_name pn_java_util_Arrays) hisR ?_
  intro p e s m args below meth c s₁ Bd hml0 hP hK
  obtain ⟨rfl, hZ, hh⟩ := hP
  have hx := Bd.exec
  have hby := Bd.bytes
  have hml : c.maxLocals = 4 := hml0
  have hown : s.vm.findClass "java/util/Arrays" = some m.cls := findClass_of_methodNamed Bd.named
  have hnm := (name_of_methodNamed Bd.named Bd.method).1
  have X0 : Stand p l e ({ frames := 0, cells := 0, slots := 0, locals := 0 } : Room) s m #[(.ref a1), (.int p1)] below meth c s₁ [] 0 0 := Stand.of_body Bd
  have e0 : s₁.heap = h0 := by rw [← hh, Bd.state]; rfl
  have N0 := Fr.nil n0
  have pre0 : ∀ tg, Steps p.tables e below (s₁.setTop (mkF m 0 #[.val (.ref a1), .val (.int p1), .unset, .unset] [])) tg → Steps p.tables e below (s₁.setTop (entryFrame m #[(.ref a1), (.int p1)] 4)) tg := fun tg kg => castTop (ef_rm16 m a1 p1) kg
  obtain ⟨T114, lo114, i_114,  X114, N114, K114, A114, st114⟩ := loop16 hw hx hZ hby hml hown a1 p1 g1 67 (0 : Int32) f1 s₁ h0 _ X0 e0 N0 Z0 (by decide) V1 (by decide)
  obtain ⟨fs, hr, hrun, hended, hW, hsame⟩ := X114.leave (v := none) (fun _ => rfl)
  refine ⟨_, _, pre0 _ ?_, hrun, hended, _, _, rfl, ?_, ⟨_, rfl⟩, hW, hsame.mono (by decide) (by decide)⟩
  · show Steps p.tables e below (s₁.setTop (mkF m 0 #[vR a1, vI p1, .unset, .unset] [])) _
    refine XS.iconst X0.here hx rfl (hb hby d16_0) ?_
    refine XS.istoreN X0.here hx rfl (hb hby d16_1) rfl (l' := #[vR a1, vI p1, vI 0, .unset]) rfl ?_
    refine XS.aloadN X0.here hx rfl (hb hby d16_2) rfl rfl ?_
    show Steps p.tables e below (s₁.setTop (mkF m 3 #[vR a1, vI p1, vI 0, .unset] [(.ref a1)])) _
    refine own_len X0 hx hZ e0 V1 (z := (66 : Int32)) rfl (f := (mkF m 3 #[vR a1, vI p1, vI 0, .unset] [(.ref a1)])) rfl rfl (hb hby d16_3) _ ?_
    show Steps p.tables e below (s₁.setTop (mkF m 4 #[vR a1, vI p1, vI 0, .unset] [(.int (66 : Int32))])) _
    refine XS.istoreN X0.here hx rfl (hb hby d16_4) rfl (l' := #[vR a1, vI p1, vI 0, vI 66]) rfl ?_
    show Steps p.tables e below (s₁.setTop (mkF m 5 #[vR a1, vI p1, vI 0, vI 66] [])) _
    refine st114 _ ?_
    show Steps p.tables e below (T114.setTop (mkF m 20 #[vR a1, vI p1, vI i_114, vI 66] [])) _
    exact X114.returnOut hx Bd.returns (hb hby d16_20) hr
  · show Qrm16 Z a1 p1 f1 h0 n0 _ T114.heap _
    exact ⟨rfl, N114, K114, A114⟩
theorem d23_56 : decode prog_67_method_2_code 56 = .ok (.aload_n 0, 1) := by decide +kernel
theorem d23_57 : decode prog_67_method_2_code 57 = .ok (.iload 8, 2) := by decide +kernel
theorem d23_59 : decode prog_67_method_2_code 59 = .ok (.daload, 1) := by decide +kernel
theorem d23_60 : decode prog_67_method_2_code 60 = .ok (.dload 6, 2) := by decide +kernel
theorem d23_62 : decode prog_67_method_2_code 62 = .ok (.dcmp .g, 1) := by decide +kernel
theorem d23_63 : decode prog_67_method_2_code 63 = .ok (.ifCond .ge 9, 3) := by decide +kernel
theorem d23_66 : decode prog_67_method_2_code 66 = .ok (.iinc 8 1, 3) := by decide +kernel
theorem d23_69 : decode prog_67_method_2_code 69 = .ok (.goto (-13), 3) := by decide +kernel
set_option maxRecDepth 65536 in
set_option maxHeartbeats 40000000 in
theorem loopI {p : Program} {l : Launch} {e : Env} {s : State} {m : MethodId} {args : Array Value} {below : List Frame} {meth : Method} {c : Code} {Z : State} {a0 : Array Value} {n0 : Nat} (hw : ∀ d ∈ tables_1, d.before a0 Z = true) (hx : p.tables.exec = Jvm.exec) (hZ : Z.Warmed39 s.vm) (hby : c.code = prog_67_method_2_code) (hml : c.maxLocals = 12) (hown : s.vm.findClass "com/example/flatfinder/flatfinder/neighbours/Selection" = some m.cls) (a1 : Addr) (p1 : Int32) (p2 : Int32) (tg : Int32) (lo : Int32) (hh : Int32) (pv : UInt64) (N : Nat) (hN : N ≤ 66) (j : Int32) (s10 : Slot) (s11 : Slot) (g1 : Nat → UInt64) (x : Nat) :
    ∀ (k : Nat) (i : Int32) (T : State) (h : Heap) (locs : List Loc) (X0 : Stand p l e ({ frames := 2, cells := 0, slots := 0, locals := 34 } : Room) s m args below meth c T locs 0 0) (e0 : T.heap = h) (N0 : Fr n0 locs) (Z0 : n0 ≤ h.size) (hi : 0 ≤ i.toInt ∧ i.toInt ≤ x ∧ x < N ∧ i.toInt < N) (hsx : own_stI pv (g1 x)) (V1 : own_V Z h a1 .double N (fun ii => .double (g1 ii))) (hk : ((x : Int) - i.toInt).toNat < k),
      ∃ (T' : State) (locs' : List Loc) (i' : Int32), Stand p l e ({ frames := 2, cells := 0, slots := 0, locals := 34 } : Room) s m args below meth c T' locs' 0 0 ∧ Fr n0 locs' ∧ T'.heap = h ∧ (i.toInt ≤ i'.toInt ∧ i'.toInt ≤ x) ∧ own_stI pv (g1 i'.toNatClampNeg) ∧ ∀ target, Steps p.tables e below (T'.setTop (mkF m 72 #[vR a1, vI p1, vI p2, vI tg, vI lo, vI hh, vD pv, .second, vI i', vI j, s10, s11] [])) target → Steps p.tables e below (T.setTop (mkF m 56 #[vR a1, vI p1, vI p2, vI tg, vI lo, vI hh, vD pv, .second, vI i, vI j, s10, s11] [])) target := by
  intro k
  induction k with
  | zero => intro i T h locs X0 e0 N0 Z0 hi hsx V1 hk; exact absurd hk (Nat.not_lt_zero _)
  | succ k ih =>
    intro i T h locs X0 e0 N0 Z0 hi hsx V1 hk
    have hix : own_ix N i := ⟨by omega, by omega⟩
    have hcl := own_clamp (j := i) (by omega)
    have hi1 := own_add1 (i := i) (by omega) (by omega)
    obtain ⟨cz, hcz⟩ : ∃ z, (cmpValue (FP.dcmp (g1 (i).toNatClampNeg) pv) .g) = z := ⟨_, rfl⟩
    by_cases hg : cz < (0 : Int32)
    · have hne : x ≠ i.toNatClampNeg := fun q => hsx (by rw [q, hcz]; exact hg)
      obtain ⟨w1, hw1⟩ : ∃ z, z = (i + (1 : Int32)) := ⟨_, rfl⟩
      rw [← hw1] at hi1
      obtain ⟨T9, locs9, i9, X9, N9, e9, b9, c9, st9⟩ := ih w1 T h _ X0 e0 N0 Z0 (by omega) hsx V1 (by omega)
      refine ⟨T9, locs9, i9, X9, N9, e9, by omega, c9, fun target kt => ?_⟩
      subst hw1
      show Steps p.tables e below (T.setTop (mkF m 56 #[vR a1, vI p1, vI p2, vI tg, vI lo, vI hh, vD pv, .second, vI i, vI j, s10, s11] [])) _
      refine XS.aloadN X0.here hx rfl (hb hby d23_56) rfl rfl ?_
      refine XS.iload X0.here hx rfl (hb hby d23_57) rfl ?_
      show Steps p.tables e below (T.setTop (mkF m 59 #[vR a1, vI p1, vI p2, vI tg, vI lo, vI hh, vD pv, .second, vI i, vI j, s10, s11] [(.int i), (.ref a1)])) _
      refine own_ldD X0 hx hZ e0 V1 (j := i) hix (f := (mkF m 59 #[vR a1, vI p1, vI p2, vI tg, vI lo, vI hh, vD pv, .second, vI i, vI j, s10, s11] [(.int i), (.ref a1)])) rfl rfl (hb hby d23_59) _ ?_
      show Steps p.tables e below (T.setTop (mkF m 60 #[vR a1, vI p1, vI p2, vI tg, vI lo, vI hh, vD pv, .second, vI i, vI j, s10, s11] [(.double (g1 (i).toNatClampNeg))])) _
      refine own_sload X0.here hx (hb hby d23_60) rfl ?_
      show Steps p.tables e below (T.setTop (mkF m 62 #[vR a1, vI p1, vI p2, vI tg, vI lo, vI hh, vD pv, .second, vI i, vI j, s10, s11] [(.double pv), (.double (g1 (i).toNatClampNeg))])) _
      refine own_scmp X0.here hx (z := cz) (hb hby d23_62) hcz ?_
      show Steps p.tables e below (T.setTop (mkF m 63 #[vR a1, vI p1, vI p2, vI tg, vI lo, vI hh, vD pv, .second, vI i, vI j, s10, s11] [(.int cz)])) _
      refine XS.ifNo X0.here hx rfl (hb hby d23_63) rfl ((if0 _ _).trans (tlt hg).2.1) ?_
      refine XS.iinc X0.here hx rfl (hb hby d23_66) rfl (l' := #[vR a1, vI p1, vI p2, vI tg, vI lo, vI hh, vD pv, .second, vI (i + (1 : Int32)), vI j, s10, s11]) rfl ?_
      refine XS.goto X0.here hx rfl (pc0 := 69) (pc' := 56) rfl (hb hby d23_69) (by decide) (by decide) ?_
      show Steps p.tables e below (T.setTop (mkF m 56 #[vR a1, vI p1, vI p2, vI tg, vI lo, vI hh, vD pv, .second, vI (i + (1 : Int32)), vI j, s10, s11] [])) _
      exact st9 target kt
    · refine ⟨T, locs, i, X0, N0, e0, by omega, (by unfold own_stI; rw [hcz]; exact hg), fun target kt => ?_⟩
      show Steps p.tables e below (T.setTop (mkF m 56 #[vR a1, vI p1, vI p2, vI tg, vI lo, vI hh, vD pv, .second, vI i, vI j, s10, s11] [])) _
      refine XS.aloadN X0.here hx rfl (hb hby d23_56) rfl rfl ?_
      refine XS.iload X0.here hx rfl (hb hby d23_57) rfl ?_
      show Steps p.tables e below (T.setTop (mkF m 59 #[vR a1, vI p1, vI p2, vI tg, vI lo, vI hh, vD pv, .second, vI i, vI j, s10, s11] [(.int i), (.ref a1)])) _
      refine own_ldD X0 hx hZ e0 V1 (j := i) hix (f := (mkF m 59 #[vR a1, vI p1, vI p2, vI tg, vI lo, vI hh, vD pv, .second, vI i, vI j, s10, s11] [(.int i), (.ref a1)])) rfl rfl (hb hby d23_59) _ ?_
      show Steps p.tables e below (T.setTop (mkF m 60 #[vR a1, vI p1, vI p2, vI tg, vI lo, vI hh, vD pv, .second, vI i, vI j, s10, s11] [(.double (g1 (i).toNatClampNeg))])) _
      refine own_sload X0.here hx (hb hby d23_60) rfl ?_
      show Steps p.tables e below (T.setTop (mkF m 62 #[vR a1, vI p1, vI p2, vI tg, vI lo, vI hh, vD pv, .second, vI i, vI j, s10, s11] [(.double pv), (.double (g1 (i).toNatClampNeg))])) _
      refine own_scmp X0.here hx (z := cz) (hb hby d23_62) hcz ?_
      show Steps p.tables e below (T.setTop (mkF m 63 #[vR a1, vI p1, vI p2, vI tg, vI lo, vI hh, vD pv, .second, vI i, vI j, s10, s11] [(.int cz)])) _
      refine XS.ifYes X0.here hx rfl (pc0 := 63) (pc' := 72) rfl (hb hby d23_63) rfl ((if0 _ _).trans (flt hg).2.1) (by decide) (by decide) ?_
      exact kt
theorem d23_72 : decode prog_67_method_2_code 72 = .ok (.aload_n 0, 1) := by decide +kernel
theorem d23_73 : decode prog_67_method_2_code 73 = .ok (.iload 9, 2) := by decide +kernel
theorem d23_75 : decode prog_67_method_2_code 75 = .ok (.daload, 1) := by decide +kernel
theorem d23_76 : decode prog_67_method_2_code 76 = .ok (.dload 6, 2) := by decide +kernel
theorem d23_78 : decode prog_67_method_2_code 78 = .ok (.dcmp .l, 1) := by decide +kernel
theorem d23_79 : decode prog_67_method_2_code 79 = .ok (.ifCond .le 9, 3) := by decide +kernel
theorem d23_82 : decode prog_67_method_2_code 82 = .ok (.iinc 9 (-1), 3) := by decide +kernel
theorem d23_85 : decode prog_67_method_2_code 85 = .ok (.goto (-13), 3) := by decide +kernel
set_option maxRecDepth 65536 in
set_option maxHeartbeats 40000000 in
theorem loopJ {p : Program} {l : Launch} {e : Env} {s : State} {m : MethodId} {args : Array Value} {below : List Frame} {meth : Method} {c : Code} {Z : State} {a0 : Array Value} {n0 : Nat} (hw : ∀ d ∈ tables_1, d.before a0 Z = true) (hx : p.tables.exec = Jvm.exec) (hZ : Z.Warmed39 s.vm) (hby : c.code = prog_67_method_2_code) (hml : c.maxLocals = 12) (hown : s.vm.findClass "com/example/flatfinder/flatfinder/neighbours/Selection" = some m.cls) (a1 : Addr) (p1 : Int32) (p2 : Int32) (tg : Int32) (lo : Int32) (hh : Int32) (pv : UInt64) (N : Nat) (hN : N ≤ 66) (i : Int32) (s10 : Slot) (s11 : Slot) (g1 : Nat → UInt64) (x : Nat) :
    ∀ (k : Nat) (j : Int32) (T : State) (h : Heap) (locs : List Loc) (X0 : Stand p l e ({ frames := 2, cells := 0, slots := 0, locals := 34 } : Room) s m args below meth c T locs 0 0) (e0 : T.heap = h) (N0 : Fr n0 locs) (Z0 : n0 ≤ h.size) (hi : 0 ≤ j.toInt ∧ x ≤ j.toInt ∧ x < N ∧ j.toInt < N) (hsx : own_stJ pv (g1 x)) (V1 : own_V Z h a1 .double N (fun ii => .double (g1 ii))) (hk : (j.toInt - x).toNat < k),
      ∃ (T' : State) (locs' : List Loc) (j' : Int32), Stand p l e ({ frames := 2, cells := 0, slots := 0, locals := 34 } : Room) s m args below meth c T' locs' 0 0 ∧ Fr n0 locs' ∧ T'.heap = h ∧ (x ≤ j'.toInt ∧ j'.toInt ≤ j.toInt) ∧ own_stJ pv (g1 j'.toNatClampNeg) ∧ ∀ target, Steps p.tables e below (T'.setTop (mkF m 88 #[vR a1, vI p1, vI p2, vI tg, vI lo, vI hh, vD pv, .second, vI i, vI j', s10, s11] [])) target → Steps p.tables e below (T.setTop (mkF m 72 #[vR a1, vI p1, vI p2, vI tg, vI lo, vI hh, vD pv, .second, vI i, vI j, s10, s11] [])) target := by
  intro k
  induction k with
  | zero => intro j T h locs X0 e0 N0 Z0 hi hsx V1 hk; exact absurd hk (Nat.not_lt_zero _)
  | succ k ih =>
    intro j T h locs X0 e0 N0 Z0 hi hsx V1 hk
    have hix : own_ix N j := ⟨by omega, by omega⟩
    have hcl := own_clamp (j := j) (by omega)
    have hi1 := own_sub1 (i := j) (by omega) (by omega)
    obtain ⟨cz, hcz⟩ : ∃ z, (cmpValue (FP.dcmp (g1 (j).toNatClampNeg) pv) .l) = z := ⟨_, rfl⟩
    by_cases hg : (0 : Int32) < cz
    · have hne : x ≠ j.toNatClampNeg := fun q => hsx (by rw [q, hcz]; exact hg)
      obtain ⟨w1, hw1⟩ : ∃ z, z = (j + Int32.ofInt (-1)) := ⟨_, rfl⟩
      rw [← hw1] at hi1
      obtain ⟨T9, locs9, i9, X9, N9, e9, b9, c9, st9⟩ := ih w1 T h _ X0 e0 N0 Z0 (by omega) hsx V1 (by omega)
      refine ⟨T9, locs9, i9, X9, N9, e9, by omega, c9, fun target kt => ?_⟩
      subst hw1
      show Steps p.tables e below (T.setTop (mkF m 72 #[vR a1, vI p1, vI p2, vI tg, vI lo, vI hh, vD pv, .second, vI i, vI j, s10, s11] [])) _
      refine XS.aloadN X0.here hx rfl (hb hby d23_72) rfl rfl ?_
      refine XS.iload X0.here hx rfl (hb hby d23_73) rfl ?_
      show Steps p.tables e below (T.setTop (mkF m 75 #[vR a1, vI p1, vI p2, vI tg, vI lo, vI hh, vD pv, .second, vI i, vI j, s10, s11] [(.int j), (.ref a1)])) _
      refine own_ldD X0 hx hZ e0 V1 (j := j) hix (f := (mkF m 75 #[vR a1, vI p1, vI p2, vI tg, vI lo, vI hh, vD pv, .second, vI i, vI j, s10, s11] [(.int j), (.ref a1)])) rfl rfl (hb hby d23_75) _ ?_
      show Steps p.tables e below (T.setTop (mkF m 76 #[vR a1, vI p1, vI p2, vI tg, vI lo, vI hh, vD pv, .second, vI i, vI j, s10, s11] [(.double (g1 (j).toNatClampNeg))])) _
      refine own_sload X0.here hx (hb hby d23_76) rfl ?_
      show Steps p.tables e below (T.setTop (mkF m 78 #[vR a1, vI p1, vI p2, vI tg, vI lo, vI hh, vD pv, .second, vI i, vI j, s10, s11] [(.double pv), (.double (g1 (j).toNatClampNeg))])) _
      refine own_scmp X0.here hx (z := cz) (hb hby d23_78) hcz ?_
      show Steps p.tables e below (T.setTop (mkF m 79 #[vR a1, vI p1, vI p2, vI tg, vI lo, vI hh, vD pv, .second, vI i, vI j, s10, s11] [(.int cz)])) _
      refine XS.ifNo X0.here hx rfl (hb hby d23_79) rfl ((if0 _ _).trans (tlt hg).2.2.2) ?_
      refine XS.iinc X0.here hx rfl (hb hby d23_82) rfl (l' := #[vR a1, vI p1, vI p2, vI tg, vI lo, vI hh, vD pv, .second, vI i, vI (j + Int32.ofInt (-1)), s10, s11]) rfl ?_
      refine XS.goto X0.here hx rfl (pc0 := 85) (pc' := 72) rfl (hb hby d23_85) (by decide) (by decide) ?_
      show Steps p.tables e below (T.setTop (mkF m 72 #[vR a1, vI p1, vI p2, vI tg, vI lo, vI hh, vD pv, .second, vI i, vI (j + Int32.ofInt (-1)), s10, s11] [])) _
      exact st9 target kt
    · refine ⟨T, locs, j, X0, N0, e0, by omega, (by unfold own_stJ; rw [hcz]; exact hg), fun target kt => ?_⟩
      show Steps p.tables e below (T.setTop (mkF m 72 #[vR a1, vI p1, vI p2, vI tg, vI lo, vI hh, vD pv, .second, vI i, vI j, s10, s11] [])) _
      refine XS.aloadN X0.here hx rfl (hb hby d23_72) rfl rfl ?_
      refine XS.iload X0.here hx rfl (hb hby d23_73) rfl ?_
      show Steps p.tables e below (T.setTop (mkF m 75 #[vR a1, vI p1, vI p2, vI tg, vI lo, vI hh, vD pv, .second, vI i, vI j, s10, s11] [(.int j), (.ref a1)])) _
      refine own_ldD X0 hx hZ e0 V1 (j := j) hix (f := (mkF m 75 #[vR a1, vI p1, vI p2, vI tg, vI lo, vI hh, vD pv, .second, vI i, vI j, s10, s11] [(.int j), (.ref a1)])) rfl rfl (hb hby d23_75) _ ?_
      show Steps p.tables e below (T.setTop (mkF m 76 #[vR a1, vI p1, vI p2, vI tg, vI lo, vI hh, vD pv, .second, vI i, vI j, s10, s11] [(.double (g1 (j).toNatClampNeg))])) _
      refine own_sload X0.here hx (hb hby d23_76) rfl ?_
      show Steps p.tables e below (T.setTop (mkF m 78 #[vR a1, vI p1, vI p2, vI tg, vI lo, vI hh, vD pv, .second, vI i, vI j, s10, s11] [(.double pv), (.double (g1 (j).toNatClampNeg))])) _
      refine own_scmp X0.here hx (z := cz) (hb hby d23_78) hcz ?_
      show Steps p.tables e below (T.setTop (mkF m 79 #[vR a1, vI p1, vI p2, vI tg, vI lo, vI hh, vD pv, .second, vI i, vI j, s10, s11] [(.int cz)])) _
      refine XS.ifYes X0.here hx rfl (pc0 := 79) (pc' := 88) rfl (hb hby d23_79) rfl ((if0 _ _).trans (flt hg).2.2.2) (by decide) (by decide) ?_
      exact kt
theorem d23_49 : decode prog_67_method_2_code 49 = .ok (.iload 8, 2) := by decide +kernel
theorem d23_51 : decode prog_67_method_2_code 51 = .ok (.iload 9, 2) := by decide +kernel
theorem d23_53 : decode prog_67_method_2_code 53 = .ok (.if_icmp .gt 71, 3) := by decide +kernel
theorem d23_88 : decode prog_67_method_2_code 88 = .ok (.iload 8, 2) := by decide +kernel
theorem d23_90 : decode prog_67_method_2_code 90 = .ok (.iload 9, 2) := by decide +kernel
theorem d23_92 : decode prog_67_method_2_code 92 = .ok (.if_icmp .gt (-43), 3) := by decide +kernel
theorem d23_95 : decode prog_67_method_2_code 95 = .ok (.aload_n 0, 1) := by decide +kernel
theorem d23_96 : decode prog_67_method_2_code 96 = .ok (.iload 8, 2) := by decide +kernel
theorem d23_98 : decode prog_67_method_2_code 98 = .ok (.daload, 1) := by decide +kernel
theorem d23_99 : decode prog_67_method_2_code 99 = .ok (.dstore 10, 2) := by decide +kernel
theorem d23_101 : decode prog_67_method_2_code 101 = .ok (.aload_n 0, 1) := by decide +kernel
theorem d23_102 : decode prog_67_method_2_code 102 = .ok (.iload 8, 2) := by decide +kernel
theorem d23_104 : decode prog_67_method_2_code 104 = .ok (.aload_n 0, 1) := by decide +kernel
theorem d23_105 : decode prog_67_method_2_code 105 = .ok (.iload 9, 2) := by decide +kernel
theorem d23_107 : decode prog_67_method_2_code 107 = .ok (.daload, 1) := by decide +kernel
theorem d23_108 : decode prog_67_method_2_code 108 = .ok (.dastore, 1) := by decide +kernel
theorem d23_109 : decode prog_67_method_2_code 109 = .ok (.aload_n 0, 1) := by decide +kernel
theorem d23_110 : decode prog_67_method_2_code 110 = .ok (.iload 9, 2) := by decide +kernel
theorem d23_112 : decode prog_67_method_2_code 112 = .ok (.dload 10, 2) := by decide +kernel
theorem d23_114 : decode prog_67_method_2_code 114 = .ok (.dastore, 1) := by decide +kernel
theorem d23_115 : decode prog_67_method_2_code 115 = .ok (.iinc 8 1, 3) := by decide +kernel
theorem d23_118 : decode prog_67_method_2_code 118 = .ok (.iinc 9 (-1), 3) := by decide +kernel
theorem d23_121 : decode prog_67_method_2_code 121 = .ok (.goto (-72), 3) := by decide +kernel
set_option maxRecDepth 65536 in
set_option maxHeartbeats 40000000 in
theorem loopB {p : Program} {l : Launch} {e : Env} {s : State} {m : MethodId} {args : Array Value} {below : List Frame} {meth : Method} {c : Code} {Z : State} {a0 : Array Value} {n0 : Nat} (hw : ∀ d ∈ tables_1, d.before a0 Z = true) (hx : p.tables.exec = Jvm.exec) (hZ : Z.Warmed39 s.vm) (hby : c.code = prog_67_method_2_code) (hml : c.maxLocals = 12) (hown : s.vm.findClass "com/example/flatfinder/flatfinder/neighbours/Selection" = some m.cls) (a1 : Addr) (p1 : Int32) (p2 : Int32) (tg : Int32) (lo : Int32) (hh : Int32) (pv : UInt64) (N : Nat) (hN : N ≤ 66) (ga : n0 ≤ a1) :
    ∀ (k : Nat) (i : Int32) (j : Int32) (s10 : Slot) (s11 : Slot) (g1 : Nat → UInt64) (T : State) (h : Heap) (locs : List Loc) (X0 : Stand p l e ({ frames := 2, cells := 0, slots := 0, locals := 34 } : Room) s m args below meth c T locs 0 0) (e0 : T.heap = h) (N0 : Fr n0 locs) (Z0 : n0 ≤ h.size) (hs10 : own_Two s10 s11) (hbd : 0 ≤ lo.toInt ∧ lo.toInt < hh.toInt ∧ hh.toInt < N ∧ lo.toInt ≤ i.toInt ∧ i.toInt ≤ hh.toInt + 1 ∧ lo.toInt - 1 ≤ j.toInt ∧ j.toInt ≤ hh.toInt) (hP : (lo.toInt < i.toInt ∧ j.toInt < hh.toInt) ∨ (i.toInt = lo.toInt ∧ j.toInt = hh.toInt)) (hS : i.toInt ≤ j.toInt → own_sen g1 pv lo.toInt hh.toInt i.toInt j.toInt) (F1 : ∀ i, Jvm.Free.Fl.Fin64 (g1 i)) (V1 : own_V Z h a1 .double N (fun ii => .double (g1 ii))) (hk : (j.toInt - i.toInt + 2).toNat < k),
      ∃ (T' : State) (locs' : List Loc) (i' : Int32) (j' : Int32) (u' : Slot) (v' : Slot), Stand p l e ({ frames := 2, cells := 0, slots := 0, locals := 34 } : Room) s m args below meth c T' locs' 0 0 ∧ Fr n0 locs' ∧ Keep h T'.heap [a1] ∧ (lo.toInt < i'.toInt ∧ i'.toInt ≤ hh.toInt + 1 ∧ lo.toInt - 1 ≤ j'.toInt ∧ j'.toInt < hh.toInt) ∧ own_Two u' v' ∧ own_Fd Z T'.heap a1 N ∧ ∀ target, Steps p.tables e below (T'.setTop (mkF m 124 #[vR a1, vI p1, vI p2, vI tg, vI lo, vI hh, vD pv, .second, vI i', vI j', u', v'] [])) target → Steps p.tables e below (T.setTop (mkF m 49 #[vR a1, vI p1, vI p2, vI tg, vI lo, vI hh, vD pv, .second, vI i, vI j, s10, s11] [])) target := by
  intro k
  induction k with
  | zero => intro i j s10 s11 g1 T h locs X0 e0 N0 Z0 hs10 hbd hP hS F1 V1 hk; exact absurd hk (Nat.not_lt_zero _)
  | succ k ih =>
    intro i j s10 s11 g1 T h locs X0 e0 N0 Z0 hs10 hbd hP hS F1 V1 hk
    by_cases hg : j < i
    · have hg' := own_lt.mp hg
      refine ⟨T, locs, i, j, s10, s11, X0, N0, e0 ▸ Keep.refl _ _, by omega, hs10, ⟨g1, e0 ▸ V1, F1⟩, fun target kt => ?_⟩
      show Steps p.tables e below (T.setTop (mkF m 49 #[vR a1, vI p1, vI p2, vI tg, vI lo, vI hh, vD pv, .second, vI i, vI j, s10, s11] [])) _
      refine XS.iload X0.here hx rfl (hb hby d23_49) rfl ?_
      refine XS.iload X0.here hx rfl (hb hby d23_51) rfl ?_
      refine XS.icmpYes X0.here hx rfl (pc0 := 53) (pc' := 124) rfl (hb hby d23_53) rfl (tlt hg).2.2.1 (by decide) (by decide) ?_
      exact kt
    · have hg' : ¬ j.toInt < i.toInt := fun q => hg (own_lt.mpr q)
      obtain ⟨x, y, x1, x2, sx, y1, y2, sy, hxy⟩ := hS (by omega)
      obtain ⟨T1, locs1, i1, X1, N1, e1, b1, c1, st1⟩ := loopI hw hx hZ hby hml hown a1 p1 p2 tg lo hh pv N hN j s10 s11 g1 x 70 i T h _ X0 e0 N0 Z0 (by omega) sx V1 (by omega)
      obtain ⟨T2, locs2, j1, X2, N2, e2, b2, c2, st2⟩ := loopJ hw hx hZ hby hml hown a1 p1 p2 tg lo hh pv N hN i1 s10 s11 g1 y 70 j T1 h _ X1 e1 N1 Z0 (by omega) sy V1 (by omega)
      by_cases hg2 : j1 < i1
      · have hg3 := own_lt.mp hg2
        obtain ⟨T9, locs9, i9, j9, u9, v9, X9, N9, K9, b9, w9, g9, st9⟩ := ih i1 j1 s10 s11 g1 T2 h _ X2 e2 N2 Z0 hs10 (by omega) (Or.inl (by omega)) (fun q => absurd q (by omega)) F1 V1 (by omega)
        refine ⟨T9, locs9, i9, j9, u9, v9, X9, N9, K9, b9, w9, g9, fun target kt => ?_⟩
        show Steps p.tables e below (T.setTop (mkF m 49 #[vR a1, vI p1, vI p2, vI tg, vI lo, vI hh, vD pv, .second, vI i, vI j, s10, s11] [])) _
        refine XS.iload X0.here hx rfl (hb hby d23_49) rfl ?_
        refine XS.iload X0.here hx rfl (hb hby d23_51) rfl ?_
        refine XS.icmpNo X0.here hx rfl (hb hby d23_53) rfl (flt hg).2.2.1 ?_
        show Steps p.tables e below (T.setTop (mkF m 56 #[vR a1, vI p1, vI p2, vI tg, vI lo, vI hh, vD pv, .second, vI i, vI j, s10, s11] [])) _
        refine st1 _ ?_
        refine st2 _ ?_
        show Steps p.tables e below (T2.setTop (mkF m 88 #[vR a1, vI p1, vI p2, vI tg, vI lo, vI hh, vD pv, .second, vI i1, vI j1, s10, s11] [])) _
        refine XS.iload X2.here hx rfl (hb hby d23_88) rfl ?_
        refine XS.iload X2.here hx rfl (hb hby d23_90) rfl ?_
        refine XS.icmpYes X2.here hx rfl (pc0 := 92) (pc' := 49) rfl (hb hby d23_92) rfl (tlt hg2).2.2.1 (by decide) (by decide) ?_
        show Steps p.tables e below (T2.setTop (mkF m 49 #[vR a1, vI p1, vI p2, vI tg, vI lo, vI hh, vD pv, .second, vI i1, vI j1, s10, s11] [])) _
        exact st9 target kt
      · have hg3 : ¬ j1.toInt < i1.toInt := fun q => hg2 (own_lt.mpr q)
        have hx1 : own_ix N i1 := ⟨by omega, by omega⟩
        have hx2 : own_ix N j1 := ⟨by omega, by omega⟩
        have hi1 := own_add1 (i := i1) (by omega) (by omega)
        have hj1 := own_sub1 (i := j1) (by omega) (by omega)
        have K0 := Keep.refl h [a1]
        obtain ⟨T115, h115, X115, e115, W115, st115⟩ := own_sD X2 hx hZ e2 V1 (j := i1) hx1 (f := (mkF m 108 #[vR a1, vI p1, vI p2, vI tg, vI lo, vI hh, vD pv, .second, vI i1, vI j1, vD (g1 (i1).toNatClampNeg), .second] [(.double (g1 (j1).toNatClampNeg)), (.int i1), (.ref a1)])) rfl rfl (hb hby d23_108)
        have f116 : own_V Z h115 a1 .double N (fun ii => .double ((own_up g1 (i1).toNatClampNeg (g1 (j1).toNatClampNeg)) ii)) := own_V.setD V1 W115
        have q117 := own_upP (j := (i1).toNatClampNeg) (x := (g1 (j1).toNatClampNeg)) F1 (F1 _)
        have Zn118 := Nat.le_trans Z0 (Keep.of_wr W115).1
        have N119 := Fr.snoc X115 N2 ga
        have K120 := K0.wr W115 (Or.inl (List.mem_of_getElem? (i := 0) rfl))
        obtain ⟨T121, h121, X121, e121, W121, st121⟩ := own_sD X115 hx hZ e115 f116 (j := j1) hx2 (f := (mkF m 114 #[vR a1, vI p1, vI p2, vI tg, vI lo, vI hh, vD pv, .second, vI i1, vI j1, vD (g1 (i1).toNatClampNeg), .second] [(.double (g1 (i1).toNatClampNeg)), (.int j1), (.ref a1)])) rfl rfl (hb hby d23_114)
        have f122 : own_V Z h121 a1 .double N (fun ii => .double ((own_up (own_up g1 (i1).toNatClampNeg (g1 (j1).toNatClampNeg)) (j1).toNatClampNeg (g1 (i1).toNatClampNeg)) ii)) := own_V.setD f116 W121
        have q123 := own_upP (j := (j1).toNatClampNeg) (x := (g1 (i1).toNatClampNeg)) q117 (F1 _)
        have Zn124 := Nat.le_trans Zn118 (Keep.of_wr W121).1
        have N125 := Fr.snoc X121 N119 ga
        have K126 := K120.wr W121 (Or.inl (List.mem_of_getElem? (i := 0) rfl))
        obtain ⟨w1, hw1⟩ : ∃ z, z = i1 + (1 : Int32) := ⟨_, rfl⟩
        obtain ⟨w2, hw2⟩ : ∃ z, z = j1 + Int32.ofInt (-1) := ⟨_, rfl⟩
        rw [← hw1] at hi1
        rw [← hw2] at hj1
        obtain ⟨T9, locs9, i9, j9, u9, v9, X9, N9, K9, b9, w9, g9, st9⟩ := ih w1 w2 (vD (g1 (i1).toNatClampNeg)) (.second) (own_up (own_up g1 (i1).toNatClampNeg (g1 (j1).toNatClampNeg)) (j1).toNatClampNeg (g1 (i1).toNatClampNeg)) T121 h121 _ X121 e121 N125 Zn124 own_Two.v (by omega) (Or.inl (by omega)) (fun q => by rw [hi1, hj1]; rw [hi1, hj1] at q; exact own_sen_next (by omega) (by omega) (by omega) (by omega) c1 c2 q) q123 f122 (by omega)
        refine ⟨T9, locs9, i9, j9, u9, v9, X9, N9, K126.trans K9 (allS (Or.inl (List.mem_of_getElem? (i := 0) rfl)) all0), b9, w9, g9, fun target kt => ?_⟩
        subst hw1 hw2
        show Steps p.tables e below (T.setTop (mkF m 49 #[vR a1, vI p1, vI p2, vI tg, vI lo, vI hh, vD pv, .second, vI i, vI j, s10, s11] [])) _
        refine XS.iload X0.here hx rfl (hb hby d23_49) rfl ?_
        refine XS.iload X0.here hx rfl (hb hby d23_51) rfl ?_
        refine XS.icmpNo X0.here hx rfl (hb hby d23_53) rfl (flt hg).2.2.1 ?_
        show Steps p.tables e below (T.setTop (mkF m 56 #[vR a1, vI p1, vI p2, vI tg, vI lo, vI hh, vD pv, .second, vI i, vI j, s10, s11] [])) _
        refine st1 _ ?_
        refine st2 _ ?_
        show Steps p.tables e below (T2.setTop (mkF m 88 #[vR a1, vI p1, vI p2, vI tg, vI lo, vI hh, vD pv, .second, vI i1, vI j1, s10, s11] [])) _
        refine XS.iload X2.here hx rfl (hb hby d23_88) rfl ?_
        refine XS.iload X2.here hx rfl (hb hby d23_90) rfl ?_
        refine XS.icmpNo X2.here hx rfl (hb hby d23_92) rfl (flt hg2).2.2.1 ?_
        refine XS.aloadN X2.here hx rfl (hb hby d23_95) rfl rfl ?_
        refine XS.iload X2.here hx rfl (hb hby d23_96) rfl ?_
        show Steps p.tables e below (T2.setTop (mkF m 98 #[vR a1, vI p1, vI p2, vI tg, vI lo, vI hh, vD pv, .second, vI i1, vI j1, s10, s11] [(.int i1), (.ref a1)])) _
        refine own_ldD X2 hx hZ e2 V1 (j := i1) hx1 (f := (mkF m 98 #[vR a1, vI p1, vI p2, vI tg, vI lo, vI hh, vD pv, .second, vI i1, vI j1, s10, s11] [(.int i1), (.ref a1)])) rfl rfl (hb hby d23_98) _ ?_
        show Steps p.tables e below (T2.setTop (mkF m 99 #[vR a1, vI p1, vI p2, vI tg, vI lo, vI hh, vD pv, .second, vI i1, vI j1, s10, s11] [(.double (g1 (i1).toNatClampNeg))])) _
        refine own_sstore X2.here hx (l' := #[vR a1, vI p1, vI p2, vI tg, vI lo, vI hh, vD pv, .second, vI i1, vI j1, vD (g1 (i1).toNatClampNeg), .second]) (hb hby d23_99) (by rcases hs10 with ⟨q, q'⟩ | ⟨_, q, q'⟩ <;> subst q q' <;> rfl) ?_
        show Steps p.tables e below (T2.setTop (mkF m 101 #[vR a1, vI p1, vI p2, vI tg, vI lo, vI hh, vD pv, .second, vI i1, vI j1, vD (g1 (i1).toNatClampNeg), .second] [])) _
        refine XS.aloadN X2.here hx rfl (hb hby d23_101) rfl rfl ?_
        refine XS.iload X2.here hx rfl (hb hby d23_102) rfl ?_
        refine XS.aloadN X2.here hx rfl (hb hby d23_104) rfl rfl ?_
        refine XS.iload X2.here hx rfl (hb hby d23_105) rfl ?_
        show Steps p.tables e below (T2.setTop (mkF m 107 #[vR a1, vI p1, vI p2, vI tg, vI lo, vI hh, vD pv, .second, vI i1, vI j1, vD (g1 (i1).toNatClampNeg), .second] [(.int j1), (.ref a1), (.int i1), (.ref a1)])) _
        refine own_ldD X2 hx hZ e2 V1 (j := j1) hx2 (f := (mkF m 107 #[vR a1, vI p1, vI p2, vI tg, vI lo, vI hh, vD pv, .second, vI i1, vI j1, vD (g1 (i1).toNatClampNeg), .second] [(.int j1), (.ref a1), (.int i1), (.ref a1)])) rfl rfl (hb hby d23_107) _ ?_
        show Steps p.tables e below (T2.setTop (mkF m 108 #[vR a1, vI p1, vI p2, vI tg, vI lo, vI hh, vD pv, .second, vI i1, vI j1, vD (g1 (i1).toNatClampNeg), .second] [(.double (g1 (j1).toNatClampNeg)), (.int i1), (.ref a1)])) _
        refine st115 _ ?_
        show Steps p.tables e below (T115.setTop (mkF m 109 #[vR a1, vI p1, vI p2, vI tg, vI lo, vI hh, vD pv, .second, vI i1, vI j1, vD (g1 (i1).toNatClampNeg), .second] [])) _
        refine XS.aloadN X115.here hx rfl (hb hby d23_109) rfl rfl ?_
        refine XS.iload X115.here hx rfl (hb hby d23_110) rfl ?_
        show Steps p.tables e below (T115.setTop (mkF m 112 #[vR a1, vI p1, vI p2, vI tg, vI lo, vI hh, vD pv, .second, vI i1, vI j1, vD (g1 (i1).toNatClampNeg), .second] [(.int j1), (.ref a1)])) _
        refine own_sload X115.here hx (hb hby d23_112) rfl ?_
        show Steps p.tables e below (T115.setTop (mkF m 114 #[vR a1, vI p1, vI p2, vI tg, vI lo, vI hh, vD pv, .second, vI i1, vI j1, vD (g1 (i1).toNatClampNeg), .second] [(.double (g1 (i1).toNatClampNeg)), (.int j1), (.ref a1)])) _
        refine st121 _ ?_
        show Steps p.tables e below (T121.setTop (mkF m 115 #[vR a1, vI p1, vI p2, vI tg, vI lo, vI hh, vD pv, .second, vI i1, vI j1, vD (g1 (i1).toNatClampNeg), .second] [])) _
        refine XS.iinc X121.here hx rfl (hb hby d23_115) rfl (l' := #[vR a1, vI p1, vI p2, vI tg, vI lo, vI hh, vD pv, .second, vI (i1 + (1 : Int32)), vI j1, vD (g1 (i1).toNatClampNeg), .second]) rfl ?_
        refine XS.iinc X121.here hx rfl (hb hby d23_118) rfl (l' := #[vR a1, vI p1, vI p2, vI tg, vI lo, vI hh, vD pv, .second, vI (i1 + (1 : Int32)), vI (j1 + Int32.ofInt (-1)), vD (g1 (i1).toNatClampNeg), .second]) rfl ?_
        refine XS.goto X121.here hx rfl (pc0 := 121) (pc' := 49) rfl (hb hby d23_121) (by decide) (by decide) ?_
        show Steps p.tables e below (T121.setTop (mkF m 49 #[vR a1, vI p1, vI p2, vI tg, vI lo, vI hh, vD pv, .second, vI (i1 + (1 : Int32)), vI (j1 + Int32.ofInt (-1)), vD (g1 (i1).toNatClampNeg), .second] [])) _
        exact st9 target kt
theorem d23_12 : decode prog_67_method_2_code 12 = .ok (.iload 4, 2) := by decide +kernel
theorem d23_14 : decode prog_67_method_2_code 14 = .ok (.iload 5, 2) := by decide +kernel
theorem d23_16 : decode prog_67_method_2_code 16 = .ok (.if_icmp .ge 141, 3) := by decide +kernel
theorem d23_19 : decode prog_67_method_2_code 19 = .ok (.aload_n 0, 1) := by decide +kernel
theorem d23_20 : decode prog_67_method_2_code 20 = .ok (.iload 4, 2) := by decide +kernel
theorem d23_22 : decode prog_67_method_2_code 22 = .ok (.daload, 1) := by decide +kernel
theorem d23_23 : decode prog_67_method_2_code 23 = .ok (.aload_n 0, 1) := by decide +kernel
theorem d23_24 : decode prog_67_method_2_code 24 = .ok (.iload 4, 2) := by decide +kernel
theorem d23_26 : decode prog_67_method_2_code 26 = .ok (.iload 5, 2) := by decide +kernel
theorem d23_28 : decode prog_67_method_2_code 28 = .ok (.iadd, 1) := by decide +kernel
theorem d23_29 : decode prog_67_method_2_code 29 = .ok (.iconst 1, 1) := by decide +kernel
theorem d23_30 : decode prog_67_method_2_code 30 = .ok (.iushr, 1) := by decide +kernel
theorem d23_31 : decode prog_67_method_2_code 31 = .ok (.daload, 1) := by decide +kernel
theorem d23_32 : decode prog_67_method_2_code 32 = .ok (.aload_n 0, 1) := by decide +kernel
theorem d23_33 : decode prog_67_method_2_code 33 = .ok (.iload 5, 2) := by decide +kernel
theorem d23_35 : decode prog_67_method_2_code 35 = .ok (.daload, 1) := by decide +kernel
theorem d23_36 : decode prog_67_method_2_code 36 = .ok (.invokestatic 7, 3) := by decide +kernel
theorem pd__DDD_D : parseMethodDescriptor "(DDD)D" = some ⟨[.double, .double, .double], some .double⟩ := by decide +kernel
theorem d23_39 : decode prog_67_method_2_code 39 = .ok (.dstore 6, 2) := by decide +kernel
theorem d23_41 : decode prog_67_method_2_code 41 = .ok (.iload 4, 2) := by decide +kernel
theorem d23_43 : decode prog_67_method_2_code 43 = .ok (.istore 8, 2) := by decide +kernel
theorem d23_45 : decode prog_67_method_2_code 45 = .ok (.iload 5, 2) := by decide +kernel
theorem d23_47 : decode prog_67_method_2_code 47 = .ok (.istore 9, 2) := by decide +kernel
theorem d23_124 : decode prog_67_method_2_code 124 = .ok (.iload_n 3, 1) := by decide +kernel
theorem d23_125 : decode prog_67_method_2_code 125 = .ok (.iload 9, 2) := by decide +kernel
theorem d23_127 : decode prog_67_method_2_code 127 = .ok (.if_icmp .gt 10, 3) := by decide +kernel
theorem d23_137 : decode prog_67_method_2_code 137 = .ok (.iload_n 3, 1) := by decide +kernel
theorem d23_138 : decode prog_67_method_2_code 138 = .ok (.iload 8, 2) := by decide +kernel
theorem d23_140 : decode prog_67_method_2_code 140 = .ok (.if_icmp .lt 10, 3) := by decide +kernel
theorem d23_143 : decode prog_67_method_2_code 143 = .ok (.iload 8, 2) := by decide +kernel
theorem d23_145 : decode prog_67_method_2_code 145 = .ok (.istore 4, 2) := by decide +kernel
theorem d23_147 : decode prog_67_method_2_code 147 = .ok (.goto 7, 3) := by decide +kernel
theorem d23_154 : decode prog_67_method_2_code 154 = .ok (.goto (-142), 3) := by decide +kernel
theorem d23_130 : decode prog_67_method_2_code 130 = .ok (.iload 9, 2) := by decide +kernel
theorem d23_132 : decode prog_67_method_2_code 132 = .ok (.istore 5, 2) := by decide +kernel
theorem d23_134 : decode prog_67_method_2_code 134 = .ok (.goto 20, 3) := by decide +kernel
set_option maxRecDepth 65536 in
set_option maxHeartbeats 40000000 in
theorem loopA {p : Program} {l : Launch} {e : Env} {s : State} {m : MethodId} {args : Array Value} {below : List Frame} {meth : Method} {c : Code} {Z : State} {a0 : Array Value} {n0 : Nat} (hw : ∀ d ∈ tables_1, d.before a0 Z = true) (hx : p.tables.exec = Jvm.exec) (hZ : Z.Warmed39 s.vm) (hby : c.code = prog_67_method_2_code) (hml : c.maxLocals = 12) (hown : s.vm.findClass "com/example/flatfinder/flatfinder/neighbours/Selection" = some m.cls) (a1 : Addr) (p1 : Int32) (p2 : Int32) (tg : Int32) (N : Nat) (hN : N ≤ 66) (ga : n0 ≤ a1) :
    ∀ (k : Nat) (lo : Int32) (hh : Int32) (s6 : Slot) (s7 : Slot) (s8 : Slot) (s9 : Slot) (s10 : Slot) (s11 : Slot) (g1 : Nat → UInt64) (T : State) (h : Heap) (locs : List Loc) (X0 : Stand p l e ({ frames := 2, cells := 0, slots := 0, locals := 34 } : Room) s m args below meth c T locs 0 0) (e0 : T.heap = h) (N0 : Fr n0 locs) (Z0 : n0 ≤ h.size) (hs6 : own_Two s6 s7) (hs8 : own_One s8) (hs9 : own_One s9) (hs10 : own_Two s10 s11) (hbd : 0 ≤ lo.toInt ∧ lo.toInt ≤ tg.toInt ∧ tg.toInt ≤ hh.toInt ∧ hh.toInt < N) (F1 : ∀ i, Jvm.Free.Fl.Fin64 (g1 i)) (V1 : own_V Z h a1 .double N (fun ii => .double (g1 ii))) (hk : (hh.toInt - lo.toInt).toNat < k),
      ∃ (T' : State) (locs' : List Loc) (pcx : Nat) (lo' : Int32) (hh' : Int32) (t6' : Slot) (t7' : Slot) (t8' : Slot) (t9' : Slot) (t10' : Slot) (t11' : Slot), Stand p l e ({ frames := 2, cells := 0, slots := 0, locals := 34 } : Room) s m args below meth c T' locs' 0 0 ∧ Fr n0 locs' ∧ (pcx = 150 ∨ pcx = 157) ∧ Keep h T'.heap [a1] ∧ own_Fd Z T'.heap a1 N ∧ ∀ target, Steps p.tables e below (T'.setTop (mkF m pcx #[vR a1, vI p1, vI p2, vI tg, vI lo', vI hh', t6', t7', t8', t9', t10', t11'] [])) target → Steps p.tables e below (T.setTop (mkF m 12 #[vR a1, vI p1, vI p2, vI tg, vI lo, vI hh, s6, s7, s8, s9, s10, s11] [])) target := by
  intro k
  induction k with
  | zero => intro lo hh s6 s7 s8 s9 s10 s11 g1 T h locs X0 e0 N0 Z0 hs6 hs8 hs9 hs10 hbd F1 V1 hk; exact absurd hk (Nat.not_lt_zero _)
  | succ k ih =>
    intro lo hh s6 s7 s8 s9 s10 s11 g1 T h locs X0 e0 N0 Z0 hs6 hs8 hs9 hs10 hbd F1 V1 hk
    by_cases hg : lo < hh
    · have hg' := own_lt.mp hg
      have hmid := own_mid (lo := lo) (hi := hh) (by omega) (by omega) (by omega)
      have hxl : own_ix N lo := ⟨by omega, by omega⟩
      have hxh : own_ix N hh := ⟨by omega, by omega⟩
      have hxm : own_ix N (own_half (lo + hh)) := ⟨by omega, by omega⟩
      obtain ⟨_, _, ⟨T127, L127, k127, n127⟩, -, X127, ⟨Lc127, hQ127, l127, y127, z127⟩, st127⟩ := Jvm.LawKit.callS X0 hx (y := (⟨"com/example/flatfinder/flatfinder/neighbours/Selection", "median", "(DDD)D"⟩ : MethodName)) hown (mvT hZ (wd hw 173 rfl)) (mvT hZ (wd hw 174 rfl)) (mvT hZ (wd hw 171 rfl)) (mvT hZ (wd hw 175 rfl)) (by decide) (backOf (W := 0) (rm24 l Z a0 hw [] (g1 (lo).toNatClampNeg) (g1 ((own_half (lo + hh))).toNatClampNeg) (g1 (hh).toNatClampNeg)  h n0 Z0 (F1 _).noNaN (F1 _).noNaN (F1 _).noNaN) hZ (wd hw 175 rfl) (wd hw 171 rfl) (by decide) (by decide)) (g := (mkF m 36 #[vR a1, vI p1, vI p2, vI tg, vI lo, vI hh, s6, s7, s8, s9, s10, s11] [(.double (g1 (hh).toNatClampNeg)), (.double (g1 ((own_half (lo + hh))).toNatClampNeg)), (.double (g1 (lo).toNatClampNeg))])) rfl (by rw [hml]; rfl) (argsL := [(.double (g1 (lo).toNatClampNeg)), (.double (g1 ((own_half (lo + hh))).toNatClampNeg)), (.double (g1 (hh).toNatClampNeg))]) (rest := []) (lenOf pd__DDD_D rfl) rfl (by show 2 * 0 + _ ≤ _; exact Nat.le_of_eq rfl) (hb hby d23_36) (fun _ _ => ⟨rfl, e0, (by decide : 0 + 0 ≤ _), (by decide : 0 + 0 ≤ _)⟩)
      dsimp only [Pt.U, Pt.locs, Pt.cells, Pt.slots] at X127 l127 y127 z127 st127 hQ127
      subst l127 y127 z127
      obtain ⟨rfl, N127q, e127⟩ := hQ127
      have N128 := Fr.app N0 N127q
      obtain ⟨T3, locs3, i9, j9, u9, v9, X3, N3, K3, b3, w3, A3, st3⟩ := loopB hw hx hZ hby hml hown a1 p1 p2 tg lo hh (own_med (g1 (lo).toNatClampNeg) (g1 (own_half (lo + hh)).toNatClampNeg) (g1 (hh).toNatClampNeg)) N hN ga 80 lo hh s10 s11 g1 T127 h _ X127 e127 N128 Z0 hs10 (by omega) (Or.inr ⟨rfl, rfl⟩) (fun _ => own_sen_start F1 (by omega) hmid) F1 V1 (by omega)
      obtain ⟨g3, V3, F3⟩ := A3
      have Z3 := Nat.le_trans Z0 K3.1
      by_cases h1 : j9 < tg
      · have h1' := own_lt.mp h1
        by_cases h2 : tg < i9
        · refine ⟨T3, locs3, 150, lo, hh, (vD (own_med (g1 (lo).toNatClampNeg) (g1 (own_half (lo + hh)).toNatClampNeg) (g1 (hh).toNatClampNeg))), (.second), (vI i9), (vI j9), (u9), (v9), X3, N3, Or.inl rfl, K3, ⟨g3, V3, F3⟩, fun target kt => ?_⟩
          show Steps p.tables e below (T.setTop (mkF m 12 #[vR a1, vI p1, vI p2, vI tg, vI lo, vI hh, s6, s7, s8, s9, s10, s11] [])) _
          refine XS.iload X0.here hx rfl (hb hby d23_12) rfl ?_
          refine XS.iload X0.here hx rfl (hb hby d23_14) rfl ?_
          refine XS.icmpNo X0.here hx rfl (hb hby d23_16) rfl (tlt hg).2.1 ?_
          refine XS.aloadN X0.here hx rfl (hb hby d23_19) rfl rfl ?_
          refine XS.iload X0.here hx rfl (hb hby d23_20) rfl ?_
          show Steps p.tables e below (T.setTop (mkF m 22 #[vR a1, vI p1, vI p2, vI tg, vI lo, vI hh, s6, s7, s8, s9, s10, s11] [(.int lo), (.ref a1)])) _
          refine own_ldD X0 hx hZ e0 V1 (j := lo) hxl (f := (mkF m 22 #[vR a1, vI p1, vI p2, vI tg, vI lo, vI hh, s6, s7, s8, s9, s10, s11] [(.int lo), (.ref a1)])) rfl rfl (hb hby d23_22) _ ?_
          show Steps p.tables e below (T.setTop (mkF m 23 #[vR a1, vI p1, vI p2, vI tg, vI lo, vI hh, s6, s7, s8, s9, s10, s11] [(.double (g1 (lo).toNatClampNeg))])) _
          refine XS.aloadN X0.here hx rfl (hb hby d23_23) rfl rfl ?_
          refine XS.iload X0.here hx rfl (hb hby d23_24) rfl ?_
          refine XS.iload X0.here hx rfl (hb hby d23_26) rfl ?_
          refine XS.iadd X0.here hx rfl (hb hby d23_28) rfl ?_
          refine XS.iconst X0.here hx rfl (hb hby d23_29) ?_
          refine XS.iushr X0.here hx rfl (hb hby d23_30) rfl ?_
          show Steps p.tables e below (T.setTop (mkF m 31 #[vR a1, vI p1, vI p2, vI tg, vI lo, vI hh, s6, s7, s8, s9, s10, s11] [(.int (own_half (lo + hh))), (.ref a1), (.double (g1 (lo).toNatClampNeg))])) _
          refine own_ldD X0 hx hZ e0 V1 (j := (own_half (lo + hh))) hxm (f := (mkF m 31 #[vR a1, vI p1, vI p2, vI tg, vI lo, vI hh, s6, s7, s8, s9, s10, s11] [(.int (own_half (lo + hh))), (.ref a1), (.double (g1 (lo).toNatClampNeg))])) rfl rfl (hb hby d23_31) _ ?_
          show Steps p.tables e below (T.setTop (mkF m 32 #[vR a1, vI p1, vI p2, vI tg, vI lo, vI hh, s6, s7, s8, s9, s10, s11] [(.double (g1 ((own_half (lo + hh))).toNatClampNeg)), (.double (g1 (lo).toNatClampNeg))])) _
          refine XS.aloadN X0.here hx rfl (hb hby d23_32) rfl rfl ?_
          refine XS.iload X0.here hx rfl (hb hby d23_33) rfl ?_
          show Steps p.tables e below (T.setTop (mkF m 35 #[vR a1, vI p1, vI p2, vI tg, vI lo, vI hh, s6, s7, s8, s9, s10, s11] [(.int hh), (.ref a1), (.double (g1 ((own_half (lo + hh))).toNatClampNeg)), (.double (g1 (lo).toNatClampNeg))])) _
          refine own_ldD X0 hx hZ e0 V1 (j := hh) hxh (f := (mkF m 35 #[vR a1, vI p1, vI p2, vI tg, vI lo, vI hh, s6, s7, s8, s9, s10, s11] [(.int hh), (.ref a1), (.double (g1 ((own_half (lo + hh))).toNatClampNeg)), (.double (g1 (lo).toNatClampNeg))])) rfl rfl (hb hby d23_35) _ ?_
          show Steps p.tables e below (T.setTop (mkF m 36 #[vR a1, vI p1, vI p2, vI tg, vI lo, vI hh, s6, s7, s8, s9, s10, s11] [(.double (g1 (hh).toNatClampNeg)), (.double (g1 ((own_half (lo + hh))).toNatClampNeg)), (.double (g1 (lo).toNatClampNeg))])) _
          refine st127 _ ?_
          show Steps p.tables e below (T127.setTop (mkF m 39 #[vR a1, vI p1, vI p2, vI tg, vI lo, vI hh, s6, s7, s8, s9, s10, s11] [(.double (own_med (g1 (lo).toNatClampNeg) (g1 (own_half (lo + hh)).toNatClampNeg) (g1 (hh).toNatClampNeg)))])) _
          refine own_sstore X127.here hx (l' := #[vR a1, vI p1, vI p2, vI tg, vI lo, vI hh, vD (own_med (g1 (lo).toNatClampNeg) (g1 (own_half (lo + hh)).toNatClampNeg) (g1 (hh).toNatClampNeg)), .second, s8, s9, s10, s11]) (hb hby d23_39) (by rcases hs6 with ⟨q, q'⟩ | ⟨_, q, q'⟩ <;> subst q q' <;> rfl) ?_
          show Steps p.tables e below (T127.setTop (mkF m 41 #[vR a1, vI p1, vI p2, vI tg, vI lo, vI hh, vD (own_med (g1 (lo).toNatClampNeg) (g1 (own_half (lo + hh)).toNatClampNeg) (g1 (hh).toNatClampNeg)), .second, s8, s9, s10, s11] [])) _
          refine XS.iload X127.here hx rfl (hb hby d23_41) rfl ?_
          refine XS.istore X127.here hx rfl (hb hby d23_43) rfl (l' := #[vR a1, vI p1, vI p2, vI tg, vI lo, vI hh, vD (own_med (g1 (lo).toNatClampNeg) (g1 (own_half (lo + hh)).toNatClampNeg) (g1 (hh).toNatClampNeg)), .second, vI lo, s9, s10, s11]) (by rcases hs8 with q | ⟨_, q⟩ <;> subst q <;> rfl) ?_
          refine XS.iload X127.here hx rfl (hb hby d23_45) rfl ?_
          refine XS.istore X127.here hx rfl (hb hby d23_47) rfl (l' := #[vR a1, vI p1, vI p2, vI tg, vI lo, vI hh, vD (own_med (g1 (lo).toNatClampNeg) (g1 (own_half (lo + hh)).toNatClampNeg) (g1 (hh).toNatClampNeg)), .second, vI lo, vI hh, s10, s11]) (by rcases hs9 with q | ⟨_, q⟩ <;> subst q <;> rfl) ?_
          show Steps p.tables e below (T127.setTop (mkF m 49 #[vR a1, vI p1, vI p2, vI tg, vI lo, vI hh, vD (own_med (g1 (lo).toNatClampNeg) (g1 (own_half (lo + hh)).toNatClampNeg) (g1 (hh).toNatClampNeg)), .second, vI lo, vI hh, s10, s11] [])) _
          refine st3 _ ?_
          show Steps p.tables e below (T3.setTop (mkF m 124 #[vR a1, vI p1, vI p2, vI tg, vI lo, vI hh, vD (own_med (g1 (lo).toNatClampNeg) (g1 (own_half (lo + hh)).toNatClampNeg) (g1 (hh).toNatClampNeg)), .second, vI i9, vI j9, u9, v9] [])) _
          refine XS.iloadN X3.here hx rfl (hb hby d23_124) rfl ?_
          refine XS.iload X3.here hx rfl (hb hby d23_125) rfl ?_
          refine XS.icmpYes X3.here hx rfl (pc0 := 127) (pc' := 137) rfl (hb hby d23_127) rfl (tlt h1).2.2.1 (by decide) (by decide) ?_
          refine XS.iloadN X3.here hx rfl (hb hby d23_137) rfl ?_
          refine XS.iload X3.here hx rfl (hb hby d23_138) rfl ?_
          refine XS.icmpYes X3.here hx rfl (pc0 := 140) (pc' := 150) rfl (hb hby d23_140) rfl (tlt h2).1 (by decide) (by decide) ?_
          show Steps p.tables e below (T3.setTop (mkF m 150 #[vR a1, vI p1, vI p2, vI tg, vI lo, vI hh, vD (own_med (g1 (lo).toNatClampNeg) (g1 (own_half (lo + hh)).toNatClampNeg) (g1 (hh).toNatClampNeg)), .second, vI i9, vI j9, u9, v9] [])) _
          exact kt
        · have h2' : ¬ tg.toInt < i9.toInt := fun q => h2 (own_lt.mpr q)
          obtain ⟨T9, locs9, pc9, a9, b9, d6, d7, d8, d9, d10, d11, X9, N9, q9, K9, A9, st9⟩ := ih i9 hh (vD (own_med (g1 (lo).toNatClampNeg) (g1 (own_half (lo + hh)).toNatClampNeg) (g1 (hh).toNatClampNeg))) (.second) (vI i9) (vI j9) (u9) (v9) g3 T3 T3.heap _ X3 rfl N3 Z3 own_Two.v own_One.v own_One.v w3 (by omega) F3 V3 (by omega)
          refine ⟨T9, locs9, pc9, a9, b9, d6, d7, d8, d9, d10, d11, X9, N9, q9, K3.trans K9 (allS (Or.inl (List.mem_of_getElem? (i := 0) rfl)) all0), A9, fun target kt => ?_⟩
          show Steps p.tables e below (T.setTop (mkF m 12 #[vR a1, vI p1, vI p2, vI tg, vI lo, vI hh, s6, s7, s8, s9, s10, s11] [])) _
          refine XS.iload X0.here hx rfl (hb hby d23_12) rfl ?_
          refine XS.iload X0.here hx rfl (hb hby d23_14) rfl ?_
          refine XS.icmpNo X0.here hx rfl (hb hby d23_16) rfl (tlt hg).2.1 ?_
          refine XS.aloadN X0.here hx rfl (hb hby d23_19) rfl rfl ?_
          refine XS.iload X0.here hx rfl (hb hby d23_20) rfl ?_
          show Steps p.tables e below (T.setTop (mkF m 22 #[vR a1, vI p1, vI p2, vI tg, vI lo, vI hh, s6, s7, s8, s9, s10, s11] [(.int lo), (.ref a1)])) _
          refine own_ldD X0 hx hZ e0 V1 (j := lo) hxl (f := (mkF m 22 #[vR a1, vI p1, vI p2, vI tg, vI lo, vI hh, s6, s7, s8, s9, s10, s11] [(.int lo), (.ref a1)])) rfl rfl (hb hby d23_22) _ ?_
          show Steps p.tables e below (T.setTop (mkF m 23 #[vR a1, vI p1, vI p2, vI tg, vI lo, vI hh, s6, s7, s8, s9, s10, s11] [(.double (g1 (lo).toNatClampNeg))])) _
          refine XS.aloadN X0.here hx rfl (hb hby d23_23) rfl rfl ?_
          refine XS.iload X0.here hx rfl (hb hby d23_24) rfl ?_
          refine XS.iload X0.here hx rfl (hb hby d23_26) rfl ?_
          refine XS.iadd X0.here hx rfl (hb hby d23_28) rfl ?_
          refine XS.iconst X0.here hx rfl (hb hby d23_29) ?_
          refine XS.iushr X0.here hx rfl (hb hby d23_30) rfl ?_
          show Steps p.tables e below (T.setTop (mkF m 31 #[vR a1, vI p1, vI p2, vI tg, vI lo, vI hh, s6, s7, s8, s9, s10, s11] [(.int (own_half (lo + hh))), (.ref a1), (.double (g1 (lo).toNatClampNeg))])) _
          refine own_ldD X0 hx hZ e0 V1 (j := (own_half (lo + hh))) hxm (f := (mkF m 31 #[vR a1, vI p1, vI p2, vI tg, vI lo, vI hh, s6, s7, s8, s9, s10, s11] [(.int (own_half (lo + hh))), (.ref a1), (.double (g1 (lo).toNatClampNeg))])) rfl rfl (hb hby d23_31) _ ?_
          show Steps p.tables e below (T.setTop (mkF m 32 #[vR a1, vI p1, vI p2, vI tg, vI lo, vI hh, s6, s7, s8, s9, s10, s11] [(.double (g1 ((own_half (lo + hh))).toNatClampNeg)), (.double (g1 (lo).toNatClampNeg))])) _
          refine XS.aloadN X0.here hx rfl (hb hby d23_32) rfl rfl ?_
          refine XS.iload X0.here hx rfl (hb hby d23_33) rfl ?_
          show Steps p.tables e below (T.setTop (mkF m 35 #[vR a1, vI p1, vI p2, vI tg, vI lo, vI hh, s6, s7, s8, s9, s10, s11] [(.int hh), (.ref a1), (.double (g1 ((own_half (lo + hh))).toNatClampNeg)), (.double (g1 (lo).toNatClampNeg))])) _
          refine own_ldD X0 hx hZ e0 V1 (j := hh) hxh (f := (mkF m 35 #[vR a1, vI p1, vI p2, vI tg, vI lo, vI hh, s6, s7, s8, s9, s10, s11] [(.int hh), (.ref a1), (.double (g1 ((own_half (lo + hh))).toNatClampNeg)), (.double (g1 (lo).toNatClampNeg))])) rfl rfl (hb hby d23_35) _ ?_
          show Steps p.tables e below (T.setTop (mkF m 36 #[vR a1, vI p1, vI p2, vI tg, vI lo, vI hh, s6, s7, s8, s9, s10, s11] [(.double (g1 (hh).toNatClampNeg)), (.double (g1 ((own_half (lo + hh))).toNatClampNeg)), (.double (g1 (lo).toNatClampNeg))])) _
          refine st127 _ ?_
          show Steps p.tables e below (T127.setTop (mkF m 39 #[vR a1, vI p1, vI p2, vI tg, vI lo, vI hh, s6, s7, s8, s9, s10, s11] [(.double (own_med (g1 (lo).toNatClampNeg) (g1 (own_half (lo + hh)).toNatClampNeg) (g1 (hh).toNatClampNeg)))])) _
          refine own_sstore X127.here hx (l' := #[vR a1, vI p1, vI p2, vI tg, vI lo, vI hh, vD (own_med (g1 (lo).toNatClampNeg) (g1 (own_half (lo + hh)).toNatClampNeg) (g1 (hh).toNatClampNeg)), .second, s8, s9, s10, s11]) (hb hby d23_39) (by rcases hs6 with ⟨q, q'⟩ | ⟨_, q, q'⟩ <;> subst q q' <;> rfl) ?_
          show Steps p.tables e below (T127.setTop (mkF m 41 #[vR a1, vI p1, vI p2, vI tg, vI lo, vI hh, vD (own_med (g1 (lo).toNatClampNeg) (g1 (own_half (lo + hh)).toNatClampNeg) (g1 (hh).toNatClampNeg)), .second, s8, s9, s10, s11] [])) _
          refine XS.iload X127.here hx rfl (hb hby d23_41) rfl ?_
          refine XS.istore X127.here hx rfl (hb hby d23_43) rfl (l' := #[vR a1, vI p1, vI p2, vI tg, vI lo, vI hh, vD (own_med (g1 (lo).toNatClampNeg) (g1 (own_half (lo + hh)).toNatClampNeg) (g1 (hh).toNatClampNeg)), .second, vI lo, s9, s10, s11]) (by rcases hs8 with q | ⟨_, q⟩ <;> subst q <;> rfl) ?_
          refine XS.iload X127.here hx rfl (hb hby d23_45) rfl ?_
          refine XS.istore X127.here hx rfl (hb hby d23_47) rfl (l' := #[vR a1, vI p1, vI p2, vI tg, vI lo, vI hh, vD (own_med (g1 (lo).toNatClampNeg) (g1 (own_half (lo + hh)).toNatClampNeg) (g1 (hh).toNatClampNeg)), .second, vI lo, vI hh, s10, s11]) (by rcases hs9 with q | ⟨_, q⟩ <;> subst q <;> rfl) ?_
          show Steps p.tables e below (T127.setTop (mkF m 49 #[vR a1, vI p1, vI p2, vI tg, vI lo, vI hh, vD (own_med (g1 (lo).toNatClampNeg) (g1 (own_half (lo + hh)).toNatClampNeg) (g1 (hh).toNatClampNeg)), .second, vI lo, vI hh, s10, s11] [])) _
          refine st3 _ ?_
          show Steps p.tables e below (T3.setTop (mkF m 124 #[vR a1, vI p1, vI p2, vI tg, vI lo, vI hh, vD (own_med (g1 (lo).toNatClampNeg) (g1 (own_half (lo + hh)).toNatClampNeg) (g1 (hh).toNatClampNeg)), .second, vI i9, vI j9, u9, v9] [])) _
          refine XS.iloadN X3.here hx rfl (hb hby d23_124) rfl ?_
          refine XS.iload X3.here hx rfl (hb hby d23_125) rfl ?_
          refine XS.icmpYes X3.here hx rfl (pc0 := 127) (pc' := 137) rfl (hb hby d23_127) rfl (tlt h1).2.2.1 (by decide) (by decide) ?_
          refine XS.iloadN X3.here hx rfl (hb hby d23_137) rfl ?_
          refine XS.iload X3.here hx rfl (hb hby d23_138) rfl ?_
          refine XS.icmpNo X3.here hx rfl (hb hby d23_140) rfl (flt h2).1 ?_
          refine XS.iload X3.here hx rfl (hb hby d23_143) rfl ?_
          show Steps p.tables e below (T3.setTop (mkF m 145 #[vR a1, vI p1, vI p2, vI tg, vI lo, vI hh, vD (own_med (g1 (lo).toNatClampNeg) (g1 (own_half (lo + hh)).toNatClampNeg) (g1 (hh).toNatClampNeg)), .second, vI i9, vI j9, u9, v9] [(.int i9)])) _
          refine XS.istore X3.here hx rfl (hb hby d23_145) rfl (l' := #[vR a1, vI p1, vI p2, vI tg, vI i9, vI hh, vD (own_med (g1 (lo).toNatClampNeg) (g1 (own_half (lo + hh)).toNatClampNeg) (g1 (hh).toNatClampNeg)), .second, vI i9, vI j9, u9, v9]) rfl ?_
          refine XS.goto X3.here hx rfl (pc0 := 147) (pc' := 154) rfl (hb hby d23_147) (by decide) (by decide) ?_
          refine XS.goto X3.here hx rfl (pc0 := 154) (pc' := 12) rfl (hb hby d23_154) (by decide) (by decide) ?_
          show Steps p.tables e below (T3.setTop (mkF m 12 #[vR a1, vI p1, vI p2, vI tg, vI i9, vI hh, vD (own_med (g1 (lo).toNatClampNeg) (g1 (own_half (lo + hh)).toNatClampNeg) (g1 (hh).toNatClampNeg)), .second, vI i9, vI j9, u9, v9] [])) _
          exact st9 target kt
      · have h1' : ¬ j9.toInt < tg.toInt := fun q => h1 (own_lt.mpr q)
        obtain ⟨T9, locs9, pc9, a9, b9, d6, d7, d8, d9, d10, d11, X9, N9, q9, K9, A9, st9⟩ := ih lo j9 (vD (own_med (g1 (lo).toNatClampNeg) (g1 (own_half (lo + hh)).toNatClampNeg) (g1 (hh).toNatClampNeg))) (.second) (vI i9) (vI j9) (u9) (v9) g3 T3 T3.heap _ X3 rfl N3 Z3 own_Two.v own_One.v own_One.v w3 (by omega) F3 V3 (by omega)
        refine ⟨T9, locs9, pc9, a9, b9, d6, d7, d8, d9, d10, d11, X9, N9, q9, K3.trans K9 (allS (Or.inl (List.mem_of_getElem? (i := 0) rfl)) all0), A9, fun target kt => ?_⟩
        show Steps p.tables e below (T.setTop (mkF m 12 #[vR a1, vI p1, vI p2, vI tg, vI lo, vI hh, s6, s7, s8, s9, s10, s11] [])) _
        refine XS.iload X0.here hx rfl (hb hby d23_12) rfl ?_
        refine XS.iload X0.here hx rfl (hb hby d23_14) rfl ?_
        refine XS.icmpNo X0.here hx rfl (hb hby d23_16) rfl (tlt hg).2.1 ?_
        refine XS.aloadN X0.here hx rfl (hb hby d23_19) rfl rfl ?_
        refine XS.iload X0.here hx rfl (hb hby d23_20) rfl ?_
        show Steps p.tables e below (T.setTop (mkF m 22 #[vR a1, vI p1, vI p2, vI tg, vI lo, vI hh, s6, s7, s8, s9, s10, s11] [(.int lo), (.ref a1)])) _
        refine own_ldD X0 hx hZ e0 V1 (j := lo) hxl (f := (mkF m 22 #[vR a1, vI p1, vI p2, vI tg, vI lo, vI hh, s6, s7, s8, s9, s10, s11] [(.int lo), (.ref a1)])) rfl rfl (hb hby d23_22) _ ?_
        show Steps p.tables e below (T.setTop (mkF m 23 #[vR a1, vI p1, vI p2, vI tg, vI lo, vI hh, s6, s7, s8, s9, s10, s11] [(.double (g1 (lo).toNatClampNeg))])) _
        refine XS.aloadN X0.here hx rfl (hb hby d23_23) rfl rfl ?_
        refine XS.iload X0.here hx rfl (hb hby d23_24) rfl ?_
        refine XS.iload X0.here hx rfl (hb hby d23_26) rfl ?_
        refine XS.iadd X0.here hx rfl (hb hby d23_28) rfl ?_
        refine XS.iconst X0.here hx rfl (hb hby d23_29) ?_
        refine XS.iushr X0.here hx rfl (hb hby d23_30) rfl ?_
        show Steps p.tables e below (T.setTop (mkF m 31 #[vR a1, vI p1, vI p2, vI tg, vI lo, vI hh, s6, s7, s8, s9, s10, s11] [(.int (own_half (lo + hh))), (.ref a1), (.double (g1 (lo).toNatClampNeg))])) _
        refine own_ldD X0 hx hZ e0 V1 (j := (own_half (lo + hh))) hxm (f := (mkF m 31 #[vR a1, vI p1, vI p2, vI tg, vI lo, vI hh, s6, s7, s8, s9, s10, s11] [(.int (own_half (lo + hh))), (.ref a1), (.double (g1 (lo).toNatClampNeg))])) rfl rfl (hb hby d23_31) _ ?_
        show Steps p.tables e below (T.setTop (mkF m 32 #[vR a1, vI p1, vI p2, vI tg, vI lo, vI hh, s6, s7, s8, s9, s10, s11] [(.double (g1 ((own_half (lo + hh))).toNatClampNeg)), (.double (g1 (lo).toNatClampNeg))])) _
        refine XS.aloadN X0.here hx rfl (hb hby d23_32) rfl rfl ?_
        refine XS.iload X0.here hx rfl (hb hby d23_33) rfl ?_
        show Steps p.tables e below (T.setTop (mkF m 35 #[vR a1, vI p1, vI p2, vI tg, vI lo, vI hh, s6, s7, s8, s9, s10, s11] [(.int hh), (.ref a1), (.double (g1 ((own_half (lo + hh))).toNatClampNeg)), (.double (g1 (lo).toNatClampNeg))])) _
        refine own_ldD X0 hx hZ e0 V1 (j := hh) hxh (f := (mkF m 35 #[vR a1, vI p1, vI p2, vI tg, vI lo, vI hh, s6, s7, s8, s9, s10, s11] [(.int hh), (.ref a1), (.double (g1 ((own_half (lo + hh))).toNatClampNeg)), (.double (g1 (lo).toNatClampNeg))])) rfl rfl (hb hby d23_35) _ ?_
        show Steps p.tables e below (T.setTop (mkF m 36 #[vR a1, vI p1, vI p2, vI tg, vI lo, vI hh, s6, s7, s8, s9, s10, s11] [(.double (g1 (hh).toNatClampNeg)), (.double (g1 ((own_half (lo + hh))).toNatClampNeg)), (.double (g1 (lo).toNatClampNeg))])) _
        refine st127 _ ?_
        show Steps p.tables e below (T127.setTop (mkF m 39 #[vR a1, vI p1, vI p2, vI tg, vI lo, vI hh, s6, s7, s8, s9, s10, s11] [(.double (own_med (g1 (lo).toNatClampNeg) (g1 (own_half (lo + hh)).toNatClampNeg) (g1 (hh).toNatClampNeg)))])) _
        refine own_sstore X127.here hx (l' := #[vR a1, vI p1, vI p2, vI tg, vI lo, vI hh, vD (own_med (g1 (lo).toNatClampNeg) (g1 (own_half (lo + hh)).toNatClampNeg) (g1 (hh).toNatClampNeg)), .second, s8, s9, s10, s11]) (hb hby d23_39) (by rcases hs6 with ⟨q, q'⟩ | ⟨_, q, q'⟩ <;> subst q q' <;> rfl) ?_
        show Steps p.tables e below (T127.setTop (mkF m 41 #[vR a1, vI p1, vI p2, vI tg, vI lo, vI hh, vD (own_med (g1 (lo).toNatClampNeg) (g1 (own_half (lo + hh)).toNatClampNeg) (g1 (hh).toNatClampNeg)), .second, s8, s9, s10, s11] [])) _
        refine XS.iload X127.here hx rfl (hb hby d23_41) rfl ?_
        refine XS.istore X127.here hx rfl (hb hby d23_43) rfl (l' := #[vR a1, vI p1, vI p2, vI tg, vI lo, vI hh, vD (own_med (g1 (lo).toNatClampNeg) (g1 (own_half (lo + hh)).toNatClampNeg) (g1 (hh).toNatClampNeg)), .second, vI lo, s9, s10, s11]) (by rcases hs8 with q | ⟨_, q⟩ <;> subst q <;> rfl) ?_
        refine XS.iload X127.here hx rfl (hb hby d23_45) rfl ?_
        refine XS.istore X127.here hx rfl (hb hby d23_47) rfl (l' := #[vR a1, vI p1, vI p2, vI tg, vI lo, vI hh, vD (own_med (g1 (lo).toNatClampNeg) (g1 (own_half (lo + hh)).toNatClampNeg) (g1 (hh).toNatClampNeg)), .second, vI lo, vI hh, s10, s11]) (by rcases hs9 with q | ⟨_, q⟩ <;> subst q <;> rfl) ?_
        show Steps p.tables e below (T127.setTop (mkF m 49 #[vR a1, vI p1, vI p2, vI tg, vI lo, vI hh, vD (own_med (g1 (lo).toNatClampNeg) (g1 (own_half (lo + hh)).toNatClampNeg) (g1 (hh).toNatClampNeg)), .second, vI lo, vI hh, s10, s11] [])) _
        refine st3 _ ?_
        show Steps p.tables e below (T3.setTop (mkF m 124 #[vR a1, vI p1, vI p2, vI tg, vI lo, vI hh, vD (own_med (g1 (lo).toNatClampNeg) (g1 (own_half (lo + hh)).toNatClampNeg) (g1 (hh).toNatClampNeg)), .second, vI i9, vI j9, u9, v9] [])) _
        refine XS.iloadN X3.here hx rfl (hb hby d23_124) rfl ?_
        refine XS.iload X3.here hx rfl (hb hby d23_125) rfl ?_
        refine XS.icmpNo X3.here hx rfl (hb hby d23_127) rfl (flt h1).2.2.1 ?_
        refine XS.iload X3.here hx rfl (hb hby d23_130) rfl ?_
        refine XS.istore X3.here hx rfl (hb hby d23_132) rfl (l' := #[vR a1, vI p1, vI p2, vI tg, vI lo, vI j9, vD (own_med (g1 (lo).toNatClampNeg) (g1 (own_half (lo + hh)).toNatClampNeg) (g1 (hh).toNatClampNeg)), .second, vI i9, vI j9, u9, v9]) rfl ?_
        refine XS.goto X3.here hx rfl (pc0 := 134) (pc' := 154) rfl (hb hby d23_134) (by decide) (by decide) ?_
        refine XS.goto X3.here hx rfl (pc0 := 154) (pc' := 12) rfl (hb hby d23_154) (by decide) (by decide) ?_
        show Steps p.tables e below (T3.setTop (mkF m 12 #[vR a1, vI p1, vI p2, vI tg, vI lo, vI j9, vD (own_med (g1 (lo).toNatClampNeg) (g1 (own_half (lo + hh)).toNatClampNeg) (g1 (hh).toNatClampNeg)), .second, vI i9, vI j9, u9, v9] [])) _
        exact st9 target kt
    · refine ⟨T, locs, 157, lo, hh, s6, s7, s8, s9, s10, s11, X0, N0, Or.inr rfl, e0 ▸ Keep.refl _ _, ⟨g1, e0 ▸ V1, F1⟩, fun target kt => ?_⟩
      show Steps p.tables e below (T.setTop (mkF m 12 #[vR a1, vI p1, vI p2, vI tg, vI lo, vI hh, s6, s7, s8, s9, s10, s11] [])) _
      refine XS.iload X0.here hx rfl (hb hby d23_12) rfl ?_
      refine XS.iload X0.here hx rfl (hb hby d23_14) rfl ?_
      refine XS.icmpYes X0.here hx rfl (pc0 := 16) (pc' := 157) rfl (hb hby d23_16) rfl (flt hg).2.1 (by decide) (by decide) ?_
      exact kt
theorem d23_0 : decode prog_67_method_2_code 0 = .ok (.iload_n 2, 1) := by decide +kernel
theorem d23_1 : decode prog_67_method_2_code 1 = .ok (.iconst 1, 1) := by decide +kernel
theorem d23_2 : decode prog_67_method_2_code 2 = .ok (.isub, 1) := by decide +kernel
theorem d23_3 : decode prog_67_method_2_code 3 = .ok (.istore_n 3, 1) := by decide +kernel
theorem d23_4 : decode prog_67_method_2_code 4 = .ok (.iconst 0, 1) := by decide +kernel
theorem d23_5 : decode prog_67_method_2_code 5 = .ok (.istore 4, 2) := by decide +kernel
theorem d23_7 : decode prog_67_method_2_code 7 = .ok (.iload_n 1, 1) := by decide +kernel
theorem d23_8 : decode prog_67_method_2_code 8 = .ok (.iconst 1, 1) := by decide +kernel
theorem d23_9 : decode prog_67_method_2_code 9 = .ok (.isub, 1) := by decide +kernel
theorem d23_10 : decode prog_67_method_2_code 10 = .ok (.istore 5, 2) := by decide +kernel
theorem d23_150 : decode prog_67_method_2_code 150 = .ok (.aload_n 0, 1) := by decide +kernel
theorem d23_151 : decode prog_67_method_2_code 151 = .ok (.iload_n 3, 1) := by decide +kernel
theorem d23_152 : decode prog_67_method_2_code 152 = .ok (.daload, 1) := by decide +kernel
theorem d23_153 : decode prog_67_method_2_code 153 = .ok (.dreturn, 1) := by decide +kernel
theorem d23_157 : decode prog_67_method_2_code 157 = .ok (.aload_n 0, 1) := by decide +kernel
theorem d23_158 : decode prog_67_method_2_code 158 = .ok (.iload_n 3, 1) := by decide +kernel
theorem d23_159 : decode prog_67_method_2_code 159 = .ok (.daload, 1) := by decide +kernel
theorem d23_160 : decode prog_67_method_2_code 160 = .ok (.dreturn, 1) := by decide +kernel
theorem ef_rm23 (m : MethodId) (a1 : Addr) (p1 : Int32) (p2 : Int32) : entryFrame m #[(.ref a1), (.int p1), (.int p2)] 12 = mkF m 0 #[.val (.ref a1), .val (.int p1), .val (.int p2), .unset, .unset, .unset, .unset, .unset, .unset, .unset, .unset, .unset] [] := by first | (simp [entryFrame, mkF, argsToLocals, Value.category]; done) | rfl
def Qrm23 (Z : State) (a1 : Addr) (p1 : Int32) (p2 : Int32) (g1 : Nat → UInt64) (h0 : Heap) (n0 : Nat) (v : Option Value) (h : Heap) (L : List Loc) : Prop := ∃ u, v = some (.double u) ∧ Fr n0 L ∧ Keep h0 h [a1]
set_option maxRecDepth 65536 in
set_option maxHeartbeats 40000000 in
theorem rm23 (l : Launch) (Z : State) (a0 : Array Value) (hw : ∀ d ∈ tables_1, d.before a0 Z = true) (ws : List Jvm.Cond) (a1 : Addr) (p1 : Int32) (p2 : Int32) (g1 : Nat → UInt64) (h0 : Heap) (n0 : Nat) (Z0 : n0 ≤ h0.size) (V1 : own_V Z h0 a1 .double p1.toNatClampNeg (fun ii => .double (g1 ii))) (F1 : ∀ i, Jvm.Free.Fl.Fin64 (g1 i)) (hb2 : 1 ≤ p2.toInt ∧ p2.toInt ≤ p1.toInt ∧ p1.toInt ≤ 66) (ga : n0 ≤ a1) :
    MetFree l (⟨"com/example/flatfinder/flatfinder/neighbours/Selection", "kthSmallest", "([DII)D"⟩ : MethodName) (head1 (Jvm.Cond.code (⟨"com/example/flatfinder/flatfinder/neighbours/Selection", "kthSmallest", "([DII)D"⟩ : MethodName) prog_67_method_2_code 12 (some .double) :: ws) ({ frames := 2, cells := 0, slots := 0, locals := 34 } : Room)) (fun a U => a = #[(.ref a1), (.int p1), (.int p2)] ∧ Z.Warmed39 U.vm ∧ U.heap = h0) (fun _ _ _ _ _ => True) (fun _ U o U' => ∃ v L, o = .returned v ∧ Qrm23 Z a1 p1 p2 g1 h0 n0 v U'.heap L ∧ FrameEnd U o U' L ({ frames := 2, cells := 0, slots := 0, locals := 34 } : Room).cells ({ frames := 2, cells := 0, slots := 0, locals := 34 } : Room).slots) := by
  refine MetFree.of_bodySF (plainFor_of_name pn_com_example_flatfinder_flatfinder_neighbours_Selection) hisR ?_
  intro p e s m args below meth c s₁ Bd hml0 hP hK
  obtain ⟨rfl, hZ, hh⟩ := hP
  have hx := Bd.exec
  have hby := Bd.bytes
  have hml : c.maxLocals = 12 := hml0
  have hown : s.vm.findClass "com/example/flatfinder/flatfinder/neighbours/Selection" = some m.cls := findClass_of_methodNamed Bd.named
  have hnm := (name_of_methodNamed Bd.named Bd.method).1
  have X0 : Stand p l e ({ frames := 2, cells := 0, slots := 0, locals := 34 } : Room) s m #[(.ref a1), (.int p1), (.int p2)] below meth c s₁ [] 0 0 := Stand.of_body Bd
  have e0 : s₁.heap = h0 := by rw [← hh, Bd.state]; rfl
  have N0 := Fr.nil n0
  have pre0 : ∀ tg, Steps p.tables e below (s₁.setTop (mkF m 0 #[.val (.ref a1), .val (.int p1), .val (.int p2), .unset, .unset, .unset, .unset, .unset, .unset, .unset, .unset, .unset] [])) tg → Steps p.tables e below (s₁.setTop (entryFrame m #[(.ref a1), (.int p1), (.int p2)] 12)) tg := fun tg kg => castTop (ef_rm23 m a1 p1 p2) kg
  have hcl := own_clamp (j := p1) (by omega)
  have hkb := own_kb hb2
  obtain ⟨T129, lo129, pcx, lo', hh', t6', t7', t8', t9', t10', t11', X129, N129, hpc, K129, ⟨g9, V9, F9⟩, st129⟩ := loopA hw hx hZ hby hml hown a1 p1 p2 (p2 - (1 : Int32)) p1.toNatClampNeg (by omega) ga 70 (0 : Int32) (p1 - (1 : Int32)) .unset .unset .unset .unset .unset .unset g1 s₁ h0 _ X0 e0 N0 Z0 own_Two.u own_One.u own_One.u own_Two.u hkb F1 V1 (own_km (by omega))
  have hxt : own_ix p1.toNatClampNeg (p2 - (1 : Int32)) := ⟨Int.le_trans hkb.1 hkb.2.1, Int.lt_of_le_of_lt hkb.2.2.1 hkb.2.2.2⟩
  obtain ⟨fs, hr, hrun, hended, hW, hsame⟩ := X129.leave (v := some (.double (g9 ((p2 - (1 : Int32))).toNatClampNeg))) (fun h => by rw [Bd.returns] at h; cases h)
  refine ⟨_, _, pre0 _ ?_, hrun, hended, _, _, rfl, ?_, ⟨_, rfl⟩, hW, hsame.mono (by decide) (by decide)⟩
  · show Steps p.tables e below (s₁.setTop (mkF m 0 #[vR a1, vI p1, vI p2, .unset, .unset, .unset, .unset, .unset, .unset, .unset, .unset, .unset] [])) _
    refine XS.iloadN X0.here hx rfl (hb hby d23_0) rfl ?_
    refine XS.iconst X0.here hx rfl (hb hby d23_1) ?_
    refine XS.isub X0.here hx rfl (hb hby d23_2) rfl ?_
    refine XS.istoreN X0.here hx rfl (hb hby d23_3) rfl (l' := #[vR a1, vI p1, vI p2, vI (p2 - (1 : Int32)), .unset, .unset, .unset, .unset, .unset, .unset, .unset, .unset]) rfl ?_
    refine XS.iconst X0.here hx rfl (hb hby d23_4) ?_
    show Steps p.tables e below (s₁.setTop (mkF m 5 #[vR a1, vI p1, vI p2, vI (p2 - (1 : Int32)), .unset, .unset, .unset, .unset, .unset, .unset, .unset, .unset] [(.int (0 : Int32))])) _
    refine XS.istore X0.here hx rfl (hb hby d23_5) rfl (l' := #[vR a1, vI p1, vI p2, vI (p2 - (1 : Int32)), vI 0, .unset, .unset, .unset, .unset, .unset, .unset, .unset]) rfl ?_
    refine XS.iloadN X0.here hx rfl (hb hby d23_7) rfl ?_
    refine XS.iconst X0.here hx rfl (hb hby d23_8) ?_
    refine XS.isub X0.here hx rfl (hb hby d23_9) rfl ?_
    refine XS.istore X0.here hx rfl (hb hby d23_10) rfl (l' := #[vR a1, vI p1, vI p2, vI (p2 - (1 : Int32)), vI 0, vI (p1 - (1 : Int32)), .unset, .unset, .unset, .unset, .unset, .unset]) rfl ?_
    show Steps p.tables e below (s₁.setTop (mkF m 12 #[vR a1, vI p1, vI p2, vI (p2 - (1 : Int32)), vI 0, vI (p1 - (1 : Int32)), .unset, .unset, .unset, .unset, .unset, .unset] [])) _
    refine st129 _ ?_
    rcases hpc with hpc | hpc
    · subst hpc
      show Steps p.tables e below (T129.setTop (mkF m 150 #[vR a1, vI p1, vI p2, vI (p2 - (1 : Int32)), vI lo', vI hh', t6', t7', t8', t9', t10', t11'] [])) _
      refine XS.aloadN X129.here hx rfl (hb hby d23_150) rfl rfl ?_
      refine XS.iloadN X129.here hx rfl (hb hby d23_151) rfl ?_
      show Steps p.tables e below (T129.setTop (mkF m 152 #[vR a1, vI p1, vI p2, vI (p2 - (1 : Int32)), vI lo', vI hh', t6', t7', t8', t9', t10', t11'] [(.int (p2 - (1 : Int32))), (.ref a1)])) _
      refine own_ldD X129 hx hZ rfl V9 (j := (p2 - (1 : Int32))) hxt (f := (mkF m 152 #[vR a1, vI p1, vI p2, vI (p2 - (1 : Int32)), vI lo', vI hh', t6', t7', t8', t9', t10', t11'] [(.int (p2 - (1 : Int32))), (.ref a1)])) rfl rfl (hb hby d23_152) _ ?_
      show Steps p.tables e below (T129.setTop (mkF m 153 #[vR a1, vI p1, vI p2, vI (p2 - (1 : Int32)), vI lo', vI hh', t6', t7', t8', t9', t10', t11'] [(.double (g9 ((p2 - (1 : Int32))).toNatClampNeg))])) _
      exact retOut X129 hx Bd.returns rfl (Or.inr (Or.inr (Or.inl ⟨rfl, rfl, _, rfl⟩))) (hb hby d23_153) hr
    · subst hpc
      show Steps p.tables e below (T129.setTop (mkF m 157 #[vR a1, vI p1, vI p2, vI (p2 - (1 : Int32)), vI lo', vI hh', t6', t7', t8', t9', t10', t11'] [])) _
      refine XS.aloadN X129.here hx rfl (hb hby d23_157) rfl rfl ?_
      refine XS.iloadN X129.here hx rfl (hb hby d23_158) rfl ?_
      show Steps p.tables e below (T129.setTop (mkF m 159 #[vR a1, vI p1, vI p2, vI (p2 - (1 : Int32)), vI lo', vI hh', t6', t7', t8', t9', t10', t11'] [(.int (p2 - (1 : Int32))), (.ref a1)])) _
      refine own_ldD X129 hx hZ rfl V9 (j := (p2 - (1 : Int32))) hxt (f := (mkF m 159 #[vR a1, vI p1, vI p2, vI (p2 - (1 : Int32)), vI lo', vI hh', t6', t7', t8', t9', t10', t11'] [(.int (p2 - (1 : Int32))), (.ref a1)])) rfl rfl (hb hby d23_159) _ ?_
      show Steps p.tables e below (T129.setTop (mkF m 160 #[vR a1, vI p1, vI p2, vI (p2 - (1 : Int32)), vI lo', vI hh', t6', t7', t8', t9', t10', t11'] [(.double (g9 ((p2 - (1 : Int32))).toNatClampNeg))])) _
      exact retOut X129 hx Bd.returns rfl (Or.inr (Or.inr (Or.inl ⟨rfl, rfl, _, rfl⟩))) (hb hby d23_160) hr
  · show Qrm23 Z a1 p1 p2 g1 h0 n0 _ T129.heap _
    exact ⟨_, rfl, N129, K129⟩
theorem d22_10 : decode prog_54_method_3_code 10 = .ok (.iload 6, 2) := by decide +kernel
theorem d22_12 : decode prog_54_method_3_code 12 = .ok (.iload_n 2, 1) := by decide +kernel
theorem d22_13 : decode prog_54_method_3_code 13 = .ok (.if_icmp .ge 38, 3) := by decide +kernel
theorem d22_16 : decode prog_54_method_3_code 16 = .ok (.aload 5, 2) := by decide +kernel
theorem d22_18 : decode prog_54_method_3_code 18 = .ok (.iload 6, 2) := by decide +kernel
theorem d22_20 : decode prog_54_method_3_code 20 = .ok (.iload_n 1, 1) := by decide +kernel
theorem d22_21 : decode prog_54_method_3_code 21 = .ok (.isub, 1) := by decide +kernel
theorem d22_22 : decode prog_54_method_3_code 22 = .ok (.aload_n 0, 1) := by decide +kernel
theorem d22_23 : decode prog_54_method_3_code 23 = .ok (.getfield 3, 3) := by decide +kernel
theorem d22_26 : decode prog_54_method_3_code 26 = .ok (.getfield 15, 3) := by decide +kernel
theorem d22_29 : decode prog_54_method_3_code 29 = .ok (.aload_n 0, 1) := by decide +kernel
theorem d22_30 : decode prog_54_method_3_code 30 = .ok (.getfield 3, 3) := by decide +kernel
theorem d22_33 : decode prog_54_method_3_code 33 = .ok (.getfield 54, 3) := by decide +kernel
theorem d22_36 : decode prog_54_method_3_code 36 = .ok (.iload 6, 2) := by decide +kernel
theorem d22_38 : decode prog_54_method_3_code 38 = .ok (.iaload, 1) := by decide +kernel
theorem d22_39 : decode prog_54_method_3_code 39 = .ok (.iload 4, 2) := by decide +kernel
theorem d22_41 : decode prog_54_method_3_code 41 = .ok (.invokevirtual 57, 3) := by decide +kernel
theorem pd__II_D : parseMethodDescriptor "(II)D" = some ⟨[.int, .int], some .double⟩ := by decide +kernel
theorem d22_44 : decode prog_54_method_3_code 44 = .ok (.dastore, 1) := by decide +kernel
theorem d22_45 : decode prog_54_method_3_code 45 = .ok (.iinc 6 1, 3) := by decide +kernel
theorem d22_48 : decode prog_54_method_3_code 48 = .ok (.goto (-38), 3) := by decide +kernel
set_option maxRecDepth 65536 in
set_option maxHeartbeats 40000000 in
theorem loopP {p : Program} {l : Launch} {e : Env} {s : State} {m : MethodId} {args : Array Value} {below : List Frame} {meth : Method} {c : Code} {Z : State} {a0 : Array Value} {n0 : Nat} (hw : ∀ d ∈ tables_1, d.before a0 Z = true) (hx : p.tables.exec = Jvm.exec) (hZ : Z.Warmed39 s.vm) (hby : c.code = prog_54_method_3_code) (hml : c.maxLocals = 13) (hown : s.vm.findClass "com/example/flatfinder/flatfinder/neighbours/KdTree$Builder" = some m.cls) (a1 : Addr) (t : Addr) (pts : Addr) (co : Addr) (r : Addr) (v : Addr) (gc : Nat → UInt64) (Fg : ∀ i, Jvm.Free.Fl.Fin64 (gc i)) (f0 : Nat → Int32) (q0 : ∀ i, own_ix 66 (f0 i)) (p1 : Int32) (p2 : Int32) (p3 : Int32) (hp : 0 ≤ p1.toInt ∧ p1.toInt ≤ p2.toInt ∧ p2.toInt ≤ 66) (gvv : n0 ≤ v) (n_a1 : a1 ≠ v) (n_t : t ≠ v) (n_pts : pts ≠ v) (n_co : co ≠ v) (n_r : r ≠ v) :
    ∀ (k : Nat) (i : Int32) (gv : Nat → UInt64) (T : State) (h : Heap) (locs : List Loc) (X0 : Stand p l e ({ frames := 3, cells := 1, slots := 66, locals := 57 } : Room) s m args below meth c T locs 1 66) (e0 : T.heap = h) (N0 : Fr n0 locs) (Z0 : n0 ≤ h.size) (hi : p1.toInt ≤ i.toInt ∧ i.toInt ≤ p2.toInt) (Eb : Exa Z h a1 "com/example/flatfinder/flatfinder/neighbours/KdTree$Builder") (Ft : Fld Z h a1 "com/example/flatfinder/flatfinder/neighbours/KdTree$Builder" "this$0" "Lcom/example/flatfinder/flatfinder/neighbours/KdTree;" (.ref t)) (Fp : Fld Z h t "com/example/flatfinder/flatfinder/neighbours/KdTree" "points" "Lcom/example/flatfinder/flatfinder/neighbours/Points;" (.ref pts)) (Frw : Fld Z h t "com/example/flatfinder/flatfinder/neighbours/KdTree" "rows" "[I" (.ref r)) (Ep : Exa Z h pts "com/example/flatfinder/flatfinder/neighbours/Points") (Fs : Fld Z h pts "com/example/flatfinder/flatfinder/neighbours/Points" "size" "I" (.int (66 : Int32))) (Fd : Fld Z h pts "com/example/flatfinder/flatfinder/neighbours/Points" "dimensions" "I" (.int (1 : Int32))) (Fc : Fld Z h pts "com/example/flatfinder/flatfinder/neighbours/Points" "coordinates" "[D" (.ref co)) (Vc : own_V Z h co .double 66 (fun ii => .double (gc ii))) (V0 : own_V Z h r .int 66 (fun ii => .int (f0 ii))) (Vv : own_V Z h v .double (p2 - p1).toNatClampNeg (fun ii => .double (gv ii))) (Fv : ∀ i, Jvm.Free.Fl.Fin64 (gv i)) (hk : (p2.toInt - i.toInt).toNat < k),
      ∃ (T' : State) (locs' : List Loc) (i' : Int32), Stand p l e ({ frames := 3, cells := 1, slots := 66, locals := 57 } : Room) s m args below meth c T' locs' 1 66 ∧ Fr n0 locs' ∧ Keep h T'.heap [v] ∧ own_Fd Z T'.heap v (p2 - p1).toNatClampNeg ∧ ∀ target, Steps p.tables e below (T'.setTop (mkF m 51 #[vR a1, vI p1, vI p2, vI p3, vI 0, vR v, vI i', .unset, .unset, .unset, .unset, .unset, .unset] [])) target → Steps p.tables e below (T.setTop (mkF m 10 #[vR a1, vI p1, vI p2, vI p3, vI 0, vR v, vI i, .unset, .unset, .unset, .unset, .unset, .unset] [])) target := by
  intro k
  induction k with
  | zero => intro i gv T h locs X0 e0 N0 Z0 hi Eb Ft Fp Frw Ep Fs Fd Fc Vc V0 Vv Fv hk; exact absurd hk (Nat.not_lt_zero _)
  | succ k ih =>
    intro i gv T h locs X0 e0 N0 Z0 hi Eb Ft Fp Frw Ep Fs Fd Fc Vc V0 Vv Fv hk
    obtain ⟨pd1, pd2, pd3, pd4, pd5⟩ := own_pd (p1 := p1) (p2 := p2) (by omega)
    by_cases hg : i < p2
    · have hg' := own_lt.mp hg
      have hix : own_ix 66 i := ⟨by omega, by omega⟩
      have hi0 := own_sub (i := i) (j := p1) (by omega) (by omega) (by omega) (by omega)
      have hiv : own_ix (p2 - p1).toNatClampNeg (i - p1) := ⟨by omega, by omega⟩
      have hi1 := own_add1 (i := i) (by omega) (by omega)
      have K0 := Keep.refl h [v]
      obtain ⟨T130, X130, e130, st130⟩ := getF X0 hx hZ hown (host := "") (Or.inl (wd hw 73 rfl)) Via.refl e0 Ft (g := (mkF m 23 #[vR a1, vI p1, vI p2, vI p3, vI 0, vR v, vI i, .unset, .unset, .unset, .unset, .unset, .unset] [(.ref a1), (.int (i - p1)), (.ref v)])) rfl rfl (hb hby d22_23)
      obtain ⟨T131, X131, e131, st131⟩ := getF X130 hx hZ hown (Or.inr (wd hw 81 rfl)) Via.refl e130 Fp (g := (mkF m 26 #[vR a1, vI p1, vI p2, vI p3, vI 0, vR v, vI i, .unset, .unset, .unset, .unset, .unset, .unset] [(.ref t), (.int (i - p1)), (.ref v)])) rfl rfl (hb hby d22_26)
      obtain ⟨T132, X132, e132, st132⟩ := getF X131 hx hZ hown (host := "") (Or.inl (wd hw 73 rfl)) Via.refl e131 Ft (g := (mkF m 30 #[vR a1, vI p1, vI p2, vI p3, vI 0, vR v, vI i, .unset, .unset, .unset, .unset, .unset, .unset] [(.ref a1), (.ref pts), (.int (i - p1)), (.ref v)])) rfl rfl (hb hby d22_30)
      obtain ⟨T133, X133, e133, st133⟩ := getF X132 hx hZ hown (Or.inr (wd hw 95 rfl)) Via.refl e132 Frw (g := (mkF m 33 #[vR a1, vI p1, vI p2, vI p3, vI 0, vR v, vI i, .unset, .unset, .unset, .unset, .unset, .unset] [(.ref t), (.ref pts), (.int (i - p1)), (.ref v)])) rfl rfl (hb hby d22_33)
      obtain ⟨cq134, kq134, q134a, q134b, q134c⟩ := isOf hZ e133 Ep
      obtain ⟨_, _, ⟨T134, L134, k134, n134⟩, -, X134, ⟨Lc134, hQ134, l134, y134, z134⟩, st134⟩ := X133.virtualBack hx (y := (⟨"com/example/flatfinder/flatfinder/neighbours/Points", "coordinate", "(II)D"⟩ : MethodName)) (z := (⟨"com/example/flatfinder/flatfinder/neighbours/Points", "coordinate", "(II)D"⟩ : MethodName)) hown (mvT hZ (wd hw 96 rfl)) (mvT hZ (wd hw 97 rfl)) (notFace_of_selects (args := #[]) (mvT hZ (wd hw 99 rfl))) (mvT hZ (wd hw 99 rfl)) (mvT hZ (wd hw 98 rfl)) (by decide) (backOf (W := 2) (rm10 l Z a0 hw [] pts (f0 (i).toNatClampNeg) co gc h n0 Z0 Fs Fd Fc Vc (q0 _)) hZ (wd hw 100 rfl) (wd hw 4 rfl) (by decide) (by decide)) q134a q134c (g := (mkF m 41 #[vR a1, vI p1, vI p2, vI p3, vI 0, vR v, vI i, .unset, .unset, .unset, .unset, .unset, .unset] [(.int (0 : Int32)), (.int (f0 (i).toNatClampNeg)), (.ref pts), (.int (i - p1)), (.ref v)])) rfl (by rw [hml]; rfl) (Steps.refl _) (argsL := [(.int (f0 (i).toNatClampNeg)), (.int (0 : Int32))]) (rest := [(.int (i - p1)), (.ref v)]) (lenOf pd__II_D rfl) rfl (by show 2 * 0 + _ ≤ _; exact Nat.le_of_eq rfl) (hb hby d22_41) (fun _ _ => ⟨rfl, e133, (by decide : 1 + 0 ≤ _), (by decide : 66 + 0 ≤ _)⟩)
      dsimp only [Pt.U, Pt.locs, Pt.cells, Pt.slots] at X134 l134 y134 z134 st134 hQ134
      subst l134 y134 z134
      obtain ⟨rfl, N134q, e134⟩ := hQ134
      have N135 := Fr.app N0 N134q
      obtain ⟨T136, h136, X136, e136, W136, st136⟩ := own_sD X134 hx hZ e134 Vv (j := (i - p1)) hiv (f := (mkF m 44 #[vR a1, vI p1, vI p2, vI p3, vI 0, vR v, vI i, .unset, .unset, .unset, .unset, .unset, .unset] [(.double (gc (f0 (i).toNatClampNeg).toNatClampNeg)), (.int (i - p1)), (.ref v)])) rfl rfl (hb hby d22_44)
      have f137 : own_V Z h136 v .double (p2 - p1).toNatClampNeg (fun ii => .double ((own_up gv ((i - p1)).toNatClampNeg (gc (f0 (i).toNatClampNeg).toNatClampNeg)) ii)) := own_V.setD Vv W136
      have q138 := own_upP (j := ((i - p1)).toNatClampNeg) (x := (gc (f0 (i).toNatClampNeg).toNatClampNeg)) Fv (Fg _)
      have f139 := Eb.wr W136
      have f140 := Ft.other W136 (Or.inl n_a1)
      have f141 := Fp.other W136 (Or.inl n_t)
      have f142 := Frw.other W136 (Or.inl n_t)
      have f143 := Ep.wr W136
      have f144 := Fs.other W136 (Or.inl n_pts)
      have f145 := Fd.other W136 (Or.inl n_pts)
      have f146 := Fc.other W136 (Or.inl n_pts)
      have f147 := Vc.other W136 n_co
      have f148 := V0.other W136 n_r
      have Zn149 := Nat.le_trans Z0 (Keep.of_wr W136).1
      have N150 := Fr.snoc X136 N135 gvv
      have K151 := K0.wr W136 (Or.inl (List.mem_of_getElem? (i := 0) rfl))
      obtain ⟨T9, locs9, i9, X9, N9, K9, A9, st9⟩ := ih (i + (1 : Int32)) (own_up gv ((i - p1)).toNatClampNeg (gc (f0 (i).toNatClampNeg).toNatClampNeg)) T136 h136 _ X136 e136 N150 Zn149 (by omega) f139 f140 f141 f142 f143 f144 f145 f146 f147 f148 f137 q138 (by omega)
      refine ⟨T9, locs9, i9, X9, N9, K151.trans K9 (allS (Or.inl (List.mem_of_getElem? (i := 0) rfl)) all0), A9, fun target kt => ?_⟩
      show Steps p.tables e below (T.setTop (mkF m 10 #[vR a1, vI p1, vI p2, vI p3, vI 0, vR v, vI i, .unset, .unset, .unset, .unset, .unset, .unset] [])) _
      refine XS.iload X0.here hx rfl (hb hby d22_10) rfl ?_
      refine XS.iloadN X0.here hx rfl (hb hby d22_12) rfl ?_
      refine XS.icmpNo X0.here hx rfl (hb hby d22_13) rfl (tlt hg).2.1 ?_
      refine XS.aload X0.here hx rfl (hb hby d22_16) rfl rfl ?_
      refine XS.iload X0.here hx rfl (hb hby d22_18) rfl ?_
      refine XS.iloadN X0.here hx rfl (hb hby d22_20) rfl ?_
      refine XS.isub X0.here hx rfl (hb hby d22_21) rfl ?_
      show Steps p.tables e below (T.setTop (mkF m 22 #[vR a1, vI p1, vI p2, vI p3, vI 0, vR v, vI i, .unset, .unset, .unset, .unset, .unset, .unset] [(.int (i - p1)), (.ref v)])) _
      refine XS.aloadN X0.here hx rfl (hb hby d22_22) rfl rfl ?_
      show Steps p.tables e below (T.setTop (mkF m 23 #[vR a1, vI p1, vI p2, vI p3, vI 0, vR v, vI i, .unset, .unset, .unset, .unset, .unset, .unset] [(.ref a1), (.int (i - p1)), (.ref v)])) _
      refine st130 _ ?_
      show Steps p.tables e below (T130.setTop (mkF m 26 #[vR a1, vI p1, vI p2, vI p3, vI 0, vR v, vI i, .unset, .unset, .unset, .unset, .unset, .unset] [(.ref t), (.int (i - p1)), (.ref v)])) _
      refine st131 _ ?_
      show Steps p.tables e below (T131.setTop (mkF m 29 #[vR a1, vI p1, vI p2, vI p3, vI 0, vR v, vI i, .unset, .unset, .unset, .unset, .unset, .unset] [(.ref pts), (.int (i - p1)), (.ref v)])) _
      refine XS.aloadN X131.here hx rfl (hb hby d22_29) rfl rfl ?_
      show Steps p.tables e below (T131.setTop (mkF m 30 #[vR a1, vI p1, vI p2, vI p3, vI 0, vR v, vI i, .unset, .unset, .unset, .unset, .unset, .unset] [(.ref a1), (.ref pts), (.int (i - p1)), (.ref v)])) _
      refine st132 _ ?_
      show Steps p.tables e below (T132.setTop (mkF m 33 #[vR a1, vI p1, vI p2, vI p3, vI 0, vR v, vI i, .unset, .unset, .unset, .unset, .unset, .unset] [(.ref t), (.ref pts), (.int (i - p1)), (.ref v)])) _
      refine st133 _ ?_
      show Steps p.tables e below (T133.setTop (mkF m 36 #[vR a1, vI p1, vI p2, vI p3, vI 0, vR v, vI i, .unset, .unset, .unset, .unset, .unset, .unset] [(.ref r), (.ref pts), (.int (i - p1)), (.ref v)])) _
      refine XS.iload X133.here hx rfl (hb hby d22_36) rfl ?_
      show Steps p.tables e below (T133.setTop (mkF m 38 #[vR a1, vI p1, vI p2, vI p3, vI 0, vR v, vI i, .unset, .unset, .unset, .unset, .unset, .unset] [(.int i), (.ref r), (.ref pts), (.int (i - p1)), (.ref v)])) _
      refine own_ldI X133 hx hZ e133 V0 (j := i) hix (f := (mkF m 38 #[vR a1, vI p1, vI p2, vI p3, vI 0, vR v, vI i, .unset, .unset, .unset, .unset, .unset, .unset] [(.int i), (.ref r), (.ref pts), (.int (i - p1)), (.ref v)])) rfl rfl (hb hby d22_38) _ ?_
      show Steps p.tables e below (T133.setTop (mkF m 39 #[vR a1, vI p1, vI p2, vI p3, vI 0, vR v, vI i, .unset, .unset, .unset, .unset, .unset, .unset] [(.int (f0 (i).toNatClampNeg)), (.ref pts), (.int (i - p1)), (.ref v)])) _
      refine XS.iload X133.here hx rfl (hb hby d22_39) rfl ?_
      show Steps p.tables e below (T133.setTop (mkF m 41 #[vR a1, vI p1, vI p2, vI p3, vI 0, vR v, vI i, .unset, .unset, .unset, .unset, .unset, .unset] [(.int (0 : Int32)), (.int (f0 (i).toNatClampNeg)), (.ref pts), (.int (i - p1)), (.ref v)])) _
      refine st134.trans ?_
      show Steps p.tables e below (T134.setTop (mkF m 44 #[vR a1, vI p1, vI p2, vI p3, vI 0, vR v, vI i, .unset, .unset, .unset, .unset, .unset, .unset] [(.double (gc (f0 (i).toNatClampNeg).toNatClampNeg)), (.int (i - p1)), (.ref v)])) _
      refine st136 _ ?_
      show Steps p.tables e below (T136.setTop (mkF m 45 #[vR a1, vI p1, vI p2, vI p3, vI 0, vR v, vI i, .unset, .unset, .unset, .unset, .unset, .unset] [])) _
      refine XS.iinc X136.here hx rfl (hb hby d22_45) rfl (l' := #[vR a1, vI p1, vI p2, vI p3, vI 0, vR v, vI (i + (1 : Int32)), .unset, .unset, .unset, .unset, .unset, .unset]) rfl ?_
      refine XS.goto X136.here hx rfl (pc0 := 48) (pc' := 10) rfl (hb hby d22_48) (by decide) (by decide) ?_
      show Steps p.tables e below (T136.setTop (mkF m 10 #[vR a1, vI p1, vI p2, vI p3, vI 0, vR v, vI (i + (1 : Int32)), .unset, .unset, .unset, .unset, .unset, .unset] [])) _
      exact st9 target kt
    · refine ⟨T, locs, i, X0, N0, e0 ▸ Keep.refl _ _, ⟨gv, e0 ▸ Vv, Fv⟩, fun target kt => ?_⟩
      show Steps p.tables e below (T.setTop (mkF m 10 #[vR a1, vI p1, vI p2, vI p3, vI 0, vR v, vI i, .unset, .unset, .unset, .unset, .unset, .unset] [])) _
      refine XS.iload X0.here hx rfl (hb hby d22_10) rfl ?_
      refine XS.iloadN X0.here hx rfl (hb hby d22_12) rfl ?_
      refine XS.icmpYes X0.here hx rfl (pc0 := 13) (pc' := 51) rfl (hb hby d22_13) rfl (flt hg).2.1 (by decide) (by decide) ?_
      exact kt
theorem d22_75 : decode prog_54_method_3_code 75 = .ok (.iload 10, 2) := by decide +kernel
theorem d22_77 : decode prog_54_method_3_code 77 = .ok (.iload 9, 2) := by decide +kernel
theorem d22_79 : decode prog_54_method_3_code 79 = .ok (.if_icmp .ge 80, 3) := by decide +kernel
theorem d22_82 : decode prog_54_method_3_code 82 = .ok (.aload_n 0, 1) := by decide +kernel
theorem d22_83 : decode prog_54_method_3_code 83 = .ok (.getfield 3, 3) := by decide +kernel
theorem d22_86 : decode prog_54_method_3_code 86 = .ok (.getfield 15, 3) := by decide +kernel
theorem d22_89 : decode prog_54_method_3_code 89 = .ok (.aload_n 0, 1) := by decide +kernel
theorem d22_90 : decode prog_54_method_3_code 90 = .ok (.getfield 3, 3) := by decide +kernel
theorem d22_93 : decode prog_54_method_3_code 93 = .ok (.getfield 54, 3) := by decide +kernel
theorem d22_96 : decode prog_54_method_3_code 96 = .ok (.iload 10, 2) := by decide +kernel
theorem d22_98 : decode prog_54_method_3_code 98 = .ok (.iaload, 1) := by decide +kernel
theorem d22_99 : decode prog_54_method_3_code 99 = .ok (.iload 4, 2) := by decide +kernel
theorem d22_101 : decode prog_54_method_3_code 101 = .ok (.invokevirtual 57, 3) := by decide +kernel
theorem d22_104 : decode prog_54_method_3_code 104 = .ok (.dstore 11, 2) := by decide +kernel
theorem d22_106 : decode prog_54_method_3_code 106 = .ok (.dload 11, 2) := by decide +kernel
theorem d22_108 : decode prog_54_method_3_code 108 = .ok (.dload 6, 2) := by decide +kernel
theorem d22_110 : decode prog_54_method_3_code 110 = .ok (.dcmp .g, 1) := by decide +kernel
theorem d22_111 : decode prog_54_method_3_code 111 = .ok (.ifCond .ge 20, 3) := by decide +kernel
theorem d22_114 : decode prog_54_method_3_code 114 = .ok (.aload_n 0, 1) := by decide +kernel
theorem d22_115 : decode prog_54_method_3_code 115 = .ok (.iload 8, 2) := by decide +kernel
theorem d22_117 : decode prog_54_method_3_code 117 = .ok (.iinc 8 1, 3) := by decide +kernel
theorem d22_120 : decode prog_54_method_3_code 120 = .ok (.iload 10, 2) := by decide +kernel
theorem d22_122 : decode prog_54_method_3_code 122 = .ok (.iinc 10 1, 3) := by decide +kernel
theorem d22_125 : decode prog_54_method_3_code 125 = .ok (.invokevirtual 88, 3) := by decide +kernel
theorem pd__II_V : parseMethodDescriptor "(II)V" = some ⟨[.int, .int], none⟩ := by decide +kernel
theorem d22_128 : decode prog_54_method_3_code 128 = .ok (.goto 28, 3) := by decide +kernel
theorem d22_156 : decode prog_54_method_3_code 156 = .ok (.goto (-81), 3) := by decide +kernel
theorem d22_131 : decode prog_54_method_3_code 131 = .ok (.dload 11, 2) := by decide +kernel
theorem d22_133 : decode prog_54_method_3_code 133 = .ok (.dload 6, 2) := by decide +kernel
theorem d22_135 : decode prog_54_method_3_code 135 = .ok (.dcmp .l, 1) := by decide +kernel
theorem d22_136 : decode prog_54_method_3_code 136 = .ok (.ifCond .le 17, 3) := by decide +kernel
theorem d22_139 : decode prog_54_method_3_code 139 = .ok (.aload_n 0, 1) := by decide +kernel
theorem d22_140 : decode prog_54_method_3_code 140 = .ok (.iload 10, 2) := by decide +kernel
theorem d22_142 : decode prog_54_method_3_code 142 = .ok (.iinc 9 (-1), 3) := by decide +kernel
theorem d22_145 : decode prog_54_method_3_code 145 = .ok (.iload 9, 2) := by decide +kernel
theorem d22_147 : decode prog_54_method_3_code 147 = .ok (.invokevirtual 88, 3) := by decide +kernel
theorem d22_150 : decode prog_54_method_3_code 150 = .ok (.goto 6, 3) := by decide +kernel
theorem d22_153 : decode prog_54_method_3_code 153 = .ok (.iinc 10 1, 3) := by decide +kernel
set_option maxRecDepth 65536 in
set_option maxHeartbeats 40000000 in
theorem loopQ {p : Program} {l : Launch} {e : Env} {s : State} {m : MethodId} {args : Array Value} {below : List Frame} {meth : Method} {c : Code} {Z : State} {a0 : Array Value} {n0 : Nat} (hw : ∀ d ∈ tables_1, d.before a0 Z = true) (hx : p.tables.exec = Jvm.exec) (hZ : Z.Warmed39 s.vm) (hby : c.code = prog_54_method_3_code) (hml : c.maxLocals = 13) (hown : s.vm.findClass "com/example/flatfinder/flatfinder/neighbours/KdTree$Builder" = some m.cls) (a1 : Addr) (t : Addr) (pts : Addr) (co : Addr) (r : Addr) (v : Addr) (gc : Nat → UInt64) (pv : UInt64) (p1 : Int32) (p2 : Int32) (p3 : Int32) (gr : n0 ≤ r) (m_a1 : a1 ≠ r) (m_t : t ≠ r) (m_pts : pts ≠ r) (m_co : co ≠ r) :
    ∀ (k : Nat) (lo : Int32) (hh : Int32) (i : Int32) (s11 : Slot) (s12 : Slot) (T : State) (h : Heap) (locs : List Loc) (X0 : Stand p l e ({ frames := 3, cells := 1, slots := 66, locals := 57 } : Room) s m args below meth c T locs 1 66) (e0 : T.heap = h) (N0 : Fr n0 locs) (Z0 : n0 ≤ h.size) (hs11 : own_Two s11 s12) (hi : 0 ≤ lo.toInt ∧ lo.toInt ≤ i.toInt ∧ i.toInt ≤ hh.toInt ∧ hh.toInt ≤ 66) (Eb : Exa Z h a1 "com/example/flatfinder/flatfinder/neighbours/KdTree$Builder") (Ft : Fld Z h a1 "com/example/flatfinder/flatfinder/neighbours/KdTree$Builder" "this$0" "Lcom/example/flatfinder/flatfinder/neighbours/KdTree;" (.ref t)) (Fp : Fld Z h t "com/example/flatfinder/flatfinder/neighbours/KdTree" "points" "Lcom/example/flatfinder/flatfinder/neighbours/Points;" (.ref pts)) (Frw : Fld Z h t "com/example/flatfinder/flatfinder/neighbours/KdTree" "rows" "[I" (.ref r)) (Ep : Exa Z h pts "com/example/flatfinder/flatfinder/neighbours/Points") (Fs : Fld Z h pts "com/example/flatfinder/flatfinder/neighbours/Points" "size" "I" (.int (66 : Int32))) (Fd : Fld Z h pts "com/example/flatfinder/flatfinder/neighbours/Points" "dimensions" "I" (.int (1 : Int32))) (Fc : Fld Z h pts "com/example/flatfinder/flatfinder/neighbours/Points" "coordinates" "[D" (.ref co)) (Vc : own_V Z h co .double 66 (fun ii => .double (gc ii))) (RW : own_Rw Z h r) (hk : (hh.toInt - i.toInt).toNat < k),
      ∃ (T' : State) (locs' : List Loc) (lo' : Int32) (hh' : Int32) (i' : Int32) (u' : Slot) (v' : Slot), Stand p l e ({ frames := 3, cells := 1, slots := 66, locals := 57 } : Room) s m args below meth c T' locs' 1 66 ∧ Fr n0 locs' ∧ Keep h T'.heap [r] ∧ own_Rw Z T'.heap r ∧ ∀ target, Steps p.tables e below (T'.setTop (mkF m 159 #[vR a1, vI p1, vI p2, vI p3, vI 0, vR v, vD pv, .second, vI lo', vI hh', vI i', u', v'] [])) target → Steps p.tables e below (T.setTop (mkF m 75 #[vR a1, vI p1, vI p2, vI p3, vI 0, vR v, vD pv, .second, vI lo, vI hh, vI i, s11, s12] [])) target := by
  intro k
  induction k with
  | zero => intro lo hh i s11 s12 T h locs X0 e0 N0 Z0 hs11 hi Eb Ft Fp Frw Ep Fs Fd Fc Vc RW hk; exact absurd hk (Nat.not_lt_zero _)
  | succ k ih =>
    intro lo hh i s11 s12 T h locs X0 e0 N0 Z0 hs11 hi Eb Ft Fp Frw Ep Fs Fd Fc Vc RW hk
    obtain ⟨f0, V0, q0⟩ := id RW
    by_cases hg : i < hh
    · have hg' := own_lt.mp hg
      have hix : own_ix 66 i := ⟨by omega, by omega⟩
      have hil : own_ix 66 lo := ⟨by omega, by omega⟩
      have hi1 := own_add1 (i := i) (by omega) (by omega)
      have hl1 := own_add1 (i := lo) (by omega) (by omega)
      have hh1 := own_sub1 (i := hh) (by omega) (by omega)
      obtain ⟨wh, hwh⟩ : ∃ z, z = hh + Int32.ofInt (-1) := ⟨_, rfl⟩
      rw [← hwh] at hh1
      have hih' : own_ix 66 wh := ⟨by omega, by omega⟩
      have hih : own_ix 66 (hh + Int32.ofInt (-1)) := hwh ▸ hih'
      have K0 := Keep.refl h [r]
      obtain ⟨T152, X152, e152, st152⟩ := getF X0 hx hZ hown (host := "") (Or.inl (wd hw 73 rfl)) Via.refl e0 Ft (g := (mkF m 83 #[vR a1, vI p1, vI p2, vI p3, vI 0, vR v, vD pv, .second, vI lo, vI hh, vI i, s11, s12] [(.ref a1)])) rfl rfl (hb hby d22_83)
      obtain ⟨T153, X153, e153, st153⟩ := getF X152 hx hZ hown (Or.inr (wd hw 81 rfl)) Via.refl e152 Fp (g := (mkF m 86 #[vR a1, vI p1, vI p2, vI p3, vI 0, vR v, vD pv, .second, vI lo, vI hh, vI i, s11, s12] [(.ref t)])) rfl rfl (hb hby d22_86)
      obtain ⟨T154, X154, e154, st154⟩ := getF X153 hx hZ hown (host := "") (Or.inl (wd hw 73 rfl)) Via.refl e153 Ft (g := (mkF m 90 #[vR a1, vI p1, vI p2, vI p3, vI 0, vR v, vD pv, .second, vI lo, vI hh, vI i, s11, s12] [(.ref a1), (.ref pts)])) rfl rfl (hb hby d22_90)
      obtain ⟨T155, X155, e155, st155⟩ := getF X154 hx hZ hown (Or.inr (wd hw 95 rfl)) Via.refl e154 Frw (g := (mkF m 93 #[vR a1, vI p1, vI p2, vI p3, vI 0, vR v, vD pv, .second, vI lo, vI hh, vI i, s11, s12] [(.ref t), (.ref pts)])) rfl rfl (hb hby d22_93)
      obtain ⟨cq156, kq156, q156a, q156b, q156c⟩ := isOf hZ e155 Ep
      obtain ⟨_, _, ⟨T156, L156, k156, n156⟩, -, X156, ⟨Lc156, hQ156, l156, y156, z156⟩, st156⟩ := X155.virtualBack hx (y := (⟨"com/example/flatfinder/flatfinder/neighbours/Points", "coordinate", "(II)D"⟩ : MethodName)) (z := (⟨"com/example/flatfinder/flatfinder/neighbours/Points", "coordinate", "(II)D"⟩ : MethodName)) hown (mvT hZ (wd hw 96 rfl)) (mvT hZ (wd hw 97 rfl)) (notFace_of_selects (args := #[]) (mvT hZ (wd hw 99 rfl))) (mvT hZ (wd hw 99 rfl)) (mvT hZ (wd hw 98 rfl)) (by decide) (backOf (W := 0) (rm10 l Z a0 hw [] pts (f0 (i).toNatClampNeg) co gc h n0 Z0 Fs Fd Fc Vc (q0 _)) hZ (wd hw 100 rfl) (wd hw 4 rfl) (by decide) (by decide)) q156a q156c (g := (mkF m 101 #[vR a1, vI p1, vI p2, vI p3, vI 0, vR v, vD pv, .second, vI lo, vI hh, vI i, s11, s12] [(.int (0 : Int32)), (.int (f0 (i).toNatClampNeg)), (.ref pts)])) rfl (by rw [hml]; rfl) (Steps.refl _) (argsL := [(.int (f0 (i).toNatClampNeg)), (.int (0 : Int32))]) (rest := []) (lenOf pd__II_D rfl) rfl (by show 2 * 0 + _ ≤ _; exact Nat.le_of_eq rfl) (hb hby d22_101) (fun _ _ => ⟨rfl, e155, (by decide : 1 + 0 ≤ _), (by decide : 66 + 0 ≤ _)⟩)
      dsimp only [Pt.U, Pt.locs, Pt.cells, Pt.slots] at X156 l156 y156 z156 st156 hQ156
      subst l156 y156 z156
      obtain ⟨rfl, N156q, e156⟩ := hQ156
      have N157 := Fr.app N0 N156q
      obtain ⟨cz, hcz⟩ : ∃ z, cmpValue (FP.dcmp (gc (f0 (i).toNatClampNeg).toNatClampNeg) pv) .g = z := ⟨_, rfl⟩
      by_cases hz : cz < (0 : Int32)
      · obtain ⟨cq158, q158, q158'⟩ := Eb.cell
        obtain ⟨_, _, ⟨T158, L158, k158, n158⟩, -, X158, ⟨Lc158, hQ158, l158, y158, z158⟩, st158⟩ := X156.privateBack hx (y := (⟨"com/example/flatfinder/flatfinder/neighbours/KdTree$Builder", "swap", "(II)V"⟩ : MethodName)) hown (mvT hZ (wd hw 178 rfl)) (mvT hZ (wd hw 179 rfl)) (own_selSelf (mvT hZ (wd hw 68 rfl)) (Cond.privateMethod_at (mvP hZ (wd hw 180 rfl) (args := #[]))) (mvT hZ (wd hw 179 rfl)) (by decide)) (Cond.privateMethod_at (mvP hZ (wd hw 180 rfl) (args := #[]))) (mvT hZ (wd hw 181 rfl)) (by decide) (backOf (W := 0) (rm25 l Z a0 hw [] a1 lo i t r h n0 Z0 Ft Frw ⟨f0, V0, q0⟩ hil hix gr m_a1 m_t) hZ (wd hw 181 rfl) (wd hw 69 rfl) (by decide) (by decide)) (g := (mkF m 125 #[vR a1, vI p1, vI p2, vI p3, vI 0, vR v, vD pv, .second, vI (lo + (1 : Int32)), vI hh, vI (i + (1 : Int32)), vD (gc (f0 (i).toNatClampNeg).toNatClampNeg), .second] [(.int i), (.int lo), (.ref a1)])) rfl (by rw [hml]; rfl) (Steps.refl _) (a := a1) (by rw [e156]; exact q158) q158' (argsL := [(.int lo), (.int i)]) (rest := []) (lenOf pd__II_V rfl) rfl (by show 2 * 0 + _ ≤ _; exact Nat.le_of_eq rfl) (hb hby d22_125) (fun _ _ => ⟨rfl, e156, (by decide : 1 + 0 ≤ _), (by decide : 66 + 0 ≤ _)⟩)
        dsimp only [Pt.U, Pt.locs, Pt.cells, Pt.slots] at X158 l158 y158 z158 st158 hQ158
        subst l158 y158 z158
        obtain ⟨rfl, N158q, Ks158, Rs158⟩ := hQ158
        have N159 := Fr.app N157 N158q
        have f160 := Eb.keep Ks158
        have f161 := Ft.keep Ks158 (ninS m_a1 nin0)
        have f162 := Fp.keep Ks158 (ninS m_t nin0)
        have f163 := Frw.keep Ks158 (ninS m_t nin0)
        have f164 := Ep.keep Ks158
        have f165 := Fs.keep Ks158 (ninS m_pts nin0)
        have f166 := Fd.keep Ks158 (ninS m_pts nin0)
        have f167 := Fc.keep Ks158 (ninS m_pts nin0)
        have f168 := Vc.keep Ks158 (ninS m_co nin0)
        have Zn169 := Nat.le_trans Z0 Ks158.1
        have K170 := K0.trans Ks158 (allS (Or.inl (List.mem_of_getElem? (i := 0) rfl)) all0)
        obtain ⟨T9, locs9, l9, h9, i9, u9, v9, X9, N9, K9, A9, st9⟩ := ih (lo + (1 : Int32)) hh (i + (1 : Int32)) (vD (gc (f0 (i).toNatClampNeg).toNatClampNeg)) (.second) T158 T158.heap _ X158 rfl N159 Zn169 own_Two.v (by omega) f160 f161 f162 f163 f164 f165 f166 f167 f168 Rs158 (by omega)
        refine ⟨T9, locs9, l9, h9, i9, u9, v9, X9, N9, K170.trans K9 (allS (Or.inl (List.mem_of_getElem? (i := 0) rfl)) all0), A9, fun target kt => ?_⟩
        show Steps p.tables e below (T.setTop (mkF m 75 #[vR a1, vI p1, vI p2, vI p3, vI 0, vR v, vD pv, .second, vI lo, vI hh, vI i, s11, s12] [])) _
        refine XS.iload X0.here hx rfl (hb hby d22_75) rfl ?_
        refine XS.iload X0.here hx rfl (hb hby d22_77) rfl ?_
        refine XS.icmpNo X0.here hx rfl (hb hby d22_79) rfl (tlt hg).2.1 ?_
        refine XS.aloadN X0.here hx rfl (hb hby d22_82) rfl rfl ?_
        show Steps p.tables e below (T.setTop (mkF m 83 #[vR a1, vI p1, vI p2, vI p3, vI 0, vR v, vD pv, .second, vI lo, vI hh, vI i, s11, s12] [(.ref a1)])) _
        refine st152 _ ?_
        show Steps p.tables e below (T152.setTop (mkF m 86 #[vR a1, vI p1, vI p2, vI p3, vI 0, vR v, vD pv, .second, vI lo, vI hh, vI i, s11, s12] [(.ref t)])) _
        refine st153 _ ?_
        show Steps p.tables e below (T153.setTop (mkF m 89 #[vR a1, vI p1, vI p2, vI p3, vI 0, vR v, vD pv, .second, vI lo, vI hh, vI i, s11, s12] [(.ref pts)])) _
        refine XS.aloadN X153.here hx rfl (hb hby d22_89) rfl rfl ?_
        show Steps p.tables e below (T153.setTop (mkF m 90 #[vR a1, vI p1, vI p2, vI p3, vI 0, vR v, vD pv, .second, vI lo, vI hh, vI i, s11, s12] [(.ref a1), (.ref pts)])) _
        refine st154 _ ?_
        show Steps p.tables e below (T154.setTop (mkF m 93 #[vR a1, vI p1, vI p2, vI p3, vI 0, vR v, vD pv, .second, vI lo, vI hh, vI i, s11, s12] [(.ref t), (.ref pts)])) _
        refine st155 _ ?_
        show Steps p.tables e below (T155.setTop (mkF m 96 #[vR a1, vI p1, vI p2, vI p3, vI 0, vR v, vD pv, .second, vI lo, vI hh, vI i, s11, s12] [(.ref r), (.ref pts)])) _
        refine XS.iload X155.here hx rfl (hb hby d22_96) rfl ?_
        show Steps p.tables e below (T155.setTop (mkF m 98 #[vR a1, vI p1, vI p2, vI p3, vI 0, vR v, vD pv, .second, vI lo, vI hh, vI i, s11, s12] [(.int i), (.ref r), (.ref pts)])) _
        refine own_ldI X155 hx hZ e155 V0 (j := i) hix (f := (mkF m 98 #[vR a1, vI p1, vI p2, vI p3, vI 0, vR v, vD pv, .second, vI lo, vI hh, vI i, s11, s12] [(.int i), (.ref r), (.ref pts)])) rfl rfl (hb hby d22_98) _ ?_
        show Steps p.tables e below (T155.setTop (mkF m 99 #[vR a1, vI p1, vI p2, vI p3, vI 0, vR v, vD pv, .second, vI lo, vI hh, vI i, s11, s12] [(.int (f0 (i).toNatClampNeg)), (.ref pts)])) _
        refine XS.iload X155.here hx rfl (hb hby d22_99) rfl ?_
        show Steps p.tables e below (T155.setTop (mkF m 101 #[vR a1, vI p1, vI p2, vI p3, vI 0, vR v, vD pv, .second, vI lo, vI hh, vI i, s11, s12] [(.int (0 : Int32)), (.int (f0 (i).toNatClampNeg)), (.ref pts)])) _
        refine st156.trans ?_
        show Steps p.tables e below (T156.setTop (mkF m 104 #[vR a1, vI p1, vI p2, vI p3, vI 0, vR v, vD pv, .second, vI lo, vI hh, vI i, s11, s12] [(.double (gc (f0 (i).toNatClampNeg).toNatClampNeg))])) _
        refine own_sstore X156.here hx (l' := #[vR a1, vI p1, vI p2, vI p3, vI 0, vR v, vD pv, .second, vI lo, vI hh, vI i, vD (gc (f0 (i).toNatClampNeg).toNatClampNeg), .second]) (hb hby d22_104) (by rcases hs11 with ⟨q, q'⟩ | ⟨_, q, q'⟩ <;> subst q q' <;> rfl) ?_
        show Steps p.tables e below (T156.setTop (mkF m 106 #[vR a1, vI p1, vI p2, vI p3, vI 0, vR v, vD pv, .second, vI lo, vI hh, vI i, vD (gc (f0 (i).toNatClampNeg).toNatClampNeg), .second] [])) _
        refine own_sload X156.here hx (hb hby d22_106) rfl ?_
        show Steps p.tables e below (T156.setTop (mkF m 108 #[vR a1, vI p1, vI p2, vI p3, vI 0, vR v, vD pv, .second, vI lo, vI hh, vI i, vD (gc (f0 (i).toNatClampNeg).toNatClampNeg), .second] [(.double (gc (f0 (i).toNatClampNeg).toNatClampNeg))])) _
        refine own_sload X156.here hx (hb hby d22_108) rfl ?_
        show Steps p.tables e below (T156.setTop (mkF m 110 #[vR a1, vI p1, vI p2, vI p3, vI 0, vR v, vD pv, .second, vI lo, vI hh, vI i, vD (gc (f0 (i).toNatClampNeg).toNatClampNeg), .second] [(.double pv), (.double (gc (f0 (i).toNatClampNeg).toNatClampNeg))])) _
        refine own_scmp X156.here hx (z := cz) (hb hby d22_110) hcz ?_
        show Steps p.tables e below (T156.setTop (mkF m 111 #[vR a1, vI p1, vI p2, vI p3, vI 0, vR v, vD pv, .second, vI lo, vI hh, vI i, vD (gc (f0 (i).toNatClampNeg).toNatClampNeg), .second] [(.int cz)])) _
        refine XS.ifNo X156.here hx rfl (hb hby d22_111) rfl ((if0 _ _).trans (tlt hz).2.1) ?_
        refine XS.aloadN X156.here hx rfl (hb hby d22_114) rfl rfl ?_
        refine XS.iload X156.here hx rfl (hb hby d22_115) rfl ?_
        refine XS.iinc X156.here hx rfl (hb hby d22_117) rfl (l' := #[vR a1, vI p1, vI p2, vI p3, vI 0, vR v, vD pv, .second, vI (lo + (1 : Int32)), vI hh, vI i, vD (gc (f0 (i).toNatClampNeg).toNatClampNeg), .second]) rfl ?_
        refine XS.iload X156.here hx rfl (hb hby d22_120) rfl ?_
        refine XS.iinc X156.here hx rfl (hb hby d22_122) rfl (l' := #[vR a1, vI p1, vI p2, vI p3, vI 0, vR v, vD pv, .second, vI (lo + (1 : Int32)), vI hh, vI (i + (1 : Int32)), vD (gc (f0 (i).toNatClampNeg).toNatClampNeg), .second]) rfl ?_
        show Steps p.tables e below (T156.setTop (mkF m 125 #[vR a1, vI p1, vI p2, vI p3, vI 0, vR v, vD pv, .second, vI (lo + (1 : Int32)), vI hh, vI (i + (1 : Int32)), vD (gc (f0 (i).toNatClampNeg).toNatClampNeg), .second] [(.int i), (.int lo), (.ref a1)])) _
        refine st158.trans ?_
        show Steps p.tables e below (T158.setTop (mkF m 128 #[vR a1, vI p1, vI p2, vI p3, vI 0, vR v, vD pv, .second, vI (lo + (1 : Int32)), vI hh, vI (i + (1 : Int32)), vD (gc (f0 (i).toNatClampNeg).toNatClampNeg), .second] [])) _
        refine XS.goto X158.here hx rfl (pc0 := 128) (pc' := 156) rfl (hb hby d22_128) (by decide) (by decide) ?_
        refine XS.goto X158.here hx rfl (pc0 := 156) (pc' := 75) rfl (hb hby d22_156) (by decide) (by decide) ?_
        show Steps p.tables e below (T158.setTop (mkF m 75 #[vR a1, vI p1, vI p2, vI p3, vI 0, vR v, vD pv, .second, vI (lo + (1 : Int32)), vI hh, vI (i + (1 : Int32)), vD (gc (f0 (i).toNatClampNeg).toNatClampNeg), .second] [])) _
        exact st9 target kt
      · obtain ⟨cy, hcy⟩ : ∃ z, cmpValue (FP.dcmp (gc (f0 (i).toNatClampNeg).toNatClampNeg) pv) .l = z := ⟨_, rfl⟩
        by_cases hy : (0 : Int32) < cy
        · obtain ⟨cq171, q171, q171'⟩ := Eb.cell
          obtain ⟨_, _, ⟨T171, L171, k171, n171⟩, -, X171, ⟨Lc171, hQ171, l171, y171, z171⟩, st171⟩ := X156.privateBack hx (y := (⟨"com/example/flatfinder/flatfinder/neighbours/KdTree$Builder", "swap", "(II)V"⟩ : MethodName)) hown (mvT hZ (wd hw 178 rfl)) (mvT hZ (wd hw 179 rfl)) (own_selSelf (mvT hZ (wd hw 68 rfl)) (Cond.privateMethod_at (mvP hZ (wd hw 180 rfl) (args := #[]))) (mvT hZ (wd hw 179 rfl)) (by decide)) (Cond.privateMethod_at (mvP hZ (wd hw 180 rfl) (args := #[]))) (mvT hZ (wd hw 181 rfl)) (by decide) (backOf (W := 0) (rm25 l Z a0 hw [] a1 i (hh + Int32.ofInt (-1)) t r h n0 Z0 Ft Frw ⟨f0, V0, q0⟩ hix hih gr m_a1 m_t) hZ (wd hw 181 rfl) (wd hw 69 rfl) (by decide) (by decide)) (g := (mkF m 147 #[vR a1, vI p1, vI p2, vI p3, vI 0, vR v, vD pv, .second, vI lo, vI (hh + Int32.ofInt (-1)), vI i, vD (gc (f0 (i).toNatClampNeg).toNatClampNeg), .second] [(.int (hh + Int32.ofInt (-1))), (.int i), (.ref a1)])) rfl (by rw [hml]; rfl) (Steps.refl _) (a := a1) (by rw [e156]; exact q171) q171' (argsL := [(.int i), (.int (hh + Int32.ofInt (-1)))]) (rest := []) (lenOf pd__II_V rfl) rfl (by show 2 * 0 + _ ≤ _; exact Nat.le_of_eq rfl) (hb hby d22_147) (fun _ _ => ⟨rfl, e156, (by decide : 1 + 0 ≤ _), (by decide : 66 + 0 ≤ _)⟩)
          dsimp only [Pt.U, Pt.locs, Pt.cells, Pt.slots] at X171 l171 y171 z171 st171 hQ171
          subst l171 y171 z171
          obtain ⟨rfl, N171q, Ks171, Rs171⟩ := hQ171
          have N172 := Fr.app N157 N171q
          have f173 := Eb.keep Ks171
          have f174 := Ft.keep Ks171 (ninS m_a1 nin0)
          have f175 := Fp.keep Ks171 (ninS m_t nin0)
          have f176 := Frw.keep Ks171 (ninS m_t nin0)
          have f177 := Ep.keep Ks171
          have f178 := Fs.keep Ks171 (ninS m_pts nin0)
          have f179 := Fd.keep Ks171 (ninS m_pts nin0)
          have f180 := Fc.keep Ks171 (ninS m_pts nin0)
          have f181 := Vc.keep Ks171 (ninS m_co nin0)
          have Zn182 := Nat.le_trans Z0 Ks171.1
          have K183 := K0.trans Ks171 (allS (Or.inl (List.mem_of_getElem? (i := 0) rfl)) all0)
          obtain ⟨T9, locs9, l9, h9, i9, u9, v9, X9, N9, K9, A9, st9⟩ := ih lo wh i (vD (gc (f0 (i).toNatClampNeg).toNatClampNeg)) (.second) T171 T171.heap _ X171 rfl N172 Zn182 own_Two.v (by omega) f173 f174 f175 f176 f177 f178 f179 f180 f181 Rs171 (by omega)
          refine ⟨T9, locs9, l9, h9, i9, u9, v9, X9, N9, K183.trans K9 (allS (Or.inl (List.mem_of_getElem? (i := 0) rfl)) all0), A9, fun target kt => ?_⟩
          subst hwh
          show Steps p.tables e below (T.setTop (mkF m 75 #[vR a1, vI p1, vI p2, vI p3, vI 0, vR v, vD pv, .second, vI lo, vI hh, vI i, s11, s12] [])) _
          refine XS.iload X0.here hx rfl (hb hby d22_75) rfl ?_
          refine XS.iload X0.here hx rfl (hb hby d22_77) rfl ?_
          refine XS.icmpNo X0.here hx rfl (hb hby d22_79) rfl (tlt hg).2.1 ?_
          refine XS.aloadN X0.here hx rfl (hb hby d22_82) rfl rfl ?_
          show Steps p.tables e below (T.setTop (mkF m 83 #[vR a1, vI p1, vI p2, vI p3, vI 0, vR v, vD pv, .second, vI lo, vI hh, vI i, s11, s12] [(.ref a1)])) _
          refine st152 _ ?_
          show Steps p.tables e below (T152.setTop (mkF m 86 #[vR a1, vI p1, vI p2, vI p3, vI 0, vR v, vD pv, .second, vI lo, vI hh, vI i, s11, s12] [(.ref t)])) _
          refine st153 _ ?_
          show Steps p.tables e below (T153.setTop (mkF m 89 #[vR a1, vI p1, vI p2, vI p3, vI 0, vR v, vD pv, .second, vI lo, vI hh, vI i, s11, s12] [(.ref pts)])) _
          refine XS.aloadN X153.here hx rfl (hb hby d22_89) rfl rfl ?_
          show Steps p.tables e below (T153.setTop (mkF m 90 #[vR a1, vI p1, vI p2, vI p3, vI 0, vR v, vD pv, .second, vI lo, vI hh, vI i, s11, s12] [(.ref a1), (.ref pts)])) _
          refine st154 _ ?_
          show Steps p.tables e below (T154.setTop (mkF m 93 #[vR a1, vI p1, vI p2, vI p3, vI 0, vR v, vD pv, .second, vI lo, vI hh, vI i, s11, s12] [(.ref t), (.ref pts)])) _
          refine st155 _ ?_
          show Steps p.tables e below (T155.setTop (mkF m 96 #[vR a1, vI p1, vI p2, vI p3, vI 0, vR v, vD pv, .second, vI lo, vI hh, vI i, s11, s12] [(.ref r), (.ref pts)])) _
          refine XS.iload X155.here hx rfl (hb hby d22_96) rfl ?_
          show Steps p.tables e below (T155.setTop (mkF m 98 #[vR a1, vI p1, vI p2, vI p3, vI 0, vR v, vD pv, .second, vI lo, vI hh, vI i, s11, s12] [(.int i), (.ref r), (.ref pts)])) _
          refine own_ldI X155 hx hZ e155 V0 (j := i) hix (f := (mkF m 98 #[vR a1, vI p1, vI p2, vI p3, vI 0, vR v, vD pv, .second, vI lo, vI hh, vI i, s11, s12] [(.int i), (.ref r), (.ref pts)])) rfl rfl (hb hby d22_98) _ ?_
          show Steps p.tables e below (T155.setTop (mkF m 99 #[vR a1, vI p1, vI p2, vI p3, vI 0, vR v, vD pv, .second, vI lo, vI hh, vI i, s11, s12] [(.int (f0 (i).toNatClampNeg)), (.ref pts)])) _
          refine XS.iload X155.here hx rfl (hb hby d22_99) rfl ?_
          show Steps p.tables e below (T155.setTop (mkF m 101 #[vR a1, vI p1, vI p2, vI p3, vI 0, vR v, vD pv, .second, vI lo, vI hh, vI i, s11, s12] [(.int (0 : Int32)), (.int (f0 (i).toNatClampNeg)), (.ref pts)])) _
          refine st156.trans ?_
          show Steps p.tables e below (T156.setTop (mkF m 104 #[vR a1, vI p1, vI p2, vI p3, vI 0, vR v, vD pv, .second, vI lo, vI hh, vI i, s11, s12] [(.double (gc (f0 (i).toNatClampNeg).toNatClampNeg))])) _
          refine own_sstore X156.here hx (l' := #[vR a1, vI p1, vI p2, vI p3, vI 0, vR v, vD pv, .second, vI lo, vI hh, vI i, vD (gc (f0 (i).toNatClampNeg).toNatClampNeg), .second]) (hb hby d22_104) (by rcases hs11 with ⟨q, q'⟩ | ⟨_, q, q'⟩ <;> subst q q' <;> rfl) ?_
          show Steps p.tables e below (T156.setTop (mkF m 106 #[vR a1, vI p1, vI p2, vI p3, vI 0, vR v, vD pv, .second, vI lo, vI hh, vI i, vD (gc (f0 (i).toNatClampNeg).toNatClampNeg), .second] [])) _
          refine own_sload X156.here hx (hb hby d22_106) rfl ?_
          show Steps p.tables e below (T156.setTop (mkF m 108 #[vR a1, vI p1, vI p2, vI p3, vI 0, vR v, vD pv, .second, vI lo, vI hh, vI i, vD (gc (f0 (i).toNatClampNeg).toNatClampNeg), .second] [(.double (gc (f0 (i).toNatClampNeg).toNatClampNeg))])) _
          refine own_sload X156.here hx (hb hby d22_108) rfl ?_
          show Steps p.tables e below (T156.setTop (mkF m 110 #[vR a1, vI p1, vI p2, vI p3, vI 0, vR v, vD pv, .second, vI lo, vI hh, vI i, vD (gc (f0 (i).toNatClampNeg).toNatClampNeg), .second] [(.double pv), (.double (gc (f0 (i).toNatClampNeg).toNatClampNeg))])) _
          refine own_scmp X156.here hx (z := cz) (hb hby d22_110) hcz ?_
          show Steps p.tables e below (T156.setTop (mkF m 111 #[vR a1, vI p1, vI p2, vI p3, vI 0, vR v, vD pv, .second, vI lo, vI hh, vI i, vD (gc (f0 (i).toNatClampNeg).toNatClampNeg), .second] [(.int cz)])) _
          refine XS.ifYes X156.here hx rfl (pc0 := 111) (pc' := 131) rfl (hb hby d22_111) rfl ((if0 _ _).trans (flt hz).2.1) (by decide) (by decide) ?_
          show Steps p.tables e below (T156.setTop (mkF m 131 #[vR a1, vI p1, vI p2, vI p3, vI 0, vR v, vD pv, .second, vI lo, vI hh, vI i, vD (gc (f0 (i).toNatClampNeg).toNatClampNeg), .second] [])) _
          refine own_sload X156.here hx (hb hby d22_131) rfl ?_
          show Steps p.tables e below (T156.setTop (mkF m 133 #[vR a1, vI p1, vI p2, vI p3, vI 0, vR v, vD pv, .second, vI lo, vI hh, vI i, vD (gc (f0 (i).toNatClampNeg).toNatClampNeg), .second] [(.double (gc (f0 (i).toNatClampNeg).toNatClampNeg))])) _
          refine own_sload X156.here hx (hb hby d22_133) rfl ?_
          show Steps p.tables e below (T156.setTop (mkF m 135 #[vR a1, vI p1, vI p2, vI p3, vI 0, vR v, vD pv, .second, vI lo, vI hh, vI i, vD (gc (f0 (i).toNatClampNeg).toNatClampNeg), .second] [(.double pv), (.double (gc (f0 (i).toNatClampNeg).toNatClampNeg))])) _
          refine own_scmp X156.here hx (z := cy) (hb hby d22_135) hcy ?_
          show Steps p.tables e below (T156.setTop (mkF m 136 #[vR a1, vI p1, vI p2, vI p3, vI 0, vR v, vD pv, .second, vI lo, vI hh, vI i, vD (gc (f0 (i).toNatClampNeg).toNatClampNeg), .second] [(.int cy)])) _
          refine XS.ifNo X156.here hx rfl (hb hby d22_136) rfl ((if0 _ _).trans (tlt hy).2.2.2) ?_
          refine XS.aloadN X156.here hx rfl (hb hby d22_139) rfl rfl ?_
          refine XS.iload X156.here hx rfl (hb hby d22_140) rfl ?_
          refine XS.iinc X156.here hx rfl (hb hby d22_142) rfl (l' := #[vR a1, vI p1, vI p2, vI p3, vI 0, vR v, vD pv, .second, vI lo, vI (hh + Int32.ofInt (-1)), vI i, vD (gc (f0 (i).toNatClampNeg).toNatClampNeg), .second]) rfl ?_
          refine XS.iload X156.here hx rfl (hb hby d22_145) rfl ?_
          show Steps p.tables e below (T156.setTop (mkF m 147 #[vR a1, vI p1, vI p2, vI p3, vI 0, vR v, vD pv, .second, vI lo, vI (hh + Int32.ofInt (-1)), vI i, vD (gc (f0 (i).toNatClampNeg).toNatClampNeg), .second] [(.int (hh + Int32.ofInt (-1))), (.int i), (.ref a1)])) _
          refine st171.trans ?_
          show Steps p.tables e below (T171.setTop (mkF m 150 #[vR a1, vI p1, vI p2, vI p3, vI 0, vR v, vD pv, .second, vI lo, vI (hh + Int32.ofInt (-1)), vI i, vD (gc (f0 (i).toNatClampNeg).toNatClampNeg), .second] [])) _
          refine XS.goto X171.here hx rfl (pc0 := 150) (pc' := 156) rfl (hb hby d22_150) (by decide) (by decide) ?_
          refine XS.goto X171.here hx rfl (pc0 := 156) (pc' := 75) rfl (hb hby d22_156) (by decide) (by decide) ?_
          show Steps p.tables e below (T171.setTop (mkF m 75 #[vR a1, vI p1, vI p2, vI p3, vI 0, vR v, vD pv, .second, vI lo, vI (hh + Int32.ofInt (-1)), vI i, vD (gc (f0 (i).toNatClampNeg).toNatClampNeg), .second] [])) _
          exact st9 target kt
        · obtain ⟨T9, locs9, l9, h9, i9, u9, v9, X9, N9, K9, A9, st9⟩ := ih lo hh (i + (1 : Int32)) (vD (gc (f0 (i).toNatClampNeg).toNatClampNeg)) (.second) T156 h _ X156 e156 N157 Z0 own_Two.v (by omega) Eb Ft Fp Frw Ep Fs Fd Fc Vc ⟨f0, V0, q0⟩ (by omega)
          refine ⟨T9, locs9, l9, h9, i9, u9, v9, X9, N9, K0.trans K9 (allS (Or.inl (List.mem_of_getElem? (i := 0) rfl)) all0), A9, fun target kt => ?_⟩
          show Steps p.tables e below (T.setTop (mkF m 75 #[vR a1, vI p1, vI p2, vI p3, vI 0, vR v, vD pv, .second, vI lo, vI hh, vI i, s11, s12] [])) _
          refine XS.iload X0.here hx rfl (hb hby d22_75) rfl ?_
          refine XS.iload X0.here hx rfl (hb hby d22_77) rfl ?_
          refine XS.icmpNo X0.here hx rfl (hb hby d22_79) rfl (tlt hg).2.1 ?_
          refine XS.aloadN X0.here hx rfl (hb hby d22_82) rfl rfl ?_
          show Steps p.tables e below (T.setTop (mkF m 83 #[vR a1, vI p1, vI p2, vI p3, vI 0, vR v, vD pv, .second, vI lo, vI hh, vI i, s11, s12] [(.ref a1)])) _
          refine st152 _ ?_
          show Steps p.tables e below (T152.setTop (mkF m 86 #[vR a1, vI p1, vI p2, vI p3, vI 0, vR v, vD pv, .second, vI lo, vI hh, vI i, s11, s12] [(.ref t)])) _
          refine st153 _ ?_
          show Steps p.tables e below (T153.setTop (mkF m 89 #[vR a1, vI p1, vI p2, vI p3, vI 0, vR v, vD pv, .second, vI lo, vI hh, vI i, s11, s12] [(.ref pts)])) _
          refine XS.aloadN X153.here hx rfl (hb hby d22_89) rfl rfl ?_
          show Steps p.tables e below (T153.setTop (mkF m 90 #[vR a1, vI p1, vI p2, vI p3, vI 0, vR v, vD pv, .second, vI lo, vI hh, vI i, s11, s12] [(.ref a1), (.ref pts)])) _
          refine st154 _ ?_
          show Steps p.tables e below (T154.setTop (mkF m 93 #[vR a1, vI p1, vI p2, vI p3, vI 0, vR v, vD pv, .second, vI lo, vI hh, vI i, s11, s12] [(.ref t), (.ref pts)])) _
          refine st155 _ ?_
          show Steps p.tables e below (T155.setTop (mkF m 96 #[vR a1, vI p1, vI p2, vI p3, vI 0, vR v, vD pv, .second, vI lo, vI hh, vI i, s11, s12] [(.ref r), (.ref pts)])) _
          refine XS.iload X155.here hx rfl (hb hby d22_96) rfl ?_
          show Steps p.tables e below (T155.setTop (mkF m 98 #[vR a1, vI p1, vI p2, vI p3, vI 0, vR v, vD pv, .second, vI lo, vI hh, vI i, s11, s12] [(.int i), (.ref r), (.ref pts)])) _
          refine own_ldI X155 hx hZ e155 V0 (j := i) hix (f := (mkF m 98 #[vR a1, vI p1, vI p2, vI p3, vI 0, vR v, vD pv, .second, vI lo, vI hh, vI i, s11, s12] [(.int i), (.ref r), (.ref pts)])) rfl rfl (hb hby d22_98) _ ?_
          show Steps p.tables e below (T155.setTop (mkF m 99 #[vR a1, vI p1, vI p2, vI p3, vI 0, vR v, vD pv, .second, vI lo, vI hh, vI i, s11, s12] [(.int (f0 (i).toNatClampNeg)), (.ref pts)])) _
          refine XS.iload X155.here hx rfl (hb hby d22_99) rfl ?_
          show Steps p.tables e below (T155.setTop (mkF m 101 #[vR a1, vI p1, vI p2, vI p3, vI 0, vR v, vD pv, .second, vI lo, vI hh, vI i, s11, s12] [(.int (0 : Int32)), (.int (f0 (i).toNatClampNeg)), (.ref pts)])) _
          refine st156.trans ?_
          show Steps p.tables e below (T156.setTop (mkF m 104 #[vR a1, vI p1, vI p2, vI p3, vI 0, vR v, vD pv, .second, vI lo, vI hh, vI i, s11, s12] [(.double (gc (f0 (i).toNatClampNeg).toNatClampNeg))])) _
          refine own_sstore X156.here hx (l' := #[vR a1, vI p1, vI p2, vI p3, vI 0, vR v, vD pv, .second, vI lo, vI hh, vI i, vD (gc (f0 (i).toNatClampNeg).toNatClampNeg), .second]) (hb hby d22_104) (by rcases hs11 with ⟨q, q'⟩ | ⟨_, q, q'⟩ <;> subst q q' <;> rfl) ?_
          show Steps p.tables e below (T156.setTop (mkF m 106 #[vR a1, vI p1, vI p2, vI p3, vI 0, vR v, vD pv, .second, vI lo, vI hh, vI i, vD (gc (f0 (i).toNatClampNeg).toNatClampNeg), .second] [])) _
          refine own_sload X156.here hx (hb hby d22_106) rfl ?_
          show Steps p.tables e below (T156.setTop (mkF m 108 #[vR a1, vI p1, vI p2, vI p3, vI 0, vR v, vD pv, .second, vI lo, vI hh, vI i, vD (gc (f0 (i).toNatClampNeg).toNatClampNeg), .second] [(.double (gc (f0 (i).toNatClampNeg).toNatClampNeg))])) _
          refine own_sload X156.here hx (hb hby d22_108) rfl ?_
          show Steps p.tables e below (T156.setTop (mkF m 110 #[vR a1, vI p1, vI p2, vI p3, vI 0, vR v, vD pv, .second, vI lo, vI hh, vI i, vD (gc (f0 (i).toNatClampNeg).toNatClampNeg), .second] [(.double pv), (.double (gc (f0 (i).toNatClampNeg).toNatClampNeg))])) _
          refine own_scmp X156.here hx (z := cz) (hb hby d22_110) hcz ?_
          show Steps p.tables e below (T156.setTop (mkF m 111 #[vR a1, vI p1, vI p2, vI p3, vI 0, vR v, vD pv, .second, vI lo, vI hh, vI i, vD (gc (f0 (i).toNatClampNeg).toNatClampNeg), .second] [(.int cz)])) _
          refine XS.ifYes X156.here hx rfl (pc0 := 111) (pc' := 131) rfl (hb hby d22_111) rfl ((if0 _ _).trans (flt hz).2.1) (by decide) (by decide) ?_
          show Steps p.tables e below (T156.setTop (mkF m 131 #[vR a1, vI p1, vI p2, vI p3, vI 0, vR v, vD pv, .second, vI lo, vI hh, vI i, vD (gc (f0 (i).toNatClampNeg).toNatClampNeg), .second] [])) _
          refine own_sload X156.here hx (hb hby d22_131) rfl ?_
          show Steps p.tables e below (T156.setTop (mkF m 133 #[vR a1, vI p1, vI p2, vI p3, vI 0, vR v, vD pv, .second, vI lo, vI hh, vI i, vD (gc (f0 (i).toNatClampNeg).toNatClampNeg), .second] [(.double (gc (f0 (i).toNatClampNeg).toNatClampNeg))])) _
          refine own_sload X156.here hx (hb hby d22_133) rfl ?_
          show Steps p.tables e below (T156.setTop (mkF m 135 #[vR a1, vI p1, vI p2, vI p3, vI 0, vR v, vD pv, .second, vI lo, vI hh, vI i, vD (gc (f0 (i).toNatClampNeg).toNatClampNeg), .second] [(.double pv), (.double (gc (f0 (i).toNatClampNeg).toNatClampNeg))])) _
          refine own_scmp X156.here hx (z := cy) (hb hby d22_135) hcy ?_
          show Steps p.tables e below (T156.setTop (mkF m 136 #[vR a1, vI p1, vI p2, vI p3, vI 0, vR v, vD pv, .second, vI lo, vI hh, vI i, vD (gc (f0 (i).toNatClampNeg).toNatClampNeg), .second] [(.int cy)])) _
          refine XS.ifYes X156.here hx rfl (pc0 := 136) (pc' := 153) rfl (hb hby d22_136) rfl ((if0 _ _).trans (flt hy).2.2.2) (by decide) (by decide) ?_
          refine XS.iinc X156.here hx rfl (hb hby d22_153) rfl (l' := #[vR a1, vI p1, vI p2, vI p3, vI 0, vR v, vD pv, .second, vI lo, vI hh, vI (i + (1 : Int32)), vD (gc (f0 (i).toNatClampNeg).toNatClampNeg), .second]) rfl ?_
          refine XS.goto X156.here hx rfl (pc0 := 156) (pc' := 75) rfl (hb hby d22_156) (by decide) (by decide) ?_
          show Steps p.tables e below (T156.setTop (mkF m 75 #[vR a1, vI p1, vI p2, vI p3, vI 0, vR v, vD pv, .second, vI lo, vI hh, vI (i + (1 : Int32)), vD (gc (f0 (i).toNatClampNeg).toNatClampNeg), .second] [])) _
          exact st9 target kt
    · refine ⟨T, locs, lo, hh, i, s11, s12, X0, N0, e0 ▸ Keep.refl _ _, e0 ▸ RW, fun target kt => ?_⟩
      show Steps p.tables e below (T.setTop (mkF m 75 #[vR a1, vI p1, vI p2, vI p3, vI 0, vR v, vD pv, .second, vI lo, vI hh, vI i, s11, s12] [])) _
      refine XS.iload X0.here hx rfl (hb hby d22_75) rfl ?_
      refine XS.iload X0.here hx rfl (hb hby d22_77) rfl ?_
      refine XS.icmpYes X0.here hx rfl (pc0 := 79) (pc' := 159) rfl (hb hby d22_79) rfl (flt hg).2.1 (by decide) (by decide) ?_
      exact kt
theorem d22_0 : decode prog_54_method_3_code 0 = .ok (.iload_n 2, 1) := by decide +kernel
theorem d22_1 : decode prog_54_method_3_code 1 = .ok (.iload_n 1, 1) := by decide +kernel
theorem d22_2 : decode prog_54_method_3_code 2 = .ok (.isub, 1) := by decide +kernel
theorem d22_3 : decode prog_54_method_3_code 3 = .ok (.newarray .double, 2) := by decide +kernel
theorem d22_5 : decode prog_54_method_3_code 5 = .ok (.astore 5, 2) := by decide +kernel
theorem d22_7 : decode prog_54_method_3_code 7 = .ok (.iload_n 1, 1) := by decide +kernel
theorem d22_8 : decode prog_54_method_3_code 8 = .ok (.istore 6, 2) := by decide +kernel
theorem d22_51 : decode prog_54_method_3_code 51 = .ok (.aload 5, 2) := by decide +kernel
theorem d22_53 : decode prog_54_method_3_code 53 = .ok (.aload 5, 2) := by decide +kernel
theorem d22_55 : decode prog_54_method_3_code 55 = .ok (.arraylength, 1) := by decide +kernel
theorem d22_56 : decode prog_54_method_3_code 56 = .ok (.iload_n 3, 1) := by decide +kernel
theorem d22_57 : decode prog_54_method_3_code 57 = .ok (.iload_n 1, 1) := by decide +kernel
theorem d22_58 : decode prog_54_method_3_code 58 = .ok (.isub, 1) := by decide +kernel
theorem d22_59 : decode prog_54_method_3_code 59 = .ok (.iconst 1, 1) := by decide +kernel
theorem d22_60 : decode prog_54_method_3_code 60 = .ok (.iadd, 1) := by decide +kernel
theorem d22_61 : decode prog_54_method_3_code 61 = .ok (.invokestatic 82, 3) := by decide +kernel
theorem pd___DII_D : parseMethodDescriptor "([DII)D" = some ⟨[(.array .double), .int, .int], some .double⟩ := by decide +kernel
theorem d22_64 : decode prog_54_method_3_code 64 = .ok (.dstore 6, 2) := by decide +kernel
theorem d22_66 : decode prog_54_method_3_code 66 = .ok (.iload_n 1, 1) := by decide +kernel
theorem d22_67 : decode prog_54_method_3_code 67 = .ok (.istore 8, 2) := by decide +kernel
theorem d22_69 : decode prog_54_method_3_code 69 = .ok (.iload_n 2, 1) := by decide +kernel
theorem d22_70 : decode prog_54_method_3_code 70 = .ok (.istore 9, 2) := by decide +kernel
theorem d22_72 : decode prog_54_method_3_code 72 = .ok (.iload_n 1, 1) := by decide +kernel
theorem d22_73 : decode prog_54_method_3_code 73 = .ok (.istore 10, 2) := by decide +kernel
theorem d22_159 : decode prog_54_method_3_code 159 = .ok (.return_, 1) := by decide +kernel
theorem ef_rm22 (m : MethodId) (a1 : Addr) (p1 : Int32) (p2 : Int32) (p3 : Int32) : entryFrame m #[(.ref a1), (.int p1), (.int p2), (.int p3), (.int (0 : Int32))] 13 = mkF m 0 #[.val (.ref a1), .val (.int p1), .val (.int p2), .val (.int p3), .val (.int (0 : Int32)), .unset, .unset, .unset, .unset, .unset, .unset, .unset, .unset] [] := by first | (simp [entryFrame, mkF, argsToLocals, Value.category]; done) | rfl
def Qrm22 (Z : State) (a1 : Addr) (p1 : Int32) (p2 : Int32) (p3 : Int32) (t : Addr) (pts : Addr) (co : Addr) (r : Addr) (gc : Nat → UInt64) (h0 : Heap) (n0 : Nat) (v : Option Value) (h : Heap) (L : List Loc) : Prop := v = none ∧ Fr n0 L ∧ Keep h0 h [r] ∧ own_Rw Z h r
set_option maxRecDepth 65536 in
set_option maxHeartbeats 40000000 in
theorem rm22 (l : Launch) (Z : State) (a0 : Array Value) (hw : ∀ d ∈ tables_1, d.before a0 Z = true) (ws : List Jvm.Cond) (a1 : Addr) (p1 : Int32) (p2 : Int32) (p3 : Int32) (t : Addr) (pts : Addr) (co : Addr) (r : Addr) (gc : Nat → UInt64) (h0 : Heap) (n0 : Nat) (Z0 : n0 ≤ h0.size) (Eb : Exa Z h0 a1 "com/example/flatfinder/flatfinder/neighbours/KdTree$Builder") (Ft : Fld Z h0 a1 "com/example/flatfinder/flatfinder/neighbours/KdTree$Builder" "this$0" "Lcom/example/flatfinder/flatfinder/neighbours/KdTree;" (.ref t)) (Fp : Fld Z h0 t "com/example/flatfinder/flatfinder/neighbours/KdTree" "points" "Lcom/example/flatfinder/flatfinder/neighbours/Points;" (.ref pts)) (Frw : Fld Z h0 t "com/example/flatfinder/flatfinder/neighbours/KdTree" "rows" "[I" (.ref r)) (Ep : Exa Z h0 pts "com/example/flatfinder/flatfinder/neighbours/Points") (Fs : Fld Z h0 pts "com/example/flatfinder/flatfinder/neighbours/Points" "size" "I" (.int (66 : Int32))) (Fd : Fld Z h0 pts "com/example/flatfinder/flatfinder/neighbours/Points" "dimensions" "I" (.int (1 : Int32))) (Fc : Fld Z h0 pts "com/example/flatfinder/flatfinder/neighbours/Points" "coordinates" "[D" (.ref co)) (Vc : own_V Z h0 co .double 66 (fun ii => .double (gc ii))) (Fg : ∀ i, Jvm.Free.Fl.Fin64 (gc i)) (RW : own_Rw Z h0 r) (hp : 0 ≤ p1.toInt ∧ p1.toInt ≤ p3.toInt ∧ p3.toInt < p2.toInt ∧ p2.toInt ≤ 66) (gr : n0 ≤ r) (m_a1 : a1 ≠ r) (m_t : t ≠ r) (m_pts : pts ≠ r) (m_co : co ≠ r) :
    MetFree l (⟨"com/example/flatfinder/flatfinder/neighbours/KdTree$Builder", "partition", "(IIII)V"⟩ : MethodName) (head1 (Jvm.Cond.code (⟨"com/example/flatfinder/flatfinder/neighbours/KdTree$Builder", "partition", "(IIII)V"⟩ : MethodName) prog_54_method_3_code 13 none :: ws) ({ frames := 3, cells := 1, slots := 66, locals := 57 } : Room)) (fun a U => a = #[(.ref a1), (.int p1), (.int p2), (.int p3), (.int (0 : Int32))] ∧ Z.Warmed39 U.vm ∧ U.heap = h0) (fun _ _ _ _ _ => True) (fun _ U o U' => ∃ v L, o = .returned v ∧ Qrm22 Z a1 p1 p2 p3 t pts co r gc h0 n0 v U'.heap L ∧ FrameEnd U o U' L ({ frames := 3, cells := 1, slots := 66, locals := 57 } : Room).cells ({ frames := 3, cells := 1, slots := 66, locals := 57 } : Room).slots) := by
  refine MetFree.of_bodySF (plainFor_of_name pn_com_example_flatfinder_flatfinder_neighbours_KdTree_Builder) hisR ?_
  intro p e s m args below meth c s₁ Bd hml0 hP hK
  obtain ⟨rfl, hZ, hh⟩ := hP
  have hx := Bd.exec
  have hby := Bd.bytes
  have hml : c.maxLocals = 13 := hml0
  have hown : s.vm.findClass "com/example/flatfinder/flatfinder/neighbours/KdTree$Builder" = some m.cls := findClass_of_methodNamed Bd.named
  have hnm := (name_of_methodNamed Bd.named Bd.method).1
  have X0 : Stand p l e ({ frames := 3, cells := 1, slots := 66, locals := 57 } : Room) s m #[(.ref a1), (.int p1), (.int p2), (.int p3), (.int (0 : Int32))] below meth c s₁ [] 0 0 := Stand.of_body Bd
  have e0 : s₁.heap = h0 := by rw [← hh, Bd.state]; rfl
  have N0 := Fr.nil n0
  have pre0 : ∀ tg, Steps p.tables e below (s₁.setTop (mkF m 0 #[.val (.ref a1), .val (.int p1), .val (.int p2), .val (.int p3), .val (.int (0 : Int32)), .unset, .unset, .unset, .unset, .unset, .unset, .unset, .unset] [])) tg → Steps p.tables e below (s₁.setTop (entryFrame m #[(.ref a1), (.int p1), (.int p2), (.int p3), (.int (0 : Int32))] 13)) tg := fun tg kg => castTop (ef_rm22 m a1 p1 p2 p3) kg
  have K0 := Keep.refl h0 [r]
  obtain ⟨f0, V0, q0⟩ := id RW
  obtain ⟨pd1, pd2, pd3, pd4, pd5⟩ := own_pd (p1 := p1) (p2 := p2) (by omega)
  obtain ⟨T184, h184, X184, e184, E184, A184, C184, st184⟩ := own_newP X0 hx hZ (wd hw 0 rfl) e0 (f := (mkF m 3 #[vR a1, vI p1, vI p2, vI p3, vI 0, .unset, .unset, .unset, .unset, .unset, .unset, .unset, .unset] [(.int (p2 - p1))])) rfl (hb hby d22_3) rfl pd2 (cap := 66) pd3 (by decide) (by decide) (by decide)
  obtain ⟨b184, g184⟩ : ∃ z, z = h0.size := ⟨_, rfl⟩
  rw [← g184] at A184 C184 st184
  have g185 : n0 ≤ b184 := Nat.le_trans Z0 (Nat.le_of_eq g184.symm)
  have sz186 : h0.size ≤ b184 := Nat.le_trans K0.1 (Nat.le_of_eq g184.symm)
  have ne187 : a1 ≠ b184 := Nat.ne_of_lt (Nat.lt_of_lt_of_le Eb.lt (Nat.le_of_eq g184.symm))
  have ne188 : t ≠ b184 := Nat.ne_of_lt (Nat.lt_of_lt_of_le Fp.lt (Nat.le_of_eq g184.symm))
  have ne189 : pts ≠ b184 := Nat.ne_of_lt (Nat.lt_of_lt_of_le Ep.lt (Nat.le_of_eq g184.symm))
  have ne190 : co ≠ b184 := Nat.ne_of_lt (Nat.lt_of_lt_of_le Vc.lt (Nat.le_of_eq g184.symm))
  have ne191 : r ≠ b184 := Nat.ne_of_lt (Nat.lt_of_lt_of_le V0.lt (Nat.le_of_eq g184.symm))
  have f192 := Eb.ext E184
  have f193 := Ft.ext E184
  have f194 := Fp.ext E184
  have f195 := Frw.ext E184
  have f196 := Ep.ext E184
  have f197 := Fs.ext E184
  have f198 := Fd.ext E184
  have f199 := Fc.ext E184
  have f200 := Vc.ext E184
  have f201 := V0.ext E184
  have Zn202 := Nat.le_trans Z0 E184.1
  have K203 := K0.ext E184
  have f204 : own_V Z h184 b184 .double (p2 - p1).toNatClampNeg (fun ii => (.double ((fun _ => (0 : UInt64)) ii))) := A184
  have f205 : Exa Z h184 b184 "[D" := C184
  obtain ⟨T206, lo206, i_206,  X206, N206, K206, A206, st206⟩ := loopP hw hx hZ hby hml hown a1 t pts co r b184 gc Fg f0 q0 p1 p2 p3 (by omega) g185 ne187 ne188 ne189 ne190 ne191 67 p1 (fun _ => (0 : UInt64)) T184 h184 _ X184 e184 N0 Zn202 (by omega) f192 f193 f194 f195 f196 f197 f198 f199 f200 f201 f204 own_fin0 (by omega)
  have f207 := f192.keep K206
  have f208 := f193.keep K206 (ninS ne187 nin0)
  have f209 := f194.keep K206 (ninS ne188 nin0)
  have f210 := f195.keep K206 (ninS ne188 nin0)
  have f211 := f196.keep K206
  have f212 := f197.keep K206 (ninS ne189 nin0)
  have f213 := f198.keep K206 (ninS ne189 nin0)
  have f214 := f199.keep K206 (ninS ne189 nin0)
  have f215 := f200.keep K206 (ninS ne190 nin0)
  have f216 := f201.keep K206 (ninS ne191 nin0)
  have f217 := f205.keep K206
  have Zn218 := Nat.le_trans Zn202 K206.1
  have K219 := K203.trans K206 (allS (Or.inr sz186) all0)
  obtain ⟨g5, V5, F5⟩ := A206
  obtain ⟨_, _, ⟨T220, L220, k220, n220⟩, -, X220, ⟨Lc220, hQ220, l220, y220, z220⟩, st220⟩ := Jvm.LawKit.callS X206 hx (y := (⟨"com/example/flatfinder/flatfinder/neighbours/Selection", "kthSmallest", "([DII)D"⟩ : MethodName)) hown (mvT hZ (wd hw 169 rfl)) (mvT hZ (wd hw 170 rfl)) (mvT hZ (wd hw 171 rfl)) (mvT hZ (wd hw 172 rfl)) (by decide) (backOf (W := 0) (rm23 l Z a0 hw [] b184 (p2 - p1) ((p3 - p1) + (1 : Int32)) g5 T206.heap n0 Zn218 V5 F5 (own_kk hp) g185) hZ (wd hw 172 rfl) (wd hw 171 rfl) (by decide) (by decide)) (g := (mkF m 61 #[vR a1, vI p1, vI p2, vI p3, vI 0, vR b184, vI i_206, .unset, .unset, .unset, .unset, .unset, .unset] [(.int ((p3 - p1) + (1 : Int32))), (.int (p2 - p1)), (.ref b184)])) rfl (by rw [hml]; rfl) (argsL := [(.ref b184), (.int (p2 - p1)), (.int ((p3 - p1) + (1 : Int32)))]) (rest := []) (lenOf pd___DII_D rfl) rfl (by show 2 * 0 + _ ≤ _; exact Nat.le_of_eq rfl) (hb hby d22_61) (fun _ _ => ⟨rfl, rfl, (by decide : 1 + 0 ≤ _), (by decide : 66 + 0 ≤ _)⟩)
  dsimp only [Pt.U, Pt.locs, Pt.cells, Pt.slots] at X220 l220 y220 z220 st220 hQ220
  subst l220 y220 z220
  obtain ⟨pv, rfl, N220q, K220⟩ := hQ220
  have N221 := Fr.app N206 N220q
  have f222 := f207.keep K220
  have f223 := f208.keep K220 (ninS ne187 nin0)
  have f224 := f209.keep K220 (ninS ne188 nin0)
  have f225 := f210.keep K220 (ninS ne188 nin0)
  have f226 := f211.keep K220
  have f227 := f212.keep K220 (ninS ne189 nin0)
  have f228 := f213.keep K220 (ninS ne189 nin0)
  have f229 := f214.keep K220 (ninS ne189 nin0)
  have f230 := f215.keep K220 (ninS ne190 nin0)
  have f231 := f216.keep K220 (ninS ne191 nin0)
  have f232 := f217.keep K220
  have Zn233 := Nat.le_trans Zn218 K220.1
  have K234 := K219.trans K220 (allS (Or.inr sz186) all0)
  obtain ⟨T235, lo235, lo_235, hi_235, i_235, u_235, v_235,  X235, N235, K235, A235, st235⟩ := loopQ hw hx hZ hby hml hown a1 t pts co r b184 gc pv p1 p2 p3 gr m_a1 m_t m_pts m_co 67 p1 p2 p1 .unset .unset T220 T220.heap _ X220 rfl N221 Zn233 own_Two.u (by omega) f222 f223 f224 f225 f226 f227 f228 f229 f230 ⟨f0, f231, q0⟩ (by omega)
  have f236 := f222.keep K235
  have f237 := f223.keep K235 (ninS m_a1 nin0)
  have f238 := f224.keep K235 (ninS m_t nin0)
  have f239 := f225.keep K235 (ninS m_t nin0)
  have f240 := f226.keep K235
  have f241 := f227.keep K235 (ninS m_pts nin0)
  have f242 := f228.keep K235 (ninS m_pts nin0)
  have f243 := f229.keep K235 (ninS m_pts nin0)
  have f244 := f230.keep K235 (ninS m_co nin0)
  have f245 := f232.keep K235
  have Zn246 := Nat.le_trans Zn233 K235.1
  have K247 := K234.trans K235 (allS (Or.inl (List.mem_of_getElem? (i := 0) rfl)) all0)
  obtain ⟨fs, hr, hrun, hended, hW, hsame⟩ := X235.leave (v := none) (fun _ => rfl)
  refine ⟨_, _, pre0 _ ?_, hrun, hended, _, _, rfl, ?_, ⟨_, rfl⟩, hW, hsame.mono (by decide) (by decide)⟩
  · show Steps p.tables e below (s₁.setTop (mkF m 0 #[vR a1, vI p1, vI p2, vI p3, vI 0, .unset, .unset, .unset, .unset, .unset, .unset, .unset, .unset] [])) _
    refine XS.iloadN X0.here hx rfl (hb hby d22_0) rfl ?_
    refine XS.iloadN X0.here hx rfl (hb hby d22_1) rfl ?_
    refine XS.isub X0.here hx rfl (hb hby d22_2) rfl ?_
    show Steps p.tables e below (s₁.setTop (mkF m 3 #[vR a1, vI p1, vI p2, vI p3, vI 0, .unset, .unset, .unset, .unset, .unset, .unset, .unset, .unset] [(.int (p2 - p1))])) _
    refine st184 _ ?_
    show Steps p.tables e below (T184.setTop (mkF m 5 #[vR a1, vI p1, vI p2, vI p3, vI 0, .unset, .unset, .unset, .unset, .unset, .unset, .unset, .unset] [(.ref b184)])) _
    refine XS.astore X184.here hx rfl (hb hby d22_5) rfl rfl (l' := #[vR a1, vI p1, vI p2, vI p3, vI 0, vR b184, .unset, .unset, .unset, .unset, .unset, .unset, .unset]) rfl ?_
    refine XS.iloadN X184.here hx rfl (hb hby d22_7) rfl ?_
    refine XS.istore X184.here hx rfl (hb hby d22_8) rfl (l' := #[vR a1, vI p1, vI p2, vI p3, vI 0, vR b184, vI p1, .unset, .unset, .unset, .unset, .unset, .unset]) rfl ?_
    show Steps p.tables e below (T184.setTop (mkF m 10 #[vR a1, vI p1, vI p2, vI p3, vI 0, vR b184, vI p1, .unset, .unset, .unset, .unset, .unset, .unset] [])) _
    refine st206 _ ?_
    show Steps p.tables e below (T206.setTop (mkF m 51 #[vR a1, vI p1, vI p2, vI p3, vI 0, vR b184, vI i_206, .unset, .unset, .unset, .unset, .unset, .unset] [])) _
    refine XS.aload X206.here hx rfl (hb hby d22_51) rfl rfl ?_
    refine XS.aload X206.here hx rfl (hb hby d22_53) rfl rfl ?_
    show Steps p.tables e below (T206.setTop (mkF m 55 #[vR a1, vI p1, vI p2, vI p3, vI 0, vR b184, vI i_206, .unset, .unset, .unset, .unset, .unset, .unset] [(.ref b184), (.ref b184)])) _
    refine own_len X206 hx hZ rfl V5 (z := (p2 - p1)) pd5 (f := (mkF m 55 #[vR a1, vI p1, vI p2, vI p3, vI 0, vR b184, vI i_206, .unset, .unset, .unset, .unset, .unset, .unset] [(.ref b184), (.ref b184)])) rfl rfl (hb hby d22_55) _ ?_
    show Steps p.tables e below (T206.setTop (mkF m 56 #[vR a1, vI p1, vI p2, vI p3, vI 0, vR b184, vI i_206, .unset, .unset, .unset, .unset, .unset, .unset] [(.int (p2 - p1)), (.ref b184)])) _
    refine XS.iloadN X206.here hx rfl (hb hby d22_56) rfl ?_
    refine XS.iloadN X206.here hx rfl (hb hby d22_57) rfl ?_
    refine XS.isub X206.here hx rfl (hb hby d22_58) rfl ?_
    refine XS.iconst X206.here hx rfl (hb hby d22_59) ?_
    refine XS.iadd X206.here hx rfl (hb hby d22_60) rfl ?_
    show Steps p.tables e below (T206.setTop (mkF m 61 #[vR a1, vI p1, vI p2, vI p3, vI 0, vR b184, vI i_206, .unset, .unset, .unset, .unset, .unset, .unset] [(.int ((p3 - p1) + (1 : Int32))), (.int (p2 - p1)), (.ref b184)])) _
    refine st220 _ ?_
    show Steps p.tables e below (T220.setTop (mkF m 64 #[vR a1, vI p1, vI p2, vI p3, vI 0, vR b184, vI i_206, .unset, .unset, .unset, .unset, .unset, .unset] [(.double pv)])) _
    refine own_sstore X220.here hx (l' := #[vR a1, vI p1, vI p2, vI p3, vI 0, vR b184, vD pv, .second, .unset, .unset, .unset, .unset, .unset]) (hb hby d22_64) rfl ?_
    show Steps p.tables e below (T220.setTop (mkF m 66 #[vR a1, vI p1, vI p2, vI p3, vI 0, vR b184, vD pv, .second, .unset, .unset, .unset, .unset, .unset] [])) _
    refine XS.iloadN X220.here hx rfl (hb hby d22_66) rfl ?_
    refine XS.istore X220.here hx rfl (hb hby d22_67) rfl (l' := #[vR a1, vI p1, vI p2, vI p3, vI 0, vR b184, vD pv, .second, vI p1, .unset, .unset, .unset, .unset]) rfl ?_
    refine XS.iloadN X220.here hx rfl (hb hby d22_69) rfl ?_
    refine XS.istore X220.here hx rfl (hb hby d22_70) rfl (l' := #[vR a1, vI p1, vI p2, vI p3, vI 0, vR b184, vD pv, .second, vI p1, vI p2, .unset, .unset, .unset]) rfl ?_
    refine XS.iloadN X220.here hx rfl (hb hby d22_72) rfl ?_
    refine XS.istore X220.here hx rfl (hb hby d22_73) rfl (l' := #[vR a1, vI p1, vI p2, vI p3, vI 0, vR b184, vD pv, .second, vI p1, vI p2, vI p1, .unset, .unset]) rfl ?_
    show Steps p.tables e below (T220.setTop (mkF m 75 #[vR a1, vI p1, vI p2, vI p3, vI 0, vR b184, vD pv, .second, vI p1, vI p2, vI p1, .unset, .unset] [])) _
    refine st235 _ ?_
    show Steps p.tables e below (T235.setTop (mkF m 159 #[vR a1, vI p1, vI p2, vI p3, vI 0, vR b184, vD pv, .second, vI lo_235, vI hi_235, vI i_235, u_235, v_235] [])) _
    exact X235.returnOut hx Bd.returns (hb hby d22_159) hr
  · show Qrm22 Z a1 p1 p2 p3 t pts co r gc h0 n0 _ T235.heap _
    exact ⟨rfl, N235, K247, A235⟩
theorem d8_99 : decode prog_54_method_2_code 99 = .ok (.iload 14, 2) := by decide +kernel
theorem d8_101 : decode prog_54_method_2_code 101 = .ok (.iload_n 2, 1) := by decide +kernel
theorem d8_102 : decode prog_54_method_2_code 102 = .ok (.if_icmp .ge 51, 3) := by decide +kernel
theorem d8_105 : decode prog_54_method_2_code 105 = .ok (.aload_n 0, 1) := by decide +kernel
theorem d8_106 : decode prog_54_method_2_code 106 = .ok (.getfield 3, 3) := by decide +kernel
theorem d8_109 : decode prog_54_method_2_code 109 = .ok (.getfield 15, 3) := by decide +kernel
theorem d8_112 : decode prog_54_method_2_code 112 = .ok (.aload_n 0, 1) := by decide +kernel
theorem d8_113 : decode prog_54_method_2_code 113 = .ok (.getfield 3, 3) := by decide +kernel
theorem d8_116 : decode prog_54_method_2_code 116 = .ok (.getfield 54, 3) := by decide +kernel
theorem d8_119 : decode prog_54_method_2_code 119 = .ok (.iload 14, 2) := by decide +kernel
theorem d8_121 : decode prog_54_method_2_code 121 = .ok (.iaload, 1) := by decide +kernel
theorem d8_122 : decode prog_54_method_2_code 122 = .ok (.iload 9, 2) := by decide +kernel
theorem d8_124 : decode prog_54_method_2_code 124 = .ok (.invokevirtual 57, 3) := by decide +kernel
theorem d8_127 : decode prog_54_method_2_code 127 = .ok (.dstore 15, 2) := by decide +kernel
theorem d8_129 : decode prog_54_method_2_code 129 = .ok (.dload 10, 2) := by decide +kernel
theorem d8_131 : decode prog_54_method_2_code 131 = .ok (.dload 15, 2) := by decide +kernel
theorem d8_133 : decode prog_54_method_2_code 133 = .ok (.invokestatic 61, 3) := by decide +kernel
theorem d8_136 : decode prog_54_method_2_code 136 = .ok (.dstore 10, 2) := by decide +kernel
theorem d8_138 : decode prog_54_method_2_code 138 = .ok (.dload 12, 2) := by decide +kernel
theorem d8_140 : decode prog_54_method_2_code 140 = .ok (.dload 15, 2) := by decide +kernel
theorem d8_142 : decode prog_54_method_2_code 142 = .ok (.invokestatic 65, 3) := by decide +kernel
theorem d8_145 : decode prog_54_method_2_code 145 = .ok (.dstore 12, 2) := by decide +kernel
theorem d8_147 : decode prog_54_method_2_code 147 = .ok (.iinc 14 1, 3) := by decide +kernel
theorem d8_150 : decode prog_54_method_2_code 150 = .ok (.goto (-51), 3) := by decide +kernel
set_option maxRecDepth 65536 in
set_option maxHeartbeats 40000000 in
theorem loopL0 {p : Program} {l : Launch} {e : Env} {s : State} {m : MethodId} {args : Array Value} {below : List Frame} {meth : Method} {c : Code} {Z : State} {a0 : Array Value} {n0 : Nat} (hw : ∀ d ∈ tables_1, d.before a0 Z = true) (hx : p.tables.exec = Jvm.exec) (hZ : Z.Warmed39 s.vm) (hby : c.code = prog_54_method_2_code) (hml : c.maxLocals = 17) (hown : s.vm.findClass "com/example/flatfinder/flatfinder/neighbours/KdTree$Builder" = some m.cls) (a1 : Addr) (t : Addr) (pts : Addr) (co : Addr) (r : Addr) (gc : Nat → UInt64) (Fg : ∀ i, Jvm.Free.Fl.Fin64 (gc i)) (f0 : Nat → Int32) (q0 : ∀ i, own_ix 66 (f0 i)) (p1 : Int32) (p2 : Int32) (p3 : Int32) (nx : Int32) (hp : 0 ≤ p1.toInt ∧ p1.toInt < p2.toInt ∧ p2.toInt ≤ 66) :
    ∀ (k : Nat) (lo : UInt64) (hi : UInt64) (i : Int32) (s15 : Slot) (s16 : Slot) (T : State) (h : Heap) (locs : List Loc) (X0 : Stand p l e ({ frames := 3, cells := 0, slots := 0, locals := 41 } : Room) s m args below meth c T locs 0 0) (e0 : T.heap = h) (N0 : Fr n0 locs) (Z0 : n0 ≤ h.size) (hs15 : own_Two s15 s16) (hi_ : p1.toInt ≤ i.toInt ∧ i.toInt ≤ p2.toInt) (hlo : (lo = (9218868437227405312 : UInt64) ∧ i.toInt = p1.toInt) ∨ Jvm.Free.Fl.Fin64 lo) (hhi : (hi = (18442240474082181120 : UInt64) ∧ i.toInt = p1.toInt) ∨ Jvm.Free.Fl.Fin64 hi) (Eb : Exa Z h a1 "com/example/flatfinder/flatfinder/neighbours/KdTree$Builder") (Ft : Fld Z h a1 "com/example/flatfinder/flatfinder/neighbours/KdTree$Builder" "this$0" "Lcom/example/flatfinder/flatfinder/neighbours/KdTree;" (.ref t)) (Fp : Fld Z h t "com/example/flatfinder/flatfinder/neighbours/KdTree" "points" "Lcom/example/flatfinder/flatfinder/neighbours/Points;" (.ref pts)) (Frw : Fld Z h t "com/example/flatfinder/flatfinder/neighbours/KdTree" "rows" "[I" (.ref r)) (Ep : Exa Z h pts "com/example/flatfinder/flatfinder/neighbours/Points") (Fs : Fld Z h pts "com/example/flatfinder/flatfinder/neighbours/Points" "size" "I" (.int (66 : Int32))) (Fd : Fld Z h pts "com/example/flatfinder/flatfinder/neighbours/Points" "dimensions" "I" (.int (1 : Int32))) (Fc : Fld Z h pts "com/example/flatfinder/flatfinder/neighbours/Points" "coordinates" "[D" (.ref co)) (Vc : own_V Z h co .double 66 (fun ii => .double (gc ii))) (V0 : own_V Z h r .int 66 (fun ii => .int (f0 ii))) (hk : (p2.toInt - i.toInt).toNat < k),
      ∃ (T' : State) (locs' : List Loc) (lo' : UInt64) (hi' : UInt64) (i' : Int32) (u' : Slot) (v' : Slot), Stand p l e ({ frames := 3, cells := 0, slots := 0, locals := 41 } : Room) s m args below meth c T' locs' 0 0 ∧ Fr n0 locs' ∧ T'.heap = h ∧ Jvm.Free.Fl.Fin64 lo' ∧ Jvm.Free.Fl.Fin64 hi' ∧ ∀ target, Steps p.tables e below (T'.setTop (mkF m 153 #[vR a1, vI p1, vI p2, vI p3, vI 1, vI nx, vI 0, vD 0, .second, vI 0, vD lo', .second, vD hi', .second, vI i', u', v'] [])) target → Steps p.tables e below (T.setTop (mkF m 99 #[vR a1, vI p1, vI p2, vI p3, vI 1, vI nx, vI 0, vD 0, .second, vI 0, vD lo, .second, vD hi, .second, vI i, s15, s16] [])) target := by
  intro k
  induction k with
  | zero => intro lo hi i s15 s16 T h locs X0 e0 N0 Z0 hs15 hi_ hlo hhi Eb Ft Fp Frw Ep Fs Fd Fc Vc V0 hk; exact absurd hk (Nat.not_lt_zero _)
  | succ k ih =>
    intro lo hi i s15 s16 T h locs X0 e0 N0 Z0 hs15 hi_ hlo hhi Eb Ft Fp Frw Ep Fs Fd Fc Vc V0 hk
    by_cases hg : i < p2
    · have hg' := own_lt.mp hg
      have hix : own_ix 66 i := ⟨by omega, by omega⟩
      have hi1 := own_add1 (i := i) (by omega) (by omega)
      obtain ⟨T248, X248, e248, st248⟩ := getF X0 hx hZ hown (host := "") (Or.inl (wd hw 73 rfl)) Via.refl e0 Ft (g := (mkF m 106 #[vR a1, vI p1, vI p2, vI p3, vI 1, vI nx, vI 0, vD 0, .second, vI 0, vD lo, .second, vD hi, .second, vI i, s15, s16] [(.ref a1)])) rfl rfl (hb hby d8_106)
      obtain ⟨T249, X249, e249, st249⟩ := getF X248 hx hZ hown (Or.inr (wd hw 81 rfl)) Via.refl e248 Fp (g := (mkF m 109 #[vR a1, vI p1, vI p2, vI p3, vI 1, vI nx, vI 0, vD 0, .second, vI 0, vD lo, .second, vD hi, .second, vI i, s15, s16] [(.ref t)])) rfl rfl (hb hby d8_109)
      obtain ⟨T250, X250, e250, st250⟩ := getF X249 hx hZ hown (host := "") (Or.inl (wd hw 73 rfl)) Via.refl e249 Ft (g := (mkF m 113 #[vR a1, vI p1, vI p2, vI p3, vI 1, vI nx, vI 0, vD 0, .second, vI 0, vD lo, .second, vD hi, .second, vI i, s15, s16] [(.ref a1), (.ref pts)])) rfl rfl (hb hby d8_113)
      obtain ⟨T251, X251, e251, st251⟩ := getF X250 hx hZ hown (Or.inr (wd hw 95 rfl)) Via.refl e250 Frw (g := (mkF m 116 #[vR a1, vI p1, vI p2, vI p3, vI 1, vI nx, vI 0, vD 0, .second, vI 0, vD lo, .second, vD hi, .second, vI i, s15, s16] [(.ref t), (.ref pts)])) rfl rfl (hb hby d8_116)
      obtain ⟨cq252, kq252, q252a, q252b, q252c⟩ := isOf hZ e251 Ep
      obtain ⟨_, _, ⟨T252, L252, k252, n252⟩, -, X252, ⟨Lc252, hQ252, l252, y252, z252⟩, st252⟩ := X251.virtualBack hx (y := (⟨"com/example/flatfinder/flatfinder/neighbours/Points", "coordinate", "(II)D"⟩ : MethodName)) (z := (⟨"com/example/flatfinder/flatfinder/neighbours/Points", "coordinate", "(II)D"⟩ : MethodName)) hown (mvT hZ (wd hw 96 rfl)) (mvT hZ (wd hw 97 rfl)) (notFace_of_selects (args := #[]) (mvT hZ (wd hw 99 rfl))) (mvT hZ (wd hw 99 rfl)) (mvT hZ (wd hw 98 rfl)) (by decide) (backOf (W := 0) (rm10 l Z a0 hw [] pts (f0 (i).toNatClampNeg) co gc h n0 Z0 Fs Fd Fc Vc (q0 _)) hZ (wd hw 100 rfl) (wd hw 4 rfl) (by decide) (by decide)) q252a q252c (g := (mkF m 124 #[vR a1, vI p1, vI p2, vI p3, vI 1, vI nx, vI 0, vD 0, .second, vI 0, vD lo, .second, vD hi, .second, vI i, s15, s16] [(.int (0 : Int32)), (.int (f0 (i).toNatClampNeg)), (.ref pts)])) rfl (by rw [hml]; rfl) (Steps.refl _) (argsL := [(.int (f0 (i).toNatClampNeg)), (.int (0 : Int32))]) (rest := []) (lenOf pd__II_D rfl) rfl (by show 2 * 0 + _ ≤ _; exact Nat.le_of_eq rfl) (hb hby d8_124) (fun _ _ => ⟨rfl, e251, (by decide : 0 + 0 ≤ _), (by decide : 0 + 0 ≤ _)⟩)
      dsimp only [Pt.U, Pt.locs, Pt.cells, Pt.slots] at X252 l252 y252 z252 st252 hQ252
      subst l252 y252 z252
      obtain ⟨rfl, N252q, e252⟩ := hQ252
      have N253 := Fr.app N0 N252q
      obtain ⟨_, vm254, ⟨Tq254, L254, k254, n254⟩, -, X254, ⟨hr254, hB254⟩, st254⟩ := Jvm.LawKit.callS X252 hx (y := (⟨"java/lang/Math", "min", "(DD)D"⟩ : MethodName)) hown (mvT hZ (wd hw 109 rfl)) (mvT hZ (wd hw 110 rfl)) (mvT hZ (wd hw 17 rfl)) (mvT hZ (wd hw 111 rfl)) (by decide) (Jvm.Free.Fl.Abs.minD_pays (W := 0) lo (gc (f0 (i).toNatClampNeg).toNatClampNeg) (mvT hZ (wd hw 111 rfl)) (by decide) (by decide)) (g := (mkF m 133 #[vR a1, vI p1, vI p2, vI p3, vI 1, vI nx, vI 0, vD 0, .second, vI 0, vD lo, .second, vD hi, .second, vI i, vD (gc (f0 (i).toNatClampNeg).toNatClampNeg), .second] [(.double (gc (f0 (i).toNatClampNeg).toNatClampNeg)), (.double lo)])) rfl (by rw [hml]; rfl) (argsL := [(.double lo), (.double (gc (f0 (i).toNatClampNeg).toNatClampNeg))]) (rest := []) (lenOf pd__DD_D rfl) rfl (by show 2 * 0 + _ ≤ _; exact Nat.le_of_eq rfl) (hb hby d8_133) (fun _ _ => ⟨by show 0 ≤ _; decide, by show 0 ≤ _; decide, rfl, own_lon hlo, (Fg _).noNaN⟩)
      simp only [Prod.mk.injEq] at hB254
      obtain ⟨rfl, rfl, rfl, rfl⟩ := hB254
      subst hr254
      dsimp only [Pt.U, Pt.locs, Pt.cells, Pt.slots] at X254 st254
      have e254 : (T252.setVm vm254).heap = h := e252
      generalize T252.setVm vm254 = T254 at X254 st254 e254
      obtain ⟨_, vm255, ⟨Tq255, L255, k255, n255⟩, -, X255, ⟨hr255, hB255⟩, st255⟩ := Jvm.LawKit.callS X254 hx (y := (⟨"java/lang/Math", "max", "(DD)D"⟩ : MethodName)) hown (mvT hZ (wd hw 112 rfl)) (mvT hZ (wd hw 113 rfl)) (mvT hZ (wd hw 17 rfl)) (mvT hZ (wd hw 114 rfl)) (by decide) (Jvm.Free.Fl.Abs.maxD_pays (W := 0) hi (gc (f0 (i).toNatClampNeg).toNatClampNeg) (mvT hZ (wd hw 114 rfl)) (by decide) (by decide)) (g := (mkF m 142 #[vR a1, vI p1, vI p2, vI p3, vI 1, vI nx, vI 0, vD 0, .second, vI 0, vD (own_pk false lo (gc (f0 (i).toNatClampNeg).toNatClampNeg)), .second, vD hi, .second, vI i, vD (gc (f0 (i).toNatClampNeg).toNatClampNeg), .second] [(.double (gc (f0 (i).toNatClampNeg).toNatClampNeg)), (.double hi)])) rfl (by rw [hml]; rfl) (argsL := [(.double hi), (.double (gc (f0 (i).toNatClampNeg).toNatClampNeg))]) (rest := []) (lenOf pd__DD_D rfl) rfl (by show 2 * 0 + _ ≤ _; exact Nat.le_of_eq rfl) (hb hby d8_142) (fun _ _ => ⟨by show 0 ≤ _; decide, by show 0 ≤ _; decide, rfl, own_hin hhi, (Fg _).noNaN⟩)
      simp only [Prod.mk.injEq] at hB255
      obtain ⟨rfl, rfl, rfl, rfl⟩ := hB255
      subst hr255
      dsimp only [Pt.U, Pt.locs, Pt.cells, Pt.slots] at X255 st255
      have e255 : (T254.setVm vm255).heap = h := e254
      generalize T254.setVm vm255 = T255 at X255 st255 e255
      obtain ⟨T9, locs9, l9, h9, i9, u9, v9, X9, N9, e9, f9, q9, st9⟩ := ih (own_pk false lo (gc (f0 (i).toNatClampNeg).toNatClampNeg)) (own_pk true hi (gc (f0 (i).toNatClampNeg).toNatClampNeg)) (i + (1 : Int32)) (vD (gc (f0 (i).toNatClampNeg).toNatClampNeg)) (.second) T255 h _ X255 e255 N253 Z0 own_Two.v (by omega) (Or.inr (own_lo1 hlo (Fg _))) (Or.inr (own_hi1 hhi (Fg _))) Eb Ft Fp Frw Ep Fs Fd Fc Vc V0 (by omega)
      refine ⟨T9, locs9, l9, h9, i9, u9, v9, X9, N9, e9, f9, q9, fun target kt => ?_⟩
      show Steps p.tables e below (T.setTop (mkF m 99 #[vR a1, vI p1, vI p2, vI p3, vI 1, vI nx, vI 0, vD 0, .second, vI 0, vD lo, .second, vD hi, .second, vI i, s15, s16] [])) _
      refine XS.iload X0.here hx rfl (hb hby d8_99) rfl ?_
      refine XS.iloadN X0.here hx rfl (hb hby d8_101) rfl ?_
      refine XS.icmpNo X0.here hx rfl (hb hby d8_102) rfl (tlt hg).2.1 ?_
      refine XS.aloadN X0.here hx rfl (hb hby d8_105) rfl rfl ?_
      show Steps p.tables e below (T.setTop (mkF m 106 #[vR a1, vI p1, vI p2, vI p3, vI 1, vI nx, vI 0, vD 0, .second, vI 0, vD lo, .second, vD hi, .second, vI i, s15, s16] [(.ref a1)])) _
      refine st248 _ ?_
      show Steps p.tables e below (T248.setTop (mkF m 109 #[vR a1, vI p1, vI p2, vI p3, vI 1, vI nx, vI 0, vD 0, .second, vI 0, vD lo, .second, vD hi, .second, vI i, s15, s16] [(.ref t)])) _
      refine st249 _ ?_
      show Steps p.tables e below (T249.setTop (mkF m 112 #[vR a1, vI p1, vI p2, vI p3, vI 1, vI nx, vI 0, vD 0, .second, vI 0, vD lo, .second, vD hi, .second, vI i, s15, s16] [(.ref pts)])) _
      refine XS.aloadN X249.here hx rfl (hb hby d8_112) rfl rfl ?_
      show Steps p.tables e below (T249.setTop (mkF m 113 #[vR a1, vI p1, vI p2, vI p3, vI 1, vI nx, vI 0, vD 0, .second, vI 0, vD lo, .second, vD hi, .second, vI i, s15, s16] [(.ref a1), (.ref pts)])) _
      refine st250 _ ?_
      show Steps p.tables e below (T250.setTop (mkF m 116 #[vR a1, vI p1, vI p2, vI p3, vI 1, vI nx, vI 0, vD 0, .second, vI 0, vD lo, .second, vD hi, .second, vI i, s15, s16] [(.ref t), (.ref pts)])) _
      refine st251 _ ?_
      show Steps p.tables e below (T251.setTop (mkF m 119 #[vR a1, vI p1, vI p2, vI p3, vI 1, vI nx, vI 0, vD 0, .second, vI 0, vD lo, .second, vD hi, .second, vI i, s15, s16] [(.ref r), (.ref pts)])) _
      refine XS.iload X251.here hx rfl (hb hby d8_119) rfl ?_
      show Steps p.tables e below (T251.setTop (mkF m 121 #[vR a1, vI p1, vI p2, vI p3, vI 1, vI nx, vI 0, vD 0, .second, vI 0, vD lo, .second, vD hi, .second, vI i, s15, s16] [(.int i), (.ref r), (.ref pts)])) _
      refine own_ldI X251 hx hZ e251 V0 (j := i) hix (f := (mkF m 121 #[vR a1, vI p1, vI p2, vI p3, vI 1, vI nx, vI 0, vD 0, .second, vI 0, vD lo, .second, vD hi, .second, vI i, s15, s16] [(.int i), (.ref r), (.ref pts)])) rfl rfl (hb hby d8_121) _ ?_
      show Steps p.tables e below (T251.setTop (mkF m 122 #[vR a1, vI p1, vI p2, vI p3, vI 1, vI nx, vI 0, vD 0, .second, vI 0, vD lo, .second, vD hi, .second, vI i, s15, s16] [(.int (f0 (i).toNatClampNeg)), (.ref pts)])) _
      refine XS.iload X251.here hx rfl (hb hby d8_122) rfl ?_
      show Steps p.tables e below (T251.setTop (mkF m 124 #[vR a1, vI p1, vI p2, vI p3, vI 1, vI nx, vI 0, vD 0, .second, vI 0, vD lo, .second, vD hi, .second, vI i, s15, s16] [(.int (0 : Int32)), (.int (f0 (i).toNatClampNeg)), (.ref pts)])) _
      refine st252.trans ?_
      show Steps p.tables e below (T252.setTop (mkF m 127 #[vR a1, vI p1, vI p2, vI p3, vI 1, vI nx, vI 0, vD 0, .second, vI 0, vD lo, .second, vD hi, .second, vI i, s15, s16] [(.double (gc (f0 (i).toNatClampNeg).toNatClampNeg))])) _
      refine own_sstore X252.here hx (l' := #[vR a1, vI p1, vI p2, vI p3, vI 1, vI nx, vI 0, vD 0, .second, vI 0, vD lo, .second, vD hi, .second, vI i, vD (gc (f0 (i).toNatClampNeg).toNatClampNeg), .second]) (hb hby d8_127) (by rcases hs15 with ⟨q, q'⟩ | ⟨_, q, q'⟩ <;> subst q q' <;> rfl) ?_
      show Steps p.tables e below (T252.setTop (mkF m 129 #[vR a1, vI p1, vI p2, vI p3, vI 1, vI nx, vI 0, vD 0, .second, vI 0, vD lo, .second, vD hi, .second, vI i, vD (gc (f0 (i).toNatClampNeg).toNatClampNeg), .second] [])) _
      refine own_sload X252.here hx (hb hby d8_129) rfl ?_
      show Steps p.tables e below (T252.setTop (mkF m 131 #[vR a1, vI p1, vI p2, vI p3, vI 1, vI nx, vI 0, vD 0, .second, vI 0, vD lo, .second, vD hi, .second, vI i, vD (gc (f0 (i).toNatClampNeg).toNatClampNeg), .second] [(.double lo)])) _
      refine own_sload X252.here hx (hb hby d8_131) rfl ?_
      show Steps p.tables e below (T252.setTop (mkF m 133 #[vR a1, vI p1, vI p2, vI p3, vI 1, vI nx, vI 0, vD 0, .second, vI 0, vD lo, .second, vD hi, .second, vI i, vD (gc (f0 (i).toNatClampNeg).toNatClampNeg), .second] [(.double (gc (f0 (i).toNatClampNeg).toNatClampNeg)), (.double lo)])) _
      refine st254 _ ?_
      show Steps p.tables e below (T254.setTop (mkF m 136 #[vR a1, vI p1, vI p2, vI p3, vI 1, vI nx, vI 0, vD 0, .second, vI 0, vD lo, .second, vD hi, .second, vI i, vD (gc (f0 (i).toNatClampNeg).toNatClampNeg), .second] [(.double (own_pk false lo (gc (f0 (i).toNatClampNeg).toNatClampNeg)))])) _
      refine own_sstore X254.here hx (l' := #[vR a1, vI p1, vI p2, vI p3, vI 1, vI nx, vI 0, vD 0, .second, vI 0, vD (own_pk false lo (gc (f0 (i).toNatClampNeg).toNatClampNeg)), .second, vD hi, .second, vI i, vD (gc (f0 (i).toNatClampNeg).toNatClampNeg), .second]) (hb hby d8_136) rfl ?_
      show Steps p.tables e below (T254.setTop (mkF m 138 #[vR a1, vI p1, vI p2, vI p3, vI 1, vI nx, vI 0, vD 0, .second, vI 0, vD (own_pk false lo (gc (f0 (i).toNatClampNeg).toNatClampNeg)), .second, vD hi, .second, vI i, vD (gc (f0 (i).toNatClampNeg).toNatClampNeg), .second] [])) _
      refine own_sload X254.here hx (hb hby d8_138) rfl ?_
      show Steps p.tables e below (T254.setTop (mkF m 140 #[vR a1, vI p1, vI p2, vI p3, vI 1, vI nx, vI 0, vD 0, .second, vI 0, vD (own_pk false lo (gc (f0 (i).toNatClampNeg).toNatClampNeg)), .second, vD hi, .second, vI i, vD (gc (f0 (i).toNatClampNeg).toNatClampNeg), .second] [(.double hi)])) _
      refine own_sload X254.here hx (hb hby d8_140) rfl ?_
      show Steps p.tables e below (T254.setTop (mkF m 142 #[vR a1, vI p1, vI p2, vI p3, vI 1, vI nx, vI 0, vD 0, .second, vI 0, vD (own_pk false lo (gc (f0 (i).toNatClampNeg).toNatClampNeg)), .second, vD hi, .second, vI i, vD (gc (f0 (i).toNatClampNeg).toNatClampNeg), .second] [(.double (gc (f0 (i).toNatClampNeg).toNatClampNeg)), (.double hi)])) _
      refine st255 _ ?_
      show Steps p.tables e below (T255.setTop (mkF m 145 #[vR a1, vI p1, vI p2, vI p3, vI 1, vI nx, vI 0, vD 0, .second, vI 0, vD (own_pk false lo (gc (f0 (i).toNatClampNeg).toNatClampNeg)), .second, vD hi, .second, vI i, vD (gc (f0 (i).toNatClampNeg).toNatClampNeg), .second] [(.double (own_pk true hi (gc (f0 (i).toNatClampNeg).toNatClampNeg)))])) _
      refine own_sstore X255.here hx (l' := #[vR a1, vI p1, vI p2, vI p3, vI 1, vI nx, vI 0, vD 0, .second, vI 0, vD (own_pk false lo (gc (f0 (i).toNatClampNeg).toNatClampNeg)), .second, vD (own_pk true hi (gc (f0 (i).toNatClampNeg).toNatClampNeg)), .second, vI i, vD (gc (f0 (i).toNatClampNeg).toNatClampNeg), .second]) (hb hby d8_145) rfl ?_
      show Steps p.tables e below (T255.setTop (mkF m 147 #[vR a1, vI p1, vI p2, vI p3, vI 1, vI nx, vI 0, vD 0, .second, vI 0, vD (own_pk false lo (gc (f0 (i).toNatClampNeg).toNatClampNeg)), .second, vD (own_pk true hi (gc (f0 (i).toNatClampNeg).toNatClampNeg)), .second, vI i, vD (gc (f0 (i).toNatClampNeg).toNatClampNeg), .second] [])) _
      refine XS.iinc X255.here hx rfl (hb hby d8_147) rfl (l' := #[vR a1, vI p1, vI p2, vI p3, vI 1, vI nx, vI 0, vD 0, .second, vI 0, vD (own_pk false lo (gc (f0 (i).toNatClampNeg).toNatClampNeg)), .second, vD (own_pk true hi (gc (f0 (i).toNatClampNeg).toNatClampNeg)), .second, vI (i + (1 : Int32)), vD (gc (f0 (i).toNatClampNeg).toNatClampNeg), .second]) rfl ?_
      refine XS.goto X255.here hx rfl (pc0 := 150) (pc' := 99) rfl (hb hby d8_150) (by decide) (by decide) ?_
      show Steps p.tables e below (T255.setTop (mkF m 99 #[vR a1, vI p1, vI p2, vI p3, vI 1, vI nx, vI 0, vD 0, .second, vI 0, vD (own_pk false lo (gc (f0 (i).toNatClampNeg).toNatClampNeg)), .second, vD (own_pk true hi (gc (f0 (i).toNatClampNeg).toNatClampNeg)), .second, vI (i + (1 : Int32)), vD (gc (f0 (i).toNatClampNeg).toNatClampNeg), .second] [])) _
      exact st9 target kt
    · have hg' : ¬ i.toInt < p2.toInt := fun q => hg (own_lt.mpr q)
      refine ⟨T, locs, lo, hi, i, s15, s16, X0, N0, e0, hlo.resolve_left (fun q => by have := q.2; omega), hhi.resolve_left (fun q => by have := q.2; omega), fun target kt => ?_⟩
      show Steps p.tables e below (T.setTop (mkF m 99 #[vR a1, vI p1, vI p2, vI p3, vI 1, vI nx, vI 0, vD 0, .second, vI 0, vD lo, .second, vD hi, .second, vI i, s15, s16] [])) _
      refine XS.iload X0.here hx rfl (hb hby d8_99) rfl ?_
      refine XS.iloadN X0.here hx rfl (hb hby d8_101) rfl ?_
      refine XS.icmpYes X0.here hx rfl (pc0 := 102) (pc' := 153) rfl (hb hby d8_102) rfl (flt hg).2.1 (by decide) (by decide) ?_
      exact kt
theorem d8_0 : decode prog_54_method_2_code 0 = .ok (.aload_n 0, 1) := by decide +kernel
theorem d8_1 : decode prog_54_method_2_code 1 = .ok (.getfield 3, 3) := by decide +kernel
theorem d8_4 : decode prog_54_method_2_code 4 = .ok (.getfield 15, 3) := by decide +kernel
theorem d8_7 : decode prog_54_method_2_code 7 = .ok (.invokevirtual 19, 3) := by decide +kernel
theorem pd___I : parseMethodDescriptor "()I" = some ⟨[], some .int⟩ := by decide +kernel
theorem d8_10 : decode prog_54_method_2_code 10 = .ok (.istore 4, 2) := by decide +kernel
theorem d8_12 : decode prog_54_method_2_code 12 = .ok (.aload_n 0, 1) := by decide +kernel
theorem d8_13 : decode prog_54_method_2_code 13 = .ok (.dup, 1) := by decide +kernel
theorem d8_14 : decode prog_54_method_2_code 14 = .ok (.getfield 25, 3) := by decide +kernel
theorem d8_17 : decode prog_54_method_2_code 17 = .ok (.dup_x1, 1) := by decide +kernel
theorem d8_18 : decode prog_54_method_2_code 18 = .ok (.iconst 1, 1) := by decide +kernel
theorem d8_19 : decode prog_54_method_2_code 19 = .ok (.iadd, 1) := by decide +kernel
theorem d8_20 : decode prog_54_method_2_code 20 = .ok (.putfield 25, 3) := by decide +kernel
theorem d8_23 : decode prog_54_method_2_code 23 = .ok (.istore 5, 2) := by decide +kernel
theorem d8_25 : decode prog_54_method_2_code 25 = .ok (.aload_n 0, 1) := by decide +kernel
theorem d8_26 : decode prog_54_method_2_code 26 = .ok (.aload_n 0, 1) := by decide +kernel
theorem d8_27 : decode prog_54_method_2_code 27 = .ok (.getfield 29, 3) := by decide +kernel
theorem d8_30 : decode prog_54_method_2_code 30 = .ok (.iload_n 3, 1) := by decide +kernel
theorem d8_31 : decode prog_54_method_2_code 31 = .ok (.invokestatic 32, 3) := by decide +kernel
theorem d8_34 : decode prog_54_method_2_code 34 = .ok (.putfield 29, 3) := by decide +kernel
theorem d8_37 : decode prog_54_method_2_code 37 = .ok (.aload_n 0, 1) := by decide +kernel
theorem d8_38 : decode prog_54_method_2_code 38 = .ok (.getfield 3, 3) := by decide +kernel
theorem d8_41 : decode prog_54_method_2_code 41 = .ok (.getfield 38, 3) := by decide +kernel
theorem d8_44 : decode prog_54_method_2_code 44 = .ok (.iload 5, 2) := by decide +kernel
theorem d8_46 : decode prog_54_method_2_code 46 = .ok (.iload_n 1, 1) := by decide +kernel
theorem d8_47 : decode prog_54_method_2_code 47 = .ok (.iastore, 1) := by decide +kernel
theorem d8_48 : decode prog_54_method_2_code 48 = .ok (.aload_n 0, 1) := by decide +kernel
theorem d8_49 : decode prog_54_method_2_code 49 = .ok (.getfield 3, 3) := by decide +kernel
theorem d8_52 : decode prog_54_method_2_code 52 = .ok (.getfield 42, 3) := by decide +kernel
theorem d8_55 : decode prog_54_method_2_code 55 = .ok (.iload 5, 2) := by decide +kernel
theorem d8_57 : decode prog_54_method_2_code 57 = .ok (.iload_n 2, 1) := by decide +kernel
theorem d8_58 : decode prog_54_method_2_code 58 = .ok (.iastore, 1) := by decide +kernel
theorem d8_59 : decode prog_54_method_2_code 59 = .ok (.aload_n 0, 1) := by decide +kernel
theorem d8_60 : decode prog_54_method_2_code 60 = .ok (.getfield 3, 3) := by decide +kernel
theorem d8_63 : decode prog_54_method_2_code 63 = .ok (.getfield 45, 3) := by decide +kernel
theorem d8_66 : decode prog_54_method_2_code 66 = .ok (.iload 5, 2) := by decide +kernel
theorem d8_68 : decode prog_54_method_2_code 68 = .ok (.iconst (-1), 1) := by decide +kernel
theorem d8_69 : decode prog_54_method_2_code 69 = .ok (.iastore, 1) := by decide +kernel
theorem d8_70 : decode prog_54_method_2_code 70 = .ok (.iconst 0, 1) := by decide +kernel
theorem d8_71 : decode prog_54_method_2_code 71 = .ok (.istore 6, 2) := by decide +kernel
theorem d8_73 : decode prog_54_method_2_code 73 = .ok (.dconst 0, 1) := by decide +kernel
theorem d8_74 : decode prog_54_method_2_code 74 = .ok (.dstore 7, 2) := by decide +kernel
theorem d8_76 : decode prog_54_method_2_code 76 = .ok (.iconst 0, 1) := by decide +kernel
theorem d8_77 : decode prog_54_method_2_code 77 = .ok (.istore 9, 2) := by decide +kernel
theorem d8_79 : decode prog_54_method_2_code 79 = .ok (.iload 9, 2) := by decide +kernel
theorem d8_81 : decode prog_54_method_2_code 81 = .ok (.iload 4, 2) := by decide +kernel
theorem d8_83 : decode prog_54_method_2_code 83 = .ok (.if_icmp .ge 134, 3) := by decide +kernel
theorem d8_86 : decode prog_54_method_2_code 86 = .ok (.ldc2_w 50, 3) := by decide +kernel
theorem d8_89 : decode prog_54_method_2_code 89 = .ok (.dstore 10, 2) := by decide +kernel
theorem d8_91 : decode prog_54_method_2_code 91 = .ok (.ldc2_w 52, 3) := by decide +kernel
theorem d8_94 : decode prog_54_method_2_code 94 = .ok (.dstore 12, 2) := by decide +kernel
theorem d8_96 : decode prog_54_method_2_code 96 = .ok (.iload_n 1, 1) := by decide +kernel
theorem d8_97 : decode prog_54_method_2_code 97 = .ok (.istore 14, 2) := by decide +kernel
theorem d8_153 : decode prog_54_method_2_code 153 = .ok (.aload_n 0, 1) := by decide +kernel
theorem d8_154 : decode prog_54_method_2_code 154 = .ok (.getfield 3, 3) := by decide +kernel
theorem d8_157 : decode prog_54_method_2_code 157 = .ok (.getfield 67, 3) := by decide +kernel
theorem d8_160 : decode prog_54_method_2_code 160 = .ok (.iload 5, 2) := by decide +kernel
theorem d8_162 : decode prog_54_method_2_code 162 = .ok (.iload 4, 2) := by decide +kernel
theorem d8_164 : decode prog_54_method_2_code 164 = .ok (.imul, 1) := by decide +kernel
theorem d8_165 : decode prog_54_method_2_code 165 = .ok (.iload 9, 2) := by decide +kernel
theorem d8_167 : decode prog_54_method_2_code 167 = .ok (.iadd, 1) := by decide +kernel
theorem d8_168 : decode prog_54_method_2_code 168 = .ok (.dload 10, 2) := by decide +kernel
theorem d8_170 : decode prog_54_method_2_code 170 = .ok (.dastore, 1) := by decide +kernel
theorem d8_171 : decode prog_54_method_2_code 171 = .ok (.aload_n 0, 1) := by decide +kernel
theorem d8_172 : decode prog_54_method_2_code 172 = .ok (.getfield 3, 3) := by decide +kernel
theorem d8_175 : decode prog_54_method_2_code 175 = .ok (.getfield 71, 3) := by decide +kernel
theorem d8_178 : decode prog_54_method_2_code 178 = .ok (.iload 5, 2) := by decide +kernel
theorem d8_180 : decode prog_54_method_2_code 180 = .ok (.iload 4, 2) := by decide +kernel
theorem d8_182 : decode prog_54_method_2_code 182 = .ok (.imul, 1) := by decide +kernel
theorem d8_183 : decode prog_54_method_2_code 183 = .ok (.iload 9, 2) := by decide +kernel
theorem d8_185 : decode prog_54_method_2_code 185 = .ok (.iadd, 1) := by decide +kernel
theorem d8_186 : decode prog_54_method_2_code 186 = .ok (.dload 12, 2) := by decide +kernel
theorem d8_188 : decode prog_54_method_2_code 188 = .ok (.dastore, 1) := by decide +kernel
theorem d8_189 : decode prog_54_method_2_code 189 = .ok (.dload 12, 2) := by decide +kernel
theorem d8_191 : decode prog_54_method_2_code 191 = .ok (.dload 10, 2) := by decide +kernel
theorem d8_193 : decode prog_54_method_2_code 193 = .ok (.dsub, 1) := by decide +kernel
theorem d8_194 : decode prog_54_method_2_code 194 = .ok (.dload 7, 2) := by decide +kernel
theorem d8_196 : decode prog_54_method_2_code 196 = .ok (.dcmp .l, 1) := by decide +kernel
theorem d8_197 : decode prog_54_method_2_code 197 = .ok (.ifCond .le 14, 3) := by decide +kernel
theorem d8_200 : decode prog_54_method_2_code 200 = .ok (.iload 9, 2) := by decide +kernel
theorem d8_202 : decode prog_54_method_2_code 202 = .ok (.istore 6, 2) := by decide +kernel
theorem d8_204 : decode prog_54_method_2_code 204 = .ok (.dload 12, 2) := by decide +kernel
theorem d8_206 : decode prog_54_method_2_code 206 = .ok (.dload 10, 2) := by decide +kernel
theorem d8_208 : decode prog_54_method_2_code 208 = .ok (.dsub, 1) := by decide +kernel
theorem d8_209 : decode prog_54_method_2_code 209 = .ok (.dstore 7, 2) := by decide +kernel
theorem d8_211 : decode prog_54_method_2_code 211 = .ok (.iinc 9 1, 3) := by decide +kernel
theorem d8_214 : decode prog_54_method_2_code 214 = .ok (.goto (-135), 3) := by decide +kernel
theorem d8_217 : decode prog_54_method_2_code 217 = .ok (.iload_n 2, 1) := by decide +kernel
theorem d8_218 : decode prog_54_method_2_code 218 = .ok (.iload_n 1, 1) := by decide +kernel
theorem d8_219 : decode prog_54_method_2_code 219 = .ok (.isub, 1) := by decide +kernel
theorem d8_220 : decode prog_54_method_2_code 220 = .ok (.bipush 32, 2) := by decide +kernel
theorem d8_222 : decode prog_54_method_2_code 222 = .ok (.if_icmp .le 61, 3) := by decide +kernel
theorem d8_283 : decode prog_54_method_2_code 283 = .ok (.return_, 1) := by decide +kernel
theorem ef_rm8_0 (m : MethodId) (a1 : Addr) (p1 : Int32) (p2 : Int32) (p3 : Int32) : entryFrame m #[(.ref a1), (.int p1), (.int p2), (.int p3)] 17 = mkF m 0 #[.val (.ref a1), .val (.int p1), .val (.int p2), .val (.int p3), .unset, .unset, .unset, .unset, .unset, .unset, .unset, .unset, .unset, .unset, .unset, .unset, .unset] [] := by first | (simp [entryFrame, mkF, argsToLocals, Value.category]; done) | rfl
def Qrm8_0 (Z : State) (a1 : Addr) (p1 : Int32) (p2 : Int32) (p3 : Int32) (t : Addr) (pts : Addr) (co : Addr) (r : Addr) (x1 : Addr) (x2 : Addr) (x3 : Addr) (x4 : Addr) (x5 : Addr) (gc : Nat → UInt64) (nx : Int32) (fF : Nat → Int32) (fE : Nat → Int32) (fU : Nat → Int32) (h0 : Heap) (n0 : Nat) (v : Option Value) (h : Heap) (L : List Loc) : Prop := v = none ∧ Fr n0 L ∧ Keep h0 h [a1, r, x1, x2, x3, x4, x5] ∧ ∃ n' F' E' U', own_rel 0 nx p1 p2 fF fE fU n' F' E' U' ∧ own_St Z h a1 t r x1 x2 x3 x4 x5 n' F' E' U'
set_option maxRecDepth 65536 in
set_option maxHeartbeats 40000000 in
theorem rm8_0 (l : Launch) (Z : State) (a0 : Array Value) (hw : ∀ d ∈ tables_1, d.before a0 Z = true) (ws : List Jvm.Cond) (a1 : Addr) (p1 : Int32) (p2 : Int32) (p3 : Int32) (t : Addr) (pts : Addr) (co : Addr) (r : Addr) (x1 : Addr) (x2 : Addr) (x3 : Addr) (x4 : Addr) (x5 : Addr) (gc : Nat → UInt64) (nx : Int32) (fF : Nat → Int32) (fE : Nat → Int32) (fU : Nat → Int32) (h0 : Heap) (n0 : Nat) (Z0 : n0 ≤ h0.size) (Eb : Exa Z h0 a1 "com/example/flatfinder/flatfinder/neighbours/KdTree$Builder") (Ft : Fld Z h0 a1 "com/example/flatfinder/flatfinder/neighbours/KdTree$Builder" "this$0" "Lcom/example/flatfinder/flatfinder/neighbours/KdTree;" (.ref t)) (Fp : Fld Z h0 t "com/example/flatfinder/flatfinder/neighbours/KdTree" "points" "Lcom/example/flatfinder/flatfinder/neighbours/Points;" (.ref pts)) (Frw : Fld Z h0 t "com/example/flatfinder/flatfinder/neighbours/KdTree" "rows" "[I" (.ref r)) (Ep : Exa Z h0 pts "com/example/flatfinder/flatfinder/neighbours/Points") (Fs : Fld Z h0 pts "com/example/flatfinder/flatfinder/neighbours/Points" "size" "I" (.int (66 : Int32))) (Fd : Fld Z h0 pts "com/example/flatfinder/flatfinder/neighbours/Points" "dimensions" "I" (.int (1 : Int32))) (Fc : Fld Z h0 pts "com/example/flatfinder/flatfinder/neighbours/Points" "coordinates" "[D" (.ref co)) (Vc : own_V Z h0 co .double 66 (fun ii => .double (gc ii))) (Gf : Fld Z h0 t "com/example/flatfinder/flatfinder/neighbours/KdTree" "first" "[I" (.ref x1)) (Ge : Fld Z h0 t "com/example/flatfinder/flatfinder/neighbours/KdTree" "end" "[I" (.ref x2)) (Gu : Fld Z h0 t "com/example/flatfinder/flatfinder/neighbours/KdTree" "upper" "[I" (.ref x3)) (Gl : Fld Z h0 t "com/example/flatfinder/flatfinder/neighbours/KdTree" "low" "[D" (.ref x4)) (Gh : Fld Z h0 t "com/example/flatfinder/flatfinder/neighbours/KdTree" "high" "[D" (.ref x5)) (Fg : ∀ i, Jvm.Free.Fl.Fin64 (gc i)) (ST : own_St Z h0 a1 t r x1 x2 x3 x4 x5 nx fF fE fU) (hp : 0 ≤ p1.toInt ∧ p1.toInt < p2.toInt ∧ p2.toInt ≤ 66 ∧ p2.toInt - p1.toInt ≤ 32) (hnx : 0 ≤ nx.toInt ∧ nx.toInt + 1 ≤ 9) (hnd : [a1, t, pts, co, r, x1, x2, x3, x4, x5].Nodup) (hge : ∀ x ∈ [a1, r, x1, x2, x3, x4, x5], n0 ≤ x) :
    MetFree l (⟨"com/example/flatfinder/flatfinder/neighbours/KdTree$Builder", "build", "(III)V"⟩ : MethodName) (head1 (Jvm.Cond.code (⟨"com/example/flatfinder/flatfinder/neighbours/KdTree$Builder", "build", "(III)V"⟩ : MethodName) prog_54_method_2_code 17 none :: ws) ({ frames := 3, cells := 0, slots := 0, locals := 41 } : Room)) (fun a U => a = #[(.ref a1), (.int p1), (.int p2), (.int p3)] ∧ Z.Warmed39 U.vm ∧ U.heap = h0) (fun _ _ _ _ _ => True) (fun _ U o U' => ∃ v L, o = .returned v ∧ Qrm8_0 Z a1 p1 p2 p3 t pts co r x1 x2 x3 x4 x5 gc nx fF fE fU h0 n0 v U'.heap L ∧ FrameEnd U o U' L ({ frames := 3, cells := 0, slots := 0, locals := 41 } : Room).cells ({ frames := 3, cells := 0, slots := 0, locals := 41 } : Room).slots) := by
  refine MetFree.of_bodySF (plainFor_of_name pn_com_example_flatfinder_flatfinder_neighbours_KdTree_Builder) hisR ?_
  intro p e s m args below meth c s₁ Bd hml0 hP hK
  obtain ⟨rfl, hZ, hh⟩ := hP
  have hx := Bd.exec
  have hby := Bd.bytes
  have hml : c.maxLocals = 17 := hml0
  have hown : s.vm.findClass "com/example/flatfinder/flatfinder/neighbours/KdTree$Builder" = some m.cls := findClass_of_methodNamed Bd.named
  have hnm := (name_of_methodNamed Bd.named Bd.method).1
  have X0 : Stand p l e ({ frames := 3, cells := 0, slots := 0, locals := 41 } : Room) s m #[(.ref a1), (.int p1), (.int p2), (.int p3)] below meth c s₁ [] 0 0 := Stand.of_body Bd
  have e0 : s₁.heap = h0 := by rw [← hh, Bd.state]; rfl
  have N0 := Fr.nil n0
  have pre0 : ∀ tg, Steps p.tables e below (s₁.setTop (mkF m 0 #[.val (.ref a1), .val (.int p1), .val (.int p2), .val (.int p3), .unset, .unset, .unset, .unset, .unset, .unset, .unset, .unset, .unset, .unset, .unset, .unset, .unset] [])) tg → Steps p.tables e below (s₁.setTop (entryFrame m #[(.ref a1), (.int p1), (.int p2), (.int p3)] 17)) tg := fun tg kg => castTop (ef_rm8_0 m a1 p1 p2 p3) kg
  have K0 := Keep.refl h0 [a1, r, x1, x2, x3, x4, x5]
  obtain ⟨Fta, Fna, ⟨dpa, Fdpa⟩, ⟨f0a, V0a, q0a⟩, V1a, V2a, V3a, ⟨g4a, V4a⟩, ⟨g5a, V5a⟩⟩ := id ST
  have hxn : own_ix 9 nx := ⟨by omega, by omega⟩
  obtain ⟨pd1, pd2, pd3, pd4, pd5⟩ := own_pd (p1 := p1) (p2 := p2) (by omega)
  have hmd := own_md (p1 := p1) (p2 := p2) (by omega) (by omega) (by omega)
  have hn1 := own_add1 (i := nx) (by omega) (by omega)
  obtain ⟨T256, X256, e256, st256⟩ := getF X0 hx hZ hown (host := "") (Or.inl (wd hw 73 rfl)) Via.refl e0 Fta (g := (mkF m 1 #[vR a1, vI p1, vI p2, vI p3, .unset, .unset, .unset, .unset, .unset, .unset, .unset, .unset, .unset, .unset, .unset, .unset, .unset] [(.ref a1)])) rfl rfl (hb hby d8_1)
  obtain ⟨T257, X257, e257, st257⟩ := getF X256 hx hZ hown (Or.inr (wd hw 81 rfl)) Via.refl e256 Fp (g := (mkF m 4 #[vR a1, vI p1, vI p2, vI p3, .unset, .unset, .unset, .unset, .unset, .unset, .unset, .unset, .unset, .unset, .unset, .unset, .unset] [(.ref t)])) rfl rfl (hb hby d8_4)
  obtain ⟨cq258, kq258, q258a, q258b, q258c⟩ := isOf hZ e257 Ep
  obtain ⟨_, _, ⟨T258, L258, k258, n258⟩, -, X258, ⟨Lc258, hQ258, l258, y258, z258⟩, st258⟩ := X257.virtualBack hx (y := (⟨"com/example/flatfinder/flatfinder/neighbours/Points", "dimensions", "()I"⟩ : MethodName)) (z := (⟨"com/example/flatfinder/flatfinder/neighbours/Points", "dimensions", "()I"⟩ : MethodName)) hown (mvT hZ (wd hw 82 rfl)) (mvT hZ (wd hw 43 rfl)) (notFace_of_selects (args := #[]) (mvT hZ (wd hw 45 rfl))) (mvT hZ (wd hw 45 rfl)) (mvT hZ (wd hw 44 rfl)) (by decide) (backOf (W := 0) (rm6 l Z a0 hw [] pts  h0 n0 Z0 Fd) hZ (wd hw 46 rfl) (wd hw 4 rfl) (by decide) (by decide)) q258a q258c (g := (mkF m 7 #[vR a1, vI p1, vI p2, vI p3, .unset, .unset, .unset, .unset, .unset, .unset, .unset, .unset, .unset, .unset, .unset, .unset, .unset] [(.ref pts)])) rfl (by rw [hml]; rfl) (Steps.refl _) (argsL := []) (rest := []) (lenOf pd___I rfl) rfl (by show 2 * 0 + _ ≤ _; exact Nat.le_of_eq rfl) (hb hby d8_7) (fun _ _ => ⟨rfl, e257, (by decide : 0 + 0 ≤ _), (by decide : 0 + 0 ≤ _)⟩)
  dsimp only [Pt.U, Pt.locs, Pt.cells, Pt.slots] at X258 l258 y258 z258 st258 hQ258
  subst l258 y258 z258
  obtain ⟨rfl, N258q, e258⟩ := hQ258
  have N259 := Fr.app N0 N258q
  obtain ⟨T260, X260, e260, st260⟩ := getF X258 hx hZ hown (host := "") (Or.inl (wd hw 83 rfl)) Via.refl e258 Fna (g := (mkF m 14 #[vR a1, vI p1, vI p2, vI p3, vI 1, .unset, .unset, .unset, .unset, .unset, .unset, .unset, .unset, .unset, .unset, .unset, .unset] [(.ref a1), (.ref a1)])) rfl rfl (hb hby d8_14)
  obtain ⟨T261, h261, X261, e261, W261, st261⟩ := putF X260 hx hZ hown (host := "") (Or.inl (wd hw 83 rfl)) Via.refl e260 Fna Eb (Or.inl (wd hw 84 rfl)) (wd hw 68 rfl) (ty := .int) (by decide) rfl rfl (g := (mkF m 20 #[vR a1, vI p1, vI p2, vI p3, vI 1, .unset, .unset, .unset, .unset, .unset, .unset, .unset, .unset, .unset, .unset, .unset, .unset] [(.int (nx + (1 : Int32))), (.ref a1), (.int nx)])) rfl rfl (hb hby d8_20)
  have f262 := Fna.same W261
  have f263 := Eb.wr W261
  have f264 := Fp.other W261 (Or.inl (Ne.symm (own_nd hnd 0 1 (by decide) rfl rfl)))
  have f265 := Frw.other W261 (Or.inl (Ne.symm (own_nd hnd 0 1 (by decide) rfl rfl)))
  have f266 := Ep.wr W261
  have f267 := Fs.other W261 (Or.inl (Ne.symm (own_nd hnd 0 2 (by decide) rfl rfl)))
  have f268 := Fd.other W261 (Or.inl (Ne.symm (own_nd hnd 0 2 (by decide) rfl rfl)))
  have f269 := Fc.other W261 (Or.inl (Ne.symm (own_nd hnd 0 2 (by decide) rfl rfl)))
  have f270 := Vc.other W261 (Ne.symm (own_nd hnd 0 3 (by decide) rfl rfl))
  have f271 := Fta.other W261 (Or.inr (slot_ne (Or.inr (wd hw 74 rfl)) (Or.inl (wd hw 84 rfl)) (by decide) (t := (.object "com/example/flatfinder/flatfinder/neighbours/KdTree")) (t' := .int) (by decide) (by decide)))
  have f272 := Fdpa.other W261 (Or.inr (slot_ne (Or.inl (wd hw 86 rfl)) (Or.inl (wd hw 84 rfl)) (by decide) (t := .int) (t' := .int) (by decide) (by decide)))
  have f273 := V0a.other W261 (Ne.symm (own_nd hnd 0 4 (by decide) rfl rfl))
  have f274 := V1a.other W261 (Ne.symm (own_nd hnd 0 5 (by decide) rfl rfl))
  have f275 := V2a.other W261 (Ne.symm (own_nd hnd 0 6 (by decide) rfl rfl))
  have f276 := V3a.other W261 (Ne.symm (own_nd hnd 0 7 (by decide) rfl rfl))
  have f277 := V4a.other W261 (Ne.symm (own_nd hnd 0 8 (by decide) rfl rfl))
  have f278 := V5a.other W261 (Ne.symm (own_nd hnd 0 9 (by decide) rfl rfl))
  have f279 := Gf.other W261 (Or.inl (Ne.symm (own_nd hnd 0 1 (by decide) rfl rfl)))
  have f280 := Ge.other W261 (Or.inl (Ne.symm (own_nd hnd 0 1 (by decide) rfl rfl)))
  have f281 := Gu.other W261 (Or.inl (Ne.symm (own_nd hnd 0 1 (by decide) rfl rfl)))
  have f282 := Gl.other W261 (Or.inl (Ne.symm (own_nd hnd 0 1 (by decide) rfl rfl)))
  have f283 := Gh.other W261 (Or.inl (Ne.symm (own_nd hnd 0 1 (by decide) rfl rfl)))
  have Zn284 := Nat.le_trans Z0 (Keep.of_wr W261).1
  have N285 := Fr.snoc X261 N259 (hge a1 (List.mem_of_getElem? (i := 0) rfl))
  have K286 := K0.wr W261 (Or.inl (List.mem_of_getElem? (i := 0) rfl))
  obtain ⟨T287, X287, e287, st287⟩ := getF X261 hx hZ hown (host := "") (Or.inl (wd hw 85 rfl)) Via.refl e261 f272 (g := (mkF m 27 #[vR a1, vI p1, vI p2, vI p3, vI 1, vI nx, .unset, .unset, .unset, .unset, .unset, .unset, .unset, .unset, .unset, .unset, .unset] [(.ref a1), (.ref a1)])) rfl rfl (hb hby d8_27)
  obtain ⟨_, _, ⟨T288, L288, k288, n288⟩, -, X288, ⟨Lc288, hQ288, l288, y288, z288⟩, st288⟩ := Jvm.LawKit.callS X287 hx (y := (⟨"java/lang/Math", "max", "(II)I"⟩ : MethodName)) hown (mvT hZ (wd hw 87 rfl)) (mvT hZ (wd hw 88 rfl)) (mvT hZ (wd hw 17 rfl)) (mvT hZ (wd hw 89 rfl)) (by decide) (backOf (W := 1) (rm9 l Z a0 hw [] dpa p3  h261 n0 Zn284 ) hZ (wd hw 89 rfl) (wd hw 17 rfl) (by decide) (by decide)) (g := (mkF m 31 #[vR a1, vI p1, vI p2, vI p3, vI 1, vI nx, .unset, .unset, .unset, .unset, .unset, .unset, .unset, .unset, .unset, .unset, .unset] [(.int p3), (.int dpa), (.ref a1)])) rfl (by rw [hml]; rfl) (argsL := [(.int dpa), (.int p3)]) (rest := [(.ref a1)]) (lenOf pd__II_I rfl) rfl (by show 2 * 0 + _ ≤ _; exact Nat.le_of_eq rfl) (hb hby d8_31) (fun _ _ => ⟨rfl, e287, (by decide : 0 + 0 ≤ _), (by decide : 0 + 0 ≤ _)⟩)
  dsimp only [Pt.U, Pt.locs, Pt.cells, Pt.slots] at X288 l288 y288 z288 st288 hQ288
  subst l288 y288 z288
  obtain ⟨rfl, N288q, e288⟩ := hQ288
  have N289 := Fr.app N285 N288q
  obtain ⟨T290, h290, X290, e290, W290, st290⟩ := putF X288 hx hZ hown (host := "") (Or.inl (wd hw 85 rfl)) Via.refl e288 f272 f263 (Or.inl (wd hw 86 rfl)) (wd hw 68 rfl) (ty := .int) (by decide) rfl rfl (g := (mkF m 34 #[vR a1, vI p1, vI p2, vI p3, vI 1, vI nx, .unset, .unset, .unset, .unset, .unset, .unset, .unset, .unset, .unset, .unset, .unset] [(.int (own_max dpa p3)), (.ref a1)])) rfl rfl (hb hby d8_34)
  have f291 := f272.same W290
  have f292 := f263.wr W290
  have f293 := f264.other W290 (Or.inl (Ne.symm (own_nd hnd 0 1 (by decide) rfl rfl)))
  have f294 := f265.other W290 (Or.inl (Ne.symm (own_nd hnd 0 1 (by decide) rfl rfl)))
  have f295 := f266.wr W290
  have f296 := f267.other W290 (Or.inl (Ne.symm (own_nd hnd 0 2 (by decide) rfl rfl)))
  have f297 := f268.other W290 (Or.inl (Ne.symm (own_nd hnd 0 2 (by decide) rfl rfl)))
  have f298 := f269.other W290 (Or.inl (Ne.symm (own_nd hnd 0 2 (by decide) rfl rfl)))
  have f299 := f270.other W290 (Ne.symm (own_nd hnd 0 3 (by decide) rfl rfl))
  have f300 := f271.other W290 (Or.inr (slot_ne (Or.inr (wd hw 74 rfl)) (Or.inl (wd hw 86 rfl)) (by decide) (t := (.object "com/example/flatfinder/flatfinder/neighbours/KdTree")) (t' := .int) (by decide) (by decide)))
  have f301 := f273.other W290 (Ne.symm (own_nd hnd 0 4 (by decide) rfl rfl))
  have f302 := f274.other W290 (Ne.symm (own_nd hnd 0 5 (by decide) rfl rfl))
  have f303 := f275.other W290 (Ne.symm (own_nd hnd 0 6 (by decide) rfl rfl))
  have f304 := f276.other W290 (Ne.symm (own_nd hnd 0 7 (by decide) rfl rfl))
  have f305 := f277.other W290 (Ne.symm (own_nd hnd 0 8 (by decide) rfl rfl))
  have f306 := f278.other W290 (Ne.symm (own_nd hnd 0 9 (by decide) rfl rfl))
  have f307 := f279.other W290 (Or.inl (Ne.symm (own_nd hnd 0 1 (by decide) rfl rfl)))
  have f308 := f280.other W290 (Or.inl (Ne.symm (own_nd hnd 0 1 (by decide) rfl rfl)))
  have f309 := f281.other W290 (Or.inl (Ne.symm (own_nd hnd 0 1 (by decide) rfl rfl)))
  have f310 := f282.other W290 (Or.inl (Ne.symm (own_nd hnd 0 1 (by decide) rfl rfl)))
  have f311 := f283.other W290 (Or.inl (Ne.symm (own_nd hnd 0 1 (by decide) rfl rfl)))
  have f312 := f262.other W290 (Or.inr (slot_ne (Or.inl (wd hw 84 rfl)) (Or.inl (wd hw 86 rfl)) (by decide) (t := .int) (t' := .int) (by decide) (by decide)))
  have Zn313 := Nat.le_trans Zn284 (Keep.of_wr W290).1
  have N314 := Fr.snoc X290 N289 (hge a1 (List.mem_of_getElem? (i := 0) rfl))
  have K315 := K286.wr W290 (Or.inl (List.mem_of_getElem? (i := 0) rfl))
  obtain ⟨T316, X316, e316, st316⟩ := getF X290 hx hZ hown (host := "") (Or.inl (wd hw 73 rfl)) Via.refl e290 f300 (g := (mkF m 38 #[vR a1, vI p1, vI p2, vI p3, vI 1, vI nx, .unset, .unset, .unset, .unset, .unset, .unset, .unset, .unset, .unset, .unset, .unset] [(.ref a1)])) rfl rfl (hb hby d8_38)
  obtain ⟨T317, X317, e317, st317⟩ := getF X316 hx hZ hown (Or.inr (wd hw 90 rfl)) Via.refl e316 f307 (g := (mkF m 41 #[vR a1, vI p1, vI p2, vI p3, vI 1, vI nx, .unset, .unset, .unset, .unset, .unset, .unset, .unset, .unset, .unset, .unset, .unset] [(.ref t)])) rfl rfl (hb hby d8_41)
  obtain ⟨T318, h318, X318, e318, W318, st318⟩ := own_sI X317 hx hZ e317 f302 (j := nx) hxn (f := (mkF m 47 #[vR a1, vI p1, vI p2, vI p3, vI 1, vI nx, .unset, .unset, .unset, .unset, .unset, .unset, .unset, .unset, .unset, .unset, .unset] [(.int p1), (.int nx), (.ref x1)])) rfl rfl (hb hby d8_47)
  have f319 : own_V Z h318 x1 .int 9 (fun ii => .int ((own_up fF (nx).toNatClampNeg p1) ii)) := own_V.setI f302 W318
  have f320 := f292.wr W318
  have f321 := f293.other W318 (Or.inl (own_nd hnd 1 5 (by decide) rfl rfl))
  have f322 := f294.other W318 (Or.inl (own_nd hnd 1 5 (by decide) rfl rfl))
  have f323 := f295.wr W318
  have f324 := f296.other W318 (Or.inl (own_nd hnd 2 5 (by decide) rfl rfl))
  have f325 := f297.other W318 (Or.inl (own_nd hnd 2 5 (by decide) rfl rfl))
  have f326 := f298.other W318 (Or.inl (own_nd hnd 2 5 (by decide) rfl rfl))
  have f327 := f299.other W318 (own_nd hnd 3 5 (by decide) rfl rfl)
  have f328 := f300.other W318 (Or.inl (own_nd hnd 0 5 (by decide) rfl rfl))
  have f329 := f301.other W318 (own_nd hnd 4 5 (by decide) rfl rfl)
  have f330 := f303.other W318 (Ne.symm (own_nd hnd 5 6 (by decide) rfl rfl))
  have f331 := f304.other W318 (Ne.symm (own_nd hnd 5 7 (by decide) rfl rfl))
  have f332 := f305.other W318 (Ne.symm (own_nd hnd 5 8 (by decide) rfl rfl))
  have f333 := f306.other W318 (Ne.symm (own_nd hnd 5 9 (by decide) rfl rfl))
  have f334 := f307.other W318 (Or.inl (own_nd hnd 1 5 (by decide) rfl rfl))
  have f335 := f308.other W318 (Or.inl (own_nd hnd 1 5 (by decide) rfl rfl))
  have f336 := f309.other W318 (Or.inl (own_nd hnd 1 5 (by decide) rfl rfl))
  have f337 := f310.other W318 (Or.inl (own_nd hnd 1 5 (by decide) rfl rfl))
  have f338 := f311.other W318 (Or.inl (own_nd hnd 1 5 (by decide) rfl rfl))
  have f339 := f312.other W318 (Or.inl (own_nd hnd 0 5 (by decide) rfl rfl))
  have f340 := f291.other W318 (Or.inl (own_nd hnd 0 5 (by decide) rfl rfl))
  have Zn341 := Nat.le_trans Zn313 (Keep.of_wr W318).1
  have N342 := Fr.snoc X318 N314 (hge x1 (List.mem_of_getElem? (i := 2) rfl))
  have K343 := K315.wr W318 (Or.inl (List.mem_of_getElem? (i := 2) rfl))
  obtain ⟨T344, X344, e344, st344⟩ := getF X318 hx hZ hown (host := "") (Or.inl (wd hw 73 rfl)) Via.refl e318 f328 (g := (mkF m 49 #[vR a1, vI p1, vI p2, vI p3, vI 1, vI nx, .unset, .unset, .unset, .unset, .unset, .unset, .unset, .unset, .unset, .unset, .unset] [(.ref a1)])) rfl rfl (hb hby d8_49)
  obtain ⟨T345, X345, e345, st345⟩ := getF X344 hx hZ hown (Or.inr (wd hw 91 rfl)) Via.refl e344 f335 (g := (mkF m 52 #[vR a1, vI p1, vI p2, vI p3, vI 1, vI nx, .unset, .unset, .unset, .unset, .unset, .unset, .unset, .unset, .unset, .unset, .unset] [(.ref t)])) rfl rfl (hb hby d8_52)
  obtain ⟨T346, h346, X346, e346, W346, st346⟩ := own_sI X345 hx hZ e345 f330 (j := nx) hxn (f := (mkF m 58 #[vR a1, vI p1, vI p2, vI p3, vI 1, vI nx, .unset, .unset, .unset, .unset, .unset, .unset, .unset, .unset, .unset, .unset, .unset] [(.int p2), (.int nx), (.ref x2)])) rfl rfl (hb hby d8_58)
  have f347 : own_V Z h346 x2 .int 9 (fun ii => .int ((own_up fE (nx).toNatClampNeg p2) ii)) := own_V.setI f330 W346
  have f348 := f320.wr W346
  have f349 := f321.other W346 (Or.inl (own_nd hnd 1 6 (by decide) rfl rfl))
  have f350 := f322.other W346 (Or.inl (own_nd hnd 1 6 (by decide) rfl rfl))
  have f351 := f323.wr W346
  have f352 := f324.other W346 (Or.inl (own_nd hnd 2 6 (by decide) rfl rfl))
  have f353 := f325.other W346 (Or.inl (own_nd hnd 2 6 (by decide) rfl rfl))
  have f354 := f326.other W346 (Or.inl (own_nd hnd 2 6 (by decide) rfl rfl))
  have f355 := f327.other W346 (own_nd hnd 3 6 (by decide) rfl rfl)
  have f356 := f328.other W346 (Or.inl (own_nd hnd 0 6 (by decide) rfl rfl))
  have f357 := f329.other W346 (own_nd hnd 4 6 (by decide) rfl rfl)
  have f358 := f331.other W346 (Ne.symm (own_nd hnd 6 7 (by decide) rfl rfl))
  have f359 := f332.other W346 (Ne.symm (own_nd hnd 6 8 (by decide) rfl rfl))
  have f360 := f333.other W346 (Ne.symm (own_nd hnd 6 9 (by decide) rfl rfl))
  have f361 := f334.other W346 (Or.inl (own_nd hnd 1 6 (by decide) rfl rfl))
  have f362 := f335.other W346 (Or.inl (own_nd hnd 1 6 (by decide) rfl rfl))
  have f363 := f336.other W346 (Or.inl (own_nd hnd 1 6 (by decide) rfl rfl))
  have f364 := f337.other W346 (Or.inl (own_nd hnd 1 6 (by decide) rfl rfl))
  have f365 := f338.other W346 (Or.inl (own_nd hnd 1 6 (by decide) rfl rfl))
  have f366 := f339.other W346 (Or.inl (own_nd hnd 0 6 (by decide) rfl rfl))
  have f367 := f340.other W346 (Or.inl (own_nd hnd 0 6 (by decide) rfl rfl))
  have f368 := f319.other W346 (own_nd hnd 5 6 (by decide) rfl rfl)
  have Zn369 := Nat.le_trans Zn341 (Keep.of_wr W346).1
  have N370 := Fr.snoc X346 N342 (hge x2 (List.mem_of_getElem? (i := 3) rfl))
  have K371 := K343.wr W346 (Or.inl (List.mem_of_getElem? (i := 3) rfl))
  obtain ⟨T372, X372, e372, st372⟩ := getF X346 hx hZ hown (host := "") (Or.inl (wd hw 73 rfl)) Via.refl e346 f356 (g := (mkF m 60 #[vR a1, vI p1, vI p2, vI p3, vI 1, vI nx, .unset, .unset, .unset, .unset, .unset, .unset, .unset, .unset, .unset, .unset, .unset] [(.ref a1)])) rfl rfl (hb hby d8_60)
  obtain ⟨T373, X373, e373, st373⟩ := getF X372 hx hZ hown (Or.inr (wd hw 92 rfl)) Via.refl e372 f363 (g := (mkF m 63 #[vR a1, vI p1, vI p2, vI p3, vI 1, vI nx, .unset, .unset, .unset, .unset, .unset, .unset, .unset, .unset, .unset, .unset, .unset] [(.ref t)])) rfl rfl (hb hby d8_63)
  obtain ⟨T374, h374, X374, e374, W374, st374⟩ := own_sI X373 hx hZ e373 f358 (j := nx) hxn (f := (mkF m 69 #[vR a1, vI p1, vI p2, vI p3, vI 1, vI nx, .unset, .unset, .unset, .unset, .unset, .unset, .unset, .unset, .unset, .unset, .unset] [(.int (-1 : Int32)), (.int nx), (.ref x3)])) rfl rfl (hb hby d8_69)
  have f375 : own_V Z h374 x3 .int 9 (fun ii => .int ((own_up fU (nx).toNatClampNeg (-1 : Int32)) ii)) := own_V.setI f358 W374
  have f376 := f348.wr W374
  have f377 := f349.other W374 (Or.inl (own_nd hnd 1 7 (by decide) rfl rfl))
  have f378 := f350.other W374 (Or.inl (own_nd hnd 1 7 (by decide) rfl rfl))
  have f379 := f351.wr W374
  have f380 := f352.other W374 (Or.inl (own_nd hnd 2 7 (by decide) rfl rfl))
  have f381 := f353.other W374 (Or.inl (own_nd hnd 2 7 (by decide) rfl rfl))
  have f382 := f354.other W374 (Or.inl (own_nd hnd 2 7 (by decide) rfl rfl))
  have f383 := f355.other W374 (own_nd hnd 3 7 (by decide) rfl rfl)
  have f384 := f356.other W374 (Or.inl (own_nd hnd 0 7 (by decide) rfl rfl))
  have f385 := f357.other W374 (own_nd hnd 4 7 (by decide) rfl rfl)
  have f386 := f359.other W374 (Ne.symm (own_nd hnd 7 8 (by decide) rfl rfl))
  have f387 := f360.other W374 (Ne.symm (own_nd hnd 7 9 (by decide) rfl rfl))
  have f388 := f361.other W374 (Or.inl (own_nd hnd 1 7 (by decide) rfl rfl))
  have f389 := f362.other W374 (Or.inl (own_nd hnd 1 7 (by decide) rfl rfl))
  have f390 := f363.other W374 (Or.inl (own_nd hnd 1 7 (by decide) rfl rfl))
  have f391 := f364.other W374 (Or.inl (own_nd hnd 1 7 (by decide) rfl rfl))
  have f392 := f365.other W374 (Or.inl (own_nd hnd 1 7 (by decide) rfl rfl))
  have f393 := f366.other W374 (Or.inl (own_nd hnd 0 7 (by decide) rfl rfl))
  have f394 := f367.other W374 (Or.inl (own_nd hnd 0 7 (by decide) rfl rfl))
  have f395 := f368.other W374 (own_nd hnd 5 7 (by decide) rfl rfl)
  have f396 := f347.other W374 (own_nd hnd 6 7 (by decide) rfl rfl)
  have Zn397 := Nat.le_trans Zn369 (Keep.of_wr W374).1
  have N398 := Fr.snoc X374 N370 (hge x3 (List.mem_of_getElem? (i := 4) rfl))
  have K399 := K371.wr W374 (Or.inl (List.mem_of_getElem? (i := 4) rfl))
  obtain ⟨T400, lo400, lo_400, hi_400, i_400, u_400, v_400,  X400, N400, e400, fl400, fh400, st400⟩ := loopL0 hw hx hZ hby hml hown a1 t pts co r gc Fg f0a q0a p1 p2 p3 nx (by omega) 67 (9218868437227405312 : UInt64) (18442240474082181120 : UInt64) p1 .unset .unset T374 h374 _ X374 e374 N398 Zn397 own_Two.u (by omega) (Or.inl ⟨rfl, rfl⟩) (Or.inl ⟨rfl, rfl⟩) f376 f384 f377 f378 f379 f380 f381 f382 f383 f385 (by omega)
  obtain ⟨T401, X401, e401, st401⟩ := getF X400 hx hZ hown (host := "") (Or.inl (wd hw 73 rfl)) Via.refl e400 f384 (g := (mkF m 154 #[vR a1, vI p1, vI p2, vI p3, vI 1, vI nx, vI 0, vD 0, .second, vI 0, vD lo_400, .second, vD hi_400, .second, vI i_400, u_400, v_400] [(.ref a1)])) rfl rfl (hb hby d8_154)
  obtain ⟨T402, X402, e402, st402⟩ := getF X401 hx hZ hown (Or.inr (wd hw 115 rfl)) Via.refl e401 f391 (g := (mkF m 157 #[vR a1, vI p1, vI p2, vI p3, vI 1, vI nx, vI 0, vD 0, .second, vI 0, vD lo_400, .second, vD hi_400, .second, vI i_400, u_400, v_400] [(.ref t)])) rfl rfl (hb hby d8_157)
  obtain ⟨T403, h403, X403, e403, W403, st403⟩ := own_sD X402 hx hZ e402 f386 (j := nx) hxn (f := (mkF m 170 #[vR a1, vI p1, vI p2, vI p3, vI 1, vI nx, vI 0, vD 0, .second, vI 0, vD lo_400, .second, vD hi_400, .second, vI i_400, u_400, v_400] [(.double lo_400), (.int nx), (.ref x4)])) rfl rfl (hb hby d8_170)
  have f404 : own_V Z h403 x4 .double 9 (fun ii => .double ((own_up g4a (nx).toNatClampNeg lo_400) ii)) := own_V.setD f386 W403
  have f405 := f376.wr W403
  have f406 := f377.other W403 (Or.inl (own_nd hnd 1 8 (by decide) rfl rfl))
  have f407 := f378.other W403 (Or.inl (own_nd hnd 1 8 (by decide) rfl rfl))
  have f408 := f379.wr W403
  have f409 := f380.other W403 (Or.inl (own_nd hnd 2 8 (by decide) rfl rfl))
  have f410 := f381.other W403 (Or.inl (own_nd hnd 2 8 (by decide) rfl rfl))
  have f411 := f382.other W403 (Or.inl (own_nd hnd 2 8 (by decide) rfl rfl))
  have f412 := f383.other W403 (own_nd hnd 3 8 (by decide) rfl rfl)
  have f413 := f384.other W403 (Or.inl (own_nd hnd 0 8 (by decide) rfl rfl))
  have f414 := f385.other W403 (own_nd hnd 4 8 (by decide) rfl rfl)
  have f415 := f387.other W403 (Ne.symm (own_nd hnd 8 9 (by decide) rfl rfl))
  have f416 := f388.other W403 (Or.inl (own_nd hnd 1 8 (by decide) rfl rfl))
  have f417 := f389.other W403 (Or.inl (own_nd hnd 1 8 (by decide) rfl rfl))
  have f418 := f390.other W403 (Or.inl (own_nd hnd 1 8 (by decide) rfl rfl))
  have f419 := f391.other W403 (Or.inl (own_nd hnd 1 8 (by decide) rfl rfl))
  have f420 := f392.other W403 (Or.inl (own_nd hnd 1 8 (by decide) rfl rfl))
  have f421 := f393.other W403 (Or.inl (own_nd hnd 0 8 (by decide) rfl rfl))
  have f422 := f394.other W403 (Or.inl (own_nd hnd 0 8 (by decide) rfl rfl))
  have f423 := f395.other W403 (own_nd hnd 5 8 (by decide) rfl rfl)
  have f424 := f396.other W403 (own_nd hnd 6 8 (by decide) rfl rfl)
  have f425 := f375.other W403 (own_nd hnd 7 8 (by decide) rfl rfl)
  have Zn426 := Nat.le_trans Zn397 (Keep.of_wr W403).1
  have N427 := Fr.snoc X403 N400 (hge x4 (List.mem_of_getElem? (i := 5) rfl))
  have K428 := K399.wr W403 (Or.inl (List.mem_of_getElem? (i := 5) rfl))
  obtain ⟨T429, X429, e429, st429⟩ := getF X403 hx hZ hown (host := "") (Or.inl (wd hw 73 rfl)) Via.refl e403 f413 (g := (mkF m 172 #[vR a1, vI p1, vI p2, vI p3, vI 1, vI nx, vI 0, vD 0, .second, vI 0, vD lo_400, .second, vD hi_400, .second, vI i_400, u_400, v_400] [(.ref a1)])) rfl rfl (hb hby d8_172)
  obtain ⟨T430, X430, e430, st430⟩ := getF X429 hx hZ hown (Or.inr (wd hw 116 rfl)) Via.refl e429 f420 (g := (mkF m 175 #[vR a1, vI p1, vI p2, vI p3, vI 1, vI nx, vI 0, vD 0, .second, vI 0, vD lo_400, .second, vD hi_400, .second, vI i_400, u_400, v_400] [(.ref t)])) rfl rfl (hb hby d8_175)
  obtain ⟨T431, h431, X431, e431, W431, st431⟩ := own_sD X430 hx hZ e430 f415 (j := nx) hxn (f := (mkF m 188 #[vR a1, vI p1, vI p2, vI p3, vI 1, vI nx, vI 0, vD 0, .second, vI 0, vD lo_400, .second, vD hi_400, .second, vI i_400, u_400, v_400] [(.double hi_400), (.int nx), (.ref x5)])) rfl rfl (hb hby d8_188)
  have f432 : own_V Z h431 x5 .double 9 (fun ii => .double ((own_up g5a (nx).toNatClampNeg hi_400) ii)) := own_V.setD f415 W431
  have f433 := f405.wr W431
  have f434 := f406.other W431 (Or.inl (own_nd hnd 1 9 (by decide) rfl rfl))
  have f435 := f407.other W431 (Or.inl (own_nd hnd 1 9 (by decide) rfl rfl))
  have f436 := f408.wr W431
  have f437 := f409.other W431 (Or.inl (own_nd hnd 2 9 (by decide) rfl rfl))
  have f438 := f410.other W431 (Or.inl (own_nd hnd 2 9 (by decide) rfl rfl))
  have f439 := f411.other W431 (Or.inl (own_nd hnd 2 9 (by decide) rfl rfl))
  have f440 := f412.other W431 (own_nd hnd 3 9 (by decide) rfl rfl)
  have f441 := f413.other W431 (Or.inl (own_nd hnd 0 9 (by decide) rfl rfl))
  have f442 := f414.other W431 (own_nd hnd 4 9 (by decide) rfl rfl)
  have f443 := f416.other W431 (Or.inl (own_nd hnd 1 9 (by decide) rfl rfl))
  have f444 := f417.other W431 (Or.inl (own_nd hnd 1 9 (by decide) rfl rfl))
  have f445 := f418.other W431 (Or.inl (own_nd hnd 1 9 (by decide) rfl rfl))
  have f446 := f419.other W431 (Or.inl (own_nd hnd 1 9 (by decide) rfl rfl))
  have f447 := f420.other W431 (Or.inl (own_nd hnd 1 9 (by decide) rfl rfl))
  have f448 := f421.other W431 (Or.inl (own_nd hnd 0 9 (by decide) rfl rfl))
  have f449 := f422.other W431 (Or.inl (own_nd hnd 0 9 (by decide) rfl rfl))
  have f450 := f423.other W431 (own_nd hnd 5 9 (by decide) rfl rfl)
  have f451 := f424.other W431 (own_nd hnd 6 9 (by decide) rfl rfl)
  have f452 := f425.other W431 (own_nd hnd 7 9 (by decide) rfl rfl)
  have f453 := f404.other W431 (own_nd hnd 8 9 (by decide) rfl rfl)
  have Zn454 := Nat.le_trans Zn426 (Keep.of_wr W431).1
  have N455 := Fr.snoc X431 N427 (hge x5 (List.mem_of_getElem? (i := 6) rfl))
  have K456 := K428.wr W431 (Or.inl (List.mem_of_getElem? (i := 6) rfl))
  obtain ⟨cw, hcw⟩ : ∃ z, cmpValue (FP.dcmp (FP.dsub hi_400 lo_400) (0 : UInt64)) .l = z := ⟨_, rfl⟩
  obtain ⟨v458, hv458⟩ : ∃ v : UInt64, v = if (0 : Int32) < cw then (FP.dsub hi_400 lo_400) else (0 : UInt64) := ⟨_, rfl⟩
  obtain ⟨fs, hr, hrun, hended, hW, hsame⟩ := X431.leave (v := none) (fun _ => rfl)
  refine ⟨_, _, pre0 _ ?_, hrun, hended, _, _, rfl, ?_, ⟨_, rfl⟩, hW, hsame.mono (by decide) (by decide)⟩
  · show Steps p.tables e below (s₁.setTop (mkF m 0 #[vR a1, vI p1, vI p2, vI p3, .unset, .unset, .unset, .unset, .unset, .unset, .unset, .unset, .unset, .unset, .unset, .unset, .unset] [])) _
    refine XS.aloadN X0.here hx rfl (hb hby d8_0) rfl rfl ?_
    show Steps p.tables e below (s₁.setTop (mkF m 1 #[vR a1, vI p1, vI p2, vI p3, .unset, .unset, .unset, .unset, .unset, .unset, .unset, .unset, .unset, .unset, .unset, .unset, .unset] [(.ref a1)])) _
    refine st256 _ ?_
    show Steps p.tables e below (T256.setTop (mkF m 4 #[vR a1, vI p1, vI p2, vI p3, .unset, .unset, .unset, .unset, .unset, .unset, .unset, .unset, .unset, .unset, .unset, .unset, .unset] [(.ref t)])) _
    refine st257 _ ?_
    show Steps p.tables e below (T257.setTop (mkF m 7 #[vR a1, vI p1, vI p2, vI p3, .unset, .unset, .unset, .unset, .unset, .unset, .unset, .unset, .unset, .unset, .unset, .unset, .unset] [(.ref pts)])) _
    refine st258.trans ?_
    show Steps p.tables e below (T258.setTop (mkF m 10 #[vR a1, vI p1, vI p2, vI p3, .unset, .unset, .unset, .unset, .unset, .unset, .unset, .unset, .unset, .unset, .unset, .unset, .unset] [(.int (1 : Int32))])) _
    refine XS.istore X258.here hx rfl (hb hby d8_10) rfl (l' := #[vR a1, vI p1, vI p2, vI p3, vI 1, .unset, .unset, .unset, .unset, .unset, .unset, .unset, .unset, .unset, .unset, .unset, .unset]) rfl ?_
    refine XS.aloadN X258.here hx rfl (hb hby d8_12) rfl rfl ?_
    refine XS.dup X258.here hx rfl (hb hby d8_13) rfl rfl ?_
    show Steps p.tables e below (T258.setTop (mkF m 14 #[vR a1, vI p1, vI p2, vI p3, vI 1, .unset, .unset, .unset, .unset, .unset, .unset, .unset, .unset, .unset, .unset, .unset, .unset] [(.ref a1), (.ref a1)])) _
    refine st260 _ ?_
    show Steps p.tables e below (T260.setTop (mkF m 17 #[vR a1, vI p1, vI p2, vI p3, vI 1, .unset, .unset, .unset, .unset, .unset, .unset, .unset, .unset, .unset, .unset, .unset, .unset] [(.int nx), (.ref a1)])) _
    refine XS.dupX1 X260.here hx rfl (hb hby d8_17) rfl rfl rfl ?_
    refine XS.iconst X260.here hx rfl (hb hby d8_18) ?_
    refine XS.iadd X260.here hx rfl (hb hby d8_19) rfl ?_
    show Steps p.tables e below (T260.setTop (mkF m 20 #[vR a1, vI p1, vI p2, vI p3, vI 1, .unset, .unset, .unset, .unset, .unset, .unset, .unset, .unset, .unset, .unset, .unset, .unset] [(.int (nx + (1 : Int32))), (.ref a1), (.int nx)])) _
    refine st261 _ ?_
    show Steps p.tables e below (T261.setTop (mkF m 23 #[vR a1, vI p1, vI p2, vI p3, vI 1, .unset, .unset, .unset, .unset, .unset, .unset, .unset, .unset, .unset, .unset, .unset, .unset] [(.int nx)])) _
    refine XS.istore X261.here hx rfl (hb hby d8_23) rfl (l' := #[vR a1, vI p1, vI p2, vI p3, vI 1, vI nx, .unset, .unset, .unset, .unset, .unset, .unset, .unset, .unset, .unset, .unset, .unset]) rfl ?_
    refine XS.aloadN X261.here hx rfl (hb hby d8_25) rfl rfl ?_
    refine XS.aloadN X261.here hx rfl (hb hby d8_26) rfl rfl ?_
    show Steps p.tables e below (T261.setTop (mkF m 27 #[vR a1, vI p1, vI p2, vI p3, vI 1, vI nx, .unset, .unset, .unset, .unset, .unset, .unset, .unset, .unset, .unset, .unset, .unset] [(.ref a1), (.ref a1)])) _
    refine st287 _ ?_
    show Steps p.tables e below (T287.setTop (mkF m 30 #[vR a1, vI p1, vI p2, vI p3, vI 1, vI nx, .unset, .unset, .unset, .unset, .unset, .unset, .unset, .unset, .unset, .unset, .unset] [(.int dpa), (.ref a1)])) _
    refine XS.iloadN X287.here hx rfl (hb hby d8_30) rfl ?_
    show Steps p.tables e below (T287.setTop (mkF m 31 #[vR a1, vI p1, vI p2, vI p3, vI 1, vI nx, .unset, .unset, .unset, .unset, .unset, .unset, .unset, .unset, .unset, .unset, .unset] [(.int p3), (.int dpa), (.ref a1)])) _
    refine st288 _ ?_
    show Steps p.tables e below (T288.setTop (mkF m 34 #[vR a1, vI p1, vI p2, vI p3, vI 1, vI nx, .unset, .unset, .unset, .unset, .unset, .unset, .unset, .unset, .unset, .unset, .unset] [(.int (own_max dpa p3)), (.ref a1)])) _
    refine st290 _ ?_
    show Steps p.tables e below (T290.setTop (mkF m 37 #[vR a1, vI p1, vI p2, vI p3, vI 1, vI nx, .unset, .unset, .unset, .unset, .unset, .unset, .unset, .unset, .unset, .unset, .unset] [])) _
    refine XS.aloadN X290.here hx rfl (hb hby d8_37) rfl rfl ?_
    show Steps p.tables e below (T290.setTop (mkF m 38 #[vR a1, vI p1, vI p2, vI p3, vI 1, vI nx, .unset, .unset, .unset, .unset, .unset, .unset, .unset, .unset, .unset, .unset, .unset] [(.ref a1)])) _
    refine st316 _ ?_
    show Steps p.tables e below (T316.setTop (mkF m 41 #[vR a1, vI p1, vI p2, vI p3, vI 1, vI nx, .unset, .unset, .unset, .unset, .unset, .unset, .unset, .unset, .unset, .unset, .unset] [(.ref t)])) _
    refine st317 _ ?_
    show Steps p.tables e below (T317.setTop (mkF m 44 #[vR a1, vI p1, vI p2, vI p3, vI 1, vI nx, .unset, .unset, .unset, .unset, .unset, .unset, .unset, .unset, .unset, .unset, .unset] [(.ref x1)])) _
    refine XS.iload X317.here hx rfl (hb hby d8_44) rfl ?_
    refine XS.iloadN X317.here hx rfl (hb hby d8_46) rfl ?_
    show Steps p.tables e below (T317.setTop (mkF m 47 #[vR a1, vI p1, vI p2, vI p3, vI 1, vI nx, .unset, .unset, .unset, .unset, .unset, .unset, .unset, .unset, .unset, .unset, .unset] [(.int p1), (.int nx), (.ref x1)])) _
    refine st318 _ ?_
    show Steps p.tables e below (T318.setTop (mkF m 48 #[vR a1, vI p1, vI p2, vI p3, vI 1, vI nx, .unset, .unset, .unset, .unset, .unset, .unset, .unset, .unset, .unset, .unset, .unset] [])) _
    refine XS.aloadN X318.here hx rfl (hb hby d8_48) rfl rfl ?_
    show Steps p.tables e below (T318.setTop (mkF m 49 #[vR a1, vI p1, vI p2, vI p3, vI 1, vI nx, .unset, .unset, .unset, .unset, .unset, .unset, .unset, .unset, .unset, .unset, .unset] [(.ref a1)])) _
    refine st344 _ ?_
    show Steps p.tables e below (T344.setTop (mkF m 52 #[vR a1, vI p1, vI p2, vI p3, vI 1, vI nx, .unset, .unset, .unset, .unset, .unset, .unset, .unset, .unset, .unset, .unset, .unset] [(.ref t)])) _
    refine st345 _ ?_
    show Steps p.tables e below (T345.setTop (mkF m 55 #[vR a1, vI p1, vI p2, vI p3, vI 1, vI nx, .unset, .unset, .unset, .unset, .unset, .unset, .unset, .unset, .unset, .unset, .unset] [(.ref x2)])) _
    refine XS.iload X345.here hx rfl (hb hby d8_55) rfl ?_
    refine XS.iloadN X345.here hx rfl (hb hby d8_57) rfl ?_
    show Steps p.tables e below (T345.setTop (mkF m 58 #[vR a1, vI p1, vI p2, vI p3, vI 1, vI nx, .unset, .unset, .unset, .unset, .unset, .unset, .unset, .unset, .unset, .unset, .unset] [(.int p2), (.int nx), (.ref x2)])) _
    refine st346 _ ?_
    show Steps p.tables e below (T346.setTop (mkF m 59 #[vR a1, vI p1, vI p2, vI p3, vI 1, vI nx, .unset, .unset, .unset, .unset, .unset, .unset, .unset, .unset, .unset, .unset, .unset] [])) _
    refine XS.aloadN X346.here hx rfl (hb hby d8_59) rfl rfl ?_
    show Steps p.tables e below (T346.setTop (mkF m 60 #[vR a1, vI p1, vI p2, vI p3, vI 1, vI nx, .unset, .unset, .unset, .unset, .unset, .unset, .unset, .unset, .unset, .unset, .unset] [(.ref a1)])) _
    refine st372 _ ?_
    show Steps p.tables e below (T372.setTop (mkF m 63 #[vR a1, vI p1, vI p2, vI p3, vI 1, vI nx, .unset, .unset, .unset, .unset, .unset, .unset, .unset, .unset, .unset, .unset, .unset] [(.ref t)])) _
    refine st373 _ ?_
    show Steps p.tables e below (T373.setTop (mkF m 66 #[vR a1, vI p1, vI p2, vI p3, vI 1, vI nx, .unset, .unset, .unset, .unset, .unset, .unset, .unset, .unset, .unset, .unset, .unset] [(.ref x3)])) _
    refine XS.iload X373.here hx rfl (hb hby d8_66) rfl ?_
    refine XS.iconst X373.here hx rfl (hb hby d8_68) ?_
    show Steps p.tables e below (T373.setTop (mkF m 69 #[vR a1, vI p1, vI p2, vI p3, vI 1, vI nx, .unset, .unset, .unset, .unset, .unset, .unset, .unset, .unset, .unset, .unset, .unset] [(.int (-1 : Int32)), (.int nx), (.ref x3)])) _
    refine st374 _ ?_
    show Steps p.tables e below (T374.setTop (mkF m 70 #[vR a1, vI p1, vI p2, vI p3, vI 1, vI nx, .unset, .unset, .unset, .unset, .unset, .unset, .unset, .unset, .unset, .unset, .unset] [])) _
    refine XS.iconst X374.here hx rfl (hb hby d8_70) ?_
    refine XS.istore X374.here hx rfl (hb hby d8_71) rfl (l' := #[vR a1, vI p1, vI p2, vI p3, vI 1, vI nx, vI 0, .unset, .unset, .unset, .unset, .unset, .unset, .unset, .unset, .unset, .unset]) rfl ?_
    show Steps p.tables e below (T374.setTop (mkF m 73 #[vR a1, vI p1, vI p2, vI p3, vI 1, vI nx, vI 0, .unset, .unset, .unset, .unset, .unset, .unset, .unset, .unset, .unset, .unset] [])) _
    refine own_szero X374.here hx (hb hby d8_73) ?_
    show Steps p.tables e below (T374.setTop (mkF m 74 #[vR a1, vI p1, vI p2, vI p3, vI 1, vI nx, vI 0, .unset, .unset, .unset, .unset, .unset, .unset, .unset, .unset, .unset, .unset] [(.double (0 : UInt64))])) _
    refine own_sstore X374.here hx (l' := #[vR a1, vI p1, vI p2, vI p3, vI 1, vI nx, vI 0, vD 0, .second, .unset, .unset, .unset, .unset, .unset, .unset, .unset, .unset]) (hb hby d8_74) rfl ?_
    show Steps p.tables e below (T374.setTop (mkF m 76 #[vR a1, vI p1, vI p2, vI p3, vI 1, vI nx, vI 0, vD 0, .second, .unset, .unset, .unset, .unset, .unset, .unset, .unset, .unset] [])) _
    refine XS.iconst X374.here hx rfl (hb hby d8_76) ?_
    refine XS.istore X374.here hx rfl (hb hby d8_77) rfl (l' := #[vR a1, vI p1, vI p2, vI p3, vI 1, vI nx, vI 0, vD 0, .second, vI 0, .unset, .unset, .unset, .unset, .unset, .unset, .unset]) rfl ?_
    refine XS.iload X374.here hx rfl (hb hby d8_79) rfl ?_
    refine XS.iload X374.here hx rfl (hb hby d8_81) rfl ?_
    refine XS.icmpNo X374.here hx rfl (hb hby d8_83) rfl (tlt (by decide)).2.1 ?_
    show Steps p.tables e below (T374.setTop (mkF m 86 #[vR a1, vI p1, vI p2, vI p3, vI 1, vI nx, vI 0, vD 0, .second, vI 0, .unset, .unset, .unset, .unset, .unset, .unset, .unset] [])) _
    refine X374.ldc2DoubleC hx hown (mvT hZ (wd hw 93 rfl)) (g := (mkF m 86 #[vR a1, vI p1, vI p2, vI p3, vI 1, vI nx, vI 0, vD 0, .second, vI 0, .unset, .unset, .unset, .unset, .unset, .unset, .unset] [])) rfl (hb hby d8_86) _ ?_
    show Steps p.tables e below (T374.setTop (mkF m 89 #[vR a1, vI p1, vI p2, vI p3, vI 1, vI nx, vI 0, vD 0, .second, vI 0, .unset, .unset, .unset, .unset, .unset, .unset, .unset] [(.double (9218868437227405312 : UInt64))])) _
    refine own_sstore X374.here hx (l' := #[vR a1, vI p1, vI p2, vI p3, vI 1, vI nx, vI 0, vD 0, .second, vI 0, vD 9218868437227405312, .second, .unset, .unset, .unset, .unset, .unset]) (hb hby d8_89) rfl ?_
    show Steps p.tables e below (T374.setTop (mkF m 91 #[vR a1, vI p1, vI p2, vI p3, vI 1, vI nx, vI 0, vD 0, .second, vI 0, vD 9218868437227405312, .second, .unset, .unset, .unset, .unset, .unset] [])) _
    refine X374.ldc2DoubleC hx hown (mvT hZ (wd hw 94 rfl)) (g := (mkF m 91 #[vR a1, vI p1, vI p2, vI p3, vI 1, vI nx, vI 0, vD 0, .second, vI 0, vD 9218868437227405312, .second, .unset, .unset, .unset, .unset, .unset] [])) rfl (hb hby d8_91) _ ?_
    show Steps p.tables e below (T374.setTop (mkF m 94 #[vR a1, vI p1, vI p2, vI p3, vI 1, vI nx, vI 0, vD 0, .second, vI 0, vD 9218868437227405312, .second, .unset, .unset, .unset, .unset, .unset] [(.double (18442240474082181120 : UInt64))])) _
    refine own_sstore X374.here hx (l' := #[vR a1, vI p1, vI p2, vI p3, vI 1, vI nx, vI 0, vD 0, .second, vI 0, vD 9218868437227405312, .second, vD 18442240474082181120, .second, .unset, .unset, .unset]) (hb hby d8_94) rfl ?_
    show Steps p.tables e below (T374.setTop (mkF m 96 #[vR a1, vI p1, vI p2, vI p3, vI 1, vI nx, vI 0, vD 0, .second, vI 0, vD 9218868437227405312, .second, vD 18442240474082181120, .second, .unset, .unset, .unset] [])) _
    refine XS.iloadN X374.here hx rfl (hb hby d8_96) rfl ?_
    refine XS.istore X374.here hx rfl (hb hby d8_97) rfl (l' := #[vR a1, vI p1, vI p2, vI p3, vI 1, vI nx, vI 0, vD 0, .second, vI 0, vD 9218868437227405312, .second, vD 18442240474082181120, .second, vI p1, .unset, .unset]) rfl ?_
    show Steps p.tables e below (T374.setTop (mkF m 99 #[vR a1, vI p1, vI p2, vI p3, vI 1, vI nx, vI 0, vD 0, .second, vI 0, vD 9218868437227405312, .second, vD 18442240474082181120, .second, vI p1, .unset, .unset] [])) _
    refine st400 _ ?_
    show Steps p.tables e below (T400.setTop (mkF m 153 #[vR a1, vI p1, vI p2, vI p3, vI 1, vI nx, vI 0, vD 0, .second, vI 0, vD lo_400, .second, vD hi_400, .second, vI i_400, u_400, v_400] [])) _
    refine XS.aloadN X400.here hx rfl (hb hby d8_153) rfl rfl ?_
    show Steps p.tables e below (T400.setTop (mkF m 154 #[vR a1, vI p1, vI p2, vI p3, vI 1, vI nx, vI 0, vD 0, .second, vI 0, vD lo_400, .second, vD hi_400, .second, vI i_400, u_400, v_400] [(.ref a1)])) _
    refine st401 _ ?_
    show Steps p.tables e below (T401.setTop (mkF m 157 #[vR a1, vI p1, vI p2, vI p3, vI 1, vI nx, vI 0, vD 0, .second, vI 0, vD lo_400, .second, vD hi_400, .second, vI i_400, u_400, v_400] [(.ref t)])) _
    refine st402 _ ?_
    show Steps p.tables e below (T402.setTop (mkF m 160 #[vR a1, vI p1, vI p2, vI p3, vI 1, vI nx, vI 0, vD 0, .second, vI 0, vD lo_400, .second, vD hi_400, .second, vI i_400, u_400, v_400] [(.ref x4)])) _
    refine XS.iload X402.here hx rfl (hb hby d8_160) rfl ?_
    refine XS.iload X402.here hx rfl (hb hby d8_162) rfl ?_
    refine XS.imul X402.here hx rfl (hb hby d8_164) rfl ?_
    refine XS.iload X402.here hx rfl (hb hby d8_165) rfl ?_
    refine XS.iadd X402.here hx rfl (hb hby d8_167) rfl ?_
    show Steps p.tables e below (T402.setTop (mkF m 168 #[vR a1, vI p1, vI p2, vI p3, vI 1, vI nx, vI 0, vD 0, .second, vI 0, vD lo_400, .second, vD hi_400, .second, vI i_400, u_400, v_400] [(.int ((nx * (1 : Int32)) + (0 : Int32))), (.ref x4)])) _
    refine own_sload X402.here hx (hb hby d8_168) rfl ?_
    show Steps p.tables e below (T402.setTop (mkF m 170 #[vR a1, vI p1, vI p2, vI p3, vI 1, vI nx, vI 0, vD 0, .second, vI 0, vD lo_400, .second, vD hi_400, .second, vI i_400, u_400, v_400] [(.double lo_400), (.int ((nx * (1 : Int32)) + (0 : Int32))), (.ref x4)])) _
    rw [own_idx]
    show Steps p.tables e below (T402.setTop (mkF m 170 #[vR a1, vI p1, vI p2, vI p3, vI 1, vI nx, vI 0, vD 0, .second, vI 0, vD lo_400, .second, vD hi_400, .second, vI i_400, u_400, v_400] [(.double lo_400), (.int nx), (.ref x4)])) _
    refine st403 _ ?_
    show Steps p.tables e below (T403.setTop (mkF m 171 #[vR a1, vI p1, vI p2, vI p3, vI 1, vI nx, vI 0, vD 0, .second, vI 0, vD lo_400, .second, vD hi_400, .second, vI i_400, u_400, v_400] [])) _
    refine XS.aloadN X403.here hx rfl (hb hby d8_171) rfl rfl ?_
    show Steps p.tables e below (T403.setTop (mkF m 172 #[vR a1, vI p1, vI p2, vI p3, vI 1, vI nx, vI 0, vD 0, .second, vI 0, vD lo_400, .second, vD hi_400, .second, vI i_400, u_400, v_400] [(.ref a1)])) _
    refine st429 _ ?_
    show Steps p.tables e below (T429.setTop (mkF m 175 #[vR a1, vI p1, vI p2, vI p3, vI 1, vI nx, vI 0, vD 0, .second, vI 0, vD lo_400, .second, vD hi_400, .second, vI i_400, u_400, v_400] [(.ref t)])) _
    refine st430 _ ?_
    show Steps p.tables e below (T430.setTop (mkF m 178 #[vR a1, vI p1, vI p2, vI p3, vI 1, vI nx, vI 0, vD 0, .second, vI 0, vD lo_400, .second, vD hi_400, .second, vI i_400, u_400, v_400] [(.ref x5)])) _
    refine XS.iload X430.here hx rfl (hb hby d8_178) rfl ?_
    refine XS.iload X430.here hx rfl (hb hby d8_180) rfl ?_
    refine XS.imul X430.here hx rfl (hb hby d8_182) rfl ?_
    refine XS.iload X430.here hx rfl (hb hby d8_183) rfl ?_
    refine XS.iadd X430.here hx rfl (hb hby d8_185) rfl ?_
    show Steps p.tables e below (T430.setTop (mkF m 186 #[vR a1, vI p1, vI p2, vI p3, vI 1, vI nx, vI 0, vD 0, .second, vI 0, vD lo_400, .second, vD hi_400, .second, vI i_400, u_400, v_400] [(.int ((nx * (1 : Int32)) + (0 : Int32))), (.ref x5)])) _
    refine own_sload X430.here hx (hb hby d8_186) rfl ?_
    show Steps p.tables e below (T430.setTop (mkF m 188 #[vR a1, vI p1, vI p2, vI p3, vI 1, vI nx, vI 0, vD 0, .second, vI 0, vD lo_400, .second, vD hi_400, .second, vI i_400, u_400, v_400] [(.double hi_400), (.int ((nx * (1 : Int32)) + (0 : Int32))), (.ref x5)])) _
    rw [own_idx]
    show Steps p.tables e below (T430.setTop (mkF m 188 #[vR a1, vI p1, vI p2, vI p3, vI 1, vI nx, vI 0, vD 0, .second, vI 0, vD lo_400, .second, vD hi_400, .second, vI i_400, u_400, v_400] [(.double hi_400), (.int nx), (.ref x5)])) _
    refine st431 _ ?_
    show Steps p.tables e below (T431.setTop (mkF m 189 #[vR a1, vI p1, vI p2, vI p3, vI 1, vI nx, vI 0, vD 0, .second, vI 0, vD lo_400, .second, vD hi_400, .second, vI i_400, u_400, v_400] [])) _
    refine own_sload X431.here hx (hb hby d8_189) rfl ?_
    show Steps p.tables e below (T431.setTop (mkF m 191 #[vR a1, vI p1, vI p2, vI p3, vI 1, vI nx, vI 0, vD 0, .second, vI 0, vD lo_400, .second, vD hi_400, .second, vI i_400, u_400, v_400] [(.double hi_400)])) _
    refine own_sload X431.here hx (hb hby d8_191) rfl ?_
    show Steps p.tables e below (T431.setTop (mkF m 193 #[vR a1, vI p1, vI p2, vI p3, vI 1, vI nx, vI 0, vD 0, .second, vI 0, vD lo_400, .second, vD hi_400, .second, vI i_400, u_400, v_400] [(.double lo_400), (.double hi_400)])) _
    refine own_ssub X431.here hx (hb hby d8_193) (Jvm.Free.Fl.val64_no.mpr (Jvm.Free.Fl.val64_no.mp (Jvm.Free.Fl.dsub_out fh400.noNaN fl400))) ?_
    show Steps p.tables e below (T431.setTop (mkF m 194 #[vR a1, vI p1, vI p2, vI p3, vI 1, vI nx, vI 0, vD 0, .second, vI 0, vD lo_400, .second, vD hi_400, .second, vI i_400, u_400, v_400] [(.double (FP.dsub hi_400 lo_400))])) _
    refine own_sload X431.here hx (hb hby d8_194) rfl ?_
    show Steps p.tables e below (T431.setTop (mkF m 196 #[vR a1, vI p1, vI p2, vI p3, vI 1, vI nx, vI 0, vD 0, .second, vI 0, vD lo_400, .second, vD hi_400, .second, vI i_400, u_400, v_400] [(.double (0 : UInt64)), (.double (FP.dsub hi_400 lo_400))])) _
    refine own_scmp X431.here hx (z := cw) (hb hby d8_196) hcw ?_
    refine joinS (B := T431.setTop (mkF m 211 #[vR a1, vI p1, vI p2, vI p3, vI 1, vI nx, vI 0, vD v458, .second, vI 0, vD lo_400, .second, vD hi_400, .second, vI i_400, u_400, v_400] [])) (fun kt => ?_) ?_
    · by_cases hc457 : (0 : Int32) < cw
      · rw [show v458 = (FP.dsub hi_400 lo_400) from by rw [hv458, if_pos hc457]] at kt
        show Steps p.tables e below (T431.setTop (mkF m 197 #[vR a1, vI p1, vI p2, vI p3, vI 1, vI nx, vI 0, vD 0, .second, vI 0, vD lo_400, .second, vD hi_400, .second, vI i_400, u_400, v_400] [(.int cw)])) _
        refine XS.ifNo X431.here hx rfl (hb hby d8_197) rfl ((if0 _ _).trans (tlt hc457).2.2.2) ?_
        refine XS.iload X431.here hx rfl (hb hby d8_200) rfl ?_
        refine XS.istore X431.here hx rfl (hb hby d8_202) rfl (l' := #[vR a1, vI p1, vI p2, vI p3, vI 1, vI nx, vI 0, vD 0, .second, vI 0, vD lo_400, .second, vD hi_400, .second, vI i_400, u_400, v_400]) rfl ?_
        show Steps p.tables e below (T431.setTop (mkF m 204 #[vR a1, vI p1, vI p2, vI p3, vI 1, vI nx, vI 0, vD 0, .second, vI 0, vD lo_400, .second, vD hi_400, .second, vI i_400, u_400, v_400] [])) _
        refine own_sload X431.here hx (hb hby d8_204) rfl ?_
        show Steps p.tables e below (T431.setTop (mkF m 206 #[vR a1, vI p1, vI p2, vI p3, vI 1, vI nx, vI 0, vD 0, .second, vI 0, vD lo_400, .second, vD hi_400, .second, vI i_400, u_400, v_400] [(.double hi_400)])) _
        refine own_sload X431.here hx (hb hby d8_206) rfl ?_
        show Steps p.tables e below (T431.setTop (mkF m 208 #[vR a1, vI p1, vI p2, vI p3, vI 1, vI nx, vI 0, vD 0, .second, vI 0, vD lo_400, .second, vD hi_400, .second, vI i_400, u_400, v_400] [(.double lo_400), (.double hi_400)])) _
        refine own_ssub X431.here hx (hb hby d8_208) (Jvm.Free.Fl.val64_no.mpr (Jvm.Free.Fl.val64_no.mp (Jvm.Free.Fl.dsub_out fh400.noNaN fl400))) ?_
        show Steps p.tables e below (T431.setTop (mkF m 209 #[vR a1, vI p1, vI p2, vI p3, vI 1, vI nx, vI 0, vD 0, .second, vI 0, vD lo_400, .second, vD hi_400, .second, vI i_400, u_400, v_400] [(.double (FP.dsub hi_400 lo_400))])) _
        refine own_sstore X431.here hx (l' := #[vR a1, vI p1, vI p2, vI p3, vI 1, vI nx, vI 0, vD (FP.dsub hi_400 lo_400), .second, vI 0, vD lo_400, .second, vD hi_400, .second, vI i_400, u_400, v_400]) (hb hby d8_209) rfl ?_
        exact kt
      · rw [show v458 = (0 : UInt64) from by rw [hv458, if_neg hc457]] at kt
        show Steps p.tables e below (T431.setTop (mkF m 197 #[vR a1, vI p1, vI p2, vI p3, vI 1, vI nx, vI 0, vD 0, .second, vI 0, vD lo_400, .second, vD hi_400, .second, vI i_400, u_400, v_400] [(.int cw)])) _
        refine XS.ifYes X431.here hx rfl (pc0 := 197) (pc' := 211) rfl (hb hby d8_197) rfl ((if0 _ _).trans (flt hc457).2.2.2) (by decide) (by decide) ?_
        exact kt
    show Steps p.tables e below (T431.setTop (mkF m 211 #[vR a1, vI p1, vI p2, vI p3, vI 1, vI nx, vI 0, vD v458, .second, vI 0, vD lo_400, .second, vD hi_400, .second, vI i_400, u_400, v_400] [])) _
    refine XS.iinc X431.here hx rfl (hb hby d8_211) rfl (l' := #[vR a1, vI p1, vI p2, vI p3, vI 1, vI nx, vI 0, vD v458, .second, vI 1, vD lo_400, .second, vD hi_400, .second, vI i_400, u_400, v_400]) rfl ?_
    refine XS.goto X431.here hx rfl (pc0 := 214) (pc' := 79) rfl (hb hby d8_214) (by decide) (by decide) ?_
    refine XS.iload X431.here hx rfl (hb hby d8_79) rfl ?_
    refine XS.iload X431.here hx rfl (hb hby d8_81) rfl ?_
    refine XS.icmpYes X431.here hx rfl (pc0 := 83) (pc' := 217) rfl (hb hby d8_83) rfl (flt (by decide)).2.1 (by decide) (by decide) ?_
    refine XS.iloadN X431.here hx rfl (hb hby d8_217) rfl ?_
    refine XS.iloadN X431.here hx rfl (hb hby d8_218) rfl ?_
    show Steps p.tables e below (T431.setTop (mkF m 219 #[vR a1, vI p1, vI p2, vI p3, vI 1, vI nx, vI 0, vD v458, .second, vI 1, vD lo_400, .second, vD hi_400, .second, vI i_400, u_400, v_400] [(.int p1), (.int p2)])) _
    refine XS.isub X431.here hx rfl (hb hby d8_219) rfl ?_
    refine XS.bipush X431.here hx rfl (hb hby d8_220) ?_
    refine XS.icmpYes X431.here hx rfl (pc0 := 222) (pc' := 283) rfl (hb hby d8_222) rfl (flt (own_le32 pd1 (by omega))).2.2.2 (by decide) (by decide) ?_
    show Steps p.tables e below (T431.setTop (mkF m 283 #[vR a1, vI p1, vI p2, vI p3, vI 1, vI nx, vI 0, vD v458, .second, vI 1, vD lo_400, .second, vD hi_400, .second, vI i_400, u_400, v_400] [])) _
    exact X431.returnOut hx Bd.returns (hb hby d8_283) hr
  · show Qrm8_0 Z a1 p1 p2 p3 t pts co r x1 x2 x3 x4 x5 gc nx fF fE fU h0 n0 _ T431.heap _
    rw [e431]
    exact ⟨rfl, N455, K456, _, _, _, _, own_rel_leaf _ ⟨rfl, rfl, rfl, rfl⟩, ⟨f441, f448, ⟨_, f449⟩, ⟨_, f442, q0a⟩, f450, f451, f452, ⟨_, f453⟩, ⟨_, f432⟩⟩⟩
set_option maxRecDepth 65536 in
set_option maxHeartbeats 40000000 in
theorem loopL1 {p : Program} {l : Launch} {e : Env} {s : State} {m : MethodId} {args : Array Value} {below : List Frame} {meth : Method} {c : Code} {Z : State} {a0 : Array Value} {n0 : Nat} (hw : ∀ d ∈ tables_1, d.before a0 Z = true) (hx : p.tables.exec = Jvm.exec) (hZ : Z.Warmed39 s.vm) (hby : c.code = prog_54_method_2_code) (hml : c.maxLocals = 17) (hown : s.vm.findClass "com/example/flatfinder/flatfinder/neighbours/KdTree$Builder" = some m.cls) (a1 : Addr) (t : Addr) (pts : Addr) (co : Addr) (r : Addr) (gc : Nat → UInt64) (Fg : ∀ i, Jvm.Free.Fl.Fin64 (gc i)) (f0 : Nat → Int32) (q0 : ∀ i, own_ix 66 (f0 i)) (p1 : Int32) (p2 : Int32) (p3 : Int32) (nx : Int32) (hp : 0 ≤ p1.toInt ∧ p1.toInt < p2.toInt ∧ p2.toInt ≤ 66) :
    ∀ (k : Nat) (lo : UInt64) (hi : UInt64) (i : Int32) (s15 : Slot) (s16 : Slot) (T : State) (h : Heap) (locs : List Loc) (X0 : Stand p l e ({ frames := 4, cells := 1, slots := 66, locals := 81 } : Room) s m args below meth c T locs 0 0) (e0 : T.heap = h) (N0 : Fr n0 locs) (Z0 : n0 ≤ h.size) (hs15 : own_Two s15 s16) (hi_ : p1.toInt ≤ i.toInt ∧ i.toInt ≤ p2.toInt) (hlo : (lo = (9218868437227405312 : UInt64) ∧ i.toInt = p1.toInt) ∨ Jvm.Free.Fl.Fin64 lo) (hhi : (hi = (18442240474082181120 : UInt64) ∧ i.toInt = p1.toInt) ∨ Jvm.Free.Fl.Fin64 hi) (Eb : Exa Z h a1 "com/example/flatfinder/flatfinder/neighbours/KdTree$Builder") (Ft : Fld Z h a1 "com/example/flatfinder/flatfinder/neighbours/KdTree$Builder" "this$0" "Lcom/example/flatfinder/flatfinder/neighbours/KdTree;" (.ref t)) (Fp : Fld Z h t "com/example/flatfinder/flatfinder/neighbours/KdTree" "points" "Lcom/example/flatfinder/flatfinder/neighbours/Points;" (.ref pts)) (Frw : Fld Z h t "com/example/flatfinder/flatfinder/neighbours/KdTree" "rows" "[I" (.ref r)) (Ep : Exa Z h pts "com/example/flatfinder/flatfinder/neighbours/Points") (Fs : Fld Z h pts "com/example/flatfinder/flatfinder/neighbours/Points" "size" "I" (.int (66 : Int32))) (Fd : Fld Z h pts "com/example/flatfinder/flatfinder/neighbours/Points" "dimensions" "I" (.int (1 : Int32))) (Fc : Fld Z h pts "com/example/flatfinder/flatfinder/neighbours/Points" "coordinates" "[D" (.ref co)) (Vc : own_V Z h co .double 66 (fun ii => .double (gc ii))) (V0 : own_V Z h r .int 66 (fun ii => .int (f0 ii))) (hk : (p2.toInt - i.toInt).toNat < k),
      ∃ (T' : State) (locs' : List Loc) (lo' : UInt64) (hi' : UInt64) (i' : Int32) (u' : Slot) (v' : Slot), Stand p l e ({ frames := 4, cells := 1, slots := 66, locals := 81 } : Room) s m args below meth c T' locs' 0 0 ∧ Fr n0 locs' ∧ T'.heap = h ∧ Jvm.Free.Fl.Fin64 lo' ∧ Jvm.Free.Fl.Fin64 hi' ∧ ∀ target, Steps p.tables e below (T'.setTop (mkF m 153 #[vR a1, vI p1, vI p2, vI p3, vI 1, vI nx, vI 0, vD 0, .second, vI 0, vD lo', .second, vD hi', .second, vI i', u', v'] [])) target → Steps p.tables e below (T.setTop (mkF m 99 #[vR a1, vI p1, vI p2, vI p3, vI 1, vI nx, vI 0, vD 0, .second, vI 0, vD lo, .second, vD hi, .second, vI i, s15, s16] [])) target := by
  intro k
  induction k with
  | zero => intro lo hi i s15 s16 T h locs X0 e0 N0 Z0 hs15 hi_ hlo hhi Eb Ft Fp Frw Ep Fs Fd Fc Vc V0 hk; exact absurd hk (Nat.not_lt_zero _)
  | succ k ih =>
    intro lo hi i s15 s16 T h locs X0 e0 N0 Z0 hs15 hi_ hlo hhi Eb Ft Fp Frw Ep Fs Fd Fc Vc V0 hk
    by_cases hg : i < p2
    · have hg' := own_lt.mp hg
      have hix : own_ix 66 i := ⟨by omega, by omega⟩
      have hi1 := own_add1 (i := i) (by omega) (by omega)
      obtain ⟨T248, X248, e248, st248⟩ := getF X0 hx hZ hown (host := "") (Or.inl (wd hw 73 rfl)) Via.refl e0 Ft (g := (mkF m 106 #[vR a1, vI p1, vI p2, vI p3, vI 1, vI nx, vI 0, vD 0, .second, vI 0, vD lo, .second, vD hi, .second, vI i, s15, s16] [(.ref a1)])) rfl rfl (hb hby d8_106)
      obtain ⟨T249, X249, e249, st249⟩ := getF X248 hx hZ hown (Or.inr (wd hw 81 rfl)) Via.refl e248 Fp (g := (mkF m 109 #[vR a1, vI p1, vI p2, vI p3, vI 1, vI nx, vI 0, vD 0, .second, vI 0, vD lo, .second, vD hi, .second, vI i, s15, s16] [(.ref t)])) rfl rfl (hb hby d8_109)
      obtain ⟨T250, X250, e250, st250⟩ := getF X249 hx hZ hown (host := "") (Or.inl (wd hw 73 rfl)) Via.refl e249 Ft (g := (mkF m 113 #[vR a1, vI p1, vI p2, vI p3, vI 1, vI nx, vI 0, vD 0, .second, vI 0, vD lo, .second, vD hi, .second, vI i, s15, s16] [(.ref a1), (.ref pts)])) rfl rfl (hb hby d8_113)
      obtain ⟨T251, X251, e251, st251⟩ := getF X250 hx hZ hown (Or.inr (wd hw 95 rfl)) Via.refl e250 Frw (g := (mkF m 116 #[vR a1, vI p1, vI p2, vI p3, vI 1, vI nx, vI 0, vD 0, .second, vI 0, vD lo, .second, vD hi, .second, vI i, s15, s16] [(.ref t), (.ref pts)])) rfl rfl (hb hby d8_116)
      obtain ⟨cq252, kq252, q252a, q252b, q252c⟩ := isOf hZ e251 Ep
      obtain ⟨_, _, ⟨T252, L252, k252, n252⟩, -, X252, ⟨Lc252, hQ252, l252, y252, z252⟩, st252⟩ := X251.virtualBack hx (y := (⟨"com/example/flatfinder/flatfinder/neighbours/Points", "coordinate", "(II)D"⟩ : MethodName)) (z := (⟨"com/example/flatfinder/flatfinder/neighbours/Points", "coordinate", "(II)D"⟩ : MethodName)) hown (mvT hZ (wd hw 96 rfl)) (mvT hZ (wd hw 97 rfl)) (notFace_of_selects (args := #[]) (mvT hZ (wd hw 99 rfl))) (mvT hZ (wd hw 99 rfl)) (mvT hZ (wd hw 98 rfl)) (by decide) (backOf (W := 0) (rm10 l Z a0 hw [] pts (f0 (i).toNatClampNeg) co gc h n0 Z0 Fs Fd Fc Vc (q0 _)) hZ (wd hw 100 rfl) (wd hw 4 rfl) (by decide) (by decide)) q252a q252c (g := (mkF m 124 #[vR a1, vI p1, vI p2, vI p3, vI 1, vI nx, vI 0, vD 0, .second, vI 0, vD lo, .second, vD hi, .second, vI i, s15, s16] [(.int (0 : Int32)), (.int (f0 (i).toNatClampNeg)), (.ref pts)])) rfl (by rw [hml]; rfl) (Steps.refl _) (argsL := [(.int (f0 (i).toNatClampNeg)), (.int (0 : Int32))]) (rest := []) (lenOf pd__II_D rfl) rfl (by show 2 * 0 + _ ≤ _; exact Nat.le_of_eq rfl) (hb hby d8_124) (fun _ _ => ⟨rfl, e251, (by decide : 0 + 0 ≤ _), (by decide : 0 + 0 ≤ _)⟩)
      dsimp only [Pt.U, Pt.locs, Pt.cells, Pt.slots] at X252 l252 y252 z252 st252 hQ252
      subst l252 y252 z252
      obtain ⟨rfl, N252q, e252⟩ := hQ252
      have N253 := Fr.app N0 N252q
      obtain ⟨_, vm254, ⟨Tq254, L254, k254, n254⟩, -, X254, ⟨hr254, hB254⟩, st254⟩ := Jvm.LawKit.callS X252 hx (y := (⟨"java/lang/Math", "min", "(DD)D"⟩ : MethodName)) hown (mvT hZ (wd hw 109 rfl)) (mvT hZ (wd hw 110 rfl)) (mvT hZ (wd hw 17 rfl)) (mvT hZ (wd hw 111 rfl)) (by decide) (Jvm.Free.Fl.Abs.minD_pays (W := 0) lo (gc (f0 (i).toNatClampNeg).toNatClampNeg) (mvT hZ (wd hw 111 rfl)) (by decide) (by decide)) (g := (mkF m 133 #[vR a1, vI p1, vI p2, vI p3, vI 1, vI nx, vI 0, vD 0, .second, vI 0, vD lo, .second, vD hi, .second, vI i, vD (gc (f0 (i).toNatClampNeg).toNatClampNeg), .second] [(.double (gc (f0 (i).toNatClampNeg).toNatClampNeg)), (.double lo)])) rfl (by rw [hml]; rfl) (argsL := [(.double lo), (.double (gc (f0 (i).toNatClampNeg).toNatClampNeg))]) (rest := []) (lenOf pd__DD_D rfl) rfl (by show 2 * 0 + _ ≤ _; exact Nat.le_of_eq rfl) (hb hby d8_133) (fun _ _ => ⟨by show 0 ≤ _; decide, by show 0 ≤ _; decide, rfl, own_lon hlo, (Fg _).noNaN⟩)
      simp only [Prod.mk.injEq] at hB254
      obtain ⟨rfl, rfl, rfl, rfl⟩ := hB254
      subst hr254
      dsimp only [Pt.U, Pt.locs, Pt.cells, Pt.slots] at X254 st254
      have e254 : (T252.setVm vm254).heap = h := e252
      generalize T252.setVm vm254 = T254 at X254 st254 e254
      obtain ⟨_, vm255, ⟨Tq255, L255, k255, n255⟩, -, X255, ⟨hr255, hB255⟩, st255⟩ := Jvm.LawKit.callS X254 hx (y := (⟨"java/lang/Math", "max", "(DD)D"⟩ : MethodName)) hown (mvT hZ (wd hw 112 rfl)) (mvT hZ (wd hw 113 rfl)) (mvT hZ (wd hw 17 rfl)) (mvT hZ (wd hw 114 rfl)) (by decide) (Jvm.Free.Fl.Abs.maxD_pays (W := 0) hi (gc (f0 (i).toNatClampNeg).toNatClampNeg) (mvT hZ (wd hw 114 rfl)) (by decide) (by decide)) (g := (mkF m 142 #[vR a1, vI p1, vI p2, vI p3, vI 1, vI nx, vI 0, vD 0, .second, vI 0, vD (own_pk false lo (gc (f0 (i).toNatClampNeg).toNatClampNeg)), .second, vD hi, .second, vI i, vD (gc (f0 (i).toNatClampNeg).toNatClampNeg), .second] [(.double (gc (f0 (i).toNatClampNeg).toNatClampNeg)), (.double hi)])) rfl (by rw [hml]; rfl) (argsL := [(.double hi), (.double (gc (f0 (i).toNatClampNeg).toNatClampNeg))]) (rest := []) (lenOf pd__DD_D rfl) rfl (by show 2 * 0 + _ ≤ _; exact Nat.le_of_eq rfl) (hb hby d8_142) (fun _ _ => ⟨by show 0 ≤ _; decide, by show 0 ≤ _; decide, rfl, own_hin hhi, (Fg _).noNaN⟩)
      simp only [Prod.mk.injEq] at hB255
      obtain ⟨rfl, rfl, rfl, rfl⟩ := hB255
      subst hr255
      dsimp only [Pt.U, Pt.locs, Pt.cells, Pt.slots] at X255 st255
      have e255 : (T254.setVm vm255).heap = h := e254
      generalize T254.setVm vm255 = T255 at X255 st255 e255
      obtain ⟨T9, locs9, l9, h9, i9, u9, v9, X9, N9, e9, f9, q9, st9⟩ := ih (own_pk false lo (gc (f0 (i).toNatClampNeg).toNatClampNeg)) (own_pk true hi (gc (f0 (i).toNatClampNeg).toNatClampNeg)) (i + (1 : Int32)) (vD (gc (f0 (i).toNatClampNeg).toNatClampNeg)) (.second) T255 h _ X255 e255 N253 Z0 own_Two.v (by omega) (Or.inr (own_lo1 hlo (Fg _))) (Or.inr (own_hi1 hhi (Fg _))) Eb Ft Fp Frw Ep Fs Fd Fc Vc V0 (by omega)
      refine ⟨T9, locs9, l9, h9, i9, u9, v9, X9, N9, e9, f9, q9, fun target kt => ?_⟩
      show Steps p.tables e below (T.setTop (mkF m 99 #[vR a1, vI p1, vI p2, vI p3, vI 1, vI nx, vI 0, vD 0, .second, vI 0, vD lo, .second, vD hi, .second, vI i, s15, s16] [])) _
      refine XS.iload X0.here hx rfl (hb hby d8_99) rfl ?_
      refine XS.iloadN X0.here hx rfl (hb hby d8_101) rfl ?_
      refine XS.icmpNo X0.here hx rfl (hb hby d8_102) rfl (tlt hg).2.1 ?_
      refine XS.aloadN X0.here hx rfl (hb hby d8_105) rfl rfl ?_
      show Steps p.tables e below (T.setTop (mkF m 106 #[vR a1, vI p1, vI p2, vI p3, vI 1, vI nx, vI 0, vD 0, .second, vI 0, vD lo, .second, vD hi, .second, vI i, s15, s16] [(.ref a1)])) _
      refine st248 _ ?_
      show Steps p.tables e below (T248.setTop (mkF m 109 #[vR a1, vI p1, vI p2, vI p3, vI 1, vI nx, vI 0, vD 0, .second, vI 0, vD lo, .second, vD hi, .second, vI i, s15, s16] [(.ref t)])) _
      refine st249 _ ?_
      show Steps p.tables e below (T249.setTop (mkF m 112 #[vR a1, vI p1, vI p2, vI p3, vI 1, vI nx, vI 0, vD 0, .second, vI 0, vD lo, .second, vD hi, .second, vI i, s15, s16] [(.ref pts)])) _
      refine XS.aloadN X249.here hx rfl (hb hby d8_112) rfl rfl ?_
      show Steps p.tables e below (T249.setTop (mkF m 113 #[vR a1, vI p1, vI p2, vI p3, vI 1, vI nx, vI 0, vD 0, .second, vI 0, vD lo, .second, vD hi, .second, vI i, s15, s16] [(.ref a1), (.ref pts)])) _
      refine st250 _ ?_
      show Steps p.tables e below (T250.setTop (mkF m 116 #[vR a1, vI p1, vI p2, vI p3, vI 1, vI nx, vI 0, vD 0, .second, vI 0, vD lo, .second, vD hi, .second, vI i, s15, s16] [(.ref t), (.ref pts)])) _
      refine st251 _ ?_
      show Steps p.tables e below (T251.setTop (mkF m 119 #[vR a1, vI p1, vI p2, vI p3, vI 1, vI nx, vI 0, vD 0, .second, vI 0, vD lo, .second, vD hi, .second, vI i, s15, s16] [(.ref r), (.ref pts)])) _
      refine XS.iload X251.here hx rfl (hb hby d8_119) rfl ?_
      show Steps p.tables e below (T251.setTop (mkF m 121 #[vR a1, vI p1, vI p2, vI p3, vI 1, vI nx, vI 0, vD 0, .second, vI 0, vD lo, .second, vD hi, .second, vI i, s15, s16] [(.int i), (.ref r), (.ref pts)])) _
      refine own_ldI X251 hx hZ e251 V0 (j := i) hix (f := (mkF m 121 #[vR a1, vI p1, vI p2, vI p3, vI 1, vI nx, vI 0, vD 0, .second, vI 0, vD lo, .second, vD hi, .second, vI i, s15, s16] [(.int i), (.ref r), (.ref pts)])) rfl rfl (hb hby d8_121) _ ?_
      show Steps p.tables e below (T251.setTop (mkF m 122 #[vR a1, vI p1, vI p2, vI p3, vI 1, vI nx, vI 0, vD 0, .second, vI 0, vD lo, .second, vD hi, .second, vI i, s15, s16] [(.int (f0 (i).toNatClampNeg)), (.ref pts)])) _
      refine XS.iload X251.here hx rfl (hb hby d8_122) rfl ?_
      show Steps p.tables e below (T251.setTop (mkF m 124 #[vR a1, vI p1, vI p2, vI p3, vI 1, vI nx, vI 0, vD 0, .second, vI 0, vD lo, .second, vD hi, .second, vI i, s15, s16] [(.int (0 : Int32)), (.int (f0 (i).toNatClampNeg)), (.ref pts)])) _
      refine st252.trans ?_
      show Steps p.tables e below (T252.setTop (mkF m 127 #[vR a1, vI p1, vI p2, vI p3, vI 1, vI nx, vI 0, vD 0, .second, vI 0, vD lo, .second, vD hi, .second, vI i, s15, s16] [(.double (gc (f0 (i).toNatClampNeg).toNatClampNeg))])) _
      refine own_sstore X252.here hx (l' := #[vR a1, vI p1, vI p2, vI p3, vI 1, vI nx, vI 0, vD 0, .second, vI 0, vD lo, .second, vD hi, .second, vI i, vD (gc (f0 (i).toNatClampNeg).toNatClampNeg), .second]) (hb hby d8_127) (by rcases hs15 with ⟨q, q'⟩ | ⟨_, q, q'⟩ <;> subst q q' <;> rfl) ?_
      show Steps p.tables e below (T252.setTop (mkF m 129 #[vR a1, vI p1, vI p2, vI p3, vI 1, vI nx, vI 0, vD 0, .second, vI 0, vD lo, .second, vD hi, .second, vI i, vD (gc (f0 (i).toNatClampNeg).toNatClampNeg), .second] [])) _
      refine own_sload X252.here hx (hb hby d8_129) rfl ?_
      show Steps p.tables e below (T252.setTop (mkF m 131 #[vR a1, vI p1, vI p2, vI p3, vI 1, vI nx, vI 0, vD 0, .second, vI 0, vD lo, .second, vD hi, .second, vI i, vD (gc (f0 (i).toNatClampNeg).toNatClampNeg), .second] [(.double lo)])) _
      refine own_sload X252.here hx (hb hby d8_131) rfl ?_
      show Steps p.tables e below (T252.setTop (mkF m 133 #[vR a1, vI p1, vI p2, vI p3, vI 1, vI nx, vI 0, vD 0, .second, vI 0, vD lo, .second, vD hi, .second, vI i, vD (gc (f0 (i).toNatClampNeg).toNatClampNeg), .second] [(.double (gc (f0 (i).toNatClampNeg).toNatClampNeg)), (.double lo)])) _
      refine st254 _ ?_
      show Steps p.tables e below (T254.setTop (mkF m 136 #[vR a1, vI p1, vI p2, vI p3, vI 1, vI nx, vI 0, vD 0, .second, vI 0, vD lo, .second, vD hi, .second, vI i, vD (gc (f0 (i).toNatClampNeg).toNatClampNeg), .second] [(.double (own_pk false lo (gc (f0 (i).toNatClampNeg).toNatClampNeg)))])) _
      refine own_sstore X254.here hx (l' := #[vR a1, vI p1, vI p2, vI p3, vI 1, vI nx, vI 0, vD 0, .second, vI 0, vD (own_pk false lo (gc (f0 (i).toNatClampNeg).toNatClampNeg)), .second, vD hi, .second, vI i, vD (gc (f0 (i).toNatClampNeg).toNatClampNeg), .second]) (hb hby d8_136) rfl ?_
      show Steps p.tables e below (T254.setTop (mkF m 138 #[vR a1, vI p1, vI p2, vI p3, vI 1, vI nx, vI 0, vD 0, .second, vI 0, vD (own_pk false lo (gc (f0 (i).toNatClampNeg).toNatClampNeg)), .second, vD hi, .second, vI i, vD (gc (f0 (i).toNatClampNeg).toNatClampNeg), .second] [])) _
      refine own_sload X254.here hx (hb hby d8_138) rfl ?_
      show Steps p.tables e below (T254.setTop (mkF m 140 #[vR a1, vI p1, vI p2, vI p3, vI 1, vI nx, vI 0, vD 0, .second, vI 0, vD (own_pk false lo (gc (f0 (i).toNatClampNeg).toNatClampNeg)), .second, vD hi, .second, vI i, vD (gc (f0 (i).toNatClampNeg).toNatClampNeg), .second] [(.double hi)])) _
      refine own_sload X254.here hx (hb hby d8_140) rfl ?_
      show Steps p.tables e below (T254.setTop (mkF m 142 #[vR a1, vI p1, vI p2, vI p3, vI 1, vI nx, vI 0, vD 0, .second, vI 0, vD (own_pk false lo (gc (f0 (i).toNatClampNeg).toNatClampNeg)), .second, vD hi, .second, vI i, vD (gc (f0 (i).toNatClampNeg).toNatClampNeg), .second] [(.double (gc (f0 (i).toNatClampNeg).toNatClampNeg)), (.double hi)])) _
      refine st255 _ ?_
      show Steps p.tables e below (T255.setTop (mkF m 145 #[vR a1, vI p1, vI p2, vI p3, vI 1, vI nx, vI 0, vD 0, .second, vI 0, vD (own_pk false lo (gc (f0 (i).toNatClampNeg).toNatClampNeg)), .second, vD hi, .second, vI i, vD (gc (f0 (i).toNatClampNeg).toNatClampNeg), .second] [(.double (own_pk true hi (gc (f0 (i).toNatClampNeg).toNatClampNeg)))])) _
      refine own_sstore X255.here hx (l' := #[vR a1, vI p1, vI p2, vI p3, vI 1, vI nx, vI 0, vD 0, .second, vI 0, vD (own_pk false lo (gc (f0 (i).toNatClampNeg).toNatClampNeg)), .second, vD (own_pk true hi (gc (f0 (i).toNatClampNeg).toNatClampNeg)), .second, vI i, vD (gc (f0 (i).toNatClampNeg).toNatClampNeg), .second]) (hb hby d8_145) rfl ?_
      show Steps p.tables e below (T255.setTop (mkF m 147 #[vR a1, vI p1, vI p2, vI p3, vI 1, vI nx, vI 0, vD 0, .second, vI 0, vD (own_pk false lo (gc (f0 (i).toNatClampNeg).toNatClampNeg)), .second, vD (own_pk true hi (gc (f0 (i).toNatClampNeg).toNatClampNeg)), .second, vI i, vD (gc (f0 (i).toNatClampNeg).toNatClampNeg), .second] [])) _
      refine XS.iinc X255.here hx rfl (hb hby d8_147) rfl (l' := #[vR a1, vI p1, vI p2, vI p3, vI 1, vI nx, vI 0, vD 0, .second, vI 0, vD (own_pk false lo (gc (f0 (i).toNatClampNeg).toNatClampNeg)), .second, vD (own_pk true hi (gc (f0 (i).toNatClampNeg).toNatClampNeg)), .second, vI (i + (1 : Int32)), vD (gc (f0 (i).toNatClampNeg).toNatClampNeg), .second]) rfl ?_
      refine XS.goto X255.here hx rfl (pc0 := 150) (pc' := 99) rfl (hb hby d8_150) (by decide) (by decide) ?_
      show Steps p.tables e below (T255.setTop (mkF m 99 #[vR a1, vI p1, vI p2, vI p3, vI 1, vI nx, vI 0, vD 0, .second, vI 0, vD (own_pk false lo (gc (f0 (i).toNatClampNeg).toNatClampNeg)), .second, vD (own_pk true hi (gc (f0 (i).toNatClampNeg).toNatClampNeg)), .second, vI (i + (1 : Int32)), vD (gc (f0 (i).toNatClampNeg).toNatClampNeg), .second] [])) _
      exact st9 target kt
    · have hg' : ¬ i.toInt < p2.toInt := fun q => hg (own_lt.mpr q)
      refine ⟨T, locs, lo, hi, i, s15, s16, X0, N0, e0, hlo.resolve_left (fun q => by have := q.2; omega), hhi.resolve_left (fun q => by have := q.2; omega), fun target kt => ?_⟩
      show Steps p.tables e below (T.setTop (mkF m 99 #[vR a1, vI p1, vI p2, vI p3, vI 1, vI nx, vI 0, vD 0, .second, vI 0, vD lo, .second, vD hi, .second, vI i, s15, s16] [])) _
      refine XS.iload X0.here hx rfl (hb hby d8_99) rfl ?_
      refine XS.iloadN X0.here hx rfl (hb hby d8_101) rfl ?_
      refine XS.icmpYes X0.here hx rfl (pc0 := 102) (pc' := 153) rfl (hb hby d8_102) rfl (flt hg).2.1 (by decide) (by decide) ?_
      exact kt
theorem d8_225 : decode prog_54_method_2_code 225 = .ok (.dload 7, 2) := by decide +kernel
theorem d8_227 : decode prog_54_method_2_code 227 = .ok (.dconst 0, 1) := by decide +kernel
theorem d8_228 : decode prog_54_method_2_code 228 = .ok (.dcmp .l, 1) := by decide +kernel
theorem d8_229 : decode prog_54_method_2_code 229 = .ok (.ifCond .le 54, 3) := by decide +kernel
theorem d8_232 : decode prog_54_method_2_code 232 = .ok (.iload_n 1, 1) := by decide +kernel
theorem d8_233 : decode prog_54_method_2_code 233 = .ok (.iload_n 2, 1) := by decide +kernel
theorem d8_234 : decode prog_54_method_2_code 234 = .ok (.iadd, 1) := by decide +kernel
theorem d8_235 : decode prog_54_method_2_code 235 = .ok (.iconst 1, 1) := by decide +kernel
theorem d8_236 : decode prog_54_method_2_code 236 = .ok (.iushr, 1) := by decide +kernel
theorem d8_237 : decode prog_54_method_2_code 237 = .ok (.istore 9, 2) := by decide +kernel
theorem d8_239 : decode prog_54_method_2_code 239 = .ok (.aload_n 0, 1) := by decide +kernel
theorem d8_240 : decode prog_54_method_2_code 240 = .ok (.iload_n 1, 1) := by decide +kernel
theorem d8_241 : decode prog_54_method_2_code 241 = .ok (.iload_n 2, 1) := by decide +kernel
theorem d8_242 : decode prog_54_method_2_code 242 = .ok (.iload 9, 2) := by decide +kernel
theorem d8_244 : decode prog_54_method_2_code 244 = .ok (.iload 6, 2) := by decide +kernel
theorem d8_246 : decode prog_54_method_2_code 246 = .ok (.invokevirtual 74, 3) := by decide +kernel
theorem pd__IIII_V : parseMethodDescriptor "(IIII)V" = some ⟨[.int, .int, .int, .int], none⟩ := by decide +kernel
theorem d8_249 : decode prog_54_method_2_code 249 = .ok (.aload_n 0, 1) := by decide +kernel
theorem d8_250 : decode prog_54_method_2_code 250 = .ok (.iload_n 1, 1) := by decide +kernel
theorem d8_251 : decode prog_54_method_2_code 251 = .ok (.iload 9, 2) := by decide +kernel
theorem d8_253 : decode prog_54_method_2_code 253 = .ok (.iload_n 3, 1) := by decide +kernel
theorem d8_254 : decode prog_54_method_2_code 254 = .ok (.iconst 1, 1) := by decide +kernel
theorem d8_255 : decode prog_54_method_2_code 255 = .ok (.iadd, 1) := by decide +kernel
theorem d8_256 : decode prog_54_method_2_code 256 = .ok (.invokevirtual 78, 3) := by decide +kernel
theorem pd__III_V : parseMethodDescriptor "(III)V" = some ⟨[.int, .int, .int], none⟩ := by decide +kernel
theorem d8_259 : decode prog_54_method_2_code 259 = .ok (.aload_n 0, 1) := by decide +kernel
theorem d8_260 : decode prog_54_method_2_code 260 = .ok (.getfield 3, 3) := by decide +kernel
theorem d8_263 : decode prog_54_method_2_code 263 = .ok (.getfield 45, 3) := by decide +kernel
theorem d8_266 : decode prog_54_method_2_code 266 = .ok (.iload 5, 2) := by decide +kernel
theorem d8_268 : decode prog_54_method_2_code 268 = .ok (.aload_n 0, 1) := by decide +kernel
theorem d8_269 : decode prog_54_method_2_code 269 = .ok (.getfield 25, 3) := by decide +kernel
theorem d8_272 : decode prog_54_method_2_code 272 = .ok (.iastore, 1) := by decide +kernel
theorem d8_273 : decode prog_54_method_2_code 273 = .ok (.aload_n 0, 1) := by decide +kernel
theorem d8_274 : decode prog_54_method_2_code 274 = .ok (.iload 9, 2) := by decide +kernel
theorem d8_276 : decode prog_54_method_2_code 276 = .ok (.iload_n 2, 1) := by decide +kernel
theorem d8_277 : decode prog_54_method_2_code 277 = .ok (.iload_n 3, 1) := by decide +kernel
theorem d8_278 : decode prog_54_method_2_code 278 = .ok (.iconst 1, 1) := by decide +kernel
theorem d8_279 : decode prog_54_method_2_code 279 = .ok (.iadd, 1) := by decide +kernel
theorem d8_280 : decode prog_54_method_2_code 280 = .ok (.invokevirtual 78, 3) := by decide +kernel
theorem ef_rm8_1 (m : MethodId) (a1 : Addr) (p1 : Int32) (p2 : Int32) (p3 : Int32) : entryFrame m #[(.ref a1), (.int p1), (.int p2), (.int p3)] 17 = mkF m 0 #[.val (.ref a1), .val (.int p1), .val (.int p2), .val (.int p3), .unset, .unset, .unset, .unset, .unset, .unset, .unset, .unset, .unset, .unset, .unset, .unset, .unset] [] := by first | (simp [entryFrame, mkF, argsToLocals, Value.category]; done) | rfl
def Qrm8_1 (Z : State) (a1 : Addr) (p1 : Int32) (p2 : Int32) (p3 : Int32) (t : Addr) (pts : Addr) (co : Addr) (r : Addr) (x1 : Addr) (x2 : Addr) (x3 : Addr) (x4 : Addr) (x5 : Addr) (gc : Nat → UInt64) (nx : Int32) (fF : Nat → Int32) (fE : Nat → Int32) (fU : Nat → Int32) (h0 : Heap) (n0 : Nat) (v : Option Value) (h : Heap) (L : List Loc) : Prop := v = none ∧ Fr n0 L ∧ Keep h0 h [a1, r, x1, x2, x3, x4, x5] ∧ ∃ n' F' E' U', own_rel 1 nx p1 p2 fF fE fU n' F' E' U' ∧ own_St Z h a1 t r x1 x2 x3 x4 x5 n' F' E' U'
set_option maxRecDepth 65536 in
set_option maxHeartbeats 40000000 in
theorem rm8_1 (l : Launch) (Z : State) (a0 : Array Value) (hw : ∀ d ∈ tables_1, d.before a0 Z = true) (ws : List Jvm.Cond) (a1 : Addr) (p1 : Int32) (p2 : Int32) (p3 : Int32) (t : Addr) (pts : Addr) (co : Addr) (r : Addr) (x1 : Addr) (x2 : Addr) (x3 : Addr) (x4 : Addr) (x5 : Addr) (gc : Nat → UInt64) (nx : Int32) (fF : Nat → Int32) (fE : Nat → Int32) (fU : Nat → Int32) (h0 : Heap) (n0 : Nat) (Z0 : n0 ≤ h0.size) (Eb : Exa Z h0 a1 "com/example/flatfinder/flatfinder/neighbours/KdTree$Builder") (Ft : Fld Z h0 a1 "com/example/flatfinder/flatfinder/neighbours/KdTree$Builder" "this$0" "Lcom/example/flatfinder/flatfinder/neighbours/KdTree;" (.ref t)) (Fp : Fld Z h0 t "com/example/flatfinder/flatfinder/neighbours/KdTree" "points" "Lcom/example/flatfinder/flatfinder/neighbours/Points;" (.ref pts)) (Frw : Fld Z h0 t "com/example/flatfinder/flatfinder/neighbours/KdTree" "rows" "[I" (.ref r)) (Ep : Exa Z h0 pts "com/example/flatfinder/flatfinder/neighbours/Points") (Fs : Fld Z h0 pts "com/example/flatfinder/flatfinder/neighbours/Points" "size" "I" (.int (66 : Int32))) (Fd : Fld Z h0 pts "com/example/flatfinder/flatfinder/neighbours/Points" "dimensions" "I" (.int (1 : Int32))) (Fc : Fld Z h0 pts "com/example/flatfinder/flatfinder/neighbours/Points" "coordinates" "[D" (.ref co)) (Vc : own_V Z h0 co .double 66 (fun ii => .double (gc ii))) (Gf : Fld Z h0 t "com/example/flatfinder/flatfinder/neighbours/KdTree" "first" "[I" (.ref x1)) (Ge : Fld Z h0 t "com/example/flatfinder/flatfinder/neighbours/KdTree" "end" "[I" (.ref x2)) (Gu : Fld Z h0 t "com/example/flatfinder/flatfinder/neighbours/KdTree" "upper" "[I" (.ref x3)) (Gl : Fld Z h0 t "com/example/flatfinder/flatfinder/neighbours/KdTree" "low" "[D" (.ref x4)) (Gh : Fld Z h0 t "com/example/flatfinder/flatfinder/neighbours/KdTree" "high" "[D" (.ref x5)) (Fg : ∀ i, Jvm.Free.Fl.Fin64 (gc i)) (ST : own_St Z h0 a1 t r x1 x2 x3 x4 x5 nx fF fE fU) (hp : 0 ≤ p1.toInt ∧ p1.toInt < p2.toInt ∧ p2.toInt ≤ 66 ∧ p2.toInt - p1.toInt ≤ 64) (hnx : 0 ≤ nx.toInt ∧ nx.toInt + 3 ≤ 9) (hnd : [a1, t, pts, co, r, x1, x2, x3, x4, x5].Nodup) (hge : ∀ x ∈ [a1, r, x1, x2, x3, x4, x5], n0 ≤ x) :
    MetFree l (⟨"com/example/flatfinder/flatfinder/neighbours/KdTree$Builder", "build", "(III)V"⟩ : MethodName) (head1 (Jvm.Cond.code (⟨"com/example/flatfinder/flatfinder/neighbours/KdTree$Builder", "build", "(III)V"⟩ : MethodName) prog_54_method_2_code 17 none :: ws) ({ frames := 4, cells := 1, slots := 66, locals := 81 } : Room)) (fun a U => a = #[(.ref a1), (.int p1), (.int p2), (.int p3)] ∧ Z.Warmed39 U.vm ∧ U.heap = h0) (fun _ _ _ _ _ => True) (fun _ U o U' => ∃ v L, o = .returned v ∧ Qrm8_1 Z a1 p1 p2 p3 t pts co r x1 x2 x3 x4 x5 gc nx fF fE fU h0 n0 v U'.heap L ∧ FrameEnd U o U' L ({ frames := 4, cells := 1, slots := 66, locals := 81 } : Room).cells ({ frames := 4, cells := 1, slots := 66, locals := 81 } : Room).slots) := by
  refine MetFree.of_bodySF (plainFor_of_name pn_com_example_flatfinder_flatfinder_neighbours_KdTree_Builder) hisR ?_
  intro p e s m args below meth c s₁ Bd hml0 hP hK
  obtain ⟨rfl, hZ, hh⟩ := hP
  have hx := Bd.exec
  have hby := Bd.bytes
  have hml : c.maxLocals = 17 := hml0
  have hown : s.vm.findClass "com/example/flatfinder/flatfinder/neighbours/KdTree$Builder" = some m.cls := findClass_of_methodNamed Bd.named
  have hnm := (name_of_methodNamed Bd.named Bd.method).1
  have X0 : Stand p l e ({ frames := 4, cells := 1, slots := 66, locals := 81 } : Room) s m #[(.ref a1), (.int p1), (.int p2), (.int p3)] below meth c s₁ [] 0 0 := Stand.of_body Bd
  have e0 : s₁.heap = h0 := by rw [← hh, Bd.state]; rfl
  have N0 := Fr.nil n0
  have pre0 : ∀ tg, Steps p.tables e below (s₁.setTop (mkF m 0 #[.val (.ref a1), .val (.int p1), .val (.int p2), .val (.int p3), .unset, .unset, .unset, .unset, .unset, .unset, .unset, .unset, .unset, .unset, .unset, .unset, .unset] [])) tg → Steps p.tables e below (s₁.setTop (entryFrame m #[(.ref a1), (.int p1), (.int p2), (.int p3)] 17)) tg := fun tg kg => castTop (ef_rm8_1 m a1 p1 p2 p3) kg
  have K0 := Keep.refl h0 [a1, r, x1, x2, x3, x4, x5]
  obtain ⟨Fta, Fna, ⟨dpa, Fdpa⟩, ⟨f0a, V0a, q0a⟩, V1a, V2a, V3a, ⟨g4a, V4a⟩, ⟨g5a, V5a⟩⟩ := id ST
  have hxn : own_ix 9 nx := ⟨by omega, by omega⟩
  obtain ⟨pd1, pd2, pd3, pd4, pd5⟩ := own_pd (p1 := p1) (p2 := p2) (by omega)
  have hmd := own_md (p1 := p1) (p2 := p2) (by omega) (by omega) (by omega)
  have hn1 := own_add1 (i := nx) (by omega) (by omega)
  obtain ⟨T459, X459, e459, st459⟩ := getF X0 hx hZ hown (host := "") (Or.inl (wd hw 73 rfl)) Via.refl e0 Fta (g := (mkF m 1 #[vR a1, vI p1, vI p2, vI p3, .unset, .unset, .unset, .unset, .unset, .unset, .unset, .unset, .unset, .unset, .unset, .unset, .unset] [(.ref a1)])) rfl rfl (hb hby d8_1)
  obtain ⟨T460, X460, e460, st460⟩ := getF X459 hx hZ hown (Or.inr (wd hw 81 rfl)) Via.refl e459 Fp (g := (mkF m 4 #[vR a1, vI p1, vI p2, vI p3, .unset, .unset, .unset, .unset, .unset, .unset, .unset, .unset, .unset, .unset, .unset, .unset, .unset] [(.ref t)])) rfl rfl (hb hby d8_4)
  obtain ⟨cq461, kq461, q461a, q461b, q461c⟩ := isOf hZ e460 Ep
  obtain ⟨_, _, ⟨T461, L461, k461, n461⟩, -, X461, ⟨Lc461, hQ461, l461, y461, z461⟩, st461⟩ := X460.virtualBack hx (y := (⟨"com/example/flatfinder/flatfinder/neighbours/Points", "dimensions", "()I"⟩ : MethodName)) (z := (⟨"com/example/flatfinder/flatfinder/neighbours/Points", "dimensions", "()I"⟩ : MethodName)) hown (mvT hZ (wd hw 82 rfl)) (mvT hZ (wd hw 43 rfl)) (notFace_of_selects (args := #[]) (mvT hZ (wd hw 45 rfl))) (mvT hZ (wd hw 45 rfl)) (mvT hZ (wd hw 44 rfl)) (by decide) (backOf (W := 0) (rm6 l Z a0 hw [] pts  h0 n0 Z0 Fd) hZ (wd hw 46 rfl) (wd hw 4 rfl) (by decide) (by decide)) q461a q461c (g := (mkF m 7 #[vR a1, vI p1, vI p2, vI p3, .unset, .unset, .unset, .unset, .unset, .unset, .unset, .unset, .unset, .unset, .unset, .unset, .unset] [(.ref pts)])) rfl (by rw [hml]; rfl) (Steps.refl _) (argsL := []) (rest := []) (lenOf pd___I rfl) rfl (by show 2 * 0 + _ ≤ _; exact Nat.le_of_eq rfl) (hb hby d8_7) (fun _ _ => ⟨rfl, e460, (by decide : 0 + 0 ≤ _), (by decide : 0 + 0 ≤ _)⟩)
  dsimp only [Pt.U, Pt.locs, Pt.cells, Pt.slots] at X461 l461 y461 z461 st461 hQ461
  subst l461 y461 z461
  obtain ⟨rfl, N461q, e461⟩ := hQ461
  have N462 := Fr.app N0 N461q
  obtain ⟨T463, X463, e463, st463⟩ := getF X461 hx hZ hown (host := "") (Or.inl (wd hw 83 rfl)) Via.refl e461 Fna (g := (mkF m 14 #[vR a1, vI p1, vI p2, vI p3, vI 1, .unset, .unset, .unset, .unset, .unset, .unset, .unset, .unset, .unset, .unset, .unset, .unset] [(.ref a1), (.ref a1)])) rfl rfl (hb hby d8_14)
  obtain ⟨T464, h464, X464, e464, W464, st464⟩ := putF X463 hx hZ hown (host := "") (Or.inl (wd hw 83 rfl)) Via.refl e463 Fna Eb (Or.inl (wd hw 84 rfl)) (wd hw 68 rfl) (ty := .int) (by decide) rfl rfl (g := (mkF m 20 #[vR a1, vI p1, vI p2, vI p3, vI 1, .unset, .unset, .unset, .unset, .unset, .unset, .unset, .unset, .unset, .unset, .unset, .unset] [(.int (nx + (1 : Int32))), (.ref a1), (.int nx)])) rfl rfl (hb hby d8_20)
  have f465 := Fna.same W464
  have f466 := Eb.wr W464
  have f467 := Fp.other W464 (Or.inl (Ne.symm (own_nd hnd 0 1 (by decide) rfl rfl)))
  have f468 := Frw.other W464 (Or.inl (Ne.symm (own_nd hnd 0 1 (by decide) rfl rfl)))
  have f469 := Ep.wr W464
  have f470 := Fs.other W464 (Or.inl (Ne.symm (own_nd hnd 0 2 (by decide) rfl rfl)))
  have f471 := Fd.other W464 (Or.inl (Ne.symm (own_nd hnd 0 2 (by decide) rfl rfl)))
  have f472 := Fc.other W464 (Or.inl (Ne.symm (own_nd hnd 0 2 (by decide) rfl rfl)))
  have f473 := Vc.other W464 (Ne.symm (own_nd hnd 0 3 (by decide) rfl rfl))
  have f474 := Fta.other W464 (Or.inr (slot_ne (Or.inr (wd hw 74 rfl)) (Or.inl (wd hw 84 rfl)) (by decide) (t := (.object "com/example/flatfinder/flatfinder/neighbours/KdTree")) (t' := .int) (by decide) (by decide)))
  have f475 := Fdpa.other W464 (Or.inr (slot_ne (Or.inl (wd hw 86 rfl)) (Or.inl (wd hw 84 rfl)) (by decide) (t := .int) (t' := .int) (by decide) (by decide)))
  have f476 := V0a.other W464 (Ne.symm (own_nd hnd 0 4 (by decide) rfl rfl))
  have f477 := V1a.other W464 (Ne.symm (own_nd hnd 0 5 (by decide) rfl rfl))
  have f478 := V2a.other W464 (Ne.symm (own_nd hnd 0 6 (by decide) rfl rfl))
  have f479 := V3a.other W464 (Ne.symm (own_nd hnd 0 7 (by decide) rfl rfl))
  have f480 := V4a.other W464 (Ne.symm (own_nd hnd 0 8 (by decide) rfl rfl))
  have f481 := V5a.other W464 (Ne.symm (own_nd hnd 0 9 (by decide) rfl rfl))
  have f482 := Gf.other W464 (Or.inl (Ne.symm (own_nd hnd 0 1 (by decide) rfl rfl)))
  have f483 := Ge.other W464 (Or.inl (Ne.symm (own_nd hnd 0 1 (by decide) rfl rfl)))
  have f484 := Gu.other W464 (Or.inl (Ne.symm (own_nd hnd 0 1 (by decide) rfl rfl)))
  have f485 := Gl.other W464 (Or.inl (Ne.symm (own_nd hnd 0 1 (by decide) rfl rfl)))
  have f486 := Gh.other W464 (Or.inl (Ne.symm (own_nd hnd 0 1 (by decide) rfl rfl)))
  have Zn487 := Nat.le_trans Z0 (Keep.of_wr W464).1
  have N488 := Fr.snoc X464 N462 (hge a1 (List.mem_of_getElem? (i := 0) rfl))
  have K489 := K0.wr W464 (Or.inl (List.mem_of_getElem? (i := 0) rfl))
  obtain ⟨T490, X490, e490, st490⟩ := getF X464 hx hZ hown (host := "") (Or.inl (wd hw 85 rfl)) Via.refl e464 f475 (g := (mkF m 27 #[vR a1, vI p1, vI p2, vI p3, vI 1, vI nx, .unset, .unset, .unset, .unset, .unset, .unset, .unset, .unset, .unset, .unset, .unset] [(.ref a1), (.ref a1)])) rfl rfl (hb hby d8_27)
  obtain ⟨_, _, ⟨T491, L491, k491, n491⟩, -, X491, ⟨Lc491, hQ491, l491, y491, z491⟩, st491⟩ := Jvm.LawKit.callS X490 hx (y := (⟨"java/lang/Math", "max", "(II)I"⟩ : MethodName)) hown (mvT hZ (wd hw 87 rfl)) (mvT hZ (wd hw 88 rfl)) (mvT hZ (wd hw 17 rfl)) (mvT hZ (wd hw 89 rfl)) (by decide) (backOf (W := 1) (rm9 l Z a0 hw [] dpa p3  h464 n0 Zn487 ) hZ (wd hw 89 rfl) (wd hw 17 rfl) (by decide) (by decide)) (g := (mkF m 31 #[vR a1, vI p1, vI p2, vI p3, vI 1, vI nx, .unset, .unset, .unset, .unset, .unset, .unset, .unset, .unset, .unset, .unset, .unset] [(.int p3), (.int dpa), (.ref a1)])) rfl (by rw [hml]; rfl) (argsL := [(.int dpa), (.int p3)]) (rest := [(.ref a1)]) (lenOf pd__II_I rfl) rfl (by show 2 * 0 + _ ≤ _; exact Nat.le_of_eq rfl) (hb hby d8_31) (fun _ _ => ⟨rfl, e490, (by decide : 0 + 0 ≤ _), (by decide : 0 + 0 ≤ _)⟩)
  dsimp only [Pt.U, Pt.locs, Pt.cells, Pt.slots] at X491 l491 y491 z491 st491 hQ491
  subst l491 y491 z491
  obtain ⟨rfl, N491q, e491⟩ := hQ491
  have N492 := Fr.app N488 N491q
  obtain ⟨T493, h493, X493, e493, W493, st493⟩ := putF X491 hx hZ hown (host := "") (Or.inl (wd hw 85 rfl)) Via.refl e491 f475 f466 (Or.inl (wd hw 86 rfl)) (wd hw 68 rfl) (ty := .int) (by decide) rfl rfl (g := (mkF m 34 #[vR a1, vI p1, vI p2, vI p3, vI 1, vI nx, .unset, .unset, .unset, .unset, .unset, .unset, .unset, .unset, .unset, .unset, .unset] [(.int (own_max dpa p3)), (.ref a1)])) rfl rfl (hb hby d8_34)
  have f494 := f475.same W493
  have f495 := f466.wr W493
  have f496 := f467.other W493 (Or.inl (Ne.symm (own_nd hnd 0 1 (by decide) rfl rfl)))
  have f497 := f468.other W493 (Or.inl (Ne.symm (own_nd hnd 0 1 (by decide) rfl rfl)))
  have f498 := f469.wr W493
  have f499 := f470.other W493 (Or.inl (Ne.symm (own_nd hnd 0 2 (by decide) rfl rfl)))
  have f500 := f471.other W493 (Or.inl (Ne.symm (own_nd hnd 0 2 (by decide) rfl rfl)))
  have f501 := f472.other W493 (Or.inl (Ne.symm (own_nd hnd 0 2 (by decide) rfl rfl)))
  have f502 := f473.other W493 (Ne.symm (own_nd hnd 0 3 (by decide) rfl rfl))
  have f503 := f474.other W493 (Or.inr (slot_ne (Or.inr (wd hw 74 rfl)) (Or.inl (wd hw 86 rfl)) (by decide) (t := (.object "com/example/flatfinder/flatfinder/neighbours/KdTree")) (t' := .int) (by decide) (by decide)))
  have f504 := f476.other W493 (Ne.symm (own_nd hnd 0 4 (by decide) rfl rfl))
  have f505 := f477.other W493 (Ne.symm (own_nd hnd 0 5 (by decide) rfl rfl))
  have f506 := f478.other W493 (Ne.symm (own_nd hnd 0 6 (by decide) rfl rfl))
  have f507 := f479.other W493 (Ne.symm (own_nd hnd 0 7 (by decide) rfl rfl))
  have f508 := f480.other W493 (Ne.symm (own_nd hnd 0 8 (by decide) rfl rfl))
  have f509 := f481.other W493 (Ne.symm (own_nd hnd 0 9 (by decide) rfl rfl))
  have f510 := f482.other W493 (Or.inl (Ne.symm (own_nd hnd 0 1 (by decide) rfl rfl)))
  have f511 := f483.other W493 (Or.inl (Ne.symm (own_nd hnd 0 1 (by decide) rfl rfl)))
  have f512 := f484.other W493 (Or.inl (Ne.symm (own_nd hnd 0 1 (by decide) rfl rfl)))
  have f513 := f485.other W493 (Or.inl (Ne.symm (own_nd hnd 0 1 (by decide) rfl rfl)))
  have f514 := f486.other W493 (Or.inl (Ne.symm (own_nd hnd 0 1 (by decide) rfl rfl)))
  have f515 := f465.other W493 (Or.inr (slot_ne (Or.inl (wd hw 84 rfl)) (Or.inl (wd hw 86 rfl)) (by decide) (t := .int) (t' := .int) (by decide) (by decide)))
  have Zn516 := Nat.le_trans Zn487 (Keep.of_wr W493).1
  have N517 := Fr.snoc X493 N492 (hge a1 (List.mem_of_getElem? (i := 0) rfl))
  have K518 := K489.wr W493 (Or.inl (List.mem_of_getElem? (i := 0) rfl))
  obtain ⟨T519, X519, e519, st519⟩ := getF X493 hx hZ hown (host := "") (Or.inl (wd hw 73 rfl)) Via.refl e493 f503 (g := (mkF m 38 #[vR a1, vI p1, vI p2, vI p3, vI 1, vI nx, .unset, .unset, .unset, .unset, .unset, .unset, .unset, .unset, .unset, .unset, .unset] [(.ref a1)])) rfl rfl (hb hby d8_38)
  obtain ⟨T520, X520, e520, st520⟩ := getF X519 hx hZ hown (Or.inr (wd hw 90 rfl)) Via.refl e519 f510 (g := (mkF m 41 #[vR a1, vI p1, vI p2, vI p3, vI 1, vI nx, .unset, .unset, .unset, .unset, .unset, .unset, .unset, .unset, .unset, .unset, .unset] [(.ref t)])) rfl rfl (hb hby d8_41)
  obtain ⟨T521, h521, X521, e521, W521, st521⟩ := own_sI X520 hx hZ e520 f505 (j := nx) hxn (f := (mkF m 47 #[vR a1, vI p1, vI p2, vI p3, vI 1, vI nx, .unset, .unset, .unset, .unset, .unset, .unset, .unset, .unset, .unset, .unset, .unset] [(.int p1), (.int nx), (.ref x1)])) rfl rfl (hb hby d8_47)
  have f522 : own_V Z h521 x1 .int 9 (fun ii => .int ((own_up fF (nx).toNatClampNeg p1) ii)) := own_V.setI f505 W521
  have f523 := f495.wr W521
  have f524 := f496.other W521 (Or.inl (own_nd hnd 1 5 (by decide) rfl rfl))
  have f525 := f497.other W521 (Or.inl (own_nd hnd 1 5 (by decide) rfl rfl))
  have f526 := f498.wr W521
  have f527 := f499.other W521 (Or.inl (own_nd hnd 2 5 (by decide) rfl rfl))
  have f528 := f500.other W521 (Or.inl (own_nd hnd 2 5 (by decide) rfl rfl))
  have f529 := f501.other W521 (Or.inl (own_nd hnd 2 5 (by decide) rfl rfl))
  have f530 := f502.other W521 (own_nd hnd 3 5 (by decide) rfl rfl)
  have f531 := f503.other W521 (Or.inl (own_nd hnd 0 5 (by decide) rfl rfl))
  have f532 := f504.other W521 (own_nd hnd 4 5 (by decide) rfl rfl)
  have f533 := f506.other W521 (Ne.symm (own_nd hnd 5 6 (by decide) rfl rfl))
  have f534 := f507.other W521 (Ne.symm (own_nd hnd 5 7 (by decide) rfl rfl))
  have f535 := f508.other W521 (Ne.symm (own_nd hnd 5 8 (by decide) rfl rfl))
  have f536 := f509.other W521 (Ne.symm (own_nd hnd 5 9 (by decide) rfl rfl))
  have f537 := f510.other W521 (Or.inl (own_nd hnd 1 5 (by decide) rfl rfl))
  have f538 := f511.other W521 (Or.inl (own_nd hnd 1 5 (by decide) rfl rfl))
  have f539 := f512.other W521 (Or.inl (own_nd hnd 1 5 (by decide) rfl rfl))
  have f540 := f513.other W521 (Or.inl (own_nd hnd 1 5 (by decide) rfl rfl))
  have f541 := f514.other W521 (Or.inl (own_nd hnd 1 5 (by decide) rfl rfl))
  have f542 := f515.other W521 (Or.inl (own_nd hnd 0 5 (by decide) rfl rfl))
  have f543 := f494.other W521 (Or.inl (own_nd hnd 0 5 (by decide) rfl rfl))
  have Zn544 := Nat.le_trans Zn516 (Keep.of_wr W521).1
  have N545 := Fr.snoc X521 N517 (hge x1 (List.mem_of_getElem? (i := 2) rfl))
  have K546 := K518.wr W521 (Or.inl (List.mem_of_getElem? (i := 2) rfl))
  obtain ⟨T547, X547, e547, st547⟩ := getF X521 hx hZ hown (host := "") (Or.inl (wd hw 73 rfl)) Via.refl e521 f531 (g := (mkF m 49 #[vR a1, vI p1, vI p2, vI p3, vI 1, vI nx, .unset, .unset, .unset, .unset, .unset, .unset, .unset, .unset, .unset, .unset, .unset] [(.ref a1)])) rfl rfl (hb hby d8_49)
  obtain ⟨T548, X548, e548, st548⟩ := getF X547 hx hZ hown (Or.inr (wd hw 91 rfl)) Via.refl e547 f538 (g := (mkF m 52 #[vR a1, vI p1, vI p2, vI p3, vI 1, vI nx, .unset, .unset, .unset, .unset, .unset, .unset, .unset, .unset, .unset, .unset, .unset] [(.ref t)])) rfl rfl (hb hby d8_52)
  obtain ⟨T549, h549, X549, e549, W549, st549⟩ := own_sI X548 hx hZ e548 f533 (j := nx) hxn (f := (mkF m 58 #[vR a1, vI p1, vI p2, vI p3, vI 1, vI nx, .unset, .unset, .unset, .unset, .unset, .unset, .unset, .unset, .unset, .unset, .unset] [(.int p2), (.int nx), (.ref x2)])) rfl rfl (hb hby d8_58)
  have f550 : own_V Z h549 x2 .int 9 (fun ii => .int ((own_up fE (nx).toNatClampNeg p2) ii)) := own_V.setI f533 W549
  have f551 := f523.wr W549
  have f552 := f524.other W549 (Or.inl (own_nd hnd 1 6 (by decide) rfl rfl))
  have f553 := f525.other W549 (Or.inl (own_nd hnd 1 6 (by decide) rfl rfl))
  have f554 := f526.wr W549
  have f555 := f527.other W549 (Or.inl (own_nd hnd 2 6 (by decide) rfl rfl))
  have f556 := f528.other W549 (Or.inl (own_nd hnd 2 6 (by decide) rfl rfl))
  have f557 := f529.other W549 (Or.inl (own_nd hnd 2 6 (by decide) rfl rfl))
  have f558 := f530.other W549 (own_nd hnd 3 6 (by decide) rfl rfl)
  have f559 := f531.other W549 (Or.inl (own_nd hnd 0 6 (by decide) rfl rfl))
  have f560 := f532.other W549 (own_nd hnd 4 6 (by decide) rfl rfl)
  have f561 := f534.other W549 (Ne.symm (own_nd hnd 6 7 (by decide) rfl rfl))
  have f562 := f535.other W549 (Ne.symm (own_nd hnd 6 8 (by decide) rfl rfl))
  have f563 := f536.other W549 (Ne.symm (own_nd hnd 6 9 (by decide) rfl rfl))
  have f564 := f537.other W549 (Or.inl (own_nd hnd 1 6 (by decide) rfl rfl))
  have f565 := f538.other W549 (Or.inl (own_nd hnd 1 6 (by decide) rfl rfl))
  have f566 := f539.other W549 (Or.inl (own_nd hnd 1 6 (by decide) rfl rfl))
  have f567 := f540.other W549 (Or.inl (own_nd hnd 1 6 (by decide) rfl rfl))
  have f568 := f541.other W549 (Or.inl (own_nd hnd 1 6 (by decide) rfl rfl))
  have f569 := f542.other W549 (Or.inl (own_nd hnd 0 6 (by decide) rfl rfl))
  have f570 := f543.other W549 (Or.inl (own_nd hnd 0 6 (by decide) rfl rfl))
  have f571 := f522.other W549 (own_nd hnd 5 6 (by decide) rfl rfl)
  have Zn572 := Nat.le_trans Zn544 (Keep.of_wr W549).1
  have N573 := Fr.snoc X549 N545 (hge x2 (List.mem_of_getElem? (i := 3) rfl))
  have K574 := K546.wr W549 (Or.inl (List.mem_of_getElem? (i := 3) rfl))
  obtain ⟨T575, X575, e575, st575⟩ := getF X549 hx hZ hown (host := "") (Or.inl (wd hw 73 rfl)) Via.refl e549 f559 (g := (mkF m 60 #[vR a1, vI p1, vI p2, vI p3, vI 1, vI nx, .unset, .unset, .unset, .unset, .unset, .unset, .unset, .unset, .unset, .unset, .unset] [(.ref a1)])) rfl rfl (hb hby d8_60)
  obtain ⟨T576, X576, e576, st576⟩ := getF X575 hx hZ hown (Or.inr (wd hw 92 rfl)) Via.refl e575 f566 (g := (mkF m 63 #[vR a1, vI p1, vI p2, vI p3, vI 1, vI nx, .unset, .unset, .unset, .unset, .unset, .unset, .unset, .unset, .unset, .unset, .unset] [(.ref t)])) rfl rfl (hb hby d8_63)
  obtain ⟨T577, h577, X577, e577, W577, st577⟩ := own_sI X576 hx hZ e576 f561 (j := nx) hxn (f := (mkF m 69 #[vR a1, vI p1, vI p2, vI p3, vI 1, vI nx, .unset, .unset, .unset, .unset, .unset, .unset, .unset, .unset, .unset, .unset, .unset] [(.int (-1 : Int32)), (.int nx), (.ref x3)])) rfl rfl (hb hby d8_69)
  have f578 : own_V Z h577 x3 .int 9 (fun ii => .int ((own_up fU (nx).toNatClampNeg (-1 : Int32)) ii)) := own_V.setI f561 W577
  have f579 := f551.wr W577
  have f580 := f552.other W577 (Or.inl (own_nd hnd 1 7 (by decide) rfl rfl))
  have f581 := f553.other W577 (Or.inl (own_nd hnd 1 7 (by decide) rfl rfl))
  have f582 := f554.wr W577
  have f583 := f555.other W577 (Or.inl (own_nd hnd 2 7 (by decide) rfl rfl))
  have f584 := f556.other W577 (Or.inl (own_nd hnd 2 7 (by decide) rfl rfl))
  have f585 := f557.other W577 (Or.inl (own_nd hnd 2 7 (by decide) rfl rfl))
  have f586 := f558.other W577 (own_nd hnd 3 7 (by decide) rfl rfl)
  have f587 := f559.other W577 (Or.inl (own_nd hnd 0 7 (by decide) rfl rfl))
  have f588 := f560.other W577 (own_nd hnd 4 7 (by decide) rfl rfl)
  have f589 := f562.other W577 (Ne.symm (own_nd hnd 7 8 (by decide) rfl rfl))
  have f590 := f563.other W577 (Ne.symm (own_nd hnd 7 9 (by decide) rfl rfl))
  have f591 := f564.other W577 (Or.inl (own_nd hnd 1 7 (by decide) rfl rfl))
  have f592 := f565.other W577 (Or.inl (own_nd hnd 1 7 (by decide) rfl rfl))
  have f593 := f566.other W577 (Or.inl (own_nd hnd 1 7 (by decide) rfl rfl))
  have f594 := f567.other W577 (Or.inl (own_nd hnd 1 7 (by decide) rfl rfl))
  have f595 := f568.other W577 (Or.inl (own_nd hnd 1 7 (by decide) rfl rfl))
  have f596 := f569.other W577 (Or.inl (own_nd hnd 0 7 (by decide) rfl rfl))
  have f597 := f570.other W577 (Or.inl (own_nd hnd 0 7 (by decide) rfl rfl))
  have f598 := f571.other W577 (own_nd hnd 5 7 (by decide) rfl rfl)
  have f599 := f550.other W577 (own_nd hnd 6 7 (by decide) rfl rfl)
  have Zn600 := Nat.le_trans Zn572 (Keep.of_wr W577).1
  have N601 := Fr.snoc X577 N573 (hge x3 (List.mem_of_getElem? (i := 4) rfl))
  have K602 := K574.wr W577 (Or.inl (List.mem_of_getElem? (i := 4) rfl))
  obtain ⟨T603, lo603, lo_603, hi_603, i_603, u_603, v_603,  X603, N603, e603, fl603, fh603, st603⟩ := loopL1 hw hx hZ hby hml hown a1 t pts co r gc Fg f0a q0a p1 p2 p3 nx (by omega) 67 (9218868437227405312 : UInt64) (18442240474082181120 : UInt64) p1 .unset .unset T577 h577 _ X577 e577 N601 Zn600 own_Two.u (by omega) (Or.inl ⟨rfl, rfl⟩) (Or.inl ⟨rfl, rfl⟩) f579 f587 f580 f581 f582 f583 f584 f585 f586 f588 (by omega)
  obtain ⟨T604, X604, e604, st604⟩ := getF X603 hx hZ hown (host := "") (Or.inl (wd hw 73 rfl)) Via.refl e603 f587 (g := (mkF m 154 #[vR a1, vI p1, vI p2, vI p3, vI 1, vI nx, vI 0, vD 0, .second, vI 0, vD lo_603, .second, vD hi_603, .second, vI i_603, u_603, v_603] [(.ref a1)])) rfl rfl (hb hby d8_154)
  obtain ⟨T605, X605, e605, st605⟩ := getF X604 hx hZ hown (Or.inr (wd hw 115 rfl)) Via.refl e604 f594 (g := (mkF m 157 #[vR a1, vI p1, vI p2, vI p3, vI 1, vI nx, vI 0, vD 0, .second, vI 0, vD lo_603, .second, vD hi_603, .second, vI i_603, u_603, v_603] [(.ref t)])) rfl rfl (hb hby d8_157)
  obtain ⟨T606, h606, X606, e606, W606, st606⟩ := own_sD X605 hx hZ e605 f589 (j := nx) hxn (f := (mkF m 170 #[vR a1, vI p1, vI p2, vI p3, vI 1, vI nx, vI 0, vD 0, .second, vI 0, vD lo_603, .second, vD hi_603, .second, vI i_603, u_603, v_603] [(.double lo_603), (.int nx), (.ref x4)])) rfl rfl (hb hby d8_170)
  have f607 : own_V Z h606 x4 .double 9 (fun ii => .double ((own_up g4a (nx).toNatClampNeg lo_603) ii)) := own_V.setD f589 W606
  have f608 := f579.wr W606
  have f609 := f580.other W606 (Or.inl (own_nd hnd 1 8 (by decide) rfl rfl))
  have f610 := f581.other W606 (Or.inl (own_nd hnd 1 8 (by decide) rfl rfl))
  have f611 := f582.wr W606
  have f612 := f583.other W606 (Or.inl (own_nd hnd 2 8 (by decide) rfl rfl))
  have f613 := f584.other W606 (Or.inl (own_nd hnd 2 8 (by decide) rfl rfl))
  have f614 := f585.other W606 (Or.inl (own_nd hnd 2 8 (by decide) rfl rfl))
  have f615 := f586.other W606 (own_nd hnd 3 8 (by decide) rfl rfl)
  have f616 := f587.other W606 (Or.inl (own_nd hnd 0 8 (by decide) rfl rfl))
  have f617 := f588.other W606 (own_nd hnd 4 8 (by decide) rfl rfl)
  have f618 := f590.other W606 (Ne.symm (own_nd hnd 8 9 (by decide) rfl rfl))
  have f619 := f591.other W606 (Or.inl (own_nd hnd 1 8 (by decide) rfl rfl))
  have f620 := f592.other W606 (Or.inl (own_nd hnd 1 8 (by decide) rfl rfl))
  have f621 := f593.other W606 (Or.inl (own_nd hnd 1 8 (by decide) rfl rfl))
  have f622 := f594.other W606 (Or.inl (own_nd hnd 1 8 (by decide) rfl rfl))
  have f623 := f595.other W606 (Or.inl (own_nd hnd 1 8 (by decide) rfl rfl))
  have f624 := f596.other W606 (Or.inl (own_nd hnd 0 8 (by decide) rfl rfl))
  have f625 := f597.other W606 (Or.inl (own_nd hnd 0 8 (by decide) rfl rfl))
  have f626 := f598.other W606 (own_nd hnd 5 8 (by decide) rfl rfl)
  have f627 := f599.other W606 (own_nd hnd 6 8 (by decide) rfl rfl)
  have f628 := f578.other W606 (own_nd hnd 7 8 (by decide) rfl rfl)
  have Zn629 := Nat.le_trans Zn600 (Keep.of_wr W606).1
  have N630 := Fr.snoc X606 N603 (hge x4 (List.mem_of_getElem? (i := 5) rfl))
  have K631 := K602.wr W606 (Or.inl (List.mem_of_getElem? (i := 5) rfl))
  obtain ⟨T632, X632, e632, st632⟩ := getF X606 hx hZ hown (host := "") (Or.inl (wd hw 73 rfl)) Via.refl e606 f616 (g := (mkF m 172 #[vR a1, vI p1, vI p2, vI p3, vI 1, vI nx, vI 0, vD 0, .second, vI 0, vD lo_603, .second, vD hi_603, .second, vI i_603, u_603, v_603] [(.ref a1)])) rfl rfl (hb hby d8_172)
  obtain ⟨T633, X633, e633, st633⟩ := getF X632 hx hZ hown (Or.inr (wd hw 116 rfl)) Via.refl e632 f623 (g := (mkF m 175 #[vR a1, vI p1, vI p2, vI p3, vI 1, vI nx, vI 0, vD 0, .second, vI 0, vD lo_603, .second, vD hi_603, .second, vI i_603, u_603, v_603] [(.ref t)])) rfl rfl (hb hby d8_175)
  obtain ⟨T634, h634, X634, e634, W634, st634⟩ := own_sD X633 hx hZ e633 f618 (j := nx) hxn (f := (mkF m 188 #[vR a1, vI p1, vI p2, vI p3, vI 1, vI nx, vI 0, vD 0, .second, vI 0, vD lo_603, .second, vD hi_603, .second, vI i_603, u_603, v_603] [(.double hi_603), (.int nx), (.ref x5)])) rfl rfl (hb hby d8_188)
  have f635 : own_V Z h634 x5 .double 9 (fun ii => .double ((own_up g5a (nx).toNatClampNeg hi_603) ii)) := own_V.setD f618 W634
  have f636 := f608.wr W634
  have f637 := f609.other W634 (Or.inl (own_nd hnd 1 9 (by decide) rfl rfl))
  have f638 := f610.other W634 (Or.inl (own_nd hnd 1 9 (by decide) rfl rfl))
  have f639 := f611.wr W634
  have f640 := f612.other W634 (Or.inl (own_nd hnd 2 9 (by decide) rfl rfl))
  have f641 := f613.other W634 (Or.inl (own_nd hnd 2 9 (by decide) rfl rfl))
  have f642 := f614.other W634 (Or.inl (own_nd hnd 2 9 (by decide) rfl rfl))
  have f643 := f615.other W634 (own_nd hnd 3 9 (by decide) rfl rfl)
  have f644 := f616.other W634 (Or.inl (own_nd hnd 0 9 (by decide) rfl rfl))
  have f645 := f617.other W634 (own_nd hnd 4 9 (by decide) rfl rfl)
  have f646 := f619.other W634 (Or.inl (own_nd hnd 1 9 (by decide) rfl rfl))
  have f647 := f620.other W634 (Or.inl (own_nd hnd 1 9 (by decide) rfl rfl))
  have f648 := f621.other W634 (Or.inl (own_nd hnd 1 9 (by decide) rfl rfl))
  have f649 := f622.other W634 (Or.inl (own_nd hnd 1 9 (by decide) rfl rfl))
  have f650 := f623.other W634 (Or.inl (own_nd hnd 1 9 (by decide) rfl rfl))
  have f651 := f624.other W634 (Or.inl (own_nd hnd 0 9 (by decide) rfl rfl))
  have f652 := f625.other W634 (Or.inl (own_nd hnd 0 9 (by decide) rfl rfl))
  have f653 := f626.other W634 (own_nd hnd 5 9 (by decide) rfl rfl)
  have f654 := f627.other W634 (own_nd hnd 6 9 (by decide) rfl rfl)
  have f655 := f628.other W634 (own_nd hnd 7 9 (by decide) rfl rfl)
  have f656 := f607.other W634 (own_nd hnd 8 9 (by decide) rfl rfl)
  have Zn657 := Nat.le_trans Zn629 (Keep.of_wr W634).1
  have N658 := Fr.snoc X634 N630 (hge x5 (List.mem_of_getElem? (i := 6) rfl))
  have K659 := K631.wr W634 (Or.inl (List.mem_of_getElem? (i := 6) rfl))
  obtain ⟨cw, hcw⟩ : ∃ z, cmpValue (FP.dcmp (FP.dsub hi_603 lo_603) (0 : UInt64)) .l = z := ⟨_, rfl⟩
  obtain ⟨v661, hv661⟩ : ∃ v : UInt64, v = if (0 : Int32) < cw then (FP.dsub hi_603 lo_603) else (0 : UInt64) := ⟨_, rfl⟩
  by_cases hA : (32 : Int32) < (p2 - p1)
  · have hA' := own_gt32 pd1 hA
    obtain ⟨cx, hcx⟩ : ∃ z, cmpValue (FP.dcmp v661 (0 : UInt64)) .l = z := ⟨_, rfl⟩
    by_cases hB : (0 : Int32) < cx
    · obtain ⟨cq662, q662, q662'⟩ := f636.cell
      obtain ⟨_, _, ⟨T662, L662, k662, n662⟩, -, X662, ⟨Lc662, hQ662, l662, y662, z662⟩, st662⟩ := X634.privateBack hx (y := (⟨"com/example/flatfinder/flatfinder/neighbours/KdTree$Builder", "partition", "(IIII)V"⟩ : MethodName)) hown (mvT hZ (wd hw 165 rfl)) (mvT hZ (wd hw 166 rfl)) (own_selSelf (mvT hZ (wd hw 68 rfl)) (Cond.privateMethod_at (mvP hZ (wd hw 167 rfl) (args := #[]))) (mvT hZ (wd hw 166 rfl)) (by decide)) (Cond.privateMethod_at (mvP hZ (wd hw 167 rfl) (args := #[]))) (mvT hZ (wd hw 168 rfl)) (by decide) (backOf (W := 0) (rm22 l Z a0 hw [] a1 p1 p2 (own_half (p1 + p2)) t pts co r gc h634 n0 Zn657 f636 f644 f637 f638 f639 f640 f641 f642 f643 Fg ⟨_, f645, q0a⟩ (by omega) (hge r (List.mem_of_getElem? (i := 1) rfl)) (own_nd hnd 0 4 (by decide) rfl rfl) (own_nd hnd 1 4 (by decide) rfl rfl) (own_nd hnd 2 4 (by decide) rfl rfl) (own_nd hnd 3 4 (by decide) rfl rfl)) hZ (wd hw 168 rfl) (wd hw 69 rfl) (by decide) (by decide)) (g := (mkF m 246 #[vR a1, vI p1, vI p2, vI p3, vI 1, vI nx, vI 0, vD v661, .second, vI (own_half (p1 + p2)), vD lo_603, .second, vD hi_603, .second, vI i_603, u_603, v_603] [(.int (0 : Int32)), (.int (own_half (p1 + p2))), (.int p2), (.int p1), (.ref a1)])) rfl (by rw [hml]; rfl) (Steps.refl _) (a := a1) (by rw [e634]; exact q662) q662' (argsL := [(.int p1), (.int p2), (.int (own_half (p1 + p2))), (.int (0 : Int32))]) (rest := []) (lenOf pd__IIII_V rfl) rfl (by show 2 * 0 + _ ≤ _; exact Nat.le_of_eq rfl) (hb hby d8_246) (fun _ _ => ⟨rfl, e634, (by decide : 0 + 1 ≤ _), (by decide : 0 + 66 ≤ _)⟩)
      dsimp only [Pt.U, Pt.locs, Pt.cells, Pt.slots] at X662 l662 y662 z662 st662 hQ662
      subst l662 y662 z662
      obtain ⟨rfl, N662q, K662, R662⟩ := hQ662
      have N663 := Fr.app N658 N662q
      have f664 := f636.keep K662
      have f665 := f637.keep K662 (ninS (own_nd hnd 1 4 (by decide) rfl rfl) nin0)
      have f666 := f638.keep K662 (ninS (own_nd hnd 1 4 (by decide) rfl rfl) nin0)
      have f667 := f639.keep K662
      have f668 := f640.keep K662 (ninS (own_nd hnd 2 4 (by decide) rfl rfl) nin0)
      have f669 := f641.keep K662 (ninS (own_nd hnd 2 4 (by decide) rfl rfl) nin0)
      have f670 := f642.keep K662 (ninS (own_nd hnd 2 4 (by decide) rfl rfl) nin0)
      have f671 := f643.keep K662 (ninS (own_nd hnd 3 4 (by decide) rfl rfl) nin0)
      have f672 := f644.keep K662 (ninS (own_nd hnd 0 4 (by decide) rfl rfl) nin0)
      have f673 := f646.keep K662 (ninS (own_nd hnd 1 4 (by decide) rfl rfl) nin0)
      have f674 := f647.keep K662 (ninS (own_nd hnd 1 4 (by decide) rfl rfl) nin0)
      have f675 := f648.keep K662 (ninS (own_nd hnd 1 4 (by decide) rfl rfl) nin0)
      have f676 := f649.keep K662 (ninS (own_nd hnd 1 4 (by decide) rfl rfl) nin0)
      have f677 := f650.keep K662 (ninS (own_nd hnd 1 4 (by decide) rfl rfl) nin0)
      have f678 := f651.keep K662 (ninS (own_nd hnd 0 4 (by decide) rfl rfl) nin0)
      have f679 := f652.keep K662 (ninS (own_nd hnd 0 4 (by decide) rfl rfl) nin0)
      have f680 := f653.keep K662 (ninS (Ne.symm (own_nd hnd 4 5 (by decide) rfl rfl)) nin0)
      have f681 := f654.keep K662 (ninS (Ne.symm (own_nd hnd 4 6 (by decide) rfl rfl)) nin0)
      have f682 := f655.keep K662 (ninS (Ne.symm (own_nd hnd 4 7 (by decide) rfl rfl)) nin0)
      have f683 := f656.keep K662 (ninS (Ne.symm (own_nd hnd 4 8 (by decide) rfl rfl)) nin0)
      have f684 := f635.keep K662 (ninS (Ne.symm (own_nd hnd 4 9 (by decide) rfl rfl)) nin0)
      have Zn685 := Nat.le_trans Zn657 K662.1
      have K686 := K659.trans K662 (allS (Or.inl (List.mem_of_getElem? (i := 1) rfl)) all0)
      obtain ⟨cq687, kq687, q687a, q687b, q687c⟩ := isOf hZ rfl f664
      obtain ⟨_, _, ⟨T687, L687, k687, n687⟩, -, X687, ⟨Lc687, hQ687, l687, y687, z687⟩, st687⟩ := X662.virtualBack hx (y := (⟨"com/example/flatfinder/flatfinder/neighbours/KdTree$Builder", "build", "(III)V"⟩ : MethodName)) (z := (⟨"com/example/flatfinder/flatfinder/neighbours/KdTree$Builder", "build", "(III)V"⟩ : MethodName)) hown (mvT hZ (wd hw 182 rfl)) (mvT hZ (wd hw 77 rfl)) (notFace_of_selects (args := #[]) (mvT hZ (wd hw 79 rfl))) (mvT hZ (wd hw 79 rfl)) (mvT hZ (wd hw 78 rfl)) (by decide) (backOf (W := 0) (rm8_0 l Z a0 hw [] a1 p1 (own_half (p1 + p2)) (p3 + (1 : Int32)) t pts co r x1 x2 x3 x4 x5 gc (nx + (1 : Int32)) (own_up fF (nx).toNatClampNeg p1) (own_up fE (nx).toNatClampNeg p2) (own_up fU (nx).toNatClampNeg (-1 : Int32)) T662.heap n0 Zn685 f664 f672 f665 f666 f667 f668 f669 f670 f671 f673 f674 f675 f676 f677 Fg ⟨f672, f678, ⟨_, f679⟩, R662, f680, f681, f682, ⟨_, f683⟩, ⟨_, f684⟩⟩ (by omega) (by omega) hnd hge) hZ (wd hw 80 rfl) (wd hw 69 rfl) (by decide) (by decide)) q687a q687c (g := (mkF m 256 #[vR a1, vI p1, vI p2, vI p3, vI 1, vI nx, vI 0, vD v661, .second, vI (own_half (p1 + p2)), vD lo_603, .second, vD hi_603, .second, vI i_603, u_603, v_603] [(.int (p3 + (1 : Int32))), (.int (own_half (p1 + p2))), (.int p1), (.ref a1)])) rfl (by rw [hml]; rfl) (Steps.refl _) (argsL := [(.int p1), (.int (own_half (p1 + p2))), (.int (p3 + (1 : Int32)))]) (rest := []) (lenOf pd__III_V rfl) rfl (by show 2 * 0 + _ ≤ _; exact Nat.le_of_eq rfl) (hb hby d8_256) (fun _ _ => ⟨rfl, rfl, (by decide : 1 + 0 ≤ _), (by decide : 66 + 0 ≤ _)⟩)
      dsimp only [Pt.U, Pt.locs, Pt.cells, Pt.slots] at X687 l687 y687 z687 st687 hQ687
      subst l687 y687 z687
      obtain ⟨rfl, N687q, K687, n687', F687', E687', U687', rel687, S687⟩ := hQ687
      have N688 := Fr.app N663 N687q
      have f689 := f664.keep K687
      have f690 := f665.keep K687 (ninS (Ne.symm (own_nd hnd 0 1 (by decide) rfl rfl)) (ninS (own_nd hnd 1 4 (by decide) rfl rfl) (ninS (own_nd hnd 1 5 (by decide) rfl rfl) (ninS (own_nd hnd 1 6 (by decide) rfl rfl) (ninS (own_nd hnd 1 7 (by decide) rfl rfl) (ninS (own_nd hnd 1 8 (by decide) rfl rfl) (ninS (own_nd hnd 1 9 (by decide) rfl rfl) nin0)))))))
      have f691 := f666.keep K687 (ninS (Ne.symm (own_nd hnd 0 1 (by decide) rfl rfl)) (ninS (own_nd hnd 1 4 (by decide) rfl rfl) (ninS (own_nd hnd 1 5 (by decide) rfl rfl) (ninS (own_nd hnd 1 6 (by decide) rfl rfl) (ninS (own_nd hnd 1 7 (by decide) rfl rfl) (ninS (own_nd hnd 1 8 (by decide) rfl rfl) (ninS (own_nd hnd 1 9 (by decide) rfl rfl) nin0)))))))
      have f692 := f667.keep K687
      have f693 := f668.keep K687 (ninS (Ne.symm (own_nd hnd 0 2 (by decide) rfl rfl)) (ninS (own_nd hnd 2 4 (by decide) rfl rfl) (ninS (own_nd hnd 2 5 (by decide) rfl rfl) (ninS (own_nd hnd 2 6 (by decide) rfl rfl) (ninS (own_nd hnd 2 7 (by decide) rfl rfl) (ninS (own_nd hnd 2 8 (by decide) rfl rfl) (ninS (own_nd hnd 2 9 (by decide) rfl rfl) nin0)))))))
      have f694 := f669.keep K687 (ninS (Ne.symm (own_nd hnd 0 2 (by decide) rfl rfl)) (ninS (own_nd hnd 2 4 (by decide) rfl rfl) (ninS (own_nd hnd 2 5 (by decide) rfl rfl) (ninS (own_nd hnd 2 6 (by decide) rfl rfl) (ninS (own_nd hnd 2 7 (by decide) rfl rfl) (ninS (own_nd hnd 2 8 (by decide) rfl rfl) (ninS (own_nd hnd 2 9 (by decide) rfl rfl) nin0)))))))
      have f695 := f670.keep K687 (ninS (Ne.symm (own_nd hnd 0 2 (by decide) rfl rfl)) (ninS (own_nd hnd 2 4 (by decide) rfl rfl) (ninS (own_nd hnd 2 5 (by decide) rfl rfl) (ninS (own_nd hnd 2 6 (by decide) rfl rfl) (ninS (own_nd hnd 2 7 (by decide) rfl rfl) (ninS (own_nd hnd 2 8 (by decide) rfl rfl) (ninS (own_nd hnd 2 9 (by decide) rfl rfl) nin0)))))))
      have f696 := f671.keep K687 (ninS (Ne.symm (own_nd hnd 0 3 (by decide) rfl rfl)) (ninS (own_nd hnd 3 4 (by decide) rfl rfl) (ninS (own_nd hnd 3 5 (by decide) rfl rfl) (ninS (own_nd hnd 3 6 (by decide) rfl rfl) (ninS (own_nd hnd 3 7 (by decide) rfl rfl) (ninS (own_nd hnd 3 8 (by decide) rfl rfl) (ninS (own_nd hnd 3 9 (by decide) rfl rfl) nin0)))))))
      have f697 := f673.keep K687 (ninS (Ne.symm (own_nd hnd 0 1 (by decide) rfl rfl)) (ninS (own_nd hnd 1 4 (by decide) rfl rfl) (ninS (own_nd hnd 1 5 (by decide) rfl rfl) (ninS (own_nd hnd 1 6 (by decide) rfl rfl) (ninS (own_nd hnd 1 7 (by decide) rfl rfl) (ninS (own_nd hnd 1 8 (by decide) rfl rfl) (ninS (own_nd hnd 1 9 (by decide) rfl rfl) nin0)))))))
      have f698 := f674.keep K687 (ninS (Ne.symm (own_nd hnd 0 1 (by decide) rfl rfl)) (ninS (own_nd hnd 1 4 (by decide) rfl rfl) (ninS (own_nd hnd 1 5 (by decide) rfl rfl) (ninS (own_nd hnd 1 6 (by decide) rfl rfl) (ninS (own_nd hnd 1 7 (by decide) rfl rfl) (ninS (own_nd hnd 1 8 (by decide) rfl rfl) (ninS (own_nd hnd 1 9 (by decide) rfl rfl) nin0)))))))
      have f699 := f675.keep K687 (ninS (Ne.symm (own_nd hnd 0 1 (by decide) rfl rfl)) (ninS (own_nd hnd 1 4 (by decide) rfl rfl) (ninS (own_nd hnd 1 5 (by decide) rfl rfl) (ninS (own_nd hnd 1 6 (by decide) rfl rfl) (ninS (own_nd hnd 1 7 (by decide) rfl rfl) (ninS (own_nd hnd 1 8 (by decide) rfl rfl) (ninS (own_nd hnd 1 9 (by decide) rfl rfl) nin0)))))))
      have f700 := f676.keep K687 (ninS (Ne.symm (own_nd hnd 0 1 (by decide) rfl rfl)) (ninS (own_nd hnd 1 4 (by decide) rfl rfl) (ninS (own_nd hnd 1 5 (by decide) rfl rfl) (ninS (own_nd hnd 1 6 (by decide) rfl rfl) (ninS (own_nd hnd 1 7 (by decide) rfl rfl) (ninS (own_nd hnd 1 8 (by decide) rfl rfl) (ninS (own_nd hnd 1 9 (by decide) rfl rfl) nin0)))))))
      have f701 := f677.keep K687 (ninS (Ne.symm (own_nd hnd 0 1 (by decide) rfl rfl)) (ninS (own_nd hnd 1 4 (by decide) rfl rfl) (ninS (own_nd hnd 1 5 (by decide) rfl rfl) (ninS (own_nd hnd 1 6 (by decide) rfl rfl) (ninS (own_nd hnd 1 7 (by decide) rfl rfl) (ninS (own_nd hnd 1 8 (by decide) rfl rfl) (ninS (own_nd hnd 1 9 (by decide) rfl rfl) nin0)))))))
      have Zn702 := Nat.le_trans Zn685 K687.1
      have K703 := K686.trans K687 (allS (Or.inl (List.mem_of_getElem? (i := 0) rfl)) (allS (Or.inl (List.mem_of_getElem? (i := 1) rfl)) (allS (Or.inl (List.mem_of_getElem? (i := 2) rfl)) (allS (Or.inl (List.mem_of_getElem? (i := 3) rfl)) (allS (Or.inl (List.mem_of_getElem? (i := 4) rfl)) (allS (Or.inl (List.mem_of_getElem? (i := 5) rfl)) (allS (Or.inl (List.mem_of_getElem? (i := 6) rfl)) all0)))))))
      obtain ⟨Ftb, Fnb, ⟨dpb, Fdpb⟩, ⟨f0b, V0b, q0b⟩, V1b, V2b, V3b, ⟨g4b, V4b⟩, ⟨g5b, V5b⟩⟩ := id S687
      have hrn := own_rel_n0 rel687 (by omega) (by omega)
      obtain ⟨T704, X704, e704, st704⟩ := getF X687 hx hZ hown (host := "") (Or.inl (wd hw 73 rfl)) Via.refl rfl Ftb (g := (mkF m 260 #[vR a1, vI p1, vI p2, vI p3, vI 1, vI nx, vI 0, vD v661, .second, vI (own_half (p1 + p2)), vD lo_603, .second, vD hi_603, .second, vI i_603, u_603, v_603] [(.ref a1)])) rfl rfl (hb hby d8_260)
      obtain ⟨T705, X705, e705, st705⟩ := getF X704 hx hZ hown (Or.inr (wd hw 92 rfl)) Via.refl e704 f699 (g := (mkF m 263 #[vR a1, vI p1, vI p2, vI p3, vI 1, vI nx, vI 0, vD v661, .second, vI (own_half (p1 + p2)), vD lo_603, .second, vD hi_603, .second, vI i_603, u_603, v_603] [(.ref t)])) rfl rfl (hb hby d8_263)
      obtain ⟨T706, X706, e706, st706⟩ := getF X705 hx hZ hown (host := "") (Or.inl (wd hw 83 rfl)) Via.refl e705 Fnb (g := (mkF m 269 #[vR a1, vI p1, vI p2, vI p3, vI 1, vI nx, vI 0, vD v661, .second, vI (own_half (p1 + p2)), vD lo_603, .second, vD hi_603, .second, vI i_603, u_603, v_603] [(.ref a1), (.int nx), (.ref x3)])) rfl rfl (hb hby d8_269)
      obtain ⟨T707, h707, X707, e707, W707, st707⟩ := own_sI X706 hx hZ e706 V3b (j := nx) hxn (f := (mkF m 272 #[vR a1, vI p1, vI p2, vI p3, vI 1, vI nx, vI 0, vD v661, .second, vI (own_half (p1 + p2)), vD lo_603, .second, vD hi_603, .second, vI i_603, u_603, v_603] [(.int n687'), (.int nx), (.ref x3)])) rfl rfl (hb hby d8_272)
      have f708 : own_V Z h707 x3 .int 9 (fun ii => .int ((own_up U687' (nx).toNatClampNeg n687') ii)) := own_V.setI V3b W707
      have f709 := f689.wr W707
      have f710 := f690.other W707 (Or.inl (own_nd hnd 1 7 (by decide) rfl rfl))
      have f711 := f691.other W707 (Or.inl (own_nd hnd 1 7 (by decide) rfl rfl))
      have f712 := f692.wr W707
      have f713 := f693.other W707 (Or.inl (own_nd hnd 2 7 (by decide) rfl rfl))
      have f714 := f694.other W707 (Or.inl (own_nd hnd 2 7 (by decide) rfl rfl))
      have f715 := f695.other W707 (Or.inl (own_nd hnd 2 7 (by decide) rfl rfl))
      have f716 := f696.other W707 (own_nd hnd 3 7 (by decide) rfl rfl)
      have f717 := f697.other W707 (Or.inl (own_nd hnd 1 7 (by decide) rfl rfl))
      have f718 := f698.other W707 (Or.inl (own_nd hnd 1 7 (by decide) rfl rfl))
      have f719 := f699.other W707 (Or.inl (own_nd hnd 1 7 (by decide) rfl rfl))
      have f720 := f700.other W707 (Or.inl (own_nd hnd 1 7 (by decide) rfl rfl))
      have f721 := f701.other W707 (Or.inl (own_nd hnd 1 7 (by decide) rfl rfl))
      have f722 := Ftb.other W707 (Or.inl (own_nd hnd 0 7 (by decide) rfl rfl))
      have f723 := Fnb.other W707 (Or.inl (own_nd hnd 0 7 (by decide) rfl rfl))
      have f724 := Fdpb.other W707 (Or.inl (own_nd hnd 0 7 (by decide) rfl rfl))
      have f725 := V0b.other W707 (own_nd hnd 4 7 (by decide) rfl rfl)
      have f726 := V1b.other W707 (own_nd hnd 5 7 (by decide) rfl rfl)
      have f727 := V2b.other W707 (own_nd hnd 6 7 (by decide) rfl rfl)
      have f728 := V4b.other W707 (Ne.symm (own_nd hnd 7 8 (by decide) rfl rfl))
      have f729 := V5b.other W707 (Ne.symm (own_nd hnd 7 9 (by decide) rfl rfl))
      have Zn730 := Nat.le_trans Zn702 (Keep.of_wr W707).1
      have N731 := Fr.snoc X707 N688 (hge x3 (List.mem_of_getElem? (i := 4) rfl))
      have K732 := K703.wr W707 (Or.inl (List.mem_of_getElem? (i := 4) rfl))
      obtain ⟨cq733, kq733, q733a, q733b, q733c⟩ := isOf hZ e707 f709
      obtain ⟨_, _, ⟨T733, L733, k733, n733⟩, -, X733, ⟨Lc733, hQ733, l733, y733, z733⟩, st733⟩ := X707.virtualBack hx (y := (⟨"com/example/flatfinder/flatfinder/neighbours/KdTree$Builder", "build", "(III)V"⟩ : MethodName)) (z := (⟨"com/example/flatfinder/flatfinder/neighbours/KdTree$Builder", "build", "(III)V"⟩ : MethodName)) hown (mvT hZ (wd hw 182 rfl)) (mvT hZ (wd hw 77 rfl)) (notFace_of_selects (args := #[]) (mvT hZ (wd hw 79 rfl))) (mvT hZ (wd hw 79 rfl)) (mvT hZ (wd hw 78 rfl)) (by decide) (backOf (W := 0) (rm8_0 l Z a0 hw [] a1 (own_half (p1 + p2)) p2 (p3 + (1 : Int32)) t pts co r x1 x2 x3 x4 x5 gc n687' F687' E687' (own_up U687' (nx).toNatClampNeg n687') h707 n0 Zn730 f709 f722 f710 f711 f712 f713 f714 f715 f716 f717 f718 f719 f720 f721 Fg ⟨f722, f723, ⟨_, f724⟩, ⟨_, f725, q0b⟩, f726, f727, f708, ⟨_, f728⟩, ⟨_, f729⟩⟩ (by omega) (by omega) hnd hge) hZ (wd hw 80 rfl) (wd hw 69 rfl) (by decide) (by decide)) q733a q733c (g := (mkF m 280 #[vR a1, vI p1, vI p2, vI p3, vI 1, vI nx, vI 0, vD v661, .second, vI (own_half (p1 + p2)), vD lo_603, .second, vD hi_603, .second, vI i_603, u_603, v_603] [(.int (p3 + (1 : Int32))), (.int p2), (.int (own_half (p1 + p2))), (.ref a1)])) rfl (by rw [hml]; rfl) (Steps.refl _) (argsL := [(.int (own_half (p1 + p2))), (.int p2), (.int (p3 + (1 : Int32)))]) (rest := []) (lenOf pd__III_V rfl) rfl (by show 2 * 0 + _ ≤ _; exact Nat.le_of_eq rfl) (hb hby d8_280) (fun _ _ => ⟨rfl, e707, (by decide : 1 + 0 ≤ _), (by decide : 66 + 0 ≤ _)⟩)
      dsimp only [Pt.U, Pt.locs, Pt.cells, Pt.slots] at X733 l733 y733 z733 st733 hQ733
      subst l733 y733 z733
      obtain ⟨rfl, N733q, K733, n733', F733', E733', U733', rel733, S733⟩ := hQ733
      have N734 := Fr.app N731 N733q
      have f735 := f709.keep K733
      have f736 := f710.keep K733 (ninS (Ne.symm (own_nd hnd 0 1 (by decide) rfl rfl)) (ninS (own_nd hnd 1 4 (by decide) rfl rfl) (ninS (own_nd hnd 1 5 (by decide) rfl rfl) (ninS (own_nd hnd 1 6 (by decide) rfl rfl) (ninS (own_nd hnd 1 7 (by decide) rfl rfl) (ninS (own_nd hnd 1 8 (by decide) rfl rfl) (ninS (own_nd hnd 1 9 (by decide) rfl rfl) nin0)))))))
      have f737 := f711.keep K733 (ninS (Ne.symm (own_nd hnd 0 1 (by decide) rfl rfl)) (ninS (own_nd hnd 1 4 (by decide) rfl rfl) (ninS (own_nd hnd 1 5 (by decide) rfl rfl) (ninS (own_nd hnd 1 6 (by decide) rfl rfl) (ninS (own_nd hnd 1 7 (by decide) rfl rfl) (ninS (own_nd hnd 1 8 (by decide) rfl rfl) (ninS (own_nd hnd 1 9 (by decide) rfl rfl) nin0)))))))
      have f738 := f712.keep K733
      have f739 := f713.keep K733 (ninS (Ne.symm (own_nd hnd 0 2 (by decide) rfl rfl)) (ninS (own_nd hnd 2 4 (by decide) rfl rfl) (ninS (own_nd hnd 2 5 (by decide) rfl rfl) (ninS (own_nd hnd 2 6 (by decide) rfl rfl) (ninS (own_nd hnd 2 7 (by decide) rfl rfl) (ninS (own_nd hnd 2 8 (by decide) rfl rfl) (ninS (own_nd hnd 2 9 (by decide) rfl rfl) nin0)))))))
      have f740 := f714.keep K733 (ninS (Ne.symm (own_nd hnd 0 2 (by decide) rfl rfl)) (ninS (own_nd hnd 2 4 (by decide) rfl rfl) (ninS (own_nd hnd 2 5 (by decide) rfl rfl) (ninS (own_nd hnd 2 6 (by decide) rfl rfl) (ninS (own_nd hnd 2 7 (by decide) rfl rfl) (ninS (own_nd hnd 2 8 (by decide) rfl rfl) (ninS (own_nd hnd 2 9 (by decide) rfl rfl) nin0)))))))
      have f741 := f715.keep K733 (ninS (Ne.symm (own_nd hnd 0 2 (by decide) rfl rfl)) (ninS (own_nd hnd 2 4 (by decide) rfl rfl) (ninS (own_nd hnd 2 5 (by decide) rfl rfl) (ninS (own_nd hnd 2 6 (by decide) rfl rfl) (ninS (own_nd hnd 2 7 (by decide) rfl rfl) (ninS (own_nd hnd 2 8 (by decide) rfl rfl) (ninS (own_nd hnd 2 9 (by decide) rfl rfl) nin0)))))))
      have f742 := f716.keep K733 (ninS (Ne.symm (own_nd hnd 0 3 (by decide) rfl rfl)) (ninS (own_nd hnd 3 4 (by decide) rfl rfl) (ninS (own_nd hnd 3 5 (by decide) rfl rfl) (ninS (own_nd hnd 3 6 (by decide) rfl rfl) (ninS (own_nd hnd 3 7 (by decide) rfl rfl) (ninS (own_nd hnd 3 8 (by decide) rfl rfl) (ninS (own_nd hnd 3 9 (by decide) rfl rfl) nin0)))))))
      have f743 := f717.keep K733 (ninS (Ne.symm (own_nd hnd 0 1 (by decide) rfl rfl)) (ninS (own_nd hnd 1 4 (by decide) rfl rfl) (ninS (own_nd hnd 1 5 (by decide) rfl rfl) (ninS (own_nd hnd 1 6 (by decide) rfl rfl) (ninS (own_nd hnd 1 7 (by decide) rfl rfl) (ninS (own_nd hnd 1 8 (by decide) rfl rfl) (ninS (own_nd hnd 1 9 (by decide) rfl rfl) nin0)))))))
      have f744 := f718.keep K733 (ninS (Ne.symm (own_nd hnd 0 1 (by decide) rfl rfl)) (ninS (own_nd hnd 1 4 (by decide) rfl rfl) (ninS (own_nd hnd 1 5 (by decide) rfl rfl) (ninS (own_nd hnd 1 6 (by decide) rfl rfl) (ninS (own_nd hnd 1 7 (by decide) rfl rfl) (ninS (own_nd hnd 1 8 (by decide) rfl rfl) (ninS (own_nd hnd 1 9 (by decide) rfl rfl) nin0)))))))
      have f745 := f719.keep K733 (ninS (Ne.symm (own_nd hnd 0 1 (by decide) rfl rfl)) (ninS (own_nd hnd 1 4 (by decide) rfl rfl) (ninS (own_nd hnd 1 5 (by decide) rfl rfl) (ninS (own_nd hnd 1 6 (by decide) rfl rfl) (ninS (own_nd hnd 1 7 (by decide) rfl rfl) (ninS (own_nd hnd 1 8 (by decide) rfl rfl) (ninS (own_nd hnd 1 9 (by decide) rfl rfl) nin0)))))))
      have f746 := f720.keep K733 (ninS (Ne.symm (own_nd hnd 0 1 (by decide) rfl rfl)) (ninS (own_nd hnd 1 4 (by decide) rfl rfl) (ninS (own_nd hnd 1 5 (by decide) rfl rfl) (ninS (own_nd hnd 1 6 (by decide) rfl rfl) (ninS (own_nd hnd 1 7 (by decide) rfl rfl) (ninS (own_nd hnd 1 8 (by decide) rfl rfl) (ninS (own_nd hnd 1 9 (by decide) rfl rfl) nin0)))))))
      have f747 := f721.keep K733 (ninS (Ne.symm (own_nd hnd 0 1 (by decide) rfl rfl)) (ninS (own_nd hnd 1 4 (by decide) rfl rfl) (ninS (own_nd hnd 1 5 (by decide) rfl rfl) (ninS (own_nd hnd 1 6 (by decide) rfl rfl) (ninS (own_nd hnd 1 7 (by decide) rfl rfl) (ninS (own_nd hnd 1 8 (by decide) rfl rfl) (ninS (own_nd hnd 1 9 (by decide) rfl rfl) nin0)))))))
      have Zn748 := Nat.le_trans Zn730 K733.1
      have K749 := K732.trans K733 (allS (Or.inl (List.mem_of_getElem? (i := 0) rfl)) (allS (Or.inl (List.mem_of_getElem? (i := 1) rfl)) (allS (Or.inl (List.mem_of_getElem? (i := 2) rfl)) (allS (Or.inl (List.mem_of_getElem? (i := 3) rfl)) (allS (Or.inl (List.mem_of_getElem? (i := 4) rfl)) (allS (Or.inl (List.mem_of_getElem? (i := 5) rfl)) (allS (Or.inl (List.mem_of_getElem? (i := 6) rfl)) all0)))))))
      obtain ⟨fs, hr, hrun, hended, hW, hsame⟩ := X733.leave (v := none) (fun _ => rfl)
      refine ⟨_, _, pre0 _ ?_, hrun, hended, _, _, rfl, ?_, ⟨_, rfl⟩, hW, hsame.mono (by decide) (by decide)⟩
      · show Steps p.tables e below (s₁.setTop (mkF m 0 #[vR a1, vI p1, vI p2, vI p3, .unset, .unset, .unset, .unset, .unset, .unset, .unset, .unset, .unset, .unset, .unset, .unset, .unset] [])) _
        refine XS.aloadN X0.here hx rfl (hb hby d8_0) rfl rfl ?_
        show Steps p.tables e below (s₁.setTop (mkF m 1 #[vR a1, vI p1, vI p2, vI p3, .unset, .unset, .unset, .unset, .unset, .unset, .unset, .unset, .unset, .unset, .unset, .unset, .unset] [(.ref a1)])) _
        refine st459 _ ?_
        show Steps p.tables e below (T459.setTop (mkF m 4 #[vR a1, vI p1, vI p2, vI p3, .unset, .unset, .unset, .unset, .unset, .unset, .unset, .unset, .unset, .unset, .unset, .unset, .unset] [(.ref t)])) _
        refine st460 _ ?_
        show Steps p.tables e below (T460.setTop (mkF m 7 #[vR a1, vI p1, vI p2, vI p3, .unset, .unset, .unset, .unset, .unset, .unset, .unset, .unset, .unset, .unset, .unset, .unset, .unset] [(.ref pts)])) _
        refine st461.trans ?_
        show Steps p.tables e below (T461.setTop (mkF m 10 #[vR a1, vI p1, vI p2, vI p3, .unset, .unset, .unset, .unset, .unset, .unset, .unset, .unset, .unset, .unset, .unset, .unset, .unset] [(.int (1 : Int32))])) _
        refine XS.istore X461.here hx rfl (hb hby d8_10) rfl (l' := #[vR a1, vI p1, vI p2, vI p3, vI 1, .unset, .unset, .unset, .unset, .unset, .unset, .unset, .unset, .unset, .unset, .unset, .unset]) rfl ?_
        refine XS.aloadN X461.here hx rfl (hb hby d8_12) rfl rfl ?_
        refine XS.dup X461.here hx rfl (hb hby d8_13) rfl rfl ?_
        show Steps p.tables e below (T461.setTop (mkF m 14 #[vR a1, vI p1, vI p2, vI p3, vI 1, .unset, .unset, .unset, .unset, .unset, .unset, .unset, .unset, .unset, .unset, .unset, .unset] [(.ref a1), (.ref a1)])) _
        refine st463 _ ?_
        show Steps p.tables e below (T463.setTop (mkF m 17 #[vR a1, vI p1, vI p2, vI p3, vI 1, .unset, .unset, .unset, .unset, .unset, .unset, .unset, .unset, .unset, .unset, .unset, .unset] [(.int nx), (.ref a1)])) _
        refine XS.dupX1 X463.here hx rfl (hb hby d8_17) rfl rfl rfl ?_
        refine XS.iconst X463.here hx rfl (hb hby d8_18) ?_
        refine XS.iadd X463.here hx rfl (hb hby d8_19) rfl ?_
        show Steps p.tables e below (T463.setTop (mkF m 20 #[vR a1, vI p1, vI p2, vI p3, vI 1, .unset, .unset, .unset, .unset, .unset, .unset, .unset, .unset, .unset, .unset, .unset, .unset] [(.int (nx + (1 : Int32))), (.ref a1), (.int nx)])) _
        refine st464 _ ?_
        show Steps p.tables e below (T464.setTop (mkF m 23 #[vR a1, vI p1, vI p2, vI p3, vI 1, .unset, .unset, .unset, .unset, .unset, .unset, .unset, .unset, .unset, .unset, .unset, .unset] [(.int nx)])) _
        refine XS.istore X464.here hx rfl (hb hby d8_23) rfl (l' := #[vR a1, vI p1, vI p2, vI p3, vI 1, vI nx, .unset, .unset, .unset, .unset, .unset, .unset, .unset, .unset, .unset, .unset, .unset]) rfl ?_
        refine XS.aloadN X464.here hx rfl (hb hby d8_25) rfl rfl ?_
        refine XS.aloadN X464.here hx rfl (hb hby d8_26) rfl rfl ?_
        show Steps p.tables e below (T464.setTop (mkF m 27 #[vR a1, vI p1, vI p2, vI p3, vI 1, vI nx, .unset, .unset, .unset, .unset, .unset, .unset, .unset, .unset, .unset, .unset, .unset] [(.ref a1), (.ref a1)])) _
        refine st490 _ ?_
        show Steps p.tables e below (T490.setTop (mkF m 30 #[vR a1, vI p1, vI p2, vI p3, vI 1, vI nx, .unset, .unset, .unset, .unset, .unset, .unset, .unset, .unset, .unset, .unset, .unset] [(.int dpa), (.ref a1)])) _
        refine XS.iloadN X490.here hx rfl (hb hby d8_30) rfl ?_
        show Steps p.tables e below (T490.setTop (mkF m 31 #[vR a1, vI p1, vI p2, vI p3, vI 1, vI nx, .unset, .unset, .unset, .unset, .unset, .unset, .unset, .unset, .unset, .unset, .unset] [(.int p3), (.int dpa), (.ref a1)])) _
        refine st491 _ ?_
        show Steps p.tables e below (T491.setTop (mkF m 34 #[vR a1, vI p1, vI p2, vI p3, vI 1, vI nx, .unset, .unset, .unset, .unset, .unset, .unset, .unset, .unset, .unset, .unset, .unset] [(.int (own_max dpa p3)), (.ref a1)])) _
        refine st493 _ ?_
        show Steps p.tables e below (T493.setTop (mkF m 37 #[vR a1, vI p1, vI p2, vI p3, vI 1, vI nx, .unset, .unset, .unset, .unset, .unset, .unset, .unset, .unset, .unset, .unset, .unset] [])) _
        refine XS.aloadN X493.here hx rfl (hb hby d8_37) rfl rfl ?_
        show Steps p.tables e below (T493.setTop (mkF m 38 #[vR a1, vI p1, vI p2, vI p3, vI 1, vI nx, .unset, .unset, .unset, .unset, .unset, .unset, .unset, .unset, .unset, .unset, .unset] [(.ref a1)])) _
        refine st519 _ ?_
        show Steps p.tables e below (T519.setTop (mkF m 41 #[vR a1, vI p1, vI p2, vI p3, vI 1, vI nx, .unset, .unset, .unset, .unset, .unset, .unset, .unset, .unset, .unset, .unset, .unset] [(.ref t)])) _
        refine st520 _ ?_
        show Steps p.tables e below (T520.setTop (mkF m 44 #[vR a1, vI p1, vI p2, vI p3, vI 1, vI nx, .unset, .unset, .unset, .unset, .unset, .unset, .unset, .unset, .unset, .unset, .unset] [(.ref x1)])) _
        refine XS.iload X520.here hx rfl (hb hby d8_44) rfl ?_
        refine XS.iloadN X520.here hx rfl (hb hby d8_46) rfl ?_
        show Steps p.tables e below (T520.setTop (mkF m 47 #[vR a1, vI p1, vI p2, vI p3, vI 1, vI nx, .unset, .unset, .unset, .unset, .unset, .unset, .unset, .unset, .unset, .unset, .unset] [(.int p1), (.int nx), (.ref x1)])) _
        refine st521 _ ?_
        show Steps p.tables e below (T521.setTop (mkF m 48 #[vR a1, vI p1, vI p2, vI p3, vI 1, vI nx, .unset, .unset, .unset, .unset, .unset, .unset, .unset, .unset, .unset, .unset, .unset] [])) _
        refine XS.aloadN X521.here hx rfl (hb hby d8_48) rfl rfl ?_
        show Steps p.tables e below (T521.setTop (mkF m 49 #[vR a1, vI p1, vI p2, vI p3, vI 1, vI nx, .unset, .unset, .unset, .unset, .unset, .unset, .unset, .unset, .unset, .unset, .unset] [(.ref a1)])) _
        refine st547 _ ?_
        show Steps p.tables e below (T547.setTop (mkF m 52 #[vR a1, vI p1, vI p2, vI p3, vI 1, vI nx, .unset, .unset, .unset, .unset, .unset, .unset, .unset, .unset, .unset, .unset, .unset] [(.ref t)])) _
        refine st548 _ ?_
        show Steps p.tables e below (T548.setTop (mkF m 55 #[vR a1, vI p1, vI p2, vI p3, vI 1, vI nx, .unset, .unset, .unset, .unset, .unset, .unset, .unset, .unset, .unset, .unset, .unset] [(.ref x2)])) _
        refine XS.iload X548.here hx rfl (hb hby d8_55) rfl ?_
        refine XS.iloadN X548.here hx rfl (hb hby d8_57) rfl ?_
        show Steps p.tables e below (T548.setTop (mkF m 58 #[vR a1, vI p1, vI p2, vI p3, vI 1, vI nx, .unset, .unset, .unset, .unset, .unset, .unset, .unset, .unset, .unset, .unset, .unset] [(.int p2), (.int nx), (.ref x2)])) _
        refine st549 _ ?_
        show Steps p.tables e below (T549.setTop (mkF m 59 #[vR a1, vI p1, vI p2, vI p3, vI 1, vI nx, .unset, .unset, .unset, .unset, .unset, .unset, .unset, .unset, .unset, .unset, .unset] [])) _
        refine XS.aloadN X549.here hx rfl (hb hby d8_59) rfl rfl ?_
        show Steps p.tables e below (T549.setTop (mkF m 60 #[vR a1, vI p1, vI p2, vI p3, vI 1, vI nx, .unset, .unset, .unset, .unset, .unset, .unset, .unset, .unset, .unset, .unset, .unset] [(.ref a1)])) _
        refine st575 _ ?_
        show Steps p.tables e below (T575.setTop (mkF m 63 #[vR a1, vI p1, vI p2, vI p3, vI 1, vI nx, .unset, .unset, .unset, .unset, .unset, .unset, .unset, .unset, .unset, .unset, .unset] [(.ref t)])) _
        refine st576 _ ?_
        show Steps p.tables e below (T576.setTop (mkF m 66 #[vR a1, vI p1, vI p2, vI p3, vI 1, vI nx, .unset, .unset, .unset, .unset, .unset, .unset, .unset, .unset, .unset, .unset, .unset] [(.ref x3)])) _
        refine XS.iload X576.here hx rfl (hb hby d8_66) rfl ?_
        refine XS.iconst X576.here hx rfl (hb hby d8_68) ?_
        show Steps p.tables e below (T576.setTop (mkF m 69 #[vR a1, vI p1, vI p2, vI p3, vI 1, vI nx, .unset, .unset, .unset, .unset, .unset, .unset, .unset, .unset, .unset, .unset, .unset] [(.int (-1 : Int32)), (.int nx), (.ref x3)])) _
        refine st577 _ ?_
        show Steps p.tables e below (T577.setTop (mkF m 70 #[vR a1, vI p1, vI p2, vI p3, vI 1, vI nx, .unset, .unset, .unset, .unset, .unset, .unset, .unset, .unset, .unset, .unset, .unset] [])) _
        refine XS.iconst X577.here hx rfl (hb hby d8_70) ?_
        refine XS.istore X577.here hx rfl (hb hby d8_71) rfl (l' := #[vR a1, vI p1, vI p2, vI p3, vI 1, vI nx, vI 0, .unset, .unset, .unset, .unset, .unset, .unset, .unset, .unset, .unset, .unset]) rfl ?_
        show Steps p.tables e below (T577.setTop (mkF m 73 #[vR a1, vI p1, vI p2, vI p3, vI 1, vI nx, vI 0, .unset, .unset, .unset, .unset, .unset, .unset, .unset, .unset, .unset, .unset] [])) _
        refine own_szero X577.here hx (hb hby d8_73) ?_
        show Steps p.tables e below (T577.setTop (mkF m 74 #[vR a1, vI p1, vI p2, vI p3, vI 1, vI nx, vI 0, .unset, .unset, .unset, .unset, .unset, .unset, .unset, .unset, .unset, .unset] [(.double (0 : UInt64))])) _
        refine own_sstore X577.here hx (l' := #[vR a1, vI p1, vI p2, vI p3, vI 1, vI nx, vI 0, vD 0, .second, .unset, .unset, .unset, .unset, .unset, .unset, .unset, .unset]) (hb hby d8_74) rfl ?_
        show Steps p.tables e below (T577.setTop (mkF m 76 #[vR a1, vI p1, vI p2, vI p3, vI 1, vI nx, vI 0, vD 0, .second, .unset, .unset, .unset, .unset, .unset, .unset, .unset, .unset] [])) _
        refine XS.iconst X577.here hx rfl (hb hby d8_76) ?_
        refine XS.istore X577.here hx rfl (hb hby d8_77) rfl (l' := #[vR a1, vI p1, vI p2, vI p3, vI 1, vI nx, vI 0, vD 0, .second, vI 0, .unset, .unset, .unset, .unset, .unset, .unset, .unset]) rfl ?_
        refine XS.iload X577.here hx rfl (hb hby d8_79) rfl ?_
        refine XS.iload X577.here hx rfl (hb hby d8_81) rfl ?_
        refine XS.icmpNo X577.here hx rfl (hb hby d8_83) rfl (tlt (by decide)).2.1 ?_
        show Steps p.tables e below (T577.setTop (mkF m 86 #[vR a1, vI p1, vI p2, vI p3, vI 1, vI nx, vI 0, vD 0, .second, vI 0, .unset, .unset, .unset, .unset, .unset, .unset, .unset] [])) _
        refine X577.ldc2DoubleC hx hown (mvT hZ (wd hw 93 rfl)) (g := (mkF m 86 #[vR a1, vI p1, vI p2, vI p3, vI 1, vI nx, vI 0, vD 0, .second, vI 0, .unset, .unset, .unset, .unset, .unset, .unset, .unset] [])) rfl (hb hby d8_86) _ ?_
        show Steps p.tables e below (T577.setTop (mkF m 89 #[vR a1, vI p1, vI p2, vI p3, vI 1, vI nx, vI 0, vD 0, .second, vI 0, .unset, .unset, .unset, .unset, .unset, .unset, .unset] [(.double (9218868437227405312 : UInt64))])) _
        refine own_sstore X577.here hx (l' := #[vR a1, vI p1, vI p2, vI p3, vI 1, vI nx, vI 0, vD 0, .second, vI 0, vD 9218868437227405312, .second, .unset, .unset, .unset, .unset, .unset]) (hb hby d8_89) rfl ?_
        show Steps p.tables e below (T577.setTop (mkF m 91 #[vR a1, vI p1, vI p2, vI p3, vI 1, vI nx, vI 0, vD 0, .second, vI 0, vD 9218868437227405312, .second, .unset, .unset, .unset, .unset, .unset] [])) _
        refine X577.ldc2DoubleC hx hown (mvT hZ (wd hw 94 rfl)) (g := (mkF m 91 #[vR a1, vI p1, vI p2, vI p3, vI 1, vI nx, vI 0, vD 0, .second, vI 0, vD 9218868437227405312, .second, .unset, .unset, .unset, .unset, .unset] [])) rfl (hb hby d8_91) _ ?_
        show Steps p.tables e below (T577.setTop (mkF m 94 #[vR a1, vI p1, vI p2, vI p3, vI 1, vI nx, vI 0, vD 0, .second, vI 0, vD 9218868437227405312, .second, .unset, .unset, .unset, .unset, .unset] [(.double (18442240474082181120 : UInt64))])) _
        refine own_sstore X577.here hx (l' := #[vR a1, vI p1, vI p2, vI p3, vI 1, vI nx, vI 0, vD 0, .second, vI 0, vD 9218868437227405312, .second, vD 18442240474082181120, .second, .unset, .unset, .unset]) (hb hby d8_94) rfl ?_
        show Steps p.tables e below (T577.setTop (mkF m 96 #[vR a1, vI p1, vI p2, vI p3, vI 1, vI nx, vI 0, vD 0, .second, vI 0, vD 9218868437227405312, .second, vD 18442240474082181120, .second, .unset, .unset, .unset] [])) _
        refine XS.iloadN X577.here hx rfl (hb hby d8_96) rfl ?_
        refine XS.istore X577.here hx rfl (hb hby d8_97) rfl (l' := #[vR a1, vI p1, vI p2, vI p3, vI 1, vI nx, vI 0, vD 0, .second, vI 0, vD 9218868437227405312, .second, vD 18442240474082181120, .second, vI p1, .unset, .unset]) rfl ?_
        show Steps p.tables e below (T577.setTop (mkF m 99 #[vR a1, vI p1, vI p2, vI p3, vI 1, vI nx, vI 0, vD 0, .second, vI 0, vD 9218868437227405312, .second, vD 18442240474082181120, .second, vI p1, .unset, .unset] [])) _
        refine st603 _ ?_
        show Steps p.tables e below (T603.setTop (mkF m 153 #[vR a1, vI p1, vI p2, vI p3, vI 1, vI nx, vI 0, vD 0, .second, vI 0, vD lo_603, .second, vD hi_603, .second, vI i_603, u_603, v_603] [])) _
        refine XS.aloadN X603.here hx rfl (hb hby d8_153) rfl rfl ?_
        show Steps p.tables e below (T603.setTop (mkF m 154 #[vR a1, vI p1, vI p2, vI p3, vI 1, vI nx, vI 0, vD 0, .second, vI 0, vD lo_603, .second, vD hi_603, .second, vI i_603, u_603, v_603] [(.ref a1)])) _
        refine st604 _ ?_
        show Steps p.tables e below (T604.setTop (mkF m 157 #[vR a1, vI p1, vI p2, vI p3, vI 1, vI nx, vI 0, vD 0, .second, vI 0, vD lo_603, .second, vD hi_603, .second, vI i_603, u_603, v_603] [(.ref t)])) _
        refine st605 _ ?_
        show Steps p.tables e below (T605.setTop (mkF m 160 #[vR a1, vI p1, vI p2, vI p3, vI 1, vI nx, vI 0, vD 0, .second, vI 0, vD lo_603, .second, vD hi_603, .second, vI i_603, u_603, v_603] [(.ref x4)])) _
        refine XS.iload X605.here hx rfl (hb hby d8_160) rfl ?_
        refine XS.iload X605.here hx rfl (hb hby d8_162) rfl ?_
        refine XS.imul X605.here hx rfl (hb hby d8_164) rfl ?_
        refine XS.iload X605.here hx rfl (hb hby d8_165) rfl ?_
        refine XS.iadd X605.here hx rfl (hb hby d8_167) rfl ?_
        show Steps p.tables e below (T605.setTop (mkF m 168 #[vR a1, vI p1, vI p2, vI p3, vI 1, vI nx, vI 0, vD 0, .second, vI 0, vD lo_603, .second, vD hi_603, .second, vI i_603, u_603, v_603] [(.int ((nx * (1 : Int32)) + (0 : Int32))), (.ref x4)])) _
        refine own_sload X605.here hx (hb hby d8_168) rfl ?_
        show Steps p.tables e below (T605.setTop (mkF m 170 #[vR a1, vI p1, vI p2, vI p3, vI 1, vI nx, vI 0, vD 0, .second, vI 0, vD lo_603, .second, vD hi_603, .second, vI i_603, u_603, v_603] [(.double lo_603), (.int ((nx * (1 : Int32)) + (0 : Int32))), (.ref x4)])) _
        rw [own_idx]
        show Steps p.tables e below (T605.setTop (mkF m 170 #[vR a1, vI p1, vI p2, vI p3, vI 1, vI nx, vI 0, vD 0, .second, vI 0, vD lo_603, .second, vD hi_603, .second, vI i_603, u_603, v_603] [(.double lo_603), (.int nx), (.ref x4)])) _
        refine st606 _ ?_
        show Steps p.tables e below (T606.setTop (mkF m 171 #[vR a1, vI p1, vI p2, vI p3, vI 1, vI nx, vI 0, vD 0, .second, vI 0, vD lo_603, .second, vD hi_603, .second, vI i_603, u_603, v_603] [])) _
        refine XS.aloadN X606.here hx rfl (hb hby d8_171) rfl rfl ?_
        show Steps p.tables e below (T606.setTop (mkF m 172 #[vR a1, vI p1, vI p2, vI p3, vI 1, vI nx, vI 0, vD 0, .second, vI 0, vD lo_603, .second, vD hi_603, .second, vI i_603, u_603, v_603] [(.ref a1)])) _
        refine st632 _ ?_
        show Steps p.tables e below (T632.setTop (mkF m 175 #[vR a1, vI p1, vI p2, vI p3, vI 1, vI nx, vI 0, vD 0, .second, vI 0, vD lo_603, .second, vD hi_603, .second, vI i_603, u_603, v_603] [(.ref t)])) _
        refine st633 _ ?_
        show Steps p.tables e below (T633.setTop (mkF m 178 #[vR a1, vI p1, vI p2, vI p3, vI 1, vI nx, vI 0, vD 0, .second, vI 0, vD lo_603, .second, vD hi_603, .second, vI i_603, u_603, v_603] [(.ref x5)])) _
        refine XS.iload X633.here hx rfl (hb hby d8_178) rfl ?_
        refine XS.iload X633.here hx rfl (hb hby d8_180) rfl ?_
        refine XS.imul X633.here hx rfl (hb hby d8_182) rfl ?_
        refine XS.iload X633.here hx rfl (hb hby d8_183) rfl ?_
        refine XS.iadd X633.here hx rfl (hb hby d8_185) rfl ?_
        show Steps p.tables e below (T633.setTop (mkF m 186 #[vR a1, vI p1, vI p2, vI p3, vI 1, vI nx, vI 0, vD 0, .second, vI 0, vD lo_603, .second, vD hi_603, .second, vI i_603, u_603, v_603] [(.int ((nx * (1 : Int32)) + (0 : Int32))), (.ref x5)])) _
        refine own_sload X633.here hx (hb hby d8_186) rfl ?_
        show Steps p.tables e below (T633.setTop (mkF m 188 #[vR a1, vI p1, vI p2, vI p3, vI 1, vI nx, vI 0, vD 0, .second, vI 0, vD lo_603, .second, vD hi_603, .second, vI i_603, u_603, v_603] [(.double hi_603), (.int ((nx * (1 : Int32)) + (0 : Int32))), (.ref x5)])) _
        rw [own_idx]
        show Steps p.tables e below (T633.setTop (mkF m 188 #[vR a1, vI p1, vI p2, vI p3, vI 1, vI nx, vI 0, vD 0, .second, vI 0, vD lo_603, .second, vD hi_603, .second, vI i_603, u_603, v_603] [(.double hi_603), (.int nx), (.ref x5)])) _
        refine st634 _ ?_
        show Steps p.tables e below (T634.setTop (mkF m 189 #[vR a1, vI p1, vI p2, vI p3, vI 1, vI nx, vI 0, vD 0, .second, vI 0, vD lo_603, .second, vD hi_603, .second, vI i_603, u_603, v_603] [])) _
        refine own_sload X634.here hx (hb hby d8_189) rfl ?_
        show Steps p.tables e below (T634.setTop (mkF m 191 #[vR a1, vI p1, vI p2, vI p3, vI 1, vI nx, vI 0, vD 0, .second, vI 0, vD lo_603, .second, vD hi_603, .second, vI i_603, u_603, v_603] [(.double hi_603)])) _
        refine own_sload X634.here hx (hb hby d8_191) rfl ?_
        show Steps p.tables e below (T634.setTop (mkF m 193 #[vR a1, vI p1, vI p2, vI p3, vI 1, vI nx, vI 0, vD 0, .second, vI 0, vD lo_603, .second, vD hi_603, .second, vI i_603, u_603, v_603] [(.double lo_603), (.double hi_603)])) _
        refine own_ssub X634.here hx (hb hby d8_193) (Jvm.Free.Fl.val64_no.mpr (Jvm.Free.Fl.val64_no.mp (Jvm.Free.Fl.dsub_out fh603.noNaN fl603))) ?_
        show Steps p.tables e below (T634.setTop (mkF m 194 #[vR a1, vI p1, vI p2, vI p3, vI 1, vI nx, vI 0, vD 0, .second, vI 0, vD lo_603, .second, vD hi_603, .second, vI i_603, u_603, v_603] [(.double (FP.dsub hi_603 lo_603))])) _
        refine own_sload X634.here hx (hb hby d8_194) rfl ?_
        show Steps p.tables e below (T634.setTop (mkF m 196 #[vR a1, vI p1, vI p2, vI p3, vI 1, vI nx, vI 0, vD 0, .second, vI 0, vD lo_603, .second, vD hi_603, .second, vI i_603, u_603, v_603] [(.double (0 : UInt64)), (.double (FP.dsub hi_603 lo_603))])) _
        refine own_scmp X634.here hx (z := cw) (hb hby d8_196) hcw ?_
        refine joinS (B := T634.setTop (mkF m 211 #[vR a1, vI p1, vI p2, vI p3, vI 1, vI nx, vI 0, vD v661, .second, vI 0, vD lo_603, .second, vD hi_603, .second, vI i_603, u_603, v_603] [])) (fun kt => ?_) ?_
        · by_cases hc660 : (0 : Int32) < cw
          · rw [show v661 = (FP.dsub hi_603 lo_603) from by rw [hv661, if_pos hc660]] at kt
            show Steps p.tables e below (T634.setTop (mkF m 197 #[vR a1, vI p1, vI p2, vI p3, vI 1, vI nx, vI 0, vD 0, .second, vI 0, vD lo_603, .second, vD hi_603, .second, vI i_603, u_603, v_603] [(.int cw)])) _
            refine XS.ifNo X634.here hx rfl (hb hby d8_197) rfl ((if0 _ _).trans (tlt hc660).2.2.2) ?_
            refine XS.iload X634.here hx rfl (hb hby d8_200) rfl ?_
            refine XS.istore X634.here hx rfl (hb hby d8_202) rfl (l' := #[vR a1, vI p1, vI p2, vI p3, vI 1, vI nx, vI 0, vD 0, .second, vI 0, vD lo_603, .second, vD hi_603, .second, vI i_603, u_603, v_603]) rfl ?_
            show Steps p.tables e below (T634.setTop (mkF m 204 #[vR a1, vI p1, vI p2, vI p3, vI 1, vI nx, vI 0, vD 0, .second, vI 0, vD lo_603, .second, vD hi_603, .second, vI i_603, u_603, v_603] [])) _
            refine own_sload X634.here hx (hb hby d8_204) rfl ?_
            show Steps p.tables e below (T634.setTop (mkF m 206 #[vR a1, vI p1, vI p2, vI p3, vI 1, vI nx, vI 0, vD 0, .second, vI 0, vD lo_603, .second, vD hi_603, .second, vI i_603, u_603, v_603] [(.double hi_603)])) _
            refine own_sload X634.here hx (hb hby d8_206) rfl ?_
            show Steps p.tables e below (T634.setTop (mkF m 208 #[vR a1, vI p1, vI p2, vI p3, vI 1, vI nx, vI 0, vD 0, .second, vI 0, vD lo_603, .second, vD hi_603, .second, vI i_603, u_603, v_603] [(.double lo_603), (.double hi_603)])) _
            refine own_ssub X634.here hx (hb hby d8_208) (Jvm.Free.Fl.val64_no.mpr (Jvm.Free.Fl.val64_no.mp (Jvm.Free.Fl.dsub_out fh603.noNaN fl603))) ?_
            show Steps p.tables e below (T634.setTop (mkF m 209 #[vR a1, vI p1, vI p2, vI p3, vI 1, vI nx, vI 0, vD 0, .second, vI 0, vD lo_603, .second, vD hi_603, .second, vI i_603, u_603, v_603] [(.double (FP.dsub hi_603 lo_603))])) _
            refine own_sstore X634.here hx (l' := #[vR a1, vI p1, vI p2, vI p3, vI 1, vI nx, vI 0, vD (FP.dsub hi_603 lo_603), .second, vI 0, vD lo_603, .second, vD hi_603, .second, vI i_603, u_603, v_603]) (hb hby d8_209) rfl ?_
            exact kt
          · rw [show v661 = (0 : UInt64) from by rw [hv661, if_neg hc660]] at kt
            show Steps p.tables e below (T634.setTop (mkF m 197 #[vR a1, vI p1, vI p2, vI p3, vI 1, vI nx, vI 0, vD 0, .second, vI 0, vD lo_603, .second, vD hi_603, .second, vI i_603, u_603, v_603] [(.int cw)])) _
            refine XS.ifYes X634.here hx rfl (pc0 := 197) (pc' := 211) rfl (hb hby d8_197) rfl ((if0 _ _).trans (flt hc660).2.2.2) (by decide) (by decide) ?_
            exact kt
        show Steps p.tables e below (T634.setTop (mkF m 211 #[vR a1, vI p1, vI p2, vI p3, vI 1, vI nx, vI 0, vD v661, .second, vI 0, vD lo_603, .second, vD hi_603, .second, vI i_603, u_603, v_603] [])) _
        refine XS.iinc X634.here hx rfl (hb hby d8_211) rfl (l' := #[vR a1, vI p1, vI p2, vI p3, vI 1, vI nx, vI 0, vD v661, .second, vI 1, vD lo_603, .second, vD hi_603, .second, vI i_603, u_603, v_603]) rfl ?_
        refine XS.goto X634.here hx rfl (pc0 := 214) (pc' := 79) rfl (hb hby d8_214) (by decide) (by decide) ?_
        refine XS.iload X634.here hx rfl (hb hby d8_79) rfl ?_
        refine XS.iload X634.here hx rfl (hb hby d8_81) rfl ?_
        refine XS.icmpYes X634.here hx rfl (pc0 := 83) (pc' := 217) rfl (hb hby d8_83) rfl (flt (by decide)).2.1 (by decide) (by decide) ?_
        refine XS.iloadN X634.here hx rfl (hb hby d8_217) rfl ?_
        refine XS.iloadN X634.here hx rfl (hb hby d8_218) rfl ?_
        show Steps p.tables e below (T634.setTop (mkF m 219 #[vR a1, vI p1, vI p2, vI p3, vI 1, vI nx, vI 0, vD v661, .second, vI 1, vD lo_603, .second, vD hi_603, .second, vI i_603, u_603, v_603] [(.int p1), (.int p2)])) _
        refine XS.isub X634.here hx rfl (hb hby d8_219) rfl ?_
        refine XS.bipush X634.here hx rfl (hb hby d8_220) ?_
        refine XS.icmpNo X634.here hx rfl (hb hby d8_222) rfl (tlt hA).2.2.2 ?_
        show Steps p.tables e below (T634.setTop (mkF m 225 #[vR a1, vI p1, vI p2, vI p3, vI 1, vI nx, vI 0, vD v661, .second, vI 1, vD lo_603, .second, vD hi_603, .second, vI i_603, u_603, v_603] [])) _
        refine own_sload X634.here hx (hb hby d8_225) rfl ?_
        show Steps p.tables e below (T634.setTop (mkF m 227 #[vR a1, vI p1, vI p2, vI p3, vI 1, vI nx, vI 0, vD v661, .second, vI 1, vD lo_603, .second, vD hi_603, .second, vI i_603, u_603, v_603] [(.double v661)])) _
        refine own_szero X634.here hx (hb hby d8_227) ?_
        show Steps p.tables e below (T634.setTop (mkF m 228 #[vR a1, vI p1, vI p2, vI p3, vI 1, vI nx, vI 0, vD v661, .second, vI 1, vD lo_603, .second, vD hi_603, .second, vI i_603, u_603, v_603] [(.double (0 : UInt64)), (.double v661)])) _
        refine own_scmp X634.here hx (z := cx) (hb hby d8_228) hcx ?_
        show Steps p.tables e below (T634.setTop (mkF m 229 #[vR a1, vI p1, vI p2, vI p3, vI 1, vI nx, vI 0, vD v661, .second, vI 1, vD lo_603, .second, vD hi_603, .second, vI i_603, u_603, v_603] [(.int cx)])) _
        refine XS.ifNo X634.here hx rfl (hb hby d8_229) rfl ((if0 _ _).trans (tlt hB).2.2.2) ?_
        refine XS.iloadN X634.here hx rfl (hb hby d8_232) rfl ?_
        refine XS.iloadN X634.here hx rfl (hb hby d8_233) rfl ?_
        refine XS.iadd X634.here hx rfl (hb hby d8_234) rfl ?_
        refine XS.iconst X634.here hx rfl (hb hby d8_235) ?_
        refine XS.iushr X634.here hx rfl (hb hby d8_236) rfl ?_
        refine XS.istore X634.here hx rfl (hb hby d8_237) rfl (l' := #[vR a1, vI p1, vI p2, vI p3, vI 1, vI nx, vI 0, vD v661, .second, vI (own_half (p1 + p2)), vD lo_603, .second, vD hi_603, .second, vI i_603, u_603, v_603]) rfl ?_
        show Steps p.tables e below (T634.setTop (mkF m 239 #[vR a1, vI p1, vI p2, vI p3, vI 1, vI nx, vI 0, vD v661, .second, vI (own_half (p1 + p2)), vD lo_603, .second, vD hi_603, .second, vI i_603, u_603, v_603] [])) _
        refine XS.aloadN X634.here hx rfl (hb hby d8_239) rfl rfl ?_
        refine XS.iloadN X634.here hx rfl (hb hby d8_240) rfl ?_
        refine XS.iloadN X634.here hx rfl (hb hby d8_241) rfl ?_
        refine XS.iload X634.here hx rfl (hb hby d8_242) rfl ?_
        refine XS.iload X634.here hx rfl (hb hby d8_244) rfl ?_
        show Steps p.tables e below (T634.setTop (mkF m 246 #[vR a1, vI p1, vI p2, vI p3, vI 1, vI nx, vI 0, vD v661, .second, vI (own_half (p1 + p2)), vD lo_603, .second, vD hi_603, .second, vI i_603, u_603, v_603] [(.int (0 : Int32)), (.int (own_half (p1 + p2))), (.int p2), (.int p1), (.ref a1)])) _
        refine st662.trans ?_
        show Steps p.tables e below (T662.setTop (mkF m 249 #[vR a1, vI p1, vI p2, vI p3, vI 1, vI nx, vI 0, vD v661, .second, vI (own_half (p1 + p2)), vD lo_603, .second, vD hi_603, .second, vI i_603, u_603, v_603] [])) _
        refine XS.aloadN X662.here hx rfl (hb hby d8_249) rfl rfl ?_
        refine XS.iloadN X662.here hx rfl (hb hby d8_250) rfl ?_
        refine XS.iload X662.here hx rfl (hb hby d8_251) rfl ?_
        refine XS.iloadN X662.here hx rfl (hb hby d8_253) rfl ?_
        refine XS.iconst X662.here hx rfl (hb hby d8_254) ?_
        refine XS.iadd X662.here hx rfl (hb hby d8_255) rfl ?_
        show Steps p.tables e below (T662.setTop (mkF m 256 #[vR a1, vI p1, vI p2, vI p3, vI 1, vI nx, vI 0, vD v661, .second, vI (own_half (p1 + p2)), vD lo_603, .second, vD hi_603, .second, vI i_603, u_603, v_603] [(.int (p3 + (1 : Int32))), (.int (own_half (p1 + p2))), (.int p1), (.ref a1)])) _
        refine st687.trans ?_
        show Steps p.tables e below (T687.setTop (mkF m 259 #[vR a1, vI p1, vI p2, vI p3, vI 1, vI nx, vI 0, vD v661, .second, vI (own_half (p1 + p2)), vD lo_603, .second, vD hi_603, .second, vI i_603, u_603, v_603] [])) _
        refine XS.aloadN X687.here hx rfl (hb hby d8_259) rfl rfl ?_
        show Steps p.tables e below (T687.setTop (mkF m 260 #[vR a1, vI p1, vI p2, vI p3, vI 1, vI nx, vI 0, vD v661, .second, vI (own_half (p1 + p2)), vD lo_603, .second, vD hi_603, .second, vI i_603, u_603, v_603] [(.ref a1)])) _
        refine st704 _ ?_
        show Steps p.tables e below (T704.setTop (mkF m 263 #[vR a1, vI p1, vI p2, vI p3, vI 1, vI nx, vI 0, vD v661, .second, vI (own_half (p1 + p2)), vD lo_603, .second, vD hi_603, .second, vI i_603, u_603, v_603] [(.ref t)])) _
        refine st705 _ ?_
        show Steps p.tables e below (T705.setTop (mkF m 266 #[vR a1, vI p1, vI p2, vI p3, vI 1, vI nx, vI 0, vD v661, .second, vI (own_half (p1 + p2)), vD lo_603, .second, vD hi_603, .second, vI i_603, u_603, v_603] [(.ref x3)])) _
        refine XS.iload X705.here hx rfl (hb hby d8_266) rfl ?_
        refine XS.aloadN X705.here hx rfl (hb hby d8_268) rfl rfl ?_
        show Steps p.tables e below (T705.setTop (mkF m 269 #[vR a1, vI p1, vI p2, vI p3, vI 1, vI nx, vI 0, vD v661, .second, vI (own_half (p1 + p2)), vD lo_603, .second, vD hi_603, .second, vI i_603, u_603, v_603] [(.ref a1), (.int nx), (.ref x3)])) _
        refine st706 _ ?_
        show Steps p.tables e below (T706.setTop (mkF m 272 #[vR a1, vI p1, vI p2, vI p3, vI 1, vI nx, vI 0, vD v661, .second, vI (own_half (p1 + p2)), vD lo_603, .second, vD hi_603, .second, vI i_603, u_603, v_603] [(.int n687'), (.int nx), (.ref x3)])) _
        refine st707 _ ?_
        show Steps p.tables e below (T707.setTop (mkF m 273 #[vR a1, vI p1, vI p2, vI p3, vI 1, vI nx, vI 0, vD v661, .second, vI (own_half (p1 + p2)), vD lo_603, .second, vD hi_603, .second, vI i_603, u_603, v_603] [])) _
        refine XS.aloadN X707.here hx rfl (hb hby d8_273) rfl rfl ?_
        refine XS.iload X707.here hx rfl (hb hby d8_274) rfl ?_
        refine XS.iloadN X707.here hx rfl (hb hby d8_276) rfl ?_
        refine XS.iloadN X707.here hx rfl (hb hby d8_277) rfl ?_
        refine XS.iconst X707.here hx rfl (hb hby d8_278) ?_
        refine XS.iadd X707.here hx rfl (hb hby d8_279) rfl ?_
        show Steps p.tables e below (T707.setTop (mkF m 280 #[vR a1, vI p1, vI p2, vI p3, vI 1, vI nx, vI 0, vD v661, .second, vI (own_half (p1 + p2)), vD lo_603, .second, vD hi_603, .second, vI i_603, u_603, v_603] [(.int (p3 + (1 : Int32))), (.int p2), (.int (own_half (p1 + p2))), (.ref a1)])) _
        refine st733.trans ?_
        show Steps p.tables e below (T733.setTop (mkF m 283 #[vR a1, vI p1, vI p2, vI p3, vI 1, vI nx, vI 0, vD v661, .second, vI (own_half (p1 + p2)), vD lo_603, .second, vD hi_603, .second, vI i_603, u_603, v_603] [])) _
        exact X733.returnOut hx Bd.returns (hb hby d8_283) hr
      · show Qrm8_1 Z a1 p1 p2 p3 t pts co r x1 x2 x3 x4 x5 gc nx fF fE fU h0 n0 _ T733.heap _
        exact ⟨rfl, N734, K749, _, _, _, _, own_rel_split _ rel687 rel733, S733⟩
    · obtain ⟨fs, hr, hrun, hended, hW, hsame⟩ := X634.leave (v := none) (fun _ => rfl)
      refine ⟨_, _, pre0 _ ?_, hrun, hended, _, _, rfl, ?_, ⟨_, rfl⟩, hW, hsame.mono (by decide) (by decide)⟩
      · show Steps p.tables e below (s₁.setTop (mkF m 0 #[vR a1, vI p1, vI p2, vI p3, .unset, .unset, .unset, .unset, .unset, .unset, .unset, .unset, .unset, .unset, .unset, .unset, .unset] [])) _
        refine XS.aloadN X0.here hx rfl (hb hby d8_0) rfl rfl ?_
        show Steps p.tables e below (s₁.setTop (mkF m 1 #[vR a1, vI p1, vI p2, vI p3, .unset, .unset, .unset, .unset, .unset, .unset, .unset, .unset, .unset, .unset, .unset, .unset, .unset] [(.ref a1)])) _
        refine st459 _ ?_
        show Steps p.tables e below (T459.setTop (mkF m 4 #[vR a1, vI p1, vI p2, vI p3, .unset, .unset, .unset, .unset, .unset, .unset, .unset, .unset, .unset, .unset, .unset, .unset, .unset] [(.ref t)])) _
        refine st460 _ ?_
        show Steps p.tables e below (T460.setTop (mkF m 7 #[vR a1, vI p1, vI p2, vI p3, .unset, .unset, .unset, .unset, .unset, .unset, .unset, .unset, .unset, .unset, .unset, .unset, .unset] [(.ref pts)])) _
        refine st461.trans ?_
        show Steps p.tables e below (T461.setTop (mkF m 10 #[vR a1, vI p1, vI p2, vI p3, .unset, .unset, .unset, .unset, .unset, .unset, .unset, .unset, .unset, .unset, .unset, .unset, .unset] [(.int (1 : Int32))])) _
        refine XS.istore X461.here hx rfl (hb hby d8_10) rfl (l' := #[vR a1, vI p1, vI p2, vI p3, vI 1, .unset, .unset, .unset, .unset, .unset, .unset, .unset, .unset, .unset, .unset, .unset, .unset]) rfl ?_
        refine XS.aloadN X461.here hx rfl (hb hby d8_12) rfl rfl ?_
        refine XS.dup X461.here hx rfl (hb hby d8_13) rfl rfl ?_
        show Steps p.tables e below (T461.setTop (mkF m 14 #[vR a1, vI p1, vI p2, vI p3, vI 1, .unset, .unset, .unset, .unset, .unset, .unset, .unset, .unset, .unset, .unset, .unset, .unset] [(.ref a1), (.ref a1)])) _
        refine st463 _ ?_
        show Steps p.tables e below (T463.setTop (mkF m 17 #[vR a1, vI p1, vI p2, vI p3, vI 1, .unset, .unset, .unset, .unset, .unset, .unset, .unset, .unset, .unset, .unset, .unset, .unset] [(.int nx), (.ref a1)])) _
        refine XS.dupX1 X463.here hx rfl (hb hby d8_17) rfl rfl rfl ?_
        refine XS.iconst X463.here hx rfl (hb hby d8_18) ?_
        refine XS.iadd X463.here hx rfl (hb hby d8_19) rfl ?_
        show Steps p.tables e below (T463.setTop (mkF m 20 #[vR a1, vI p1, vI p2, vI p3, vI 1, .unset, .unset, .unset, .unset, .unset, .unset, .unset, .unset, .unset, .unset, .unset, .unset] [(.int (nx + (1 : Int32))), (.ref a1), (.int nx)])) _
        refine st464 _ ?_
        show Steps p.tables e below (T464.setTop (mkF m 23 #[vR a1, vI p1, vI p2, vI p3, vI 1, .unset, .unset, .unset, .unset, .unset, .unset, .unset, .unset, .unset, .unset, .unset, .unset] [(.int nx)])) _
        refine XS.istore X464.here hx rfl (hb hby d8_23) rfl (l' := #[vR a1, vI p1, vI p2, vI p3, vI 1, vI nx, .unset, .unset, .unset, .unset, .unset, .unset, .unset, .unset, .unset, .unset, .unset]) rfl ?_
        refine XS.aloadN X464.here hx rfl (hb hby d8_25) rfl rfl ?_
        refine XS.aloadN X464.here hx rfl (hb hby d8_26) rfl rfl ?_
        show Steps p.tables e below (T464.setTop (mkF m 27 #[vR a1, vI p1, vI p2, vI p3, vI 1, vI nx, .unset, .unset, .unset, .unset, .unset, .unset, .unset, .unset, .unset, .unset, .unset] [(.ref a1), (.ref a1)])) _
        refine st490 _ ?_
        show Steps p.tables e below (T490.setTop (mkF m 30 #[vR a1, vI p1, vI p2, vI p3, vI 1, vI nx, .unset, .unset, .unset, .unset, .unset, .unset, .unset, .unset, .unset, .unset, .unset] [(.int dpa), (.ref a1)])) _
        refine XS.iloadN X490.here hx rfl (hb hby d8_30) rfl ?_
        show Steps p.tables e below (T490.setTop (mkF m 31 #[vR a1, vI p1, vI p2, vI p3, vI 1, vI nx, .unset, .unset, .unset, .unset, .unset, .unset, .unset, .unset, .unset, .unset, .unset] [(.int p3), (.int dpa), (.ref a1)])) _
        refine st491 _ ?_
        show Steps p.tables e below (T491.setTop (mkF m 34 #[vR a1, vI p1, vI p2, vI p3, vI 1, vI nx, .unset, .unset, .unset, .unset, .unset, .unset, .unset, .unset, .unset, .unset, .unset] [(.int (own_max dpa p3)), (.ref a1)])) _
        refine st493 _ ?_
        show Steps p.tables e below (T493.setTop (mkF m 37 #[vR a1, vI p1, vI p2, vI p3, vI 1, vI nx, .unset, .unset, .unset, .unset, .unset, .unset, .unset, .unset, .unset, .unset, .unset] [])) _
        refine XS.aloadN X493.here hx rfl (hb hby d8_37) rfl rfl ?_
        show Steps p.tables e below (T493.setTop (mkF m 38 #[vR a1, vI p1, vI p2, vI p3, vI 1, vI nx, .unset, .unset, .unset, .unset, .unset, .unset, .unset, .unset, .unset, .unset, .unset] [(.ref a1)])) _
        refine st519 _ ?_
        show Steps p.tables e below (T519.setTop (mkF m 41 #[vR a1, vI p1, vI p2, vI p3, vI 1, vI nx, .unset, .unset, .unset, .unset, .unset, .unset, .unset, .unset, .unset, .unset, .unset] [(.ref t)])) _
        refine st520 _ ?_
        show Steps p.tables e below (T520.setTop (mkF m 44 #[vR a1, vI p1, vI p2, vI p3, vI 1, vI nx, .unset, .unset, .unset, .unset, .unset, .unset, .unset, .unset, .unset, .unset, .unset] [(.ref x1)])) _
        refine XS.iload X520.here hx rfl (hb hby d8_44) rfl ?_
        refine XS.iloadN X520.here hx rfl (hb hby d8_46) rfl ?_
        show Steps p.tables e below (T520.setTop (mkF m 47 #[vR a1, vI p1, vI p2, vI p3, vI 1, vI nx, .unset, .unset, .unset, .unset, .unset, .unset, .unset, .unset, .unset, .unset, .unset] [(.int p1), (.int nx), (.ref x1)])) _
        refine st521 _ ?_
        show Steps p.tables e below (T521.setTop (mkF m 48 #[vR a1, vI p1, vI p2, vI p3, vI 1, vI nx, .unset, .unset, .unset, .unset, .unset, .unset, .unset, .unset, .unset, .unset, .unset] [])) _
        refine XS.aloadN X521.here hx rfl (hb hby d8_48) rfl rfl ?_
        show Steps p.tables e below (T521.setTop (mkF m 49 #[vR a1, vI p1, vI p2, vI p3, vI 1, vI nx, .unset, .unset, .unset, .unset, .unset, .unset, .unset, .unset, .unset, .unset, .unset] [(.ref a1)])) _
        refine st547 _ ?_
        show Steps p.tables e below (T547.setTop (mkF m 52 #[vR a1, vI p1, vI p2, vI p3, vI 1, vI nx, .unset, .unset, .unset, .unset, .unset, .unset, .unset, .unset, .unset, .unset, .unset] [(.ref t)])) _
        refine st548 _ ?_
        show Steps p.tables e below (T548.setTop (mkF m 55 #[vR a1, vI p1, vI p2, vI p3, vI 1, vI nx, .unset, .unset, .unset, .unset, .unset, .unset, .unset, .unset, .unset, .unset, .unset] [(.ref x2)])) _
        refine XS.iload X548.here hx rfl (hb hby d8_55) rfl ?_
        refine XS.iloadN X548.here hx rfl (hb hby d8_57) rfl ?_
        show Steps p.tables e below (T548.setTop (mkF m 58 #[vR a1, vI p1, vI p2, vI p3, vI 1, vI nx, .unset, .unset, .unset, .unset, .unset, .unset, .unset, .unset, .unset, .unset, .unset] [(.int p2), (.int nx), (.ref x2)])) _
        refine st549 _ ?_
        show Steps p.tables e below (T549.setTop (mkF m 59 #[vR a1, vI p1, vI p2, vI p3, vI 1, vI nx, .unset, .unset, .unset, .unset, .unset, .unset, .unset, .unset, .unset, .unset, .unset] [])) _
        refine XS.aloadN X549.here hx rfl (hb hby d8_59) rfl rfl ?_
        show Steps p.tables e below (T549.setTop (mkF m 60 #[vR a1, vI p1, vI p2, vI p3, vI 1, vI nx, .unset, .unset, .unset, .unset, .unset, .unset, .unset, .unset, .unset, .unset, .unset] [(.ref a1)])) _
        refine st575 _ ?_
        show Steps p.tables e below (T575.setTop (mkF m 63 #[vR a1, vI p1, vI p2, vI p3, vI 1, vI nx, .unset, .unset, .unset, .unset, .unset, .unset, .unset, .unset, .unset, .unset, .unset] [(.ref t)])) _
        refine st576 _ ?_
        show Steps p.tables e below (T576.setTop (mkF m 66 #[vR a1, vI p1, vI p2, vI p3, vI 1, vI nx, .unset, .unset, .unset, .unset, .unset, .unset, .unset, .unset, .unset, .unset, .unset] [(.ref x3)])) _
        refine XS.iload X576.here hx rfl (hb hby d8_66) rfl ?_
        refine XS.iconst X576.here hx rfl (hb hby d8_68) ?_
        show Steps p.tables e below (T576.setTop (mkF m 69 #[vR a1, vI p1, vI p2, vI p3, vI 1, vI nx, .unset, .unset, .unset, .unset, .unset, .unset, .unset, .unset, .unset, .unset, .unset] [(.int (-1 : Int32)), (.int nx), (.ref x3)])) _
        refine st577 _ ?_
        show Steps p.tables e below (T577.setTop (mkF m 70 #[vR a1, vI p1, vI p2, vI p3, vI 1, vI nx, .unset, .unset, .unset, .unset, .unset, .unset, .unset, .unset, .unset, .unset, .unset] [])) _
        refine XS.iconst X577.here hx rfl (hb hby d8_70) ?_
        refine XS.istore X577.here hx rfl (hb hby d8_71) rfl (l' := #[vR a1, vI p1, vI p2, vI p3, vI 1, vI nx, vI 0, .unset, .unset, .unset, .unset, .unset, .unset, .unset, .unset, .unset, .unset]) rfl ?_
        show Steps p.tables e below (T577.setTop (mkF m 73 #[vR a1, vI p1, vI p2, vI p3, vI 1, vI nx, vI 0, .unset, .unset, .unset, .unset, .unset, .unset, .unset, .unset, .unset, .unset] [])) _
        refine own_szero X577.here hx (hb hby d8_73) ?_
        show Steps p.tables e below (T577.setTop (mkF m 74 #[vR a1, vI p1, vI p2, vI p3, vI 1, vI nx, vI 0, .unset, .unset, .unset, .unset, .unset, .unset, .unset, .unset, .unset, .unset] [(.double (0 : UInt64))])) _
        refine own_sstore X577.here hx (l' := #[vR a1, vI p1, vI p2, vI p3, vI 1, vI nx, vI 0, vD 0, .second, .unset, .unset, .unset, .unset, .unset, .unset, .unset, .unset]) (hb hby d8_74) rfl ?_
        show Steps p.tables e below (T577.setTop (mkF m 76 #[vR a1, vI p1, vI p2, vI p3, vI 1, vI nx, vI 0, vD 0, .second, .unset, .unset, .unset, .unset, .unset, .unset, .unset, .unset] [])) _
        refine XS.iconst X577.here hx rfl (hb hby d8_76) ?_
        refine XS.istore X577.here hx rfl (hb hby d8_77) rfl (l' := #[vR a1, vI p1, vI p2, vI p3, vI 1, vI nx, vI 0, vD 0, .second, vI 0, .unset, .unset, .unset, .unset, .unset, .unset, .unset]) rfl ?_
        refine XS.iload X577.here hx rfl (hb hby d8_79) rfl ?_
        refine XS.iload X577.here hx rfl (hb hby d8_81) rfl ?_
        refine XS.icmpNo X577.here hx rfl (hb hby d8_83) rfl (tlt (by decide)).2.1 ?_
        show Steps p.tables e below (T577.setTop (mkF m 86 #[vR a1, vI p1, vI p2, vI p3, vI 1, vI nx, vI 0, vD 0, .second, vI 0, .unset, .unset, .unset, .unset, .unset, .unset, .unset] [])) _
        refine X577.ldc2DoubleC hx hown (mvT hZ (wd hw 93 rfl)) (g := (mkF m 86 #[vR a1, vI p1, vI p2, vI p3, vI 1, vI nx, vI 0, vD 0, .second, vI 0, .unset, .unset, .unset, .unset, .unset, .unset, .unset] [])) rfl (hb hby d8_86) _ ?_
        show Steps p.tables e below (T577.setTop (mkF m 89 #[vR a1, vI p1, vI p2, vI p3, vI 1, vI nx, vI 0, vD 0, .second, vI 0, .unset, .unset, .unset, .unset, .unset, .unset, .unset] [(.double (9218868437227405312 : UInt64))])) _
        refine own_sstore X577.here hx (l' := #[vR a1, vI p1, vI p2, vI p3, vI 1, vI nx, vI 0, vD 0, .second, vI 0, vD 9218868437227405312, .second, .unset, .unset, .unset, .unset, .unset]) (hb hby d8_89) rfl ?_
        show Steps p.tables e below (T577.setTop (mkF m 91 #[vR a1, vI p1, vI p2, vI p3, vI 1, vI nx, vI 0, vD 0, .second, vI 0, vD 9218868437227405312, .second, .unset, .unset, .unset, .unset, .unset] [])) _
        refine X577.ldc2DoubleC hx hown (mvT hZ (wd hw 94 rfl)) (g := (mkF m 91 #[vR a1, vI p1, vI p2, vI p3, vI 1, vI nx, vI 0, vD 0, .second, vI 0, vD 9218868437227405312, .second, .unset, .unset, .unset, .unset, .unset] [])) rfl (hb hby d8_91) _ ?_
        show Steps p.tables e below (T577.setTop (mkF m 94 #[vR a1, vI p1, vI p2, vI p3, vI 1, vI nx, vI 0, vD 0, .second, vI 0, vD 9218868437227405312, .second, .unset, .unset, .unset, .unset, .unset] [(.double (18442240474082181120 : UInt64))])) _
        refine own_sstore X577.here hx (l' := #[vR a1, vI p1, vI p2, vI p3, vI 1, vI nx, vI 0, vD 0, .second, vI 0, vD 9218868437227405312, .second, vD 18442240474082181120, .second, .unset, .unset, .unset]) (hb hby d8_94) rfl ?_
        show Steps p.tables e below (T577.setTop (mkF m 96 #[vR a1, vI p1, vI p2, vI p3, vI 1, vI nx, vI 0, vD 0, .second, vI 0, vD 9218868437227405312, .second, vD 18442240474082181120, .second, .unset, .unset, .unset] [])) _
        refine XS.iloadN X577.here hx rfl (hb hby d8_96) rfl ?_
        refine XS.istore X577.here hx rfl (hb hby d8_97) rfl (l' := #[vR a1, vI p1, vI p2, vI p3, vI 1, vI nx, vI 0, vD 0, .second, vI 0, vD 9218868437227405312, .second, vD 18442240474082181120, .second, vI p1, .unset, .unset]) rfl ?_
        show Steps p.tables e below (T577.setTop (mkF m 99 #[vR a1, vI p1, vI p2, vI p3, vI 1, vI nx, vI 0, vD 0, .second, vI 0, vD 9218868437227405312, .second, vD 18442240474082181120, .second, vI p1, .unset, .unset] [])) _
        refine st603 _ ?_
        show Steps p.tables e below (T603.setTop (mkF m 153 #[vR a1, vI p1, vI p2, vI p3, vI 1, vI nx, vI 0, vD 0, .second, vI 0, vD lo_603, .second, vD hi_603, .second, vI i_603, u_603, v_603] [])) _
        refine XS.aloadN X603.here hx rfl (hb hby d8_153) rfl rfl ?_
        show Steps p.tables e below (T603.setTop (mkF m 154 #[vR a1, vI p1, vI p2, vI p3, vI 1, vI nx, vI 0, vD 0, .second, vI 0, vD lo_603, .second, vD hi_603, .second, vI i_603, u_603, v_603] [(.ref a1)])) _
        refine st604 _ ?_
        show Steps p.tables e below (T604.setTop (mkF m 157 #[vR a1, vI p1, vI p2, vI p3, vI 1, vI nx, vI 0, vD 0, .second, vI 0, vD lo_603, .second, vD hi_603, .second, vI i_603, u_603, v_603] [(.ref t)])) _
        refine st605 _ ?_
        show Steps p.tables e below (T605.setTop (mkF m 160 #[vR a1, vI p1, vI p2, vI p3, vI 1, vI nx, vI 0, vD 0, .second, vI 0, vD lo_603, .second, vD hi_603, .second, vI i_603, u_603, v_603] [(.ref x4)])) _
        refine XS.iload X605.here hx rfl (hb hby d8_160) rfl ?_
        refine XS.iload X605.here hx rfl (hb hby d8_162) rfl ?_
        refine XS.imul X605.here hx rfl (hb hby d8_164) rfl ?_
        refine XS.iload X605.here hx rfl (hb hby d8_165) rfl ?_
        refine XS.iadd X605.here hx rfl (hb hby d8_167) rfl ?_
        show Steps p.tables e below (T605.setTop (mkF m 168 #[vR a1, vI p1, vI p2, vI p3, vI 1, vI nx, vI 0, vD 0, .second, vI 0, vD lo_603, .second, vD hi_603, .second, vI i_603, u_603, v_603] [(.int ((nx * (1 : Int32)) + (0 : Int32))), (.ref x4)])) _
        refine own_sload X605.here hx (hb hby d8_168) rfl ?_
        show Steps p.tables e below (T605.setTop (mkF m 170 #[vR a1, vI p1, vI p2, vI p3, vI 1, vI nx, vI 0, vD 0, .second, vI 0, vD lo_603, .second, vD hi_603, .second, vI i_603, u_603, v_603] [(.double lo_603), (.int ((nx * (1 : Int32)) + (0 : Int32))), (.ref x4)])) _
        rw [own_idx]
        show Steps p.tables e below (T605.setTop (mkF m 170 #[vR a1, vI p1, vI p2, vI p3, vI 1, vI nx, vI 0, vD 0, .second, vI 0, vD lo_603, .second, vD hi_603, .second, vI i_603, u_603, v_603] [(.double lo_603), (.int nx), (.ref x4)])) _
        refine st606 _ ?_
        show Steps p.tables e below (T606.setTop (mkF m 171 #[vR a1, vI p1, vI p2, vI p3, vI 1, vI nx, vI 0, vD 0, .second, vI 0, vD lo_603, .second, vD hi_603, .second, vI i_603, u_603, v_603] [])) _
        refine XS.aloadN X606.here hx rfl (hb hby d8_171) rfl rfl ?_
        show Steps p.tables e below (T606.setTop (mkF m 172 #[vR a1, vI p1, vI p2, vI p3, vI 1, vI nx, vI 0, vD 0, .second, vI 0, vD lo_603, .second, vD hi_603, .second, vI i_603, u_603, v_603] [(.ref a1)])) _
        refine st632 _ ?_
        show Steps p.tables e below (T632.setTop (mkF m 175 #[vR a1, vI p1, vI p2, vI p3, vI 1, vI nx, vI 0, vD 0, .second, vI 0, vD lo_603, .second, vD hi_603, .second, vI i_603, u_603, v_603] [(.ref t)])) _
        refine st633 _ ?_
        show Steps p.tables e below (T633.setTop (mkF m 178 #[vR a1, vI p1, vI p2, vI p3, vI 1, vI nx, vI 0, vD 0, .second, vI 0, vD lo_603, .second, vD hi_603, .second, vI i_603, u_603, v_603] [(.ref x5)])) _
        refine XS.iload X633.here hx rfl (hb hby d8_178) rfl ?_
        refine XS.iload X633.here hx rfl (hb hby d8_180) rfl ?_
        refine XS.imul X633.here hx rfl (hb hby d8_182) rfl ?_
        refine XS.iload X633.here hx rfl (hb hby d8_183) rfl ?_
        refine XS.iadd X633.here hx rfl (hb hby d8_185) rfl ?_
        show Steps p.tables e below (T633.setTop (mkF m 186 #[vR a1, vI p1, vI p2, vI p3, vI 1, vI nx, vI 0, vD 0, .second, vI 0, vD lo_603, .second, vD hi_603, .second, vI i_603, u_603, v_603] [(.int ((nx * (1 : Int32)) + (0 : Int32))), (.ref x5)])) _
        refine own_sload X633.here hx (hb hby d8_186) rfl ?_
        show Steps p.tables e below (T633.setTop (mkF m 188 #[vR a1, vI p1, vI p2, vI p3, vI 1, vI nx, vI 0, vD 0, .second, vI 0, vD lo_603, .second, vD hi_603, .second, vI i_603, u_603, v_603] [(.double hi_603), (.int ((nx * (1 : Int32)) + (0 : Int32))), (.ref x5)])) _
        rw [own_idx]
        show Steps p.tables e below (T633.setTop (mkF m 188 #[vR a1, vI p1, vI p2, vI p3, vI 1, vI nx, vI 0, vD 0, .second, vI 0, vD lo_603, .second, vD hi_603, .second, vI i_603, u_603, v_603] [(.double hi_603), (.int nx), (.ref x5)])) _
        refine st634 _ ?_
        show Steps p.tables e below (T634.setTop (mkF m 189 #[vR a1, vI p1, vI p2, vI p3, vI 1, vI nx, vI 0, vD 0, .second, vI 0, vD lo_603, .second, vD hi_603, .second, vI i_603, u_603, v_603] [])) _
        refine own_sload X634.here hx (hb hby d8_189) rfl ?_
        show Steps p.tables e below (T634.setTop (mkF m 191 #[vR a1, vI p1, vI p2, vI p3, vI 1, vI nx, vI 0, vD 0, .second, vI 0, vD lo_603, .second, vD hi_603, .second, vI i_603, u_603, v_603] [(.double hi_603)])) _
        refine own_sload X634.here hx (hb hby d8_191) rfl ?_
        show Steps p.tables e below (T634.setTop (mkF m 193 #[vR a1, vI p1, vI p2, vI p3, vI 1, vI nx, vI 0, vD 0, .second, vI 0, vD lo_603, .second, vD hi_603, .second, vI i_603, u_603, v_603] [(.double lo_603), (.double hi_603)])) _
        refine own_ssub X634.here hx (hb hby d8_193) (Jvm.Free.Fl.val64_no.mpr (Jvm.Free.Fl.val64_no.mp (Jvm.Free.Fl.dsub_out fh603.noNaN fl603))) ?_
        show Steps p.tables e below (T634.setTop (mkF m 194 #[vR a1, vI p1, vI p2, vI p3, vI 1, vI nx, vI 0, vD 0, .second, vI 0, vD lo_603, .second, vD hi_603, .second, vI i_603, u_603, v_603] [(.double (FP.dsub hi_603 lo_603))])) _
        refine own_sload X634.here hx (hb hby d8_194) rfl ?_
        show Steps p.tables e below (T634.setTop (mkF m 196 #[vR a1, vI p1, vI p2, vI p3, vI 1, vI nx, vI 0, vD 0, .second, vI 0, vD lo_603, .second, vD hi_603, .second, vI i_603, u_603, v_603] [(.double (0 : UInt64)), (.double (FP.dsub hi_603 lo_603))])) _
        refine own_scmp X634.here hx (z := cw) (hb hby d8_196) hcw ?_
        refine joinS (B := T634.setTop (mkF m 211 #[vR a1, vI p1, vI p2, vI p3, vI 1, vI nx, vI 0, vD v661, .second, vI 0, vD lo_603, .second, vD hi_603, .second, vI i_603, u_603, v_603] [])) (fun kt => ?_) ?_
        · by_cases hc660 : (0 : Int32) < cw
          · rw [show v661 = (FP.dsub hi_603 lo_603) from by rw [hv661, if_pos hc660]] at kt
            show Steps p.tables e below (T634.setTop (mkF m 197 #[vR a1, vI p1, vI p2, vI p3, vI 1, vI nx, vI 0, vD 0, .second, vI 0, vD lo_603, .second, vD hi_603, .second, vI i_603, u_603, v_603] [(.int cw)])) _
            refine XS.ifNo X634.here hx rfl (hb hby d8_197) rfl ((if0 _ _).trans (tlt hc660).2.2.2) ?_
            refine XS.iload X634.here hx rfl (hb hby d8_200) rfl ?_
            refine XS.istore X634.here hx rfl (hb hby d8_202) rfl (l' := #[vR a1, vI p1, vI p2, vI p3, vI 1, vI nx, vI 0, vD 0, .second, vI 0, vD lo_603, .second, vD hi_603, .second, vI i_603, u_603, v_603]) rfl ?_
            show Steps p.tables e below (T634.setTop (mkF m 204 #[vR a1, vI p1, vI p2, vI p3, vI 1, vI nx, vI 0, vD 0, .second, vI 0, vD lo_603, .second, vD hi_603, .second, vI i_603, u_603, v_603] [])) _
            refine own_sload X634.here hx (hb hby d8_204) rfl ?_
            show Steps p.tables e below (T634.setTop (mkF m 206 #[vR a1, vI p1, vI p2, vI p3, vI 1, vI nx, vI 0, vD 0, .second, vI 0, vD lo_603, .second, vD hi_603, .second, vI i_603, u_603, v_603] [(.double hi_603)])) _
            refine own_sload X634.here hx (hb hby d8_206) rfl ?_
            show Steps p.tables e below (T634.setTop (mkF m 208 #[vR a1, vI p1, vI p2, vI p3, vI 1, vI nx, vI 0, vD 0, .second, vI 0, vD lo_603, .second, vD hi_603, .second, vI i_603, u_603, v_603] [(.double lo_603), (.double hi_603)])) _
            refine own_ssub X634.here hx (hb hby d8_208) (Jvm.Free.Fl.val64_no.mpr (Jvm.Free.Fl.val64_no.mp (Jvm.Free.Fl.dsub_out fh603.noNaN fl603))) ?_
            show Steps p.tables e below (T634.setTop (mkF m 209 #[vR a1, vI p1, vI p2, vI p3, vI 1, vI nx, vI 0, vD 0, .second, vI 0, vD lo_603, .second, vD hi_603, .second, vI i_603, u_603, v_603] [(.double (FP.dsub hi_603 lo_603))])) _
            refine own_sstore X634.here hx (l' := #[vR a1, vI p1, vI p2, vI p3, vI 1, vI nx, vI 0, vD (FP.dsub hi_603 lo_603), .second, vI 0, vD lo_603, .second, vD hi_603, .second, vI i_603, u_603, v_603]) (hb hby d8_209) rfl ?_
            exact kt
          · rw [show v661 = (0 : UInt64) from by rw [hv661, if_neg hc660]] at kt
            show Steps p.tables e below (T634.setTop (mkF m 197 #[vR a1, vI p1, vI p2, vI p3, vI 1, vI nx, vI 0, vD 0, .second, vI 0, vD lo_603, .second, vD hi_603, .second, vI i_603, u_603, v_603] [(.int cw)])) _
            refine XS.ifYes X634.here hx rfl (pc0 := 197) (pc' := 211) rfl (hb hby d8_197) rfl ((if0 _ _).trans (flt hc660).2.2.2) (by decide) (by decide) ?_
            exact kt
        show Steps p.tables e below (T634.setTop (mkF m 211 #[vR a1, vI p1, vI p2, vI p3, vI 1, vI nx, vI 0, vD v661, .second, vI 0, vD lo_603, .second, vD hi_603, .second, vI i_603, u_603, v_603] [])) _
        refine XS.iinc X634.here hx rfl (hb hby d8_211) rfl (l' := #[vR a1, vI p1, vI p2, vI p3, vI 1, vI nx, vI 0, vD v661, .second, vI 1, vD lo_603, .second, vD hi_603, .second, vI i_603, u_603, v_603]) rfl ?_
        refine XS.goto X634.here hx rfl (pc0 := 214) (pc' := 79) rfl (hb hby d8_214) (by decide) (by decide) ?_
        refine XS.iload X634.here hx rfl (hb hby d8_79) rfl ?_
        refine XS.iload X634.here hx rfl (hb hby d8_81) rfl ?_
        refine XS.icmpYes X634.here hx rfl (pc0 := 83) (pc' := 217) rfl (hb hby d8_83) rfl (flt (by decide)).2.1 (by decide) (by decide) ?_
        refine XS.iloadN X634.here hx rfl (hb hby d8_217) rfl ?_
        refine XS.iloadN X634.here hx rfl (hb hby d8_218) rfl ?_
        show Steps p.tables e below (T634.setTop (mkF m 219 #[vR a1, vI p1, vI p2, vI p3, vI 1, vI nx, vI 0, vD v661, .second, vI 1, vD lo_603, .second, vD hi_603, .second, vI i_603, u_603, v_603] [(.int p1), (.int p2)])) _
        refine XS.isub X634.here hx rfl (hb hby d8_219) rfl ?_
        refine XS.bipush X634.here hx rfl (hb hby d8_220) ?_
        refine XS.icmpNo X634.here hx rfl (hb hby d8_222) rfl (tlt hA).2.2.2 ?_
        show Steps p.tables e below (T634.setTop (mkF m 225 #[vR a1, vI p1, vI p2, vI p3, vI 1, vI nx, vI 0, vD v661, .second, vI 1, vD lo_603, .second, vD hi_603, .second, vI i_603, u_603, v_603] [])) _
        refine own_sload X634.here hx (hb hby d8_225) rfl ?_
        show Steps p.tables e below (T634.setTop (mkF m 227 #[vR a1, vI p1, vI p2, vI p3, vI 1, vI nx, vI 0, vD v661, .second, vI 1, vD lo_603, .second, vD hi_603, .second, vI i_603, u_603, v_603] [(.double v661)])) _
        refine own_szero X634.here hx (hb hby d8_227) ?_
        show Steps p.tables e below (T634.setTop (mkF m 228 #[vR a1, vI p1, vI p2, vI p3, vI 1, vI nx, vI 0, vD v661, .second, vI 1, vD lo_603, .second, vD hi_603, .second, vI i_603, u_603, v_603] [(.double (0 : UInt64)), (.double v661)])) _
        refine own_scmp X634.here hx (z := cx) (hb hby d8_228) hcx ?_
        show Steps p.tables e below (T634.setTop (mkF m 229 #[vR a1, vI p1, vI p2, vI p3, vI 1, vI nx, vI 0, vD v661, .second, vI 1, vD lo_603, .second, vD hi_603, .second, vI i_603, u_603, v_603] [(.int cx)])) _
        refine XS.ifYes X634.here hx rfl (pc0 := 229) (pc' := 283) rfl (hb hby d8_229) rfl ((if0 _ _).trans (flt hB).2.2.2) (by decide) (by decide) ?_
        show Steps p.tables e below (T634.setTop (mkF m 283 #[vR a1, vI p1, vI p2, vI p3, vI 1, vI nx, vI 0, vD v661, .second, vI 1, vD lo_603, .second, vD hi_603, .second, vI i_603, u_603, v_603] [])) _
        exact X634.returnOut hx Bd.returns (hb hby d8_283) hr
      · show Qrm8_1 Z a1 p1 p2 p3 t pts co r x1 x2 x3 x4 x5 gc nx fF fE fU h0 n0 _ T634.heap _
        rw [e634]
        exact ⟨rfl, N658, K659, _, _, _, _, own_rel_leaf _ ⟨rfl, rfl, rfl, rfl⟩, ⟨f644, f651, ⟨_, f652⟩, ⟨_, f645, q0a⟩, f653, f654, f655, ⟨_, f656⟩, ⟨_, f635⟩⟩⟩
  · obtain ⟨fs, hr, hrun, hended, hW, hsame⟩ := X634.leave (v := none) (fun _ => rfl)
    refine ⟨_, _, pre0 _ ?_, hrun, hended, _, _, rfl, ?_, ⟨_, rfl⟩, hW, hsame.mono (by decide) (by decide)⟩
    · show Steps p.tables e below (s₁.setTop (mkF m 0 #[vR a1, vI p1, vI p2, vI p3, .unset, .unset, .unset, .unset, .unset, .unset, .unset, .unset, .unset, .unset, .unset, .unset, .unset] [])) _
      refine XS.aloadN X0.here hx rfl (hb hby d8_0) rfl rfl ?_
      show Steps p.tables e below (s₁.setTop (mkF m 1 #[vR a1, vI p1, vI p2, vI p3, .unset, .unset, .unset, .unset, .unset, .unset, .unset, .unset, .unset, .unset, .unset, .unset, .unset] [(.ref a1)])) _
      refine st459 _ ?_
      show Steps p.tables e below (T459.setTop (mkF m 4 #[vR a1, vI p1, vI p2, vI p3, .unset, .unset, .unset, .unset, .unset, .unset, .unset, .unset, .unset, .unset, .unset, .unset, .unset] [(.ref t)])) _
      refine st460 _ ?_
      show Steps p.tables e below (T460.setTop (mkF m 7 #[vR a1, vI p1, vI p2, vI p3, .unset, .unset, .unset, .unset, .unset, .unset, .unset, .unset, .unset, .unset, .unset, .unset, .unset] [(.ref pts)])) _
      refine st461.trans ?_
      show Steps p.tables e below (T461.setTop (mkF m 10 #[vR a1, vI p1, vI p2, vI p3, .unset, .unset, .unset, .unset, .unset, .unset, .unset, .unset, .unset, .unset, .unset, .unset, .unset] [(.int (1 : Int32))])) _
      refine XS.istore X461.here hx rfl (hb hby d8_10) rfl (l' := #[vR a1, vI p1, vI p2, vI p3, vI 1, .unset, .unset, .unset, .unset, .unset, .unset, .unset, .unset, .unset, .unset, .unset, .unset]) rfl ?_
      refine XS.aloadN X461.here hx rfl (hb hby d8_12) rfl rfl ?_
      refine XS.dup X461.here hx rfl (hb hby d8_13) rfl rfl ?_
      show Steps p.tables e below (T461.setTop (mkF m 14 #[vR a1, vI p1, vI p2, vI p3, vI 1, .unset, .unset, .unset, .unset, .unset, .unset, .unset, .unset, .unset, .unset, .unset, .unset] [(.ref a1), (.ref a1)])) _
      refine st463 _ ?_
      show Steps p.tables e below (T463.setTop (mkF m 17 #[vR a1, vI p1, vI p2, vI p3, vI 1, .unset, .unset, .unset, .unset, .unset, .unset, .unset, .unset, .unset, .unset, .unset, .unset] [(.int nx), (.ref a1)])) _
      refine XS.dupX1 X463.here hx rfl (hb hby d8_17) rfl rfl rfl ?_
      refine XS.iconst X463.here hx rfl (hb hby d8_18) ?_
      refine XS.iadd X463.here hx rfl (hb hby d8_19) rfl ?_
      show Steps p.tables e below (T463.setTop (mkF m 20 #[vR a1, vI p1, vI p2, vI p3, vI 1, .unset, .unset, .unset, .unset, .unset, .unset, .unset, .unset, .unset, .unset, .unset, .unset] [(.int (nx + (1 : Int32))), (.ref a1), (.int nx)])) _
      refine st464 _ ?_
      show Steps p.tables e below (T464.setTop (mkF m 23 #[vR a1, vI p1, vI p2, vI p3, vI 1, .unset, .unset, .unset, .unset, .unset, .unset, .unset, .unset, .unset, .unset, .unset, .unset] [(.int nx)])) _
      refine XS.istore X464.here hx rfl (hb hby d8_23) rfl (l' := #[vR a1, vI p1, vI p2, vI p3, vI 1, vI nx, .unset, .unset, .unset, .unset, .unset, .unset, .unset, .unset, .unset, .unset, .unset]) rfl ?_
      refine XS.aloadN X464.here hx rfl (hb hby d8_25) rfl rfl ?_
      refine XS.aloadN X464.here hx rfl (hb hby d8_26) rfl rfl ?_
      show Steps p.tables e below (T464.setTop (mkF m 27 #[vR a1, vI p1, vI p2, vI p3, vI 1, vI nx, .unset, .unset, .unset, .unset, .unset, .unset, .unset, .unset, .unset, .unset, .unset] [(.ref a1), (.ref a1)])) _
      refine st490 _ ?_
      show Steps p.tables e below (T490.setTop (mkF m 30 #[vR a1, vI p1, vI p2, vI p3, vI 1, vI nx, .unset, .unset, .unset, .unset, .unset, .unset, .unset, .unset, .unset, .unset, .unset] [(.int dpa), (.ref a1)])) _
      refine XS.iloadN X490.here hx rfl (hb hby d8_30) rfl ?_
      show Steps p.tables e below (T490.setTop (mkF m 31 #[vR a1, vI p1, vI p2, vI p3, vI 1, vI nx, .unset, .unset, .unset, .unset, .unset, .unset, .unset, .unset, .unset, .unset, .unset] [(.int p3), (.int dpa), (.ref a1)])) _
      refine st491 _ ?_
      show Steps p.tables e below (T491.setTop (mkF m 34 #[vR a1, vI p1, vI p2, vI p3, vI 1, vI nx, .unset, .unset, .unset, .unset, .unset, .unset, .unset, .unset, .unset, .unset, .unset] [(.int (own_max dpa p3)), (.ref a1)])) _
      refine st493 _ ?_
      show Steps p.tables e below (T493.setTop (mkF m 37 #[vR a1, vI p1, vI p2, vI p3, vI 1, vI nx, .unset, .unset, .unset, .unset, .unset, .unset, .unset, .unset, .unset, .unset, .unset] [])) _
      refine XS.aloadN X493.here hx rfl (hb hby d8_37) rfl rfl ?_
      show Steps p.tables e below (T493.setTop (mkF m 38 #[vR a1, vI p1, vI p2, vI p3, vI 1, vI nx, .unset, .unset, .unset, .unset, .unset, .unset, .unset, .unset, .unset, .unset, .unset] [(.ref a1)])) _
      refine st519 _ ?_
      show Steps p.tables e below (T519.setTop (mkF m 41 #[vR a1, vI p1, vI p2, vI p3, vI 1, vI nx, .unset, .unset, .unset, .unset, .unset, .unset, .unset, .unset, .unset, .unset, .unset] [(.ref t)])) _
      refine st520 _ ?_
      show Steps p.tables e below (T520.setTop (mkF m 44 #[vR a1, vI p1, vI p2, vI p3, vI 1, vI nx, .unset, .unset, .unset, .unset, .unset, .unset, .unset, .unset, .unset, .unset, .unset] [(.ref x1)])) _
      refine XS.iload X520.here hx rfl (hb hby d8_44) rfl ?_
      refine XS.iloadN X520.here hx rfl (hb hby d8_46) rfl ?_
      show Steps p.tables e below (T520.setTop (mkF m 47 #[vR a1, vI p1, vI p2, vI p3, vI 1, vI nx, .unset, .unset, .unset, .unset, .unset, .unset, .unset, .unset, .unset, .unset, .unset] [(.int p1), (.int nx), (.ref x1)])) _
      refine st521 _ ?_
      show Steps p.tables e below (T521.setTop (mkF m 48 #[vR a1, vI p1, vI p2, vI p3, vI 1, vI nx, .unset, .unset, .unset, .unset, .unset, .unset, .unset, .unset, .unset, .unset, .unset] [])) _
      refine XS.aloadN X521.here hx rfl (hb hby d8_48) rfl rfl ?_
      show Steps p.tables e below (T521.setTop (mkF m 49 #[vR a1, vI p1, vI p2, vI p3, vI 1, vI nx, .unset, .unset, .unset, .unset, .unset, .unset, .unset, .unset, .unset, .unset, .unset] [(.ref a1)])) _
      refine st547 _ ?_
      show Steps p.tables e below (T547.setTop (mkF m 52 #[vR a1, vI p1, vI p2, vI p3, vI 1, vI nx, .unset, .unset, .unset, .unset, .unset, .unset, .unset, .unset, .unset, .unset, .unset] [(.ref t)])) _
      refine st548 _ ?_
      show Steps p.tables e below (T548.setTop (mkF m 55 #[vR a1, vI p1, vI p2, vI p3, vI 1, vI nx, .unset, .unset, .unset, .unset, .unset, .unset, .unset, .unset, .unset, .unset, .unset] [(.ref x2)])) _
      refine XS.iload X548.here hx rfl (hb hby d8_55) rfl ?_
      refine XS.iloadN X548.here hx rfl (hb hby d8_57) rfl ?_
      show Steps p.tables e below (T548.setTop (mkF m 58 #[vR a1, vI p1, vI p2, vI p3, vI 1, vI nx, .unset, .unset, .unset, .unset, .unset, .unset, .unset, .unset, .unset, .unset, .unset] [(.int p2), (.int nx), (.ref x2)])) _
      refine st549 _ ?_
      show Steps p.tables e below (T549.setTop (mkF m 59 #[vR a1, vI p1, vI p2, vI p3, vI 1, vI nx, .unset, .unset, .unset, .unset, .unset, .unset, .unset, .unset, .unset, .unset, .unset] [])) _
      refine XS.aloadN X549.here hx rfl (hb hby d8_59) rfl rfl ?_
      show Steps p.tables e below (T549.setTop (mkF m 60 #[vR a1, vI p1, vI p2, vI p3, vI 1, vI nx, .unset, .unset, .unset, .unset, .unset, .unset, .unset, .unset, .unset, .unset, .unset] [(.ref a1)])) _
      refine st575 _ ?_
      show Steps p.tables e below (T575.setTop (mkF m 63 #[vR a1, vI p1, vI p2, vI p3, vI 1, vI nx, .unset, .unset, .unset, .unset, .unset, .unset, .unset, .unset, .unset, .unset, .unset] [(.ref t)])) _
      refine st576 _ ?_
      show Steps p.tables e below (T576.setTop (mkF m 66 #[vR a1, vI p1, vI p2, vI p3, vI 1, vI nx, .unset, .unset, .unset, .unset, .unset, .unset, .unset, .unset, .unset, .unset, .unset] [(.ref x3)])) _
      refine XS.iload X576.here hx rfl (hb hby d8_66) rfl ?_
      refine XS.iconst X576.here hx rfl (hb hby d8_68) ?_
      show Steps p.tables e below (T576.setTop (mkF m 69 #[vR a1, vI p1, vI p2, vI p3, vI 1, vI nx, .unset, .unset, .unset, .unset, .unset, .unset, .unset, .unset, .unset, .unset, .unset] [(.int (-1 : Int32)), (.int nx), (.ref x3)])) _
      refine st577 _ ?_
      show Steps p.tables e below (T577.setTop (mkF m 70 #[vR a1, vI p1, vI p2, vI p3, vI 1, vI nx, .unset, .unset, .unset, .unset, .unset, .unset, .unset, .unset, .unset, .unset, .unset] [])) _
      refine XS.iconst X577.here hx rfl (hb hby d8_70) ?_
      refine XS.istore X577.here hx rfl (hb hby d8_71) rfl (l' := #[vR a1, vI p1, vI p2, vI p3, vI 1, vI nx, vI 0, .unset, .unset, .unset, .unset, .unset, .unset, .unset, .unset, .unset, .unset]) rfl ?_
      show Steps p.tables e below (T577.setTop (mkF m 73 #[vR a1, vI p1, vI p2, vI p3, vI 1, vI nx, vI 0, .unset, .unset, .unset, .unset, .unset, .unset, .unset, .unset, .unset, .unset] [])) _
      refine own_szero X577.here hx (hb hby d8_73) ?_
      show Steps p.tables e below (T577.setTop (mkF m 74 #[vR a1, vI p1, vI p2, vI p3, vI 1, vI nx, vI 0, .unset, .unset, .unset, .unset, .unset, .unset, .unset, .unset, .unset, .unset] [(.double (0 : UInt64))])) _
      refine own_sstore X577.here hx (l' := #[vR a1, vI p1, vI p2, vI p3, vI 1, vI nx, vI 0, vD 0, .second, .unset, .unset, .unset, .unset, .unset, .unset, .unset, .unset]) (hb hby d8_74) rfl ?_
      show Steps p.tables e below (T577.setTop (mkF m 76 #[vR a1, vI p1, vI p2, vI p3, vI 1, vI nx, vI 0, vD 0, .second, .unset, .unset, .unset, .unset, .unset, .unset, .unset, .unset] [])) _
      refine XS.iconst X577.here hx rfl (hb hby d8_76) ?_
      refine XS.istore X577.here hx rfl (hb hby d8_77) rfl (l' := #[vR a1, vI p1, vI p2, vI p3, vI 1, vI nx, vI 0, vD 0, .second, vI 0, .unset, .unset, .unset, .unset, .unset, .unset, .unset]) rfl ?_
      refine XS.iload X577.here hx rfl (hb hby d8_79) rfl ?_
      refine XS.iload X577.here hx rfl (hb hby d8_81) rfl ?_
      refine XS.icmpNo X577.here hx rfl (hb hby d8_83) rfl (tlt (by decide)).2.1 ?_
      show Steps p.tables e below (T577.setTop (mkF m 86 #[vR a1, vI p1, vI p2, vI p3, vI 1, vI nx, vI 0, vD 0, .second, vI 0, .unset, .unset, .unset, .unset, .unset, .unset, .unset] [])) _
      refine X577.ldc2DoubleC hx hown (mvT hZ (wd hw 93 rfl)) (g := (mkF m 86 #[vR a1, vI p1, vI p2, vI p3, vI 1, vI nx, vI 0, vD 0, .second, vI 0, .unset, .unset, .unset, .unset, .unset, .unset, .unset] [])) rfl (hb hby d8_86) _ ?_
      show Steps p.tables e below (T577.setTop (mkF m 89 #[vR a1, vI p1, vI p2, vI p3, vI 1, vI nx, vI 0, vD 0, .second, vI 0, .unset, .unset, .unset, .unset, .unset, .unset, .unset] [(.double (9218868437227405312 : UInt64))])) _
      refine own_sstore X577.here hx (l' := #[vR a1, vI p1, vI p2, vI p3, vI 1, vI nx, vI 0, vD 0, .second, vI 0, vD 9218868437227405312, .second, .unset, .unset, .unset, .unset, .unset]) (hb hby d8_89) rfl ?_
      show Steps p.tables e below (T577.setTop (mkF m 91 #[vR a1, vI p1, vI p2, vI p3, vI 1, vI nx, vI 0, vD 0, .second, vI 0, vD 9218868437227405312, .second, .unset, .unset, .unset, .unset, .unset] [])) _
      refine X577.ldc2DoubleC hx hown (mvT hZ (wd hw 94 rfl)) (g := (mkF m 91 #[vR a1, vI p1, vI p2, vI p3, vI 1, vI nx, vI 0, vD 0, .second, vI 0, vD 9218868437227405312, .second, .unset, .unset, .unset, .unset, .unset] [])) rfl (hb hby d8_91) _ ?_
      show Steps p.tables e below (T577.setTop (mkF m 94 #[vR a1, vI p1, vI p2, vI p3, vI 1, vI nx, vI 0, vD 0, .second, vI 0, vD 9218868437227405312, .second, .unset, .unset, .unset, .unset, .unset] [(.double (18442240474082181120 : UInt64))])) _
      refine own_sstore X577.here hx (l' := #[vR a1, vI p1, vI p2, vI p3, vI 1, vI nx, vI 0, vD 0, .second, vI 0, vD 9218868437227405312, .second, vD 18442240474082181120, .second, .unset, .unset, .unset]) (hb hby d8_94) rfl ?_
      show Steps p.tables e below (T577.setTop (mkF m 96 #[vR a1, vI p1, vI p2, vI p3, vI 1, vI nx, vI 0, vD 0, .second, vI 0, vD 9218868437227405312, .second, vD 18442240474082181120, .second, .unset, .unset, .unset] [])) _
      refine XS.iloadN X577.here hx rfl (hb hby d8_96) rfl ?_
      refine XS.istore X577.here hx rfl (hb hby d8_97) rfl (l' := #[vR a1, vI p1, vI p2, vI p3, vI 1, vI nx, vI 0, vD 0, .second, vI 0, vD 9218868437227405312, .second, vD 18442240474082181120, .second, vI p1, .unset, .unset]) rfl ?_
      show Steps p.tables e below (T577.setTop (mkF m 99 #[vR a1, vI p1, vI p2, vI p3, vI 1, vI nx, vI 0, vD 0, .second, vI 0, vD 9218868437227405312, .second, vD 18442240474082181120, .second, vI p1, .unset, .unset] [])) _
      refine st603 _ ?_
      show Steps p.tables e below (T603.setTop (mkF m 153 #[vR a1, vI p1, vI p2, vI p3, vI 1, vI nx, vI 0, vD 0, .second, vI 0, vD lo_603, .second, vD hi_603, .second, vI i_603, u_603, v_603] [])) _
      refine XS.aloadN X603.here hx rfl (hb hby d8_153) rfl rfl ?_
      show Steps p.tables e below (T603.setTop (mkF m 154 #[vR a1, vI p1, vI p2, vI p3, vI 1, vI nx, vI 0, vD 0, .second, vI 0, vD lo_603, .second, vD hi_603, .second, vI i_603, u_603, v_603] [(.ref a1)])) _
      refine st604 _ ?_
      show Steps p.tables e below (T604.setTop (mkF m 157 #[vR a1, vI p1, vI p2, vI p3, vI 1, vI nx, vI 0, vD 0, .second, vI 0, vD lo_603, .second, vD hi_603, .second, vI i_603, u_603, v_603] [(.ref t)])) _
      refine st605 _ ?_
      show Steps p.tables e below (T605.setTop (mkF m 160 #[vR a1, vI p1, vI p2, vI p3, vI 1, vI nx, vI 0, vD 0, .second, vI 0, vD lo_603, .second, vD hi_603, .second, vI i_603, u_603, v_603] [(.ref x4)])) _
      refine XS.iload X605.here hx rfl (hb hby d8_160) rfl ?_
      refine XS.iload X605.here hx rfl (hb hby d8_162) rfl ?_
      refine XS.imul X605.here hx rfl (hb hby d8_164) rfl ?_
      refine XS.iload X605.here hx rfl (hb hby d8_165) rfl ?_
      refine XS.iadd X605.here hx rfl (hb hby d8_167) rfl ?_
      show Steps p.tables e below (T605.setTop (mkF m 168 #[vR a1, vI p1, vI p2, vI p3, vI 1, vI nx, vI 0, vD 0, .second, vI 0, vD lo_603, .second, vD hi_603, .second, vI i_603, u_603, v_603] [(.int ((nx * (1 : Int32)) + (0 : Int32))), (.ref x4)])) _
      refine own_sload X605.here hx (hb hby d8_168) rfl ?_
      show Steps p.tables e below (T605.setTop (mkF m 170 #[vR a1, vI p1, vI p2, vI p3, vI 1, vI nx, vI 0, vD 0, .second, vI 0, vD lo_603, .second, vD hi_603, .second, vI i_603, u_603, v_603] [(.double lo_603), (.int ((nx * (1 : Int32)) + (0 : Int32))), (.ref x4)])) _
      rw [own_idx]
      show Steps p.tables e below (T605.setTop (mkF m 170 #[vR a1, vI p1, vI p2, vI p3, vI 1, vI nx, vI 0, vD 0, .second, vI 0, vD lo_603, .second, vD hi_603, .second, vI i_603, u_603, v_603] [(.double lo_603), (.int nx), (.ref x4)])) _
      refine st606 _ ?_
      show Steps p.tables e below (T606.setTop (mkF m 171 #[vR a1, vI p1, vI p2, vI p3, vI 1, vI nx, vI 0, vD 0, .second, vI 0, vD lo_603, .second, vD hi_603, .second, vI i_603, u_603, v_603] [])) _
      refine XS.aloadN X606.here hx rfl (hb hby d8_171) rfl rfl ?_
      show Steps p.tables e below (T606.setTop (mkF m 172 #[vR a1, vI p1, vI p2, vI p3, vI 1, vI nx, vI 0, vD 0, .second, vI 0, vD lo_603, .second, vD hi_603, .second, vI i_603, u_603, v_603] [(.ref a1)])) _
      refine st632 _ ?_
      show Steps p.tables e below (T632.setTop (mkF m 175 #[vR a1, vI p1, vI p2, vI p3, vI 1, vI nx, vI 0, vD 0, .second, vI 0, vD lo_603, .second, vD hi_603, .second, vI i_603, u_603, v_603] [(.ref t)])) _
      refine st633 _ ?_
      show Steps p.tables e below (T633.setTop (mkF m 178 #[vR a1, vI p1, vI p2, vI p3, vI 1, vI nx, vI 0, vD 0, .second, vI 0, vD lo_603, .second, vD hi_603, .second, vI i_603, u_603, v_603] [(.ref x5)])) _
      refine XS.iload X633.here hx rfl (hb hby d8_178) rfl ?_
      refine XS.iload X633.here hx rfl (hb hby d8_180) rfl ?_
      refine XS.imul X633.here hx rfl (hb hby d8_182) rfl ?_
      refine XS.iload X633.here hx rfl (hb hby d8_183) rfl ?_
      refine XS.iadd X633.here hx rfl (hb hby d8_185) rfl ?_
      show Steps p.tables e below (T633.setTop (mkF m 186 #[vR a1, vI p1, vI p2, vI p3, vI 1, vI nx, vI 0, vD 0, .second, vI 0, vD lo_603, .second, vD hi_603, .second, vI i_603, u_603, v_603] [(.int ((nx * (1 : Int32)) + (0 : Int32))), (.ref x5)])) _
      refine own_sload X633.here hx (hb hby d8_186) rfl ?_
      show Steps p.tables e below (T633.setTop (mkF m 188 #[vR a1, vI p1, vI p2, vI p3, vI 1, vI nx, vI 0, vD 0, .second, vI 0, vD lo_603, .second, vD hi_603, .second, vI i_603, u_603, v_603] [(.double hi_603), (.int ((nx * (1 : Int32)) + (0 : Int32))), (.ref x5)])) _
      rw [own_idx]
      show Steps p.tables e below (T633.setTop (mkF m 188 #[vR a1, vI p1, vI p2, vI p3, vI 1, vI nx, vI 0, vD 0, .second, vI 0, vD lo_603, .second, vD hi_603, .second, vI i_603, u_603, v_603] [(.double hi_603), (.int nx), (.ref x5)])) _
      refine st634 _ ?_
      show Steps p.tables e below (T634.setTop (mkF m 189 #[vR a1, vI p1, vI p2, vI p3, vI 1, vI nx, vI 0, vD 0, .second, vI 0, vD lo_603, .second, vD hi_603, .second, vI i_603, u_603, v_603] [])) _
      refine own_sload X634.here hx (hb hby d8_189) rfl ?_
      show Steps p.tables e below (T634.setTop (mkF m 191 #[vR a1, vI p1, vI p2, vI p3, vI 1, vI nx, vI 0, vD 0, .second, vI 0, vD lo_603, .second, vD hi_603, .second, vI i_603, u_603, v_603] [(.double hi_603)])) _
      refine own_sload X634.here hx (hb hby d8_191) rfl ?_
      show Steps p.tables e below (T634.setTop (mkF m 193 #[vR a1, vI p1, vI p2, vI p3, vI 1, vI nx, vI 0, vD 0, .second, vI 0, vD lo_603, .second, vD hi_603, .second, vI i_603, u_603, v_603] [(.double lo_603), (.double hi_603)])) _
      refine own_ssub X634.here hx (hb hby d8_193) (Jvm.Free.Fl.val64_no.mpr (Jvm.Free.Fl.val64_no.mp (Jvm.Free.Fl.dsub_out fh603.noNaN fl603))) ?_
      show Steps p.tables e below (T634.setTop (mkF m 194 #[vR a1, vI p1, vI p2, vI p3, vI 1, vI nx, vI 0, vD 0, .second, vI 0, vD lo_603, .second, vD hi_603, .second, vI i_603, u_603, v_603] [(.double (FP.dsub hi_603 lo_603))])) _
      refine own_sload X634.here hx (hb hby d8_194) rfl ?_
      show Steps p.tables e below (T634.setTop (mkF m 196 #[vR a1, vI p1, vI p2, vI p3, vI 1, vI nx, vI 0, vD 0, .second, vI 0, vD lo_603, .second, vD hi_603, .second, vI i_603, u_603, v_603] [(.double (0 : UInt64)), (.double (FP.dsub hi_603 lo_603))])) _
      refine own_scmp X634.here hx (z := cw) (hb hby d8_196) hcw ?_
      refine joinS (B := T634.setTop (mkF m 211 #[vR a1, vI p1, vI p2, vI p3, vI 1, vI nx, vI 0, vD v661, .second, vI 0, vD lo_603, .second, vD hi_603, .second, vI i_603, u_603, v_603] [])) (fun kt => ?_) ?_
      · by_cases hc660 : (0 : Int32) < cw
        · rw [show v661 = (FP.dsub hi_603 lo_603) from by rw [hv661, if_pos hc660]] at kt
          show Steps p.tables e below (T634.setTop (mkF m 197 #[vR a1, vI p1, vI p2, vI p3, vI 1, vI nx, vI 0, vD 0, .second, vI 0, vD lo_603, .second, vD hi_603, .second, vI i_603, u_603, v_603] [(.int cw)])) _
          refine XS.ifNo X634.here hx rfl (hb hby d8_197) rfl ((if0 _ _).trans (tlt hc660).2.2.2) ?_
          refine XS.iload X634.here hx rfl (hb hby d8_200) rfl ?_
          refine XS.istore X634.here hx rfl (hb hby d8_202) rfl (l' := #[vR a1, vI p1, vI p2, vI p3, vI 1, vI nx, vI 0, vD 0, .second, vI 0, vD lo_603, .second, vD hi_603, .second, vI i_603, u_603, v_603]) rfl ?_
          show Steps p.tables e below (T634.setTop (mkF m 204 #[vR a1, vI p1, vI p2, vI p3, vI 1, vI nx, vI 0, vD 0, .second, vI 0, vD lo_603, .second, vD hi_603, .second, vI i_603, u_603, v_603] [])) _
          refine own_sload X634.here hx (hb hby d8_204) rfl ?_
          show Steps p.tables e below (T634.setTop (mkF m 206 #[vR a1, vI p1, vI p2, vI p3, vI 1, vI nx, vI 0, vD 0, .second, vI 0, vD lo_603, .second, vD hi_603, .second, vI i_603, u_603, v_603] [(.double hi_603)])) _
          refine own_sload X634.here hx (hb hby d8_206) rfl ?_
          show Steps p.tables e below (T634.setTop (mkF m 208 #[vR a1, vI p1, vI p2, vI p3, vI 1, vI nx, vI 0, vD 0, .second, vI 0, vD lo_603, .second, vD hi_603, .second, vI i_603, u_603, v_603] [(.double lo_603), (.double hi_603)])) _
          refine own_ssub X634.here hx (hb hby d8_208) (Jvm.Free.Fl.val64_no.mpr (Jvm.Free.Fl.val64_no.mp (Jvm.Free.Fl.dsub_out fh603.noNaN fl603))) ?_
          show Steps p.tables e below (T634.setTop (mkF m 209 #[vR a1, vI p1, vI p2, vI p3, vI 1, vI nx, vI 0, vD 0, .second, vI 0, vD lo_603, .second, vD hi_603, .second, vI i_603, u_603, v_603] [(.double (FP.dsub hi_603 lo_603))])) _
          refine own_sstore X634.here hx (l' := #[vR a1, vI p1, vI p2, vI p3, vI 1, vI nx, vI 0, vD (FP.dsub hi_603 lo_603), .second, vI 0, vD lo_603, .second, vD hi_603, .second, vI i_603, u_603, v_603]) (hb hby d8_209) rfl ?_
          exact kt
        · rw [show v661 = (0 : UInt64) from by rw [hv661, if_neg hc660]] at kt
          show Steps p.tables e below (T634.setTop (mkF m 197 #[vR a1, vI p1, vI p2, vI p3, vI 1, vI nx, vI 0, vD 0, .second, vI 0, vD lo_603, .second, vD hi_603, .second, vI i_603, u_603, v_603] [(.int cw)])) _
          refine XS.ifYes X634.here hx rfl (pc0 := 197) (pc' := 211) rfl (hb hby d8_197) rfl ((if0 _ _).trans (flt hc660).2.2.2) (by decide) (by decide) ?_
          exact kt
      show Steps p.tables e below (T634.setTop (mkF m 211 #[vR a1, vI p1, vI p2, vI p3, vI 1, vI nx, vI 0, vD v661, .second, vI 0, vD lo_603, .second, vD hi_603, .second, vI i_603, u_603, v_603] [])) _
      refine XS.iinc X634.here hx rfl (hb hby d8_211) rfl (l' := #[vR a1, vI p1, vI p2, vI p3, vI 1, vI nx, vI 0, vD v661, .second, vI 1, vD lo_603, .second, vD hi_603, .second, vI i_603, u_603, v_603]) rfl ?_
      refine XS.goto X634.here hx rfl (pc0 := 214) (pc' := 79) rfl (hb hby d8_214) (by decide) (by decide) ?_
      refine XS.iload X634.here hx rfl (hb hby d8_79) rfl ?_
      refine XS.iload X634.here hx rfl (hb hby d8_81) rfl ?_
      refine XS.icmpYes X634.here hx rfl (pc0 := 83) (pc' := 217) rfl (hb hby d8_83) rfl (flt (by decide)).2.1 (by decide) (by decide) ?_
      refine XS.iloadN X634.here hx rfl (hb hby d8_217) rfl ?_
      refine XS.iloadN X634.here hx rfl (hb hby d8_218) rfl ?_
      show Steps p.tables e below (T634.setTop (mkF m 219 #[vR a1, vI p1, vI p2, vI p3, vI 1, vI nx, vI 0, vD v661, .second, vI 1, vD lo_603, .second, vD hi_603, .second, vI i_603, u_603, v_603] [(.int p1), (.int p2)])) _
      refine XS.isub X634.here hx rfl (hb hby d8_219) rfl ?_
      refine XS.bipush X634.here hx rfl (hb hby d8_220) ?_
      refine XS.icmpYes X634.here hx rfl (pc0 := 222) (pc' := 283) rfl (hb hby d8_222) rfl (flt hA).2.2.2 (by decide) (by decide) ?_
      show Steps p.tables e below (T634.setTop (mkF m 283 #[vR a1, vI p1, vI p2, vI p3, vI 1, vI nx, vI 0, vD v661, .second, vI 1, vD lo_603, .second, vD hi_603, .second, vI i_603, u_603, v_603] [])) _
      exact X634.returnOut hx Bd.returns (hb hby d8_283) hr
    · show Qrm8_1 Z a1 p1 p2 p3 t pts co r x1 x2 x3 x4 x5 gc nx fF fE fU h0 n0 _ T634.heap _
      rw [e634]
      exact ⟨rfl, N658, K659, _, _, _, _, own_rel_leaf _ ⟨rfl, rfl, rfl, rfl⟩, ⟨f644, f651, ⟨_, f652⟩, ⟨_, f645, q0a⟩, f653, f654, f655, ⟨_, f656⟩, ⟨_, f635⟩⟩⟩
set_option maxRecDepth 65536 in
set_option maxHeartbeats 40000000 in
theorem loopL2 {p : Program} {l : Launch} {e : Env} {s : State} {m : MethodId} {args : Array Value} {below : List Frame} {meth : Method} {c : Code} {Z : State} {a0 : Array Value} {n0 : Nat} (hw : ∀ d ∈ tables_1, d.before a0 Z = true) (hx : p.tables.exec = Jvm.exec) (hZ : Z.Warmed39 s.vm) (hby : c.code = prog_54_method_2_code) (hml : c.maxLocals = 17) (hown : s.vm.findClass "com/example/flatfinder/flatfinder/neighbours/KdTree$Builder" = some m.cls) (a1 : Addr) (t : Addr) (pts : Addr) (co : Addr) (r : Addr) (gc : Nat → UInt64) (Fg : ∀ i, Jvm.Free.Fl.Fin64 (gc i)) (f0 : Nat → Int32) (q0 : ∀ i, own_ix 66 (f0 i)) (p1 : Int32) (p2 : Int32) (p3 : Int32) (nx : Int32) (hp : 0 ≤ p1.toInt ∧ p1.toInt < p2.toInt ∧ p2.toInt ≤ 66) :
    ∀ (k : Nat) (lo : UInt64) (hi : UInt64) (i : Int32) (s15 : Slot) (s16 : Slot) (T : State) (h : Heap) (locs : List Loc) (X0 : Stand p l e ({ frames := 5, cells := 3, slots := 198, locals := 109 } : Room) s m args below meth c T locs 0 0) (e0 : T.heap = h) (N0 : Fr n0 locs) (Z0 : n0 ≤ h.size) (hs15 : own_Two s15 s16) (hi_ : p1.toInt ≤ i.toInt ∧ i.toInt ≤ p2.toInt) (hlo : (lo = (9218868437227405312 : UInt64) ∧ i.toInt = p1.toInt) ∨ Jvm.Free.Fl.Fin64 lo) (hhi : (hi = (18442240474082181120 : UInt64) ∧ i.toInt = p1.toInt) ∨ Jvm.Free.Fl.Fin64 hi) (Eb : Exa Z h a1 "com/example/flatfinder/flatfinder/neighbours/KdTree$Builder") (Ft : Fld Z h a1 "com/example/flatfinder/flatfinder/neighbours/KdTree$Builder" "this$0" "Lcom/example/flatfinder/flatfinder/neighbours/KdTree;" (.ref t)) (Fp : Fld Z h t "com/example/flatfinder/flatfinder/neighbours/KdTree" "points" "Lcom/example/flatfinder/flatfinder/neighbours/Points;" (.ref pts)) (Frw : Fld Z h t "com/example/flatfinder/flatfinder/neighbours/KdTree" "rows" "[I" (.ref r)) (Ep : Exa Z h pts "com/example/flatfinder/flatfinder/neighbours/Points") (Fs : Fld Z h pts "com/example/flatfinder/flatfinder/neighbours/Points" "size" "I" (.int (66 : Int32))) (Fd : Fld Z h pts "com/example/flatfinder/flatfinder/neighbours/Points" "dimensions" "I" (.int (1 : Int32))) (Fc : Fld Z h pts "com/example/flatfinder/flatfinder/neighbours/Points" "coordinates" "[D" (.ref co)) (Vc : own_V Z h co .double 66 (fun ii => .double (gc ii))) (V0 : own_V Z h r .int 66 (fun ii => .int (f0 ii))) (hk : (p2.toInt - i.toInt).toNat < k),
      ∃ (T' : State) (locs' : List Loc) (lo' : UInt64) (hi' : UInt64) (i' : Int32) (u' : Slot) (v' : Slot), Stand p l e ({ frames := 5, cells := 3, slots := 198, locals := 109 } : Room) s m args below meth c T' locs' 0 0 ∧ Fr n0 locs' ∧ T'.heap = h ∧ Jvm.Free.Fl.Fin64 lo' ∧ Jvm.Free.Fl.Fin64 hi' ∧ ∀ target, Steps p.tables e below (T'.setTop (mkF m 153 #[vR a1, vI p1, vI p2, vI p3, vI 1, vI nx, vI 0, vD 0, .second, vI 0, vD lo', .second, vD hi', .second, vI i', u', v'] [])) target → Steps p.tables e below (T.setTop (mkF m 99 #[vR a1, vI p1, vI p2, vI p3, vI 1, vI nx, vI 0, vD 0, .second, vI 0, vD lo, .second, vD hi, .second, vI i, s15, s16] [])) target := by
  intro k
  induction k with
  | zero => intro lo hi i s15 s16 T h locs X0 e0 N0 Z0 hs15 hi_ hlo hhi Eb Ft Fp Frw Ep Fs Fd Fc Vc V0 hk; exact absurd hk (Nat.not_lt_zero _)
  | succ k ih =>
    intro lo hi i s15 s16 T h locs X0 e0 N0 Z0 hs15 hi_ hlo hhi Eb Ft Fp Frw Ep Fs Fd Fc Vc V0 hk
    by_cases hg : i < p2
    · have hg' := own_lt.mp hg
      have hix : own_ix 66 i := ⟨by omega, by omega⟩
      have hi1 := own_add1 (i := i) (by omega) (by omega)
      obtain ⟨T248, X248, e248, st248⟩ := getF X0 hx hZ hown (host := "") (Or.inl (wd hw 73 rfl)) Via.refl e0 Ft (g := (mkF m 106 #[vR a1, vI p1, vI p2, vI p3, vI 1, vI nx, vI 0, vD 0, .second, vI 0, vD lo, .second, vD hi, .second, vI i, s15, s16] [(.ref a1)])) rfl rfl (hb hby d8_106)
      obtain ⟨T249, X249, e249, st249⟩ := getF X248 hx hZ hown (Or.inr (wd hw 81 rfl)) Via.refl e248 Fp (g := (mkF m 109 #[vR a1, vI p1, vI p2, vI p3, vI 1, vI nx, vI 0, vD 0, .second, vI 0, vD lo, .second, vD hi, .second, vI i, s15, s16] [(.ref t)])) rfl rfl (hb hby d8_109)
      obtain ⟨T250, X250, e250, st250⟩ := getF X249 hx hZ hown (host := "") (Or.inl (wd hw 73 rfl)) Via.refl e249 Ft (g := (mkF m 113 #[vR a1, vI p1, vI p2, vI p3, vI 1, vI nx, vI 0, vD 0, .second, vI 0, vD lo, .second, vD hi, .second, vI i, s15, s16] [(.ref a1), (.ref pts)])) rfl rfl (hb hby d8_113)
      obtain ⟨T251, X251, e251, st251⟩ := getF X250 hx hZ hown (Or.inr (wd hw 95 rfl)) Via.refl e250 Frw (g := (mkF m 116 #[vR a1, vI p1, vI p2, vI p3, vI 1, vI nx, vI 0, vD 0, .second, vI 0, vD lo, .second, vD hi, .second, vI i, s15, s16] [(.ref t), (.ref pts)])) rfl rfl (hb hby d8_116)
      obtain ⟨cq252, kq252, q252a, q252b, q252c⟩ := isOf hZ e251 Ep
      obtain ⟨_, _, ⟨T252, L252, k252, n252⟩, -, X252, ⟨Lc252, hQ252, l252, y252, z252⟩, st252⟩ := X251.virtualBack hx (y := (⟨"com/example/flatfinder/flatfinder/neighbours/Points", "coordinate", "(II)D"⟩ : MethodName)) (z := (⟨"com/example/flatfinder/flatfinder/neighbours/Points", "coordinate", "(II)D"⟩ : MethodName)) hown (mvT hZ (wd hw 96 rfl)) (mvT hZ (wd hw 97 rfl)) (notFace_of_selects (args := #[]) (mvT hZ (wd hw 99 rfl))) (mvT hZ (wd hw 99 rfl)) (mvT hZ (wd hw 98 rfl)) (by decide) (backOf (W := 0) (rm10 l Z a0 hw [] pts (f0 (i).toNatClampNeg) co gc h n0 Z0 Fs Fd Fc Vc (q0 _)) hZ (wd hw 100 rfl) (wd hw 4 rfl) (by decide) (by decide)) q252a q252c (g := (mkF m 124 #[vR a1, vI p1, vI p2, vI p3, vI 1, vI nx, vI 0, vD 0, .second, vI 0, vD lo, .second, vD hi, .second, vI i, s15, s16] [(.int (0 : Int32)), (.int (f0 (i).toNatClampNeg)), (.ref pts)])) rfl (by rw [hml]; rfl) (Steps.refl _) (argsL := [(.int (f0 (i).toNatClampNeg)), (.int (0 : Int32))]) (rest := []) (lenOf pd__II_D rfl) rfl (by show 2 * 0 + _ ≤ _; exact Nat.le_of_eq rfl) (hb hby d8_124) (fun _ _ => ⟨rfl, e251, (by decide : 0 + 0 ≤ _), (by decide : 0 + 0 ≤ _)⟩)
      dsimp only [Pt.U, Pt.locs, Pt.cells, Pt.slots] at X252 l252 y252 z252 st252 hQ252
      subst l252 y252 z252
      obtain ⟨rfl, N252q, e252⟩ := hQ252
      have N253 := Fr.app N0 N252q
      obtain ⟨_, vm254, ⟨Tq254, L254, k254, n254⟩, -, X254, ⟨hr254, hB254⟩, st254⟩ := Jvm.LawKit.callS X252 hx (y := (⟨"java/lang/Math", "min", "(DD)D"⟩ : MethodName)) hown (mvT hZ (wd hw 109 rfl)) (mvT hZ (wd hw 110 rfl)) (mvT hZ (wd hw 17 rfl)) (mvT hZ (wd hw 111 rfl)) (by decide) (Jvm.Free.Fl.Abs.minD_pays (W := 0) lo (gc (f0 (i).toNatClampNeg).toNatClampNeg) (mvT hZ (wd hw 111 rfl)) (by decide) (by decide)) (g := (mkF m 133 #[vR a1, vI p1, vI p2, vI p3, vI 1, vI nx, vI 0, vD 0, .second, vI 0, vD lo, .second, vD hi, .second, vI i, vD (gc (f0 (i).toNatClampNeg).toNatClampNeg), .second] [(.double (gc (f0 (i).toNatClampNeg).toNatClampNeg)), (.double lo)])) rfl (by rw [hml]; rfl) (argsL := [(.double lo), (.double (gc (f0 (i).toNatClampNeg).toNatClampNeg))]) (rest := []) (lenOf pd__DD_D rfl) rfl (by show 2 * 0 + _ ≤ _; exact Nat.le_of_eq rfl) (hb hby d8_133) (fun _ _ => ⟨by show 0 ≤ _; decide, by show 0 ≤ _; decide, rfl, own_lon hlo, (Fg _).noNaN⟩)
      simp only [Prod.mk.injEq] at hB254
      obtain ⟨rfl, rfl, rfl, rfl⟩ := hB254
      subst hr254
      dsimp only [Pt.U, Pt.locs, Pt.cells, Pt.slots] at X254 st254
      have e254 : (T252.setVm vm254).heap = h := e252
      generalize T252.setVm vm254 = T254 at X254 st254 e254
      obtain ⟨_, vm255, ⟨Tq255, L255, k255, n255⟩, -, X255, ⟨hr255, hB255⟩, st255⟩ := Jvm.LawKit.callS X254 hx (y := (⟨"java/lang/Math", "max", "(DD)D"⟩ : MethodName)) hown (mvT hZ (wd hw 112 rfl)) (mvT hZ (wd hw 113 rfl)) (mvT hZ (wd hw 17 rfl)) (mvT hZ (wd hw 114 rfl)) (by decide) (Jvm.Free.Fl.Abs.maxD_pays (W := 0) hi (gc (f0 (i).toNatClampNeg).toNatClampNeg) (mvT hZ (wd hw 114 rfl)) (by decide) (by decide)) (g := (mkF m 142 #[vR a1, vI p1, vI p2, vI p3, vI 1, vI nx, vI 0, vD 0, .second, vI 0, vD (own_pk false lo (gc (f0 (i).toNatClampNeg).toNatClampNeg)), .second, vD hi, .second, vI i, vD (gc (f0 (i).toNatClampNeg).toNatClampNeg), .second] [(.double (gc (f0 (i).toNatClampNeg).toNatClampNeg)), (.double hi)])) rfl (by rw [hml]; rfl) (argsL := [(.double hi), (.double (gc (f0 (i).toNatClampNeg).toNatClampNeg))]) (rest := []) (lenOf pd__DD_D rfl) rfl (by show 2 * 0 + _ ≤ _; exact Nat.le_of_eq rfl) (hb hby d8_142) (fun _ _ => ⟨by show 0 ≤ _; decide, by show 0 ≤ _; decide, rfl, own_hin hhi, (Fg _).noNaN⟩)
      simp only [Prod.mk.injEq] at hB255
      obtain ⟨rfl, rfl, rfl, rfl⟩ := hB255
      subst hr255
      dsimp only [Pt.U, Pt.locs, Pt.cells, Pt.slots] at X255 st255
      have e255 : (T254.setVm vm255).heap = h := e254
      generalize T254.setVm vm255 = T255 at X255 st255 e255
      obtain ⟨T9, locs9, l9, h9, i9, u9, v9, X9, N9, e9, f9, q9, st9⟩ := ih (own_pk false lo (gc (f0 (i).toNatClampNeg).toNatClampNeg)) (own_pk true hi (gc (f0 (i).toNatClampNeg).toNatClampNeg)) (i + (1 : Int32)) (vD (gc (f0 (i).toNatClampNeg).toNatClampNeg)) (.second) T255 h _ X255 e255 N253 Z0 own_Two.v (by omega) (Or.inr (own_lo1 hlo (Fg _))) (Or.inr (own_hi1 hhi (Fg _))) Eb Ft Fp Frw Ep Fs Fd Fc Vc V0 (by omega)
      refine ⟨T9, locs9, l9, h9, i9, u9, v9, X9, N9, e9, f9, q9, fun target kt => ?_⟩
      show Steps p.tables e below (T.setTop (mkF m 99 #[vR a1, vI p1, vI p2, vI p3, vI 1, vI nx, vI 0, vD 0, .second, vI 0, vD lo, .second, vD hi, .second, vI i, s15, s16] [])) _
      refine XS.iload X0.here hx rfl (hb hby d8_99) rfl ?_
      refine XS.iloadN X0.here hx rfl (hb hby d8_101) rfl ?_
      refine XS.icmpNo X0.here hx rfl (hb hby d8_102) rfl (tlt hg).2.1 ?_
      refine XS.aloadN X0.here hx rfl (hb hby d8_105) rfl rfl ?_
      show Steps p.tables e below (T.setTop (mkF m 106 #[vR a1, vI p1, vI p2, vI p3, vI 1, vI nx, vI 0, vD 0, .second, vI 0, vD lo, .second, vD hi, .second, vI i, s15, s16] [(.ref a1)])) _
      refine st248 _ ?_
      show Steps p.tables e below (T248.setTop (mkF m 109 #[vR a1, vI p1, vI p2, vI p3, vI 1, vI nx, vI 0, vD 0, .second, vI 0, vD lo, .second, vD hi, .second, vI i, s15, s16] [(.ref t)])) _
      refine st249 _ ?_
      show Steps p.tables e below (T249.setTop (mkF m 112 #[vR a1, vI p1, vI p2, vI p3, vI 1, vI nx, vI 0, vD 0, .second, vI 0, vD lo, .second, vD hi, .second, vI i, s15, s16] [(.ref pts)])) _
      refine XS.aloadN X249.here hx rfl (hb hby d8_112) rfl rfl ?_
      show Steps p.tables e below (T249.setTop (mkF m 113 #[vR a1, vI p1, vI p2, vI p3, vI 1, vI nx, vI 0, vD 0, .second, vI 0, vD lo, .second, vD hi, .second, vI i, s15, s16] [(.ref a1), (.ref pts)])) _
      refine st250 _ ?_
      show Steps p.tables e below (T250.setTop (mkF m 116 #[vR a1, vI p1, vI p2, vI p3, vI 1, vI nx, vI 0, vD 0, .second, vI 0, vD lo, .second, vD hi, .second, vI i, s15, s16] [(.ref t), (.ref pts)])) _
      refine st251 _ ?_
      show Steps p.tables e below (T251.setTop (mkF m 119 #[vR a1, vI p1, vI p2, vI p3, vI 1, vI nx, vI 0, vD 0, .second, vI 0, vD lo, .second, vD hi, .second, vI i, s15, s16] [(.ref r), (.ref pts)])) _
      refine XS.iload X251.here hx rfl (hb hby d8_119) rfl ?_
      show Steps p.tables e below (T251.setTop (mkF m 121 #[vR a1, vI p1, vI p2, vI p3, vI 1, vI nx, vI 0, vD 0, .second, vI 0, vD lo, .second, vD hi, .second, vI i, s15, s16] [(.int i), (.ref r), (.ref pts)])) _
      refine own_ldI X251 hx hZ e251 V0 (j := i) hix (f := (mkF m 121 #[vR a1, vI p1, vI p2, vI p3, vI 1, vI nx, vI 0, vD 0, .second, vI 0, vD lo, .second, vD hi, .second, vI i, s15, s16] [(.int i), (.ref r), (.ref pts)])) rfl rfl (hb hby d8_121) _ ?_
      show Steps p.tables e below (T251.setTop (mkF m 122 #[vR a1, vI p1, vI p2, vI p3, vI 1, vI nx, vI 0, vD 0, .second, vI 0, vD lo, .second, vD hi, .second, vI i, s15, s16] [(.int (f0 (i).toNatClampNeg)), (.ref pts)])) _
      refine XS.iload X251.here hx rfl (hb hby d8_122) rfl ?_
      show Steps p.tables e below (T251.setTop (mkF m 124 #[vR a1, vI p1, vI p2, vI p3, vI 1, vI nx, vI 0, vD 0, .second, vI 0, vD lo, .second, vD hi, .second, vI i, s15, s16] [(.int (0 : Int32)), (.int (f0 (i).toNatClampNeg)), (.ref pts)])) _
      refine st252.trans ?_
      show Steps p.tables e below (T252.setTop (mkF m 127 #[vR a1, vI p1, vI p2, vI p3, vI 1, vI nx, vI 0, vD 0, .second, vI 0, vD lo, .second, vD hi, .second, vI i, s15, s16] [(.double (gc (f0 (i).toNatClampNeg).toNatClampNeg))])) _
      refine own_sstore X252.here hx (l' := #[vR a1, vI p1, vI p2, vI p3, vI 1, vI nx, vI 0, vD 0, .second, vI 0, vD lo, .second, vD hi, .second, vI i, vD (gc (f0 (i).toNatClampNeg).toNatClampNeg), .second]) (hb hby d8_127) (by rcases hs15 with ⟨q, q'⟩ | ⟨_, q, q'⟩ <;> subst q q' <;> rfl) ?_
      show Steps p.tables e below (T252.setTop (mkF m 129 #[vR a1, vI p1, vI p2, vI p3, vI 1, vI nx, vI 0, vD 0, .second, vI 0, vD lo, .second, vD hi, .second, vI i, vD (gc (f0 (i).toNatClampNeg).toNatClampNeg), .second] [])) _
      refine own_sload X252.here hx (hb hby d8_129) rfl ?_
      show Steps p.tables e below (T252.setTop (mkF m 131 #[vR a1, vI p1, vI p2, vI p3, vI 1, vI nx, vI 0, vD 0, .second, vI 0, vD lo, .second, vD hi, .second, vI i, vD (gc (f0 (i).toNatClampNeg).toNatClampNeg), .second] [(.double lo)])) _
      refine own_sload X252.here hx (hb hby d8_131) rfl ?_
      show Steps p.tables e below (T252.setTop (mkF m 133 #[vR a1, vI p1, vI p2, vI p3, vI 1, vI nx, vI 0, vD 0, .second, vI 0, vD lo, .second, vD hi, .second, vI i, vD (gc (f0 (i).toNatClampNeg).toNatClampNeg), .second] [(.double (gc (f0 (i).toNatClampNeg).toNatClampNeg)), (.double lo)])) _
      refine st254 _ ?_
      show Steps p.tables e below (T254.setTop (mkF m 136 #[vR a1, vI p1, vI p2, vI p3, vI 1, vI nx, vI 0, vD 0, .second, vI 0, vD lo, .second, vD hi, .second, vI i, vD (gc (f0 (i).toNatClampNeg).toNatClampNeg), .second] [(.double (own_pk false lo (gc (f0 (i).toNatClampNeg).toNatClampNeg)))])) _
      refine own_sstore X254.here hx (l' := #[vR a1, vI p1, vI p2, vI p3, vI 1, vI nx, vI 0, vD 0, .second, vI 0, vD (own_pk false lo (gc (f0 (i).toNatClampNeg).toNatClampNeg)), .second, vD hi, .second, vI i, vD (gc (f0 (i).toNatClampNeg).toNatClampNeg), .second]) (hb hby d8_136) rfl ?_
      show Steps p.tables e below (T254.setTop (mkF m 138 #[vR a1, vI p1, vI p2, vI p3, vI 1, vI nx, vI 0, vD 0, .second, vI 0, vD (own_pk false lo (gc (f0 (i).toNatClampNeg).toNatClampNeg)), .second, vD hi, .second, vI i, vD (gc (f0 (i).toNatClampNeg).toNatClampNeg), .second] [])) _
      refine own_sload X254.here hx (hb hby d8_138) rfl ?_
      show Steps p.tables e below (T254.setTop (mkF m 140 #[vR a1, vI p1, vI p2, vI p3, vI 1, vI nx, vI 0, vD 0, .second, vI 0, vD (own_pk false lo (gc (f0 (i).toNatClampNeg).toNatClampNeg)), .second, vD hi, .second, vI i, vD (gc (f0 (i).toNatClampNeg).toNatClampNeg), .second] [(.double hi)])) _
      refine own_sload X254.here hx (hb hby d8_140) rfl ?_
      show Steps p.tables e below (T254.setTop (mkF m 142 #[vR a1, vI p1, vI p2, vI p3, vI 1, vI nx, vI 0, vD 0, .second, vI 0, vD (own_pk false lo (gc (f0 (i).toNatClampNeg).toNatClampNeg)), .second, vD hi, .second, vI i, vD (gc (f0 (i).toNatClampNeg).toNatClampNeg), .second] [(.double (gc (f0 (i).toNatClampNeg).toNatClampNeg)), (.double hi)])) _
      refine st255 _ ?_
      show Steps p.tables e below (T255.setTop (mkF m 145 #[vR a1, vI p1, vI p2, vI p3, vI 1, vI nx, vI 0, vD 0, .second, vI 0, vD (own_pk false lo (gc (f0 (i).toNatClampNeg).toNatClampNeg)), .second, vD hi, .second, vI i, vD (gc (f0 (i).toNatClampNeg).toNatClampNeg), .second] [(.double (own_pk true hi (gc (f0 (i).toNatClampNeg).toNatClampNeg)))])) _
      refine own_sstore X255.here hx (l' := #[vR a1, vI p1, vI p2, vI p3, vI 1, vI nx, vI 0, vD 0, .second, vI 0, vD (own_pk false lo (gc (f0 (i).toNatClampNeg).toNatClampNeg)), .second, vD (own_pk true hi (gc (f0 (i).toNatClampNeg).toNatClampNeg)), .second, vI i, vD (gc (f0 (i).toNatClampNeg).toNatClampNeg), .second]) (hb hby d8_145) rfl ?_
      show Steps p.tables e below (T255.setTop (mkF m 147 #[vR a1, vI p1, vI p2, vI p3, vI 1, vI nx, vI 0, vD 0, .second, vI 0, vD (own_pk false lo (gc (f0 (i).toNatClampNeg).toNatClampNeg)), .second, vD (own_pk true hi (gc (f0 (i).toNatClampNeg).toNatClampNeg)), .second, vI i, vD (gc (f0 (i).toNatClampNeg).toNatClampNeg), .second] [])) _
      refine XS.iinc X255.here hx rfl (hb hby d8_147) rfl (l' := #[vR a1, vI p1, vI p2, vI p3, vI 1, vI nx, vI 0, vD 0, .second, vI 0, vD (own_pk false lo (gc (f0 (i).toNatClampNeg).toNatClampNeg)), .second, vD (own_pk true hi (gc (f0 (i).toNatClampNeg).toNatClampNeg)), .second, vI (i + (1 : Int32)), vD (gc (f0 (i).toNatClampNeg).toNatClampNeg), .second]) rfl ?_
      refine XS.goto X255.here hx rfl (pc0 := 150) (pc' := 99) rfl (hb hby d8_150) (by decide) (by decide) ?_
      show Steps p.tables e below (T255.setTop (mkF m 99 #[vR a1, vI p1, vI p2, vI p3, vI 1, vI nx, vI 0, vD 0, .second, vI 0, vD (own_pk false lo (gc (f0 (i).toNatClampNeg).toNatClampNeg)), .second, vD (own_pk true hi (gc (f0 (i).toNatClampNeg).toNatClampNeg)), .second, vI (i + (1 : Int32)), vD (gc (f0 (i).toNatClampNeg).toNatClampNeg), .second] [])) _
      exact st9 target kt
    · have hg' : ¬ i.toInt < p2.toInt := fun q => hg (own_lt.mpr q)
      refine ⟨T, locs, lo, hi, i, s15, s16, X0, N0, e0, hlo.resolve_left (fun q => by have := q.2; omega), hhi.resolve_left (fun q => by have := q.2; omega), fun target kt => ?_⟩
      show Steps p.tables e below (T.setTop (mkF m 99 #[vR a1, vI p1, vI p2, vI p3, vI 1, vI nx, vI 0, vD 0, .second, vI 0, vD lo, .second, vD hi, .second, vI i, s15, s16] [])) _
      refine XS.iload X0.here hx rfl (hb hby d8_99) rfl ?_
      refine XS.iloadN X0.here hx rfl (hb hby d8_101) rfl ?_
      refine XS.icmpYes X0.here hx rfl (pc0 := 102) (pc' := 153) rfl (hb hby d8_102) rfl (flt hg).2.1 (by decide) (by decide) ?_
      exact kt
theorem ef_rm8_2 (m : MethodId) (a1 : Addr) (p1 : Int32) (p2 : Int32) (p3 : Int32) : entryFrame m #[(.ref a1), (.int p1), (.int p2), (.int p3)] 17 = mkF m 0 #[.val (.ref a1), .val (.int p1), .val (.int p2), .val (.int p3), .unset, .unset, .unset, .unset, .unset, .unset, .unset, .unset, .unset, .unset, .unset, .unset, .unset] [] := by first | (simp [entryFrame, mkF, argsToLocals, Value.category]; done) | rfl
def Qrm8_2 (Z : State) (a1 : Addr) (p1 : Int32) (p2 : Int32) (p3 : Int32) (t : Addr) (pts : Addr) (co : Addr) (r : Addr) (x1 : Addr) (x2 : Addr) (x3 : Addr) (x4 : Addr) (x5 : Addr) (gc : Nat → UInt64) (nx : Int32) (fF : Nat → Int32) (fE : Nat → Int32) (fU : Nat → Int32) (h0 : Heap) (n0 : Nat) (v : Option Value) (h : Heap) (L : List Loc) : Prop := v = none ∧ Fr n0 L ∧ Keep h0 h [a1, r, x1, x2, x3, x4, x5] ∧ ∃ n' F' E' U', own_rel 2 nx p1 p2 fF fE fU n' F' E' U' ∧ own_St Z h a1 t r x1 x2 x3 x4 x5 n' F' E' U'
set_option maxRecDepth 65536 in
set_option maxHeartbeats 40000000 in
theorem rm8_2 (l : Launch) (Z : State) (a0 : Array Value) (hw : ∀ d ∈ tables_1, d.before a0 Z = true) (ws : List Jvm.Cond) (a1 : Addr) (p1 : Int32) (p2 : Int32) (p3 : Int32) (t : Addr) (pts : Addr) (co : Addr) (r : Addr) (x1 : Addr) (x2 : Addr) (x3 : Addr) (x4 : Addr) (x5 : Addr) (gc : Nat → UInt64) (nx : Int32) (fF : Nat → Int32) (fE : Nat → Int32) (fU : Nat → Int32) (h0 : Heap) (n0 : Nat) (Z0 : n0 ≤ h0.size) (Eb : Exa Z h0 a1 "com/example/flatfinder/flatfinder/neighbours/KdTree$Builder") (Ft : Fld Z h0 a1 "com/example/flatfinder/flatfinder/neighbours/KdTree$Builder" "this$0" "Lcom/example/flatfinder/flatfinder/neighbours/KdTree;" (.ref t)) (Fp : Fld Z h0 t "com/example/flatfinder/flatfinder/neighbours/KdTree" "points" "Lcom/example/flatfinder/flatfinder/neighbours/Points;" (.ref pts)) (Frw : Fld Z h0 t "com/example/flatfinder/flatfinder/neighbours/KdTree" "rows" "[I" (.ref r)) (Ep : Exa Z h0 pts "com/example/flatfinder/flatfinder/neighbours/Points") (Fs : Fld Z h0 pts "com/example/flatfinder/flatfinder/neighbours/Points" "size" "I" (.int (66 : Int32))) (Fd : Fld Z h0 pts "com/example/flatfinder/flatfinder/neighbours/Points" "dimensions" "I" (.int (1 : Int32))) (Fc : Fld Z h0 pts "com/example/flatfinder/flatfinder/neighbours/Points" "coordinates" "[D" (.ref co)) (Vc : own_V Z h0 co .double 66 (fun ii => .double (gc ii))) (Gf : Fld Z h0 t "com/example/flatfinder/flatfinder/neighbours/KdTree" "first" "[I" (.ref x1)) (Ge : Fld Z h0 t "com/example/flatfinder/flatfinder/neighbours/KdTree" "end" "[I" (.ref x2)) (Gu : Fld Z h0 t "com/example/flatfinder/flatfinder/neighbours/KdTree" "upper" "[I" (.ref x3)) (Gl : Fld Z h0 t "com/example/flatfinder/flatfinder/neighbours/KdTree" "low" "[D" (.ref x4)) (Gh : Fld Z h0 t "com/example/flatfinder/flatfinder/neighbours/KdTree" "high" "[D" (.ref x5)) (Fg : ∀ i, Jvm.Free.Fl.Fin64 (gc i)) (ST : own_St Z h0 a1 t r x1 x2 x3 x4 x5 nx fF fE fU) (hp : 0 ≤ p1.toInt ∧ p1.toInt < p2.toInt ∧ p2.toInt ≤ 66 ∧ p2.toInt - p1.toInt ≤ 128) (hnx : 0 ≤ nx.toInt ∧ nx.toInt + 7 ≤ 9) (hnd : [a1, t, pts, co, r, x1, x2, x3, x4, x5].Nodup) (hge : ∀ x ∈ [a1, r, x1, x2, x3, x4, x5], n0 ≤ x) :
    MetFree l (⟨"com/example/flatfinder/flatfinder/neighbours/KdTree$Builder", "build", "(III)V"⟩ : MethodName) (head1 (Jvm.Cond.code (⟨"com/example/flatfinder/flatfinder/neighbours/KdTree$Builder", "build", "(III)V"⟩ : MethodName) prog_54_method_2_code 17 none :: ws) ({ frames := 5, cells := 3, slots := 198, locals := 109 } : Room)) (fun a U => a = #[(.ref a1), (.int p1), (.int p2), (.int p3)] ∧ Z.Warmed39 U.vm ∧ U.heap = h0) (fun _ _ _ _ _ => True) (fun _ U o U' => ∃ v L, o = .returned v ∧ Qrm8_2 Z a1 p1 p2 p3 t pts co r x1 x2 x3 x4 x5 gc nx fF fE fU h0 n0 v U'.heap L ∧ FrameEnd U o U' L ({ frames := 5, cells := 3, slots := 198, locals := 109 } : Room).cells ({ frames := 5, cells := 3, slots := 198, locals := 109 } : Room).slots) := by
  refine MetFree.of_bodySF (plainFor_of_name pn_com_example_flatfinder_flatfinder_neighbours_KdTree_Builder) hisR ?_
  intro p e s m args below meth c s₁ Bd hml0 hP hK
  obtain ⟨rfl, hZ, hh⟩ := hP
  have hx := Bd.exec
  have hby := Bd.bytes
  have hml : c.maxLocals = 17 := hml0
  have hown : s.vm.findClass "com/example/flatfinder/flatfinder/neighbours/KdTree$Builder" = some m.cls := findClass_of_methodNamed Bd.named
  have hnm := (name_of_methodNamed Bd.named Bd.method).1
  have X0 : Stand p l e ({ frames := 5, cells := 3, slots := 198, locals := 109 } : Room) s m #[(.ref a1), (.int p1), (.int p2), (.int p3)] below meth c s₁ [] 0 0 := Stand.of_body Bd
  have e0 : s₁.heap = h0 := by rw [← hh, Bd.state]; rfl
  have N0 := Fr.nil n0
  have pre0 : ∀ tg, Steps p.tables e below (s₁.setTop (mkF m 0 #[.val (.ref a1), .val (.int p1), .val (.int p2), .val (.int p3), .unset, .unset, .unset, .unset, .unset, .unset, .unset, .unset, .unset, .unset, .unset, .unset, .unset] [])) tg → Steps p.tables e below (s₁.setTop (entryFrame m #[(.ref a1), (.int p1), (.int p2), (.int p3)] 17)) tg := fun tg kg => castTop (ef_rm8_2 m a1 p1 p2 p3) kg
  have K0 := Keep.refl h0 [a1, r, x1, x2, x3, x4, x5]
  obtain ⟨Fta, Fna, ⟨dpa, Fdpa⟩, ⟨f0a, V0a, q0a⟩, V1a, V2a, V3a, ⟨g4a, V4a⟩, ⟨g5a, V5a⟩⟩ := id ST
  have hxn : own_ix 9 nx := ⟨by omega, by omega⟩
  obtain ⟨pd1, pd2, pd3, pd4, pd5⟩ := own_pd (p1 := p1) (p2 := p2) (by omega)
  have hmd := own_md (p1 := p1) (p2 := p2) (by omega) (by omega) (by omega)
  have hn1 := own_add1 (i := nx) (by omega) (by omega)
  obtain ⟨T750, X750, e750, st750⟩ := getF X0 hx hZ hown (host := "") (Or.inl (wd hw 73 rfl)) Via.refl e0 Fta (g := (mkF m 1 #[vR a1, vI p1, vI p2, vI p3, .unset, .unset, .unset, .unset, .unset, .unset, .unset, .unset, .unset, .unset, .unset, .unset, .unset] [(.ref a1)])) rfl rfl (hb hby d8_1)
  obtain ⟨T751, X751, e751, st751⟩ := getF X750 hx hZ hown (Or.inr (wd hw 81 rfl)) Via.refl e750 Fp (g := (mkF m 4 #[vR a1, vI p1, vI p2, vI p3, .unset, .unset, .unset, .unset, .unset, .unset, .unset, .unset, .unset, .unset, .unset, .unset, .unset] [(.ref t)])) rfl rfl (hb hby d8_4)
  obtain ⟨cq752, kq752, q752a, q752b, q752c⟩ := isOf hZ e751 Ep
  obtain ⟨_, _, ⟨T752, L752, k752, n752⟩, -, X752, ⟨Lc752, hQ752, l752, y752, z752⟩, st752⟩ := X751.virtualBack hx (y := (⟨"com/example/flatfinder/flatfinder/neighbours/Points", "dimensions", "()I"⟩ : MethodName)) (z := (⟨"com/example/flatfinder/flatfinder/neighbours/Points", "dimensions", "()I"⟩ : MethodName)) hown (mvT hZ (wd hw 82 rfl)) (mvT hZ (wd hw 43 rfl)) (notFace_of_selects (args := #[]) (mvT hZ (wd hw 45 rfl))) (mvT hZ (wd hw 45 rfl)) (mvT hZ (wd hw 44 rfl)) (by decide) (backOf (W := 0) (rm6 l Z a0 hw [] pts  h0 n0 Z0 Fd) hZ (wd hw 46 rfl) (wd hw 4 rfl) (by decide) (by decide)) q752a q752c (g := (mkF m 7 #[vR a1, vI p1, vI p2, vI p3, .unset, .unset, .unset, .unset, .unset, .unset, .unset, .unset, .unset, .unset, .unset, .unset, .unset] [(.ref pts)])) rfl (by rw [hml]; rfl) (Steps.refl _) (argsL := []) (rest := []) (lenOf pd___I rfl) rfl (by show 2 * 0 + _ ≤ _; exact Nat.le_of_eq rfl) (hb hby d8_7) (fun _ _ => ⟨rfl, e751, (by decide : 0 + 0 ≤ _), (by decide : 0 + 0 ≤ _)⟩)
  dsimp only [Pt.U, Pt.locs, Pt.cells, Pt.slots] at X752 l752 y752 z752 st752 hQ752
  subst l752 y752 z752
  obtain ⟨rfl, N752q, e752⟩ := hQ752
  have N753 := Fr.app N0 N752q
  obtain ⟨T754, X754, e754, st754⟩ := getF X752 hx hZ hown (host := "") (Or.inl (wd hw 83 rfl)) Via.refl e752 Fna (g := (mkF m 14 #[vR a1, vI p1, vI p2, vI p3, vI 1, .unset, .unset, .unset, .unset, .unset, .unset, .unset, .unset, .unset, .unset, .unset, .unset] [(.ref a1), (.ref a1)])) rfl rfl (hb hby d8_14)
  obtain ⟨T755, h755, X755, e755, W755, st755⟩ := putF X754 hx hZ hown (host := "") (Or.inl (wd hw 83 rfl)) Via.refl e754 Fna Eb (Or.inl (wd hw 84 rfl)) (wd hw 68 rfl) (ty := .int) (by decide) rfl rfl (g := (mkF m 20 #[vR a1, vI p1, vI p2, vI p3, vI 1, .unset, .unset, .unset, .unset, .unset, .unset, .unset, .unset, .unset, .unset, .unset, .unset] [(.int (nx + (1 : Int32))), (.ref a1), (.int nx)])) rfl rfl (hb hby d8_20)
  have f756 := Fna.same W755
  have f757 := Eb.wr W755
  have f758 := Fp.other W755 (Or.inl (Ne.symm (own_nd hnd 0 1 (by decide) rfl rfl)))
  have f759 := Frw.other W755 (Or.inl (Ne.symm (own_nd hnd 0 1 (by decide) rfl rfl)))
  have f760 := Ep.wr W755
  have f761 := Fs.other W755 (Or.inl (Ne.symm (own_nd hnd 0 2 (by decide) rfl rfl)))
  have f762 := Fd.other W755 (Or.inl (Ne.symm (own_nd hnd 0 2 (by decide) rfl rfl)))
  have f763 := Fc.other W755 (Or.inl (Ne.symm (own_nd hnd 0 2 (by decide) rfl rfl)))
  have f764 := Vc.other W755 (Ne.symm (own_nd hnd 0 3 (by decide) rfl rfl))
  have f765 := Fta.other W755 (Or.inr (slot_ne (Or.inr (wd hw 74 rfl)) (Or.inl (wd hw 84 rfl)) (by decide) (t := (.object "com/example/flatfinder/flatfinder/neighbours/KdTree")) (t' := .int) (by decide) (by decide)))
  have f766 := Fdpa.other W755 (Or.inr (slot_ne (Or.inl (wd hw 86 rfl)) (Or.inl (wd hw 84 rfl)) (by decide) (t := .int) (t' := .int) (by decide) (by decide)))
  have f767 := V0a.other W755 (Ne.symm (own_nd hnd 0 4 (by decide) rfl rfl))
  have f768 := V1a.other W755 (Ne.symm (own_nd hnd 0 5 (by decide) rfl rfl))
  have f769 := V2a.other W755 (Ne.symm (own_nd hnd 0 6 (by decide) rfl rfl))
  have f770 := V3a.other W755 (Ne.symm (own_nd hnd 0 7 (by decide) rfl rfl))
  have f771 := V4a.other W755 (Ne.symm (own_nd hnd 0 8 (by decide) rfl rfl))
  have f772 := V5a.other W755 (Ne.symm (own_nd hnd 0 9 (by decide) rfl rfl))
  have f773 := Gf.other W755 (Or.inl (Ne.symm (own_nd hnd 0 1 (by decide) rfl rfl)))
  have f774 := Ge.other W755 (Or.inl (Ne.symm (own_nd hnd 0 1 (by decide) rfl rfl)))
  have f775 := Gu.other W755 (Or.inl (Ne.symm (own_nd hnd 0 1 (by decide) rfl rfl)))
  have f776 := Gl.other W755 (Or.inl (Ne.symm (own_nd hnd 0 1 (by decide) rfl rfl)))
  have f777 := Gh.other W755 (Or.inl (Ne.symm (own_nd hnd 0 1 (by decide) rfl rfl)))
  have Zn778 := Nat.le_trans Z0 (Keep.of_wr W755).1
  have N779 := Fr.snoc X755 N753 (hge a1 (List.mem_of_getElem? (i := 0) rfl))
  have K780 := K0.wr W755 (Or.inl (List.mem_of_getElem? (i := 0) rfl))
  obtain ⟨T781, X781, e781, st781⟩ := getF X755 hx hZ hown (host := "") (Or.inl (wd hw 85 rfl)) Via.refl e755 f766 (g := (mkF m 27 #[vR a1, vI p1, vI p2, vI p3, vI 1, vI nx, .unset, .unset, .unset, .unset, .unset, .unset, .unset, .unset, .unset, .unset, .unset] [(.ref a1), (.ref a1)])) rfl rfl (hb hby d8_27)
  obtain ⟨_, _, ⟨T782, L782, k782, n782⟩, -, X782, ⟨Lc782, hQ782, l782, y782, z782⟩, st782⟩ := Jvm.LawKit.callS X781 hx (y := (⟨"java/lang/Math", "max", "(II)I"⟩ : MethodName)) hown (mvT hZ (wd hw 87 rfl)) (mvT hZ (wd hw 88 rfl)) (mvT hZ (wd hw 17 rfl)) (mvT hZ (wd hw 89 rfl)) (by decide) (backOf (W := 1) (rm9 l Z a0 hw [] dpa p3  h755 n0 Zn778 ) hZ (wd hw 89 rfl) (wd hw 17 rfl) (by decide) (by decide)) (g := (mkF m 31 #[vR a1, vI p1, vI p2, vI p3, vI 1, vI nx, .unset, .unset, .unset, .unset, .unset, .unset, .unset, .unset, .unset, .unset, .unset] [(.int p3), (.int dpa), (.ref a1)])) rfl (by rw [hml]; rfl) (argsL := [(.int dpa), (.int p3)]) (rest := [(.ref a1)]) (lenOf pd__II_I rfl) rfl (by show 2 * 0 + _ ≤ _; exact Nat.le_of_eq rfl) (hb hby d8_31) (fun _ _ => ⟨rfl, e781, (by decide : 0 + 0 ≤ _), (by decide : 0 + 0 ≤ _)⟩)
  dsimp only [Pt.U, Pt.locs, Pt.cells, Pt.slots] at X782 l782 y782 z782 st782 hQ782
  subst l782 y782 z782
  obtain ⟨rfl, N782q, e782⟩ := hQ782
  have N783 := Fr.app N779 N782q
  obtain ⟨T784, h784, X784, e784, W784, st784⟩ := putF X782 hx hZ hown (host := "") (Or.inl (wd hw 85 rfl)) Via.refl e782 f766 f757 (Or.inl (wd hw 86 rfl)) (wd hw 68 rfl) (ty := .int) (by decide) rfl rfl (g := (mkF m 34 #[vR a1, vI p1, vI p2, vI p3, vI 1, vI nx, .unset, .unset, .unset, .unset, .unset, .unset, .unset, .unset, .unset, .unset, .unset] [(.int (own_max dpa p3)), (.ref a1)])) rfl rfl (hb hby d8_34)
  have f785 := f766.same W784
  have f786 := f757.wr W784
  have f787 := f758.other W784 (Or.inl (Ne.symm (own_nd hnd 0 1 (by decide) rfl rfl)))
  have f788 := f759.other W784 (Or.inl (Ne.symm (own_nd hnd 0 1 (by decide) rfl rfl)))
  have f789 := f760.wr W784
  have f790 := f761.other W784 (Or.inl (Ne.symm (own_nd hnd 0 2 (by decide) rfl rfl)))
  have f791 := f762.other W784 (Or.inl (Ne.symm (own_nd hnd 0 2 (by decide) rfl rfl)))
  have f792 := f763.other W784 (Or.inl (Ne.symm (own_nd hnd 0 2 (by decide) rfl rfl)))
  have f793 := f764.other W784 (Ne.symm (own_nd hnd 0 3 (by decide) rfl rfl))
  have f794 := f765.other W784 (Or.inr (slot_ne (Or.inr (wd hw 74 rfl)) (Or.inl (wd hw 86 rfl)) (by decide) (t := (.object "com/example/flatfinder/flatfinder/neighbours/KdTree")) (t' := .int) (by decide) (by decide)))
  have f795 := f767.other W784 (Ne.symm (own_nd hnd 0 4 (by decide) rfl rfl))
  have f796 := f768.other W784 (Ne.symm (own_nd hnd 0 5 (by decide) rfl rfl))
  have f797 := f769.other W784 (Ne.symm (own_nd hnd 0 6 (by decide) rfl rfl))
  have f798 := f770.other W784 (Ne.symm (own_nd hnd 0 7 (by decide) rfl rfl))
  have f799 := f771.other W784 (Ne.symm (own_nd hnd 0 8 (by decide) rfl rfl))
  have f800 := f772.other W784 (Ne.symm (own_nd hnd 0 9 (by decide) rfl rfl))
  have f801 := f773.other W784 (Or.inl (Ne.symm (own_nd hnd 0 1 (by decide) rfl rfl)))
  have f802 := f774.other W784 (Or.inl (Ne.symm (own_nd hnd 0 1 (by decide) rfl rfl)))
  have f803 := f775.other W784 (Or.inl (Ne.symm (own_nd hnd 0 1 (by decide) rfl rfl)))
  have f804 := f776.other W784 (Or.inl (Ne.symm (own_nd hnd 0 1 (by decide) rfl rfl)))
  have f805 := f777.other W784 (Or.inl (Ne.symm (own_nd hnd 0 1 (by decide) rfl rfl)))
  have f806 := f756.other W784 (Or.inr (slot_ne (Or.inl (wd hw 84 rfl)) (Or.inl (wd hw 86 rfl)) (by decide) (t := .int) (t' := .int) (by decide) (by decide)))
  have Zn807 := Nat.le_trans Zn778 (Keep.of_wr W784).1
  have N808 := Fr.snoc X784 N783 (hge a1 (List.mem_of_getElem? (i := 0) rfl))
  have K809 := K780.wr W784 (Or.inl (List.mem_of_getElem? (i := 0) rfl))
  obtain ⟨T810, X810, e810, st810⟩ := getF X784 hx hZ hown (host := "") (Or.inl (wd hw 73 rfl)) Via.refl e784 f794 (g := (mkF m 38 #[vR a1, vI p1, vI p2, vI p3, vI 1, vI nx, .unset, .unset, .unset, .unset, .unset, .unset, .unset, .unset, .unset, .unset, .unset] [(.ref a1)])) rfl rfl (hb hby d8_38)
  obtain ⟨T811, X811, e811, st811⟩ := getF X810 hx hZ hown (Or.inr (wd hw 90 rfl)) Via.refl e810 f801 (g := (mkF m 41 #[vR a1, vI p1, vI p2, vI p3, vI 1, vI nx, .unset, .unset, .unset, .unset, .unset, .unset, .unset, .unset, .unset, .unset, .unset] [(.ref t)])) rfl rfl (hb hby d8_41)
  obtain ⟨T812, h812, X812, e812, W812, st812⟩ := own_sI X811 hx hZ e811 f796 (j := nx) hxn (f := (mkF m 47 #[vR a1, vI p1, vI p2, vI p3, vI 1, vI nx, .unset, .unset, .unset, .unset, .unset, .unset, .unset, .unset, .unset, .unset, .unset] [(.int p1), (.int nx), (.ref x1)])) rfl rfl (hb hby d8_47)
  have f813 : own_V Z h812 x1 .int 9 (fun ii => .int ((own_up fF (nx).toNatClampNeg p1) ii)) := own_V.setI f796 W812
  have f814 := f786.wr W812
  have f815 := f787.other W812 (Or.inl (own_nd hnd 1 5 (by decide) rfl rfl))
  have f816 := f788.other W812 (Or.inl (own_nd hnd 1 5 (by decide) rfl rfl))
  have f817 := f789.wr W812
  have f818 := f790.other W812 (Or.inl (own_nd hnd 2 5 (by decide) rfl rfl))
  have f819 := f791.other W812 (Or.inl (own_nd hnd 2 5 (by decide) rfl rfl))
  have f820 := f792.other W812 (Or.inl (own_nd hnd 2 5 (by decide) rfl rfl))
  have f821 := f793.other W812 (own_nd hnd 3 5 (by decide) rfl rfl)
  have f822 := f794.other W812 (Or.inl (own_nd hnd 0 5 (by decide) rfl rfl))
  have f823 := f795.other W812 (own_nd hnd 4 5 (by decide) rfl rfl)
  have f824 := f797.other W812 (Ne.symm (own_nd hnd 5 6 (by decide) rfl rfl))
  have f825 := f798.other W812 (Ne.symm (own_nd hnd 5 7 (by decide) rfl rfl))
  have f826 := f799.other W812 (Ne.symm (own_nd hnd 5 8 (by decide) rfl rfl))
  have f827 := f800.other W812 (Ne.symm (own_nd hnd 5 9 (by decide) rfl rfl))
  have f828 := f801.other W812 (Or.inl (own_nd hnd 1 5 (by decide) rfl rfl))
  have f829 := f802.other W812 (Or.inl (own_nd hnd 1 5 (by decide) rfl rfl))
  have f830 := f803.other W812 (Or.inl (own_nd hnd 1 5 (by decide) rfl rfl))
  have f831 := f804.other W812 (Or.inl (own_nd hnd 1 5 (by decide) rfl rfl))
  have f832 := f805.other W812 (Or.inl (own_nd hnd 1 5 (by decide) rfl rfl))
  have f833 := f806.other W812 (Or.inl (own_nd hnd 0 5 (by decide) rfl rfl))
  have f834 := f785.other W812 (Or.inl (own_nd hnd 0 5 (by decide) rfl rfl))
  have Zn835 := Nat.le_trans Zn807 (Keep.of_wr W812).1
  have N836 := Fr.snoc X812 N808 (hge x1 (List.mem_of_getElem? (i := 2) rfl))
  have K837 := K809.wr W812 (Or.inl (List.mem_of_getElem? (i := 2) rfl))
  obtain ⟨T838, X838, e838, st838⟩ := getF X812 hx hZ hown (host := "") (Or.inl (wd hw 73 rfl)) Via.refl e812 f822 (g := (mkF m 49 #[vR a1, vI p1, vI p2, vI p3, vI 1, vI nx, .unset, .unset, .unset, .unset, .unset, .unset, .unset, .unset, .unset, .unset, .unset] [(.ref a1)])) rfl rfl (hb hby d8_49)
  obtain ⟨T839, X839, e839, st839⟩ := getF X838 hx hZ hown (Or.inr (wd hw 91 rfl)) Via.refl e838 f829 (g := (mkF m 52 #[vR a1, vI p1, vI p2, vI p3, vI 1, vI nx, .unset, .unset, .unset, .unset, .unset, .unset, .unset, .unset, .unset, .unset, .unset] [(.ref t)])) rfl rfl (hb hby d8_52)
  obtain ⟨T840, h840, X840, e840, W840, st840⟩ := own_sI X839 hx hZ e839 f824 (j := nx) hxn (f := (mkF m 58 #[vR a1, vI p1, vI p2, vI p3, vI 1, vI nx, .unset, .unset, .unset, .unset, .unset, .unset, .unset, .unset, .unset, .unset, .unset] [(.int p2), (.int nx), (.ref x2)])) rfl rfl (hb hby d8_58)
  have f841 : own_V Z h840 x2 .int 9 (fun ii => .int ((own_up fE (nx).toNatClampNeg p2) ii)) := own_V.setI f824 W840
  have f842 := f814.wr W840
  have f843 := f815.other W840 (Or.inl (own_nd hnd 1 6 (by decide) rfl rfl))
  have f844 := f816.other W840 (Or.inl (own_nd hnd 1 6 (by decide) rfl rfl))
  have f845 := f817.wr W840
  have f846 := f818.other W840 (Or.inl (own_nd hnd 2 6 (by decide) rfl rfl))
  have f847 := f819.other W840 (Or.inl (own_nd hnd 2 6 (by decide) rfl rfl))
  have f848 := f820.other W840 (Or.inl (own_nd hnd 2 6 (by decide) rfl rfl))
  have f849 := f821.other W840 (own_nd hnd 3 6 (by decide) rfl rfl)
  have f850 := f822.other W840 (Or.inl (own_nd hnd 0 6 (by decide) rfl rfl))
  have f851 := f823.other W840 (own_nd hnd 4 6 (by decide) rfl rfl)
  have f852 := f825.other W840 (Ne.symm (own_nd hnd 6 7 (by decide) rfl rfl))
  have f853 := f826.other W840 (Ne.symm (own_nd hnd 6 8 (by decide) rfl rfl))
  have f854 := f827.other W840 (Ne.symm (own_nd hnd 6 9 (by decide) rfl rfl))
  have f855 := f828.other W840 (Or.inl (own_nd hnd 1 6 (by decide) rfl rfl))
  have f856 := f829.other W840 (Or.inl (own_nd hnd 1 6 (by decide) rfl rfl))
  have f857 := f830.other W840 (Or.inl (own_nd hnd 1 6 (by decide) rfl rfl))
  have f858 := f831.other W840 (Or.inl (own_nd hnd 1 6 (by decide) rfl rfl))
  have f859 := f832.other W840 (Or.inl (own_nd hnd 1 6 (by decide) rfl rfl))
  have f860 := f833.other W840 (Or.inl (own_nd hnd 0 6 (by decide) rfl rfl))
  have f861 := f834.other W840 (Or.inl (own_nd hnd 0 6 (by decide) rfl rfl))
  have f862 := f813.other W840 (own_nd hnd 5 6 (by decide) rfl rfl)
  have Zn863 := Nat.le_trans Zn835 (Keep.of_wr W840).1
  have N864 := Fr.snoc X840 N836 (hge x2 (List.mem_of_getElem? (i := 3) rfl))
  have K865 := K837.wr W840 (Or.inl (List.mem_of_getElem? (i := 3) rfl))
  obtain ⟨T866, X866, e866, st866⟩ := getF X840 hx hZ hown (host := "") (Or.inl (wd hw 73 rfl)) Via.refl e840 f850 (g := (mkF m 60 #[vR a1, vI p1, vI p2, vI p3, vI 1, vI nx, .unset, .unset, .unset, .unset, .unset, .unset, .unset, .unset, .unset, .unset, .unset] [(.ref a1)])) rfl rfl (hb hby d8_60)
  obtain ⟨T867, X867, e867, st867⟩ := getF X866 hx hZ hown (Or.inr (wd hw 92 rfl)) Via.refl e866 f857 (g := (mkF m 63 #[vR a1, vI p1, vI p2, vI p3, vI 1, vI nx, .unset, .unset, .unset, .unset, .unset, .unset, .unset, .unset, .unset, .unset, .unset] [(.ref t)])) rfl rfl (hb hby d8_63)
  obtain ⟨T868, h868, X868, e868, W868, st868⟩ := own_sI X867 hx hZ e867 f852 (j := nx) hxn (f := (mkF m 69 #[vR a1, vI p1, vI p2, vI p3, vI 1, vI nx, .unset, .unset, .unset, .unset, .unset, .unset, .unset, .unset, .unset, .unset, .unset] [(.int (-1 : Int32)), (.int nx), (.ref x3)])) rfl rfl (hb hby d8_69)
  have f869 : own_V Z h868 x3 .int 9 (fun ii => .int ((own_up fU (nx).toNatClampNeg (-1 : Int32)) ii)) := own_V.setI f852 W868
  have f870 := f842.wr W868
  have f871 := f843.other W868 (Or.inl (own_nd hnd 1 7 (by decide) rfl rfl))
  have f872 := f844.other W868 (Or.inl (own_nd hnd 1 7 (by decide) rfl rfl))
  have f873 := f845.wr W868
  have f874 := f846.other W868 (Or.inl (own_nd hnd 2 7 (by decide) rfl rfl))
  have f875 := f847.other W868 (Or.inl (own_nd hnd 2 7 (by decide) rfl rfl))
  have f876 := f848.other W868 (Or.inl (own_nd hnd 2 7 (by decide) rfl rfl))
  have f877 := f849.other W868 (own_nd hnd 3 7 (by decide) rfl rfl)
  have f878 := f850.other W868 (Or.inl (own_nd hnd 0 7 (by decide) rfl rfl))
  have f879 := f851.other W868 (own_nd hnd 4 7 (by decide) rfl rfl)
  have f880 := f853.other W868 (Ne.symm (own_nd hnd 7 8 (by decide) rfl rfl))
  have f881 := f854.other W868 (Ne.symm (own_nd hnd 7 9 (by decide) rfl rfl))
  have f882 := f855.other W868 (Or.inl (own_nd hnd 1 7 (by decide) rfl rfl))
  have f883 := f856.other W868 (Or.inl (own_nd hnd 1 7 (by decide) rfl rfl))
  have f884 := f857.other W868 (Or.inl (own_nd hnd 1 7 (by decide) rfl rfl))
  have f885 := f858.other W868 (Or.inl (own_nd hnd 1 7 (by decide) rfl rfl))
  have f886 := f859.other W868 (Or.inl (own_nd hnd 1 7 (by decide) rfl rfl))
  have f887 := f860.other W868 (Or.inl (own_nd hnd 0 7 (by decide) rfl rfl))
  have f888 := f861.other W868 (Or.inl (own_nd hnd 0 7 (by decide) rfl rfl))
  have f889 := f862.other W868 (own_nd hnd 5 7 (by decide) rfl rfl)
  have f890 := f841.other W868 (own_nd hnd 6 7 (by decide) rfl rfl)
  have Zn891 := Nat.le_trans Zn863 (Keep.of_wr W868).1
  have N892 := Fr.snoc X868 N864 (hge x3 (List.mem_of_getElem? (i := 4) rfl))
  have K893 := K865.wr W868 (Or.inl (List.mem_of_getElem? (i := 4) rfl))
  obtain ⟨T894, lo894, lo_894, hi_894, i_894, u_894, v_894,  X894, N894, e894, fl894, fh894, st894⟩ := loopL2 hw hx hZ hby hml hown a1 t pts co r gc Fg f0a q0a p1 p2 p3 nx (by omega) 67 (9218868437227405312 : UInt64) (18442240474082181120 : UInt64) p1 .unset .unset T868 h868 _ X868 e868 N892 Zn891 own_Two.u (by omega) (Or.inl ⟨rfl, rfl⟩) (Or.inl ⟨rfl, rfl⟩) f870 f878 f871 f872 f873 f874 f875 f876 f877 f879 (by omega)
  obtain ⟨T895, X895, e895, st895⟩ := getF X894 hx hZ hown (host := "") (Or.inl (wd hw 73 rfl)) Via.refl e894 f878 (g := (mkF m 154 #[vR a1, vI p1, vI p2, vI p3, vI 1, vI nx, vI 0, vD 0, .second, vI 0, vD lo_894, .second, vD hi_894, .second, vI i_894, u_894, v_894] [(.ref a1)])) rfl rfl (hb hby d8_154)
  obtain ⟨T896, X896, e896, st896⟩ := getF X895 hx hZ hown (Or.inr (wd hw 115 rfl)) Via.refl e895 f885 (g := (mkF m 157 #[vR a1, vI p1, vI p2, vI p3, vI 1, vI nx, vI 0, vD 0, .second, vI 0, vD lo_894, .second, vD hi_894, .second, vI i_894, u_894, v_894] [(.ref t)])) rfl rfl (hb hby d8_157)
  obtain ⟨T897, h897, X897, e897, W897, st897⟩ := own_sD X896 hx hZ e896 f880 (j := nx) hxn (f := (mkF m 170 #[vR a1, vI p1, vI p2, vI p3, vI 1, vI nx, vI 0, vD 0, .second, vI 0, vD lo_894, .second, vD hi_894, .second, vI i_894, u_894, v_894] [(.double lo_894), (.int nx), (.ref x4)])) rfl rfl (hb hby d8_170)
  have f898 : own_V Z h897 x4 .double 9 (fun ii => .double ((own_up g4a (nx).toNatClampNeg lo_894) ii)) := own_V.setD f880 W897
  have f899 := f870.wr W897
  have f900 := f871.other W897 (Or.inl (own_nd hnd 1 8 (by decide) rfl rfl))
  have f901 := f872.other W897 (Or.inl (own_nd hnd 1 8 (by decide) rfl rfl))
  have f902 := f873.wr W897
  have f903 := f874.other W897 (Or.inl (own_nd hnd 2 8 (by decide) rfl rfl))
  have f904 := f875.other W897 (Or.inl (own_nd hnd 2 8 (by decide) rfl rfl))
  have f905 := f876.other W897 (Or.inl (own_nd hnd 2 8 (by decide) rfl rfl))
  have f906 := f877.other W897 (own_nd hnd 3 8 (by decide) rfl rfl)
  have f907 := f878.other W897 (Or.inl (own_nd hnd 0 8 (by decide) rfl rfl))
  have f908 := f879.other W897 (own_nd hnd 4 8 (by decide) rfl rfl)
  have f909 := f881.other W897 (Ne.symm (own_nd hnd 8 9 (by decide) rfl rfl))
  have f910 := f882.other W897 (Or.inl (own_nd hnd 1 8 (by decide) rfl rfl))
  have f911 := f883.other W897 (Or.inl (own_nd hnd 1 8 (by decide) rfl rfl))
  have f912 := f884.other W897 (Or.inl (own_nd hnd 1 8 (by decide) rfl rfl))
  have f913 := f885.other W897 (Or.inl (own_nd hnd 1 8 (by decide) rfl rfl))
  have f914 := f886.other W897 (Or.inl (own_nd hnd 1 8 (by decide) rfl rfl))
  have f915 := f887.other W897 (Or.inl (own_nd hnd 0 8 (by decide) rfl rfl))
  have f916 := f888.other W897 (Or.inl (own_nd hnd 0 8 (by decide) rfl rfl))
  have f917 := f889.other W897 (own_nd hnd 5 8 (by decide) rfl rfl)
  have f918 := f890.other W897 (own_nd hnd 6 8 (by decide) rfl rfl)
  have f919 := f869.other W897 (own_nd hnd 7 8 (by decide) rfl rfl)
  have Zn920 := Nat.le_trans Zn891 (Keep.of_wr W897).1
  have N921 := Fr.snoc X897 N894 (hge x4 (List.mem_of_getElem? (i := 5) rfl))
  have K922 := K893.wr W897 (Or.inl (List.mem_of_getElem? (i := 5) rfl))
  obtain ⟨T923, X923, e923, st923⟩ := getF X897 hx hZ hown (host := "") (Or.inl (wd hw 73 rfl)) Via.refl e897 f907 (g := (mkF m 172 #[vR a1, vI p1, vI p2, vI p3, vI 1, vI nx, vI 0, vD 0, .second, vI 0, vD lo_894, .second, vD hi_894, .second, vI i_894, u_894, v_894] [(.ref a1)])) rfl rfl (hb hby d8_172)
  obtain ⟨T924, X924, e924, st924⟩ := getF X923 hx hZ hown (Or.inr (wd hw 116 rfl)) Via.refl e923 f914 (g := (mkF m 175 #[vR a1, vI p1, vI p2, vI p3, vI 1, vI nx, vI 0, vD 0, .second, vI 0, vD lo_894, .second, vD hi_894, .second, vI i_894, u_894, v_894] [(.ref t)])) rfl rfl (hb hby d8_175)
  obtain ⟨T925, h925, X925, e925, W925, st925⟩ := own_sD X924 hx hZ e924 f909 (j := nx) hxn (f := (mkF m 188 #[vR a1, vI p1, vI p2, vI p3, vI 1, vI nx, vI 0, vD 0, .second, vI 0, vD lo_894, .second, vD hi_894, .second, vI i_894, u_894, v_894] [(.double hi_894), (.int nx), (.ref x5)])) rfl rfl (hb hby d8_188)
  have f926 : own_V Z h925 x5 .double 9 (fun ii => .double ((own_up g5a (nx).toNatClampNeg hi_894) ii)) := own_V.setD f909 W925
  have f927 := f899.wr W925
  have f928 := f900.other W925 (Or.inl (own_nd hnd 1 9 (by decide) rfl rfl))
  have f929 := f901.other W925 (Or.inl (own_nd hnd 1 9 (by decide) rfl rfl))
  have f930 := f902.wr W925
  have f931 := f903.other W925 (Or.inl (own_nd hnd 2 9 (by decide) rfl rfl))
  have f932 := f904.other W925 (Or.inl (own_nd hnd 2 9 (by decide) rfl rfl))
  have f933 := f905.other W925 (Or.inl (own_nd hnd 2 9 (by decide) rfl rfl))
  have f934 := f906.other W925 (own_nd hnd 3 9 (by decide) rfl rfl)
  have f935 := f907.other W925 (Or.inl (own_nd hnd 0 9 (by decide) rfl rfl))
  have f936 := f908.other W925 (own_nd hnd 4 9 (by decide) rfl rfl)
  have f937 := f910.other W925 (Or.inl (own_nd hnd 1 9 (by decide) rfl rfl))
  have f938 := f911.other W925 (Or.inl (own_nd hnd 1 9 (by decide) rfl rfl))
  have f939 := f912.other W925 (Or.inl (own_nd hnd 1 9 (by decide) rfl rfl))
  have f940 := f913.other W925 (Or.inl (own_nd hnd 1 9 (by decide) rfl rfl))
  have f941 := f914.other W925 (Or.inl (own_nd hnd 1 9 (by decide) rfl rfl))
  have f942 := f915.other W925 (Or.inl (own_nd hnd 0 9 (by decide) rfl rfl))
  have f943 := f916.other W925 (Or.inl (own_nd hnd 0 9 (by decide) rfl rfl))
  have f944 := f917.other W925 (own_nd hnd 5 9 (by decide) rfl rfl)
  have f945 := f918.other W925 (own_nd hnd 6 9 (by decide) rfl rfl)
  have f946 := f919.other W925 (own_nd hnd 7 9 (by decide) rfl rfl)
  have f947 := f898.other W925 (own_nd hnd 8 9 (by decide) rfl rfl)
  have Zn948 := Nat.le_trans Zn920 (Keep.of_wr W925).1
  have N949 := Fr.snoc X925 N921 (hge x5 (List.mem_of_getElem? (i := 6) rfl))
  have K950 := K922.wr W925 (Or.inl (List.mem_of_getElem? (i := 6) rfl))
  obtain ⟨cw, hcw⟩ : ∃ z, cmpValue (FP.dcmp (FP.dsub hi_894 lo_894) (0 : UInt64)) .l = z := ⟨_, rfl⟩
  obtain ⟨v952, hv952⟩ : ∃ v : UInt64, v = if (0 : Int32) < cw then (FP.dsub hi_894 lo_894) else (0 : UInt64) := ⟨_, rfl⟩
  by_cases hA : (32 : Int32) < (p2 - p1)
  · have hA' := own_gt32 pd1 hA
    obtain ⟨cx, hcx⟩ : ∃ z, cmpValue (FP.dcmp v952 (0 : UInt64)) .l = z := ⟨_, rfl⟩
    by_cases hB : (0 : Int32) < cx
    · obtain ⟨cq953, q953, q953'⟩ := f927.cell
      obtain ⟨_, _, ⟨T953, L953, k953, n953⟩, -, X953, ⟨Lc953, hQ953, l953, y953, z953⟩, st953⟩ := X925.privateBack hx (y := (⟨"com/example/flatfinder/flatfinder/neighbours/KdTree$Builder", "partition", "(IIII)V"⟩ : MethodName)) hown (mvT hZ (wd hw 165 rfl)) (mvT hZ (wd hw 166 rfl)) (own_selSelf (mvT hZ (wd hw 68 rfl)) (Cond.privateMethod_at (mvP hZ (wd hw 167 rfl) (args := #[]))) (mvT hZ (wd hw 166 rfl)) (by decide)) (Cond.privateMethod_at (mvP hZ (wd hw 167 rfl) (args := #[]))) (mvT hZ (wd hw 168 rfl)) (by decide) (backOf (W := 0) (rm22 l Z a0 hw [] a1 p1 p2 (own_half (p1 + p2)) t pts co r gc h925 n0 Zn948 f927 f935 f928 f929 f930 f931 f932 f933 f934 Fg ⟨_, f936, q0a⟩ (by omega) (hge r (List.mem_of_getElem? (i := 1) rfl)) (own_nd hnd 0 4 (by decide) rfl rfl) (own_nd hnd 1 4 (by decide) rfl rfl) (own_nd hnd 2 4 (by decide) rfl rfl) (own_nd hnd 3 4 (by decide) rfl rfl)) hZ (wd hw 168 rfl) (wd hw 69 rfl) (by decide) (by decide)) (g := (mkF m 246 #[vR a1, vI p1, vI p2, vI p3, vI 1, vI nx, vI 0, vD v952, .second, vI (own_half (p1 + p2)), vD lo_894, .second, vD hi_894, .second, vI i_894, u_894, v_894] [(.int (0 : Int32)), (.int (own_half (p1 + p2))), (.int p2), (.int p1), (.ref a1)])) rfl (by rw [hml]; rfl) (Steps.refl _) (a := a1) (by rw [e925]; exact q953) q953' (argsL := [(.int p1), (.int p2), (.int (own_half (p1 + p2))), (.int (0 : Int32))]) (rest := []) (lenOf pd__IIII_V rfl) rfl (by show 2 * 0 + _ ≤ _; exact Nat.le_of_eq rfl) (hb hby d8_246) (fun _ _ => ⟨rfl, e925, (by decide : 0 + 1 ≤ _), (by decide : 0 + 66 ≤ _)⟩)
      dsimp only [Pt.U, Pt.locs, Pt.cells, Pt.slots] at X953 l953 y953 z953 st953 hQ953
      subst l953 y953 z953
      obtain ⟨rfl, N953q, K953, R953⟩ := hQ953
      have N954 := Fr.app N949 N953q
      have f955 := f927.keep K953
      have f956 := f928.keep K953 (ninS (own_nd hnd 1 4 (by decide) rfl rfl) nin0)
      have f957 := f929.keep K953 (ninS (own_nd hnd 1 4 (by decide) rfl rfl) nin0)
      have f958 := f930.keep K953
      have f959 := f931.keep K953 (ninS (own_nd hnd 2 4 (by decide) rfl rfl) nin0)
      have f960 := f932.keep K953 (ninS (own_nd hnd 2 4 (by decide) rfl rfl) nin0)
      have f961 := f933.keep K953 (ninS (own_nd hnd 2 4 (by decide) rfl rfl) nin0)
      have f962 := f934.keep K953 (ninS (own_nd hnd 3 4 (by decide) rfl rfl) nin0)
      have f963 := f935.keep K953 (ninS (own_nd hnd 0 4 (by decide) rfl rfl) nin0)
      have f964 := f937.keep K953 (ninS (own_nd hnd 1 4 (by decide) rfl rfl) nin0)
      have f965 := f938.keep K953 (ninS (own_nd hnd 1 4 (by decide) rfl rfl) nin0)
      have f966 := f939.keep K953 (ninS (own_nd hnd 1 4 (by decide) rfl rfl) nin0)
      have f967 := f940.keep K953 (ninS (own_nd hnd 1 4 (by decide) rfl rfl) nin0)
      have f968 := f941.keep K953 (ninS (own_nd hnd 1 4 (by decide) rfl rfl) nin0)
      have f969 := f942.keep K953 (ninS (own_nd hnd 0 4 (by decide) rfl rfl) nin0)
      have f970 := f943.keep K953 (ninS (own_nd hnd 0 4 (by decide) rfl rfl) nin0)
      have f971 := f944.keep K953 (ninS (Ne.symm (own_nd hnd 4 5 (by decide) rfl rfl)) nin0)
      have f972 := f945.keep K953 (ninS (Ne.symm (own_nd hnd 4 6 (by decide) rfl rfl)) nin0)
      have f973 := f946.keep K953 (ninS (Ne.symm (own_nd hnd 4 7 (by decide) rfl rfl)) nin0)
      have f974 := f947.keep K953 (ninS (Ne.symm (own_nd hnd 4 8 (by decide) rfl rfl)) nin0)
      have f975 := f926.keep K953 (ninS (Ne.symm (own_nd hnd 4 9 (by decide) rfl rfl)) nin0)
      have Zn976 := Nat.le_trans Zn948 K953.1
      have K977 := K950.trans K953 (allS (Or.inl (List.mem_of_getElem? (i := 1) rfl)) all0)
      obtain ⟨cq978, kq978, q978a, q978b, q978c⟩ := isOf hZ rfl f955
      obtain ⟨_, _, ⟨T978, L978, k978, n978⟩, -, X978, ⟨Lc978, hQ978, l978, y978, z978⟩, st978⟩ := X953.virtualBack hx (y := (⟨"com/example/flatfinder/flatfinder/neighbours/KdTree$Builder", "build", "(III)V"⟩ : MethodName)) (z := (⟨"com/example/flatfinder/flatfinder/neighbours/KdTree$Builder", "build", "(III)V"⟩ : MethodName)) hown (mvT hZ (wd hw 182 rfl)) (mvT hZ (wd hw 77 rfl)) (notFace_of_selects (args := #[]) (mvT hZ (wd hw 79 rfl))) (mvT hZ (wd hw 79 rfl)) (mvT hZ (wd hw 78 rfl)) (by decide) (backOf (W := 0) (rm8_1 l Z a0 hw [] a1 p1 (own_half (p1 + p2)) (p3 + (1 : Int32)) t pts co r x1 x2 x3 x4 x5 gc (nx + (1 : Int32)) (own_up fF (nx).toNatClampNeg p1) (own_up fE (nx).toNatClampNeg p2) (own_up fU (nx).toNatClampNeg (-1 : Int32)) T953.heap n0 Zn976 f955 f963 f956 f957 f958 f959 f960 f961 f962 f964 f965 f966 f967 f968 Fg ⟨f963, f969, ⟨_, f970⟩, R953, f971, f972, f973, ⟨_, f974⟩, ⟨_, f975⟩⟩ (by omega) (by omega) hnd hge) hZ (wd hw 80 rfl) (wd hw 69 rfl) (by decide) (by decide)) q978a q978c (g := (mkF m 256 #[vR a1, vI p1, vI p2, vI p3, vI 1, vI nx, vI 0, vD v952, .second, vI (own_half (p1 + p2)), vD lo_894, .second, vD hi_894, .second, vI i_894, u_894, v_894] [(.int (p3 + (1 : Int32))), (.int (own_half (p1 + p2))), (.int p1), (.ref a1)])) rfl (by rw [hml]; rfl) (Steps.refl _) (argsL := [(.int p1), (.int (own_half (p1 + p2))), (.int (p3 + (1 : Int32)))]) (rest := []) (lenOf pd__III_V rfl) rfl (by show 2 * 0 + _ ≤ _; exact Nat.le_of_eq rfl) (hb hby d8_256) (fun _ _ => ⟨rfl, rfl, (by decide : 1 + 1 ≤ _), (by decide : 66 + 66 ≤ _)⟩)
      dsimp only [Pt.U, Pt.locs, Pt.cells, Pt.slots] at X978 l978 y978 z978 st978 hQ978
      subst l978 y978 z978
      obtain ⟨rfl, N978q, K978, n978', F978', E978', U978', rel978, S978⟩ := hQ978
      have N979 := Fr.app N954 N978q
      have f980 := f955.keep K978
      have f981 := f956.keep K978 (ninS (Ne.symm (own_nd hnd 0 1 (by decide) rfl rfl)) (ninS (own_nd hnd 1 4 (by decide) rfl rfl) (ninS (own_nd hnd 1 5 (by decide) rfl rfl) (ninS (own_nd hnd 1 6 (by decide) rfl rfl) (ninS (own_nd hnd 1 7 (by decide) rfl rfl) (ninS (own_nd hnd 1 8 (by decide) rfl rfl) (ninS (own_nd hnd 1 9 (by decide) rfl rfl) nin0)))))))
      have f982 := f957.keep K978 (ninS (Ne.symm (own_nd hnd 0 1 (by decide) rfl rfl)) (ninS (own_nd hnd 1 4 (by decide) rfl rfl) (ninS (own_nd hnd 1 5 (by decide) rfl rfl) (ninS (own_nd hnd 1 6 (by decide) rfl rfl) (ninS (own_nd hnd 1 7 (by decide) rfl rfl) (ninS (own_nd hnd 1 8 (by decide) rfl rfl) (ninS (own_nd hnd 1 9 (by decide) rfl rfl) nin0)))))))
      have f983 := f958.keep K978
      have f984 := f959.keep K978 (ninS (Ne.symm (own_nd hnd 0 2 (by decide) rfl rfl)) (ninS (own_nd hnd 2 4 (by decide) rfl rfl) (ninS (own_nd hnd 2 5 (by decide) rfl rfl) (ninS (own_nd hnd 2 6 (by decide) rfl rfl) (ninS (own_nd hnd 2 7 (by decide) rfl rfl) (ninS (own_nd hnd 2 8 (by decide) rfl rfl) (ninS (own_nd hnd 2 9 (by decide) rfl rfl) nin0)))))))
      have f985 := f960.keep K978 (ninS (Ne.symm (own_nd hnd 0 2 (by decide) rfl rfl)) (ninS (own_nd hnd 2 4 (by decide) rfl rfl) (ninS (own_nd hnd 2 5 (by decide) rfl rfl) (ninS (own_nd hnd 2 6 (by decide) rfl rfl) (ninS (own_nd hnd 2 7 (by decide) rfl rfl) (ninS (own_nd hnd 2 8 (by decide) rfl rfl) (ninS (own_nd hnd 2 9 (by decide) rfl rfl) nin0)))))))
      have f986 := f961.keep K978 (ninS (Ne.symm (own_nd hnd 0 2 (by decide) rfl rfl)) (ninS (own_nd hnd 2 4 (by decide) rfl rfl) (ninS (own_nd hnd 2 5 (by decide) rfl rfl) (ninS (own_nd hnd 2 6 (by decide) rfl rfl) (ninS (own_nd hnd 2 7 (by decide) rfl rfl) (ninS (own_nd hnd 2 8 (by decide) rfl rfl) (ninS (own_nd hnd 2 9 (by decide) rfl rfl) nin0)))))))
      have f987 := f962.keep K978 (ninS (Ne.symm (own_nd hnd 0 3 (by decide) rfl rfl)) (ninS (own_nd hnd 3 4 (by decide) rfl rfl) (ninS (own_nd hnd 3 5 (by decide) rfl rfl) (ninS (own_nd hnd 3 6 (by decide) rfl rfl) (ninS (own_nd hnd 3 7 (by decide) rfl rfl) (ninS (own_nd hnd 3 8 (by decide) rfl rfl) (ninS (own_nd hnd 3 9 (by decide) rfl rfl) nin0)))))))
      have f988 := f964.keep K978 (ninS (Ne.symm (own_nd hnd 0 1 (by decide) rfl rfl)) (ninS (own_nd hnd 1 4 (by decide) rfl rfl) (ninS (own_nd hnd 1 5 (by decide) rfl rfl) (ninS (own_nd hnd 1 6 (by decide) rfl rfl) (ninS (own_nd hnd 1 7 (by decide) rfl rfl) (ninS (own_nd hnd 1 8 (by decide) rfl rfl) (ninS (own_nd hnd 1 9 (by decide) rfl rfl) nin0)))))))
      have f989 := f965.keep K978 (ninS (Ne.symm (own_nd hnd 0 1 (by decide) rfl rfl)) (ninS (own_nd hnd 1 4 (by decide) rfl rfl) (ninS (own_nd hnd 1 5 (by decide) rfl rfl) (ninS (own_nd hnd 1 6 (by decide) rfl rfl) (ninS (own_nd hnd 1 7 (by decide) rfl rfl) (ninS (own_nd hnd 1 8 (by decide) rfl rfl) (ninS (own_nd hnd 1 9 (by decide) rfl rfl) nin0)))))))
      have f990 := f966.keep K978 (ninS (Ne.symm (own_nd hnd 0 1 (by decide) rfl rfl)) (ninS (own_nd hnd 1 4 (by decide) rfl rfl) (ninS (own_nd hnd 1 5 (by decide) rfl rfl) (ninS (own_nd hnd 1 6 (by decide) rfl rfl) (ninS (own_nd hnd 1 7 (by decide) rfl rfl) (ninS (own_nd hnd 1 8 (by decide) rfl rfl) (ninS (own_nd hnd 1 9 (by decide) rfl rfl) nin0)))))))
      have f991 := f967.keep K978 (ninS (Ne.symm (own_nd hnd 0 1 (by decide) rfl rfl)) (ninS (own_nd hnd 1 4 (by decide) rfl rfl) (ninS (own_nd hnd 1 5 (by decide) rfl rfl) (ninS (own_nd hnd 1 6 (by decide) rfl rfl) (ninS (own_nd hnd 1 7 (by decide) rfl rfl) (ninS (own_nd hnd 1 8 (by decide) rfl rfl) (ninS (own_nd hnd 1 9 (by decide) rfl rfl) nin0)))))))
      have f992 := f968.keep K978 (ninS (Ne.symm (own_nd hnd 0 1 (by decide) rfl rfl)) (ninS (own_nd hnd 1 4 (by decide) rfl rfl) (ninS (own_nd hnd 1 5 (by decide) rfl rfl) (ninS (own_nd hnd 1 6 (by decide) rfl rfl) (ninS (own_nd hnd 1 7 (by decide) rfl rfl) (ninS (own_nd hnd 1 8 (by decide) rfl rfl) (ninS (own_nd hnd 1 9 (by decide) rfl rfl) nin0)))))))
      have Zn993 := Nat.le_trans Zn976 K978.1
      have K994 := K977.trans K978 (allS (Or.inl (List.mem_of_getElem? (i := 0) rfl)) (allS (Or.inl (List.mem_of_getElem? (i := 1) rfl)) (allS (Or.inl (List.mem_of_getElem? (i := 2) rfl)) (allS (Or.inl (List.mem_of_getElem? (i := 3) rfl)) (allS (Or.inl (List.mem_of_getElem? (i := 4) rfl)) (allS (Or.inl (List.mem_of_getElem? (i := 5) rfl)) (allS (Or.inl (List.mem_of_getElem? (i := 6) rfl)) all0)))))))
      obtain ⟨Ftb, Fnb, ⟨dpb, Fdpb⟩, ⟨f0b, V0b, q0b⟩, V1b, V2b, V3b, ⟨g4b, V4b⟩, ⟨g5b, V5b⟩⟩ := id S978
      have hrn := own_rel_n1 rel978 (by omega) (by omega)
      obtain ⟨T995, X995, e995, st995⟩ := getF X978 hx hZ hown (host := "") (Or.inl (wd hw 73 rfl)) Via.refl rfl Ftb (g := (mkF m 260 #[vR a1, vI p1, vI p2, vI p3, vI 1, vI nx, vI 0, vD v952, .second, vI (own_half (p1 + p2)), vD lo_894, .second, vD hi_894, .second, vI i_894, u_894, v_894] [(.ref a1)])) rfl rfl (hb hby d8_260)
      obtain ⟨T996, X996, e996, st996⟩ := getF X995 hx hZ hown (Or.inr (wd hw 92 rfl)) Via.refl e995 f990 (g := (mkF m 263 #[vR a1, vI p1, vI p2, vI p3, vI 1, vI nx, vI 0, vD v952, .second, vI (own_half (p1 + p2)), vD lo_894, .second, vD hi_894, .second, vI i_894, u_894, v_894] [(.ref t)])) rfl rfl (hb hby d8_263)
      obtain ⟨T997, X997, e997, st997⟩ := getF X996 hx hZ hown (host := "") (Or.inl (wd hw 83 rfl)) Via.refl e996 Fnb (g := (mkF m 269 #[vR a1, vI p1, vI p2, vI p3, vI 1, vI nx, vI 0, vD v952, .second, vI (own_half (p1 + p2)), vD lo_894, .second, vD hi_894, .second, vI i_894, u_894, v_894] [(.ref a1), (.int nx), (.ref x3)])) rfl rfl (hb hby d8_269)
      obtain ⟨T998, h998, X998, e998, W998, st998⟩ := own_sI X997 hx hZ e997 V3b (j := nx) hxn (f := (mkF m 272 #[vR a1, vI p1, vI p2, vI p3, vI 1, vI nx, vI 0, vD v952, .second, vI (own_half (p1 + p2)), vD lo_894, .second, vD hi_894, .second, vI i_894, u_894, v_894] [(.int n978'), (.int nx), (.ref x3)])) rfl rfl (hb hby d8_272)
      have f999 : own_V Z h998 x3 .int 9 (fun ii => .int ((own_up U978' (nx).toNatClampNeg n978') ii)) := own_V.setI V3b W998
      have f1000 := f980.wr W998
      have f1001 := f981.other W998 (Or.inl (own_nd hnd 1 7 (by decide) rfl rfl))
      have f1002 := f982.other W998 (Or.inl (own_nd hnd 1 7 (by decide) rfl rfl))
      have f1003 := f983.wr W998
      have f1004 := f984.other W998 (Or.inl (own_nd hnd 2 7 (by decide) rfl rfl))
      have f1005 := f985.other W998 (Or.inl (own_nd hnd 2 7 (by decide) rfl rfl))
      have f1006 := f986.other W998 (Or.inl (own_nd hnd 2 7 (by decide) rfl rfl))
      have f1007 := f987.other W998 (own_nd hnd 3 7 (by decide) rfl rfl)
      have f1008 := f988.other W998 (Or.inl (own_nd hnd 1 7 (by decide) rfl rfl))
      have f1009 := f989.other W998 (Or.inl (own_nd hnd 1 7 (by decide) rfl rfl))
      have f1010 := f990.other W998 (Or.inl (own_nd hnd 1 7 (by decide) rfl rfl))
      have f1011 := f991.other W998 (Or.inl (own_nd hnd 1 7 (by decide) rfl rfl))
      have f1012 := f992.other W998 (Or.inl (own_nd hnd 1 7 (by decide) rfl rfl))
      have f1013 := Ftb.other W998 (Or.inl (own_nd hnd 0 7 (by decide) rfl rfl))
      have f1014 := Fnb.other W998 (Or.inl (own_nd hnd 0 7 (by decide) rfl rfl))
      have f1015 := Fdpb.other W998 (Or.inl (own_nd hnd 0 7 (by decide) rfl rfl))
      have f1016 := V0b.other W998 (own_nd hnd 4 7 (by decide) rfl rfl)
      have f1017 := V1b.other W998 (own_nd hnd 5 7 (by decide) rfl rfl)
      have f1018 := V2b.other W998 (own_nd hnd 6 7 (by decide) rfl rfl)
      have f1019 := V4b.other W998 (Ne.symm (own_nd hnd 7 8 (by decide) rfl rfl))
      have f1020 := V5b.other W998 (Ne.symm (own_nd hnd 7 9 (by decide) rfl rfl))
      have Zn1021 := Nat.le_trans Zn993 (Keep.of_wr W998).1
      have N1022 := Fr.snoc X998 N979 (hge x3 (List.mem_of_getElem? (i := 4) rfl))
      have K1023 := K994.wr W998 (Or.inl (List.mem_of_getElem? (i := 4) rfl))
      obtain ⟨cq1024, kq1024, q1024a, q1024b, q1024c⟩ := isOf hZ e998 f1000
      obtain ⟨_, _, ⟨T1024, L1024, k1024, n1024⟩, -, X1024, ⟨Lc1024, hQ1024, l1024, y1024, z1024⟩, st1024⟩ := X998.virtualBack hx (y := (⟨"com/example/flatfinder/flatfinder/neighbours/KdTree$Builder", "build", "(III)V"⟩ : MethodName)) (z := (⟨"com/example/flatfinder/flatfinder/neighbours/KdTree$Builder", "build", "(III)V"⟩ : MethodName)) hown (mvT hZ (wd hw 182 rfl)) (mvT hZ (wd hw 77 rfl)) (notFace_of_selects (args := #[]) (mvT hZ (wd hw 79 rfl))) (mvT hZ (wd hw 79 rfl)) (mvT hZ (wd hw 78 rfl)) (by decide) (backOf (W := 0) (rm8_1 l Z a0 hw [] a1 (own_half (p1 + p2)) p2 (p3 + (1 : Int32)) t pts co r x1 x2 x3 x4 x5 gc n978' F978' E978' (own_up U978' (nx).toNatClampNeg n978') h998 n0 Zn1021 f1000 f1013 f1001 f1002 f1003 f1004 f1005 f1006 f1007 f1008 f1009 f1010 f1011 f1012 Fg ⟨f1013, f1014, ⟨_, f1015⟩, ⟨_, f1016, q0b⟩, f1017, f1018, f999, ⟨_, f1019⟩, ⟨_, f1020⟩⟩ (by omega) (by omega) hnd hge) hZ (wd hw 80 rfl) (wd hw 69 rfl) (by decide) (by decide)) q1024a q1024c (g := (mkF m 280 #[vR a1, vI p1, vI p2, vI p3, vI 1, vI nx, vI 0, vD v952, .second, vI (own_half (p1 + p2)), vD lo_894, .second, vD hi_894, .second, vI i_894, u_894, v_894] [(.int (p3 + (1 : Int32))), (.int p2), (.int (own_half (p1 + p2))), (.ref a1)])) rfl (by rw [hml]; rfl) (Steps.refl _) (argsL := [(.int (own_half (p1 + p2))), (.int p2), (.int (p3 + (1 : Int32)))]) (rest := []) (lenOf pd__III_V rfl) rfl (by show 2 * 0 + _ ≤ _; exact Nat.le_of_eq rfl) (hb hby d8_280) (fun _ _ => ⟨rfl, e998, (by decide : 2 + 1 ≤ _), (by decide : 132 + 66 ≤ _)⟩)
      dsimp only [Pt.U, Pt.locs, Pt.cells, Pt.slots] at X1024 l1024 y1024 z1024 st1024 hQ1024
      subst l1024 y1024 z1024
      obtain ⟨rfl, N1024q, K1024, n1024', F1024', E1024', U1024', rel1024, S1024⟩ := hQ1024
      have N1025 := Fr.app N1022 N1024q
      have f1026 := f1000.keep K1024
      have f1027 := f1001.keep K1024 (ninS (Ne.symm (own_nd hnd 0 1 (by decide) rfl rfl)) (ninS (own_nd hnd 1 4 (by decide) rfl rfl) (ninS (own_nd hnd 1 5 (by decide) rfl rfl) (ninS (own_nd hnd 1 6 (by decide) rfl rfl) (ninS (own_nd hnd 1 7 (by decide) rfl rfl) (ninS (own_nd hnd 1 8 (by decide) rfl rfl) (ninS (own_nd hnd 1 9 (by decide) rfl rfl) nin0)))))))
      have f1028 := f1002.keep K1024 (ninS (Ne.symm (own_nd hnd 0 1 (by decide) rfl rfl)) (ninS (own_nd hnd 1 4 (by decide) rfl rfl) (ninS (own_nd hnd 1 5 (by decide) rfl rfl) (ninS (own_nd hnd 1 6 (by decide) rfl rfl) (ninS (own_nd hnd 1 7 (by decide) rfl rfl) (ninS (own_nd hnd 1 8 (by decide) rfl rfl) (ninS (own_nd hnd 1 9 (by decide) rfl rfl) nin0)))))))
      have f1029 := f1003.keep K1024
      have f1030 := f1004.keep K1024 (ninS (Ne.symm (own_nd hnd 0 2 (by decide) rfl rfl)) (ninS (own_nd hnd 2 4 (by decide) rfl rfl) (ninS (own_nd hnd 2 5 (by decide) rfl rfl) (ninS (own_nd hnd 2 6 (by decide) rfl rfl) (ninS (own_nd hnd 2 7 (by decide) rfl rfl) (ninS (own_nd hnd 2 8 (by decide) rfl rfl) (ninS (own_nd hnd 2 9 (by decide) rfl rfl) nin0)))))))
      have f1031 := f1005.keep K1024 (ninS (Ne.symm (own_nd hnd 0 2 (by decide) rfl rfl)) (ninS (own_nd hnd 2 4 (by decide) rfl rfl) (ninS (own_nd hnd 2 5 (by decide) rfl rfl) (ninS (own_nd hnd 2 6 (by decide) rfl rfl) (ninS (own_nd hnd 2 7 (by decide) rfl rfl) (ninS (own_nd hnd 2 8 (by decide) rfl rfl) (ninS (own_nd hnd 2 9 (by decide) rfl rfl) nin0)))))))
      have f1032 := f1006.keep K1024 (ninS (Ne.symm (own_nd hnd 0 2 (by decide) rfl rfl)) (ninS (own_nd hnd 2 4 (by decide) rfl rfl) (ninS (own_nd hnd 2 5 (by decide) rfl rfl) (ninS (own_nd hnd 2 6 (by decide) rfl rfl) (ninS (own_nd hnd 2 7 (by decide) rfl rfl) (ninS (own_nd hnd 2 8 (by decide) rfl rfl) (ninS (own_nd hnd 2 9 (by decide) rfl rfl) nin0)))))))
      have f1033 := f1007.keep K1024 (ninS (Ne.symm (own_nd hnd 0 3 (by decide) rfl rfl)) (ninS (own_nd hnd 3 4 (by decide) rfl rfl) (ninS (own_nd hnd 3 5 (by decide) rfl rfl) (ninS (own_nd hnd 3 6 (by decide) rfl rfl) (ninS (own_nd hnd 3 7 (by decide) rfl rfl) (ninS (own_nd hnd 3 8 (by decide) rfl rfl) (ninS (own_nd hnd 3 9 (by decide) rfl rfl) nin0)))))))
      have f1034 := f1008.keep K1024 (ninS (Ne.symm (own_nd hnd 0 1 (by decide) rfl rfl)) (ninS (own_nd hnd 1 4 (by decide) rfl rfl) (ninS (own_nd hnd 1 5 (by decide) rfl rfl) (ninS (own_nd hnd 1 6 (by decide) rfl rfl) (ninS (own_nd hnd 1 7 (by decide) rfl rfl) (ninS (own_nd hnd 1 8 (by decide) rfl rfl) (ninS (own_nd hnd 1 9 (by decide) rfl rfl) nin0)))))))
      have f1035 := f1009.keep K1024 (ninS (Ne.symm (own_nd hnd 0 1 (by decide) rfl rfl)) (ninS (own_nd hnd 1 4 (by decide) rfl rfl) (ninS (own_nd hnd 1 5 (by decide) rfl rfl) (ninS (own_nd hnd 1 6 (by decide) rfl rfl) (ninS (own_nd hnd 1 7 (by decide) rfl rfl) (ninS (own_nd hnd 1 8 (by decide) rfl rfl) (ninS (own_nd hnd 1 9 (by decide) rfl rfl) nin0)))))))
      have f1036 := f1010.keep K1024 (ninS (Ne.symm (own_nd hnd 0 1 (by decide) rfl rfl)) (ninS (own_nd hnd 1 4 (by decide) rfl rfl) (ninS (own_nd hnd 1 5 (by decide) rfl rfl) (ninS (own_nd hnd 1 6 (by decide) rfl rfl) (ninS (own_nd hnd 1 7 (by decide) rfl rfl) (ninS (own_nd hnd 1 8 (by decide) rfl rfl) (ninS (own_nd hnd 1 9 (by decide) rfl rfl) nin0)))))))
      have f1037 := f1011.keep K1024 (ninS (Ne.symm (own_nd hnd 0 1 (by decide) rfl rfl)) (ninS (own_nd hnd 1 4 (by decide) rfl rfl) (ninS (own_nd hnd 1 5 (by decide) rfl rfl) (ninS (own_nd hnd 1 6 (by decide) rfl rfl) (ninS (own_nd hnd 1 7 (by decide) rfl rfl) (ninS (own_nd hnd 1 8 (by decide) rfl rfl) (ninS (own_nd hnd 1 9 (by decide) rfl rfl) nin0)))))))
      have f1038 := f1012.keep K1024 (ninS (Ne.symm (own_nd hnd 0 1 (by decide) rfl rfl)) (ninS (own_nd hnd 1 4 (by decide) rfl rfl) (ninS (own_nd hnd 1 5 (by decide) rfl rfl) (ninS (own_nd hnd 1 6 (by decide) rfl rfl) (ninS (own_nd hnd 1 7 (by decide) rfl rfl) (ninS (own_nd hnd 1 8 (by decide) rfl rfl) (ninS (own_nd hnd 1 9 (by decide) rfl rfl) nin0)))))))
      have Zn1039 := Nat.le_trans Zn1021 K1024.1
      have K1040 := K1023.trans K1024 (allS (Or.inl (List.mem_of_getElem? (i := 0) rfl)) (allS (Or.inl (List.mem_of_getElem? (i := 1) rfl)) (allS (Or.inl (List.mem_of_getElem? (i := 2) rfl)) (allS (Or.inl (List.mem_of_getElem? (i := 3) rfl)) (allS (Or.inl (List.mem_of_getElem? (i := 4) rfl)) (allS (Or.inl (List.mem_of_getElem? (i := 5) rfl)) (allS (Or.inl (List.mem_of_getElem? (i := 6) rfl)) all0)))))))
      obtain ⟨fs, hr, hrun, hended, hW, hsame⟩ := X1024.leave (v := none) (fun _ => rfl)
      refine ⟨_, _, pre0 _ ?_, hrun, hended, _, _, rfl, ?_, ⟨_, rfl⟩, hW, hsame.mono (by decide) (by decide)⟩
      · show Steps p.tables e below (s₁.setTop (mkF m 0 #[vR a1, vI p1, vI p2, vI p3, .unset, .unset, .unset, .unset, .unset, .unset, .unset, .unset, .unset, .unset, .unset, .unset, .unset] [])) _
        refine XS.aloadN X0.here hx rfl (hb hby d8_0) rfl rfl ?_
        show Steps p.tables e below (s₁.setTop (mkF m 1 #[vR a1, vI p1, vI p2, vI p3, .unset, .unset, .unset, .unset, .unset, .unset, .unset, .unset, .unset, .unset, .unset, .unset, .unset] [(.ref a1)])) _
        refine st750 _ ?_
        show Steps p.tables e below (T750.setTop (mkF m 4 #[vR a1, vI p1, vI p2, vI p3, .unset, .unset, .unset, .unset, .unset, .unset, .unset, .unset, .unset, .unset, .unset, .unset, .unset] [(.ref t)])) _
        refine st751 _ ?_
        show Steps p.tables e below (T751.setTop (mkF m 7 #[vR a1, vI p1, vI p2, vI p3, .unset, .unset, .unset, .unset, .unset, .unset, .unset, .unset, .unset, .unset, .unset, .unset, .unset] [(.ref pts)])) _
        refine st752.trans ?_
        show Steps p.tables e below (T752.setTop (mkF m 10 #[vR a1, vI p1, vI p2, vI p3, .unset, .unset, .unset, .unset, .unset, .unset, .unset, .unset, .unset, .unset, .unset, .unset, .unset] [(.int (1 : Int32))])) _
        refine XS.istore X752.here hx rfl (hb hby d8_10) rfl (l' := #[vR a1, vI p1, vI p2, vI p3, vI 1, .unset, .unset, .unset, .unset, .unset, .unset, .unset, .unset, .unset, .unset, .unset, .unset]) rfl ?_
        refine XS.aloadN X752.here hx rfl (hb hby d8_12) rfl rfl ?_
        refine XS.dup X752.here hx rfl (hb hby d8_13) rfl rfl ?_
        show Steps p.tables e below (T752.setTop (mkF m 14 #[vR a1, vI p1, vI p2, vI p3, vI 1, .unset, .unset, .unset, .unset, .unset, .unset, .unset, .unset, .unset, .unset, .unset, .unset] [(.ref a1), (.ref a1)])) _
        refine st754 _ ?_
        show Steps p.tables e below (T754.setTop (mkF m 17 #[vR a1, vI p1, vI p2, vI p3, vI 1, .unset, .unset, .unset, .unset, .unset, .unset, .unset, .unset, .unset, .unset, .unset, .unset] [(.int nx), (.ref a1)])) _
        refine XS.dupX1 X754.here hx rfl (hb hby d8_17) rfl rfl rfl ?_
        refine XS.iconst X754.here hx rfl (hb hby d8_18) ?_
        refine XS.iadd X754.here hx rfl (hb hby d8_19) rfl ?_
        show Steps p.tables e below (T754.setTop (mkF m 20 #[vR a1, vI p1, vI p2, vI p3, vI 1, .unset, .unset, .unset, .unset, .unset, .unset, .unset, .unset, .unset, .unset, .unset, .unset] [(.int (nx + (1 : Int32))), (.ref a1), (.int nx)])) _
        refine st755 _ ?_
        show Steps p.tables e below (T755.setTop (mkF m 23 #[vR a1, vI p1, vI p2, vI p3, vI 1, .unset, .unset, .unset, .unset, .unset, .unset, .unset, .unset, .unset, .unset, .unset, .unset] [(.int nx)])) _
        refine XS.istore X755.here hx rfl (hb hby d8_23) rfl (l' := #[vR a1, vI p1, vI p2, vI p3, vI 1, vI nx, .unset, .unset, .unset, .unset, .unset, .unset, .unset, .unset, .unset, .unset, .unset]) rfl ?_
        refine XS.aloadN X755.here hx rfl (hb hby d8_25) rfl rfl ?_
        refine XS.aloadN X755.here hx rfl (hb hby d8_26) rfl rfl ?_
        show Steps p.tables e below (T755.setTop (mkF m 27 #[vR a1, vI p1, vI p2, vI p3, vI 1, vI nx, .unset, .unset, .unset, .unset, .unset, .unset, .unset, .unset, .unset, .unset, .unset] [(.ref a1), (.ref a1)])) _
        refine st781 _ ?_
        show Steps p.tables e below (T781.setTop (mkF m 30 #[vR a1, vI p1, vI p2, vI p3, vI 1, vI nx, .unset, .unset, .unset, .unset, .unset, .unset, .unset, .unset, .unset, .unset, .unset] [(.int dpa), (.ref a1)])) _
        refine XS.iloadN X781.here hx rfl (hb hby d8_30) rfl ?_
        show Steps p.tables e below (T781.setTop (mkF m 31 #[vR a1, vI p1, vI p2, vI p3, vI 1, vI nx, .unset, .unset, .unset, .unset, .unset, .unset, .unset, .unset, .unset, .unset, .unset] [(.int p3), (.int dpa), (.ref a1)])) _
        refine st782 _ ?_
        show Steps p.tables e below (T782.setTop (mkF m 34 #[vR a1, vI p1, vI p2, vI p3, vI 1, vI nx, .unset, .unset, .unset, .unset, .unset, .unset, .unset, .unset, .unset, .unset, .unset] [(.int (own_max dpa p3)), (.ref a1)])) _
        refine st784 _ ?_
        show Steps p.tables e below (T784.setTop (mkF m 37 #[vR a1, vI p1, vI p2, vI p3, vI 1, vI nx, .unset, .unset, .unset, .unset, .unset, .unset, .unset, .unset, .unset, .unset, .unset] [])) _
        refine XS.aloadN X784.here hx rfl (hb hby d8_37) rfl rfl ?_
        show Steps p.tables e below (T784.setTop (mkF m 38 #[vR a1, vI p1, vI p2, vI p3, vI 1, vI nx, .unset, .unset, .unset, .unset, .unset, .unset, .unset, .unset, .unset, .unset, .unset] [(.ref a1)])) _
        refine st810 _ ?_
        show Steps p.tables e below (T810.setTop (mkF m 41 #[vR a1, vI p1, vI p2, vI p3, vI 1, vI nx, .unset, .unset, .unset, .unset, .unset, .unset, .unset, .unset, .unset, .unset, .unset] [(.ref t)])) _
        refine st811 _ ?_
        show Steps p.tables e below (T811.setTop (mkF m 44 #[vR a1, vI p1, vI p2, vI p3, vI 1, vI nx, .unset, .unset, .unset, .unset, .unset, .unset, .unset, .unset, .unset, .unset, .unset] [(.ref x1)])) _
        refine XS.iload X811.here hx rfl (hb hby d8_44) rfl ?_
        refine XS.iloadN X811.here hx rfl (hb hby d8_46) rfl ?_
        show Steps p.tables e below (T811.setTop (mkF m 47 #[vR a1, vI p1, vI p2, vI p3, vI 1, vI nx, .unset, .unset, .unset, .unset, .unset, .unset, .unset, .unset, .unset, .unset, .unset] [(.int p1), (.int nx), (.ref x1)])) _
        refine st812 _ ?_
        show Steps p.tables e below (T812.setTop (mkF m 48 #[vR a1, vI p1, vI p2, vI p3, vI 1, vI nx, .unset, .unset, .unset, .unset, .unset, .unset, .unset, .unset, .unset, .unset, .unset] [])) _
        refine XS.aloadN X812.here hx rfl (hb hby d8_48) rfl rfl ?_
        show Steps p.tables e below (T812.setTop (mkF m 49 #[vR a1, vI p1, vI p2, vI p3, vI 1, vI nx, .unset, .unset, .unset, .unset, .unset, .unset, .unset, .unset, .unset, .unset, .unset] [(.ref a1)])) _
        refine st838 _ ?_
        show Steps p.tables e below (T838.setTop (mkF m 52 #[vR a1, vI p1, vI p2, vI p3, vI 1, vI nx, .unset, .unset, .unset, .unset, .unset, .unset, .unset, .unset, .unset, .unset, .unset] [(.ref t)])) _
        refine st839 _ ?_
        show Steps p.tables e below (T839.setTop (mkF m 55 #[vR a1, vI p1, vI p2, vI p3, vI 1, vI nx, .unset, .unset, .unset, .unset, .unset, .unset, .unset, .unset, .unset, .unset, .unset] [(.ref x2)])) _
        refine XS.iload X839.here hx rfl (hb hby d8_55) rfl ?_
        refine XS.iloadN X839.here hx rfl (hb hby d8_57) rfl ?_
        show Steps p.tables e below (T839.setTop (mkF m 58 #[vR a1, vI p1, vI p2, vI p3, vI 1, vI nx, .unset, .unset, .unset, .unset, .unset, .unset, .unset, .unset, .unset, .unset, .unset] [(.int p2), (.int nx), (.ref x2)])) _
        refine st840 _ ?_
        show Steps p.tables e below (T840.setTop (mkF m 59 #[vR a1, vI p1, vI p2, vI p3, vI 1, vI nx, .unset, .unset, .unset, .unset, .unset, .unset, .unset, .unset, .unset, .unset, .unset] [])) _
        refine XS.aloadN X840.here hx rfl (hb hby d8_59) rfl rfl ?_
        show Steps p.tables e below (T840.setTop (mkF m 60 #[vR a1, vI p1, vI p2, vI p3, vI 1, vI nx, .unset, .unset, .unset, .unset, .unset, .unset, .unset, .unset, .unset, .unset, .unset] [(.ref a1)])) _
        refine st866 _ ?_
        show Steps p.tables e below (T866.setTop (mkF m 63 #[vR a1, vI p1, vI p2, vI p3, vI 1, vI nx, .unset, .unset, .unset, .unset, .unset, .unset, .unset, .unset, .unset, .unset, .unset] [(.ref t)])) _
        refine st867 _ ?_
        show Steps p.tables e below (T867.setTop (mkF m 66 #[vR a1, vI p1, vI p2, vI p3, vI 1, vI nx, .unset, .unset, .unset, .unset, .unset, .unset, .unset, .unset, .unset, .unset, .unset] [(.ref x3)])) _
        refine XS.iload X867.here hx rfl (hb hby d8_66) rfl ?_
        refine XS.iconst X867.here hx rfl (hb hby d8_68) ?_
        show Steps p.tables e below (T867.setTop (mkF m 69 #[vR a1, vI p1, vI p2, vI p3, vI 1, vI nx, .unset, .unset, .unset, .unset, .unset, .unset, .unset, .unset, .unset, .unset, .unset] [(.int (-1 : Int32)), (.int nx), (.ref x3)])) _
        refine st868 _ ?_
        show Steps p.tables e below (T868.setTop (mkF m 70 #[vR a1, vI p1, vI p2, vI p3, vI 1, vI nx, .unset, .unset, .unset, .unset, .unset, .unset, .unset, .unset, .unset, .unset, .unset] [])) _
        refine XS.iconst X868.here hx rfl (hb hby d8_70) ?_
        refine XS.istore X868.here hx rfl (hb hby d8_71) rfl (l' := #[vR a1, vI p1, vI p2, vI p3, vI 1, vI nx, vI 0, .unset, .unset, .unset, .unset, .unset, .unset, .unset, .unset, .unset, .unset]) rfl ?_
        show Steps p.tables e below (T868.setTop (mkF m 73 #[vR a1, vI p1, vI p2, vI p3, vI 1, vI nx, vI 0, .unset, .unset, .unset, .unset, .unset, .unset, .unset, .unset, .unset, .unset] [])) _
        refine own_szero X868.here hx (hb hby d8_73) ?_
        show Steps p.tables e below (T868.setTop (mkF m 74 #[vR a1, vI p1, vI p2, vI p3, vI 1, vI nx, vI 0, .unset, .unset, .unset, .unset, .unset, .unset, .unset, .unset, .unset, .unset] [(.double (0 : UInt64))])) _
        refine own_sstore X868.here hx (l' := #[vR a1, vI p1, vI p2, vI p3, vI 1, vI nx, vI 0, vD 0, .second, .unset, .unset, .unset, .unset, .unset, .unset, .unset, .unset]) (hb hby d8_74) rfl ?_
        show Steps p.tables e below (T868.setTop (mkF m 76 #[vR a1, vI p1, vI p2, vI p3, vI 1, vI nx, vI 0, vD 0, .second, .unset, .unset, .unset, .unset, .unset, .unset, .unset, .unset] [])) _
        refine XS.iconst X868.here hx rfl (hb hby d8_76) ?_
        refine XS.istore X868.here hx rfl (hb hby d8_77) rfl (l' := #[vR a1, vI p1, vI p2, vI p3, vI 1, vI nx, vI 0, vD 0, .second, vI 0, .unset, .unset, .unset, .unset, .unset, .unset, .unset]) rfl ?_
        refine XS.iload X868.here hx rfl (hb hby d8_79) rfl ?_
        refine XS.iload X868.here hx rfl (hb hby d8_81) rfl ?_
        refine XS.icmpNo X868.here hx rfl (hb hby d8_83) rfl (tlt (by decide)).2.1 ?_
        show Steps p.tables e below (T868.setTop (mkF m 86 #[vR a1, vI p1, vI p2, vI p3, vI 1, vI nx, vI 0, vD 0, .second, vI 0, .unset, .unset, .unset, .unset, .unset, .unset, .unset] [])) _
        refine X868.ldc2DoubleC hx hown (mvT hZ (wd hw 93 rfl)) (g := (mkF m 86 #[vR a1, vI p1, vI p2, vI p3, vI 1, vI nx, vI 0, vD 0, .second, vI 0, .unset, .unset, .unset, .unset, .unset, .unset, .unset] [])) rfl (hb hby d8_86) _ ?_
        show Steps p.tables e below (T868.setTop (mkF m 89 #[vR a1, vI p1, vI p2, vI p3, vI 1, vI nx, vI 0, vD 0, .second, vI 0, .unset, .unset, .unset, .unset, .unset, .unset, .unset] [(.double (9218868437227405312 : UInt64))])) _
        refine own_sstore X868.here hx (l' := #[vR a1, vI p1, vI p2, vI p3, vI 1, vI nx, vI 0, vD 0, .second, vI 0, vD 9218868437227405312, .second, .unset, .unset, .unset, .unset, .unset]) (hb hby d8_89) rfl ?_
        show Steps p.tables e below (T868.setTop (mkF m 91 #[vR a1, vI p1, vI p2, vI p3, vI 1, vI nx, vI 0, vD 0, .second, vI 0, vD 9218868437227405312, .second, .unset, .unset, .unset, .unset, .unset] [])) _
        refine X868.ldc2DoubleC hx hown (mvT hZ (wd hw 94 rfl)) (g := (mkF m 91 #[vR a1, vI p1, vI p2, vI p3, vI 1, vI nx, vI 0, vD 0, .second, vI 0, vD 9218868437227405312, .second, .unset, .unset, .unset, .unset, .unset] [])) rfl (hb hby d8_91) _ ?_
        show Steps p.tables e below (T868.setTop (mkF m 94 #[vR a1, vI p1, vI p2, vI p3, vI 1, vI nx, vI 0, vD 0, .second, vI 0, vD 9218868437227405312, .second, .unset, .unset, .unset, .unset, .unset] [(.double (18442240474082181120 : UInt64))])) _
        refine own_sstore X868.here hx (l' := #[vR a1, vI p1, vI p2, vI p3, vI 1, vI nx, vI 0, vD 0, .second, vI 0, vD 9218868437227405312, .second, vD 18442240474082181120, .second, .unset, .unset, .unset]) (hb hby d8_94) rfl ?_
        show Steps p.tables e below (T868.setTop (mkF m 96 #[vR a1, vI p1, vI p2, vI p3, vI 1, vI nx, vI 0, vD 0, .second, vI 0, vD 9218868437227405312, .second, vD 18442240474082181120, .second, .unset, .unset, .unset] [])) _
        refine XS.iloadN X868.here hx rfl (hb hby d8_96) rfl ?_
        refine XS.istore X868.here hx rfl (hb hby d8_97) rfl (l' := #[vR a1, vI p1, vI p2, vI p3, vI 1, vI nx, vI 0, vD 0, .second, vI 0, vD 9218868437227405312, .second, vD 18442240474082181120, .second, vI p1, .unset, .unset]) rfl ?_
        show Steps p.tables e below (T868.setTop (mkF m 99 #[vR a1, vI p1, vI p2, vI p3, vI 1, vI nx, vI 0, vD 0, .second, vI 0, vD 9218868437227405312, .second, vD 18442240474082181120, .second, vI p1, .unset, .unset] [])) _
        refine st894 _ ?_
        show Steps p.tables e below (T894.setTop (mkF m 153 #[vR a1, vI p1, vI p2, vI p3, vI 1, vI nx, vI 0, vD 0, .second, vI 0, vD lo_894, .second, vD hi_894, .second, vI i_894, u_894, v_894] [])) _
        refine XS.aloadN X894.here hx rfl (hb hby d8_153) rfl rfl ?_
        show Steps p.tables e below (T894.setTop (mkF m 154 #[vR a1, vI p1, vI p2, vI p3, vI 1, vI nx, vI 0, vD 0, .second, vI 0, vD lo_894, .second, vD hi_894, .second, vI i_894, u_894, v_894] [(.ref a1)])) _
        refine st895 _ ?_
        show Steps p.tables e below (T895.setTop (mkF m 157 #[vR a1, vI p1, vI p2, vI p3, vI 1, vI nx, vI 0, vD 0, .second, vI 0, vD lo_894, .second, vD hi_894, .second, vI i_894, u_894, v_894] [(.ref t)])) _
        refine st896 _ ?_
        show Steps p.tables e below (T896.setTop (mkF m 160 #[vR a1, vI p1, vI p2, vI p3, vI 1, vI nx, vI 0, vD 0, .second, vI 0, vD lo_894, .second, vD hi_894, .second, vI i_894, u_894, v_894] [(.ref x4)])) _
        refine XS.iload X896.here hx rfl (hb hby d8_160) rfl ?_
        refine XS.iload X896.here hx rfl (hb hby d8_162) rfl ?_
        refine XS.imul X896.here hx rfl (hb hby d8_164) rfl ?_
        refine XS.iload X896.here hx rfl (hb hby d8_165) rfl ?_
        refine XS.iadd X896.here hx rfl (hb hby d8_167) rfl ?_
        show Steps p.tables e below (T896.setTop (mkF m 168 #[vR a1, vI p1, vI p2, vI p3, vI 1, vI nx, vI 0, vD 0, .second, vI 0, vD lo_894, .second, vD hi_894, .second, vI i_894, u_894, v_894] [(.int ((nx * (1 : Int32)) + (0 : Int32))), (.ref x4)])) _
        refine own_sload X896.here hx (hb hby d8_168) rfl ?_
        show Steps p.tables e below (T896.setTop (mkF m 170 #[vR a1, vI p1, vI p2, vI p3, vI 1, vI nx, vI 0, vD 0, .second, vI 0, vD lo_894, .second, vD hi_894, .second, vI i_894, u_894, v_894] [(.double lo_894), (.int ((nx * (1 : Int32)) + (0 : Int32))), (.ref x4)])) _
        rw [own_idx]
        show Steps p.tables e below (T896.setTop (mkF m 170 #[vR a1, vI p1, vI p2, vI p3, vI 1, vI nx, vI 0, vD 0, .second, vI 0, vD lo_894, .second, vD hi_894, .second, vI i_894, u_894, v_894] [(.double lo_894), (.int nx), (.ref x4)])) _
        refine st897 _ ?_
        show Steps p.tables e below (T897.setTop (mkF m 171 #[vR a1, vI p1, vI p2, vI p3, vI 1, vI nx, vI 0, vD 0, .second, vI 0, vD lo_894, .second, vD hi_894, .second, vI i_894, u_894, v_894] [])) _
        refine XS.aloadN X897.here hx rfl (hb hby d8_171) rfl rfl ?_
        show Steps p.tables e below (T897.setTop (mkF m 172 #[vR a1, vI p1, vI p2, vI p3, vI 1, vI nx, vI 0, vD 0, .second, vI 0, vD lo_894, .second, vD hi_894, .second, vI i_894, u_894, v_894] [(.ref a1)])) _
        refine st923 _ ?_
        show Steps p.tables e below (T923.setTop (mkF m 175 #[vR a1, vI p1, vI p2, vI p3, vI 1, vI nx, vI 0, vD 0, .second, vI 0, vD lo_894, .second, vD hi_894, .second, vI i_894, u_894, v_894] [(.ref t)])) _
        refine st924 _ ?_
        show Steps p.tables e below (T924.setTop (mkF m 178 #[vR a1, vI p1, vI p2, vI p3, vI 1, vI nx, vI 0, vD 0, .second, vI 0, vD lo_894, .second, vD hi_894, .second, vI i_894, u_894, v_894] [(.ref x5)])) _
        refine XS.iload X924.here hx rfl (hb hby d8_178) rfl ?_
        refine XS.iload X924.here hx rfl (hb hby d8_180) rfl ?_
        refine XS.imul X924.here hx rfl (hb hby d8_182) rfl ?_
        refine XS.iload X924.here hx rfl (hb hby d8_183) rfl ?_
        refine XS.iadd X924.here hx rfl (hb hby d8_185) rfl ?_
        show Steps p.tables e below (T924.setTop (mkF m 186 #[vR a1, vI p1, vI p2, vI p3, vI 1, vI nx, vI 0, vD 0, .second, vI 0, vD lo_894, .second, vD hi_894, .second, vI i_894, u_894, v_894] [(.int ((nx * (1 : Int32)) + (0 : Int32))), (.ref x5)])) _
        refine own_sload X924.here hx (hb hby d8_186) rfl ?_
        show Steps p.tables e below (T924.setTop (mkF m 188 #[vR a1, vI p1, vI p2, vI p3, vI 1, vI nx, vI 0, vD 0, .second, vI 0, vD lo_894, .second, vD hi_894, .second, vI i_894, u_894, v_894] [(.double hi_894), (.int ((nx * (1 : Int32)) + (0 : Int32))), (.ref x5)])) _
        rw [own_idx]
        show Steps p.tables e below (T924.setTop (mkF m 188 #[vR a1, vI p1, vI p2, vI p3, vI 1, vI nx, vI 0, vD 0, .second, vI 0, vD lo_894, .second, vD hi_894, .second, vI i_894, u_894, v_894] [(.double hi_894), (.int nx), (.ref x5)])) _
        refine st925 _ ?_
        show Steps p.tables e below (T925.setTop (mkF m 189 #[vR a1, vI p1, vI p2, vI p3, vI 1, vI nx, vI 0, vD 0, .second, vI 0, vD lo_894, .second, vD hi_894, .second, vI i_894, u_894, v_894] [])) _
        refine own_sload X925.here hx (hb hby d8_189) rfl ?_
        show Steps p.tables e below (T925.setTop (mkF m 191 #[vR a1, vI p1, vI p2, vI p3, vI 1, vI nx, vI 0, vD 0, .second, vI 0, vD lo_894, .second, vD hi_894, .second, vI i_894, u_894, v_894] [(.double hi_894)])) _
        refine own_sload X925.here hx (hb hby d8_191) rfl ?_
        show Steps p.tables e below (T925.setTop (mkF m 193 #[vR a1, vI p1, vI p2, vI p3, vI 1, vI nx, vI 0, vD 0, .second, vI 0, vD lo_894, .second, vD hi_894, .second, vI i_894, u_894, v_894] [(.double lo_894), (.double hi_894)])) _
        refine own_ssub X925.here hx (hb hby d8_193) (Jvm.Free.Fl.val64_no.mpr (Jvm.Free.Fl.val64_no.mp (Jvm.Free.Fl.dsub_out fh894.noNaN fl894))) ?_
        show Steps p.tables e below (T925.setTop (mkF m 194 #[vR a1, vI p1, vI p2, vI p3, vI 1, vI nx, vI 0, vD 0, .second, vI 0, vD lo_894, .second, vD hi_894, .second, vI i_894, u_894, v_894] [(.double (FP.dsub hi_894 lo_894))])) _
        refine own_sload X925.here hx (hb hby d8_194) rfl ?_
        show Steps p.tables e below (T925.setTop (mkF m 196 #[vR a1, vI p1, vI p2, vI p3, vI 1, vI nx, vI 0, vD 0, .second, vI 0, vD lo_894, .second, vD hi_894, .second, vI i_894, u_894, v_894] [(.double (0 : UInt64)), (.double (FP.dsub hi_894 lo_894))])) _
        refine own_scmp X925.here hx (z := cw) (hb hby d8_196) hcw ?_
        refine joinS (B := T925.setTop (mkF m 211 #[vR a1, vI p1, vI p2, vI p3, vI 1, vI nx, vI 0, vD v952, .second, vI 0, vD lo_894, .second, vD hi_894, .second, vI i_894, u_894, v_894] [])) (fun kt => ?_) ?_
        · by_cases hc951 : (0 : Int32) < cw
          · rw [show v952 = (FP.dsub hi_894 lo_894) from by rw [hv952, if_pos hc951]] at kt
            show Steps p.tables e below (T925.setTop (mkF m 197 #[vR a1, vI p1, vI p2, vI p3, vI 1, vI nx, vI 0, vD 0, .second, vI 0, vD lo_894, .second, vD hi_894, .second, vI i_894, u_894, v_894] [(.int cw)])) _
            refine XS.ifNo X925.here hx rfl (hb hby d8_197) rfl ((if0 _ _).trans (tlt hc951).2.2.2) ?_
            refine XS.iload X925.here hx rfl (hb hby d8_200) rfl ?_
            refine XS.istore X925.here hx rfl (hb hby d8_202) rfl (l' := #[vR a1, vI p1, vI p2, vI p3, vI 1, vI nx, vI 0, vD 0, .second, vI 0, vD lo_894, .second, vD hi_894, .second, vI i_894, u_894, v_894]) rfl ?_
            show Steps p.tables e below (T925.setTop (mkF m 204 #[vR a1, vI p1, vI p2, vI p3, vI 1, vI nx, vI 0, vD 0, .second, vI 0, vD lo_894, .second, vD hi_894, .second, vI i_894, u_894, v_894] [])) _
            refine own_sload X925.here hx (hb hby d8_204) rfl ?_
            show Steps p.tables e below (T925.setTop (mkF m 206 #[vR a1, vI p1, vI p2, vI p3, vI 1, vI nx, vI 0, vD 0, .second, vI 0, vD lo_894, .second, vD hi_894, .second, vI i_894, u_894, v_894] [(.double hi_894)])) _
            refine own_sload X925.here hx (hb hby d8_206) rfl ?_
            show Steps p.tables e below (T925.setTop (mkF m 208 #[vR a1, vI p1, vI p2, vI p3, vI 1, vI nx, vI 0, vD 0, .second, vI 0, vD lo_894, .second, vD hi_894, .second, vI i_894, u_894, v_894] [(.double lo_894), (.double hi_894)])) _
            refine own_ssub X925.here hx (hb hby d8_208) (Jvm.Free.Fl.val64_no.mpr (Jvm.Free.Fl.val64_no.mp (Jvm.Free.Fl.dsub_out fh894.noNaN fl894))) ?_
            show Steps p.tables e below (T925.setTop (mkF m 209 #[vR a1, vI p1, vI p2, vI p3, vI 1, vI nx, vI 0, vD 0, .second, vI 0, vD lo_894, .second, vD hi_894, .second, vI i_894, u_894, v_894] [(.double (FP.dsub hi_894 lo_894))])) _
            refine own_sstore X925.here hx (l' := #[vR a1, vI p1, vI p2, vI p3, vI 1, vI nx, vI 0, vD (FP.dsub hi_894 lo_894), .second, vI 0, vD lo_894, .second, vD hi_894, .second, vI i_894, u_894, v_894]) (hb hby d8_209) rfl ?_
            exact kt
          · rw [show v952 = (0 : UInt64) from by rw [hv952, if_neg hc951]] at kt
            show Steps p.tables e below (T925.setTop (mkF m 197 #[vR a1, vI p1, vI p2, vI p3, vI 1, vI nx, vI 0, vD 0, .second, vI 0, vD lo_894, .second, vD hi_894, .second, vI i_894, u_894, v_894] [(.int cw)])) _
            refine XS.ifYes X925.here hx rfl (pc0 := 197) (pc' := 211) rfl (hb hby d8_197) rfl ((if0 _ _).trans (flt hc951).2.2.2) (by decide) (by decide) ?_
            exact kt
        show Steps p.tables e below (T925.setTop (mkF m 211 #[vR a1, vI p1, vI p2, vI p3, vI 1, vI nx, vI 0, vD v952, .second, vI 0, vD lo_894, .second, vD hi_894, .second, vI i_894, u_894, v_894] [])) _
        refine XS.iinc X925.here hx rfl (hb hby d8_211) rfl (l' := #[vR a1, vI p1, vI p2, vI p3, vI 1, vI nx, vI 0, vD v952, .second, vI 1, vD lo_894, .second, vD hi_894, .second, vI i_894, u_894, v_894]) rfl ?_
        refine XS.goto X925.here hx rfl (pc0 := 214) (pc' := 79) rfl (hb hby d8_214) (by decide) (by decide) ?_
        refine XS.iload X925.here hx rfl (hb hby d8_79) rfl ?_
        refine XS.iload X925.here hx rfl (hb hby d8_81) rfl ?_
        refine XS.icmpYes X925.here hx rfl (pc0 := 83) (pc' := 217) rfl (hb hby d8_83) rfl (flt (by decide)).2.1 (by decide) (by decide) ?_
        refine XS.iloadN X925.here hx rfl (hb hby d8_217) rfl ?_
        refine XS.iloadN X925.here hx rfl (hb hby d8_218) rfl ?_
        show Steps p.tables e below (T925.setTop (mkF m 219 #[vR a1, vI p1, vI p2, vI p3, vI 1, vI nx, vI 0, vD v952, .second, vI 1, vD lo_894, .second, vD hi_894, .second, vI i_894, u_894, v_894] [(.int p1), (.int p2)])) _
        refine XS.isub X925.here hx rfl (hb hby d8_219) rfl ?_
        refine XS.bipush X925.here hx rfl (hb hby d8_220) ?_
        refine XS.icmpNo X925.here hx rfl (hb hby d8_222) rfl (tlt hA).2.2.2 ?_
        show Steps p.tables e below (T925.setTop (mkF m 225 #[vR a1, vI p1, vI p2, vI p3, vI 1, vI nx, vI 0, vD v952, .second, vI 1, vD lo_894, .second, vD hi_894, .second, vI i_894, u_894, v_894] [])) _
        refine own_sload X925.here hx (hb hby d8_225) rfl ?_
        show Steps p.tables e below (T925.setTop (mkF m 227 #[vR a1, vI p1, vI p2, vI p3, vI 1, vI nx, vI 0, vD v952, .second, vI 1, vD lo_894, .second, vD hi_894, .second, vI i_894, u_894, v_894] [(.double v952)])) _
        refine own_szero X925.here hx (hb hby d8_227) ?_
        show Steps p.tables e below (T925.setTop (mkF m 228 #[vR a1, vI p1, vI p2, vI p3, vI 1, vI nx, vI 0, vD v952, .second, vI 1, vD lo_894, .second, vD hi_894, .second, vI i_894, u_894, v_894] [(.double (0 : UInt64)), (.double v952)])) _
        refine own_scmp X925.here hx (z := cx) (hb hby d8_228) hcx ?_
        show Steps p.tables e below (T925.setTop (mkF m 229 #[vR a1, vI p1, vI p2, vI p3, vI 1, vI nx, vI 0, vD v952, .second, vI 1, vD lo_894, .second, vD hi_894, .second, vI i_894, u_894, v_894] [(.int cx)])) _
        refine XS.ifNo X925.here hx rfl (hb hby d8_229) rfl ((if0 _ _).trans (tlt hB).2.2.2) ?_
        refine XS.iloadN X925.here hx rfl (hb hby d8_232) rfl ?_
        refine XS.iloadN X925.here hx rfl (hb hby d8_233) rfl ?_
        refine XS.iadd X925.here hx rfl (hb hby d8_234) rfl ?_
        refine XS.iconst X925.here hx rfl (hb hby d8_235) ?_
        refine XS.iushr X925.here hx rfl (hb hby d8_236) rfl ?_
        refine XS.istore X925.here hx rfl (hb hby d8_237) rfl (l' := #[vR a1, vI p1, vI p2, vI p3, vI 1, vI nx, vI 0, vD v952, .second, vI (own_half (p1 + p2)), vD lo_894, .second, vD hi_894, .second, vI i_894, u_894, v_894]) rfl ?_
        show Steps p.tables e below (T925.setTop (mkF m 239 #[vR a1, vI p1, vI p2, vI p3, vI 1, vI nx, vI 0, vD v952, .second, vI (own_half (p1 + p2)), vD lo_894, .second, vD hi_894, .second, vI i_894, u_894, v_894] [])) _
        refine XS.aloadN X925.here hx rfl (hb hby d8_239) rfl rfl ?_
        refine XS.iloadN X925.here hx rfl (hb hby d8_240) rfl ?_
        refine XS.iloadN X925.here hx rfl (hb hby d8_241) rfl ?_
        refine XS.iload X925.here hx rfl (hb hby d8_242) rfl ?_
        refine XS.iload X925.here hx rfl (hb hby d8_244) rfl ?_
        show Steps p.tables e below (T925.setTop (mkF m 246 #[vR a1, vI p1, vI p2, vI p3, vI 1, vI nx, vI 0, vD v952, .second, vI (own_half (p1 + p2)), vD lo_894, .second, vD hi_894, .second, vI i_894, u_894, v_894] [(.int (0 : Int32)), (.int (own_half (p1 + p2))), (.int p2), (.int p1), (.ref a1)])) _
        refine st953.trans ?_
        show Steps p.tables e below (T953.setTop (mkF m 249 #[vR a1, vI p1, vI p2, vI p3, vI 1, vI nx, vI 0, vD v952, .second, vI (own_half (p1 + p2)), vD lo_894, .second, vD hi_894, .second, vI i_894, u_894, v_894] [])) _
        refine XS.aloadN X953.here hx rfl (hb hby d8_249) rfl rfl ?_
        refine XS.iloadN X953.here hx rfl (hb hby d8_250) rfl ?_
        refine XS.iload X953.here hx rfl (hb hby d8_251) rfl ?_
        refine XS.iloadN X953.here hx rfl (hb hby d8_253) rfl ?_
        refine XS.iconst X953.here hx rfl (hb hby d8_254) ?_
        refine XS.iadd X953.here hx rfl (hb hby d8_255) rfl ?_
        show Steps p.tables e below (T953.setTop (mkF m 256 #[vR a1, vI p1, vI p2, vI p3, vI 1, vI nx, vI 0, vD v952, .second, vI (own_half (p1 + p2)), vD lo_894, .second, vD hi_894, .second, vI i_894, u_894, v_894] [(.int (p3 + (1 : Int32))), (.int (own_half (p1 + p2))), (.int p1), (.ref a1)])) _
        refine st978.trans ?_
        show Steps p.tables e below (T978.setTop (mkF m 259 #[vR a1, vI p1, vI p2, vI p3, vI 1, vI nx, vI 0, vD v952, .second, vI (own_half (p1 + p2)), vD lo_894, .second, vD hi_894, .second, vI i_894, u_894, v_894] [])) _
        refine XS.aloadN X978.here hx rfl (hb hby d8_259) rfl rfl ?_
        show Steps p.tables e below (T978.setTop (mkF m 260 #[vR a1, vI p1, vI p2, vI p3, vI 1, vI nx, vI 0, vD v952, .second, vI (own_half (p1 + p2)), vD lo_894, .second, vD hi_894, .second, vI i_894, u_894, v_894] [(.ref a1)])) _
        refine st995 _ ?_
        show Steps p.tables e below (T995.setTop (mkF m 263 #[vR a1, vI p1, vI p2, vI p3, vI 1, vI nx, vI 0, vD v952, .second, vI (own_half (p1 + p2)), vD lo_894, .second, vD hi_894, .second, vI i_894, u_894, v_894] [(.ref t)])) _
        refine st996 _ ?_
        show Steps p.tables e below (T996.setTop (mkF m 266 #[vR a1, vI p1, vI p2, vI p3, vI 1, vI nx, vI 0, vD v952, .second, vI (own_half (p1 + p2)), vD lo_894, .second, vD hi_894, .second, vI i_894, u_894, v_894] [(.ref x3)])) _
        refine XS.iload X996.here hx rfl (hb hby d8_266) rfl ?_
        refine XS.aloadN X996.here hx rfl (hb hby d8_268) rfl rfl ?_
        show Steps p.tables e below (T996.setTop (mkF m 269 #[vR a1, vI p1, vI p2, vI p3, vI 1, vI nx, vI 0, vD v952, .second, vI (own_half (p1 + p2)), vD lo_894, .second, vD hi_894, .second, vI i_894, u_894, v_894] [(.ref a1), (.int nx), (.ref x3)])) _
        refine st997 _ ?_
        show Steps p.tables e below (T997.setTop (mkF m 272 #[vR a1, vI p1, vI p2, vI p3, vI 1, vI nx, vI 0, vD v952, .second, vI (own_half (p1 + p2)), vD lo_894, .second, vD hi_894, .second, vI i_894, u_894, v_894] [(.int n978'), (.int nx), (.ref x3)])) _
        refine st998 _ ?_
        show Steps p.tables e below (T998.setTop (mkF m 273 #[vR a1, vI p1, vI p2, vI p3, vI 1, vI nx, vI 0, vD v952, .second, vI (own_half (p1 + p2)), vD lo_894, .second, vD hi_894, .second, vI i_894, u_894, v_894] [])) _
        refine XS.aloadN X998.here hx rfl (hb hby d8_273) rfl rfl ?_
        refine XS.iload X998.here hx rfl (hb hby d8_274) rfl ?_
        refine XS.iloadN X998.here hx rfl (hb hby d8_276) rfl ?_
        refine XS.iloadN X998.here hx rfl (hb hby d8_277) rfl ?_
        refine XS.iconst X998.here hx rfl (hb hby d8_278) ?_
        refine XS.iadd X998.here hx rfl (hb hby d8_279) rfl ?_
        show Steps p.tables e below (T998.setTop (mkF m 280 #[vR a1, vI p1, vI p2, vI p3, vI 1, vI nx, vI 0, vD v952, .second, vI (own_half (p1 + p2)), vD lo_894, .second, vD hi_894, .second, vI i_894, u_894, v_894] [(.int (p3 + (1 : Int32))), (.int p2), (.int (own_half (p1 + p2))), (.ref a1)])) _
        refine st1024.trans ?_
        show Steps p.tables e below (T1024.setTop (mkF m 283 #[vR a1, vI p1, vI p2, vI p3, vI 1, vI nx, vI 0, vD v952, .second, vI (own_half (p1 + p2)), vD lo_894, .second, vD hi_894, .second, vI i_894, u_894, v_894] [])) _
        exact X1024.returnOut hx Bd.returns (hb hby d8_283) hr
      · show Qrm8_2 Z a1 p1 p2 p3 t pts co r x1 x2 x3 x4 x5 gc nx fF fE fU h0 n0 _ T1024.heap _
        exact ⟨rfl, N1025, K1040, _, _, _, _, own_rel_split _ rel978 rel1024, S1024⟩
    · obtain ⟨fs, hr, hrun, hended, hW, hsame⟩ := X925.leave (v := none) (fun _ => rfl)
      refine ⟨_, _, pre0 _ ?_, hrun, hended, _, _, rfl, ?_, ⟨_, rfl⟩, hW, hsame.mono (by decide) (by decide)⟩
      · show Steps p.tables e below (s₁.setTop (mkF m 0 #[vR a1, vI p1, vI p2, vI p3, .unset, .unset, .unset, .unset, .unset, .unset, .unset, .unset, .unset, .unset, .unset, .unset, .unset] [])) _
        refine XS.aloadN X0.here hx rfl (hb hby d8_0) rfl rfl ?_
        show Steps p.tables e below (s₁.setTop (mkF m 1 #[vR a1, vI p1, vI p2, vI p3, .unset, .unset, .unset, .unset, .unset, .unset, .unset, .unset, .unset, .unset, .unset, .unset, .unset] [(.ref a1)])) _
        refine st750 _ ?_
        show Steps p.tables e below (T750.setTop (mkF m 4 #[vR a1, vI p1, vI p2, vI p3, .unset, .unset, .unset, .unset, .unset, .unset, .unset, .unset, .unset, .unset, .unset, .unset, .unset] [(.ref t)])) _
        refine st751 _ ?_
        show Steps p.tables e below (T751.setTop (mkF m 7 #[vR a1, vI p1, vI p2, vI p3, .unset, .unset, .unset, .unset, .unset, .unset, .unset, .unset, .unset, .unset, .unset, .unset, .unset] [(.ref pts)])) _
        refine st752.trans ?_
        show Steps p.tables e below (T752.setTop (mkF m 10 #[vR a1, vI p1, vI p2, vI p3, .unset, .unset, .unset, .unset, .unset, .unset, .unset, .unset, .unset, .unset, .unset, .unset, .unset] [(.int (1 : Int32))])) _
        refine XS.istore X752.here hx rfl (hb hby d8_10) rfl (l' := #[vR a1, vI p1, vI p2, vI p3, vI 1, .unset, .unset, .unset, .unset, .unset, .unset, .unset, .unset, .unset, .unset, .unset, .unset]) rfl ?_
        refine XS.aloadN X752.here hx rfl (hb hby d8_12) rfl rfl ?_
        refine XS.dup X752.here hx rfl (hb hby d8_13) rfl rfl ?_
        show Steps p.tables e below (T752.setTop (mkF m 14 #[vR a1, vI p1, vI p2, vI p3, vI 1, .unset, .unset, .unset, .unset, .unset, .unset, .unset, .unset, .unset, .unset, .unset, .unset] [(.ref a1), (.ref a1)])) _
        refine st754 _ ?_
        show Steps p.tables e below (T754.setTop (mkF m 17 #[vR a1, vI p1, vI p2, vI p3, vI 1, .unset, .unset, .unset, .unset, .unset, .unset, .unset, .unset, .unset, .unset, .unset, .unset] [(.int nx), (.ref a1)])) _
        refine XS.dupX1 X754.here hx rfl (hb hby d8_17) rfl rfl rfl ?_
        refine XS.iconst X754.here hx rfl (hb hby d8_18) ?_
        refine XS.iadd X754.here hx rfl (hb hby d8_19) rfl ?_
        show Steps p.tables e below (T754.setTop (mkF m 20 #[vR a1, vI p1, vI p2, vI p3, vI 1, .unset, .unset, .unset, .unset, .unset, .unset, .unset, .unset, .unset, .unset, .unset, .unset] [(.int (nx + (1 : Int32))), (.ref a1), (.int nx)])) _
        refine st755 _ ?_
        show Steps p.tables e below (T755.setTop (mkF m 23 #[vR a1, vI p1, vI p2, vI p3, vI 1, .unset, .unset, .unset, .unset, .unset, .unset, .unset, .unset, .unset, .unset, .unset, .unset] [(.int nx)])) _
        refine XS.istore X755.here hx rfl (hb hby d8_23) rfl (l' := #[vR a1, vI p1, vI p2, vI p3, vI 1, vI nx, .unset, .unset, .unset, .unset, .unset, .unset, .unset, .unset, .unset, .unset, .unset]) rfl ?_
        refine XS.aloadN X755.here hx rfl (hb hby d8_25) rfl rfl ?_
        refine XS.aloadN X755.here hx rfl (hb hby d8_26) rfl rfl ?_
        show Steps p.tables e below (T755.setTop (mkF m 27 #[vR a1, vI p1, vI p2, vI p3, vI 1, vI nx, .unset, .unset, .unset, .unset, .unset, .unset, .unset, .unset, .unset, .unset, .unset] [(.ref a1), (.ref a1)])) _
        refine st781 _ ?_
        show Steps p.tables e below (T781.setTop (mkF m 30 #[vR a1, vI p1, vI p2, vI p3, vI 1, vI nx, .unset, .unset, .unset, .unset, .unset, .unset, .unset, .unset, .unset, .unset, .unset] [(.int dpa), (.ref a1)])) _
        refine XS.iloadN X781.here hx rfl (hb hby d8_30) rfl ?_
        show Steps p.tables e below (T781.setTop (mkF m 31 #[vR a1, vI p1, vI p2, vI p3, vI 1, vI nx, .unset, .unset, .unset, .unset, .unset, .unset, .unset, .unset, .unset, .unset, .unset] [(.int p3), (.int dpa), (.ref a1)])) _
        refine st782 _ ?_
        show Steps p.tables e below (T782.setTop (mkF m 34 #[vR a1, vI p1, vI p2, vI p3, vI 1, vI nx, .unset, .unset, .unset, .unset, .unset, .unset, .unset, .unset, .unset, .unset, .unset] [(.int (own_max dpa p3)), (.ref a1)])) _
        refine st784 _ ?_
        show Steps p.tables e below (T784.setTop (mkF m 37 #[vR a1, vI p1, vI p2, vI p3, vI 1, vI nx, .unset, .unset, .unset, .unset, .unset, .unset, .unset, .unset, .unset, .unset, .unset] [])) _
        refine XS.aloadN X784.here hx rfl (hb hby d8_37) rfl rfl ?_
        show Steps p.tables e below (T784.setTop (mkF m 38 #[vR a1, vI p1, vI p2, vI p3, vI 1, vI nx, .unset, .unset, .unset, .unset, .unset, .unset, .unset, .unset, .unset, .unset, .unset] [(.ref a1)])) _
        refine st810 _ ?_
        show Steps p.tables e below (T810.setTop (mkF m 41 #[vR a1, vI p1, vI p2, vI p3, vI 1, vI nx, .unset, .unset, .unset, .unset, .unset, .unset, .unset, .unset, .unset, .unset, .unset] [(.ref t)])) _
        refine st811 _ ?_
        show Steps p.tables e below (T811.setTop (mkF m 44 #[vR a1, vI p1, vI p2, vI p3, vI 1, vI nx, .unset, .unset, .unset, .unset, .unset, .unset, .unset, .unset, .unset, .unset, .unset] [(.ref x1)])) _
        refine XS.iload X811.here hx rfl (hb hby d8_44) rfl ?_
        refine XS.iloadN X811.here hx rfl (hb hby d8_46) rfl ?_
        show Steps p.tables e below (T811.setTop (mkF m 47 #[vR a1, vI p1, vI p2, vI p3, vI 1, vI nx, .unset, .unset, .unset, .unset, .unset, .unset, .unset, .unset, .unset, .unset, .unset] [(.int p1), (.int nx), (.ref x1)])) _
        refine st812 _ ?_
        show Steps p.tables e below (T812.setTop (mkF m 48 #[vR a1, vI p1, vI p2, vI p3, vI 1, vI nx, .unset, .unset, .unset, .unset, .unset, .unset, .unset, .unset, .unset, .unset, .unset] [])) _
        refine XS.aloadN X812.here hx rfl (hb hby d8_48) rfl rfl ?_
        show Steps p.tables e below (T812.setTop (mkF m 49 #[vR a1, vI p1, vI p2, vI p3, vI 1, vI nx, .unset, .unset, .unset, .unset, .unset, .unset, .unset, .unset, .unset, .unset, .unset] [(.ref a1)])) _
        refine st838 _ ?_
        show Steps p.tables e below (T838.setTop (mkF m 52 #[vR a1, vI p1, vI p2, vI p3, vI 1, vI nx, .unset, .unset, .unset, .unset, .unset, .unset, .unset, .unset, .unset, .unset, .unset] [(.ref t)])) _
        refine st839 _ ?_
        show Steps p.tables e below (T839.setTop (mkF m 55 #[vR a1, vI p1, vI p2, vI p3, vI 1, vI nx, .unset, .unset, .unset, .unset, .unset, .unset, .unset, .unset, .unset, .unset, .unset] [(.ref x2)])) _
        refine XS.iload X839.here hx rfl (hb hby d8_55) rfl ?_
        refine XS.iloadN X839.here hx rfl (hb hby d8_57) rfl ?_
        show Steps p.tables e below (T839.setTop (mkF m 58 #[vR a1, vI p1, vI p2, vI p3, vI 1, vI nx, .unset, .unset, .unset, .unset, .unset, .unset, .unset, .unset, .unset, .unset, .unset] [(.int p2), (.int nx), (.ref x2)])) _
        refine st840 _ ?_
        show Steps p.tables e below (T840.setTop (mkF m 59 #[vR a1, vI p1, vI p2, vI p3, vI 1, vI nx, .unset, .unset, .unset, .unset, .unset, .unset, .unset, .unset, .unset, .unset, .unset] [])) _
        refine XS.aloadN X840.here hx rfl (hb hby d8_59) rfl rfl ?_
        show Steps p.tables e below (T840.setTop (mkF m 60 #[vR a1, vI p1, vI p2, vI p3, vI 1, vI nx, .unset, .unset, .unset, .unset, .unset, .unset, .unset, .unset, .unset, .unset, .unset] [(.ref a1)])) _
        refine st866 _ ?_
        show Steps p.tables e below (T866.setTop (mkF m 63 #[vR a1, vI p1, vI p2, vI p3, vI 1, vI nx, .unset, .unset, .unset, .unset, .unset, .unset, .unset, .unset, .unset, .unset, .unset] [(.ref t)])) _
        refine st867 _ ?_
        show Steps p.tables e below (T867.setTop (mkF m 66 #[vR a1, vI p1, vI p2, vI p3, vI 1, vI nx, .unset, .unset, .unset, .unset, .unset, .unset, .unset, .unset, .unset, .unset, .unset] [(.ref x3)])) _
        refine XS.iload X867.here hx rfl (hb hby d8_66) rfl ?_
        refine XS.iconst X867.here hx rfl (hb hby d8_68) ?_
        show Steps p.tables e below (T867.setTop (mkF m 69 #[vR a1, vI p1, vI p2, vI p3, vI 1, vI nx, .unset, .unset, .unset, .unset, .unset, .unset, .unset, .unset, .unset, .unset, .unset] [(.int (-1 : Int32)), (.int nx), (.ref x3)])) _
        refine st868 _ ?_
        show Steps p.tables e below (T868.setTop (mkF m 70 #[vR a1, vI p1, vI p2, vI p3, vI 1, vI nx, .unset, .unset, .unset, .unset, .unset, .unset, .unset, .unset, .unset, .unset, .unset] [])) _
        refine XS.iconst X868.here hx rfl (hb hby d8_70) ?_
        refine XS.istore X868.here hx rfl (hb hby d8_71) rfl (l' := #[vR a1, vI p1, vI p2, vI p3, vI 1, vI nx, vI 0, .unset, .unset, .unset, .unset, .unset, .unset, .unset, .unset, .unset, .unset]) rfl ?_
        show Steps p.tables e below (T868.setTop (mkF m 73 #[vR a1, vI p1, vI p2, vI p3, vI 1, vI nx, vI 0, .unset, .unset, .unset, .unset, .unset, .unset, .unset, .unset, .unset, .unset] [])) _
        refine own_szero X868.here hx (hb hby d8_73) ?_
        show Steps p.tables e below (T868.setTop (mkF m 74 #[vR a1, vI p1, vI p2, vI p3, vI 1, vI nx, vI 0, .unset, .unset, .unset, .unset, .unset, .unset, .unset, .unset, .unset, .unset] [(.double (0 : UInt64))])) _
        refine own_sstore X868.here hx (l' := #[vR a1, vI p1, vI p2, vI p3, vI 1, vI nx, vI 0, vD 0, .second, .unset, .unset, .unset, .unset, .unset, .unset, .unset, .unset]) (hb hby d8_74) rfl ?_
        show Steps p.tables e below (T868.setTop (mkF m 76 #[vR a1, vI p1, vI p2, vI p3, vI 1, vI nx, vI 0, vD 0, .second, .unset, .unset, .unset, .unset, .unset, .unset, .unset, .unset] [])) _
        refine XS.iconst X868.here hx rfl (hb hby d8_76) ?_
        refine XS.istore X868.here hx rfl (hb hby d8_77) rfl (l' := #[vR a1, vI p1, vI p2, vI p3, vI 1, vI nx, vI 0, vD 0, .second, vI 0, .unset, .unset, .unset, .unset, .unset, .unset, .unset]) rfl ?_
        refine XS.iload X868.here hx rfl (hb hby d8_79) rfl ?_
        refine XS.iload X868.here hx rfl (hb hby d8_81) rfl ?_
        refine XS.icmpNo X868.here hx rfl (hb hby d8_83) rfl (tlt (by decide)).2.1 ?_
        show Steps p.tables e below (T868.setTop (mkF m 86 #[vR a1, vI p1, vI p2, vI p3, vI 1, vI nx, vI 0, vD 0, .second, vI 0, .unset, .unset, .unset, .unset, .unset, .unset, .unset] [])) _
        refine X868.ldc2DoubleC hx hown (mvT hZ (wd hw 93 rfl)) (g := (mkF m 86 #[vR a1, vI p1, vI p2, vI p3, vI 1, vI nx, vI 0, vD 0, .second, vI 0, .unset, .unset, .unset, .unset, .unset, .unset, .unset] [])) rfl (hb hby d8_86) _ ?_
        show Steps p.tables e below (T868.setTop (mkF m 89 #[vR a1, vI p1, vI p2, vI p3, vI 1, vI nx, vI 0, vD 0, .second, vI 0, .unset, .unset, .unset, .unset, .unset, .unset, .unset] [(.double (9218868437227405312 : UInt64))])) _
        refine own_sstore X868.here hx (l' := #[vR a1, vI p1, vI p2, vI p3, vI 1, vI nx, vI 0, vD 0, .second, vI 0, vD 9218868437227405312, .second, .unset, .unset, .unset, .unset, .unset]) (hb hby d8_89) rfl ?_
        show Steps p.tables e below (T868.setTop (mkF m 91 #[vR a1, vI p1, vI p2, vI p3, vI 1, vI nx, vI 0, vD 0, .second, vI 0, vD 9218868437227405312, .second, .unset, .unset, .unset, .unset, .unset] [])) _
        refine X868.ldc2DoubleC hx hown (mvT hZ (wd hw 94 rfl)) (g := (mkF m 91 #[vR a1, vI p1, vI p2, vI p3, vI 1, vI nx, vI 0, vD 0, .second, vI 0, vD 9218868437227405312, .second, .unset, .unset, .unset, .unset, .unset] [])) rfl (hb hby d8_91) _ ?_
        show Steps p.tables e below (T868.setTop (mkF m 94 #[vR a1, vI p1, vI p2, vI p3, vI 1, vI nx, vI 0, vD 0, .second, vI 0, vD 9218868437227405312, .second, .unset, .unset, .unset, .unset, .unset] [(.double (18442240474082181120 : UInt64))])) _
        refine own_sstore X868.here hx (l' := #[vR a1, vI p1, vI p2, vI p3, vI 1, vI nx, vI 0, vD 0, .second, vI 0, vD 9218868437227405312, .second, vD 18442240474082181120, .second, .unset, .unset, .unset]) (hb hby d8_94) rfl ?_
        show Steps p.tables e below (T868.setTop (mkF m 96 #[vR a1, vI p1, vI p2, vI p3, vI 1, vI nx, vI 0, vD 0, .second, vI 0, vD 9218868437227405312, .second, vD 18442240474082181120, .second, .unset, .unset, .unset] [])) _
        refine XS.iloadN X868.here hx rfl (hb hby d8_96) rfl ?_
        refine XS.istore X868.here hx rfl (hb hby d8_97) rfl (l' := #[vR a1, vI p1, vI p2, vI p3, vI 1, vI nx, vI 0, vD 0, .second, vI 0, vD 9218868437227405312, .second, vD 18442240474082181120, .second, vI p1, .unset, .unset]) rfl ?_
        show Steps p.tables e below (T868.setTop (mkF m 99 #[vR a1, vI p1, vI p2, vI p3, vI 1, vI nx, vI 0, vD 0, .second, vI 0, vD 9218868437227405312, .second, vD 18442240474082181120, .second, vI p1, .unset, .unset] [])) _
        refine st894 _ ?_
        show Steps p.tables e below (T894.setTop (mkF m 153 #[vR a1, vI p1, vI p2, vI p3, vI 1, vI nx, vI 0, vD 0, .second, vI 0, vD lo_894, .second, vD hi_894, .second, vI i_894, u_894, v_894] [])) _
        refine XS.aloadN X894.here hx rfl (hb hby d8_153) rfl rfl ?_
        show Steps p.tables e below (T894.setTop (mkF m 154 #[vR a1, vI p1, vI p2, vI p3, vI 1, vI nx, vI 0, vD 0, .second, vI 0, vD lo_894, .second, vD hi_894, .second, vI i_894, u_894, v_894] [(.ref a1)])) _
        refine st895 _ ?_
        show Steps p.tables e below (T895.setTop (mkF m 157 #[vR a1, vI p1, vI p2, vI p3, vI 1, vI nx, vI 0, vD 0, .second, vI 0, vD lo_894, .second, vD hi_894, .second, vI i_894, u_894, v_894] [(.ref t)])) _
        refine st896 _ ?_
        show Steps p.tables e below (T896.setTop (mkF m 160 #[vR a1, vI p1, vI p2, vI p3, vI 1, vI nx, vI 0, vD 0, .second, vI 0, vD lo_894, .second, vD hi_894, .second, vI i_894, u_894, v_894] [(.ref x4)])) _
        refine XS.iload X896.here hx rfl (hb hby d8_160) rfl ?_
        refine XS.iload X896.here hx rfl (hb hby d8_162) rfl ?_
        refine XS.imul X896.here hx rfl (hb hby d8_164) rfl ?_
        refine XS.iload X896.here hx rfl (hb hby d8_165) rfl ?_
        refine XS.iadd X896.here hx rfl (hb hby d8_167) rfl ?_
        show Steps p.tables e below (T896.setTop (mkF m 168 #[vR a1, vI p1, vI p2, vI p3, vI 1, vI nx, vI 0, vD 0, .second, vI 0, vD lo_894, .second, vD hi_894, .second, vI i_894, u_894, v_894] [(.int ((nx * (1 : Int32)) + (0 : Int32))), (.ref x4)])) _
        refine own_sload X896.here hx (hb hby d8_168) rfl ?_
        show Steps p.tables e below (T896.setTop (mkF m 170 #[vR a1, vI p1, vI p2, vI p3, vI 1, vI nx, vI 0, vD 0, .second, vI 0, vD lo_894, .second, vD hi_894, .second, vI i_894, u_894, v_894] [(.double lo_894), (.int ((nx * (1 : Int32)) + (0 : Int32))), (.ref x4)])) _
        rw [own_idx]
        show Steps p.tables e below (T896.setTop (mkF m 170 #[vR a1, vI p1, vI p2, vI p3, vI 1, vI nx, vI 0, vD 0, .second, vI 0, vD lo_894, .second, vD hi_894, .second, vI i_894, u_894, v_894] [(.double lo_894), (.int nx), (.ref x4)])) _
        refine st897 _ ?_
        show Steps p.tables e below (T897.setTop (mkF m 171 #[vR a1, vI p1, vI p2, vI p3, vI 1, vI nx, vI 0, vD 0, .second, vI 0, vD lo_894, .second, vD hi_894, .second, vI i_894, u_894, v_894] [])) _
        refine XS.aloadN X897.here hx rfl (hb hby d8_171) rfl rfl ?_
        show Steps p.tables e below (T897.setTop (mkF m 172 #[vR a1, vI p1, vI p2, vI p3, vI 1, vI nx, vI 0, vD 0, .second, vI 0, vD lo_894, .second, vD hi_894, .second, vI i_894, u_894, v_894] [(.ref a1)])) _
        refine st923 _ ?_
        show Steps p.tables e below (T923.setTop (mkF m 175 #[vR a1, vI p1, vI p2, vI p3, vI 1, vI nx, vI 0, vD 0, .second, vI 0, vD lo_894, .second, vD hi_894, .second, vI i_894, u_894, v_894] [(.ref t)])) _
        refine st924 _ ?_
        show Steps p.tables e below (T924.setTop (mkF m 178 #[vR a1, vI p1, vI p2, vI p3, vI 1, vI nx, vI 0, vD 0, .second, vI 0, vD lo_894, .second, vD hi_894, .second, vI i_894, u_894, v_894] [(.ref x5)])) _
        refine XS.iload X924.here hx rfl (hb hby d8_178) rfl ?_
        refine XS.iload X924.here hx rfl (hb hby d8_180) rfl ?_
        refine XS.imul X924.here hx rfl (hb hby d8_182) rfl ?_
        refine XS.iload X924.here hx rfl (hb hby d8_183) rfl ?_
        refine XS.iadd X924.here hx rfl (hb hby d8_185) rfl ?_
        show Steps p.tables e below (T924.setTop (mkF m 186 #[vR a1, vI p1, vI p2, vI p3, vI 1, vI nx, vI 0, vD 0, .second, vI 0, vD lo_894, .second, vD hi_894, .second, vI i_894, u_894, v_894] [(.int ((nx * (1 : Int32)) + (0 : Int32))), (.ref x5)])) _
        refine own_sload X924.here hx (hb hby d8_186) rfl ?_
        show Steps p.tables e below (T924.setTop (mkF m 188 #[vR a1, vI p1, vI p2, vI p3, vI 1, vI nx, vI 0, vD 0, .second, vI 0, vD lo_894, .second, vD hi_894, .second, vI i_894, u_894, v_894] [(.double hi_894), (.int ((nx * (1 : Int32)) + (0 : Int32))), (.ref x5)])) _
        rw [own_idx]
        show Steps p.tables e below (T924.setTop (mkF m 188 #[vR a1, vI p1, vI p2, vI p3, vI 1, vI nx, vI 0, vD 0, .second, vI 0, vD lo_894, .second, vD hi_894, .second, vI i_894, u_894, v_894] [(.double hi_894), (.int nx), (.ref x5)])) _
        refine st925 _ ?_
        show Steps p.tables e below (T925.setTop (mkF m 189 #[vR a1, vI p1, vI p2, vI p3, vI 1, vI nx, vI 0, vD 0, .second, vI 0, vD lo_894, .second, vD hi_894, .second, vI i_894, u_894, v_894] [])) _
        refine own_sload X925.here hx (hb hby d8_189) rfl ?_
        show Steps p.tables e below (T925.setTop (mkF m 191 #[vR a1, vI p1, vI p2, vI p3, vI 1, vI nx, vI 0, vD 0, .second, vI 0, vD lo_894, .second, vD hi_894, .second, vI i_894, u_894, v_894] [(.double hi_894)])) _
        refine own_sload X925.here hx (hb hby d8_191) rfl ?_
        show Steps p.tables e below (T925.setTop (mkF m 193 #[vR a1, vI p1, vI p2, vI p3, vI 1, vI nx, vI 0, vD 0, .second, vI 0, vD lo_894, .second, vD hi_894, .second, vI i_894, u_894, v_894] [(.double lo_894), (.double hi_894)])) _
        refine own_ssub X925.here hx (hb hby d8_193) (Jvm.Free.Fl.val64_no.mpr (Jvm.Free.Fl.val64_no.mp (Jvm.Free.Fl.dsub_out fh894.noNaN fl894))) ?_
        show Steps p.tables e below (T925.setTop (mkF m 194 #[vR a1, vI p1, vI p2, vI p3, vI 1, vI nx, vI 0, vD 0, .second, vI 0, vD lo_894, .second, vD hi_894, .second, vI i_894, u_894, v_894] [(.double (FP.dsub hi_894 lo_894))])) _
        refine own_sload X925.here hx (hb hby d8_194) rfl ?_
        show Steps p.tables e below (T925.setTop (mkF m 196 #[vR a1, vI p1, vI p2, vI p3, vI 1, vI nx, vI 0, vD 0, .second, vI 0, vD lo_894, .second, vD hi_894, .second, vI i_894, u_894, v_894] [(.double (0 : UInt64)), (.double (FP.dsub hi_894 lo_894))])) _
        refine own_scmp X925.here hx (z := cw) (hb hby d8_196) hcw ?_
        refine joinS (B := T925.setTop (mkF m 211 #[vR a1, vI p1, vI p2, vI p3, vI 1, vI nx, vI 0, vD v952, .second, vI 0, vD lo_894, .second, vD hi_894, .second, vI i_894, u_894, v_894] [])) (fun kt => ?_) ?_
        · by_cases hc951 : (0 : Int32) < cw
          · rw [show v952 = (FP.dsub hi_894 lo_894) from by rw [hv952, if_pos hc951]] at kt
            show Steps p.tables e below (T925.setTop (mkF m 197 #[vR a1, vI p1, vI p2, vI p3, vI 1, vI nx, vI 0, vD 0, .second, vI 0, vD lo_894, .second, vD hi_894, .second, vI i_894, u_894, v_894] [(.int cw)])) _
            refine XS.ifNo X925.here hx rfl (hb hby d8_197) rfl ((if0 _ _).trans (tlt hc951).2.2.2) ?_
            refine XS.iload X925.here hx rfl (hb hby d8_200) rfl ?_
            refine XS.istore X925.here hx rfl (hb hby d8_202) rfl (l' := #[vR a1, vI p1, vI p2, vI p3, vI 1, vI nx, vI 0, vD 0, .second, vI 0, vD lo_894, .second, vD hi_894, .second, vI i_894, u_894, v_894]) rfl ?_
            show Steps p.tables e below (T925.setTop (mkF m 204 #[vR a1, vI p1, vI p2, vI p3, vI 1, vI nx, vI 0, vD 0, .second, vI 0, vD lo_894, .second, vD hi_894, .second, vI i_894, u_894, v_894] [])) _
            refine own_sload X925.here hx (hb hby d8_204) rfl ?_
            show Steps p.tables e below (T925.setTop (mkF m 206 #[vR a1, vI p1, vI p2, vI p3, vI 1, vI nx, vI 0, vD 0, .second, vI 0, vD lo_894, .second, vD hi_894, .second, vI i_894, u_894, v_894] [(.double hi_894)])) _
            refine own_sload X925.here hx (hb hby d8_206) rfl ?_
            show Steps p.tables e below (T925.setTop (mkF m 208 #[vR a1, vI p1, vI p2, vI p3, vI 1, vI nx, vI 0, vD 0, .second, vI 0, vD lo_894, .second, vD hi_894, .second, vI i_894, u_894, v_894] [(.double lo_894), (.double hi_894)])) _
            refine own_ssub X925.here hx (hb hby d8_208) (Jvm.Free.Fl.val64_no.mpr (Jvm.Free.Fl.val64_no.mp (Jvm.Free.Fl.dsub_out fh894.noNaN fl894))) ?_
            show Steps p.tables e below (T925.setTop (mkF m 209 #[vR a1, vI p1, vI p2, vI p3, vI 1, vI nx, vI 0, vD 0, .second, vI 0, vD lo_894, .second, vD hi_894, .second, vI i_894, u_894, v_894] [(.double (FP.dsub hi_894 lo_894))])) _
            refine own_sstore X925.here hx (l' := #[vR a1, vI p1, vI p2, vI p3, vI 1, vI nx, vI 0, vD (FP.dsub hi_894 lo_894), .second, vI 0, vD lo_894, .second, vD hi_894, .second, vI i_894, u_894, v_894]) (hb hby d8_209) rfl ?_
            exact kt
          · rw [show v952 = (0 : UInt64) from by rw [hv952, if_neg hc951]] at kt
            show Steps p.tables e below (T925.setTop (mkF m 197 #[vR a1, vI p1, vI p2, vI p3, vI 1, vI nx, vI 0, vD 0, .second, vI 0, vD lo_894, .second, vD hi_894, .second, vI i_894, u_894, v_894] [(.int cw)])) _
            refine XS.ifYes X925.here hx rfl (pc0 := 197) (pc' := 211) rfl (hb hby d8_197) rfl ((if0 _ _).trans (flt hc951).2.2.2) (by decide) (by decide) ?_
            exact kt
        show Steps p.tables e below (T925.setTop (mkF m 211 #[vR a1, vI p1, vI p2, vI p3, vI 1, vI nx, vI 0, vD v952, .second, vI 0, vD lo_894, .second, vD hi_894, .second, vI i_894, u_894, v_894] [])) _
        refine XS.iinc X925.here hx rfl (hb hby d8_211) rfl (l' := #[vR a1, vI p1, vI p2, vI p3, vI 1, vI nx, vI 0, vD v952, .second, vI 1, vD lo_894, .second, vD hi_894, .second, vI i_894, u_894, v_894]) rfl ?_
        refine XS.goto X925.here hx rfl (pc0 := 214) (pc' := 79) rfl (hb hby d8_214) (by decide) (by decide) ?_
        refine XS.iload X925.here hx rfl (hb hby d8_79) rfl ?_
        refine XS.iload X925.here hx rfl (hb hby d8_81) rfl ?_
        refine XS.icmpYes X925.here hx rfl (pc0 := 83) (pc' := 217) rfl (hb hby d8_83) rfl (flt (by decide)).2.1 (by decide) (by decide) ?_
        refine XS.iloadN X925.here hx rfl (hb hby d8_217) rfl ?_
        refine XS.iloadN X925.here hx rfl (hb hby d8_218) rfl ?_
        show Steps p.tables e below (T925.setTop (mkF m 219 #[vR a1, vI p1, vI p2, vI p3, vI 1, vI nx, vI 0, vD v952, .second, vI 1, vD lo_894, .second, vD hi_894, .second, vI i_894, u_894, v_894] [(.int p1), (.int p2)])) _
        refine XS.isub X925.here hx rfl (hb hby d8_219) rfl ?_
        refine XS.bipush X925.here hx rfl (hb hby d8_220) ?_
        refine XS.icmpNo X925.here hx rfl (hb hby d8_222) rfl (tlt hA).2.2.2 ?_
        show Steps p.tables e below (T925.setTop (mkF m 225 #[vR a1, vI p1, vI p2, vI p3, vI 1, vI nx, vI 0, vD v952, .second, vI 1, vD lo_894, .second, vD hi_894, .second, vI i_894, u_894, v_894] [])) _
        refine own_sload X925.here hx (hb hby d8_225) rfl ?_
        show Steps p.tables e below (T925.setTop (mkF m 227 #[vR a1, vI p1, vI p2, vI p3, vI 1, vI nx, vI 0, vD v952, .second, vI 1, vD lo_894, .second, vD hi_894, .second, vI i_894, u_894, v_894] [(.double v952)])) _
        refine own_szero X925.here hx (hb hby d8_227) ?_
        show Steps p.tables e below (T925.setTop (mkF m 228 #[vR a1, vI p1, vI p2, vI p3, vI 1, vI nx, vI 0, vD v952, .second, vI 1, vD lo_894, .second, vD hi_894, .second, vI i_894, u_894, v_894] [(.double (0 : UInt64)), (.double v952)])) _
        refine own_scmp X925.here hx (z := cx) (hb hby d8_228) hcx ?_
        show Steps p.tables e below (T925.setTop (mkF m 229 #[vR a1, vI p1, vI p2, vI p3, vI 1, vI nx, vI 0, vD v952, .second, vI 1, vD lo_894, .second, vD hi_894, .second, vI i_894, u_894, v_894] [(.int cx)])) _
        refine XS.ifYes X925.here hx rfl (pc0 := 229) (pc' := 283) rfl (hb hby d8_229) rfl ((if0 _ _).trans (flt hB).2.2.2) (by decide) (by decide) ?_
        show Steps p.tables e below (T925.setTop (mkF m 283 #[vR a1, vI p1, vI p2, vI p3, vI 1, vI nx, vI 0, vD v952, .second, vI 1, vD lo_894, .second, vD hi_894, .second, vI i_894, u_894, v_894] [])) _
        exact X925.returnOut hx Bd.returns (hb hby d8_283) hr
      · show Qrm8_2 Z a1 p1 p2 p3 t pts co r x1 x2 x3 x4 x5 gc nx fF fE fU h0 n0 _ T925.heap _
        rw [e925]
        exact ⟨rfl, N949, K950, _, _, _, _, own_rel_leaf _ ⟨rfl, rfl, rfl, rfl⟩, ⟨f935, f942, ⟨_, f943⟩, ⟨_, f936, q0a⟩, f944, f945, f946, ⟨_, f947⟩, ⟨_, f926⟩⟩⟩
  · obtain ⟨fs, hr, hrun, hended, hW, hsame⟩ := X925.leave (v := none) (fun _ => rfl)
    refine ⟨_, _, pre0 _ ?_, hrun, hended, _, _, rfl, ?_, ⟨_, rfl⟩, hW, hsame.mono (by decide) (by decide)⟩
    · show Steps p.tables e below (s₁.setTop (mkF m 0 #[vR a1, vI p1, vI p2, vI p3, .unset, .unset, .unset, .unset, .unset, .unset, .unset, .unset, .unset, .unset, .unset, .unset, .unset] [])) _
      refine XS.aloadN X0.here hx rfl (hb hby d8_0) rfl rfl ?_
      show Steps p.tables e below (s₁.setTop (mkF m 1 #[vR a1, vI p1, vI p2, vI p3, .unset, .unset, .unset, .unset, .unset, .unset, .unset, .unset, .unset, .unset, .unset, .unset, .unset] [(.ref a1)])) _
      refine st750 _ ?_
      show Steps p.tables e below (T750.setTop (mkF m 4 #[vR a1, vI p1, vI p2, vI p3, .unset, .unset, .unset, .unset, .unset, .unset, .unset, .unset, .unset, .unset, .unset, .unset, .unset] [(.ref t)])) _
      refine st751 _ ?_
      show Steps p.tables e below (T751.setTop (mkF m 7 #[vR a1, vI p1, vI p2, vI p3, .unset, .unset, .unset, .unset, .unset, .unset, .unset, .unset, .unset, .unset, .unset, .unset, .unset] [(.ref pts)])) _
      refine st752.trans ?_
      show Steps p.tables e below (T752.setTop (mkF m 10 #[vR a1, vI p1, vI p2, vI p3, .unset, .unset, .unset, .unset, .unset, .unset, .unset, .unset, .unset, .unset, .unset, .unset, .unset] [(.int (1 : Int32))])) _
      refine XS.istore X752.here hx rfl (hb hby d8_10) rfl (l' := #[vR a1, vI p1, vI p2, vI p3, vI 1, .unset, .unset, .unset, .unset, .unset, .unset, .unset, .unset, .unset, .unset, .unset, .unset]) rfl ?_
      refine XS.aloadN X752.here hx rfl (hb hby d8_12) rfl rfl ?_
      refine XS.dup X752.here hx rfl (hb hby d8_13) rfl rfl ?_
      show Steps p.tables e below (T752.setTop (mkF m 14 #[vR a1, vI p1, vI p2, vI p3, vI 1, .unset, .unset, .unset, .unset, .unset, .unset, .unset, .unset, .unset, .unset, .unset, .unset] [(.ref a1), (.ref a1)])) _
      refine st754 _ ?_
      show Steps p.tables e below (T754.setTop (mkF m 17 #[vR a1, vI p1, vI p2, vI p3, vI 1, .unset, .unset, .unset, .unset, .unset, .unset, .unset, .unset, .unset, .unset, .unset, .unset] [(.int nx), (.ref a1)])) _
      refine XS.dupX1 X754.here hx rfl (hb hby d8_17) rfl rfl rfl ?_
      refine XS.iconst X754.here hx rfl (hb hby d8_18) ?_
      refine XS.iadd X754.here hx rfl (hb hby d8_19) rfl ?_
      show Steps p.tables e below (T754.setTop (mkF m 20 #[vR a1, vI p1, vI p2, vI p3, vI 1, .unset, .unset, .unset, .unset, .unset, .unset, .unset, .unset, .unset, .unset, .unset, .unset] [(.int (nx + (1 : Int32))), (.ref a1), (.int nx)])) _
      refine st755 _ ?_
      show Steps p.tables e below (T755.setTop (mkF m 23 #[vR a1, vI p1, vI p2, vI p3, vI 1, .unset, .unset, .unset, .unset, .unset, .unset, .unset, .unset, .unset, .unset, .unset, .unset] [(.int nx)])) _
      refine XS.istore X755.here hx rfl (hb hby d8_23) rfl (l' := #[vR a1, vI p1, vI p2, vI p3, vI 1, vI nx, .unset, .unset, .unset, .unset, .unset, .unset, .unset, .unset, .unset, .unset, .unset]) rfl ?_
      refine XS.aloadN X755.here hx rfl (hb hby d8_25) rfl rfl ?_
      refine XS.aloadN X755.here hx rfl (hb hby d8_26) rfl rfl ?_
      show Steps p.tables e below (T755.setTop (mkF m 27 #[vR a1, vI p1, vI p2, vI p3, vI 1, vI nx, .unset, .unset, .unset, .unset, .unset, .unset, .unset, .unset, .unset, .unset, .unset] [(.ref a1), (.ref a1)])) _
      refine st781 _ ?_
      show Steps p.tables e below (T781.setTop (mkF m 30 #[vR a1, vI p1, vI p2, vI p3, vI 1, vI nx, .unset, .unset, .unset, .unset, .unset, .unset, .unset, .unset, .unset, .unset, .unset] [(.int dpa), (.ref a1)])) _
      refine XS.iloadN X781.here hx rfl (hb hby d8_30) rfl ?_
      show Steps p.tables e below (T781.setTop (mkF m 31 #[vR a1, vI p1, vI p2, vI p3, vI 1, vI nx, .unset, .unset, .unset, .unset, .unset, .unset, .unset, .unset, .unset, .unset, .unset] [(.int p3), (.int dpa), (.ref a1)])) _
      refine st782 _ ?_
      show Steps p.tables e below (T782.setTop (mkF m 34 #[vR a1, vI p1, vI p2, vI p3, vI 1, vI nx, .unset, .unset, .unset, .unset, .unset, .unset, .unset, .unset, .unset, .unset, .unset] [(.int (own_max dpa p3)), (.ref a1)])) _
      refine st784 _ ?_
      show Steps p.tables e below (T784.setTop (mkF m 37 #[vR a1, vI p1, vI p2, vI p3, vI 1, vI nx, .unset, .unset, .unset, .unset, .unset, .unset, .unset, .unset, .unset, .unset, .unset] [])) _
      refine XS.aloadN X784.here hx rfl (hb hby d8_37) rfl rfl ?_
      show Steps p.tables e below (T784.setTop (mkF m 38 #[vR a1, vI p1, vI p2, vI p3, vI 1, vI nx, .unset, .unset, .unset, .unset, .unset, .unset, .unset, .unset, .unset, .unset, .unset] [(.ref a1)])) _
      refine st810 _ ?_
      show Steps p.tables e below (T810.setTop (mkF m 41 #[vR a1, vI p1, vI p2, vI p3, vI 1, vI nx, .unset, .unset, .unset, .unset, .unset, .unset, .unset, .unset, .unset, .unset, .unset] [(.ref t)])) _
      refine st811 _ ?_
      show Steps p.tables e below (T811.setTop (mkF m 44 #[vR a1, vI p1, vI p2, vI p3, vI 1, vI nx, .unset, .unset, .unset, .unset, .unset, .unset, .unset, .unset, .unset, .unset, .unset] [(.ref x1)])) _
      refine XS.iload X811.here hx rfl (hb hby d8_44) rfl ?_
      refine XS.iloadN X811.here hx rfl (hb hby d8_46) rfl ?_
      show Steps p.tables e below (T811.setTop (mkF m 47 #[vR a1, vI p1, vI p2, vI p3, vI 1, vI nx, .unset, .unset, .unset, .unset, .unset, .unset, .unset, .unset, .unset, .unset, .unset] [(.int p1), (.int nx), (.ref x1)])) _
      refine st812 _ ?_
      show Steps p.tables e below (T812.setTop (mkF m 48 #[vR a1, vI p1, vI p2, vI p3, vI 1, vI nx, .unset, .unset, .unset, .unset, .unset, .unset, .unset, .unset, .unset, .unset, .unset] [])) _
      refine XS.aloadN X812.here hx rfl (hb hby d8_48) rfl rfl ?_
      show Steps p.tables e below (T812.setTop (mkF m 49 #[vR a1, vI p1, vI p2, vI p3, vI 1, vI nx, .unset, .unset, .unset, .unset, .unset, .unset, .unset, .unset, .unset, .unset, .unset] [(.ref a1)])) _
      refine st838 _ ?_
      show Steps p.tables e below (T838.setTop (mkF m 52 #[vR a1, vI p1, vI p2, vI p3, vI 1, vI nx, .unset, .unset, .unset, .unset, .unset, .unset, .unset, .unset, .unset, .unset, .unset] [(.ref t)])) _
      refine st839 _ ?_
      show Steps p.tables e below (T839.setTop (mkF m 55 #[vR a1, vI p1, vI p2, vI p3, vI 1, vI nx, .unset, .unset, .unset, .unset, .unset, .unset, .unset, .unset, .unset, .unset, .unset] [(.ref x2)])) _
      refine XS.iload X839.here hx rfl (hb hby d8_55) rfl ?_
      refine XS.iloadN X839.here hx rfl (hb hby d8_57) rfl ?_
      show Steps p.tables e below (T839.setTop (mkF m 58 #[vR a1, vI p1, vI p2, vI p3, vI 1, vI nx, .unset, .unset, .unset, .unset, .unset, .unset, .unset, .unset, .unset, .unset, .unset] [(.int p2), (.int nx), (.ref x2)])) _
      refine st840 _ ?_
      show Steps p.tables e below (T840.setTop (mkF m 59 #[vR a1, vI p1, vI p2, vI p3, vI 1, vI nx, .unset, .unset, .unset, .unset, .unset, .unset, .unset, .unset, .unset, .unset, .unset] [])) _
      refine XS.aloadN X840.here hx rfl (hb hby d8_59) rfl rfl ?_
      show Steps p.tables e below (T840.setTop (mkF m 60 #[vR a1, vI p1, vI p2, vI p3, vI 1, vI nx, .unset, .unset, .unset, .unset, .unset, .unset, .unset, .unset, .unset, .unset, .unset] [(.ref a1)])) _
      refine st866 _ ?_
      show Steps p.tables e below (T866.setTop (mkF m 63 #[vR a1, vI p1, vI p2, vI p3, vI 1, vI nx, .unset, .unset, .unset, .unset, .unset, .unset, .unset, .unset, .unset, .unset, .unset] [(.ref t)])) _
      refine st867 _ ?_
      show Steps p.tables e below (T867.setTop (mkF m 66 #[vR a1, vI p1, vI p2, vI p3, vI 1, vI nx, .unset, .unset, .unset, .unset, .unset, .unset, .unset, .unset, .unset, .unset, .unset] [(.ref x3)])) _
      refine XS.iload X867.here hx rfl (hb hby d8_66) rfl ?_
      refine XS.iconst X867.here hx rfl (hb hby d8_68) ?_
      show Steps p.tables e below (T867.setTop (mkF m 69 #[vR a1, vI p1, vI p2, vI p3, vI 1, vI nx, .unset, .unset, .unset, .unset, .unset, .unset, .unset, .unset, .unset, .unset, .unset] [(.int (-1 : Int32)), (.int nx), (.ref x3)])) _
      refine st868 _ ?_
      show Steps p.tables e below (T868.setTop (mkF m 70 #[vR a1, vI p1, vI p2, vI p3, vI 1, vI nx, .unset, .unset, .unset, .unset, .unset, .unset, .unset, .unset, .unset, .unset, .unset] [])) _
      refine XS.iconst X868.here hx rfl (hb hby d8_70) ?_
      refine XS.istore X868.here hx rfl (hb hby d8_71) rfl (l' := #[vR a1, vI p1, vI p2, vI p3, vI 1, vI nx, vI 0, .unset, .unset, .unset, .unset, .unset, .unset, .unset, .unset, .unset, .unset]) rfl ?_
      show Steps p.tables e below (T868.setTop (mkF m 73 #[vR a1, vI p1, vI p2, vI p3, vI 1, vI nx, vI 0, .unset, .unset, .unset, .unset, .unset, .unset, .unset, .unset, .unset, .unset] [])) _
      refine own_szero X868.here hx (hb hby d8_73) ?_
      show Steps p.tables e below (T868.setTop (mkF m 74 #[vR a1, vI p1, vI p2, vI p3, vI 1, vI nx, vI 0, .unset, .unset, .unset, .unset, .unset, .unset, .unset, .unset, .unset, .unset] [(.double (0 : UInt64))])) _
      refine own_sstore X868.here hx (l' := #[vR a1, vI p1, vI p2, vI p3, vI 1, vI nx, vI 0, vD 0, .second, .unset, .unset, .unset, .unset, .unset, .unset, .unset, .unset]) (hb hby d8_74) rfl ?_
      show Steps p.tables e below (T868.setTop (mkF m 76 #[vR a1, vI p1, vI p2, vI p3, vI 1, vI nx, vI 0, vD 0, .second, .unset, .unset, .unset, .unset, .unset, .unset, .unset, .unset] [])) _
      refine XS.iconst X868.here hx rfl (hb hby d8_76) ?_
      refine XS.istore X868.here hx rfl (hb hby d8_77) rfl (l' := #[vR a1, vI p1, vI p2, vI p3, vI 1, vI nx, vI 0, vD 0, .second, vI 0, .unset, .unset, .unset, .unset, .unset, .unset, .unset]) rfl ?_
      refine XS.iload X868.here hx rfl (hb hby d8_79) rfl ?_
      refine XS.iload X868.here hx rfl (hb hby d8_81) rfl ?_
      refine XS.icmpNo X868.here hx rfl (hb hby d8_83) rfl (tlt (by decide)).2.1 ?_
      show Steps p.tables e below (T868.setTop (mkF m 86 #[vR a1, vI p1, vI p2, vI p3, vI 1, vI nx, vI 0, vD 0, .second, vI 0, .unset, .unset, .unset, .unset, .unset, .unset, .unset] [])) _
      refine X868.ldc2DoubleC hx hown (mvT hZ (wd hw 93 rfl)) (g := (mkF m 86 #[vR a1, vI p1, vI p2, vI p3, vI 1, vI nx, vI 0, vD 0, .second, vI 0, .unset, .unset, .unset, .unset, .unset, .unset, .unset] [])) rfl (hb hby d8_86) _ ?_
      show Steps p.tables e below (T868.setTop (mkF m 89 #[vR a1, vI p1, vI p2, vI p3, vI 1, vI nx, vI 0, vD 0, .second, vI 0, .unset, .unset, .unset, .unset, .unset, .unset, .unset] [(.double (9218868437227405312 : UInt64))])) _
      refine own_sstore X868.here hx (l' := #[vR a1, vI p1, vI p2, vI p3, vI 1, vI nx, vI 0, vD 0, .second, vI 0, vD 9218868437227405312, .second, .unset, .unset, .unset, .unset, .unset]) (hb hby d8_89) rfl ?_
      show Steps p.tables e below (T868.setTop (mkF m 91 #[vR a1, vI p1, vI p2, vI p3, vI 1, vI nx, vI 0, vD 0, .second, vI 0, vD 9218868437227405312, .second, .unset, .unset, .unset, .unset, .unset] [])) _
      refine X868.ldc2DoubleC hx hown (mvT hZ (wd hw 94 rfl)) (g := (mkF m 91 #[vR a1, vI p1, vI p2, vI p3, vI 1, vI nx, vI 0, vD 0, .second, vI 0, vD 9218868437227405312, .second, .unset, .unset, .unset, .unset, .unset] [])) rfl (hb hby d8_91) _ ?_
      show Steps p.tables e below (T868.setTop (mkF m 94 #[vR a1, vI p1, vI p2, vI p3, vI 1, vI nx, vI 0, vD 0, .second, vI 0, vD 9218868437227405312, .second, .unset, .unset, .unset, .unset, .unset] [(.double (18442240474082181120 : UInt64))])) _
      refine own_sstore X868.here hx (l' := #[vR a1, vI p1, vI p2, vI p3, vI 1, vI nx, vI 0, vD 0, .second, vI 0, vD 9218868437227405312, .second, vD 18442240474082181120, .second, .unset, .unset, .unset]) (hb hby d8_94) rfl ?_
      show Steps p.tables e below (T868.setTop (mkF m 96 #[vR a1, vI p1, vI p2, vI p3, vI 1, vI nx, vI 0, vD 0, .second, vI 0, vD 9218868437227405312, .second, vD 18442240474082181120, .second, .unset, .unset, .unset] [])) _
      refine XS.iloadN X868.here hx rfl (hb hby d8_96) rfl ?_
      refine XS.istore X868.here hx rfl (hb hby d8_97) rfl (l' := #[vR a1, vI p1, vI p2, vI p3, vI 1, vI nx, vI 0, vD 0, .second, vI 0, vD 9218868437227405312, .second, vD 18442240474082181120, .second, vI p1, .unset, .unset]) rfl ?_
      show Steps p.tables e below (T868.setTop (mkF m 99 #[vR a1, vI p1, vI p2, vI p3, vI 1, vI nx, vI 0, vD 0, .second, vI 0, vD 9218868437227405312, .second, vD 18442240474082181120, .second, vI p1, .unset, .unset] [])) _
      refine st894 _ ?_
      show Steps p.tables e below (T894.setTop (mkF m 153 #[vR a1, vI p1, vI p2, vI p3, vI 1, vI nx, vI 0, vD 0, .second, vI 0, vD lo_894, .second, vD hi_894, .second, vI i_894, u_894, v_894] [])) _
      refine XS.aloadN X894.here hx rfl (hb hby d8_153) rfl rfl ?_
      show Steps p.tables e below (T894.setTop (mkF m 154 #[vR a1, vI p1, vI p2, vI p3, vI 1, vI nx, vI 0, vD 0, .second, vI 0, vD lo_894, .second, vD hi_894, .second, vI i_894, u_894, v_894] [(.ref a1)])) _
      refine st895 _ ?_
      show Steps p.tables e below (T895.setTop (mkF m 157 #[vR a1, vI p1, vI p2, vI p3, vI 1, vI nx, vI 0, vD 0, .second, vI 0, vD lo_894, .second, vD hi_894, .second, vI i_894, u_894, v_894] [(.ref t)])) _
      refine st896 _ ?_
      show Steps p.tables e below (T896.setTop (mkF m 160 #[vR a1, vI p1, vI p2, vI p3, vI 1, vI nx, vI 0, vD 0, .second, vI 0, vD lo_894, .second, vD hi_894, .second, vI i_894, u_894, v_894] [(.ref x4)])) _
      refine XS.iload X896.here hx rfl (hb hby d8_160) rfl ?_
      refine XS.iload X896.here hx rfl (hb hby d8_162) rfl ?_
      refine XS.imul X896.here hx rfl (hb hby d8_164) rfl ?_
      refine XS.iload X896.here hx rfl (hb hby d8_165) rfl ?_
      refine XS.iadd X896.here hx rfl (hb hby d8_167) rfl ?_
      show Steps p.tables e below (T896.setTop (mkF m 168 #[vR a1, vI p1, vI p2, vI p3, vI 1, vI nx, vI 0, vD 0, .second, vI 0, vD lo_894, .second, vD hi_894, .second, vI i_894, u_894, v_894] [(.int ((nx * (1 : Int32)) + (0 : Int32))), (.ref x4)])) _
      refine own_sload X896.here hx (hb hby d8_168) rfl ?_
      show Steps p.tables e below (T896.setTop (mkF m 170 #[vR a1, vI p1, vI p2, vI p3, vI 1, vI nx, vI 0, vD 0, .second, vI 0, vD lo_894, .second, vD hi_894, .second, vI i_894, u_894, v_894] [(.double lo_894), (.int ((nx * (1 : Int32)) + (0 : Int32))), (.ref x4)])) _
      rw [own_idx]
      show Steps p.tables e below (T896.setTop (mkF m 170 #[vR a1, vI p1, vI p2, vI p3, vI 1, vI nx, vI 0, vD 0, .second, vI 0, vD lo_894, .second, vD hi_894, .second, vI i_894, u_894, v_894] [(.double lo_894), (.int nx), (.ref x4)])) _
      refine st897 _ ?_
      show Steps p.tables e below (T897.setTop (mkF m 171 #[vR a1, vI p1, vI p2, vI p3, vI 1, vI nx, vI 0, vD 0, .second, vI 0, vD lo_894, .second, vD hi_894, .second, vI i_894, u_894, v_894] [])) _
      refine XS.aloadN X897.here hx rfl (hb hby d8_171) rfl rfl ?_
      show Steps p.tables e below (T897.setTop (mkF m 172 #[vR a1, vI p1, vI p2, vI p3, vI 1, vI nx, vI 0, vD 0, .second, vI 0, vD lo_894, .second, vD hi_894, .second, vI i_894, u_894, v_894] [(.ref a1)])) _
      refine st923 _ ?_
      show Steps p.tables e below (T923.setTop (mkF m 175 #[vR a1, vI p1, vI p2, vI p3, vI 1, vI nx, vI 0, vD 0, .second, vI 0, vD lo_894, .second, vD hi_894, .second, vI i_894, u_894, v_894] [(.ref t)])) _
      refine st924 _ ?_
      show Steps p.tables e below (T924.setTop (mkF m 178 #[vR a1, vI p1, vI p2, vI p3, vI 1, vI nx, vI 0, vD 0, .second, vI 0, vD lo_894, .second, vD hi_894, .second, vI i_894, u_894, v_894] [(.ref x5)])) _
      refine XS.iload X924.here hx rfl (hb hby d8_178) rfl ?_
      refine XS.iload X924.here hx rfl (hb hby d8_180) rfl ?_
      refine XS.imul X924.here hx rfl (hb hby d8_182) rfl ?_
      refine XS.iload X924.here hx rfl (hb hby d8_183) rfl ?_
      refine XS.iadd X924.here hx rfl (hb hby d8_185) rfl ?_
      show Steps p.tables e below (T924.setTop (mkF m 186 #[vR a1, vI p1, vI p2, vI p3, vI 1, vI nx, vI 0, vD 0, .second, vI 0, vD lo_894, .second, vD hi_894, .second, vI i_894, u_894, v_894] [(.int ((nx * (1 : Int32)) + (0 : Int32))), (.ref x5)])) _
      refine own_sload X924.here hx (hb hby d8_186) rfl ?_
      show Steps p.tables e below (T924.setTop (mkF m 188 #[vR a1, vI p1, vI p2, vI p3, vI 1, vI nx, vI 0, vD 0, .second, vI 0, vD lo_894, .second, vD hi_894, .second, vI i_894, u_894, v_894] [(.double hi_894), (.int ((nx * (1 : Int32)) + (0 : Int32))), (.ref x5)])) _
      rw [own_idx]
      show Steps p.tables e below (T924.setTop (mkF m 188 #[vR a1, vI p1, vI p2, vI p3, vI 1, vI nx, vI 0, vD 0, .second, vI 0, vD lo_894, .second, vD hi_894, .second, vI i_894, u_894, v_894] [(.double hi_894), (.int nx), (.ref x5)])) _
      refine st925 _ ?_
      show Steps p.tables e below (T925.setTop (mkF m 189 #[vR a1, vI p1, vI p2, vI p3, vI 1, vI nx, vI 0, vD 0, .second, vI 0, vD lo_894, .second, vD hi_894, .second, vI i_894, u_894, v_894] [])) _
      refine own_sload X925.here hx (hb hby d8_189) rfl ?_
      show Steps p.tables e below (T925.setTop (mkF m 191 #[vR a1, vI p1, vI p2, vI p3, vI 1, vI nx, vI 0, vD 0, .second, vI 0, vD lo_894, .second, vD hi_894, .second, vI i_894, u_894, v_894] [(.double hi_894)])) _
      refine own_sload X925.here hx (hb hby d8_191) rfl ?_
      show Steps p.tables e below (T925.setTop (mkF m 193 #[vR a1, vI p1, vI p2, vI p3, vI 1, vI nx, vI 0, vD 0, .second, vI 0, vD lo_894, .second, vD hi_894, .second, vI i_894, u_894, v_894] [(.double lo_894), (.double hi_894)])) _
      refine own_ssub X925.here hx (hb hby d8_193) (Jvm.Free.Fl.val64_no.mpr (Jvm.Free.Fl.val64_no.mp (Jvm.Free.Fl.dsub_out fh894.noNaN fl894))) ?_
      show Steps p.tables e below (T925.setTop (mkF m 194 #[vR a1, vI p1, vI p2, vI p3, vI 1, vI nx, vI 0, vD 0, .second, vI 0, vD lo_894, .second, vD hi_894, .second, vI i_894, u_894, v_894] [(.double (FP.dsub hi_894 lo_894))])) _
      refine own_sload X925.here hx (hb hby d8_194) rfl ?_
      show Steps p.tables e below (T925.setTop (mkF m 196 #[vR a1, vI p1, vI p2, vI p3, vI 1, vI nx, vI 0, vD 0, .second, vI 0, vD lo_894, .second, vD hi_894, .second, vI i_894, u_894, v_894] [(.double (0 : UInt64)), (.double (FP.dsub hi_894 lo_894))])) _
      refine own_scmp X925.here hx (z := cw) (hb hby d8_196) hcw ?_
      refine joinS (B := T925.setTop (mkF m 211 #[vR a1, vI p1, vI p2, vI p3, vI 1, vI nx, vI 0, vD v952, .second, vI 0, vD lo_894, .second, vD hi_894, .second, vI i_894, u_894, v_894] [])) (fun kt => ?_) ?_
      · by_cases hc951 : (0 : Int32) < cw
        · rw [show v952 = (FP.dsub hi_894 lo_894) from by rw [hv952, if_pos hc951]] at kt
          show Steps p.tables e below (T925.setTop (mkF m 197 #[vR a1, vI p1, vI p2, vI p3, vI 1, vI nx, vI 0, vD 0, .second, vI 0, vD lo_894, .second, vD hi_894, .second, vI i_894, u_894, v_894] [(.int cw)])) _
          refine XS.ifNo X925.here hx rfl (hb hby d8_197) rfl ((if0 _ _).trans (tlt hc951).2.2.2) ?_
          refine XS.iload X925.here hx rfl (hb hby d8_200) rfl ?_
          refine XS.istore X925.here hx rfl (hb hby d8_202) rfl (l' := #[vR a1, vI p1, vI p2, vI p3, vI 1, vI nx, vI 0, vD 0, .second, vI 0, vD lo_894, .second, vD hi_894, .second, vI i_894, u_894, v_894]) rfl ?_
          show Steps p.tables e below (T925.setTop (mkF m 204 #[vR a1, vI p1, vI p2, vI p3, vI 1, vI nx, vI 0, vD 0, .second, vI 0, vD lo_894, .second, vD hi_894, .second, vI i_894, u_894, v_894] [])) _
          refine own_sload X925.here hx (hb hby d8_204) rfl ?_
          show Steps p.tables e below (T925.setTop (mkF m 206 #[vR a1, vI p1, vI p2, vI p3, vI 1, vI nx, vI 0, vD 0, .second, vI 0, vD lo_894, .second, vD hi_894, .second, vI i_894, u_894, v_894] [(.double hi_894)])) _
          refine own_sload X925.here hx (hb hby d8_206) rfl ?_
          show Steps p.tables e below (T925.setTop (mkF m 208 #[vR a1, vI p1, vI p2, vI p3, vI 1, vI nx, vI 0, vD 0, .second, vI 0, vD lo_894, .second, vD hi_894, .second, vI i_894, u_894, v_894] [(.double lo_894), (.double hi_894)])) _
          refine own_ssub X925.here hx (hb hby d8_208) (Jvm.Free.Fl.val64_no.mpr (Jvm.Free.Fl.val64_no.mp (Jvm.Free.Fl.dsub_out fh894.noNaN fl894))) ?_
          show Steps p.tables e below (T925.setTop (mkF m 209 #[vR a1, vI p1, vI p2, vI p3, vI 1, vI nx, vI 0, vD 0, .second, vI 0, vD lo_894, .second, vD hi_894, .second, vI i_894, u_894, v_894] [(.double (FP.dsub hi_894 lo_894))])) _
          refine own_sstore X925.here hx (l' := #[vR a1, vI p1, vI p2, vI p3, vI 1, vI nx, vI 0, vD (FP.dsub hi_894 lo_894), .second, vI 0, vD lo_894, .second, vD hi_894, .second, vI i_894, u_894, v_894]) (hb hby d8_209) rfl ?_
          exact kt
        · rw [show v952 = (0 : UInt64) from by rw [hv952, if_neg hc951]] at kt
          show Steps p.tables e below (T925.setTop (mkF m 197 #[vR a1, vI p1, vI p2, vI p3, vI 1, vI nx, vI 0, vD 0, .second, vI 0, vD lo_894, .second, vD hi_894, .second, vI i_894, u_894, v_894] [(.int cw)])) _
          refine XS.ifYes X925.here hx rfl (pc0 := 197) (pc' := 211) rfl (hb hby d8_197) rfl ((if0 _ _).trans (flt hc951).2.2.2) (by decide) (by decide) ?_
          exact kt
      show Steps p.tables e below (T925.setTop (mkF m 211 #[vR a1, vI p1, vI p2, vI p3, vI 1, vI nx, vI 0, vD v952, .second, vI 0, vD lo_894, .second, vD hi_894, .second, vI i_894, u_894, v_894] [])) _
      refine XS.iinc X925.here hx rfl (hb hby d8_211) rfl (l' := #[vR a1, vI p1, vI p2, vI p3, vI 1, vI nx, vI 0, vD v952, .second, vI 1, vD lo_894, .second, vD hi_894, .second, vI i_894, u_894, v_894]) rfl ?_
      refine XS.goto X925.here hx rfl (pc0 := 214) (pc' := 79) rfl (hb hby d8_214) (by decide) (by decide) ?_
      refine XS.iload X925.here hx rfl (hb hby d8_79) rfl ?_
      refine XS.iload X925.here hx rfl (hb hby d8_81) rfl ?_
      refine XS.icmpYes X925.here hx rfl (pc0 := 83) (pc' := 217) rfl (hb hby d8_83) rfl (flt (by decide)).2.1 (by decide) (by decide) ?_
      refine XS.iloadN X925.here hx rfl (hb hby d8_217) rfl ?_
      refine XS.iloadN X925.here hx rfl (hb hby d8_218) rfl ?_
      show Steps p.tables e below (T925.setTop (mkF m 219 #[vR a1, vI p1, vI p2, vI p3, vI 1, vI nx, vI 0, vD v952, .second, vI 1, vD lo_894, .second, vD hi_894, .second, vI i_894, u_894, v_894] [(.int p1), (.int p2)])) _
      refine XS.isub X925.here hx rfl (hb hby d8_219) rfl ?_
      refine XS.bipush X925.here hx rfl (hb hby d8_220) ?_
      refine XS.icmpYes X925.here hx rfl (pc0 := 222) (pc' := 283) rfl (hb hby d8_222) rfl (flt hA).2.2.2 (by decide) (by decide) ?_
      show Steps p.tables e below (T925.setTop (mkF m 283 #[vR a1, vI p1, vI p2, vI p3, vI 1, vI nx, vI 0, vD v952, .second, vI 1, vD lo_894, .second, vD hi_894, .second, vI i_894, u_894, v_894] [])) _
      exact X925.returnOut hx Bd.returns (hb hby d8_283) hr
    · show Qrm8_2 Z a1 p1 p2 p3 t pts co r x1 x2 x3 x4 x5 gc nx fF fE fU h0 n0 _ T925.heap _
      rw [e925]
      exact ⟨rfl, N949, K950, _, _, _, _, own_rel_leaf _ ⟨rfl, rfl, rfl, rfl⟩, ⟨f935, f942, ⟨_, f943⟩, ⟨_, f936, q0a⟩, f944, f945, f946, ⟨_, f947⟩, ⟨_, f926⟩⟩⟩
theorem d5_0 : decode prog_53_method_1_code 0 = .ok (.aload_n 0, 1) := by decide +kernel
theorem d5_1 : decode prog_53_method_1_code 1 = .ok (.invokespecial 1, 3) := by decide +kernel
theorem d5_4 : decode prog_53_method_1_code 4 = .ok (.aload_n 2, 1) := by decide +kernel
theorem d5_5 : decode prog_53_method_1_code 5 = .ok (.arraylength, 1) := by decide +kernel
theorem d5_6 : decode prog_53_method_1_code 6 = .ok (.istore_n 3, 1) := by decide +kernel
theorem d5_7 : decode prog_53_method_1_code 7 = .ok (.aload_n 1, 1) := by decide +kernel
theorem d5_8 : decode prog_53_method_1_code 8 = .ok (.invokevirtual 7, 3) := by decide +kernel
theorem d5_11 : decode prog_53_method_1_code 11 = .ok (.istore 4, 2) := by decide +kernel
theorem d5_13 : decode prog_53_method_1_code 13 = .ok (.iconst 2, 1) := by decide +kernel
theorem d5_14 : decode prog_53_method_1_code 14 = .ok (.iload_n 3, 1) := by decide +kernel
theorem d5_15 : decode prog_53_method_1_code 15 = .ok (.bipush 16, 2) := by decide +kernel
theorem d5_17 : decode prog_53_method_1_code 17 = .ok (.idiv, 1) := by decide +kernel
theorem d5_18 : decode prog_53_method_1_code 18 = .ok (.imul, 1) := by decide +kernel
theorem d5_19 : decode prog_53_method_1_code 19 = .ok (.iconst 1, 1) := by decide +kernel
theorem d5_20 : decode prog_53_method_1_code 20 = .ok (.iadd, 1) := by decide +kernel
theorem d5_21 : decode prog_53_method_1_code 21 = .ok (.istore 5, 2) := by decide +kernel
theorem d5_23 : decode prog_53_method_1_code 23 = .ok (.aload_n 0, 1) := by decide +kernel
theorem d5_24 : decode prog_53_method_1_code 24 = .ok (.aload_n 1, 1) := by decide +kernel
theorem d5_25 : decode prog_53_method_1_code 25 = .ok (.putfield 15, 3) := by decide +kernel
theorem d5_28 : decode prog_53_method_1_code 28 = .ok (.aload_n 0, 1) := by decide +kernel
theorem d5_29 : decode prog_53_method_1_code 29 = .ok (.aload_n 2, 1) := by decide +kernel
theorem d5_30 : decode prog_53_method_1_code 30 = .ok (.invokevirtual 19, 3) := by decide +kernel
theorem d5_33 : decode prog_53_method_1_code 33 = .ok (.checkcast 20, 3) := by decide +kernel
theorem d5_36 : decode prog_53_method_1_code 36 = .ok (.putfield 25, 3) := by decide +kernel
theorem d5_39 : decode prog_53_method_1_code 39 = .ok (.aload_n 0, 1) := by decide +kernel
theorem d5_40 : decode prog_53_method_1_code 40 = .ok (.iload 5, 2) := by decide +kernel
theorem d5_42 : decode prog_53_method_1_code 42 = .ok (.newarray .int, 2) := by decide +kernel
theorem d5_44 : decode prog_53_method_1_code 44 = .ok (.putfield 28, 3) := by decide +kernel
theorem d5_47 : decode prog_53_method_1_code 47 = .ok (.aload_n 0, 1) := by decide +kernel
theorem d5_48 : decode prog_53_method_1_code 48 = .ok (.iload 5, 2) := by decide +kernel
theorem d5_50 : decode prog_53_method_1_code 50 = .ok (.newarray .int, 2) := by decide +kernel
theorem d5_52 : decode prog_53_method_1_code 52 = .ok (.putfield 31, 3) := by decide +kernel
theorem d5_55 : decode prog_53_method_1_code 55 = .ok (.aload_n 0, 1) := by decide +kernel
theorem d5_56 : decode prog_53_method_1_code 56 = .ok (.iload 5, 2) := by decide +kernel
theorem d5_58 : decode prog_53_method_1_code 58 = .ok (.newarray .int, 2) := by decide +kernel
theorem d5_60 : decode prog_53_method_1_code 60 = .ok (.putfield 34, 3) := by decide +kernel
theorem d5_63 : decode prog_53_method_1_code 63 = .ok (.aload_n 0, 1) := by decide +kernel
theorem d5_64 : decode prog_53_method_1_code 64 = .ok (.iload 5, 2) := by decide +kernel
theorem d5_66 : decode prog_53_method_1_code 66 = .ok (.iload 4, 2) := by decide +kernel
theorem d5_68 : decode prog_53_method_1_code 68 = .ok (.imul, 1) := by decide +kernel
theorem d5_69 : decode prog_53_method_1_code 69 = .ok (.newarray .double, 2) := by decide +kernel
theorem d5_71 : decode prog_53_method_1_code 71 = .ok (.putfield 37, 3) := by decide +kernel
theorem d5_74 : decode prog_53_method_1_code 74 = .ok (.aload_n 0, 1) := by decide +kernel
theorem d5_75 : decode prog_53_method_1_code 75 = .ok (.iload 5, 2) := by decide +kernel
theorem d5_77 : decode prog_53_method_1_code 77 = .ok (.iload 4, 2) := by decide +kernel
theorem d5_79 : decode prog_53_method_1_code 79 = .ok (.imul, 1) := by decide +kernel
theorem d5_80 : decode prog_53_method_1_code 80 = .ok (.newarray .double, 2) := by decide +kernel
theorem d5_82 : decode prog_53_method_1_code 82 = .ok (.putfield 41, 3) := by decide +kernel
theorem d5_85 : decode prog_53_method_1_code 85 = .ok (.new 44, 3) := by decide +kernel
theorem d5_88 : decode prog_53_method_1_code 88 = .ok (.dup, 1) := by decide +kernel
theorem d5_89 : decode prog_53_method_1_code 89 = .ok (.aload_n 0, 1) := by decide +kernel
theorem d5_90 : decode prog_53_method_1_code 90 = .ok (.invokespecial 46, 3) := by decide +kernel
theorem pd__Lcom_example_flatfinder_flatfinder_neighbours_KdTree__V : parseMethodDescriptor "(Lcom/example/flatfinder/flatfinder/neighbours/KdTree;)V" = some ⟨[(.object "com/example/flatfinder/flatfinder/neighbours/KdTree")], none⟩ := by decide +kernel
theorem d5_93 : decode prog_53_method_1_code 93 = .ok (.astore 6, 2) := by decide +kernel
theorem d5_95 : decode prog_53_method_1_code 95 = .ok (.aload 6, 2) := by decide +kernel
theorem d5_97 : decode prog_53_method_1_code 97 = .ok (.iconst 0, 1) := by decide +kernel
theorem d5_98 : decode prog_53_method_1_code 98 = .ok (.iload_n 3, 1) := by decide +kernel
theorem d5_99 : decode prog_53_method_1_code 99 = .ok (.iconst 1, 1) := by decide +kernel
theorem d5_100 : decode prog_53_method_1_code 100 = .ok (.invokevirtual 49, 3) := by decide +kernel
theorem d5_103 : decode prog_53_method_1_code 103 = .ok (.aload_n 0, 1) := by decide +kernel
theorem d5_104 : decode prog_53_method_1_code 104 = .ok (.aload 6, 2) := by decide +kernel
theorem d5_106 : decode prog_53_method_1_code 106 = .ok (.getfield 53, 3) := by decide +kernel
theorem d5_109 : decode prog_53_method_1_code 109 = .ok (.putfield 57, 3) := by decide +kernel
theorem d5_112 : decode prog_53_method_1_code 112 = .ok (.aload_n 0, 1) := by decide +kernel
theorem d5_113 : decode prog_53_method_1_code 113 = .ok (.aload 6, 2) := by decide +kernel
theorem d5_115 : decode prog_53_method_1_code 115 = .ok (.getfield 60, 3) := by decide +kernel
theorem d5_118 : decode prog_53_method_1_code 118 = .ok (.putfield 63, 3) := by decide +kernel
theorem d5_121 : decode prog_53_method_1_code 121 = .ok (.iload_n 3, 1) := by decide +kernel
theorem d5_122 : decode prog_53_method_1_code 122 = .ok (.iload 4, 2) := by decide +kernel
theorem d5_124 : decode prog_53_method_1_code 124 = .ok (.imul, 1) := by decide +kernel
theorem d5_125 : decode prog_53_method_1_code 125 = .ok (.newarray .double, 2) := by decide +kernel
theorem d5_127 : decode prog_53_method_1_code 127 = .ok (.astore 7, 2) := by decide +kernel
theorem d5_129 : decode prog_53_method_1_code 129 = .ok (.aload_n 0, 1) := by decide +kernel
theorem d5_130 : decode prog_53_method_1_code 130 = .ok (.aload_n 1, 1) := by decide +kernel
theorem d5_131 : decode prog_53_method_1_code 131 = .ok (.invokevirtual 64, 3) := by decide +kernel
theorem d5_134 : decode prog_53_method_1_code 134 = .ok (.newarray .int, 2) := by decide +kernel
theorem d5_136 : decode prog_53_method_1_code 136 = .ok (.putfield 67, 3) := by decide +kernel
theorem d5_139 : decode prog_53_method_1_code 139 = .ok (.aload_n 0, 1) := by decide +kernel
theorem d5_140 : decode prog_53_method_1_code 140 = .ok (.getfield 67, 3) := by decide +kernel
theorem d5_143 : decode prog_53_method_1_code 143 = .ok (.iconst (-1), 1) := by decide +kernel
theorem d5_144 : decode prog_53_method_1_code 144 = .ok (.invokestatic 70, 3) := by decide +kernel
theorem pd___II_V : parseMethodDescriptor "([II)V" = some ⟨[(.array .int), .int], none⟩ := by decide +kernel
theorem d5_147 : decode prog_53_method_1_code 147 = .ok (.iconst 0, 1) := by decide +kernel
theorem d5_148 : decode prog_53_method_1_code 148 = .ok (.istore 8, 2) := by decide +kernel
theorem d5_150 : decode prog_53_method_1_code 150 = .ok (.iload 8, 2) := by decide +kernel
theorem d5_152 : decode prog_53_method_1_code 152 = .ok (.iload_n 3, 1) := by decide +kernel
theorem d5_153 : decode prog_53_method_1_code 153 = .ok (.if_icmp .ge 63, 3) := by decide +kernel
theorem d5_156 : decode prog_53_method_1_code 156 = .ok (.iconst 0, 1) := by decide +kernel
theorem d5_157 : decode prog_53_method_1_code 157 = .ok (.istore 9, 2) := by decide +kernel
theorem d5_159 : decode prog_53_method_1_code 159 = .ok (.iload 9, 2) := by decide +kernel
theorem d5_161 : decode prog_53_method_1_code 161 = .ok (.iload 4, 2) := by decide +kernel
theorem d5_163 : decode prog_53_method_1_code 163 = .ok (.if_icmp .ge 33, 3) := by decide +kernel
theorem d5_166 : decode prog_53_method_1_code 166 = .ok (.aload 7, 2) := by decide +kernel
theorem d5_168 : decode prog_53_method_1_code 168 = .ok (.iload 8, 2) := by decide +kernel
theorem d5_170 : decode prog_53_method_1_code 170 = .ok (.iload 4, 2) := by decide +kernel
theorem d5_172 : decode prog_53_method_1_code 172 = .ok (.imul, 1) := by decide +kernel
theorem d5_173 : decode prog_53_method_1_code 173 = .ok (.iload 9, 2) := by decide +kernel
theorem d5_175 : decode prog_53_method_1_code 175 = .ok (.iadd, 1) := by decide +kernel
theorem d5_176 : decode prog_53_method_1_code 176 = .ok (.aload_n 1, 1) := by decide +kernel
theorem d5_177 : decode prog_53_method_1_code 177 = .ok (.aload_n 0, 1) := by decide +kernel
theorem d5_178 : decode prog_53_method_1_code 178 = .ok (.getfield 25, 3) := by decide +kernel
theorem d5_181 : decode prog_53_method_1_code 181 = .ok (.iload 8, 2) := by decide +kernel
theorem d5_183 : decode prog_53_method_1_code 183 = .ok (.iaload, 1) := by decide +kernel
theorem d5_184 : decode prog_53_method_1_code 184 = .ok (.iload 9, 2) := by decide +kernel
theorem d5_186 : decode prog_53_method_1_code 186 = .ok (.invokevirtual 76, 3) := by decide +kernel
theorem d5_189 : decode prog_53_method_1_code 189 = .ok (.dastore, 1) := by decide +kernel
theorem d5_190 : decode prog_53_method_1_code 190 = .ok (.iinc 9 1, 3) := by decide +kernel
theorem d5_193 : decode prog_53_method_1_code 193 = .ok (.goto (-34), 3) := by decide +kernel
theorem d5_196 : decode prog_53_method_1_code 196 = .ok (.aload_n 0, 1) := by decide +kernel
theorem d5_197 : decode prog_53_method_1_code 197 = .ok (.getfield 67, 3) := by decide +kernel
theorem d5_200 : decode prog_53_method_1_code 200 = .ok (.aload_n 0, 1) := by decide +kernel
theorem d5_201 : decode prog_53_method_1_code 201 = .ok (.getfield 25, 3) := by decide +kernel
theorem d5_204 : decode prog_53_method_1_code 204 = .ok (.iload 8, 2) := by decide +kernel
theorem d5_206 : decode prog_53_method_1_code 206 = .ok (.iaload, 1) := by decide +kernel
theorem d5_207 : decode prog_53_method_1_code 207 = .ok (.iload 8, 2) := by decide +kernel
theorem d5_209 : decode prog_53_method_1_code 209 = .ok (.iastore, 1) := by decide +kernel
theorem d5_210 : decode prog_53_method_1_code 210 = .ok (.iinc 8 1, 3) := by decide +kernel
theorem d5_213 : decode prog_53_method_1_code 213 = .ok (.goto (-63), 3) := by decide +kernel
set_option maxRecDepth 65536 in
set_option maxHeartbeats 40000000 in
theorem loopK {p : Program} {l : Launch} {e : Env} {s : State} {m : MethodId} {args : Array Value} {below : List Frame} {meth : Method} {c : Code} {Z : State} {a0 : Array Value} {n0 : Nat} (hw : ∀ d ∈ tables_1, d.before a0 Z = true) (hx : p.tables.exec = Jvm.exec) (hZ : Z.Warmed39 s.vm) (hby : c.code = prog_53_method_1_code) (hml : c.maxLocals = 10) (hown : s.vm.findClass "com/example/flatfinder/flatfinder/neighbours/KdTree" = some m.cls) (t : Addr) (pts : Addr) (co : Addr) (r : Addr) (a3 : Addr) (bu : Addr) (y : Addr) (z : Addr) (gc : Nat → UInt64) (Fg : ∀ i, Jvm.Free.Fl.Fin64 (gc i)) (f0 : Nat → Int32) (q0 : ∀ i, own_ix 66 (f0 i)) (gy0 : n0 ≤ y) (gz0 : n0 ≤ z) (ny_t : t ≠ y) (nz_t : t ≠ z) (ny_pts : pts ≠ y) (nz_pts : pts ≠ z) (ny_co : co ≠ y) (nz_co : co ≠ z) (ny_r : r ≠ y) (nz_r : r ≠ z) (nyz : y ≠ z) :
    ∀ (k : Nat) (i : Int32) (s9 : Slot) (gy : Nat → UInt64) (fz : Nat → Int32) (T : State) (h : Heap) (locs : List Loc) (X0 : Stand p l e ({ frames := 6, cells := 14, slots := 513, locals := 137 } : Room) s m args below meth c T locs 12 444) (e0 : T.heap = h) (N0 : Fr n0 locs) (Z0 : n0 ≤ h.size) (hs9 : own_One s9) (hi : 0 ≤ i.toInt ∧ i.toInt ≤ 66) (Frw : Fld Z h t "com/example/flatfinder/flatfinder/neighbours/KdTree" "rows" "[I" (.ref r)) (Fpl : Fld Z h t "com/example/flatfinder/flatfinder/neighbours/KdTree" "places" "[I" (.ref z)) (Ep : Exa Z h pts "com/example/flatfinder/flatfinder/neighbours/Points") (Fs : Fld Z h pts "com/example/flatfinder/flatfinder/neighbours/Points" "size" "I" (.int (66 : Int32))) (Fd : Fld Z h pts "com/example/flatfinder/flatfinder/neighbours/Points" "dimensions" "I" (.int (1 : Int32))) (Fc : Fld Z h pts "com/example/flatfinder/flatfinder/neighbours/Points" "coordinates" "[D" (.ref co)) (Vc : own_V Z h co .double 66 (fun ii => .double (gc ii))) (V0 : own_V Z h r .int 66 (fun ii => .int (f0 ii))) (Vy : own_V Z h y .double 66 (fun ii => .double (gy ii))) (Fy : ∀ i, Jvm.Free.Fl.Fin64 (gy i)) (Vz : own_V Z h z .int 66 (fun ii => .int (fz ii))) (hk : (66 - i.toInt).toNat < k),
      ∃ (T' : State) (locs' : List Loc) (i' : Int32) (s9' : Slot), Stand p l e ({ frames := 6, cells := 14, slots := 513, locals := 137 } : Room) s m args below meth c T' locs' 12 444 ∧ Fr n0 locs' ∧ Keep h T'.heap [y, z] ∧ own_Fd Z T'.heap y 66 ∧ ∀ target, Steps p.tables e below (T'.setTop (mkF m 216 #[vR t, vR pts, vR a3, vI 66, vI 1, vI 9, vR bu, vR y, vI i', s9'] [])) target → Steps p.tables e below (T.setTop (mkF m 150 #[vR t, vR pts, vR a3, vI 66, vI 1, vI 9, vR bu, vR y, vI i, s9] [])) target := by
  intro k
  induction k with
  | zero => intro i s9 gy fz T h locs X0 e0 N0 Z0 hs9 hi Frw Fpl Ep Fs Fd Fc Vc V0 Vy Fy Vz hk; exact absurd hk (Nat.not_lt_zero _)
  | succ k ih =>
    intro i s9 gy fz T h locs X0 e0 N0 Z0 hs9 hi Frw Fpl Ep Fs Fd Fc Vc V0 Vy Fy Vz hk
    by_cases hg : i < (66 : Int32)
    · have hg' := own_lt.mp hg
      rw [own_66] at hg'
      have hix : own_ix 66 i := ⟨hi.1, by omega⟩
      have hi1 := own_add1 (i := i) (by omega) (by omega)
      have K0 := Keep.refl h [y, z]
      obtain ⟨T1845, X1845, e1845, st1845⟩ := getF X0 hx hZ hown (host := "") (Or.inl (wd hw 55 rfl)) Via.refl e0 Frw (g := (mkF m 178 #[vR t, vR pts, vR a3, vI 66, vI 1, vI 9, vR bu, vR y, vI i, vI 0] [(.ref t), (.ref pts), (.int ((i * (1 : Int32)) + (0 : Int32))), (.ref y)])) rfl rfl (hb hby d5_178)
      obtain ⟨cq1846, kq1846, q1846a, q1846b, q1846c⟩ := isOf hZ e1845 Ep
      obtain ⟨_, _, ⟨T1846, L1846, k1846, n1846⟩, -, X1846, ⟨Lc1846, hQ1846, l1846, y1846, z1846⟩, st1846⟩ := X1845.virtualBack hx (y := (⟨"com/example/flatfinder/flatfinder/neighbours/Points", "coordinate", "(II)D"⟩ : MethodName)) (z := (⟨"com/example/flatfinder/flatfinder/neighbours/Points", "coordinate", "(II)D"⟩ : MethodName)) hown (mvT hZ (wd hw 134 rfl)) (mvT hZ (wd hw 97 rfl)) (notFace_of_selects (args := #[]) (mvT hZ (wd hw 99 rfl))) (mvT hZ (wd hw 99 rfl)) (mvT hZ (wd hw 98 rfl)) (by decide) (backOf (W := 2) (rm10 l Z a0 hw [] pts (f0 (i).toNatClampNeg) co gc h n0 Z0 Fs Fd Fc Vc (q0 _)) hZ (wd hw 100 rfl) (wd hw 4 rfl) (by decide) (by decide)) q1846a q1846c (g := (mkF m 186 #[vR t, vR pts, vR a3, vI 66, vI 1, vI 9, vR bu, vR y, vI i, vI 0] [(.int (0 : Int32)), (.int (f0 (i).toNatClampNeg)), (.ref pts), (.int ((i * (1 : Int32)) + (0 : Int32))), (.ref y)])) rfl (by rw [hml]; rfl) (Steps.refl _) (argsL := [(.int (f0 (i).toNatClampNeg)), (.int (0 : Int32))]) (rest := [(.int ((i * (1 : Int32)) + (0 : Int32))), (.ref y)]) (lenOf pd__II_D rfl) rfl (by show 2 * 0 + _ ≤ _; exact Nat.le_of_eq rfl) (hb hby d5_186) (fun _ _ => ⟨rfl, e1845, (by decide : 12 + 0 ≤ _), (by decide : 444 + 0 ≤ _)⟩)
      dsimp only [Pt.U, Pt.locs, Pt.cells, Pt.slots] at X1846 l1846 y1846 z1846 st1846 hQ1846
      subst l1846 y1846 z1846
      obtain ⟨rfl, N1846q, e1846⟩ := hQ1846
      have N1847 := Fr.app N0 N1846q
      obtain ⟨T1848, h1848, X1848, e1848, W1848, st1848⟩ := own_sD X1846 hx hZ e1846 Vy (j := i) hix (f := (mkF m 189 #[vR t, vR pts, vR a3, vI 66, vI 1, vI 9, vR bu, vR y, vI i, vI 0] [(.double (gc (f0 (i).toNatClampNeg).toNatClampNeg)), (.int i), (.ref y)])) rfl rfl (hb hby d5_189)
      have f1849 : own_V Z h1848 y .double 66 (fun ii => .double ((own_up gy (i).toNatClampNeg (gc (f0 (i).toNatClampNeg).toNatClampNeg)) ii)) := own_V.setD Vy W1848
      have q1850 := own_upP (j := (i).toNatClampNeg) (x := (gc (f0 (i).toNatClampNeg).toNatClampNeg)) Fy (Fg _)
      have f1851 := Frw.other W1848 (Or.inl ny_t)
      have f1852 := Fpl.other W1848 (Or.inl ny_t)
      have f1853 := Ep.wr W1848
      have f1854 := Fs.other W1848 (Or.inl ny_pts)
      have f1855 := Fd.other W1848 (Or.inl ny_pts)
      have f1856 := Fc.other W1848 (Or.inl ny_pts)
      have f1857 := Vc.other W1848 ny_co
      have f1858 := V0.other W1848 ny_r
      have f1859 := Vz.other W1848 (Ne.symm nyz)
      have Zn1860 := Nat.le_trans Z0 (Keep.of_wr W1848).1
      have N1861 := Fr.snoc X1848 N1847 gy0
      have K1862 := K0.wr W1848 (Or.inl (List.mem_of_getElem? (i := 0) rfl))
      obtain ⟨T1863, X1863, e1863, st1863⟩ := getF X1848 hx hZ hown (host := "") (Or.inl (wd hw 128 rfl)) Via.refl e1848 f1852 (g := (mkF m 197 #[vR t, vR pts, vR a3, vI 66, vI 1, vI 9, vR bu, vR y, vI i, vI 1] [(.ref t)])) rfl rfl (hb hby d5_197)
      obtain ⟨T1864, X1864, e1864, st1864⟩ := getF X1863 hx hZ hown (host := "") (Or.inl (wd hw 55 rfl)) Via.refl e1863 f1851 (g := (mkF m 201 #[vR t, vR pts, vR a3, vI 66, vI 1, vI 9, vR bu, vR y, vI i, vI 1] [(.ref t), (.ref z)])) rfl rfl (hb hby d5_201)
      obtain ⟨T1865, h1865, X1865, e1865, W1865, st1865⟩ := own_sI X1864 hx hZ e1864 f1859 (j := (f0 (i).toNatClampNeg)) (q0 _) (f := (mkF m 209 #[vR t, vR pts, vR a3, vI 66, vI 1, vI 9, vR bu, vR y, vI i, vI 1] [(.int i), (.int (f0 (i).toNatClampNeg)), (.ref z)])) rfl rfl (hb hby d5_209)
      have f1866 : own_V Z h1865 z .int 66 (fun ii => .int ((own_up fz ((f0 (i).toNatClampNeg)).toNatClampNeg i) ii)) := own_V.setI f1859 W1865
      have f1867 := f1851.other W1865 (Or.inl nz_t)
      have f1868 := f1852.other W1865 (Or.inl nz_t)
      have f1869 := f1853.wr W1865
      have f1870 := f1854.other W1865 (Or.inl nz_pts)
      have f1871 := f1855.other W1865 (Or.inl nz_pts)
      have f1872 := f1856.other W1865 (Or.inl nz_pts)
      have f1873 := f1857.other W1865 nz_co
      have f1874 := f1858.other W1865 nz_r
      have f1875 := f1849.other W1865 nyz
      have Zn1876 := Nat.le_trans Zn1860 (Keep.of_wr W1865).1
      have N1877 := Fr.snoc X1865 N1861 gz0
      have K1878 := K1862.wr W1865 (Or.inl (List.mem_of_getElem? (i := 1) rfl))
      obtain ⟨T9, locs9, i9, s9', X9, N9, K9, A9, st9⟩ := ih (i + (1 : Int32)) (vI 1) (own_up gy (i).toNatClampNeg (gc (f0 (i).toNatClampNeg).toNatClampNeg)) (own_up fz ((f0 (i).toNatClampNeg)).toNatClampNeg i) T1865 h1865 _ X1865 e1865 N1877 Zn1876 own_One.v (by omega) f1867 f1868 f1869 f1870 f1871 f1872 f1873 f1874 f1875 q1850 f1866 (by omega)
      refine ⟨T9, locs9, i9, s9', X9, N9, K1878.trans K9 (allS (Or.inl (List.mem_of_getElem? (i := 0) rfl)) (allS (Or.inl (List.mem_of_getElem? (i := 1) rfl)) all0)), A9, fun target kt => ?_⟩
      show Steps p.tables e below (T.setTop (mkF m 150 #[vR t, vR pts, vR a3, vI 66, vI 1, vI 9, vR bu, vR y, vI i, s9] [])) _
      refine XS.iload X0.here hx rfl (hb hby d5_150) rfl ?_
      refine XS.iloadN X0.here hx rfl (hb hby d5_152) rfl ?_
      refine XS.icmpNo X0.here hx rfl (hb hby d5_153) rfl (tlt hg).2.1 ?_
      refine XS.iconst X0.here hx rfl (hb hby d5_156) ?_
      refine XS.istore X0.here hx rfl (hb hby d5_157) rfl (l' := #[vR t, vR pts, vR a3, vI 66, vI 1, vI 9, vR bu, vR y, vI i, vI 0]) (by rcases hs9 with q | ⟨_, q⟩ <;> subst q <;> rfl) ?_
      refine XS.iload X0.here hx rfl (hb hby d5_159) rfl ?_
      refine XS.iload X0.here hx rfl (hb hby d5_161) rfl ?_
      show Steps p.tables e below (T.setTop (mkF m 163 #[vR t, vR pts, vR a3, vI 66, vI 1, vI 9, vR bu, vR y, vI i, vI 0] [(.int (1 : Int32)), (.int (0 : Int32))])) _
      refine XS.icmpNo X0.here hx rfl (hb hby d5_163) rfl (tlt (by decide)).2.1 ?_
      refine XS.aload X0.here hx rfl (hb hby d5_166) rfl rfl ?_
      refine XS.iload X0.here hx rfl (hb hby d5_168) rfl ?_
      refine XS.iload X0.here hx rfl (hb hby d5_170) rfl ?_
      refine XS.imul X0.here hx rfl (hb hby d5_172) rfl ?_
      refine XS.iload X0.here hx rfl (hb hby d5_173) rfl ?_
      refine XS.iadd X0.here hx rfl (hb hby d5_175) rfl ?_
      show Steps p.tables e below (T.setTop (mkF m 176 #[vR t, vR pts, vR a3, vI 66, vI 1, vI 9, vR bu, vR y, vI i, vI 0] [(.int ((i * (1 : Int32)) + (0 : Int32))), (.ref y)])) _
      refine XS.aloadN X0.here hx rfl (hb hby d5_176) rfl rfl ?_
      refine XS.aloadN X0.here hx rfl (hb hby d5_177) rfl rfl ?_
      show Steps p.tables e below (T.setTop (mkF m 178 #[vR t, vR pts, vR a3, vI 66, vI 1, vI 9, vR bu, vR y, vI i, vI 0] [(.ref t), (.ref pts), (.int ((i * (1 : Int32)) + (0 : Int32))), (.ref y)])) _
      refine st1845 _ ?_
      show Steps p.tables e below (T1845.setTop (mkF m 181 #[vR t, vR pts, vR a3, vI 66, vI 1, vI 9, vR bu, vR y, vI i, vI 0] [(.ref r), (.ref pts), (.int ((i * (1 : Int32)) + (0 : Int32))), (.ref y)])) _
      refine XS.iload X1845.here hx rfl (hb hby d5_181) rfl ?_
      show Steps p.tables e below (T1845.setTop (mkF m 183 #[vR t, vR pts, vR a3, vI 66, vI 1, vI 9, vR bu, vR y, vI i, vI 0] [(.int i), (.ref r), (.ref pts), (.int ((i * (1 : Int32)) + (0 : Int32))), (.ref y)])) _
      refine own_ldI X1845 hx hZ e1845 V0 (j := i) hix (f := (mkF m 183 #[vR t, vR pts, vR a3, vI 66, vI 1, vI 9, vR bu, vR y, vI i, vI 0] [(.int i), (.ref r), (.ref pts), (.int ((i * (1 : Int32)) + (0 : Int32))), (.ref y)])) rfl rfl (hb hby d5_183) _ ?_
      show Steps p.tables e below (T1845.setTop (mkF m 184 #[vR t, vR pts, vR a3, vI 66, vI 1, vI 9, vR bu, vR y, vI i, vI 0] [(.int (f0 (i).toNatClampNeg)), (.ref pts), (.int ((i * (1 : Int32)) + (0 : Int32))), (.ref y)])) _
      refine XS.iload X1845.here hx rfl (hb hby d5_184) rfl ?_
      show Steps p.tables e below (T1845.setTop (mkF m 186 #[vR t, vR pts, vR a3, vI 66, vI 1, vI 9, vR bu, vR y, vI i, vI 0] [(.int (0 : Int32)), (.int (f0 (i).toNatClampNeg)), (.ref pts), (.int ((i * (1 : Int32)) + (0 : Int32))), (.ref y)])) _
      refine st1846.trans ?_
      show Steps p.tables e below (T1846.setTop (mkF m 189 #[vR t, vR pts, vR a3, vI 66, vI 1, vI 9, vR bu, vR y, vI i, vI 0] [(.double (gc (f0 (i).toNatClampNeg).toNatClampNeg)), (.int ((i * (1 : Int32)) + (0 : Int32))), (.ref y)])) _
      rw [own_idx]
      show Steps p.tables e below (T1846.setTop (mkF m 189 #[vR t, vR pts, vR a3, vI 66, vI 1, vI 9, vR bu, vR y, vI i, vI 0] [(.double (gc (f0 (i).toNatClampNeg).toNatClampNeg)), (.int i), (.ref y)])) _
      refine st1848 _ ?_
      show Steps p.tables e below (T1848.setTop (mkF m 190 #[vR t, vR pts, vR a3, vI 66, vI 1, vI 9, vR bu, vR y, vI i, vI 0] [])) _
      refine XS.iinc X1848.here hx rfl (hb hby d5_190) rfl (l' := #[vR t, vR pts, vR a3, vI 66, vI 1, vI 9, vR bu, vR y, vI i, vI 1]) rfl ?_
      refine XS.goto X1848.here hx rfl (pc0 := 193) (pc' := 159) rfl (hb hby d5_193) (by decide) (by decide) ?_
      refine XS.iload X1848.here hx rfl (hb hby d5_159) rfl ?_
      refine XS.iload X1848.here hx rfl (hb hby d5_161) rfl ?_
      refine XS.icmpYes X1848.here hx rfl (pc0 := 163) (pc' := 196) rfl (hb hby d5_163) rfl (flt (by decide)).2.1 (by decide) (by decide) ?_
      refine XS.aloadN X1848.here hx rfl (hb hby d5_196) rfl rfl ?_
      show Steps p.tables e below (T1848.setTop (mkF m 197 #[vR t, vR pts, vR a3, vI 66, vI 1, vI 9, vR bu, vR y, vI i, vI 1] [(.ref t)])) _
      refine st1863 _ ?_
      show Steps p.tables e below (T1863.setTop (mkF m 200 #[vR t, vR pts, vR a3, vI 66, vI 1, vI 9, vR bu, vR y, vI i, vI 1] [(.ref z)])) _
      refine XS.aloadN X1863.here hx rfl (hb hby d5_200) rfl rfl ?_
      show Steps p.tables e below (T1863.setTop (mkF m 201 #[vR t, vR pts, vR a3, vI 66, vI 1, vI 9, vR bu, vR y, vI i, vI 1] [(.ref t), (.ref z)])) _
      refine st1864 _ ?_
      show Steps p.tables e below (T1864.setTop (mkF m 204 #[vR t, vR pts, vR a3, vI 66, vI 1, vI 9, vR bu, vR y, vI i, vI 1] [(.ref r), (.ref z)])) _
      refine XS.iload X1864.here hx rfl (hb hby d5_204) rfl ?_
      show Steps p.tables e below (T1864.setTop (mkF m 206 #[vR t, vR pts, vR a3, vI 66, vI 1, vI 9, vR bu, vR y, vI i, vI 1] [(.int i), (.ref r), (.ref z)])) _
      refine own_ldI X1864 hx hZ e1864 f1858 (j := i) hix (f := (mkF m 206 #[vR t, vR pts, vR a3, vI 66, vI 1, vI 9, vR bu, vR y, vI i, vI 1] [(.int i), (.ref r), (.ref z)])) rfl rfl (hb hby d5_206) _ ?_
      show Steps p.tables e below (T1864.setTop (mkF m 207 #[vR t, vR pts, vR a3, vI 66, vI 1, vI 9, vR bu, vR y, vI i, vI 1] [(.int (f0 (i).toNatClampNeg)), (.ref z)])) _
      refine XS.iload X1864.here hx rfl (hb hby d5_207) rfl ?_
      show Steps p.tables e below (T1864.setTop (mkF m 209 #[vR t, vR pts, vR a3, vI 66, vI 1, vI 9, vR bu, vR y, vI i, vI 1] [(.int i), (.int (f0 (i).toNatClampNeg)), (.ref z)])) _
      refine st1865 _ ?_
      show Steps p.tables e below (T1865.setTop (mkF m 210 #[vR t, vR pts, vR a3, vI 66, vI 1, vI 9, vR bu, vR y, vI i, vI 1] [])) _
      refine XS.iinc X1865.here hx rfl (hb hby d5_210) rfl (l' := #[vR t, vR pts, vR a3, vI 66, vI 1, vI 9, vR bu, vR y, vI (i + (1 : Int32)), vI 1]) rfl ?_
      refine XS.goto X1865.here hx rfl (pc0 := 213) (pc' := 150) rfl (hb hby d5_213) (by decide) (by decide) ?_
      show Steps p.tables e below (T1865.setTop (mkF m 150 #[vR t, vR pts, vR a3, vI 66, vI 1, vI 9, vR bu, vR y, vI (i + (1 : Int32)), vI 1] [])) _
      exact st9 target kt
    · refine ⟨T, locs, i, s9, X0, N0, e0 ▸ Keep.refl _ _, ⟨gy, e0 ▸ Vy, Fy⟩, fun target kt => ?_⟩
      show Steps p.tables e below (T.setTop (mkF m 150 #[vR t, vR pts, vR a3, vI 66, vI 1, vI 9, vR bu, vR y, vI i, s9] [])) _
      refine XS.iload X0.here hx rfl (hb hby d5_150) rfl ?_
      refine XS.iloadN X0.here hx rfl (hb hby d5_152) rfl ?_
      refine XS.icmpYes X0.here hx rfl (pc0 := 153) (pc' := 216) rfl (hb hby d5_153) rfl (flt hg).2.1 (by decide) (by decide) ?_
      exact kt
theorem d5_216 : decode prog_53_method_1_code 216 = .ok (.aload_n 0, 1) := by decide +kernel
theorem d5_217 : decode prog_53_method_1_code 217 = .ok (.new 8, 3) := by decide +kernel
theorem d5_220 : decode prog_53_method_1_code 220 = .ok (.dup, 1) := by decide +kernel
theorem d5_221 : decode prog_53_method_1_code 221 = .ok (.iload 4, 2) := by decide +kernel
theorem d5_223 : decode prog_53_method_1_code 223 = .ok (.aload 7, 2) := by decide +kernel
theorem d5_225 : decode prog_53_method_1_code 225 = .ok (.invokespecial 80, 3) := by decide +kernel
theorem pd__I_D_V : parseMethodDescriptor "(I[D)V" = some ⟨[.int, (.array .double)], none⟩ := by decide +kernel
theorem d5_228 : decode prog_53_method_1_code 228 = .ok (.putfield 83, 3) := by decide +kernel
theorem d5_231 : decode prog_53_method_1_code 231 = .ok (.return_, 1) := by decide +kernel
theorem ef_rm5 (m : MethodId) (t : Addr) (pts : Addr) (a3 : Addr) : entryFrame m #[(.ref t), (.ref pts), (.ref a3)] 10 = mkF m 0 #[.val (.ref t), .val (.ref pts), .val (.ref a3), .unset, .unset, .unset, .unset, .unset, .unset, .unset] [] := by first | (simp [entryFrame, mkF, argsToLocals, Value.category]; done) | rfl
def Qrm5 (Z : State) (t : Addr) (pts : Addr) (a3 : Addr) (co : Addr) (gc : Nat → UInt64) (f3 : Nat → Int32) (h0 : Heap) (n0 : Nat) (v : Option Value) (h : Heap) (L : List Loc) : Prop := v = none ∧ Fr n0 L ∧ Keep h0 h [t] ∧ ∃ x1 x2 x3 n' F' E' U', own_rel 2 (0 : Int32) (0 : Int32) (66 : Int32) (fun _ => (0 : Int32)) (fun _ => (0 : Int32)) (fun _ => (0 : Int32)) n' F' E' U' ∧ Fld Z h t "com/example/flatfinder/flatfinder/neighbours/KdTree" "first" "[I" (.ref x1) ∧ Fld Z h t "com/example/flatfinder/flatfinder/neighbours/KdTree" "end" "[I" (.ref x2) ∧ Fld Z h t "com/example/flatfinder/flatfinder/neighbours/KdTree" "upper" "[I" (.ref x3) ∧ Fld Z h t "com/example/flatfinder/flatfinder/neighbours/KdTree" "boxes" "I" (.int n') ∧ own_V Z h x1 .int 9 (fun ii => .int (F' ii)) ∧ own_V Z h x2 .int 9 (fun ii => .int (E' ii)) ∧ own_V Z h x3 .int 9 (fun ii => .int (U' ii))
set_option maxRecDepth 65536 in
set_option maxHeartbeats 40000000 in
theorem rm5 (l : Launch) (Z : State) (a0 : Array Value) (hw : ∀ d ∈ tables_1, d.before a0 Z = true) (ws : List Jvm.Cond) (t : Addr) (pts : Addr) (a3 : Addr) (co : Addr) (gc : Nat → UInt64) (f3 : Nat → Int32) (h0 : Heap) (n0 : Nat) (Z0 : n0 ≤ h0.size) (Et : Exa Z h0 t "com/example/flatfinder/flatfinder/neighbours/KdTree") (Qpoints : Fld Z h0 t "com/example/flatfinder/flatfinder/neighbours/KdTree" "points" "Lcom/example/flatfinder/flatfinder/neighbours/Points;" .null) (Qrows : Fld Z h0 t "com/example/flatfinder/flatfinder/neighbours/KdTree" "rows" "[I" .null) (Qfirst : Fld Z h0 t "com/example/flatfinder/flatfinder/neighbours/KdTree" "first" "[I" .null) (Qend : Fld Z h0 t "com/example/flatfinder/flatfinder/neighbours/KdTree" "end" "[I" .null) (Qupper : Fld Z h0 t "com/example/flatfinder/flatfinder/neighbours/KdTree" "upper" "[I" .null) (Qlow : Fld Z h0 t "com/example/flatfinder/flatfinder/neighbours/KdTree" "low" "[D" .null) (Qhigh : Fld Z h0 t "com/example/flatfinder/flatfinder/neighbours/KdTree" "high" "[D" .null) (Qboxes : Fld Z h0 t "com/example/flatfinder/flatfinder/neighbours/KdTree" "boxes" "I" (.int (0 : Int32))) (Qdepth : Fld Z h0 t "com/example/flatfinder/flatfinder/neighbours/KdTree" "depth" "I" (.int (0 : Int32))) (Qordered : Fld Z h0 t "com/example/flatfinder/flatfinder/neighbours/KdTree" "ordered" "Lcom/example/flatfinder/flatfinder/neighbours/Points;" .null) (Qplaces : Fld Z h0 t "com/example/flatfinder/flatfinder/neighbours/KdTree" "places" "[I" .null) (Ep : Exa Z h0 pts "com/example/flatfinder/flatfinder/neighbours/Points") (Fs : Fld Z h0 pts "com/example/flatfinder/flatfinder/neighbours/Points" "size" "I" (.int (66 : Int32))) (Fd : Fld Z h0 pts "com/example/flatfinder/flatfinder/neighbours/Points" "dimensions" "I" (.int (1 : Int32))) (Fc : Fld Z h0 pts "com/example/flatfinder/flatfinder/neighbours/Points" "coordinates" "[D" (.ref co)) (Vc : own_V Z h0 co .double 66 (fun ii => .double (gc ii))) (Fg : ∀ i, Jvm.Free.Fl.Fin64 (gc i)) (E3 : Exa Z h0 a3 "[I") (V3 : own_V Z h0 a3 .int 66 (fun ii => .int (f3 ii))) (q3 : ∀ i, own_ix 66 (f3 i)) (gt : n0 ≤ t) (n_tp : t ≠ pts) (n_tc : t ≠ co) (n_t3 : t ≠ a3) (n_pc : pts ≠ co) :
    MetFree l (⟨"com/example/flatfinder/flatfinder/neighbours/KdTree", "<init>", "(Lcom/example/flatfinder/flatfinder/neighbours/Points;[I)V"⟩ : MethodName) (head1 (Jvm.Cond.code (⟨"com/example/flatfinder/flatfinder/neighbours/KdTree", "<init>", "(Lcom/example/flatfinder/flatfinder/neighbours/Points;[I)V"⟩ : MethodName) prog_53_method_1_code 10 none :: ws) ({ frames := 6, cells := 14, slots := 513, locals := 137 } : Room)) (fun a U => a = #[(.ref t), (.ref pts), (.ref a3)] ∧ Z.Warmed39 U.vm ∧ U.heap = h0) (fun _ _ _ _ _ => True) (fun _ U o U' => ∃ v L, o = .returned v ∧ Qrm5 Z t pts a3 co gc f3 h0 n0 v U'.heap L ∧ FrameEnd U o U' L ({ frames := 6, cells := 14, slots := 513, locals := 137 } : Room).cells ({ frames := 6, cells := 14, slots := 513, locals := 137 } : Room).slots) := by
  refine MetFree.of_bodySF (plainFor_of_name pn_com_example_flatfinder_flatfinder_neighbours_KdTree) hisR ?_
  intro p e s m args below meth c s₁ Bd hml0 hP hK
  obtain ⟨rfl, hZ, hh⟩ := hP
  have hx := Bd.exec
  have hby := Bd.bytes
  have hml : c.maxLocals = 10 := hml0
  have hown : s.vm.findClass "com/example/flatfinder/flatfinder/neighbours/KdTree" = some m.cls := findClass_of_methodNamed Bd.named
  have hnm := (name_of_methodNamed Bd.named Bd.method).1
  have X0 : Stand p l e ({ frames := 6, cells := 14, slots := 513, locals := 137 } : Room) s m #[(.ref t), (.ref pts), (.ref a3)] below meth c s₁ [] 0 0 := Stand.of_body Bd
  have e0 : s₁.heap = h0 := by rw [← hh, Bd.state]; rfl
  have N0 := Fr.nil n0
  have pre0 : ∀ tg, Steps p.tables e below (s₁.setTop (mkF m 0 #[.val (.ref t), .val (.ref pts), .val (.ref a3), .unset, .unset, .unset, .unset, .unset, .unset, .unset] [])) tg → Steps p.tables e below (s₁.setTop (entryFrame m #[(.ref t), (.ref pts), (.ref a3)] 10)) tg := fun tg kg => castTop (ef_rm5 m t pts a3) kg
  have K0 := Keep.refl h0 [t]
  obtain ⟨T1041, X1041, e1041, st1041⟩ := initO X0 hx hZ hown (wd hw 41 rfl) (wd hw 9 rfl) (wd hw 10 rfl) e0 (g := (mkF m 1 #[vR t, vR pts, vR a3, .unset, .unset, .unset, .unset, .unset, .unset, .unset] [(.ref t)])) rfl (by rw [hml]; rfl) rfl (hb hby d5_1) (by decide) (W := 0) (by show 2 * 0 + _ ≤ _; exact Nat.le_of_eq rfl) (by decide)
  obtain ⟨cq1042, kq1042, q1042a, q1042b, q1042c⟩ := isOf hZ e1041 Ep
  obtain ⟨_, _, ⟨T1042, L1042, k1042, n1042⟩, -, X1042, ⟨Lc1042, hQ1042, l1042, y1042, z1042⟩, st1042⟩ := X1041.virtualBack hx (y := (⟨"com/example/flatfinder/flatfinder/neighbours/Points", "dimensions", "()I"⟩ : MethodName)) (z := (⟨"com/example/flatfinder/flatfinder/neighbours/Points", "dimensions", "()I"⟩ : MethodName)) hown (mvT hZ (wd hw 42 rfl)) (mvT hZ (wd hw 43 rfl)) (notFace_of_selects (args := #[]) (mvT hZ (wd hw 45 rfl))) (mvT hZ (wd hw 45 rfl)) (mvT hZ (wd hw 44 rfl)) (by decide) (backOf (W := 0) (rm6 l Z a0 hw [] pts  h0 n0 Z0 Fd) hZ (wd hw 46 rfl) (wd hw 4 rfl) (by decide) (by decide)) q1042a q1042c (g := (mkF m 8 #[vR t, vR pts, vR a3, vI 66, .unset, .unset, .unset, .unset, .unset, .unset] [(.ref pts)])) rfl (by rw [hml]; rfl) (Steps.refl _) (argsL := []) (rest := []) (lenOf pd___I rfl) rfl (by show 2 * 0 + _ ≤ _; exact Nat.le_of_eq rfl) (hb hby d5_8) (fun _ _ => ⟨rfl, e1041, (by decide : 0 + 0 ≤ _), (by decide : 0 + 0 ≤ _)⟩)
  dsimp only [Pt.U, Pt.locs, Pt.cells, Pt.slots] at X1042 l1042 y1042 z1042 st1042 hQ1042
  subst l1042 y1042 z1042
  obtain ⟨rfl, N1042q, e1042⟩ := hQ1042
  have N1043 := Fr.app N0 N1042q
  obtain ⟨T1044, h1044, X1044, e1044, W1044, st1044⟩ := putF X1042 hx hZ hown (host := "") (Or.inl (wd hw 47 rfl)) Via.refl e1042 Qpoints Et (Or.inr ⟨(wd hw 48 rfl), rfl, hnm⟩) (wd hw 36 rfl) (ty := (.object "com/example/flatfinder/flatfinder/neighbours/Points")) (by decide) rfl rfl (g := (mkF m 25 #[vR t, vR pts, vR a3, vI 66, vI 1, vI 9, .unset, .unset, .unset, .unset] [(.ref pts), (.ref t)])) rfl rfl (hb hby d5_25)
  have f1045 := Qpoints.same W1044
  have f1046 := Et.wr W1044
  have f1047 := Ep.wr W1044
  have f1048 := Fs.other W1044 (Or.inl (Ne.symm n_tp))
  have f1049 := Fd.other W1044 (Or.inl (Ne.symm n_tp))
  have f1050 := Fc.other W1044 (Or.inl (Ne.symm n_tp))
  have f1051 := Vc.other W1044 (Ne.symm n_tc)
  have f1052 := E3.wr W1044
  have f1053 := V3.other W1044 (Ne.symm n_t3)
  have f1054 := Qrows.other W1044 (Or.inr (slot_ne (Or.inr (wd hw 56 rfl)) (Or.inr (wd hw 48 rfl)) (by decide) (t := (.array .int)) (t' := (.object "com/example/flatfinder/flatfinder/neighbours/Points")) (by decide) (by decide)))
  have f1055 := Qfirst.other W1044 (Or.inr (slot_ne (Or.inr (wd hw 58 rfl)) (Or.inr (wd hw 48 rfl)) (by decide) (t := (.array .int)) (t' := (.object "com/example/flatfinder/flatfinder/neighbours/Points")) (by decide) (by decide)))
  have f1056 := Qend.other W1044 (Or.inr (slot_ne (Or.inr (wd hw 60 rfl)) (Or.inr (wd hw 48 rfl)) (by decide) (t := (.array .int)) (t' := (.object "com/example/flatfinder/flatfinder/neighbours/Points")) (by decide) (by decide)))
  have f1057 := Qupper.other W1044 (Or.inr (slot_ne (Or.inr (wd hw 62 rfl)) (Or.inr (wd hw 48 rfl)) (by decide) (t := (.array .int)) (t' := (.object "com/example/flatfinder/flatfinder/neighbours/Points")) (by decide) (by decide)))
  have f1058 := Qlow.other W1044 (Or.inr (slot_ne (Or.inr (wd hw 64 rfl)) (Or.inr (wd hw 48 rfl)) (by decide) (t := (.array .double)) (t' := (.object "com/example/flatfinder/flatfinder/neighbours/Points")) (by decide) (by decide)))
  have f1059 := Qhigh.other W1044 (Or.inr (slot_ne (Or.inr (wd hw 66 rfl)) (Or.inr (wd hw 48 rfl)) (by decide) (t := (.array .double)) (t' := (.object "com/example/flatfinder/flatfinder/neighbours/Points")) (by decide) (by decide)))
  have f1060 := Qboxes.other W1044 (Or.inr (slot_ne (Or.inr (wd hw 119 rfl)) (Or.inr (wd hw 48 rfl)) (by decide) (t := .int) (t' := (.object "com/example/flatfinder/flatfinder/neighbours/Points")) (by decide) (by decide)))
  have f1061 := Qdepth.other W1044 (Or.inr (slot_ne (Or.inr (wd hw 122 rfl)) (Or.inr (wd hw 48 rfl)) (by decide) (t := .int) (t' := (.object "com/example/flatfinder/flatfinder/neighbours/Points")) (by decide) (by decide)))
  have f1062 := Qordered.other W1044 (Or.inr (slot_ne (Or.inr (wd hw 138 rfl)) (Or.inr (wd hw 48 rfl)) (by decide) (t := (.object "com/example/flatfinder/flatfinder/neighbours/Points")) (t' := (.object "com/example/flatfinder/flatfinder/neighbours/Points")) (by decide) (by decide)))
  have f1063 := Qplaces.other W1044 (Or.inr (slot_ne (Or.inr (wd hw 129 rfl)) (Or.inr (wd hw 48 rfl)) (by decide) (t := (.array .int)) (t' := (.object "com/example/flatfinder/flatfinder/neighbours/Points")) (by decide) (by decide)))
  have Zn1064 := Nat.le_trans Z0 (Keep.of_wr W1044).1
  have N1065 := Fr.snoc X1044 N1043 gt
  have K1066 := K0.wr W1044 (Or.inl (List.mem_of_getElem? (i := 0) rfl))
  obtain ⟨T1067, h1067, X1067, e1067, E1067, A1067, C1067, st1067⟩ := own_clone X1044 hx hZ hown (wd hw 49 rfl) (wd hw 50 rfl) (wd hw 29 rfl) (wd hw 27 rfl) (wd hw 51 rfl) (wd hw 52 rfl) e1044 f1053 (fun _ _ => rfl) f1052 (f := (mkF m 30 #[vR t, vR pts, vR a3, vI 66, vI 1, vI 9, .unset, .unset, .unset, .unset] [(.ref a3), (.ref t)])) rfl (by rw [hml]; rfl) rfl (hb hby d5_30) (by decide) (W := 1) (by show 2 * 0 + _ ≤ _; exact Nat.le_of_eq rfl) (by decide) (by decide) (by decide)
  obtain ⟨b1067, g1067⟩ : ∃ z, z = h1044.size := ⟨_, rfl⟩
  rw [← g1067] at A1067 C1067 st1067
  have g1068 : n0 ≤ b1067 := Nat.le_trans Zn1064 (Nat.le_of_eq g1067.symm)
  have sz1069 : h0.size ≤ b1067 := Nat.le_trans K1066.1 (Nat.le_of_eq g1067.symm)
  have ne1070 : t ≠ b1067 := Nat.ne_of_lt (Nat.lt_of_lt_of_le f1046.lt (Nat.le_of_eq g1067.symm))
  have ne1071 : pts ≠ b1067 := Nat.ne_of_lt (Nat.lt_of_lt_of_le f1047.lt (Nat.le_of_eq g1067.symm))
  have ne1072 : co ≠ b1067 := Nat.ne_of_lt (Nat.lt_of_lt_of_le f1051.lt (Nat.le_of_eq g1067.symm))
  have ne1073 : a3 ≠ b1067 := Nat.ne_of_lt (Nat.lt_of_lt_of_le f1052.lt (Nat.le_of_eq g1067.symm))
  have f1074 := f1046.ext E1067
  have f1075 := f1047.ext E1067
  have f1076 := f1048.ext E1067
  have f1077 := f1049.ext E1067
  have f1078 := f1050.ext E1067
  have f1079 := f1051.ext E1067
  have f1080 := f1052.ext E1067
  have f1081 := f1053.ext E1067
  have f1082 := f1054.ext E1067
  have f1083 := f1055.ext E1067
  have f1084 := f1056.ext E1067
  have f1085 := f1057.ext E1067
  have f1086 := f1058.ext E1067
  have f1087 := f1059.ext E1067
  have f1088 := f1060.ext E1067
  have f1089 := f1061.ext E1067
  have f1090 := f1062.ext E1067
  have f1091 := f1063.ext E1067
  have f1092 := f1045.ext E1067
  have Zn1093 := Nat.le_trans Zn1064 E1067.1
  have K1094 := K1066.ext E1067
  obtain ⟨T1095, X1095, e1095, st1095⟩ := castY X1067 hx hZ hown (wd hw 53 rfl) e1067 (Ins.self C1067) (g := (mkF m 33 #[vR t, vR pts, vR a3, vI 66, vI 1, vI 9, .unset, .unset, .unset, .unset] [(.ref b1067), (.ref t)])) rfl rfl (hb hby d5_33)
  obtain ⟨T1096, h1096, X1096, e1096, W1096, st1096⟩ := putF X1095 hx hZ hown (host := "") (Or.inl (wd hw 55 rfl)) Via.refl e1095 f1082 f1074 (Or.inr ⟨(wd hw 56 rfl), rfl, hnm⟩) (wd hw 36 rfl) (ty := (.array .int)) (by decide) rfl rfl (g := (mkF m 36 #[vR t, vR pts, vR a3, vI 66, vI 1, vI 9, .unset, .unset, .unset, .unset] [(.ref b1067), (.ref t)])) rfl rfl (hb hby d5_36)
  have f1097 := f1082.same W1096
  have f1098 := f1074.wr W1096
  have f1099 := f1075.wr W1096
  have f1100 := f1076.other W1096 (Or.inl (Ne.symm n_tp))
  have f1101 := f1077.other W1096 (Or.inl (Ne.symm n_tp))
  have f1102 := f1078.other W1096 (Or.inl (Ne.symm n_tp))
  have f1103 := f1079.other W1096 (Ne.symm n_tc)
  have f1104 := f1080.wr W1096
  have f1105 := f1081.other W1096 (Ne.symm n_t3)
  have f1106 := f1083.other W1096 (Or.inr (slot_ne (Or.inr (wd hw 58 rfl)) (Or.inr (wd hw 56 rfl)) (by decide) (t := (.array .int)) (t' := (.array .int)) (by decide) (by decide)))
  have f1107 := f1084.other W1096 (Or.inr (slot_ne (Or.inr (wd hw 60 rfl)) (Or.inr (wd hw 56 rfl)) (by decide) (t := (.array .int)) (t' := (.array .int)) (by decide) (by decide)))
  have f1108 := f1085.other W1096 (Or.inr (slot_ne (Or.inr (wd hw 62 rfl)) (Or.inr (wd hw 56 rfl)) (by decide) (t := (.array .int)) (t' := (.array .int)) (by decide) (by decide)))
  have f1109 := f1086.other W1096 (Or.inr (slot_ne (Or.inr (wd hw 64 rfl)) (Or.inr (wd hw 56 rfl)) (by decide) (t := (.array .double)) (t' := (.array .int)) (by decide) (by decide)))
  have f1110 := f1087.other W1096 (Or.inr (slot_ne (Or.inr (wd hw 66 rfl)) (Or.inr (wd hw 56 rfl)) (by decide) (t := (.array .double)) (t' := (.array .int)) (by decide) (by decide)))
  have f1111 := f1088.other W1096 (Or.inr (slot_ne (Or.inr (wd hw 119 rfl)) (Or.inr (wd hw 56 rfl)) (by decide) (t := .int) (t' := (.array .int)) (by decide) (by decide)))
  have f1112 := f1089.other W1096 (Or.inr (slot_ne (Or.inr (wd hw 122 rfl)) (Or.inr (wd hw 56 rfl)) (by decide) (t := .int) (t' := (.array .int)) (by decide) (by decide)))
  have f1113 := f1090.other W1096 (Or.inr (slot_ne (Or.inr (wd hw 138 rfl)) (Or.inr (wd hw 56 rfl)) (by decide) (t := (.object "com/example/flatfinder/flatfinder/neighbours/Points")) (t' := (.array .int)) (by decide) (by decide)))
  have f1114 := f1091.other W1096 (Or.inr (slot_ne (Or.inr (wd hw 129 rfl)) (Or.inr (wd hw 56 rfl)) (by decide) (t := (.array .int)) (t' := (.array .int)) (by decide) (by decide)))
  have f1115 := f1092.other W1096 (Or.inr (slot_ne (Or.inr (wd hw 48 rfl)) (Or.inr (wd hw 56 rfl)) (by decide) (t := (.object "com/example/flatfinder/flatfinder/neighbours/Points")) (t' := (.array .int)) (by decide) (by decide)))
  have f1116 := A1067.other W1096 (Ne.symm ne1070)
  have f1117 := C1067.wr W1096
  have Zn1118 := Nat.le_trans Zn1093 (Keep.of_wr W1096).1
  have N1119 := Fr.snoc X1096 N1065 gt
  have K1120 := K1094.wr W1096 (Or.inl (List.mem_of_getElem? (i := 0) rfl))
  obtain ⟨T1121, h1121, X1121, e1121, E1121, A1121, C1121, st1121⟩ := own_newP X1096 hx hZ (wd hw 1 rfl) e1096 (f := (mkF m 42 #[vR t, vR pts, vR a3, vI 66, vI 1, vI 9, .unset, .unset, .unset, .unset] [(.int (9 : Int32)), (.ref t)])) rfl (hb hby d5_42) rfl (by decide) (cap := 9) (by decide) (by decide) (by decide) (by decide)
  obtain ⟨b1121, g1121⟩ : ∃ z, z = h1096.size := ⟨_, rfl⟩
  rw [← g1121] at A1121 C1121 st1121
  have g1122 : n0 ≤ b1121 := Nat.le_trans Zn1118 (Nat.le_of_eq g1121.symm)
  have sz1123 : h0.size ≤ b1121 := Nat.le_trans K1120.1 (Nat.le_of_eq g1121.symm)
  have ne1124 : t ≠ b1121 := Nat.ne_of_lt (Nat.lt_of_lt_of_le f1098.lt (Nat.le_of_eq g1121.symm))
  have ne1125 : pts ≠ b1121 := Nat.ne_of_lt (Nat.lt_of_lt_of_le f1099.lt (Nat.le_of_eq g1121.symm))
  have ne1126 : co ≠ b1121 := Nat.ne_of_lt (Nat.lt_of_lt_of_le f1103.lt (Nat.le_of_eq g1121.symm))
  have ne1127 : a3 ≠ b1121 := Nat.ne_of_lt (Nat.lt_of_lt_of_le f1104.lt (Nat.le_of_eq g1121.symm))
  have ne1128 : b1067 ≠ b1121 := Nat.ne_of_lt (Nat.lt_of_lt_of_le f1116.lt (Nat.le_of_eq g1121.symm))
  have f1129 := f1098.ext E1121
  have f1130 := f1099.ext E1121
  have f1131 := f1100.ext E1121
  have f1132 := f1101.ext E1121
  have f1133 := f1102.ext E1121
  have f1134 := f1103.ext E1121
  have f1135 := f1104.ext E1121
  have f1136 := f1105.ext E1121
  have f1137 := f1106.ext E1121
  have f1138 := f1107.ext E1121
  have f1139 := f1108.ext E1121
  have f1140 := f1109.ext E1121
  have f1141 := f1110.ext E1121
  have f1142 := f1111.ext E1121
  have f1143 := f1112.ext E1121
  have f1144 := f1113.ext E1121
  have f1145 := f1114.ext E1121
  have f1146 := f1115.ext E1121
  have f1147 := f1116.ext E1121
  have f1148 := f1117.ext E1121
  have f1149 := f1097.ext E1121
  have Zn1150 := Nat.le_trans Zn1118 E1121.1
  have K1151 := K1120.ext E1121
  have f1152 : own_V Z h1121 b1121 .int 9 (fun ii => (.int ((fun _ => (0 : Int32)) ii))) := A1121
  have f1153 : Exa Z h1121 b1121 "[I" := C1121
  obtain ⟨T1154, h1154, X1154, e1154, W1154, st1154⟩ := putF X1121 hx hZ hown (host := "") (Or.inl (wd hw 57 rfl)) Via.refl e1121 f1137 f1129 (Or.inr ⟨(wd hw 58 rfl), rfl, hnm⟩) (wd hw 36 rfl) (ty := (.array .int)) (by decide) rfl rfl (g := (mkF m 44 #[vR t, vR pts, vR a3, vI 66, vI 1, vI 9, .unset, .unset, .unset, .unset] [(.ref b1121), (.ref t)])) rfl rfl (hb hby d5_44)
  have f1155 := f1137.same W1154
  have f1156 := f1129.wr W1154
  have f1157 := f1130.wr W1154
  have f1158 := f1131.other W1154 (Or.inl (Ne.symm n_tp))
  have f1159 := f1132.other W1154 (Or.inl (Ne.symm n_tp))
  have f1160 := f1133.other W1154 (Or.inl (Ne.symm n_tp))
  have f1161 := f1134.other W1154 (Ne.symm n_tc)
  have f1162 := f1135.wr W1154
  have f1163 := f1136.other W1154 (Ne.symm n_t3)
  have f1164 := f1138.other W1154 (Or.inr (slot_ne (Or.inr (wd hw 60 rfl)) (Or.inr (wd hw 58 rfl)) (by decide) (t := (.array .int)) (t' := (.array .int)) (by decide) (by decide)))
  have f1165 := f1139.other W1154 (Or.inr (slot_ne (Or.inr (wd hw 62 rfl)) (Or.inr (wd hw 58 rfl)) (by decide) (t := (.array .int)) (t' := (.array .int)) (by decide) (by decide)))
  have f1166 := f1140.other W1154 (Or.inr (slot_ne (Or.inr (wd hw 64 rfl)) (Or.inr (wd hw 58 rfl)) (by decide) (t := (.array .double)) (t' := (.array .int)) (by decide) (by decide)))
  have f1167 := f1141.other W1154 (Or.inr (slot_ne (Or.inr (wd hw 66 rfl)) (Or.inr (wd hw 58 rfl)) (by decide) (t := (.array .double)) (t' := (.array .int)) (by decide) (by decide)))
  have f1168 := f1142.other W1154 (Or.inr (slot_ne (Or.inr (wd hw 119 rfl)) (Or.inr (wd hw 58 rfl)) (by decide) (t := .int) (t' := (.array .int)) (by decide) (by decide)))
  have f1169 := f1143.other W1154 (Or.inr (slot_ne (Or.inr (wd hw 122 rfl)) (Or.inr (wd hw 58 rfl)) (by decide) (t := .int) (t' := (.array .int)) (by decide) (by decide)))
  have f1170 := f1144.other W1154 (Or.inr (slot_ne (Or.inr (wd hw 138 rfl)) (Or.inr (wd hw 58 rfl)) (by decide) (t := (.object "com/example/flatfinder/flatfinder/neighbours/Points")) (t' := (.array .int)) (by decide) (by decide)))
  have f1171 := f1145.other W1154 (Or.inr (slot_ne (Or.inr (wd hw 129 rfl)) (Or.inr (wd hw 58 rfl)) (by decide) (t := (.array .int)) (t' := (.array .int)) (by decide) (by decide)))
  have f1172 := f1146.other W1154 (Or.inr (slot_ne (Or.inr (wd hw 48 rfl)) (Or.inr (wd hw 58 rfl)) (by decide) (t := (.object "com/example/flatfinder/flatfinder/neighbours/Points")) (t' := (.array .int)) (by decide) (by decide)))
  have f1173 := f1147.other W1154 (Ne.symm ne1070)
  have f1174 := f1148.wr W1154
  have f1175 := f1149.other W1154 (Or.inr (slot_ne (Or.inr (wd hw 56 rfl)) (Or.inr (wd hw 58 rfl)) (by decide) (t := (.array .int)) (t' := (.array .int)) (by decide) (by decide)))
  have f1176 := f1152.other W1154 (Ne.symm ne1124)
  have f1177 := f1153.wr W1154
  have Zn1178 := Nat.le_trans Zn1150 (Keep.of_wr W1154).1
  have N1179 := Fr.snoc X1154 N1119 gt
  have K1180 := K1151.wr W1154 (Or.inl (List.mem_of_getElem? (i := 0) rfl))
  obtain ⟨T1181, h1181, X1181, e1181, E1181, A1181, C1181, st1181⟩ := own_newP X1154 hx hZ (wd hw 1 rfl) e1154 (f := (mkF m 50 #[vR t, vR pts, vR a3, vI 66, vI 1, vI 9, .unset, .unset, .unset, .unset] [(.int (9 : Int32)), (.ref t)])) rfl (hb hby d5_50) rfl (by decide) (cap := 9) (by decide) (by decide) (by decide) (by decide)
  obtain ⟨b1181, g1181⟩ : ∃ z, z = h1154.size := ⟨_, rfl⟩
  rw [← g1181] at A1181 C1181 st1181
  have g1182 : n0 ≤ b1181 := Nat.le_trans Zn1178 (Nat.le_of_eq g1181.symm)
  have sz1183 : h0.size ≤ b1181 := Nat.le_trans K1180.1 (Nat.le_of_eq g1181.symm)
  have ne1184 : t ≠ b1181 := Nat.ne_of_lt (Nat.lt_of_lt_of_le f1156.lt (Nat.le_of_eq g1181.symm))
  have ne1185 : pts ≠ b1181 := Nat.ne_of_lt (Nat.lt_of_lt_of_le f1157.lt (Nat.le_of_eq g1181.symm))
  have ne1186 : co ≠ b1181 := Nat.ne_of_lt (Nat.lt_of_lt_of_le f1161.lt (Nat.le_of_eq g1181.symm))
  have ne1187 : a3 ≠ b1181 := Nat.ne_of_lt (Nat.lt_of_lt_of_le f1162.lt (Nat.le_of_eq g1181.symm))
  have ne1188 : b1067 ≠ b1181 := Nat.ne_of_lt (Nat.lt_of_lt_of_le f1173.lt (Nat.le_of_eq g1181.symm))
  have ne1189 : b1121 ≠ b1181 := Nat.ne_of_lt (Nat.lt_of_lt_of_le f1176.lt (Nat.le_of_eq g1181.symm))
  have f1190 := f1156.ext E1181
  have f1191 := f1157.ext E1181
  have f1192 := f1158.ext E1181
  have f1193 := f1159.ext E1181
  have f1194 := f1160.ext E1181
  have f1195 := f1161.ext E1181
  have f1196 := f1162.ext E1181
  have f1197 := f1163.ext E1181
  have f1198 := f1164.ext E1181
  have f1199 := f1165.ext E1181
  have f1200 := f1166.ext E1181
  have f1201 := f1167.ext E1181
  have f1202 := f1168.ext E1181
  have f1203 := f1169.ext E1181
  have f1204 := f1170.ext E1181
  have f1205 := f1171.ext E1181
  have f1206 := f1172.ext E1181
  have f1207 := f1173.ext E1181
  have f1208 := f1174.ext E1181
  have f1209 := f1175.ext E1181
  have f1210 := f1176.ext E1181
  have f1211 := f1177.ext E1181
  have f1212 := f1155.ext E1181
  have Zn1213 := Nat.le_trans Zn1178 E1181.1
  have K1214 := K1180.ext E1181
  have f1215 : own_V Z h1181 b1181 .int 9 (fun ii => (.int ((fun _ => (0 : Int32)) ii))) := A1181
  have f1216 : Exa Z h1181 b1181 "[I" := C1181
  obtain ⟨T1217, h1217, X1217, e1217, W1217, st1217⟩ := putF X1181 hx hZ hown (host := "") (Or.inl (wd hw 59 rfl)) Via.refl e1181 f1198 f1190 (Or.inr ⟨(wd hw 60 rfl), rfl, hnm⟩) (wd hw 36 rfl) (ty := (.array .int)) (by decide) rfl rfl (g := (mkF m 52 #[vR t, vR pts, vR a3, vI 66, vI 1, vI 9, .unset, .unset, .unset, .unset] [(.ref b1181), (.ref t)])) rfl rfl (hb hby d5_52)
  have f1218 := f1198.same W1217
  have f1219 := f1190.wr W1217
  have f1220 := f1191.wr W1217
  have f1221 := f1192.other W1217 (Or.inl (Ne.symm n_tp))
  have f1222 := f1193.other W1217 (Or.inl (Ne.symm n_tp))
  have f1223 := f1194.other W1217 (Or.inl (Ne.symm n_tp))
  have f1224 := f1195.other W1217 (Ne.symm n_tc)
  have f1225 := f1196.wr W1217
  have f1226 := f1197.other W1217 (Ne.symm n_t3)
  have f1227 := f1199.other W1217 (Or.inr (slot_ne (Or.inr (wd hw 62 rfl)) (Or.inr (wd hw 60 rfl)) (by decide) (t := (.array .int)) (t' := (.array .int)) (by decide) (by decide)))
  have f1228 := f1200.other W1217 (Or.inr (slot_ne (Or.inr (wd hw 64 rfl)) (Or.inr (wd hw 60 rfl)) (by decide) (t := (.array .double)) (t' := (.array .int)) (by decide) (by decide)))
  have f1229 := f1201.other W1217 (Or.inr (slot_ne (Or.inr (wd hw 66 rfl)) (Or.inr (wd hw 60 rfl)) (by decide) (t := (.array .double)) (t' := (.array .int)) (by decide) (by decide)))
  have f1230 := f1202.other W1217 (Or.inr (slot_ne (Or.inr (wd hw 119 rfl)) (Or.inr (wd hw 60 rfl)) (by decide) (t := .int) (t' := (.array .int)) (by decide) (by decide)))
  have f1231 := f1203.other W1217 (Or.inr (slot_ne (Or.inr (wd hw 122 rfl)) (Or.inr (wd hw 60 rfl)) (by decide) (t := .int) (t' := (.array .int)) (by decide) (by decide)))
  have f1232 := f1204.other W1217 (Or.inr (slot_ne (Or.inr (wd hw 138 rfl)) (Or.inr (wd hw 60 rfl)) (by decide) (t := (.object "com/example/flatfinder/flatfinder/neighbours/Points")) (t' := (.array .int)) (by decide) (by decide)))
  have f1233 := f1205.other W1217 (Or.inr (slot_ne (Or.inr (wd hw 129 rfl)) (Or.inr (wd hw 60 rfl)) (by decide) (t := (.array .int)) (t' := (.array .int)) (by decide) (by decide)))
  have f1234 := f1206.other W1217 (Or.inr (slot_ne (Or.inr (wd hw 48 rfl)) (Or.inr (wd hw 60 rfl)) (by decide) (t := (.object "com/example/flatfinder/flatfinder/neighbours/Points")) (t' := (.array .int)) (by decide) (by decide)))
  have f1235 := f1207.other W1217 (Ne.symm ne1070)
  have f1236 := f1208.wr W1217
  have f1237 := f1209.other W1217 (Or.inr (slot_ne (Or.inr (wd hw 56 rfl)) (Or.inr (wd hw 60 rfl)) (by decide) (t := (.array .int)) (t' := (.array .int)) (by decide) (by decide)))
  have f1238 := f1210.other W1217 (Ne.symm ne1124)
  have f1239 := f1211.wr W1217
  have f1240 := f1212.other W1217 (Or.inr (slot_ne (Or.inr (wd hw 58 rfl)) (Or.inr (wd hw 60 rfl)) (by decide) (t := (.array .int)) (t' := (.array .int)) (by decide) (by decide)))
  have f1241 := f1215.other W1217 (Ne.symm ne1184)
  have f1242 := f1216.wr W1217
  have Zn1243 := Nat.le_trans Zn1213 (Keep.of_wr W1217).1
  have N1244 := Fr.snoc X1217 N1179 gt
  have K1245 := K1214.wr W1217 (Or.inl (List.mem_of_getElem? (i := 0) rfl))
  obtain ⟨T1246, h1246, X1246, e1246, E1246, A1246, C1246, st1246⟩ := own_newP X1217 hx hZ (wd hw 1 rfl) e1217 (f := (mkF m 58 #[vR t, vR pts, vR a3, vI 66, vI 1, vI 9, .unset, .unset, .unset, .unset] [(.int (9 : Int32)), (.ref t)])) rfl (hb hby d5_58) rfl (by decide) (cap := 9) (by decide) (by decide) (by decide) (by decide)
  obtain ⟨b1246, g1246⟩ : ∃ z, z = h1217.size := ⟨_, rfl⟩
  rw [← g1246] at A1246 C1246 st1246
  have g1247 : n0 ≤ b1246 := Nat.le_trans Zn1243 (Nat.le_of_eq g1246.symm)
  have sz1248 : h0.size ≤ b1246 := Nat.le_trans K1245.1 (Nat.le_of_eq g1246.symm)
  have ne1249 : t ≠ b1246 := Nat.ne_of_lt (Nat.lt_of_lt_of_le f1219.lt (Nat.le_of_eq g1246.symm))
  have ne1250 : pts ≠ b1246 := Nat.ne_of_lt (Nat.lt_of_lt_of_le f1220.lt (Nat.le_of_eq g1246.symm))
  have ne1251 : co ≠ b1246 := Nat.ne_of_lt (Nat.lt_of_lt_of_le f1224.lt (Nat.le_of_eq g1246.symm))
  have ne1252 : a3 ≠ b1246 := Nat.ne_of_lt (Nat.lt_of_lt_of_le f1225.lt (Nat.le_of_eq g1246.symm))
  have ne1253 : b1067 ≠ b1246 := Nat.ne_of_lt (Nat.lt_of_lt_of_le f1235.lt (Nat.le_of_eq g1246.symm))
  have ne1254 : b1121 ≠ b1246 := Nat.ne_of_lt (Nat.lt_of_lt_of_le f1238.lt (Nat.le_of_eq g1246.symm))
  have ne1255 : b1181 ≠ b1246 := Nat.ne_of_lt (Nat.lt_of_lt_of_le f1241.lt (Nat.le_of_eq g1246.symm))
  have f1256 := f1219.ext E1246
  have f1257 := f1220.ext E1246
  have f1258 := f1221.ext E1246
  have f1259 := f1222.ext E1246
  have f1260 := f1223.ext E1246
  have f1261 := f1224.ext E1246
  have f1262 := f1225.ext E1246
  have f1263 := f1226.ext E1246
  have f1264 := f1227.ext E1246
  have f1265 := f1228.ext E1246
  have f1266 := f1229.ext E1246
  have f1267 := f1230.ext E1246
  have f1268 := f1231.ext E1246
  have f1269 := f1232.ext E1246
  have f1270 := f1233.ext E1246
  have f1271 := f1234.ext E1246
  have f1272 := f1235.ext E1246
  have f1273 := f1236.ext E1246
  have f1274 := f1237.ext E1246
  have f1275 := f1238.ext E1246
  have f1276 := f1239.ext E1246
  have f1277 := f1240.ext E1246
  have f1278 := f1241.ext E1246
  have f1279 := f1242.ext E1246
  have f1280 := f1218.ext E1246
  have Zn1281 := Nat.le_trans Zn1243 E1246.1
  have K1282 := K1245.ext E1246
  have f1283 : own_V Z h1246 b1246 .int 9 (fun ii => (.int ((fun _ => (0 : Int32)) ii))) := A1246
  have f1284 : Exa Z h1246 b1246 "[I" := C1246
  obtain ⟨T1285, h1285, X1285, e1285, W1285, st1285⟩ := putF X1246 hx hZ hown (host := "") (Or.inl (wd hw 61 rfl)) Via.refl e1246 f1264 f1256 (Or.inr ⟨(wd hw 62 rfl), rfl, hnm⟩) (wd hw 36 rfl) (ty := (.array .int)) (by decide) rfl rfl (g := (mkF m 60 #[vR t, vR pts, vR a3, vI 66, vI 1, vI 9, .unset, .unset, .unset, .unset] [(.ref b1246), (.ref t)])) rfl rfl (hb hby d5_60)
  have f1286 := f1264.same W1285
  have f1287 := f1256.wr W1285
  have f1288 := f1257.wr W1285
  have f1289 := f1258.other W1285 (Or.inl (Ne.symm n_tp))
  have f1290 := f1259.other W1285 (Or.inl (Ne.symm n_tp))
  have f1291 := f1260.other W1285 (Or.inl (Ne.symm n_tp))
  have f1292 := f1261.other W1285 (Ne.symm n_tc)
  have f1293 := f1262.wr W1285
  have f1294 := f1263.other W1285 (Ne.symm n_t3)
  have f1295 := f1265.other W1285 (Or.inr (slot_ne (Or.inr (wd hw 64 rfl)) (Or.inr (wd hw 62 rfl)) (by decide) (t := (.array .double)) (t' := (.array .int)) (by decide) (by decide)))
  have f1296 := f1266.other W1285 (Or.inr (slot_ne (Or.inr (wd hw 66 rfl)) (Or.inr (wd hw 62 rfl)) (by decide) (t := (.array .double)) (t' := (.array .int)) (by decide) (by decide)))
  have f1297 := f1267.other W1285 (Or.inr (slot_ne (Or.inr (wd hw 119 rfl)) (Or.inr (wd hw 62 rfl)) (by decide) (t := .int) (t' := (.array .int)) (by decide) (by decide)))
  have f1298 := f1268.other W1285 (Or.inr (slot_ne (Or.inr (wd hw 122 rfl)) (Or.inr (wd hw 62 rfl)) (by decide) (t := .int) (t' := (.array .int)) (by decide) (by decide)))
  have f1299 := f1269.other W1285 (Or.inr (slot_ne (Or.inr (wd hw 138 rfl)) (Or.inr (wd hw 62 rfl)) (by decide) (t := (.object "com/example/flatfinder/flatfinder/neighbours/Points")) (t' := (.array .int)) (by decide) (by decide)))
  have f1300 := f1270.other W1285 (Or.inr (slot_ne (Or.inr (wd hw 129 rfl)) (Or.inr (wd hw 62 rfl)) (by decide) (t := (.array .int)) (t' := (.array .int)) (by decide) (by decide)))
  have f1301 := f1271.other W1285 (Or.inr (slot_ne (Or.inr (wd hw 48 rfl)) (Or.inr (wd hw 62 rfl)) (by decide) (t := (.object "com/example/flatfinder/flatfinder/neighbours/Points")) (t' := (.array .int)) (by decide) (by decide)))
  have f1302 := f1272.other W1285 (Ne.symm ne1070)
  have f1303 := f1273.wr W1285
  have f1304 := f1274.other W1285 (Or.inr (slot_ne (Or.inr (wd hw 56 rfl)) (Or.inr (wd hw 62 rfl)) (by decide) (t := (.array .int)) (t' := (.array .int)) (by decide) (by decide)))
  have f1305 := f1275.other W1285 (Ne.symm ne1124)
  have f1306 := f1276.wr W1285
  have f1307 := f1277.other W1285 (Or.inr (slot_ne (Or.inr (wd hw 58 rfl)) (Or.inr (wd hw 62 rfl)) (by decide) (t := (.array .int)) (t' := (.array .int)) (by decide) (by decide)))
  have f1308 := f1278.other W1285 (Ne.symm ne1184)
  have f1309 := f1279.wr W1285
  have f1310 := f1280.other W1285 (Or.inr (slot_ne (Or.inr (wd hw 60 rfl)) (Or.inr (wd hw 62 rfl)) (by decide) (t := (.array .int)) (t' := (.array .int)) (by decide) (by decide)))
  have f1311 := f1283.other W1285 (Ne.symm ne1249)
  have f1312 := f1284.wr W1285
  have Zn1313 := Nat.le_trans Zn1281 (Keep.of_wr W1285).1
  have N1314 := Fr.snoc X1285 N1244 gt
  have K1315 := K1282.wr W1285 (Or.inl (List.mem_of_getElem? (i := 0) rfl))
  obtain ⟨T1316, h1316, X1316, e1316, E1316, A1316, C1316, st1316⟩ := own_newP X1285 hx hZ (wd hw 0 rfl) e1285 (f := (mkF m 69 #[vR t, vR pts, vR a3, vI 66, vI 1, vI 9, .unset, .unset, .unset, .unset] [(.int (9 : Int32)), (.ref t)])) rfl (hb hby d5_69) rfl (by decide) (cap := 9) (by decide) (by decide) (by decide) (by decide)
  obtain ⟨b1316, g1316⟩ : ∃ z, z = h1285.size := ⟨_, rfl⟩
  rw [← g1316] at A1316 C1316 st1316
  have g1317 : n0 ≤ b1316 := Nat.le_trans Zn1313 (Nat.le_of_eq g1316.symm)
  have sz1318 : h0.size ≤ b1316 := Nat.le_trans K1315.1 (Nat.le_of_eq g1316.symm)
  have ne1319 : t ≠ b1316 := Nat.ne_of_lt (Nat.lt_of_lt_of_le f1287.lt (Nat.le_of_eq g1316.symm))
  have ne1320 : pts ≠ b1316 := Nat.ne_of_lt (Nat.lt_of_lt_of_le f1288.lt (Nat.le_of_eq g1316.symm))
  have ne1321 : co ≠ b1316 := Nat.ne_of_lt (Nat.lt_of_lt_of_le f1292.lt (Nat.le_of_eq g1316.symm))
  have ne1322 : a3 ≠ b1316 := Nat.ne_of_lt (Nat.lt_of_lt_of_le f1293.lt (Nat.le_of_eq g1316.symm))
  have ne1323 : b1067 ≠ b1316 := Nat.ne_of_lt (Nat.lt_of_lt_of_le f1302.lt (Nat.le_of_eq g1316.symm))
  have ne1324 : b1121 ≠ b1316 := Nat.ne_of_lt (Nat.lt_of_lt_of_le f1305.lt (Nat.le_of_eq g1316.symm))
  have ne1325 : b1181 ≠ b1316 := Nat.ne_of_lt (Nat.lt_of_lt_of_le f1308.lt (Nat.le_of_eq g1316.symm))
  have ne1326 : b1246 ≠ b1316 := Nat.ne_of_lt (Nat.lt_of_lt_of_le f1311.lt (Nat.le_of_eq g1316.symm))
  have f1327 := f1287.ext E1316
  have f1328 := f1288.ext E1316
  have f1329 := f1289.ext E1316
  have f1330 := f1290.ext E1316
  have f1331 := f1291.ext E1316
  have f1332 := f1292.ext E1316
  have f1333 := f1293.ext E1316
  have f1334 := f1294.ext E1316
  have f1335 := f1295.ext E1316
  have f1336 := f1296.ext E1316
  have f1337 := f1297.ext E1316
  have f1338 := f1298.ext E1316
  have f1339 := f1299.ext E1316
  have f1340 := f1300.ext E1316
  have f1341 := f1301.ext E1316
  have f1342 := f1302.ext E1316
  have f1343 := f1303.ext E1316
  have f1344 := f1304.ext E1316
  have f1345 := f1305.ext E1316
  have f1346 := f1306.ext E1316
  have f1347 := f1307.ext E1316
  have f1348 := f1308.ext E1316
  have f1349 := f1309.ext E1316
  have f1350 := f1310.ext E1316
  have f1351 := f1311.ext E1316
  have f1352 := f1312.ext E1316
  have f1353 := f1286.ext E1316
  have Zn1354 := Nat.le_trans Zn1313 E1316.1
  have K1355 := K1315.ext E1316
  have f1356 : own_V Z h1316 b1316 .double 9 (fun ii => (.double ((fun _ => (0 : UInt64)) ii))) := A1316
  have f1357 : Exa Z h1316 b1316 "[D" := C1316
  obtain ⟨T1358, h1358, X1358, e1358, W1358, st1358⟩ := putF X1316 hx hZ hown (host := "") (Or.inl (wd hw 63 rfl)) Via.refl e1316 f1335 f1327 (Or.inr ⟨(wd hw 64 rfl), rfl, hnm⟩) (wd hw 36 rfl) (ty := (.array .double)) (by decide) rfl rfl (g := (mkF m 71 #[vR t, vR pts, vR a3, vI 66, vI 1, vI 9, .unset, .unset, .unset, .unset] [(.ref b1316), (.ref t)])) rfl rfl (hb hby d5_71)
  have f1359 := f1335.same W1358
  have f1360 := f1327.wr W1358
  have f1361 := f1328.wr W1358
  have f1362 := f1329.other W1358 (Or.inl (Ne.symm n_tp))
  have f1363 := f1330.other W1358 (Or.inl (Ne.symm n_tp))
  have f1364 := f1331.other W1358 (Or.inl (Ne.symm n_tp))
  have f1365 := f1332.other W1358 (Ne.symm n_tc)
  have f1366 := f1333.wr W1358
  have f1367 := f1334.other W1358 (Ne.symm n_t3)
  have f1368 := f1336.other W1358 (Or.inr (slot_ne (Or.inr (wd hw 66 rfl)) (Or.inr (wd hw 64 rfl)) (by decide) (t := (.array .double)) (t' := (.array .double)) (by decide) (by decide)))
  have f1369 := f1337.other W1358 (Or.inr (slot_ne (Or.inr (wd hw 119 rfl)) (Or.inr (wd hw 64 rfl)) (by decide) (t := .int) (t' := (.array .double)) (by decide) (by decide)))
  have f1370 := f1338.other W1358 (Or.inr (slot_ne (Or.inr (wd hw 122 rfl)) (Or.inr (wd hw 64 rfl)) (by decide) (t := .int) (t' := (.array .double)) (by decide) (by decide)))
  have f1371 := f1339.other W1358 (Or.inr (slot_ne (Or.inr (wd hw 138 rfl)) (Or.inr (wd hw 64 rfl)) (by decide) (t := (.object "com/example/flatfinder/flatfinder/neighbours/Points")) (t' := (.array .double)) (by decide) (by decide)))
  have f1372 := f1340.other W1358 (Or.inr (slot_ne (Or.inr (wd hw 129 rfl)) (Or.inr (wd hw 64 rfl)) (by decide) (t := (.array .int)) (t' := (.array .double)) (by decide) (by decide)))
  have f1373 := f1341.other W1358 (Or.inr (slot_ne (Or.inr (wd hw 48 rfl)) (Or.inr (wd hw 64 rfl)) (by decide) (t := (.object "com/example/flatfinder/flatfinder/neighbours/Points")) (t' := (.array .double)) (by decide) (by decide)))
  have f1374 := f1342.other W1358 (Ne.symm ne1070)
  have f1375 := f1343.wr W1358
  have f1376 := f1344.other W1358 (Or.inr (slot_ne (Or.inr (wd hw 56 rfl)) (Or.inr (wd hw 64 rfl)) (by decide) (t := (.array .int)) (t' := (.array .double)) (by decide) (by decide)))
  have f1377 := f1345.other W1358 (Ne.symm ne1124)
  have f1378 := f1346.wr W1358
  have f1379 := f1347.other W1358 (Or.inr (slot_ne (Or.inr (wd hw 58 rfl)) (Or.inr (wd hw 64 rfl)) (by decide) (t := (.array .int)) (t' := (.array .double)) (by decide) (by decide)))
  have f1380 := f1348.other W1358 (Ne.symm ne1184)
  have f1381 := f1349.wr W1358
  have f1382 := f1350.other W1358 (Or.inr (slot_ne (Or.inr (wd hw 60 rfl)) (Or.inr (wd hw 64 rfl)) (by decide) (t := (.array .int)) (t' := (.array .double)) (by decide) (by decide)))
  have f1383 := f1351.other W1358 (Ne.symm ne1249)
  have f1384 := f1352.wr W1358
  have f1385 := f1353.other W1358 (Or.inr (slot_ne (Or.inr (wd hw 62 rfl)) (Or.inr (wd hw 64 rfl)) (by decide) (t := (.array .int)) (t' := (.array .double)) (by decide) (by decide)))
  have f1386 := f1356.other W1358 (Ne.symm ne1319)
  have f1387 := f1357.wr W1358
  have Zn1388 := Nat.le_trans Zn1354 (Keep.of_wr W1358).1
  have N1389 := Fr.snoc X1358 N1314 gt
  have K1390 := K1355.wr W1358 (Or.inl (List.mem_of_getElem? (i := 0) rfl))
  obtain ⟨T1391, h1391, X1391, e1391, E1391, A1391, C1391, st1391⟩ := own_newP X1358 hx hZ (wd hw 0 rfl) e1358 (f := (mkF m 80 #[vR t, vR pts, vR a3, vI 66, vI 1, vI 9, .unset, .unset, .unset, .unset] [(.int (9 : Int32)), (.ref t)])) rfl (hb hby d5_80) rfl (by decide) (cap := 9) (by decide) (by decide) (by decide) (by decide)
  obtain ⟨b1391, g1391⟩ : ∃ z, z = h1358.size := ⟨_, rfl⟩
  rw [← g1391] at A1391 C1391 st1391
  have g1392 : n0 ≤ b1391 := Nat.le_trans Zn1388 (Nat.le_of_eq g1391.symm)
  have sz1393 : h0.size ≤ b1391 := Nat.le_trans K1390.1 (Nat.le_of_eq g1391.symm)
  have ne1394 : t ≠ b1391 := Nat.ne_of_lt (Nat.lt_of_lt_of_le f1360.lt (Nat.le_of_eq g1391.symm))
  have ne1395 : pts ≠ b1391 := Nat.ne_of_lt (Nat.lt_of_lt_of_le f1361.lt (Nat.le_of_eq g1391.symm))
  have ne1396 : co ≠ b1391 := Nat.ne_of_lt (Nat.lt_of_lt_of_le f1365.lt (Nat.le_of_eq g1391.symm))
  have ne1397 : a3 ≠ b1391 := Nat.ne_of_lt (Nat.lt_of_lt_of_le f1366.lt (Nat.le_of_eq g1391.symm))
  have ne1398 : b1067 ≠ b1391 := Nat.ne_of_lt (Nat.lt_of_lt_of_le f1374.lt (Nat.le_of_eq g1391.symm))
  have ne1399 : b1121 ≠ b1391 := Nat.ne_of_lt (Nat.lt_of_lt_of_le f1377.lt (Nat.le_of_eq g1391.symm))
  have ne1400 : b1181 ≠ b1391 := Nat.ne_of_lt (Nat.lt_of_lt_of_le f1380.lt (Nat.le_of_eq g1391.symm))
  have ne1401 : b1246 ≠ b1391 := Nat.ne_of_lt (Nat.lt_of_lt_of_le f1383.lt (Nat.le_of_eq g1391.symm))
  have ne1402 : b1316 ≠ b1391 := Nat.ne_of_lt (Nat.lt_of_lt_of_le f1386.lt (Nat.le_of_eq g1391.symm))
  have f1403 := f1360.ext E1391
  have f1404 := f1361.ext E1391
  have f1405 := f1362.ext E1391
  have f1406 := f1363.ext E1391
  have f1407 := f1364.ext E1391
  have f1408 := f1365.ext E1391
  have f1409 := f1366.ext E1391
  have f1410 := f1367.ext E1391
  have f1411 := f1368.ext E1391
  have f1412 := f1369.ext E1391
  have f1413 := f1370.ext E1391
  have f1414 := f1371.ext E1391
  have f1415 := f1372.ext E1391
  have f1416 := f1373.ext E1391
  have f1417 := f1374.ext E1391
  have f1418 := f1375.ext E1391
  have f1419 := f1376.ext E1391
  have f1420 := f1377.ext E1391
  have f1421 := f1378.ext E1391
  have f1422 := f1379.ext E1391
  have f1423 := f1380.ext E1391
  have f1424 := f1381.ext E1391
  have f1425 := f1382.ext E1391
  have f1426 := f1383.ext E1391
  have f1427 := f1384.ext E1391
  have f1428 := f1385.ext E1391
  have f1429 := f1386.ext E1391
  have f1430 := f1387.ext E1391
  have f1431 := f1359.ext E1391
  have Zn1432 := Nat.le_trans Zn1388 E1391.1
  have K1433 := K1390.ext E1391
  have f1434 : own_V Z h1391 b1391 .double 9 (fun ii => (.double ((fun _ => (0 : UInt64)) ii))) := A1391
  have f1435 : Exa Z h1391 b1391 "[D" := C1391
  obtain ⟨T1436, h1436, X1436, e1436, W1436, st1436⟩ := putF X1391 hx hZ hown (host := "") (Or.inl (wd hw 65 rfl)) Via.refl e1391 f1411 f1403 (Or.inr ⟨(wd hw 66 rfl), rfl, hnm⟩) (wd hw 36 rfl) (ty := (.array .double)) (by decide) rfl rfl (g := (mkF m 82 #[vR t, vR pts, vR a3, vI 66, vI 1, vI 9, .unset, .unset, .unset, .unset] [(.ref b1391), (.ref t)])) rfl rfl (hb hby d5_82)
  have f1437 := f1411.same W1436
  have f1438 := f1403.wr W1436
  have f1439 := f1404.wr W1436
  have f1440 := f1405.other W1436 (Or.inl (Ne.symm n_tp))
  have f1441 := f1406.other W1436 (Or.inl (Ne.symm n_tp))
  have f1442 := f1407.other W1436 (Or.inl (Ne.symm n_tp))
  have f1443 := f1408.other W1436 (Ne.symm n_tc)
  have f1444 := f1409.wr W1436
  have f1445 := f1410.other W1436 (Ne.symm n_t3)
  have f1446 := f1412.other W1436 (Or.inr (slot_ne (Or.inr (wd hw 119 rfl)) (Or.inr (wd hw 66 rfl)) (by decide) (t := .int) (t' := (.array .double)) (by decide) (by decide)))
  have f1447 := f1413.other W1436 (Or.inr (slot_ne (Or.inr (wd hw 122 rfl)) (Or.inr (wd hw 66 rfl)) (by decide) (t := .int) (t' := (.array .double)) (by decide) (by decide)))
  have f1448 := f1414.other W1436 (Or.inr (slot_ne (Or.inr (wd hw 138 rfl)) (Or.inr (wd hw 66 rfl)) (by decide) (t := (.object "com/example/flatfinder/flatfinder/neighbours/Points")) (t' := (.array .double)) (by decide) (by decide)))
  have f1449 := f1415.other W1436 (Or.inr (slot_ne (Or.inr (wd hw 129 rfl)) (Or.inr (wd hw 66 rfl)) (by decide) (t := (.array .int)) (t' := (.array .double)) (by decide) (by decide)))
  have f1450 := f1416.other W1436 (Or.inr (slot_ne (Or.inr (wd hw 48 rfl)) (Or.inr (wd hw 66 rfl)) (by decide) (t := (.object "com/example/flatfinder/flatfinder/neighbours/Points")) (t' := (.array .double)) (by decide) (by decide)))
  have f1451 := f1417.other W1436 (Ne.symm ne1070)
  have f1452 := f1418.wr W1436
  have f1453 := f1419.other W1436 (Or.inr (slot_ne (Or.inr (wd hw 56 rfl)) (Or.inr (wd hw 66 rfl)) (by decide) (t := (.array .int)) (t' := (.array .double)) (by decide) (by decide)))
  have f1454 := f1420.other W1436 (Ne.symm ne1124)
  have f1455 := f1421.wr W1436
  have f1456 := f1422.other W1436 (Or.inr (slot_ne (Or.inr (wd hw 58 rfl)) (Or.inr (wd hw 66 rfl)) (by decide) (t := (.array .int)) (t' := (.array .double)) (by decide) (by decide)))
  have f1457 := f1423.other W1436 (Ne.symm ne1184)
  have f1458 := f1424.wr W1436
  have f1459 := f1425.other W1436 (Or.inr (slot_ne (Or.inr (wd hw 60 rfl)) (Or.inr (wd hw 66 rfl)) (by decide) (t := (.array .int)) (t' := (.array .double)) (by decide) (by decide)))
  have f1460 := f1426.other W1436 (Ne.symm ne1249)
  have f1461 := f1427.wr W1436
  have f1462 := f1428.other W1436 (Or.inr (slot_ne (Or.inr (wd hw 62 rfl)) (Or.inr (wd hw 66 rfl)) (by decide) (t := (.array .int)) (t' := (.array .double)) (by decide) (by decide)))
  have f1463 := f1429.other W1436 (Ne.symm ne1319)
  have f1464 := f1430.wr W1436
  have f1465 := f1431.other W1436 (Or.inr (slot_ne (Or.inr (wd hw 64 rfl)) (Or.inr (wd hw 66 rfl)) (by decide) (t := (.array .double)) (t' := (.array .double)) (by decide) (by decide)))
  have f1466 := f1434.other W1436 (Ne.symm ne1394)
  have f1467 := f1435.wr W1436
  have Zn1468 := Nat.le_trans Zn1432 (Keep.of_wr W1436).1
  have N1469 := Fr.snoc X1436 N1389 gt
  have K1470 := K1433.wr W1436 (Or.inl (List.mem_of_getElem? (i := 0) rfl))
  obtain ⟨T1471, h1471, X1471, e1471, E1471, A1471, D1471, U1471, st1471⟩ := newO X1436 hx hZ hown (wd hw 67 rfl) (wd hw 68 rfl) (wd hw 69 rfl) e1436 (g := (mkF m 85 #[vR t, vR pts, vR a3, vI 66, vI 1, vI 9, .unset, .unset, .unset, .unset] [])) rfl (hb hby d5_85) (by decide) (by decide)
  obtain ⟨b1471, g1471⟩ : ∃ z, z = h1436.size := ⟨_, rfl⟩
  rw [← g1471] at A1471 D1471 st1471
  have g1472 : n0 ≤ b1471 := Nat.le_trans Zn1468 (Nat.le_of_eq g1471.symm)
  have sz1473 : h0.size ≤ b1471 := Nat.le_trans K1470.1 (Nat.le_of_eq g1471.symm)
  have ne1474 : t ≠ b1471 := Nat.ne_of_lt (Nat.lt_of_lt_of_le f1438.lt (Nat.le_of_eq g1471.symm))
  have ne1475 : pts ≠ b1471 := Nat.ne_of_lt (Nat.lt_of_lt_of_le f1439.lt (Nat.le_of_eq g1471.symm))
  have ne1476 : co ≠ b1471 := Nat.ne_of_lt (Nat.lt_of_lt_of_le f1443.lt (Nat.le_of_eq g1471.symm))
  have ne1477 : a3 ≠ b1471 := Nat.ne_of_lt (Nat.lt_of_lt_of_le f1444.lt (Nat.le_of_eq g1471.symm))
  have ne1478 : b1067 ≠ b1471 := Nat.ne_of_lt (Nat.lt_of_lt_of_le f1451.lt (Nat.le_of_eq g1471.symm))
  have ne1479 : b1121 ≠ b1471 := Nat.ne_of_lt (Nat.lt_of_lt_of_le f1454.lt (Nat.le_of_eq g1471.symm))
  have ne1480 : b1181 ≠ b1471 := Nat.ne_of_lt (Nat.lt_of_lt_of_le f1457.lt (Nat.le_of_eq g1471.symm))
  have ne1481 : b1246 ≠ b1471 := Nat.ne_of_lt (Nat.lt_of_lt_of_le f1460.lt (Nat.le_of_eq g1471.symm))
  have ne1482 : b1316 ≠ b1471 := Nat.ne_of_lt (Nat.lt_of_lt_of_le f1463.lt (Nat.le_of_eq g1471.symm))
  have ne1483 : b1391 ≠ b1471 := Nat.ne_of_lt (Nat.lt_of_lt_of_le f1466.lt (Nat.le_of_eq g1471.symm))
  have f1484 := f1438.ext E1471
  have f1485 := f1439.ext E1471
  have f1486 := f1440.ext E1471
  have f1487 := f1441.ext E1471
  have f1488 := f1442.ext E1471
  have f1489 := f1443.ext E1471
  have f1490 := f1444.ext E1471
  have f1491 := f1445.ext E1471
  have f1492 := f1446.ext E1471
  have f1493 := f1447.ext E1471
  have f1494 := f1448.ext E1471
  have f1495 := f1449.ext E1471
  have f1496 := f1450.ext E1471
  have f1497 := f1451.ext E1471
  have f1498 := f1452.ext E1471
  have f1499 := f1453.ext E1471
  have f1500 := f1454.ext E1471
  have f1501 := f1455.ext E1471
  have f1502 := f1456.ext E1471
  have f1503 := f1457.ext E1471
  have f1504 := f1458.ext E1471
  have f1505 := f1459.ext E1471
  have f1506 := f1460.ext E1471
  have f1507 := f1461.ext E1471
  have f1508 := f1462.ext E1471
  have f1509 := f1463.ext E1471
  have f1510 := f1464.ext E1471
  have f1511 := f1465.ext E1471
  have f1512 := f1466.ext E1471
  have f1513 := f1467.ext E1471
  have f1514 := f1437.ext E1471
  have Zn1515 := Nat.le_trans Zn1468 E1471.1
  have K1516 := K1470.ext E1471
  have f1517 : Fld Z h1471 b1471 "com/example/flatfinder/flatfinder/neighbours/KdTree$Builder" "this$0" "Lcom/example/flatfinder/flatfinder/neighbours/KdTree;" .null := D1471 (Or.inr (wd hw 74 rfl)) (ty := (.object "com/example/flatfinder/flatfinder/neighbours/KdTree")) (by decide)
  have f1518 : Fld Z h1471 b1471 "com/example/flatfinder/flatfinder/neighbours/KdTree$Builder" "next" "I" (.int (0 : Int32)) := D1471 (Or.inl (wd hw 84 rfl)) (ty := .int) (by decide)
  have f1519 : Fld Z h1471 b1471 "com/example/flatfinder/flatfinder/neighbours/KdTree$Builder" "depth" "I" (.int (0 : Int32)) := D1471 (Or.inl (wd hw 86 rfl)) (ty := .int) (by decide)
  obtain ⟨_, _, ⟨T1520, L1520, k1520, n1520⟩, -, X1520, ⟨Lc1520, hQ1520, l1520, y1520, z1520⟩, st1520⟩ := own_specialRef X1471 hx (y := (⟨"com/example/flatfinder/flatfinder/neighbours/KdTree$Builder", "<init>", "(Lcom/example/flatfinder/flatfinder/neighbours/KdTree;)V"⟩ : MethodName)) rfl hown (own_mvRef hZ (wd hw 71 rfl) (by decide) (wd hw 70 rfl)) (mvT hZ (wd hw 71 rfl)) (mvT hZ (wd hw 72 rfl)) (by decide) (backOf (W := 1) (rm7 l Z a0 hw [] b1471 t  h1471 n0 Zn1515 A1471 f1517 f1518 f1519 g1472) hZ (wd hw 72 rfl) (wd hw 69 rfl) (by decide) (by decide)) (g := (mkF m 90 #[vR t, vR pts, vR a3, vI 66, vI 1, vI 9, .unset, .unset, .unset, .unset] [(.ref t), (.ref b1471), (.ref b1471)])) rfl (by rw [hml]; rfl) (Steps.refl _) (a := b1471) (argsL := [(.ref t)]) (rest := [(.ref b1471)]) (lenOf pd__Lcom_example_flatfinder_flatfinder_neighbours_KdTree__V rfl) rfl (by show 2 * 0 + _ ≤ _; exact Nat.le_of_eq rfl) (hb hby d5_90) (fun _ _ => ⟨rfl, e1471, (by decide : 7 + 0 ≤ _), (by decide : 114 + 0 ≤ _)⟩)
  dsimp only [Pt.U, Pt.locs, Pt.cells, Pt.slots] at X1520 l1520 y1520 z1520 st1520 hQ1520
  subst l1520 y1520 z1520
  obtain ⟨rfl, N1520q, K1520, Ft1520, Fn1520, Fp1520⟩ := hQ1520
  have N1521 := Fr.app N1469 N1520q
  have f1522 := f1484.keep K1520
  have f1523 := f1485.keep K1520
  have f1524 := f1486.keep K1520 (ninS ne1475 nin0)
  have f1525 := f1487.keep K1520 (ninS ne1475 nin0)
  have f1526 := f1488.keep K1520 (ninS ne1475 nin0)
  have f1527 := f1489.keep K1520 (ninS ne1476 nin0)
  have f1528 := f1490.keep K1520
  have f1529 := f1491.keep K1520 (ninS ne1477 nin0)
  have f1530 := f1492.keep K1520 (ninS ne1474 nin0)
  have f1531 := f1493.keep K1520 (ninS ne1474 nin0)
  have f1532 := f1494.keep K1520 (ninS ne1474 nin0)
  have f1533 := f1495.keep K1520 (ninS ne1474 nin0)
  have f1534 := f1496.keep K1520 (ninS ne1474 nin0)
  have f1535 := f1497.keep K1520 (ninS ne1478 nin0)
  have f1536 := f1498.keep K1520
  have f1537 := f1499.keep K1520 (ninS ne1474 nin0)
  have f1538 := f1500.keep K1520 (ninS ne1479 nin0)
  have f1539 := f1501.keep K1520
  have f1540 := f1502.keep K1520 (ninS ne1474 nin0)
  have f1541 := f1503.keep K1520 (ninS ne1480 nin0)
  have f1542 := f1504.keep K1520
  have f1543 := f1505.keep K1520 (ninS ne1474 nin0)
  have f1544 := f1506.keep K1520 (ninS ne1481 nin0)
  have f1545 := f1507.keep K1520
  have f1546 := f1508.keep K1520 (ninS ne1474 nin0)
  have f1547 := f1509.keep K1520 (ninS ne1482 nin0)
  have f1548 := f1510.keep K1520
  have f1549 := f1511.keep K1520 (ninS ne1474 nin0)
  have f1550 := f1512.keep K1520 (ninS ne1483 nin0)
  have f1551 := f1513.keep K1520
  have f1552 := f1514.keep K1520 (ninS ne1474 nin0)
  have f1553 := A1471.keep K1520
  have Zn1554 := Nat.le_trans Zn1515 K1520.1
  have K1555 := K1516.trans K1520 (allS (Or.inr sz1473) all0)
  obtain ⟨cq1556, kq1556, q1556a, q1556b, q1556c⟩ := isOf hZ rfl f1553
  obtain ⟨_, _, ⟨T1556, L1556, k1556, n1556⟩, -, X1556, ⟨Lc1556, hQ1556, l1556, y1556, z1556⟩, st1556⟩ := X1520.virtualBack hx (y := (⟨"com/example/flatfinder/flatfinder/neighbours/KdTree$Builder", "build", "(III)V"⟩ : MethodName)) (z := (⟨"com/example/flatfinder/flatfinder/neighbours/KdTree$Builder", "build", "(III)V"⟩ : MethodName)) hown (mvT hZ (wd hw 76 rfl)) (mvT hZ (wd hw 77 rfl)) (notFace_of_selects (args := #[]) (mvT hZ (wd hw 79 rfl))) (mvT hZ (wd hw 79 rfl)) (mvT hZ (wd hw 78 rfl)) (by decide) (backOf (W := 0) (rm8_2 l Z a0 hw [] b1471 (0 : Int32) (66 : Int32) (1 : Int32) t pts co b1067 b1121 b1181 b1246 b1316 b1391 gc (0 : Int32) (fun _ => (0 : Int32)) (fun _ => (0 : Int32)) (fun _ => (0 : Int32)) T1520.heap n0 Zn1554 f1553 Ft1520 f1534 f1537 f1523 f1524 f1525 f1526 f1527 f1540 f1543 f1546 f1549 f1552 Fg ⟨Ft1520, Fn1520, ⟨_, Fp1520⟩, ⟨_, f1535, q3⟩, f1538, f1541, f1544, ⟨_, f1547⟩, ⟨_, f1550⟩⟩ (by decide) (by decide) (own_ndc (allS (Ne.symm ne1474) (allS (Ne.symm ne1475) (allS (Ne.symm ne1476) (allS (Ne.symm ne1478) (allS (Ne.symm ne1479) (allS (Ne.symm ne1480) (allS (Ne.symm ne1481) (allS (Ne.symm ne1482) (allS (Ne.symm ne1483) all0))))))))) (own_ndc (allS n_tp (allS n_tc (allS ne1070 (allS ne1124 (allS ne1184 (allS ne1249 (allS ne1319 (allS ne1394 all0)))))))) (own_ndc (allS n_pc (allS ne1071 (allS ne1125 (allS ne1185 (allS ne1250 (allS ne1320 (allS ne1395 all0))))))) (own_ndc (allS ne1072 (allS ne1126 (allS ne1186 (allS ne1251 (allS ne1321 (allS ne1396 all0)))))) (own_ndc (allS ne1128 (allS ne1188 (allS ne1253 (allS ne1323 (allS ne1398 all0))))) (own_ndc (allS ne1189 (allS ne1254 (allS ne1324 (allS ne1399 all0)))) (own_ndc (allS ne1255 (allS ne1325 (allS ne1400 all0))) (own_ndc (allS ne1326 (allS ne1401 all0)) (own_ndc (allS ne1402 all0) (own_ndc all0 List.nodup_nil)))))))))) (allS g1472 (allS g1068 (allS g1122 (allS g1182 (allS g1247 (allS g1317 (allS g1392 all0)))))))) hZ (wd hw 80 rfl) (wd hw 69 rfl) (by decide) (by decide)) q1556a q1556c (g := (mkF m 100 #[vR t, vR pts, vR a3, vI 66, vI 1, vI 9, vR b1471, .unset, .unset, .unset] [(.int (1 : Int32)), (.int (66 : Int32)), (.int (0 : Int32)), (.ref b1471)])) rfl (by rw [hml]; rfl) (Steps.refl _) (argsL := [(.int (0 : Int32)), (.int (66 : Int32)), (.int (1 : Int32))]) (rest := []) (lenOf pd__III_V rfl) rfl (by show 2 * 0 + _ ≤ _; exact Nat.le_of_eq rfl) (hb hby d5_100) (fun _ _ => ⟨rfl, rfl, (by decide : 7 + 3 ≤ _), (by decide : 114 + 198 ≤ _)⟩)
  dsimp only [Pt.U, Pt.locs, Pt.cells, Pt.slots] at X1556 l1556 y1556 z1556 st1556 hQ1556
  subst l1556 y1556 z1556
  obtain ⟨rfl, N1556q, K1556, n1556', F1556', E1556', U1556', rel1556, S1556⟩ := hQ1556
  have N1557 := Fr.app N1521 N1556q
  have f1558 := f1522.keep K1556
  have f1559 := f1523.keep K1556
  have f1560 := f1524.keep K1556 (ninS ne1475 (ninS ne1071 (ninS ne1125 (ninS ne1185 (ninS ne1250 (ninS ne1320 (ninS ne1395 nin0)))))))
  have f1561 := f1525.keep K1556 (ninS ne1475 (ninS ne1071 (ninS ne1125 (ninS ne1185 (ninS ne1250 (ninS ne1320 (ninS ne1395 nin0)))))))
  have f1562 := f1526.keep K1556 (ninS ne1475 (ninS ne1071 (ninS ne1125 (ninS ne1185 (ninS ne1250 (ninS ne1320 (ninS ne1395 nin0)))))))
  have f1563 := f1527.keep K1556 (ninS ne1476 (ninS ne1072 (ninS ne1126 (ninS ne1186 (ninS ne1251 (ninS ne1321 (ninS ne1396 nin0)))))))
  have f1564 := f1528.keep K1556
  have f1565 := f1529.keep K1556 (ninS ne1477 (ninS ne1073 (ninS ne1127 (ninS ne1187 (ninS ne1252 (ninS ne1322 (ninS ne1397 nin0)))))))
  have f1566 := f1530.keep K1556 (ninS ne1474 (ninS ne1070 (ninS ne1124 (ninS ne1184 (ninS ne1249 (ninS ne1319 (ninS ne1394 nin0)))))))
  have f1567 := f1531.keep K1556 (ninS ne1474 (ninS ne1070 (ninS ne1124 (ninS ne1184 (ninS ne1249 (ninS ne1319 (ninS ne1394 nin0)))))))
  have f1568 := f1532.keep K1556 (ninS ne1474 (ninS ne1070 (ninS ne1124 (ninS ne1184 (ninS ne1249 (ninS ne1319 (ninS ne1394 nin0)))))))
  have f1569 := f1533.keep K1556 (ninS ne1474 (ninS ne1070 (ninS ne1124 (ninS ne1184 (ninS ne1249 (ninS ne1319 (ninS ne1394 nin0)))))))
  have f1570 := f1534.keep K1556 (ninS ne1474 (ninS ne1070 (ninS ne1124 (ninS ne1184 (ninS ne1249 (ninS ne1319 (ninS ne1394 nin0)))))))
  have f1571 := f1536.keep K1556
  have f1572 := f1537.keep K1556 (ninS ne1474 (ninS ne1070 (ninS ne1124 (ninS ne1184 (ninS ne1249 (ninS ne1319 (ninS ne1394 nin0)))))))
  have f1573 := f1539.keep K1556
  have f1574 := f1540.keep K1556 (ninS ne1474 (ninS ne1070 (ninS ne1124 (ninS ne1184 (ninS ne1249 (ninS ne1319 (ninS ne1394 nin0)))))))
  have f1575 := f1542.keep K1556
  have f1576 := f1543.keep K1556 (ninS ne1474 (ninS ne1070 (ninS ne1124 (ninS ne1184 (ninS ne1249 (ninS ne1319 (ninS ne1394 nin0)))))))
  have f1577 := f1545.keep K1556
  have f1578 := f1546.keep K1556 (ninS ne1474 (ninS ne1070 (ninS ne1124 (ninS ne1184 (ninS ne1249 (ninS ne1319 (ninS ne1394 nin0)))))))
  have f1579 := f1548.keep K1556
  have f1580 := f1549.keep K1556 (ninS ne1474 (ninS ne1070 (ninS ne1124 (ninS ne1184 (ninS ne1249 (ninS ne1319 (ninS ne1394 nin0)))))))
  have f1581 := f1551.keep K1556
  have f1582 := f1552.keep K1556 (ninS ne1474 (ninS ne1070 (ninS ne1124 (ninS ne1184 (ninS ne1249 (ninS ne1319 (ninS ne1394 nin0)))))))
  have f1583 := f1553.keep K1556
  have Zn1584 := Nat.le_trans Zn1554 K1556.1
  have K1585 := K1555.trans K1556 (allS (Or.inr sz1473) (allS (Or.inr sz1069) (allS (Or.inr sz1123) (allS (Or.inr sz1183) (allS (Or.inr sz1248) (allS (Or.inr sz1318) (allS (Or.inr sz1393) all0)))))))
  obtain ⟨Ftb, Fnb, ⟨dpb, Fdpb⟩, ⟨f0, V0b, q0⟩, V1b, V2b, V3b, -, -⟩ := id S1556
  obtain ⟨T1586, X1586, e1586, st1586⟩ := own_getRef X1556 hx hZ hown (wd hw 117 rfl) rfl Fnb (f := (mkF m 106 #[vR t, vR pts, vR a3, vI 66, vI 1, vI 9, vR b1471, .unset, .unset, .unset] [(.ref b1471), (.ref t)])) rfl rfl (hb hby d5_106)
  obtain ⟨T1587, h1587, X1587, e1587, W1587, st1587⟩ := putF X1586 hx hZ hown (host := "") (Or.inl (wd hw 118 rfl)) Via.refl e1586 f1566 f1558 (Or.inr ⟨(wd hw 119 rfl), rfl, hnm⟩) (wd hw 36 rfl) (ty := .int) (by decide) rfl rfl (g := (mkF m 109 #[vR t, vR pts, vR a3, vI 66, vI 1, vI 9, vR b1471, .unset, .unset, .unset] [(.int n1556'), (.ref t)])) rfl rfl (hb hby d5_109)
  have f1588 := f1566.same W1587
  have f1589 := f1558.wr W1587
  have f1590 := f1559.wr W1587
  have f1591 := f1560.other W1587 (Or.inl (Ne.symm n_tp))
  have f1592 := f1561.other W1587 (Or.inl (Ne.symm n_tp))
  have f1593 := f1562.other W1587 (Or.inl (Ne.symm n_tp))
  have f1594 := f1563.other W1587 (Ne.symm n_tc)
  have f1595 := f1564.wr W1587
  have f1596 := f1565.other W1587 (Ne.symm n_t3)
  have f1597 := f1567.other W1587 (Or.inr (slot_ne (Or.inr (wd hw 122 rfl)) (Or.inr (wd hw 119 rfl)) (by decide) (t := .int) (t' := .int) (by decide) (by decide)))
  have f1598 := f1568.other W1587 (Or.inr (slot_ne (Or.inr (wd hw 138 rfl)) (Or.inr (wd hw 119 rfl)) (by decide) (t := (.object "com/example/flatfinder/flatfinder/neighbours/Points")) (t' := .int) (by decide) (by decide)))
  have f1599 := f1569.other W1587 (Or.inr (slot_ne (Or.inr (wd hw 129 rfl)) (Or.inr (wd hw 119 rfl)) (by decide) (t := (.array .int)) (t' := .int) (by decide) (by decide)))
  have f1600 := f1570.other W1587 (Or.inr (slot_ne (Or.inr (wd hw 48 rfl)) (Or.inr (wd hw 119 rfl)) (by decide) (t := (.object "com/example/flatfinder/flatfinder/neighbours/Points")) (t' := .int) (by decide) (by decide)))
  have f1601 := f1571.wr W1587
  have f1602 := f1572.other W1587 (Or.inr (slot_ne (Or.inr (wd hw 56 rfl)) (Or.inr (wd hw 119 rfl)) (by decide) (t := (.array .int)) (t' := .int) (by decide) (by decide)))
  have f1603 := f1573.wr W1587
  have f1604 := f1574.other W1587 (Or.inr (slot_ne (Or.inr (wd hw 58 rfl)) (Or.inr (wd hw 119 rfl)) (by decide) (t := (.array .int)) (t' := .int) (by decide) (by decide)))
  have f1605 := f1575.wr W1587
  have f1606 := f1576.other W1587 (Or.inr (slot_ne (Or.inr (wd hw 60 rfl)) (Or.inr (wd hw 119 rfl)) (by decide) (t := (.array .int)) (t' := .int) (by decide) (by decide)))
  have f1607 := f1577.wr W1587
  have f1608 := f1578.other W1587 (Or.inr (slot_ne (Or.inr (wd hw 62 rfl)) (Or.inr (wd hw 119 rfl)) (by decide) (t := (.array .int)) (t' := .int) (by decide) (by decide)))
  have f1609 := f1579.wr W1587
  have f1610 := f1580.other W1587 (Or.inr (slot_ne (Or.inr (wd hw 64 rfl)) (Or.inr (wd hw 119 rfl)) (by decide) (t := (.array .double)) (t' := .int) (by decide) (by decide)))
  have f1611 := f1581.wr W1587
  have f1612 := f1582.other W1587 (Or.inr (slot_ne (Or.inr (wd hw 66 rfl)) (Or.inr (wd hw 119 rfl)) (by decide) (t := (.array .double)) (t' := .int) (by decide) (by decide)))
  have f1613 := f1583.wr W1587
  have f1614 := Fnb.other W1587 (Or.inl (Ne.symm ne1474))
  have f1615 := Fdpb.other W1587 (Or.inl (Ne.symm ne1474))
  have f1616 := V0b.other W1587 (Ne.symm ne1070)
  have f1617 := V1b.other W1587 (Ne.symm ne1124)
  have f1618 := V2b.other W1587 (Ne.symm ne1184)
  have f1619 := V3b.other W1587 (Ne.symm ne1249)
  have Zn1620 := Nat.le_trans Zn1584 (Keep.of_wr W1587).1
  have N1621 := Fr.snoc X1587 N1557 gt
  have K1622 := K1585.wr W1587 (Or.inl (List.mem_of_getElem? (i := 0) rfl))
  obtain ⟨T1623, X1623, e1623, st1623⟩ := own_getRef X1587 hx hZ hown (wd hw 120 rfl) e1587 f1615 (f := (mkF m 115 #[vR t, vR pts, vR a3, vI 66, vI 1, vI 9, vR b1471, .unset, .unset, .unset] [(.ref b1471), (.ref t)])) rfl rfl (hb hby d5_115)
  obtain ⟨T1624, h1624, X1624, e1624, W1624, st1624⟩ := putF X1623 hx hZ hown (host := "") (Or.inl (wd hw 121 rfl)) Via.refl e1623 f1597 f1589 (Or.inr ⟨(wd hw 122 rfl), rfl, hnm⟩) (wd hw 36 rfl) (ty := .int) (by decide) rfl rfl (g := (mkF m 118 #[vR t, vR pts, vR a3, vI 66, vI 1, vI 9, vR b1471, .unset, .unset, .unset] [(.int dpb), (.ref t)])) rfl rfl (hb hby d5_118)
  have f1625 := f1597.same W1624
  have f1626 := f1589.wr W1624
  have f1627 := f1590.wr W1624
  have f1628 := f1591.other W1624 (Or.inl (Ne.symm n_tp))
  have f1629 := f1592.other W1624 (Or.inl (Ne.symm n_tp))
  have f1630 := f1593.other W1624 (Or.inl (Ne.symm n_tp))
  have f1631 := f1594.other W1624 (Ne.symm n_tc)
  have f1632 := f1595.wr W1624
  have f1633 := f1596.other W1624 (Ne.symm n_t3)
  have f1634 := f1598.other W1624 (Or.inr (slot_ne (Or.inr (wd hw 138 rfl)) (Or.inr (wd hw 122 rfl)) (by decide) (t := (.object "com/example/flatfinder/flatfinder/neighbours/Points")) (t' := .int) (by decide) (by decide)))
  have f1635 := f1599.other W1624 (Or.inr (slot_ne (Or.inr (wd hw 129 rfl)) (Or.inr (wd hw 122 rfl)) (by decide) (t := (.array .int)) (t' := .int) (by decide) (by decide)))
  have f1636 := f1600.other W1624 (Or.inr (slot_ne (Or.inr (wd hw 48 rfl)) (Or.inr (wd hw 122 rfl)) (by decide) (t := (.object "com/example/flatfinder/flatfinder/neighbours/Points")) (t' := .int) (by decide) (by decide)))
  have f1637 := f1601.wr W1624
  have f1638 := f1602.other W1624 (Or.inr (slot_ne (Or.inr (wd hw 56 rfl)) (Or.inr (wd hw 122 rfl)) (by decide) (t := (.array .int)) (t' := .int) (by decide) (by decide)))
  have f1639 := f1603.wr W1624
  have f1640 := f1604.other W1624 (Or.inr (slot_ne (Or.inr (wd hw 58 rfl)) (Or.inr (wd hw 122 rfl)) (by decide) (t := (.array .int)) (t' := .int) (by decide) (by decide)))
  have f1641 := f1605.wr W1624
  have f1642 := f1606.other W1624 (Or.inr (slot_ne (Or.inr (wd hw 60 rfl)) (Or.inr (wd hw 122 rfl)) (by decide) (t := (.array .int)) (t' := .int) (by decide) (by decide)))
  have f1643 := f1607.wr W1624
  have f1644 := f1608.other W1624 (Or.inr (slot_ne (Or.inr (wd hw 62 rfl)) (Or.inr (wd hw 122 rfl)) (by decide) (t := (.array .int)) (t' := .int) (by decide) (by decide)))
  have f1645 := f1609.wr W1624
  have f1646 := f1610.other W1624 (Or.inr (slot_ne (Or.inr (wd hw 64 rfl)) (Or.inr (wd hw 122 rfl)) (by decide) (t := (.array .double)) (t' := .int) (by decide) (by decide)))
  have f1647 := f1611.wr W1624
  have f1648 := f1612.other W1624 (Or.inr (slot_ne (Or.inr (wd hw 66 rfl)) (Or.inr (wd hw 122 rfl)) (by decide) (t := (.array .double)) (t' := .int) (by decide) (by decide)))
  have f1649 := f1613.wr W1624
  have f1650 := f1614.other W1624 (Or.inl (Ne.symm ne1474))
  have f1651 := f1615.other W1624 (Or.inl (Ne.symm ne1474))
  have f1652 := f1616.other W1624 (Ne.symm ne1070)
  have f1653 := f1617.other W1624 (Ne.symm ne1124)
  have f1654 := f1618.other W1624 (Ne.symm ne1184)
  have f1655 := f1619.other W1624 (Ne.symm ne1249)
  have f1656 := f1588.other W1624 (Or.inr (slot_ne (Or.inr (wd hw 119 rfl)) (Or.inr (wd hw 122 rfl)) (by decide) (t := .int) (t' := .int) (by decide) (by decide)))
  have Zn1657 := Nat.le_trans Zn1620 (Keep.of_wr W1624).1
  have N1658 := Fr.snoc X1624 N1621 gt
  have K1659 := K1622.wr W1624 (Or.inl (List.mem_of_getElem? (i := 0) rfl))
  obtain ⟨T1660, h1660, X1660, e1660, E1660, A1660, C1660, st1660⟩ := own_newP X1624 hx hZ (wd hw 0 rfl) e1624 (f := (mkF m 125 #[vR t, vR pts, vR a3, vI 66, vI 1, vI 9, vR b1471, .unset, .unset, .unset] [(.int (66 : Int32))])) rfl (hb hby d5_125) rfl (by decide) (cap := 66) (by decide) (by decide) (by decide) (by decide)
  obtain ⟨b1660, g1660⟩ : ∃ z, z = h1624.size := ⟨_, rfl⟩
  rw [← g1660] at A1660 C1660 st1660
  have g1661 : n0 ≤ b1660 := Nat.le_trans Zn1657 (Nat.le_of_eq g1660.symm)
  have sz1662 : h0.size ≤ b1660 := Nat.le_trans K1659.1 (Nat.le_of_eq g1660.symm)
  have ne1663 : t ≠ b1660 := Nat.ne_of_lt (Nat.lt_of_lt_of_le f1626.lt (Nat.le_of_eq g1660.symm))
  have ne1664 : pts ≠ b1660 := Nat.ne_of_lt (Nat.lt_of_lt_of_le f1627.lt (Nat.le_of_eq g1660.symm))
  have ne1665 : co ≠ b1660 := Nat.ne_of_lt (Nat.lt_of_lt_of_le f1631.lt (Nat.le_of_eq g1660.symm))
  have ne1666 : a3 ≠ b1660 := Nat.ne_of_lt (Nat.lt_of_lt_of_le f1632.lt (Nat.le_of_eq g1660.symm))
  have ne1667 : b1067 ≠ b1660 := Nat.ne_of_lt (Nat.lt_of_lt_of_le f1637.lt (Nat.le_of_eq g1660.symm))
  have ne1668 : b1121 ≠ b1660 := Nat.ne_of_lt (Nat.lt_of_lt_of_le f1639.lt (Nat.le_of_eq g1660.symm))
  have ne1669 : b1181 ≠ b1660 := Nat.ne_of_lt (Nat.lt_of_lt_of_le f1641.lt (Nat.le_of_eq g1660.symm))
  have ne1670 : b1246 ≠ b1660 := Nat.ne_of_lt (Nat.lt_of_lt_of_le f1643.lt (Nat.le_of_eq g1660.symm))
  have ne1671 : b1316 ≠ b1660 := Nat.ne_of_lt (Nat.lt_of_lt_of_le f1645.lt (Nat.le_of_eq g1660.symm))
  have ne1672 : b1391 ≠ b1660 := Nat.ne_of_lt (Nat.lt_of_lt_of_le f1647.lt (Nat.le_of_eq g1660.symm))
  have ne1673 : b1471 ≠ b1660 := Nat.ne_of_lt (Nat.lt_of_lt_of_le f1649.lt (Nat.le_of_eq g1660.symm))
  have f1674 := f1626.ext E1660
  have f1675 := f1627.ext E1660
  have f1676 := f1628.ext E1660
  have f1677 := f1629.ext E1660
  have f1678 := f1630.ext E1660
  have f1679 := f1631.ext E1660
  have f1680 := f1632.ext E1660
  have f1681 := f1633.ext E1660
  have f1682 := f1634.ext E1660
  have f1683 := f1635.ext E1660
  have f1684 := f1636.ext E1660
  have f1685 := f1637.ext E1660
  have f1686 := f1638.ext E1660
  have f1687 := f1639.ext E1660
  have f1688 := f1640.ext E1660
  have f1689 := f1641.ext E1660
  have f1690 := f1642.ext E1660
  have f1691 := f1643.ext E1660
  have f1692 := f1644.ext E1660
  have f1693 := f1645.ext E1660
  have f1694 := f1646.ext E1660
  have f1695 := f1647.ext E1660
  have f1696 := f1648.ext E1660
  have f1697 := f1649.ext E1660
  have f1698 := f1650.ext E1660
  have f1699 := f1651.ext E1660
  have f1700 := f1652.ext E1660
  have f1701 := f1653.ext E1660
  have f1702 := f1654.ext E1660
  have f1703 := f1655.ext E1660
  have f1704 := f1656.ext E1660
  have f1705 := f1625.ext E1660
  have Zn1706 := Nat.le_trans Zn1657 E1660.1
  have K1707 := K1659.ext E1660
  have f1708 : own_V Z h1660 b1660 .double 66 (fun ii => (.double ((fun _ => (0 : UInt64)) ii))) := A1660
  have f1709 : Exa Z h1660 b1660 "[D" := C1660
  obtain ⟨cq1710, kq1710, q1710a, q1710b, q1710c⟩ := isOf hZ e1660 f1675
  obtain ⟨_, _, ⟨T1710, L1710, k1710, n1710⟩, -, X1710, ⟨Lc1710, hQ1710, l1710, y1710, z1710⟩, st1710⟩ := X1660.virtualBack hx (y := (⟨"com/example/flatfinder/flatfinder/neighbours/Points", "size", "()I"⟩ : MethodName)) (z := (⟨"com/example/flatfinder/flatfinder/neighbours/Points", "size", "()I"⟩ : MethodName)) hown (mvT hZ (wd hw 123 rfl)) (mvT hZ (wd hw 124 rfl)) (notFace_of_selects (args := #[]) (mvT hZ (wd hw 126 rfl))) (mvT hZ (wd hw 126 rfl)) (mvT hZ (wd hw 125 rfl)) (by decide) (backOf (W := 1) (rm15 l Z a0 hw [] pts  h1660 n0 Zn1706 f1676) hZ (wd hw 127 rfl) (wd hw 4 rfl) (by decide) (by decide)) q1710a q1710c (g := (mkF m 131 #[vR t, vR pts, vR a3, vI 66, vI 1, vI 9, vR b1471, vR b1660, .unset, .unset] [(.ref pts), (.ref t)])) rfl (by rw [hml]; rfl) (Steps.refl _) (argsL := []) (rest := [(.ref t)]) (lenOf pd___I rfl) rfl (by show 2 * 0 + _ ≤ _; exact Nat.le_of_eq rfl) (hb hby d5_131) (fun _ _ => ⟨rfl, e1660, (by decide : 11 + 0 ≤ _), (by decide : 378 + 0 ≤ _)⟩)
  dsimp only [Pt.U, Pt.locs, Pt.cells, Pt.slots] at X1710 l1710 y1710 z1710 st1710 hQ1710
  subst l1710 y1710 z1710
  obtain ⟨rfl, N1710q, e1710⟩ := hQ1710
  have N1711 := Fr.app N1658 N1710q
  obtain ⟨T1712, h1712, X1712, e1712, E1712, A1712, C1712, st1712⟩ := own_newP X1710 hx hZ (wd hw 1 rfl) e1710 (f := (mkF m 134 #[vR t, vR pts, vR a3, vI 66, vI 1, vI 9, vR b1471, vR b1660, .unset, .unset] [(.int (66 : Int32)), (.ref t)])) rfl (hb hby d5_134) rfl (by decide) (cap := 66) (by decide) (by decide) (by decide) (by decide)
  obtain ⟨b1712, g1712⟩ : ∃ z, z = h1660.size := ⟨_, rfl⟩
  rw [← g1712] at A1712 C1712 st1712
  have g1713 : n0 ≤ b1712 := Nat.le_trans Zn1706 (Nat.le_of_eq g1712.symm)
  have sz1714 : h0.size ≤ b1712 := Nat.le_trans K1707.1 (Nat.le_of_eq g1712.symm)
  have ne1715 : t ≠ b1712 := Nat.ne_of_lt (Nat.lt_of_lt_of_le f1674.lt (Nat.le_of_eq g1712.symm))
  have ne1716 : pts ≠ b1712 := Nat.ne_of_lt (Nat.lt_of_lt_of_le f1675.lt (Nat.le_of_eq g1712.symm))
  have ne1717 : co ≠ b1712 := Nat.ne_of_lt (Nat.lt_of_lt_of_le f1679.lt (Nat.le_of_eq g1712.symm))
  have ne1718 : a3 ≠ b1712 := Nat.ne_of_lt (Nat.lt_of_lt_of_le f1680.lt (Nat.le_of_eq g1712.symm))
  have ne1719 : b1067 ≠ b1712 := Nat.ne_of_lt (Nat.lt_of_lt_of_le f1685.lt (Nat.le_of_eq g1712.symm))
  have ne1720 : b1121 ≠ b1712 := Nat.ne_of_lt (Nat.lt_of_lt_of_le f1687.lt (Nat.le_of_eq g1712.symm))
  have ne1721 : b1181 ≠ b1712 := Nat.ne_of_lt (Nat.lt_of_lt_of_le f1689.lt (Nat.le_of_eq g1712.symm))
  have ne1722 : b1246 ≠ b1712 := Nat.ne_of_lt (Nat.lt_of_lt_of_le f1691.lt (Nat.le_of_eq g1712.symm))
  have ne1723 : b1316 ≠ b1712 := Nat.ne_of_lt (Nat.lt_of_lt_of_le f1693.lt (Nat.le_of_eq g1712.symm))
  have ne1724 : b1391 ≠ b1712 := Nat.ne_of_lt (Nat.lt_of_lt_of_le f1695.lt (Nat.le_of_eq g1712.symm))
  have ne1725 : b1471 ≠ b1712 := Nat.ne_of_lt (Nat.lt_of_lt_of_le f1697.lt (Nat.le_of_eq g1712.symm))
  have ne1726 : b1660 ≠ b1712 := Nat.ne_of_lt (Nat.lt_of_lt_of_le f1708.lt (Nat.le_of_eq g1712.symm))
  have f1727 := f1674.ext E1712
  have f1728 := f1675.ext E1712
  have f1729 := f1676.ext E1712
  have f1730 := f1677.ext E1712
  have f1731 := f1678.ext E1712
  have f1732 := f1679.ext E1712
  have f1733 := f1680.ext E1712
  have f1734 := f1681.ext E1712
  have f1735 := f1682.ext E1712
  have f1736 := f1683.ext E1712
  have f1737 := f1684.ext E1712
  have f1738 := f1685.ext E1712
  have f1739 := f1686.ext E1712
  have f1740 := f1687.ext E1712
  have f1741 := f1688.ext E1712
  have f1742 := f1689.ext E1712
  have f1743 := f1690.ext E1712
  have f1744 := f1691.ext E1712
  have f1745 := f1692.ext E1712
  have f1746 := f1693.ext E1712
  have f1747 := f1694.ext E1712
  have f1748 := f1695.ext E1712
  have f1749 := f1696.ext E1712
  have f1750 := f1697.ext E1712
  have f1751 := f1698.ext E1712
  have f1752 := f1699.ext E1712
  have f1753 := f1700.ext E1712
  have f1754 := f1701.ext E1712
  have f1755 := f1702.ext E1712
  have f1756 := f1703.ext E1712
  have f1757 := f1704.ext E1712
  have f1758 := f1705.ext E1712
  have f1759 := f1708.ext E1712
  have f1760 := f1709.ext E1712
  have Zn1761 := Nat.le_trans Zn1706 E1712.1
  have K1762 := K1707.ext E1712
  have f1763 : own_V Z h1712 b1712 .int 66 (fun ii => (.int ((fun _ => (0 : Int32)) ii))) := A1712
  have f1764 : Exa Z h1712 b1712 "[I" := C1712
  obtain ⟨T1765, h1765, X1765, e1765, W1765, st1765⟩ := putF X1712 hx hZ hown (host := "") (Or.inl (wd hw 128 rfl)) Via.refl e1712 f1736 f1727 (Or.inr ⟨(wd hw 129 rfl), rfl, hnm⟩) (wd hw 36 rfl) (ty := (.array .int)) (by decide) rfl rfl (g := (mkF m 136 #[vR t, vR pts, vR a3, vI 66, vI 1, vI 9, vR b1471, vR b1660, .unset, .unset] [(.ref b1712), (.ref t)])) rfl rfl (hb hby d5_136)
  have f1766 := f1736.same W1765
  have f1767 := f1727.wr W1765
  have f1768 := f1728.wr W1765
  have f1769 := f1729.other W1765 (Or.inl (Ne.symm n_tp))
  have f1770 := f1730.other W1765 (Or.inl (Ne.symm n_tp))
  have f1771 := f1731.other W1765 (Or.inl (Ne.symm n_tp))
  have f1772 := f1732.other W1765 (Ne.symm n_tc)
  have f1773 := f1733.wr W1765
  have f1774 := f1734.other W1765 (Ne.symm n_t3)
  have f1775 := f1735.other W1765 (Or.inr (slot_ne (Or.inr (wd hw 138 rfl)) (Or.inr (wd hw 129 rfl)) (by decide) (t := (.object "com/example/flatfinder/flatfinder/neighbours/Points")) (t' := (.array .int)) (by decide) (by decide)))
  have f1776 := f1737.other W1765 (Or.inr (slot_ne (Or.inr (wd hw 48 rfl)) (Or.inr (wd hw 129 rfl)) (by decide) (t := (.object "com/example/flatfinder/flatfinder/neighbours/Points")) (t' := (.array .int)) (by decide) (by decide)))
  have f1777 := f1738.wr W1765
  have f1778 := f1739.other W1765 (Or.inr (slot_ne (Or.inr (wd hw 56 rfl)) (Or.inr (wd hw 129 rfl)) (by decide) (t := (.array .int)) (t' := (.array .int)) (by decide) (by decide)))
  have f1779 := f1740.wr W1765
  have f1780 := f1741.other W1765 (Or.inr (slot_ne (Or.inr (wd hw 58 rfl)) (Or.inr (wd hw 129 rfl)) (by decide) (t := (.array .int)) (t' := (.array .int)) (by decide) (by decide)))
  have f1781 := f1742.wr W1765
  have f1782 := f1743.other W1765 (Or.inr (slot_ne (Or.inr (wd hw 60 rfl)) (Or.inr (wd hw 129 rfl)) (by decide) (t := (.array .int)) (t' := (.array .int)) (by decide) (by decide)))
  have f1783 := f1744.wr W1765
  have f1784 := f1745.other W1765 (Or.inr (slot_ne (Or.inr (wd hw 62 rfl)) (Or.inr (wd hw 129 rfl)) (by decide) (t := (.array .int)) (t' := (.array .int)) (by decide) (by decide)))
  have f1785 := f1746.wr W1765
  have f1786 := f1747.other W1765 (Or.inr (slot_ne (Or.inr (wd hw 64 rfl)) (Or.inr (wd hw 129 rfl)) (by decide) (t := (.array .double)) (t' := (.array .int)) (by decide) (by decide)))
  have f1787 := f1748.wr W1765
  have f1788 := f1749.other W1765 (Or.inr (slot_ne (Or.inr (wd hw 66 rfl)) (Or.inr (wd hw 129 rfl)) (by decide) (t := (.array .double)) (t' := (.array .int)) (by decide) (by decide)))
  have f1789 := f1750.wr W1765
  have f1790 := f1751.other W1765 (Or.inl (Ne.symm ne1474))
  have f1791 := f1752.other W1765 (Or.inl (Ne.symm ne1474))
  have f1792 := f1753.other W1765 (Ne.symm ne1070)
  have f1793 := f1754.other W1765 (Ne.symm ne1124)
  have f1794 := f1755.other W1765 (Ne.symm ne1184)
  have f1795 := f1756.other W1765 (Ne.symm ne1249)
  have f1796 := f1757.other W1765 (Or.inr (slot_ne (Or.inr (wd hw 119 rfl)) (Or.inr (wd hw 129 rfl)) (by decide) (t := .int) (t' := (.array .int)) (by decide) (by decide)))
  have f1797 := f1758.other W1765 (Or.inr (slot_ne (Or.inr (wd hw 122 rfl)) (Or.inr (wd hw 129 rfl)) (by decide) (t := .int) (t' := (.array .int)) (by decide) (by decide)))
  have f1798 := f1759.other W1765 (Ne.symm ne1663)
  have f1799 := f1760.wr W1765
  have f1800 := f1763.other W1765 (Ne.symm ne1715)
  have f1801 := f1764.wr W1765
  have Zn1802 := Nat.le_trans Zn1761 (Keep.of_wr W1765).1
  have N1803 := Fr.snoc X1765 N1711 gt
  have K1804 := K1762.wr W1765 (Or.inl (List.mem_of_getElem? (i := 0) rfl))
  obtain ⟨T1805, X1805, e1805, st1805⟩ := getF X1765 hx hZ hown (host := "") (Or.inl (wd hw 128 rfl)) Via.refl e1765 f1766 (g := (mkF m 140 #[vR t, vR pts, vR a3, vI 66, vI 1, vI 9, vR b1471, vR b1660, .unset, .unset] [(.ref t)])) rfl rfl (hb hby d5_140)
  obtain ⟨_, _, ⟨T1806, L1806, k1806, n1806⟩, -, X1806, ⟨Lc1806, hQ1806, l1806, y1806, z1806⟩, st1806⟩ := Jvm.LawKit.callS X1805 hx (y := (⟨"java/util/Arrays", "fill", "([II)V"⟩ : MethodName)) hown (mvT hZ (wd hw 130 rfl)) (mvT hZ (wd hw 131 rfl)) (mvT hZ (wd hw 132 rfl)) (mvT hZ (wd hw 133 rfl)) (by decide) (backOf (W := 0) (rm16 l Z a0 hw [] b1712 (-1 : Int32) (fun _ => (0 : Int32)) h1765 n0 Zn1802 f1800 g1713) hZ (wd hw 133 rfl) (wd hw 132 rfl) (by decide) (by decide)) (g := (mkF m 144 #[vR t, vR pts, vR a3, vI 66, vI 1, vI 9, vR b1471, vR b1660, .unset, .unset] [(.int (-1 : Int32)), (.ref b1712)])) rfl (by rw [hml]; rfl) (argsL := [(.ref b1712), (.int (-1 : Int32))]) (rest := []) (lenOf pd___II_V rfl) rfl (by show 2 * 0 + _ ≤ _; exact Nat.le_of_eq rfl) (hb hby d5_144) (fun _ _ => ⟨rfl, e1805, (by decide : 12 + 0 ≤ _), (by decide : 444 + 0 ≤ _)⟩)
  dsimp only [Pt.U, Pt.locs, Pt.cells, Pt.slots] at X1806 l1806 y1806 z1806 st1806 hQ1806
  subst l1806 y1806 z1806
  obtain ⟨rfl, N1806q, K1806, A1806⟩ := hQ1806
  have N1807 := Fr.app N1803 N1806q
  have f1808 := f1767.keep K1806
  have f1809 := f1768.keep K1806
  have f1810 := f1769.keep K1806 (ninS ne1716 nin0)
  have f1811 := f1770.keep K1806 (ninS ne1716 nin0)
  have f1812 := f1771.keep K1806 (ninS ne1716 nin0)
  have f1813 := f1772.keep K1806 (ninS ne1717 nin0)
  have f1814 := f1773.keep K1806
  have f1815 := f1774.keep K1806 (ninS ne1718 nin0)
  have f1816 := f1775.keep K1806 (ninS ne1715 nin0)
  have f1817 := f1776.keep K1806 (ninS ne1715 nin0)
  have f1818 := f1777.keep K1806
  have f1819 := f1778.keep K1806 (ninS ne1715 nin0)
  have f1820 := f1779.keep K1806
  have f1821 := f1780.keep K1806 (ninS ne1715 nin0)
  have f1822 := f1781.keep K1806
  have f1823 := f1782.keep K1806 (ninS ne1715 nin0)
  have f1824 := f1783.keep K1806
  have f1825 := f1784.keep K1806 (ninS ne1715 nin0)
  have f1826 := f1785.keep K1806
  have f1827 := f1786.keep K1806 (ninS ne1715 nin0)
  have f1828 := f1787.keep K1806
  have f1829 := f1788.keep K1806 (ninS ne1715 nin0)
  have f1830 := f1789.keep K1806
  have f1831 := f1790.keep K1806 (ninS ne1725 nin0)
  have f1832 := f1791.keep K1806 (ninS ne1725 nin0)
  have f1833 := f1792.keep K1806 (ninS ne1719 nin0)
  have f1834 := f1793.keep K1806 (ninS ne1720 nin0)
  have f1835 := f1794.keep K1806 (ninS ne1721 nin0)
  have f1836 := f1795.keep K1806 (ninS ne1722 nin0)
  have f1837 := f1796.keep K1806 (ninS ne1715 nin0)
  have f1838 := f1797.keep K1806 (ninS ne1715 nin0)
  have f1839 := f1798.keep K1806 (ninS ne1726 nin0)
  have f1840 := f1799.keep K1806
  have f1841 := f1801.keep K1806
  have f1842 := f1766.keep K1806 (ninS ne1715 nin0)
  have Zn1843 := Nat.le_trans Zn1802 K1806.1
  have K1844 := K1804.trans K1806 (allS (Or.inr sz1714) all0)
  obtain ⟨f6, V6⟩ := A1806
  obtain ⟨T1879, lo1879, i_1879, s9_1879,  X1879, N1879, K1879, A1879, st1879⟩ := loopK hw hx hZ hby hml hown t pts co b1067 a3 b1471 b1660 b1712 gc Fg f0 q0 g1661 g1713 ne1663 ne1715 ne1664 ne1716 ne1665 ne1717 ne1667 ne1719 ne1726 67 (0 : Int32) .unset (fun _ => (0 : UInt64)) f6 T1806 T1806.heap _ X1806 rfl N1807 Zn1843 own_One.u (by decide) f1819 f1842 f1809 f1810 f1811 f1812 f1813 f1833 f1839 own_fin0 V6 (by decide)
  have f1880 := f1808.keep K1879
  have f1881 := f1809.keep K1879
  have f1882 := f1810.keep K1879 (ninS ne1664 (ninS ne1716 nin0))
  have f1883 := f1811.keep K1879 (ninS ne1664 (ninS ne1716 nin0))
  have f1884 := f1812.keep K1879 (ninS ne1664 (ninS ne1716 nin0))
  have f1885 := f1813.keep K1879 (ninS ne1665 (ninS ne1717 nin0))
  have f1886 := f1814.keep K1879
  have f1887 := f1815.keep K1879 (ninS ne1666 (ninS ne1718 nin0))
  have f1888 := f1816.keep K1879 (ninS ne1663 (ninS ne1715 nin0))
  have f1889 := f1817.keep K1879 (ninS ne1663 (ninS ne1715 nin0))
  have f1890 := f1818.keep K1879
  have f1891 := f1819.keep K1879 (ninS ne1663 (ninS ne1715 nin0))
  have f1892 := f1820.keep K1879
  have f1893 := f1821.keep K1879 (ninS ne1663 (ninS ne1715 nin0))
  have f1894 := f1822.keep K1879
  have f1895 := f1823.keep K1879 (ninS ne1663 (ninS ne1715 nin0))
  have f1896 := f1824.keep K1879
  have f1897 := f1825.keep K1879 (ninS ne1663 (ninS ne1715 nin0))
  have f1898 := f1826.keep K1879
  have f1899 := f1827.keep K1879 (ninS ne1663 (ninS ne1715 nin0))
  have f1900 := f1828.keep K1879
  have f1901 := f1829.keep K1879 (ninS ne1663 (ninS ne1715 nin0))
  have f1902 := f1830.keep K1879
  have f1903 := f1831.keep K1879 (ninS ne1673 (ninS ne1725 nin0))
  have f1904 := f1832.keep K1879 (ninS ne1673 (ninS ne1725 nin0))
  have f1905 := f1833.keep K1879 (ninS ne1667 (ninS ne1719 nin0))
  have f1906 := f1834.keep K1879 (ninS ne1668 (ninS ne1720 nin0))
  have f1907 := f1835.keep K1879 (ninS ne1669 (ninS ne1721 nin0))
  have f1908 := f1836.keep K1879 (ninS ne1670 (ninS ne1722 nin0))
  have f1909 := f1837.keep K1879 (ninS ne1663 (ninS ne1715 nin0))
  have f1910 := f1838.keep K1879 (ninS ne1663 (ninS ne1715 nin0))
  have f1911 := f1840.keep K1879
  have f1912 := f1841.keep K1879
  have f1913 := f1842.keep K1879 (ninS ne1663 (ninS ne1715 nin0))
  have Zn1914 := Nat.le_trans Zn1843 K1879.1
  have K1915 := K1844.trans K1879 (allS (Or.inr sz1662) (allS (Or.inr sz1714) all0))
  obtain ⟨g7, V7, F7⟩ := A1879
  obtain ⟨T1916, h1916, X1916, e1916, E1916, A1916, D1916, U1916, st1916⟩ := newO X1879 hx hZ hown (wd hw 135 rfl) (wd hw 3 rfl) (wd hw 4 rfl) rfl (g := (mkF m 217 #[vR t, vR pts, vR a3, vI 66, vI 1, vI 9, vR b1471, vR b1660, vI i_1879, s9_1879] [(.ref t)])) rfl (hb hby d5_217) (by decide) (by decide)
  obtain ⟨b1916, g1916⟩ : ∃ z, z = T1879.heap.size := ⟨_, rfl⟩
  rw [← g1916] at A1916 D1916 st1916
  have g1917 : n0 ≤ b1916 := Nat.le_trans Zn1914 (Nat.le_of_eq g1916.symm)
  have sz1918 : h0.size ≤ b1916 := Nat.le_trans K1915.1 (Nat.le_of_eq g1916.symm)
  have ne1919 : t ≠ b1916 := Nat.ne_of_lt (Nat.lt_of_lt_of_le f1880.lt (Nat.le_of_eq g1916.symm))
  have ne1920 : pts ≠ b1916 := Nat.ne_of_lt (Nat.lt_of_lt_of_le f1881.lt (Nat.le_of_eq g1916.symm))
  have ne1921 : co ≠ b1916 := Nat.ne_of_lt (Nat.lt_of_lt_of_le f1885.lt (Nat.le_of_eq g1916.symm))
  have ne1922 : a3 ≠ b1916 := Nat.ne_of_lt (Nat.lt_of_lt_of_le f1886.lt (Nat.le_of_eq g1916.symm))
  have ne1923 : b1067 ≠ b1916 := Nat.ne_of_lt (Nat.lt_of_lt_of_le f1890.lt (Nat.le_of_eq g1916.symm))
  have ne1924 : b1121 ≠ b1916 := Nat.ne_of_lt (Nat.lt_of_lt_of_le f1892.lt (Nat.le_of_eq g1916.symm))
  have ne1925 : b1181 ≠ b1916 := Nat.ne_of_lt (Nat.lt_of_lt_of_le f1894.lt (Nat.le_of_eq g1916.symm))
  have ne1926 : b1246 ≠ b1916 := Nat.ne_of_lt (Nat.lt_of_lt_of_le f1896.lt (Nat.le_of_eq g1916.symm))
  have ne1927 : b1316 ≠ b1916 := Nat.ne_of_lt (Nat.lt_of_lt_of_le f1898.lt (Nat.le_of_eq g1916.symm))
  have ne1928 : b1391 ≠ b1916 := Nat.ne_of_lt (Nat.lt_of_lt_of_le f1900.lt (Nat.le_of_eq g1916.symm))
  have ne1929 : b1471 ≠ b1916 := Nat.ne_of_lt (Nat.lt_of_lt_of_le f1902.lt (Nat.le_of_eq g1916.symm))
  have ne1930 : b1660 ≠ b1916 := Nat.ne_of_lt (Nat.lt_of_lt_of_le f1911.lt (Nat.le_of_eq g1916.symm))
  have ne1931 : b1712 ≠ b1916 := Nat.ne_of_lt (Nat.lt_of_lt_of_le f1912.lt (Nat.le_of_eq g1916.symm))
  have f1932 := f1880.ext E1916
  have f1933 := f1881.ext E1916
  have f1934 := f1882.ext E1916
  have f1935 := f1883.ext E1916
  have f1936 := f1884.ext E1916
  have f1937 := f1885.ext E1916
  have f1938 := f1886.ext E1916
  have f1939 := f1887.ext E1916
  have f1940 := f1888.ext E1916
  have f1941 := f1889.ext E1916
  have f1942 := f1890.ext E1916
  have f1943 := f1891.ext E1916
  have f1944 := f1892.ext E1916
  have f1945 := f1893.ext E1916
  have f1946 := f1894.ext E1916
  have f1947 := f1895.ext E1916
  have f1948 := f1896.ext E1916
  have f1949 := f1897.ext E1916
  have f1950 := f1898.ext E1916
  have f1951 := f1899.ext E1916
  have f1952 := f1900.ext E1916
  have f1953 := f1901.ext E1916
  have f1954 := f1902.ext E1916
  have f1955 := f1903.ext E1916
  have f1956 := f1904.ext E1916
  have f1957 := f1905.ext E1916
  have f1958 := f1906.ext E1916
  have f1959 := f1907.ext E1916
  have f1960 := f1908.ext E1916
  have f1961 := f1909.ext E1916
  have f1962 := f1910.ext E1916
  have f1963 := f1911.ext E1916
  have f1964 := f1912.ext E1916
  have f1965 := f1913.ext E1916
  have f1966 := V7.ext E1916
  have Zn1967 := Nat.le_trans Zn1914 E1916.1
  have K1968 := K1915.ext E1916
  have f1969 : Fld Z h1916 b1916 "com/example/flatfinder/flatfinder/neighbours/Points" "size" "I" (.int (0 : Int32)) := D1916 (Or.inr (wd hw 21 rfl)) (ty := .int) (by decide)
  have f1970 : Fld Z h1916 b1916 "com/example/flatfinder/flatfinder/neighbours/Points" "dimensions" "I" (.int (0 : Int32)) := D1916 (Or.inr (wd hw 23 rfl)) (ty := .int) (by decide)
  have f1971 : Fld Z h1916 b1916 "com/example/flatfinder/flatfinder/neighbours/Points" "coordinates" "[D" .null := D1916 (Or.inr (wd hw 34 rfl)) (ty := (.array .double)) (by decide)
  obtain ⟨_, _, ⟨T1972, L1972, k1972, n1972⟩, -, X1972, ⟨Lc1972, hQ1972, l1972, y1972, z1972⟩, st1972⟩ := X1916.specialBack hx (y := (⟨"com/example/flatfinder/flatfinder/neighbours/Points", "<init>", "(I[D)V"⟩ : MethodName)) rfl hown (mvT hZ (wd hw 136 rfl)) (mvT hZ (wd hw 6 rfl)) (mvT hZ (wd hw 7 rfl)) (by decide) (backOf (W := 2) (rm1 l Z a0 hw [] b1916 b1660 g7 h1916 n0 Zn1967 A1916 f1969 f1970 f1971 f1963 f1966 F7 g1917 (Ne.symm ne1930)) hZ (wd hw 7 rfl) (wd hw 4 rfl) (by decide) (by decide)) (g := (mkF m 225 #[vR t, vR pts, vR a3, vI 66, vI 1, vI 9, vR b1471, vR b1660, vI i_1879, s9_1879] [(.ref b1660), (.int (1 : Int32)), (.ref b1916), (.ref b1916), (.ref t)])) rfl (by rw [hml]; rfl) (Steps.refl _) (a := b1916) (argsL := [(.int (1 : Int32)), (.ref b1660)]) (rest := [(.ref b1916), (.ref t)]) (lenOf pd__I_D_V rfl) rfl (by show 2 * 0 + _ ≤ _; exact Nat.le_of_eq rfl) (hb hby d5_225) (fun _ _ => ⟨rfl, e1916, (by decide : 13 + 1 ≤ _), (by decide : 447 + 66 ≤ _)⟩)
  dsimp only [Pt.U, Pt.locs, Pt.cells, Pt.slots] at X1972 l1972 y1972 z1972 st1972 hQ1972
  subst l1972 y1972 z1972
  obtain ⟨rfl, N1972q, K1972, Fa1972, Fb1972, co1972, gc1972, zc1972, Fc1972, Vc1972⟩ := hQ1972
  have N1973 := Fr.app N1879 N1972q
  have f1974 := f1932.keep K1972
  have f1975 := f1933.keep K1972
  have f1976 := f1934.keep K1972 (ninS ne1920 nin0)
  have f1977 := f1935.keep K1972 (ninS ne1920 nin0)
  have f1978 := f1936.keep K1972 (ninS ne1920 nin0)
  have f1979 := f1937.keep K1972 (ninS ne1921 nin0)
  have f1980 := f1938.keep K1972
  have f1981 := f1939.keep K1972 (ninS ne1922 nin0)
  have f1982 := f1940.keep K1972 (ninS ne1919 nin0)
  have f1983 := f1941.keep K1972 (ninS ne1919 nin0)
  have f1984 := f1942.keep K1972
  have f1985 := f1943.keep K1972 (ninS ne1919 nin0)
  have f1986 := f1944.keep K1972
  have f1987 := f1945.keep K1972 (ninS ne1919 nin0)
  have f1988 := f1946.keep K1972
  have f1989 := f1947.keep K1972 (ninS ne1919 nin0)
  have f1990 := f1948.keep K1972
  have f1991 := f1949.keep K1972 (ninS ne1919 nin0)
  have f1992 := f1950.keep K1972
  have f1993 := f1951.keep K1972 (ninS ne1919 nin0)
  have f1994 := f1952.keep K1972
  have f1995 := f1953.keep K1972 (ninS ne1919 nin0)
  have f1996 := f1954.keep K1972
  have f1997 := f1955.keep K1972 (ninS ne1929 nin0)
  have f1998 := f1956.keep K1972 (ninS ne1929 nin0)
  have f1999 := f1957.keep K1972 (ninS ne1923 nin0)
  have f2000 := f1958.keep K1972 (ninS ne1924 nin0)
  have f2001 := f1959.keep K1972 (ninS ne1925 nin0)
  have f2002 := f1960.keep K1972 (ninS ne1926 nin0)
  have f2003 := f1961.keep K1972 (ninS ne1919 nin0)
  have f2004 := f1962.keep K1972 (ninS ne1919 nin0)
  have f2005 := f1963.keep K1972
  have f2006 := f1964.keep K1972
  have f2007 := f1965.keep K1972 (ninS ne1919 nin0)
  have f2008 := f1966.keep K1972 (ninS ne1930 nin0)
  have f2009 := A1916.keep K1972
  have Zn2010 := Nat.le_trans Zn1967 K1972.1
  have K2011 := K1968.trans K1972 (allS (Or.inr sz1918) all0)
  obtain ⟨T2012, h2012, X2012, e2012, W2012, st2012⟩ := putF X1972 hx hZ hown (host := "") (Or.inl (wd hw 137 rfl)) Via.refl rfl f1982 f1974 (Or.inr ⟨(wd hw 138 rfl), rfl, hnm⟩) (wd hw 36 rfl) (ty := (.object "com/example/flatfinder/flatfinder/neighbours/Points")) (by decide) rfl rfl (g := (mkF m 228 #[vR t, vR pts, vR a3, vI 66, vI 1, vI 9, vR b1471, vR b1660, vI i_1879, s9_1879] [(.ref b1916), (.ref t)])) rfl rfl (hb hby d5_228)
  have f2013 := f1982.same W2012
  have f2014 := f1974.wr W2012
  have f2015 := f1975.wr W2012
  have f2016 := f1976.other W2012 (Or.inl (Ne.symm n_tp))
  have f2017 := f1977.other W2012 (Or.inl (Ne.symm n_tp))
  have f2018 := f1978.other W2012 (Or.inl (Ne.symm n_tp))
  have f2019 := f1979.other W2012 (Ne.symm n_tc)
  have f2020 := f1980.wr W2012
  have f2021 := f1981.other W2012 (Ne.symm n_t3)
  have f2022 := f1983.other W2012 (Or.inr (slot_ne (Or.inr (wd hw 48 rfl)) (Or.inr (wd hw 138 rfl)) (by decide) (t := (.object "com/example/flatfinder/flatfinder/neighbours/Points")) (t' := (.object "com/example/flatfinder/flatfinder/neighbours/Points")) (by decide) (by decide)))
  have f2023 := f1984.wr W2012
  have f2024 := f1985.other W2012 (Or.inr (slot_ne (Or.inr (wd hw 56 rfl)) (Or.inr (wd hw 138 rfl)) (by decide) (t := (.array .int)) (t' := (.object "com/example/flatfinder/flatfinder/neighbours/Points")) (by decide) (by decide)))
  have f2025 := f1986.wr W2012
  have f2026 := f1987.other W2012 (Or.inr (slot_ne (Or.inr (wd hw 58 rfl)) (Or.inr (wd hw 138 rfl)) (by decide) (t := (.array .int)) (t' := (.object "com/example/flatfinder/flatfinder/neighbours/Points")) (by decide) (by decide)))
  have f2027 := f1988.wr W2012
  have f2028 := f1989.other W2012 (Or.inr (slot_ne (Or.inr (wd hw 60 rfl)) (Or.inr (wd hw 138 rfl)) (by decide) (t := (.array .int)) (t' := (.object "com/example/flatfinder/flatfinder/neighbours/Points")) (by decide) (by decide)))
  have f2029 := f1990.wr W2012
  have f2030 := f1991.other W2012 (Or.inr (slot_ne (Or.inr (wd hw 62 rfl)) (Or.inr (wd hw 138 rfl)) (by decide) (t := (.array .int)) (t' := (.object "com/example/flatfinder/flatfinder/neighbours/Points")) (by decide) (by decide)))
  have f2031 := f1992.wr W2012
  have f2032 := f1993.other W2012 (Or.inr (slot_ne (Or.inr (wd hw 64 rfl)) (Or.inr (wd hw 138 rfl)) (by decide) (t := (.array .double)) (t' := (.object "com/example/flatfinder/flatfinder/neighbours/Points")) (by decide) (by decide)))
  have f2033 := f1994.wr W2012
  have f2034 := f1995.other W2012 (Or.inr (slot_ne (Or.inr (wd hw 66 rfl)) (Or.inr (wd hw 138 rfl)) (by decide) (t := (.array .double)) (t' := (.object "com/example/flatfinder/flatfinder/neighbours/Points")) (by decide) (by decide)))
  have f2035 := f1996.wr W2012
  have f2036 := f1997.other W2012 (Or.inl (Ne.symm ne1474))
  have f2037 := f1998.other W2012 (Or.inl (Ne.symm ne1474))
  have f2038 := f1999.other W2012 (Ne.symm ne1070)
  have f2039 := f2000.other W2012 (Ne.symm ne1124)
  have f2040 := f2001.other W2012 (Ne.symm ne1184)
  have f2041 := f2002.other W2012 (Ne.symm ne1249)
  have f2042 := f2003.other W2012 (Or.inr (slot_ne (Or.inr (wd hw 119 rfl)) (Or.inr (wd hw 138 rfl)) (by decide) (t := .int) (t' := (.object "com/example/flatfinder/flatfinder/neighbours/Points")) (by decide) (by decide)))
  have f2043 := f2004.other W2012 (Or.inr (slot_ne (Or.inr (wd hw 122 rfl)) (Or.inr (wd hw 138 rfl)) (by decide) (t := .int) (t' := (.object "com/example/flatfinder/flatfinder/neighbours/Points")) (by decide) (by decide)))
  have f2044 := f2005.wr W2012
  have f2045 := f2006.wr W2012
  have f2046 := f2007.other W2012 (Or.inr (slot_ne (Or.inr (wd hw 129 rfl)) (Or.inr (wd hw 138 rfl)) (by decide) (t := (.array .int)) (t' := (.object "com/example/flatfinder/flatfinder/neighbours/Points")) (by decide) (by decide)))
  have f2047 := f2008.other W2012 (Ne.symm ne1663)
  have f2048 := f2009.wr W2012
  have Zn2049 := Nat.le_trans Zn2010 (Keep.of_wr W2012).1
  have N2050 := Fr.snoc X2012 N1973 gt
  have K2051 := K2011.wr W2012 (Or.inl (List.mem_of_getElem? (i := 0) rfl))
  obtain ⟨fs, hr, hrun, hended, hW, hsame⟩ := X2012.leave (v := none) (fun _ => rfl)
  refine ⟨_, _, pre0 _ ?_, hrun, hended, _, _, rfl, ?_, ⟨_, rfl⟩, hW, hsame.mono (by decide) (by decide)⟩
  · show Steps p.tables e below (s₁.setTop (mkF m 0 #[vR t, vR pts, vR a3, .unset, .unset, .unset, .unset, .unset, .unset, .unset] [])) _
    refine XS.aloadN X0.here hx rfl (hb hby d5_0) rfl rfl ?_
    show Steps p.tables e below (s₁.setTop (mkF m 1 #[vR t, vR pts, vR a3, .unset, .unset, .unset, .unset, .unset, .unset, .unset] [(.ref t)])) _
    refine st1041 _ ?_
    show Steps p.tables e below (T1041.setTop (mkF m 4 #[vR t, vR pts, vR a3, .unset, .unset, .unset, .unset, .unset, .unset, .unset] [])) _
    refine XS.aloadN X1041.here hx rfl (hb hby d5_4) rfl rfl ?_
    show Steps p.tables e below (T1041.setTop (mkF m 5 #[vR t, vR pts, vR a3, .unset, .unset, .unset, .unset, .unset, .unset, .unset] [(.ref a3)])) _
    refine own_len X1041 hx hZ e1041 V3 (z := (66 : Int32)) rfl (f := (mkF m 5 #[vR t, vR pts, vR a3, .unset, .unset, .unset, .unset, .unset, .unset, .unset] [(.ref a3)])) rfl rfl (hb hby d5_5) _ ?_
    show Steps p.tables e below (T1041.setTop (mkF m 6 #[vR t, vR pts, vR a3, .unset, .unset, .unset, .unset, .unset, .unset, .unset] [(.int (66 : Int32))])) _
    refine XS.istoreN X1041.here hx rfl (hb hby d5_6) rfl (l' := #[vR t, vR pts, vR a3, vI 66, .unset, .unset, .unset, .unset, .unset, .unset]) rfl ?_
    refine XS.aloadN X1041.here hx rfl (hb hby d5_7) rfl rfl ?_
    show Steps p.tables e below (T1041.setTop (mkF m 8 #[vR t, vR pts, vR a3, vI 66, .unset, .unset, .unset, .unset, .unset, .unset] [(.ref pts)])) _
    refine st1042.trans ?_
    show Steps p.tables e below (T1042.setTop (mkF m 11 #[vR t, vR pts, vR a3, vI 66, .unset, .unset, .unset, .unset, .unset, .unset] [(.int (1 : Int32))])) _
    refine XS.istore X1042.here hx rfl (hb hby d5_11) rfl (l' := #[vR t, vR pts, vR a3, vI 66, vI 1, .unset, .unset, .unset, .unset, .unset]) rfl ?_
    refine XS.iconst X1042.here hx rfl (hb hby d5_13) ?_
    refine XS.iloadN X1042.here hx rfl (hb hby d5_14) rfl ?_
    refine XS.bipush X1042.here hx rfl (hb hby d5_15) ?_
    refine XS.idiv X1042.here hx rfl (hb hby d5_17) rfl (by decide) ?_
    refine XS.imul X1042.here hx rfl (hb hby d5_18) rfl ?_
    refine XS.iconst X1042.here hx rfl (hb hby d5_19) ?_
    show Steps p.tables e below (T1042.setTop (mkF m 20 #[vR t, vR pts, vR a3, vI 66, vI 1, .unset, .unset, .unset, .unset, .unset] [(.int (1 : Int32)), (.int ((2 : Int32) * ((66 : Int32) / (16 : Int32))))])) _
    refine XS.iadd X1042.here hx rfl (hb hby d5_20) rfl ?_
    show Steps p.tables e below (T1042.setTop (mkF m 21 #[vR t, vR pts, vR a3, vI 66, vI 1, .unset, .unset, .unset, .unset, .unset] [(.int (((2 : Int32) * ((66 : Int32) / (16 : Int32))) + (1 : Int32)))])) _
    rw [own_nine]
    show Steps p.tables e below (T1042.setTop (mkF m 21 #[vR t, vR pts, vR a3, vI 66, vI 1, .unset, .unset, .unset, .unset, .unset] [(.int (9 : Int32))])) _
    refine XS.istore X1042.here hx rfl (hb hby d5_21) rfl (l' := #[vR t, vR pts, vR a3, vI 66, vI 1, vI 9, .unset, .unset, .unset, .unset]) rfl ?_
    refine XS.aloadN X1042.here hx rfl (hb hby d5_23) rfl rfl ?_
    refine XS.aloadN X1042.here hx rfl (hb hby d5_24) rfl rfl ?_
    show Steps p.tables e below (T1042.setTop (mkF m 25 #[vR t, vR pts, vR a3, vI 66, vI 1, vI 9, .unset, .unset, .unset, .unset] [(.ref pts), (.ref t)])) _
    refine st1044 _ ?_
    show Steps p.tables e below (T1044.setTop (mkF m 28 #[vR t, vR pts, vR a3, vI 66, vI 1, vI 9, .unset, .unset, .unset, .unset] [])) _
    refine XS.aloadN X1044.here hx rfl (hb hby d5_28) rfl rfl ?_
    refine XS.aloadN X1044.here hx rfl (hb hby d5_29) rfl rfl ?_
    show Steps p.tables e below (T1044.setTop (mkF m 30 #[vR t, vR pts, vR a3, vI 66, vI 1, vI 9, .unset, .unset, .unset, .unset] [(.ref a3), (.ref t)])) _
    refine st1067 _ ?_
    show Steps p.tables e below (T1067.setTop (mkF m 33 #[vR t, vR pts, vR a3, vI 66, vI 1, vI 9, .unset, .unset, .unset, .unset] [(.ref b1067), (.ref t)])) _
    refine st1095 _ ?_
    show Steps p.tables e below (T1095.setTop (mkF m 36 #[vR t, vR pts, vR a3, vI 66, vI 1, vI 9, .unset, .unset, .unset, .unset] [(.ref b1067), (.ref t)])) _
    refine st1096 _ ?_
    show Steps p.tables e below (T1096.setTop (mkF m 39 #[vR t, vR pts, vR a3, vI 66, vI 1, vI 9, .unset, .unset, .unset, .unset] [])) _
    refine XS.aloadN X1096.here hx rfl (hb hby d5_39) rfl rfl ?_
    refine XS.iload X1096.here hx rfl (hb hby d5_40) rfl ?_
    show Steps p.tables e below (T1096.setTop (mkF m 42 #[vR t, vR pts, vR a3, vI 66, vI 1, vI 9, .unset, .unset, .unset, .unset] [(.int (9 : Int32)), (.ref t)])) _
    refine st1121 _ ?_
    show Steps p.tables e below (T1121.setTop (mkF m 44 #[vR t, vR pts, vR a3, vI 66, vI 1, vI 9, .unset, .unset, .unset, .unset] [(.ref b1121), (.ref t)])) _
    refine st1154 _ ?_
    show Steps p.tables e below (T1154.setTop (mkF m 47 #[vR t, vR pts, vR a3, vI 66, vI 1, vI 9, .unset, .unset, .unset, .unset] [])) _
    refine XS.aloadN X1154.here hx rfl (hb hby d5_47) rfl rfl ?_
    refine XS.iload X1154.here hx rfl (hb hby d5_48) rfl ?_
    show Steps p.tables e below (T1154.setTop (mkF m 50 #[vR t, vR pts, vR a3, vI 66, vI 1, vI 9, .unset, .unset, .unset, .unset] [(.int (9 : Int32)), (.ref t)])) _
    refine st1181 _ ?_
    show Steps p.tables e below (T1181.setTop (mkF m 52 #[vR t, vR pts, vR a3, vI 66, vI 1, vI 9, .unset, .unset, .unset, .unset] [(.ref b1181), (.ref t)])) _
    refine st1217 _ ?_
    show Steps p.tables e below (T1217.setTop (mkF m 55 #[vR t, vR pts, vR a3, vI 66, vI 1, vI 9, .unset, .unset, .unset, .unset] [])) _
    refine XS.aloadN X1217.here hx rfl (hb hby d5_55) rfl rfl ?_
    refine XS.iload X1217.here hx rfl (hb hby d5_56) rfl ?_
    show Steps p.tables e below (T1217.setTop (mkF m 58 #[vR t, vR pts, vR a3, vI 66, vI 1, vI 9, .unset, .unset, .unset, .unset] [(.int (9 : Int32)), (.ref t)])) _
    refine st1246 _ ?_
    show Steps p.tables e below (T1246.setTop (mkF m 60 #[vR t, vR pts, vR a3, vI 66, vI 1, vI 9, .unset, .unset, .unset, .unset] [(.ref b1246), (.ref t)])) _
    refine st1285 _ ?_
    show Steps p.tables e below (T1285.setTop (mkF m 63 #[vR t, vR pts, vR a3, vI 66, vI 1, vI 9, .unset, .unset, .unset, .unset] [])) _
    refine XS.aloadN X1285.here hx rfl (hb hby d5_63) rfl rfl ?_
    refine XS.iload X1285.here hx rfl (hb hby d5_64) rfl ?_
    refine XS.iload X1285.here hx rfl (hb hby d5_66) rfl ?_
    refine XS.imul X1285.here hx rfl (hb hby d5_68) rfl ?_
    show Steps p.tables e below (T1285.setTop (mkF m 69 #[vR t, vR pts, vR a3, vI 66, vI 1, vI 9, .unset, .unset, .unset, .unset] [(.int (9 : Int32)), (.ref t)])) _
    refine st1316 _ ?_
    show Steps p.tables e below (T1316.setTop (mkF m 71 #[vR t, vR pts, vR a3, vI 66, vI 1, vI 9, .unset, .unset, .unset, .unset] [(.ref b1316), (.ref t)])) _
    refine st1358 _ ?_
    show Steps p.tables e below (T1358.setTop (mkF m 74 #[vR t, vR pts, vR a3, vI 66, vI 1, vI 9, .unset, .unset, .unset, .unset] [])) _
    refine XS.aloadN X1358.here hx rfl (hb hby d5_74) rfl rfl ?_
    refine XS.iload X1358.here hx rfl (hb hby d5_75) rfl ?_
    refine XS.iload X1358.here hx rfl (hb hby d5_77) rfl ?_
    refine XS.imul X1358.here hx rfl (hb hby d5_79) rfl ?_
    show Steps p.tables e below (T1358.setTop (mkF m 80 #[vR t, vR pts, vR a3, vI 66, vI 1, vI 9, .unset, .unset, .unset, .unset] [(.int (9 : Int32)), (.ref t)])) _
    refine st1391 _ ?_
    show Steps p.tables e below (T1391.setTop (mkF m 82 #[vR t, vR pts, vR a3, vI 66, vI 1, vI 9, .unset, .unset, .unset, .unset] [(.ref b1391), (.ref t)])) _
    refine st1436 _ ?_
    show Steps p.tables e below (T1436.setTop (mkF m 85 #[vR t, vR pts, vR a3, vI 66, vI 1, vI 9, .unset, .unset, .unset, .unset] [])) _
    refine st1471 _ ?_
    show Steps p.tables e below (T1471.setTop (mkF m 88 #[vR t, vR pts, vR a3, vI 66, vI 1, vI 9, .unset, .unset, .unset, .unset] [(.ref b1471)])) _
    refine XS.dup X1471.here hx rfl (hb hby d5_88) rfl rfl ?_
    refine XS.aloadN X1471.here hx rfl (hb hby d5_89) rfl rfl ?_
    show Steps p.tables e below (T1471.setTop (mkF m 90 #[vR t, vR pts, vR a3, vI 66, vI 1, vI 9, .unset, .unset, .unset, .unset] [(.ref t), (.ref b1471), (.ref b1471)])) _
    refine st1520.trans ?_
    show Steps p.tables e below (T1520.setTop (mkF m 93 #[vR t, vR pts, vR a3, vI 66, vI 1, vI 9, .unset, .unset, .unset, .unset] [(.ref b1471)])) _
    refine XS.astore X1520.here hx rfl (hb hby d5_93) rfl rfl (l' := #[vR t, vR pts, vR a3, vI 66, vI 1, vI 9, vR b1471, .unset, .unset, .unset]) rfl ?_
    refine XS.aload X1520.here hx rfl (hb hby d5_95) rfl rfl ?_
    refine XS.iconst X1520.here hx rfl (hb hby d5_97) ?_
    refine XS.iloadN X1520.here hx rfl (hb hby d5_98) rfl ?_
    refine XS.iconst X1520.here hx rfl (hb hby d5_99) ?_
    show Steps p.tables e below (T1520.setTop (mkF m 100 #[vR t, vR pts, vR a3, vI 66, vI 1, vI 9, vR b1471, .unset, .unset, .unset] [(.int (1 : Int32)), (.int (66 : Int32)), (.int (0 : Int32)), (.ref b1471)])) _
    refine st1556.trans ?_
    show Steps p.tables e below (T1556.setTop (mkF m 103 #[vR t, vR pts, vR a3, vI 66, vI 1, vI 9, vR b1471, .unset, .unset, .unset] [])) _
    refine XS.aloadN X1556.here hx rfl (hb hby d5_103) rfl rfl ?_
    refine XS.aload X1556.here hx rfl (hb hby d5_104) rfl rfl ?_
    show Steps p.tables e below (T1556.setTop (mkF m 106 #[vR t, vR pts, vR a3, vI 66, vI 1, vI 9, vR b1471, .unset, .unset, .unset] [(.ref b1471), (.ref t)])) _
    refine st1586 _ ?_
    show Steps p.tables e below (T1586.setTop (mkF m 109 #[vR t, vR pts, vR a3, vI 66, vI 1, vI 9, vR b1471, .unset, .unset, .unset] [(.int n1556'), (.ref t)])) _
    refine st1587 _ ?_
    show Steps p.tables e below (T1587.setTop (mkF m 112 #[vR t, vR pts, vR a3, vI 66, vI 1, vI 9, vR b1471, .unset, .unset, .unset] [])) _
    refine XS.aloadN X1587.here hx rfl (hb hby d5_112) rfl rfl ?_
    refine XS.aload X1587.here hx rfl (hb hby d5_113) rfl rfl ?_
    show Steps p.tables e below (T1587.setTop (mkF m 115 #[vR t, vR pts, vR a3, vI 66, vI 1, vI 9, vR b1471, .unset, .unset, .unset] [(.ref b1471), (.ref t)])) _
    refine st1623 _ ?_
    show Steps p.tables e below (T1623.setTop (mkF m 118 #[vR t, vR pts, vR a3, vI 66, vI 1, vI 9, vR b1471, .unset, .unset, .unset] [(.int dpb), (.ref t)])) _
    refine st1624 _ ?_
    show Steps p.tables e below (T1624.setTop (mkF m 121 #[vR t, vR pts, vR a3, vI 66, vI 1, vI 9, vR b1471, .unset, .unset, .unset] [])) _
    refine XS.iloadN X1624.here hx rfl (hb hby d5_121) rfl ?_
    refine XS.iload X1624.here hx rfl (hb hby d5_122) rfl ?_
    refine XS.imul X1624.here hx rfl (hb hby d5_124) rfl ?_
    show Steps p.tables e below (T1624.setTop (mkF m 125 #[vR t, vR pts, vR a3, vI 66, vI 1, vI 9, vR b1471, .unset, .unset, .unset] [(.int (66 : Int32))])) _
    refine st1660 _ ?_
    show Steps p.tables e below (T1660.setTop (mkF m 127 #[vR t, vR pts, vR a3, vI 66, vI 1, vI 9, vR b1471, .unset, .unset, .unset] [(.ref b1660)])) _
    refine XS.astore X1660.here hx rfl (hb hby d5_127) rfl rfl (l' := #[vR t, vR pts, vR a3, vI 66, vI 1, vI 9, vR b1471, vR b1660, .unset, .unset]) rfl ?_
    refine XS.aloadN X1660.here hx rfl (hb hby d5_129) rfl rfl ?_
    refine XS.aloadN X1660.here hx rfl (hb hby d5_130) rfl rfl ?_
    show Steps p.tables e below (T1660.setTop (mkF m 131 #[vR t, vR pts, vR a3, vI 66, vI 1, vI 9, vR b1471, vR b1660, .unset, .unset] [(.ref pts), (.ref t)])) _
    refine st1710.trans ?_
    show Steps p.tables e below (T1710.setTop (mkF m 134 #[vR t, vR pts, vR a3, vI 66, vI 1, vI 9, vR b1471, vR b1660, .unset, .unset] [(.int (66 : Int32)), (.ref t)])) _
    refine st1712 _ ?_
    show Steps p.tables e below (T1712.setTop (mkF m 136 #[vR t, vR pts, vR a3, vI 66, vI 1, vI 9, vR b1471, vR b1660, .unset, .unset] [(.ref b1712), (.ref t)])) _
    refine st1765 _ ?_
    show Steps p.tables e below (T1765.setTop (mkF m 139 #[vR t, vR pts, vR a3, vI 66, vI 1, vI 9, vR b1471, vR b1660, .unset, .unset] [])) _
    refine XS.aloadN X1765.here hx rfl (hb hby d5_139) rfl rfl ?_
    show Steps p.tables e below (T1765.setTop (mkF m 140 #[vR t, vR pts, vR a3, vI 66, vI 1, vI 9, vR b1471, vR b1660, .unset, .unset] [(.ref t)])) _
    refine st1805 _ ?_
    show Steps p.tables e below (T1805.setTop (mkF m 143 #[vR t, vR pts, vR a3, vI 66, vI 1, vI 9, vR b1471, vR b1660, .unset, .unset] [(.ref b1712)])) _
    refine XS.iconst X1805.here hx rfl (hb hby d5_143) ?_
    show Steps p.tables e below (T1805.setTop (mkF m 144 #[vR t, vR pts, vR a3, vI 66, vI 1, vI 9, vR b1471, vR b1660, .unset, .unset] [(.int (-1 : Int32)), (.ref b1712)])) _
    refine st1806 _ ?_
    show Steps p.tables e below (T1806.setTop (mkF m 147 #[vR t, vR pts, vR a3, vI 66, vI 1, vI 9, vR b1471, vR b1660, .unset, .unset] [])) _
    refine XS.iconst X1806.here hx rfl (hb hby d5_147) ?_
    refine XS.istore X1806.here hx rfl (hb hby d5_148) rfl (l' := #[vR t, vR pts, vR a3, vI 66, vI 1, vI 9, vR b1471, vR b1660, vI 0, .unset]) rfl ?_
    show Steps p.tables e below (T1806.setTop (mkF m 150 #[vR t, vR pts, vR a3, vI 66, vI 1, vI 9, vR b1471, vR b1660, vI 0, .unset] [])) _
    refine st1879 _ ?_
    show Steps p.tables e below (T1879.setTop (mkF m 216 #[vR t, vR pts, vR a3, vI 66, vI 1, vI 9, vR b1471, vR b1660, vI i_1879, s9_1879] [])) _
    refine XS.aloadN X1879.here hx rfl (hb hby d5_216) rfl rfl ?_
    show Steps p.tables e below (T1879.setTop (mkF m 217 #[vR t, vR pts, vR a3, vI 66, vI 1, vI 9, vR b1471, vR b1660, vI i_1879, s9_1879] [(.ref t)])) _
    refine st1916 _ ?_
    show Steps p.tables e below (T1916.setTop (mkF m 220 #[vR t, vR pts, vR a3, vI 66, vI 1, vI 9, vR b1471, vR b1660, vI i_1879, s9_1879] [(.ref b1916), (.ref t)])) _
    refine XS.dup X1916.here hx rfl (hb hby d5_220) rfl rfl ?_
    refine XS.iload X1916.here hx rfl (hb hby d5_221) rfl ?_
    refine XS.aload X1916.here hx rfl (hb hby d5_223) rfl rfl ?_
    show Steps p.tables e below (T1916.setTop (mkF m 225 #[vR t, vR pts, vR a3, vI 66, vI 1, vI 9, vR b1471, vR b1660, vI i_1879, s9_1879] [(.ref b1660), (.int (1 : Int32)), (.ref b1916), (.ref b1916), (.ref t)])) _
    refine st1972.trans ?_
    show Steps p.tables e below (T1972.setTop (mkF m 228 #[vR t, vR pts, vR a3, vI 66, vI 1, vI 9, vR b1471, vR b1660, vI i_1879, s9_1879] [(.ref b1916), (.ref t)])) _
    refine st2012 _ ?_
    show Steps p.tables e below (T2012.setTop (mkF m 231 #[vR t, vR pts, vR a3, vI 66, vI 1, vI 9, vR b1471, vR b1660, vI i_1879, s9_1879] [])) _
    exact X2012.returnOut hx Bd.returns (hb hby d5_231) hr
  · show Qrm5 Z t pts a3 co gc f3 h0 n0 _ T2012.heap _
    rw [e2012]
    exact ⟨rfl, N2050, K2051, _, _, _, _, _, _, _, rel1556, f2026, f2028, f2030, f2042, f2039, f2040, f2041⟩
theorem d17_2 : decode prog_53_method_9_code 2 = .ok (.aload_n 0, 1) := by decide +kernel
theorem d17_3 : decode prog_53_method_9_code 3 = .ok (.getfield 34, 3) := by decide +kernel
theorem d17_6 : decode prog_53_method_9_code 6 = .ok (.iload_n 2, 1) := by decide +kernel
theorem d17_7 : decode prog_53_method_9_code 7 = .ok (.iaload, 1) := by decide +kernel
theorem d17_8 : decode prog_53_method_9_code 8 = .ok (.ifCond .lt 31, 3) := by decide +kernel
theorem d17_11 : decode prog_53_method_9_code 11 = .ok (.iload_n 1, 1) := by decide +kernel
theorem d17_12 : decode prog_53_method_9_code 12 = .ok (.aload_n 0, 1) := by decide +kernel
theorem d17_13 : decode prog_53_method_9_code 13 = .ok (.getfield 31, 3) := by decide +kernel
theorem d17_16 : decode prog_53_method_9_code 16 = .ok (.iload_n 2, 1) := by decide +kernel
theorem d17_17 : decode prog_53_method_9_code 17 = .ok (.iconst 1, 1) := by decide +kernel
theorem d17_18 : decode prog_53_method_9_code 18 = .ok (.iadd, 1) := by decide +kernel
theorem d17_19 : decode prog_53_method_9_code 19 = .ok (.iaload, 1) := by decide +kernel
theorem d17_20 : decode prog_53_method_9_code 20 = .ok (.if_icmp .ge 9, 3) := by decide +kernel
theorem d17_23 : decode prog_53_method_9_code 23 = .ok (.iload_n 2, 1) := by decide +kernel
theorem d17_24 : decode prog_53_method_9_code 24 = .ok (.iconst 1, 1) := by decide +kernel
theorem d17_25 : decode prog_53_method_9_code 25 = .ok (.iadd, 1) := by decide +kernel
theorem d17_26 : decode prog_53_method_9_code 26 = .ok (.goto 9, 3) := by decide +kernel
theorem d17_35 : decode prog_53_method_9_code 35 = .ok (.istore_n 2, 1) := by decide +kernel
theorem d17_36 : decode prog_53_method_9_code 36 = .ok (.goto (-34), 3) := by decide +kernel
theorem d17_29 : decode prog_53_method_9_code 29 = .ok (.aload_n 0, 1) := by decide +kernel
theorem d17_30 : decode prog_53_method_9_code 30 = .ok (.getfield 34, 3) := by decide +kernel
theorem d17_33 : decode prog_53_method_9_code 33 = .ok (.iload_n 2, 1) := by decide +kernel
theorem d17_34 : decode prog_53_method_9_code 34 = .ok (.iaload, 1) := by decide +kernel
set_option maxRecDepth 65536 in
set_option maxHeartbeats 40000000 in
theorem loopF {p : Program} {l : Launch} {e : Env} {s : State} {m : MethodId} {args : Array Value} {below : List Frame} {meth : Method} {c : Code} {Z : State} {a0 : Array Value} {n0 : Nat} (hw : ∀ d ∈ tables_1, d.before a0 Z = true) (hx : p.tables.exec = Jvm.exec) (hZ : Z.Warmed39 s.vm) (hby : c.code = prog_53_method_9_code) (hml : c.maxLocals = 3) (hown : s.vm.findClass "com/example/flatfinder/flatfinder/neighbours/KdTree" = some m.cls) (a1 : Addr) (p1 : Int32) (x2 : Addr) (x3 : Addr) (fE : Nat → Int32) (fU : Nat → Int32) (r : Int32) :
    ∀ (k : Nat) (j : Nat) (b : Int32) (T : State) (h : Heap) (locs : List Loc) (X0 : Stand p l e ({ frames := 0, cells := 0, slots := 0, locals := 0 } : Room) s m args below meth c T locs 0 0) (e0 : T.heap = h) (N0 : Fr n0 locs) (Z0 : n0 ≤ h.size) (hT : own_find fE fU p1 j b = some r) (Fe : Fld Z h a1 "com/example/flatfinder/flatfinder/neighbours/KdTree" "end" "[I" (.ref x2)) (Fu : Fld Z h a1 "com/example/flatfinder/flatfinder/neighbours/KdTree" "upper" "[I" (.ref x3)) (V2 : own_V Z h x2 .int 9 (fun ii => .int (fE ii))) (V3 : own_V Z h x3 .int 9 (fun ii => .int (fU ii))) (hk : j < k),
      ∃ (T' : State) (locs' : List Loc) , Stand p l e ({ frames := 0, cells := 0, slots := 0, locals := 0 } : Room) s m args below meth c T' locs' 0 0 ∧ Fr n0 locs' ∧ T'.heap = h ∧ ∀ target, Steps p.tables e below (T'.setTop (mkF m 39 #[vR a1, vI p1, vI r] [])) target → Steps p.tables e below (T.setTop (mkF m 2 #[vR a1, vI p1, vI b] [])) target := by
  intro k
  induction k with
  | zero => intro j b T h locs X0 e0 N0 Z0 hT Fe Fu V2 V3 hk; exact absurd hk (Nat.not_lt_zero _)
  | succ k ih =>
    intro j b T h locs X0 e0 N0 Z0 hT Fe Fu V2 V3 hk
    obtain ⟨i, rfl, hb1, hc⟩ := own_find_step hT
    rcases hc with ⟨hu, hbr⟩ | ⟨hu, hb2, ⟨hp, hn⟩ | ⟨hp, hn⟩⟩
    · obtain ⟨T2052, X2052, e2052, st2052⟩ := getF X0 hx hZ hown (host := "") (Or.inl (wd hw 61 rfl)) Via.refl e0 Fu (g := (mkF m 3 #[vR a1, vI p1, vI b] [(.ref a1)])) rfl rfl (hb hby d17_3)
      refine ⟨T2052, _, X2052, N0, e2052, fun target kt => ?_⟩
      rw [← hbr] at kt
      show Steps p.tables e below (T.setTop (mkF m 2 #[vR a1, vI p1, vI b] [])) _
      refine XS.aloadN X0.here hx rfl (hb hby d17_2) rfl rfl ?_
      show Steps p.tables e below (T.setTop (mkF m 3 #[vR a1, vI p1, vI b] [(.ref a1)])) _
      refine st2052 _ ?_
      show Steps p.tables e below (T2052.setTop (mkF m 6 #[vR a1, vI p1, vI b] [(.ref x3)])) _
      refine XS.iloadN X2052.here hx rfl (hb hby d17_6) rfl ?_
      show Steps p.tables e below (T2052.setTop (mkF m 7 #[vR a1, vI p1, vI b] [(.int b), (.ref x3)])) _
      refine own_ldI X2052 hx hZ e2052 V3 (j := b) hb1 (f := (mkF m 7 #[vR a1, vI p1, vI b] [(.int b), (.ref x3)])) rfl rfl (hb hby d17_7) _ ?_
      show Steps p.tables e below (T2052.setTop (mkF m 8 #[vR a1, vI p1, vI b] [(.int (fU (b).toNatClampNeg))])) _
      refine XS.ifYes X2052.here hx rfl (pc0 := 8) (pc' := 39) rfl (hb hby d17_8) rfl ((if0 _ _).trans (tlt hu).1) (by decide) (by decide) ?_
      exact kt
    · obtain ⟨T2053, X2053, e2053, st2053⟩ := getF X0 hx hZ hown (host := "") (Or.inl (wd hw 61 rfl)) Via.refl e0 Fu (g := (mkF m 3 #[vR a1, vI p1, vI b] [(.ref a1)])) rfl rfl (hb hby d17_3)
      obtain ⟨T2055, X2055, e2055, st2055⟩ := getF X2053 hx hZ hown (host := "") (Or.inl (wd hw 59 rfl)) Via.refl e2053 Fe (g := (mkF m 13 #[vR a1, vI p1, vI b] [(.ref a1), (.int p1)])) rfl rfl (hb hby d17_13)
      obtain ⟨T9, locs9, X9, N9, e9, st9⟩ := ih i (b + (1 : Int32)) T2055 h _ X2055 e2055 N0 Z0 hn Fe Fu V2 V3 (by omega)
      refine ⟨T9, locs9, X9, N9, e9, fun target kt => ?_⟩
      show Steps p.tables e below (T.setTop (mkF m 2 #[vR a1, vI p1, vI b] [])) _
      refine XS.aloadN X0.here hx rfl (hb hby d17_2) rfl rfl ?_
      show Steps p.tables e below (T.setTop (mkF m 3 #[vR a1, vI p1, vI b] [(.ref a1)])) _
      refine st2053 _ ?_
      show Steps p.tables e below (T2053.setTop (mkF m 6 #[vR a1, vI p1, vI b] [(.ref x3)])) _
      refine XS.iloadN X2053.here hx rfl (hb hby d17_6) rfl ?_
      show Steps p.tables e below (T2053.setTop (mkF m 7 #[vR a1, vI p1, vI b] [(.int b), (.ref x3)])) _
      refine own_ldI X2053 hx hZ e2053 V3 (j := b) hb1 (f := (mkF m 7 #[vR a1, vI p1, vI b] [(.int b), (.ref x3)])) rfl rfl (hb hby d17_7) _ ?_
      show Steps p.tables e below (T2053.setTop (mkF m 8 #[vR a1, vI p1, vI b] [(.int (fU (b).toNatClampNeg))])) _
      refine XS.ifNo X2053.here hx rfl (hb hby d17_8) rfl ((if0 _ _).trans (flt hu).1) ?_
      refine XS.iloadN X2053.here hx rfl (hb hby d17_11) rfl ?_
      refine XS.aloadN X2053.here hx rfl (hb hby d17_12) rfl rfl ?_
      show Steps p.tables e below (T2053.setTop (mkF m 13 #[vR a1, vI p1, vI b] [(.ref a1), (.int p1)])) _
      refine st2055 _ ?_
      show Steps p.tables e below (T2055.setTop (mkF m 16 #[vR a1, vI p1, vI b] [(.ref x2), (.int p1)])) _
      refine XS.iloadN X2055.here hx rfl (hb hby d17_16) rfl ?_
      refine XS.iconst X2055.here hx rfl (hb hby d17_17) ?_
      refine XS.iadd X2055.here hx rfl (hb hby d17_18) rfl ?_
      show Steps p.tables e below (T2055.setTop (mkF m 19 #[vR a1, vI p1, vI b] [(.int (b + (1 : Int32))), (.ref x2), (.int p1)])) _
      refine own_ldI X2055 hx hZ e2055 V2 (j := (b + (1 : Int32))) hb2 (f := (mkF m 19 #[vR a1, vI p1, vI b] [(.int (b + (1 : Int32))), (.ref x2), (.int p1)])) rfl rfl (hb hby d17_19) _ ?_
      show Steps p.tables e below (T2055.setTop (mkF m 20 #[vR a1, vI p1, vI b] [(.int (fE ((b + (1 : Int32))).toNatClampNeg)), (.int p1)])) _
      refine XS.icmpNo X2055.here hx rfl (hb hby d17_20) rfl (tlt hp).2.1 ?_
      refine XS.iloadN X2055.here hx rfl (hb hby d17_23) rfl ?_
      refine XS.iconst X2055.here hx rfl (hb hby d17_24) ?_
      refine XS.iadd X2055.here hx rfl (hb hby d17_25) rfl ?_
      refine XS.goto X2055.here hx rfl (pc0 := 26) (pc' := 35) rfl (hb hby d17_26) (by decide) (by decide) ?_
      refine XS.istoreN X2055.here hx rfl (hb hby d17_35) rfl (l' := #[vR a1, vI p1, vI (b + (1 : Int32))]) rfl ?_
      refine XS.goto X2055.here hx rfl (pc0 := 36) (pc' := 2) rfl (hb hby d17_36) (by decide) (by decide) ?_
      show Steps p.tables e below (T2055.setTop (mkF m 2 #[vR a1, vI p1, vI (b + (1 : Int32))] [])) _
      exact st9 target kt
    · obtain ⟨T2054, X2054, e2054, st2054⟩ := getF X0 hx hZ hown (host := "") (Or.inl (wd hw 61 rfl)) Via.refl e0 Fu (g := (mkF m 3 #[vR a1, vI p1, vI b] [(.ref a1)])) rfl rfl (hb hby d17_3)
      obtain ⟨T2056, X2056, e2056, st2056⟩ := getF X2054 hx hZ hown (host := "") (Or.inl (wd hw 59 rfl)) Via.refl e2054 Fe (g := (mkF m 13 #[vR a1, vI p1, vI b] [(.ref a1), (.int p1)])) rfl rfl (hb hby d17_13)
      obtain ⟨T2057, X2057, e2057, st2057⟩ := getF X2056 hx hZ hown (host := "") (Or.inl (wd hw 61 rfl)) Via.refl e2056 Fu (g := (mkF m 30 #[vR a1, vI p1, vI b] [(.ref a1)])) rfl rfl (hb hby d17_30)
      obtain ⟨T9, locs9, X9, N9, e9, st9⟩ := ih i (fU (b).toNatClampNeg) T2057 h _ X2057 e2057 N0 Z0 hn Fe Fu V2 V3 (by omega)
      refine ⟨T9, locs9, X9, N9, e9, fun target kt => ?_⟩
      show Steps p.tables e below (T.setTop (mkF m 2 #[vR a1, vI p1, vI b] [])) _
      refine XS.aloadN X0.here hx rfl (hb hby d17_2) rfl rfl ?_
      show Steps p.tables e below (T.setTop (mkF m 3 #[vR a1, vI p1, vI b] [(.ref a1)])) _
      refine st2054 _ ?_
      show Steps p.tables e below (T2054.setTop (mkF m 6 #[vR a1, vI p1, vI b] [(.ref x3)])) _
      refine XS.iloadN X2054.here hx rfl (hb hby d17_6) rfl ?_
      show Steps p.tables e below (T2054.setTop (mkF m 7 #[vR a1, vI p1, vI b] [(.int b), (.ref x3)])) _
      refine own_ldI X2054 hx hZ e2054 V3 (j := b) hb1 (f := (mkF m 7 #[vR a1, vI p1, vI b] [(.int b), (.ref x3)])) rfl rfl (hb hby d17_7) _ ?_
      show Steps p.tables e below (T2054.setTop (mkF m 8 #[vR a1, vI p1, vI b] [(.int (fU (b).toNatClampNeg))])) _
      refine XS.ifNo X2054.here hx rfl (hb hby d17_8) rfl ((if0 _ _).trans (flt hu).1) ?_
      refine XS.iloadN X2054.here hx rfl (hb hby d17_11) rfl ?_
      refine XS.aloadN X2054.here hx rfl (hb hby d17_12) rfl rfl ?_
      show Steps p.tables e below (T2054.setTop (mkF m 13 #[vR a1, vI p1, vI b] [(.ref a1), (.int p1)])) _
      refine st2056 _ ?_
      show Steps p.tables e below (T2056.setTop (mkF m 16 #[vR a1, vI p1, vI b] [(.ref x2), (.int p1)])) _
      refine XS.iloadN X2056.here hx rfl (hb hby d17_16) rfl ?_
      refine XS.iconst X2056.here hx rfl (hb hby d17_17) ?_
      refine XS.iadd X2056.here hx rfl (hb hby d17_18) rfl ?_
      show Steps p.tables e below (T2056.setTop (mkF m 19 #[vR a1, vI p1, vI b] [(.int (b + (1 : Int32))), (.ref x2), (.int p1)])) _
      refine own_ldI X2056 hx hZ e2056 V2 (j := (b + (1 : Int32))) hb2 (f := (mkF m 19 #[vR a1, vI p1, vI b] [(.int (b + (1 : Int32))), (.ref x2), (.int p1)])) rfl rfl (hb hby d17_19) _ ?_
      show Steps p.tables e below (T2056.setTop (mkF m 20 #[vR a1, vI p1, vI b] [(.int (fE ((b + (1 : Int32))).toNatClampNeg)), (.int p1)])) _
      refine XS.icmpYes X2056.here hx rfl (pc0 := 20) (pc' := 29) rfl (hb hby d17_20) rfl (flt hp).2.1 (by decide) (by decide) ?_
      refine XS.aloadN X2056.here hx rfl (hb hby d17_29) rfl rfl ?_
      show Steps p.tables e below (T2056.setTop (mkF m 30 #[vR a1, vI p1, vI b] [(.ref a1)])) _
      refine st2057 _ ?_
      show Steps p.tables e below (T2057.setTop (mkF m 33 #[vR a1, vI p1, vI b] [(.ref x3)])) _
      refine XS.iloadN X2057.here hx rfl (hb hby d17_33) rfl ?_
      show Steps p.tables e below (T2057.setTop (mkF m 34 #[vR a1, vI p1, vI b] [(.int b), (.ref x3)])) _
      refine own_ldI X2057 hx hZ e2057 V3 (j := b) hb1 (f := (mkF m 34 #[vR a1, vI p1, vI b] [(.int b), (.ref x3)])) rfl rfl (hb hby d17_34) _ ?_
      show Steps p.tables e below (T2057.setTop (mkF m 35 #[vR a1, vI p1, vI b] [(.int (fU (b).toNatClampNeg))])) _
      refine XS.istoreN X2057.here hx rfl (hb hby d17_35) rfl (l' := #[vR a1, vI p1, vI (fU (b).toNatClampNeg)]) rfl ?_
      refine XS.goto X2057.here hx rfl (pc0 := 36) (pc' := 2) rfl (hb hby d17_36) (by decide) (by decide) ?_
      show Steps p.tables e below (T2057.setTop (mkF m 2 #[vR a1, vI p1, vI (fU (b).toNatClampNeg)] [])) _
      exact st9 target kt
theorem d17_0 : decode prog_53_method_9_code 0 = .ok (.iconst 0, 1) := by decide +kernel
theorem d17_1 : decode prog_53_method_9_code 1 = .ok (.istore_n 2, 1) := by decide +kernel
theorem d17_39 : decode prog_53_method_9_code 39 = .ok (.iload_n 2, 1) := by decide +kernel
theorem d17_40 : decode prog_53_method_9_code 40 = .ok (.ireturn, 1) := by decide +kernel
theorem ef_rm17 (m : MethodId) (a1 : Addr) (p1 : Int32) : entryFrame m #[(.ref a1), (.int p1)] 3 = mkF m 0 #[.val (.ref a1), .val (.int p1), .unset] [] := by first | (simp [entryFrame, mkF, argsToLocals, Value.category]; done) | rfl
def Qrm17 (Z : State) (a1 : Addr) (p1 : Int32) (x2 : Addr) (x3 : Addr) (fE : Nat → Int32) (fU : Nat → Int32) (r : Int32) (h0 : Heap) (n0 : Nat) (v : Option Value) (h : Heap) (L : List Loc) : Prop := v = some (.int r) ∧ Fr n0 L ∧ h = h0
set_option maxRecDepth 65536 in
set_option maxHeartbeats 40000000 in
theorem rm17 (l : Launch) (Z : State) (a0 : Array Value) (hw : ∀ d ∈ tables_1, d.before a0 Z = true) (ws : List Jvm.Cond) (a1 : Addr) (p1 : Int32) (x2 : Addr) (x3 : Addr) (fE : Nat → Int32) (fU : Nat → Int32) (r : Int32) (h0 : Heap) (n0 : Nat) (Z0 : n0 ≤ h0.size) (Fe : Fld Z h0 a1 "com/example/flatfinder/flatfinder/neighbours/KdTree" "end" "[I" (.ref x2)) (Fu : Fld Z h0 a1 "com/example/flatfinder/flatfinder/neighbours/KdTree" "upper" "[I" (.ref x3)) (V2 : own_V Z h0 x2 .int 9 (fun ii => .int (fE ii))) (V3 : own_V Z h0 x3 .int 9 (fun ii => .int (fU ii))) (hT : own_find fE fU p1 3 (0 : Int32) = some r) :
    MetFree l (⟨"com/example/flatfinder/flatfinder/neighbours/KdTree", "leafOf", "(I)I"⟩ : MethodName) (head1 (Jvm.Cond.code (⟨"com/example/flatfinder/flatfinder/neighbours/KdTree", "leafOf", "(I)I"⟩ : MethodName) prog_53_method_9_code 3 (some .int) :: ws) ({ frames := 0, cells := 0, slots := 0, locals := 0 } : Room)) (fun a U => a = #[(.ref a1), (.int p1)] ∧ Z.Warmed39 U.vm ∧ U.heap = h0) (fun _ _ _ _ _ => True) (fun _ U o U' => ∃ v L, o = .returned v ∧ Qrm17 Z a1 p1 x2 x3 fE fU r h0 n0 v U'.heap L ∧ FrameEnd U o U' L ({ frames := 0, cells := 0, slots := 0, locals := 0 } : Room).cells ({ frames := 0, cells := 0, slots := 0, locals := 0 } : Room).slots) := by
  refine MetFree.of_bodySF (plainFor_of_name pn_com_example_flatfinder_flatfinder_neighbours_KdTree) hisR ?_
  intro p e s m args below meth c s₁ Bd hml0 hP hK
  obtain ⟨rfl, hZ, hh⟩ := hP
  have hx := Bd.exec
  have hby := Bd.bytes
  have hml : c.maxLocals = 3 := hml0
  have hown : s.vm.findClass "com/example/flatfinder/flatfinder/neighbours/KdTree" = some m.cls := findClass_of_methodNamed Bd.named
  have hnm := (name_of_methodNamed Bd.named Bd.method).1
  have X0 : Stand p l e ({ frames := 0, cells := 0, slots := 0, locals := 0 } : Room) s m #[(.ref a1), (.int p1)] below meth c s₁ [] 0 0 := Stand.of_body Bd
  have e0 : s₁.heap = h0 := by rw [← hh, Bd.state]; rfl
  have N0 := Fr.nil n0
  have pre0 : ∀ tg, Steps p.tables e below (s₁.setTop (mkF m 0 #[.val (.ref a1), .val (.int p1), .unset] [])) tg → Steps p.tables e below (s₁.setTop (entryFrame m #[(.ref a1), (.int p1)] 3)) tg := fun tg kg => castTop (ef_rm17 m a1 p1) kg
  obtain ⟨T2058, lo2058,  X2058, N2058, e2058, st2058⟩ := loopF hw hx hZ hby hml hown a1 p1 x2 x3 fE fU r 4 3 (0 : Int32) s₁ h0 _ X0 e0 N0 Z0 hT Fe Fu V2 V3 (by decide)
  obtain ⟨fs, hr, hrun, hended, hW, hsame⟩ := X2058.leave (v := some (.int r)) (fun h => by rw [Bd.returns] at h; cases h)
  refine ⟨_, _, pre0 _ ?_, hrun, hended, _, _, rfl, ?_, ⟨_, rfl⟩, hW, hsame.mono (by decide) (by decide)⟩
  · show Steps p.tables e below (s₁.setTop (mkF m 0 #[vR a1, vI p1, .unset] [])) _
    refine XS.iconst X0.here hx rfl (hb hby d17_0) ?_
    refine XS.istoreN X0.here hx rfl (hb hby d17_1) rfl (l' := #[vR a1, vI p1, vI 0]) rfl ?_
    show Steps p.tables e below (s₁.setTop (mkF m 2 #[vR a1, vI p1, vI 0] [])) _
    refine st2058 _ ?_
    show Steps p.tables e below (T2058.setTop (mkF m 39 #[vR a1, vI p1, vI r] [])) _
    refine XS.iloadN X2058.here hx rfl (hb hby d17_39) rfl ?_
    show Steps p.tables e below (T2058.setTop (mkF m 40 #[vR a1, vI p1, vI r] [(.int r)])) _
    exact retI X2058 hx Bd.returns (hb hby d17_40) hr
  · show Qrm17 Z a1 p1 x2 x3 fE fU r h0 n0 _ T2058.heap _
    rw [e2058]
    exact ⟨rfl, N2058, rfl⟩
set_option maxRecDepth 65536 in
set_option maxHeartbeats 40000000 in
theorem loopR0 {p : Program} {l : Launch} {e : Env} {s : State} {m : MethodId} {args : Array Value} {below : List Frame} {meth : Method} {c : Code} {Z : State} {a0 : Array Value} {n0 : Nat} (hw : ∀ d ∈ tables_1, d.before a0 Z = true) (hx : p.tables.exec = Jvm.exec) (hZ : Z.Warmed39 s.vm) (hby : c.code = code) (hml : c.maxLocals = 12) (hown : s.vm.findClass "com/example/flatfinder/flatfinder/neighbours/KdTreeLeafOfPinLaw" = some m.cls) (p0 p1 p2 p3 p4 p5 : Int32) (d r : Addr) (T : State) (h : Heap) (locs : List Loc) (X0 : Stand p l e room_1 s m args below meth c T locs 2 132) (e0 : T.heap = h) (N0 : Fr n0 locs) (Z0 : n0 ≤ h.size) (RW : own_Rw Z h r) (gr : n0 ≤ r) :
    ∃ (T' : State) (locs' : List Loc), Stand p l e room_1 s m args below meth c T' locs' 2 132 ∧ Fr n0 locs' ∧ Keep h T'.heap [r] ∧ own_Rw Z T'.heap r ∧ ∀ target, Steps p.tables e below (T'.setTop (mkF m 118 #[vI p0, vI p1, vI p2, vI p3, vI p4, vI p5, vR d, .unset, .unset, .unset, .unset, .unset] [(.ref r)])) target → Steps p.tables e below (T.setTop (mkF m 94 #[vI p0, vI p1, vI p2, vI p3, vI p4, vI p5, vR d, .unset, .unset, .unset, .unset, .unset] [(.ref r)])) target := by
  obtain ⟨f0, V0, q0⟩ := RW
  have K0 := Keep.refl h [r]
  obtain ⟨T2107, h2107, X2107, e2107, W2107, st2107⟩ := own_sI X0 hx hZ e0 V0 (j := (0 : Int32)) (by constructor <;> decide) (f := (mkF m 97 #[vI p0, vI p1, vI p2, vI p3, vI p4, vI p5, vR d, .unset, .unset, .unset, .unset, .unset] [(.int (0 : Int32)), (.int (0 : Int32)), (.ref r), (.ref r)])) rfl rfl (hb hby at_97)
  have f2108 : own_V Z h2107 r .int 66 (fun ii => .int ((own_up f0 0 (0 : Int32)) ii)) := own_V.setI V0 W2107
  have q2109 := own_upP (j := 0) (x := (0 : Int32)) q0 (by decide : own_ix 66 _)
  have Zn2110 := Nat.le_trans Z0 (Keep.of_wr W2107).1
  have N2111 := Fr.snoc X2107 N0 gr
  have K2112 := K0.wr W2107 (Or.inl (List.mem_of_getElem? (i := 0) rfl))
  obtain ⟨T2113, h2113, X2113, e2113, W2113, st2113⟩ := own_sI X2107 hx hZ e2107 f2108 (j := (1 : Int32)) (by constructor <;> decide) (f := (mkF m 101 #[vI p0, vI p1, vI p2, vI p3, vI p4, vI p5, vR d, .unset, .unset, .unset, .unset, .unset] [(.int (1 : Int32)), (.int (1 : Int32)), (.ref r), (.ref r)])) rfl rfl (hb hby at_101)
  have f2114 : own_V Z h2113 r .int 66 (fun ii => .int ((own_up (own_up f0 0 (0 : Int32)) 1 (1 : Int32)) ii)) := own_V.setI f2108 W2113
  have q2115 := own_upP (j := 1) (x := (1 : Int32)) q2109 (by decide : own_ix 66 _)
  have Zn2116 := Nat.le_trans Zn2110 (Keep.of_wr W2113).1
  have N2117 := Fr.snoc X2113 N2111 gr
  have K2118 := K2112.wr W2113 (Or.inl (List.mem_of_getElem? (i := 0) rfl))
  obtain ⟨T2119, h2119, X2119, e2119, W2119, st2119⟩ := own_sI X2113 hx hZ e2113 f2114 (j := (2 : Int32)) (by constructor <;> decide) (f := (mkF m 105 #[vI p0, vI p1, vI p2, vI p3, vI p4, vI p5, vR d, .unset, .unset, .unset, .unset, .unset] [(.int (2 : Int32)), (.int (2 : Int32)), (.ref r), (.ref r)])) rfl rfl (hb hby at_105)
  have f2120 : own_V Z h2119 r .int 66 (fun ii => .int ((own_up (own_up (own_up f0 0 (0 : Int32)) 1 (1 : Int32)) 2 (2 : Int32)) ii)) := own_V.setI f2114 W2119
  have q2121 := own_upP (j := 2) (x := (2 : Int32)) q2115 (by decide : own_ix 66 _)
  have Zn2122 := Nat.le_trans Zn2116 (Keep.of_wr W2119).1
  have N2123 := Fr.snoc X2119 N2117 gr
  have K2124 := K2118.wr W2119 (Or.inl (List.mem_of_getElem? (i := 0) rfl))
  obtain ⟨T2125, h2125, X2125, e2125, W2125, st2125⟩ := own_sI X2119 hx hZ e2119 f2120 (j := (3 : Int32)) (by constructor <;> decide) (f := (mkF m 109 #[vI p0, vI p1, vI p2, vI p3, vI p4, vI p5, vR d, .unset, .unset, .unset, .unset, .unset] [(.int (3 : Int32)), (.int (3 : Int32)), (.ref r), (.ref r)])) rfl rfl (hb hby at_109)
  have f2126 : own_V Z h2125 r .int 66 (fun ii => .int ((own_up (own_up (own_up (own_up f0 0 (0 : Int32)) 1 (1 : Int32)) 2 (2 : Int32)) 3 (3 : Int32)) ii)) := own_V.setI f2120 W2125
  have q2127 := own_upP (j := 3) (x := (3 : Int32)) q2121 (by decide : own_ix 66 _)
  have Zn2128 := Nat.le_trans Zn2122 (Keep.of_wr W2125).1
  have N2129 := Fr.snoc X2125 N2123 gr
  have K2130 := K2124.wr W2125 (Or.inl (List.mem_of_getElem? (i := 0) rfl))
  obtain ⟨T2131, h2131, X2131, e2131, W2131, st2131⟩ := own_sI X2125 hx hZ e2125 f2126 (j := (4 : Int32)) (by constructor <;> decide) (f := (mkF m 113 #[vI p0, vI p1, vI p2, vI p3, vI p4, vI p5, vR d, .unset, .unset, .unset, .unset, .unset] [(.int (4 : Int32)), (.int (4 : Int32)), (.ref r), (.ref r)])) rfl rfl (hb hby at_113)
  have f2132 : own_V Z h2131 r .int 66 (fun ii => .int ((own_up (own_up (own_up (own_up (own_up f0 0 (0 : Int32)) 1 (1 : Int32)) 2 (2 : Int32)) 3 (3 : Int32)) 4 (4 : Int32)) ii)) := own_V.setI f2126 W2131
  have q2133 := own_upP (j := 4) (x := (4 : Int32)) q2127 (by decide : own_ix 66 _)
  have Zn2134 := Nat.le_trans Zn2128 (Keep.of_wr W2131).1
  have N2135 := Fr.snoc X2131 N2129 gr
  have K2136 := K2130.wr W2131 (Or.inl (List.mem_of_getElem? (i := 0) rfl))
  obtain ⟨T2137, h2137, X2137, e2137, W2137, st2137⟩ := own_sI X2131 hx hZ e2131 f2132 (j := (5 : Int32)) (by constructor <;> decide) (f := (mkF m 117 #[vI p0, vI p1, vI p2, vI p3, vI p4, vI p5, vR d, .unset, .unset, .unset, .unset, .unset] [(.int (5 : Int32)), (.int (5 : Int32)), (.ref r), (.ref r)])) rfl rfl (hb hby at_117)
  have f2138 : own_V Z h2137 r .int 66 (fun ii => .int ((own_up (own_up (own_up (own_up (own_up (own_up f0 0 (0 : Int32)) 1 (1 : Int32)) 2 (2 : Int32)) 3 (3 : Int32)) 4 (4 : Int32)) 5 (5 : Int32)) ii)) := own_V.setI f2132 W2137
  have q2139 := own_upP (j := 5) (x := (5 : Int32)) q2133 (by decide : own_ix 66 _)
  have Zn2140 := Nat.le_trans Zn2134 (Keep.of_wr W2137).1
  have N2141 := Fr.snoc X2137 N2135 gr
  have K2142 := K2136.wr W2137 (Or.inl (List.mem_of_getElem? (i := 0) rfl))
  refine ⟨T2137, _, X2137, N2141, (by rw [e2137]; exact K2142), (by rw [e2137]; exact ⟨_, f2138, q2139⟩), fun target kt => ?_⟩
  show Steps p.tables e below (T.setTop (mkF m 94 #[vI p0, vI p1, vI p2, vI p3, vI p4, vI p5, vR d, .unset, .unset, .unset, .unset, .unset] [(.ref r)])) _
  refine XS.dup X0.here hx rfl (hb hby at_94) rfl rfl ?_
  refine XS.iconst X0.here hx rfl (hb hby at_95) ?_
  refine XS.iconst X0.here hx rfl (hb hby at_96) ?_
  show Steps p.tables e below (T.setTop (mkF m 97 #[vI p0, vI p1, vI p2, vI p3, vI p4, vI p5, vR d, .unset, .unset, .unset, .unset, .unset] [(.int (0 : Int32)), (.int (0 : Int32)), (.ref r), (.ref r)])) _
  refine st2107 _ ?_
  show Steps p.tables e below (T2107.setTop (mkF m 98 #[vI p0, vI p1, vI p2, vI p3, vI p4, vI p5, vR d, .unset, .unset, .unset, .unset, .unset] [(.ref r)])) _
  refine XS.dup X2107.here hx rfl (hb hby at_98) rfl rfl ?_
  refine XS.iconst X2107.here hx rfl (hb hby at_99) ?_
  refine XS.iconst X2107.here hx rfl (hb hby at_100) ?_
  show Steps p.tables e below (T2107.setTop (mkF m 101 #[vI p0, vI p1, vI p2, vI p3, vI p4, vI p5, vR d, .unset, .unset, .unset, .unset, .unset] [(.int (1 : Int32)), (.int (1 : Int32)), (.ref r), (.ref r)])) _
  refine st2113 _ ?_
  show Steps p.tables e below (T2113.setTop (mkF m 102 #[vI p0, vI p1, vI p2, vI p3, vI p4, vI p5, vR d, .unset, .unset, .unset, .unset, .unset] [(.ref r)])) _
  refine XS.dup X2113.here hx rfl (hb hby at_102) rfl rfl ?_
  refine XS.iconst X2113.here hx rfl (hb hby at_103) ?_
  refine XS.iconst X2113.here hx rfl (hb hby at_104) ?_
  show Steps p.tables e below (T2113.setTop (mkF m 105 #[vI p0, vI p1, vI p2, vI p3, vI p4, vI p5, vR d, .unset, .unset, .unset, .unset, .unset] [(.int (2 : Int32)), (.int (2 : Int32)), (.ref r), (.ref r)])) _
  refine st2119 _ ?_
  show Steps p.tables e below (T2119.setTop (mkF m 106 #[vI p0, vI p1, vI p2, vI p3, vI p4, vI p5, vR d, .unset, .unset, .unset, .unset, .unset] [(.ref r)])) _
  refine XS.dup X2119.here hx rfl (hb hby at_106) rfl rfl ?_
  refine XS.iconst X2119.here hx rfl (hb hby at_107) ?_
  refine XS.iconst X2119.here hx rfl (hb hby at_108) ?_
  show Steps p.tables e below (T2119.setTop (mkF m 109 #[vI p0, vI p1, vI p2, vI p3, vI p4, vI p5, vR d, .unset, .unset, .unset, .unset, .unset] [(.int (3 : Int32)), (.int (3 : Int32)), (.ref r), (.ref r)])) _
  refine st2125 _ ?_
  show Steps p.tables e below (T2125.setTop (mkF m 110 #[vI p0, vI p1, vI p2, vI p3, vI p4, vI p5, vR d, .unset, .unset, .unset, .unset, .unset] [(.ref r)])) _
  refine XS.dup X2125.here hx rfl (hb hby at_110) rfl rfl ?_
  refine XS.iconst X2125.here hx rfl (hb hby at_111) ?_
  refine XS.iconst X2125.here hx rfl (hb hby at_112) ?_
  show Steps p.tables e below (T2125.setTop (mkF m 113 #[vI p0, vI p1, vI p2, vI p3, vI p4, vI p5, vR d, .unset, .unset, .unset, .unset, .unset] [(.int (4 : Int32)), (.int (4 : Int32)), (.ref r), (.ref r)])) _
  refine st2131 _ ?_
  show Steps p.tables e below (T2131.setTop (mkF m 114 #[vI p0, vI p1, vI p2, vI p3, vI p4, vI p5, vR d, .unset, .unset, .unset, .unset, .unset] [(.ref r)])) _
  refine XS.dup X2131.here hx rfl (hb hby at_114) rfl rfl ?_
  refine XS.iconst X2131.here hx rfl (hb hby at_115) ?_
  refine XS.iconst X2131.here hx rfl (hb hby at_116) ?_
  show Steps p.tables e below (T2131.setTop (mkF m 117 #[vI p0, vI p1, vI p2, vI p3, vI p4, vI p5, vR d, .unset, .unset, .unset, .unset, .unset] [(.int (5 : Int32)), (.int (5 : Int32)), (.ref r), (.ref r)])) _
  refine st2137 _ ?_
  show Steps p.tables e below (T2137.setTop (mkF m 118 #[vI p0, vI p1, vI p2, vI p3, vI p4, vI p5, vR d, .unset, .unset, .unset, .unset, .unset] [(.ref r)])) _
  exact kt
set_option maxRecDepth 65536 in
set_option maxHeartbeats 40000000 in
theorem own_lit : ∀ i : Fin 60, decode code (118 + 6 * i.val) = .ok (.dup, 1) ∧ decode code (118 + 6 * i.val + 1) = .ok (.bipush (i.val + 6 : Nat), 2) ∧ decode code (118 + 6 * i.val + 3) = .ok (.bipush (i.val + 6 : Nat), 2) ∧ decode code (118 + 6 * i.val + 5) = .ok (.iastore, 1) ∧ own_ix 66 (Int8.ofInt (i.val + 6 : Nat)).toInt32 := by decide +kernel
set_option maxRecDepth 65536 in
set_option maxHeartbeats 40000000 in
theorem loopR {p : Program} {l : Launch} {e : Env} {s : State} {m : MethodId} {args : Array Value} {below : List Frame} {meth : Method} {c : Code} {Z : State} {a0 : Array Value} {n0 : Nat} (hw : ∀ d ∈ tables_1, d.before a0 Z = true) (hx : p.tables.exec = Jvm.exec) (hZ : Z.Warmed39 s.vm) (hby : c.code = code) (hml : c.maxLocals = 12) (hown : s.vm.findClass "com/example/flatfinder/flatfinder/neighbours/KdTreeLeafOfPinLaw" = some m.cls) (r : Addr) (gr : n0 ≤ r) (Ls : Array Slot) :
    ∀ (k i pc : Nat) (hk : i + k = 60) (hpc : pc = 118 + 6 * i) (T : State) (h : Heap) (locs : List Loc) (X0 : Stand p l e room_1 s m args below meth c T locs 2 132) (e0 : T.heap = h) (N0 : Fr n0 locs) (RW : own_Rw Z h r),
      ∃ (T' : State) (locs' : List Loc), Stand p l e room_1 s m args below meth c T' locs' 2 132 ∧ Fr n0 locs' ∧ Keep h T'.heap [r] ∧ own_Rw Z T'.heap r ∧ ∀ target, Steps p.tables e below (T'.setTop (mkF m 478 Ls [.ref r])) target → Steps p.tables e below (T.setTop (mkF m pc Ls [.ref r])) target := by
  intro k
  induction k with
  | zero =>
    intro i pc hk hpc T h locs X0 e0 N0 RW
    obtain rfl : pc = 478 := by omega
    subst e0
    exact ⟨T, locs, X0, N0, Keep.refl _ _, RW, fun _ kt => kt⟩
  | succ k ih =>
    intro i pc hk hpc T h locs X0 e0 N0 RW
    have D := own_lit ⟨i, by omega⟩
    dsimp only at D
    rw [← hpc] at D
    obtain ⟨d1, d2, d3, d4, d5⟩ := D
    obtain ⟨J, hJ⟩ : ∃ z, z = (Int8.ofInt (i + 6 : Nat)).toInt32 := ⟨_, rfl⟩
    rw [← hJ] at d5
    obtain ⟨f0, V0, q0⟩ := RW
    obtain ⟨T1, h1, X1, e1, W1, st1⟩ := own_sI X0 hx hZ e0 V0 (j := J) (x := J) d5 (f := (mkF m (pc + 5) Ls [.int J, .int J, .ref r, .ref r])) rfl rfl (hb hby d4)
    obtain ⟨T2, lo2, X2, N2, K2, R2, st2⟩ := ih (i + 1) (pc + 6) (by omega) (by omega) T1 h1 _ X1 e1 (Fr.snoc X1 N0 gr) ⟨_, own_V.setI V0 W1, own_upP q0 d5⟩
    refine ⟨T2, lo2, X2, N2, ((Keep.refl h [r]).wr W1 (Or.inl (List.mem_of_getElem? (i := 0) rfl))).trans K2 (allS (Or.inl (List.mem_of_getElem? (i := 0) rfl)) all0), R2, fun target kt => ?_⟩
    refine XS.dup X0.here hx rfl (hb hby d1) rfl rfl ?_
    refine XS.bipush X0.here hx rfl (hb hby d2) ?_
    refine XS.bipush X0.here hx rfl (hb hby d3) ?_
    rw [← hJ]
    show Steps p.tables e below (T.setTop (mkF m (pc + 5) Ls [.int J, .int J, .ref r, .ref r])) _
    refine st1 _ ?_
    exact st2 target kt
theorem pd__Lcom_example_flatfinder_flatfinder_neighbours_Points__I_V : parseMethodDescriptor "(Lcom/example/flatfinder/flatfinder/neighbours/Points;[I)V" = some ⟨[(.object "com/example/flatfinder/flatfinder/neighbours/Points"), (.array .int)], none⟩ := by decide +kernel
theorem pd__I_I : parseMethodDescriptor "(I)I" = some ⟨[.int], some .int⟩ := by decide +kernel
theorem pd__I_Z : parseMethodDescriptor "(I)Z" = some ⟨[.int], some .boolean⟩ := by decide +kernel
theorem pn_com_example_flatfinder_flatfinder_neighbours_KdTreeLeafOfPinLaw : plainName "com/example/flatfinder/flatfinder/neighbours/KdTreeLeafOfPinLaw" = true := by first | (simp [plainName, overriddenIn]; done) | decide +kernel
theorem ef_rm0 (m : MethodId) (p0 : Int32) (p1 : Int32) (p2 : Int32) (p3 : Int32) (p4 : Int32) (p5 : Int32) : entryFrame m #[(.int p0), (.int p1), (.int p2), (.int p3), (.int p4), (.int p5)] maxLocals = mkF m 0 #[.val (.int p0), .val (.int p1), .val (.int p2), .val (.int p3), .val (.int p4), .val (.int p5), .unset, .unset, .unset, .unset, .unset, .unset] [] := by first | (simp [entryFrame, mkF, argsToLocals, Value.category, maxLocals]; done) | rfl
def Qrm0 (Z : State) (p0 : Int32) (p1 : Int32) (p2 : Int32) (p3 : Int32) (p4 : Int32) (p5 : Int32) (h0 : Heap) (n0 : Nat) (v : Option Value) (h : Heap) (L : List Loc) : Prop := v = some (.int (1 : Int32)) ∧ Fr n0 L
set_option maxRecDepth 65536 in
set_option maxHeartbeats 40000000 in
theorem rm0 (l : Launch) (Z : State) (a0 : Array Value) (hw : ∀ d ∈ tables_1, d.before a0 Z = true) (ws : List Jvm.Cond) (p0 : Int32) (p1 : Int32) (p2 : Int32) (p3 : Int32) (p4 : Int32) (p5 : Int32) (h0 : Heap) (n0 : Nat) (Z0 : n0 ≤ h0.size) :
    MetFree l x (head1 (Jvm.Cond.code x code maxLocals ret :: ws) room_1) (fun a U => a = #[(.int p0), (.int p1), (.int p2), (.int p3), (.int p4), (.int p5)] ∧ Z.Warmed39 U.vm ∧ U.heap = h0) (fun _ _ _ _ _ => True) (fun _ U o U' => ∃ v L, o = .returned v ∧ Qrm0 Z p0 p1 p2 p3 p4 p5 h0 n0 v U'.heap L ∧ FrameEnd U o U' L room_1.cells room_1.slots) := by
  refine MetFree.of_bodySF (plainFor_of_name pn_com_example_flatfinder_flatfinder_neighbours_KdTreeLeafOfPinLaw) hisR ?_
  intro p e s m args below meth c s₁ Bd hml0 hP hK
  obtain ⟨rfl, hZ, hh⟩ := hP
  have hx := Bd.exec
  have hby := Bd.bytes
  have hml : c.maxLocals = 12 := hml0
  have hown : s.vm.findClass "com/example/flatfinder/flatfinder/neighbours/KdTreeLeafOfPinLaw" = some m.cls := findClass_of_methodNamed Bd.named
  have hnm := (name_of_methodNamed Bd.named Bd.method).1
  have X0 : Stand p l e room_1 s m #[(.int p0), (.int p1), (.int p2), (.int p3), (.int p4), (.int p5)] below meth c s₁ [] 0 0 := Stand.of_body Bd
  have e0 : s₁.heap = h0 := by rw [← hh, Bd.state]; rfl
  have N0 := Fr.nil n0
  have pre0 : ∀ tg, Steps p.tables e below (s₁.setTop (mkF m 0 #[.val (.int p0), .val (.int p1), .val (.int p2), .val (.int p3), .val (.int p4), .val (.int p5), .unset, .unset, .unset, .unset, .unset, .unset] [])) tg → Steps p.tables e below (s₁.setTop (entryFrame m #[(.int p0), (.int p1), (.int p2), (.int p3), (.int p4), (.int p5)] maxLocals)) tg := fun tg kg => castTop (ef_rm0 m p0 p1 p2 p3 p4 p5) kg
  obtain ⟨T2059, h2059, X2059, e2059, E2059, A2059, C2059, st2059⟩ := own_newP X0 hx hZ (wd hw 0 rfl) e0 (f := (mkF m 2 #[vI p0, vI p1, vI p2, vI p3, vI p4, vI p5, .unset, .unset, .unset, .unset, .unset, .unset] [(.int (66 : Int32))])) rfl (hb hby at_2) rfl (by decide) (cap := 66) (by decide) (by decide) (by decide) (by decide)
  obtain ⟨b2059, g2059⟩ : ∃ z, z = h0.size := ⟨_, rfl⟩
  rw [← g2059] at A2059 C2059 st2059
  have g2060 : n0 ≤ b2059 := Nat.le_trans Z0 (Nat.le_of_eq g2059.symm)
  have Zn2061 := Nat.le_trans Z0 E2059.1
  have f2062 : own_V Z h2059 b2059 .double 66 (fun ii => (.double ((fun _ => (0 : UInt64)) ii))) := A2059
  have f2063 : Exa Z h2059 b2059 "[D" := C2059
  have qd0 : ∀ ii : Nat, Jvm.Free.Fl.Fin64 ((fun _ => (0 : UInt64)) ii) := own_fin0
  obtain ⟨T2064, h2064, X2064, e2064, W2064, st2064⟩ := own_sD X2059 hx hZ e2059 f2062 (j := ((p1 &&& (255 : Int32)) - (p1 &&& (255 : Int32)) / (66 : Int32) * (66 : Int32))) (own_c66 p1) (f := (mkF m 21 #[vI p0, vI p1, vI p2, vI p3, vI p4, vI p5, vR b2059, .unset, .unset, .unset, .unset, .unset] [(.double (FP.i2d (p1 >>> ((8 : Int32) &&& 31)))), (.int ((p1 &&& (255 : Int32)) - (p1 &&& (255 : Int32)) / (66 : Int32) * (66 : Int32))), (.ref b2059)])) rfl rfl (hb hby at_21)
  have f2065 : own_V Z h2064 b2059 .double 66 (fun ii => .double ((own_up (fun _ => (0 : UInt64)) (((p1 &&& (255 : Int32)) - (p1 &&& (255 : Int32)) / (66 : Int32) * (66 : Int32))).toNatClampNeg (FP.i2d (p1 >>> ((8 : Int32) &&& 31)))) ii)) := own_V.setD f2062 W2064
  have q2066 := own_upP (j := (((p1 &&& (255 : Int32)) - (p1 &&& (255 : Int32)) / (66 : Int32) * (66 : Int32))).toNatClampNeg) (x := (FP.i2d (p1 >>> ((8 : Int32) &&& 31)))) qd0 (Jvm.Free.Fl.i2d_fin _)
  obtain ⟨u2067, eu2067⟩ : ∃ z, z = (own_up (fun _ => (0 : UInt64)) (((p1 &&& (255 : Int32)) - (p1 &&& (255 : Int32)) / (66 : Int32) * (66 : Int32))).toNatClampNeg (FP.i2d (p1 >>> ((8 : Int32) &&& 31)))) := ⟨_, rfl⟩
  rw [← eu2067] at f2065 q2066
  have f2068 := f2063.wr W2064
  have Zn2069 := Nat.le_trans Zn2061 (Keep.of_wr W2064).1
  have N2070 := Fr.snoc X2064 N0 g2060
  obtain ⟨T2071, h2071, X2071, e2071, W2071, st2071⟩ := own_sD X2064 hx hZ e2064 f2065 (j := ((p2 &&& (255 : Int32)) - (p2 &&& (255 : Int32)) / (66 : Int32) * (66 : Int32))) (own_c66 p2) (f := (mkF m 37 #[vI p0, vI p1, vI p2, vI p3, vI p4, vI p5, vR b2059, .unset, .unset, .unset, .unset, .unset] [(.double (FP.i2d (p2 >>> ((8 : Int32) &&& 31)))), (.int ((p2 &&& (255 : Int32)) - (p2 &&& (255 : Int32)) / (66 : Int32) * (66 : Int32))), (.ref b2059)])) rfl rfl (hb hby at_37)
  have f2072 : own_V Z h2071 b2059 .double 66 (fun ii => .double ((own_up u2067 (((p2 &&& (255 : Int32)) - (p2 &&& (255 : Int32)) / (66 : Int32) * (66 : Int32))).toNatClampNeg (FP.i2d (p2 >>> ((8 : Int32) &&& 31)))) ii)) := own_V.setD f2065 W2071
  have q2073 := own_upP (j := (((p2 &&& (255 : Int32)) - (p2 &&& (255 : Int32)) / (66 : Int32) * (66 : Int32))).toNatClampNeg) (x := (FP.i2d (p2 >>> ((8 : Int32) &&& 31)))) q2066 (Jvm.Free.Fl.i2d_fin _)
  obtain ⟨u2074, eu2074⟩ : ∃ z, z = (own_up u2067 (((p2 &&& (255 : Int32)) - (p2 &&& (255 : Int32)) / (66 : Int32) * (66 : Int32))).toNatClampNeg (FP.i2d (p2 >>> ((8 : Int32) &&& 31)))) := ⟨_, rfl⟩
  rw [← eu2074] at f2072 q2073
  have f2075 := f2068.wr W2071
  have Zn2076 := Nat.le_trans Zn2069 (Keep.of_wr W2071).1
  have N2077 := Fr.snoc X2071 N2070 g2060
  obtain ⟨T2078, h2078, X2078, e2078, W2078, st2078⟩ := own_sD X2071 hx hZ e2071 f2072 (j := ((p3 &&& (255 : Int32)) - (p3 &&& (255 : Int32)) / (66 : Int32) * (66 : Int32))) (own_c66 p3) (f := (mkF m 53 #[vI p0, vI p1, vI p2, vI p3, vI p4, vI p5, vR b2059, .unset, .unset, .unset, .unset, .unset] [(.double (FP.i2d (p3 >>> ((8 : Int32) &&& 31)))), (.int ((p3 &&& (255 : Int32)) - (p3 &&& (255 : Int32)) / (66 : Int32) * (66 : Int32))), (.ref b2059)])) rfl rfl (hb hby at_53)
  have f2079 : own_V Z h2078 b2059 .double 66 (fun ii => .double ((own_up u2074 (((p3 &&& (255 : Int32)) - (p3 &&& (255 : Int32)) / (66 : Int32) * (66 : Int32))).toNatClampNeg (FP.i2d (p3 >>> ((8 : Int32) &&& 31)))) ii)) := own_V.setD f2072 W2078
  have q2080 := own_upP (j := (((p3 &&& (255 : Int32)) - (p3 &&& (255 : Int32)) / (66 : Int32) * (66 : Int32))).toNatClampNeg) (x := (FP.i2d (p3 >>> ((8 : Int32) &&& 31)))) q2073 (Jvm.Free.Fl.i2d_fin _)
  obtain ⟨u2081, eu2081⟩ : ∃ z, z = (own_up u2074 (((p3 &&& (255 : Int32)) - (p3 &&& (255 : Int32)) / (66 : Int32) * (66 : Int32))).toNatClampNeg (FP.i2d (p3 >>> ((8 : Int32) &&& 31)))) := ⟨_, rfl⟩
  rw [← eu2081] at f2079 q2080
  have f2082 := f2075.wr W2078
  have Zn2083 := Nat.le_trans Zn2076 (Keep.of_wr W2078).1
  have N2084 := Fr.snoc X2078 N2077 g2060
  obtain ⟨T2085, h2085, X2085, e2085, W2085, st2085⟩ := own_sD X2078 hx hZ e2078 f2079 (j := ((p4 &&& (255 : Int32)) - (p4 &&& (255 : Int32)) / (66 : Int32) * (66 : Int32))) (own_c66 p4) (f := (mkF m 71 #[vI p0, vI p1, vI p2, vI p3, vI p4, vI p5, vR b2059, .unset, .unset, .unset, .unset, .unset] [(.double (FP.i2d (p4 >>> ((8 : Int32) &&& 31)))), (.int ((p4 &&& (255 : Int32)) - (p4 &&& (255 : Int32)) / (66 : Int32) * (66 : Int32))), (.ref b2059)])) rfl rfl (hb hby at_71)
  have f2086 : own_V Z h2085 b2059 .double 66 (fun ii => .double ((own_up u2081 (((p4 &&& (255 : Int32)) - (p4 &&& (255 : Int32)) / (66 : Int32) * (66 : Int32))).toNatClampNeg (FP.i2d (p4 >>> ((8 : Int32) &&& 31)))) ii)) := own_V.setD f2079 W2085
  have q2087 := own_upP (j := (((p4 &&& (255 : Int32)) - (p4 &&& (255 : Int32)) / (66 : Int32) * (66 : Int32))).toNatClampNeg) (x := (FP.i2d (p4 >>> ((8 : Int32) &&& 31)))) q2080 (Jvm.Free.Fl.i2d_fin _)
  obtain ⟨u2088, eu2088⟩ : ∃ z, z = (own_up u2081 (((p4 &&& (255 : Int32)) - (p4 &&& (255 : Int32)) / (66 : Int32) * (66 : Int32))).toNatClampNeg (FP.i2d (p4 >>> ((8 : Int32) &&& 31)))) := ⟨_, rfl⟩
  rw [← eu2088] at f2086 q2087
  have f2089 := f2082.wr W2085
  have Zn2090 := Nat.le_trans Zn2083 (Keep.of_wr W2085).1
  have N2091 := Fr.snoc X2085 N2084 g2060
  obtain ⟨T2092, h2092, X2092, e2092, W2092, st2092⟩ := own_sD X2085 hx hZ e2085 f2086 (j := ((p5 &&& (255 : Int32)) - (p5 &&& (255 : Int32)) / (66 : Int32) * (66 : Int32))) (own_c66 p5) (f := (mkF m 89 #[vI p0, vI p1, vI p2, vI p3, vI p4, vI p5, vR b2059, .unset, .unset, .unset, .unset, .unset] [(.double (FP.i2d (p5 >>> ((8 : Int32) &&& 31)))), (.int ((p5 &&& (255 : Int32)) - (p5 &&& (255 : Int32)) / (66 : Int32) * (66 : Int32))), (.ref b2059)])) rfl rfl (hb hby at_89)
  have f2093 : own_V Z h2092 b2059 .double 66 (fun ii => .double ((own_up u2088 (((p5 &&& (255 : Int32)) - (p5 &&& (255 : Int32)) / (66 : Int32) * (66 : Int32))).toNatClampNeg (FP.i2d (p5 >>> ((8 : Int32) &&& 31)))) ii)) := own_V.setD f2086 W2092
  have q2094 := own_upP (j := (((p5 &&& (255 : Int32)) - (p5 &&& (255 : Int32)) / (66 : Int32) * (66 : Int32))).toNatClampNeg) (x := (FP.i2d (p5 >>> ((8 : Int32) &&& 31)))) q2087 (Jvm.Free.Fl.i2d_fin _)
  obtain ⟨u2095, eu2095⟩ : ∃ z, z = (own_up u2088 (((p5 &&& (255 : Int32)) - (p5 &&& (255 : Int32)) / (66 : Int32) * (66 : Int32))).toNatClampNeg (FP.i2d (p5 >>> ((8 : Int32) &&& 31)))) := ⟨_, rfl⟩
  rw [← eu2095] at f2093 q2094
  have f2096 := f2089.wr W2092
  have Zn2097 := Nat.le_trans Zn2090 (Keep.of_wr W2092).1
  have N2098 := Fr.snoc X2092 N2091 g2060
  obtain ⟨T2099, h2099, X2099, e2099, E2099, A2099, C2099, st2099⟩ := own_newP X2092 hx hZ (wd hw 1 rfl) e2092 (f := (mkF m 92 #[vI p0, vI p1, vI p2, vI p3, vI p4, vI p5, vR b2059, .unset, .unset, .unset, .unset, .unset] [(.int (66 : Int32))])) rfl (hb hby at_92) rfl (by decide) (cap := 66) (by decide) (by decide) (by decide) (by decide)
  obtain ⟨b2099, g2099⟩ : ∃ z, z = h2092.size := ⟨_, rfl⟩
  rw [← g2099] at A2099 C2099 st2099
  have g2100 : n0 ≤ b2099 := Nat.le_trans Zn2097 (Nat.le_of_eq g2099.symm)
  have ne2101 : b2059 ≠ b2099 := Nat.ne_of_lt (Nat.lt_of_lt_of_le f2096.lt (Nat.le_of_eq g2099.symm))
  have f2102 := f2096.ext E2099
  have f2103 := f2093.ext E2099
  have Zn2104 := Nat.le_trans Zn2097 E2099.1
  have f2105 : own_V Z h2099 b2099 .int 66 (fun ii => (.int ((fun _ => (0 : Int32)) ii))) := A2099
  have f2106 : Exa Z h2099 b2099 "[I" := C2099
  have qr0 : ∀ ii : Nat, own_ix 66 ((fun _ => (0 : Int32)) ii) := fun _ => (by decide : own_ix 66 (0 : Int32))
  have RW0 : own_Rw Z h2099 b2099 := ⟨_, f2105, qr0⟩
  obtain ⟨T2143, lo2143, X2143, N2143, K2143, R2143, st2143⟩ := loopR0 hw hx hZ hby hml hown p0 p1 p2 p3 p4 p5 b2059 b2099 T2099 h2099 _ X2099 e2099 N2098 Zn2104 RW0 g2100
  have f2144 := f2102.keep K2143
  have f2145 := f2103.keep K2143 (ninS ne2101 nin0)
  have f2146 := f2106.keep K2143
  have Zn2147 := Nat.le_trans Zn2104 K2143.1
  obtain ⟨T2148, lo2148, X2148, N2148, K2148, R2148, st2148⟩ := loopR hw hx hZ hby hml hown b2099 g2100 #[vI p0, vI p1, vI p2, vI p3, vI p4, vI p5, vR b2059, .unset, .unset, .unset, .unset, .unset] 60 0 118 rfl rfl T2143 T2143.heap _ X2143 rfl N2143 R2143
  have f2149 := f2144.keep K2148
  have f2150 := f2145.keep K2148 (ninS ne2101 nin0)
  have f2151 := f2146.keep K2148
  have Zn2152 := Nat.le_trans Zn2147 K2148.1
  obtain ⟨fr0, Vr0, qr1⟩ := R2148
  obtain ⟨T2153, h2153, X2153, e2153, E2153, A2153, D2153, U2153, st2153⟩ := newO X2148 hx hZ hown (wd hw 2 rfl) (wd hw 3 rfl) (wd hw 4 rfl) rfl (g := (mkF m 480 #[vI p0, vI p1, vI p2, vI p3, vI p4, vI p5, vR b2059, vR b2099, .unset, .unset, .unset, .unset] [])) rfl (hb hby at_480) (by decide) (by decide)
  obtain ⟨b2153, g2153⟩ : ∃ z, z = T2148.heap.size := ⟨_, rfl⟩
  rw [← g2153] at A2153 D2153 st2153
  have g2154 : n0 ≤ b2153 := Nat.le_trans Zn2152 (Nat.le_of_eq g2153.symm)
  have ne2155 : b2059 ≠ b2153 := Nat.ne_of_lt (Nat.lt_of_lt_of_le f2149.lt (Nat.le_of_eq g2153.symm))
  have ne2156 : b2099 ≠ b2153 := Nat.ne_of_lt (Nat.lt_of_lt_of_le f2151.lt (Nat.le_of_eq g2153.symm))
  have f2157 := f2149.ext E2153
  have f2158 := f2150.ext E2153
  have f2159 := f2151.ext E2153
  have f2160 := Vr0.ext E2153
  have Zn2161 := Nat.le_trans Zn2152 E2153.1
  have f2162 : Fld Z h2153 b2153 "com/example/flatfinder/flatfinder/neighbours/Points" "size" "I" (.int (0 : Int32)) := D2153 (Or.inr (wd hw 21 rfl)) (ty := .int) (by decide)
  have f2163 : Fld Z h2153 b2153 "com/example/flatfinder/flatfinder/neighbours/Points" "dimensions" "I" (.int (0 : Int32)) := D2153 (Or.inr (wd hw 23 rfl)) (ty := .int) (by decide)
  have f2164 : Fld Z h2153 b2153 "com/example/flatfinder/flatfinder/neighbours/Points" "coordinates" "[D" .null := D2153 (Or.inr (wd hw 34 rfl)) (ty := (.array .double)) (by decide)
  obtain ⟨_, _, ⟨T2165, L2165, k2165, n2165⟩, -, X2165, ⟨Lc2165, hQ2165, l2165, y2165, z2165⟩, st2165⟩ := X2153.specialBack hx (y := (⟨"com/example/flatfinder/flatfinder/neighbours/Points", "<init>", "(I[D)V"⟩ : MethodName)) rfl hown (mvT hZ (wd hw 5 rfl)) (mvT hZ (wd hw 6 rfl)) (mvT hZ (wd hw 7 rfl)) (by decide) (backOf (W := 1) (rm1 l Z a0 hw [] b2153 b2059 u2095 h2153 n0 Zn2161 A2153 f2162 f2163 f2164 f2157 f2158 q2094 g2154 (Ne.symm ne2155)) hZ (wd hw 7 rfl) (wd hw 4 rfl) (by decide) (by decide)) (g := (mkF m 487 #[vI p0, vI p1, vI p2, vI p3, vI p4, vI p5, vR b2059, vR b2099, .unset, .unset, .unset, .unset] [(.ref b2059), (.int (1 : Int32)), (.ref b2153), (.ref b2153)])) rfl (by rw [hml]; rfl) (Steps.refl _) (a := b2153) (argsL := [(.int (1 : Int32)), (.ref b2059)]) (rest := [(.ref b2153)]) (lenOf pd__I_D_V rfl) rfl (by show 2 * 0 + _ ≤ _; exact Nat.le_of_eq rfl) (hb hby at_487) (fun _ _ => ⟨rfl, e2153, (by decide : 3 + 1 ≤ _), (by decide : 135 + 66 ≤ _)⟩)
  dsimp only [Pt.U, Pt.locs, Pt.cells, Pt.slots] at X2165 l2165 y2165 z2165 st2165 hQ2165
  subst l2165 y2165 z2165
  obtain ⟨rfl, N2165q, K2165, Fa2165, Fb2165, co2165, gc2165, zc2165, Fc2165, Vc2165⟩ := hQ2165
  have N2166 := Fr.app N2148 N2165q
  have f2167 := f2157.keep K2165
  have f2168 := f2158.keep K2165 (ninS ne2155 nin0)
  have f2169 := f2159.keep K2165
  have f2170 := f2160.keep K2165 (ninS ne2156 nin0)
  have f2171 := A2153.keep K2165
  have Zn2172 := Nat.le_trans Zn2161 K2165.1
  have npc : b2153 ≠ co2165 := Nat.ne_of_lt (Nat.lt_of_lt_of_le A2153.lt zc2165)
  obtain ⟨T2173, h2173, X2173, e2173, E2173, A2173, D2173, U2173, st2173⟩ := newO X2165 hx hZ hown (wd hw 35 rfl) (wd hw 36 rfl) (wd hw 37 rfl) rfl (g := (mkF m 492 #[vI p0, vI p1, vI p2, vI p3, vI p4, vI p5, vR b2059, vR b2099, vR b2153, .unset, .unset, .unset] [])) rfl (hb hby at_492) (by decide) (by decide)
  obtain ⟨b2173, g2173⟩ : ∃ z, z = T2165.heap.size := ⟨_, rfl⟩
  rw [← g2173] at A2173 D2173 st2173
  have g2174 : n0 ≤ b2173 := Nat.le_trans Zn2172 (Nat.le_of_eq g2173.symm)
  have ne2175 : b2059 ≠ b2173 := Nat.ne_of_lt (Nat.lt_of_lt_of_le f2167.lt (Nat.le_of_eq g2173.symm))
  have ne2176 : b2099 ≠ b2173 := Nat.ne_of_lt (Nat.lt_of_lt_of_le f2169.lt (Nat.le_of_eq g2173.symm))
  have ne2177 : b2153 ≠ b2173 := Nat.ne_of_lt (Nat.lt_of_lt_of_le f2171.lt (Nat.le_of_eq g2173.symm))
  have ne2178 : co2165 ≠ b2173 := Nat.ne_of_lt (Nat.lt_of_lt_of_le Vc2165.lt (Nat.le_of_eq g2173.symm))
  have f2179 := f2167.ext E2173
  have f2180 := f2168.ext E2173
  have f2181 := f2169.ext E2173
  have f2182 := f2170.ext E2173
  have f2183 := f2171.ext E2173
  have f2184 := Fa2165.ext E2173
  have f2185 := Fb2165.ext E2173
  have f2186 := Fc2165.ext E2173
  have f2187 := Vc2165.ext E2173
  have Zn2188 := Nat.le_trans Zn2172 E2173.1
  have f2189 : Fld Z h2173 b2173 "com/example/flatfinder/flatfinder/neighbours/KdTree" "points" "Lcom/example/flatfinder/flatfinder/neighbours/Points;" .null := D2173 (Or.inr (wd hw 48 rfl)) (ty := (.object "com/example/flatfinder/flatfinder/neighbours/Points")) (by decide)
  have f2190 : Fld Z h2173 b2173 "com/example/flatfinder/flatfinder/neighbours/KdTree" "rows" "[I" .null := D2173 (Or.inr (wd hw 56 rfl)) (ty := (.array .int)) (by decide)
  have f2191 : Fld Z h2173 b2173 "com/example/flatfinder/flatfinder/neighbours/KdTree" "first" "[I" .null := D2173 (Or.inr (wd hw 58 rfl)) (ty := (.array .int)) (by decide)
  have f2192 : Fld Z h2173 b2173 "com/example/flatfinder/flatfinder/neighbours/KdTree" "end" "[I" .null := D2173 (Or.inr (wd hw 60 rfl)) (ty := (.array .int)) (by decide)
  have f2193 : Fld Z h2173 b2173 "com/example/flatfinder/flatfinder/neighbours/KdTree" "upper" "[I" .null := D2173 (Or.inr (wd hw 62 rfl)) (ty := (.array .int)) (by decide)
  have f2194 : Fld Z h2173 b2173 "com/example/flatfinder/flatfinder/neighbours/KdTree" "low" "[D" .null := D2173 (Or.inr (wd hw 64 rfl)) (ty := (.array .double)) (by decide)
  have f2195 : Fld Z h2173 b2173 "com/example/flatfinder/flatfinder/neighbours/KdTree" "high" "[D" .null := D2173 (Or.inr (wd hw 66 rfl)) (ty := (.array .double)) (by decide)
  have f2196 : Fld Z h2173 b2173 "com/example/flatfinder/flatfinder/neighbours/KdTree" "boxes" "I" (.int (0 : Int32)) := D2173 (Or.inr (wd hw 119 rfl)) (ty := .int) (by decide)
  have f2197 : Fld Z h2173 b2173 "com/example/flatfinder/flatfinder/neighbours/KdTree" "depth" "I" (.int (0 : Int32)) := D2173 (Or.inr (wd hw 122 rfl)) (ty := .int) (by decide)
  have f2198 : Fld Z h2173 b2173 "com/example/flatfinder/flatfinder/neighbours/KdTree" "places" "[I" .null := D2173 (Or.inr (wd hw 129 rfl)) (ty := (.array .int)) (by decide)
  have f2199 : Fld Z h2173 b2173 "com/example/flatfinder/flatfinder/neighbours/KdTree" "ordered" "Lcom/example/flatfinder/flatfinder/neighbours/Points;" .null := D2173 (Or.inr (wd hw 138 rfl)) (ty := (.object "com/example/flatfinder/flatfinder/neighbours/Points")) (by decide)
  obtain ⟨_, _, ⟨T2200, L2200, k2200, n2200⟩, -, X2200, ⟨Lc2200, hQ2200, l2200, y2200, z2200⟩, st2200⟩ := X2173.specialBack hx (y := (⟨"com/example/flatfinder/flatfinder/neighbours/KdTree", "<init>", "(Lcom/example/flatfinder/flatfinder/neighbours/Points;[I)V"⟩ : MethodName)) rfl hown (mvT hZ (wd hw 38 rfl)) (mvT hZ (wd hw 39 rfl)) (mvT hZ (wd hw 40 rfl)) (by decide) (backOf (W := 1) (rm5 l Z a0 hw [] b2173 b2153 b2099 co2165 u2095 fr0 h2173 n0 Zn2188 A2173 f2189 f2190 f2191 f2192 f2193 f2194 f2195 f2196 f2197 f2199 f2198 f2183 f2184 f2185 f2186 f2187 q2094 f2181 f2182 qr1 g2174 (Ne.symm ne2177) (Ne.symm ne2178) (Ne.symm ne2176) npc) hZ (wd hw 40 rfl) (wd hw 37 rfl) (by decide) (by decide)) (g := (mkF m 500 #[vI p0, vI p1, vI p2, vI p3, vI p4, vI p5, vR b2059, vR b2099, vR b2153, .unset, .unset, .unset] [(.ref b2099), (.ref b2153), (.ref b2173), (.ref b2173)])) rfl (by rw [hml]; rfl) (Steps.refl _) (a := b2173) (argsL := [(.ref b2153), (.ref b2099)]) (rest := [(.ref b2173)]) (lenOf pd__Lcom_example_flatfinder_flatfinder_neighbours_Points__I_V rfl) rfl (by show 2 * 0 + _ ≤ _; exact Nat.le_of_eq rfl) (hb hby at_500) (fun _ _ => ⟨rfl, e2173, (by decide : 5 + 14 ≤ _), (by decide : 212 + 513 ≤ _)⟩)
  dsimp only [Pt.U, Pt.locs, Pt.cells, Pt.slots] at X2200 l2200 y2200 z2200 st2200 hQ2200
  subst l2200 y2200 z2200
  obtain ⟨rfl, N2200q, K2200, x1, x2, x3, nb, fF, fE, fU, rel, Gf, Ge, Gu, Gb, V1, V2, V3⟩ := hQ2200
  have N2201 := Fr.app N2166 N2200q
  have f2202 := f2179.keep K2200
  have f2203 := f2180.keep K2200 (ninS ne2175 nin0)
  have f2204 := f2181.keep K2200
  have f2205 := f2182.keep K2200 (ninS ne2176 nin0)
  have f2206 := f2183.keep K2200
  have f2207 := f2184.keep K2200 (ninS ne2177 nin0)
  have f2208 := f2185.keep K2200 (ninS ne2177 nin0)
  have f2209 := f2186.keep K2200 (ninS ne2177 nin0)
  have f2210 := f2187.keep K2200 (ninS ne2178 nin0)
  have f2211 := A2173.keep K2200
  have Zn2212 := Nat.le_trans Zn2188 K2200.1
  obtain ⟨r, hr1, hr2, hr3, hr4, hr5, hr6, hr7⟩ := own_leaf rel (own_m66 p0)
  obtain ⟨cq2213, kq2213, q2213a, q2213b, q2213c⟩ := isOf hZ rfl f2211
  obtain ⟨_, _, ⟨T2213, L2213, k2213, n2213⟩, -, X2213, ⟨Lc2213, hQ2213, l2213, y2213, z2213⟩, st2213⟩ := X2200.virtualBack hx (y := (⟨"com/example/flatfinder/flatfinder/neighbours/KdTree", "leafOf", "(I)I"⟩ : MethodName)) (z := (⟨"com/example/flatfinder/flatfinder/neighbours/KdTree", "leafOf", "(I)I"⟩ : MethodName)) hown (mvT hZ (wd hw 140 rfl)) (mvT hZ (wd hw 141 rfl)) (notFace_of_selects (args := #[]) (mvT hZ (wd hw 143 rfl))) (mvT hZ (wd hw 143 rfl)) (mvT hZ (wd hw 142 rfl)) (by decide) (backOf (W := 0) (rm17 l Z a0 hw [] b2173 ((p0 &&& (2147483647 : Int32)) - (p0 &&& (2147483647 : Int32)) / (66 : Int32) * (66 : Int32)) x2 x3 fE fU r T2200.heap n0 Zn2212 Ge Gu V2 V3 hr1) hZ (wd hw 144 rfl) (wd hw 37 rfl) (by decide) (by decide)) q2213a q2213c (g := (mkF m 518 #[vI p0, vI p1, vI p2, vI p3, vI p4, vI p5, vR b2059, vR b2099, vR b2153, vR b2173, vI ((p0 &&& (2147483647 : Int32)) - (p0 &&& (2147483647 : Int32)) / (66 : Int32) * (66 : Int32)), .unset] [(.int ((p0 &&& (2147483647 : Int32)) - (p0 &&& (2147483647 : Int32)) / (66 : Int32) * (66 : Int32))), (.ref b2173)])) rfl (by rw [hml]; rfl) (Steps.refl _) (argsL := [(.int ((p0 &&& (2147483647 : Int32)) - (p0 &&& (2147483647 : Int32)) / (66 : Int32) * (66 : Int32)))]) (rest := []) (lenOf pd__I_I rfl) rfl (by show 2 * 0 + _ ≤ _; exact Nat.le_of_eq rfl) (hb hby at_518) (fun _ _ => ⟨rfl, rfl, (by decide : 19 + 0 ≤ _), (by decide : 725 + 0 ≤ _)⟩)
  dsimp only [Pt.U, Pt.locs, Pt.cells, Pt.slots] at X2213 l2213 y2213 z2213 st2213 hQ2213
  subst l2213 y2213 z2213
  obtain ⟨rfl, N2213q, e2213⟩ := hQ2213
  have N2214 := Fr.app N2201 N2213q
  obtain ⟨cq2215, kq2215, q2215a, q2215b, q2215c⟩ := isOf hZ e2213 f2211
  obtain ⟨_, _, ⟨T2215, L2215, k2215, n2215⟩, -, X2215, ⟨Lc2215, hQ2215, l2215, y2215, z2215⟩, st2215⟩ := X2213.virtualBack hx (y := (⟨"com/example/flatfinder/flatfinder/neighbours/KdTree", "boxes", "()I"⟩ : MethodName)) (z := (⟨"com/example/flatfinder/flatfinder/neighbours/KdTree", "boxes", "()I"⟩ : MethodName)) hown (mvT hZ (wd hw 145 rfl)) (mvT hZ (wd hw 146 rfl)) (notFace_of_selects (args := #[]) (mvT hZ (wd hw 148 rfl))) (mvT hZ (wd hw 148 rfl)) (mvT hZ (wd hw 147 rfl)) (by decide) (backOf (W := 1) (rm18 l Z a0 hw [] b2173 nb T2200.heap n0 Zn2212 Gb) hZ (wd hw 149 rfl) (wd hw 37 rfl) (by decide) (by decide)) q2215a q2215c (g := (mkF m 532 #[vI p0, vI p1, vI p2, vI p3, vI p4, vI p5, vR b2059, vR b2099, vR b2153, vR b2173, vI ((p0 &&& (2147483647 : Int32)) - (p0 &&& (2147483647 : Int32)) / (66 : Int32) * (66 : Int32)), vI r] [(.ref b2173), (.int r)])) rfl (by rw [hml]; rfl) (Steps.refl _) (argsL := []) (rest := [(.int r)]) (lenOf pd___I rfl) rfl (by show 2 * 0 + _ ≤ _; exact Nat.le_of_eq rfl) (hb hby at_532) (fun _ _ => ⟨rfl, e2213, (by decide : 19 + 0 ≤ _), (by decide : 725 + 0 ≤ _)⟩)
  dsimp only [Pt.U, Pt.locs, Pt.cells, Pt.slots] at X2215 l2215 y2215 z2215 st2215 hQ2215
  subst l2215 y2215 z2215
  obtain ⟨rfl, N2215q, e2215⟩ := hQ2215
  have N2216 := Fr.app N2214 N2215q
  obtain ⟨cq2217, kq2217, q2217a, q2217b, q2217c⟩ := isOf hZ e2215 f2211
  obtain ⟨_, _, ⟨T2217, L2217, k2217, n2217⟩, -, X2217, ⟨Lc2217, hQ2217, l2217, y2217, z2217⟩, st2217⟩ := X2215.virtualBack hx (y := (⟨"com/example/flatfinder/flatfinder/neighbours/KdTree", "isSplit", "(I)Z"⟩ : MethodName)) (z := (⟨"com/example/flatfinder/flatfinder/neighbours/KdTree", "isSplit", "(I)Z"⟩ : MethodName)) hown (mvT hZ (wd hw 150 rfl)) (mvT hZ (wd hw 151 rfl)) (notFace_of_selects (args := #[]) (mvT hZ (wd hw 153 rfl))) (mvT hZ (wd hw 153 rfl)) (mvT hZ (wd hw 152 rfl)) (by decide) (backOf (W := 0) (rm19 l Z a0 hw [] b2173 r x3 fU T2200.heap n0 Zn2212 Gu V3 hr2) hZ (wd hw 154 rfl) (wd hw 37 rfl) (by decide) (by decide)) q2217a q2217c (g := (mkF m 542 #[vI p0, vI p1, vI p2, vI p3, vI p4, vI p5, vR b2059, vR b2099, vR b2153, vR b2173, vI ((p0 &&& (2147483647 : Int32)) - (p0 &&& (2147483647 : Int32)) / (66 : Int32) * (66 : Int32)), vI r] [(.int r), (.ref b2173)])) rfl (by rw [hml]; rfl) (Steps.refl _) (argsL := [(.int r)]) (rest := []) (lenOf pd__I_Z rfl) rfl (by show 2 * 0 + _ ≤ _; exact Nat.le_of_eq rfl) (hb hby at_542) (fun _ _ => ⟨rfl, e2215, (by decide : 19 + 0 ≤ _), (by decide : 725 + 0 ≤ _)⟩)
  dsimp only [Pt.U, Pt.locs, Pt.cells, Pt.slots] at X2217 l2217 y2217 z2217 st2217 hQ2217
  subst l2217 y2217 z2217
  obtain ⟨rfl, N2217q, e2217⟩ := hQ2217
  have N2218 := Fr.app N2216 N2217q
  obtain ⟨cq2219, kq2219, q2219a, q2219b, q2219c⟩ := isOf hZ e2217 f2211
  obtain ⟨_, _, ⟨T2219, L2219, k2219, n2219⟩, -, X2219, ⟨Lc2219, hQ2219, l2219, y2219, z2219⟩, st2219⟩ := X2217.virtualBack hx (y := (⟨"com/example/flatfinder/flatfinder/neighbours/KdTree", "first", "(I)I"⟩ : MethodName)) (z := (⟨"com/example/flatfinder/flatfinder/neighbours/KdTree", "first", "(I)I"⟩ : MethodName)) hown (mvT hZ (wd hw 155 rfl)) (mvT hZ (wd hw 156 rfl)) (notFace_of_selects (args := #[]) (mvT hZ (wd hw 158 rfl))) (mvT hZ (wd hw 158 rfl)) (mvT hZ (wd hw 157 rfl)) (by decide) (backOf (W := 0) (rm20 l Z a0 hw [] b2173 r x1 fF T2200.heap n0 Zn2212 Gf V1 hr2) hZ (wd hw 159 rfl) (wd hw 37 rfl) (by decide) (by decide)) q2219a q2219c (g := (mkF m 552 #[vI p0, vI p1, vI p2, vI p3, vI p4, vI p5, vR b2059, vR b2099, vR b2153, vR b2173, vI ((p0 &&& (2147483647 : Int32)) - (p0 &&& (2147483647 : Int32)) / (66 : Int32) * (66 : Int32)), vI r] [(.int r), (.ref b2173)])) rfl (by rw [hml]; rfl) (Steps.refl _) (argsL := [(.int r)]) (rest := []) (lenOf pd__I_I rfl) rfl (by show 2 * 0 + _ ≤ _; exact Nat.le_of_eq rfl) (hb hby at_552) (fun _ _ => ⟨rfl, e2217, (by decide : 19 + 0 ≤ _), (by decide : 725 + 0 ≤ _)⟩)
  dsimp only [Pt.U, Pt.locs, Pt.cells, Pt.slots] at X2219 l2219 y2219 z2219 st2219 hQ2219
  subst l2219 y2219 z2219
  obtain ⟨rfl, N2219q, e2219⟩ := hQ2219
  have N2220 := Fr.app N2218 N2219q
  obtain ⟨cq2221, kq2221, q2221a, q2221b, q2221c⟩ := isOf hZ e2219 f2211
  obtain ⟨_, _, ⟨T2221, L2221, k2221, n2221⟩, -, X2221, ⟨Lc2221, hQ2221, l2221, y2221, z2221⟩, st2221⟩ := X2219.virtualBack hx (y := (⟨"com/example/flatfinder/flatfinder/neighbours/KdTree", "end", "(I)I"⟩ : MethodName)) (z := (⟨"com/example/flatfinder/flatfinder/neighbours/KdTree", "end", "(I)I"⟩ : MethodName)) hown (mvT hZ (wd hw 160 rfl)) (mvT hZ (wd hw 161 rfl)) (notFace_of_selects (args := #[]) (mvT hZ (wd hw 163 rfl))) (mvT hZ (wd hw 163 rfl)) (mvT hZ (wd hw 162 rfl)) (by decide) (backOf (W := 1) (rm21 l Z a0 hw [] b2173 r x2 fE T2200.heap n0 Zn2212 Ge V2 hr2) hZ (wd hw 164 rfl) (wd hw 37 rfl) (by decide) (by decide)) q2221a q2221c (g := (mkF m 566 #[vI p0, vI p1, vI p2, vI p3, vI p4, vI p5, vR b2059, vR b2099, vR b2153, vR b2173, vI ((p0 &&& (2147483647 : Int32)) - (p0 &&& (2147483647 : Int32)) / (66 : Int32) * (66 : Int32)), vI r] [(.int r), (.ref b2173), (.int ((p0 &&& (2147483647 : Int32)) - (p0 &&& (2147483647 : Int32)) / (66 : Int32) * (66 : Int32)))])) rfl (by rw [hml]; rfl) (Steps.refl _) (argsL := [(.int r)]) (rest := [(.int ((p0 &&& (2147483647 : Int32)) - (p0 &&& (2147483647 : Int32)) / (66 : Int32) * (66 : Int32)))]) (lenOf pd__I_I rfl) rfl (by show 2 * 0 + _ ≤ _; exact Nat.le_of_eq rfl) (hb hby at_566) (fun _ _ => ⟨rfl, e2219, (by decide : 19 + 0 ≤ _), (by decide : 725 + 0 ≤ _)⟩)
  dsimp only [Pt.U, Pt.locs, Pt.cells, Pt.slots] at X2221 l2221 y2221 z2221 st2221 hQ2221
  subst l2221 y2221 z2221
  obtain ⟨rfl, N2221q, e2221⟩ := hQ2221
  have N2222 := Fr.app N2220 N2221q
  obtain ⟨fs, hr, hrun, hended, hW, hsame⟩ := X2221.leave (v := some (.int (1 : Int32))) (fun h => by rw [Bd.returns] at h; cases h)
  refine ⟨_, _, pre0 _ ?_, hrun, hended, _, _, rfl, ?_, ⟨_, rfl⟩, hW, hsame.mono (by decide) (by decide)⟩
  · show Steps p.tables e below (s₁.setTop (mkF m 0 #[vI p0, vI p1, vI p2, vI p3, vI p4, vI p5, .unset, .unset, .unset, .unset, .unset, .unset] [])) _
    refine XS.bipush X0.here hx rfl (hb hby at_0) ?_
    show Steps p.tables e below (s₁.setTop (mkF m 2 #[vI p0, vI p1, vI p2, vI p3, vI p4, vI p5, .unset, .unset, .unset, .unset, .unset, .unset] [(.int (66 : Int32))])) _
    refine st2059 _ ?_
    show Steps p.tables e below (T2059.setTop (mkF m 4 #[vI p0, vI p1, vI p2, vI p3, vI p4, vI p5, .unset, .unset, .unset, .unset, .unset, .unset] [(.ref b2059)])) _
    refine XS.astore X2059.here hx rfl (hb hby at_4) rfl rfl (l' := #[vI p0, vI p1, vI p2, vI p3, vI p4, vI p5, vR b2059, .unset, .unset, .unset, .unset, .unset]) rfl ?_
    refine XS.aload X2059.here hx rfl (hb hby at_6) rfl rfl ?_
    refine XS.iloadN X2059.here hx rfl (hb hby at_8) rfl ?_
    refine XS.sipush X2059.here hx rfl (hb hby at_9) ?_
    refine XS.iand X2059.here hx rfl (hb hby at_12) rfl ?_
    refine XS.bipush X2059.here hx rfl (hb hby at_13) ?_
    refine XS.irem X2059.here hx rfl (hb hby at_15) rfl (by decide) ?_
    show Steps p.tables e below (T2059.setTop (mkF m 16 #[vI p0, vI p1, vI p2, vI p3, vI p4, vI p5, vR b2059, .unset, .unset, .unset, .unset, .unset] [(.int ((p1 &&& (255 : Int32)) - (p1 &&& (255 : Int32)) / (66 : Int32) * (66 : Int32))), (.ref b2059)])) _
    refine XS.iloadN X2059.here hx rfl (hb hby at_16) rfl ?_
    refine XS.bipush X2059.here hx rfl (hb hby at_17) ?_
    refine XS.ishr X2059.here hx rfl (hb hby at_19) rfl ?_
    show Steps p.tables e below (T2059.setTop (mkF m 20 #[vI p0, vI p1, vI p2, vI p3, vI p4, vI p5, vR b2059, .unset, .unset, .unset, .unset, .unset] [(.int (p1 >>> ((8 : Int32) &&& 31))), (.int ((p1 &&& (255 : Int32)) - (p1 &&& (255 : Int32)) / (66 : Int32) * (66 : Int32))), (.ref b2059)])) _
    refine own_si2d X2059.here hx (hb hby at_20) ?_
    show Steps p.tables e below (T2059.setTop (mkF m 21 #[vI p0, vI p1, vI p2, vI p3, vI p4, vI p5, vR b2059, .unset, .unset, .unset, .unset, .unset] [(.double (FP.i2d (p1 >>> ((8 : Int32) &&& 31)))), (.int ((p1 &&& (255 : Int32)) - (p1 &&& (255 : Int32)) / (66 : Int32) * (66 : Int32))), (.ref b2059)])) _
    refine st2064 _ ?_
    show Steps p.tables e below (T2064.setTop (mkF m 22 #[vI p0, vI p1, vI p2, vI p3, vI p4, vI p5, vR b2059, .unset, .unset, .unset, .unset, .unset] [])) _
    refine XS.aload X2064.here hx rfl (hb hby at_22) rfl rfl ?_
    refine XS.iloadN X2064.here hx rfl (hb hby at_24) rfl ?_
    refine XS.sipush X2064.here hx rfl (hb hby at_25) ?_
    refine XS.iand X2064.here hx rfl (hb hby at_28) rfl ?_
    refine XS.bipush X2064.here hx rfl (hb hby at_29) ?_
    refine XS.irem X2064.here hx rfl (hb hby at_31) rfl (by decide) ?_
    refine XS.iloadN X2064.here hx rfl (hb hby at_32) rfl ?_
    show Steps p.tables e below (T2064.setTop (mkF m 33 #[vI p0, vI p1, vI p2, vI p3, vI p4, vI p5, vR b2059, .unset, .unset, .unset, .unset, .unset] [(.int p2), (.int ((p2 &&& (255 : Int32)) - (p2 &&& (255 : Int32)) / (66 : Int32) * (66 : Int32))), (.ref b2059)])) _
    refine XS.bipush X2064.here hx rfl (hb hby at_33) ?_
    refine XS.ishr X2064.here hx rfl (hb hby at_35) rfl ?_
    show Steps p.tables e below (T2064.setTop (mkF m 36 #[vI p0, vI p1, vI p2, vI p3, vI p4, vI p5, vR b2059, .unset, .unset, .unset, .unset, .unset] [(.int (p2 >>> ((8 : Int32) &&& 31))), (.int ((p2 &&& (255 : Int32)) - (p2 &&& (255 : Int32)) / (66 : Int32) * (66 : Int32))), (.ref b2059)])) _
    refine own_si2d X2064.here hx (hb hby at_36) ?_
    show Steps p.tables e below (T2064.setTop (mkF m 37 #[vI p0, vI p1, vI p2, vI p3, vI p4, vI p5, vR b2059, .unset, .unset, .unset, .unset, .unset] [(.double (FP.i2d (p2 >>> ((8 : Int32) &&& 31)))), (.int ((p2 &&& (255 : Int32)) - (p2 &&& (255 : Int32)) / (66 : Int32) * (66 : Int32))), (.ref b2059)])) _
    refine st2071 _ ?_
    show Steps p.tables e below (T2071.setTop (mkF m 38 #[vI p0, vI p1, vI p2, vI p3, vI p4, vI p5, vR b2059, .unset, .unset, .unset, .unset, .unset] [])) _
    refine XS.aload X2071.here hx rfl (hb hby at_38) rfl rfl ?_
    refine XS.iloadN X2071.here hx rfl (hb hby at_40) rfl ?_
    refine XS.sipush X2071.here hx rfl (hb hby at_41) ?_
    refine XS.iand X2071.here hx rfl (hb hby at_44) rfl ?_
    refine XS.bipush X2071.here hx rfl (hb hby at_45) ?_
    refine XS.irem X2071.here hx rfl (hb hby at_47) rfl (by decide) ?_
    refine XS.iloadN X2071.here hx rfl (hb hby at_48) rfl ?_
    show Steps p.tables e below (T2071.setTop (mkF m 49 #[vI p0, vI p1, vI p2, vI p3, vI p4, vI p5, vR b2059, .unset, .unset, .unset, .unset, .unset] [(.int p3), (.int ((p3 &&& (255 : Int32)) - (p3 &&& (255 : Int32)) / (66 : Int32) * (66 : Int32))), (.ref b2059)])) _
    refine XS.bipush X2071.here hx rfl (hb hby at_49) ?_
    refine XS.ishr X2071.here hx rfl (hb hby at_51) rfl ?_
    show Steps p.tables e below (T2071.setTop (mkF m 52 #[vI p0, vI p1, vI p2, vI p3, vI p4, vI p5, vR b2059, .unset, .unset, .unset, .unset, .unset] [(.int (p3 >>> ((8 : Int32) &&& 31))), (.int ((p3 &&& (255 : Int32)) - (p3 &&& (255 : Int32)) / (66 : Int32) * (66 : Int32))), (.ref b2059)])) _
    refine own_si2d X2071.here hx (hb hby at_52) ?_
    show Steps p.tables e below (T2071.setTop (mkF m 53 #[vI p0, vI p1, vI p2, vI p3, vI p4, vI p5, vR b2059, .unset, .unset, .unset, .unset, .unset] [(.double (FP.i2d (p3 >>> ((8 : Int32) &&& 31)))), (.int ((p3 &&& (255 : Int32)) - (p3 &&& (255 : Int32)) / (66 : Int32) * (66 : Int32))), (.ref b2059)])) _
    refine st2078 _ ?_
    show Steps p.tables e below (T2078.setTop (mkF m 54 #[vI p0, vI p1, vI p2, vI p3, vI p4, vI p5, vR b2059, .unset, .unset, .unset, .unset, .unset] [])) _
    refine XS.aload X2078.here hx rfl (hb hby at_54) rfl rfl ?_
    refine XS.iload X2078.here hx rfl (hb hby at_56) rfl ?_
    refine XS.sipush X2078.here hx rfl (hb hby at_58) ?_
    refine XS.iand X2078.here hx rfl (hb hby at_61) rfl ?_
    refine XS.bipush X2078.here hx rfl (hb hby at_62) ?_
    refine XS.irem X2078.here hx rfl (hb hby at_64) rfl (by decide) ?_
    refine XS.iload X2078.here hx rfl (hb hby at_65) rfl ?_
    show Steps p.tables e below (T2078.setTop (mkF m 67 #[vI p0, vI p1, vI p2, vI p3, vI p4, vI p5, vR b2059, .unset, .unset, .unset, .unset, .unset] [(.int p4), (.int ((p4 &&& (255 : Int32)) - (p4 &&& (255 : Int32)) / (66 : Int32) * (66 : Int32))), (.ref b2059)])) _
    refine XS.bipush X2078.here hx rfl (hb hby at_67) ?_
    refine XS.ishr X2078.here hx rfl (hb hby at_69) rfl ?_
    show Steps p.tables e below (T2078.setTop (mkF m 70 #[vI p0, vI p1, vI p2, vI p3, vI p4, vI p5, vR b2059, .unset, .unset, .unset, .unset, .unset] [(.int (p4 >>> ((8 : Int32) &&& 31))), (.int ((p4 &&& (255 : Int32)) - (p4 &&& (255 : Int32)) / (66 : Int32) * (66 : Int32))), (.ref b2059)])) _
    refine own_si2d X2078.here hx (hb hby at_70) ?_
    show Steps p.tables e below (T2078.setTop (mkF m 71 #[vI p0, vI p1, vI p2, vI p3, vI p4, vI p5, vR b2059, .unset, .unset, .unset, .unset, .unset] [(.double (FP.i2d (p4 >>> ((8 : Int32) &&& 31)))), (.int ((p4 &&& (255 : Int32)) - (p4 &&& (255 : Int32)) / (66 : Int32) * (66 : Int32))), (.ref b2059)])) _
    refine st2085 _ ?_
    show Steps p.tables e below (T2085.setTop (mkF m 72 #[vI p0, vI p1, vI p2, vI p3, vI p4, vI p5, vR b2059, .unset, .unset, .unset, .unset, .unset] [])) _
    refine XS.aload X2085.here hx rfl (hb hby at_72) rfl rfl ?_
    refine XS.iload X2085.here hx rfl (hb hby at_74) rfl ?_
    refine XS.sipush X2085.here hx rfl (hb hby at_76) ?_
    refine XS.iand X2085.here hx rfl (hb hby at_79) rfl ?_
    refine XS.bipush X2085.here hx rfl (hb hby at_80) ?_
    refine XS.irem X2085.here hx rfl (hb hby at_82) rfl (by decide) ?_
    refine XS.iload X2085.here hx rfl (hb hby at_83) rfl ?_
    show Steps p.tables e below (T2085.setTop (mkF m 85 #[vI p0, vI p1, vI p2, vI p3, vI p4, vI p5, vR b2059, .unset, .unset, .unset, .unset, .unset] [(.int p5), (.int ((p5 &&& (255 : Int32)) - (p5 &&& (255 : Int32)) / (66 : Int32) * (66 : Int32))), (.ref b2059)])) _
    refine XS.bipush X2085.here hx rfl (hb hby at_85) ?_
    refine XS.ishr X2085.here hx rfl (hb hby at_87) rfl ?_
    show Steps p.tables e below (T2085.setTop (mkF m 88 #[vI p0, vI p1, vI p2, vI p3, vI p4, vI p5, vR b2059, .unset, .unset, .unset, .unset, .unset] [(.int (p5 >>> ((8 : Int32) &&& 31))), (.int ((p5 &&& (255 : Int32)) - (p5 &&& (255 : Int32)) / (66 : Int32) * (66 : Int32))), (.ref b2059)])) _
    refine own_si2d X2085.here hx (hb hby at_88) ?_
    show Steps p.tables e below (T2085.setTop (mkF m 89 #[vI p0, vI p1, vI p2, vI p3, vI p4, vI p5, vR b2059, .unset, .unset, .unset, .unset, .unset] [(.double (FP.i2d (p5 >>> ((8 : Int32) &&& 31)))), (.int ((p5 &&& (255 : Int32)) - (p5 &&& (255 : Int32)) / (66 : Int32) * (66 : Int32))), (.ref b2059)])) _
    refine st2092 _ ?_
    show Steps p.tables e below (T2092.setTop (mkF m 90 #[vI p0, vI p1, vI p2, vI p3, vI p4, vI p5, vR b2059, .unset, .unset, .unset, .unset, .unset] [])) _
    refine XS.bipush X2092.here hx rfl (hb hby at_90) ?_
    show Steps p.tables e below (T2092.setTop (mkF m 92 #[vI p0, vI p1, vI p2, vI p3, vI p4, vI p5, vR b2059, .unset, .unset, .unset, .unset, .unset] [(.int (66 : Int32))])) _
    refine st2099 _ ?_
    show Steps p.tables e below (T2099.setTop (mkF m 94 #[vI p0, vI p1, vI p2, vI p3, vI p4, vI p5, vR b2059, .unset, .unset, .unset, .unset, .unset] [(.ref b2099)])) _
    refine st2143 _ ?_
    show Steps p.tables e below (T2143.setTop (mkF m 118 #[vI p0, vI p1, vI p2, vI p3, vI p4, vI p5, vR b2059, .unset, .unset, .unset, .unset, .unset] [(.ref b2099)])) _
    refine st2148 _ ?_
    show Steps p.tables e below (T2148.setTop (mkF m 478 #[vI p0, vI p1, vI p2, vI p3, vI p4, vI p5, vR b2059, .unset, .unset, .unset, .unset, .unset] [(.ref b2099)])) _
    refine XS.astore X2148.here hx rfl (hb hby at_478) rfl rfl (l' := #[vI p0, vI p1, vI p2, vI p3, vI p4, vI p5, vR b2059, vR b2099, .unset, .unset, .unset, .unset]) rfl ?_
    show Steps p.tables e below (T2148.setTop (mkF m 480 #[vI p0, vI p1, vI p2, vI p3, vI p4, vI p5, vR b2059, vR b2099, .unset, .unset, .unset, .unset] [])) _
    refine st2153 _ ?_
    show Steps p.tables e below (T2153.setTop (mkF m 483 #[vI p0, vI p1, vI p2, vI p3, vI p4, vI p5, vR b2059, vR b2099, .unset, .unset, .unset, .unset] [(.ref b2153)])) _
    refine XS.dup X2153.here hx rfl (hb hby at_483) rfl rfl ?_
    refine XS.iconst X2153.here hx rfl (hb hby at_484) ?_
    refine XS.aload X2153.here hx rfl (hb hby at_485) rfl rfl ?_
    show Steps p.tables e below (T2153.setTop (mkF m 487 #[vI p0, vI p1, vI p2, vI p3, vI p4, vI p5, vR b2059, vR b2099, .unset, .unset, .unset, .unset] [(.ref b2059), (.int (1 : Int32)), (.ref b2153), (.ref b2153)])) _
    refine st2165.trans ?_
    show Steps p.tables e below (T2165.setTop (mkF m 490 #[vI p0, vI p1, vI p2, vI p3, vI p4, vI p5, vR b2059, vR b2099, .unset, .unset, .unset, .unset] [(.ref b2153)])) _
    refine XS.astore X2165.here hx rfl (hb hby at_490) rfl rfl (l' := #[vI p0, vI p1, vI p2, vI p3, vI p4, vI p5, vR b2059, vR b2099, vR b2153, .unset, .unset, .unset]) rfl ?_
    show Steps p.tables e below (T2165.setTop (mkF m 492 #[vI p0, vI p1, vI p2, vI p3, vI p4, vI p5, vR b2059, vR b2099, vR b2153, .unset, .unset, .unset] [])) _
    refine st2173 _ ?_
    show Steps p.tables e below (T2173.setTop (mkF m 495 #[vI p0, vI p1, vI p2, vI p3, vI p4, vI p5, vR b2059, vR b2099, vR b2153, .unset, .unset, .unset] [(.ref b2173)])) _
    refine XS.dup X2173.here hx rfl (hb hby at_495) rfl rfl ?_
    refine XS.aload X2173.here hx rfl (hb hby at_496) rfl rfl ?_
    refine XS.aload X2173.here hx rfl (hb hby at_498) rfl rfl ?_
    show Steps p.tables e below (T2173.setTop (mkF m 500 #[vI p0, vI p1, vI p2, vI p3, vI p4, vI p5, vR b2059, vR b2099, vR b2153, .unset, .unset, .unset] [(.ref b2099), (.ref b2153), (.ref b2173), (.ref b2173)])) _
    refine st2200.trans ?_
    show Steps p.tables e below (T2200.setTop (mkF m 503 #[vI p0, vI p1, vI p2, vI p3, vI p4, vI p5, vR b2059, vR b2099, vR b2153, .unset, .unset, .unset] [(.ref b2173)])) _
    refine XS.astore X2200.here hx rfl (hb hby at_503) rfl rfl (l' := #[vI p0, vI p1, vI p2, vI p3, vI p4, vI p5, vR b2059, vR b2099, vR b2153, vR b2173, .unset, .unset]) rfl ?_
    refine XS.iloadN X2200.here hx rfl (hb hby at_505) rfl ?_
    show Steps p.tables e below (T2200.setTop (mkF m 506 #[vI p0, vI p1, vI p2, vI p3, vI p4, vI p5, vR b2059, vR b2099, vR b2153, vR b2173, .unset, .unset] [(.int p0)])) _
    refine X2200.ldcInt hx hown (mvT hZ (wd hw 139 rfl)) (g := (mkF m 506 #[vI p0, vI p1, vI p2, vI p3, vI p4, vI p5, vR b2059, vR b2099, vR b2153, vR b2173, .unset, .unset] [(.int p0)])) rfl (hb hby at_506) _ ?_
    show Steps p.tables e below (T2200.setTop (mkF m 508 #[vI p0, vI p1, vI p2, vI p3, vI p4, vI p5, vR b2059, vR b2099, vR b2153, vR b2173, .unset, .unset] [(.int (2147483647 : Int32)), (.int p0)])) _
    refine XS.iand X2200.here hx rfl (hb hby at_508) rfl ?_
    refine XS.bipush X2200.here hx rfl (hb hby at_509) ?_
    refine XS.irem X2200.here hx rfl (hb hby at_511) rfl (by decide) ?_
    refine XS.istore X2200.here hx rfl (hb hby at_512) rfl (l' := #[vI p0, vI p1, vI p2, vI p3, vI p4, vI p5, vR b2059, vR b2099, vR b2153, vR b2173, vI ((p0 &&& (2147483647 : Int32)) - (p0 &&& (2147483647 : Int32)) / (66 : Int32) * (66 : Int32)), .unset]) rfl ?_
    refine XS.aload X2200.here hx rfl (hb hby at_514) rfl rfl ?_
    refine XS.iload X2200.here hx rfl (hb hby at_516) rfl ?_
    show Steps p.tables e below (T2200.setTop (mkF m 518 #[vI p0, vI p1, vI p2, vI p3, vI p4, vI p5, vR b2059, vR b2099, vR b2153, vR b2173, vI ((p0 &&& (2147483647 : Int32)) - (p0 &&& (2147483647 : Int32)) / (66 : Int32) * (66 : Int32)), .unset] [(.int ((p0 &&& (2147483647 : Int32)) - (p0 &&& (2147483647 : Int32)) / (66 : Int32) * (66 : Int32))), (.ref b2173)])) _
    refine st2213.trans ?_
    show Steps p.tables e below (T2213.setTop (mkF m 521 #[vI p0, vI p1, vI p2, vI p3, vI p4, vI p5, vR b2059, vR b2099, vR b2153, vR b2173, vI ((p0 &&& (2147483647 : Int32)) - (p0 &&& (2147483647 : Int32)) / (66 : Int32) * (66 : Int32)), .unset] [(.int r)])) _
    refine XS.istore X2213.here hx rfl (hb hby at_521) rfl (l' := #[vI p0, vI p1, vI p2, vI p3, vI p4, vI p5, vR b2059, vR b2099, vR b2153, vR b2173, vI ((p0 &&& (2147483647 : Int32)) - (p0 &&& (2147483647 : Int32)) / (66 : Int32) * (66 : Int32)), vI r]) rfl ?_
    refine XS.iload X2213.here hx rfl (hb hby at_523) rfl ?_
    refine XS.ifNo X2213.here hx rfl (hb hby at_525) rfl ((if0 _ _).trans (flt hr3).1) ?_
    refine XS.iload X2213.here hx rfl (hb hby at_528) rfl ?_
    refine XS.aload X2213.here hx rfl (hb hby at_530) rfl rfl ?_
    show Steps p.tables e below (T2213.setTop (mkF m 532 #[vI p0, vI p1, vI p2, vI p3, vI p4, vI p5, vR b2059, vR b2099, vR b2153, vR b2173, vI ((p0 &&& (2147483647 : Int32)) - (p0 &&& (2147483647 : Int32)) / (66 : Int32) * (66 : Int32)), vI r] [(.ref b2173), (.int r)])) _
    refine st2215.trans ?_
    show Steps p.tables e below (T2215.setTop (mkF m 535 #[vI p0, vI p1, vI p2, vI p3, vI p4, vI p5, vR b2059, vR b2099, vR b2153, vR b2173, vI ((p0 &&& (2147483647 : Int32)) - (p0 &&& (2147483647 : Int32)) / (66 : Int32) * (66 : Int32)), vI r] [(.int nb), (.int r)])) _
    refine XS.icmpNo X2215.here hx rfl (hb hby at_535) rfl (tlt hr4).2.1 ?_
    refine XS.aload X2215.here hx rfl (hb hby at_538) rfl rfl ?_
    refine XS.iload X2215.here hx rfl (hb hby at_540) rfl ?_
    show Steps p.tables e below (T2215.setTop (mkF m 542 #[vI p0, vI p1, vI p2, vI p3, vI p4, vI p5, vR b2059, vR b2099, vR b2153, vR b2173, vI ((p0 &&& (2147483647 : Int32)) - (p0 &&& (2147483647 : Int32)) / (66 : Int32) * (66 : Int32)), vI r] [(.int r), (.ref b2173)])) _
    refine st2217.trans ?_
    show Steps p.tables e below (T2217.setTop (mkF m 545 #[vI p0, vI p1, vI p2, vI p3, vI p4, vI p5, vR b2059, vR b2099, vR b2153, vR b2173, vI ((p0 &&& (2147483647 : Int32)) - (p0 &&& (2147483647 : Int32)) / (66 : Int32) * (66 : Int32)), vI r] [(.int (if fU r.toNatClampNeg < (0 : Int32) then (0 : Int32) else (1 : Int32)))])) _
    refine XS.ifNo X2217.here hx rfl (hb hby at_545) rfl ((if0 _ _).trans (teq (if_pos hr5)).2) ?_
    refine XS.aload X2217.here hx rfl (hb hby at_548) rfl rfl ?_
    refine XS.iload X2217.here hx rfl (hb hby at_550) rfl ?_
    show Steps p.tables e below (T2217.setTop (mkF m 552 #[vI p0, vI p1, vI p2, vI p3, vI p4, vI p5, vR b2059, vR b2099, vR b2153, vR b2173, vI ((p0 &&& (2147483647 : Int32)) - (p0 &&& (2147483647 : Int32)) / (66 : Int32) * (66 : Int32)), vI r] [(.int r), (.ref b2173)])) _
    refine st2219.trans ?_
    show Steps p.tables e below (T2219.setTop (mkF m 555 #[vI p0, vI p1, vI p2, vI p3, vI p4, vI p5, vR b2059, vR b2099, vR b2153, vR b2173, vI ((p0 &&& (2147483647 : Int32)) - (p0 &&& (2147483647 : Int32)) / (66 : Int32) * (66 : Int32)), vI r] [(.int (fF r.toNatClampNeg))])) _
    refine XS.iload X2219.here hx rfl (hb hby at_555) rfl ?_
    refine XS.icmpNo X2219.here hx rfl (hb hby at_557) rfl (flt hr6).2.2.1 ?_
    refine XS.iload X2219.here hx rfl (hb hby at_560) rfl ?_
    refine XS.aload X2219.here hx rfl (hb hby at_562) rfl rfl ?_
    refine XS.iload X2219.here hx rfl (hb hby at_564) rfl ?_
    show Steps p.tables e below (T2219.setTop (mkF m 566 #[vI p0, vI p1, vI p2, vI p3, vI p4, vI p5, vR b2059, vR b2099, vR b2153, vR b2173, vI ((p0 &&& (2147483647 : Int32)) - (p0 &&& (2147483647 : Int32)) / (66 : Int32) * (66 : Int32)), vI r] [(.int r), (.ref b2173), (.int ((p0 &&& (2147483647 : Int32)) - (p0 &&& (2147483647 : Int32)) / (66 : Int32) * (66 : Int32)))])) _
    refine st2221.trans ?_
    show Steps p.tables e below (T2221.setTop (mkF m 569 #[vI p0, vI p1, vI p2, vI p3, vI p4, vI p5, vR b2059, vR b2099, vR b2153, vR b2173, vI ((p0 &&& (2147483647 : Int32)) - (p0 &&& (2147483647 : Int32)) / (66 : Int32) * (66 : Int32)), vI r] [(.int (fE r.toNatClampNeg)), (.int ((p0 &&& (2147483647 : Int32)) - (p0 &&& (2147483647 : Int32)) / (66 : Int32) * (66 : Int32)))])) _
    refine XS.icmpNo X2221.here hx rfl (hb hby at_569) rfl (tlt hr7).2.1 ?_
    refine XS.iconst X2221.here hx rfl (hb hby at_572) ?_
    refine XS.goto X2221.here hx rfl (pc0 := 573) (pc' := 577) rfl (hb hby at_573) (by decide) (by decide) ?_
    show Steps p.tables e below (T2221.setTop (mkF m 577 #[vI p0, vI p1, vI p2, vI p3, vI p4, vI p5, vR b2059, vR b2099, vR b2153, vR b2173, vI ((p0 &&& (2147483647 : Int32)) - (p0 &&& (2147483647 : Int32)) / (66 : Int32) * (66 : Int32)), vI r] [(.int (1 : Int32))])) _
    exact retN X2221 hx (t := .boolean) Bd.returns (by simp) (hb hby at_577) hr
  · show Qrm0 Z p0 p1 p2 p3 p4 p5 h0 n0 _ T2221.heap _
    rw [e2221]
    exact ⟨rfl, N2222⟩
set_option maxRecDepth 65536 in
set_option maxHeartbeats 40000000 in
theorem comes_1 {Post : Tables → Env → Array Value → State → Outcome → State → Prop} (hpost : ∀ tb e args s v u, (limb_1_1.after args s (.returned v) u = true ∧ limb_1_2.after args s (.returned v) u = true ∧ True) → FrameEnd s (.returned v) u (Jvm.fieldLocs frame_1_writes args s ++ Jvm.arrayLocs frame_1_arrays args s ++ Jvm.staticLocs frame_1_statics s) 48 1408 → Post tb e args s (.returned v) u) :
    ArmFor flags0 classFile x code maxLocals ret World_1 tables_1 room_1 Calls_1 rest_1 Pre_1 Post := by
  intro l hfl _ _ p e ha hc hk s m args below hf hA hF happ hP
  obtain ⟨hcalls, hrest, hpre⟩ := hP
  obtain ⟨-, -, -, hnamed, -, -, -, hat⟩ := (Spec.applies_iff hf).mp happ
  obtain ⟨hg, hn⟩ := and_e (Cond.before_iff.mp (show (Jvm.Cond.and given_1 narrow_1).before args s = true from hpre))
  obtain ⟨hcount, hg0⟩ := and_e hg
  obtain ⟨ha0, hg1⟩ := and_e hg0
  obtain ⟨ha1, hg2⟩ := and_e hg1
  obtain ⟨ha2, hg3⟩ := and_e hg2
  obtain ⟨ha3, hg4⟩ := and_e hg3
  obtain ⟨ha4, hg5⟩ := and_e hg4
  have ha5 := hg5
  obtain ⟨w0, w1, w2, w3, w4, w5, rfl⟩ : ∃ w0 w1 w2 w3 w4 w5 : Value, args = #[w0, w1, w2, w3, w4, w5] := by
    have hs : args.size = 6 := by simpa [Cond.value, given_1] using hcount
    obtain ⟨L⟩ := args
    match L, hs with
    | [w0, w1, w2, w3, w4, w5], _ => exact ⟨w0, w1, w2, w3, w4, w5, rfl⟩
  have hw := fun d (hd : d ∈ tables_1) => atoms_spec (ws := Jvm.Cond.code x code maxLocals ret :: tables_1) hat d (List.mem_cons_of_mem _ hd)
  obtain ⟨i0, ei0⟩ := is_v ha0
  obtain rfl : w0 = (.int i0) := Option.some.inj ei0
  obtain ⟨i1, ei1⟩ := is_v ha1
  obtain rfl : w1 = (.int i1) := Option.some.inj ei1
  obtain ⟨i2, ei2⟩ := is_v ha2
  obtain rfl : w2 = (.int i2) := Option.some.inj ei2
  obtain ⟨i3, ei3⟩ := is_v ha3
  obtain rfl : w3 = (.int i3) := Option.some.inj ei3
  obtain ⟨i4, ei4⟩ := is_v ha4
  obtain rfl : w4 = (.int i4) := Option.some.inj ei4
  obtain ⟨i5, ei5⟩ := is_v ha5
  obtain rfl : w5 = (.int i5) := Option.some.inj ei5
  obtain ⟨n, o, h1, h2, h3, _, L, rfl, ⟨rfl, N⟩, hq⟩ := rm0 l s _ hw tables_1 i0 i1 i2 i3 i4 i5 s.heap s.heap.size (Nat.le_refl _)  p e ha hc hk s m _ below hf ((Spec.applies_iff_loose hf).mp happ).1 ⟨rfl, State.Warmed39.refl s, rfl⟩ trivial
  refine ⟨n, _, h1, h2, h3, hpost _ _ _ _ _ _ ⟨Cond.after_iff.mpr rfl, Cond.after_iff.mpr (eq_i res_at (Term.int_eval (1)) rfl), trivial⟩ ⟨hq.1, hq.2.1, (hq.2.2.sift fun y hy => Or.inr (N y hy)).mono (by decide) (by decide)⟩⟩
theorem main_1_1 : Claimed_1_1 := comes_1 fun _ _ _ _ _ _ h hF => ⟨h.1, hF⟩
theorem main_1_2 : Claimed_1_2 := comes_1 fun _ _ _ _ _ _ h hF => ⟨h.2.1, hF⟩
end Jvm.Pilot.@@N@@
namespace Jvm.Pilot.@@N@@
open Jvm Jvm.ClassFile Sem Op Lib Jvm.Free Jvm.Stand Jvm.Pilot.@@N@@.Jvm.D
/-! MADE BY PROGRAM (witnessworld.py) out of the Statement's table words and the real class files: 21 classes; the members and pool entries that the words name. The judged class is class 1, her method 1. -/
namespace start1
open Jvm.ClassFile
def u (s : String) : CpInfo := .utf8 (stringToUtf16 s)
/-- a pool by its gaps: so many unusable entries, then the entry; so many at the end -/
def gap : Nat → List CpInfo → List CpInfo
  | 0, r => r
  | n + 1, r => .unusable :: gap n r
def poolList (es : List (Nat × CpInfo)) (last : Nat) : List CpInfo := es.foldr (fun e r => gap e.1 (e.2 :: r)) (gap last [])
def pool (es : List (Nat × CpInfo)) (last : Nat) : Array CpInfo := ⟨poolList es last⟩
def fileOf (pool : Array CpInfo) (this : Nat) (attrs : Array Attribute := #[]) (ms : Array MethodInfo := #[]) (fl : Nat := 33) (sup : Nat := 0) (ifs : Array Nat := #[]) (fds : Array FieldInfo := #[]) : ClassFile where
  minorVersion := 0
  majorVersion := 65
  constantPool := pool
  accessFlags := fl
  thisClass := this
  superClass := sup
  interfaces := ifs
  fields := fds
  methods := ms
  attributes := attrs
def plain (name : String) (sup : Option ClassId) : Class where
  name := name
  kind := .ordinary
  loader := none
  accessFlags := 33
  super := sup
  interfaces := #[]
  cf := none
  fields := #[]
  methods := #[]
  instanceTypes := #[]
  staticTypes := #[]
  resolved := #[]
  callSites := []
  init := .initialized
  statics := none
  mirror := none

def pool0 : Array CpInfo := pool [(5, u "<init>"), (0, u "()V"), (1, .class_ 10), (1, u "java/lang/Object"), (85, u "clone"), (0, u "()Ljava/lang/Object;")] 26

def k0c0 : Code := { maxStack := 0, maxLocals := 1, code := object_method_1_code, exceptionTable := #[], attributes := #[] }
def k0m0 : Method := { name := "<init>", desc := "()V", sig := { parameters := [], returnType := none }, accessFlags := 1, code := some k0c0 }
def k0m1 : Method := { name := "clone", desc := "()Ljava/lang/Object;", sig := { parameters := [], returnType := some (.object "java/lang/Object") }, accessFlags := 260, code := none }
/-- java/lang/Object -/
def k0 : Class := { plain "java/lang/Object" none with
  accessFlags := 33
  interfaces := #[]
  cf := some (fileOf pool0 8 #[] #[{ accessFlags := 1, nameIndex := 5, descriptorIndex := 6, attributes := #[] }, { accessFlags := 260, nameIndex := 96, descriptorIndex := 97, attributes := #[] }] 33 0 #[] #[])
  fields := #[]
  methods := #[k0m0, k0m1]
  instanceTypes := #[]
  staticTypes := #[]
  resolved := Array.replicate 124 none
  statics := none }

def pool1 : Array CpInfo := pool [(2, .class_ 4), (1, u "java/lang/Object"), (0, u "<init>"), (0, u "()V"), (0, .class_ 8), (0, u "com/example/flatfinder/flatfinder/neighbours/Points"), (0, .methodref 7 10), (0, .nameAndType 5 11), (0, u "(I[D)V"), (0, .class_ 13), (0, u "com/example/flatfinder/flatfinder/neighbours/KdTree"), (0, .methodref 12 15), (0, .nameAndType 5 16), (0, u "(Lcom/example/flatfinder/flatfinder/neighbours/Points;[I)V"), (0, .integer 2147483647), (0, .methodref 12 19), (0, .nameAndType 20 21), (0, u "leafOf"), (0, u "(I)I"), (0, .methodref 12 23), (0, .nameAndType 24 25), (0, u "boxes"), (0, u "()I"), (0, .methodref 12 27), (0, .nameAndType 28 29), (0, u "isSplit"), (0, u "(I)Z"), (0, .methodref 12 31), (0, .nameAndType 32 21), (0, u "first"), (0, .methodref 12 34), (0, .nameAndType 35 21), (0, u "end"), (0, .class_ 37), (0, u "com/example/flatfinder/flatfinder/neighbours/KdTreeLeafOfPinLaw"), (2, u "law"), (0, u "(IIIIII)Z")] 7

def k1m0 : Method := { name := "<init>", desc := "()V", sig := { parameters := [], returnType := none }, accessFlags := 1, code := none }
def k1c1 : Code := { maxStack := 4, maxLocals := 12, code := code, exceptionTable := #[], attributes := #[] }
def k1m1 : Method := { name := "law", desc := "(IIIIII)Z", sig := { parameters := [.int, .int, .int, .int, .int, .int], returnType := some .boolean }, accessFlags := 9, code := some k1c1 }
/-- com/example/flatfinder/flatfinder/neighbours/KdTreeLeafOfPinLaw -/
def k1 : Class := { plain "com/example/flatfinder/flatfinder/neighbours/KdTreeLeafOfPinLaw" (some 0) with
  accessFlags := 49
  interfaces := #[]
  cf := some (fileOf pool1 36 #[] #[{ accessFlags := 1, nameIndex := 5, descriptorIndex := 6, attributes := #[] }, { accessFlags := 9, nameIndex := 40, descriptorIndex := 41, attributes := #[] }] 49 2 #[] #[])
  fields := #[]
  methods := #[k1m0, k1m1]
  instanceTypes := #[]
  staticTypes := #[]
  resolved := Array.replicate 49 none
  statics := none }

def pool2 : Array CpInfo := pool [(1, .methodref 2 3), (0, .class_ 4), (0, .nameAndType 5 6), (0, u "java/lang/Object"), (0, u "<init>"), (0, u "()V"), (9, .methodref 17 18), (0, .class_ 19), (0, .nameAndType 20 21), (0, u "java/lang/Double"), (0, u "isFinite"), (0, u "(D)Z"), (3, .fieldref 26 27), (0, .class_ 28), (0, .nameAndType 29 30), (0, u "com/example/flatfinder/flatfinder/neighbours/Points"), (0, u "size"), (0, u "I"), (0, .fieldref 26 32), (0, .nameAndType 33 30), (0, u "dimensions"), (0, .methodref 35 36), (0, .class_ 37), (0, .nameAndType 38 39), (0, u "[D"), (0, u "clone"), (0, u "()Ljava/lang/Object;"), (0, .fieldref 26 41), (0, .nameAndType 42 37), (0, u "coordinates"), (0, .methodref 44 45), (0, .class_ 46), (0, .nameAndType 47 48), (0, u "java/util/Objects"), (0, u "checkIndex"), (0, u "(II)I"), (24, u "(I[D)V"), (3, u "()I"), (0, u "coordinate"), (0, u "(II)D")] 23

def k2c0 : Code := { maxStack := 4, maxLocals := 8, code := prog_66_method_1_code, exceptionTable := #[], attributes := #[] }
def k2m0 : Method := { name := "<init>", desc := "(I[D)V", sig := { parameters := [.int, (.array .double)], returnType := none }, accessFlags := 1, code := some k2c0 }
def k2c1 : Code := { maxStack := 1, maxLocals := 1, code := prog_66_method_2_code, exceptionTable := #[], attributes := #[] }
def k2m1 : Method := { name := "size", desc := "()I", sig := { parameters := [], returnType := some .int }, accessFlags := 1, code := some k2c1 }
def k2c2 : Code := { maxStack := 1, maxLocals := 1, code := prog_66_method_3_code, exceptionTable := #[], attributes := #[] }
def k2m2 : Method := { name := "dimensions", desc := "()I", sig := { parameters := [], returnType := some .int }, accessFlags := 1, code := some k2c2 }
def k2c3 : Code := { maxStack := 3, maxLocals := 3, code := prog_66_method_4_code, exceptionTable := #[], attributes := #[] }
def k2m3 : Method := { name := "coordinate", desc := "(II)D", sig := { parameters := [.int, .int], returnType := some .double }, accessFlags := 1, code := some k2c3 }
/-- com/example/flatfinder/flatfinder/neighbours/Points -/
def k2 : Class := { plain "com/example/flatfinder/flatfinder/neighbours/Points" (some 0) with
  accessFlags := 49
  interfaces := #[]
  cf := some (fileOf pool2 26 #[] #[{ accessFlags := 1, nameIndex := 5, descriptorIndex := 73, attributes := #[] }, { accessFlags := 1, nameIndex := 29, descriptorIndex := 77, attributes := #[] }, { accessFlags := 1, nameIndex := 33, descriptorIndex := 77, attributes := #[] }, { accessFlags := 1, nameIndex := 78, descriptorIndex := 79, attributes := #[] }] 49 2 #[] #[{ accessFlags := 18, nameIndex := 29, descriptorIndex := 30, attributes := #[] }, { accessFlags := 18, nameIndex := 33, descriptorIndex := 30, attributes := #[] }, { accessFlags := 18, nameIndex := 42, descriptorIndex := 37, attributes := #[] }])
  fields := #[{ name := "size", type := .int, accessFlags := 18, slot := 0, constantValue := 0 }, { name := "dimensions", type := .int, accessFlags := 18, slot := 1, constantValue := 0 }, { name := "coordinates", type := (.array .double), accessFlags := 18, slot := 2, constantValue := 0 }]
  methods := #[k2m0, k2m1, k2m2, k2m3]
  instanceTypes := #[.int, .int, (.array .double)]
  staticTypes := #[]
  resolved := Array.replicate 103 none
  statics := none }

def pool3 : Array CpInfo := pool [(1, .class_ 2), (0, u "java/io/Serializable"), (0, .class_ 4), (0, u "java/lang/Object")] 2

/-- java/io/Serializable -/
def k3 : Class := { plain "java/io/Serializable" (some 0) with
  accessFlags := 1537
  interfaces := #[]
  cf := some (fileOf pool3 1 #[] #[] 1537 3 #[] #[])
  fields := #[]
  methods := #[]
  instanceTypes := #[]
  staticTypes := #[]
  resolved := Array.replicate 7 none
  statics := none }

def pool4 : Array CpInfo := pool [(2, .class_ 4), (1, u "java/lang/Object"), (0, u "<init>"), (0, u "()V"), (1, .class_ 10), (1, u "java/lang/Number"), (2, .class_ 14), (0, u "java/io/Serializable"), (0, u "serialVersionUID"), (0, u "J")] 20

def k4m0 : Method := { name := "<init>", desc := "()V", sig := { parameters := [], returnType := none }, accessFlags := 1, code := none }
/-- java/lang/Number -/
def k4 : Class := { plain "java/lang/Number" (some 0) with
  accessFlags := 1057
  interfaces := #[3]
  cf := some (fileOf pool4 8 #[] #[{ accessFlags := 1, nameIndex := 5, descriptorIndex := 6, attributes := #[] }] 1057 2 #[13] #[{ accessFlags := 26, nameIndex := 15, descriptorIndex := 16, attributes := #[] }])
  fields := #[{ name := "serialVersionUID", type := .long, accessFlags := 26, slot := 0, constantValue := 0 }]
  methods := #[k4m0]
  instanceTypes := #[]
  staticTypes := #[.long]
  resolved := Array.replicate 37 none
  statics := none }

def pool5 : Array CpInfo := pool [(1, .class_ 2), (0, u "java/lang/Comparable"), (0, .class_ 4), (0, u "java/lang/Object")] 7

/-- java/lang/Comparable -/
def k5 : Class := { plain "java/lang/Comparable" (some 0) with
  accessFlags := 1537
  interfaces := #[]
  cf := some (fileOf pool5 1 #[] #[] 1537 3 #[] #[])
  fields := #[]
  methods := #[]
  instanceTypes := #[]
  staticTypes := #[]
  resolved := Array.replicate 12 none
  statics := none }

def pool6 : Array CpInfo := pool [(1, .class_ 2), (0, u "java/lang/constant/Constable"), (0, .class_ 4), (0, u "java/lang/Object")] 6

/-- java/lang/constant/Constable -/
def k6 : Class := { plain "java/lang/constant/Constable" (some 0) with
  accessFlags := 1537
  interfaces := #[]
  cf := some (fileOf pool6 1 #[] #[] 1537 3 #[] #[])
  fields := #[]
  methods := #[]
  instanceTypes := #[]
  staticTypes := #[]
  resolved := Array.replicate 11 none
  statics := none }

def pool7 : Array CpInfo := pool [(1, .class_ 2), (0, u "java/lang/constant/ConstantDesc"), (0, .class_ 4), (0, u "java/lang/Object")] 32

/-- java/lang/constant/ConstantDesc -/
def k7 : Class := { plain "java/lang/constant/ConstantDesc" (some 0) with
  accessFlags := 1537
  interfaces := #[]
  cf := some (fileOf pool7 1 #[] #[] 1537 3 #[] #[])
  fields := #[]
  methods := #[]
  instanceTypes := #[]
  staticTypes := #[]
  resolved := Array.replicate 37 none
  statics := none }

def pool8 : Array CpInfo := pool [(1, .class_ 2), (0, u "java/lang/Double"), (10, u "isFinite"), (0, u "(D)Z"), (8, .class_ 25), (1, u "java/lang/Math"), (12, .methodref 23 39), (0, .nameAndType 40 41), (0, u "abs"), (0, u "(D)D"), (69, .double 9218868437227405311), (2, .class_ 116), (1, u "java/lang/Number"), (3, u "value"), (0, u "D"), (51, u "TYPE"), (0, u "Ljava/lang/Class;"), (0, .class_ 176), (0, u "java/lang/Comparable"), (0, .class_ 178), (0, u "java/lang/constant/Constable"), (0, .class_ 180), (0, u "java/lang/constant/ConstantDesc"), (0, u "POSITIVE_INFINITY"), (3, u "NEGATIVE_INFINITY"), (2, u "NaN"), (2, u "MAX_VALUE"), (0, u "MIN_NORMAL"), (0, u "MIN_VALUE"), (2, u "SIZE"), (0, u "I"), (1, u "PRECISION"), (1, u "MAX_EXPONENT"), (1, u "MIN_EXPONENT"), (1, u "BYTES"), (3, u "serialVersionUID"), (0, u "J")] 79

def k8c0 : Code := { maxStack := 4, maxLocals := 2, code := jdk_117_method_8_code, exceptionTable := #[], attributes := #[] }
def k8m0 : Method := { name := "isFinite", desc := "(D)Z", sig := { parameters := [.double], returnType := some .boolean }, accessFlags := 9, code := some k8c0 }
/-- java/lang/Double -/
def k8 : Class := { plain "java/lang/Double" (some 4) with
  accessFlags := 49
  interfaces := #[5, 6, 7]
  cf := some (fileOf pool8 1 #[] #[{ accessFlags := 9, nameIndex := 13, descriptorIndex := 14, attributes := #[] }] 49 114 #[175, 177, 179] #[{ accessFlags := 25, nameIndex := 181, descriptorIndex := 121, attributes := #[] }, { accessFlags := 25, nameIndex := 185, descriptorIndex := 121, attributes := #[] }, { accessFlags := 25, nameIndex := 188, descriptorIndex := 121, attributes := #[] }, { accessFlags := 25, nameIndex := 191, descriptorIndex := 121, attributes := #[] }, { accessFlags := 25, nameIndex := 192, descriptorIndex := 121, attributes := #[] }, { accessFlags := 25, nameIndex := 193, descriptorIndex := 121, attributes := #[] }, { accessFlags := 25, nameIndex := 196, descriptorIndex := 197, attributes := #[] }, { accessFlags := 25, nameIndex := 199, descriptorIndex := 197, attributes := #[] }, { accessFlags := 25, nameIndex := 201, descriptorIndex := 197, attributes := #[] }, { accessFlags := 25, nameIndex := 203, descriptorIndex := 197, attributes := #[] }, { accessFlags := 25, nameIndex := 205, descriptorIndex := 197, attributes := #[] }, { accessFlags := 25, nameIndex := 173, descriptorIndex := 174, attributes := #[] }, { accessFlags := 18, nameIndex := 120, descriptorIndex := 121, attributes := #[] }, { accessFlags := 26, nameIndex := 209, descriptorIndex := 210, attributes := #[] }])
  fields := #[{ name := "POSITIVE_INFINITY", type := .double, accessFlags := 25, slot := 0, constantValue := 0 }, { name := "NEGATIVE_INFINITY", type := .double, accessFlags := 25, slot := 1, constantValue := 0 }, { name := "NaN", type := .double, accessFlags := 25, slot := 2, constantValue := 0 }, { name := "MAX_VALUE", type := .double, accessFlags := 25, slot := 3, constantValue := 0 }, { name := "MIN_NORMAL", type := .double, accessFlags := 25, slot := 4, constantValue := 0 }, { name := "MIN_VALUE", type := .double, accessFlags := 25, slot := 5, constantValue := 0 }, { name := "SIZE", type := .int, accessFlags := 25, slot := 6, constantValue := 0 }, { name := "PRECISION", type := .int, accessFlags := 25, slot := 7, constantValue := 0 }, { name := "MAX_EXPONENT", type := .int, accessFlags := 25, slot := 8, constantValue := 0 }, { name := "MIN_EXPONENT", type := .int, accessFlags := 25, slot := 9, constantValue := 0 }, { name := "BYTES", type := .int, accessFlags := 25, slot := 10, constantValue := 0 }, { name := "TYPE", type := (.object "java/lang/Class"), accessFlags := 25, slot := 11, constantValue := 0 }, { name := "value", type := .double, accessFlags := 18, slot := 0, constantValue := 0 }, { name := "serialVersionUID", type := .long, accessFlags := 26, slot := 12, constantValue := 0 }]
  methods := #[k8m0]
  instanceTypes := #[.double]
  staticTypes := #[.double, .double, .double, .double, .double, .double, .int, .int, .int, .int, .int, (.object "java/lang/Class"), .long]
  resolved := Array.replicate 290 none
  statics := none }

def pool9 : Array CpInfo := pool [(1, .class_ 2), (0, u "java/lang/Math"), (1, .class_ 6), (1, u "java/lang/Object"), (0, u "<init>"), (0, u "()V"), (5, u "(D)D"), (37, u "(DD)D"), (45, .class_ 100), (1, u "java/lang/Math$RandomNumberGeneratorHolder"), (23, u "abs"), (47, u "negativeZeroFloatBits"), (0, u "J"), (2, u "negativeZeroDoubleBits"), (21, u "max"), (2, u "min"), (43, u "$assertionsDisabled"), (0, u "Z"), (88, u "(II)I"), (2, u "twoToTheDoubleScaleDown"), (0, u "D"), (4, u "twoToTheDoubleScaleUp"), (9, u "E"), (3, u "PI"), (2, u "TAU"), (2, u "DEGREES_TO_RADIANS"), (0, u "RADIANS_TO_DEGREES")] 94

def k9m0 : Method := { name := "<init>", desc := "()V", sig := { parameters := [], returnType := none }, accessFlags := 2, code := none }
def k9c1 : Code := { maxStack := 4, maxLocals := 2, code := jdk_29_method_64_code, exceptionTable := #[], attributes := #[] }
def k9m1 : Method := { name := "abs", desc := "(D)D", sig := { parameters := [.double], returnType := some .double }, accessFlags := 9, code := some k9c1 }
def k9c2 : Code := { maxStack := 2, maxLocals := 2, code := jdk_29_method_65_code, exceptionTable := #[], attributes := #[] }
def k9m2 : Method := { name := "max", desc := "(II)I", sig := { parameters := [.int, .int], returnType := some .int }, accessFlags := 9, code := some k9c2 }
def k9c3 : Code := { maxStack := 4, maxLocals := 4, code := jdk_29_method_68_code, exceptionTable := #[], attributes := #[] }
def k9m3 : Method := { name := "max", desc := "(DD)D", sig := { parameters := [.double, .double], returnType := some .double }, accessFlags := 9, code := some k9c3 }
def k9c4 : Code := { maxStack := 4, maxLocals := 4, code := jdk_29_method_72_code, exceptionTable := #[], attributes := #[] }
def k9m4 : Method := { name := "min", desc := "(DD)D", sig := { parameters := [.double, .double], returnType := some .double }, accessFlags := 9, code := some k9c4 }
/-- java/lang/Math -/
def k9 : Class := { plain "java/lang/Math" (some 0) with
  accessFlags := 49
  interfaces := #[]
  cf := some (fileOf pool9 1 #[.nestMembers #[98]] #[{ accessFlags := 2, nameIndex := 7, descriptorIndex := 8, attributes := #[] }, { accessFlags := 9, nameIndex := 124, descriptorIndex := 14, attributes := #[] }, { accessFlags := 9, nameIndex := 198, descriptorIndex := 335, attributes := #[] }, { accessFlags := 9, nameIndex := 198, descriptorIndex := 52, attributes := #[] }, { accessFlags := 9, nameIndex := 201, descriptorIndex := 52, attributes := #[] }] 49 4 #[] #[{ accessFlags := 25, nameIndex := 354, descriptorIndex := 339, attributes := #[] }, { accessFlags := 25, nameIndex := 358, descriptorIndex := 339, attributes := #[] }, { accessFlags := 25, nameIndex := 361, descriptorIndex := 339, attributes := #[] }, { accessFlags := 26, nameIndex := 364, descriptorIndex := 339, attributes := #[] }, { accessFlags := 26, nameIndex := 365, descriptorIndex := 339, attributes := #[] }, { accessFlags := 26, nameIndex := 172, descriptorIndex := 173, attributes := #[] }, { accessFlags := 26, nameIndex := 176, descriptorIndex := 173, attributes := #[] }, { accessFlags := 8, nameIndex := 344, descriptorIndex := 339, attributes := #[] }, { accessFlags := 8, nameIndex := 338, descriptorIndex := 339, attributes := #[] }, { accessFlags := 4120, nameIndex := 245, descriptorIndex := 246, attributes := #[] }])
  fields := #[{ name := "E", type := .double, accessFlags := 25, slot := 0, constantValue := 0 }, { name := "PI", type := .double, accessFlags := 25, slot := 1, constantValue := 0 }, { name := "TAU", type := .double, accessFlags := 25, slot := 2, constantValue := 0 }, { name := "DEGREES_TO_RADIANS", type := .double, accessFlags := 26, slot := 3, constantValue := 0 }, { name := "RADIANS_TO_DEGREES", type := .double, accessFlags := 26, slot := 4, constantValue := 0 }, { name := "negativeZeroFloatBits", type := .long, accessFlags := 26, slot := 5, constantValue := 0 }, { name := "negativeZeroDoubleBits", type := .long, accessFlags := 26, slot := 6, constantValue := 0 }, { name := "twoToTheDoubleScaleUp", type := .double, accessFlags := 8, slot := 7, constantValue := 0 }, { name := "twoToTheDoubleScaleDown", type := .double, accessFlags := 8, slot := 8, constantValue := 0 }, { name := "$assertionsDisabled", type := .boolean, accessFlags := 4120, slot := 9, constantValue := 0 }]
  methods := #[k9m0, k9m1, k9m2, k9m3, k9m4]
  instanceTypes := #[]
  staticTypes := #[.double, .double, .double, .double, .double, .long, .long, .double, .double, .boolean]
  resolved := Array.replicate 460 none
  statics := none }

def pool10 : Array CpInfo := pool [(1, .class_ 2), (0, u "java/lang/Cloneable"), (0, .class_ 4), (0, u "java/lang/Object")] 2

/-- java/lang/Cloneable -/
def k10 : Class := { plain "java/lang/Cloneable" (some 0) with
  accessFlags := 1537
  interfaces := #[]
  cf := some (fileOf pool10 1 #[] #[] 1537 3 #[] #[])
  fields := #[]
  methods := #[]
  instanceTypes := #[]
  staticTypes := #[]
  resolved := Array.replicate 7 none
  statics := none }

def pool11 : Array CpInfo := pool [(1, .methodref 2 3), (0, .class_ 4), (0, .nameAndType 5 6), (0, u "java/lang/Object"), (0, u "<init>"), (0, u "()V"), (0, .methodref 8 9), (0, .class_ 10), (0, .nameAndType 11 12), (0, u "com/example/flatfinder/flatfinder/neighbours/Points"), (0, u "dimensions"), (0, u "()I"), (0, .class_ 14), (0, u "com/example/flatfinder/flatfinder/neighbours/KdTree"), (0, .fieldref 13 16), (0, .nameAndType 17 18), (0, u "points"), (0, u "Lcom/example/flatfinder/flatfinder/neighbours/Points;"), (0, .methodref 20 21), (0, .class_ 22), (0, .nameAndType 23 24), (0, u "[I"), (0, u "clone"), (0, u "()Ljava/lang/Object;"), (0, .fieldref 13 26), (0, .nameAndType 27 22), (0, u "rows"), (0, .fieldref 13 29), (0, .nameAndType 30 22), (0, u "first"), (0, .fieldref 13 32), (0, .nameAndType 33 22), (0, u "end"), (0, .fieldref 13 35), (0, .nameAndType 36 22), (0, u "upper"), (0, .fieldref 13 38), (0, .nameAndType 39 40), (0, u "low"), (0, u "[D"), (0, .fieldref 13 42), (0, .nameAndType 43 40), (0, u "high"), (0, .class_ 45), (0, u "com/example/flatfinder/flatfinder/neighbours/KdTree$Builder"), (0, .methodref 44 47), (0, .nameAndType 5 48), (0, u "(Lcom/example/flatfinder/flatfinder/neighbours/KdTree;)V"), (0, .methodref 44 50), (0, .nameAndType 51 52), (0, u "build"), (0, u "(III)V"), (0, .fieldref 44 54), (0, .nameAndType 55 56), (0, u "next"), (0, u "I"), (0, .fieldref 13 58), (0, .nameAndType 59 56), (0, u "boxes"), (0, .fieldref 44 61), (0, .nameAndType 62 56), (0, u "depth"), (0, .fieldref 13 61), (0, .methodref 8 65), (0, .nameAndType 66 12), (0, u "size"), (0, .fieldref 13 68), (0, .nameAndType 69 22), (0, u "places"), (0, .methodref 71 72), (0, .class_ 73), (0, .nameAndType 74 75), (0, u "java/util/Arrays"), (0, u "fill"), (0, u "([II)V"), (0, .methodref 8 77), (0, .nameAndType 78 79), (0, u "coordinate"), (0, u "(II)D"), (0, .methodref 8 81), (0, .nameAndType 5 82), (0, u "(I[D)V"), (0, .fieldref 13 84), (0, .nameAndType 85 18), (0, u "ordered"), (1, .class_ 89), (1, u "com/example/flatfinder/flatfinder/neighbours/KdTree$Walk"), (9, u "(I)Z"), (4, u "LEAF"), (2, u "(Lcom/example/flatfinder/flatfinder/neighbours/Points;[I)V"), (7, u "(I)I"), (2, u "leafOf"), (0, u "isSplit")] 8

def k11c0 : Code := { maxStack := 5, maxLocals := 10, code := prog_53_method_1_code, exceptionTable := #[], attributes := #[] }
def k11m0 : Method := { name := "<init>", desc := "(Lcom/example/flatfinder/flatfinder/neighbours/Points;[I)V", sig := { parameters := [(.object "com/example/flatfinder/flatfinder/neighbours/Points"), (.array .int)], returnType := none }, accessFlags := 1, code := some k11c0 }
def k11c1 : Code := { maxStack := 1, maxLocals := 1, code := prog_53_method_3_code, exceptionTable := #[], attributes := #[] }
def k11m1 : Method := { name := "boxes", desc := "()I", sig := { parameters := [], returnType := some .int }, accessFlags := 1, code := some k11c1 }
def k11c2 : Code := { maxStack := 2, maxLocals := 2, code := prog_53_method_7_code, exceptionTable := #[], attributes := #[] }
def k11m2 : Method := { name := "first", desc := "(I)I", sig := { parameters := [.int], returnType := some .int }, accessFlags := 1, code := some k11c2 }
def k11c3 : Code := { maxStack := 2, maxLocals := 2, code := prog_53_method_8_code, exceptionTable := #[], attributes := #[] }
def k11m3 : Method := { name := "end", desc := "(I)I", sig := { parameters := [.int], returnType := some .int }, accessFlags := 1, code := some k11c3 }
def k11c4 : Code := { maxStack := 4, maxLocals := 3, code := prog_53_method_9_code, exceptionTable := #[], attributes := #[] }
def k11m4 : Method := { name := "leafOf", desc := "(I)I", sig := { parameters := [.int], returnType := some .int }, accessFlags := 1, code := some k11c4 }
def k11c5 : Code := { maxStack := 2, maxLocals := 2, code := prog_53_method_10_code, exceptionTable := #[], attributes := #[] }
def k11m5 : Method := { name := "isSplit", desc := "(I)Z", sig := { parameters := [.int], returnType := some .boolean }, accessFlags := 1, code := some k11c5 }
/-- com/example/flatfinder/flatfinder/neighbours/KdTree -/
def k11 : Class := { plain "com/example/flatfinder/flatfinder/neighbours/KdTree" (some 0) with
  accessFlags := 49
  interfaces := #[]
  cf := some (fileOf pool11 13 #[.nestMembers #[44, 87]] #[{ accessFlags := 1, nameIndex := 5, descriptorIndex := 107, attributes := #[] }, { accessFlags := 1, nameIndex := 59, descriptorIndex := 12, attributes := #[] }, { accessFlags := 1, nameIndex := 30, descriptorIndex := 115, attributes := #[] }, { accessFlags := 1, nameIndex := 33, descriptorIndex := 115, attributes := #[] }, { accessFlags := 1, nameIndex := 118, descriptorIndex := 115, attributes := #[] }, { accessFlags := 1, nameIndex := 119, descriptorIndex := 99, attributes := #[] }] 49 2 #[] #[{ accessFlags := 26, nameIndex := 104, descriptorIndex := 56, attributes := #[] }, { accessFlags := 18, nameIndex := 17, descriptorIndex := 18, attributes := #[] }, { accessFlags := 18, nameIndex := 27, descriptorIndex := 22, attributes := #[] }, { accessFlags := 18, nameIndex := 30, descriptorIndex := 22, attributes := #[] }, { accessFlags := 18, nameIndex := 33, descriptorIndex := 22, attributes := #[] }, { accessFlags := 18, nameIndex := 36, descriptorIndex := 22, attributes := #[] }, { accessFlags := 18, nameIndex := 39, descriptorIndex := 40, attributes := #[] }, { accessFlags := 18, nameIndex := 43, descriptorIndex := 40, attributes := #[] }, { accessFlags := 18, nameIndex := 59, descriptorIndex := 56, attributes := #[] }, { accessFlags := 18, nameIndex := 62, descriptorIndex := 56, attributes := #[] }, { accessFlags := 18, nameIndex := 85, descriptorIndex := 18, attributes := #[] }, { accessFlags := 18, nameIndex := 69, descriptorIndex := 22, attributes := #[] }])
  fields := #[{ name := "LEAF", type := .int, accessFlags := 26, slot := 0, constantValue := 0 }, { name := "points", type := (.object "com/example/flatfinder/flatfinder/neighbours/Points"), accessFlags := 18, slot := 0, constantValue := 0 }, { name := "rows", type := (.array .int), accessFlags := 18, slot := 1, constantValue := 0 }, { name := "first", type := (.array .int), accessFlags := 18, slot := 2, constantValue := 0 }, { name := "end", type := (.array .int), accessFlags := 18, slot := 3, constantValue := 0 }, { name := "upper", type := (.array .int), accessFlags := 18, slot := 4, constantValue := 0 }, { name := "low", type := (.array .double), accessFlags := 18, slot := 5, constantValue := 0 }, { name := "high", type := (.array .double), accessFlags := 18, slot := 6, constantValue := 0 }, { name := "boxes", type := .int, accessFlags := 18, slot := 7, constantValue := 0 }, { name := "depth", type := .int, accessFlags := 18, slot := 8, constantValue := 0 }, { name := "ordered", type := (.object "com/example/flatfinder/flatfinder/neighbours/Points"), accessFlags := 18, slot := 9, constantValue := 0 }, { name := "places", type := (.array .int), accessFlags := 18, slot := 10, constantValue := 0 }]
  methods := #[k11m0, k11m1, k11m2, k11m3, k11m4, k11m5]
  instanceTypes := #[(.object "com/example/flatfinder/flatfinder/neighbours/Points"), (.array .int), (.array .int), (.array .int), (.array .int), (.array .double), (.array .double), .int, .int, (.object "com/example/flatfinder/flatfinder/neighbours/Points"), (.array .int)]
  staticTypes := #[.int]
  resolved := ((((Array.replicate 128 none).setIfInBounds 44 (some (.cls 12))).setIfInBounds 46 (some (.method ⟨12, 0⟩))).setIfInBounds 53 (some (.field 12 0))).setIfInBounds 60 (some (.field 12 1))
  statics := none }

def pool12 : Array CpInfo := pool [(1, .class_ 2), (0, u "com/example/flatfinder/flatfinder/neighbours/KdTree"), (0, .fieldref 4 5), (0, .class_ 6), (0, .nameAndType 7 8), (0, u "com/example/flatfinder/flatfinder/neighbours/KdTree$Builder"), (0, u "this$0"), (0, u "Lcom/example/flatfinder/flatfinder/neighbours/KdTree;"), (0, .methodref 10 11), (0, .class_ 12), (0, .nameAndType 13 14), (0, u "java/lang/Object"), (0, u "<init>"), (0, u "()V"), (0, .fieldref 1 16), (0, .nameAndType 17 18), (0, u "points"), (0, u "Lcom/example/flatfinder/flatfinder/neighbours/Points;"), (0, .methodref 20 21), (0, .class_ 22), (0, .nameAndType 23 24), (0, u "com/example/flatfinder/flatfinder/neighbours/Points"), (0, u "dimensions"), (0, u "()I"), (0, .fieldref 4 26), (0, .nameAndType 27 28), (0, u "next"), (0, u "I"), (0, .fieldref 4 30), (0, .nameAndType 31 28), (0, u "depth"), (0, .methodref 33 34), (0, .class_ 35), (0, .nameAndType 36 37), (0, u "java/lang/Math"), (0, u "max"), (0, u "(II)I"), (0, .fieldref 1 39), (0, .nameAndType 40 41), (0, u "first"), (0, u "[I"), (0, .fieldref 1 43), (0, .nameAndType 44 41), (0, u "end"), (0, .fieldref 1 46), (0, .nameAndType 47 41), (0, u "upper"), (2, .double 9218868437227405312), (1, .double 18442240474082181120), (1, .fieldref 1 55), (0, .nameAndType 56 41), (0, u "rows"), (0, .methodref 20 58), (0, .nameAndType 59 60), (0, u "coordinate"), (0, u "(II)D"), (0, .methodref 33 62), (0, .nameAndType 63 64), (0, u "min"), (0, u "(DD)D"), (0, .methodref 33 66), (0, .nameAndType 36 64), (0, .fieldref 1 68), (0, .nameAndType 69 70), (0, u "low"), (0, u "[D"), (0, .fieldref 1 72), (0, .nameAndType 73 70), (0, u "high"), (0, .methodref 4 75), (0, .nameAndType 76 77), (0, u "partition"), (0, u "(IIII)V"), (0, .methodref 4 79), (0, .nameAndType 80 81), (0, u "build"), (0, u "(III)V"), (0, .methodref 83 84), (0, .class_ 85), (0, .nameAndType 86 87), (0, u "com/example/flatfinder/flatfinder/neighbours/Selection"), (0, u "kthSmallest"), (0, u "([DII)D"), (0, .methodref 4 89), (0, .nameAndType 90 91), (0, u "swap"), (0, u "(II)V"), (0, u "(Lcom/example/flatfinder/flatfinder/neighbours/KdTree;)V")] 10

def k12c0 : Code := { maxStack := 2, maxLocals := 2, code := prog_54_method_1_code, exceptionTable := #[], attributes := #[] }
def k12m0 : Method := { name := "<init>", desc := "(Lcom/example/flatfinder/flatfinder/neighbours/KdTree;)V", sig := { parameters := [(.object "com/example/flatfinder/flatfinder/neighbours/KdTree")], returnType := none }, accessFlags := 2, code := some k12c0 }
def k12c1 : Code := { maxStack := 5, maxLocals := 17, code := prog_54_method_2_code, exceptionTable := #[], attributes := #[] }
def k12m1 : Method := { name := "build", desc := "(III)V", sig := { parameters := [.int, .int, .int], returnType := none }, accessFlags := 0, code := some k12c1 }
def k12c2 : Code := { maxStack := 5, maxLocals := 13, code := prog_54_method_3_code, exceptionTable := #[], attributes := #[] }
def k12m2 : Method := { name := "partition", desc := "(IIII)V", sig := { parameters := [.int, .int, .int, .int], returnType := none }, accessFlags := 2, code := some k12c2 }
def k12c3 : Code := { maxStack := 4, maxLocals := 4, code := prog_54_method_4_code, exceptionTable := #[], attributes := #[] }
def k12m3 : Method := { name := "swap", desc := "(II)V", sig := { parameters := [.int, .int], returnType := none }, accessFlags := 2, code := some k12c3 }
/-- com/example/flatfinder/flatfinder/neighbours/KdTree$Builder -/
def k12 : Class := { plain "com/example/flatfinder/flatfinder/neighbours/KdTree$Builder" (some 0) with
  accessFlags := 48
  interfaces := #[]
  cf := some (fileOf pool12 4 #[.nestHost 1] #[{ accessFlags := 2, nameIndex := 13, descriptorIndex := 92, attributes := #[] }, { accessFlags := 0, nameIndex := 80, descriptorIndex := 81, attributes := #[] }, { accessFlags := 2, nameIndex := 76, descriptorIndex := 77, attributes := #[] }, { accessFlags := 2, nameIndex := 90, descriptorIndex := 91, attributes := #[] }] 48 10 #[] #[{ accessFlags := 2, nameIndex := 27, descriptorIndex := 28, attributes := #[] }, { accessFlags := 2, nameIndex := 31, descriptorIndex := 28, attributes := #[] }, { accessFlags := 4112, nameIndex := 7, descriptorIndex := 8, attributes := #[] }])
  fields := #[{ name := "next", type := .int, accessFlags := 2, slot := 0, constantValue := 0 }, { name := "depth", type := .int, accessFlags := 2, slot := 1, constantValue := 0 }, { name := "this$0", type := (.object "com/example/flatfinder/flatfinder/neighbours/KdTree"), accessFlags := 4112, slot := 2, constantValue := 0 }]
  methods := #[k12m0, k12m1, k12m2, k12m3]
  instanceTypes := #[.int, .int, (.object "com/example/flatfinder/flatfinder/neighbours/KdTree")]
  staticTypes := #[]
  resolved := Array.replicate 103 none
  statics := none }

def pool13 : Array CpInfo := pool [(2, .class_ 4), (1, u "java/lang/Object"), (0, u "<init>"), (0, u "()V"), (35, .class_ 44), (1, u "java/util/Objects"), (60, .methodref 106 107), (0, .class_ 108), (0, .nameAndType 109 110), (0, u "jdk/internal/util/Preconditions"), (0, u "checkIndex"), (0, u "(IILjava/util/function/BiFunction;)I"), (60, u "(II)I")] 12

def k13m0 : Method := { name := "<init>", desc := "()V", sig := { parameters := [], returnType := none }, accessFlags := 2, code := none }
def k13c1 : Code := { maxStack := 3, maxLocals := 2, code := jdk_31_method_17_code, exceptionTable := #[], attributes := #[] }
def k13m1 : Method := { name := "checkIndex", desc := "(II)I", sig := { parameters := [.int, .int], returnType := some .int }, accessFlags := 9, code := some k13c1 }
/-- java/util/Objects -/
def k13 : Class := { plain "java/util/Objects" (some 0) with
  accessFlags := 49
  interfaces := #[]
  cf := some (fileOf pool13 42 #[] #[{ accessFlags := 2, nameIndex := 5, descriptorIndex := 6, attributes := #[] }, { accessFlags := 9, nameIndex := 109, descriptorIndex := 171, attributes := #[] }] 49 2 #[] #[])
  fields := #[]
  methods := #[k13m0, k13m1]
  instanceTypes := #[]
  staticTypes := #[]
  resolved := Array.replicate 184 none
  statics := none }

def pool14 : Array CpInfo := pool [(2, .class_ 4), (1, u "java/lang/Object"), (0, u "<init>"), (0, u "()V"), (17, .class_ 26), (1, u "jdk/internal/util/Preconditions"), (6, u "checkIndex"), (21, .class_ 56), (0, u "jdk/internal/util/Preconditions$4"), (57, .class_ 115), (0, u "jdk/internal/util/Preconditions$1"), (7, u "SIOOBE_FORMATTER"), (0, u "Ljava/util/function/BiFunction;"), (0, .class_ 126), (0, u "jdk/internal/util/Preconditions$2"), (3, u "AIOOBE_FORMATTER"), (0, .class_ 132), (0, u "jdk/internal/util/Preconditions$3"), (3, u "IOOBE_FORMATTER"), (41, u "(IILjava/util/function/BiFunction;)I")] 15

def k14m0 : Method := { name := "<init>", desc := "()V", sig := { parameters := [], returnType := none }, accessFlags := 1, code := none }
def k14c1 : Code := { maxStack := 3, maxLocals := 3, code := jdk_41_method_11_code, exceptionTable := #[], attributes := #[] }
def k14m1 : Method := { name := "checkIndex", desc := "(IILjava/util/function/BiFunction;)I", sig := { parameters := [.int, .int, (.object "java/util/function/BiFunction")], returnType := some .int }, accessFlags := 9, code := some k14c1 }
/-- jdk/internal/util/Preconditions -/
def k14 : Class := { plain "jdk/internal/util/Preconditions" (some 0) with
  accessFlags := 33
  interfaces := #[]
  cf := some (fileOf pool14 24 #[.nestMembers #[55, 131, 125, 114]] #[{ accessFlags := 1, nameIndex := 5, descriptorIndex := 6, attributes := #[] }, { accessFlags := 9, nameIndex := 33, descriptorIndex := 178, attributes := #[] }] 33 2 #[] #[{ accessFlags := 25, nameIndex := 123, descriptorIndex := 124, attributes := #[] }, { accessFlags := 25, nameIndex := 130, descriptorIndex := 124, attributes := #[] }, { accessFlags := 25, nameIndex := 136, descriptorIndex := 124, attributes := #[] }])
  fields := #[{ name := "SIOOBE_FORMATTER", type := (.object "java/util/function/BiFunction"), accessFlags := 25, slot := 0, constantValue := 0 }, { name := "AIOOBE_FORMATTER", type := (.object "java/util/function/BiFunction"), accessFlags := 25, slot := 1, constantValue := 0 }, { name := "IOOBE_FORMATTER", type := (.object "java/util/function/BiFunction"), accessFlags := 25, slot := 2, constantValue := 0 }]
  methods := #[k14m0, k14m1]
  instanceTypes := #[]
  staticTypes := #[(.object "java/util/function/BiFunction"), (.object "java/util/function/BiFunction"), (.object "java/util/function/BiFunction")]
  resolved := Array.replicate 194 none
  statics := none }

def pool15 : Array CpInfo := pool [(2, .class_ 4), (1, u "java/lang/Object"), (0, u "<init>"), (0, u "()V"), (7, .class_ 16), (1, u "java/util/Arrays"), (57, .class_ 76), (1, u "java/util/Arrays$NaturalOrder"), (36, .class_ 115), (1, u "java/util/Arrays$LegacyMergeSort"), (1, u "Z"), (257, .class_ 376), (0, u "java/util/Arrays$ArrayList"), (68, u "$assertionsDisabled"), (269, u "MIN_ARRAY_SORT_GRAN"), (0, u "I"), (2, u "INSERTIONSORT_THRESHOLD"), (120, u "fill"), (4, u "([II)V"), (129, .class_ 976), (0, u "java/util/Arrays$ArrayItr")] 52

def k15m0 : Method := { name := "<init>", desc := "()V", sig := { parameters := [], returnType := none }, accessFlags := 2, code := none }
def k15c1 : Code := { maxStack := 3, maxLocals := 4, code := jdk_65_method_103_code, exceptionTable := #[], attributes := #[] }
def k15m1 : Method := { name := "fill", desc := "([II)V", sig := { parameters := [(.array .int), .int], returnType := none }, accessFlags := 9, code := some k15c1 }
/-- java/util/Arrays -/
def k15 : Class := { plain "java/util/Arrays" (some 0) with
  accessFlags := 49
  interfaces := #[]
  cf := some (fileOf pool15 14 #[.nestMembers #[975, 375, 113, 74]] #[{ accessFlags := 2, nameIndex := 5, descriptorIndex := 6, attributes := #[] }, { accessFlags := 9, nameIndex := 840, descriptorIndex := 845, attributes := #[] }] 49 2 #[] #[{ accessFlags := 26, nameIndex := 715, descriptorIndex := 716, attributes := #[] }, { accessFlags := 26, nameIndex := 719, descriptorIndex := 716, attributes := #[] }, { accessFlags := 4120, nameIndex := 445, descriptorIndex := 117, attributes := #[] }])
  fields := #[{ name := "MIN_ARRAY_SORT_GRAN", type := .int, accessFlags := 26, slot := 0, constantValue := 0 }, { name := "INSERTIONSORT_THRESHOLD", type := .int, accessFlags := 26, slot := 1, constantValue := 0 }, { name := "$assertionsDisabled", type := .boolean, accessFlags := 4120, slot := 2, constantValue := 0 }]
  methods := #[k15m0, k15m1]
  instanceTypes := #[]
  staticTypes := #[.int, .int, .boolean]
  resolved := Array.replicate 1029 none
  statics := none }

def pool16 : Array CpInfo := pool [(2, .class_ 4), (1, u "java/lang/Object"), (0, u "<init>"), (0, u "()V"), (0, .methodref 8 9), (0, .class_ 10), (0, .nameAndType 11 12), (0, u "com/example/flatfinder/flatfinder/neighbours/Selection"), (0, u "median"), (0, u "(DDD)D"), (0, .methodref 14 15), (0, .class_ 16), (0, .nameAndType 17 18), (0, u "java/lang/Math"), (0, u "min"), (0, u "(DD)D"), (0, .methodref 14 20), (0, .nameAndType 21 18), (0, u "max"), (2, u "kthSmallest"), (0, u "([DII)D")] 3

def k16m0 : Method := { name := "<init>", desc := "()V", sig := { parameters := [], returnType := none }, accessFlags := 2, code := none }
def k16c1 : Code := { maxStack := 6, maxLocals := 12, code := prog_67_method_2_code, exceptionTable := #[], attributes := #[] }
def k16m1 : Method := { name := "kthSmallest", desc := "([DII)D", sig := { parameters := [(.array .double), .int, .int], returnType := some .double }, accessFlags := 8, code := some k16c1 }
def k16c2 : Code := { maxStack := 6, maxLocals := 6, code := prog_67_method_3_code, exceptionTable := #[], attributes := #[] }
def k16m2 : Method := { name := "median", desc := "(DDD)D", sig := { parameters := [.double, .double, .double], returnType := some .double }, accessFlags := 10, code := some k16c2 }
/-- com/example/flatfinder/flatfinder/neighbours/Selection -/
def k16 : Class := { plain "com/example/flatfinder/flatfinder/neighbours/Selection" (some 0) with
  accessFlags := 48
  interfaces := #[]
  cf := some (fileOf pool16 8 #[] #[{ accessFlags := 2, nameIndex := 5, descriptorIndex := 6, attributes := #[] }, { accessFlags := 8, nameIndex := 24, descriptorIndex := 25, attributes := #[] }, { accessFlags := 10, nameIndex := 11, descriptorIndex := 12, attributes := #[] }] 48 2 #[] #[])
  fields := #[]
  methods := #[k16m0, k16m1, k16m2]
  instanceTypes := #[]
  staticTypes := #[]
  resolved := Array.replicate 29 none
  statics := none }

/-- the primitive byte -/
def k17 : Class := { plain "byte" none with kind := .primitive 'B', accessFlags := 0x411 }
/-- [B -/
def k18 : Class := { plain "[B" (some 0) with kind := .array 17 .byte, interfaces := #[10, 3], accessFlags := 1041 }

/-- the primitive int -/
def k19 : Class := { plain "int" none with kind := .primitive 'I', accessFlags := 0x411 }
/-- [I -/
def k20 : Class := { plain "[I" (some 0) with kind := .array 19 .int, interfaces := #[10, 3], accessFlags := 1041 }

/-- the primitive double -/
def k21 : Class := { plain "double" none with kind := .primitive 'D', accessFlags := 0x411 }
/-- [D -/
def k22 : Class := { plain "[D" (some 0) with kind := .array 21 .double, interfaces := #[10, 3], accessFlags := 1041 }
def heap : Heap := #[]
def classes : Array Class := #[k0, k1, k2, k3, k4, k5, k6, k7, k8, k9, k10, k11, k12, k13, k14, k15, k16, k17, k18, k19, k20, k21, k22]
def interned : List (Array UInt16 × Addr) := []
def slotsUsed : Nat := 0
def theMethod : MethodId := ⟨1, 1⟩
def args0 : Array Value := #[.int 1, .int 1, .int 1, .int 1, .int 1, .int 1]
def aboutOver (below : List Frame) : State where
  vm := { classes := classes, interned := interned.toArray }
  heap := heap
  slotsUsed := slotsUsed
  threads := #[{ frames := .invoking theMethod args0 :: below }]
def below0 : List Frame := [.native { method := ⟨0, 0⟩, args := #[] }]
def about1 : State := aboutOver below0
def p0 : Program := .bare "" "" ""
def e0 : Env := launch0.env 0 0 0
theorem w_frames : about1.frames = Frame.invoking theMethod args0 :: below0 := rfl
set_option maxRecDepth 65536 in
theorem w_args : argsFit about1.vm theMethod args0 = true := by decide +kernel
set_option maxRecDepth 65536 in
theorem w_heap : heapFits about1 = true := by decide +kernel
set_option maxRecDepth 65536 in
theorem w_runnable : about1.curStatus? = some .runnable := by decide +kernel
set_option maxRecDepth 65536 in
theorem w_alone : about1.alone = true := by decide +kernel
set_option maxRecDepth 65536 in
theorem w_named : about1.methodNamed? x = some theMethod := by decide +kernel
set_option maxRecDepth 65536 in
theorem w_hears : about1.hears theMethod below0 = true := by decide +kernel
set_option maxRecDepth 65536 in
theorem w_ripe : about1.ripe theMethod args0 below0 = true := by decide +kernel
theorem w_running : about1.status = .running := rfl
set_option maxRecDepth 65536 in
theorem w_room : about1.hasRoom e0.platform room_1 = true :=
  launch0.hasRoom_least _ room_1 (by decide +kernel) (by decide +kernel) (by decide +kernel) (by decide +kernel) (by decide +kernel) (by decide +kernel)
theorem allAtoms_all (ts : List Jvm.Cond) (a : Array Jvm.Value) (st : Jvm.State) : (allAtoms ts).before a st = ts.all (fun c => c.before a st) := by
  induction ts with
  | nil => rfl
  | cons c t ih =>
    show (Jvm.Cond.and c (allAtoms t)).before a st = _
    rw [Jvm.Cond.before_and, ih, List.all_cons]
def words1 : List Jvm.Cond := Jvm.Cond.code x code maxLocals ret :: tables_1
/-- a 'code' word, met by the world's own term for the bytes: nothing is compared byte by byte -/
theorem code_word {y : MethodName} {bytes : ByteArray} {mx : Nat} {rt : Option FieldType} {a : Array Value} {s : State} {m : MethodId} {meth : Method} {c : Code} (h1 : s.methodNamed? y = some m) (h2 : s.vm.method? m = some meth) (h3 : meth.code = some c) (h4 : c.code = bytes)
    (h5 : (c.maxLocals == mx && c.exceptionTable.isEmpty && decide (c.maxStack ≤ mostOperands) && decide (meth.sig.returnType = rt) && !meth.locks && decide (parseMethodDescriptor y.desc = some meth.sig)) = true) : (Jvm.Cond.code y bytes mx rt).before a s = true := by
  simp only [Bool.and_eq_true, beq_iff_eq, Bool.not_eq_true', decide_eq_true_eq] at h5
  obtain ⟨⟨⟨⟨⟨g1, g2⟩, g3⟩, g4⟩, g5⟩, g6⟩ := h5
  simp [Cond.before, Cond.holds, Cond.value, h1, h2, h3, h4, g1, g2, g3, g4, g5, g6]
def isCode : Jvm.Cond → Bool
  | .code _ _ _ _ => true
  | _ => false
theorem all_split {L : List Jvm.Cond} {P : Jvm.Cond → Bool} (h1 : L.all (fun c => isCode c || P c) = true) (h2 : ∀ c ∈ L.filter isCode, P c = true) : L.all P = true := by
  refine List.all_eq_true.mpr fun c hc => ?_
  have h := List.all_eq_true.mp h1 c hc
  rcases Bool.eq_false_or_eq_true (isCode c) with hi | hi
  · exact h2 c (List.mem_filter.mpr ⟨hc, hi⟩)
  · simpa [hi] using h
set_option maxRecDepth 65536 in
theorem w_c0 : (Jvm.Cond.code x code maxLocals ret).before args0 about1 = true := code_word (m := ⟨1, 1⟩) (meth := k1m1) (c := k1c1) (by decide +kernel) rfl rfl rfl (by decide +kernel)
set_option maxRecDepth 65536 in
theorem w_c1 : (Jvm.Cond.code ({ cls := "com/example/flatfinder/flatfinder/neighbours/Points", name := "<init>", desc := "(I[D)V" } : Jvm.MethodName) prog_66_method_1_code (8 : Nat) (Option.none : Option Jvm.ClassFile.FieldType)).before args0 about1 = true := code_word (m := ⟨2, 0⟩) (meth := k2m0) (c := k2c0) (by decide +kernel) rfl rfl rfl (by decide +kernel)
set_option maxRecDepth 65536 in
theorem w_c2 : (Jvm.Cond.code ({ cls := "java/lang/Object", name := "<init>", desc := "()V" } : Jvm.MethodName) object_method_1_code (1 : Nat) (Option.none : Option Jvm.ClassFile.FieldType)).before args0 about1 = true := code_word (m := ⟨0, 0⟩) (meth := k0m0) (c := k0c0) (by decide +kernel) rfl rfl rfl (by decide +kernel)
set_option maxRecDepth 65536 in
theorem w_c3 : (Jvm.Cond.code ({ cls := "java/lang/Double", name := "isFinite", desc := "(D)Z" } : Jvm.MethodName) jdk_117_method_8_code (2 : Nat) (Option.some Jvm.ClassFile.FieldType.boolean)).before args0 about1 = true := code_word (m := ⟨8, 0⟩) (meth := k8m0) (c := k8c0) (by decide +kernel) rfl rfl rfl (by decide +kernel)
set_option maxRecDepth 65536 in
theorem w_c4 : (Jvm.Cond.code ({ cls := "java/lang/Math", name := "abs", desc := "(D)D" } : Jvm.MethodName) jdk_29_method_64_code (2 : Nat) (Option.some Jvm.ClassFile.FieldType.double)).before args0 about1 = true := code_word (m := ⟨9, 1⟩) (meth := k9m1) (c := k9c1) (by decide +kernel) rfl rfl rfl (by decide +kernel)
set_option maxRecDepth 65536 in
theorem w_c5 : (Jvm.Cond.code ({ cls := "com/example/flatfinder/flatfinder/neighbours/KdTree", name := "<init>", desc := "(Lcom/example/flatfinder/flatfinder/neighbours/Points;[I)V" } : Jvm.MethodName) prog_53_method_1_code (10 : Nat) (Option.none : Option Jvm.ClassFile.FieldType)).before args0 about1 = true := code_word (m := ⟨11, 0⟩) (meth := k11m0) (c := k11c0) (by decide +kernel) rfl rfl rfl (by decide +kernel)
set_option maxRecDepth 65536 in
theorem w_c6 : (Jvm.Cond.code ({ cls := "com/example/flatfinder/flatfinder/neighbours/Points", name := "dimensions", desc := "()I" } : Jvm.MethodName) prog_66_method_3_code (1 : Nat) (Option.some Jvm.ClassFile.FieldType.int)).before args0 about1 = true := code_word (m := ⟨2, 2⟩) (meth := k2m2) (c := k2c2) (by decide +kernel) rfl rfl rfl (by decide +kernel)
set_option maxRecDepth 65536 in
theorem w_c7 : (Jvm.Cond.code ({ cls := "com/example/flatfinder/flatfinder/neighbours/KdTree$Builder", name := "<init>", desc := "(Lcom/example/flatfinder/flatfinder/neighbours/KdTree;)V" } : Jvm.MethodName) prog_54_method_1_code (2 : Nat) (Option.none : Option Jvm.ClassFile.FieldType)).before args0 about1 = true := code_word (m := ⟨12, 0⟩) (meth := k12m0) (c := k12c0) (by decide +kernel) rfl rfl rfl (by decide +kernel)
set_option maxRecDepth 65536 in
theorem w_c8 : (Jvm.Cond.code ({ cls := "com/example/flatfinder/flatfinder/neighbours/KdTree$Builder", name := "build", desc := "(III)V" } : Jvm.MethodName) prog_54_method_2_code (17 : Nat) (Option.none : Option Jvm.ClassFile.FieldType)).before args0 about1 = true := code_word (m := ⟨12, 1⟩) (meth := k12m1) (c := k12c1) (by decide +kernel) rfl rfl rfl (by decide +kernel)
set_option maxRecDepth 65536 in
theorem w_c9 : (Jvm.Cond.code ({ cls := "java/lang/Math", name := "max", desc := "(II)I" } : Jvm.MethodName) jdk_29_method_65_code (2 : Nat) (Option.some Jvm.ClassFile.FieldType.int)).before args0 about1 = true := code_word (m := ⟨9, 2⟩) (meth := k9m2) (c := k9c2) (by decide +kernel) rfl rfl rfl (by decide +kernel)
set_option maxRecDepth 65536 in
theorem w_c10 : (Jvm.Cond.code ({ cls := "com/example/flatfinder/flatfinder/neighbours/Points", name := "coordinate", desc := "(II)D" } : Jvm.MethodName) prog_66_method_4_code (3 : Nat) (Option.some Jvm.ClassFile.FieldType.double)).before args0 about1 = true := code_word (m := ⟨2, 3⟩) (meth := k2m3) (c := k2c3) (by decide +kernel) rfl rfl rfl (by decide +kernel)
set_option maxRecDepth 65536 in
theorem w_c11 : (Jvm.Cond.code ({ cls := "java/util/Objects", name := "checkIndex", desc := "(II)I" } : Jvm.MethodName) jdk_31_method_17_code (2 : Nat) (Option.some Jvm.ClassFile.FieldType.int)).before args0 about1 = true := code_word (m := ⟨13, 1⟩) (meth := k13m1) (c := k13c1) (by decide +kernel) rfl rfl rfl (by decide +kernel)
set_option maxRecDepth 65536 in
theorem w_c12 : (Jvm.Cond.code ({ cls := "jdk/internal/util/Preconditions", name := "checkIndex", desc := "(IILjava/util/function/BiFunction;)I" } : Jvm.MethodName) jdk_41_method_11_code (3 : Nat) (Option.some Jvm.ClassFile.FieldType.int)).before args0 about1 = true := code_word (m := ⟨14, 1⟩) (meth := k14m1) (c := k14c1) (by decide +kernel) rfl rfl rfl (by decide +kernel)
set_option maxRecDepth 65536 in
theorem w_c13 : (Jvm.Cond.code ({ cls := "java/lang/Math", name := "min", desc := "(DD)D" } : Jvm.MethodName) jdk_29_method_72_code (4 : Nat) (Option.some Jvm.ClassFile.FieldType.double)).before args0 about1 = true := code_word (m := ⟨9, 4⟩) (meth := k9m4) (c := k9c4) (by decide +kernel) rfl rfl rfl (by decide +kernel)
set_option maxRecDepth 65536 in
theorem w_c14 : (Jvm.Cond.code ({ cls := "java/lang/Math", name := "max", desc := "(DD)D" } : Jvm.MethodName) jdk_29_method_68_code (4 : Nat) (Option.some Jvm.ClassFile.FieldType.double)).before args0 about1 = true := code_word (m := ⟨9, 3⟩) (meth := k9m3) (c := k9c3) (by decide +kernel) rfl rfl rfl (by decide +kernel)
set_option maxRecDepth 65536 in
theorem w_c15 : (Jvm.Cond.code ({ cls := "com/example/flatfinder/flatfinder/neighbours/Points", name := "size", desc := "()I" } : Jvm.MethodName) prog_66_method_2_code (1 : Nat) (Option.some Jvm.ClassFile.FieldType.int)).before args0 about1 = true := code_word (m := ⟨2, 1⟩) (meth := k2m1) (c := k2c1) (by decide +kernel) rfl rfl rfl (by decide +kernel)
set_option maxRecDepth 65536 in
theorem w_c16 : (Jvm.Cond.code ({ cls := "java/util/Arrays", name := "fill", desc := "([II)V" } : Jvm.MethodName) jdk_65_method_103_code (4 : Nat) (Option.none : Option Jvm.ClassFile.FieldType)).before args0 about1 = true := code_word (m := ⟨15, 1⟩) (meth := k15m1) (c := k15c1) (by decide +kernel) rfl rfl rfl (by decide +kernel)
set_option maxRecDepth 65536 in
theorem w_c17 : (Jvm.Cond.code ({ cls := "com/example/flatfinder/flatfinder/neighbours/KdTree", name := "leafOf", desc := "(I)I" } : Jvm.MethodName) prog_53_method_9_code (3 : Nat) (Option.some Jvm.ClassFile.FieldType.int)).before args0 about1 = true := code_word (m := ⟨11, 4⟩) (meth := k11m4) (c := k11c4) (by decide +kernel) rfl rfl rfl (by decide +kernel)
set_option maxRecDepth 65536 in
theorem w_c18 : (Jvm.Cond.code ({ cls := "com/example/flatfinder/flatfinder/neighbours/KdTree", name := "boxes", desc := "()I" } : Jvm.MethodName) prog_53_method_3_code (1 : Nat) (Option.some Jvm.ClassFile.FieldType.int)).before args0 about1 = true := code_word (m := ⟨11, 1⟩) (meth := k11m1) (c := k11c1) (by decide +kernel) rfl rfl rfl (by decide +kernel)
set_option maxRecDepth 65536 in
theorem w_c19 : (Jvm.Cond.code ({ cls := "com/example/flatfinder/flatfinder/neighbours/KdTree", name := "isSplit", desc := "(I)Z" } : Jvm.MethodName) prog_53_method_10_code (2 : Nat) (Option.some Jvm.ClassFile.FieldType.boolean)).before args0 about1 = true := code_word (m := ⟨11, 5⟩) (meth := k11m5) (c := k11c5) (by decide +kernel) rfl rfl rfl (by decide +kernel)
set_option maxRecDepth 65536 in
theorem w_c20 : (Jvm.Cond.code ({ cls := "com/example/flatfinder/flatfinder/neighbours/KdTree", name := "first", desc := "(I)I" } : Jvm.MethodName) prog_53_method_7_code (2 : Nat) (Option.some Jvm.ClassFile.FieldType.int)).before args0 about1 = true := code_word (m := ⟨11, 2⟩) (meth := k11m2) (c := k11c2) (by decide +kernel) rfl rfl rfl (by decide +kernel)
set_option maxRecDepth 65536 in
theorem w_c21 : (Jvm.Cond.code ({ cls := "com/example/flatfinder/flatfinder/neighbours/KdTree", name := "end", desc := "(I)I" } : Jvm.MethodName) prog_53_method_8_code (2 : Nat) (Option.some Jvm.ClassFile.FieldType.int)).before args0 about1 = true := code_word (m := ⟨11, 3⟩) (meth := k11m3) (c := k11c3) (by decide +kernel) rfl rfl rfl (by decide +kernel)
set_option maxRecDepth 65536 in
theorem w_c22 : (Jvm.Cond.code ({ cls := "com/example/flatfinder/flatfinder/neighbours/KdTree$Builder", name := "partition", desc := "(IIII)V" } : Jvm.MethodName) prog_54_method_3_code (13 : Nat) (Option.none : Option Jvm.ClassFile.FieldType)).before args0 about1 = true := code_word (m := ⟨12, 2⟩) (meth := k12m2) (c := k12c2) (by decide +kernel) rfl rfl rfl (by decide +kernel)
set_option maxRecDepth 65536 in
theorem w_c23 : (Jvm.Cond.code ({ cls := "com/example/flatfinder/flatfinder/neighbours/Selection", name := "kthSmallest", desc := "([DII)D" } : Jvm.MethodName) prog_67_method_2_code (12 : Nat) (Option.some Jvm.ClassFile.FieldType.double)).before args0 about1 = true := code_word (m := ⟨16, 1⟩) (meth := k16m1) (c := k16c1) (by decide +kernel) rfl rfl rfl (by decide +kernel)
set_option maxRecDepth 65536 in
theorem w_c24 : (Jvm.Cond.code ({ cls := "com/example/flatfinder/flatfinder/neighbours/Selection", name := "median", desc := "(DDD)D" } : Jvm.MethodName) prog_67_method_3_code (6 : Nat) (Option.some Jvm.ClassFile.FieldType.double)).before args0 about1 = true := code_word (m := ⟨16, 2⟩) (meth := k16m2) (c := k16c2) (by decide +kernel) rfl rfl rfl (by decide +kernel)
set_option maxRecDepth 65536 in
theorem w_c25 : (Jvm.Cond.code ({ cls := "com/example/flatfinder/flatfinder/neighbours/KdTree$Builder", name := "swap", desc := "(II)V" } : Jvm.MethodName) prog_54_method_4_code (4 : Nat) (Option.none : Option Jvm.ClassFile.FieldType)).before args0 about1 = true := code_word (m := ⟨12, 3⟩) (meth := k12m3) (c := k12c3) (by decide +kernel) rfl rfl rfl (by decide +kernel)
def codes1 : List Jvm.Cond := [Jvm.Cond.code x code maxLocals ret, Jvm.Cond.code ({ cls := "com/example/flatfinder/flatfinder/neighbours/Points", name := "<init>", desc := "(I[D)V" } : Jvm.MethodName) prog_66_method_1_code (8 : Nat) (Option.none : Option Jvm.ClassFile.FieldType), Jvm.Cond.code ({ cls := "java/lang/Object", name := "<init>", desc := "()V" } : Jvm.MethodName) object_method_1_code (1 : Nat) (Option.none : Option Jvm.ClassFile.FieldType), Jvm.Cond.code ({ cls := "java/lang/Double", name := "isFinite", desc := "(D)Z" } : Jvm.MethodName) jdk_117_method_8_code (2 : Nat) (Option.some Jvm.ClassFile.FieldType.boolean), Jvm.Cond.code ({ cls := "java/lang/Math", name := "abs", desc := "(D)D" } : Jvm.MethodName) jdk_29_method_64_code (2 : Nat) (Option.some Jvm.ClassFile.FieldType.double), Jvm.Cond.code ({ cls := "com/example/flatfinder/flatfinder/neighbours/KdTree", name := "<init>", desc := "(Lcom/example/flatfinder/flatfinder/neighbours/Points;[I)V" } : Jvm.MethodName) prog_53_method_1_code (10 : Nat) (Option.none : Option Jvm.ClassFile.FieldType), Jvm.Cond.code ({ cls := "com/example/flatfinder/flatfinder/neighbours/Points", name := "dimensions", desc := "()I" } : Jvm.MethodName) prog_66_method_3_code (1 : Nat) (Option.some Jvm.ClassFile.FieldType.int), Jvm.Cond.code ({ cls := "com/example/flatfinder/flatfinder/neighbours/KdTree$Builder", name := "<init>", desc := "(Lcom/example/flatfinder/flatfinder/neighbours/KdTree;)V" } : Jvm.MethodName) prog_54_method_1_code (2 : Nat) (Option.none : Option Jvm.ClassFile.FieldType), Jvm.Cond.code ({ cls := "com/example/flatfinder/flatfinder/neighbours/KdTree$Builder", name := "build", desc := "(III)V" } : Jvm.MethodName) prog_54_method_2_code (17 : Nat) (Option.none : Option Jvm.ClassFile.FieldType), Jvm.Cond.code ({ cls := "java/lang/Math", name := "max", desc := "(II)I" } : Jvm.MethodName) jdk_29_method_65_code (2 : Nat) (Option.some Jvm.ClassFile.FieldType.int), Jvm.Cond.code ({ cls := "com/example/flatfinder/flatfinder/neighbours/Points", name := "coordinate", desc := "(II)D" } : Jvm.MethodName) prog_66_method_4_code (3 : Nat) (Option.some Jvm.ClassFile.FieldType.double), Jvm.Cond.code ({ cls := "java/util/Objects", name := "checkIndex", desc := "(II)I" } : Jvm.MethodName) jdk_31_method_17_code (2 : Nat) (Option.some Jvm.ClassFile.FieldType.int), Jvm.Cond.code ({ cls := "jdk/internal/util/Preconditions", name := "checkIndex", desc := "(IILjava/util/function/BiFunction;)I" } : Jvm.MethodName) jdk_41_method_11_code (3 : Nat) (Option.some Jvm.ClassFile.FieldType.int), Jvm.Cond.code ({ cls := "java/lang/Math", name := "min", desc := "(DD)D" } : Jvm.MethodName) jdk_29_method_72_code (4 : Nat) (Option.some Jvm.ClassFile.FieldType.double), Jvm.Cond.code ({ cls := "java/lang/Math", name := "max", desc := "(DD)D" } : Jvm.MethodName) jdk_29_method_68_code (4 : Nat) (Option.some Jvm.ClassFile.FieldType.double), Jvm.Cond.code ({ cls := "com/example/flatfinder/flatfinder/neighbours/Points", name := "size", desc := "()I" } : Jvm.MethodName) prog_66_method_2_code (1 : Nat) (Option.some Jvm.ClassFile.FieldType.int), Jvm.Cond.code ({ cls := "java/util/Arrays", name := "fill", desc := "([II)V" } : Jvm.MethodName) jdk_65_method_103_code (4 : Nat) (Option.none : Option Jvm.ClassFile.FieldType), Jvm.Cond.code ({ cls := "com/example/flatfinder/flatfinder/neighbours/KdTree", name := "leafOf", desc := "(I)I" } : Jvm.MethodName) prog_53_method_9_code (3 : Nat) (Option.some Jvm.ClassFile.FieldType.int), Jvm.Cond.code ({ cls := "com/example/flatfinder/flatfinder/neighbours/KdTree", name := "boxes", desc := "()I" } : Jvm.MethodName) prog_53_method_3_code (1 : Nat) (Option.some Jvm.ClassFile.FieldType.int), Jvm.Cond.code ({ cls := "com/example/flatfinder/flatfinder/neighbours/KdTree", name := "isSplit", desc := "(I)Z" } : Jvm.MethodName) prog_53_method_10_code (2 : Nat) (Option.some Jvm.ClassFile.FieldType.boolean), Jvm.Cond.code ({ cls := "com/example/flatfinder/flatfinder/neighbours/KdTree", name := "first", desc := "(I)I" } : Jvm.MethodName) prog_53_method_7_code (2 : Nat) (Option.some Jvm.ClassFile.FieldType.int), Jvm.Cond.code ({ cls := "com/example/flatfinder/flatfinder/neighbours/KdTree", name := "end", desc := "(I)I" } : Jvm.MethodName) prog_53_method_8_code (2 : Nat) (Option.some Jvm.ClassFile.FieldType.int), Jvm.Cond.code ({ cls := "com/example/flatfinder/flatfinder/neighbours/KdTree$Builder", name := "partition", desc := "(IIII)V" } : Jvm.MethodName) prog_54_method_3_code (13 : Nat) (Option.none : Option Jvm.ClassFile.FieldType), Jvm.Cond.code ({ cls := "com/example/flatfinder/flatfinder/neighbours/Selection", name := "kthSmallest", desc := "([DII)D" } : Jvm.MethodName) prog_67_method_2_code (12 : Nat) (Option.some Jvm.ClassFile.FieldType.double), Jvm.Cond.code ({ cls := "com/example/flatfinder/flatfinder/neighbours/Selection", name := "median", desc := "(DDD)D" } : Jvm.MethodName) prog_67_method_3_code (6 : Nat) (Option.some Jvm.ClassFile.FieldType.double), Jvm.Cond.code ({ cls := "com/example/flatfinder/flatfinder/neighbours/KdTree$Builder", name := "swap", desc := "(II)V" } : Jvm.MethodName) prog_54_method_4_code (4 : Nat) (Option.none : Option Jvm.ClassFile.FieldType)]
set_option maxRecDepth 65536 in
theorem codes_eq : words1.filter isCode = codes1 := rfl
theorem w_codes : ∀ c ∈ words1.filter isCode, c.before args0 about1 = true := by
  rw [codes_eq]
  intro c hc
  simp only [codes1, List.mem_cons, List.not_mem_nil, or_false] at hc
  rcases hc with rfl | rfl | rfl | rfl | rfl | rfl | rfl | rfl | rfl | rfl | rfl | rfl | rfl | rfl | rfl | rfl | rfl | rfl | rfl | rfl | rfl | rfl | rfl | rfl | rfl | rfl
  · exact w_c0
  · exact w_c1
  · exact w_c2
  · exact w_c3
  · exact w_c4
  · exact w_c5
  · exact w_c6
  · exact w_c7
  · exact w_c8
  · exact w_c9
  · exact w_c10
  · exact w_c11
  · exact w_c12
  · exact w_c13
  · exact w_c14
  · exact w_c15
  · exact w_c16
  · exact w_c17
  · exact w_c18
  · exact w_c19
  · exact w_c20
  · exact w_c21
  · exact w_c22
  · exact w_c23
  · exact w_c24
  · exact w_c25
set_option maxRecDepth 65536 in
theorem w_t1 : (words1.take 24).all (fun c => isCode c || c.before args0 about1) = true := by decide +kernel
set_option maxRecDepth 65536 in
theorem w_t2 : ((words1.drop 24).take 24).all (fun c => isCode c || c.before args0 about1) = true := by decide +kernel
set_option maxRecDepth 65536 in
theorem w_t3 : (((words1.drop 24).drop 24).take 24).all (fun c => isCode c || c.before args0 about1) = true := by decide +kernel
set_option maxRecDepth 65536 in
theorem w_t4 : ((((words1.drop 24).drop 24).drop 24).take 24).all (fun c => isCode c || c.before args0 about1) = true := by decide +kernel
set_option maxRecDepth 65536 in
theorem w_t5 : (((((words1.drop 24).drop 24).drop 24).drop 24).take 24).all (fun c => isCode c || c.before args0 about1) = true := by decide +kernel
set_option maxRecDepth 65536 in
theorem w_t6 : ((((((words1.drop 24).drop 24).drop 24).drop 24).drop 24).take 24).all (fun c => isCode c || c.before args0 about1) = true := by decide +kernel
set_option maxRecDepth 65536 in
theorem w_t7 : (((((((words1.drop 24).drop 24).drop 24).drop 24).drop 24).drop 24).take 24).all (fun c => isCode c || c.before args0 about1) = true := by decide +kernel
set_option maxRecDepth 65536 in
theorem w_t8 : (((((((words1.drop 24).drop 24).drop 24).drop 24).drop 24).drop 24).drop 24).all (fun c => isCode c || c.before args0 about1) = true := by decide +kernel
theorem w_tables : (allAtoms (Jvm.Cond.code x code maxLocals ret :: tables_1)).before args0 about1 = true := by
  rw [allAtoms_all]
  show words1.all (fun c => c.before args0 about1) = true
  refine all_split ?_ w_codes
  rw [← List.take_append_drop 24 words1, List.all_append, w_t1, ← List.take_append_drop 24 (words1.drop 24), List.all_append, w_t2, ← List.take_append_drop 24 ((words1.drop 24).drop 24), List.all_append, w_t3, ← List.take_append_drop 24 (((words1.drop 24).drop 24).drop 24), List.all_append, w_t4, ← List.take_append_drop 24 ((((words1.drop 24).drop 24).drop 24).drop 24), List.all_append, w_t5, ← List.take_append_drop 24 (((((words1.drop 24).drop 24).drop 24).drop 24).drop 24), List.all_append, w_t6, ← List.take_append_drop 24 ((((((words1.drop 24).drop 24).drop 24).drop 24).drop 24).drop 24), List.all_append, w_t7, w_t8]
  rfl
set_option maxRecDepth 65536 in
theorem w_case : (Jvm.Cond.and given_1 narrow_1).before args0 about1 = true := by decide +kernel
theorem w_applies : (headSpec (Jvm.Cond.code x code maxLocals ret :: tables_1) room_1).applies x e0.platform about1 = true :=
  (Spec.applies_iff w_frames).mpr ⟨w_running, w_runnable, w_alone, w_named, w_hears, w_ripe, w_room, w_tables⟩
theorem atStart : AtStart classFile x code maxLocals ret World_1 tables_1 room_1 Calls_1 rest_1 Pre_1 launch0 p0 e0 about1 theMethod args0 below0 :=
  ⟨lists_1, trivial, launch0.admits_env _ _ _, launch0.least_env, fairChoices_fair.cas, fairChoices_fair.clock, w_frames, w_args, w_heap, w_applies, trivial, trivial, w_case⟩
end start1
theorem witness_1 : WitnessClaimed_1 := ⟨start1.p0, start1.e0, start1.about1, start1.theMethod, start1.args0, start1.below0, start1.atStart⟩
end Jvm.Pilot.@@N@@
