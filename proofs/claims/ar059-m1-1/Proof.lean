import JvmDerived
import JvmDerived.Pilot.@@N@@Statement
import JvmDerived.Pilot.@@N@@Code
set_option linter.unusedVariables false
set_option linter.unusedSimpArgs false
namespace Jvm.RoadKit
open Sem ClassFile Op Lib Jvm.Stand Jvm.Free Jvm.LawKit
section New
variable {p : Program} {l : Launch} {e : Env} {R : Room} {s : State} {m : MethodId} {args : Array Value} {below : List Frame} {meth : Method} {c : Code} {T : State} {locs : List Loc} {cells slots : Nat}
theorem retI (X : Stand p l e R s m args below meth c T locs cells slots) (hx : p.tables.exec = Jvm.exec) {pc : Nat} {Ls : Array Slot} {z : Int32} {rest : List Value} (hret : meth.sig.returnType = some .int) (hd : decode c.code pc = .ok (.ireturn, 1)) {fs : List Frame}
    (hl : ∀ (f : JFrame) (acts : List Action), f.method = m → f.locked = none → f.entered = [] → (doReturn e (T.setTop f) acts (some (.int z))).1 = T.setFrames fs) : Steps p.tables e below (T.setTop (mkF m pc Ls (.int z :: rest))) (T.setFrames fs) := by
  have hm' : T.vm.method? m = some meth := X.method'
  have hn : narrow .int (.int z) = .int z := rfl
  show Steps p.tables e below (T.setTop { method := m, pc := pc, locals := Ls, stack := _ :: rest, locked := none }) _
  jvm_step X.here [X.here.top, hx, hd, hm', hret, hn]
  first | (intro acts; rw [hl _ acts rfl rfl rfl]) | rw [hl _ _ rfl rfl rfl]
  exact Steps.refl _
end New
end Jvm.RoadKit
namespace Jvm.Pilot.@@N@@
open Jvm Jvm.ClassFile Sem Op Lib Jvm.Free Jvm.Stand Jvm.LawKit Jvm.RoadKit Bundle Jvm.Pilot.@@N@@.Jvm.D

def own_Q (n0 : Nat) (v : Option Value) (h : Heap) (L : List Loc) : Prop := v = some (.int (1 : Int32)) ∧ Fr n0 L
/-- an ArrayList that holds nothing yet -/
def own_L0 (Z : State) (wD : Addr) (h : Heap) (a : Addr) : Prop := Exa Z h a "java/util/ArrayList" ∧ (∃ mc : Int32, Fld Z h a "java/util/AbstractList" "modCount" "I" (.int mc)) ∧ Fld Z h a "java/util/ArrayList" "size" "I" (.int (0 : Int32)) ∧ Fld Z h a "java/util/ArrayList" "elementData" "[Ljava/lang/Object;" (.ref wD)
/-- an ArrayList with k elements in an array of ten at b -/
def own_L1 (Z : State) (h : Heap) (a b : Addr) (k : Int32) (vs : List Value) : Prop := Exa Z h a "java/util/ArrayList" ∧ (∃ mc : Int32, Fld Z h a "java/util/AbstractList" "modCount" "I" (.int mc)) ∧ Fld Z h a "java/util/ArrayList" "size" "I" (.int k) ∧ Fld Z h a "java/util/ArrayList" "elementData" "[Ljava/lang/Object;" (.ref b) ∧ ∃ kc, Ovr Z kc "java/lang/Object" ∧ Arv Z h b kc (.object "java/lang/Object") (10 : Int32) vs .null
def own_Q4 (Z : State) (wD a1 : Addr) (h0 : Heap) (n0 : Nat) (v : Option Value) (h : Heap) (L : List Loc) : Prop := v = none ∧ Fr n0 L ∧ Keep h0 h [a1] ∧ own_L0 Z wD h a1
def own_Qv (w : Value) (h0 : Heap) (n0 : Nat) (v : Option Value) (h : Heap) (L : List Loc) : Prop := v = some w ∧ Fr n0 L ∧ h = h0
def own_Q10 (Z : State) (a1 : Addr) (mc k : Int32) (h0 : Heap) (n0 : Nat) (v : Option Value) (h : Heap) (L : List Loc) : Prop := ∃ b, v = some (.ref b) ∧ Fr n0 L ∧ Keep h0 h [a1] ∧ h0.size ≤ b ∧ Exa Z h a1 "java/util/ArrayList" ∧ Fld Z h a1 "java/util/AbstractList" "modCount" "I" (.int mc) ∧ Fld Z h a1 "java/util/ArrayList" "size" "I" (.int k) ∧ Fld Z h a1 "java/util/ArrayList" "elementData" "[Ljava/lang/Object;" (.ref b) ∧ ∃ kc, Ovr Z kc "java/lang/Object" ∧ Arv Z h b kc (.object "java/lang/Object") (10 : Int32) [.null, .null, .null, .null, .null, .null, .null, .null, .null, .null] .null
def own_Qa (Z : State) (w : Option Value) (wws : List Addr) (b : Addr) (a1 : Addr) (k : Int32) (vs : List Value) (h0 : Heap) (n0 : Nat) (v : Option Value) (h : Heap) (L : List Loc) : Prop := v = w ∧ Fr n0 L ∧ Keep h0 h wws ∧ own_L1 Z h a1 b k vs
def own_Qg (Z : State) (w : Option Value) (a1 : Addr) (vs : List Value) (h0 : Heap) (n0 : Nat) (v : Option Value) (h : Heap) (L : List Loc) : Prop := ∃ b, v = w ∧ Fr n0 L ∧ Keep h0 h [a1] ∧ h0.size ≤ b ∧ own_L1 Z h a1 b ((0 : Int32) + (1 : Int32)) vs
theorem own_na {Z : State} {h : Heap} {a b : Addr} {C : String} {k : ClassId} {ty : FieldType} {z : Int32} {vs : List Value} {dv : Value} {a0 : Array Value} {nn : Nat} (E : Exa Z h a C) (wi : (Jvm.Cond.instantiable C nn).before a0 Z = true) (V : Arv Z h b k ty z vs dv) : a ≠ b := by
  obtain ⟨c, A, -⟩ := V
  exact ne_arr E wi A
theorem own_L0_ext {Z : State} {wD a : Addr} {h h' : Heap} (E : Ext h h') (F : own_L0 Z wD h a) : own_L0 Z wD h' a := by
  obtain ⟨e, ⟨mc, f1⟩, f2, f3⟩ := F; exact ⟨e.ext E, ⟨mc, f1.ext E⟩, f2.ext E, f3.ext E⟩
theorem own_L1_ext {Z : State} {a b : Addr} {h h' : Heap} {k : Int32} {vs : List Value} (E : Ext h h') (F : own_L1 Z h a b k vs) : own_L1 Z h' a b k vs := by
  obtain ⟨e, ⟨mc, f1⟩, f2, f3, kc, o, v⟩ := F; exact ⟨e.ext E, ⟨mc, f1.ext E⟩, f2.ext E, f3.ext E, kc, o, v.ext E⟩
theorem own_ek {h1 h h' : Heap} {ws : List Addr} (E : Ext h1 h) (K : Keep h h' ws) (q : ∀ x ∈ ws, h1.size ≤ x) : Ext h1 h' :=
  ⟨Nat.le_trans E.1 K.1, fun x c r => K.2.1 x c (E.2 x c r) fun z => absurd (Array.getElem?_eq_some_iff.mp r).1 (Nat.not_lt.mpr (q x z))⟩
theorem d2_0 : decode jdk_30_method_1_code 0 = .ok (.aload_n 0, 1) := by decide +kernel
theorem d2_1 : decode jdk_30_method_1_code 1 = .ok (.invokespecial 1, 3) := by decide +kernel
theorem d2_4 : decode jdk_30_method_1_code 4 = .ok (.return_, 1) := by decide +kernel
theorem pn_2 : plainName "java/lang/Record" = true := by first | (simp [plainName, overriddenIn]; done) | decide +kernel
theorem ef_2 (m : MethodId) (x0 : Addr) : entryFrame m #[(.ref x0)] 1 = mkF m 0 #[.val (.ref x0)] [] := by first | (simp [entryFrame, mkF, argsToLocals, Value.category]; done) | rfl
def Q2 (Z : State) (a1 : Addr) (h0 : Heap) (n0 : Nat) (v : Option Value) (h : Heap) (L : List Loc) : Prop := v = none ∧ Fr n0 L ∧ h = h0
set_option maxRecDepth 65536 in
set_option maxHeartbeats 40000000 in
theorem rm2 (l : Launch) (Z : State) (a0 : Array Value) (hw : ∀ d ∈ tables_1, d.before a0 Z = true) (ws : List Jvm.Cond) (a1 : Addr) (h0 : Heap) (n0 : Nat) (Z0 : n0 ≤ h0.size) :
    MetFree l (⟨"java/lang/Record", "<init>", "()V"⟩ : MethodName) (head1 (Jvm.Cond.code (⟨"java/lang/Record", "<init>", "()V"⟩ : MethodName) jdk_30_method_1_code 1 none :: ws) ({ frames := 1, cells := 0, slots := 0, locals := 12 } : Room)) (fun a U => a = #[(.ref a1)] ∧ Z.Warmed39 U.vm ∧ U.heap = h0) (fun _ _ _ _ _ => True) (fun _ U o U' => ∃ v L, o = .returned v ∧ Q2 Z a1 h0 n0 v U'.heap L ∧ FrameEnd U o U' L ({ frames := 1, cells := 0, slots := 0, locals := 12 } : Room).cells ({ frames := 1, cells := 0, slots := 0, locals := 12 } : Room).slots) := by
  refine MetFree.of_bodySF (plainFor_of_name pn_2) hisR ?_
  intro p e s m args below meth c s₁ Bd hml0 hP hK
  obtain ⟨rfl, hZ, hh⟩ := hP
  have hx := Bd.exec
  have hby := Bd.bytes
  have hml : c.maxLocals = 1 := hml0
  have hown : s.vm.findClass "java/lang/Record" = some m.cls := findClass_of_methodNamed Bd.named
  have hnm := (name_of_methodNamed Bd.named Bd.method).1
  have X0 : Stand p l e ({ frames := 1, cells := 0, slots := 0, locals := 12 } : Room) s m #[(.ref a1)] below meth c s₁ [] 0 0 := Stand.of_body Bd
  have e0 : s₁.heap = h0 := by rw [← hh, Bd.state]; rfl
  have N0 := Fr.nil n0
  have pre0 : ∀ t, Steps p.tables e below (s₁.setTop (mkF m 0 #[.val (.ref a1)] [])) t → Steps p.tables e below (s₁.setTop (entryFrame m #[(.ref a1)] 1)) t := fun t k => castTop (ef_2 m a1) k
  obtain ⟨T2, X2, e2, st2⟩ := initO X0 hx hZ hown (hw _ (List.mem_of_getElem? (i := 11) rfl)) (hw _ (List.mem_of_getElem? (i := 12) rfl)) (hw _ (List.mem_of_getElem? (i := 13) rfl)) e0 (g := (mkF m 1 #[.val (.ref a1)] [(.ref a1)])) rfl (by rw [hml]; rfl) rfl (hb hby d2_1) (by decide) (W := 0) (by show 2 * 0 + _ ≤ _; exact Nat.le_of_eq rfl) (by decide)
  obtain ⟨fs, hr, hrun, hended, hW, hsame⟩ := X2.leave (v := none) (fun _ => rfl)
  refine ⟨_, _, pre0 _ ?_, hrun, hended, _, _, rfl, ?_, ⟨_, rfl⟩, hW, hsame.mono (by decide) (by decide)⟩
  · show Steps p.tables e below (s₁.setTop (mkF m 0 #[.val (.ref a1)] [])) _
    refine XS.aloadN X0.here hx rfl (hb hby d2_0) rfl rfl ?_
    show Steps p.tables e below (s₁.setTop (mkF m 1 #[.val (.ref a1)] [(.ref a1)])) _
    refine st2 _ ?_
    show Steps p.tables e below (T2.setTop (mkF m 4 #[.val (.ref a1)] [])) _
    exact X2.returnOut hx Bd.returns (hb hby d2_4) hr
  · show Q2 Z a1 h0 n0 _ T2.heap _
    rw [e2]
    exact ⟨rfl, N0, rfl⟩

theorem d6_0 : decode jdk_22_method_1_code 0 = .ok (.aload_n 0, 1) := by decide +kernel
theorem d6_1 : decode jdk_22_method_1_code 1 = .ok (.invokespecial 1, 3) := by decide +kernel
theorem d6_4 : decode jdk_22_method_1_code 4 = .ok (.return_, 1) := by decide +kernel
theorem pn_6 : plainName "java/util/AbstractCollection" = true := by first | (simp [plainName, overriddenIn]; done) | decide +kernel
theorem ef_6 (m : MethodId) (x0 : Addr) : entryFrame m #[(.ref x0)] 1 = mkF m 0 #[.val (.ref x0)] [] := by first | (simp [entryFrame, mkF, argsToLocals, Value.category]; done) | rfl
def Q6 (Z : State) (a1 : Addr) (h0 : Heap) (n0 : Nat) (v : Option Value) (h : Heap) (L : List Loc) : Prop := v = none ∧ Fr n0 L ∧ h = h0
set_option maxRecDepth 65536 in
set_option maxHeartbeats 40000000 in
theorem rm6 (l : Launch) (Z : State) (a0 : Array Value) (hw : ∀ d ∈ tables_1, d.before a0 Z = true) (ws : List Jvm.Cond) (a1 : Addr) (h0 : Heap) (n0 : Nat) (Z0 : n0 ≤ h0.size) :
    MetFree l (⟨"java/util/AbstractCollection", "<init>", "()V"⟩ : MethodName) (head1 (Jvm.Cond.code (⟨"java/util/AbstractCollection", "<init>", "()V"⟩ : MethodName) jdk_22_method_1_code 1 none :: ws) ({ frames := 1, cells := 0, slots := 0, locals := 12 } : Room)) (fun a U => a = #[(.ref a1)] ∧ Z.Warmed39 U.vm ∧ U.heap = h0) (fun _ _ _ _ _ => True) (fun _ U o U' => ∃ v L, o = .returned v ∧ Q6 Z a1 h0 n0 v U'.heap L ∧ FrameEnd U o U' L ({ frames := 1, cells := 0, slots := 0, locals := 12 } : Room).cells ({ frames := 1, cells := 0, slots := 0, locals := 12 } : Room).slots) := by
  refine MetFree.of_bodySF (plainFor_of_name pn_6) hisR ?_
  intro p e s m args below meth c s₁ Bd hml0 hP hK
  obtain ⟨rfl, hZ, hh⟩ := hP
  have hx := Bd.exec
  have hby := Bd.bytes
  have hml : c.maxLocals = 1 := hml0
  have hown : s.vm.findClass "java/util/AbstractCollection" = some m.cls := findClass_of_methodNamed Bd.named
  have hnm := (name_of_methodNamed Bd.named Bd.method).1
  have X0 : Stand p l e ({ frames := 1, cells := 0, slots := 0, locals := 12 } : Room) s m #[(.ref a1)] below meth c s₁ [] 0 0 := Stand.of_body Bd
  have e0 : s₁.heap = h0 := by rw [← hh, Bd.state]; rfl
  have N0 := Fr.nil n0
  have pre0 : ∀ t, Steps p.tables e below (s₁.setTop (mkF m 0 #[.val (.ref a1)] [])) t → Steps p.tables e below (s₁.setTop (entryFrame m #[(.ref a1)] 1)) t := fun t k => castTop (ef_6 m a1) k
  obtain ⟨T2, X2, e2, st2⟩ := initO X0 hx hZ hown (hw _ (List.mem_of_getElem? (i := 36) rfl)) (hw _ (List.mem_of_getElem? (i := 12) rfl)) (hw _ (List.mem_of_getElem? (i := 13) rfl)) e0 (g := (mkF m 1 #[.val (.ref a1)] [(.ref a1)])) rfl (by rw [hml]; rfl) rfl (hb hby d6_1) (by decide) (W := 0) (by show 2 * 0 + _ ≤ _; exact Nat.le_of_eq rfl) (by decide)
  obtain ⟨fs, hr, hrun, hended, hW, hsame⟩ := X2.leave (v := none) (fun _ => rfl)
  refine ⟨_, _, pre0 _ ?_, hrun, hended, _, _, rfl, ?_, ⟨_, rfl⟩, hW, hsame.mono (by decide) (by decide)⟩
  · show Steps p.tables e below (s₁.setTop (mkF m 0 #[.val (.ref a1)] [])) _
    refine XS.aloadN X0.here hx rfl (hb hby d6_0) rfl rfl ?_
    show Steps p.tables e below (s₁.setTop (mkF m 1 #[.val (.ref a1)] [(.ref a1)])) _
    refine st2 _ ?_
    show Steps p.tables e below (T2.setTop (mkF m 4 #[.val (.ref a1)] [])) _
    exact X2.returnOut hx Bd.returns (hb hby d6_4) hr
  · show Q6 Z a1 h0 n0 _ T2.heap _
    rw [e2]
    exact ⟨rfl, N0, rfl⟩

theorem d5_0 : decode jdk_39_method_1_code 0 = .ok (.aload_n 0, 1) := by decide +kernel
theorem d5_1 : decode jdk_39_method_1_code 1 = .ok (.invokespecial 1, 3) := by decide +kernel
theorem d5_4 : decode jdk_39_method_1_code 4 = .ok (.aload_n 0, 1) := by decide +kernel
theorem d5_5 : decode jdk_39_method_1_code 5 = .ok (.iconst 0, 1) := by decide +kernel
theorem d5_6 : decode jdk_39_method_1_code 6 = .ok (.putfield 7, 3) := by decide +kernel
theorem d5_9 : decode jdk_39_method_1_code 9 = .ok (.return_, 1) := by decide +kernel
theorem pn_5 : plainName "java/util/AbstractList" = true := by first | (simp [plainName, overriddenIn]; done) | decide +kernel
theorem pd_5_1 : parseMethodDescriptor "()V" = some ⟨[], none⟩ := by decide +kernel
theorem ef_5 (m : MethodId) (x0 : Addr) : entryFrame m #[(.ref x0)] 1 = mkF m 0 #[.val (.ref x0)] [] := by first | (simp [entryFrame, mkF, argsToLocals, Value.category]; done) | rfl
def Q5 (Z : State) (a1 : Addr) (u_mc : Value) (h0 : Heap) (n0 : Nat) (v : Option Value) (h : Heap) (L : List Loc) : Prop := v = none ∧ Fr n0 L ∧ Keep h0 h [a1] ∧ Exa Z h a1 "java/util/ArrayList" ∧ Fld Z h a1 "java/util/AbstractList" "modCount" "I" (.int (0 : Int32)) ∧ Fld Z h a1 "java/util/ArrayList" "size" "I" (.int (0 : Int32)) ∧ Fld Z h a1 "java/util/ArrayList" "elementData" "[Ljava/lang/Object;" .null
set_option maxRecDepth 65536 in
set_option maxHeartbeats 40000000 in
theorem rm5 (l : Launch) (Z : State) (a0 : Array Value) (hw : ∀ d ∈ tables_1, d.before a0 Z = true) (ws : List Jvm.Cond) (a1 : Addr) (u_mc : Value) (h0 : Heap) (n0 : Nat) (Z0 : n0 ≤ h0.size) (E_a1 : Exa Z h0 a1 "java/util/ArrayList") (F_modCount_a1 : Fld Z h0 a1 "java/util/AbstractList" "modCount" "I" u_mc) (F_size_a1 : Fld Z h0 a1 "java/util/ArrayList" "size" "I" (.int (0 : Int32))) (F_elementData_a1 : Fld Z h0 a1 "java/util/ArrayList" "elementData" "[Ljava/lang/Object;" .null) (g_a1 : n0 ≤ a1) :
    MetFree l (⟨"java/util/AbstractList", "<init>", "()V"⟩ : MethodName) (head1 (Jvm.Cond.code (⟨"java/util/AbstractList", "<init>", "()V"⟩ : MethodName) jdk_39_method_1_code 1 none :: ws) ({ frames := 2, cells := 0, slots := 0, locals := 24 } : Room)) (fun a U => a = #[(.ref a1)] ∧ Z.Warmed39 U.vm ∧ U.heap = h0) (fun _ _ _ _ _ => True) (fun _ U o U' => ∃ v L, o = .returned v ∧ Q5 Z a1 u_mc h0 n0 v U'.heap L ∧ FrameEnd U o U' L ({ frames := 2, cells := 0, slots := 0, locals := 24 } : Room).cells ({ frames := 2, cells := 0, slots := 0, locals := 24 } : Room).slots) := by
  refine MetFree.of_bodySF (plainFor_of_name pn_5) hisR ?_
  intro p e s m args below meth c s₁ Bd hml0 hP hK
  obtain ⟨rfl, hZ, hh⟩ := hP
  have hx := Bd.exec
  have hby := Bd.bytes
  have hml : c.maxLocals = 1 := hml0
  have hown : s.vm.findClass "java/util/AbstractList" = some m.cls := findClass_of_methodNamed Bd.named
  have hnm := (name_of_methodNamed Bd.named Bd.method).1
  have X0 : Stand p l e ({ frames := 2, cells := 0, slots := 0, locals := 24 } : Room) s m #[(.ref a1)] below meth c s₁ [] 0 0 := Stand.of_body Bd
  have e0 : s₁.heap = h0 := by rw [← hh, Bd.state]; rfl
  have N0 := Fr.nil n0
  have pre0 : ∀ t, Steps p.tables e below (s₁.setTop (mkF m 0 #[.val (.ref a1)] [])) t → Steps p.tables e below (s₁.setTop (entryFrame m #[(.ref a1)] 1)) t := fun t k => castTop (ef_5 m a1) k
  obtain ⟨_, _, ⟨T2, L2, k2, n2⟩, -, X2, ⟨Lc2, hQ2, l2, y2, z2⟩, st2⟩ := X0.specialBack hx (y := (⟨"java/util/AbstractCollection", "<init>", "()V"⟩ : MethodName)) rfl hown (mvT hZ (hw _ (List.mem_of_getElem? (i := 30) rfl))) (mvT hZ (hw _ (List.mem_of_getElem? (i := 31) rfl))) (mvT hZ (hw _ (List.mem_of_getElem? (i := 35) rfl))) (by decide) (backOf (W := 0) (rm6 l Z a0 hw [] a1 h0 n0 Z0) hZ (hw _ (List.mem_of_getElem? (i := 35) rfl)) (hw _ (List.mem_of_getElem? (i := 34) rfl)) (by decide) (by decide)) (g := (mkF m 1 #[.val (.ref a1)] [(.ref a1)])) rfl (by rw [hml]; rfl) (Steps.refl _) (a := a1) (argsL := []) (rest := []) (lenOf pd_5_1 rfl) rfl (by show 2 * 0 + _ ≤ _; exact Nat.le_of_eq rfl) (hb hby d5_1) (fun _ _ => ⟨rfl, e0, (by decide : 0 + 0 ≤ _), (by decide : 0 + 0 ≤ _)⟩)
  dsimp only [Pt.U, Pt.locs, Pt.cells, Pt.slots] at X2 l2 y2 z2 st2 hQ2
  subst l2 y2 z2
  obtain ⟨rfl, N2q, e2⟩ := hQ2
  have N2 := Fr.app N0 N2q
  obtain ⟨T3, h3, X3, e3, W3, st3⟩ := putF X2 hx hZ hown (host := "") (Or.inl (hw _ (List.mem_of_getElem? (i := 37) rfl))) Via.refl e2 F_modCount_a1 E_a1 (Or.inl (hw _ (List.mem_of_getElem? (i := 38) rfl))) (hw _ (List.mem_of_getElem? (i := 19) rfl)) (ty := .int) (by decide) rfl rfl (g := (mkF m 6 #[.val (.ref a1)] [(.int (0 : Int32)), (.ref a1)])) rfl rfl (hb hby d5_6)
  have Fw3 := F_modCount_a1.same W3
  have K3 : Keep h0 h3 [a1] := (Keep.refl h0 [a1]).wr W3 (Or.inl (List.mem_of_getElem? (i := 0) rfl))
  have N3 := Fr.snoc X3 N2 g_a1
  obtain ⟨fs, hr, hrun, hended, hW, hsame⟩ := X3.leave (v := none) (fun _ => rfl)
  refine ⟨_, _, pre0 _ ?_, hrun, hended, _, _, rfl, ?_, ⟨_, rfl⟩, hW, hsame.mono (by decide) (by decide)⟩
  · show Steps p.tables e below (s₁.setTop (mkF m 0 #[.val (.ref a1)] [])) _
    refine XS.aloadN X0.here hx rfl (hb hby d5_0) rfl rfl ?_
    show Steps p.tables e below (s₁.setTop (mkF m 1 #[.val (.ref a1)] [(.ref a1)])) _
    refine st2.trans ?_
    show Steps p.tables e below (T2.setTop (mkF m 4 #[.val (.ref a1)] [])) _
    refine XS.aloadN X2.here hx rfl (hb hby d5_4) rfl rfl ?_
    show Steps p.tables e below (T2.setTop (mkF m 5 #[.val (.ref a1)] [(.ref a1)])) _
    refine XS.iconst X2.here hx rfl (hb hby d5_5) ?_
    show Steps p.tables e below (T2.setTop (mkF m 6 #[.val (.ref a1)] [(.int (0 : Int32)), (.ref a1)])) _
    refine st3 _ ?_
    show Steps p.tables e below (T3.setTop (mkF m 9 #[.val (.ref a1)] [])) _
    exact X3.returnOut hx Bd.returns (hb hby d5_9) hr
  · show Q5 Z a1 u_mc h0 n0 _ T3.heap _
    rw [e3]
    exact ⟨rfl, N3, K3, (E_a1.wr W3), Fw3, (F_size_a1.other W3 (Or.inr (slot_ne (Or.inl (hw _ (List.mem_of_getElem? (i := 54) rfl))) (Or.inl (hw _ (List.mem_of_getElem? (i := 38) rfl))) (by decide) (t := .int) (t' := .int) (by decide) (by decide)))), (F_elementData_a1.other W3 (Or.inr (slot_ne (Or.inl (hw _ (List.mem_of_getElem? (i := 41) rfl))) (Or.inl (hw _ (List.mem_of_getElem? (i := 38) rfl))) (by decide) (t := (.array (.object "java/lang/Object"))) (t' := .int) (by decide) (by decide))))⟩

theorem d4_0 : decode jdk_38_method_2_code 0 = .ok (.aload_n 0, 1) := by decide +kernel
theorem d4_1 : decode jdk_38_method_2_code 1 = .ok (.invokespecial 1, 3) := by decide +kernel
theorem d4_4 : decode jdk_38_method_2_code 4 = .ok (.aload_n 0, 1) := by decide +kernel
theorem d4_5 : decode jdk_38_method_2_code 5 = .ok (.getstatic 39, 3) := by decide +kernel
theorem d4_8 : decode jdk_38_method_2_code 8 = .ok (.putfield 9, 3) := by decide +kernel
theorem d4_11 : decode jdk_38_method_2_code 11 = .ok (.return_, 1) := by decide +kernel
theorem pn_4 : plainName "java/util/ArrayList" = true := by first | (simp [plainName, overriddenIn]; done) | decide +kernel
theorem pd_4_1 : parseMethodDescriptor "()V" = some ⟨[], none⟩ := by decide +kernel
theorem ef_4 (m : MethodId) (x0 : Addr) : entryFrame m #[(.ref x0)] 1 = mkF m 0 #[.val (.ref x0)] [] := by first | (simp [entryFrame, mkF, argsToLocals, Value.category]; done) | rfl
set_option maxRecDepth 65536 in
set_option maxHeartbeats 40000000 in
theorem rm4 (l : Launch) (Z : State) (a0 : Array Value) (hw : ∀ d ∈ tables_1, d.before a0 Z = true) (ws : List Jvm.Cond) (a1 : Addr) (w3 : Addr) (u_mc : Value) (h0 : Heap) (n0 : Nat) (Z0 : n0 ≤ h0.size) (Od0 : Old Z n0 h0) (E_a1 : Exa Z h0 a1 "java/util/ArrayList") (F_modCount_a1 : Fld Z h0 a1 "java/util/AbstractList" "modCount" "I" u_mc) (F_size_a1 : Fld Z h0 a1 "java/util/ArrayList" "size" "I" (.int (0 : Int32))) (F_elementData_a1 : Fld Z h0 a1 "java/util/ArrayList" "elementData" "[Ljava/lang/Object;" .null) (S_DEFAULTCAPACITY_EMPTY_ELEMENTDATA : Sta Z Z.heap "java/util/ArrayList" "DEFAULTCAPACITY_EMPTY_ELEMENTDATA" "[Ljava/lang/Object;" (.ref w3)) (g_a1 : n0 ≤ a1) :
    MetFree l (⟨"java/util/ArrayList", "<init>", "()V"⟩ : MethodName) (head1 (Jvm.Cond.code (⟨"java/util/ArrayList", "<init>", "()V"⟩ : MethodName) jdk_38_method_2_code 1 none :: ws) ({ frames := 3, cells := 0, slots := 0, locals := 36 } : Room)) (fun a U => a = #[(.ref a1)] ∧ Z.Warmed39 U.vm ∧ U.heap = h0) (fun _ _ _ _ _ => True) (fun _ U o U' => ∃ v L, o = .returned v ∧ own_Q4 Z w3 a1 h0 n0 v U'.heap L ∧ FrameEnd U o U' L ({ frames := 3, cells := 0, slots := 0, locals := 36 } : Room).cells ({ frames := 3, cells := 0, slots := 0, locals := 36 } : Room).slots) := by
  refine MetFree.of_bodySF (plainFor_of_name pn_4) hisR ?_
  intro p e s m args below meth c s₁ Bd hml0 hP hK
  obtain ⟨rfl, hZ, hh⟩ := hP
  have hx := Bd.exec
  have hby := Bd.bytes
  have hml : c.maxLocals = 1 := hml0
  have hown : s.vm.findClass "java/util/ArrayList" = some m.cls := findClass_of_methodNamed Bd.named
  have hnm := (name_of_methodNamed Bd.named Bd.method).1
  have X0 : Stand p l e ({ frames := 3, cells := 0, slots := 0, locals := 36 } : Room) s m #[(.ref a1)] below meth c s₁ [] 0 0 := Stand.of_body Bd
  have e0 : s₁.heap = h0 := by rw [← hh, Bd.state]; rfl
  have N0 := Fr.nil n0
  have pre0 : ∀ t, Steps p.tables e below (s₁.setTop (mkF m 0 #[.val (.ref a1)] [])) t → Steps p.tables e below (s₁.setTop (entryFrame m #[(.ref a1)] 1)) t := fun t k => castTop (ef_4 m a1) k
  obtain ⟨_, _, ⟨T2, L2, k2, n2⟩, -, X2, ⟨Lc2, hQ2, l2, y2, z2⟩, st2⟩ := X0.specialBack hx (y := (⟨"java/util/AbstractList", "<init>", "()V"⟩ : MethodName)) rfl hown (mvT hZ (hw _ (List.mem_of_getElem? (i := 24) rfl))) (mvT hZ (hw _ (List.mem_of_getElem? (i := 25) rfl))) (mvT hZ (hw _ (List.mem_of_getElem? (i := 29) rfl))) (by decide) (backOf (W := 0) (rm5 l Z a0 hw [] a1 u_mc h0 n0 Z0 E_a1 F_modCount_a1 F_size_a1 F_elementData_a1 g_a1) hZ (hw _ (List.mem_of_getElem? (i := 29) rfl)) (hw _ (List.mem_of_getElem? (i := 28) rfl)) (by decide) (by decide)) (g := (mkF m 1 #[.val (.ref a1)] [(.ref a1)])) rfl (by rw [hml]; rfl) (Steps.refl _) (a := a1) (argsL := []) (rest := []) (lenOf pd_4_1 rfl) rfl (by show 2 * 0 + _ ≤ _; exact Nat.le_of_eq rfl) (hb hby d4_1) (fun _ _ => ⟨rfl, e0, (by decide : 0 + 0 ≤ _), (by decide : 0 + 0 ≤ _)⟩)
  dsimp only [Pt.U, Pt.locs, Pt.cells, Pt.slots] at X2 l2 y2 z2 st2 hQ2
  subst l2 y2 z2
  obtain ⟨rfl, N2q, K2, E2q, Fm2, Fs2, Fe2⟩ := hQ2
  have N2 := Fr.app N0 N2q
  have KK2 : Keep h0 T2.heap [a1] := Keep.trans (Keep.refl h0 [a1]) K2 (allS (Or.inl (List.mem_of_getElem? (i := 0) rfl)) all0)
  have Od2 := Old.keep Od0 K2 (allS (g_a1) all0)
  obtain ⟨T4, X4, e4, st4⟩ := getS2 X2 hx hZ hown (host := "") (Or.inl (hw _ (List.mem_of_getElem? (i := 39) rfl))) Via.refl rfl (S_DEFAULTCAPACITY_EMPTY_ELEMENTDATA.ext Od2.2) (g := (mkF m 5 #[.val (.ref a1)] [(.ref a1)])) rfl (hb hby d4_5)
  obtain ⟨T5, h5, X5, e5, W5, st5⟩ := putF X4 hx hZ hown (host := "") (Or.inl (hw _ (List.mem_of_getElem? (i := 40) rfl))) Via.refl e4 Fe2 E2q (Or.inl (hw _ (List.mem_of_getElem? (i := 41) rfl))) (hw _ (List.mem_of_getElem? (i := 19) rfl)) (ty := (.array (.object "java/lang/Object"))) (by decide) rfl rfl (g := (mkF m 8 #[.val (.ref a1)] [(.ref w3), (.ref a1)])) rfl rfl (hb hby d4_8)
  have Fw5 := Fe2.same W5
  have K5 : Keep h0 h5 [a1] := KK2.wr W5 (Or.inl (List.mem_of_getElem? (i := 0) rfl))
  have Od5 := Old.wr Od2 W5 g_a1
  have N5 := Fr.snoc X5 N2 g_a1
  obtain ⟨fs, hr, hrun, hended, hW, hsame⟩ := X5.leave (v := none) (fun _ => rfl)
  refine ⟨_, _, pre0 _ ?_, hrun, hended, _, _, rfl, ?_, ⟨_, rfl⟩, hW, hsame.mono (by decide) (by decide)⟩
  · show Steps p.tables e below (s₁.setTop (mkF m 0 #[.val (.ref a1)] [])) _
    refine XS.aloadN X0.here hx rfl (hb hby d4_0) rfl rfl ?_
    show Steps p.tables e below (s₁.setTop (mkF m 1 #[.val (.ref a1)] [(.ref a1)])) _
    refine st2.trans ?_
    show Steps p.tables e below (T2.setTop (mkF m 4 #[.val (.ref a1)] [])) _
    refine XS.aloadN X2.here hx rfl (hb hby d4_4) rfl rfl ?_
    show Steps p.tables e below (T2.setTop (mkF m 5 #[.val (.ref a1)] [(.ref a1)])) _
    refine st4 _ ?_
    show Steps p.tables e below (T4.setTop (mkF m 8 #[.val (.ref a1)] [(.ref w3), (.ref a1)])) _
    refine st5 _ ?_
    show Steps p.tables e below (T5.setTop (mkF m 11 #[.val (.ref a1)] [])) _
    exact X5.returnOut hx Bd.returns (hb hby d4_11) hr
  · show own_Q4 Z w3 a1 h0 n0 _ T5.heap _
    rw [e5]
    exact ⟨rfl, N5, K5, (E2q.wr W5), ⟨_, (Fm2.other W5 (Or.inr (slot_ne (Or.inl (hw _ (List.mem_of_getElem? (i := 38) rfl))) (Or.inl (hw _ (List.mem_of_getElem? (i := 41) rfl))) (by decide) (t := .int) (t' := (.array (.object "java/lang/Object"))) (by decide) (by decide))))⟩, (Fs2.other W5 (Or.inr (slot_ne (Or.inl (hw _ (List.mem_of_getElem? (i := 54) rfl))) (Or.inl (hw _ (List.mem_of_getElem? (i := 41) rfl))) (by decide) (t := .int) (t' := (.array (.object "java/lang/Object"))) (by decide) (by decide)))), Fw5⟩

theorem d1_0 : decode prog_26_method_1_code 0 = .ok (.aload_n 0, 1) := by decide +kernel
theorem d1_1 : decode prog_26_method_1_code 1 = .ok (.invokespecial 1, 3) := by decide +kernel
theorem d1_4 : decode prog_26_method_1_code 4 = .ok (.aload_n 0, 1) := by decide +kernel
theorem d1_5 : decode prog_26_method_1_code 5 = .ok (.aload_n 1, 1) := by decide +kernel
theorem d1_6 : decode prog_26_method_1_code 6 = .ok (.putfield 7, 3) := by decide +kernel
theorem d1_9 : decode prog_26_method_1_code 9 = .ok (.aload_n 0, 1) := by decide +kernel
theorem d1_10 : decode prog_26_method_1_code 10 = .ok (.aload_n 2, 1) := by decide +kernel
theorem d1_11 : decode prog_26_method_1_code 11 = .ok (.putfield 13, 3) := by decide +kernel
theorem d1_14 : decode prog_26_method_1_code 14 = .ok (.return_, 1) := by decide +kernel
theorem pn_1 : plainName "com/example/bindspire/bindspire/Overloads$Candidate" = true := by first | (simp [plainName, overriddenIn]; done) | decide +kernel
theorem pd_1_1 : parseMethodDescriptor "()V" = some ⟨[], none⟩ := by decide +kernel
theorem ef_1_1 (m : MethodId) (x0 : Addr) : entryFrame m #[(.ref x0), .null, .null] 3 = mkF m 0 #[.val (.ref x0), .val .null, .val .null] [] := by first | (simp [entryFrame, mkF, argsToLocals, Value.category]; done) | rfl
def Q1 (Z : State) (a1 : Addr) (u_executable_a1 : Value) (u_parameterTypes_a1 : Value) (h0 : Heap) (n0 : Nat) (v : Option Value) (h : Heap) (L : List Loc) : Prop := v = none ∧ Fr n0 L ∧ Keep h0 h [a1] ∧ Exa Z h a1 "com/example/bindspire/bindspire/Overloads$Candidate"
set_option maxRecDepth 65536 in
set_option maxHeartbeats 40000000 in
theorem rm1 (l : Launch) (Z : State) (a0 : Array Value) (hw : ∀ d ∈ tables_1, d.before a0 Z = true) (ws : List Jvm.Cond) (a1 : Addr) (u_executable_a1 : Value) (u_parameterTypes_a1 : Value) (h0 : Heap) (n0 : Nat) (Z0 : n0 ≤ h0.size) (E_a1 : Exa Z h0 a1 "com/example/bindspire/bindspire/Overloads$Candidate") (F_executable_a1 : Fld Z h0 a1 "com/example/bindspire/bindspire/Overloads$Candidate" "executable" "Ljava/lang/reflect/Executable;" u_executable_a1) (g_a1 : n0 ≤ a1) (F_parameterTypes_a1 : Fld Z h0 a1 "com/example/bindspire/bindspire/Overloads$Candidate" "parameterTypes" "Ljava/util/List;" u_parameterTypes_a1) :
    MetFree l (⟨"com/example/bindspire/bindspire/Overloads$Candidate", "<init>", "(Ljava/lang/reflect/Executable;Ljava/util/List;)V"⟩ : MethodName) (head1 (Jvm.Cond.code (⟨"com/example/bindspire/bindspire/Overloads$Candidate", "<init>", "(Ljava/lang/reflect/Executable;Ljava/util/List;)V"⟩ : MethodName) prog_26_method_1_code 3 none :: ws) ({ frames := 2, cells := 0, slots := 0, locals := 24 } : Room)) (fun a U => a = #[(.ref a1), .null, .null] ∧ Z.Warmed39 U.vm ∧ U.heap = h0) (fun _ _ _ _ _ => True) (fun _ U o U' => ∃ v L, o = .returned v ∧ Q1 Z a1 u_executable_a1 u_parameterTypes_a1 h0 n0 v U'.heap L ∧ FrameEnd U o U' L ({ frames := 2, cells := 0, slots := 0, locals := 24 } : Room).cells ({ frames := 2, cells := 0, slots := 0, locals := 24 } : Room).slots) := by
  refine MetFree.of_bodySF (plainFor_of_name pn_1) hisR ?_
  intro p e s m args below meth c s₁ Bd hml0 hP hK
  obtain ⟨rfl, hZ, hh⟩ := hP
  have hx := Bd.exec
  have hby := Bd.bytes
  have hml : c.maxLocals = 3 := hml0
  have hown : s.vm.findClass "com/example/bindspire/bindspire/Overloads$Candidate" = some m.cls := findClass_of_methodNamed Bd.named
  have hnm := (name_of_methodNamed Bd.named Bd.method).1
  have X0 : Stand p l e ({ frames := 2, cells := 0, slots := 0, locals := 24 } : Room) s m #[(.ref a1), .null, .null] below meth c s₁ [] 0 0 := Stand.of_body Bd
  have e0 : s₁.heap = h0 := by rw [← hh, Bd.state]; rfl
  have N0 := Fr.nil n0
  have pre0 : ∀ t, Steps p.tables e below (s₁.setTop (mkF m 0 #[.val (.ref a1), .val .null, .val .null] [])) t → Steps p.tables e below (s₁.setTop (entryFrame m #[(.ref a1), .null, .null] 3)) t := fun t k => castTop (ef_1_1 m a1) k
  obtain ⟨_, _, ⟨T2, L2, k2, n2⟩, -, X2, ⟨Lc2, hQ2, l2, y2, z2⟩, st2⟩ := X0.specialBack hx (y := (⟨"java/lang/Record", "<init>", "()V"⟩ : MethodName)) rfl hown (mvT hZ (hw _ (List.mem_of_getElem? (i := 6) rfl))) (mvT hZ (hw _ (List.mem_of_getElem? (i := 7) rfl))) (mvT hZ (hw _ (List.mem_of_getElem? (i := 10) rfl))) (by decide) (backOf (W := 0) (rm2 l Z a0 hw [] a1 h0 n0 Z0) hZ (hw _ (List.mem_of_getElem? (i := 10) rfl)) (hw _ (List.mem_of_getElem? (i := 9) rfl)) (by decide) (by decide)) (g := (mkF m 1 #[.val (.ref a1), .val .null, .val .null] [(.ref a1)])) rfl (by rw [hml]; rfl) (Steps.refl _) (a := a1) (argsL := []) (rest := []) (lenOf pd_1_1 rfl) rfl (by show 2 * 0 + _ ≤ _; exact Nat.le_of_eq rfl) (hb hby d1_1) (fun _ _ => ⟨rfl, e0, (by decide : 0 + 0 ≤ _), (by decide : 0 + 0 ≤ _)⟩)
  dsimp only [Pt.U, Pt.locs, Pt.cells, Pt.slots] at X2 l2 y2 z2 st2 hQ2
  subst l2 y2 z2
  obtain ⟨rfl, N2q, e2⟩ := hQ2
  have N2 := Fr.app N0 N2q
  obtain ⟨T3, h3, X3, e3, W3, st3⟩ := putF X2 hx hZ hown (host := "") (Or.inl (hw _ (List.mem_of_getElem? (i := 14) rfl))) Via.refl e2 F_executable_a1 E_a1 (Or.inr ⟨(hw _ (List.mem_of_getElem? (i := 15) rfl)), rfl, hnm⟩) (hw _ (List.mem_of_getElem? (i := 1) rfl)) (ty := (.object "java/lang/reflect/Executable")) (by decide) rfl rfl (g := (mkF m 6 #[.val (.ref a1), .val .null, .val .null] [.null, (.ref a1)])) rfl rfl (hb hby d1_6)
  have Fw3 := F_executable_a1.same W3
  have K3 : Keep h0 h3 [a1] := (Keep.refl h0 [a1]).wr W3 (Or.inl (List.mem_of_getElem? (i := 0) rfl))
  have N3 := Fr.snoc X3 N2 g_a1
  obtain ⟨T4, h4, X4, e4, W4, st4⟩ := putF X3 hx hZ hown (host := "") (Or.inl (hw _ (List.mem_of_getElem? (i := 16) rfl))) Via.refl e3 (F_parameterTypes_a1.other W3 (Or.inr (slot_ne (Or.inr (hw _ (List.mem_of_getElem? (i := 17) rfl))) (Or.inr (hw _ (List.mem_of_getElem? (i := 15) rfl))) (by decide) (t := (.object "java/util/List")) (t' := (.object "java/lang/reflect/Executable")) (by decide) (by decide)))) (E_a1.wr W3) (Or.inr ⟨(hw _ (List.mem_of_getElem? (i := 17) rfl)), rfl, hnm⟩) (hw _ (List.mem_of_getElem? (i := 1) rfl)) (ty := (.object "java/util/List")) (by decide) rfl rfl (g := (mkF m 11 #[.val (.ref a1), .val .null, .val .null] [.null, (.ref a1)])) rfl rfl (hb hby d1_11)
  have Fw4 := (F_parameterTypes_a1.other W3 (Or.inr (slot_ne (Or.inr (hw _ (List.mem_of_getElem? (i := 17) rfl))) (Or.inr (hw _ (List.mem_of_getElem? (i := 15) rfl))) (by decide) (t := (.object "java/util/List")) (t' := (.object "java/lang/reflect/Executable")) (by decide) (by decide)))).same W4
  have K4 : Keep h0 h4 [a1] := K3.wr W4 (Or.inl (List.mem_of_getElem? (i := 0) rfl))
  have N4 := Fr.snoc X4 N3 g_a1
  obtain ⟨fs, hr, hrun, hended, hW, hsame⟩ := X4.leave (v := none) (fun _ => rfl)
  refine ⟨_, _, pre0 _ ?_, hrun, hended, _, _, rfl, ?_, ⟨_, rfl⟩, hW, hsame.mono (by decide) (by decide)⟩
  · show Steps p.tables e below (s₁.setTop (mkF m 0 #[.val (.ref a1), .val .null, .val .null] [])) _
    refine XS.aloadN X0.here hx rfl (hb hby d1_0) rfl rfl ?_
    show Steps p.tables e below (s₁.setTop (mkF m 1 #[.val (.ref a1), .val .null, .val .null] [(.ref a1)])) _
    refine st2.trans ?_
    show Steps p.tables e below (T2.setTop (mkF m 4 #[.val (.ref a1), .val .null, .val .null] [])) _
    refine XS.aloadN X2.here hx rfl (hb hby d1_4) rfl rfl ?_
    show Steps p.tables e below (T2.setTop (mkF m 5 #[.val (.ref a1), .val .null, .val .null] [(.ref a1)])) _
    refine XS.aloadN X2.here hx rfl (hb hby d1_5) rfl rfl ?_
    show Steps p.tables e below (T2.setTop (mkF m 6 #[.val (.ref a1), .val .null, .val .null] [.null, (.ref a1)])) _
    refine st3 _ ?_
    show Steps p.tables e below (T3.setTop (mkF m 9 #[.val (.ref a1), .val .null, .val .null] [])) _
    refine XS.aloadN X3.here hx rfl (hb hby d1_9) rfl rfl ?_
    show Steps p.tables e below (T3.setTop (mkF m 10 #[.val (.ref a1), .val .null, .val .null] [(.ref a1)])) _
    refine XS.aloadN X3.here hx rfl (hb hby d1_10) rfl rfl ?_
    show Steps p.tables e below (T3.setTop (mkF m 11 #[.val (.ref a1), .val .null, .val .null] [.null, (.ref a1)])) _
    refine st4 _ ?_
    show Steps p.tables e below (T4.setTop (mkF m 14 #[.val (.ref a1), .val .null, .val .null] [])) _
    exact X4.returnOut hx Bd.returns (hb hby d1_14) hr
  · show Q1 Z a1 u_executable_a1 u_parameterTypes_a1 h0 n0 _ T4.heap _
    rw [e4]
    exact ⟨rfl, N4, K4, ((E_a1.wr W3).wr W4)⟩

theorem d11_0 : decode jdk_29_method_65_code 0 = .ok (.iload_n 0, 1) := by decide +kernel
theorem d11_1 : decode jdk_29_method_65_code 1 = .ok (.iload_n 1, 1) := by decide +kernel
theorem d11_2 : decode jdk_29_method_65_code 2 = .ok (.if_icmp .lt 7, 3) := by decide +kernel
theorem d11_5 : decode jdk_29_method_65_code 5 = .ok (.iload_n 0, 1) := by decide +kernel
theorem d11_6 : decode jdk_29_method_65_code 6 = .ok (.goto 4, 3) := by decide +kernel
theorem d11_10 : decode jdk_29_method_65_code 10 = .ok (.ireturn, 1) := by decide +kernel
theorem ef_11 (m : MethodId) (x0 : Int32) (x1 : Int32) : entryFrame m #[(.int x0), (.int x1)] 2 = mkF m 0 #[.val (.int x0), .val (.int x1)] [] := by first | (simp [entryFrame, mkF, argsToLocals, Value.category]; done) | rfl
def Q11 (Z : State) (p1 : Int32) (p2 : Int32) (h0 : Heap) (n0 : Nat) (v : Option Value) (h : Heap) (L : List Loc) : Prop := v = some (.int p1) ∧ Fr n0 L ∧ h = h0
set_option maxRecDepth 65536 in
set_option maxHeartbeats 40000000 in
theorem rm11 (l : Launch) (Z : State) (a0 : Array Value) (hw : ∀ d ∈ tables_1, d.before a0 Z = true) (ws : List Jvm.Cond) (p1 : Int32) (p2 : Int32) (h0 : Heap) (n0 : Nat) (Z0 : n0 ≤ h0.size) (hc2 : ¬ (p1 < p2)) :
    MetFree l (⟨"java/lang/Math", "max", "(II)I"⟩ : MethodName) (head1 (Jvm.Cond.code (⟨"java/lang/Math", "max", "(II)I"⟩ : MethodName) jdk_29_method_65_code 2 (some .int) :: ws) ({ frames := 0, cells := 0, slots := 0, locals := 0 } : Room)) (fun a U => a = #[(.int p1), (.int p2)] ∧ Z.Warmed39 U.vm ∧ U.heap = h0) (fun _ _ _ _ _ => True) (fun _ U o U' => ∃ v L, o = .returned v ∧ Q11 Z p1 p2 h0 n0 v U'.heap L ∧ FrameEnd U o U' L ({ frames := 0, cells := 0, slots := 0, locals := 0 } : Room).cells ({ frames := 0, cells := 0, slots := 0, locals := 0 } : Room).slots) := by
  refine MetFree.of_bodySF (Jvm.Free.JP.mathPlain rfl (by decide +kernel)) hisR ?_
  intro p e s m args below meth c s₁ Bd hml0 hP hK
  obtain ⟨rfl, hZ, hh⟩ := hP
  have hx := Bd.exec
  have hby := Bd.bytes
  have hml : c.maxLocals = 2 := hml0
  have hown : s.vm.findClass "java/lang/Math" = some m.cls := findClass_of_methodNamed Bd.named
  have hnm := (name_of_methodNamed Bd.named Bd.method).1
  have X0 : Stand p l e ({ frames := 0, cells := 0, slots := 0, locals := 0 } : Room) s m #[(.int p1), (.int p2)] below meth c s₁ [] 0 0 := Stand.of_body Bd
  have e0 : s₁.heap = h0 := by rw [← hh, Bd.state]; rfl
  have N0 := Fr.nil n0
  have pre0 : ∀ t, Steps p.tables e below (s₁.setTop (mkF m 0 #[.val (.int p1), .val (.int p2)] [])) t → Steps p.tables e below (s₁.setTop (entryFrame m #[(.int p1), (.int p2)] 2)) t := fun t k => castTop (ef_11 m p1 p2) k

  obtain ⟨fs, hr, hrun, hended, hW, hsame⟩ := X0.leave (v := some (.int p1)) (fun h => by rw [Bd.returns] at h; cases h)
  refine ⟨_, _, pre0 _ ?_, hrun, hended, _, _, rfl, ?_, ⟨_, rfl⟩, hW, hsame.mono (by decide) (by decide)⟩
  · show Steps p.tables e below (s₁.setTop (mkF m 0 #[.val (.int p1), .val (.int p2)] [])) _
    refine XS.iloadN X0.here hx rfl (hb hby d11_0) rfl ?_
    show Steps p.tables e below (s₁.setTop (mkF m 1 #[.val (.int p1), .val (.int p2)] [(.int p1)])) _
    refine XS.iloadN X0.here hx rfl (hb hby d11_1) rfl ?_
    show Steps p.tables e below (s₁.setTop (mkF m 2 #[.val (.int p1), .val (.int p2)] [(.int p2), (.int p1)])) _
    refine XS.icmpNo X0.here hx rfl (hb hby d11_2) rfl (flt hc2).1 ?_
    show Steps p.tables e below (s₁.setTop (mkF m 5 #[.val (.int p1), .val (.int p2)] [])) _
    refine XS.iloadN X0.here hx rfl (hb hby d11_5) rfl ?_
    show Steps p.tables e below (s₁.setTop (mkF m 6 #[.val (.int p1), .val (.int p2)] [(.int p1)])) _
    refine XS.goto X0.here hx rfl (pc0 := 6) (pc' := 10) rfl (hb hby d11_6) (by decide) (by decide) ?_
    show Steps p.tables e below (s₁.setTop (mkF m 10 #[.val (.int p1), .val (.int p2)] [(.int p1)])) _
    exact retI X0 hx Bd.returns (hb hby d11_10) hr
  · show Q11 Z p1 p2 h0 n0 _ s₁.heap _
    rw [e0]
    exact ⟨rfl, N0, rfl⟩

theorem d10_0 : decode jdk_38_method_6_code 0 = .ok (.aload_n 0, 1) := by decide +kernel
theorem d10_1 : decode jdk_38_method_6_code 1 = .ok (.getfield 9, 3) := by decide +kernel
theorem d10_4 : decode jdk_38_method_6_code 4 = .ok (.arraylength, 1) := by decide +kernel
theorem d10_5 : decode jdk_38_method_6_code 5 = .ok (.istore_n 2, 1) := by decide +kernel
theorem d10_6 : decode jdk_38_method_6_code 6 = .ok (.iload_n 2, 1) := by decide +kernel
theorem d10_7 : decode jdk_38_method_6_code 7 = .ok (.ifCond .gt 13, 3) := by decide +kernel
theorem d10_10 : decode jdk_38_method_6_code 10 = .ok (.aload_n 0, 1) := by decide +kernel
theorem d10_11 : decode jdk_38_method_6_code 11 = .ok (.getfield 9, 3) := by decide +kernel
theorem d10_14 : decode jdk_38_method_6_code 14 = .ok (.getstatic 39, 3) := by decide +kernel
theorem d10_17 : decode jdk_38_method_6_code 17 = .ok (.if_acmp .eq 28, 3) := by decide +kernel
theorem d10_45 : decode jdk_38_method_6_code 45 = .ok (.aload_n 0, 1) := by decide +kernel
theorem d10_46 : decode jdk_38_method_6_code 46 = .ok (.bipush 10, 2) := by decide +kernel
theorem d10_48 : decode jdk_38_method_6_code 48 = .ok (.iload_n 1, 1) := by decide +kernel
theorem d10_49 : decode jdk_38_method_6_code 49 = .ok (.invokestatic 79, 3) := by decide +kernel
theorem d10_52 : decode jdk_38_method_6_code 52 = .ok (.anewarray 7, 3) := by decide +kernel
theorem d10_55 : decode jdk_38_method_6_code 55 = .ok (.dup_x1, 1) := by decide +kernel
theorem d10_56 : decode jdk_38_method_6_code 56 = .ok (.putfield 9, 3) := by decide +kernel
theorem d10_59 : decode jdk_38_method_6_code 59 = .ok (.areturn, 1) := by decide +kernel
theorem pn_10 : plainName "java/util/ArrayList" = true := by first | (simp [plainName, overriddenIn]; done) | decide +kernel
theorem pd_10_6 : parseMethodDescriptor "(II)I" = some ⟨[.int, .int], some .int⟩ := by decide +kernel
theorem ef_10 (m : MethodId) (x0 : Addr) (x1 : Int32) : entryFrame m #[(.ref x0), (.int x1)] 4 = mkF m 0 #[.val (.ref x0), .val (.int x1), .unset, .unset] [] := by first | (simp [entryFrame, mkF, argsToLocals, Value.category]; done) | rfl
set_option maxRecDepth 65536 in
set_option maxHeartbeats 40000000 in
theorem rm10 (l : Launch) (Z : State) (a0 : Array Value) (hw : ∀ d ∈ tables_1, d.before a0 Z = true) (ws : List Jvm.Cond) (a1 : Addr) (p2 : Int32) (cl_wD : Cell) (z_wD : Int32) (w5 : Addr) (mc k : Int32) (wD : Addr) (h0 : Heap) (n0 : Nat) (Z0 : n0 ≤ h0.size) (Od0 : Old Z n0 h0) (E_a1 : Exa Z h0 a1 "java/util/ArrayList") (F_modCount_a1 : Fld Z h0 a1 "java/util/AbstractList" "modCount" "I" (.int mc)) (F_size_a1 : Fld Z h0 a1 "java/util/ArrayList" "size" "I" (.int k)) (F_elementData_a1 : Fld Z h0 a1 "java/util/ArrayList" "elementData" "[Ljava/lang/Object;" (.ref wD)) (Ar_wD : Arr Z h0 wD cl_wD (.object "java/lang/Object")) (S_wD : cl_wD.slots.size = z_wD.toNatClampNeg) (N_wD : ¬ z_wD < 0) (S_DEFAULTCAPACITY_EMPTY_ELEMENTDATA : Sta Z Z.heap "java/util/ArrayList" "DEFAULTCAPACITY_EMPTY_ELEMENTDATA" "[Ljava/lang/Object;" (.ref w5)) (g_a1 : n0 ≤ a1) (hmx : ¬ ((10 : Int32) < p2)) (hc7 : ¬ ((0 : Int32) < z_wD)) (ha17 : wD = w5) :
    MetFree l (⟨"java/util/ArrayList", "grow", "(I)[Ljava/lang/Object;"⟩ : MethodName) (head1 (Jvm.Cond.code (⟨"java/util/ArrayList", "grow", "(I)[Ljava/lang/Object;"⟩ : MethodName) jdk_38_method_6_code 4 (some (.array (.object "java/lang/Object"))) :: ws) ({ frames := 1, cells := 1, slots := 10, locals := 14 } : Room)) (fun a U => a = #[(.ref a1), (.int p2)] ∧ Z.Warmed39 U.vm ∧ U.heap = h0) (fun _ _ _ _ _ => True) (fun _ U o U' => ∃ v L, o = .returned v ∧ own_Q10 Z a1 mc k h0 n0 v U'.heap L ∧ FrameEnd U o U' L ({ frames := 1, cells := 1, slots := 10, locals := 14 } : Room).cells ({ frames := 1, cells := 1, slots := 10, locals := 14 } : Room).slots) := by
  refine MetFree.of_bodySF (plainFor_of_name pn_10) hisR ?_
  intro p e s m args below meth c s₁ Bd hml0 hP hK
  obtain ⟨rfl, hZ, hh⟩ := hP
  have hx := Bd.exec
  have hby := Bd.bytes
  have hml : c.maxLocals = 4 := hml0
  have hown : s.vm.findClass "java/util/ArrayList" = some m.cls := findClass_of_methodNamed Bd.named
  have hnm := (name_of_methodNamed Bd.named Bd.method).1
  have X0 : Stand p l e ({ frames := 1, cells := 1, slots := 10, locals := 14 } : Room) s m #[(.ref a1), (.int p2)] below meth c s₁ [] 0 0 := Stand.of_body Bd
  have e0 : s₁.heap = h0 := by rw [← hh, Bd.state]; rfl
  have N0 := Fr.nil n0
  have pre0 : ∀ t, Steps p.tables e below (s₁.setTop (mkF m 0 #[.val (.ref a1), .val (.int p2), .unset, .unset] [])) t → Steps p.tables e below (s₁.setTop (entryFrame m #[(.ref a1), (.int p2)] 4)) t := fun t k => castTop (ef_10 m a1 p2) k
  obtain ⟨T3, X3, e3, st3⟩ := getF X0 hx hZ hown (host := "") (Or.inl (hw _ (List.mem_of_getElem? (i := 40) rfl))) Via.refl e0 F_elementData_a1 (g := (mkF m 1 #[.val (.ref a1), .val (.int p2), .unset, .unset] [(.ref a1)])) rfl rfl (hb hby d10_1)
  obtain ⟨T4, X4, e4, st4⟩ := getF X3 hx hZ hown (host := "") (Or.inl (hw _ (List.mem_of_getElem? (i := 40) rfl))) Via.refl e3 F_elementData_a1 (g := (mkF m 11 #[.val (.ref a1), .val (.int p2), .val (.int z_wD), .unset] [(.ref a1)])) rfl rfl (hb hby d10_11)
  obtain ⟨T6, X6, e6, st6⟩ := getS2 X4 hx hZ hown (host := "") (Or.inl (hw _ (List.mem_of_getElem? (i := 39) rfl))) Via.refl e4 (S_DEFAULTCAPACITY_EMPTY_ELEMENTDATA.ext Od0.2) (g := (mkF m 14 #[.val (.ref a1), .val (.int p2), .val (.int z_wD), .unset] [(.ref wD)])) rfl (hb hby d10_14)
  obtain ⟨_, _, ⟨T7, L7, k7, n7⟩, -, X7, ⟨Lc7, hQ7, l7, y7, z7⟩, st7⟩ := Jvm.LawKit.callS X6 hx (y := (⟨"java/lang/Math", "max", "(II)I"⟩ : MethodName)) hown (mvT hZ (hw _ (List.mem_of_getElem? (i := 70) rfl))) (mvT hZ (hw _ (List.mem_of_getElem? (i := 71) rfl))) (mvT hZ (hw _ (List.mem_of_getElem? (i := 72) rfl))) (mvT hZ (hw _ (List.mem_of_getElem? (i := 73) rfl))) (by decide) (backOf (W := 1) (rm11 l Z a0 hw [] (10 : Int32) p2 h0 n0 Z0 hmx) hZ (hw _ (List.mem_of_getElem? (i := 73) rfl)) (hw _ (List.mem_of_getElem? (i := 72) rfl)) (by decide) (by decide)) (g := (mkF m 49 #[.val (.ref a1), .val (.int p2), .val (.int z_wD), .unset] [(.int p2), (.int (10 : Int32)), (.ref a1)])) rfl (by rw [hml]; rfl) (argsL := [(.int (10 : Int32)), (.int p2)]) (rest := [(.ref a1)]) (lenOf pd_10_6 rfl) rfl (by show 2 * 0 + _ ≤ _; exact Nat.le_of_eq rfl) (hb hby d10_49) (fun _ _ => ⟨rfl, e6, (by decide : 0 + 0 ≤ _), (by decide : 0 + 0 ≤ _)⟩)
  dsimp only [Pt.U, Pt.locs, Pt.cells, Pt.slots] at X7 l7 y7 z7 st7 hQ7
  subst l7 y7 z7
  obtain ⟨rfl, N7q, e7⟩ := hQ7
  have N7 := Fr.app N0 N7q
  obtain ⟨T8, h8, k8, X8, e8, E8, A8, O8, st8⟩ := newR X7 hx hZ hown (hw _ (List.mem_of_getElem? (i := 74) rfl)) (hw _ (List.mem_of_getElem? (i := 75) rfl)) e7 (g := (mkF m 52 #[.val (.ref a1), .val (.int p2), .val (.int z_wD), .unset] [(.int (10 : Int32)), (.ref a1)])) rfl (hb hby d10_52) rfl (by decide) (cap := 10) (by decide) (by decide) (by decide) (by decide)
  obtain ⟨b8, g8⟩ : ∃ z, z = h0.size := ⟨_, rfl⟩
  rw [← g8] at A8 st8
  have V_b8 : Arv Z h8 b8 k8 (.object "java/lang/Object") (10 : Int32) [.null, .null, .null, .null, .null, .null, .null, .null, .null, .null] .null := (Arv.new A8 (by decide)).pad (pad_rep [] .null 10)
  have g_b8 : n0 ≤ b8 := Nat.le_trans Z0 (Nat.le_of_eq g8.symm)
  have sz_b8 : h0.size ≤ b8 := (Nat.le_trans (Keep.refl h0 [a1]).1 (Nat.le_of_eq g8.symm))
  have K8 : Keep h0 h8 [a1] := (Keep.refl h0 [a1]).ext E8
  have Od8 := Old.ext Od0 E8
  obtain ⟨T9, h9, X9, e9, W9, st9⟩ := putF X8 hx hZ hown (host := "") (Or.inl (hw _ (List.mem_of_getElem? (i := 40) rfl))) Via.refl e8 (F_elementData_a1.ext E8) (E_a1.ext E8) (Or.inl (hw _ (List.mem_of_getElem? (i := 41) rfl))) (hw _ (List.mem_of_getElem? (i := 19) rfl)) (ty := (.array (.object "java/lang/Object"))) (by decide) rfl rfl (g := (mkF m 56 #[.val (.ref a1), .val (.int p2), .val (.int z_wD), .unset] [(.ref b8), (.ref a1), (.ref b8)])) rfl rfl (hb hby d10_56)
  have Fw9 := (F_elementData_a1.ext E8).same W9
  have K9 : Keep h0 h9 [a1] := K8.wr W9 (Or.inl (List.mem_of_getElem? (i := 0) rfl))
  have Od9 := Old.wr Od8 W9 g_a1
  have N9 := Fr.snoc X9 N7 g_a1
  obtain ⟨fs, hr, hrun, hended, hW, hsame⟩ := X9.leave (v := some (.ref b8)) (fun h => by rw [Bd.returns] at h; cases h)
  refine ⟨_, _, pre0 _ ?_, hrun, hended, _, _, rfl, ?_, ⟨_, rfl⟩, hW, hsame.mono (by decide) (by decide)⟩
  · show Steps p.tables e below (s₁.setTop (mkF m 0 #[.val (.ref a1), .val (.int p2), .unset, .unset] [])) _
    refine XS.aloadN X0.here hx rfl (hb hby d10_0) rfl rfl ?_
    show Steps p.tables e below (s₁.setTop (mkF m 1 #[.val (.ref a1), .val (.int p2), .unset, .unset] [(.ref a1)])) _
    refine st3 _ ?_
    show Steps p.tables e below (T3.setTop (mkF m 4 #[.val (.ref a1), .val (.int p2), .unset, .unset] [(.ref wD)])) _
    refine X3.arraylength hx (by rw [e3]; exact Ar_wD.1) (State.isArrayOf_alike hZ.alike Ar_wD.2.1) (g := (mkF m 4 #[.val (.ref a1), .val (.int p2), .unset, .unset] [(.ref wD)])) rfl rfl (hb hby d10_4) _ ?_
    rw [len_of S_wD N_wD]
    show Steps p.tables e below (T3.setTop (mkF m 5 #[.val (.ref a1), .val (.int p2), .unset, .unset] [(.int z_wD)])) _
    refine XS.istoreN X3.here hx rfl (hb hby d10_5) rfl (l' := #[.val (.ref a1), .val (.int p2), .val (.int z_wD), .unset]) rfl ?_
    show Steps p.tables e below (T3.setTop (mkF m 6 #[.val (.ref a1), .val (.int p2), .val (.int z_wD), .unset] [])) _
    refine XS.iloadN X3.here hx rfl (hb hby d10_6) rfl ?_
    show Steps p.tables e below (T3.setTop (mkF m 7 #[.val (.ref a1), .val (.int p2), .val (.int z_wD), .unset] [(.int z_wD)])) _
    refine XS.ifNo X3.here hx rfl (hb hby d10_7) rfl ((if0 _ _).trans (flt hc7).2.2.1) ?_
    show Steps p.tables e below (T3.setTop (mkF m 10 #[.val (.ref a1), .val (.int p2), .val (.int z_wD), .unset] [])) _
    refine XS.aloadN X3.here hx rfl (hb hby d10_10) rfl rfl ?_
    show Steps p.tables e below (T3.setTop (mkF m 11 #[.val (.ref a1), .val (.int p2), .val (.int z_wD), .unset] [(.ref a1)])) _
    refine st4 _ ?_
    show Steps p.tables e below (T4.setTop (mkF m 14 #[.val (.ref a1), .val (.int p2), .val (.int z_wD), .unset] [(.ref wD)])) _
    refine st6 _ ?_
    show Steps p.tables e below (T6.setTop (mkF m 17 #[.val (.ref a1), .val (.int p2), .val (.int z_wD), .unset] [(.ref w5), (.ref wD)])) _
    refine Jvm.RoadKit.acmp (g := (mkF m 17 #[.val (.ref a1), .val (.int p2), .val (.int z_wD), .unset] [(.ref w5), (.ref wD)])) X6 hx rfl rfl rfl (pc0 := 17) (pc' := 45) (same := true) rfl (hb hby d10_17) rfl (decide_eq_true (congrArg Value.ref ha17)) (by decide) (by decide) ?_
    show Steps p.tables e below (T6.setTop (mkF m 45 #[.val (.ref a1), .val (.int p2), .val (.int z_wD), .unset] [])) _
    refine XS.aloadN X6.here hx rfl (hb hby d10_45) rfl rfl ?_
    show Steps p.tables e below (T6.setTop (mkF m 46 #[.val (.ref a1), .val (.int p2), .val (.int z_wD), .unset] [(.ref a1)])) _
    refine XS.bipush X6.here hx rfl (hb hby d10_46) ?_
    show Steps p.tables e below (T6.setTop (mkF m 48 #[.val (.ref a1), .val (.int p2), .val (.int z_wD), .unset] [(.int (10 : Int32)), (.ref a1)])) _
    refine XS.iloadN X6.here hx rfl (hb hby d10_48) rfl ?_
    show Steps p.tables e below (T6.setTop (mkF m 49 #[.val (.ref a1), .val (.int p2), .val (.int z_wD), .unset] [(.int p2), (.int (10 : Int32)), (.ref a1)])) _
    refine st7 _ ?_
    show Steps p.tables e below (T7.setTop (mkF m 52 #[.val (.ref a1), .val (.int p2), .val (.int z_wD), .unset] [(.int (10 : Int32)), (.ref a1)])) _
    refine st8 _ ?_
    show Steps p.tables e below (T8.setTop (mkF m 55 #[.val (.ref a1), .val (.int p2), .val (.int z_wD), .unset] [(.ref b8), (.ref a1)])) _
    refine XS.dupX1 X8.here hx rfl (hb hby d10_55) rfl rfl rfl ?_
    show Steps p.tables e below (T8.setTop (mkF m 56 #[.val (.ref a1), .val (.int p2), .val (.int z_wD), .unset] [(.ref b8), (.ref a1), (.ref b8)])) _
    refine st9 _ ?_
    show Steps p.tables e below (T9.setTop (mkF m 59 #[.val (.ref a1), .val (.int p2), .val (.int z_wD), .unset] [(.ref b8)])) _
    jvm_step X9.here [X9.here.top, hx, (hb hby d10_59), X9.method', Bd.returns, Value.isRef, FieldType.isReference]
    first | (intro acts; rw [hr _ acts rfl rfl rfl]) | rw [hr _ _ rfl rfl rfl]
    exact Steps.refl _
  · show own_Q10 Z a1 mc k h0 n0 _ T9.heap _
    rw [e9]
    exact ⟨b8, rfl, N9, K9, sz_b8, ((E_a1.ext E8).wr W9), ((F_modCount_a1.ext E8).other W9 (Or.inr (slot_ne (Or.inl (hw _ (List.mem_of_getElem? (i := 38) rfl))) (Or.inl (hw _ (List.mem_of_getElem? (i := 41) rfl))) (by decide) (t := .int) (t' := (.array (.object "java/lang/Object"))) (by decide) (by decide)))), ((F_size_a1.ext E8).other W9 (Or.inr (slot_ne (Or.inl (hw _ (List.mem_of_getElem? (i := 54) rfl))) (Or.inl (hw _ (List.mem_of_getElem? (i := 41) rfl))) (by decide) (t := .int) (t' := (.array (.object "java/lang/Object"))) (by decide) (by decide)))), Fw9, k8, O8, (V_b8.other W9 (Ne.symm (Nat.ne_of_lt (Nat.lt_of_lt_of_le E_a1.lt (Nat.le_of_eq g8.symm)))))⟩

theorem d9_0 : decode jdk_38_method_7_code 0 = .ok (.aload_n 0, 1) := by decide +kernel
theorem d9_1 : decode jdk_38_method_7_code 1 = .ok (.aload_n 0, 1) := by decide +kernel
theorem d9_2 : decode jdk_38_method_7_code 2 = .ok (.getfield 48, 3) := by decide +kernel
theorem d9_5 : decode jdk_38_method_7_code 5 = .ok (.iconst 1, 1) := by decide +kernel
theorem d9_6 : decode jdk_38_method_7_code 6 = .ok (.iadd, 1) := by decide +kernel
theorem d9_7 : decode jdk_38_method_7_code 7 = .ok (.invokevirtual 69, 3) := by decide +kernel
theorem d9_10 : decode jdk_38_method_7_code 10 = .ok (.areturn, 1) := by decide +kernel
theorem pn_9 : plainName "java/util/ArrayList" = true := by first | (simp [plainName, overriddenIn]; done) | decide +kernel
theorem pd_9_5 : parseMethodDescriptor "(I)[Ljava/lang/Object;" = some ⟨[.int], some (.array (.object "java/lang/Object"))⟩ := by decide +kernel
theorem ef_9 (m : MethodId) (x0 : Addr) : entryFrame m #[(.ref x0)] 1 = mkF m 0 #[.val (.ref x0)] [] := by first | (simp [entryFrame, mkF, argsToLocals, Value.category]; done) | rfl
set_option maxRecDepth 65536 in
set_option maxHeartbeats 40000000 in
theorem rm9 (l : Launch) (Z : State) (a0 : Array Value) (hw : ∀ d ∈ tables_1, d.before a0 Z = true) (ws : List Jvm.Cond) (a1 : Addr) (mc k : Int32) (wD : Addr) (cl_wD : Cell) (z_wD : Int32) (w5 : Addr) (h0 : Heap) (n0 : Nat) (Z0 : n0 ≤ h0.size) (Od0 : Old Z n0 h0) (E_a1 : Exa Z h0 a1 "java/util/ArrayList") (F_modCount_a1 : Fld Z h0 a1 "java/util/AbstractList" "modCount" "I" (.int mc)) (F_size_a1 : Fld Z h0 a1 "java/util/ArrayList" "size" "I" (.int k)) (F_elementData_a1 : Fld Z h0 a1 "java/util/ArrayList" "elementData" "[Ljava/lang/Object;" (.ref wD)) (S_DEFAULTCAPACITY_EMPTY_ELEMENTDATA : Sta Z Z.heap "java/util/ArrayList" "DEFAULTCAPACITY_EMPTY_ELEMENTDATA" "[Ljava/lang/Object;" (.ref w5)) (Ar_wD : Arr Z h0 wD cl_wD (.object "java/lang/Object")) (S_wD : cl_wD.slots.size = z_wD.toNatClampNeg) (N_wD : ¬ z_wD < 0) (g_a1 : n0 ≤ a1) (hmx : ¬ ((10 : Int32) < (k + (1 : Int32)))) (hc7 : ¬ ((0 : Int32) < z_wD)) (ha17 : wD = w5) :
    MetFree l (⟨"java/util/ArrayList", "grow", "()[Ljava/lang/Object;"⟩ : MethodName) (head1 (Jvm.Cond.code (⟨"java/util/ArrayList", "grow", "()[Ljava/lang/Object;"⟩ : MethodName) jdk_38_method_7_code 1 (some (.array (.object "java/lang/Object"))) :: ws) ({ frames := 2, cells := 1, slots := 10, locals := 29 } : Room)) (fun a U => a = #[(.ref a1)] ∧ Z.Warmed39 U.vm ∧ U.heap = h0) (fun _ _ _ _ _ => True) (fun _ U o U' => ∃ v L, o = .returned v ∧ own_Q10 Z a1 mc k h0 n0 v U'.heap L ∧ FrameEnd U o U' L ({ frames := 2, cells := 1, slots := 10, locals := 29 } : Room).cells ({ frames := 2, cells := 1, slots := 10, locals := 29 } : Room).slots) := by
  refine MetFree.of_bodySF (plainFor_of_name pn_9) hisR ?_
  intro p e s m args below meth c s₁ Bd hml0 hP hK
  obtain ⟨rfl, hZ, hh⟩ := hP
  have hx := Bd.exec
  have hby := Bd.bytes
  have hml : c.maxLocals = 1 := hml0
  have hown : s.vm.findClass "java/util/ArrayList" = some m.cls := findClass_of_methodNamed Bd.named
  have hnm := (name_of_methodNamed Bd.named Bd.method).1
  have X0 : Stand p l e ({ frames := 2, cells := 1, slots := 10, locals := 29 } : Room) s m #[(.ref a1)] below meth c s₁ [] 0 0 := Stand.of_body Bd
  have e0 : s₁.heap = h0 := by rw [← hh, Bd.state]; rfl
  have N0 := Fr.nil n0
  have pre0 : ∀ t, Steps p.tables e below (s₁.setTop (mkF m 0 #[.val (.ref a1)] [])) t → Steps p.tables e below (s₁.setTop (entryFrame m #[(.ref a1)] 1)) t := fun t k => castTop (ef_9 m a1) k
  obtain ⟨T2, X2, e2, st2⟩ := getF X0 hx hZ hown (host := "") (Or.inl (hw _ (List.mem_of_getElem? (i := 53) rfl))) Via.refl e0 F_size_a1 (g := (mkF m 2 #[.val (.ref a1)] [(.ref a1), (.ref a1)])) rfl rfl (hb hby d9_2)
  obtain ⟨cq3, q3, q3'⟩ := E_a1.cell
  obtain ⟨_, _, ⟨T3, L3, k3, n3⟩, -, X3, ⟨Lc3, hQ3, l3, y3, z3⟩, st3⟩ := X2.privateBack hx (y := (⟨"java/util/ArrayList", "grow", "(I)[Ljava/lang/Object;"⟩ : MethodName)) hown (mvT hZ (hw _ (List.mem_of_getElem? (i := 65) rfl))) (mvT hZ (hw _ (List.mem_of_getElem? (i := 66) rfl))) (mvT hZ (hw _ (List.mem_of_getElem? (i := 68) rfl))) (Cond.privateMethod_at (mvP hZ (hw _ (List.mem_of_getElem? (i := 67) rfl)) (args := #[]))) (mvT hZ (hw _ (List.mem_of_getElem? (i := 69) rfl))) (by decide) (backOf (W := 0) (rm10 l Z a0 hw [] a1 (k + (1 : Int32)) cl_wD z_wD w5 mc k wD h0 n0 Z0 Od0 E_a1 F_modCount_a1 F_size_a1 F_elementData_a1 Ar_wD S_wD N_wD S_DEFAULTCAPACITY_EMPTY_ELEMENTDATA g_a1 hmx hc7 ha17) hZ (hw _ (List.mem_of_getElem? (i := 69) rfl)) (hw _ (List.mem_of_getElem? (i := 20) rfl)) (by decide) (by decide)) (g := (mkF m 7 #[.val (.ref a1)] [(.int (k + (1 : Int32))), (.ref a1)])) rfl (by rw [hml]; rfl) (Steps.refl _) (a := a1) (by rw [e2]; exact q3) q3' (argsL := [(.int (k + (1 : Int32)))]) (rest := []) (lenOf pd_9_5 rfl) rfl (by show 2 * 0 + _ ≤ _; exact Nat.le_of_eq rfl) (hb hby d9_7) (fun _ _ => ⟨rfl, e2, (by decide : 0 + 1 ≤ _), (by decide : 0 + 10 ≤ _)⟩)
  dsimp only [Pt.U, Pt.locs, Pt.cells, Pt.slots] at X3 l3 y3 z3 st3 hQ3
  subst l3 y3 z3
  obtain ⟨b3, rfl, N3q, K3, hz3, E3q, Fm3, Fs3, Fe3, kc3, Ov3, V3q⟩ := hQ3
  have N3 := Fr.app N0 N3q
  have g_b3 : n0 ≤ b3 := Nat.le_trans Z0 hz3
  have sz_b3 : h0.size ≤ b3 := Nat.le_trans (Keep.refl h0 [a1]).1 hz3
  have KK3 : Keep h0 T3.heap [a1] := Keep.trans (Keep.refl h0 [a1]) K3 (allS (Or.inl (List.mem_of_getElem? (i := 0) rfl)) all0)
  have Od3 := Old.keep Od0 K3 (allS (g_a1) all0)
  obtain ⟨fs, hr, hrun, hended, hW, hsame⟩ := X3.leave (v := some (.ref b3)) (fun h => by rw [Bd.returns] at h; cases h)
  refine ⟨_, _, pre0 _ ?_, hrun, hended, _, _, rfl, ?_, ⟨_, rfl⟩, hW, hsame.mono (by decide) (by decide)⟩
  · show Steps p.tables e below (s₁.setTop (mkF m 0 #[.val (.ref a1)] [])) _
    refine XS.aloadN X0.here hx rfl (hb hby d9_0) rfl rfl ?_
    show Steps p.tables e below (s₁.setTop (mkF m 1 #[.val (.ref a1)] [(.ref a1)])) _
    refine XS.aloadN X0.here hx rfl (hb hby d9_1) rfl rfl ?_
    show Steps p.tables e below (s₁.setTop (mkF m 2 #[.val (.ref a1)] [(.ref a1), (.ref a1)])) _
    refine st2 _ ?_
    show Steps p.tables e below (T2.setTop (mkF m 5 #[.val (.ref a1)] [(.int k), (.ref a1)])) _
    refine XS.iconst X2.here hx rfl (hb hby d9_5) ?_
    show Steps p.tables e below (T2.setTop (mkF m 6 #[.val (.ref a1)] [(.int (1 : Int32)), (.int k), (.ref a1)])) _
    refine XS.iadd X2.here hx rfl (hb hby d9_6) rfl ?_
    show Steps p.tables e below (T2.setTop (mkF m 7 #[.val (.ref a1)] [(.int (k + (1 : Int32))), (.ref a1)])) _
    refine st3.trans ?_
    show Steps p.tables e below (T3.setTop (mkF m 10 #[.val (.ref a1)] [(.ref b3)])) _
    jvm_step X3.here [X3.here.top, hx, (hb hby d9_10), X3.method', Bd.returns, Value.isRef, FieldType.isReference]
    first | (intro acts; rw [hr _ acts rfl rfl rfl]) | rw [hr _ _ rfl rfl rfl]
    exact Steps.refl _
  · show own_Q10 Z a1 mc k h0 n0 _ T3.heap _
    exact ⟨b3, rfl, N3, KK3, sz_b3, E3q, Fm3, Fs3, Fe3, kc3, Ov3, V3q⟩

theorem d8_0 : decode jdk_38_method_24_code 0 = .ok (.iload_n 3, 1) := by decide +kernel
theorem d8_1 : decode jdk_38_method_24_code 1 = .ok (.aload_n 2, 1) := by decide +kernel
theorem d8_2 : decode jdk_38_method_24_code 2 = .ok (.arraylength, 1) := by decide +kernel
theorem d8_3 : decode jdk_38_method_24_code 3 = .ok (.if_icmp .ne 8, 3) := by decide +kernel
theorem d8_6 : decode jdk_38_method_24_code 6 = .ok (.aload_n 0, 1) := by decide +kernel
theorem d8_7 : decode jdk_38_method_24_code 7 = .ok (.invokevirtual 129, 3) := by decide +kernel
theorem d8_10 : decode jdk_38_method_24_code 10 = .ok (.astore_n 2, 1) := by decide +kernel
theorem d8_11 : decode jdk_38_method_24_code 11 = .ok (.aload_n 2, 1) := by decide +kernel
theorem d8_12 : decode jdk_38_method_24_code 12 = .ok (.iload_n 3, 1) := by decide +kernel
theorem d8_13 : decode jdk_38_method_24_code 13 = .ok (.aload_n 1, 1) := by decide +kernel
theorem d8_14 : decode jdk_38_method_24_code 14 = .ok (.aastore, 1) := by decide +kernel
theorem d8_15 : decode jdk_38_method_24_code 15 = .ok (.aload_n 0, 1) := by decide +kernel
theorem d8_16 : decode jdk_38_method_24_code 16 = .ok (.iload_n 3, 1) := by decide +kernel
theorem d8_17 : decode jdk_38_method_24_code 17 = .ok (.iconst 1, 1) := by decide +kernel
theorem d8_18 : decode jdk_38_method_24_code 18 = .ok (.iadd, 1) := by decide +kernel
theorem d8_19 : decode jdk_38_method_24_code 19 = .ok (.putfield 48, 3) := by decide +kernel
theorem d8_22 : decode jdk_38_method_24_code 22 = .ok (.return_, 1) := by decide +kernel
theorem pn_8 : plainName "java/util/ArrayList" = true := by first | (simp [plainName, overriddenIn]; done) | decide +kernel
theorem pd_8_4 : parseMethodDescriptor "()[Ljava/lang/Object;" = some ⟨[], some (.array (.object "java/lang/Object"))⟩ := by decide +kernel
theorem ef_8_8_g (m : MethodId) (x0 : Addr) (x1 : Addr) (x2 : Addr) (x3 : Int32) : entryFrame m #[(.ref x0), (.ref x1), (.ref x2), (.int x3)] 4 = mkF m 0 #[.val (.ref x0), .val (.ref x1), .val (.ref x2), .val (.int (x3))] [] := by first | (simp [entryFrame, mkF, argsToLocals, Value.category]; done) | rfl
set_option maxRecDepth 65536 in
set_option maxHeartbeats 40000000 in
theorem rm8_g (l : Launch) (Z : State) (a0 : Array Value) (hw : ∀ d ∈ tables_1, d.before a0 Z = true) (ws : List Jvm.Cond) (a1 : Addr) (a2 : Addr) (a3 : Addr) (cl_a3 : Cell) (z_a3 : Int32) (mc : Int32) (w5 : Addr) (h0 : Heap) (n0 : Nat) (Z0 : n0 ≤ h0.size) (Od0 : Old Z n0 h0) (E_a1 : Exa Z h0 a1 "java/util/ArrayList") (E_a2 : Exa Z h0 a2 "com/example/bindspire/bindspire/Overloads$Candidate") (F_modCount_a1 : Fld Z h0 a1 "java/util/AbstractList" "modCount" "I" (.int mc)) (F_size_a1 : Fld Z h0 a1 "java/util/ArrayList" "size" "I" (.int (0 : Int32))) (F_elementData_a1 : Fld Z h0 a1 "java/util/ArrayList" "elementData" "[Ljava/lang/Object;" (.ref a3)) (Ar_a3 : Arr Z h0 a3 cl_a3 (.object "java/lang/Object")) (S_a3 : cl_a3.slots.size = z_a3.toNatClampNeg) (N_a3 : ¬ z_a3 < 0) (g_a1 : n0 ≤ a1) (S_DEFAULTCAPACITY_EMPTY_ELEMENTDATA : Sta Z Z.heap "java/util/ArrayList" "DEFAULTCAPACITY_EMPTY_ELEMENTDATA" "[Ljava/lang/Object;" (.ref w5)) (ha17 : a3 = w5) (hz0 : ¬ ((0 : Int32) < z_a3)) (hc3 : (0 : Int32) = z_a3) :
    MetFree l (⟨"java/util/ArrayList", "add", "(Ljava/lang/Object;[Ljava/lang/Object;I)V"⟩ : MethodName) (head1 (Jvm.Cond.code (⟨"java/util/ArrayList", "add", "(Ljava/lang/Object;[Ljava/lang/Object;I)V"⟩ : MethodName) jdk_38_method_24_code 4 none :: ws) ({ frames := 3, cells := 1, slots := 10, locals := 41 } : Room)) (fun a U => a = #[(.ref a1), (.ref a2), (.ref a3), (.int (0 : Int32))] ∧ Z.Warmed39 U.vm ∧ U.heap = h0) (fun _ _ _ _ _ => True) (fun _ U o U' => ∃ v L, o = .returned v ∧ own_Qg Z none a1 ([.null, .null, .null, .null, .null, .null, .null, .null, .null, .null].set 0 (.ref a2)) h0 n0 v U'.heap L ∧ FrameEnd U o U' L ({ frames := 3, cells := 1, slots := 10, locals := 41 } : Room).cells ({ frames := 3, cells := 1, slots := 10, locals := 41 } : Room).slots) := by
  refine MetFree.of_bodySF (plainFor_of_name pn_8) hisR ?_
  intro p e s m args below meth c s₁ Bd hml0 hP hK
  obtain ⟨rfl, hZ, hh⟩ := hP
  have hx := Bd.exec
  have hby := Bd.bytes
  have hml : c.maxLocals = 4 := hml0
  have hown : s.vm.findClass "java/util/ArrayList" = some m.cls := findClass_of_methodNamed Bd.named
  have hnm := (name_of_methodNamed Bd.named Bd.method).1
  have X0 : Stand p l e ({ frames := 3, cells := 1, slots := 10, locals := 41 } : Room) s m #[(.ref a1), (.ref a2), (.ref a3), (.int (0 : Int32))] below meth c s₁ [] 0 0 := Stand.of_body Bd
  have e0 : s₁.heap = h0 := by rw [← hh, Bd.state]; rfl
  have N0 := Fr.nil n0
  have pre0 : ∀ t, Steps p.tables e below (s₁.setTop (mkF m 0 #[.val (.ref a1), .val (.ref a2), .val (.ref a3), .val (.int (0 : Int32))] [])) t → Steps p.tables e below (s₁.setTop (entryFrame m #[(.ref a1), (.ref a2), (.ref a3), (.int (0 : Int32))] 4)) t := fun t k => castTop (ef_8_8_g m a1 a2 a3 (0 : Int32)) k
  obtain ⟨cq4, q4, q4'⟩ := E_a1.cell
  obtain ⟨_, _, ⟨T4, L4, k4, n4⟩, -, X4, ⟨Lc4, hQ4, l4, y4, z4⟩, st4⟩ := X0.privateBack hx (y := (⟨"java/util/ArrayList", "grow", "()[Ljava/lang/Object;"⟩ : MethodName)) hown (mvT hZ (hw _ (List.mem_of_getElem? (i := 60) rfl))) (mvT hZ (hw _ (List.mem_of_getElem? (i := 61) rfl))) (mvT hZ (hw _ (List.mem_of_getElem? (i := 63) rfl))) (Cond.privateMethod_at (mvP hZ (hw _ (List.mem_of_getElem? (i := 62) rfl)) (args := #[]))) (mvT hZ (hw _ (List.mem_of_getElem? (i := 64) rfl))) (by decide) (backOf (W := 0) (rm9 l Z a0 hw [] a1 mc (0 : Int32) a3 cl_a3 z_a3 w5 h0 n0 Z0 Od0 E_a1 F_modCount_a1 F_size_a1 F_elementData_a1 S_DEFAULTCAPACITY_EMPTY_ELEMENTDATA Ar_a3 S_a3 N_a3 g_a1 (by decide) hz0 ha17) hZ (hw _ (List.mem_of_getElem? (i := 64) rfl)) (hw _ (List.mem_of_getElem? (i := 20) rfl)) (by decide) (by decide)) (g := (mkF m 7 #[.val (.ref a1), .val (.ref a2), .val (.ref a3), .val (.int (0 : Int32))] [(.ref a1)])) rfl (by rw [hml]; rfl) (Steps.refl _) (a := a1) (by rw [e0]; exact q4) q4' (argsL := []) (rest := []) (lenOf pd_8_4 rfl) rfl (by show 2 * 0 + _ ≤ _; exact Nat.le_of_eq rfl) (hb hby d8_7) (fun _ _ => ⟨rfl, e0, (by decide : 0 + 1 ≤ _), (by decide : 0 + 10 ≤ _)⟩)
  dsimp only [Pt.U, Pt.locs, Pt.cells, Pt.slots] at X4 l4 y4 z4 st4 hQ4
  subst l4 y4 z4
  obtain ⟨b4, rfl, N4q, K4, hz4, E4q, Fm4, Fs4, Fe4, kc4, Ov4, V4q⟩ := hQ4
  have N4 := Fr.app N0 N4q
  have g_b4 : n0 ≤ b4 := Nat.le_trans Z0 hz4
  have sz_b4 : h0.size ≤ b4 := Nat.le_trans (Keep.refl h0 [a1]).1 hz4
  have KK4 : Keep h0 T4.heap [a1] := Keep.trans (Keep.refl h0 [a1]) K4 (allS (Or.inl (List.mem_of_getElem? (i := 0) rfl)) all0)
  have Od4 := Old.keep Od0 K4 (allS (g_a1) all0)
  have Vc14 := V4q
  obtain ⟨cl_b4_14, Ar_b4_14, q_b4_14, S_b4_14, N_b4_14, H_b4_14, G_b4_14⟩ := Vc14
  have hin14 : ¬ ((0 : Int32) < 0 ∨ cl_b4_14.slots.size ≤ ((0 : Int32)).toNatClampNeg) := inb_of S_b4_14 ⟨by decide, by decide⟩
  obtain ⟨T5, h5, X5, e5, W5, st5⟩ := stR X4 hx hZ rfl Ar_b4_14 (j := (0 : Int32)) hin14 rfl (Sto.ofV Ar_b4_14 q_b4_14 Ov4 (Ins.of_exa (E_a2.keep K4) (hw _ (List.mem_of_getElem? (i := 76) rfl)))) (g := (mkF m 14 #[.val (.ref a1), .val (.ref a2), .val (.ref b4), .val (.int (0 : Int32))] [(.ref a2), (.int (0 : Int32)), (.ref b4)])) rfl rfl (hb hby d8_14)
  have V_b4_5 := Arv.set Ar_b4_14 q_b4_14 S_b4_14 N_b4_14 H_b4_14 G_b4_14 rfl W5 0 rfl (Nat.le_of_ble_eq_true rfl)
  have K5 : Keep h0 h5 [a1] := KK4.wr W5 (Or.inr sz_b4)
  have Od5 := Old.wr Od4 W5 g_b4
  have N5 := Fr.snoc X5 N4 g_b4
  obtain ⟨T6, h6, X6, e6, W6, st6⟩ := putF X5 hx hZ hown (host := "") (Or.inl (hw _ (List.mem_of_getElem? (i := 53) rfl))) Via.refl e5 (Fs4.other W5 (Or.inl (Nat.ne_of_lt (Nat.lt_of_lt_of_le E_a1.lt hz4)))) (E4q.wr W5) (Or.inl (hw _ (List.mem_of_getElem? (i := 54) rfl))) (hw _ (List.mem_of_getElem? (i := 19) rfl)) (ty := .int) (by decide) rfl rfl (g := (mkF m 19 #[.val (.ref a1), .val (.ref a2), .val (.ref b4), .val (.int (0 : Int32))] [(.int ((0 : Int32) + (1 : Int32))), (.ref a1)])) rfl rfl (hb hby d8_19)
  have Fw6 := (Fs4.other W5 (Or.inl (Nat.ne_of_lt (Nat.lt_of_lt_of_le E_a1.lt hz4)))).same W6
  have K6 : Keep h0 h6 [a1] := K5.wr W6 (Or.inl (List.mem_of_getElem? (i := 0) rfl))
  have Od6 := Old.wr Od5 W6 g_a1
  have N6 := Fr.snoc X6 N5 g_a1
  obtain ⟨fs, hr, hrun, hended, hW, hsame⟩ := X6.leave (v := none) (fun _ => rfl)
  refine ⟨_, _, pre0 _ ?_, hrun, hended, _, _, rfl, ?_, ⟨_, rfl⟩, hW, hsame.mono (by decide) (by decide)⟩
  · show Steps p.tables e below (s₁.setTop (mkF m 0 #[.val (.ref a1), .val (.ref a2), .val (.ref a3), .val (.int (0 : Int32))] [])) _
    refine XS.iloadN X0.here hx rfl (hb hby d8_0) rfl ?_
    show Steps p.tables e below (s₁.setTop (mkF m 1 #[.val (.ref a1), .val (.ref a2), .val (.ref a3), .val (.int (0 : Int32))] [(.int (0 : Int32))])) _
    refine XS.aloadN X0.here hx rfl (hb hby d8_1) rfl rfl ?_
    show Steps p.tables e below (s₁.setTop (mkF m 2 #[.val (.ref a1), .val (.ref a2), .val (.ref a3), .val (.int (0 : Int32))] [(.ref a3), (.int (0 : Int32))])) _
    refine X0.arraylength hx (by rw [e0]; exact Ar_a3.1) (State.isArrayOf_alike hZ.alike Ar_a3.2.1) (g := (mkF m 2 #[.val (.ref a1), .val (.ref a2), .val (.ref a3), .val (.int (0 : Int32))] [(.ref a3), (.int (0 : Int32))])) rfl rfl (hb hby d8_2) _ ?_
    rw [len_of S_a3 N_a3]
    show Steps p.tables e below (s₁.setTop (mkF m 3 #[.val (.ref a1), .val (.ref a2), .val (.ref a3), .val (.int (0 : Int32))] [(.int z_a3), (.int (0 : Int32))])) _
    refine XS.icmpNo X0.here hx rfl (hb hby d8_3) rfl (teq hc3).2 ?_
    show Steps p.tables e below (s₁.setTop (mkF m 6 #[.val (.ref a1), .val (.ref a2), .val (.ref a3), .val (.int (0 : Int32))] [])) _
    refine XS.aloadN X0.here hx rfl (hb hby d8_6) rfl rfl ?_
    show Steps p.tables e below (s₁.setTop (mkF m 7 #[.val (.ref a1), .val (.ref a2), .val (.ref a3), .val (.int (0 : Int32))] [(.ref a1)])) _
    refine st4.trans ?_
    show Steps p.tables e below (T4.setTop (mkF m 10 #[.val (.ref a1), .val (.ref a2), .val (.ref a3), .val (.int (0 : Int32))] [(.ref b4)])) _
    refine XS.astoreN X4.here hx rfl (hb hby d8_10) rfl rfl (l' := #[.val (.ref a1), .val (.ref a2), .val (.ref b4), .val (.int (0 : Int32))]) rfl ?_
    show Steps p.tables e below (T4.setTop (mkF m 11 #[.val (.ref a1), .val (.ref a2), .val (.ref b4), .val (.int (0 : Int32))] [])) _
    refine XS.aloadN X4.here hx rfl (hb hby d8_11) rfl rfl ?_
    show Steps p.tables e below (T4.setTop (mkF m 12 #[.val (.ref a1), .val (.ref a2), .val (.ref b4), .val (.int (0 : Int32))] [(.ref b4)])) _
    refine XS.iloadN X4.here hx rfl (hb hby d8_12) rfl ?_
    show Steps p.tables e below (T4.setTop (mkF m 13 #[.val (.ref a1), .val (.ref a2), .val (.ref b4), .val (.int (0 : Int32))] [(.int (0 : Int32)), (.ref b4)])) _
    refine XS.aloadN X4.here hx rfl (hb hby d8_13) rfl rfl ?_
    show Steps p.tables e below (T4.setTop (mkF m 14 #[.val (.ref a1), .val (.ref a2), .val (.ref b4), .val (.int (0 : Int32))] [(.ref a2), (.int (0 : Int32)), (.ref b4)])) _
    refine st5 _ ?_
    show Steps p.tables e below (T5.setTop (mkF m 15 #[.val (.ref a1), .val (.ref a2), .val (.ref b4), .val (.int (0 : Int32))] [])) _
    refine XS.aloadN X5.here hx rfl (hb hby d8_15) rfl rfl ?_
    show Steps p.tables e below (T5.setTop (mkF m 16 #[.val (.ref a1), .val (.ref a2), .val (.ref b4), .val (.int (0 : Int32))] [(.ref a1)])) _
    refine XS.iloadN X5.here hx rfl (hb hby d8_16) rfl ?_
    show Steps p.tables e below (T5.setTop (mkF m 17 #[.val (.ref a1), .val (.ref a2), .val (.ref b4), .val (.int (0 : Int32))] [(.int (0 : Int32)), (.ref a1)])) _
    refine XS.iconst X5.here hx rfl (hb hby d8_17) ?_
    show Steps p.tables e below (T5.setTop (mkF m 18 #[.val (.ref a1), .val (.ref a2), .val (.ref b4), .val (.int (0 : Int32))] [(.int (1 : Int32)), (.int (0 : Int32)), (.ref a1)])) _
    refine XS.iadd X5.here hx rfl (hb hby d8_18) rfl ?_
    show Steps p.tables e below (T5.setTop (mkF m 19 #[.val (.ref a1), .val (.ref a2), .val (.ref b4), .val (.int (0 : Int32))] [(.int ((0 : Int32) + (1 : Int32))), (.ref a1)])) _
    refine st6 _ ?_
    show Steps p.tables e below (T6.setTop (mkF m 22 #[.val (.ref a1), .val (.ref a2), .val (.ref b4), .val (.int (0 : Int32))] [])) _
    exact X6.returnOut hx Bd.returns (hb hby d8_22) hr
  · show own_Qg Z none a1 ([.null, .null, .null, .null, .null, .null, .null, .null, .null, .null].set 0 (.ref a2)) h0 n0 _ T6.heap _
    rw [e6]
    exact ⟨b4, rfl, N6, K6, hz4, ((E4q.wr W5).wr W6), ⟨_, ((Fm4.other W5 (Or.inl (Nat.ne_of_lt (Nat.lt_of_lt_of_le E_a1.lt hz4)))).other W6 (Or.inr (slot_ne (Or.inl (hw _ (List.mem_of_getElem? (i := 38) rfl))) (Or.inl (hw _ (List.mem_of_getElem? (i := 54) rfl))) (by decide) (t := .int) (t' := .int) (by decide) (by decide))))⟩, Fw6, ((Fe4.other W5 (Or.inl (Nat.ne_of_lt (Nat.lt_of_lt_of_le E_a1.lt hz4)))).other W6 (Or.inr (slot_ne (Or.inl (hw _ (List.mem_of_getElem? (i := 41) rfl))) (Or.inl (hw _ (List.mem_of_getElem? (i := 54) rfl))) (by decide) (t := (.array (.object "java/lang/Object"))) (t' := .int) (by decide) (by decide)))), kc4, Ov4, (V_b4_5.other W6 (Ne.symm (Nat.ne_of_lt (Nat.lt_of_lt_of_le E_a1.lt hz4))))⟩

theorem ef_8 (m : MethodId) (x0 : Addr) (x1 : Addr) (x2 : Addr) (x3 : Int32) : entryFrame m #[(.ref x0), (.ref x1), (.ref x2), (.int x3)] 4 = mkF m 0 #[.val (.ref x0), .val (.ref x1), .val (.ref x2), .val (.int x3)] [] := by first | (simp [entryFrame, mkF, argsToLocals, Value.category]; done) | rfl
set_option maxRecDepth 65536 in
set_option maxHeartbeats 40000000 in
theorem rm8_s (l : Launch) (Z : State) (a0 : Array Value) (hw : ∀ d ∈ tables_1, d.before a0 Z = true) (ws : List Jvm.Cond) (a1 : Addr) (a2 : Addr) (a3 : Addr) (p4 : Int32) (kc : ClassId) (vs : List Value) (mc : Int32) (h0 : Heap) (n0 : Nat) (Z0 : n0 ≤ h0.size) (E_a1 : Exa Z h0 a1 "java/util/ArrayList") (E_a2 : Exa Z h0 a2 "com/example/bindspire/bindspire/Overloads$Candidate") (F_modCount_a1 : Fld Z h0 a1 "java/util/AbstractList" "modCount" "I" (.int mc)) (F_size_a1 : Fld Z h0 a1 "java/util/ArrayList" "size" "I" (.int p4)) (F_elementData_a1 : Fld Z h0 a1 "java/util/ArrayList" "elementData" "[Ljava/lang/Object;" (.ref a3)) (V_a3 : Arv Z h0 a3 kc (.object "java/lang/Object") (10 : Int32) vs .null) (Ov_a3 : Ovr Z kc "java/lang/Object") (g_a3 : n0 ≤ a3) (hj14 : ¬ (p4 < 0) ∧ p4 < (10 : Int32)) (hl14 : (p4).toNatClampNeg < vs.length) (g_a1 : n0 ≤ a1) (hne : a1 ≠ a3) (hc3 : ¬ (p4 = (10 : Int32))) :
    MetFree l (⟨"java/util/ArrayList", "add", "(Ljava/lang/Object;[Ljava/lang/Object;I)V"⟩ : MethodName) (head1 (Jvm.Cond.code (⟨"java/util/ArrayList", "add", "(Ljava/lang/Object;[Ljava/lang/Object;I)V"⟩ : MethodName) jdk_38_method_24_code 4 none :: ws) ({ frames := 0, cells := 0, slots := 0, locals := 0 } : Room)) (fun a U => a = #[(.ref a1), (.ref a2), (.ref a3), (.int p4)] ∧ Z.Warmed39 U.vm ∧ U.heap = h0) (fun _ _ _ _ _ => True) (fun _ U o U' => ∃ v L, o = .returned v ∧ own_Qa Z none [a3, a1] a3 a1 (p4 + (1 : Int32)) (vs.set (p4).toNatClampNeg (.ref a2)) h0 n0 v U'.heap L ∧ FrameEnd U o U' L ({ frames := 0, cells := 0, slots := 0, locals := 0 } : Room).cells ({ frames := 0, cells := 0, slots := 0, locals := 0 } : Room).slots) := by
  refine MetFree.of_bodySF (plainFor_of_name pn_8) hisR ?_
  intro p e s m args below meth c s₁ Bd hml0 hP hK
  obtain ⟨rfl, hZ, hh⟩ := hP
  have hx := Bd.exec
  have hby := Bd.bytes
  have hml : c.maxLocals = 4 := hml0
  have hown : s.vm.findClass "java/util/ArrayList" = some m.cls := findClass_of_methodNamed Bd.named
  have hnm := (name_of_methodNamed Bd.named Bd.method).1
  have X0 : Stand p l e ({ frames := 0, cells := 0, slots := 0, locals := 0 } : Room) s m #[(.ref a1), (.ref a2), (.ref a3), (.int p4)] below meth c s₁ [] 0 0 := Stand.of_body Bd
  have e0 : s₁.heap = h0 := by rw [← hh, Bd.state]; rfl
  have N0 := Fr.nil n0
  have pre0 : ∀ t, Steps p.tables e below (s₁.setTop (mkF m 0 #[.val (.ref a1), .val (.ref a2), .val (.ref a3), .val (.int p4)] [])) t → Steps p.tables e below (s₁.setTop (entryFrame m #[(.ref a1), (.ref a2), (.ref a3), (.int p4)] 4)) t := fun t k => castTop (ef_8 m a1 a2 a3 p4) k
  have Vc2 := V_a3
  obtain ⟨cl_a3_2, Ar_a3, -, S_a3, N_a3, -, -⟩ := Vc2
  have Vc14 := V_a3
  obtain ⟨cl_a3_14, Ar_a3_14, q_a3_14, S_a3_14, N_a3_14, H_a3_14, G_a3_14⟩ := Vc14
  have hin14 : ¬ (p4 < 0 ∨ cl_a3_14.slots.size ≤ (p4).toNatClampNeg) := inb_of S_a3_14 hj14
  obtain ⟨T5, h5, X5, e5, W5, st5⟩ := stR X0 hx hZ e0 Ar_a3_14 (j := p4) hin14 rfl (Sto.ofV Ar_a3_14 q_a3_14 Ov_a3 (Ins.of_exa E_a2 (hw _ (List.mem_of_getElem? (i := 76) rfl)))) (g := (mkF m 14 #[.val (.ref a1), .val (.ref a2), .val (.ref a3), .val (.int p4)] [(.ref a2), (.int p4), (.ref a3)])) rfl rfl (hb hby d8_14)
  have V_a3_5 := Arv.set Ar_a3_14 q_a3_14 S_a3_14 N_a3_14 H_a3_14 G_a3_14 rfl W5 (p4).toNatClampNeg rfl hl14
  have K5 : Keep h0 h5 [a3, a1] := (Keep.refl h0 [a3, a1]).wr W5 (Or.inl (List.mem_of_getElem? (i := 0) rfl))
  have N5 := Fr.snoc X5 N0 g_a3
  obtain ⟨T6, h6, X6, e6, W6, st6⟩ := putF X5 hx hZ hown (host := "") (Or.inl (hw _ (List.mem_of_getElem? (i := 53) rfl))) Via.refl e5 (F_size_a1.other W5 (Or.inl hne)) (E_a1.wr W5) (Or.inl (hw _ (List.mem_of_getElem? (i := 54) rfl))) (hw _ (List.mem_of_getElem? (i := 19) rfl)) (ty := .int) (by decide) rfl rfl (g := (mkF m 19 #[.val (.ref a1), .val (.ref a2), .val (.ref a3), .val (.int p4)] [(.int (p4 + (1 : Int32))), (.ref a1)])) rfl rfl (hb hby d8_19)
  have Fw6 := (F_size_a1.other W5 (Or.inl hne)).same W6
  have K6 : Keep h0 h6 [a3, a1] := K5.wr W6 (Or.inl (List.mem_of_getElem? (i := 1) rfl))
  have N6 := Fr.snoc X6 N5 g_a1
  obtain ⟨fs, hr, hrun, hended, hW, hsame⟩ := X6.leave (v := none) (fun _ => rfl)
  refine ⟨_, _, pre0 _ ?_, hrun, hended, _, _, rfl, ?_, ⟨_, rfl⟩, hW, hsame.mono (by decide) (by decide)⟩
  · show Steps p.tables e below (s₁.setTop (mkF m 0 #[.val (.ref a1), .val (.ref a2), .val (.ref a3), .val (.int p4)] [])) _
    refine XS.iloadN X0.here hx rfl (hb hby d8_0) rfl ?_
    show Steps p.tables e below (s₁.setTop (mkF m 1 #[.val (.ref a1), .val (.ref a2), .val (.ref a3), .val (.int p4)] [(.int p4)])) _
    refine XS.aloadN X0.here hx rfl (hb hby d8_1) rfl rfl ?_
    show Steps p.tables e below (s₁.setTop (mkF m 2 #[.val (.ref a1), .val (.ref a2), .val (.ref a3), .val (.int p4)] [(.ref a3), (.int p4)])) _
    refine X0.arraylength hx (by rw [e0]; exact Ar_a3.1) (State.isArrayOf_alike hZ.alike Ar_a3.2.1) (g := (mkF m 2 #[.val (.ref a1), .val (.ref a2), .val (.ref a3), .val (.int p4)] [(.ref a3), (.int p4)])) rfl rfl (hb hby d8_2) _ ?_
    rw [len_of S_a3 N_a3]
    show Steps p.tables e below (s₁.setTop (mkF m 3 #[.val (.ref a1), .val (.ref a2), .val (.ref a3), .val (.int p4)] [(.int (10 : Int32)), (.int p4)])) _
    refine XS.icmpYes X0.here hx rfl (pc0 := 3) (pc' := 11) rfl (hb hby d8_3) rfl (feq hc3).2 (by decide) (by decide) ?_
    show Steps p.tables e below (s₁.setTop (mkF m 11 #[.val (.ref a1), .val (.ref a2), .val (.ref a3), .val (.int p4)] [])) _
    refine XS.aloadN X0.here hx rfl (hb hby d8_11) rfl rfl ?_
    show Steps p.tables e below (s₁.setTop (mkF m 12 #[.val (.ref a1), .val (.ref a2), .val (.ref a3), .val (.int p4)] [(.ref a3)])) _
    refine XS.iloadN X0.here hx rfl (hb hby d8_12) rfl ?_
    show Steps p.tables e below (s₁.setTop (mkF m 13 #[.val (.ref a1), .val (.ref a2), .val (.ref a3), .val (.int p4)] [(.int p4), (.ref a3)])) _
    refine XS.aloadN X0.here hx rfl (hb hby d8_13) rfl rfl ?_
    show Steps p.tables e below (s₁.setTop (mkF m 14 #[.val (.ref a1), .val (.ref a2), .val (.ref a3), .val (.int p4)] [(.ref a2), (.int p4), (.ref a3)])) _
    refine st5 _ ?_
    show Steps p.tables e below (T5.setTop (mkF m 15 #[.val (.ref a1), .val (.ref a2), .val (.ref a3), .val (.int p4)] [])) _
    refine XS.aloadN X5.here hx rfl (hb hby d8_15) rfl rfl ?_
    show Steps p.tables e below (T5.setTop (mkF m 16 #[.val (.ref a1), .val (.ref a2), .val (.ref a3), .val (.int p4)] [(.ref a1)])) _
    refine XS.iloadN X5.here hx rfl (hb hby d8_16) rfl ?_
    show Steps p.tables e below (T5.setTop (mkF m 17 #[.val (.ref a1), .val (.ref a2), .val (.ref a3), .val (.int p4)] [(.int p4), (.ref a1)])) _
    refine XS.iconst X5.here hx rfl (hb hby d8_17) ?_
    show Steps p.tables e below (T5.setTop (mkF m 18 #[.val (.ref a1), .val (.ref a2), .val (.ref a3), .val (.int p4)] [(.int (1 : Int32)), (.int p4), (.ref a1)])) _
    refine XS.iadd X5.here hx rfl (hb hby d8_18) rfl ?_
    show Steps p.tables e below (T5.setTop (mkF m 19 #[.val (.ref a1), .val (.ref a2), .val (.ref a3), .val (.int p4)] [(.int (p4 + (1 : Int32))), (.ref a1)])) _
    refine st6 _ ?_
    show Steps p.tables e below (T6.setTop (mkF m 22 #[.val (.ref a1), .val (.ref a2), .val (.ref a3), .val (.int p4)] [])) _
    exact X6.returnOut hx Bd.returns (hb hby d8_22) hr
  · show own_Qa Z none [a3, a1] a3 a1 (p4 + (1 : Int32)) (vs.set (p4).toNatClampNeg (.ref a2)) h0 n0 _ T6.heap _
    rw [e6]
    exact ⟨rfl, N6, K6, ((E_a1.wr W5).wr W6), ⟨_, ((F_modCount_a1.other W5 (Or.inl hne)).other W6 (Or.inr (slot_ne (Or.inl (hw _ (List.mem_of_getElem? (i := 38) rfl))) (Or.inl (hw _ (List.mem_of_getElem? (i := 54) rfl))) (by decide) (t := .int) (t' := .int) (by decide) (by decide))))⟩, Fw6, ((F_elementData_a1.other W5 (Or.inl hne)).other W6 (Or.inr (slot_ne (Or.inl (hw _ (List.mem_of_getElem? (i := 41) rfl))) (Or.inl (hw _ (List.mem_of_getElem? (i := 54) rfl))) (by decide) (t := (.array (.object "java/lang/Object"))) (t' := .int) (by decide) (by decide)))), kc, Ov_a3, (V_a3_5.other W6 (Ne.symm hne))⟩

theorem d7_0 : decode jdk_38_method_25_code 0 = .ok (.aload_n 0, 1) := by decide +kernel
theorem d7_1 : decode jdk_38_method_25_code 1 = .ok (.dup, 1) := by decide +kernel
theorem d7_2 : decode jdk_38_method_25_code 2 = .ok (.getfield 63, 3) := by decide +kernel
theorem d7_5 : decode jdk_38_method_25_code 5 = .ok (.iconst 1, 1) := by decide +kernel
theorem d7_6 : decode jdk_38_method_25_code 6 = .ok (.iadd, 1) := by decide +kernel
theorem d7_7 : decode jdk_38_method_25_code 7 = .ok (.putfield 63, 3) := by decide +kernel
theorem d7_10 : decode jdk_38_method_25_code 10 = .ok (.aload_n 0, 1) := by decide +kernel
theorem d7_11 : decode jdk_38_method_25_code 11 = .ok (.aload_n 1, 1) := by decide +kernel
theorem d7_12 : decode jdk_38_method_25_code 12 = .ok (.aload_n 0, 1) := by decide +kernel
theorem d7_13 : decode jdk_38_method_25_code 13 = .ok (.getfield 9, 3) := by decide +kernel
theorem d7_16 : decode jdk_38_method_25_code 16 = .ok (.aload_n 0, 1) := by decide +kernel
theorem d7_17 : decode jdk_38_method_25_code 17 = .ok (.getfield 48, 3) := by decide +kernel
theorem d7_20 : decode jdk_38_method_25_code 20 = .ok (.invokevirtual 131, 3) := by decide +kernel
theorem d7_23 : decode jdk_38_method_25_code 23 = .ok (.iconst 1, 1) := by decide +kernel
theorem d7_24 : decode jdk_38_method_25_code 24 = .ok (.ireturn, 1) := by decide +kernel
theorem pn_7 : plainName "java/util/ArrayList" = true := by first | (simp [plainName, overriddenIn]; done) | decide +kernel
theorem pd_7_3 : parseMethodDescriptor "(Ljava/lang/Object;[Ljava/lang/Object;I)V" = some ⟨[(.object "java/lang/Object"), (.array (.object "java/lang/Object")), .int], none⟩ := by decide +kernel
theorem ef_7 (m : MethodId) (x0 : Addr) (x1 : Addr) : entryFrame m #[(.ref x0), (.ref x1)] 2 = mkF m 0 #[.val (.ref x0), .val (.ref x1)] [] := by first | (simp [entryFrame, mkF, argsToLocals, Value.category]; done) | rfl
set_option maxRecDepth 65536 in
set_option maxHeartbeats 40000000 in
theorem rm7_g (l : Launch) (Z : State) (a0 : Array Value) (hw : ∀ d ∈ tables_1, d.before a0 Z = true) (ws : List Jvm.Cond) (a1 : Addr) (a2 : Addr) (mc : Int32) (wD : Addr) (cl_wD : Cell) (h0 : Heap) (n0 : Nat) (Z0 : n0 ≤ h0.size) (Od0 : Old Z n0 h0) (E_a1 : Exa Z h0 a1 "java/util/ArrayList") (E_a2 : Exa Z h0 a2 "com/example/bindspire/bindspire/Overloads$Candidate") (F_modCount_a1 : Fld Z h0 a1 "java/util/AbstractList" "modCount" "I" (.int mc)) (F_size_a1 : Fld Z h0 a1 "java/util/ArrayList" "size" "I" (.int (0 : Int32))) (F_elementData_a1 : Fld Z h0 a1 "java/util/ArrayList" "elementData" "[Ljava/lang/Object;" (.ref wD)) (g_a1 : n0 ≤ a1) (S_DEFAULTCAPACITY_EMPTY_ELEMENTDATA : Sta Z Z.heap "java/util/ArrayList" "DEFAULTCAPACITY_EMPTY_ELEMENTDATA" "[Ljava/lang/Object;" (.ref wD)) (Ar_wD : Arr Z h0 wD cl_wD (.object "java/lang/Object")) (S_wD : cl_wD.slots.size = (0 : Int32).toNatClampNeg) :
    MetFree l (⟨"java/util/ArrayList", "add", "(Ljava/lang/Object;)Z"⟩ : MethodName) (head1 (Jvm.Cond.code (⟨"java/util/ArrayList", "add", "(Ljava/lang/Object;)Z"⟩ : MethodName) jdk_38_method_25_code 2 (some .boolean) :: ws) ({ frames := 4, cells := 1, slots := 10, locals := 56 } : Room)) (fun a U => a = #[(.ref a1), (.ref a2)] ∧ Z.Warmed39 U.vm ∧ U.heap = h0) (fun _ _ _ _ _ => True) (fun _ U o U' => ∃ v L, o = .returned v ∧ own_Qg Z (some (.int (1 : Int32))) a1 ([.null, .null, .null, .null, .null, .null, .null, .null, .null, .null].set 0 (.ref a2)) h0 n0 v U'.heap L ∧ FrameEnd U o U' L ({ frames := 4, cells := 1, slots := 10, locals := 56 } : Room).cells ({ frames := 4, cells := 1, slots := 10, locals := 56 } : Room).slots) := by
  refine MetFree.of_bodySF (plainFor_of_name pn_7) hisR ?_
  intro p e s m args below meth c s₁ Bd hml0 hP hK
  obtain ⟨rfl, hZ, hh⟩ := hP
  have hx := Bd.exec
  have hby := Bd.bytes
  have hml : c.maxLocals = 2 := hml0
  have hown : s.vm.findClass "java/util/ArrayList" = some m.cls := findClass_of_methodNamed Bd.named
  have hnm := (name_of_methodNamed Bd.named Bd.method).1
  have X0 : Stand p l e ({ frames := 4, cells := 1, slots := 10, locals := 56 } : Room) s m #[(.ref a1), (.ref a2)] below meth c s₁ [] 0 0 := Stand.of_body Bd
  have e0 : s₁.heap = h0 := by rw [← hh, Bd.state]; rfl
  have N0 := Fr.nil n0
  have pre0 : ∀ t, Steps p.tables e below (s₁.setTop (mkF m 0 #[.val (.ref a1), .val (.ref a2)] [])) t → Steps p.tables e below (s₁.setTop (entryFrame m #[(.ref a1), (.ref a2)] 2)) t := fun t k => castTop (ef_7 m a1 a2) k
  obtain ⟨T3, X3, e3, st3⟩ := getF X0 hx hZ hown (host := "") (Or.inl (hw _ (List.mem_of_getElem? (i := 51) rfl))) (Via.of (hw _ (List.mem_of_getElem? (i := 52) rfl))) e0 F_modCount_a1 (g := (mkF m 2 #[.val (.ref a1), .val (.ref a2)] [(.ref a1), (.ref a1)])) rfl rfl (hb hby d7_2)
  obtain ⟨T4, h4, X4, e4, W4, st4⟩ := putF X3 hx hZ hown (host := "") (Or.inl (hw _ (List.mem_of_getElem? (i := 51) rfl))) (Via.of (hw _ (List.mem_of_getElem? (i := 52) rfl))) e3 F_modCount_a1 E_a1 (Or.inl (hw _ (List.mem_of_getElem? (i := 38) rfl))) (hw _ (List.mem_of_getElem? (i := 19) rfl)) (ty := .int) (by decide) rfl rfl (g := (mkF m 7 #[.val (.ref a1), .val (.ref a2)] [(.int (mc + (1 : Int32))), (.ref a1)])) rfl rfl (hb hby d7_7)
  have Fw4 := F_modCount_a1.same W4
  have K4 : Keep h0 h4 [a1] := (Keep.refl h0 [a1]).wr W4 (Or.inl (List.mem_of_getElem? (i := 0) rfl))
  have Od4 := Old.wr Od0 W4 g_a1
  have N4 := Fr.snoc X4 N0 g_a1
  obtain ⟨T5, X5, e5, st5⟩ := getF X4 hx hZ hown (host := "") (Or.inl (hw _ (List.mem_of_getElem? (i := 40) rfl))) Via.refl e4 (F_elementData_a1.other W4 (Or.inr (slot_ne (Or.inl (hw _ (List.mem_of_getElem? (i := 41) rfl))) (Or.inl (hw _ (List.mem_of_getElem? (i := 38) rfl))) (by decide) (t := (.array (.object "java/lang/Object"))) (t' := .int) (by decide) (by decide)))) (g := (mkF m 13 #[.val (.ref a1), .val (.ref a2)] [(.ref a1), (.ref a2), (.ref a1)])) rfl rfl (hb hby d7_13)
  obtain ⟨T6, X6, e6, st6⟩ := getF X5 hx hZ hown (host := "") (Or.inl (hw _ (List.mem_of_getElem? (i := 53) rfl))) Via.refl e5 (F_size_a1.other W4 (Or.inr (slot_ne (Or.inl (hw _ (List.mem_of_getElem? (i := 54) rfl))) (Or.inl (hw _ (List.mem_of_getElem? (i := 38) rfl))) (by decide) (t := .int) (t' := .int) (by decide) (by decide)))) (g := (mkF m 17 #[.val (.ref a1), .val (.ref a2)] [(.ref a1), (.ref wD), (.ref a2), (.ref a1)])) rfl rfl (hb hby d7_17)
  obtain ⟨cq7, q7, q7'⟩ := (E_a1.wr W4).cell
  obtain ⟨_, _, ⟨T7, L7, k7, n7⟩, -, X7, ⟨Lc7, hQ7, l7, y7, z7⟩, st7⟩ := X6.privateBack hx (y := (⟨"java/util/ArrayList", "add", "(Ljava/lang/Object;[Ljava/lang/Object;I)V"⟩ : MethodName)) hown (mvT hZ (hw _ (List.mem_of_getElem? (i := 55) rfl))) (mvT hZ (hw _ (List.mem_of_getElem? (i := 56) rfl))) (mvT hZ (hw _ (List.mem_of_getElem? (i := 58) rfl))) (Cond.privateMethod_at (mvP hZ (hw _ (List.mem_of_getElem? (i := 57) rfl)) (args := #[]))) (mvT hZ (hw _ (List.mem_of_getElem? (i := 59) rfl))) (by decide) (backOf (W := 0) (rm8_g l Z a0 hw [] a1 a2 wD cl_wD (0 : Int32) (mc + (1 : Int32)) wD h4 n0 (Nat.le_trans Z0 (Keep.of_wr W4).1) Od4 (E_a1.wr W4) (E_a2.wr W4) Fw4 (F_size_a1.other W4 (Or.inr (slot_ne (Or.inl (hw _ (List.mem_of_getElem? (i := 54) rfl))) (Or.inl (hw _ (List.mem_of_getElem? (i := 38) rfl))) (by decide) (t := .int) (t' := .int) (by decide) (by decide)))) (F_elementData_a1.other W4 (Or.inr (slot_ne (Or.inl (hw _ (List.mem_of_getElem? (i := 41) rfl))) (Or.inl (hw _ (List.mem_of_getElem? (i := 38) rfl))) (by decide) (t := (.array (.object "java/lang/Object"))) (t' := .int) (by decide) (by decide)))) ((Ar_wD.other W4 (ne_arr E_a1 (hw _ (List.mem_of_getElem? (i := 19) rfl)) Ar_wD).symm)) S_wD (by decide) g_a1 S_DEFAULTCAPACITY_EMPTY_ELEMENTDATA rfl (by decide) rfl) hZ (hw _ (List.mem_of_getElem? (i := 59) rfl)) (hw _ (List.mem_of_getElem? (i := 20) rfl)) (by decide) (by decide)) (g := (mkF m 20 #[.val (.ref a1), .val (.ref a2)] [(.int (0 : Int32)), (.ref wD), (.ref a2), (.ref a1)])) rfl (by rw [hml]; rfl) (Steps.refl _) (a := a1) (by rw [e6]; exact q7) q7' (argsL := [(.ref a2), (.ref wD), (.int (0 : Int32))]) (rest := []) (lenOf pd_7_3 rfl) rfl (by show 2 * 0 + _ ≤ _; exact Nat.le_of_eq rfl) (hb hby d7_20) (fun _ _ => ⟨rfl, e6, (by decide : 0 + 1 ≤ _), (by decide : 0 + 10 ≤ _)⟩)
  dsimp only [Pt.U, Pt.locs, Pt.cells, Pt.slots] at X7 l7 y7 z7 st7 hQ7
  subst l7 y7 z7
  obtain ⟨b7, rfl, N7q, K7, hz7, E7q, ⟨mc7, Fm7⟩, Fs7, Fe7, kc7, Ov7, V7q⟩ := hQ7
  have N7 := Fr.app N4 N7q
  have g_b7 : n0 ≤ b7 := Nat.le_trans (Nat.le_trans Z0 (Keep.of_wr W4).1) hz7
  have sz_b7 : h0.size ≤ b7 := Nat.le_trans K4.1 hz7
  have KK7 : Keep h0 T7.heap [a1] := Keep.trans K4 K7 (allS (Or.inl (List.mem_of_getElem? (i := 0) rfl)) all0)
  have Od7 := Old.keep Od4 K7 (allS (g_a1) all0)
  obtain ⟨fs, hr, hrun, hended, hW, hsame⟩ := X7.leave (v := some (.int (1 : Int32))) (fun h => by rw [Bd.returns] at h; cases h)
  refine ⟨_, _, pre0 _ ?_, hrun, hended, _, _, rfl, ?_, ⟨_, rfl⟩, hW, hsame.mono (by decide) (by decide)⟩
  · show Steps p.tables e below (s₁.setTop (mkF m 0 #[.val (.ref a1), .val (.ref a2)] [])) _
    refine XS.aloadN X0.here hx rfl (hb hby d7_0) rfl rfl ?_
    show Steps p.tables e below (s₁.setTop (mkF m 1 #[.val (.ref a1), .val (.ref a2)] [(.ref a1)])) _
    refine XS.dup X0.here hx rfl (hb hby d7_1) rfl rfl ?_
    show Steps p.tables e below (s₁.setTop (mkF m 2 #[.val (.ref a1), .val (.ref a2)] [(.ref a1), (.ref a1)])) _
    refine st3 _ ?_
    show Steps p.tables e below (T3.setTop (mkF m 5 #[.val (.ref a1), .val (.ref a2)] [(.int mc), (.ref a1)])) _
    refine XS.iconst X3.here hx rfl (hb hby d7_5) ?_
    show Steps p.tables e below (T3.setTop (mkF m 6 #[.val (.ref a1), .val (.ref a2)] [(.int (1 : Int32)), (.int mc), (.ref a1)])) _
    refine XS.iadd X3.here hx rfl (hb hby d7_6) rfl ?_
    show Steps p.tables e below (T3.setTop (mkF m 7 #[.val (.ref a1), .val (.ref a2)] [(.int (mc + (1 : Int32))), (.ref a1)])) _
    refine st4 _ ?_
    show Steps p.tables e below (T4.setTop (mkF m 10 #[.val (.ref a1), .val (.ref a2)] [])) _
    refine XS.aloadN X4.here hx rfl (hb hby d7_10) rfl rfl ?_
    show Steps p.tables e below (T4.setTop (mkF m 11 #[.val (.ref a1), .val (.ref a2)] [(.ref a1)])) _
    refine XS.aloadN X4.here hx rfl (hb hby d7_11) rfl rfl ?_
    show Steps p.tables e below (T4.setTop (mkF m 12 #[.val (.ref a1), .val (.ref a2)] [(.ref a2), (.ref a1)])) _
    refine XS.aloadN X4.here hx rfl (hb hby d7_12) rfl rfl ?_
    show Steps p.tables e below (T4.setTop (mkF m 13 #[.val (.ref a1), .val (.ref a2)] [(.ref a1), (.ref a2), (.ref a1)])) _
    refine st5 _ ?_
    show Steps p.tables e below (T5.setTop (mkF m 16 #[.val (.ref a1), .val (.ref a2)] [(.ref wD), (.ref a2), (.ref a1)])) _
    refine XS.aloadN X5.here hx rfl (hb hby d7_16) rfl rfl ?_
    show Steps p.tables e below (T5.setTop (mkF m 17 #[.val (.ref a1), .val (.ref a2)] [(.ref a1), (.ref wD), (.ref a2), (.ref a1)])) _
    refine st6 _ ?_
    show Steps p.tables e below (T6.setTop (mkF m 20 #[.val (.ref a1), .val (.ref a2)] [(.int (0 : Int32)), (.ref wD), (.ref a2), (.ref a1)])) _
    refine st7.trans ?_
    show Steps p.tables e below (T7.setTop (mkF m 23 #[.val (.ref a1), .val (.ref a2)] [])) _
    refine XS.iconst X7.here hx rfl (hb hby d7_23) ?_
    show Steps p.tables e below (T7.setTop (mkF m 24 #[.val (.ref a1), .val (.ref a2)] [(.int (1 : Int32))])) _
    exact retN X7 hx (t := .boolean) Bd.returns (by simp) (hb hby d7_24) hr
  · show own_Qg Z (some (.int (1 : Int32))) a1 ([.null, .null, .null, .null, .null, .null, .null, .null, .null, .null].set 0 (.ref a2)) h0 n0 _ T7.heap _
    exact ⟨b7, rfl, N7, KK7, sz_b7, E7q, ⟨_, Fm7⟩, Fs7, Fe7, kc7, Ov7, V7q⟩

set_option maxRecDepth 65536 in
set_option maxHeartbeats 40000000 in
theorem rm7_s (l : Launch) (Z : State) (a0 : Array Value) (hw : ∀ d ∈ tables_1, d.before a0 Z = true) (ws : List Jvm.Cond) (a1 : Addr) (a2 : Addr) (kc : ClassId) (vs : List Value) (mc k : Int32) (b : Addr) (h0 : Heap) (n0 : Nat) (Z0 : n0 ≤ h0.size) (E_a1 : Exa Z h0 a1 "java/util/ArrayList") (E_a2 : Exa Z h0 a2 "com/example/bindspire/bindspire/Overloads$Candidate") (F_modCount_a1 : Fld Z h0 a1 "java/util/AbstractList" "modCount" "I" (.int mc)) (F_size_a1 : Fld Z h0 a1 "java/util/ArrayList" "size" "I" (.int k)) (F_elementData_a1 : Fld Z h0 a1 "java/util/ArrayList" "elementData" "[Ljava/lang/Object;" (.ref b)) (V_b : Arv Z h0 b kc (.object "java/lang/Object") (10 : Int32) vs .null) (Ov_b : Ovr Z kc "java/lang/Object") (g_b : n0 ≤ b) (g_a1 : n0 ≤ a1) (hne : a1 ≠ b) (hj : ¬ (k < 0) ∧ k < (10 : Int32)) (hl : (k).toNatClampNeg < vs.length) (hk : ¬ (k = (10 : Int32))) :
    MetFree l (⟨"java/util/ArrayList", "add", "(Ljava/lang/Object;)Z"⟩ : MethodName) (head1 (Jvm.Cond.code (⟨"java/util/ArrayList", "add", "(Ljava/lang/Object;)Z"⟩ : MethodName) jdk_38_method_25_code 2 (some .boolean) :: ws) ({ frames := 1, cells := 0, slots := 0, locals := 15 } : Room)) (fun a U => a = #[(.ref a1), (.ref a2)] ∧ Z.Warmed39 U.vm ∧ U.heap = h0) (fun _ _ _ _ _ => True) (fun _ U o U' => ∃ v L, o = .returned v ∧ own_Qa Z (some (.int (1 : Int32))) [a1, b] b a1 (k + (1 : Int32)) (vs.set (k).toNatClampNeg (.ref a2)) h0 n0 v U'.heap L ∧ FrameEnd U o U' L ({ frames := 1, cells := 0, slots := 0, locals := 15 } : Room).cells ({ frames := 1, cells := 0, slots := 0, locals := 15 } : Room).slots) := by
  refine MetFree.of_bodySF (plainFor_of_name pn_7) hisR ?_
  intro p e s m args below meth c s₁ Bd hml0 hP hK
  obtain ⟨rfl, hZ, hh⟩ := hP
  have hx := Bd.exec
  have hby := Bd.bytes
  have hml : c.maxLocals = 2 := hml0
  have hown : s.vm.findClass "java/util/ArrayList" = some m.cls := findClass_of_methodNamed Bd.named
  have hnm := (name_of_methodNamed Bd.named Bd.method).1
  have X0 : Stand p l e ({ frames := 1, cells := 0, slots := 0, locals := 15 } : Room) s m #[(.ref a1), (.ref a2)] below meth c s₁ [] 0 0 := Stand.of_body Bd
  have e0 : s₁.heap = h0 := by rw [← hh, Bd.state]; rfl
  have N0 := Fr.nil n0
  have pre0 : ∀ t, Steps p.tables e below (s₁.setTop (mkF m 0 #[.val (.ref a1), .val (.ref a2)] [])) t → Steps p.tables e below (s₁.setTop (entryFrame m #[(.ref a1), (.ref a2)] 2)) t := fun t k => castTop (ef_7 m a1 a2) k
  obtain ⟨T3, X3, e3, st3⟩ := getF X0 hx hZ hown (host := "") (Or.inl (hw _ (List.mem_of_getElem? (i := 51) rfl))) (Via.of (hw _ (List.mem_of_getElem? (i := 52) rfl))) e0 F_modCount_a1 (g := (mkF m 2 #[.val (.ref a1), .val (.ref a2)] [(.ref a1), (.ref a1)])) rfl rfl (hb hby d7_2)
  obtain ⟨T4, h4, X4, e4, W4, st4⟩ := putF X3 hx hZ hown (host := "") (Or.inl (hw _ (List.mem_of_getElem? (i := 51) rfl))) (Via.of (hw _ (List.mem_of_getElem? (i := 52) rfl))) e3 F_modCount_a1 E_a1 (Or.inl (hw _ (List.mem_of_getElem? (i := 38) rfl))) (hw _ (List.mem_of_getElem? (i := 19) rfl)) (ty := .int) (by decide) rfl rfl (g := (mkF m 7 #[.val (.ref a1), .val (.ref a2)] [(.int (mc + (1 : Int32))), (.ref a1)])) rfl rfl (hb hby d7_7)
  have Fw4 := F_modCount_a1.same W4
  have K4 : Keep h0 h4 [a1, b] := (Keep.refl h0 [a1, b]).wr W4 (Or.inl (List.mem_of_getElem? (i := 0) rfl))
  have N4 := Fr.snoc X4 N0 g_a1
  obtain ⟨T5, X5, e5, st5⟩ := getF X4 hx hZ hown (host := "") (Or.inl (hw _ (List.mem_of_getElem? (i := 40) rfl))) Via.refl e4 (F_elementData_a1.other W4 (Or.inr (slot_ne (Or.inl (hw _ (List.mem_of_getElem? (i := 41) rfl))) (Or.inl (hw _ (List.mem_of_getElem? (i := 38) rfl))) (by decide) (t := (.array (.object "java/lang/Object"))) (t' := .int) (by decide) (by decide)))) (g := (mkF m 13 #[.val (.ref a1), .val (.ref a2)] [(.ref a1), (.ref a2), (.ref a1)])) rfl rfl (hb hby d7_13)
  obtain ⟨T6, X6, e6, st6⟩ := getF X5 hx hZ hown (host := "") (Or.inl (hw _ (List.mem_of_getElem? (i := 53) rfl))) Via.refl e5 (F_size_a1.other W4 (Or.inr (slot_ne (Or.inl (hw _ (List.mem_of_getElem? (i := 54) rfl))) (Or.inl (hw _ (List.mem_of_getElem? (i := 38) rfl))) (by decide) (t := .int) (t' := .int) (by decide) (by decide)))) (g := (mkF m 17 #[.val (.ref a1), .val (.ref a2)] [(.ref a1), (.ref b), (.ref a2), (.ref a1)])) rfl rfl (hb hby d7_17)
  obtain ⟨cq7, q7, q7'⟩ := (E_a1.wr W4).cell
  obtain ⟨_, _, ⟨T7, L7, k7, n7⟩, -, X7, ⟨Lc7, hQ7, l7, y7, z7⟩, st7⟩ := X6.privateBack hx (y := (⟨"java/util/ArrayList", "add", "(Ljava/lang/Object;[Ljava/lang/Object;I)V"⟩ : MethodName)) hown (mvT hZ (hw _ (List.mem_of_getElem? (i := 55) rfl))) (mvT hZ (hw _ (List.mem_of_getElem? (i := 56) rfl))) (mvT hZ (hw _ (List.mem_of_getElem? (i := 58) rfl))) (Cond.privateMethod_at (mvP hZ (hw _ (List.mem_of_getElem? (i := 57) rfl)) (args := #[]))) (mvT hZ (hw _ (List.mem_of_getElem? (i := 59) rfl))) (by decide) (backOf (W := 0) (rm8_s l Z a0 hw [] a1 a2 b k kc vs (mc + (1 : Int32)) h4 n0 (Nat.le_trans Z0 (Keep.of_wr W4).1) (E_a1.wr W4) (E_a2.wr W4) Fw4 (F_size_a1.other W4 (Or.inr (slot_ne (Or.inl (hw _ (List.mem_of_getElem? (i := 54) rfl))) (Or.inl (hw _ (List.mem_of_getElem? (i := 38) rfl))) (by decide) (t := .int) (t' := .int) (by decide) (by decide)))) (F_elementData_a1.other W4 (Or.inr (slot_ne (Or.inl (hw _ (List.mem_of_getElem? (i := 41) rfl))) (Or.inl (hw _ (List.mem_of_getElem? (i := 38) rfl))) (by decide) (t := (.array (.object "java/lang/Object"))) (t' := .int) (by decide) (by decide)))) (V_b.other W4 (Ne.symm hne)) Ov_b g_b hj hl g_a1 hne hk) hZ (hw _ (List.mem_of_getElem? (i := 59) rfl)) (hw _ (List.mem_of_getElem? (i := 20) rfl)) (by decide) (by decide)) (g := (mkF m 20 #[.val (.ref a1), .val (.ref a2)] [(.int k), (.ref b), (.ref a2), (.ref a1)])) rfl (by rw [hml]; rfl) (Steps.refl _) (a := a1) (by rw [e6]; exact q7) q7' (argsL := [(.ref a2), (.ref b), (.int k)]) (rest := []) (lenOf pd_7_3 rfl) rfl (by show 2 * 0 + _ ≤ _; exact Nat.le_of_eq rfl) (hb hby d7_20) (fun _ _ => ⟨rfl, e6, (by decide : 0 + 0 ≤ _), (by decide : 0 + 0 ≤ _)⟩)
  dsimp only [Pt.U, Pt.locs, Pt.cells, Pt.slots] at X7 l7 y7 z7 st7 hQ7
  subst l7 y7 z7
  obtain ⟨rfl, N7q, K7, E7q, ⟨mc7, Fm7⟩, Fs7, Fe7, kc7, Ov7, V7q⟩ := hQ7
  have N7 := Fr.app N4 N7q
  have KK7 : Keep h0 T7.heap [a1, b] := Keep.trans K4 K7 (allS (Or.inl (List.mem_of_getElem? (i := 1) rfl)) (allS (Or.inl (List.mem_of_getElem? (i := 0) rfl)) all0))
  obtain ⟨fs, hr, hrun, hended, hW, hsame⟩ := X7.leave (v := some (.int (1 : Int32))) (fun h => by rw [Bd.returns] at h; cases h)
  refine ⟨_, _, pre0 _ ?_, hrun, hended, _, _, rfl, ?_, ⟨_, rfl⟩, hW, hsame.mono (by decide) (by decide)⟩
  · show Steps p.tables e below (s₁.setTop (mkF m 0 #[.val (.ref a1), .val (.ref a2)] [])) _
    refine XS.aloadN X0.here hx rfl (hb hby d7_0) rfl rfl ?_
    show Steps p.tables e below (s₁.setTop (mkF m 1 #[.val (.ref a1), .val (.ref a2)] [(.ref a1)])) _
    refine XS.dup X0.here hx rfl (hb hby d7_1) rfl rfl ?_
    show Steps p.tables e below (s₁.setTop (mkF m 2 #[.val (.ref a1), .val (.ref a2)] [(.ref a1), (.ref a1)])) _
    refine st3 _ ?_
    show Steps p.tables e below (T3.setTop (mkF m 5 #[.val (.ref a1), .val (.ref a2)] [(.int mc), (.ref a1)])) _
    refine XS.iconst X3.here hx rfl (hb hby d7_5) ?_
    show Steps p.tables e below (T3.setTop (mkF m 6 #[.val (.ref a1), .val (.ref a2)] [(.int (1 : Int32)), (.int mc), (.ref a1)])) _
    refine XS.iadd X3.here hx rfl (hb hby d7_6) rfl ?_
    show Steps p.tables e below (T3.setTop (mkF m 7 #[.val (.ref a1), .val (.ref a2)] [(.int (mc + (1 : Int32))), (.ref a1)])) _
    refine st4 _ ?_
    show Steps p.tables e below (T4.setTop (mkF m 10 #[.val (.ref a1), .val (.ref a2)] [])) _
    refine XS.aloadN X4.here hx rfl (hb hby d7_10) rfl rfl ?_
    show Steps p.tables e below (T4.setTop (mkF m 11 #[.val (.ref a1), .val (.ref a2)] [(.ref a1)])) _
    refine XS.aloadN X4.here hx rfl (hb hby d7_11) rfl rfl ?_
    show Steps p.tables e below (T4.setTop (mkF m 12 #[.val (.ref a1), .val (.ref a2)] [(.ref a2), (.ref a1)])) _
    refine XS.aloadN X4.here hx rfl (hb hby d7_12) rfl rfl ?_
    show Steps p.tables e below (T4.setTop (mkF m 13 #[.val (.ref a1), .val (.ref a2)] [(.ref a1), (.ref a2), (.ref a1)])) _
    refine st5 _ ?_
    show Steps p.tables e below (T5.setTop (mkF m 16 #[.val (.ref a1), .val (.ref a2)] [(.ref b), (.ref a2), (.ref a1)])) _
    refine XS.aloadN X5.here hx rfl (hb hby d7_16) rfl rfl ?_
    show Steps p.tables e below (T5.setTop (mkF m 17 #[.val (.ref a1), .val (.ref a2)] [(.ref a1), (.ref b), (.ref a2), (.ref a1)])) _
    refine st6 _ ?_
    show Steps p.tables e below (T6.setTop (mkF m 20 #[.val (.ref a1), .val (.ref a2)] [(.int k), (.ref b), (.ref a2), (.ref a1)])) _
    refine st7.trans ?_
    show Steps p.tables e below (T7.setTop (mkF m 23 #[.val (.ref a1), .val (.ref a2)] [])) _
    refine XS.iconst X7.here hx rfl (hb hby d7_23) ?_
    show Steps p.tables e below (T7.setTop (mkF m 24 #[.val (.ref a1), .val (.ref a2)] [(.int (1 : Int32))])) _
    exact retN X7 hx (t := .boolean) Bd.returns (by simp) (hb hby d7_24) hr
  · show own_Qa Z (some (.int (1 : Int32))) [a1, b] b a1 (k + (1 : Int32)) (vs.set (k).toNatClampNeg (.ref a2)) h0 n0 _ T7.heap _
    exact ⟨rfl, N7, KK7, E7q, ⟨_, Fm7⟩, Fs7, Fe7, kc7, Ov7, V7q⟩

theorem d14_0 : decode jdk_38_method_8_code 0 = .ok (.aload_n 0, 1) := by decide +kernel
theorem d14_1 : decode jdk_38_method_8_code 1 = .ok (.getfield 48, 3) := by decide +kernel
theorem d14_4 : decode jdk_38_method_8_code 4 = .ok (.ireturn, 1) := by decide +kernel
theorem pn_14 : plainName "java/util/ArrayList" = true := by first | (simp [plainName, overriddenIn]; done) | decide +kernel
theorem ef_14 (m : MethodId) (x0 : Addr) : entryFrame m #[(.ref x0)] 1 = mkF m 0 #[.val (.ref x0)] [] := by first | (simp [entryFrame, mkF, argsToLocals, Value.category]; done) | rfl
set_option maxRecDepth 65536 in
set_option maxHeartbeats 40000000 in
theorem rm14 (l : Launch) (Z : State) (a0 : Array Value) (hw : ∀ d ∈ tables_1, d.before a0 Z = true) (ws : List Jvm.Cond) (a1 : Addr) (k : Int32) (h0 : Heap) (n0 : Nat) (Z0 : n0 ≤ h0.size) (F_size_a1 : Fld Z h0 a1 "java/util/ArrayList" "size" "I" (.int k)) :
    MetFree l (⟨"java/util/ArrayList", "size", "()I"⟩ : MethodName) (head1 (Jvm.Cond.code (⟨"java/util/ArrayList", "size", "()I"⟩ : MethodName) jdk_38_method_8_code 1 (some .int) :: ws) ({ frames := 0, cells := 0, slots := 0, locals := 0 } : Room)) (fun a U => a = #[(.ref a1)] ∧ Z.Warmed39 U.vm ∧ U.heap = h0) (fun _ _ _ _ _ => True) (fun _ U o U' => ∃ v L, o = .returned v ∧ own_Qv (.int k) h0 n0 v U'.heap L ∧ FrameEnd U o U' L ({ frames := 0, cells := 0, slots := 0, locals := 0 } : Room).cells ({ frames := 0, cells := 0, slots := 0, locals := 0 } : Room).slots) := by
  refine MetFree.of_bodySF (plainFor_of_name pn_14) hisR ?_
  intro p e s m args below meth c s₁ Bd hml0 hP hK
  obtain ⟨rfl, hZ, hh⟩ := hP
  have hx := Bd.exec
  have hby := Bd.bytes
  have hml : c.maxLocals = 1 := hml0
  have hown : s.vm.findClass "java/util/ArrayList" = some m.cls := findClass_of_methodNamed Bd.named
  have hnm := (name_of_methodNamed Bd.named Bd.method).1
  have X0 : Stand p l e ({ frames := 0, cells := 0, slots := 0, locals := 0 } : Room) s m #[(.ref a1)] below meth c s₁ [] 0 0 := Stand.of_body Bd
  have e0 : s₁.heap = h0 := by rw [← hh, Bd.state]; rfl
  have N0 := Fr.nil n0
  have pre0 : ∀ t, Steps p.tables e below (s₁.setTop (mkF m 0 #[.val (.ref a1)] [])) t → Steps p.tables e below (s₁.setTop (entryFrame m #[(.ref a1)] 1)) t := fun t k => castTop (ef_14 m a1) k
  obtain ⟨T2, X2, e2, st2⟩ := getF X0 hx hZ hown (host := "") (Or.inl (hw _ (List.mem_of_getElem? (i := 53) rfl))) Via.refl e0 F_size_a1 (g := (mkF m 1 #[.val (.ref a1)] [(.ref a1)])) rfl rfl (hb hby d14_1)
  obtain ⟨fs, hr, hrun, hended, hW, hsame⟩ := X2.leave (v := some (.int k)) (fun h => by rw [Bd.returns] at h; cases h)
  refine ⟨_, _, pre0 _ ?_, hrun, hended, _, _, rfl, ?_, ⟨_, rfl⟩, hW, hsame.mono (by decide) (by decide)⟩
  · show Steps p.tables e below (s₁.setTop (mkF m 0 #[.val (.ref a1)] [])) _
    refine XS.aloadN X0.here hx rfl (hb hby d14_0) rfl rfl ?_
    show Steps p.tables e below (s₁.setTop (mkF m 1 #[.val (.ref a1)] [(.ref a1)])) _
    refine st2 _ ?_
    show Steps p.tables e below (T2.setTop (mkF m 4 #[.val (.ref a1)] [(.int k)])) _
    exact retI X2 hx Bd.returns (hb hby d14_4) hr
  · show own_Qv (.int k) h0 n0 _ T2.heap _
    rw [e2]
    exact ⟨rfl, N0, rfl⟩

theorem d15_0 : decode prog_27_method_8_code 0 = .ok (.aload_n 0, 1) := by decide +kernel
theorem d15_1 : decode prog_27_method_8_code 1 = .ok (.getfield 17, 3) := by decide +kernel
theorem d15_4 : decode prog_27_method_8_code 4 = .ok (.areturn, 1) := by decide +kernel
theorem pn_15 : plainName "com/example/bindspire/bindspire/Overloads$Choice" = true := by first | (simp [plainName, overriddenIn]; done) | decide +kernel
theorem ef_15 (m : MethodId) (x0 : Addr) : entryFrame m #[(.ref x0)] 1 = mkF m 0 #[.val (.ref x0)] [] := by first | (simp [entryFrame, mkF, argsToLocals, Value.category]; done) | rfl
set_option maxRecDepth 65536 in
set_option maxHeartbeats 40000000 in
theorem rm15 (l : Launch) (Z : State) (a0 : Array Value) (hw : ∀ d ∈ tables_1, d.before a0 Z = true) (ws : List Jvm.Cond) (a1 : Addr) (mx : Addr) (h0 : Heap) (n0 : Nat) (Z0 : n0 ≤ h0.size) (F_maximal_a1 : Fld Z h0 a1 "com/example/bindspire/bindspire/Overloads$Choice" "maximal" "Ljava/util/List;" (.ref mx)) :
    MetFree l (⟨"com/example/bindspire/bindspire/Overloads$Choice", "maximal", "()Ljava/util/List;"⟩ : MethodName) (head1 (Jvm.Cond.code (⟨"com/example/bindspire/bindspire/Overloads$Choice", "maximal", "()Ljava/util/List;"⟩ : MethodName) prog_27_method_8_code 1 (some (.object "java/util/List")) :: ws) ({ frames := 0, cells := 0, slots := 0, locals := 0 } : Room)) (fun a U => a = #[(.ref a1)] ∧ Z.Warmed39 U.vm ∧ U.heap = h0) (fun _ _ _ _ _ => True) (fun _ U o U' => ∃ v L, o = .returned v ∧ own_Qv (.ref mx) h0 n0 v U'.heap L ∧ FrameEnd U o U' L ({ frames := 0, cells := 0, slots := 0, locals := 0 } : Room).cells ({ frames := 0, cells := 0, slots := 0, locals := 0 } : Room).slots) := by
  refine MetFree.of_bodySF (plainFor_of_name pn_15) hisR ?_
  intro p e s m args below meth c s₁ Bd hml0 hP hK
  obtain ⟨rfl, hZ, hh⟩ := hP
  have hx := Bd.exec
  have hby := Bd.bytes
  have hml : c.maxLocals = 1 := hml0
  have hown : s.vm.findClass "com/example/bindspire/bindspire/Overloads$Choice" = some m.cls := findClass_of_methodNamed Bd.named
  have hnm := (name_of_methodNamed Bd.named Bd.method).1
  have X0 : Stand p l e ({ frames := 0, cells := 0, slots := 0, locals := 0 } : Room) s m #[(.ref a1)] below meth c s₁ [] 0 0 := Stand.of_body Bd
  have e0 : s₁.heap = h0 := by rw [← hh, Bd.state]; rfl
  have N0 := Fr.nil n0
  have pre0 : ∀ t, Steps p.tables e below (s₁.setTop (mkF m 0 #[.val (.ref a1)] [])) t → Steps p.tables e below (s₁.setTop (entryFrame m #[(.ref a1)] 1)) t := fun t k => castTop (ef_15 m a1) k
  obtain ⟨T2, X2, e2, st2⟩ := getF X0 hx hZ hown (host := "") (Or.inl (hw _ (List.mem_of_getElem? (i := 88) rfl))) Via.refl e0 F_maximal_a1 (g := (mkF m 1 #[.val (.ref a1)] [(.ref a1)])) rfl rfl (hb hby d15_1)
  obtain ⟨fs, hr, hrun, hended, hW, hsame⟩ := X2.leave (v := some (.ref mx)) (fun h => by rw [Bd.returns] at h; cases h)
  refine ⟨_, _, pre0 _ ?_, hrun, hended, _, _, rfl, ?_, ⟨_, rfl⟩, hW, hsame.mono (by decide) (by decide)⟩
  · show Steps p.tables e below (s₁.setTop (mkF m 0 #[.val (.ref a1)] [])) _
    refine XS.aloadN X0.here hx rfl (hb hby d15_0) rfl rfl ?_
    show Steps p.tables e below (s₁.setTop (mkF m 1 #[.val (.ref a1)] [(.ref a1)])) _
    refine st2 _ ?_
    show Steps p.tables e below (T2.setTop (mkF m 4 #[.val (.ref a1)] [(.ref mx)])) _
    jvm_step X2.here [X2.here.top, hx, (hb hby d15_4), X2.method', Bd.returns, Value.isRef, FieldType.isReference]
    first | (intro acts; rw [hr _ acts rfl rfl rfl]) | rw [hr _ _ rfl rfl rfl]
    exact Steps.refl _
  · show own_Qv (.ref mx) h0 n0 _ T2.heap _
    rw [e2]
    exact ⟨rfl, N0, rfl⟩

theorem d18_0 : decode jdk_41_method_11_code 0 = .ok (.iload_n 0, 1) := by decide +kernel
theorem d18_1 : decode jdk_41_method_11_code 1 = .ok (.ifCond .lt 8, 3) := by decide +kernel
theorem d18_4 : decode jdk_41_method_11_code 4 = .ok (.iload_n 0, 1) := by decide +kernel
theorem d18_5 : decode jdk_41_method_11_code 5 = .ok (.iload_n 1, 1) := by decide +kernel
theorem d18_6 : decode jdk_41_method_11_code 6 = .ok (.if_icmp .lt 10, 3) := by decide +kernel
theorem d18_16 : decode jdk_41_method_11_code 16 = .ok (.iload_n 0, 1) := by decide +kernel
theorem d18_17 : decode jdk_41_method_11_code 17 = .ok (.ireturn, 1) := by decide +kernel
theorem pn_18 : plainName "jdk/internal/util/Preconditions" = true := by first | (simp [plainName, overriddenIn]; done) | decide +kernel
theorem ef_18_18 (m : MethodId) (x0 : Int32) (x1 : Int32) : entryFrame m #[(.int x0), (.int x1), .null] 3 = mkF m 0 #[.val (.int x0), .val (.int x1), .val .null] [] := by first | (simp [entryFrame, mkF, argsToLocals, Value.category]; done) | rfl
set_option maxRecDepth 65536 in
set_option maxHeartbeats 40000000 in
theorem rm18 (l : Launch) (Z : State) (a0 : Array Value) (hw : ∀ d ∈ tables_1, d.before a0 Z = true) (ws : List Jvm.Cond) (p1 : Int32) (p2 : Int32) (h0 : Heap) (n0 : Nat) (Z0 : n0 ≤ h0.size) (hc1 : ¬ (p1 < (0 : Int32))) (hc6 : p1 < p2) :
    MetFree l (⟨"jdk/internal/util/Preconditions", "checkIndex", "(IILjava/util/function/BiFunction;)I"⟩ : MethodName) (head1 (Jvm.Cond.code (⟨"jdk/internal/util/Preconditions", "checkIndex", "(IILjava/util/function/BiFunction;)I"⟩ : MethodName) jdk_41_method_11_code 3 (some .int) :: ws) ({ frames := 0, cells := 0, slots := 0, locals := 0 } : Room)) (fun a U => a = #[(.int p1), (.int p2), .null] ∧ Z.Warmed39 U.vm ∧ U.heap = h0) (fun _ _ _ _ _ => True) (fun _ U o U' => ∃ v L, o = .returned v ∧ own_Qv (.int p1) h0 n0 v U'.heap L ∧ FrameEnd U o U' L ({ frames := 0, cells := 0, slots := 0, locals := 0 } : Room).cells ({ frames := 0, cells := 0, slots := 0, locals := 0 } : Room).slots) := by
  refine MetFree.of_bodySF (plainFor_of_name pn_18) hisR ?_
  intro p e s m args below meth c s₁ Bd hml0 hP hK
  obtain ⟨rfl, hZ, hh⟩ := hP
  have hx := Bd.exec
  have hby := Bd.bytes
  have hml : c.maxLocals = 3 := hml0
  have hown : s.vm.findClass "jdk/internal/util/Preconditions" = some m.cls := findClass_of_methodNamed Bd.named
  have hnm := (name_of_methodNamed Bd.named Bd.method).1
  have X0 : Stand p l e ({ frames := 0, cells := 0, slots := 0, locals := 0 } : Room) s m #[(.int p1), (.int p2), .null] below meth c s₁ [] 0 0 := Stand.of_body Bd
  have e0 : s₁.heap = h0 := by rw [← hh, Bd.state]; rfl
  have N0 := Fr.nil n0
  have pre0 : ∀ t, Steps p.tables e below (s₁.setTop (mkF m 0 #[.val (.int p1), .val (.int p2), .val .null] [])) t → Steps p.tables e below (s₁.setTop (entryFrame m #[(.int p1), (.int p2), .null] 3)) t := fun t k => castTop (ef_18_18 m p1 p2) k

  obtain ⟨fs, hr, hrun, hended, hW, hsame⟩ := X0.leave (v := some (.int p1)) (fun h => by rw [Bd.returns] at h; cases h)
  refine ⟨_, _, pre0 _ ?_, hrun, hended, _, _, rfl, ?_, ⟨_, rfl⟩, hW, hsame.mono (by decide) (by decide)⟩
  · show Steps p.tables e below (s₁.setTop (mkF m 0 #[.val (.int p1), .val (.int p2), .val .null] [])) _
    refine XS.iloadN X0.here hx rfl (hb hby d18_0) rfl ?_
    show Steps p.tables e below (s₁.setTop (mkF m 1 #[.val (.int p1), .val (.int p2), .val .null] [(.int p1)])) _
    refine XS.ifNo X0.here hx rfl (hb hby d18_1) rfl ((if0 _ _).trans (flt hc1).1) ?_
    show Steps p.tables e below (s₁.setTop (mkF m 4 #[.val (.int p1), .val (.int p2), .val .null] [])) _
    refine XS.iloadN X0.here hx rfl (hb hby d18_4) rfl ?_
    show Steps p.tables e below (s₁.setTop (mkF m 5 #[.val (.int p1), .val (.int p2), .val .null] [(.int p1)])) _
    refine XS.iloadN X0.here hx rfl (hb hby d18_5) rfl ?_
    show Steps p.tables e below (s₁.setTop (mkF m 6 #[.val (.int p1), .val (.int p2), .val .null] [(.int p2), (.int p1)])) _
    refine XS.icmpYes X0.here hx rfl (pc0 := 6) (pc' := 16) rfl (hb hby d18_6) rfl (tlt hc6).1 (by decide) (by decide) ?_
    show Steps p.tables e below (s₁.setTop (mkF m 16 #[.val (.int p1), .val (.int p2), .val .null] [])) _
    refine XS.iloadN X0.here hx rfl (hb hby d18_16) rfl ?_
    show Steps p.tables e below (s₁.setTop (mkF m 17 #[.val (.int p1), .val (.int p2), .val .null] [(.int p1)])) _
    exact retI X0 hx Bd.returns (hb hby d18_17) hr
  · show own_Qv (.int p1) h0 n0 _ s₁.heap _
    rw [e0]
    exact ⟨rfl, N0, rfl⟩

theorem d17_0 : decode jdk_31_method_17_code 0 = .ok (.iload_n 0, 1) := by decide +kernel
theorem d17_1 : decode jdk_31_method_17_code 1 = .ok (.iload_n 1, 1) := by decide +kernel
theorem d17_2 : decode jdk_31_method_17_code 2 = .ok (.aconst_null, 1) := by decide +kernel
theorem d17_3 : decode jdk_31_method_17_code 3 = .ok (.invokestatic 105, 3) := by decide +kernel
theorem d17_6 : decode jdk_31_method_17_code 6 = .ok (.ireturn, 1) := by decide +kernel
theorem pn_17 : plainName "java/util/Objects" = true := by first | (simp [plainName, overriddenIn]; done) | decide +kernel
theorem pd_17_12 : parseMethodDescriptor "(IILjava/util/function/BiFunction;)I" = some ⟨[.int, .int, (.object "java/util/function/BiFunction")], some .int⟩ := by decide +kernel
theorem ef_17 (m : MethodId) (x0 : Int32) (x1 : Int32) : entryFrame m #[(.int x0), (.int x1)] 2 = mkF m 0 #[.val (.int x0), .val (.int x1)] [] := by first | (simp [entryFrame, mkF, argsToLocals, Value.category]; done) | rfl
set_option maxRecDepth 65536 in
set_option maxHeartbeats 40000000 in
theorem rm17 (l : Launch) (Z : State) (a0 : Array Value) (hw : ∀ d ∈ tables_1, d.before a0 Z = true) (ws : List Jvm.Cond) (p1 : Int32) (p2 : Int32) (h0 : Heap) (n0 : Nat) (Z0 : n0 ≤ h0.size) (hi1 : ¬ (p1 < (0 : Int32))) (hi2 : p1 < p2) :
    MetFree l (⟨"java/util/Objects", "checkIndex", "(II)I"⟩ : MethodName) (head1 (Jvm.Cond.code (⟨"java/util/Objects", "checkIndex", "(II)I"⟩ : MethodName) jdk_31_method_17_code 2 (some .int) :: ws) ({ frames := 1, cells := 0, slots := 0, locals := 14 } : Room)) (fun a U => a = #[(.int p1), (.int p2)] ∧ Z.Warmed39 U.vm ∧ U.heap = h0) (fun _ _ _ _ _ => True) (fun _ U o U' => ∃ v L, o = .returned v ∧ own_Qv (.int p1) h0 n0 v U'.heap L ∧ FrameEnd U o U' L ({ frames := 1, cells := 0, slots := 0, locals := 14 } : Room).cells ({ frames := 1, cells := 0, slots := 0, locals := 14 } : Room).slots) := by
  refine MetFree.of_bodySF (plainFor_of_name pn_17) hisR ?_
  intro p e s m args below meth c s₁ Bd hml0 hP hK
  obtain ⟨rfl, hZ, hh⟩ := hP
  have hx := Bd.exec
  have hby := Bd.bytes
  have hml : c.maxLocals = 2 := hml0
  have hown : s.vm.findClass "java/util/Objects" = some m.cls := findClass_of_methodNamed Bd.named
  have hnm := (name_of_methodNamed Bd.named Bd.method).1
  have X0 : Stand p l e ({ frames := 1, cells := 0, slots := 0, locals := 14 } : Room) s m #[(.int p1), (.int p2)] below meth c s₁ [] 0 0 := Stand.of_body Bd
  have e0 : s₁.heap = h0 := by rw [← hh, Bd.state]; rfl
  have N0 := Fr.nil n0
  have pre0 : ∀ t, Steps p.tables e below (s₁.setTop (mkF m 0 #[.val (.int p1), .val (.int p2)] [])) t → Steps p.tables e below (s₁.setTop (entryFrame m #[(.int p1), (.int p2)] 2)) t := fun t k => castTop (ef_17 m p1 p2) k
  obtain ⟨_, _, ⟨T3, L3, k3, n3⟩, -, X3, ⟨Lc3, hQ3, l3, y3, z3⟩, st3⟩ := Jvm.LawKit.callS X0 hx (y := (⟨"jdk/internal/util/Preconditions", "checkIndex", "(IILjava/util/function/BiFunction;)I"⟩ : MethodName)) hown (mvT hZ (hw _ (List.mem_of_getElem? (i := 124) rfl))) (mvT hZ (hw _ (List.mem_of_getElem? (i := 125) rfl))) (mvT hZ (hw _ (List.mem_of_getElem? (i := 126) rfl))) (mvT hZ (hw _ (List.mem_of_getElem? (i := 127) rfl))) (by decide) (backOf (W := 0) (rm18 l Z a0 hw [] p1 p2 h0 n0 Z0 hi1 hi2) hZ (hw _ (List.mem_of_getElem? (i := 127) rfl)) (hw _ (List.mem_of_getElem? (i := 126) rfl)) (by decide) (by decide)) (g := (mkF m 3 #[.val (.int p1), .val (.int p2)] [.null, (.int p2), (.int p1)])) rfl (by rw [hml]; rfl) (argsL := [(.int p1), (.int p2), .null]) (rest := []) (lenOf pd_17_12 rfl) rfl (by show 2 * 0 + _ ≤ _; exact Nat.le_of_eq rfl) (hb hby d17_3) (fun _ _ => ⟨rfl, e0, (by decide : 0 + 0 ≤ _), (by decide : 0 + 0 ≤ _)⟩)
  dsimp only [Pt.U, Pt.locs, Pt.cells, Pt.slots] at X3 l3 y3 z3 st3 hQ3
  subst l3 y3 z3
  obtain ⟨rfl, N3q, e3⟩ := hQ3
  have N3 := Fr.app N0 N3q
  obtain ⟨fs, hr, hrun, hended, hW, hsame⟩ := X3.leave (v := some (.int p1)) (fun h => by rw [Bd.returns] at h; cases h)
  refine ⟨_, _, pre0 _ ?_, hrun, hended, _, _, rfl, ?_, ⟨_, rfl⟩, hW, hsame.mono (by decide) (by decide)⟩
  · show Steps p.tables e below (s₁.setTop (mkF m 0 #[.val (.int p1), .val (.int p2)] [])) _
    refine XS.iloadN X0.here hx rfl (hb hby d17_0) rfl ?_
    show Steps p.tables e below (s₁.setTop (mkF m 1 #[.val (.int p1), .val (.int p2)] [(.int p1)])) _
    refine XS.iloadN X0.here hx rfl (hb hby d17_1) rfl ?_
    show Steps p.tables e below (s₁.setTop (mkF m 2 #[.val (.int p1), .val (.int p2)] [(.int p2), (.int p1)])) _
    refine XS.aconstNull X0.here hx rfl (hb hby d17_2) ?_
    show Steps p.tables e below (s₁.setTop (mkF m 3 #[.val (.int p1), .val (.int p2)] [.null, (.int p2), (.int p1)])) _
    refine st3 _ ?_
    show Steps p.tables e below (T3.setTop (mkF m 6 #[.val (.int p1), .val (.int p2)] [(.int p1)])) _
    exact retI X3 hx Bd.returns (hb hby d17_6) hr
  · show own_Qv (.int p1) h0 n0 _ T3.heap _
    rw [e3]
    exact ⟨rfl, N3, rfl⟩

theorem d19_0 : decode jdk_38_method_18_code 0 = .ok (.aload_n 0, 1) := by decide +kernel
theorem d19_1 : decode jdk_38_method_18_code 1 = .ok (.getfield 9, 3) := by decide +kernel
theorem d19_4 : decode jdk_38_method_18_code 4 = .ok (.iload_n 1, 1) := by decide +kernel
theorem d19_5 : decode jdk_38_method_18_code 5 = .ok (.aaload, 1) := by decide +kernel
theorem d19_6 : decode jdk_38_method_18_code 6 = .ok (.areturn, 1) := by decide +kernel
theorem pn_19 : plainName "java/util/ArrayList" = true := by first | (simp [plainName, overriddenIn]; done) | decide +kernel
theorem ef_19 (m : MethodId) (x0 : Addr) (x1 : Int32) : entryFrame m #[(.ref x0), (.int x1)] 2 = mkF m 0 #[.val (.ref x0), .val (.int x1)] [] := by first | (simp [entryFrame, mkF, argsToLocals, Value.category]; done) | rfl
set_option maxRecDepth 65536 in
set_option maxHeartbeats 40000000 in
theorem rm19 (l : Launch) (Z : State) (a0 : Array Value) (hw : ∀ d ∈ tables_1, d.before a0 Z = true) (ws : List Jvm.Cond) (a1 : Addr) (p2 : Int32) (kc : ClassId) (vs : List Value) (b w : Addr) (h0 : Heap) (n0 : Nat) (Z0 : n0 ≤ h0.size) (F_elementData_a1 : Fld Z h0 a1 "java/util/ArrayList" "elementData" "[Ljava/lang/Object;" (.ref b)) (V_b : Arv Z h0 b kc (.object "java/lang/Object") (10 : Int32) vs .null) (hj : ¬ (p2 < 0) ∧ p2 < (10 : Int32)) (hw0 : vs.getD (p2).toNatClampNeg .null = .ref w) :
    MetFree l (⟨"java/util/ArrayList", "elementData", "(I)Ljava/lang/Object;"⟩ : MethodName) (head1 (Jvm.Cond.code (⟨"java/util/ArrayList", "elementData", "(I)Ljava/lang/Object;"⟩ : MethodName) jdk_38_method_18_code 2 (some (.object "java/lang/Object")) :: ws) ({ frames := 0, cells := 0, slots := 0, locals := 0 } : Room)) (fun a U => a = #[(.ref a1), (.int p2)] ∧ Z.Warmed39 U.vm ∧ U.heap = h0) (fun _ _ _ _ _ => True) (fun _ U o U' => ∃ v L, o = .returned v ∧ own_Qv (.ref w) h0 n0 v U'.heap L ∧ FrameEnd U o U' L ({ frames := 0, cells := 0, slots := 0, locals := 0 } : Room).cells ({ frames := 0, cells := 0, slots := 0, locals := 0 } : Room).slots) := by
  refine MetFree.of_bodySF (plainFor_of_name pn_19) hisR ?_
  intro p e s m args below meth c s₁ Bd hml0 hP hK
  obtain ⟨rfl, hZ, hh⟩ := hP
  have hx := Bd.exec
  have hby := Bd.bytes
  have hml : c.maxLocals = 2 := hml0
  have hown : s.vm.findClass "java/util/ArrayList" = some m.cls := findClass_of_methodNamed Bd.named
  have hnm := (name_of_methodNamed Bd.named Bd.method).1
  have X0 : Stand p l e ({ frames := 0, cells := 0, slots := 0, locals := 0 } : Room) s m #[(.ref a1), (.int p2)] below meth c s₁ [] 0 0 := Stand.of_body Bd
  have e0 : s₁.heap = h0 := by rw [← hh, Bd.state]; rfl
  have N0 := Fr.nil n0
  have pre0 : ∀ t, Steps p.tables e below (s₁.setTop (mkF m 0 #[.val (.ref a1), .val (.int p2)] [])) t → Steps p.tables e below (s₁.setTop (entryFrame m #[(.ref a1), (.int p2)] 2)) t := fun t k => castTop (ef_19 m a1 p2) k
  obtain ⟨T3, X3, e3, st3⟩ := getF X0 hx hZ hown (host := "") (Or.inl (hw _ (List.mem_of_getElem? (i := 40) rfl))) Via.refl e0 F_elementData_a1 (g := (mkF m 1 #[.val (.ref a1), .val (.int p2)] [(.ref a1)])) rfl rfl (hb hby d19_1)
  have Vc5 := V_b
  obtain ⟨cl_b_5, Ar_b_5, q_b_5, S_b_5, N_b_5, H_b_5, G_b_5⟩ := Vc5
  have hin5 : ¬ (p2 < 0 ∨ cl_b_5.slots.size ≤ (p2).toNatClampNeg) := inb_of S_b_5 hj
  have hat5 : cl_b_5.slots[(p2).toNatClampNeg]? = some (.ref w) := H_b_5.at hin5 hw0
  obtain ⟨fs, hr, hrun, hended, hW, hsame⟩ := X3.leave (v := some (.ref w)) (fun h => by rw [Bd.returns] at h; cases h)
  refine ⟨_, _, pre0 _ ?_, hrun, hended, _, _, rfl, ?_, ⟨_, rfl⟩, hW, hsame.mono (by decide) (by decide)⟩
  · show Steps p.tables e below (s₁.setTop (mkF m 0 #[.val (.ref a1), .val (.int p2)] [])) _
    refine XS.aloadN X0.here hx rfl (hb hby d19_0) rfl rfl ?_
    show Steps p.tables e below (s₁.setTop (mkF m 1 #[.val (.ref a1), .val (.int p2)] [(.ref a1)])) _
    refine st3 _ ?_
    show Steps p.tables e below (T3.setTop (mkF m 4 #[.val (.ref a1), .val (.int p2)] [(.ref b)])) _
    refine XS.iloadN X3.here hx rfl (hb hby d19_4) rfl ?_
    show Steps p.tables e below (T3.setTop (mkF m 5 #[.val (.ref a1), .val (.int p2)] [(.int p2), (.ref b)])) _
    refine X3.aaload hx (j := p2) (v := (.ref w)) (by rw [e3]; exact Ar_b_5.1) (State.isArrayOf_alike hZ.alike Ar_b_5.2.1) rfl Ar_b_5.2.2 hin5 hat5 (g := (mkF m 5 #[.val (.ref a1), .val (.int p2)] [(.int p2), (.ref b)])) rfl rfl (hb hby d19_5) _ ?_
    show Steps p.tables e below (T3.setTop (mkF m 6 #[.val (.ref a1), .val (.int p2)] [(.ref w)])) _
    jvm_step X3.here [X3.here.top, hx, (hb hby d19_6), X3.method', Bd.returns, Value.isRef, FieldType.isReference]
    first | (intro acts; rw [hr _ acts rfl rfl rfl]) | rw [hr _ _ rfl rfl rfl]
    exact Steps.refl _
  · show own_Qv (.ref w) h0 n0 _ T3.heap _
    rw [e3]
    exact ⟨rfl, N0, rfl⟩

theorem d16_0 : decode jdk_38_method_20_code 0 = .ok (.iload_n 1, 1) := by decide +kernel
theorem d16_1 : decode jdk_38_method_20_code 1 = .ok (.aload_n 0, 1) := by decide +kernel
theorem d16_2 : decode jdk_38_method_20_code 2 = .ok (.getfield 48, 3) := by decide +kernel
theorem d16_5 : decode jdk_38_method_20_code 5 = .ok (.invokestatic 118, 3) := by decide +kernel
theorem d16_8 : decode jdk_38_method_20_code 8 = .ok (.pop, 1) := by decide +kernel
theorem d16_9 : decode jdk_38_method_20_code 9 = .ok (.aload_n 0, 1) := by decide +kernel
theorem d16_10 : decode jdk_38_method_20_code 10 = .ok (.iload_n 1, 1) := by decide +kernel
theorem d16_11 : decode jdk_38_method_20_code 11 = .ok (.invokevirtual 123, 3) := by decide +kernel
theorem d16_14 : decode jdk_38_method_20_code 14 = .ok (.areturn, 1) := by decide +kernel
theorem pn_16 : plainName "java/util/ArrayList" = true := by first | (simp [plainName, overriddenIn]; done) | decide +kernel
theorem pd_16_6 : parseMethodDescriptor "(II)I" = some ⟨[.int, .int], some .int⟩ := by decide +kernel
theorem pd_16_11 : parseMethodDescriptor "(I)Ljava/lang/Object;" = some ⟨[.int], some (.object "java/lang/Object")⟩ := by decide +kernel
theorem ef_16 (m : MethodId) (x0 : Addr) (x1 : Int32) : entryFrame m #[(.ref x0), (.int x1)] 2 = mkF m 0 #[.val (.ref x0), .val (.int x1)] [] := by first | (simp [entryFrame, mkF, argsToLocals, Value.category]; done) | rfl
set_option maxRecDepth 65536 in
set_option maxHeartbeats 40000000 in
theorem rm16 (l : Launch) (Z : State) (a0 : Array Value) (hw : ∀ d ∈ tables_1, d.before a0 Z = true) (ws : List Jvm.Cond) (a1 : Addr) (p2 : Int32) (kc : ClassId) (vs : List Value) (k : Int32) (b w : Addr) (h0 : Heap) (n0 : Nat) (Z0 : n0 ≤ h0.size) (E_a1 : Exa Z h0 a1 "java/util/ArrayList") (F_size_a1 : Fld Z h0 a1 "java/util/ArrayList" "size" "I" (.int k)) (F_elementData_a1 : Fld Z h0 a1 "java/util/ArrayList" "elementData" "[Ljava/lang/Object;" (.ref b)) (V_b : Arv Z h0 b kc (.object "java/lang/Object") (10 : Int32) vs .null) (hi1 : ¬ (p2 < (0 : Int32))) (hi2 : p2 < k) (hj : ¬ (p2 < 0) ∧ p2 < (10 : Int32)) (hw0 : vs.getD (p2).toNatClampNeg .null = .ref w) :
    MetFree l (⟨"java/util/ArrayList", "get", "(I)Ljava/lang/Object;"⟩ : MethodName) (head1 (Jvm.Cond.code (⟨"java/util/ArrayList", "get", "(I)Ljava/lang/Object;"⟩ : MethodName) jdk_38_method_20_code 2 (some (.object "java/lang/Object")) :: ws) ({ frames := 2, cells := 0, slots := 0, locals := 27 } : Room)) (fun a U => a = #[(.ref a1), (.int p2)] ∧ Z.Warmed39 U.vm ∧ U.heap = h0) (fun _ _ _ _ _ => True) (fun _ U o U' => ∃ v L, o = .returned v ∧ own_Qv (.ref w) h0 n0 v U'.heap L ∧ FrameEnd U o U' L ({ frames := 2, cells := 0, slots := 0, locals := 27 } : Room).cells ({ frames := 2, cells := 0, slots := 0, locals := 27 } : Room).slots) := by
  refine MetFree.of_bodySF (plainFor_of_name pn_16) hisR ?_
  intro p e s m args below meth c s₁ Bd hml0 hP hK
  obtain ⟨rfl, hZ, hh⟩ := hP
  have hx := Bd.exec
  have hby := Bd.bytes
  have hml : c.maxLocals = 2 := hml0
  have hown : s.vm.findClass "java/util/ArrayList" = some m.cls := findClass_of_methodNamed Bd.named
  have hnm := (name_of_methodNamed Bd.named Bd.method).1
  have X0 : Stand p l e ({ frames := 2, cells := 0, slots := 0, locals := 27 } : Room) s m #[(.ref a1), (.int p2)] below meth c s₁ [] 0 0 := Stand.of_body Bd
  have e0 : s₁.heap = h0 := by rw [← hh, Bd.state]; rfl
  have N0 := Fr.nil n0
  have pre0 : ∀ t, Steps p.tables e below (s₁.setTop (mkF m 0 #[.val (.ref a1), .val (.int p2)] [])) t → Steps p.tables e below (s₁.setTop (entryFrame m #[(.ref a1), (.int p2)] 2)) t := fun t k => castTop (ef_16 m a1 p2) k
  obtain ⟨T3, X3, e3, st3⟩ := getF X0 hx hZ hown (host := "") (Or.inl (hw _ (List.mem_of_getElem? (i := 53) rfl))) Via.refl e0 F_size_a1 (g := (mkF m 2 #[.val (.ref a1), .val (.int p2)] [(.ref a1), (.int p2)])) rfl rfl (hb hby d16_2)
  obtain ⟨_, _, ⟨T4, L4, k4, n4⟩, -, X4, ⟨Lc4, hQ4, l4, y4, z4⟩, st4⟩ := Jvm.LawKit.callS X3 hx (y := (⟨"java/util/Objects", "checkIndex", "(II)I"⟩ : MethodName)) hown (mvT hZ (hw _ (List.mem_of_getElem? (i := 120) rfl))) (mvT hZ (hw _ (List.mem_of_getElem? (i := 121) rfl))) (mvT hZ (hw _ (List.mem_of_getElem? (i := 122) rfl))) (mvT hZ (hw _ (List.mem_of_getElem? (i := 123) rfl))) (by decide) (backOf (W := 0) (rm17 l Z a0 hw [] p2 k h0 n0 Z0 hi1 hi2) hZ (hw _ (List.mem_of_getElem? (i := 123) rfl)) (hw _ (List.mem_of_getElem? (i := 122) rfl)) (by decide) (by decide)) (g := (mkF m 5 #[.val (.ref a1), .val (.int p2)] [(.int k), (.int p2)])) rfl (by rw [hml]; rfl) (argsL := [(.int p2), (.int k)]) (rest := []) (lenOf pd_16_6 rfl) rfl (by show 2 * 0 + _ ≤ _; exact Nat.le_of_eq rfl) (hb hby d16_5) (fun _ _ => ⟨rfl, e3, (by decide : 0 + 0 ≤ _), (by decide : 0 + 0 ≤ _)⟩)
  dsimp only [Pt.U, Pt.locs, Pt.cells, Pt.slots] at X4 l4 y4 z4 st4 hQ4
  subst l4 y4 z4
  obtain ⟨rfl, N4q, e4⟩ := hQ4
  have N4 := Fr.app N0 N4q
  obtain ⟨cq5, kq5, q5a, q5b, q5c⟩ := isOf hZ e4 E_a1
  obtain ⟨_, _, ⟨T5, L5, k5, n5⟩, -, X5, ⟨Lc5, hQ5, l5, y5, z5⟩, st5⟩ := X4.virtualBack hx (y := (⟨"java/util/ArrayList", "elementData", "(I)Ljava/lang/Object;"⟩ : MethodName)) (z := (⟨"java/util/ArrayList", "elementData", "(I)Ljava/lang/Object;"⟩ : MethodName)) hown (mvT hZ (hw _ (List.mem_of_getElem? (i := 128) rfl))) (mvT hZ (hw _ (List.mem_of_getElem? (i := 129) rfl))) (notFace_of_selects (args := #[]) (mvT hZ (hw _ (List.mem_of_getElem? (i := 131) rfl)))) (mvT hZ (hw _ (List.mem_of_getElem? (i := 131) rfl))) (mvT hZ (hw _ (List.mem_of_getElem? (i := 130) rfl))) (by decide) (backOf (W := 0) (rm19 l Z a0 hw [] a1 p2 kc vs b w h0 n0 Z0 F_elementData_a1 V_b hj hw0) hZ (hw _ (List.mem_of_getElem? (i := 132) rfl)) (hw _ (List.mem_of_getElem? (i := 20) rfl)) (by decide) (by decide)) q5a q5c (g := (mkF m 11 #[.val (.ref a1), .val (.int p2)] [(.int p2), (.ref a1)])) rfl (by rw [hml]; rfl) (Steps.refl _) (argsL := [(.int p2)]) (rest := []) (lenOf pd_16_11 rfl) rfl (by show 2 * 0 + _ ≤ _; exact Nat.le_of_eq rfl) (hb hby d16_11) (fun _ _ => ⟨rfl, e4, (by decide : 0 + 0 ≤ _), (by decide : 0 + 0 ≤ _)⟩)
  dsimp only [Pt.U, Pt.locs, Pt.cells, Pt.slots] at X5 l5 y5 z5 st5 hQ5
  subst l5 y5 z5
  obtain ⟨rfl, N5q, e5⟩ := hQ5
  have N5 := Fr.app N4 N5q
  obtain ⟨fs, hr, hrun, hended, hW, hsame⟩ := X5.leave (v := some (.ref w)) (fun h => by rw [Bd.returns] at h; cases h)
  refine ⟨_, _, pre0 _ ?_, hrun, hended, _, _, rfl, ?_, ⟨_, rfl⟩, hW, hsame.mono (by decide) (by decide)⟩
  · show Steps p.tables e below (s₁.setTop (mkF m 0 #[.val (.ref a1), .val (.int p2)] [])) _
    refine XS.iloadN X0.here hx rfl (hb hby d16_0) rfl ?_
    show Steps p.tables e below (s₁.setTop (mkF m 1 #[.val (.ref a1), .val (.int p2)] [(.int p2)])) _
    refine XS.aloadN X0.here hx rfl (hb hby d16_1) rfl rfl ?_
    show Steps p.tables e below (s₁.setTop (mkF m 2 #[.val (.ref a1), .val (.int p2)] [(.ref a1), (.int p2)])) _
    refine st3 _ ?_
    show Steps p.tables e below (T3.setTop (mkF m 5 #[.val (.ref a1), .val (.int p2)] [(.int k), (.int p2)])) _
    refine st4 _ ?_
    show Steps p.tables e below (T4.setTop (mkF m 8 #[.val (.ref a1), .val (.int p2)] [(.int p2)])) _
    refine XS.pop X4.here hx rfl (hb hby d16_8) rfl rfl ?_
    show Steps p.tables e below (T4.setTop (mkF m 9 #[.val (.ref a1), .val (.int p2)] [])) _
    refine XS.aloadN X4.here hx rfl (hb hby d16_9) rfl rfl ?_
    show Steps p.tables e below (T4.setTop (mkF m 10 #[.val (.ref a1), .val (.int p2)] [(.ref a1)])) _
    refine XS.iloadN X4.here hx rfl (hb hby d16_10) rfl ?_
    show Steps p.tables e below (T4.setTop (mkF m 11 #[.val (.ref a1), .val (.int p2)] [(.int p2), (.ref a1)])) _
    refine st5.trans ?_
    show Steps p.tables e below (T5.setTop (mkF m 14 #[.val (.ref a1), .val (.int p2)] [(.ref w)])) _
    jvm_step X5.here [X5.here.top, hx, (hb hby d16_14), X5.method', Bd.returns, Value.isRef, FieldType.isReference]
    first | (intro acts; rw [hr _ acts rfl rfl rfl]) | rw [hr _ _ rfl rfl rfl]
    exact Steps.refl _
  · show own_Qv (.ref w) h0 n0 _ T5.heap _
    rw [e5]
    exact ⟨rfl, N5, rfl⟩

theorem d12_0 : decode prog_27_method_1_code 0 = .ok (.aload_n 0, 1) := by decide +kernel
theorem d12_1 : decode prog_27_method_1_code 1 = .ok (.invokespecial 1, 3) := by decide +kernel
theorem d12_4 : decode prog_27_method_1_code 4 = .ok (.aload_n 0, 1) := by decide +kernel
theorem d12_5 : decode prog_27_method_1_code 5 = .ok (.aload_n 1, 1) := by decide +kernel
theorem d12_6 : decode prog_27_method_1_code 6 = .ok (.putfield 7, 3) := by decide +kernel
theorem d12_9 : decode prog_27_method_1_code 9 = .ok (.aload_n 0, 1) := by decide +kernel
theorem d12_10 : decode prog_27_method_1_code 10 = .ok (.aload_n 2, 1) := by decide +kernel
theorem d12_11 : decode prog_27_method_1_code 11 = .ok (.putfield 13, 3) := by decide +kernel
theorem d12_14 : decode prog_27_method_1_code 14 = .ok (.aload_n 0, 1) := by decide +kernel
theorem d12_15 : decode prog_27_method_1_code 15 = .ok (.aload_n 3, 1) := by decide +kernel
theorem d12_16 : decode prog_27_method_1_code 16 = .ok (.putfield 17, 3) := by decide +kernel
theorem d12_19 : decode prog_27_method_1_code 19 = .ok (.return_, 1) := by decide +kernel
theorem pn_12 : plainName "com/example/bindspire/bindspire/Overloads$Choice" = true := by first | (simp [plainName, overriddenIn]; done) | decide +kernel
theorem pd_12_1 : parseMethodDescriptor "()V" = some ⟨[], none⟩ := by decide +kernel
theorem ef_12_12_n (m : MethodId) (x0 : Addr) (x2 : Addr) (x3 : Addr) : entryFrame m #[(.ref x0), .null, (.ref x2), (.ref x3)] 4 = mkF m 0 #[.val (.ref x0), .val .null, .val (.ref x2), .val (.ref x3)] [] := by first | (simp [entryFrame, mkF, argsToLocals, Value.category]; done) | rfl
def Q12_n (Z : State) (a1 : Addr) (a2 : Addr) (a3 : Addr) (u_phase_a1 : Value) (u_applicable_a1 : Value) (u_maximal_a1 : Value) (h0 : Heap) (n0 : Nat) (v : Option Value) (h : Heap) (L : List Loc) : Prop := v = none ∧ Fr n0 L ∧ Keep h0 h [a1] ∧ Exa Z h a1 "com/example/bindspire/bindspire/Overloads$Choice" ∧ Fld Z h a1 "com/example/bindspire/bindspire/Overloads$Choice" "maximal" "Ljava/util/List;" (.ref a3)
set_option maxRecDepth 65536 in
set_option maxHeartbeats 40000000 in
theorem rm12_n (l : Launch) (Z : State) (a0 : Array Value) (hw : ∀ d ∈ tables_1, d.before a0 Z = true) (ws : List Jvm.Cond) (a1 : Addr) (a2 : Addr) (a3 : Addr) (u_phase_a1 : Value) (u_applicable_a1 : Value) (u_maximal_a1 : Value) (h0 : Heap) (n0 : Nat) (Z0 : n0 ≤ h0.size) (E_a1 : Exa Z h0 a1 "com/example/bindspire/bindspire/Overloads$Choice") (F_phase_a1 : Fld Z h0 a1 "com/example/bindspire/bindspire/Overloads$Choice" "phase" "Lcom/example/bindspire/bindspire/Overloads$Phase;" u_phase_a1) (g_a1 : n0 ≤ a1) (F_applicable_a1 : Fld Z h0 a1 "com/example/bindspire/bindspire/Overloads$Choice" "applicable" "Ljava/util/List;" u_applicable_a1) (F_maximal_a1 : Fld Z h0 a1 "com/example/bindspire/bindspire/Overloads$Choice" "maximal" "Ljava/util/List;" u_maximal_a1) :
    MetFree l (⟨"com/example/bindspire/bindspire/Overloads$Choice", "<init>", "(Lcom/example/bindspire/bindspire/Overloads$Phase;Ljava/util/List;Ljava/util/List;)V"⟩ : MethodName) (head1 (Jvm.Cond.code (⟨"com/example/bindspire/bindspire/Overloads$Choice", "<init>", "(Lcom/example/bindspire/bindspire/Overloads$Phase;Ljava/util/List;Ljava/util/List;)V"⟩ : MethodName) prog_27_method_1_code 4 none :: ws) ({ frames := 2, cells := 0, slots := 0, locals := 24 } : Room)) (fun a U => a = #[(.ref a1), .null, (.ref a2), (.ref a3)] ∧ Z.Warmed39 U.vm ∧ U.heap = h0) (fun _ _ _ _ _ => True) (fun _ U o U' => ∃ v L, o = .returned v ∧ Q12_n Z a1 a2 a3 u_phase_a1 u_applicable_a1 u_maximal_a1 h0 n0 v U'.heap L ∧ FrameEnd U o U' L ({ frames := 2, cells := 0, slots := 0, locals := 24 } : Room).cells ({ frames := 2, cells := 0, slots := 0, locals := 24 } : Room).slots) := by
  refine MetFree.of_bodySF (plainFor_of_name pn_12) hisR ?_
  intro p e s m args below meth c s₁ Bd hml0 hP hK
  obtain ⟨rfl, hZ, hh⟩ := hP
  have hx := Bd.exec
  have hby := Bd.bytes
  have hml : c.maxLocals = 4 := hml0
  have hown : s.vm.findClass "com/example/bindspire/bindspire/Overloads$Choice" = some m.cls := findClass_of_methodNamed Bd.named
  have hnm := (name_of_methodNamed Bd.named Bd.method).1
  have X0 : Stand p l e ({ frames := 2, cells := 0, slots := 0, locals := 24 } : Room) s m #[(.ref a1), .null, (.ref a2), (.ref a3)] below meth c s₁ [] 0 0 := Stand.of_body Bd
  have e0 : s₁.heap = h0 := by rw [← hh, Bd.state]; rfl
  have N0 := Fr.nil n0
  have pre0 : ∀ t, Steps p.tables e below (s₁.setTop (mkF m 0 #[.val (.ref a1), .val .null, .val (.ref a2), .val (.ref a3)] [])) t → Steps p.tables e below (s₁.setTop (entryFrame m #[(.ref a1), .null, (.ref a2), (.ref a3)] 4)) t := fun t k => castTop (ef_12_12_n m a1 a2 a3) k
  obtain ⟨_, _, ⟨T4, L4, k4, n4⟩, -, X4, ⟨Lc4, hQ4, l4, y4, z4⟩, st4⟩ := X0.specialBack hx (y := (⟨"java/lang/Record", "<init>", "()V"⟩ : MethodName)) rfl hown (mvT hZ (hw _ (List.mem_of_getElem? (i := 83) rfl))) (mvT hZ (hw _ (List.mem_of_getElem? (i := 7) rfl))) (mvT hZ (hw _ (List.mem_of_getElem? (i := 10) rfl))) (by decide) (backOf (W := 0) (rm2 l Z a0 hw [] a1 h0 n0 Z0) hZ (hw _ (List.mem_of_getElem? (i := 10) rfl)) (hw _ (List.mem_of_getElem? (i := 9) rfl)) (by decide) (by decide)) (g := (mkF m 1 #[.val (.ref a1), .val .null, .val (.ref a2), .val (.ref a3)] [(.ref a1)])) rfl (by rw [hml]; rfl) (Steps.refl _) (a := a1) (argsL := []) (rest := []) (lenOf pd_12_1 rfl) rfl (by show 2 * 0 + _ ≤ _; exact Nat.le_of_eq rfl) (hb hby d12_1) (fun _ _ => ⟨rfl, e0, (by decide : 0 + 0 ≤ _), (by decide : 0 + 0 ≤ _)⟩)
  dsimp only [Pt.U, Pt.locs, Pt.cells, Pt.slots] at X4 l4 y4 z4 st4 hQ4
  subst l4 y4 z4
  obtain ⟨rfl, N4q, e4⟩ := hQ4
  have N4 := Fr.app N0 N4q
  obtain ⟨T5, h5, X5, e5, W5, st5⟩ := putF X4 hx hZ hown (host := "") (Or.inl (hw _ (List.mem_of_getElem? (i := 84) rfl))) Via.refl e4 F_phase_a1 E_a1 (Or.inr ⟨(hw _ (List.mem_of_getElem? (i := 85) rfl)), rfl, hnm⟩) (hw _ (List.mem_of_getElem? (i := 78) rfl)) (ty := (.object "com/example/bindspire/bindspire/Overloads$Phase")) (by decide) rfl rfl (g := (mkF m 6 #[.val (.ref a1), .val .null, .val (.ref a2), .val (.ref a3)] [.null, (.ref a1)])) rfl rfl (hb hby d12_6)
  have Fw5 := F_phase_a1.same W5
  have K5 : Keep h0 h5 [a1] := (Keep.refl h0 [a1]).wr W5 (Or.inl (List.mem_of_getElem? (i := 0) rfl))
  have N5 := Fr.snoc X5 N4 g_a1
  obtain ⟨T6, h6, X6, e6, W6, st6⟩ := putF X5 hx hZ hown (host := "") (Or.inl (hw _ (List.mem_of_getElem? (i := 86) rfl))) Via.refl e5 (F_applicable_a1.other W5 (Or.inr (slot_ne (Or.inr (hw _ (List.mem_of_getElem? (i := 87) rfl))) (Or.inr (hw _ (List.mem_of_getElem? (i := 85) rfl))) (by decide) (t := (.object "java/util/List")) (t' := (.object "com/example/bindspire/bindspire/Overloads$Phase")) (by decide) (by decide)))) (E_a1.wr W5) (Or.inr ⟨(hw _ (List.mem_of_getElem? (i := 87) rfl)), rfl, hnm⟩) (hw _ (List.mem_of_getElem? (i := 78) rfl)) (ty := (.object "java/util/List")) (by decide) rfl rfl (g := (mkF m 11 #[.val (.ref a1), .val .null, .val (.ref a2), .val (.ref a3)] [(.ref a2), (.ref a1)])) rfl rfl (hb hby d12_11)
  have Fw6 := (F_applicable_a1.other W5 (Or.inr (slot_ne (Or.inr (hw _ (List.mem_of_getElem? (i := 87) rfl))) (Or.inr (hw _ (List.mem_of_getElem? (i := 85) rfl))) (by decide) (t := (.object "java/util/List")) (t' := (.object "com/example/bindspire/bindspire/Overloads$Phase")) (by decide) (by decide)))).same W6
  have K6 : Keep h0 h6 [a1] := K5.wr W6 (Or.inl (List.mem_of_getElem? (i := 0) rfl))
  have N6 := Fr.snoc X6 N5 g_a1
  obtain ⟨T7, h7, X7, e7, W7, st7⟩ := putF X6 hx hZ hown (host := "") (Or.inl (hw _ (List.mem_of_getElem? (i := 88) rfl))) Via.refl e6 ((F_maximal_a1.other W5 (Or.inr (slot_ne (Or.inr (hw _ (List.mem_of_getElem? (i := 89) rfl))) (Or.inr (hw _ (List.mem_of_getElem? (i := 85) rfl))) (by decide) (t := (.object "java/util/List")) (t' := (.object "com/example/bindspire/bindspire/Overloads$Phase")) (by decide) (by decide)))).other W6 (Or.inr (slot_ne (Or.inr (hw _ (List.mem_of_getElem? (i := 89) rfl))) (Or.inr (hw _ (List.mem_of_getElem? (i := 87) rfl))) (by decide) (t := (.object "java/util/List")) (t' := (.object "java/util/List")) (by decide) (by decide)))) ((E_a1.wr W5).wr W6) (Or.inr ⟨(hw _ (List.mem_of_getElem? (i := 89) rfl)), rfl, hnm⟩) (hw _ (List.mem_of_getElem? (i := 78) rfl)) (ty := (.object "java/util/List")) (by decide) rfl rfl (g := (mkF m 16 #[.val (.ref a1), .val .null, .val (.ref a2), .val (.ref a3)] [(.ref a3), (.ref a1)])) rfl rfl (hb hby d12_16)
  have Fw7 := ((F_maximal_a1.other W5 (Or.inr (slot_ne (Or.inr (hw _ (List.mem_of_getElem? (i := 89) rfl))) (Or.inr (hw _ (List.mem_of_getElem? (i := 85) rfl))) (by decide) (t := (.object "java/util/List")) (t' := (.object "com/example/bindspire/bindspire/Overloads$Phase")) (by decide) (by decide)))).other W6 (Or.inr (slot_ne (Or.inr (hw _ (List.mem_of_getElem? (i := 89) rfl))) (Or.inr (hw _ (List.mem_of_getElem? (i := 87) rfl))) (by decide) (t := (.object "java/util/List")) (t' := (.object "java/util/List")) (by decide) (by decide)))).same W7
  have K7 : Keep h0 h7 [a1] := K6.wr W7 (Or.inl (List.mem_of_getElem? (i := 0) rfl))
  have N7 := Fr.snoc X7 N6 g_a1
  obtain ⟨fs, hr, hrun, hended, hW, hsame⟩ := X7.leave (v := none) (fun _ => rfl)
  refine ⟨_, _, pre0 _ ?_, hrun, hended, _, _, rfl, ?_, ⟨_, rfl⟩, hW, hsame.mono (by decide) (by decide)⟩
  · show Steps p.tables e below (s₁.setTop (mkF m 0 #[.val (.ref a1), .val .null, .val (.ref a2), .val (.ref a3)] [])) _
    refine XS.aloadN X0.here hx rfl (hb hby d12_0) rfl rfl ?_
    show Steps p.tables e below (s₁.setTop (mkF m 1 #[.val (.ref a1), .val .null, .val (.ref a2), .val (.ref a3)] [(.ref a1)])) _
    refine st4.trans ?_
    show Steps p.tables e below (T4.setTop (mkF m 4 #[.val (.ref a1), .val .null, .val (.ref a2), .val (.ref a3)] [])) _
    refine XS.aloadN X4.here hx rfl (hb hby d12_4) rfl rfl ?_
    show Steps p.tables e below (T4.setTop (mkF m 5 #[.val (.ref a1), .val .null, .val (.ref a2), .val (.ref a3)] [(.ref a1)])) _
    refine XS.aloadN X4.here hx rfl (hb hby d12_5) rfl rfl ?_
    show Steps p.tables e below (T4.setTop (mkF m 6 #[.val (.ref a1), .val .null, .val (.ref a2), .val (.ref a3)] [.null, (.ref a1)])) _
    refine st5 _ ?_
    show Steps p.tables e below (T5.setTop (mkF m 9 #[.val (.ref a1), .val .null, .val (.ref a2), .val (.ref a3)] [])) _
    refine XS.aloadN X5.here hx rfl (hb hby d12_9) rfl rfl ?_
    show Steps p.tables e below (T5.setTop (mkF m 10 #[.val (.ref a1), .val .null, .val (.ref a2), .val (.ref a3)] [(.ref a1)])) _
    refine XS.aloadN X5.here hx rfl (hb hby d12_10) rfl rfl ?_
    show Steps p.tables e below (T5.setTop (mkF m 11 #[.val (.ref a1), .val .null, .val (.ref a2), .val (.ref a3)] [(.ref a2), (.ref a1)])) _
    refine st6 _ ?_
    show Steps p.tables e below (T6.setTop (mkF m 14 #[.val (.ref a1), .val .null, .val (.ref a2), .val (.ref a3)] [])) _
    refine XS.aloadN X6.here hx rfl (hb hby d12_14) rfl rfl ?_
    show Steps p.tables e below (T6.setTop (mkF m 15 #[.val (.ref a1), .val .null, .val (.ref a2), .val (.ref a3)] [(.ref a1)])) _
    refine XS.aloadN X6.here hx rfl (hb hby d12_15) rfl rfl ?_
    show Steps p.tables e below (T6.setTop (mkF m 16 #[.val (.ref a1), .val .null, .val (.ref a2), .val (.ref a3)] [(.ref a3), (.ref a1)])) _
    refine st7 _ ?_
    show Steps p.tables e below (T7.setTop (mkF m 19 #[.val (.ref a1), .val .null, .val (.ref a2), .val (.ref a3)] [])) _
    exact X7.returnOut hx Bd.returns (hb hby d12_19) hr
  · show Q12_n Z a1 a2 a3 u_phase_a1 u_applicable_a1 u_maximal_a1 h0 n0 _ T7.heap _
    rw [e7]
    exact ⟨rfl, N7, K7, (((E_a1.wr W5).wr W6).wr W7), Fw7⟩

theorem ef_12 (m : MethodId) (x0 : Addr) (x1 : Addr) (x2 : Addr) (x3 : Addr) : entryFrame m #[(.ref x0), (.ref x1), (.ref x2), (.ref x3)] 4 = mkF m 0 #[.val (.ref x0), .val (.ref x1), .val (.ref x2), .val (.ref x3)] [] := by first | (simp [entryFrame, mkF, argsToLocals, Value.category]; done) | rfl
def Q12_r (Z : State) (a1 : Addr) (a2 : Addr) (a3 : Addr) (a4 : Addr) (u_phase_a1 : Value) (u_applicable_a1 : Value) (u_maximal_a1 : Value) (h0 : Heap) (n0 : Nat) (v : Option Value) (h : Heap) (L : List Loc) : Prop := v = none ∧ Fr n0 L ∧ Keep h0 h [a1] ∧ Exa Z h a1 "com/example/bindspire/bindspire/Overloads$Choice" ∧ Fld Z h a1 "com/example/bindspire/bindspire/Overloads$Choice" "maximal" "Ljava/util/List;" (.ref a4)
set_option maxRecDepth 65536 in
set_option maxHeartbeats 40000000 in
theorem rm12_r (l : Launch) (Z : State) (a0 : Array Value) (hw : ∀ d ∈ tables_1, d.before a0 Z = true) (ws : List Jvm.Cond) (a1 : Addr) (a2 : Addr) (a3 : Addr) (a4 : Addr) (u_phase_a1 : Value) (u_applicable_a1 : Value) (u_maximal_a1 : Value) (h0 : Heap) (n0 : Nat) (Z0 : n0 ≤ h0.size) (E_a1 : Exa Z h0 a1 "com/example/bindspire/bindspire/Overloads$Choice") (F_phase_a1 : Fld Z h0 a1 "com/example/bindspire/bindspire/Overloads$Choice" "phase" "Lcom/example/bindspire/bindspire/Overloads$Phase;" u_phase_a1) (g_a1 : n0 ≤ a1) (F_applicable_a1 : Fld Z h0 a1 "com/example/bindspire/bindspire/Overloads$Choice" "applicable" "Ljava/util/List;" u_applicable_a1) (F_maximal_a1 : Fld Z h0 a1 "com/example/bindspire/bindspire/Overloads$Choice" "maximal" "Ljava/util/List;" u_maximal_a1) :
    MetFree l (⟨"com/example/bindspire/bindspire/Overloads$Choice", "<init>", "(Lcom/example/bindspire/bindspire/Overloads$Phase;Ljava/util/List;Ljava/util/List;)V"⟩ : MethodName) (head1 (Jvm.Cond.code (⟨"com/example/bindspire/bindspire/Overloads$Choice", "<init>", "(Lcom/example/bindspire/bindspire/Overloads$Phase;Ljava/util/List;Ljava/util/List;)V"⟩ : MethodName) prog_27_method_1_code 4 none :: ws) ({ frames := 2, cells := 0, slots := 0, locals := 24 } : Room)) (fun a U => a = #[(.ref a1), (.ref a2), (.ref a3), (.ref a4)] ∧ Z.Warmed39 U.vm ∧ U.heap = h0) (fun _ _ _ _ _ => True) (fun _ U o U' => ∃ v L, o = .returned v ∧ Q12_r Z a1 a2 a3 a4 u_phase_a1 u_applicable_a1 u_maximal_a1 h0 n0 v U'.heap L ∧ FrameEnd U o U' L ({ frames := 2, cells := 0, slots := 0, locals := 24 } : Room).cells ({ frames := 2, cells := 0, slots := 0, locals := 24 } : Room).slots) := by
  refine MetFree.of_bodySF (plainFor_of_name pn_12) hisR ?_
  intro p e s m args below meth c s₁ Bd hml0 hP hK
  obtain ⟨rfl, hZ, hh⟩ := hP
  have hx := Bd.exec
  have hby := Bd.bytes
  have hml : c.maxLocals = 4 := hml0
  have hown : s.vm.findClass "com/example/bindspire/bindspire/Overloads$Choice" = some m.cls := findClass_of_methodNamed Bd.named
  have hnm := (name_of_methodNamed Bd.named Bd.method).1
  have X0 : Stand p l e ({ frames := 2, cells := 0, slots := 0, locals := 24 } : Room) s m #[(.ref a1), (.ref a2), (.ref a3), (.ref a4)] below meth c s₁ [] 0 0 := Stand.of_body Bd
  have e0 : s₁.heap = h0 := by rw [← hh, Bd.state]; rfl
  have N0 := Fr.nil n0
  have pre0 : ∀ t, Steps p.tables e below (s₁.setTop (mkF m 0 #[.val (.ref a1), .val (.ref a2), .val (.ref a3), .val (.ref a4)] [])) t → Steps p.tables e below (s₁.setTop (entryFrame m #[(.ref a1), (.ref a2), (.ref a3), (.ref a4)] 4)) t := fun t k => castTop (ef_12 m a1 a2 a3 a4) k
  obtain ⟨_, _, ⟨T5, L5, k5, n5⟩, -, X5, ⟨Lc5, hQ5, l5, y5, z5⟩, st5⟩ := X0.specialBack hx (y := (⟨"java/lang/Record", "<init>", "()V"⟩ : MethodName)) rfl hown (mvT hZ (hw _ (List.mem_of_getElem? (i := 83) rfl))) (mvT hZ (hw _ (List.mem_of_getElem? (i := 7) rfl))) (mvT hZ (hw _ (List.mem_of_getElem? (i := 10) rfl))) (by decide) (backOf (W := 0) (rm2 l Z a0 hw [] a1 h0 n0 Z0) hZ (hw _ (List.mem_of_getElem? (i := 10) rfl)) (hw _ (List.mem_of_getElem? (i := 9) rfl)) (by decide) (by decide)) (g := (mkF m 1 #[.val (.ref a1), .val (.ref a2), .val (.ref a3), .val (.ref a4)] [(.ref a1)])) rfl (by rw [hml]; rfl) (Steps.refl _) (a := a1) (argsL := []) (rest := []) (lenOf pd_12_1 rfl) rfl (by show 2 * 0 + _ ≤ _; exact Nat.le_of_eq rfl) (hb hby d12_1) (fun _ _ => ⟨rfl, e0, (by decide : 0 + 0 ≤ _), (by decide : 0 + 0 ≤ _)⟩)
  dsimp only [Pt.U, Pt.locs, Pt.cells, Pt.slots] at X5 l5 y5 z5 st5 hQ5
  subst l5 y5 z5
  obtain ⟨rfl, N5q, e5⟩ := hQ5
  have N5 := Fr.app N0 N5q
  obtain ⟨T6, h6, X6, e6, W6, st6⟩ := putF X5 hx hZ hown (host := "") (Or.inl (hw _ (List.mem_of_getElem? (i := 84) rfl))) Via.refl e5 F_phase_a1 E_a1 (Or.inr ⟨(hw _ (List.mem_of_getElem? (i := 85) rfl)), rfl, hnm⟩) (hw _ (List.mem_of_getElem? (i := 78) rfl)) (ty := (.object "com/example/bindspire/bindspire/Overloads$Phase")) (by decide) rfl rfl (g := (mkF m 6 #[.val (.ref a1), .val (.ref a2), .val (.ref a3), .val (.ref a4)] [(.ref a2), (.ref a1)])) rfl rfl (hb hby d12_6)
  have Fw6 := F_phase_a1.same W6
  have K6 : Keep h0 h6 [a1] := (Keep.refl h0 [a1]).wr W6 (Or.inl (List.mem_of_getElem? (i := 0) rfl))
  have N6 := Fr.snoc X6 N5 g_a1
  obtain ⟨T7, h7, X7, e7, W7, st7⟩ := putF X6 hx hZ hown (host := "") (Or.inl (hw _ (List.mem_of_getElem? (i := 86) rfl))) Via.refl e6 (F_applicable_a1.other W6 (Or.inr (slot_ne (Or.inr (hw _ (List.mem_of_getElem? (i := 87) rfl))) (Or.inr (hw _ (List.mem_of_getElem? (i := 85) rfl))) (by decide) (t := (.object "java/util/List")) (t' := (.object "com/example/bindspire/bindspire/Overloads$Phase")) (by decide) (by decide)))) (E_a1.wr W6) (Or.inr ⟨(hw _ (List.mem_of_getElem? (i := 87) rfl)), rfl, hnm⟩) (hw _ (List.mem_of_getElem? (i := 78) rfl)) (ty := (.object "java/util/List")) (by decide) rfl rfl (g := (mkF m 11 #[.val (.ref a1), .val (.ref a2), .val (.ref a3), .val (.ref a4)] [(.ref a3), (.ref a1)])) rfl rfl (hb hby d12_11)
  have Fw7 := (F_applicable_a1.other W6 (Or.inr (slot_ne (Or.inr (hw _ (List.mem_of_getElem? (i := 87) rfl))) (Or.inr (hw _ (List.mem_of_getElem? (i := 85) rfl))) (by decide) (t := (.object "java/util/List")) (t' := (.object "com/example/bindspire/bindspire/Overloads$Phase")) (by decide) (by decide)))).same W7
  have K7 : Keep h0 h7 [a1] := K6.wr W7 (Or.inl (List.mem_of_getElem? (i := 0) rfl))
  have N7 := Fr.snoc X7 N6 g_a1
  obtain ⟨T8, h8, X8, e8, W8, st8⟩ := putF X7 hx hZ hown (host := "") (Or.inl (hw _ (List.mem_of_getElem? (i := 88) rfl))) Via.refl e7 ((F_maximal_a1.other W6 (Or.inr (slot_ne (Or.inr (hw _ (List.mem_of_getElem? (i := 89) rfl))) (Or.inr (hw _ (List.mem_of_getElem? (i := 85) rfl))) (by decide) (t := (.object "java/util/List")) (t' := (.object "com/example/bindspire/bindspire/Overloads$Phase")) (by decide) (by decide)))).other W7 (Or.inr (slot_ne (Or.inr (hw _ (List.mem_of_getElem? (i := 89) rfl))) (Or.inr (hw _ (List.mem_of_getElem? (i := 87) rfl))) (by decide) (t := (.object "java/util/List")) (t' := (.object "java/util/List")) (by decide) (by decide)))) ((E_a1.wr W6).wr W7) (Or.inr ⟨(hw _ (List.mem_of_getElem? (i := 89) rfl)), rfl, hnm⟩) (hw _ (List.mem_of_getElem? (i := 78) rfl)) (ty := (.object "java/util/List")) (by decide) rfl rfl (g := (mkF m 16 #[.val (.ref a1), .val (.ref a2), .val (.ref a3), .val (.ref a4)] [(.ref a4), (.ref a1)])) rfl rfl (hb hby d12_16)
  have Fw8 := ((F_maximal_a1.other W6 (Or.inr (slot_ne (Or.inr (hw _ (List.mem_of_getElem? (i := 89) rfl))) (Or.inr (hw _ (List.mem_of_getElem? (i := 85) rfl))) (by decide) (t := (.object "java/util/List")) (t' := (.object "com/example/bindspire/bindspire/Overloads$Phase")) (by decide) (by decide)))).other W7 (Or.inr (slot_ne (Or.inr (hw _ (List.mem_of_getElem? (i := 89) rfl))) (Or.inr (hw _ (List.mem_of_getElem? (i := 87) rfl))) (by decide) (t := (.object "java/util/List")) (t' := (.object "java/util/List")) (by decide) (by decide)))).same W8
  have K8 : Keep h0 h8 [a1] := K7.wr W8 (Or.inl (List.mem_of_getElem? (i := 0) rfl))
  have N8 := Fr.snoc X8 N7 g_a1
  obtain ⟨fs, hr, hrun, hended, hW, hsame⟩ := X8.leave (v := none) (fun _ => rfl)
  refine ⟨_, _, pre0 _ ?_, hrun, hended, _, _, rfl, ?_, ⟨_, rfl⟩, hW, hsame.mono (by decide) (by decide)⟩
  · show Steps p.tables e below (s₁.setTop (mkF m 0 #[.val (.ref a1), .val (.ref a2), .val (.ref a3), .val (.ref a4)] [])) _
    refine XS.aloadN X0.here hx rfl (hb hby d12_0) rfl rfl ?_
    show Steps p.tables e below (s₁.setTop (mkF m 1 #[.val (.ref a1), .val (.ref a2), .val (.ref a3), .val (.ref a4)] [(.ref a1)])) _
    refine st5.trans ?_
    show Steps p.tables e below (T5.setTop (mkF m 4 #[.val (.ref a1), .val (.ref a2), .val (.ref a3), .val (.ref a4)] [])) _
    refine XS.aloadN X5.here hx rfl (hb hby d12_4) rfl rfl ?_
    show Steps p.tables e below (T5.setTop (mkF m 5 #[.val (.ref a1), .val (.ref a2), .val (.ref a3), .val (.ref a4)] [(.ref a1)])) _
    refine XS.aloadN X5.here hx rfl (hb hby d12_5) rfl rfl ?_
    show Steps p.tables e below (T5.setTop (mkF m 6 #[.val (.ref a1), .val (.ref a2), .val (.ref a3), .val (.ref a4)] [(.ref a2), (.ref a1)])) _
    refine st6 _ ?_
    show Steps p.tables e below (T6.setTop (mkF m 9 #[.val (.ref a1), .val (.ref a2), .val (.ref a3), .val (.ref a4)] [])) _
    refine XS.aloadN X6.here hx rfl (hb hby d12_9) rfl rfl ?_
    show Steps p.tables e below (T6.setTop (mkF m 10 #[.val (.ref a1), .val (.ref a2), .val (.ref a3), .val (.ref a4)] [(.ref a1)])) _
    refine XS.aloadN X6.here hx rfl (hb hby d12_10) rfl rfl ?_
    show Steps p.tables e below (T6.setTop (mkF m 11 #[.val (.ref a1), .val (.ref a2), .val (.ref a3), .val (.ref a4)] [(.ref a3), (.ref a1)])) _
    refine st7 _ ?_
    show Steps p.tables e below (T7.setTop (mkF m 14 #[.val (.ref a1), .val (.ref a2), .val (.ref a3), .val (.ref a4)] [])) _
    refine XS.aloadN X7.here hx rfl (hb hby d12_14) rfl rfl ?_
    show Steps p.tables e below (T7.setTop (mkF m 15 #[.val (.ref a1), .val (.ref a2), .val (.ref a3), .val (.ref a4)] [(.ref a1)])) _
    refine XS.aloadN X7.here hx rfl (hb hby d12_15) rfl rfl ?_
    show Steps p.tables e below (T7.setTop (mkF m 16 #[.val (.ref a1), .val (.ref a2), .val (.ref a3), .val (.ref a4)] [(.ref a4), (.ref a1)])) _
    refine st8 _ ?_
    show Steps p.tables e below (T8.setTop (mkF m 19 #[.val (.ref a1), .val (.ref a2), .val (.ref a3), .val (.ref a4)] [])) _
    exact X8.returnOut hx Bd.returns (hb hby d12_19) hr
  · show Q12_r Z a1 a2 a3 a4 u_phase_a1 u_applicable_a1 u_maximal_a1 h0 n0 _ T8.heap _
    rw [e8]
    exact ⟨rfl, N8, K8, (((E_a1.wr W6).wr W7).wr W8), Fw8⟩

theorem d13_0 : decode prog_27_method_2_code 0 = .ok (.aload_n 0, 1) := by decide +kernel
theorem d13_1 : decode prog_27_method_2_code 1 = .ok (.getfield 17, 3) := by decide +kernel
theorem d13_4 : decode prog_27_method_2_code 4 = .ok (.invokeinterface 20 1, 5) := by decide +kernel
theorem d13_9 : decode prog_27_method_2_code 9 = .ok (.iconst 1, 1) := by decide +kernel
theorem d13_10 : decode prog_27_method_2_code 10 = .ok (.if_icmp .ne 19, 3) := by decide +kernel
theorem d13_29 : decode prog_27_method_2_code 29 = .ok (.aconst_null, 1) := by decide +kernel
theorem d13_30 : decode prog_27_method_2_code 30 = .ok (.areturn, 1) := by decide +kernel
theorem pn_13 : plainName "com/example/bindspire/bindspire/Overloads$Choice" = true := by first | (simp [plainName, overriddenIn]; done) | decide +kernel
theorem pd_13_9 : parseMethodDescriptor "()I" = some ⟨[], some .int⟩ := by decide +kernel
theorem ef_13 (m : MethodId) (x0 : Addr) : entryFrame m #[(.ref x0)] 1 = mkF m 0 #[.val (.ref x0)] [] := by first | (simp [entryFrame, mkF, argsToLocals, Value.category]; done) | rfl
set_option maxRecDepth 65536 in
set_option maxHeartbeats 40000000 in
theorem rm13_o (l : Launch) (Z : State) (a0 : Array Value) (hw : ∀ d ∈ tables_1, d.before a0 Z = true) (ws : List Jvm.Cond) (a1 : Addr) (mx : Addr) (k : Int32) (h0 : Heap) (n0 : Nat) (Z0 : n0 ≤ h0.size) (E_mx : Exa Z h0 mx "java/util/ArrayList") (F_maximal_a1 : Fld Z h0 a1 "com/example/bindspire/bindspire/Overloads$Choice" "maximal" "Ljava/util/List;" (.ref mx)) (F_size_mx : Fld Z h0 mx "java/util/ArrayList" "size" "I" (.int k)) (hc10 : ¬ (k = (1 : Int32))) :
    MetFree l (⟨"com/example/bindspire/bindspire/Overloads$Choice", "chosen", "()Lcom/example/bindspire/bindspire/Overloads$Candidate;"⟩ : MethodName) (head1 (Jvm.Cond.code (⟨"com/example/bindspire/bindspire/Overloads$Choice", "chosen", "()Lcom/example/bindspire/bindspire/Overloads$Candidate;"⟩ : MethodName) prog_27_method_2_code 1 (some (.object "com/example/bindspire/bindspire/Overloads$Candidate")) :: ws) ({ frames := 1, cells := 0, slots := 0, locals := 12 } : Room)) (fun a U => a = #[(.ref a1)] ∧ Z.Warmed39 U.vm ∧ U.heap = h0) (fun _ _ _ _ _ => True) (fun _ U o U' => ∃ v L, o = .returned v ∧ own_Qv .null h0 n0 v U'.heap L ∧ FrameEnd U o U' L ({ frames := 1, cells := 0, slots := 0, locals := 12 } : Room).cells ({ frames := 1, cells := 0, slots := 0, locals := 12 } : Room).slots) := by
  refine MetFree.of_bodySF (plainFor_of_name pn_13) hisR ?_
  intro p e s m args below meth c s₁ Bd hml0 hP hK
  obtain ⟨rfl, hZ, hh⟩ := hP
  have hx := Bd.exec
  have hby := Bd.bytes
  have hml : c.maxLocals = 1 := hml0
  have hown : s.vm.findClass "com/example/bindspire/bindspire/Overloads$Choice" = some m.cls := findClass_of_methodNamed Bd.named
  have hnm := (name_of_methodNamed Bd.named Bd.method).1
  have X0 : Stand p l e ({ frames := 1, cells := 0, slots := 0, locals := 12 } : Room) s m #[(.ref a1)] below meth c s₁ [] 0 0 := Stand.of_body Bd
  have e0 : s₁.heap = h0 := by rw [← hh, Bd.state]; rfl
  have N0 := Fr.nil n0
  have pre0 : ∀ t, Steps p.tables e below (s₁.setTop (mkF m 0 #[.val (.ref a1)] [])) t → Steps p.tables e below (s₁.setTop (entryFrame m #[(.ref a1)] 1)) t := fun t k => castTop (ef_13 m a1) k
  obtain ⟨T2, X2, e2, st2⟩ := getF X0 hx hZ hown (host := "") (Or.inl (hw _ (List.mem_of_getElem? (i := 88) rfl))) Via.refl e0 F_maximal_a1 (g := (mkF m 1 #[.val (.ref a1)] [(.ref a1)])) rfl rfl (hb hby d13_1)
  obtain ⟨cq3, kq3, q3a, q3b, q3c⟩ := isOf hZ e2 E_mx
  obtain ⟨_, _, ⟨T3, L3, k3, n3⟩, -, X3, ⟨Lc3, hQ3, l3, y3, z3⟩, st3⟩ := X2.interfaceBack hx (xi := (⟨"java/util/List", "size", "()I"⟩ : MethodName)) (y := (⟨"java/util/ArrayList", "size", "()I"⟩ : MethodName)) hown (mvT hZ (hw _ (List.mem_of_getElem? (i := 95) rfl))) (mvT hZ (hw _ (List.mem_of_getElem? (i := 96) rfl))) (mvT hZ (hw _ (List.mem_of_getElem? (i := 97) rfl))) (mvT hZ (hw _ (List.mem_of_getElem? (i := 98) rfl))) (mvT hZ (hw _ (List.mem_of_getElem? (i := 99) rfl))) (mvT hZ (hw _ (List.mem_of_getElem? (i := 100) rfl))) (mvT hZ (hw _ (List.mem_of_getElem? (i := 101) rfl))) (mvT hZ (hw _ (List.mem_of_getElem? (i := 49) rfl))) (by decide) (backOf (W := 0) (rm14 l Z a0 hw [] mx k h0 n0 Z0 F_size_mx) hZ (hw _ (List.mem_of_getElem? (i := 102) rfl)) (hw _ (List.mem_of_getElem? (i := 20) rfl)) (by decide) (by decide)) q3a q3b q3c (g := (mkF m 4 #[.val (.ref a1)] [(.ref mx)])) rfl (by rw [hml]; rfl) (Steps.refl _) (argsL := []) (rest := []) (lenOf pd_13_9 rfl) rfl (by show 2 * 0 + _ ≤ _; exact Nat.le_of_eq rfl) (hb hby d13_4) (fun _ _ => ⟨rfl, e2, (by decide : 0 + 0 ≤ _), (by decide : 0 + 0 ≤ _)⟩)
  dsimp only [Pt.U, Pt.locs, Pt.cells, Pt.slots] at X3 l3 y3 z3 st3 hQ3
  subst l3 y3 z3
  obtain ⟨rfl, N3q, e3⟩ := hQ3
  have N3 := Fr.app N0 N3q
  obtain ⟨fs, hr, hrun, hended, hW, hsame⟩ := X3.leave (v := some .null) (fun h => by rw [Bd.returns] at h; cases h)
  refine ⟨_, _, pre0 _ ?_, hrun, hended, _, _, rfl, ?_, ⟨_, rfl⟩, hW, hsame.mono (by decide) (by decide)⟩
  · show Steps p.tables e below (s₁.setTop (mkF m 0 #[.val (.ref a1)] [])) _
    refine XS.aloadN X0.here hx rfl (hb hby d13_0) rfl rfl ?_
    show Steps p.tables e below (s₁.setTop (mkF m 1 #[.val (.ref a1)] [(.ref a1)])) _
    refine st2 _ ?_
    show Steps p.tables e below (T2.setTop (mkF m 4 #[.val (.ref a1)] [(.ref mx)])) _
    refine st3.trans ?_
    show Steps p.tables e below (T3.setTop (mkF m 9 #[.val (.ref a1)] [(.int k)])) _
    refine XS.iconst X3.here hx rfl (hb hby d13_9) ?_
    show Steps p.tables e below (T3.setTop (mkF m 10 #[.val (.ref a1)] [(.int (1 : Int32)), (.int k)])) _
    refine XS.icmpYes X3.here hx rfl (pc0 := 10) (pc' := 29) rfl (hb hby d13_10) rfl (feq hc10).2 (by decide) (by decide) ?_
    show Steps p.tables e below (T3.setTop (mkF m 29 #[.val (.ref a1)] [])) _
    refine XS.aconstNull X3.here hx rfl (hb hby d13_29) ?_
    show Steps p.tables e below (T3.setTop (mkF m 30 #[.val (.ref a1)] [.null])) _
    jvm_step X3.here [X3.here.top, hx, (hb hby d13_30), X3.method', Bd.returns, Value.isRef, FieldType.isReference]
    first | (intro acts; rw [hr _ acts rfl rfl rfl]) | rw [hr _ _ rfl rfl rfl]
    exact Steps.refl _
  · show own_Qv .null h0 n0 _ T3.heap _
    rw [e3]
    exact ⟨rfl, N3, rfl⟩

theorem d13_13 : decode prog_27_method_2_code 13 = .ok (.aload_n 0, 1) := by decide +kernel
theorem d13_14 : decode prog_27_method_2_code 14 = .ok (.getfield 17, 3) := by decide +kernel
theorem d13_17 : decode prog_27_method_2_code 17 = .ok (.iconst 0, 1) := by decide +kernel
theorem d13_18 : decode prog_27_method_2_code 18 = .ok (.invokeinterface 26 2, 5) := by decide +kernel
theorem d13_23 : decode prog_27_method_2_code 23 = .ok (.checkcast 30, 3) := by decide +kernel
theorem d13_26 : decode prog_27_method_2_code 26 = .ok (.goto 4, 3) := by decide +kernel
theorem pd_13_11 : parseMethodDescriptor "(I)Ljava/lang/Object;" = some ⟨[.int], some (.object "java/lang/Object")⟩ := by decide +kernel
set_option maxRecDepth 65536 in
set_option maxHeartbeats 40000000 in
theorem rm13_y (l : Launch) (Z : State) (a0 : Array Value) (hw : ∀ d ∈ tables_1, d.before a0 Z = true) (ws : List Jvm.Cond) (a1 : Addr) (kc : ClassId) (vs : List Value) (mx b w : Addr) (h0 : Heap) (n0 : Nat) (Z0 : n0 ≤ h0.size) (E_mx : Exa Z h0 mx "java/util/ArrayList") (E_w : Exa Z h0 w "com/example/bindspire/bindspire/Overloads$Candidate") (F_maximal_a1 : Fld Z h0 a1 "com/example/bindspire/bindspire/Overloads$Choice" "maximal" "Ljava/util/List;" (.ref mx)) (F_size_mx : Fld Z h0 mx "java/util/ArrayList" "size" "I" (.int (1 : Int32))) (F_elementData_mx : Fld Z h0 mx "java/util/ArrayList" "elementData" "[Ljava/lang/Object;" (.ref b)) (V_b : Arv Z h0 b kc (.object "java/lang/Object") (10 : Int32) vs .null) (hw0 : vs.getD ((0 : Int32)).toNatClampNeg .null = .ref w) :
    MetFree l (⟨"com/example/bindspire/bindspire/Overloads$Choice", "chosen", "()Lcom/example/bindspire/bindspire/Overloads$Candidate;"⟩ : MethodName) (head1 (Jvm.Cond.code (⟨"com/example/bindspire/bindspire/Overloads$Choice", "chosen", "()Lcom/example/bindspire/bindspire/Overloads$Candidate;"⟩ : MethodName) prog_27_method_2_code 1 (some (.object "com/example/bindspire/bindspire/Overloads$Candidate")) :: ws) ({ frames := 3, cells := 0, slots := 0, locals := 40 } : Room)) (fun a U => a = #[(.ref a1)] ∧ Z.Warmed39 U.vm ∧ U.heap = h0) (fun _ _ _ _ _ => True) (fun _ U o U' => ∃ v L, o = .returned v ∧ own_Qv (.ref w) h0 n0 v U'.heap L ∧ FrameEnd U o U' L ({ frames := 3, cells := 0, slots := 0, locals := 40 } : Room).cells ({ frames := 3, cells := 0, slots := 0, locals := 40 } : Room).slots) := by
  refine MetFree.of_bodySF (plainFor_of_name pn_13) hisR ?_
  intro p e s m args below meth c s₁ Bd hml0 hP hK
  obtain ⟨rfl, hZ, hh⟩ := hP
  have hx := Bd.exec
  have hby := Bd.bytes
  have hml : c.maxLocals = 1 := hml0
  have hown : s.vm.findClass "com/example/bindspire/bindspire/Overloads$Choice" = some m.cls := findClass_of_methodNamed Bd.named
  have hnm := (name_of_methodNamed Bd.named Bd.method).1
  have X0 : Stand p l e ({ frames := 3, cells := 0, slots := 0, locals := 40 } : Room) s m #[(.ref a1)] below meth c s₁ [] 0 0 := Stand.of_body Bd
  have e0 : s₁.heap = h0 := by rw [← hh, Bd.state]; rfl
  have N0 := Fr.nil n0
  have pre0 : ∀ t, Steps p.tables e below (s₁.setTop (mkF m 0 #[.val (.ref a1)] [])) t → Steps p.tables e below (s₁.setTop (entryFrame m #[(.ref a1)] 1)) t := fun t k => castTop (ef_13 m a1) k
  obtain ⟨T2, X2, e2, st2⟩ := getF X0 hx hZ hown (host := "") (Or.inl (hw _ (List.mem_of_getElem? (i := 88) rfl))) Via.refl e0 F_maximal_a1 (g := (mkF m 1 #[.val (.ref a1)] [(.ref a1)])) rfl rfl (hb hby d13_1)
  obtain ⟨cq3, kq3, q3a, q3b, q3c⟩ := isOf hZ e2 E_mx
  obtain ⟨_, _, ⟨T3, L3, k3, n3⟩, -, X3, ⟨Lc3, hQ3, l3, y3, z3⟩, st3⟩ := X2.interfaceBack hx (xi := (⟨"java/util/List", "size", "()I"⟩ : MethodName)) (y := (⟨"java/util/ArrayList", "size", "()I"⟩ : MethodName)) hown (mvT hZ (hw _ (List.mem_of_getElem? (i := 95) rfl))) (mvT hZ (hw _ (List.mem_of_getElem? (i := 96) rfl))) (mvT hZ (hw _ (List.mem_of_getElem? (i := 97) rfl))) (mvT hZ (hw _ (List.mem_of_getElem? (i := 98) rfl))) (mvT hZ (hw _ (List.mem_of_getElem? (i := 99) rfl))) (mvT hZ (hw _ (List.mem_of_getElem? (i := 100) rfl))) (mvT hZ (hw _ (List.mem_of_getElem? (i := 101) rfl))) (mvT hZ (hw _ (List.mem_of_getElem? (i := 49) rfl))) (by decide) (backOf (W := 0) (rm14 l Z a0 hw [] mx (1 : Int32) h0 n0 Z0 F_size_mx) hZ (hw _ (List.mem_of_getElem? (i := 102) rfl)) (hw _ (List.mem_of_getElem? (i := 20) rfl)) (by decide) (by decide)) q3a q3b q3c (g := (mkF m 4 #[.val (.ref a1)] [(.ref mx)])) rfl (by rw [hml]; rfl) (Steps.refl _) (argsL := []) (rest := []) (lenOf pd_13_9 rfl) rfl (by show 2 * 0 + _ ≤ _; exact Nat.le_of_eq rfl) (hb hby d13_4) (fun _ _ => ⟨rfl, e2, (by decide : 0 + 0 ≤ _), (by decide : 0 + 0 ≤ _)⟩)
  dsimp only [Pt.U, Pt.locs, Pt.cells, Pt.slots] at X3 l3 y3 z3 st3 hQ3
  subst l3 y3 z3
  obtain ⟨rfl, N3q, e3⟩ := hQ3
  have N3 := Fr.app N0 N3q
  obtain ⟨T4, X4, e4, st4⟩ := getF X3 hx hZ hown (host := "") (Or.inl (hw _ (List.mem_of_getElem? (i := 88) rfl))) Via.refl e3 F_maximal_a1 (g := (mkF m 14 #[.val (.ref a1)] [(.ref a1)])) rfl rfl (hb hby d13_14)
  obtain ⟨cq5, kq5, q5a, q5b, q5c⟩ := isOf hZ e4 E_mx
  obtain ⟨_, _, ⟨T5, L5, k5, n5⟩, -, X5, ⟨Lc5, hQ5, l5, y5, z5⟩, st5⟩ := X4.interfaceBack hx (xi := (⟨"java/util/List", "get", "(I)Ljava/lang/Object;"⟩ : MethodName)) (y := (⟨"java/util/ArrayList", "get", "(I)Ljava/lang/Object;"⟩ : MethodName)) hown (mvT hZ (hw _ (List.mem_of_getElem? (i := 112) rfl))) (mvT hZ (hw _ (List.mem_of_getElem? (i := 113) rfl))) (mvT hZ (hw _ (List.mem_of_getElem? (i := 114) rfl))) (mvT hZ (hw _ (List.mem_of_getElem? (i := 115) rfl))) (mvT hZ (hw _ (List.mem_of_getElem? (i := 116) rfl))) (mvT hZ (hw _ (List.mem_of_getElem? (i := 117) rfl))) (mvT hZ (hw _ (List.mem_of_getElem? (i := 118) rfl))) (mvT hZ (hw _ (List.mem_of_getElem? (i := 49) rfl))) (by decide) (backOf (W := 0) (rm16 l Z a0 hw [] mx (0 : Int32) kc vs (1 : Int32) b w h0 n0 Z0 E_mx F_size_mx F_elementData_mx V_b (by decide) (by decide) (by decide) hw0) hZ (hw _ (List.mem_of_getElem? (i := 119) rfl)) (hw _ (List.mem_of_getElem? (i := 20) rfl)) (by decide) (by decide)) q5a q5b q5c (g := (mkF m 18 #[.val (.ref a1)] [(.int (0 : Int32)), (.ref mx)])) rfl (by rw [hml]; rfl) (Steps.refl _) (argsL := [(.int (0 : Int32))]) (rest := []) (lenOf pd_13_11 rfl) rfl (by show 2 * 0 + _ ≤ _; exact Nat.le_of_eq rfl) (hb hby d13_18) (fun _ _ => ⟨rfl, e4, (by decide : 0 + 0 ≤ _), (by decide : 0 + 0 ≤ _)⟩)
  dsimp only [Pt.U, Pt.locs, Pt.cells, Pt.slots] at X5 l5 y5 z5 st5 hQ5
  subst l5 y5 z5
  obtain ⟨rfl, N5q, e5⟩ := hQ5
  have N5 := Fr.app N3 N5q
  obtain ⟨T6, X6, e6, st6⟩ := castY X5 hx hZ hown (hw _ (List.mem_of_getElem? (i := 133) rfl)) e5 (Ins.self E_w) (g := (mkF m 23 #[.val (.ref a1)] [(.ref w)])) rfl rfl (hb hby d13_23)
  obtain ⟨fs, hr, hrun, hended, hW, hsame⟩ := X6.leave (v := some (.ref w)) (fun h => by rw [Bd.returns] at h; cases h)
  refine ⟨_, _, pre0 _ ?_, hrun, hended, _, _, rfl, ?_, ⟨_, rfl⟩, hW, hsame.mono (by decide) (by decide)⟩
  · show Steps p.tables e below (s₁.setTop (mkF m 0 #[.val (.ref a1)] [])) _
    refine XS.aloadN X0.here hx rfl (hb hby d13_0) rfl rfl ?_
    show Steps p.tables e below (s₁.setTop (mkF m 1 #[.val (.ref a1)] [(.ref a1)])) _
    refine st2 _ ?_
    show Steps p.tables e below (T2.setTop (mkF m 4 #[.val (.ref a1)] [(.ref mx)])) _
    refine st3.trans ?_
    show Steps p.tables e below (T3.setTop (mkF m 9 #[.val (.ref a1)] [(.int (1 : Int32))])) _
    refine XS.iconst X3.here hx rfl (hb hby d13_9) ?_
    show Steps p.tables e below (T3.setTop (mkF m 10 #[.val (.ref a1)] [(.int (1 : Int32)), (.int (1 : Int32))])) _
    refine XS.icmpNo X3.here hx rfl (hb hby d13_10) rfl (teq (rfl : (1 : Int32) = (1 : Int32))).2 ?_
    show Steps p.tables e below (T3.setTop (mkF m 13 #[.val (.ref a1)] [])) _
    refine XS.aloadN X3.here hx rfl (hb hby d13_13) rfl rfl ?_
    show Steps p.tables e below (T3.setTop (mkF m 14 #[.val (.ref a1)] [(.ref a1)])) _
    refine st4 _ ?_
    show Steps p.tables e below (T4.setTop (mkF m 17 #[.val (.ref a1)] [(.ref mx)])) _
    refine XS.iconst X4.here hx rfl (hb hby d13_17) ?_
    show Steps p.tables e below (T4.setTop (mkF m 18 #[.val (.ref a1)] [(.int (0 : Int32)), (.ref mx)])) _
    refine st5.trans ?_
    show Steps p.tables e below (T5.setTop (mkF m 23 #[.val (.ref a1)] [(.ref w)])) _
    refine st6 _ ?_
    show Steps p.tables e below (T6.setTop (mkF m 26 #[.val (.ref a1)] [(.ref w)])) _
    refine XS.goto X6.here hx rfl (pc0 := 26) (pc' := 30) rfl (hb hby d13_26) (by decide) (by decide) ?_
    show Steps p.tables e below (T6.setTop (mkF m 30 #[.val (.ref a1)] [(.ref w)])) _
    jvm_step X6.here [X6.here.top, hx, (hb hby d13_30), X6.method', Bd.returns, Value.isRef, FieldType.isReference]
    first | (intro acts; rw [hr _ acts rfl rfl rfl]) | rw [hr _ _ rfl rfl rfl]
    exact Steps.refl _
  · show own_Qv (.ref w) h0 n0 _ T6.heap _
    rw [e6]
    exact ⟨rfl, N5, rfl⟩

/-- what the rest of the law asks of the list 'maximal' -/
def own_M (Z : State) (h : Heap) (ml c0 : Addr) (n : Int32) : Prop := Exa Z h ml "java/util/ArrayList" ∧ Fld Z h ml "java/util/ArrayList" "size" "I" (.int n) ∧ (n = 1 → ∃ b kc vs, Fld Z h ml "java/util/ArrayList" "elementData" "[Ljava/lang/Object;" (.ref b) ∧ Arv Z h b kc (.object "java/lang/Object") (10 : Int32) vs .null ∧ vs.getD ((0 : Int32)).toNatClampNeg .null = .ref c0)
theorem own_M_ext {Z : State} {h h' : Heap} {ml c0 : Addr} {n : Int32} (E : Ext h h') (F : own_M Z h ml c0 n) : own_M Z h' ml c0 n := by
  obtain ⟨e, f, q⟩ := F
  refine ⟨e.ext E, f.ext E, fun hn => ?_⟩
  obtain ⟨b, kc, vs, g1, g2, g3⟩ := q hn
  exact ⟨b, kc, vs, g1.ext E, g2.ext E, g3⟩
/-- the list 'applicable': none yet, or up to k in ten -/
def own_P (Z : State) (wD : Addr) (h1 h : Heap) (pl : Addr) (k : Int) : Prop := own_L0 Z wD h pl ∨ ∃ j b vs, own_L1 Z h pl b j vs ∧ h1.size ≤ b ∧ vs.length = 10 ∧ 1 ≤ j.toInt ∧ j.toInt ≤ k
theorem own_k0 {h h' : Heap} (K : Keep h h' []) : Ext h h' := ⟨K.1, fun x c q => K.2.1 x c q nin0⟩
theorem own_add1 {j : Int32} (h1 : 0 ≤ j.toInt) (h2 : j.toInt ≤ 9) : (j + (1 : Int32)).toInt = j.toInt + 1 := by
  have q := c_iadd j (1 : Int32)
  have e : (1 : Int32).toInt = 1 := by decide
  rw [e] at q
  have b1 := Int32.toInt_lt (j + (1 : Int32)); have b2 := Int32.le_toInt (j + (1 : Int32))
  omega
theorem pd_0_0 : parseMethodDescriptor "(Ljava/lang/reflect/Executable;Ljava/util/List;)V" = some ⟨[(.object "java/lang/reflect/Executable"), (.object "java/util/List")], none⟩ := by decide +kernel
theorem pd_0_1 : parseMethodDescriptor "()V" = some ⟨[], none⟩ := by decide +kernel
theorem os_s1_0_3 {z0 : Value} {s1 : Slot} {s2 : Slot} {s3 : Slot} {s4 : Slot} {s5 : Slot} {s6 : Slot} {s7 : Slot} {s8 : Slot} {s9 : Slot} {s10 : Slot} {s11 : Slot} {s12 : Slot} {s13 : Slot} {s14 : Slot} {v : Int32} (h : One s3) : storeLocals #[.val z0, s1, s2, s3, s4, s5, s6, s7, s8, s9, s10, s11, s12, s13, s14] 3 (.int v) = some #[.val z0, s1, s2, .val (.int v), s4, s5, s6, s7, s8, s9, s10, s11, s12, s13, s14] := by
  rcases h with rfl | ⟨w, rfl, hw⟩
  · rfl
  · cases w <;> first | rfl | (simp [Value.category] at hw)
theorem os_s1_0_13 {z0 : Value} {s1 : Slot} {s2 : Slot} {z3 : Value} {s4 : Slot} {s5 : Slot} {s6 : Slot} {s7 : Slot} {s8 : Slot} {s9 : Slot} {s10 : Slot} {s11 : Slot} {s12 : Slot} {s13 : Slot} {s14 : Slot} {v : Addr} (h : One s4) : storeLocals #[.val z0, s1, s2, .val z3, s4, s5, s6, s7, s8, s9, s10, s11, s12, s13, s14] 4 (.ref v) = some #[.val z0, s1, s2, .val z3, .val (.ref v), s5, s6, s7, s8, s9, s10, s11, s12, s13, s14] := by
  rcases h with rfl | ⟨w, rfl, hw⟩
  · rfl
  · cases w <;> first | rfl | (simp [Value.category] at hw)
theorem os_s1_0_24 {z0 : Value} {s1 : Slot} {s2 : Slot} {z3 : Value} {z4 : Value} {s5 : Slot} {s6 : Slot} {s7 : Slot} {s8 : Slot} {s9 : Slot} {s10 : Slot} {s11 : Slot} {s12 : Slot} {s13 : Slot} {s14 : Slot} {v : Addr} (h : One s5) : storeLocals #[.val z0, s1, s2, .val z3, .val z4, s5, s6, s7, s8, s9, s10, s11, s12, s13, s14] 5 (.ref v) = some #[.val z0, s1, s2, .val z3, .val z4, .val (.ref v), s6, s7, s8, s9, s10, s11, s12, s13, s14] := by
  rcases h with rfl | ⟨w, rfl, hw⟩
  · rfl
  · cases w <;> first | rfl | (simp [Value.category] at hw)
theorem os_s1_0_35 {z0 : Value} {s1 : Slot} {s2 : Slot} {z3 : Value} {z4 : Value} {z5 : Value} {s6 : Slot} {s7 : Slot} {s8 : Slot} {s9 : Slot} {s10 : Slot} {s11 : Slot} {s12 : Slot} {s13 : Slot} {s14 : Slot} {v : Addr} (h : One s6) : storeLocals #[.val z0, s1, s2, .val z3, .val z4, .val z5, s6, s7, s8, s9, s10, s11, s12, s13, s14] 6 (.ref v) = some #[.val z0, s1, s2, .val z3, .val z4, .val z5, .val (.ref v), s7, s8, s9, s10, s11, s12, s13, s14] := by
  rcases h with rfl | ⟨w, rfl, hw⟩
  · rfl
  · cases w <;> first | rfl | (simp [Value.category] at hw)
theorem os_s1_0_46 {z0 : Value} {s1 : Slot} {s2 : Slot} {z3 : Value} {z4 : Value} {z5 : Value} {z6 : Value} {s7 : Slot} {s8 : Slot} {s9 : Slot} {s10 : Slot} {s11 : Slot} {s12 : Slot} {s13 : Slot} {s14 : Slot} {v : Addr} (h : One s7) : storeLocals #[.val z0, s1, s2, .val z3, .val z4, .val z5, .val z6, s7, s8, s9, s10, s11, s12, s13, s14] 7 (.ref v) = some #[.val z0, s1, s2, .val z3, .val z4, .val z5, .val z6, .val (.ref v), s8, s9, s10, s11, s12, s13, s14] := by
  rcases h with rfl | ⟨w, rfl, hw⟩
  · rfl
  · cases w <;> first | rfl | (simp [Value.category] at hw)
theorem os_s1_0_55 {z0 : Value} {s1 : Slot} {s2 : Slot} {z3 : Value} {z4 : Value} {z5 : Value} {z6 : Value} {z7 : Value} {s8 : Slot} {s9 : Slot} {s10 : Slot} {s11 : Slot} {s12 : Slot} {s13 : Slot} {s14 : Slot} {v : Addr} (h : One s8) : storeLocals #[.val z0, s1, s2, .val z3, .val z4, .val z5, .val z6, .val z7, s8, s9, s10, s11, s12, s13, s14] 8 (.ref v) = some #[.val z0, s1, s2, .val z3, .val z4, .val z5, .val z6, .val z7, .val (.ref v), s9, s10, s11, s12, s13, s14] := by
  rcases h with rfl | ⟨w, rfl, hw⟩
  · rfl
  · cases w <;> first | rfl | (simp [Value.category] at hw)
set_option maxRecDepth 65536 in
set_option maxHeartbeats 40000000 in
theorem s1 {p : Program} {l : Launch} {e : Env} {s : State} {m : MethodId} {args : Array Value} {below : List Frame} {meth : Method} {c : Code} {T0 : State} {locs : List Loc} {Z : State} {a0 : Array Value} {h0 : Heap} {n0 : Nat} (i0 : Int32) (s1 : Slot) (s2 : Slot) (s3 : Slot) (s4 : Slot) (s5 : Slot) (s6 : Slot) (s7 : Slot) (s8 : Slot) (s9 : Slot) (s10 : Slot) (s11 : Slot) (s12 : Slot) (s13 : Slot) (s14 : Slot) (wD : Addr)
    (X0 : Stand p l e room_1 s m args below meth c T0 locs 0 0) (hx : p.tables.exec = Jvm.exec) (hZ : Z.Warmed39 s.vm) (hw : ∀ d ∈ tables_1, d.before a0 Z = true) (hby : c.code = code) (hml : c.maxLocals = 15) (hown : s.vm.findClass "com/example/bindspire/bindspire/ChoiceChosenPinLaw" = some m.cls) (e0 : T0.heap = h0) (N0 : Fr n0 locs) (Z0 : n0 ≤ h0.size) (Od0 : Old Z n0 h0) (hs3 : One s3) (hs4 : One s4) (hs5 : One s5) (hs6 : One s6) (hs7 : One s7) (hs8 : One s8) (S_DEFAULTCAPACITY_EMPTY_ELEMENTDATA : Sta Z Z.heap "java/util/ArrayList" "DEFAULTCAPACITY_EMPTY_ELEMENTDATA" "[Ljava/lang/Object;" (.ref wD)) :
    ∃ (T' : State) (L' : List Loc) (h' : Heap) (c0 c1 c2 c3 ml : Addr), Stand p l e room_1 s m args below meth c T' L' 5 11 ∧ Fr n0 L' ∧ T'.heap = h' ∧ Old Z n0 h' ∧ n0 ≤ ml ∧ Exa Z h' c0 "com/example/bindspire/bindspire/Overloads$Candidate" ∧ Exa Z h' c1 "com/example/bindspire/bindspire/Overloads$Candidate" ∧ Exa Z h' c2 "com/example/bindspire/bindspire/Overloads$Candidate" ∧ Exa Z h' c3 "com/example/bindspire/bindspire/Overloads$Candidate" ∧ own_L0 Z wD h' ml ∧
      ∀ target, Steps p.tables e below (T'.setTop (mkF m 57 #[.val (.int i0), s1, s2, .val (.int (i0 &&& (3 : Int32))), .val (.ref c0), .val (.ref c1), .val (.ref c2), .val (.ref c3), .val (.ref ml), s9, s10, s11, s12, s13, s14] [])) target → Steps p.tables e below (T0.setTop (mkF m 0 #[.val (.int i0), s1, s2, s3, s4, s5, s6, s7, s8, s9, s10, s11, s12, s13, s14] [])) target := by
  obtain ⟨T1, h1, X1, e1, E1, A1, D1, -, st1⟩ := newO X0 hx hZ hown (hw _ (List.mem_of_getElem? (i := 0) rfl)) (hw _ (List.mem_of_getElem? (i := 1) rfl)) (hw _ (List.mem_of_getElem? (i := 2) rfl)) e0 (g := (mkF m 4 #[.val (.int i0), s1, s2, .val (.int (i0 &&& (3 : Int32))), s4, s5, s6, s7, s8, s9, s10, s11, s12, s13, s14] [])) rfl (hb hby at_4) (by decide) (by decide)
  obtain ⟨b1, g1⟩ : ∃ z, z = h0.size := ⟨_, rfl⟩
  rw [← g1] at A1 D1 st1
  have F_executable_b1 : Fld Z h1 b1 "com/example/bindspire/bindspire/Overloads$Candidate" "executable" "Ljava/lang/reflect/Executable;" .null := D1 (Or.inr (hw _ (List.mem_of_getElem? (i := 15) rfl))) (ty := (.object "java/lang/reflect/Executable")) (by decide)
  have F_parameterTypes_b1 : Fld Z h1 b1 "com/example/bindspire/bindspire/Overloads$Candidate" "parameterTypes" "Ljava/util/List;" .null := D1 (Or.inr (hw _ (List.mem_of_getElem? (i := 17) rfl))) (ty := (.object "java/util/List")) (by decide)
  have E_b1 := A1
  have g_b1 : n0 ≤ b1 := Nat.le_trans Z0 (Nat.le_of_eq g1.symm)
  have sz_b1 : h0.size ≤ b1 := (Nat.le_trans (Keep.refl h0 []).1 (Nat.le_of_eq g1.symm))
  have K1 : Keep h0 h1 [] := (Keep.refl h0 []).ext E1
  have Od1 := Old.ext Od0 E1
  obtain ⟨_, _, ⟨T2, L2, k2, n2⟩, -, X2, ⟨Lc2, hQ2, l2, y2, z2⟩, st2⟩ := X1.specialBack hx (y := (⟨"com/example/bindspire/bindspire/Overloads$Candidate", "<init>", "(Ljava/lang/reflect/Executable;Ljava/util/List;)V"⟩ : MethodName)) rfl hown (mvT hZ (hw _ (List.mem_of_getElem? (i := 3) rfl))) (mvT hZ (hw _ (List.mem_of_getElem? (i := 4) rfl))) (mvT hZ (hw _ (List.mem_of_getElem? (i := 5) rfl))) (by decide) (backOf (W := 1) (rm1 l Z a0 hw [] b1 .null .null h1 n0 (Nat.le_trans Z0 E1.1) E_b1 F_executable_b1 g_b1 F_parameterTypes_b1) hZ (hw _ (List.mem_of_getElem? (i := 5) rfl)) (hw _ (List.mem_of_getElem? (i := 2) rfl)) (by decide) (by decide)) (g := (mkF m 10 #[.val (.int i0), s1, s2, .val (.int (i0 &&& (3 : Int32))), s4, s5, s6, s7, s8, s9, s10, s11, s12, s13, s14] [.null, .null, (.ref b1), (.ref b1)])) rfl (by rw [hml]; rfl) (Steps.refl _) (a := b1) (argsL := [.null, .null]) (rest := [(.ref b1)]) (lenOf pd_0_0 rfl) rfl (by show 2 * 0 + _ ≤ _; exact Nat.le_of_eq rfl) (hb hby at_10) (fun _ _ => ⟨rfl, e1, (by decide : 1 + 0 ≤ _), (by decide : 2 + 0 ≤ _)⟩)
  dsimp only [Pt.U, Pt.locs, Pt.cells, Pt.slots] at X2 l2 y2 z2 st2 hQ2
  subst l2 y2 z2
  obtain ⟨rfl, N2q, K2, E2q⟩ := hQ2
  have N2 := Fr.app N0 N2q
  have KK2 : Keep h0 T2.heap [] := Keep.trans K1 K2 (allS (Or.inr sz_b1) all0)
  have Od2 := Old.keep Od1 K2 (allS (g_b1) all0)
  obtain ⟨T3, h3, X3, e3, E3, A3, D3, -, st3⟩ := newO X2 hx hZ hown (hw _ (List.mem_of_getElem? (i := 0) rfl)) (hw _ (List.mem_of_getElem? (i := 1) rfl)) (hw _ (List.mem_of_getElem? (i := 2) rfl)) rfl (g := (mkF m 15 #[.val (.int i0), s1, s2, .val (.int (i0 &&& (3 : Int32))), .val (.ref b1), s5, s6, s7, s8, s9, s10, s11, s12, s13, s14] [])) rfl (hb hby at_15) (by decide) (by decide)
  obtain ⟨b3, g3⟩ : ∃ z, z = T2.heap.size := ⟨_, rfl⟩
  rw [← g3] at A3 D3 st3
  have F_executable_b3 : Fld Z h3 b3 "com/example/bindspire/bindspire/Overloads$Candidate" "executable" "Ljava/lang/reflect/Executable;" .null := D3 (Or.inr (hw _ (List.mem_of_getElem? (i := 15) rfl))) (ty := (.object "java/lang/reflect/Executable")) (by decide)
  have F_parameterTypes_b3 : Fld Z h3 b3 "com/example/bindspire/bindspire/Overloads$Candidate" "parameterTypes" "Ljava/util/List;" .null := D3 (Or.inr (hw _ (List.mem_of_getElem? (i := 17) rfl))) (ty := (.object "java/util/List")) (by decide)
  have E_b3 := A3
  have g_b3 : n0 ≤ b3 := Nat.le_trans (Nat.le_trans (Nat.le_trans Z0 E1.1) K2.1) (Nat.le_of_eq g3.symm)
  have sz_b3 : h0.size ≤ b3 := (Nat.le_trans KK2.1 (Nat.le_of_eq g3.symm))
  have K3 : Keep h0 h3 [] := KK2.ext E3
  have Od3 := Old.ext Od2 E3
  obtain ⟨_, _, ⟨T4, L4, k4, n4⟩, -, X4, ⟨Lc4, hQ4, l4, y4, z4⟩, st4⟩ := X3.specialBack hx (y := (⟨"com/example/bindspire/bindspire/Overloads$Candidate", "<init>", "(Ljava/lang/reflect/Executable;Ljava/util/List;)V"⟩ : MethodName)) rfl hown (mvT hZ (hw _ (List.mem_of_getElem? (i := 3) rfl))) (mvT hZ (hw _ (List.mem_of_getElem? (i := 4) rfl))) (mvT hZ (hw _ (List.mem_of_getElem? (i := 5) rfl))) (by decide) (backOf (W := 1) (rm1 l Z a0 hw [] b3 .null .null h3 n0 (Nat.le_trans (Nat.le_trans (Nat.le_trans Z0 E1.1) K2.1) E3.1) E_b3 F_executable_b3 g_b3 F_parameterTypes_b3) hZ (hw _ (List.mem_of_getElem? (i := 5) rfl)) (hw _ (List.mem_of_getElem? (i := 2) rfl)) (by decide) (by decide)) (g := (mkF m 21 #[.val (.int i0), s1, s2, .val (.int (i0 &&& (3 : Int32))), .val (.ref b1), s5, s6, s7, s8, s9, s10, s11, s12, s13, s14] [.null, .null, (.ref b3), (.ref b3)])) rfl (by rw [hml]; rfl) (Steps.refl _) (a := b3) (argsL := [.null, .null]) (rest := [(.ref b3)]) (lenOf pd_0_0 rfl) rfl (by show 2 * 0 + _ ≤ _; exact Nat.le_of_eq rfl) (hb hby at_21) (fun _ _ => ⟨rfl, e3, (by decide : 2 + 0 ≤ _), (by decide : 4 + 0 ≤ _)⟩)
  dsimp only [Pt.U, Pt.locs, Pt.cells, Pt.slots] at X4 l4 y4 z4 st4 hQ4
  subst l4 y4 z4
  obtain ⟨rfl, N4q, K4, E4q⟩ := hQ4
  have N4 := Fr.app N2 N4q
  have KK4 : Keep h0 T4.heap [] := Keep.trans K3 K4 (allS (Or.inr sz_b3) all0)
  have Od4 := Old.keep Od3 K4 (allS (g_b3) all0)
  obtain ⟨T5, h5, X5, e5, E5, A5, D5, -, st5⟩ := newO X4 hx hZ hown (hw _ (List.mem_of_getElem? (i := 0) rfl)) (hw _ (List.mem_of_getElem? (i := 1) rfl)) (hw _ (List.mem_of_getElem? (i := 2) rfl)) rfl (g := (mkF m 26 #[.val (.int i0), s1, s2, .val (.int (i0 &&& (3 : Int32))), .val (.ref b1), .val (.ref b3), s6, s7, s8, s9, s10, s11, s12, s13, s14] [])) rfl (hb hby at_26) (by decide) (by decide)
  obtain ⟨b5, g5⟩ : ∃ z, z = T4.heap.size := ⟨_, rfl⟩
  rw [← g5] at A5 D5 st5
  have F_executable_b5 : Fld Z h5 b5 "com/example/bindspire/bindspire/Overloads$Candidate" "executable" "Ljava/lang/reflect/Executable;" .null := D5 (Or.inr (hw _ (List.mem_of_getElem? (i := 15) rfl))) (ty := (.object "java/lang/reflect/Executable")) (by decide)
  have F_parameterTypes_b5 : Fld Z h5 b5 "com/example/bindspire/bindspire/Overloads$Candidate" "parameterTypes" "Ljava/util/List;" .null := D5 (Or.inr (hw _ (List.mem_of_getElem? (i := 17) rfl))) (ty := (.object "java/util/List")) (by decide)
  have E_b5 := A5
  have g_b5 : n0 ≤ b5 := Nat.le_trans (Nat.le_trans (Nat.le_trans (Nat.le_trans (Nat.le_trans Z0 E1.1) K2.1) E3.1) K4.1) (Nat.le_of_eq g5.symm)
  have sz_b5 : h0.size ≤ b5 := (Nat.le_trans KK4.1 (Nat.le_of_eq g5.symm))
  have K5 : Keep h0 h5 [] := KK4.ext E5
  have Od5 := Old.ext Od4 E5
  obtain ⟨_, _, ⟨T6, L6, k6, n6⟩, -, X6, ⟨Lc6, hQ6, l6, y6, z6⟩, st6⟩ := X5.specialBack hx (y := (⟨"com/example/bindspire/bindspire/Overloads$Candidate", "<init>", "(Ljava/lang/reflect/Executable;Ljava/util/List;)V"⟩ : MethodName)) rfl hown (mvT hZ (hw _ (List.mem_of_getElem? (i := 3) rfl))) (mvT hZ (hw _ (List.mem_of_getElem? (i := 4) rfl))) (mvT hZ (hw _ (List.mem_of_getElem? (i := 5) rfl))) (by decide) (backOf (W := 1) (rm1 l Z a0 hw [] b5 .null .null h5 n0 (Nat.le_trans (Nat.le_trans (Nat.le_trans (Nat.le_trans (Nat.le_trans Z0 E1.1) K2.1) E3.1) K4.1) E5.1) E_b5 F_executable_b5 g_b5 F_parameterTypes_b5) hZ (hw _ (List.mem_of_getElem? (i := 5) rfl)) (hw _ (List.mem_of_getElem? (i := 2) rfl)) (by decide) (by decide)) (g := (mkF m 32 #[.val (.int i0), s1, s2, .val (.int (i0 &&& (3 : Int32))), .val (.ref b1), .val (.ref b3), s6, s7, s8, s9, s10, s11, s12, s13, s14] [.null, .null, (.ref b5), (.ref b5)])) rfl (by rw [hml]; rfl) (Steps.refl _) (a := b5) (argsL := [.null, .null]) (rest := [(.ref b5)]) (lenOf pd_0_0 rfl) rfl (by show 2 * 0 + _ ≤ _; exact Nat.le_of_eq rfl) (hb hby at_32) (fun _ _ => ⟨rfl, e5, (by decide : 3 + 0 ≤ _), (by decide : 6 + 0 ≤ _)⟩)
  dsimp only [Pt.U, Pt.locs, Pt.cells, Pt.slots] at X6 l6 y6 z6 st6 hQ6
  subst l6 y6 z6
  obtain ⟨rfl, N6q, K6, E6q⟩ := hQ6
  have N6 := Fr.app N4 N6q
  have KK6 : Keep h0 T6.heap [] := Keep.trans K5 K6 (allS (Or.inr sz_b5) all0)
  have Od6 := Old.keep Od5 K6 (allS (g_b5) all0)
  obtain ⟨T7, h7, X7, e7, E7, A7, D7, -, st7⟩ := newO X6 hx hZ hown (hw _ (List.mem_of_getElem? (i := 0) rfl)) (hw _ (List.mem_of_getElem? (i := 1) rfl)) (hw _ (List.mem_of_getElem? (i := 2) rfl)) rfl (g := (mkF m 37 #[.val (.int i0), s1, s2, .val (.int (i0 &&& (3 : Int32))), .val (.ref b1), .val (.ref b3), .val (.ref b5), s7, s8, s9, s10, s11, s12, s13, s14] [])) rfl (hb hby at_37) (by decide) (by decide)
  obtain ⟨b7, g7⟩ : ∃ z, z = T6.heap.size := ⟨_, rfl⟩
  rw [← g7] at A7 D7 st7
  have F_executable_b7 : Fld Z h7 b7 "com/example/bindspire/bindspire/Overloads$Candidate" "executable" "Ljava/lang/reflect/Executable;" .null := D7 (Or.inr (hw _ (List.mem_of_getElem? (i := 15) rfl))) (ty := (.object "java/lang/reflect/Executable")) (by decide)
  have F_parameterTypes_b7 : Fld Z h7 b7 "com/example/bindspire/bindspire/Overloads$Candidate" "parameterTypes" "Ljava/util/List;" .null := D7 (Or.inr (hw _ (List.mem_of_getElem? (i := 17) rfl))) (ty := (.object "java/util/List")) (by decide)
  have E_b7 := A7
  have g_b7 : n0 ≤ b7 := Nat.le_trans (Nat.le_trans (Nat.le_trans (Nat.le_trans (Nat.le_trans (Nat.le_trans (Nat.le_trans Z0 E1.1) K2.1) E3.1) K4.1) E5.1) K6.1) (Nat.le_of_eq g7.symm)
  have sz_b7 : h0.size ≤ b7 := (Nat.le_trans KK6.1 (Nat.le_of_eq g7.symm))
  have K7 : Keep h0 h7 [] := KK6.ext E7
  have Od7 := Old.ext Od6 E7
  obtain ⟨_, _, ⟨T8, L8, k8, n8⟩, -, X8, ⟨Lc8, hQ8, l8, y8, z8⟩, st8⟩ := X7.specialBack hx (y := (⟨"com/example/bindspire/bindspire/Overloads$Candidate", "<init>", "(Ljava/lang/reflect/Executable;Ljava/util/List;)V"⟩ : MethodName)) rfl hown (mvT hZ (hw _ (List.mem_of_getElem? (i := 3) rfl))) (mvT hZ (hw _ (List.mem_of_getElem? (i := 4) rfl))) (mvT hZ (hw _ (List.mem_of_getElem? (i := 5) rfl))) (by decide) (backOf (W := 1) (rm1 l Z a0 hw [] b7 .null .null h7 n0 (Nat.le_trans (Nat.le_trans (Nat.le_trans (Nat.le_trans (Nat.le_trans (Nat.le_trans (Nat.le_trans Z0 E1.1) K2.1) E3.1) K4.1) E5.1) K6.1) E7.1) E_b7 F_executable_b7 g_b7 F_parameterTypes_b7) hZ (hw _ (List.mem_of_getElem? (i := 5) rfl)) (hw _ (List.mem_of_getElem? (i := 2) rfl)) (by decide) (by decide)) (g := (mkF m 43 #[.val (.int i0), s1, s2, .val (.int (i0 &&& (3 : Int32))), .val (.ref b1), .val (.ref b3), .val (.ref b5), s7, s8, s9, s10, s11, s12, s13, s14] [.null, .null, (.ref b7), (.ref b7)])) rfl (by rw [hml]; rfl) (Steps.refl _) (a := b7) (argsL := [.null, .null]) (rest := [(.ref b7)]) (lenOf pd_0_0 rfl) rfl (by show 2 * 0 + _ ≤ _; exact Nat.le_of_eq rfl) (hb hby at_43) (fun _ _ => ⟨rfl, e7, (by decide : 4 + 0 ≤ _), (by decide : 8 + 0 ≤ _)⟩)
  dsimp only [Pt.U, Pt.locs, Pt.cells, Pt.slots] at X8 l8 y8 z8 st8 hQ8
  subst l8 y8 z8
  obtain ⟨rfl, N8q, K8, E8q⟩ := hQ8
  have N8 := Fr.app N6 N8q
  have KK8 : Keep h0 T8.heap [] := Keep.trans K7 K8 (allS (Or.inr sz_b7) all0)
  have Od8 := Old.keep Od7 K8 (allS (g_b7) all0)
  obtain ⟨T9, h9, X9, e9, E9, A9, D9, -, st9⟩ := newO X8 hx hZ hown (hw _ (List.mem_of_getElem? (i := 18) rfl)) (hw _ (List.mem_of_getElem? (i := 19) rfl)) (hw _ (List.mem_of_getElem? (i := 20) rfl)) rfl (g := (mkF m 48 #[.val (.int i0), s1, s2, .val (.int (i0 &&& (3 : Int32))), .val (.ref b1), .val (.ref b3), .val (.ref b5), .val (.ref b7), s8, s9, s10, s11, s12, s13, s14] [])) rfl (hb hby at_48) (by decide) (by decide)
  obtain ⟨b9, g9⟩ : ∃ z, z = T8.heap.size := ⟨_, rfl⟩
  rw [← g9] at A9 D9 st9
  have F_modCount_b9 : Fld Z h9 b9 "java/util/AbstractList" "modCount" "I" (.int (0 : Int32)) := D9 (Or.inl (hw _ (List.mem_of_getElem? (i := 38) rfl))) (ty := .int) (by decide)
  have F_elementData_b9 : Fld Z h9 b9 "java/util/ArrayList" "elementData" "[Ljava/lang/Object;" .null := D9 (Or.inl (hw _ (List.mem_of_getElem? (i := 41) rfl))) (ty := (.array (.object "java/lang/Object"))) (by decide)
  have F_size_b9 : Fld Z h9 b9 "java/util/ArrayList" "size" "I" (.int (0 : Int32)) := D9 (Or.inl (hw _ (List.mem_of_getElem? (i := 54) rfl))) (ty := .int) (by decide)
  have E_b9 := A9
  have g_b9 : n0 ≤ b9 := Nat.le_trans (Nat.le_trans (Nat.le_trans (Nat.le_trans (Nat.le_trans (Nat.le_trans (Nat.le_trans (Nat.le_trans (Nat.le_trans Z0 E1.1) K2.1) E3.1) K4.1) E5.1) K6.1) E7.1) K8.1) (Nat.le_of_eq g9.symm)
  have sz_b9 : h0.size ≤ b9 := (Nat.le_trans KK8.1 (Nat.le_of_eq g9.symm))
  have K9 : Keep h0 h9 [] := KK8.ext E9
  have Od9 := Old.ext Od8 E9
  obtain ⟨_, _, ⟨T10, L10, k10, n10⟩, -, X10, ⟨Lc10, hQ10, l10, y10, z10⟩, st10⟩ := X9.specialBack hx (y := (⟨"java/util/ArrayList", "<init>", "()V"⟩ : MethodName)) rfl hown (mvT hZ (hw _ (List.mem_of_getElem? (i := 21) rfl))) (mvT hZ (hw _ (List.mem_of_getElem? (i := 22) rfl))) (mvT hZ (hw _ (List.mem_of_getElem? (i := 23) rfl))) (by decide) (backOf (W := 1) (rm4 l Z a0 hw [] b9 wD (.int (0 : Int32)) h9 n0 (Nat.le_trans (Nat.le_trans (Nat.le_trans (Nat.le_trans (Nat.le_trans (Nat.le_trans (Nat.le_trans (Nat.le_trans (Nat.le_trans Z0 E1.1) K2.1) E3.1) K4.1) E5.1) K6.1) E7.1) K8.1) E9.1) Od9 E_b9 F_modCount_b9 F_size_b9 F_elementData_b9 S_DEFAULTCAPACITY_EMPTY_ELEMENTDATA g_b9) hZ (hw _ (List.mem_of_getElem? (i := 23) rfl)) (hw _ (List.mem_of_getElem? (i := 20) rfl)) (by decide) (by decide)) (g := (mkF m 52 #[.val (.int i0), s1, s2, .val (.int (i0 &&& (3 : Int32))), .val (.ref b1), .val (.ref b3), .val (.ref b5), .val (.ref b7), s8, s9, s10, s11, s12, s13, s14] [(.ref b9), (.ref b9)])) rfl (by rw [hml]; rfl) (Steps.refl _) (a := b9) (argsL := []) (rest := [(.ref b9)]) (lenOf pd_0_1 rfl) rfl (by show 2 * 0 + _ ≤ _; exact Nat.le_of_eq rfl) (hb hby at_52) (fun _ _ => ⟨rfl, e9, (by decide : 5 + 0 ≤ _), (by decide : 11 + 0 ≤ _)⟩)
  dsimp only [Pt.U, Pt.locs, Pt.cells, Pt.slots] at X10 l10 y10 z10 st10 hQ10
  subst l10 y10 z10
  obtain ⟨rfl, N10q, K10, LL10⟩ := hQ10
  have N10 := Fr.app N8 N10q
  have KK10 : Keep h0 T10.heap [] := Keep.trans K9 K10 (allS (Or.inr sz_b9) all0)
  have Od10 := Old.keep Od9 K10 (allS (g_b9) all0)
  refine ⟨T10, _, _, b1, b3, b5, b7, b9, X10, N10, rfl, Od10, g_b9, ((((((((E2q.ext E3).keep K4).ext E5).keep K6).ext E7).keep K8).ext E9).keep K10), ((((((E4q.ext E5).keep K6).ext E7).keep K8).ext E9).keep K10), ((((E6q.ext E7).keep K8).ext E9).keep K10), ((E8q.ext E9).keep K10), LL10, fun target kt => ?_⟩
  show Steps p.tables e below (T0.setTop (mkF m 0 #[.val (.int i0), s1, s2, s3, s4, s5, s6, s7, s8, s9, s10, s11, s12, s13, s14] [])) _
  refine XS.iloadN X0.here hx rfl (hb hby at_0) rfl ?_
  show Steps p.tables e below (T0.setTop (mkF m 1 #[.val (.int i0), s1, s2, s3, s4, s5, s6, s7, s8, s9, s10, s11, s12, s13, s14] [(.int i0)])) _
  refine XS.iconst X0.here hx rfl (hb hby at_1) ?_
  show Steps p.tables e below (T0.setTop (mkF m 2 #[.val (.int i0), s1, s2, s3, s4, s5, s6, s7, s8, s9, s10, s11, s12, s13, s14] [(.int (3 : Int32)), (.int i0)])) _
  refine XS.iand X0.here hx rfl (hb hby at_2) rfl ?_
  show Steps p.tables e below (T0.setTop (mkF m 3 #[.val (.int i0), s1, s2, s3, s4, s5, s6, s7, s8, s9, s10, s11, s12, s13, s14] [(.int (i0 &&& (3 : Int32)))])) _
  refine XS.istoreN X0.here hx rfl (hb hby at_3) rfl (l' := #[.val (.int i0), s1, s2, .val (.int (i0 &&& (3 : Int32))), s4, s5, s6, s7, s8, s9, s10, s11, s12, s13, s14]) (os_s1_0_3 hs3) ?_
  show Steps p.tables e below (T0.setTop (mkF m 4 #[.val (.int i0), s1, s2, .val (.int (i0 &&& (3 : Int32))), s4, s5, s6, s7, s8, s9, s10, s11, s12, s13, s14] [])) _
  refine st1 _ ?_
  show Steps p.tables e below (T1.setTop (mkF m 7 #[.val (.int i0), s1, s2, .val (.int (i0 &&& (3 : Int32))), s4, s5, s6, s7, s8, s9, s10, s11, s12, s13, s14] [(.ref b1)])) _
  refine XS.dup X1.here hx rfl (hb hby at_7) rfl rfl ?_
  show Steps p.tables e below (T1.setTop (mkF m 8 #[.val (.int i0), s1, s2, .val (.int (i0 &&& (3 : Int32))), s4, s5, s6, s7, s8, s9, s10, s11, s12, s13, s14] [(.ref b1), (.ref b1)])) _
  refine XS.aconstNull X1.here hx rfl (hb hby at_8) ?_
  show Steps p.tables e below (T1.setTop (mkF m 9 #[.val (.int i0), s1, s2, .val (.int (i0 &&& (3 : Int32))), s4, s5, s6, s7, s8, s9, s10, s11, s12, s13, s14] [.null, (.ref b1), (.ref b1)])) _
  refine XS.aconstNull X1.here hx rfl (hb hby at_9) ?_
  show Steps p.tables e below (T1.setTop (mkF m 10 #[.val (.int i0), s1, s2, .val (.int (i0 &&& (3 : Int32))), s4, s5, s6, s7, s8, s9, s10, s11, s12, s13, s14] [.null, .null, (.ref b1), (.ref b1)])) _
  refine st2.trans ?_
  show Steps p.tables e below (T2.setTop (mkF m 13 #[.val (.int i0), s1, s2, .val (.int (i0 &&& (3 : Int32))), s4, s5, s6, s7, s8, s9, s10, s11, s12, s13, s14] [(.ref b1)])) _
  refine XS.astore X2.here hx rfl (hb hby at_13) rfl rfl (l' := #[.val (.int i0), s1, s2, .val (.int (i0 &&& (3 : Int32))), .val (.ref b1), s5, s6, s7, s8, s9, s10, s11, s12, s13, s14]) (os_s1_0_13 hs4) ?_
  show Steps p.tables e below (T2.setTop (mkF m 15 #[.val (.int i0), s1, s2, .val (.int (i0 &&& (3 : Int32))), .val (.ref b1), s5, s6, s7, s8, s9, s10, s11, s12, s13, s14] [])) _
  refine st3 _ ?_
  show Steps p.tables e below (T3.setTop (mkF m 18 #[.val (.int i0), s1, s2, .val (.int (i0 &&& (3 : Int32))), .val (.ref b1), s5, s6, s7, s8, s9, s10, s11, s12, s13, s14] [(.ref b3)])) _
  refine XS.dup X3.here hx rfl (hb hby at_18) rfl rfl ?_
  show Steps p.tables e below (T3.setTop (mkF m 19 #[.val (.int i0), s1, s2, .val (.int (i0 &&& (3 : Int32))), .val (.ref b1), s5, s6, s7, s8, s9, s10, s11, s12, s13, s14] [(.ref b3), (.ref b3)])) _
  refine XS.aconstNull X3.here hx rfl (hb hby at_19) ?_
  show Steps p.tables e below (T3.setTop (mkF m 20 #[.val (.int i0), s1, s2, .val (.int (i0 &&& (3 : Int32))), .val (.ref b1), s5, s6, s7, s8, s9, s10, s11, s12, s13, s14] [.null, (.ref b3), (.ref b3)])) _
  refine XS.aconstNull X3.here hx rfl (hb hby at_20) ?_
  show Steps p.tables e below (T3.setTop (mkF m 21 #[.val (.int i0), s1, s2, .val (.int (i0 &&& (3 : Int32))), .val (.ref b1), s5, s6, s7, s8, s9, s10, s11, s12, s13, s14] [.null, .null, (.ref b3), (.ref b3)])) _
  refine st4.trans ?_
  show Steps p.tables e below (T4.setTop (mkF m 24 #[.val (.int i0), s1, s2, .val (.int (i0 &&& (3 : Int32))), .val (.ref b1), s5, s6, s7, s8, s9, s10, s11, s12, s13, s14] [(.ref b3)])) _
  refine XS.astore X4.here hx rfl (hb hby at_24) rfl rfl (l' := #[.val (.int i0), s1, s2, .val (.int (i0 &&& (3 : Int32))), .val (.ref b1), .val (.ref b3), s6, s7, s8, s9, s10, s11, s12, s13, s14]) (os_s1_0_24 hs5) ?_
  show Steps p.tables e below (T4.setTop (mkF m 26 #[.val (.int i0), s1, s2, .val (.int (i0 &&& (3 : Int32))), .val (.ref b1), .val (.ref b3), s6, s7, s8, s9, s10, s11, s12, s13, s14] [])) _
  refine st5 _ ?_
  show Steps p.tables e below (T5.setTop (mkF m 29 #[.val (.int i0), s1, s2, .val (.int (i0 &&& (3 : Int32))), .val (.ref b1), .val (.ref b3), s6, s7, s8, s9, s10, s11, s12, s13, s14] [(.ref b5)])) _
  refine XS.dup X5.here hx rfl (hb hby at_29) rfl rfl ?_
  show Steps p.tables e below (T5.setTop (mkF m 30 #[.val (.int i0), s1, s2, .val (.int (i0 &&& (3 : Int32))), .val (.ref b1), .val (.ref b3), s6, s7, s8, s9, s10, s11, s12, s13, s14] [(.ref b5), (.ref b5)])) _
  refine XS.aconstNull X5.here hx rfl (hb hby at_30) ?_
  show Steps p.tables e below (T5.setTop (mkF m 31 #[.val (.int i0), s1, s2, .val (.int (i0 &&& (3 : Int32))), .val (.ref b1), .val (.ref b3), s6, s7, s8, s9, s10, s11, s12, s13, s14] [.null, (.ref b5), (.ref b5)])) _
  refine XS.aconstNull X5.here hx rfl (hb hby at_31) ?_
  show Steps p.tables e below (T5.setTop (mkF m 32 #[.val (.int i0), s1, s2, .val (.int (i0 &&& (3 : Int32))), .val (.ref b1), .val (.ref b3), s6, s7, s8, s9, s10, s11, s12, s13, s14] [.null, .null, (.ref b5), (.ref b5)])) _
  refine st6.trans ?_
  show Steps p.tables e below (T6.setTop (mkF m 35 #[.val (.int i0), s1, s2, .val (.int (i0 &&& (3 : Int32))), .val (.ref b1), .val (.ref b3), s6, s7, s8, s9, s10, s11, s12, s13, s14] [(.ref b5)])) _
  refine XS.astore X6.here hx rfl (hb hby at_35) rfl rfl (l' := #[.val (.int i0), s1, s2, .val (.int (i0 &&& (3 : Int32))), .val (.ref b1), .val (.ref b3), .val (.ref b5), s7, s8, s9, s10, s11, s12, s13, s14]) (os_s1_0_35 hs6) ?_
  show Steps p.tables e below (T6.setTop (mkF m 37 #[.val (.int i0), s1, s2, .val (.int (i0 &&& (3 : Int32))), .val (.ref b1), .val (.ref b3), .val (.ref b5), s7, s8, s9, s10, s11, s12, s13, s14] [])) _
  refine st7 _ ?_
  show Steps p.tables e below (T7.setTop (mkF m 40 #[.val (.int i0), s1, s2, .val (.int (i0 &&& (3 : Int32))), .val (.ref b1), .val (.ref b3), .val (.ref b5), s7, s8, s9, s10, s11, s12, s13, s14] [(.ref b7)])) _
  refine XS.dup X7.here hx rfl (hb hby at_40) rfl rfl ?_
  show Steps p.tables e below (T7.setTop (mkF m 41 #[.val (.int i0), s1, s2, .val (.int (i0 &&& (3 : Int32))), .val (.ref b1), .val (.ref b3), .val (.ref b5), s7, s8, s9, s10, s11, s12, s13, s14] [(.ref b7), (.ref b7)])) _
  refine XS.aconstNull X7.here hx rfl (hb hby at_41) ?_
  show Steps p.tables e below (T7.setTop (mkF m 42 #[.val (.int i0), s1, s2, .val (.int (i0 &&& (3 : Int32))), .val (.ref b1), .val (.ref b3), .val (.ref b5), s7, s8, s9, s10, s11, s12, s13, s14] [.null, (.ref b7), (.ref b7)])) _
  refine XS.aconstNull X7.here hx rfl (hb hby at_42) ?_
  show Steps p.tables e below (T7.setTop (mkF m 43 #[.val (.int i0), s1, s2, .val (.int (i0 &&& (3 : Int32))), .val (.ref b1), .val (.ref b3), .val (.ref b5), s7, s8, s9, s10, s11, s12, s13, s14] [.null, .null, (.ref b7), (.ref b7)])) _
  refine st8.trans ?_
  show Steps p.tables e below (T8.setTop (mkF m 46 #[.val (.int i0), s1, s2, .val (.int (i0 &&& (3 : Int32))), .val (.ref b1), .val (.ref b3), .val (.ref b5), s7, s8, s9, s10, s11, s12, s13, s14] [(.ref b7)])) _
  refine XS.astore X8.here hx rfl (hb hby at_46) rfl rfl (l' := #[.val (.int i0), s1, s2, .val (.int (i0 &&& (3 : Int32))), .val (.ref b1), .val (.ref b3), .val (.ref b5), .val (.ref b7), s8, s9, s10, s11, s12, s13, s14]) (os_s1_0_46 hs7) ?_
  show Steps p.tables e below (T8.setTop (mkF m 48 #[.val (.int i0), s1, s2, .val (.int (i0 &&& (3 : Int32))), .val (.ref b1), .val (.ref b3), .val (.ref b5), .val (.ref b7), s8, s9, s10, s11, s12, s13, s14] [])) _
  refine st9 _ ?_
  show Steps p.tables e below (T9.setTop (mkF m 51 #[.val (.int i0), s1, s2, .val (.int (i0 &&& (3 : Int32))), .val (.ref b1), .val (.ref b3), .val (.ref b5), .val (.ref b7), s8, s9, s10, s11, s12, s13, s14] [(.ref b9)])) _
  refine XS.dup X9.here hx rfl (hb hby at_51) rfl rfl ?_
  show Steps p.tables e below (T9.setTop (mkF m 52 #[.val (.int i0), s1, s2, .val (.int (i0 &&& (3 : Int32))), .val (.ref b1), .val (.ref b3), .val (.ref b5), .val (.ref b7), s8, s9, s10, s11, s12, s13, s14] [(.ref b9), (.ref b9)])) _
  refine st10.trans ?_
  show Steps p.tables e below (T10.setTop (mkF m 55 #[.val (.int i0), s1, s2, .val (.int (i0 &&& (3 : Int32))), .val (.ref b1), .val (.ref b3), .val (.ref b5), .val (.ref b7), s8, s9, s10, s11, s12, s13, s14] [(.ref b9)])) _
  refine XS.astore X10.here hx rfl (hb hby at_55) rfl rfl (l' := #[.val (.int i0), s1, s2, .val (.int (i0 &&& (3 : Int32))), .val (.ref b1), .val (.ref b3), .val (.ref b5), .val (.ref b7), .val (.ref b9), s9, s10, s11, s12, s13, s14]) (os_s1_0_55 hs8) ?_
  exact kt

theorem pd_0_2 : parseMethodDescriptor "(Ljava/lang/Object;)Z" = some ⟨[(.object "java/lang/Object")], some .boolean⟩ := by decide +kernel
set_option maxRecDepth 65536 in
set_option maxHeartbeats 40000000 in
theorem s2_1 {p : Program} {l : Launch} {e : Env} {s : State} {m : MethodId} {args : Array Value} {below : List Frame} {meth : Method} {c : Code} {T0 : State} {locs : List Loc} {Z : State} {a0 : Array Value} {h0 : Heap} {n0 : Nat} (s0 : Slot) (s1 : Slot) (s2 : Slot) (i3 : Int32) (o4 : Addr) (s5 : Slot) (s6 : Slot) (s7 : Slot) (o8 : Addr) (s9 : Slot) (s10 : Slot) (s11 : Slot) (s12 : Slot) (s13 : Slot) (s14 : Slot) (mc : Int32) (wD : Addr) (cl_wD : Cell)
    (X0 : Stand p l e room_1 s m args below meth c T0 locs 5 11) (hx : p.tables.exec = Jvm.exec) (hZ : Z.Warmed39 s.vm) (hw : ∀ d ∈ tables_1, d.before a0 Z = true) (hby : c.code = code) (hml : c.maxLocals = 15) (hown : s.vm.findClass "com/example/bindspire/bindspire/ChoiceChosenPinLaw" = some m.cls) (e0 : T0.heap = h0) (N0 : Fr n0 locs) (Z0 : n0 ≤ h0.size) (Od0 : Old Z n0 h0) (E_o8 : Exa Z h0 o8 "java/util/ArrayList") (E_o4 : Exa Z h0 o4 "com/example/bindspire/bindspire/Overloads$Candidate") (F_modCount_o8 : Fld Z h0 o8 "java/util/AbstractList" "modCount" "I" (.int mc)) (F_size_o8 : Fld Z h0 o8 "java/util/ArrayList" "size" "I" (.int (0 : Int32))) (F_elementData_o8 : Fld Z h0 o8 "java/util/ArrayList" "elementData" "[Ljava/lang/Object;" (.ref wD)) (S_DEFAULTCAPACITY_EMPTY_ELEMENTDATA : Sta Z Z.heap "java/util/ArrayList" "DEFAULTCAPACITY_EMPTY_ELEMENTDATA" "[Ljava/lang/Object;" (.ref wD)) (Ar_wD : Arr Z Z.heap wD cl_wD (.object "java/lang/Object")) (S_wD : cl_wD.slots.size = (0 : Int32).toNatClampNeg) (g_o8 : n0 ≤ o8) (hn3 : i3 = (1 : Int32)) (hc59 : ¬ (i3 < (1 : Int32))) (hc74 : i3 < (2 : Int32)) (hc89 : i3 < (3 : Int32)) :
    ∃ (T' : State) (L' : List Loc) (h' : Heap), Stand p l e room_1 s m args below meth c T' L' 6 21 ∧ Fr n0 L' ∧ T'.heap = h' ∧ Old Z n0 h' ∧ Keep h0 h' [o8] ∧ own_M Z h' o8 o4 i3 ∧
      ∀ target, Steps p.tables e below (T'.setTop (mkF m 102 #[s0, s1, s2, .val (.int i3), .val (.ref o4), s5, s6, s7, .val (.ref o8), s9, s10, s11, s12, s13, s14] [])) target → Steps p.tables e below (T0.setTop (mkF m 57 #[s0, s1, s2, .val (.int i3), .val (.ref o4), s5, s6, s7, .val (.ref o8), s9, s10, s11, s12, s13, s14] [])) target := by
  obtain ⟨cq1, kq1, q1a, q1b, q1c⟩ := isOf hZ e0 E_o8
  obtain ⟨_, _, ⟨T1, L1, k1, n1⟩, -, X1, ⟨Lc1, hQ1, l1, y1, z1⟩, st1⟩ := X0.interfaceBack hx (xi := (⟨"java/util/List", "add", "(Ljava/lang/Object;)Z"⟩ : MethodName)) (y := (⟨"java/util/ArrayList", "add", "(Ljava/lang/Object;)Z"⟩ : MethodName)) hown (mvT hZ (hw _ (List.mem_of_getElem? (i := 42) rfl))) (mvT hZ (hw _ (List.mem_of_getElem? (i := 43) rfl))) (mvT hZ (hw _ (List.mem_of_getElem? (i := 44) rfl))) (mvT hZ (hw _ (List.mem_of_getElem? (i := 45) rfl))) (mvT hZ (hw _ (List.mem_of_getElem? (i := 46) rfl))) (mvT hZ (hw _ (List.mem_of_getElem? (i := 47) rfl))) (mvT hZ (hw _ (List.mem_of_getElem? (i := 48) rfl))) (mvT hZ (hw _ (List.mem_of_getElem? (i := 49) rfl))) (by decide) (backOf (W := 0) (rm7_g l Z a0 hw [] o8 o4 mc wD cl_wD h0 n0 Z0 Od0 E_o8 E_o4 F_modCount_o8 F_size_o8 F_elementData_o8 g_o8 S_DEFAULTCAPACITY_EMPTY_ELEMENTDATA (Ar_wD.ext Od0.2) S_wD) hZ (hw _ (List.mem_of_getElem? (i := 50) rfl)) (hw _ (List.mem_of_getElem? (i := 20) rfl)) (by decide) (by decide)) q1a q1b q1c (g := (mkF m 66 #[s0, s1, s2, .val (.int i3), .val (.ref o4), s5, s6, s7, .val (.ref o8), s9, s10, s11, s12, s13, s14] [(.ref o4), (.ref o8)])) rfl (by rw [hml]; rfl) (Steps.refl _) (argsL := [(.ref o4)]) (rest := []) (lenOf pd_0_2 rfl) rfl (by show 2 * 0 + _ ≤ _; exact Nat.le_of_eq rfl) (hb hby at_66) (fun _ _ => ⟨rfl, e0, (by decide : 5 + 1 ≤ _), (by decide : 11 + 10 ≤ _)⟩)
  dsimp only [Pt.U, Pt.locs, Pt.cells, Pt.slots] at X1 l1 y1 z1 st1 hQ1
  subst l1 y1 z1
  obtain ⟨b1, rfl, N1q, K1, hz1, E1q, ⟨mc1, Fm1⟩, Fs1, Fe1, kc1, Ov1, V1q⟩ := hQ1
  have N1 := Fr.app N0 N1q
  have g_b1 : n0 ≤ b1 := Nat.le_trans Z0 hz1
  have sz_b1 : h0.size ≤ b1 := Nat.le_trans (Keep.refl h0 [o8]).1 hz1
  have KK1 : Keep h0 T1.heap [o8] := Keep.trans (Keep.refl h0 [o8]) K1 (allS (Or.inl (List.mem_of_getElem? (i := 0) rfl)) all0)
  have Od1 := Old.keep Od0 K1 (allS (g_o8) all0)
  refine ⟨T1, _, _, X1, N1, rfl, Od1, KK1, ⟨E1q, (by rw [show i3 = ((0 : Int32) + (1 : Int32)) from hn3.trans (by decide)]; exact Fs1), fun _ => ⟨b1, kc1, _, Fe1, V1q, rfl⟩⟩, fun target kt => ?_⟩
  show Steps p.tables e below (T0.setTop (mkF m 57 #[s0, s1, s2, .val (.int i3), .val (.ref o4), s5, s6, s7, .val (.ref o8), s9, s10, s11, s12, s13, s14] [])) _
  refine XS.iloadN X0.here hx rfl (hb hby at_57) rfl ?_
  show Steps p.tables e below (T0.setTop (mkF m 58 #[s0, s1, s2, .val (.int i3), .val (.ref o4), s5, s6, s7, .val (.ref o8), s9, s10, s11, s12, s13, s14] [(.int i3)])) _
  refine XS.iconst X0.here hx rfl (hb hby at_58) ?_
  show Steps p.tables e below (T0.setTop (mkF m 59 #[s0, s1, s2, .val (.int i3), .val (.ref o4), s5, s6, s7, .val (.ref o8), s9, s10, s11, s12, s13, s14] [(.int (1 : Int32)), (.int i3)])) _
  refine XS.icmpNo X0.here hx rfl (hb hby at_59) rfl (flt hc59).1 ?_
  show Steps p.tables e below (T0.setTop (mkF m 62 #[s0, s1, s2, .val (.int i3), .val (.ref o4), s5, s6, s7, .val (.ref o8), s9, s10, s11, s12, s13, s14] [])) _
  refine XS.aload X0.here hx rfl (hb hby at_62) rfl rfl ?_
  show Steps p.tables e below (T0.setTop (mkF m 64 #[s0, s1, s2, .val (.int i3), .val (.ref o4), s5, s6, s7, .val (.ref o8), s9, s10, s11, s12, s13, s14] [(.ref o8)])) _
  refine XS.aload X0.here hx rfl (hb hby at_64) rfl rfl ?_
  show Steps p.tables e below (T0.setTop (mkF m 66 #[s0, s1, s2, .val (.int i3), .val (.ref o4), s5, s6, s7, .val (.ref o8), s9, s10, s11, s12, s13, s14] [(.ref o4), (.ref o8)])) _
  refine st1.trans ?_
  show Steps p.tables e below (T1.setTop (mkF m 71 #[s0, s1, s2, .val (.int i3), .val (.ref o4), s5, s6, s7, .val (.ref o8), s9, s10, s11, s12, s13, s14] [(.int (1 : Int32))])) _
  refine XS.pop X1.here hx rfl (hb hby at_71) rfl rfl ?_
  show Steps p.tables e below (T1.setTop (mkF m 72 #[s0, s1, s2, .val (.int i3), .val (.ref o4), s5, s6, s7, .val (.ref o8), s9, s10, s11, s12, s13, s14] [])) _
  refine XS.iloadN X1.here hx rfl (hb hby at_72) rfl ?_
  show Steps p.tables e below (T1.setTop (mkF m 73 #[s0, s1, s2, .val (.int i3), .val (.ref o4), s5, s6, s7, .val (.ref o8), s9, s10, s11, s12, s13, s14] [(.int i3)])) _
  refine XS.iconst X1.here hx rfl (hb hby at_73) ?_
  show Steps p.tables e below (T1.setTop (mkF m 74 #[s0, s1, s2, .val (.int i3), .val (.ref o4), s5, s6, s7, .val (.ref o8), s9, s10, s11, s12, s13, s14] [(.int (2 : Int32)), (.int i3)])) _
  refine XS.icmpYes X1.here hx rfl (pc0 := 74) (pc' := 87) rfl (hb hby at_74) rfl (tlt hc74).1 (by decide) (by decide) ?_
  show Steps p.tables e below (T1.setTop (mkF m 87 #[s0, s1, s2, .val (.int i3), .val (.ref o4), s5, s6, s7, .val (.ref o8), s9, s10, s11, s12, s13, s14] [])) _
  refine XS.iloadN X1.here hx rfl (hb hby at_87) rfl ?_
  show Steps p.tables e below (T1.setTop (mkF m 88 #[s0, s1, s2, .val (.int i3), .val (.ref o4), s5, s6, s7, .val (.ref o8), s9, s10, s11, s12, s13, s14] [(.int i3)])) _
  refine XS.iconst X1.here hx rfl (hb hby at_88) ?_
  show Steps p.tables e below (T1.setTop (mkF m 89 #[s0, s1, s2, .val (.int i3), .val (.ref o4), s5, s6, s7, .val (.ref o8), s9, s10, s11, s12, s13, s14] [(.int (3 : Int32)), (.int i3)])) _
  refine XS.icmpYes X1.here hx rfl (pc0 := 89) (pc' := 102) rfl (hb hby at_89) rfl (tlt hc89).1 (by decide) (by decide) ?_
  exact kt

set_option maxRecDepth 65536 in
set_option maxHeartbeats 40000000 in
theorem s2_2 {p : Program} {l : Launch} {e : Env} {s : State} {m : MethodId} {args : Array Value} {below : List Frame} {meth : Method} {c : Code} {T0 : State} {locs : List Loc} {Z : State} {a0 : Array Value} {h0 : Heap} {n0 : Nat} (s0 : Slot) (s1 : Slot) (s2 : Slot) (i3 : Int32) (o4 : Addr) (o5 : Addr) (s6 : Slot) (s7 : Slot) (o8 : Addr) (s9 : Slot) (s10 : Slot) (s11 : Slot) (s12 : Slot) (s13 : Slot) (s14 : Slot) (mc : Int32) (wD : Addr) (cl_wD : Cell)
    (X0 : Stand p l e room_1 s m args below meth c T0 locs 5 11) (hx : p.tables.exec = Jvm.exec) (hZ : Z.Warmed39 s.vm) (hw : ∀ d ∈ tables_1, d.before a0 Z = true) (hby : c.code = code) (hml : c.maxLocals = 15) (hown : s.vm.findClass "com/example/bindspire/bindspire/ChoiceChosenPinLaw" = some m.cls) (e0 : T0.heap = h0) (N0 : Fr n0 locs) (Z0 : n0 ≤ h0.size) (Od0 : Old Z n0 h0) (E_o8 : Exa Z h0 o8 "java/util/ArrayList") (E_o4 : Exa Z h0 o4 "com/example/bindspire/bindspire/Overloads$Candidate") (E_o5 : Exa Z h0 o5 "com/example/bindspire/bindspire/Overloads$Candidate") (F_modCount_o8 : Fld Z h0 o8 "java/util/AbstractList" "modCount" "I" (.int mc)) (F_size_o8 : Fld Z h0 o8 "java/util/ArrayList" "size" "I" (.int (0 : Int32))) (F_elementData_o8 : Fld Z h0 o8 "java/util/ArrayList" "elementData" "[Ljava/lang/Object;" (.ref wD)) (S_DEFAULTCAPACITY_EMPTY_ELEMENTDATA : Sta Z Z.heap "java/util/ArrayList" "DEFAULTCAPACITY_EMPTY_ELEMENTDATA" "[Ljava/lang/Object;" (.ref wD)) (Ar_wD : Arr Z Z.heap wD cl_wD (.object "java/lang/Object")) (S_wD : cl_wD.slots.size = (0 : Int32).toNatClampNeg) (g_o8 : n0 ≤ o8) (hn3 : i3 = (2 : Int32)) (hc59 : ¬ (i3 < (1 : Int32))) (hc74 : ¬ (i3 < (2 : Int32))) (hc89 : i3 < (3 : Int32)) :
    ∃ (T' : State) (L' : List Loc) (h' : Heap), Stand p l e room_1 s m args below meth c T' L' 6 21 ∧ Fr n0 L' ∧ T'.heap = h' ∧ Old Z n0 h' ∧ Keep h0 h' [o8] ∧ own_M Z h' o8 o4 i3 ∧
      ∀ target, Steps p.tables e below (T'.setTop (mkF m 102 #[s0, s1, s2, .val (.int i3), .val (.ref o4), .val (.ref o5), s6, s7, .val (.ref o8), s9, s10, s11, s12, s13, s14] [])) target → Steps p.tables e below (T0.setTop (mkF m 57 #[s0, s1, s2, .val (.int i3), .val (.ref o4), .val (.ref o5), s6, s7, .val (.ref o8), s9, s10, s11, s12, s13, s14] [])) target := by
  obtain ⟨cq1, kq1, q1a, q1b, q1c⟩ := isOf hZ e0 E_o8
  obtain ⟨_, _, ⟨T1, L1, k1, n1⟩, -, X1, ⟨Lc1, hQ1, l1, y1, z1⟩, st1⟩ := X0.interfaceBack hx (xi := (⟨"java/util/List", "add", "(Ljava/lang/Object;)Z"⟩ : MethodName)) (y := (⟨"java/util/ArrayList", "add", "(Ljava/lang/Object;)Z"⟩ : MethodName)) hown (mvT hZ (hw _ (List.mem_of_getElem? (i := 42) rfl))) (mvT hZ (hw _ (List.mem_of_getElem? (i := 43) rfl))) (mvT hZ (hw _ (List.mem_of_getElem? (i := 44) rfl))) (mvT hZ (hw _ (List.mem_of_getElem? (i := 45) rfl))) (mvT hZ (hw _ (List.mem_of_getElem? (i := 46) rfl))) (mvT hZ (hw _ (List.mem_of_getElem? (i := 47) rfl))) (mvT hZ (hw _ (List.mem_of_getElem? (i := 48) rfl))) (mvT hZ (hw _ (List.mem_of_getElem? (i := 49) rfl))) (by decide) (backOf (W := 0) (rm7_g l Z a0 hw [] o8 o4 mc wD cl_wD h0 n0 Z0 Od0 E_o8 E_o4 F_modCount_o8 F_size_o8 F_elementData_o8 g_o8 S_DEFAULTCAPACITY_EMPTY_ELEMENTDATA (Ar_wD.ext Od0.2) S_wD) hZ (hw _ (List.mem_of_getElem? (i := 50) rfl)) (hw _ (List.mem_of_getElem? (i := 20) rfl)) (by decide) (by decide)) q1a q1b q1c (g := (mkF m 66 #[s0, s1, s2, .val (.int i3), .val (.ref o4), .val (.ref o5), s6, s7, .val (.ref o8), s9, s10, s11, s12, s13, s14] [(.ref o4), (.ref o8)])) rfl (by rw [hml]; rfl) (Steps.refl _) (argsL := [(.ref o4)]) (rest := []) (lenOf pd_0_2 rfl) rfl (by show 2 * 0 + _ ≤ _; exact Nat.le_of_eq rfl) (hb hby at_66) (fun _ _ => ⟨rfl, e0, (by decide : 5 + 1 ≤ _), (by decide : 11 + 10 ≤ _)⟩)
  dsimp only [Pt.U, Pt.locs, Pt.cells, Pt.slots] at X1 l1 y1 z1 st1 hQ1
  subst l1 y1 z1
  obtain ⟨b1, rfl, N1q, K1, hz1, E1q, ⟨mc1, Fm1⟩, Fs1, Fe1, kc1, Ov1, V1q⟩ := hQ1
  have N1 := Fr.app N0 N1q
  have g_b1 : n0 ≤ b1 := Nat.le_trans Z0 hz1
  have sz_b1 : h0.size ≤ b1 := Nat.le_trans (Keep.refl h0 [o8]).1 hz1
  have KK1 : Keep h0 T1.heap [o8] := Keep.trans (Keep.refl h0 [o8]) K1 (allS (Or.inl (List.mem_of_getElem? (i := 0) rfl)) all0)
  have Od1 := Old.keep Od0 K1 (allS (g_o8) all0)
  obtain ⟨cq2, kq2, q2a, q2b, q2c⟩ := isOf hZ rfl E1q
  obtain ⟨_, _, ⟨T2, L2, k2, n2⟩, -, X2, ⟨Lc2, hQ2, l2, y2, z2⟩, st2⟩ := X1.interfaceBack hx (xi := (⟨"java/util/List", "add", "(Ljava/lang/Object;)Z"⟩ : MethodName)) (y := (⟨"java/util/ArrayList", "add", "(Ljava/lang/Object;)Z"⟩ : MethodName)) hown (mvT hZ (hw _ (List.mem_of_getElem? (i := 42) rfl))) (mvT hZ (hw _ (List.mem_of_getElem? (i := 43) rfl))) (mvT hZ (hw _ (List.mem_of_getElem? (i := 44) rfl))) (mvT hZ (hw _ (List.mem_of_getElem? (i := 45) rfl))) (mvT hZ (hw _ (List.mem_of_getElem? (i := 46) rfl))) (mvT hZ (hw _ (List.mem_of_getElem? (i := 47) rfl))) (mvT hZ (hw _ (List.mem_of_getElem? (i := 48) rfl))) (mvT hZ (hw _ (List.mem_of_getElem? (i := 49) rfl))) (by decide) (backOf (W := 0) (rm7_s l Z a0 hw [] o8 o5 kc1 ([.null, .null, .null, .null, .null, .null, .null, .null, .null, .null].set 0 (.ref o4)) mc1 ((0 : Int32) + (1 : Int32)) b1 T1.heap n0 (Nat.le_trans Z0 K1.1) E1q (E_o5.keep K1) Fm1 Fs1 Fe1 V1q Ov1 g_b1 g_o8 (own_na E1q (hw _ (List.mem_of_getElem? (i := 19) rfl)) V1q) (by decide) (Nat.le_of_ble_eq_true rfl) (by decide)) hZ (hw _ (List.mem_of_getElem? (i := 50) rfl)) (hw _ (List.mem_of_getElem? (i := 20) rfl)) (by decide) (by decide)) q2a q2b q2c (g := (mkF m 81 #[s0, s1, s2, .val (.int i3), .val (.ref o4), .val (.ref o5), s6, s7, .val (.ref o8), s9, s10, s11, s12, s13, s14] [(.ref o5), (.ref o8)])) rfl (by rw [hml]; rfl) (Steps.refl _) (argsL := [(.ref o5)]) (rest := []) (lenOf pd_0_2 rfl) rfl (by show 2 * 0 + _ ≤ _; exact Nat.le_of_eq rfl) (hb hby at_81) (fun _ _ => ⟨rfl, rfl, (by decide : 6 + 0 ≤ _), (by decide : 21 + 0 ≤ _)⟩)
  dsimp only [Pt.U, Pt.locs, Pt.cells, Pt.slots] at X2 l2 y2 z2 st2 hQ2
  subst l2 y2 z2
  obtain ⟨rfl, N2q, K2, E2q, ⟨mc2, Fm2⟩, Fs2, Fe2, kc2, Ov2, V2q⟩ := hQ2
  have N2 := Fr.app N1 N2q
  have KK2 : Keep h0 T2.heap [o8] := Keep.trans KK1 K2 (allS (Or.inl (List.mem_of_getElem? (i := 0) rfl)) (allS (Or.inr sz_b1) all0))
  have Od2 := Old.keep Od1 K2 (allS (g_o8) (allS (g_b1) all0))
  refine ⟨T2, _, _, X2, N2, rfl, Od2, KK2, ⟨E2q, (by rw [show i3 = (((0 : Int32) + (1 : Int32)) + (1 : Int32)) from hn3.trans (by decide)]; exact Fs2), fun q => absurd (hn3.symm.trans q) (by decide)⟩, fun target kt => ?_⟩
  show Steps p.tables e below (T0.setTop (mkF m 57 #[s0, s1, s2, .val (.int i3), .val (.ref o4), .val (.ref o5), s6, s7, .val (.ref o8), s9, s10, s11, s12, s13, s14] [])) _
  refine XS.iloadN X0.here hx rfl (hb hby at_57) rfl ?_
  show Steps p.tables e below (T0.setTop (mkF m 58 #[s0, s1, s2, .val (.int i3), .val (.ref o4), .val (.ref o5), s6, s7, .val (.ref o8), s9, s10, s11, s12, s13, s14] [(.int i3)])) _
  refine XS.iconst X0.here hx rfl (hb hby at_58) ?_
  show Steps p.tables e below (T0.setTop (mkF m 59 #[s0, s1, s2, .val (.int i3), .val (.ref o4), .val (.ref o5), s6, s7, .val (.ref o8), s9, s10, s11, s12, s13, s14] [(.int (1 : Int32)), (.int i3)])) _
  refine XS.icmpNo X0.here hx rfl (hb hby at_59) rfl (flt hc59).1 ?_
  show Steps p.tables e below (T0.setTop (mkF m 62 #[s0, s1, s2, .val (.int i3), .val (.ref o4), .val (.ref o5), s6, s7, .val (.ref o8), s9, s10, s11, s12, s13, s14] [])) _
  refine XS.aload X0.here hx rfl (hb hby at_62) rfl rfl ?_
  show Steps p.tables e below (T0.setTop (mkF m 64 #[s0, s1, s2, .val (.int i3), .val (.ref o4), .val (.ref o5), s6, s7, .val (.ref o8), s9, s10, s11, s12, s13, s14] [(.ref o8)])) _
  refine XS.aload X0.here hx rfl (hb hby at_64) rfl rfl ?_
  show Steps p.tables e below (T0.setTop (mkF m 66 #[s0, s1, s2, .val (.int i3), .val (.ref o4), .val (.ref o5), s6, s7, .val (.ref o8), s9, s10, s11, s12, s13, s14] [(.ref o4), (.ref o8)])) _
  refine st1.trans ?_
  show Steps p.tables e below (T1.setTop (mkF m 71 #[s0, s1, s2, .val (.int i3), .val (.ref o4), .val (.ref o5), s6, s7, .val (.ref o8), s9, s10, s11, s12, s13, s14] [(.int (1 : Int32))])) _
  refine XS.pop X1.here hx rfl (hb hby at_71) rfl rfl ?_
  show Steps p.tables e below (T1.setTop (mkF m 72 #[s0, s1, s2, .val (.int i3), .val (.ref o4), .val (.ref o5), s6, s7, .val (.ref o8), s9, s10, s11, s12, s13, s14] [])) _
  refine XS.iloadN X1.here hx rfl (hb hby at_72) rfl ?_
  show Steps p.tables e below (T1.setTop (mkF m 73 #[s0, s1, s2, .val (.int i3), .val (.ref o4), .val (.ref o5), s6, s7, .val (.ref o8), s9, s10, s11, s12, s13, s14] [(.int i3)])) _
  refine XS.iconst X1.here hx rfl (hb hby at_73) ?_
  show Steps p.tables e below (T1.setTop (mkF m 74 #[s0, s1, s2, .val (.int i3), .val (.ref o4), .val (.ref o5), s6, s7, .val (.ref o8), s9, s10, s11, s12, s13, s14] [(.int (2 : Int32)), (.int i3)])) _
  refine XS.icmpNo X1.here hx rfl (hb hby at_74) rfl (flt hc74).1 ?_
  show Steps p.tables e below (T1.setTop (mkF m 77 #[s0, s1, s2, .val (.int i3), .val (.ref o4), .val (.ref o5), s6, s7, .val (.ref o8), s9, s10, s11, s12, s13, s14] [])) _
  refine XS.aload X1.here hx rfl (hb hby at_77) rfl rfl ?_
  show Steps p.tables e below (T1.setTop (mkF m 79 #[s0, s1, s2, .val (.int i3), .val (.ref o4), .val (.ref o5), s6, s7, .val (.ref o8), s9, s10, s11, s12, s13, s14] [(.ref o8)])) _
  refine XS.aload X1.here hx rfl (hb hby at_79) rfl rfl ?_
  show Steps p.tables e below (T1.setTop (mkF m 81 #[s0, s1, s2, .val (.int i3), .val (.ref o4), .val (.ref o5), s6, s7, .val (.ref o8), s9, s10, s11, s12, s13, s14] [(.ref o5), (.ref o8)])) _
  refine st2.trans ?_
  show Steps p.tables e below (T2.setTop (mkF m 86 #[s0, s1, s2, .val (.int i3), .val (.ref o4), .val (.ref o5), s6, s7, .val (.ref o8), s9, s10, s11, s12, s13, s14] [(.int (1 : Int32))])) _
  refine XS.pop X2.here hx rfl (hb hby at_86) rfl rfl ?_
  show Steps p.tables e below (T2.setTop (mkF m 87 #[s0, s1, s2, .val (.int i3), .val (.ref o4), .val (.ref o5), s6, s7, .val (.ref o8), s9, s10, s11, s12, s13, s14] [])) _
  refine XS.iloadN X2.here hx rfl (hb hby at_87) rfl ?_
  show Steps p.tables e below (T2.setTop (mkF m 88 #[s0, s1, s2, .val (.int i3), .val (.ref o4), .val (.ref o5), s6, s7, .val (.ref o8), s9, s10, s11, s12, s13, s14] [(.int i3)])) _
  refine XS.iconst X2.here hx rfl (hb hby at_88) ?_
  show Steps p.tables e below (T2.setTop (mkF m 89 #[s0, s1, s2, .val (.int i3), .val (.ref o4), .val (.ref o5), s6, s7, .val (.ref o8), s9, s10, s11, s12, s13, s14] [(.int (3 : Int32)), (.int i3)])) _
  refine XS.icmpYes X2.here hx rfl (pc0 := 89) (pc' := 102) rfl (hb hby at_89) rfl (tlt hc89).1 (by decide) (by decide) ?_
  exact kt

set_option maxRecDepth 65536 in
set_option maxHeartbeats 40000000 in
theorem s2_3 {p : Program} {l : Launch} {e : Env} {s : State} {m : MethodId} {args : Array Value} {below : List Frame} {meth : Method} {c : Code} {T0 : State} {locs : List Loc} {Z : State} {a0 : Array Value} {h0 : Heap} {n0 : Nat} (s0 : Slot) (s1 : Slot) (s2 : Slot) (i3 : Int32) (o4 : Addr) (o5 : Addr) (o6 : Addr) (s7 : Slot) (o8 : Addr) (s9 : Slot) (s10 : Slot) (s11 : Slot) (s12 : Slot) (s13 : Slot) (s14 : Slot) (mc : Int32) (wD : Addr) (cl_wD : Cell)
    (X0 : Stand p l e room_1 s m args below meth c T0 locs 5 11) (hx : p.tables.exec = Jvm.exec) (hZ : Z.Warmed39 s.vm) (hw : ∀ d ∈ tables_1, d.before a0 Z = true) (hby : c.code = code) (hml : c.maxLocals = 15) (hown : s.vm.findClass "com/example/bindspire/bindspire/ChoiceChosenPinLaw" = some m.cls) (e0 : T0.heap = h0) (N0 : Fr n0 locs) (Z0 : n0 ≤ h0.size) (Od0 : Old Z n0 h0) (E_o8 : Exa Z h0 o8 "java/util/ArrayList") (E_o4 : Exa Z h0 o4 "com/example/bindspire/bindspire/Overloads$Candidate") (E_o5 : Exa Z h0 o5 "com/example/bindspire/bindspire/Overloads$Candidate") (E_o6 : Exa Z h0 o6 "com/example/bindspire/bindspire/Overloads$Candidate") (F_modCount_o8 : Fld Z h0 o8 "java/util/AbstractList" "modCount" "I" (.int mc)) (F_size_o8 : Fld Z h0 o8 "java/util/ArrayList" "size" "I" (.int (0 : Int32))) (F_elementData_o8 : Fld Z h0 o8 "java/util/ArrayList" "elementData" "[Ljava/lang/Object;" (.ref wD)) (S_DEFAULTCAPACITY_EMPTY_ELEMENTDATA : Sta Z Z.heap "java/util/ArrayList" "DEFAULTCAPACITY_EMPTY_ELEMENTDATA" "[Ljava/lang/Object;" (.ref wD)) (Ar_wD : Arr Z Z.heap wD cl_wD (.object "java/lang/Object")) (S_wD : cl_wD.slots.size = (0 : Int32).toNatClampNeg) (g_o8 : n0 ≤ o8) (hn3 : i3 = (3 : Int32)) (hc59 : ¬ (i3 < (1 : Int32))) (hc74 : ¬ (i3 < (2 : Int32))) (hc89 : ¬ (i3 < (3 : Int32))) :
    ∃ (T' : State) (L' : List Loc) (h' : Heap), Stand p l e room_1 s m args below meth c T' L' 6 21 ∧ Fr n0 L' ∧ T'.heap = h' ∧ Old Z n0 h' ∧ Keep h0 h' [o8] ∧ own_M Z h' o8 o4 i3 ∧
      ∀ target, Steps p.tables e below (T'.setTop (mkF m 102 #[s0, s1, s2, .val (.int i3), .val (.ref o4), .val (.ref o5), .val (.ref o6), s7, .val (.ref o8), s9, s10, s11, s12, s13, s14] [])) target → Steps p.tables e below (T0.setTop (mkF m 57 #[s0, s1, s2, .val (.int i3), .val (.ref o4), .val (.ref o5), .val (.ref o6), s7, .val (.ref o8), s9, s10, s11, s12, s13, s14] [])) target := by
  obtain ⟨cq1, kq1, q1a, q1b, q1c⟩ := isOf hZ e0 E_o8
  obtain ⟨_, _, ⟨T1, L1, k1, n1⟩, -, X1, ⟨Lc1, hQ1, l1, y1, z1⟩, st1⟩ := X0.interfaceBack hx (xi := (⟨"java/util/List", "add", "(Ljava/lang/Object;)Z"⟩ : MethodName)) (y := (⟨"java/util/ArrayList", "add", "(Ljava/lang/Object;)Z"⟩ : MethodName)) hown (mvT hZ (hw _ (List.mem_of_getElem? (i := 42) rfl))) (mvT hZ (hw _ (List.mem_of_getElem? (i := 43) rfl))) (mvT hZ (hw _ (List.mem_of_getElem? (i := 44) rfl))) (mvT hZ (hw _ (List.mem_of_getElem? (i := 45) rfl))) (mvT hZ (hw _ (List.mem_of_getElem? (i := 46) rfl))) (mvT hZ (hw _ (List.mem_of_getElem? (i := 47) rfl))) (mvT hZ (hw _ (List.mem_of_getElem? (i := 48) rfl))) (mvT hZ (hw _ (List.mem_of_getElem? (i := 49) rfl))) (by decide) (backOf (W := 0) (rm7_g l Z a0 hw [] o8 o4 mc wD cl_wD h0 n0 Z0 Od0 E_o8 E_o4 F_modCount_o8 F_size_o8 F_elementData_o8 g_o8 S_DEFAULTCAPACITY_EMPTY_ELEMENTDATA (Ar_wD.ext Od0.2) S_wD) hZ (hw _ (List.mem_of_getElem? (i := 50) rfl)) (hw _ (List.mem_of_getElem? (i := 20) rfl)) (by decide) (by decide)) q1a q1b q1c (g := (mkF m 66 #[s0, s1, s2, .val (.int i3), .val (.ref o4), .val (.ref o5), .val (.ref o6), s7, .val (.ref o8), s9, s10, s11, s12, s13, s14] [(.ref o4), (.ref o8)])) rfl (by rw [hml]; rfl) (Steps.refl _) (argsL := [(.ref o4)]) (rest := []) (lenOf pd_0_2 rfl) rfl (by show 2 * 0 + _ ≤ _; exact Nat.le_of_eq rfl) (hb hby at_66) (fun _ _ => ⟨rfl, e0, (by decide : 5 + 1 ≤ _), (by decide : 11 + 10 ≤ _)⟩)
  dsimp only [Pt.U, Pt.locs, Pt.cells, Pt.slots] at X1 l1 y1 z1 st1 hQ1
  subst l1 y1 z1
  obtain ⟨b1, rfl, N1q, K1, hz1, E1q, ⟨mc1, Fm1⟩, Fs1, Fe1, kc1, Ov1, V1q⟩ := hQ1
  have N1 := Fr.app N0 N1q
  have g_b1 : n0 ≤ b1 := Nat.le_trans Z0 hz1
  have sz_b1 : h0.size ≤ b1 := Nat.le_trans (Keep.refl h0 [o8]).1 hz1
  have KK1 : Keep h0 T1.heap [o8] := Keep.trans (Keep.refl h0 [o8]) K1 (allS (Or.inl (List.mem_of_getElem? (i := 0) rfl)) all0)
  have Od1 := Old.keep Od0 K1 (allS (g_o8) all0)
  obtain ⟨cq2, kq2, q2a, q2b, q2c⟩ := isOf hZ rfl E1q
  obtain ⟨_, _, ⟨T2, L2, k2, n2⟩, -, X2, ⟨Lc2, hQ2, l2, y2, z2⟩, st2⟩ := X1.interfaceBack hx (xi := (⟨"java/util/List", "add", "(Ljava/lang/Object;)Z"⟩ : MethodName)) (y := (⟨"java/util/ArrayList", "add", "(Ljava/lang/Object;)Z"⟩ : MethodName)) hown (mvT hZ (hw _ (List.mem_of_getElem? (i := 42) rfl))) (mvT hZ (hw _ (List.mem_of_getElem? (i := 43) rfl))) (mvT hZ (hw _ (List.mem_of_getElem? (i := 44) rfl))) (mvT hZ (hw _ (List.mem_of_getElem? (i := 45) rfl))) (mvT hZ (hw _ (List.mem_of_getElem? (i := 46) rfl))) (mvT hZ (hw _ (List.mem_of_getElem? (i := 47) rfl))) (mvT hZ (hw _ (List.mem_of_getElem? (i := 48) rfl))) (mvT hZ (hw _ (List.mem_of_getElem? (i := 49) rfl))) (by decide) (backOf (W := 0) (rm7_s l Z a0 hw [] o8 o5 kc1 ([.null, .null, .null, .null, .null, .null, .null, .null, .null, .null].set 0 (.ref o4)) mc1 ((0 : Int32) + (1 : Int32)) b1 T1.heap n0 (Nat.le_trans Z0 K1.1) E1q (E_o5.keep K1) Fm1 Fs1 Fe1 V1q Ov1 g_b1 g_o8 (own_na E1q (hw _ (List.mem_of_getElem? (i := 19) rfl)) V1q) (by decide) (Nat.le_of_ble_eq_true rfl) (by decide)) hZ (hw _ (List.mem_of_getElem? (i := 50) rfl)) (hw _ (List.mem_of_getElem? (i := 20) rfl)) (by decide) (by decide)) q2a q2b q2c (g := (mkF m 81 #[s0, s1, s2, .val (.int i3), .val (.ref o4), .val (.ref o5), .val (.ref o6), s7, .val (.ref o8), s9, s10, s11, s12, s13, s14] [(.ref o5), (.ref o8)])) rfl (by rw [hml]; rfl) (Steps.refl _) (argsL := [(.ref o5)]) (rest := []) (lenOf pd_0_2 rfl) rfl (by show 2 * 0 + _ ≤ _; exact Nat.le_of_eq rfl) (hb hby at_81) (fun _ _ => ⟨rfl, rfl, (by decide : 6 + 0 ≤ _), (by decide : 21 + 0 ≤ _)⟩)
  dsimp only [Pt.U, Pt.locs, Pt.cells, Pt.slots] at X2 l2 y2 z2 st2 hQ2
  subst l2 y2 z2
  obtain ⟨rfl, N2q, K2, E2q, ⟨mc2, Fm2⟩, Fs2, Fe2, kc2, Ov2, V2q⟩ := hQ2
  have N2 := Fr.app N1 N2q
  have KK2 : Keep h0 T2.heap [o8] := Keep.trans KK1 K2 (allS (Or.inl (List.mem_of_getElem? (i := 0) rfl)) (allS (Or.inr sz_b1) all0))
  have Od2 := Old.keep Od1 K2 (allS (g_o8) (allS (g_b1) all0))
  obtain ⟨cq3, kq3, q3a, q3b, q3c⟩ := isOf hZ rfl E2q
  obtain ⟨_, _, ⟨T3, L3, k3, n3⟩, -, X3, ⟨Lc3, hQ3, l3, y3, z3⟩, st3⟩ := X2.interfaceBack hx (xi := (⟨"java/util/List", "add", "(Ljava/lang/Object;)Z"⟩ : MethodName)) (y := (⟨"java/util/ArrayList", "add", "(Ljava/lang/Object;)Z"⟩ : MethodName)) hown (mvT hZ (hw _ (List.mem_of_getElem? (i := 42) rfl))) (mvT hZ (hw _ (List.mem_of_getElem? (i := 43) rfl))) (mvT hZ (hw _ (List.mem_of_getElem? (i := 44) rfl))) (mvT hZ (hw _ (List.mem_of_getElem? (i := 45) rfl))) (mvT hZ (hw _ (List.mem_of_getElem? (i := 46) rfl))) (mvT hZ (hw _ (List.mem_of_getElem? (i := 47) rfl))) (mvT hZ (hw _ (List.mem_of_getElem? (i := 48) rfl))) (mvT hZ (hw _ (List.mem_of_getElem? (i := 49) rfl))) (by decide) (backOf (W := 0) (rm7_s l Z a0 hw [] o8 o6 kc2 (([.null, .null, .null, .null, .null, .null, .null, .null, .null, .null].set 0 (.ref o4)).set (((0 : Int32) + (1 : Int32))).toNatClampNeg (.ref o5)) mc2 (((0 : Int32) + (1 : Int32)) + (1 : Int32)) b1 T2.heap n0 (Nat.le_trans (Nat.le_trans Z0 K1.1) K2.1) E2q ((E_o6.keep K1).keep K2) Fm2 Fs2 Fe2 V2q Ov2 g_b1 g_o8 (own_na E2q (hw _ (List.mem_of_getElem? (i := 19) rfl)) V2q) (by decide) (Nat.le_of_ble_eq_true rfl) (by decide)) hZ (hw _ (List.mem_of_getElem? (i := 50) rfl)) (hw _ (List.mem_of_getElem? (i := 20) rfl)) (by decide) (by decide)) q3a q3b q3c (g := (mkF m 96 #[s0, s1, s2, .val (.int i3), .val (.ref o4), .val (.ref o5), .val (.ref o6), s7, .val (.ref o8), s9, s10, s11, s12, s13, s14] [(.ref o6), (.ref o8)])) rfl (by rw [hml]; rfl) (Steps.refl _) (argsL := [(.ref o6)]) (rest := []) (lenOf pd_0_2 rfl) rfl (by show 2 * 0 + _ ≤ _; exact Nat.le_of_eq rfl) (hb hby at_96) (fun _ _ => ⟨rfl, rfl, (by decide : 6 + 0 ≤ _), (by decide : 21 + 0 ≤ _)⟩)
  dsimp only [Pt.U, Pt.locs, Pt.cells, Pt.slots] at X3 l3 y3 z3 st3 hQ3
  subst l3 y3 z3
  obtain ⟨rfl, N3q, K3, E3q, ⟨mc3, Fm3⟩, Fs3, Fe3, kc3, Ov3, V3q⟩ := hQ3
  have N3 := Fr.app N2 N3q
  have KK3 : Keep h0 T3.heap [o8] := Keep.trans KK2 K3 (allS (Or.inl (List.mem_of_getElem? (i := 0) rfl)) (allS (Or.inr sz_b1) all0))
  have Od3 := Old.keep Od2 K3 (allS (g_o8) (allS (g_b1) all0))
  refine ⟨T3, _, _, X3, N3, rfl, Od3, KK3, ⟨E3q, (by rw [show i3 = ((((0 : Int32) + (1 : Int32)) + (1 : Int32)) + (1 : Int32)) from hn3.trans (by decide)]; exact Fs3), fun q => absurd (hn3.symm.trans q) (by decide)⟩, fun target kt => ?_⟩
  show Steps p.tables e below (T0.setTop (mkF m 57 #[s0, s1, s2, .val (.int i3), .val (.ref o4), .val (.ref o5), .val (.ref o6), s7, .val (.ref o8), s9, s10, s11, s12, s13, s14] [])) _
  refine XS.iloadN X0.here hx rfl (hb hby at_57) rfl ?_
  show Steps p.tables e below (T0.setTop (mkF m 58 #[s0, s1, s2, .val (.int i3), .val (.ref o4), .val (.ref o5), .val (.ref o6), s7, .val (.ref o8), s9, s10, s11, s12, s13, s14] [(.int i3)])) _
  refine XS.iconst X0.here hx rfl (hb hby at_58) ?_
  show Steps p.tables e below (T0.setTop (mkF m 59 #[s0, s1, s2, .val (.int i3), .val (.ref o4), .val (.ref o5), .val (.ref o6), s7, .val (.ref o8), s9, s10, s11, s12, s13, s14] [(.int (1 : Int32)), (.int i3)])) _
  refine XS.icmpNo X0.here hx rfl (hb hby at_59) rfl (flt hc59).1 ?_
  show Steps p.tables e below (T0.setTop (mkF m 62 #[s0, s1, s2, .val (.int i3), .val (.ref o4), .val (.ref o5), .val (.ref o6), s7, .val (.ref o8), s9, s10, s11, s12, s13, s14] [])) _
  refine XS.aload X0.here hx rfl (hb hby at_62) rfl rfl ?_
  show Steps p.tables e below (T0.setTop (mkF m 64 #[s0, s1, s2, .val (.int i3), .val (.ref o4), .val (.ref o5), .val (.ref o6), s7, .val (.ref o8), s9, s10, s11, s12, s13, s14] [(.ref o8)])) _
  refine XS.aload X0.here hx rfl (hb hby at_64) rfl rfl ?_
  show Steps p.tables e below (T0.setTop (mkF m 66 #[s0, s1, s2, .val (.int i3), .val (.ref o4), .val (.ref o5), .val (.ref o6), s7, .val (.ref o8), s9, s10, s11, s12, s13, s14] [(.ref o4), (.ref o8)])) _
  refine st1.trans ?_
  show Steps p.tables e below (T1.setTop (mkF m 71 #[s0, s1, s2, .val (.int i3), .val (.ref o4), .val (.ref o5), .val (.ref o6), s7, .val (.ref o8), s9, s10, s11, s12, s13, s14] [(.int (1 : Int32))])) _
  refine XS.pop X1.here hx rfl (hb hby at_71) rfl rfl ?_
  show Steps p.tables e below (T1.setTop (mkF m 72 #[s0, s1, s2, .val (.int i3), .val (.ref o4), .val (.ref o5), .val (.ref o6), s7, .val (.ref o8), s9, s10, s11, s12, s13, s14] [])) _
  refine XS.iloadN X1.here hx rfl (hb hby at_72) rfl ?_
  show Steps p.tables e below (T1.setTop (mkF m 73 #[s0, s1, s2, .val (.int i3), .val (.ref o4), .val (.ref o5), .val (.ref o6), s7, .val (.ref o8), s9, s10, s11, s12, s13, s14] [(.int i3)])) _
  refine XS.iconst X1.here hx rfl (hb hby at_73) ?_
  show Steps p.tables e below (T1.setTop (mkF m 74 #[s0, s1, s2, .val (.int i3), .val (.ref o4), .val (.ref o5), .val (.ref o6), s7, .val (.ref o8), s9, s10, s11, s12, s13, s14] [(.int (2 : Int32)), (.int i3)])) _
  refine XS.icmpNo X1.here hx rfl (hb hby at_74) rfl (flt hc74).1 ?_
  show Steps p.tables e below (T1.setTop (mkF m 77 #[s0, s1, s2, .val (.int i3), .val (.ref o4), .val (.ref o5), .val (.ref o6), s7, .val (.ref o8), s9, s10, s11, s12, s13, s14] [])) _
  refine XS.aload X1.here hx rfl (hb hby at_77) rfl rfl ?_
  show Steps p.tables e below (T1.setTop (mkF m 79 #[s0, s1, s2, .val (.int i3), .val (.ref o4), .val (.ref o5), .val (.ref o6), s7, .val (.ref o8), s9, s10, s11, s12, s13, s14] [(.ref o8)])) _
  refine XS.aload X1.here hx rfl (hb hby at_79) rfl rfl ?_
  show Steps p.tables e below (T1.setTop (mkF m 81 #[s0, s1, s2, .val (.int i3), .val (.ref o4), .val (.ref o5), .val (.ref o6), s7, .val (.ref o8), s9, s10, s11, s12, s13, s14] [(.ref o5), (.ref o8)])) _
  refine st2.trans ?_
  show Steps p.tables e below (T2.setTop (mkF m 86 #[s0, s1, s2, .val (.int i3), .val (.ref o4), .val (.ref o5), .val (.ref o6), s7, .val (.ref o8), s9, s10, s11, s12, s13, s14] [(.int (1 : Int32))])) _
  refine XS.pop X2.here hx rfl (hb hby at_86) rfl rfl ?_
  show Steps p.tables e below (T2.setTop (mkF m 87 #[s0, s1, s2, .val (.int i3), .val (.ref o4), .val (.ref o5), .val (.ref o6), s7, .val (.ref o8), s9, s10, s11, s12, s13, s14] [])) _
  refine XS.iloadN X2.here hx rfl (hb hby at_87) rfl ?_
  show Steps p.tables e below (T2.setTop (mkF m 88 #[s0, s1, s2, .val (.int i3), .val (.ref o4), .val (.ref o5), .val (.ref o6), s7, .val (.ref o8), s9, s10, s11, s12, s13, s14] [(.int i3)])) _
  refine XS.iconst X2.here hx rfl (hb hby at_88) ?_
  show Steps p.tables e below (T2.setTop (mkF m 89 #[s0, s1, s2, .val (.int i3), .val (.ref o4), .val (.ref o5), .val (.ref o6), s7, .val (.ref o8), s9, s10, s11, s12, s13, s14] [(.int (3 : Int32)), (.int i3)])) _
  refine XS.icmpNo X2.here hx rfl (hb hby at_89) rfl (flt hc89).1 ?_
  show Steps p.tables e below (T2.setTop (mkF m 92 #[s0, s1, s2, .val (.int i3), .val (.ref o4), .val (.ref o5), .val (.ref o6), s7, .val (.ref o8), s9, s10, s11, s12, s13, s14] [])) _
  refine XS.aload X2.here hx rfl (hb hby at_92) rfl rfl ?_
  show Steps p.tables e below (T2.setTop (mkF m 94 #[s0, s1, s2, .val (.int i3), .val (.ref o4), .val (.ref o5), .val (.ref o6), s7, .val (.ref o8), s9, s10, s11, s12, s13, s14] [(.ref o8)])) _
  refine XS.aload X2.here hx rfl (hb hby at_94) rfl rfl ?_
  show Steps p.tables e below (T2.setTop (mkF m 96 #[s0, s1, s2, .val (.int i3), .val (.ref o4), .val (.ref o5), .val (.ref o6), s7, .val (.ref o8), s9, s10, s11, s12, s13, s14] [(.ref o6), (.ref o8)])) _
  refine st3.trans ?_
  show Steps p.tables e below (T3.setTop (mkF m 101 #[s0, s1, s2, .val (.int i3), .val (.ref o4), .val (.ref o5), .val (.ref o6), s7, .val (.ref o8), s9, s10, s11, s12, s13, s14] [(.int (1 : Int32))])) _
  refine XS.pop X3.here hx rfl (hb hby at_101) rfl rfl ?_
  exact kt

set_option maxRecDepth 65536 in
set_option maxHeartbeats 40000000 in
theorem s2_0 {p : Program} {l : Launch} {e : Env} {s : State} {m : MethodId} {args : Array Value} {below : List Frame} {meth : Method} {c : Code} {T0 : State} {locs : List Loc} {Z : State} {a0 : Array Value} {h0 : Heap} {n0 : Nat} (s0 : Slot) (s1 : Slot) (s2 : Slot) (i3 : Int32) (s4 : Slot) (s5 : Slot) (s6 : Slot) (s7 : Slot) (s8 : Slot) (s9 : Slot) (s10 : Slot) (s11 : Slot) (s12 : Slot) (s13 : Slot) (s14 : Slot) 
    (X0 : Stand p l e room_1 s m args below meth c T0 locs 5 11) (hx : p.tables.exec = Jvm.exec) (hZ : Z.Warmed39 s.vm) (hw : ∀ d ∈ tables_1, d.before a0 Z = true) (hby : c.code = code) (hml : c.maxLocals = 15) (hown : s.vm.findClass "com/example/bindspire/bindspire/ChoiceChosenPinLaw" = some m.cls) (e0 : T0.heap = h0) (N0 : Fr n0 locs) (Z0 : n0 ≤ h0.size)  (hc59 : i3 < (1 : Int32)) (hc74 : i3 < (2 : Int32)) (hc89 : i3 < (3 : Int32)) :
    ∃ (T' : State) (L' : List Loc) (h' : Heap), Stand p l e room_1 s m args below meth c T' L' 5 11 ∧ Fr n0 L' ∧ T'.heap = h' ∧ h' = h0 ∧
      ∀ target, Steps p.tables e below (T'.setTop (mkF m 102 #[s0, s1, s2, .val (.int i3), s4, s5, s6, s7, s8, s9, s10, s11, s12, s13, s14] [])) target → Steps p.tables e below (T0.setTop (mkF m 57 #[s0, s1, s2, .val (.int i3), s4, s5, s6, s7, s8, s9, s10, s11, s12, s13, s14] [])) target := by

  refine ⟨T0, _, _, X0, N0, e0, rfl, fun target kt => ?_⟩
  show Steps p.tables e below (T0.setTop (mkF m 57 #[s0, s1, s2, .val (.int i3), s4, s5, s6, s7, s8, s9, s10, s11, s12, s13, s14] [])) _
  refine XS.iloadN X0.here hx rfl (hb hby at_57) rfl ?_
  show Steps p.tables e below (T0.setTop (mkF m 58 #[s0, s1, s2, .val (.int i3), s4, s5, s6, s7, s8, s9, s10, s11, s12, s13, s14] [(.int i3)])) _
  refine XS.iconst X0.here hx rfl (hb hby at_58) ?_
  show Steps p.tables e below (T0.setTop (mkF m 59 #[s0, s1, s2, .val (.int i3), s4, s5, s6, s7, s8, s9, s10, s11, s12, s13, s14] [(.int (1 : Int32)), (.int i3)])) _
  refine XS.icmpYes X0.here hx rfl (pc0 := 59) (pc' := 72) rfl (hb hby at_59) rfl (tlt hc59).1 (by decide) (by decide) ?_
  show Steps p.tables e below (T0.setTop (mkF m 72 #[s0, s1, s2, .val (.int i3), s4, s5, s6, s7, s8, s9, s10, s11, s12, s13, s14] [])) _
  refine XS.iloadN X0.here hx rfl (hb hby at_72) rfl ?_
  show Steps p.tables e below (T0.setTop (mkF m 73 #[s0, s1, s2, .val (.int i3), s4, s5, s6, s7, s8, s9, s10, s11, s12, s13, s14] [(.int i3)])) _
  refine XS.iconst X0.here hx rfl (hb hby at_73) ?_
  show Steps p.tables e below (T0.setTop (mkF m 74 #[s0, s1, s2, .val (.int i3), s4, s5, s6, s7, s8, s9, s10, s11, s12, s13, s14] [(.int (2 : Int32)), (.int i3)])) _
  refine XS.icmpYes X0.here hx rfl (pc0 := 74) (pc' := 87) rfl (hb hby at_74) rfl (tlt hc74).1 (by decide) (by decide) ?_
  show Steps p.tables e below (T0.setTop (mkF m 87 #[s0, s1, s2, .val (.int i3), s4, s5, s6, s7, s8, s9, s10, s11, s12, s13, s14] [])) _
  refine XS.iloadN X0.here hx rfl (hb hby at_87) rfl ?_
  show Steps p.tables e below (T0.setTop (mkF m 88 #[s0, s1, s2, .val (.int i3), s4, s5, s6, s7, s8, s9, s10, s11, s12, s13, s14] [(.int i3)])) _
  refine XS.iconst X0.here hx rfl (hb hby at_88) ?_
  show Steps p.tables e below (T0.setTop (mkF m 89 #[s0, s1, s2, .val (.int i3), s4, s5, s6, s7, s8, s9, s10, s11, s12, s13, s14] [(.int (3 : Int32)), (.int i3)])) _
  refine XS.icmpYes X0.here hx rfl (pc0 := 89) (pc' := 102) rfl (hb hby at_89) rfl (tlt hc89).1 (by decide) (by decide) ?_
  exact kt

theorem os_s3_0_109 {s0 : Slot} {s1 : Slot} {s2 : Slot} {s3 : Slot} {s4 : Slot} {s5 : Slot} {s6 : Slot} {s7 : Slot} {s8 : Slot} {s9 : Slot} {s10 : Slot} {s11 : Slot} {s12 : Slot} {s13 : Slot} {s14 : Slot} {v : Addr} (h : One s9) : storeLocals #[s0, s1, s2, s3, s4, s5, s6, s7, s8, s9, s10, s11, s12, s13, s14] 9 (.ref v) = some #[s0, s1, s2, s3, s4, s5, s6, s7, s8, .val (.ref v), s10, s11, s12, s13, s14] := by
  rcases h with rfl | ⟨w, rfl, hw⟩
  · rfl
  · cases w <;> first | rfl | (simp [Value.category] at hw)
set_option maxRecDepth 65536 in
set_option maxHeartbeats 40000000 in
theorem s3 {p : Program} {l : Launch} {e : Env} {s : State} {m : MethodId} {args : Array Value} {below : List Frame} {meth : Method} {c : Code} {T0 : State} {locs : List Loc} {Z : State} {a0 : Array Value} {h0 : Heap} {n0 : Nat} (s0 : Slot) (s1 : Slot) (s2 : Slot) (s3 : Slot) (s4 : Slot) (s5 : Slot) (s6 : Slot) (s7 : Slot) (s8 : Slot) (s9 : Slot) (s10 : Slot) (s11 : Slot) (s12 : Slot) (s13 : Slot) (s14 : Slot) (wD : Addr)
    (X0 : Stand p l e room_1 s m args below meth c T0 locs 6 21) (hx : p.tables.exec = Jvm.exec) (hZ : Z.Warmed39 s.vm) (hw : ∀ d ∈ tables_1, d.before a0 Z = true) (hby : c.code = code) (hml : c.maxLocals = 15) (hown : s.vm.findClass "com/example/bindspire/bindspire/ChoiceChosenPinLaw" = some m.cls) (e0 : T0.heap = h0) (N0 : Fr n0 locs) (Z0 : n0 ≤ h0.size) (Od0 : Old Z n0 h0) (hs9 : One s9) (S_DEFAULTCAPACITY_EMPTY_ELEMENTDATA : Sta Z Z.heap "java/util/ArrayList" "DEFAULTCAPACITY_EMPTY_ELEMENTDATA" "[Ljava/lang/Object;" (.ref wD)) :
    ∃ (T' : State) (L' : List Loc) (h' : Heap) (pl : Addr), Stand p l e room_1 s m args below meth c T' L' 7 24 ∧ Fr n0 L' ∧ T'.heap = h' ∧ Old Z n0 h' ∧ h0.size ≤ pl ∧ n0 ≤ pl ∧ Keep h0 h' [] ∧ own_L0 Z wD h' pl ∧
      ∀ target, Steps p.tables e below (T'.setTop (mkF m 111 #[s0, s1, s2, s3, s4, s5, s6, s7, s8, .val (.ref pl), s10, s11, s12, s13, s14] [])) target → Steps p.tables e below (T0.setTop (mkF m 102 #[s0, s1, s2, s3, s4, s5, s6, s7, s8, s9, s10, s11, s12, s13, s14] [])) target := by
  obtain ⟨T1, h1, X1, e1, E1, A1, D1, -, st1⟩ := newO X0 hx hZ hown (hw _ (List.mem_of_getElem? (i := 18) rfl)) (hw _ (List.mem_of_getElem? (i := 19) rfl)) (hw _ (List.mem_of_getElem? (i := 20) rfl)) e0 (g := (mkF m 102 #[s0, s1, s2, s3, s4, s5, s6, s7, s8, s9, s10, s11, s12, s13, s14] [])) rfl (hb hby at_102) (by decide) (by decide)
  obtain ⟨b1, g1⟩ : ∃ z, z = h0.size := ⟨_, rfl⟩
  rw [← g1] at A1 D1 st1
  have F_modCount_b1 : Fld Z h1 b1 "java/util/AbstractList" "modCount" "I" (.int (0 : Int32)) := D1 (Or.inl (hw _ (List.mem_of_getElem? (i := 38) rfl))) (ty := .int) (by decide)
  have F_elementData_b1 : Fld Z h1 b1 "java/util/ArrayList" "elementData" "[Ljava/lang/Object;" .null := D1 (Or.inl (hw _ (List.mem_of_getElem? (i := 41) rfl))) (ty := (.array (.object "java/lang/Object"))) (by decide)
  have F_size_b1 : Fld Z h1 b1 "java/util/ArrayList" "size" "I" (.int (0 : Int32)) := D1 (Or.inl (hw _ (List.mem_of_getElem? (i := 54) rfl))) (ty := .int) (by decide)
  have E_b1 := A1
  have g_b1 : n0 ≤ b1 := Nat.le_trans Z0 (Nat.le_of_eq g1.symm)
  have sz_b1 : h0.size ≤ b1 := (Nat.le_trans (Keep.refl h0 []).1 (Nat.le_of_eq g1.symm))
  have K1 : Keep h0 h1 [] := (Keep.refl h0 []).ext E1
  have Od1 := Old.ext Od0 E1
  obtain ⟨_, _, ⟨T2, L2, k2, n2⟩, -, X2, ⟨Lc2, hQ2, l2, y2, z2⟩, st2⟩ := X1.specialBack hx (y := (⟨"java/util/ArrayList", "<init>", "()V"⟩ : MethodName)) rfl hown (mvT hZ (hw _ (List.mem_of_getElem? (i := 21) rfl))) (mvT hZ (hw _ (List.mem_of_getElem? (i := 22) rfl))) (mvT hZ (hw _ (List.mem_of_getElem? (i := 23) rfl))) (by decide) (backOf (W := 1) (rm4 l Z a0 hw [] b1 wD (.int (0 : Int32)) h1 n0 (Nat.le_trans Z0 E1.1) Od1 E_b1 F_modCount_b1 F_size_b1 F_elementData_b1 S_DEFAULTCAPACITY_EMPTY_ELEMENTDATA g_b1) hZ (hw _ (List.mem_of_getElem? (i := 23) rfl)) (hw _ (List.mem_of_getElem? (i := 20) rfl)) (by decide) (by decide)) (g := (mkF m 106 #[s0, s1, s2, s3, s4, s5, s6, s7, s8, s9, s10, s11, s12, s13, s14] [(.ref b1), (.ref b1)])) rfl (by rw [hml]; rfl) (Steps.refl _) (a := b1) (argsL := []) (rest := [(.ref b1)]) (lenOf pd_0_1 rfl) rfl (by show 2 * 0 + _ ≤ _; exact Nat.le_of_eq rfl) (hb hby at_106) (fun _ _ => ⟨rfl, e1, (by decide : 7 + 0 ≤ _), (by decide : 24 + 0 ≤ _)⟩)
  dsimp only [Pt.U, Pt.locs, Pt.cells, Pt.slots] at X2 l2 y2 z2 st2 hQ2
  subst l2 y2 z2
  obtain ⟨rfl, N2q, K2, LL2⟩ := hQ2
  have N2 := Fr.app N0 N2q
  have KK2 : Keep h0 T2.heap [] := Keep.trans K1 K2 (allS (Or.inr sz_b1) all0)
  have Od2 := Old.keep Od1 K2 (allS (g_b1) all0)
  refine ⟨T2, _, _, b1, X2, N2, rfl, Od2, sz_b1, g_b1, KK2, LL2, fun target kt => ?_⟩
  show Steps p.tables e below (T0.setTop (mkF m 102 #[s0, s1, s2, s3, s4, s5, s6, s7, s8, s9, s10, s11, s12, s13, s14] [])) _
  refine st1 _ ?_
  show Steps p.tables e below (T1.setTop (mkF m 105 #[s0, s1, s2, s3, s4, s5, s6, s7, s8, s9, s10, s11, s12, s13, s14] [(.ref b1)])) _
  refine XS.dup X1.here hx rfl (hb hby at_105) rfl rfl ?_
  show Steps p.tables e below (T1.setTop (mkF m 106 #[s0, s1, s2, s3, s4, s5, s6, s7, s8, s9, s10, s11, s12, s13, s14] [(.ref b1), (.ref b1)])) _
  refine st2.trans ?_
  show Steps p.tables e below (T2.setTop (mkF m 109 #[s0, s1, s2, s3, s4, s5, s6, s7, s8, s9, s10, s11, s12, s13, s14] [(.ref b1)])) _
  refine XS.astore X2.here hx rfl (hb hby at_109) rfl rfl (l' := #[s0, s1, s2, s3, s4, s5, s6, s7, s8, .val (.ref b1), s10, s11, s12, s13, s14]) (os_s3_0_109 hs9) ?_
  exact kt

set_option maxRecDepth 65536 in
set_option maxHeartbeats 40000000 in
theorem s4_0_t {p : Program} {l : Launch} {e : Env} {s : State} {m : MethodId} {args : Array Value} {below : List Frame} {meth : Method} {c : Code} {T0 : State} {locs : List Loc} {Z : State} {a0 : Array Value} {h0 : Heap} {n0 : Nat} (s0 : Slot) (s1 : Slot) (i2 : Int32) (s3 : Slot) (s4 : Slot) (s5 : Slot) (s6 : Slot) (s7 : Slot) (s8 : Slot) (s9 : Slot) (s10 : Slot) (s11 : Slot) (s12 : Slot) (s13 : Slot) (s14 : Slot) 
    (X0 : Stand p l e room_1 s m args below meth c T0 locs 7 24) (hx : p.tables.exec = Jvm.exec) (hZ : Z.Warmed39 s.vm) (hw : ∀ d ∈ tables_1, d.before a0 Z = true) (hby : c.code = code) (hml : c.maxLocals = 15) (hown : s.vm.findClass "com/example/bindspire/bindspire/ChoiceChosenPinLaw" = some m.cls) (e0 : T0.heap = h0) (N0 : Fr n0 locs) (Z0 : n0 ≤ h0.size)  (hc114 : (i2 &&& (1 : Int32)) = (0 : Int32)) :
    ∃ (T' : State) (L' : List Loc) (h' : Heap), Stand p l e room_1 s m args below meth c T' L' 7 24 ∧ Fr n0 L' ∧ T'.heap = h' ∧ h' = h0 ∧
      ∀ target, Steps p.tables e below (T'.setTop (mkF m 127 #[s0, s1, .val (.int i2), s3, s4, s5, s6, s7, s8, s9, s10, s11, s12, s13, s14] [])) target → Steps p.tables e below (T0.setTop (mkF m 111 #[s0, s1, .val (.int i2), s3, s4, s5, s6, s7, s8, s9, s10, s11, s12, s13, s14] [])) target := by

  refine ⟨T0, _, _, X0, N0, e0, rfl, fun target kt => ?_⟩
  show Steps p.tables e below (T0.setTop (mkF m 111 #[s0, s1, .val (.int i2), s3, s4, s5, s6, s7, s8, s9, s10, s11, s12, s13, s14] [])) _
  refine XS.iloadN X0.here hx rfl (hb hby at_111) rfl ?_
  show Steps p.tables e below (T0.setTop (mkF m 112 #[s0, s1, .val (.int i2), s3, s4, s5, s6, s7, s8, s9, s10, s11, s12, s13, s14] [(.int i2)])) _
  refine XS.iconst X0.here hx rfl (hb hby at_112) ?_
  show Steps p.tables e below (T0.setTop (mkF m 113 #[s0, s1, .val (.int i2), s3, s4, s5, s6, s7, s8, s9, s10, s11, s12, s13, s14] [(.int (1 : Int32)), (.int i2)])) _
  refine XS.iand X0.here hx rfl (hb hby at_113) rfl ?_
  show Steps p.tables e below (T0.setTop (mkF m 114 #[s0, s1, .val (.int i2), s3, s4, s5, s6, s7, s8, s9, s10, s11, s12, s13, s14] [(.int (i2 &&& (1 : Int32)))])) _
  refine XS.ifYes X0.here hx rfl (pc0 := 114) (pc' := 127) rfl (hb hby at_114) rfl ((if0 _ _).trans (teq hc114).1) (by decide) (by decide) ?_
  exact kt

set_option maxRecDepth 65536 in
set_option maxHeartbeats 40000000 in
theorem s4_0_g {p : Program} {l : Launch} {e : Env} {s : State} {m : MethodId} {args : Array Value} {below : List Frame} {meth : Method} {c : Code} {T0 : State} {locs : List Loc} {Z : State} {a0 : Array Value} {h0 : Heap} {n0 : Nat} (s0 : Slot) (s1 : Slot) (i2 : Int32) (s3 : Slot) (s4 : Slot) (s5 : Slot) (s6 : Slot) (o7 : Addr) (s8 : Slot) (o9 : Addr) (s10 : Slot) (s11 : Slot) (s12 : Slot) (s13 : Slot) (s14 : Slot) (mc : Int32) (wD : Addr) (cl_wD : Cell)
    (X0 : Stand p l e room_1 s m args below meth c T0 locs 7 24) (hx : p.tables.exec = Jvm.exec) (hZ : Z.Warmed39 s.vm) (hw : ∀ d ∈ tables_1, d.before a0 Z = true) (hby : c.code = code) (hml : c.maxLocals = 15) (hown : s.vm.findClass "com/example/bindspire/bindspire/ChoiceChosenPinLaw" = some m.cls) (e0 : T0.heap = h0) (N0 : Fr n0 locs) (Z0 : n0 ≤ h0.size) (Od0 : Old Z n0 h0) (E_o9 : Exa Z h0 o9 "java/util/ArrayList") (E_o7 : Exa Z h0 o7 "com/example/bindspire/bindspire/Overloads$Candidate") (F_modCount_o9 : Fld Z h0 o9 "java/util/AbstractList" "modCount" "I" (.int mc)) (F_size_o9 : Fld Z h0 o9 "java/util/ArrayList" "size" "I" (.int (0 : Int32))) (F_elementData_o9 : Fld Z h0 o9 "java/util/ArrayList" "elementData" "[Ljava/lang/Object;" (.ref wD)) (S_DEFAULTCAPACITY_EMPTY_ELEMENTDATA : Sta Z Z.heap "java/util/ArrayList" "DEFAULTCAPACITY_EMPTY_ELEMENTDATA" "[Ljava/lang/Object;" (.ref wD)) (Ar_wD : Arr Z Z.heap wD cl_wD (.object "java/lang/Object")) (S_wD : cl_wD.slots.size = (0 : Int32).toNatClampNeg) (g_o9 : n0 ≤ o9) (hc114 : ¬ ((i2 &&& (1 : Int32)) = (0 : Int32))) :
    ∃ (T' : State) (L' : List Loc) (h' : Heap) (b : Addr), Stand p l e room_1 s m args below meth c T' L' 8 34 ∧ Fr n0 L' ∧ T'.heap = h' ∧ Old Z n0 h' ∧ Keep h0 h' [o9] ∧ h0.size ≤ b ∧ own_L1 Z h' o9 b ((0 : Int32) + (1 : Int32)) ([.null, .null, .null, .null, .null, .null, .null, .null, .null, .null].set 0 (.ref o7)) ∧
      ∀ target, Steps p.tables e below (T'.setTop (mkF m 127 #[s0, s1, .val (.int i2), s3, s4, s5, s6, .val (.ref o7), s8, .val (.ref o9), s10, s11, s12, s13, s14] [])) target → Steps p.tables e below (T0.setTop (mkF m 111 #[s0, s1, .val (.int i2), s3, s4, s5, s6, .val (.ref o7), s8, .val (.ref o9), s10, s11, s12, s13, s14] [])) target := by
  obtain ⟨cq1, kq1, q1a, q1b, q1c⟩ := isOf hZ e0 E_o9
  obtain ⟨_, _, ⟨T1, L1, k1, n1⟩, -, X1, ⟨Lc1, hQ1, l1, y1, z1⟩, st1⟩ := X0.interfaceBack hx (xi := (⟨"java/util/List", "add", "(Ljava/lang/Object;)Z"⟩ : MethodName)) (y := (⟨"java/util/ArrayList", "add", "(Ljava/lang/Object;)Z"⟩ : MethodName)) hown (mvT hZ (hw _ (List.mem_of_getElem? (i := 42) rfl))) (mvT hZ (hw _ (List.mem_of_getElem? (i := 43) rfl))) (mvT hZ (hw _ (List.mem_of_getElem? (i := 44) rfl))) (mvT hZ (hw _ (List.mem_of_getElem? (i := 45) rfl))) (mvT hZ (hw _ (List.mem_of_getElem? (i := 46) rfl))) (mvT hZ (hw _ (List.mem_of_getElem? (i := 47) rfl))) (mvT hZ (hw _ (List.mem_of_getElem? (i := 48) rfl))) (mvT hZ (hw _ (List.mem_of_getElem? (i := 49) rfl))) (by decide) (backOf (W := 0) (rm7_g l Z a0 hw [] o9 o7 mc wD cl_wD h0 n0 Z0 Od0 E_o9 E_o7 F_modCount_o9 F_size_o9 F_elementData_o9 g_o9 S_DEFAULTCAPACITY_EMPTY_ELEMENTDATA (Ar_wD.ext Od0.2) S_wD) hZ (hw _ (List.mem_of_getElem? (i := 50) rfl)) (hw _ (List.mem_of_getElem? (i := 20) rfl)) (by decide) (by decide)) q1a q1b q1c (g := (mkF m 121 #[s0, s1, .val (.int i2), s3, s4, s5, s6, .val (.ref o7), s8, .val (.ref o9), s10, s11, s12, s13, s14] [(.ref o7), (.ref o9)])) rfl (by rw [hml]; rfl) (Steps.refl _) (argsL := [(.ref o7)]) (rest := []) (lenOf pd_0_2 rfl) rfl (by show 2 * 0 + _ ≤ _; exact Nat.le_of_eq rfl) (hb hby at_121) (fun _ _ => ⟨rfl, e0, (by decide : 7 + 1 ≤ _), (by decide : 24 + 10 ≤ _)⟩)
  dsimp only [Pt.U, Pt.locs, Pt.cells, Pt.slots] at X1 l1 y1 z1 st1 hQ1
  subst l1 y1 z1
  obtain ⟨b1, rfl, N1q, K1, hz1, E1q, ⟨mc1, Fm1⟩, Fs1, Fe1, kc1, Ov1, V1q⟩ := hQ1
  have N1 := Fr.app N0 N1q
  have g_b1 : n0 ≤ b1 := Nat.le_trans Z0 hz1
  have sz_b1 : h0.size ≤ b1 := Nat.le_trans (Keep.refl h0 [o9]).1 hz1
  have KK1 : Keep h0 T1.heap [o9] := Keep.trans (Keep.refl h0 [o9]) K1 (allS (Or.inl (List.mem_of_getElem? (i := 0) rfl)) all0)
  have Od1 := Old.keep Od0 K1 (allS (g_o9) all0)
  refine ⟨T1, _, _, b1, X1, N1, rfl, Od1, KK1, hz1, ⟨E1q, ⟨_, Fm1⟩, Fs1, Fe1, kc1, Ov1, V1q⟩, fun target kt => ?_⟩
  show Steps p.tables e below (T0.setTop (mkF m 111 #[s0, s1, .val (.int i2), s3, s4, s5, s6, .val (.ref o7), s8, .val (.ref o9), s10, s11, s12, s13, s14] [])) _
  refine XS.iloadN X0.here hx rfl (hb hby at_111) rfl ?_
  show Steps p.tables e below (T0.setTop (mkF m 112 #[s0, s1, .val (.int i2), s3, s4, s5, s6, .val (.ref o7), s8, .val (.ref o9), s10, s11, s12, s13, s14] [(.int i2)])) _
  refine XS.iconst X0.here hx rfl (hb hby at_112) ?_
  show Steps p.tables e below (T0.setTop (mkF m 113 #[s0, s1, .val (.int i2), s3, s4, s5, s6, .val (.ref o7), s8, .val (.ref o9), s10, s11, s12, s13, s14] [(.int (1 : Int32)), (.int i2)])) _
  refine XS.iand X0.here hx rfl (hb hby at_113) rfl ?_
  show Steps p.tables e below (T0.setTop (mkF m 114 #[s0, s1, .val (.int i2), s3, s4, s5, s6, .val (.ref o7), s8, .val (.ref o9), s10, s11, s12, s13, s14] [(.int (i2 &&& (1 : Int32)))])) _
  refine XS.ifNo X0.here hx rfl (hb hby at_114) rfl ((if0 _ _).trans (feq hc114).1) ?_
  show Steps p.tables e below (T0.setTop (mkF m 117 #[s0, s1, .val (.int i2), s3, s4, s5, s6, .val (.ref o7), s8, .val (.ref o9), s10, s11, s12, s13, s14] [])) _
  refine XS.aload X0.here hx rfl (hb hby at_117) rfl rfl ?_
  show Steps p.tables e below (T0.setTop (mkF m 119 #[s0, s1, .val (.int i2), s3, s4, s5, s6, .val (.ref o7), s8, .val (.ref o9), s10, s11, s12, s13, s14] [(.ref o9)])) _
  refine XS.aload X0.here hx rfl (hb hby at_119) rfl rfl ?_
  show Steps p.tables e below (T0.setTop (mkF m 121 #[s0, s1, .val (.int i2), s3, s4, s5, s6, .val (.ref o7), s8, .val (.ref o9), s10, s11, s12, s13, s14] [(.ref o7), (.ref o9)])) _
  refine st1.trans ?_
  show Steps p.tables e below (T1.setTop (mkF m 126 #[s0, s1, .val (.int i2), s3, s4, s5, s6, .val (.ref o7), s8, .val (.ref o9), s10, s11, s12, s13, s14] [(.int (1 : Int32))])) _
  refine XS.pop X1.here hx rfl (hb hby at_126) rfl rfl ?_
  exact kt

set_option maxRecDepth 65536 in
set_option maxHeartbeats 40000000 in
theorem s4_0_s {p : Program} {l : Launch} {e : Env} {s : State} {m : MethodId} {args : Array Value} {below : List Frame} {meth : Method} {c : Code} {T0 : State} {locs : List Loc} {Z : State} {a0 : Array Value} {h0 : Heap} {n0 : Nat} (s0 : Slot) (s1 : Slot) (i2 : Int32) (s3 : Slot) (s4 : Slot) (s5 : Slot) (s6 : Slot) (o7 : Addr) (s8 : Slot) (o9 : Addr) (s10 : Slot) (s11 : Slot) (s12 : Slot) (s13 : Slot) (s14 : Slot) (kc : ClassId) (vs : List Value) (mc k : Int32) (b : Addr)
    (X0 : Stand p l e room_1 s m args below meth c T0 locs 7 24) (hx : p.tables.exec = Jvm.exec) (hZ : Z.Warmed39 s.vm) (hw : ∀ d ∈ tables_1, d.before a0 Z = true) (hby : c.code = code) (hml : c.maxLocals = 15) (hown : s.vm.findClass "com/example/bindspire/bindspire/ChoiceChosenPinLaw" = some m.cls) (e0 : T0.heap = h0) (N0 : Fr n0 locs) (Z0 : n0 ≤ h0.size) (Od0 : Old Z n0 h0) (E_o9 : Exa Z h0 o9 "java/util/ArrayList") (E_o7 : Exa Z h0 o7 "com/example/bindspire/bindspire/Overloads$Candidate") (F_modCount_o9 : Fld Z h0 o9 "java/util/AbstractList" "modCount" "I" (.int mc)) (F_size_o9 : Fld Z h0 o9 "java/util/ArrayList" "size" "I" (.int k)) (F_elementData_o9 : Fld Z h0 o9 "java/util/ArrayList" "elementData" "[Ljava/lang/Object;" (.ref b)) (V_b : Arv Z h0 b kc (.object "java/lang/Object") (10 : Int32) vs .null) (Ov_b : Ovr Z kc "java/lang/Object") (g_b : n0 ≤ b) (hne : o9 ≠ b) (hj : ¬ (k < 0) ∧ k < (10 : Int32)) (hl : (k).toNatClampNeg < vs.length) (hk : ¬ (k = (10 : Int32))) (g_o9 : n0 ≤ o9) (hc114 : ¬ ((i2 &&& (1 : Int32)) = (0 : Int32))) :
    ∃ (T' : State) (L' : List Loc) (h' : Heap), Stand p l e room_1 s m args below meth c T' L' 7 24 ∧ Fr n0 L' ∧ T'.heap = h' ∧ Old Z n0 h' ∧ Keep h0 h' [o9, b] ∧ own_L1 Z h' o9 b (k + (1 : Int32)) (vs.set (k).toNatClampNeg (.ref o7)) ∧
      ∀ target, Steps p.tables e below (T'.setTop (mkF m 127 #[s0, s1, .val (.int i2), s3, s4, s5, s6, .val (.ref o7), s8, .val (.ref o9), s10, s11, s12, s13, s14] [])) target → Steps p.tables e below (T0.setTop (mkF m 111 #[s0, s1, .val (.int i2), s3, s4, s5, s6, .val (.ref o7), s8, .val (.ref o9), s10, s11, s12, s13, s14] [])) target := by
  obtain ⟨cq1, kq1, q1a, q1b, q1c⟩ := isOf hZ e0 E_o9
  obtain ⟨_, _, ⟨T1, L1, k1, n1⟩, -, X1, ⟨Lc1, hQ1, l1, y1, z1⟩, st1⟩ := X0.interfaceBack hx (xi := (⟨"java/util/List", "add", "(Ljava/lang/Object;)Z"⟩ : MethodName)) (y := (⟨"java/util/ArrayList", "add", "(Ljava/lang/Object;)Z"⟩ : MethodName)) hown (mvT hZ (hw _ (List.mem_of_getElem? (i := 42) rfl))) (mvT hZ (hw _ (List.mem_of_getElem? (i := 43) rfl))) (mvT hZ (hw _ (List.mem_of_getElem? (i := 44) rfl))) (mvT hZ (hw _ (List.mem_of_getElem? (i := 45) rfl))) (mvT hZ (hw _ (List.mem_of_getElem? (i := 46) rfl))) (mvT hZ (hw _ (List.mem_of_getElem? (i := 47) rfl))) (mvT hZ (hw _ (List.mem_of_getElem? (i := 48) rfl))) (mvT hZ (hw _ (List.mem_of_getElem? (i := 49) rfl))) (by decide) (backOf (W := 0) (rm7_s l Z a0 hw [] o9 o7 kc vs mc k b h0 n0 Z0 E_o9 E_o7 F_modCount_o9 F_size_o9 F_elementData_o9 V_b Ov_b g_b g_o9 hne hj hl hk) hZ (hw _ (List.mem_of_getElem? (i := 50) rfl)) (hw _ (List.mem_of_getElem? (i := 20) rfl)) (by decide) (by decide)) q1a q1b q1c (g := (mkF m 121 #[s0, s1, .val (.int i2), s3, s4, s5, s6, .val (.ref o7), s8, .val (.ref o9), s10, s11, s12, s13, s14] [(.ref o7), (.ref o9)])) rfl (by rw [hml]; rfl) (Steps.refl _) (argsL := [(.ref o7)]) (rest := []) (lenOf pd_0_2 rfl) rfl (by show 2 * 0 + _ ≤ _; exact Nat.le_of_eq rfl) (hb hby at_121) (fun _ _ => ⟨rfl, e0, (by decide : 7 + 0 ≤ _), (by decide : 24 + 0 ≤ _)⟩)
  dsimp only [Pt.U, Pt.locs, Pt.cells, Pt.slots] at X1 l1 y1 z1 st1 hQ1
  subst l1 y1 z1
  obtain ⟨rfl, N1q, K1, E1q, ⟨mc1, Fm1⟩, Fs1, Fe1, kc1, Ov1, V1q⟩ := hQ1
  have N1 := Fr.app N0 N1q
  have KK1 : Keep h0 T1.heap [o9, b] := Keep.trans (Keep.refl h0 [o9, b]) K1 (allS (Or.inl (List.mem_of_getElem? (i := 0) rfl)) (allS (Or.inl (List.mem_of_getElem? (i := 1) rfl)) all0))
  have Od1 := Old.keep Od0 K1 (allS (g_o9) (allS (g_b) all0))
  refine ⟨T1, _, _, X1, N1, rfl, Od1, KK1, ⟨E1q, ⟨_, Fm1⟩, Fs1, Fe1, kc1, Ov1, V1q⟩, fun target kt => ?_⟩
  show Steps p.tables e below (T0.setTop (mkF m 111 #[s0, s1, .val (.int i2), s3, s4, s5, s6, .val (.ref o7), s8, .val (.ref o9), s10, s11, s12, s13, s14] [])) _
  refine XS.iloadN X0.here hx rfl (hb hby at_111) rfl ?_
  show Steps p.tables e below (T0.setTop (mkF m 112 #[s0, s1, .val (.int i2), s3, s4, s5, s6, .val (.ref o7), s8, .val (.ref o9), s10, s11, s12, s13, s14] [(.int i2)])) _
  refine XS.iconst X0.here hx rfl (hb hby at_112) ?_
  show Steps p.tables e below (T0.setTop (mkF m 113 #[s0, s1, .val (.int i2), s3, s4, s5, s6, .val (.ref o7), s8, .val (.ref o9), s10, s11, s12, s13, s14] [(.int (1 : Int32)), (.int i2)])) _
  refine XS.iand X0.here hx rfl (hb hby at_113) rfl ?_
  show Steps p.tables e below (T0.setTop (mkF m 114 #[s0, s1, .val (.int i2), s3, s4, s5, s6, .val (.ref o7), s8, .val (.ref o9), s10, s11, s12, s13, s14] [(.int (i2 &&& (1 : Int32)))])) _
  refine XS.ifNo X0.here hx rfl (hb hby at_114) rfl ((if0 _ _).trans (feq hc114).1) ?_
  show Steps p.tables e below (T0.setTop (mkF m 117 #[s0, s1, .val (.int i2), s3, s4, s5, s6, .val (.ref o7), s8, .val (.ref o9), s10, s11, s12, s13, s14] [])) _
  refine XS.aload X0.here hx rfl (hb hby at_117) rfl rfl ?_
  show Steps p.tables e below (T0.setTop (mkF m 119 #[s0, s1, .val (.int i2), s3, s4, s5, s6, .val (.ref o7), s8, .val (.ref o9), s10, s11, s12, s13, s14] [(.ref o9)])) _
  refine XS.aload X0.here hx rfl (hb hby at_119) rfl rfl ?_
  show Steps p.tables e below (T0.setTop (mkF m 121 #[s0, s1, .val (.int i2), s3, s4, s5, s6, .val (.ref o7), s8, .val (.ref o9), s10, s11, s12, s13, s14] [(.ref o7), (.ref o9)])) _
  refine st1.trans ?_
  show Steps p.tables e below (T1.setTop (mkF m 126 #[s0, s1, .val (.int i2), s3, s4, s5, s6, .val (.ref o7), s8, .val (.ref o9), s10, s11, s12, s13, s14] [(.int (1 : Int32))])) _
  refine XS.pop X1.here hx rfl (hb hby at_126) rfl rfl ?_
  exact kt

set_option maxRecDepth 65536 in
set_option maxHeartbeats 40000000 in
theorem s4_1_t {p : Program} {l : Launch} {e : Env} {s : State} {m : MethodId} {args : Array Value} {below : List Frame} {meth : Method} {c : Code} {T0 : State} {locs : List Loc} {Z : State} {a0 : Array Value} {h0 : Heap} {n0 : Nat} (s0 : Slot) (s1 : Slot) (s2 : Slot) (i3 : Int32) (s4 : Slot) (s5 : Slot) (s6 : Slot) (s7 : Slot) (s8 : Slot) (s9 : Slot) (s10 : Slot) (s11 : Slot) (s12 : Slot) (s13 : Slot) (s14 : Slot) 
    (X0 : Stand p l e room_1 s m args below meth c T0 locs 8 34) (hx : p.tables.exec = Jvm.exec) (hZ : Z.Warmed39 s.vm) (hw : ∀ d ∈ tables_1, d.before a0 Z = true) (hby : c.code = code) (hml : c.maxLocals = 15) (hown : s.vm.findClass "com/example/bindspire/bindspire/ChoiceChosenPinLaw" = some m.cls) (e0 : T0.heap = h0) (N0 : Fr n0 locs) (Z0 : n0 ≤ h0.size)  (hc129 : i3 < (1 : Int32)) :
    ∃ (T' : State) (L' : List Loc) (h' : Heap), Stand p l e room_1 s m args below meth c T' L' 8 34 ∧ Fr n0 L' ∧ T'.heap = h' ∧ h' = h0 ∧
      ∀ target, Steps p.tables e below (T'.setTop (mkF m 142 #[s0, s1, s2, .val (.int i3), s4, s5, s6, s7, s8, s9, s10, s11, s12, s13, s14] [])) target → Steps p.tables e below (T0.setTop (mkF m 127 #[s0, s1, s2, .val (.int i3), s4, s5, s6, s7, s8, s9, s10, s11, s12, s13, s14] [])) target := by

  refine ⟨T0, _, _, X0, N0, e0, rfl, fun target kt => ?_⟩
  show Steps p.tables e below (T0.setTop (mkF m 127 #[s0, s1, s2, .val (.int i3), s4, s5, s6, s7, s8, s9, s10, s11, s12, s13, s14] [])) _
  refine XS.iloadN X0.here hx rfl (hb hby at_127) rfl ?_
  show Steps p.tables e below (T0.setTop (mkF m 128 #[s0, s1, s2, .val (.int i3), s4, s5, s6, s7, s8, s9, s10, s11, s12, s13, s14] [(.int i3)])) _
  refine XS.iconst X0.here hx rfl (hb hby at_128) ?_
  show Steps p.tables e below (T0.setTop (mkF m 129 #[s0, s1, s2, .val (.int i3), s4, s5, s6, s7, s8, s9, s10, s11, s12, s13, s14] [(.int (1 : Int32)), (.int i3)])) _
  refine XS.icmpYes X0.here hx rfl (pc0 := 129) (pc' := 142) rfl (hb hby at_129) rfl (tlt hc129).1 (by decide) (by decide) ?_
  exact kt

set_option maxRecDepth 65536 in
set_option maxHeartbeats 40000000 in
theorem s4_1_g {p : Program} {l : Launch} {e : Env} {s : State} {m : MethodId} {args : Array Value} {below : List Frame} {meth : Method} {c : Code} {T0 : State} {locs : List Loc} {Z : State} {a0 : Array Value} {h0 : Heap} {n0 : Nat} (s0 : Slot) (s1 : Slot) (s2 : Slot) (i3 : Int32) (o4 : Addr) (s5 : Slot) (s6 : Slot) (s7 : Slot) (s8 : Slot) (o9 : Addr) (s10 : Slot) (s11 : Slot) (s12 : Slot) (s13 : Slot) (s14 : Slot) (mc : Int32) (wD : Addr) (cl_wD : Cell)
    (X0 : Stand p l e room_1 s m args below meth c T0 locs 8 34) (hx : p.tables.exec = Jvm.exec) (hZ : Z.Warmed39 s.vm) (hw : ∀ d ∈ tables_1, d.before a0 Z = true) (hby : c.code = code) (hml : c.maxLocals = 15) (hown : s.vm.findClass "com/example/bindspire/bindspire/ChoiceChosenPinLaw" = some m.cls) (e0 : T0.heap = h0) (N0 : Fr n0 locs) (Z0 : n0 ≤ h0.size) (Od0 : Old Z n0 h0) (E_o9 : Exa Z h0 o9 "java/util/ArrayList") (E_o4 : Exa Z h0 o4 "com/example/bindspire/bindspire/Overloads$Candidate") (F_modCount_o9 : Fld Z h0 o9 "java/util/AbstractList" "modCount" "I" (.int mc)) (F_size_o9 : Fld Z h0 o9 "java/util/ArrayList" "size" "I" (.int (0 : Int32))) (F_elementData_o9 : Fld Z h0 o9 "java/util/ArrayList" "elementData" "[Ljava/lang/Object;" (.ref wD)) (S_DEFAULTCAPACITY_EMPTY_ELEMENTDATA : Sta Z Z.heap "java/util/ArrayList" "DEFAULTCAPACITY_EMPTY_ELEMENTDATA" "[Ljava/lang/Object;" (.ref wD)) (Ar_wD : Arr Z Z.heap wD cl_wD (.object "java/lang/Object")) (S_wD : cl_wD.slots.size = (0 : Int32).toNatClampNeg) (g_o9 : n0 ≤ o9) (hc129 : ¬ (i3 < (1 : Int32))) :
    ∃ (T' : State) (L' : List Loc) (h' : Heap) (b : Addr), Stand p l e room_1 s m args below meth c T' L' 9 44 ∧ Fr n0 L' ∧ T'.heap = h' ∧ Old Z n0 h' ∧ Keep h0 h' [o9] ∧ h0.size ≤ b ∧ own_L1 Z h' o9 b ((0 : Int32) + (1 : Int32)) ([.null, .null, .null, .null, .null, .null, .null, .null, .null, .null].set 0 (.ref o4)) ∧
      ∀ target, Steps p.tables e below (T'.setTop (mkF m 142 #[s0, s1, s2, .val (.int i3), .val (.ref o4), s5, s6, s7, s8, .val (.ref o9), s10, s11, s12, s13, s14] [])) target → Steps p.tables e below (T0.setTop (mkF m 127 #[s0, s1, s2, .val (.int i3), .val (.ref o4), s5, s6, s7, s8, .val (.ref o9), s10, s11, s12, s13, s14] [])) target := by
  obtain ⟨cq1, kq1, q1a, q1b, q1c⟩ := isOf hZ e0 E_o9
  obtain ⟨_, _, ⟨T1, L1, k1, n1⟩, -, X1, ⟨Lc1, hQ1, l1, y1, z1⟩, st1⟩ := X0.interfaceBack hx (xi := (⟨"java/util/List", "add", "(Ljava/lang/Object;)Z"⟩ : MethodName)) (y := (⟨"java/util/ArrayList", "add", "(Ljava/lang/Object;)Z"⟩ : MethodName)) hown (mvT hZ (hw _ (List.mem_of_getElem? (i := 42) rfl))) (mvT hZ (hw _ (List.mem_of_getElem? (i := 43) rfl))) (mvT hZ (hw _ (List.mem_of_getElem? (i := 44) rfl))) (mvT hZ (hw _ (List.mem_of_getElem? (i := 45) rfl))) (mvT hZ (hw _ (List.mem_of_getElem? (i := 46) rfl))) (mvT hZ (hw _ (List.mem_of_getElem? (i := 47) rfl))) (mvT hZ (hw _ (List.mem_of_getElem? (i := 48) rfl))) (mvT hZ (hw _ (List.mem_of_getElem? (i := 49) rfl))) (by decide) (backOf (W := 0) (rm7_g l Z a0 hw [] o9 o4 mc wD cl_wD h0 n0 Z0 Od0 E_o9 E_o4 F_modCount_o9 F_size_o9 F_elementData_o9 g_o9 S_DEFAULTCAPACITY_EMPTY_ELEMENTDATA (Ar_wD.ext Od0.2) S_wD) hZ (hw _ (List.mem_of_getElem? (i := 50) rfl)) (hw _ (List.mem_of_getElem? (i := 20) rfl)) (by decide) (by decide)) q1a q1b q1c (g := (mkF m 136 #[s0, s1, s2, .val (.int i3), .val (.ref o4), s5, s6, s7, s8, .val (.ref o9), s10, s11, s12, s13, s14] [(.ref o4), (.ref o9)])) rfl (by rw [hml]; rfl) (Steps.refl _) (argsL := [(.ref o4)]) (rest := []) (lenOf pd_0_2 rfl) rfl (by show 2 * 0 + _ ≤ _; exact Nat.le_of_eq rfl) (hb hby at_136) (fun _ _ => ⟨rfl, e0, (by decide : 8 + 1 ≤ _), (by decide : 34 + 10 ≤ _)⟩)
  dsimp only [Pt.U, Pt.locs, Pt.cells, Pt.slots] at X1 l1 y1 z1 st1 hQ1
  subst l1 y1 z1
  obtain ⟨b1, rfl, N1q, K1, hz1, E1q, ⟨mc1, Fm1⟩, Fs1, Fe1, kc1, Ov1, V1q⟩ := hQ1
  have N1 := Fr.app N0 N1q
  have g_b1 : n0 ≤ b1 := Nat.le_trans Z0 hz1
  have sz_b1 : h0.size ≤ b1 := Nat.le_trans (Keep.refl h0 [o9]).1 hz1
  have KK1 : Keep h0 T1.heap [o9] := Keep.trans (Keep.refl h0 [o9]) K1 (allS (Or.inl (List.mem_of_getElem? (i := 0) rfl)) all0)
  have Od1 := Old.keep Od0 K1 (allS (g_o9) all0)
  refine ⟨T1, _, _, b1, X1, N1, rfl, Od1, KK1, hz1, ⟨E1q, ⟨_, Fm1⟩, Fs1, Fe1, kc1, Ov1, V1q⟩, fun target kt => ?_⟩
  show Steps p.tables e below (T0.setTop (mkF m 127 #[s0, s1, s2, .val (.int i3), .val (.ref o4), s5, s6, s7, s8, .val (.ref o9), s10, s11, s12, s13, s14] [])) _
  refine XS.iloadN X0.here hx rfl (hb hby at_127) rfl ?_
  show Steps p.tables e below (T0.setTop (mkF m 128 #[s0, s1, s2, .val (.int i3), .val (.ref o4), s5, s6, s7, s8, .val (.ref o9), s10, s11, s12, s13, s14] [(.int i3)])) _
  refine XS.iconst X0.here hx rfl (hb hby at_128) ?_
  show Steps p.tables e below (T0.setTop (mkF m 129 #[s0, s1, s2, .val (.int i3), .val (.ref o4), s5, s6, s7, s8, .val (.ref o9), s10, s11, s12, s13, s14] [(.int (1 : Int32)), (.int i3)])) _
  refine XS.icmpNo X0.here hx rfl (hb hby at_129) rfl (flt hc129).1 ?_
  show Steps p.tables e below (T0.setTop (mkF m 132 #[s0, s1, s2, .val (.int i3), .val (.ref o4), s5, s6, s7, s8, .val (.ref o9), s10, s11, s12, s13, s14] [])) _
  refine XS.aload X0.here hx rfl (hb hby at_132) rfl rfl ?_
  show Steps p.tables e below (T0.setTop (mkF m 134 #[s0, s1, s2, .val (.int i3), .val (.ref o4), s5, s6, s7, s8, .val (.ref o9), s10, s11, s12, s13, s14] [(.ref o9)])) _
  refine XS.aload X0.here hx rfl (hb hby at_134) rfl rfl ?_
  show Steps p.tables e below (T0.setTop (mkF m 136 #[s0, s1, s2, .val (.int i3), .val (.ref o4), s5, s6, s7, s8, .val (.ref o9), s10, s11, s12, s13, s14] [(.ref o4), (.ref o9)])) _
  refine st1.trans ?_
  show Steps p.tables e below (T1.setTop (mkF m 141 #[s0, s1, s2, .val (.int i3), .val (.ref o4), s5, s6, s7, s8, .val (.ref o9), s10, s11, s12, s13, s14] [(.int (1 : Int32))])) _
  refine XS.pop X1.here hx rfl (hb hby at_141) rfl rfl ?_
  exact kt

set_option maxRecDepth 65536 in
set_option maxHeartbeats 40000000 in
theorem s4_1_s {p : Program} {l : Launch} {e : Env} {s : State} {m : MethodId} {args : Array Value} {below : List Frame} {meth : Method} {c : Code} {T0 : State} {locs : List Loc} {Z : State} {a0 : Array Value} {h0 : Heap} {n0 : Nat} (s0 : Slot) (s1 : Slot) (s2 : Slot) (i3 : Int32) (o4 : Addr) (s5 : Slot) (s6 : Slot) (s7 : Slot) (s8 : Slot) (o9 : Addr) (s10 : Slot) (s11 : Slot) (s12 : Slot) (s13 : Slot) (s14 : Slot) (kc : ClassId) (vs : List Value) (mc k : Int32) (b : Addr)
    (X0 : Stand p l e room_1 s m args below meth c T0 locs 8 34) (hx : p.tables.exec = Jvm.exec) (hZ : Z.Warmed39 s.vm) (hw : ∀ d ∈ tables_1, d.before a0 Z = true) (hby : c.code = code) (hml : c.maxLocals = 15) (hown : s.vm.findClass "com/example/bindspire/bindspire/ChoiceChosenPinLaw" = some m.cls) (e0 : T0.heap = h0) (N0 : Fr n0 locs) (Z0 : n0 ≤ h0.size) (Od0 : Old Z n0 h0) (E_o9 : Exa Z h0 o9 "java/util/ArrayList") (E_o4 : Exa Z h0 o4 "com/example/bindspire/bindspire/Overloads$Candidate") (F_modCount_o9 : Fld Z h0 o9 "java/util/AbstractList" "modCount" "I" (.int mc)) (F_size_o9 : Fld Z h0 o9 "java/util/ArrayList" "size" "I" (.int k)) (F_elementData_o9 : Fld Z h0 o9 "java/util/ArrayList" "elementData" "[Ljava/lang/Object;" (.ref b)) (V_b : Arv Z h0 b kc (.object "java/lang/Object") (10 : Int32) vs .null) (Ov_b : Ovr Z kc "java/lang/Object") (g_b : n0 ≤ b) (hne : o9 ≠ b) (hj : ¬ (k < 0) ∧ k < (10 : Int32)) (hl : (k).toNatClampNeg < vs.length) (hk : ¬ (k = (10 : Int32))) (g_o9 : n0 ≤ o9) (hc129 : ¬ (i3 < (1 : Int32))) :
    ∃ (T' : State) (L' : List Loc) (h' : Heap), Stand p l e room_1 s m args below meth c T' L' 8 34 ∧ Fr n0 L' ∧ T'.heap = h' ∧ Old Z n0 h' ∧ Keep h0 h' [o9, b] ∧ own_L1 Z h' o9 b (k + (1 : Int32)) (vs.set (k).toNatClampNeg (.ref o4)) ∧
      ∀ target, Steps p.tables e below (T'.setTop (mkF m 142 #[s0, s1, s2, .val (.int i3), .val (.ref o4), s5, s6, s7, s8, .val (.ref o9), s10, s11, s12, s13, s14] [])) target → Steps p.tables e below (T0.setTop (mkF m 127 #[s0, s1, s2, .val (.int i3), .val (.ref o4), s5, s6, s7, s8, .val (.ref o9), s10, s11, s12, s13, s14] [])) target := by
  obtain ⟨cq1, kq1, q1a, q1b, q1c⟩ := isOf hZ e0 E_o9
  obtain ⟨_, _, ⟨T1, L1, k1, n1⟩, -, X1, ⟨Lc1, hQ1, l1, y1, z1⟩, st1⟩ := X0.interfaceBack hx (xi := (⟨"java/util/List", "add", "(Ljava/lang/Object;)Z"⟩ : MethodName)) (y := (⟨"java/util/ArrayList", "add", "(Ljava/lang/Object;)Z"⟩ : MethodName)) hown (mvT hZ (hw _ (List.mem_of_getElem? (i := 42) rfl))) (mvT hZ (hw _ (List.mem_of_getElem? (i := 43) rfl))) (mvT hZ (hw _ (List.mem_of_getElem? (i := 44) rfl))) (mvT hZ (hw _ (List.mem_of_getElem? (i := 45) rfl))) (mvT hZ (hw _ (List.mem_of_getElem? (i := 46) rfl))) (mvT hZ (hw _ (List.mem_of_getElem? (i := 47) rfl))) (mvT hZ (hw _ (List.mem_of_getElem? (i := 48) rfl))) (mvT hZ (hw _ (List.mem_of_getElem? (i := 49) rfl))) (by decide) (backOf (W := 0) (rm7_s l Z a0 hw [] o9 o4 kc vs mc k b h0 n0 Z0 E_o9 E_o4 F_modCount_o9 F_size_o9 F_elementData_o9 V_b Ov_b g_b g_o9 hne hj hl hk) hZ (hw _ (List.mem_of_getElem? (i := 50) rfl)) (hw _ (List.mem_of_getElem? (i := 20) rfl)) (by decide) (by decide)) q1a q1b q1c (g := (mkF m 136 #[s0, s1, s2, .val (.int i3), .val (.ref o4), s5, s6, s7, s8, .val (.ref o9), s10, s11, s12, s13, s14] [(.ref o4), (.ref o9)])) rfl (by rw [hml]; rfl) (Steps.refl _) (argsL := [(.ref o4)]) (rest := []) (lenOf pd_0_2 rfl) rfl (by show 2 * 0 + _ ≤ _; exact Nat.le_of_eq rfl) (hb hby at_136) (fun _ _ => ⟨rfl, e0, (by decide : 8 + 0 ≤ _), (by decide : 34 + 0 ≤ _)⟩)
  dsimp only [Pt.U, Pt.locs, Pt.cells, Pt.slots] at X1 l1 y1 z1 st1 hQ1
  subst l1 y1 z1
  obtain ⟨rfl, N1q, K1, E1q, ⟨mc1, Fm1⟩, Fs1, Fe1, kc1, Ov1, V1q⟩ := hQ1
  have N1 := Fr.app N0 N1q
  have KK1 : Keep h0 T1.heap [o9, b] := Keep.trans (Keep.refl h0 [o9, b]) K1 (allS (Or.inl (List.mem_of_getElem? (i := 0) rfl)) (allS (Or.inl (List.mem_of_getElem? (i := 1) rfl)) all0))
  have Od1 := Old.keep Od0 K1 (allS (g_o9) (allS (g_b) all0))
  refine ⟨T1, _, _, X1, N1, rfl, Od1, KK1, ⟨E1q, ⟨_, Fm1⟩, Fs1, Fe1, kc1, Ov1, V1q⟩, fun target kt => ?_⟩
  show Steps p.tables e below (T0.setTop (mkF m 127 #[s0, s1, s2, .val (.int i3), .val (.ref o4), s5, s6, s7, s8, .val (.ref o9), s10, s11, s12, s13, s14] [])) _
  refine XS.iloadN X0.here hx rfl (hb hby at_127) rfl ?_
  show Steps p.tables e below (T0.setTop (mkF m 128 #[s0, s1, s2, .val (.int i3), .val (.ref o4), s5, s6, s7, s8, .val (.ref o9), s10, s11, s12, s13, s14] [(.int i3)])) _
  refine XS.iconst X0.here hx rfl (hb hby at_128) ?_
  show Steps p.tables e below (T0.setTop (mkF m 129 #[s0, s1, s2, .val (.int i3), .val (.ref o4), s5, s6, s7, s8, .val (.ref o9), s10, s11, s12, s13, s14] [(.int (1 : Int32)), (.int i3)])) _
  refine XS.icmpNo X0.here hx rfl (hb hby at_129) rfl (flt hc129).1 ?_
  show Steps p.tables e below (T0.setTop (mkF m 132 #[s0, s1, s2, .val (.int i3), .val (.ref o4), s5, s6, s7, s8, .val (.ref o9), s10, s11, s12, s13, s14] [])) _
  refine XS.aload X0.here hx rfl (hb hby at_132) rfl rfl ?_
  show Steps p.tables e below (T0.setTop (mkF m 134 #[s0, s1, s2, .val (.int i3), .val (.ref o4), s5, s6, s7, s8, .val (.ref o9), s10, s11, s12, s13, s14] [(.ref o9)])) _
  refine XS.aload X0.here hx rfl (hb hby at_134) rfl rfl ?_
  show Steps p.tables e below (T0.setTop (mkF m 136 #[s0, s1, s2, .val (.int i3), .val (.ref o4), s5, s6, s7, s8, .val (.ref o9), s10, s11, s12, s13, s14] [(.ref o4), (.ref o9)])) _
  refine st1.trans ?_
  show Steps p.tables e below (T1.setTop (mkF m 141 #[s0, s1, s2, .val (.int i3), .val (.ref o4), s5, s6, s7, s8, .val (.ref o9), s10, s11, s12, s13, s14] [(.int (1 : Int32))])) _
  refine XS.pop X1.here hx rfl (hb hby at_141) rfl rfl ?_
  exact kt

set_option maxRecDepth 65536 in
set_option maxHeartbeats 40000000 in
theorem s4_2_t {p : Program} {l : Launch} {e : Env} {s : State} {m : MethodId} {args : Array Value} {below : List Frame} {meth : Method} {c : Code} {T0 : State} {locs : List Loc} {Z : State} {a0 : Array Value} {h0 : Heap} {n0 : Nat} (s0 : Slot) (s1 : Slot) (s2 : Slot) (i3 : Int32) (s4 : Slot) (s5 : Slot) (s6 : Slot) (s7 : Slot) (s8 : Slot) (s9 : Slot) (s10 : Slot) (s11 : Slot) (s12 : Slot) (s13 : Slot) (s14 : Slot) 
    (X0 : Stand p l e room_1 s m args below meth c T0 locs 9 44) (hx : p.tables.exec = Jvm.exec) (hZ : Z.Warmed39 s.vm) (hw : ∀ d ∈ tables_1, d.before a0 Z = true) (hby : c.code = code) (hml : c.maxLocals = 15) (hown : s.vm.findClass "com/example/bindspire/bindspire/ChoiceChosenPinLaw" = some m.cls) (e0 : T0.heap = h0) (N0 : Fr n0 locs) (Z0 : n0 ≤ h0.size)  (hc144 : i3 < (2 : Int32)) :
    ∃ (T' : State) (L' : List Loc) (h' : Heap), Stand p l e room_1 s m args below meth c T' L' 9 44 ∧ Fr n0 L' ∧ T'.heap = h' ∧ h' = h0 ∧
      ∀ target, Steps p.tables e below (T'.setTop (mkF m 157 #[s0, s1, s2, .val (.int i3), s4, s5, s6, s7, s8, s9, s10, s11, s12, s13, s14] [])) target → Steps p.tables e below (T0.setTop (mkF m 142 #[s0, s1, s2, .val (.int i3), s4, s5, s6, s7, s8, s9, s10, s11, s12, s13, s14] [])) target := by

  refine ⟨T0, _, _, X0, N0, e0, rfl, fun target kt => ?_⟩
  show Steps p.tables e below (T0.setTop (mkF m 142 #[s0, s1, s2, .val (.int i3), s4, s5, s6, s7, s8, s9, s10, s11, s12, s13, s14] [])) _
  refine XS.iloadN X0.here hx rfl (hb hby at_142) rfl ?_
  show Steps p.tables e below (T0.setTop (mkF m 143 #[s0, s1, s2, .val (.int i3), s4, s5, s6, s7, s8, s9, s10, s11, s12, s13, s14] [(.int i3)])) _
  refine XS.iconst X0.here hx rfl (hb hby at_143) ?_
  show Steps p.tables e below (T0.setTop (mkF m 144 #[s0, s1, s2, .val (.int i3), s4, s5, s6, s7, s8, s9, s10, s11, s12, s13, s14] [(.int (2 : Int32)), (.int i3)])) _
  refine XS.icmpYes X0.here hx rfl (pc0 := 144) (pc' := 157) rfl (hb hby at_144) rfl (tlt hc144).1 (by decide) (by decide) ?_
  exact kt

set_option maxRecDepth 65536 in
set_option maxHeartbeats 40000000 in
theorem s4_2_g {p : Program} {l : Launch} {e : Env} {s : State} {m : MethodId} {args : Array Value} {below : List Frame} {meth : Method} {c : Code} {T0 : State} {locs : List Loc} {Z : State} {a0 : Array Value} {h0 : Heap} {n0 : Nat} (s0 : Slot) (s1 : Slot) (s2 : Slot) (i3 : Int32) (s4 : Slot) (o5 : Addr) (s6 : Slot) (s7 : Slot) (s8 : Slot) (o9 : Addr) (s10 : Slot) (s11 : Slot) (s12 : Slot) (s13 : Slot) (s14 : Slot) (mc : Int32) (wD : Addr) (cl_wD : Cell)
    (X0 : Stand p l e room_1 s m args below meth c T0 locs 9 44) (hx : p.tables.exec = Jvm.exec) (hZ : Z.Warmed39 s.vm) (hw : ∀ d ∈ tables_1, d.before a0 Z = true) (hby : c.code = code) (hml : c.maxLocals = 15) (hown : s.vm.findClass "com/example/bindspire/bindspire/ChoiceChosenPinLaw" = some m.cls) (e0 : T0.heap = h0) (N0 : Fr n0 locs) (Z0 : n0 ≤ h0.size) (Od0 : Old Z n0 h0) (E_o9 : Exa Z h0 o9 "java/util/ArrayList") (E_o5 : Exa Z h0 o5 "com/example/bindspire/bindspire/Overloads$Candidate") (F_modCount_o9 : Fld Z h0 o9 "java/util/AbstractList" "modCount" "I" (.int mc)) (F_size_o9 : Fld Z h0 o9 "java/util/ArrayList" "size" "I" (.int (0 : Int32))) (F_elementData_o9 : Fld Z h0 o9 "java/util/ArrayList" "elementData" "[Ljava/lang/Object;" (.ref wD)) (S_DEFAULTCAPACITY_EMPTY_ELEMENTDATA : Sta Z Z.heap "java/util/ArrayList" "DEFAULTCAPACITY_EMPTY_ELEMENTDATA" "[Ljava/lang/Object;" (.ref wD)) (Ar_wD : Arr Z Z.heap wD cl_wD (.object "java/lang/Object")) (S_wD : cl_wD.slots.size = (0 : Int32).toNatClampNeg) (g_o9 : n0 ≤ o9) (hc144 : ¬ (i3 < (2 : Int32))) :
    ∃ (T' : State) (L' : List Loc) (h' : Heap) (b : Addr), Stand p l e room_1 s m args below meth c T' L' 10 54 ∧ Fr n0 L' ∧ T'.heap = h' ∧ Old Z n0 h' ∧ Keep h0 h' [o9] ∧ h0.size ≤ b ∧ own_L1 Z h' o9 b ((0 : Int32) + (1 : Int32)) ([.null, .null, .null, .null, .null, .null, .null, .null, .null, .null].set 0 (.ref o5)) ∧
      ∀ target, Steps p.tables e below (T'.setTop (mkF m 157 #[s0, s1, s2, .val (.int i3), s4, .val (.ref o5), s6, s7, s8, .val (.ref o9), s10, s11, s12, s13, s14] [])) target → Steps p.tables e below (T0.setTop (mkF m 142 #[s0, s1, s2, .val (.int i3), s4, .val (.ref o5), s6, s7, s8, .val (.ref o9), s10, s11, s12, s13, s14] [])) target := by
  obtain ⟨cq1, kq1, q1a, q1b, q1c⟩ := isOf hZ e0 E_o9
  obtain ⟨_, _, ⟨T1, L1, k1, n1⟩, -, X1, ⟨Lc1, hQ1, l1, y1, z1⟩, st1⟩ := X0.interfaceBack hx (xi := (⟨"java/util/List", "add", "(Ljava/lang/Object;)Z"⟩ : MethodName)) (y := (⟨"java/util/ArrayList", "add", "(Ljava/lang/Object;)Z"⟩ : MethodName)) hown (mvT hZ (hw _ (List.mem_of_getElem? (i := 42) rfl))) (mvT hZ (hw _ (List.mem_of_getElem? (i := 43) rfl))) (mvT hZ (hw _ (List.mem_of_getElem? (i := 44) rfl))) (mvT hZ (hw _ (List.mem_of_getElem? (i := 45) rfl))) (mvT hZ (hw _ (List.mem_of_getElem? (i := 46) rfl))) (mvT hZ (hw _ (List.mem_of_getElem? (i := 47) rfl))) (mvT hZ (hw _ (List.mem_of_getElem? (i := 48) rfl))) (mvT hZ (hw _ (List.mem_of_getElem? (i := 49) rfl))) (by decide) (backOf (W := 0) (rm7_g l Z a0 hw [] o9 o5 mc wD cl_wD h0 n0 Z0 Od0 E_o9 E_o5 F_modCount_o9 F_size_o9 F_elementData_o9 g_o9 S_DEFAULTCAPACITY_EMPTY_ELEMENTDATA (Ar_wD.ext Od0.2) S_wD) hZ (hw _ (List.mem_of_getElem? (i := 50) rfl)) (hw _ (List.mem_of_getElem? (i := 20) rfl)) (by decide) (by decide)) q1a q1b q1c (g := (mkF m 151 #[s0, s1, s2, .val (.int i3), s4, .val (.ref o5), s6, s7, s8, .val (.ref o9), s10, s11, s12, s13, s14] [(.ref o5), (.ref o9)])) rfl (by rw [hml]; rfl) (Steps.refl _) (argsL := [(.ref o5)]) (rest := []) (lenOf pd_0_2 rfl) rfl (by show 2 * 0 + _ ≤ _; exact Nat.le_of_eq rfl) (hb hby at_151) (fun _ _ => ⟨rfl, e0, (by decide : 9 + 1 ≤ _), (by decide : 44 + 10 ≤ _)⟩)
  dsimp only [Pt.U, Pt.locs, Pt.cells, Pt.slots] at X1 l1 y1 z1 st1 hQ1
  subst l1 y1 z1
  obtain ⟨b1, rfl, N1q, K1, hz1, E1q, ⟨mc1, Fm1⟩, Fs1, Fe1, kc1, Ov1, V1q⟩ := hQ1
  have N1 := Fr.app N0 N1q
  have g_b1 : n0 ≤ b1 := Nat.le_trans Z0 hz1
  have sz_b1 : h0.size ≤ b1 := Nat.le_trans (Keep.refl h0 [o9]).1 hz1
  have KK1 : Keep h0 T1.heap [o9] := Keep.trans (Keep.refl h0 [o9]) K1 (allS (Or.inl (List.mem_of_getElem? (i := 0) rfl)) all0)
  have Od1 := Old.keep Od0 K1 (allS (g_o9) all0)
  refine ⟨T1, _, _, b1, X1, N1, rfl, Od1, KK1, hz1, ⟨E1q, ⟨_, Fm1⟩, Fs1, Fe1, kc1, Ov1, V1q⟩, fun target kt => ?_⟩
  show Steps p.tables e below (T0.setTop (mkF m 142 #[s0, s1, s2, .val (.int i3), s4, .val (.ref o5), s6, s7, s8, .val (.ref o9), s10, s11, s12, s13, s14] [])) _
  refine XS.iloadN X0.here hx rfl (hb hby at_142) rfl ?_
  show Steps p.tables e below (T0.setTop (mkF m 143 #[s0, s1, s2, .val (.int i3), s4, .val (.ref o5), s6, s7, s8, .val (.ref o9), s10, s11, s12, s13, s14] [(.int i3)])) _
  refine XS.iconst X0.here hx rfl (hb hby at_143) ?_
  show Steps p.tables e below (T0.setTop (mkF m 144 #[s0, s1, s2, .val (.int i3), s4, .val (.ref o5), s6, s7, s8, .val (.ref o9), s10, s11, s12, s13, s14] [(.int (2 : Int32)), (.int i3)])) _
  refine XS.icmpNo X0.here hx rfl (hb hby at_144) rfl (flt hc144).1 ?_
  show Steps p.tables e below (T0.setTop (mkF m 147 #[s0, s1, s2, .val (.int i3), s4, .val (.ref o5), s6, s7, s8, .val (.ref o9), s10, s11, s12, s13, s14] [])) _
  refine XS.aload X0.here hx rfl (hb hby at_147) rfl rfl ?_
  show Steps p.tables e below (T0.setTop (mkF m 149 #[s0, s1, s2, .val (.int i3), s4, .val (.ref o5), s6, s7, s8, .val (.ref o9), s10, s11, s12, s13, s14] [(.ref o9)])) _
  refine XS.aload X0.here hx rfl (hb hby at_149) rfl rfl ?_
  show Steps p.tables e below (T0.setTop (mkF m 151 #[s0, s1, s2, .val (.int i3), s4, .val (.ref o5), s6, s7, s8, .val (.ref o9), s10, s11, s12, s13, s14] [(.ref o5), (.ref o9)])) _
  refine st1.trans ?_
  show Steps p.tables e below (T1.setTop (mkF m 156 #[s0, s1, s2, .val (.int i3), s4, .val (.ref o5), s6, s7, s8, .val (.ref o9), s10, s11, s12, s13, s14] [(.int (1 : Int32))])) _
  refine XS.pop X1.here hx rfl (hb hby at_156) rfl rfl ?_
  exact kt

set_option maxRecDepth 65536 in
set_option maxHeartbeats 40000000 in
theorem s4_2_s {p : Program} {l : Launch} {e : Env} {s : State} {m : MethodId} {args : Array Value} {below : List Frame} {meth : Method} {c : Code} {T0 : State} {locs : List Loc} {Z : State} {a0 : Array Value} {h0 : Heap} {n0 : Nat} (s0 : Slot) (s1 : Slot) (s2 : Slot) (i3 : Int32) (s4 : Slot) (o5 : Addr) (s6 : Slot) (s7 : Slot) (s8 : Slot) (o9 : Addr) (s10 : Slot) (s11 : Slot) (s12 : Slot) (s13 : Slot) (s14 : Slot) (kc : ClassId) (vs : List Value) (mc k : Int32) (b : Addr)
    (X0 : Stand p l e room_1 s m args below meth c T0 locs 9 44) (hx : p.tables.exec = Jvm.exec) (hZ : Z.Warmed39 s.vm) (hw : ∀ d ∈ tables_1, d.before a0 Z = true) (hby : c.code = code) (hml : c.maxLocals = 15) (hown : s.vm.findClass "com/example/bindspire/bindspire/ChoiceChosenPinLaw" = some m.cls) (e0 : T0.heap = h0) (N0 : Fr n0 locs) (Z0 : n0 ≤ h0.size) (Od0 : Old Z n0 h0) (E_o9 : Exa Z h0 o9 "java/util/ArrayList") (E_o5 : Exa Z h0 o5 "com/example/bindspire/bindspire/Overloads$Candidate") (F_modCount_o9 : Fld Z h0 o9 "java/util/AbstractList" "modCount" "I" (.int mc)) (F_size_o9 : Fld Z h0 o9 "java/util/ArrayList" "size" "I" (.int k)) (F_elementData_o9 : Fld Z h0 o9 "java/util/ArrayList" "elementData" "[Ljava/lang/Object;" (.ref b)) (V_b : Arv Z h0 b kc (.object "java/lang/Object") (10 : Int32) vs .null) (Ov_b : Ovr Z kc "java/lang/Object") (g_b : n0 ≤ b) (hne : o9 ≠ b) (hj : ¬ (k < 0) ∧ k < (10 : Int32)) (hl : (k).toNatClampNeg < vs.length) (hk : ¬ (k = (10 : Int32))) (g_o9 : n0 ≤ o9) (hc144 : ¬ (i3 < (2 : Int32))) :
    ∃ (T' : State) (L' : List Loc) (h' : Heap), Stand p l e room_1 s m args below meth c T' L' 9 44 ∧ Fr n0 L' ∧ T'.heap = h' ∧ Old Z n0 h' ∧ Keep h0 h' [o9, b] ∧ own_L1 Z h' o9 b (k + (1 : Int32)) (vs.set (k).toNatClampNeg (.ref o5)) ∧
      ∀ target, Steps p.tables e below (T'.setTop (mkF m 157 #[s0, s1, s2, .val (.int i3), s4, .val (.ref o5), s6, s7, s8, .val (.ref o9), s10, s11, s12, s13, s14] [])) target → Steps p.tables e below (T0.setTop (mkF m 142 #[s0, s1, s2, .val (.int i3), s4, .val (.ref o5), s6, s7, s8, .val (.ref o9), s10, s11, s12, s13, s14] [])) target := by
  obtain ⟨cq1, kq1, q1a, q1b, q1c⟩ := isOf hZ e0 E_o9
  obtain ⟨_, _, ⟨T1, L1, k1, n1⟩, -, X1, ⟨Lc1, hQ1, l1, y1, z1⟩, st1⟩ := X0.interfaceBack hx (xi := (⟨"java/util/List", "add", "(Ljava/lang/Object;)Z"⟩ : MethodName)) (y := (⟨"java/util/ArrayList", "add", "(Ljava/lang/Object;)Z"⟩ : MethodName)) hown (mvT hZ (hw _ (List.mem_of_getElem? (i := 42) rfl))) (mvT hZ (hw _ (List.mem_of_getElem? (i := 43) rfl))) (mvT hZ (hw _ (List.mem_of_getElem? (i := 44) rfl))) (mvT hZ (hw _ (List.mem_of_getElem? (i := 45) rfl))) (mvT hZ (hw _ (List.mem_of_getElem? (i := 46) rfl))) (mvT hZ (hw _ (List.mem_of_getElem? (i := 47) rfl))) (mvT hZ (hw _ (List.mem_of_getElem? (i := 48) rfl))) (mvT hZ (hw _ (List.mem_of_getElem? (i := 49) rfl))) (by decide) (backOf (W := 0) (rm7_s l Z a0 hw [] o9 o5 kc vs mc k b h0 n0 Z0 E_o9 E_o5 F_modCount_o9 F_size_o9 F_elementData_o9 V_b Ov_b g_b g_o9 hne hj hl hk) hZ (hw _ (List.mem_of_getElem? (i := 50) rfl)) (hw _ (List.mem_of_getElem? (i := 20) rfl)) (by decide) (by decide)) q1a q1b q1c (g := (mkF m 151 #[s0, s1, s2, .val (.int i3), s4, .val (.ref o5), s6, s7, s8, .val (.ref o9), s10, s11, s12, s13, s14] [(.ref o5), (.ref o9)])) rfl (by rw [hml]; rfl) (Steps.refl _) (argsL := [(.ref o5)]) (rest := []) (lenOf pd_0_2 rfl) rfl (by show 2 * 0 + _ ≤ _; exact Nat.le_of_eq rfl) (hb hby at_151) (fun _ _ => ⟨rfl, e0, (by decide : 9 + 0 ≤ _), (by decide : 44 + 0 ≤ _)⟩)
  dsimp only [Pt.U, Pt.locs, Pt.cells, Pt.slots] at X1 l1 y1 z1 st1 hQ1
  subst l1 y1 z1
  obtain ⟨rfl, N1q, K1, E1q, ⟨mc1, Fm1⟩, Fs1, Fe1, kc1, Ov1, V1q⟩ := hQ1
  have N1 := Fr.app N0 N1q
  have KK1 : Keep h0 T1.heap [o9, b] := Keep.trans (Keep.refl h0 [o9, b]) K1 (allS (Or.inl (List.mem_of_getElem? (i := 0) rfl)) (allS (Or.inl (List.mem_of_getElem? (i := 1) rfl)) all0))
  have Od1 := Old.keep Od0 K1 (allS (g_o9) (allS (g_b) all0))
  refine ⟨T1, _, _, X1, N1, rfl, Od1, KK1, ⟨E1q, ⟨_, Fm1⟩, Fs1, Fe1, kc1, Ov1, V1q⟩, fun target kt => ?_⟩
  show Steps p.tables e below (T0.setTop (mkF m 142 #[s0, s1, s2, .val (.int i3), s4, .val (.ref o5), s6, s7, s8, .val (.ref o9), s10, s11, s12, s13, s14] [])) _
  refine XS.iloadN X0.here hx rfl (hb hby at_142) rfl ?_
  show Steps p.tables e below (T0.setTop (mkF m 143 #[s0, s1, s2, .val (.int i3), s4, .val (.ref o5), s6, s7, s8, .val (.ref o9), s10, s11, s12, s13, s14] [(.int i3)])) _
  refine XS.iconst X0.here hx rfl (hb hby at_143) ?_
  show Steps p.tables e below (T0.setTop (mkF m 144 #[s0, s1, s2, .val (.int i3), s4, .val (.ref o5), s6, s7, s8, .val (.ref o9), s10, s11, s12, s13, s14] [(.int (2 : Int32)), (.int i3)])) _
  refine XS.icmpNo X0.here hx rfl (hb hby at_144) rfl (flt hc144).1 ?_
  show Steps p.tables e below (T0.setTop (mkF m 147 #[s0, s1, s2, .val (.int i3), s4, .val (.ref o5), s6, s7, s8, .val (.ref o9), s10, s11, s12, s13, s14] [])) _
  refine XS.aload X0.here hx rfl (hb hby at_147) rfl rfl ?_
  show Steps p.tables e below (T0.setTop (mkF m 149 #[s0, s1, s2, .val (.int i3), s4, .val (.ref o5), s6, s7, s8, .val (.ref o9), s10, s11, s12, s13, s14] [(.ref o9)])) _
  refine XS.aload X0.here hx rfl (hb hby at_149) rfl rfl ?_
  show Steps p.tables e below (T0.setTop (mkF m 151 #[s0, s1, s2, .val (.int i3), s4, .val (.ref o5), s6, s7, s8, .val (.ref o9), s10, s11, s12, s13, s14] [(.ref o5), (.ref o9)])) _
  refine st1.trans ?_
  show Steps p.tables e below (T1.setTop (mkF m 156 #[s0, s1, s2, .val (.int i3), s4, .val (.ref o5), s6, s7, s8, .val (.ref o9), s10, s11, s12, s13, s14] [(.int (1 : Int32))])) _
  refine XS.pop X1.here hx rfl (hb hby at_156) rfl rfl ?_
  exact kt

set_option maxRecDepth 65536 in
set_option maxHeartbeats 40000000 in
theorem s4_3_t {p : Program} {l : Launch} {e : Env} {s : State} {m : MethodId} {args : Array Value} {below : List Frame} {meth : Method} {c : Code} {T0 : State} {locs : List Loc} {Z : State} {a0 : Array Value} {h0 : Heap} {n0 : Nat} (s0 : Slot) (s1 : Slot) (s2 : Slot) (i3 : Int32) (s4 : Slot) (s5 : Slot) (s6 : Slot) (s7 : Slot) (s8 : Slot) (s9 : Slot) (s10 : Slot) (s11 : Slot) (s12 : Slot) (s13 : Slot) (s14 : Slot) 
    (X0 : Stand p l e room_1 s m args below meth c T0 locs 10 54) (hx : p.tables.exec = Jvm.exec) (hZ : Z.Warmed39 s.vm) (hw : ∀ d ∈ tables_1, d.before a0 Z = true) (hby : c.code = code) (hml : c.maxLocals = 15) (hown : s.vm.findClass "com/example/bindspire/bindspire/ChoiceChosenPinLaw" = some m.cls) (e0 : T0.heap = h0) (N0 : Fr n0 locs) (Z0 : n0 ≤ h0.size)  (hc159 : i3 < (3 : Int32)) :
    ∃ (T' : State) (L' : List Loc) (h' : Heap), Stand p l e room_1 s m args below meth c T' L' 10 54 ∧ Fr n0 L' ∧ T'.heap = h' ∧ h' = h0 ∧
      ∀ target, Steps p.tables e below (T'.setTop (mkF m 172 #[s0, s1, s2, .val (.int i3), s4, s5, s6, s7, s8, s9, s10, s11, s12, s13, s14] [])) target → Steps p.tables e below (T0.setTop (mkF m 157 #[s0, s1, s2, .val (.int i3), s4, s5, s6, s7, s8, s9, s10, s11, s12, s13, s14] [])) target := by

  refine ⟨T0, _, _, X0, N0, e0, rfl, fun target kt => ?_⟩
  show Steps p.tables e below (T0.setTop (mkF m 157 #[s0, s1, s2, .val (.int i3), s4, s5, s6, s7, s8, s9, s10, s11, s12, s13, s14] [])) _
  refine XS.iloadN X0.here hx rfl (hb hby at_157) rfl ?_
  show Steps p.tables e below (T0.setTop (mkF m 158 #[s0, s1, s2, .val (.int i3), s4, s5, s6, s7, s8, s9, s10, s11, s12, s13, s14] [(.int i3)])) _
  refine XS.iconst X0.here hx rfl (hb hby at_158) ?_
  show Steps p.tables e below (T0.setTop (mkF m 159 #[s0, s1, s2, .val (.int i3), s4, s5, s6, s7, s8, s9, s10, s11, s12, s13, s14] [(.int (3 : Int32)), (.int i3)])) _
  refine XS.icmpYes X0.here hx rfl (pc0 := 159) (pc' := 172) rfl (hb hby at_159) rfl (tlt hc159).1 (by decide) (by decide) ?_
  exact kt

set_option maxRecDepth 65536 in
set_option maxHeartbeats 40000000 in
theorem s4_3_g {p : Program} {l : Launch} {e : Env} {s : State} {m : MethodId} {args : Array Value} {below : List Frame} {meth : Method} {c : Code} {T0 : State} {locs : List Loc} {Z : State} {a0 : Array Value} {h0 : Heap} {n0 : Nat} (s0 : Slot) (s1 : Slot) (s2 : Slot) (i3 : Int32) (s4 : Slot) (s5 : Slot) (o6 : Addr) (s7 : Slot) (s8 : Slot) (o9 : Addr) (s10 : Slot) (s11 : Slot) (s12 : Slot) (s13 : Slot) (s14 : Slot) (mc : Int32) (wD : Addr) (cl_wD : Cell)
    (X0 : Stand p l e room_1 s m args below meth c T0 locs 10 54) (hx : p.tables.exec = Jvm.exec) (hZ : Z.Warmed39 s.vm) (hw : ∀ d ∈ tables_1, d.before a0 Z = true) (hby : c.code = code) (hml : c.maxLocals = 15) (hown : s.vm.findClass "com/example/bindspire/bindspire/ChoiceChosenPinLaw" = some m.cls) (e0 : T0.heap = h0) (N0 : Fr n0 locs) (Z0 : n0 ≤ h0.size) (Od0 : Old Z n0 h0) (E_o9 : Exa Z h0 o9 "java/util/ArrayList") (E_o6 : Exa Z h0 o6 "com/example/bindspire/bindspire/Overloads$Candidate") (F_modCount_o9 : Fld Z h0 o9 "java/util/AbstractList" "modCount" "I" (.int mc)) (F_size_o9 : Fld Z h0 o9 "java/util/ArrayList" "size" "I" (.int (0 : Int32))) (F_elementData_o9 : Fld Z h0 o9 "java/util/ArrayList" "elementData" "[Ljava/lang/Object;" (.ref wD)) (S_DEFAULTCAPACITY_EMPTY_ELEMENTDATA : Sta Z Z.heap "java/util/ArrayList" "DEFAULTCAPACITY_EMPTY_ELEMENTDATA" "[Ljava/lang/Object;" (.ref wD)) (Ar_wD : Arr Z Z.heap wD cl_wD (.object "java/lang/Object")) (S_wD : cl_wD.slots.size = (0 : Int32).toNatClampNeg) (g_o9 : n0 ≤ o9) (hc159 : ¬ (i3 < (3 : Int32))) :
    ∃ (T' : State) (L' : List Loc) (h' : Heap) (b : Addr), Stand p l e room_1 s m args below meth c T' L' 11 64 ∧ Fr n0 L' ∧ T'.heap = h' ∧ Old Z n0 h' ∧ Keep h0 h' [o9] ∧ h0.size ≤ b ∧ own_L1 Z h' o9 b ((0 : Int32) + (1 : Int32)) ([.null, .null, .null, .null, .null, .null, .null, .null, .null, .null].set 0 (.ref o6)) ∧
      ∀ target, Steps p.tables e below (T'.setTop (mkF m 172 #[s0, s1, s2, .val (.int i3), s4, s5, .val (.ref o6), s7, s8, .val (.ref o9), s10, s11, s12, s13, s14] [])) target → Steps p.tables e below (T0.setTop (mkF m 157 #[s0, s1, s2, .val (.int i3), s4, s5, .val (.ref o6), s7, s8, .val (.ref o9), s10, s11, s12, s13, s14] [])) target := by
  obtain ⟨cq1, kq1, q1a, q1b, q1c⟩ := isOf hZ e0 E_o9
  obtain ⟨_, _, ⟨T1, L1, k1, n1⟩, -, X1, ⟨Lc1, hQ1, l1, y1, z1⟩, st1⟩ := X0.interfaceBack hx (xi := (⟨"java/util/List", "add", "(Ljava/lang/Object;)Z"⟩ : MethodName)) (y := (⟨"java/util/ArrayList", "add", "(Ljava/lang/Object;)Z"⟩ : MethodName)) hown (mvT hZ (hw _ (List.mem_of_getElem? (i := 42) rfl))) (mvT hZ (hw _ (List.mem_of_getElem? (i := 43) rfl))) (mvT hZ (hw _ (List.mem_of_getElem? (i := 44) rfl))) (mvT hZ (hw _ (List.mem_of_getElem? (i := 45) rfl))) (mvT hZ (hw _ (List.mem_of_getElem? (i := 46) rfl))) (mvT hZ (hw _ (List.mem_of_getElem? (i := 47) rfl))) (mvT hZ (hw _ (List.mem_of_getElem? (i := 48) rfl))) (mvT hZ (hw _ (List.mem_of_getElem? (i := 49) rfl))) (by decide) (backOf (W := 0) (rm7_g l Z a0 hw [] o9 o6 mc wD cl_wD h0 n0 Z0 Od0 E_o9 E_o6 F_modCount_o9 F_size_o9 F_elementData_o9 g_o9 S_DEFAULTCAPACITY_EMPTY_ELEMENTDATA (Ar_wD.ext Od0.2) S_wD) hZ (hw _ (List.mem_of_getElem? (i := 50) rfl)) (hw _ (List.mem_of_getElem? (i := 20) rfl)) (by decide) (by decide)) q1a q1b q1c (g := (mkF m 166 #[s0, s1, s2, .val (.int i3), s4, s5, .val (.ref o6), s7, s8, .val (.ref o9), s10, s11, s12, s13, s14] [(.ref o6), (.ref o9)])) rfl (by rw [hml]; rfl) (Steps.refl _) (argsL := [(.ref o6)]) (rest := []) (lenOf pd_0_2 rfl) rfl (by show 2 * 0 + _ ≤ _; exact Nat.le_of_eq rfl) (hb hby at_166) (fun _ _ => ⟨rfl, e0, (by decide : 10 + 1 ≤ _), (by decide : 54 + 10 ≤ _)⟩)
  dsimp only [Pt.U, Pt.locs, Pt.cells, Pt.slots] at X1 l1 y1 z1 st1 hQ1
  subst l1 y1 z1
  obtain ⟨b1, rfl, N1q, K1, hz1, E1q, ⟨mc1, Fm1⟩, Fs1, Fe1, kc1, Ov1, V1q⟩ := hQ1
  have N1 := Fr.app N0 N1q
  have g_b1 : n0 ≤ b1 := Nat.le_trans Z0 hz1
  have sz_b1 : h0.size ≤ b1 := Nat.le_trans (Keep.refl h0 [o9]).1 hz1
  have KK1 : Keep h0 T1.heap [o9] := Keep.trans (Keep.refl h0 [o9]) K1 (allS (Or.inl (List.mem_of_getElem? (i := 0) rfl)) all0)
  have Od1 := Old.keep Od0 K1 (allS (g_o9) all0)
  refine ⟨T1, _, _, b1, X1, N1, rfl, Od1, KK1, hz1, ⟨E1q, ⟨_, Fm1⟩, Fs1, Fe1, kc1, Ov1, V1q⟩, fun target kt => ?_⟩
  show Steps p.tables e below (T0.setTop (mkF m 157 #[s0, s1, s2, .val (.int i3), s4, s5, .val (.ref o6), s7, s8, .val (.ref o9), s10, s11, s12, s13, s14] [])) _
  refine XS.iloadN X0.here hx rfl (hb hby at_157) rfl ?_
  show Steps p.tables e below (T0.setTop (mkF m 158 #[s0, s1, s2, .val (.int i3), s4, s5, .val (.ref o6), s7, s8, .val (.ref o9), s10, s11, s12, s13, s14] [(.int i3)])) _
  refine XS.iconst X0.here hx rfl (hb hby at_158) ?_
  show Steps p.tables e below (T0.setTop (mkF m 159 #[s0, s1, s2, .val (.int i3), s4, s5, .val (.ref o6), s7, s8, .val (.ref o9), s10, s11, s12, s13, s14] [(.int (3 : Int32)), (.int i3)])) _
  refine XS.icmpNo X0.here hx rfl (hb hby at_159) rfl (flt hc159).1 ?_
  show Steps p.tables e below (T0.setTop (mkF m 162 #[s0, s1, s2, .val (.int i3), s4, s5, .val (.ref o6), s7, s8, .val (.ref o9), s10, s11, s12, s13, s14] [])) _
  refine XS.aload X0.here hx rfl (hb hby at_162) rfl rfl ?_
  show Steps p.tables e below (T0.setTop (mkF m 164 #[s0, s1, s2, .val (.int i3), s4, s5, .val (.ref o6), s7, s8, .val (.ref o9), s10, s11, s12, s13, s14] [(.ref o9)])) _
  refine XS.aload X0.here hx rfl (hb hby at_164) rfl rfl ?_
  show Steps p.tables e below (T0.setTop (mkF m 166 #[s0, s1, s2, .val (.int i3), s4, s5, .val (.ref o6), s7, s8, .val (.ref o9), s10, s11, s12, s13, s14] [(.ref o6), (.ref o9)])) _
  refine st1.trans ?_
  show Steps p.tables e below (T1.setTop (mkF m 171 #[s0, s1, s2, .val (.int i3), s4, s5, .val (.ref o6), s7, s8, .val (.ref o9), s10, s11, s12, s13, s14] [(.int (1 : Int32))])) _
  refine XS.pop X1.here hx rfl (hb hby at_171) rfl rfl ?_
  exact kt

set_option maxRecDepth 65536 in
set_option maxHeartbeats 40000000 in
theorem s4_3_s {p : Program} {l : Launch} {e : Env} {s : State} {m : MethodId} {args : Array Value} {below : List Frame} {meth : Method} {c : Code} {T0 : State} {locs : List Loc} {Z : State} {a0 : Array Value} {h0 : Heap} {n0 : Nat} (s0 : Slot) (s1 : Slot) (s2 : Slot) (i3 : Int32) (s4 : Slot) (s5 : Slot) (o6 : Addr) (s7 : Slot) (s8 : Slot) (o9 : Addr) (s10 : Slot) (s11 : Slot) (s12 : Slot) (s13 : Slot) (s14 : Slot) (kc : ClassId) (vs : List Value) (mc k : Int32) (b : Addr)
    (X0 : Stand p l e room_1 s m args below meth c T0 locs 10 54) (hx : p.tables.exec = Jvm.exec) (hZ : Z.Warmed39 s.vm) (hw : ∀ d ∈ tables_1, d.before a0 Z = true) (hby : c.code = code) (hml : c.maxLocals = 15) (hown : s.vm.findClass "com/example/bindspire/bindspire/ChoiceChosenPinLaw" = some m.cls) (e0 : T0.heap = h0) (N0 : Fr n0 locs) (Z0 : n0 ≤ h0.size) (Od0 : Old Z n0 h0) (E_o9 : Exa Z h0 o9 "java/util/ArrayList") (E_o6 : Exa Z h0 o6 "com/example/bindspire/bindspire/Overloads$Candidate") (F_modCount_o9 : Fld Z h0 o9 "java/util/AbstractList" "modCount" "I" (.int mc)) (F_size_o9 : Fld Z h0 o9 "java/util/ArrayList" "size" "I" (.int k)) (F_elementData_o9 : Fld Z h0 o9 "java/util/ArrayList" "elementData" "[Ljava/lang/Object;" (.ref b)) (V_b : Arv Z h0 b kc (.object "java/lang/Object") (10 : Int32) vs .null) (Ov_b : Ovr Z kc "java/lang/Object") (g_b : n0 ≤ b) (hne : o9 ≠ b) (hj : ¬ (k < 0) ∧ k < (10 : Int32)) (hl : (k).toNatClampNeg < vs.length) (hk : ¬ (k = (10 : Int32))) (g_o9 : n0 ≤ o9) (hc159 : ¬ (i3 < (3 : Int32))) :
    ∃ (T' : State) (L' : List Loc) (h' : Heap), Stand p l e room_1 s m args below meth c T' L' 10 54 ∧ Fr n0 L' ∧ T'.heap = h' ∧ Old Z n0 h' ∧ Keep h0 h' [o9, b] ∧ own_L1 Z h' o9 b (k + (1 : Int32)) (vs.set (k).toNatClampNeg (.ref o6)) ∧
      ∀ target, Steps p.tables e below (T'.setTop (mkF m 172 #[s0, s1, s2, .val (.int i3), s4, s5, .val (.ref o6), s7, s8, .val (.ref o9), s10, s11, s12, s13, s14] [])) target → Steps p.tables e below (T0.setTop (mkF m 157 #[s0, s1, s2, .val (.int i3), s4, s5, .val (.ref o6), s7, s8, .val (.ref o9), s10, s11, s12, s13, s14] [])) target := by
  obtain ⟨cq1, kq1, q1a, q1b, q1c⟩ := isOf hZ e0 E_o9
  obtain ⟨_, _, ⟨T1, L1, k1, n1⟩, -, X1, ⟨Lc1, hQ1, l1, y1, z1⟩, st1⟩ := X0.interfaceBack hx (xi := (⟨"java/util/List", "add", "(Ljava/lang/Object;)Z"⟩ : MethodName)) (y := (⟨"java/util/ArrayList", "add", "(Ljava/lang/Object;)Z"⟩ : MethodName)) hown (mvT hZ (hw _ (List.mem_of_getElem? (i := 42) rfl))) (mvT hZ (hw _ (List.mem_of_getElem? (i := 43) rfl))) (mvT hZ (hw _ (List.mem_of_getElem? (i := 44) rfl))) (mvT hZ (hw _ (List.mem_of_getElem? (i := 45) rfl))) (mvT hZ (hw _ (List.mem_of_getElem? (i := 46) rfl))) (mvT hZ (hw _ (List.mem_of_getElem? (i := 47) rfl))) (mvT hZ (hw _ (List.mem_of_getElem? (i := 48) rfl))) (mvT hZ (hw _ (List.mem_of_getElem? (i := 49) rfl))) (by decide) (backOf (W := 0) (rm7_s l Z a0 hw [] o9 o6 kc vs mc k b h0 n0 Z0 E_o9 E_o6 F_modCount_o9 F_size_o9 F_elementData_o9 V_b Ov_b g_b g_o9 hne hj hl hk) hZ (hw _ (List.mem_of_getElem? (i := 50) rfl)) (hw _ (List.mem_of_getElem? (i := 20) rfl)) (by decide) (by decide)) q1a q1b q1c (g := (mkF m 166 #[s0, s1, s2, .val (.int i3), s4, s5, .val (.ref o6), s7, s8, .val (.ref o9), s10, s11, s12, s13, s14] [(.ref o6), (.ref o9)])) rfl (by rw [hml]; rfl) (Steps.refl _) (argsL := [(.ref o6)]) (rest := []) (lenOf pd_0_2 rfl) rfl (by show 2 * 0 + _ ≤ _; exact Nat.le_of_eq rfl) (hb hby at_166) (fun _ _ => ⟨rfl, e0, (by decide : 10 + 0 ≤ _), (by decide : 54 + 0 ≤ _)⟩)
  dsimp only [Pt.U, Pt.locs, Pt.cells, Pt.slots] at X1 l1 y1 z1 st1 hQ1
  subst l1 y1 z1
  obtain ⟨rfl, N1q, K1, E1q, ⟨mc1, Fm1⟩, Fs1, Fe1, kc1, Ov1, V1q⟩ := hQ1
  have N1 := Fr.app N0 N1q
  have KK1 : Keep h0 T1.heap [o9, b] := Keep.trans (Keep.refl h0 [o9, b]) K1 (allS (Or.inl (List.mem_of_getElem? (i := 0) rfl)) (allS (Or.inl (List.mem_of_getElem? (i := 1) rfl)) all0))
  have Od1 := Old.keep Od0 K1 (allS (g_o9) (allS (g_b) all0))
  refine ⟨T1, _, _, X1, N1, rfl, Od1, KK1, ⟨E1q, ⟨_, Fm1⟩, Fs1, Fe1, kc1, Ov1, V1q⟩, fun target kt => ?_⟩
  show Steps p.tables e below (T0.setTop (mkF m 157 #[s0, s1, s2, .val (.int i3), s4, s5, .val (.ref o6), s7, s8, .val (.ref o9), s10, s11, s12, s13, s14] [])) _
  refine XS.iloadN X0.here hx rfl (hb hby at_157) rfl ?_
  show Steps p.tables e below (T0.setTop (mkF m 158 #[s0, s1, s2, .val (.int i3), s4, s5, .val (.ref o6), s7, s8, .val (.ref o9), s10, s11, s12, s13, s14] [(.int i3)])) _
  refine XS.iconst X0.here hx rfl (hb hby at_158) ?_
  show Steps p.tables e below (T0.setTop (mkF m 159 #[s0, s1, s2, .val (.int i3), s4, s5, .val (.ref o6), s7, s8, .val (.ref o9), s10, s11, s12, s13, s14] [(.int (3 : Int32)), (.int i3)])) _
  refine XS.icmpNo X0.here hx rfl (hb hby at_159) rfl (flt hc159).1 ?_
  show Steps p.tables e below (T0.setTop (mkF m 162 #[s0, s1, s2, .val (.int i3), s4, s5, .val (.ref o6), s7, s8, .val (.ref o9), s10, s11, s12, s13, s14] [])) _
  refine XS.aload X0.here hx rfl (hb hby at_162) rfl rfl ?_
  show Steps p.tables e below (T0.setTop (mkF m 164 #[s0, s1, s2, .val (.int i3), s4, s5, .val (.ref o6), s7, s8, .val (.ref o9), s10, s11, s12, s13, s14] [(.ref o9)])) _
  refine XS.aload X0.here hx rfl (hb hby at_164) rfl rfl ?_
  show Steps p.tables e below (T0.setTop (mkF m 166 #[s0, s1, s2, .val (.int i3), s4, s5, .val (.ref o6), s7, s8, .val (.ref o9), s10, s11, s12, s13, s14] [(.ref o6), (.ref o9)])) _
  refine st1.trans ?_
  show Steps p.tables e below (T1.setTop (mkF m 171 #[s0, s1, s2, .val (.int i3), s4, s5, .val (.ref o6), s7, s8, .val (.ref o9), s10, s11, s12, s13, s14] [(.int (1 : Int32))])) _
  refine XS.pop X1.here hx rfl (hb hby at_171) rfl rfl ?_
  exact kt

set_option maxRecDepth 65536 in
set_option maxHeartbeats 40000000 in
theorem s4_4_t {p : Program} {l : Launch} {e : Env} {s : State} {m : MethodId} {args : Array Value} {below : List Frame} {meth : Method} {c : Code} {T0 : State} {locs : List Loc} {Z : State} {a0 : Array Value} {h0 : Heap} {n0 : Nat} (s0 : Slot) (s1 : Slot) (i2 : Int32) (s3 : Slot) (s4 : Slot) (s5 : Slot) (s6 : Slot) (s7 : Slot) (s8 : Slot) (s9 : Slot) (s10 : Slot) (s11 : Slot) (s12 : Slot) (s13 : Slot) (s14 : Slot) 
    (X0 : Stand p l e room_1 s m args below meth c T0 locs 11 64) (hx : p.tables.exec = Jvm.exec) (hZ : Z.Warmed39 s.vm) (hw : ∀ d ∈ tables_1, d.before a0 Z = true) (hby : c.code = code) (hml : c.maxLocals = 15) (hown : s.vm.findClass "com/example/bindspire/bindspire/ChoiceChosenPinLaw" = some m.cls) (e0 : T0.heap = h0) (N0 : Fr n0 locs) (Z0 : n0 ≤ h0.size)  (hc175 : (i2 &&& (2 : Int32)) = (0 : Int32)) :
    ∃ (T' : State) (L' : List Loc) (h' : Heap), Stand p l e room_1 s m args below meth c T' L' 11 64 ∧ Fr n0 L' ∧ T'.heap = h' ∧ h' = h0 ∧
      ∀ target, Steps p.tables e below (T'.setTop (mkF m 188 #[s0, s1, .val (.int i2), s3, s4, s5, s6, s7, s8, s9, s10, s11, s12, s13, s14] [])) target → Steps p.tables e below (T0.setTop (mkF m 172 #[s0, s1, .val (.int i2), s3, s4, s5, s6, s7, s8, s9, s10, s11, s12, s13, s14] [])) target := by

  refine ⟨T0, _, _, X0, N0, e0, rfl, fun target kt => ?_⟩
  show Steps p.tables e below (T0.setTop (mkF m 172 #[s0, s1, .val (.int i2), s3, s4, s5, s6, s7, s8, s9, s10, s11, s12, s13, s14] [])) _
  refine XS.iloadN X0.here hx rfl (hb hby at_172) rfl ?_
  show Steps p.tables e below (T0.setTop (mkF m 173 #[s0, s1, .val (.int i2), s3, s4, s5, s6, s7, s8, s9, s10, s11, s12, s13, s14] [(.int i2)])) _
  refine XS.iconst X0.here hx rfl (hb hby at_173) ?_
  show Steps p.tables e below (T0.setTop (mkF m 174 #[s0, s1, .val (.int i2), s3, s4, s5, s6, s7, s8, s9, s10, s11, s12, s13, s14] [(.int (2 : Int32)), (.int i2)])) _
  refine XS.iand X0.here hx rfl (hb hby at_174) rfl ?_
  show Steps p.tables e below (T0.setTop (mkF m 175 #[s0, s1, .val (.int i2), s3, s4, s5, s6, s7, s8, s9, s10, s11, s12, s13, s14] [(.int (i2 &&& (2 : Int32)))])) _
  refine XS.ifYes X0.here hx rfl (pc0 := 175) (pc' := 188) rfl (hb hby at_175) rfl ((if0 _ _).trans (teq hc175).1) (by decide) (by decide) ?_
  exact kt

set_option maxRecDepth 65536 in
set_option maxHeartbeats 40000000 in
theorem s4_4_g {p : Program} {l : Launch} {e : Env} {s : State} {m : MethodId} {args : Array Value} {below : List Frame} {meth : Method} {c : Code} {T0 : State} {locs : List Loc} {Z : State} {a0 : Array Value} {h0 : Heap} {n0 : Nat} (s0 : Slot) (s1 : Slot) (i2 : Int32) (s3 : Slot) (s4 : Slot) (s5 : Slot) (s6 : Slot) (o7 : Addr) (s8 : Slot) (o9 : Addr) (s10 : Slot) (s11 : Slot) (s12 : Slot) (s13 : Slot) (s14 : Slot) (mc : Int32) (wD : Addr) (cl_wD : Cell)
    (X0 : Stand p l e room_1 s m args below meth c T0 locs 11 64) (hx : p.tables.exec = Jvm.exec) (hZ : Z.Warmed39 s.vm) (hw : ∀ d ∈ tables_1, d.before a0 Z = true) (hby : c.code = code) (hml : c.maxLocals = 15) (hown : s.vm.findClass "com/example/bindspire/bindspire/ChoiceChosenPinLaw" = some m.cls) (e0 : T0.heap = h0) (N0 : Fr n0 locs) (Z0 : n0 ≤ h0.size) (Od0 : Old Z n0 h0) (E_o9 : Exa Z h0 o9 "java/util/ArrayList") (E_o7 : Exa Z h0 o7 "com/example/bindspire/bindspire/Overloads$Candidate") (F_modCount_o9 : Fld Z h0 o9 "java/util/AbstractList" "modCount" "I" (.int mc)) (F_size_o9 : Fld Z h0 o9 "java/util/ArrayList" "size" "I" (.int (0 : Int32))) (F_elementData_o9 : Fld Z h0 o9 "java/util/ArrayList" "elementData" "[Ljava/lang/Object;" (.ref wD)) (S_DEFAULTCAPACITY_EMPTY_ELEMENTDATA : Sta Z Z.heap "java/util/ArrayList" "DEFAULTCAPACITY_EMPTY_ELEMENTDATA" "[Ljava/lang/Object;" (.ref wD)) (Ar_wD : Arr Z Z.heap wD cl_wD (.object "java/lang/Object")) (S_wD : cl_wD.slots.size = (0 : Int32).toNatClampNeg) (g_o9 : n0 ≤ o9) (hc175 : ¬ ((i2 &&& (2 : Int32)) = (0 : Int32))) :
    ∃ (T' : State) (L' : List Loc) (h' : Heap) (b : Addr), Stand p l e room_1 s m args below meth c T' L' 12 74 ∧ Fr n0 L' ∧ T'.heap = h' ∧ Old Z n0 h' ∧ Keep h0 h' [o9] ∧ h0.size ≤ b ∧ own_L1 Z h' o9 b ((0 : Int32) + (1 : Int32)) ([.null, .null, .null, .null, .null, .null, .null, .null, .null, .null].set 0 (.ref o7)) ∧
      ∀ target, Steps p.tables e below (T'.setTop (mkF m 188 #[s0, s1, .val (.int i2), s3, s4, s5, s6, .val (.ref o7), s8, .val (.ref o9), s10, s11, s12, s13, s14] [])) target → Steps p.tables e below (T0.setTop (mkF m 172 #[s0, s1, .val (.int i2), s3, s4, s5, s6, .val (.ref o7), s8, .val (.ref o9), s10, s11, s12, s13, s14] [])) target := by
  obtain ⟨cq1, kq1, q1a, q1b, q1c⟩ := isOf hZ e0 E_o9
  obtain ⟨_, _, ⟨T1, L1, k1, n1⟩, -, X1, ⟨Lc1, hQ1, l1, y1, z1⟩, st1⟩ := X0.interfaceBack hx (xi := (⟨"java/util/List", "add", "(Ljava/lang/Object;)Z"⟩ : MethodName)) (y := (⟨"java/util/ArrayList", "add", "(Ljava/lang/Object;)Z"⟩ : MethodName)) hown (mvT hZ (hw _ (List.mem_of_getElem? (i := 42) rfl))) (mvT hZ (hw _ (List.mem_of_getElem? (i := 43) rfl))) (mvT hZ (hw _ (List.mem_of_getElem? (i := 44) rfl))) (mvT hZ (hw _ (List.mem_of_getElem? (i := 45) rfl))) (mvT hZ (hw _ (List.mem_of_getElem? (i := 46) rfl))) (mvT hZ (hw _ (List.mem_of_getElem? (i := 47) rfl))) (mvT hZ (hw _ (List.mem_of_getElem? (i := 48) rfl))) (mvT hZ (hw _ (List.mem_of_getElem? (i := 49) rfl))) (by decide) (backOf (W := 0) (rm7_g l Z a0 hw [] o9 o7 mc wD cl_wD h0 n0 Z0 Od0 E_o9 E_o7 F_modCount_o9 F_size_o9 F_elementData_o9 g_o9 S_DEFAULTCAPACITY_EMPTY_ELEMENTDATA (Ar_wD.ext Od0.2) S_wD) hZ (hw _ (List.mem_of_getElem? (i := 50) rfl)) (hw _ (List.mem_of_getElem? (i := 20) rfl)) (by decide) (by decide)) q1a q1b q1c (g := (mkF m 182 #[s0, s1, .val (.int i2), s3, s4, s5, s6, .val (.ref o7), s8, .val (.ref o9), s10, s11, s12, s13, s14] [(.ref o7), (.ref o9)])) rfl (by rw [hml]; rfl) (Steps.refl _) (argsL := [(.ref o7)]) (rest := []) (lenOf pd_0_2 rfl) rfl (by show 2 * 0 + _ ≤ _; exact Nat.le_of_eq rfl) (hb hby at_182) (fun _ _ => ⟨rfl, e0, (by decide : 11 + 1 ≤ _), (by decide : 64 + 10 ≤ _)⟩)
  dsimp only [Pt.U, Pt.locs, Pt.cells, Pt.slots] at X1 l1 y1 z1 st1 hQ1
  subst l1 y1 z1
  obtain ⟨b1, rfl, N1q, K1, hz1, E1q, ⟨mc1, Fm1⟩, Fs1, Fe1, kc1, Ov1, V1q⟩ := hQ1
  have N1 := Fr.app N0 N1q
  have g_b1 : n0 ≤ b1 := Nat.le_trans Z0 hz1
  have sz_b1 : h0.size ≤ b1 := Nat.le_trans (Keep.refl h0 [o9]).1 hz1
  have KK1 : Keep h0 T1.heap [o9] := Keep.trans (Keep.refl h0 [o9]) K1 (allS (Or.inl (List.mem_of_getElem? (i := 0) rfl)) all0)
  have Od1 := Old.keep Od0 K1 (allS (g_o9) all0)
  refine ⟨T1, _, _, b1, X1, N1, rfl, Od1, KK1, hz1, ⟨E1q, ⟨_, Fm1⟩, Fs1, Fe1, kc1, Ov1, V1q⟩, fun target kt => ?_⟩
  show Steps p.tables e below (T0.setTop (mkF m 172 #[s0, s1, .val (.int i2), s3, s4, s5, s6, .val (.ref o7), s8, .val (.ref o9), s10, s11, s12, s13, s14] [])) _
  refine XS.iloadN X0.here hx rfl (hb hby at_172) rfl ?_
  show Steps p.tables e below (T0.setTop (mkF m 173 #[s0, s1, .val (.int i2), s3, s4, s5, s6, .val (.ref o7), s8, .val (.ref o9), s10, s11, s12, s13, s14] [(.int i2)])) _
  refine XS.iconst X0.here hx rfl (hb hby at_173) ?_
  show Steps p.tables e below (T0.setTop (mkF m 174 #[s0, s1, .val (.int i2), s3, s4, s5, s6, .val (.ref o7), s8, .val (.ref o9), s10, s11, s12, s13, s14] [(.int (2 : Int32)), (.int i2)])) _
  refine XS.iand X0.here hx rfl (hb hby at_174) rfl ?_
  show Steps p.tables e below (T0.setTop (mkF m 175 #[s0, s1, .val (.int i2), s3, s4, s5, s6, .val (.ref o7), s8, .val (.ref o9), s10, s11, s12, s13, s14] [(.int (i2 &&& (2 : Int32)))])) _
  refine XS.ifNo X0.here hx rfl (hb hby at_175) rfl ((if0 _ _).trans (feq hc175).1) ?_
  show Steps p.tables e below (T0.setTop (mkF m 178 #[s0, s1, .val (.int i2), s3, s4, s5, s6, .val (.ref o7), s8, .val (.ref o9), s10, s11, s12, s13, s14] [])) _
  refine XS.aload X0.here hx rfl (hb hby at_178) rfl rfl ?_
  show Steps p.tables e below (T0.setTop (mkF m 180 #[s0, s1, .val (.int i2), s3, s4, s5, s6, .val (.ref o7), s8, .val (.ref o9), s10, s11, s12, s13, s14] [(.ref o9)])) _
  refine XS.aload X0.here hx rfl (hb hby at_180) rfl rfl ?_
  show Steps p.tables e below (T0.setTop (mkF m 182 #[s0, s1, .val (.int i2), s3, s4, s5, s6, .val (.ref o7), s8, .val (.ref o9), s10, s11, s12, s13, s14] [(.ref o7), (.ref o9)])) _
  refine st1.trans ?_
  show Steps p.tables e below (T1.setTop (mkF m 187 #[s0, s1, .val (.int i2), s3, s4, s5, s6, .val (.ref o7), s8, .val (.ref o9), s10, s11, s12, s13, s14] [(.int (1 : Int32))])) _
  refine XS.pop X1.here hx rfl (hb hby at_187) rfl rfl ?_
  exact kt

set_option maxRecDepth 65536 in
set_option maxHeartbeats 40000000 in
theorem s4_4_s {p : Program} {l : Launch} {e : Env} {s : State} {m : MethodId} {args : Array Value} {below : List Frame} {meth : Method} {c : Code} {T0 : State} {locs : List Loc} {Z : State} {a0 : Array Value} {h0 : Heap} {n0 : Nat} (s0 : Slot) (s1 : Slot) (i2 : Int32) (s3 : Slot) (s4 : Slot) (s5 : Slot) (s6 : Slot) (o7 : Addr) (s8 : Slot) (o9 : Addr) (s10 : Slot) (s11 : Slot) (s12 : Slot) (s13 : Slot) (s14 : Slot) (kc : ClassId) (vs : List Value) (mc k : Int32) (b : Addr)
    (X0 : Stand p l e room_1 s m args below meth c T0 locs 11 64) (hx : p.tables.exec = Jvm.exec) (hZ : Z.Warmed39 s.vm) (hw : ∀ d ∈ tables_1, d.before a0 Z = true) (hby : c.code = code) (hml : c.maxLocals = 15) (hown : s.vm.findClass "com/example/bindspire/bindspire/ChoiceChosenPinLaw" = some m.cls) (e0 : T0.heap = h0) (N0 : Fr n0 locs) (Z0 : n0 ≤ h0.size) (Od0 : Old Z n0 h0) (E_o9 : Exa Z h0 o9 "java/util/ArrayList") (E_o7 : Exa Z h0 o7 "com/example/bindspire/bindspire/Overloads$Candidate") (F_modCount_o9 : Fld Z h0 o9 "java/util/AbstractList" "modCount" "I" (.int mc)) (F_size_o9 : Fld Z h0 o9 "java/util/ArrayList" "size" "I" (.int k)) (F_elementData_o9 : Fld Z h0 o9 "java/util/ArrayList" "elementData" "[Ljava/lang/Object;" (.ref b)) (V_b : Arv Z h0 b kc (.object "java/lang/Object") (10 : Int32) vs .null) (Ov_b : Ovr Z kc "java/lang/Object") (g_b : n0 ≤ b) (hne : o9 ≠ b) (hj : ¬ (k < 0) ∧ k < (10 : Int32)) (hl : (k).toNatClampNeg < vs.length) (hk : ¬ (k = (10 : Int32))) (g_o9 : n0 ≤ o9) (hc175 : ¬ ((i2 &&& (2 : Int32)) = (0 : Int32))) :
    ∃ (T' : State) (L' : List Loc) (h' : Heap), Stand p l e room_1 s m args below meth c T' L' 11 64 ∧ Fr n0 L' ∧ T'.heap = h' ∧ Old Z n0 h' ∧ Keep h0 h' [o9, b] ∧ own_L1 Z h' o9 b (k + (1 : Int32)) (vs.set (k).toNatClampNeg (.ref o7)) ∧
      ∀ target, Steps p.tables e below (T'.setTop (mkF m 188 #[s0, s1, .val (.int i2), s3, s4, s5, s6, .val (.ref o7), s8, .val (.ref o9), s10, s11, s12, s13, s14] [])) target → Steps p.tables e below (T0.setTop (mkF m 172 #[s0, s1, .val (.int i2), s3, s4, s5, s6, .val (.ref o7), s8, .val (.ref o9), s10, s11, s12, s13, s14] [])) target := by
  obtain ⟨cq1, kq1, q1a, q1b, q1c⟩ := isOf hZ e0 E_o9
  obtain ⟨_, _, ⟨T1, L1, k1, n1⟩, -, X1, ⟨Lc1, hQ1, l1, y1, z1⟩, st1⟩ := X0.interfaceBack hx (xi := (⟨"java/util/List", "add", "(Ljava/lang/Object;)Z"⟩ : MethodName)) (y := (⟨"java/util/ArrayList", "add", "(Ljava/lang/Object;)Z"⟩ : MethodName)) hown (mvT hZ (hw _ (List.mem_of_getElem? (i := 42) rfl))) (mvT hZ (hw _ (List.mem_of_getElem? (i := 43) rfl))) (mvT hZ (hw _ (List.mem_of_getElem? (i := 44) rfl))) (mvT hZ (hw _ (List.mem_of_getElem? (i := 45) rfl))) (mvT hZ (hw _ (List.mem_of_getElem? (i := 46) rfl))) (mvT hZ (hw _ (List.mem_of_getElem? (i := 47) rfl))) (mvT hZ (hw _ (List.mem_of_getElem? (i := 48) rfl))) (mvT hZ (hw _ (List.mem_of_getElem? (i := 49) rfl))) (by decide) (backOf (W := 0) (rm7_s l Z a0 hw [] o9 o7 kc vs mc k b h0 n0 Z0 E_o9 E_o7 F_modCount_o9 F_size_o9 F_elementData_o9 V_b Ov_b g_b g_o9 hne hj hl hk) hZ (hw _ (List.mem_of_getElem? (i := 50) rfl)) (hw _ (List.mem_of_getElem? (i := 20) rfl)) (by decide) (by decide)) q1a q1b q1c (g := (mkF m 182 #[s0, s1, .val (.int i2), s3, s4, s5, s6, .val (.ref o7), s8, .val (.ref o9), s10, s11, s12, s13, s14] [(.ref o7), (.ref o9)])) rfl (by rw [hml]; rfl) (Steps.refl _) (argsL := [(.ref o7)]) (rest := []) (lenOf pd_0_2 rfl) rfl (by show 2 * 0 + _ ≤ _; exact Nat.le_of_eq rfl) (hb hby at_182) (fun _ _ => ⟨rfl, e0, (by decide : 11 + 0 ≤ _), (by decide : 64 + 0 ≤ _)⟩)
  dsimp only [Pt.U, Pt.locs, Pt.cells, Pt.slots] at X1 l1 y1 z1 st1 hQ1
  subst l1 y1 z1
  obtain ⟨rfl, N1q, K1, E1q, ⟨mc1, Fm1⟩, Fs1, Fe1, kc1, Ov1, V1q⟩ := hQ1
  have N1 := Fr.app N0 N1q
  have KK1 : Keep h0 T1.heap [o9, b] := Keep.trans (Keep.refl h0 [o9, b]) K1 (allS (Or.inl (List.mem_of_getElem? (i := 0) rfl)) (allS (Or.inl (List.mem_of_getElem? (i := 1) rfl)) all0))
  have Od1 := Old.keep Od0 K1 (allS (g_o9) (allS (g_b) all0))
  refine ⟨T1, _, _, X1, N1, rfl, Od1, KK1, ⟨E1q, ⟨_, Fm1⟩, Fs1, Fe1, kc1, Ov1, V1q⟩, fun target kt => ?_⟩
  show Steps p.tables e below (T0.setTop (mkF m 172 #[s0, s1, .val (.int i2), s3, s4, s5, s6, .val (.ref o7), s8, .val (.ref o9), s10, s11, s12, s13, s14] [])) _
  refine XS.iloadN X0.here hx rfl (hb hby at_172) rfl ?_
  show Steps p.tables e below (T0.setTop (mkF m 173 #[s0, s1, .val (.int i2), s3, s4, s5, s6, .val (.ref o7), s8, .val (.ref o9), s10, s11, s12, s13, s14] [(.int i2)])) _
  refine XS.iconst X0.here hx rfl (hb hby at_173) ?_
  show Steps p.tables e below (T0.setTop (mkF m 174 #[s0, s1, .val (.int i2), s3, s4, s5, s6, .val (.ref o7), s8, .val (.ref o9), s10, s11, s12, s13, s14] [(.int (2 : Int32)), (.int i2)])) _
  refine XS.iand X0.here hx rfl (hb hby at_174) rfl ?_
  show Steps p.tables e below (T0.setTop (mkF m 175 #[s0, s1, .val (.int i2), s3, s4, s5, s6, .val (.ref o7), s8, .val (.ref o9), s10, s11, s12, s13, s14] [(.int (i2 &&& (2 : Int32)))])) _
  refine XS.ifNo X0.here hx rfl (hb hby at_175) rfl ((if0 _ _).trans (feq hc175).1) ?_
  show Steps p.tables e below (T0.setTop (mkF m 178 #[s0, s1, .val (.int i2), s3, s4, s5, s6, .val (.ref o7), s8, .val (.ref o9), s10, s11, s12, s13, s14] [])) _
  refine XS.aload X0.here hx rfl (hb hby at_178) rfl rfl ?_
  show Steps p.tables e below (T0.setTop (mkF m 180 #[s0, s1, .val (.int i2), s3, s4, s5, s6, .val (.ref o7), s8, .val (.ref o9), s10, s11, s12, s13, s14] [(.ref o9)])) _
  refine XS.aload X0.here hx rfl (hb hby at_180) rfl rfl ?_
  show Steps p.tables e below (T0.setTop (mkF m 182 #[s0, s1, .val (.int i2), s3, s4, s5, s6, .val (.ref o7), s8, .val (.ref o9), s10, s11, s12, s13, s14] [(.ref o7), (.ref o9)])) _
  refine st1.trans ?_
  show Steps p.tables e below (T1.setTop (mkF m 187 #[s0, s1, .val (.int i2), s3, s4, s5, s6, .val (.ref o7), s8, .val (.ref o9), s10, s11, s12, s13, s14] [(.int (1 : Int32))])) _
  refine XS.pop X1.here hx rfl (hb hby at_187) rfl rfl ?_
  exact kt

set_option maxRecDepth 65536 in
theorem own_site0 {p : Program} {l : Launch} {e : Env} {s : State} {m : MethodId} {args : Array Value} {below : List Frame} {meth : Method} {c : Code} {T0 : State} {locs : List Loc} {Z : State} {a0 : Array Value} {h0 : Heap} {n0 : Nat} (s0 s1 : Slot) (i2 i3 : Int32) (o4 o5 o6 o7 : Addr) (s8 : Slot) (o9 : Addr) (s10 s11 s12 s13 s14 : Slot) (wD : Addr) (cl_wD : Cell) (h1 : Heap) (X0 : Stand p l e room_1 s m args below meth c T0 locs 7 24) (hx : p.tables.exec = Jvm.exec) (hZ : Z.Warmed39 s.vm) (hw : ∀ d ∈ tables_1, d.before a0 Z = true) (hby : c.code = code) (hml : c.maxLocals = 15) (hown : s.vm.findClass "com/example/bindspire/bindspire/ChoiceChosenPinLaw" = some m.cls) (e0 : T0.heap = h0) (N0 : Fr n0 locs) (Z0 : n0 ≤ h0.size) (Od0 : Old Z n0 h0) (E1 : Ext h1 h0) (hn1 : n0 ≤ h1.size) (E_o7 : Exa Z h0 o7 "com/example/bindspire/bindspire/Overloads$Candidate") (S_D : Sta Z Z.heap "java/util/ArrayList" "DEFAULTCAPACITY_EMPTY_ELEMENTDATA" "[Ljava/lang/Object;" (.ref wD)) (Ar_wD : Arr Z Z.heap wD cl_wD (.object "java/lang/Object")) (S_wD : cl_wD.slots.size = (0 : Int32).toNatClampNeg) (g_o9 : n0 ≤ o9) (g1 : h1.size ≤ o9) (hP : own_P Z wD h1 h0 o9 0) :
    ∃ (T' : State) (L' : List Loc) (h' : Heap), Stand p l e room_1 s m args below meth c T' L' 8 34 ∧ Fr n0 L' ∧ T'.heap = h' ∧ Old Z n0 h' ∧ Ext h1 h' ∧ own_P Z wD h1 h' o9 1 ∧
      ∀ target, Steps p.tables e below (T'.setTop (mkF m 127 #[s0, s1, .val (.int i2), .val (.int i3), .val (.ref o4), .val (.ref o5), .val (.ref o6), .val (.ref o7), s8, .val (.ref o9), s10, s11, s12, s13, s14] [])) target → Steps p.tables e below (T0.setTop (mkF m 111 #[s0, s1, .val (.int i2), .val (.int i3), .val (.ref o4), .val (.ref o5), .val (.ref o6), .val (.ref o7), s8, .val (.ref o9), s10, s11, s12, s13, s14] [])) target := by
  by_cases hq : (i2 &&& (1 : Int32)) = (0 : Int32)
  · obtain ⟨T', L', h', X', N', e', f', kk⟩ := s4_0_t (s0 := s0) (s1 := s1) (i2 := i2) (s3 := .val (.int i3)) (s4 := .val (.ref o4)) (s5 := .val (.ref o5)) (s6 := .val (.ref o6)) (s7 := .val (.ref o7)) (s8 := s8) (s9 := .val (.ref o9)) (s10 := s10) (s11 := s11) (s12 := s12) (s13 := s13) (s14 := s14) (X0 := X0) (hx := hx) (hZ := hZ) (hw := hw) (hby := hby) (hml := hml) (hown := hown) (e0 := e0) (N0 := N0) (Z0 := Z0) (hc114 := hq)
    subst f'
    exact ⟨T', L', h', X'.more (by decide) (by decide), N', e', Od0, E1, hP.elim Or.inl fun ⟨j, b, vs, q1, q2, q3, q4, q5⟩ => Or.inr ⟨j, b, vs, q1, q2, q3, q4, by omega⟩, kk⟩
  · rcases hP with hP | ⟨jj, b, vs, hL, hb, hlen, hj1, hj2⟩
    · obtain ⟨LE, ⟨mc, Fm⟩, Fs, Fe⟩ := hP
      obtain ⟨T', L', h', b, X', N', e', O', K', hz', L1, kk⟩ := s4_0_g (s0 := s0) (s1 := s1) (i2 := i2) (s3 := .val (.int i3)) (s4 := .val (.ref o4)) (s5 := .val (.ref o5)) (s6 := .val (.ref o6)) (o7 := o7) (s8 := s8) (o9 := o9) (s10 := s10) (s11 := s11) (s12 := s12) (s13 := s13) (s14 := s14) (mc := mc) (wD := wD) (cl_wD := cl_wD) (X0 := X0) (hx := hx) (hZ := hZ) (hw := hw) (hby := hby) (hml := hml) (hown := hown) (e0 := e0) (N0 := N0) (Z0 := Z0) (Od0 := Od0) (E_o9 := LE) (E_o7 := E_o7) (F_modCount_o9 := Fm) (F_size_o9 := Fs) (F_elementData_o9 := Fe) (S_DEFAULTCAPACITY_EMPTY_ELEMENTDATA := S_D) (Ar_wD := Ar_wD) (S_wD := S_wD) (g_o9 := g_o9) (hc114 := hq)
      exact ⟨T', L', h', X', N', e', O', own_ek E1 K' (allS g1 all0), Or.inr ⟨_, b, _, L1, Nat.le_trans E1.1 hz', by rfl, by decide, by decide⟩, kk⟩
    · obtain ⟨LE, ⟨mc, Fm⟩, Fs, Fe, kc, Ov, V⟩ := hL
      have z0 : (0 : Int32).toInt = 0 := by decide
      have z10 : (10 : Int32).toInt = 10 := by decide
      have hj : ¬ (jj < 0) ∧ jj < (10 : Int32) := ⟨fun q => absurd (Int32.lt_iff_toInt_lt.mp q) (by omega), Int32.lt_iff_toInt_lt.mpr (by omega)⟩
      have hl : (jj).toNatClampNeg < vs.length := by rw [hlen]; simp only [Int32.toNatClampNeg]; omega
      have hk : ¬ (jj = (10 : Int32)) := fun q => by rw [q] at hj2; exact absurd hj2 (by decide)
      obtain ⟨T', L', h', X', N', e', O', K', L1, kk⟩ := s4_0_s (s0 := s0) (s1 := s1) (i2 := i2) (s3 := .val (.int i3)) (s4 := .val (.ref o4)) (s5 := .val (.ref o5)) (s6 := .val (.ref o6)) (o7 := o7) (s8 := s8) (o9 := o9) (s10 := s10) (s11 := s11) (s12 := s12) (s13 := s13) (s14 := s14) (kc := kc) (vs := vs) (mc := mc) (k := jj) (b := b) (X0 := X0) (hx := hx) (hZ := hZ) (hw := hw) (hby := hby) (hml := hml) (hown := hown) (e0 := e0) (N0 := N0) (Z0 := Z0) (Od0 := Od0) (E_o9 := LE) (E_o7 := E_o7) (F_modCount_o9 := Fm) (F_size_o9 := Fs) (F_elementData_o9 := Fe) (V_b := V) (Ov_b := Ov) (g_b := (Nat.le_trans hn1 hb)) (hne := (own_na LE (hw _ (List.mem_of_getElem? (i := 19) rfl)) V)) (hj := hj) (hl := hl) (hk := hk) (g_o9 := g_o9) (hc114 := hq)
      have ha := own_add1 (j := jj) (by omega) (by omega)
      exact ⟨T', L', h', X'.more (by decide) (by decide), N', e', O', own_ek E1 K' (allS g1 (allS hb all0)), Or.inr ⟨_, b, _, L1, hb, by rw [List.length_set]; exact hlen, by omega, by omega⟩, kk⟩
set_option maxRecDepth 65536 in
theorem own_site1 {p : Program} {l : Launch} {e : Env} {s : State} {m : MethodId} {args : Array Value} {below : List Frame} {meth : Method} {c : Code} {T0 : State} {locs : List Loc} {Z : State} {a0 : Array Value} {h0 : Heap} {n0 : Nat} (s0 s1 : Slot) (i2 i3 : Int32) (o4 o5 o6 o7 : Addr) (s8 : Slot) (o9 : Addr) (s10 s11 s12 s13 s14 : Slot) (wD : Addr) (cl_wD : Cell) (h1 : Heap) (X0 : Stand p l e room_1 s m args below meth c T0 locs 8 34) (hx : p.tables.exec = Jvm.exec) (hZ : Z.Warmed39 s.vm) (hw : ∀ d ∈ tables_1, d.before a0 Z = true) (hby : c.code = code) (hml : c.maxLocals = 15) (hown : s.vm.findClass "com/example/bindspire/bindspire/ChoiceChosenPinLaw" = some m.cls) (e0 : T0.heap = h0) (N0 : Fr n0 locs) (Z0 : n0 ≤ h0.size) (Od0 : Old Z n0 h0) (E1 : Ext h1 h0) (hn1 : n0 ≤ h1.size) (E_o4 : Exa Z h0 o4 "com/example/bindspire/bindspire/Overloads$Candidate") (S_D : Sta Z Z.heap "java/util/ArrayList" "DEFAULTCAPACITY_EMPTY_ELEMENTDATA" "[Ljava/lang/Object;" (.ref wD)) (Ar_wD : Arr Z Z.heap wD cl_wD (.object "java/lang/Object")) (S_wD : cl_wD.slots.size = (0 : Int32).toNatClampNeg) (g_o9 : n0 ≤ o9) (g1 : h1.size ≤ o9) (hP : own_P Z wD h1 h0 o9 1) :
    ∃ (T' : State) (L' : List Loc) (h' : Heap), Stand p l e room_1 s m args below meth c T' L' 9 44 ∧ Fr n0 L' ∧ T'.heap = h' ∧ Old Z n0 h' ∧ Ext h1 h' ∧ own_P Z wD h1 h' o9 2 ∧
      ∀ target, Steps p.tables e below (T'.setTop (mkF m 142 #[s0, s1, .val (.int i2), .val (.int i3), .val (.ref o4), .val (.ref o5), .val (.ref o6), .val (.ref o7), s8, .val (.ref o9), s10, s11, s12, s13, s14] [])) target → Steps p.tables e below (T0.setTop (mkF m 127 #[s0, s1, .val (.int i2), .val (.int i3), .val (.ref o4), .val (.ref o5), .val (.ref o6), .val (.ref o7), s8, .val (.ref o9), s10, s11, s12, s13, s14] [])) target := by
  by_cases hq : i3 < (1 : Int32)
  · obtain ⟨T', L', h', X', N', e', f', kk⟩ := s4_1_t (s0 := s0) (s1 := s1) (s2 := .val (.int i2)) (i3 := i3) (s4 := .val (.ref o4)) (s5 := .val (.ref o5)) (s6 := .val (.ref o6)) (s7 := .val (.ref o7)) (s8 := s8) (s9 := .val (.ref o9)) (s10 := s10) (s11 := s11) (s12 := s12) (s13 := s13) (s14 := s14) (X0 := X0) (hx := hx) (hZ := hZ) (hw := hw) (hby := hby) (hml := hml) (hown := hown) (e0 := e0) (N0 := N0) (Z0 := Z0) (hc129 := hq)
    subst f'
    exact ⟨T', L', h', X'.more (by decide) (by decide), N', e', Od0, E1, hP.elim Or.inl fun ⟨j, b, vs, q1, q2, q3, q4, q5⟩ => Or.inr ⟨j, b, vs, q1, q2, q3, q4, by omega⟩, kk⟩
  · rcases hP with hP | ⟨jj, b, vs, hL, hb, hlen, hj1, hj2⟩
    · obtain ⟨LE, ⟨mc, Fm⟩, Fs, Fe⟩ := hP
      obtain ⟨T', L', h', b, X', N', e', O', K', hz', L1, kk⟩ := s4_1_g (s0 := s0) (s1 := s1) (s2 := .val (.int i2)) (i3 := i3) (o4 := o4) (s5 := .val (.ref o5)) (s6 := .val (.ref o6)) (s7 := .val (.ref o7)) (s8 := s8) (o9 := o9) (s10 := s10) (s11 := s11) (s12 := s12) (s13 := s13) (s14 := s14) (mc := mc) (wD := wD) (cl_wD := cl_wD) (X0 := X0) (hx := hx) (hZ := hZ) (hw := hw) (hby := hby) (hml := hml) (hown := hown) (e0 := e0) (N0 := N0) (Z0 := Z0) (Od0 := Od0) (E_o9 := LE) (E_o4 := E_o4) (F_modCount_o9 := Fm) (F_size_o9 := Fs) (F_elementData_o9 := Fe) (S_DEFAULTCAPACITY_EMPTY_ELEMENTDATA := S_D) (Ar_wD := Ar_wD) (S_wD := S_wD) (g_o9 := g_o9) (hc129 := hq)
      exact ⟨T', L', h', X', N', e', O', own_ek E1 K' (allS g1 all0), Or.inr ⟨_, b, _, L1, Nat.le_trans E1.1 hz', by rfl, by decide, by decide⟩, kk⟩
    · obtain ⟨LE, ⟨mc, Fm⟩, Fs, Fe, kc, Ov, V⟩ := hL
      have z0 : (0 : Int32).toInt = 0 := by decide
      have z10 : (10 : Int32).toInt = 10 := by decide
      have hj : ¬ (jj < 0) ∧ jj < (10 : Int32) := ⟨fun q => absurd (Int32.lt_iff_toInt_lt.mp q) (by omega), Int32.lt_iff_toInt_lt.mpr (by omega)⟩
      have hl : (jj).toNatClampNeg < vs.length := by rw [hlen]; simp only [Int32.toNatClampNeg]; omega
      have hk : ¬ (jj = (10 : Int32)) := fun q => by rw [q] at hj2; exact absurd hj2 (by decide)
      obtain ⟨T', L', h', X', N', e', O', K', L1, kk⟩ := s4_1_s (s0 := s0) (s1 := s1) (s2 := .val (.int i2)) (i3 := i3) (o4 := o4) (s5 := .val (.ref o5)) (s6 := .val (.ref o6)) (s7 := .val (.ref o7)) (s8 := s8) (o9 := o9) (s10 := s10) (s11 := s11) (s12 := s12) (s13 := s13) (s14 := s14) (kc := kc) (vs := vs) (mc := mc) (k := jj) (b := b) (X0 := X0) (hx := hx) (hZ := hZ) (hw := hw) (hby := hby) (hml := hml) (hown := hown) (e0 := e0) (N0 := N0) (Z0 := Z0) (Od0 := Od0) (E_o9 := LE) (E_o4 := E_o4) (F_modCount_o9 := Fm) (F_size_o9 := Fs) (F_elementData_o9 := Fe) (V_b := V) (Ov_b := Ov) (g_b := (Nat.le_trans hn1 hb)) (hne := (own_na LE (hw _ (List.mem_of_getElem? (i := 19) rfl)) V)) (hj := hj) (hl := hl) (hk := hk) (g_o9 := g_o9) (hc129 := hq)
      have ha := own_add1 (j := jj) (by omega) (by omega)
      exact ⟨T', L', h', X'.more (by decide) (by decide), N', e', O', own_ek E1 K' (allS g1 (allS hb all0)), Or.inr ⟨_, b, _, L1, hb, by rw [List.length_set]; exact hlen, by omega, by omega⟩, kk⟩
set_option maxRecDepth 65536 in
theorem own_site2 {p : Program} {l : Launch} {e : Env} {s : State} {m : MethodId} {args : Array Value} {below : List Frame} {meth : Method} {c : Code} {T0 : State} {locs : List Loc} {Z : State} {a0 : Array Value} {h0 : Heap} {n0 : Nat} (s0 s1 : Slot) (i2 i3 : Int32) (o4 o5 o6 o7 : Addr) (s8 : Slot) (o9 : Addr) (s10 s11 s12 s13 s14 : Slot) (wD : Addr) (cl_wD : Cell) (h1 : Heap) (X0 : Stand p l e room_1 s m args below meth c T0 locs 9 44) (hx : p.tables.exec = Jvm.exec) (hZ : Z.Warmed39 s.vm) (hw : ∀ d ∈ tables_1, d.before a0 Z = true) (hby : c.code = code) (hml : c.maxLocals = 15) (hown : s.vm.findClass "com/example/bindspire/bindspire/ChoiceChosenPinLaw" = some m.cls) (e0 : T0.heap = h0) (N0 : Fr n0 locs) (Z0 : n0 ≤ h0.size) (Od0 : Old Z n0 h0) (E1 : Ext h1 h0) (hn1 : n0 ≤ h1.size) (E_o5 : Exa Z h0 o5 "com/example/bindspire/bindspire/Overloads$Candidate") (S_D : Sta Z Z.heap "java/util/ArrayList" "DEFAULTCAPACITY_EMPTY_ELEMENTDATA" "[Ljava/lang/Object;" (.ref wD)) (Ar_wD : Arr Z Z.heap wD cl_wD (.object "java/lang/Object")) (S_wD : cl_wD.slots.size = (0 : Int32).toNatClampNeg) (g_o9 : n0 ≤ o9) (g1 : h1.size ≤ o9) (hP : own_P Z wD h1 h0 o9 2) :
    ∃ (T' : State) (L' : List Loc) (h' : Heap), Stand p l e room_1 s m args below meth c T' L' 10 54 ∧ Fr n0 L' ∧ T'.heap = h' ∧ Old Z n0 h' ∧ Ext h1 h' ∧ own_P Z wD h1 h' o9 3 ∧
      ∀ target, Steps p.tables e below (T'.setTop (mkF m 157 #[s0, s1, .val (.int i2), .val (.int i3), .val (.ref o4), .val (.ref o5), .val (.ref o6), .val (.ref o7), s8, .val (.ref o9), s10, s11, s12, s13, s14] [])) target → Steps p.tables e below (T0.setTop (mkF m 142 #[s0, s1, .val (.int i2), .val (.int i3), .val (.ref o4), .val (.ref o5), .val (.ref o6), .val (.ref o7), s8, .val (.ref o9), s10, s11, s12, s13, s14] [])) target := by
  by_cases hq : i3 < (2 : Int32)
  · obtain ⟨T', L', h', X', N', e', f', kk⟩ := s4_2_t (s0 := s0) (s1 := s1) (s2 := .val (.int i2)) (i3 := i3) (s4 := .val (.ref o4)) (s5 := .val (.ref o5)) (s6 := .val (.ref o6)) (s7 := .val (.ref o7)) (s8 := s8) (s9 := .val (.ref o9)) (s10 := s10) (s11 := s11) (s12 := s12) (s13 := s13) (s14 := s14) (X0 := X0) (hx := hx) (hZ := hZ) (hw := hw) (hby := hby) (hml := hml) (hown := hown) (e0 := e0) (N0 := N0) (Z0 := Z0) (hc144 := hq)
    subst f'
    exact ⟨T', L', h', X'.more (by decide) (by decide), N', e', Od0, E1, hP.elim Or.inl fun ⟨j, b, vs, q1, q2, q3, q4, q5⟩ => Or.inr ⟨j, b, vs, q1, q2, q3, q4, by omega⟩, kk⟩
  · rcases hP with hP | ⟨jj, b, vs, hL, hb, hlen, hj1, hj2⟩
    · obtain ⟨LE, ⟨mc, Fm⟩, Fs, Fe⟩ := hP
      obtain ⟨T', L', h', b, X', N', e', O', K', hz', L1, kk⟩ := s4_2_g (s0 := s0) (s1 := s1) (s2 := .val (.int i2)) (i3 := i3) (s4 := .val (.ref o4)) (o5 := o5) (s6 := .val (.ref o6)) (s7 := .val (.ref o7)) (s8 := s8) (o9 := o9) (s10 := s10) (s11 := s11) (s12 := s12) (s13 := s13) (s14 := s14) (mc := mc) (wD := wD) (cl_wD := cl_wD) (X0 := X0) (hx := hx) (hZ := hZ) (hw := hw) (hby := hby) (hml := hml) (hown := hown) (e0 := e0) (N0 := N0) (Z0 := Z0) (Od0 := Od0) (E_o9 := LE) (E_o5 := E_o5) (F_modCount_o9 := Fm) (F_size_o9 := Fs) (F_elementData_o9 := Fe) (S_DEFAULTCAPACITY_EMPTY_ELEMENTDATA := S_D) (Ar_wD := Ar_wD) (S_wD := S_wD) (g_o9 := g_o9) (hc144 := hq)
      exact ⟨T', L', h', X', N', e', O', own_ek E1 K' (allS g1 all0), Or.inr ⟨_, b, _, L1, Nat.le_trans E1.1 hz', by rfl, by decide, by decide⟩, kk⟩
    · obtain ⟨LE, ⟨mc, Fm⟩, Fs, Fe, kc, Ov, V⟩ := hL
      have z0 : (0 : Int32).toInt = 0 := by decide
      have z10 : (10 : Int32).toInt = 10 := by decide
      have hj : ¬ (jj < 0) ∧ jj < (10 : Int32) := ⟨fun q => absurd (Int32.lt_iff_toInt_lt.mp q) (by omega), Int32.lt_iff_toInt_lt.mpr (by omega)⟩
      have hl : (jj).toNatClampNeg < vs.length := by rw [hlen]; simp only [Int32.toNatClampNeg]; omega
      have hk : ¬ (jj = (10 : Int32)) := fun q => by rw [q] at hj2; exact absurd hj2 (by decide)
      obtain ⟨T', L', h', X', N', e', O', K', L1, kk⟩ := s4_2_s (s0 := s0) (s1 := s1) (s2 := .val (.int i2)) (i3 := i3) (s4 := .val (.ref o4)) (o5 := o5) (s6 := .val (.ref o6)) (s7 := .val (.ref o7)) (s8 := s8) (o9 := o9) (s10 := s10) (s11 := s11) (s12 := s12) (s13 := s13) (s14 := s14) (kc := kc) (vs := vs) (mc := mc) (k := jj) (b := b) (X0 := X0) (hx := hx) (hZ := hZ) (hw := hw) (hby := hby) (hml := hml) (hown := hown) (e0 := e0) (N0 := N0) (Z0 := Z0) (Od0 := Od0) (E_o9 := LE) (E_o5 := E_o5) (F_modCount_o9 := Fm) (F_size_o9 := Fs) (F_elementData_o9 := Fe) (V_b := V) (Ov_b := Ov) (g_b := (Nat.le_trans hn1 hb)) (hne := (own_na LE (hw _ (List.mem_of_getElem? (i := 19) rfl)) V)) (hj := hj) (hl := hl) (hk := hk) (g_o9 := g_o9) (hc144 := hq)
      have ha := own_add1 (j := jj) (by omega) (by omega)
      exact ⟨T', L', h', X'.more (by decide) (by decide), N', e', O', own_ek E1 K' (allS g1 (allS hb all0)), Or.inr ⟨_, b, _, L1, hb, by rw [List.length_set]; exact hlen, by omega, by omega⟩, kk⟩
set_option maxRecDepth 65536 in
theorem own_site3 {p : Program} {l : Launch} {e : Env} {s : State} {m : MethodId} {args : Array Value} {below : List Frame} {meth : Method} {c : Code} {T0 : State} {locs : List Loc} {Z : State} {a0 : Array Value} {h0 : Heap} {n0 : Nat} (s0 s1 : Slot) (i2 i3 : Int32) (o4 o5 o6 o7 : Addr) (s8 : Slot) (o9 : Addr) (s10 s11 s12 s13 s14 : Slot) (wD : Addr) (cl_wD : Cell) (h1 : Heap) (X0 : Stand p l e room_1 s m args below meth c T0 locs 10 54) (hx : p.tables.exec = Jvm.exec) (hZ : Z.Warmed39 s.vm) (hw : ∀ d ∈ tables_1, d.before a0 Z = true) (hby : c.code = code) (hml : c.maxLocals = 15) (hown : s.vm.findClass "com/example/bindspire/bindspire/ChoiceChosenPinLaw" = some m.cls) (e0 : T0.heap = h0) (N0 : Fr n0 locs) (Z0 : n0 ≤ h0.size) (Od0 : Old Z n0 h0) (E1 : Ext h1 h0) (hn1 : n0 ≤ h1.size) (E_o6 : Exa Z h0 o6 "com/example/bindspire/bindspire/Overloads$Candidate") (S_D : Sta Z Z.heap "java/util/ArrayList" "DEFAULTCAPACITY_EMPTY_ELEMENTDATA" "[Ljava/lang/Object;" (.ref wD)) (Ar_wD : Arr Z Z.heap wD cl_wD (.object "java/lang/Object")) (S_wD : cl_wD.slots.size = (0 : Int32).toNatClampNeg) (g_o9 : n0 ≤ o9) (g1 : h1.size ≤ o9) (hP : own_P Z wD h1 h0 o9 3) :
    ∃ (T' : State) (L' : List Loc) (h' : Heap), Stand p l e room_1 s m args below meth c T' L' 11 64 ∧ Fr n0 L' ∧ T'.heap = h' ∧ Old Z n0 h' ∧ Ext h1 h' ∧ own_P Z wD h1 h' o9 4 ∧
      ∀ target, Steps p.tables e below (T'.setTop (mkF m 172 #[s0, s1, .val (.int i2), .val (.int i3), .val (.ref o4), .val (.ref o5), .val (.ref o6), .val (.ref o7), s8, .val (.ref o9), s10, s11, s12, s13, s14] [])) target → Steps p.tables e below (T0.setTop (mkF m 157 #[s0, s1, .val (.int i2), .val (.int i3), .val (.ref o4), .val (.ref o5), .val (.ref o6), .val (.ref o7), s8, .val (.ref o9), s10, s11, s12, s13, s14] [])) target := by
  by_cases hq : i3 < (3 : Int32)
  · obtain ⟨T', L', h', X', N', e', f', kk⟩ := s4_3_t (s0 := s0) (s1 := s1) (s2 := .val (.int i2)) (i3 := i3) (s4 := .val (.ref o4)) (s5 := .val (.ref o5)) (s6 := .val (.ref o6)) (s7 := .val (.ref o7)) (s8 := s8) (s9 := .val (.ref o9)) (s10 := s10) (s11 := s11) (s12 := s12) (s13 := s13) (s14 := s14) (X0 := X0) (hx := hx) (hZ := hZ) (hw := hw) (hby := hby) (hml := hml) (hown := hown) (e0 := e0) (N0 := N0) (Z0 := Z0) (hc159 := hq)
    subst f'
    exact ⟨T', L', h', X'.more (by decide) (by decide), N', e', Od0, E1, hP.elim Or.inl fun ⟨j, b, vs, q1, q2, q3, q4, q5⟩ => Or.inr ⟨j, b, vs, q1, q2, q3, q4, by omega⟩, kk⟩
  · rcases hP with hP | ⟨jj, b, vs, hL, hb, hlen, hj1, hj2⟩
    · obtain ⟨LE, ⟨mc, Fm⟩, Fs, Fe⟩ := hP
      obtain ⟨T', L', h', b, X', N', e', O', K', hz', L1, kk⟩ := s4_3_g (s0 := s0) (s1 := s1) (s2 := .val (.int i2)) (i3 := i3) (s4 := .val (.ref o4)) (s5 := .val (.ref o5)) (o6 := o6) (s7 := .val (.ref o7)) (s8 := s8) (o9 := o9) (s10 := s10) (s11 := s11) (s12 := s12) (s13 := s13) (s14 := s14) (mc := mc) (wD := wD) (cl_wD := cl_wD) (X0 := X0) (hx := hx) (hZ := hZ) (hw := hw) (hby := hby) (hml := hml) (hown := hown) (e0 := e0) (N0 := N0) (Z0 := Z0) (Od0 := Od0) (E_o9 := LE) (E_o6 := E_o6) (F_modCount_o9 := Fm) (F_size_o9 := Fs) (F_elementData_o9 := Fe) (S_DEFAULTCAPACITY_EMPTY_ELEMENTDATA := S_D) (Ar_wD := Ar_wD) (S_wD := S_wD) (g_o9 := g_o9) (hc159 := hq)
      exact ⟨T', L', h', X', N', e', O', own_ek E1 K' (allS g1 all0), Or.inr ⟨_, b, _, L1, Nat.le_trans E1.1 hz', by rfl, by decide, by decide⟩, kk⟩
    · obtain ⟨LE, ⟨mc, Fm⟩, Fs, Fe, kc, Ov, V⟩ := hL
      have z0 : (0 : Int32).toInt = 0 := by decide
      have z10 : (10 : Int32).toInt = 10 := by decide
      have hj : ¬ (jj < 0) ∧ jj < (10 : Int32) := ⟨fun q => absurd (Int32.lt_iff_toInt_lt.mp q) (by omega), Int32.lt_iff_toInt_lt.mpr (by omega)⟩
      have hl : (jj).toNatClampNeg < vs.length := by rw [hlen]; simp only [Int32.toNatClampNeg]; omega
      have hk : ¬ (jj = (10 : Int32)) := fun q => by rw [q] at hj2; exact absurd hj2 (by decide)
      obtain ⟨T', L', h', X', N', e', O', K', L1, kk⟩ := s4_3_s (s0 := s0) (s1 := s1) (s2 := .val (.int i2)) (i3 := i3) (s4 := .val (.ref o4)) (s5 := .val (.ref o5)) (o6 := o6) (s7 := .val (.ref o7)) (s8 := s8) (o9 := o9) (s10 := s10) (s11 := s11) (s12 := s12) (s13 := s13) (s14 := s14) (kc := kc) (vs := vs) (mc := mc) (k := jj) (b := b) (X0 := X0) (hx := hx) (hZ := hZ) (hw := hw) (hby := hby) (hml := hml) (hown := hown) (e0 := e0) (N0 := N0) (Z0 := Z0) (Od0 := Od0) (E_o9 := LE) (E_o6 := E_o6) (F_modCount_o9 := Fm) (F_size_o9 := Fs) (F_elementData_o9 := Fe) (V_b := V) (Ov_b := Ov) (g_b := (Nat.le_trans hn1 hb)) (hne := (own_na LE (hw _ (List.mem_of_getElem? (i := 19) rfl)) V)) (hj := hj) (hl := hl) (hk := hk) (g_o9 := g_o9) (hc159 := hq)
      have ha := own_add1 (j := jj) (by omega) (by omega)
      exact ⟨T', L', h', X'.more (by decide) (by decide), N', e', O', own_ek E1 K' (allS g1 (allS hb all0)), Or.inr ⟨_, b, _, L1, hb, by rw [List.length_set]; exact hlen, by omega, by omega⟩, kk⟩
set_option maxRecDepth 65536 in
theorem own_site4 {p : Program} {l : Launch} {e : Env} {s : State} {m : MethodId} {args : Array Value} {below : List Frame} {meth : Method} {c : Code} {T0 : State} {locs : List Loc} {Z : State} {a0 : Array Value} {h0 : Heap} {n0 : Nat} (s0 s1 : Slot) (i2 i3 : Int32) (o4 o5 o6 o7 : Addr) (s8 : Slot) (o9 : Addr) (s10 s11 s12 s13 s14 : Slot) (wD : Addr) (cl_wD : Cell) (h1 : Heap) (X0 : Stand p l e room_1 s m args below meth c T0 locs 11 64) (hx : p.tables.exec = Jvm.exec) (hZ : Z.Warmed39 s.vm) (hw : ∀ d ∈ tables_1, d.before a0 Z = true) (hby : c.code = code) (hml : c.maxLocals = 15) (hown : s.vm.findClass "com/example/bindspire/bindspire/ChoiceChosenPinLaw" = some m.cls) (e0 : T0.heap = h0) (N0 : Fr n0 locs) (Z0 : n0 ≤ h0.size) (Od0 : Old Z n0 h0) (E1 : Ext h1 h0) (hn1 : n0 ≤ h1.size) (E_o7 : Exa Z h0 o7 "com/example/bindspire/bindspire/Overloads$Candidate") (S_D : Sta Z Z.heap "java/util/ArrayList" "DEFAULTCAPACITY_EMPTY_ELEMENTDATA" "[Ljava/lang/Object;" (.ref wD)) (Ar_wD : Arr Z Z.heap wD cl_wD (.object "java/lang/Object")) (S_wD : cl_wD.slots.size = (0 : Int32).toNatClampNeg) (g_o9 : n0 ≤ o9) (g1 : h1.size ≤ o9) (hP : own_P Z wD h1 h0 o9 4) :
    ∃ (T' : State) (L' : List Loc) (h' : Heap), Stand p l e room_1 s m args below meth c T' L' 12 74 ∧ Fr n0 L' ∧ T'.heap = h' ∧ Old Z n0 h' ∧ Ext h1 h' ∧ own_P Z wD h1 h' o9 5 ∧
      ∀ target, Steps p.tables e below (T'.setTop (mkF m 188 #[s0, s1, .val (.int i2), .val (.int i3), .val (.ref o4), .val (.ref o5), .val (.ref o6), .val (.ref o7), s8, .val (.ref o9), s10, s11, s12, s13, s14] [])) target → Steps p.tables e below (T0.setTop (mkF m 172 #[s0, s1, .val (.int i2), .val (.int i3), .val (.ref o4), .val (.ref o5), .val (.ref o6), .val (.ref o7), s8, .val (.ref o9), s10, s11, s12, s13, s14] [])) target := by
  by_cases hq : (i2 &&& (2 : Int32)) = (0 : Int32)
  · obtain ⟨T', L', h', X', N', e', f', kk⟩ := s4_4_t (s0 := s0) (s1 := s1) (i2 := i2) (s3 := .val (.int i3)) (s4 := .val (.ref o4)) (s5 := .val (.ref o5)) (s6 := .val (.ref o6)) (s7 := .val (.ref o7)) (s8 := s8) (s9 := .val (.ref o9)) (s10 := s10) (s11 := s11) (s12 := s12) (s13 := s13) (s14 := s14) (X0 := X0) (hx := hx) (hZ := hZ) (hw := hw) (hby := hby) (hml := hml) (hown := hown) (e0 := e0) (N0 := N0) (Z0 := Z0) (hc175 := hq)
    subst f'
    exact ⟨T', L', h', X'.more (by decide) (by decide), N', e', Od0, E1, hP.elim Or.inl fun ⟨j, b, vs, q1, q2, q3, q4, q5⟩ => Or.inr ⟨j, b, vs, q1, q2, q3, q4, by omega⟩, kk⟩
  · rcases hP with hP | ⟨jj, b, vs, hL, hb, hlen, hj1, hj2⟩
    · obtain ⟨LE, ⟨mc, Fm⟩, Fs, Fe⟩ := hP
      obtain ⟨T', L', h', b, X', N', e', O', K', hz', L1, kk⟩ := s4_4_g (s0 := s0) (s1 := s1) (i2 := i2) (s3 := .val (.int i3)) (s4 := .val (.ref o4)) (s5 := .val (.ref o5)) (s6 := .val (.ref o6)) (o7 := o7) (s8 := s8) (o9 := o9) (s10 := s10) (s11 := s11) (s12 := s12) (s13 := s13) (s14 := s14) (mc := mc) (wD := wD) (cl_wD := cl_wD) (X0 := X0) (hx := hx) (hZ := hZ) (hw := hw) (hby := hby) (hml := hml) (hown := hown) (e0 := e0) (N0 := N0) (Z0 := Z0) (Od0 := Od0) (E_o9 := LE) (E_o7 := E_o7) (F_modCount_o9 := Fm) (F_size_o9 := Fs) (F_elementData_o9 := Fe) (S_DEFAULTCAPACITY_EMPTY_ELEMENTDATA := S_D) (Ar_wD := Ar_wD) (S_wD := S_wD) (g_o9 := g_o9) (hc175 := hq)
      exact ⟨T', L', h', X', N', e', O', own_ek E1 K' (allS g1 all0), Or.inr ⟨_, b, _, L1, Nat.le_trans E1.1 hz', by rfl, by decide, by decide⟩, kk⟩
    · obtain ⟨LE, ⟨mc, Fm⟩, Fs, Fe, kc, Ov, V⟩ := hL
      have z0 : (0 : Int32).toInt = 0 := by decide
      have z10 : (10 : Int32).toInt = 10 := by decide
      have hj : ¬ (jj < 0) ∧ jj < (10 : Int32) := ⟨fun q => absurd (Int32.lt_iff_toInt_lt.mp q) (by omega), Int32.lt_iff_toInt_lt.mpr (by omega)⟩
      have hl : (jj).toNatClampNeg < vs.length := by rw [hlen]; simp only [Int32.toNatClampNeg]; omega
      have hk : ¬ (jj = (10 : Int32)) := fun q => by rw [q] at hj2; exact absurd hj2 (by decide)
      obtain ⟨T', L', h', X', N', e', O', K', L1, kk⟩ := s4_4_s (s0 := s0) (s1 := s1) (i2 := i2) (s3 := .val (.int i3)) (s4 := .val (.ref o4)) (s5 := .val (.ref o5)) (s6 := .val (.ref o6)) (o7 := o7) (s8 := s8) (o9 := o9) (s10 := s10) (s11 := s11) (s12 := s12) (s13 := s13) (s14 := s14) (kc := kc) (vs := vs) (mc := mc) (k := jj) (b := b) (X0 := X0) (hx := hx) (hZ := hZ) (hw := hw) (hby := hby) (hml := hml) (hown := hown) (e0 := e0) (N0 := N0) (Z0 := Z0) (Od0 := Od0) (E_o9 := LE) (E_o7 := E_o7) (F_modCount_o9 := Fm) (F_size_o9 := Fs) (F_elementData_o9 := Fe) (V_b := V) (Ov_b := Ov) (g_b := (Nat.le_trans hn1 hb)) (hne := (own_na LE (hw _ (List.mem_of_getElem? (i := 19) rfl)) V)) (hj := hj) (hl := hl) (hk := hk) (g_o9 := g_o9) (hc175 := hq)
      have ha := own_add1 (j := jj) (by omega) (by omega)
      exact ⟨T', L', h', X'.more (by decide) (by decide), N', e', O', own_ek E1 K' (allS g1 (allS hb all0)), Or.inr ⟨_, b, _, L1, hb, by rw [List.length_set]; exact hlen, by omega, by omega⟩, kk⟩
theorem os_s5_0_0_191 {s0 : Slot} {z1 : Value} {s2 : Slot} {s3 : Slot} {s4 : Slot} {s5 : Slot} {s6 : Slot} {s7 : Slot} {s8 : Slot} {s9 : Slot} {s10 : Slot} {s11 : Slot} {s12 : Slot} {s13 : Slot} {s14 : Slot} {v : Int32} (h : One s10) : storeLocals #[s0, .val z1, s2, s3, s4, s5, s6, s7, s8, s9, s10, s11, s12, s13, s14] 10 (.int v) = some #[s0, .val z1, s2, s3, s4, s5, s6, s7, s8, s9, .val (.int v), s11, s12, s13, s14] := by
  rcases h with rfl | ⟨w, rfl, hw⟩
  · rfl
  · cases w <;> first | rfl | (simp [Value.category] at hw)
theorem os_s5_0_0_201 {s0 : Slot} {z1 : Value} {s2 : Slot} {s3 : Slot} {s4 : Slot} {s5 : Slot} {s6 : Slot} {s7 : Slot} {s8 : Slot} {s9 : Slot} {z10 : Value} {s11 : Slot} {s12 : Slot} {s13 : Slot} {s14 : Slot} {v : Addr} (h : One s11) : storeLocals #[s0, .val z1, s2, s3, s4, s5, s6, s7, s8, s9, .val z10, s11, s12, s13, s14] 11 (.ref v) = some #[s0, .val z1, s2, s3, s4, s5, s6, s7, s8, s9, .val z10, .val (.ref v), s12, s13, s14] := by
  rcases h with rfl | ⟨w, rfl, hw⟩
  · rfl
  · cases w <;> first | rfl | (simp [Value.category] at hw)
set_option maxRecDepth 65536 in
set_option maxHeartbeats 40000000 in
theorem s5_0 {p : Program} {l : Launch} {e : Env} {s : State} {m : MethodId} {args : Array Value} {below : List Frame} {meth : Method} {c : Code} {T0 : State} {locs : List Loc} {Z : State} {a0 : Array Value} {h0 : Heap} {n0 : Nat} (s0 : Slot) (i1 : Int32) (s2 : Slot) (s3 : Slot) (s4 : Slot) (s5 : Slot) (s6 : Slot) (s7 : Slot) (s8 : Slot) (s9 : Slot) (s10 : Slot) (s11 : Slot) (s12 : Slot) (s13 : Slot) (s14 : Slot) (w1 : Addr) 
    (X0 : Stand p l e room_1 s m args below meth c T0 locs 12 74) (hx : p.tables.exec = Jvm.exec) (hZ : Z.Warmed39 s.vm) (hw : ∀ d ∈ tables_1, d.before a0 Z = true) (hby : c.code = code) (hml : c.maxLocals = 15) (hown : s.vm.findClass "com/example/bindspire/bindspire/ChoiceChosenPinLaw" = some m.cls) (e0 : T0.heap = h0) (N0 : Fr n0 locs) (Z0 : n0 ≤ h0.size) (Od0 : Old Z n0 h0) (hs10 : One s10) (S_STRICT : Sta Z Z.heap "com/example/bindspire/bindspire/Overloads$Phase" "STRICT" "Lcom/example/bindspire/bindspire/Overloads$Phase;" (.ref w1)) (hs11 : One s11)  (hc195 : (i1 &&& (3 : Int32)) = (0 : Int32)) :
    ∃ (T' : State) (L' : List Loc) (h' : Heap), Stand p l e room_1 s m args below meth c T' L' 12 74 ∧ Fr n0 L' ∧ T'.heap = h' ∧ h' = h0 ∧
      ∀ target, Steps p.tables e below (T'.setTop (mkF m 237 #[s0, .val (.int i1), s2, s3, s4, s5, s6, s7, s8, s9, .val (.int (i1 &&& (3 : Int32))), .val (.ref w1), s12, s13, s14] [])) target → Steps p.tables e below (T0.setTop (mkF m 188 #[s0, .val (.int i1), s2, s3, s4, s5, s6, s7, s8, s9, s10, s11, s12, s13, s14] [])) target := by
  obtain ⟨T2, X2, e2, st2⟩ := getS2 X0 hx hZ hown (host := "") (Or.inl (hw _ (List.mem_of_getElem? (i := 109) rfl))) Via.refl e0 (S_STRICT.ext Od0.2) (g := (mkF m 198 #[s0, .val (.int i1), s2, s3, s4, s5, s6, s7, s8, s9, .val (.int (i1 &&& (3 : Int32))), s11, s12, s13, s14] [])) rfl (hb hby at_198)
  refine ⟨T2, _, _, X2, N0, e2, rfl, fun target kt => ?_⟩
  show Steps p.tables e below (T0.setTop (mkF m 188 #[s0, .val (.int i1), s2, s3, s4, s5, s6, s7, s8, s9, s10, s11, s12, s13, s14] [])) _
  refine XS.iloadN X0.here hx rfl (hb hby at_188) rfl ?_
  show Steps p.tables e below (T0.setTop (mkF m 189 #[s0, .val (.int i1), s2, s3, s4, s5, s6, s7, s8, s9, s10, s11, s12, s13, s14] [(.int i1)])) _
  refine XS.iconst X0.here hx rfl (hb hby at_189) ?_
  show Steps p.tables e below (T0.setTop (mkF m 190 #[s0, .val (.int i1), s2, s3, s4, s5, s6, s7, s8, s9, s10, s11, s12, s13, s14] [(.int (3 : Int32)), (.int i1)])) _
  refine XS.iand X0.here hx rfl (hb hby at_190) rfl ?_
  show Steps p.tables e below (T0.setTop (mkF m 191 #[s0, .val (.int i1), s2, s3, s4, s5, s6, s7, s8, s9, s10, s11, s12, s13, s14] [(.int (i1 &&& (3 : Int32)))])) _
  refine XS.istore X0.here hx rfl (hb hby at_191) rfl (l' := #[s0, .val (.int i1), s2, s3, s4, s5, s6, s7, s8, s9, .val (.int (i1 &&& (3 : Int32))), s11, s12, s13, s14]) (os_s5_0_0_191 hs10) ?_
  show Steps p.tables e below (T0.setTop (mkF m 193 #[s0, .val (.int i1), s2, s3, s4, s5, s6, s7, s8, s9, .val (.int (i1 &&& (3 : Int32))), s11, s12, s13, s14] [])) _
  refine XS.iload X0.here hx rfl (hb hby at_193) rfl ?_
  show Steps p.tables e below (T0.setTop (mkF m 195 #[s0, .val (.int i1), s2, s3, s4, s5, s6, s7, s8, s9, .val (.int (i1 &&& (3 : Int32))), s11, s12, s13, s14] [(.int (i1 &&& (3 : Int32)))])) _
  refine XS.ifNo X0.here hx rfl (hb hby at_195) rfl ((if0 _ _).trans (teq hc195).2) ?_
  show Steps p.tables e below (T0.setTop (mkF m 198 #[s0, .val (.int i1), s2, s3, s4, s5, s6, s7, s8, s9, .val (.int (i1 &&& (3 : Int32))), s11, s12, s13, s14] [])) _
  refine st2 _ ?_
  show Steps p.tables e below (T2.setTop (mkF m 201 #[s0, .val (.int i1), s2, s3, s4, s5, s6, s7, s8, s9, .val (.int (i1 &&& (3 : Int32))), s11, s12, s13, s14] [(.ref w1)])) _
  refine XS.astore X2.here hx rfl (hb hby at_201) rfl rfl (l' := #[s0, .val (.int i1), s2, s3, s4, s5, s6, s7, s8, s9, .val (.int (i1 &&& (3 : Int32))), .val (.ref w1), s12, s13, s14]) (os_s5_0_0_201 hs11) ?_
  show Steps p.tables e below (T2.setTop (mkF m 203 #[s0, .val (.int i1), s2, s3, s4, s5, s6, s7, s8, s9, .val (.int (i1 &&& (3 : Int32))), .val (.ref w1), s12, s13, s14] [])) _
  refine XS.goto X2.here hx rfl (pc0 := 203) (pc' := 237) rfl (hb hby at_203) (by decide) (by decide) ?_
  exact kt

theorem os_s5_1_0_191 {s0 : Slot} {z1 : Value} {s2 : Slot} {s3 : Slot} {s4 : Slot} {s5 : Slot} {s6 : Slot} {s7 : Slot} {s8 : Slot} {s9 : Slot} {s10 : Slot} {s11 : Slot} {s12 : Slot} {s13 : Slot} {s14 : Slot} {v : Int32} (h : One s10) : storeLocals #[s0, .val z1, s2, s3, s4, s5, s6, s7, s8, s9, s10, s11, s12, s13, s14] 10 (.int v) = some #[s0, .val z1, s2, s3, s4, s5, s6, s7, s8, s9, .val (.int v), s11, s12, s13, s14] := by
  rcases h with rfl | ⟨w, rfl, hw⟩
  · rfl
  · cases w <;> first | rfl | (simp [Value.category] at hw)
theorem os_s5_1_0_215 {s0 : Slot} {z1 : Value} {s2 : Slot} {s3 : Slot} {s4 : Slot} {s5 : Slot} {s6 : Slot} {s7 : Slot} {s8 : Slot} {s9 : Slot} {z10 : Value} {s11 : Slot} {s12 : Slot} {s13 : Slot} {s14 : Slot} {v : Addr} (h : One s11) : storeLocals #[s0, .val z1, s2, s3, s4, s5, s6, s7, s8, s9, .val z10, s11, s12, s13, s14] 11 (.ref v) = some #[s0, .val z1, s2, s3, s4, s5, s6, s7, s8, s9, .val z10, .val (.ref v), s12, s13, s14] := by
  rcases h with rfl | ⟨w, rfl, hw⟩
  · rfl
  · cases w <;> first | rfl | (simp [Value.category] at hw)
set_option maxRecDepth 65536 in
set_option maxHeartbeats 40000000 in
theorem s5_1 {p : Program} {l : Launch} {e : Env} {s : State} {m : MethodId} {args : Array Value} {below : List Frame} {meth : Method} {c : Code} {T0 : State} {locs : List Loc} {Z : State} {a0 : Array Value} {h0 : Heap} {n0 : Nat} (s0 : Slot) (i1 : Int32) (s2 : Slot) (s3 : Slot) (s4 : Slot) (s5 : Slot) (s6 : Slot) (s7 : Slot) (s8 : Slot) (s9 : Slot) (s10 : Slot) (s11 : Slot) (s12 : Slot) (s13 : Slot) (s14 : Slot) (w1 : Addr) 
    (X0 : Stand p l e room_1 s m args below meth c T0 locs 12 74) (hx : p.tables.exec = Jvm.exec) (hZ : Z.Warmed39 s.vm) (hw : ∀ d ∈ tables_1, d.before a0 Z = true) (hby : c.code = code) (hml : c.maxLocals = 15) (hown : s.vm.findClass "com/example/bindspire/bindspire/ChoiceChosenPinLaw" = some m.cls) (e0 : T0.heap = h0) (N0 : Fr n0 locs) (Z0 : n0 ≤ h0.size) (Od0 : Old Z n0 h0) (hs10 : One s10) (S_LOOSE : Sta Z Z.heap "com/example/bindspire/bindspire/Overloads$Phase" "LOOSE" "Lcom/example/bindspire/bindspire/Overloads$Phase;" (.ref w1)) (hs11 : One s11)  (hc195 : ¬ ((i1 &&& (3 : Int32)) = (0 : Int32))) (hc209 : (i1 &&& (3 : Int32)) = (1 : Int32)) :
    ∃ (T' : State) (L' : List Loc) (h' : Heap), Stand p l e room_1 s m args below meth c T' L' 12 74 ∧ Fr n0 L' ∧ T'.heap = h' ∧ h' = h0 ∧
      ∀ target, Steps p.tables e below (T'.setTop (mkF m 237 #[s0, .val (.int i1), s2, s3, s4, s5, s6, s7, s8, s9, .val (.int (i1 &&& (3 : Int32))), .val (.ref w1), s12, s13, s14] [])) target → Steps p.tables e below (T0.setTop (mkF m 188 #[s0, .val (.int i1), s2, s3, s4, s5, s6, s7, s8, s9, s10, s11, s12, s13, s14] [])) target := by
  obtain ⟨T2, X2, e2, st2⟩ := getS2 X0 hx hZ hown (host := "") (Or.inl (hw _ (List.mem_of_getElem? (i := 137) rfl))) Via.refl e0 (S_LOOSE.ext Od0.2) (g := (mkF m 212 #[s0, .val (.int i1), s2, s3, s4, s5, s6, s7, s8, s9, .val (.int (i1 &&& (3 : Int32))), s11, s12, s13, s14] [])) rfl (hb hby at_212)
  refine ⟨T2, _, _, X2, N0, e2, rfl, fun target kt => ?_⟩
  show Steps p.tables e below (T0.setTop (mkF m 188 #[s0, .val (.int i1), s2, s3, s4, s5, s6, s7, s8, s9, s10, s11, s12, s13, s14] [])) _
  refine XS.iloadN X0.here hx rfl (hb hby at_188) rfl ?_
  show Steps p.tables e below (T0.setTop (mkF m 189 #[s0, .val (.int i1), s2, s3, s4, s5, s6, s7, s8, s9, s10, s11, s12, s13, s14] [(.int i1)])) _
  refine XS.iconst X0.here hx rfl (hb hby at_189) ?_
  show Steps p.tables e below (T0.setTop (mkF m 190 #[s0, .val (.int i1), s2, s3, s4, s5, s6, s7, s8, s9, s10, s11, s12, s13, s14] [(.int (3 : Int32)), (.int i1)])) _
  refine XS.iand X0.here hx rfl (hb hby at_190) rfl ?_
  show Steps p.tables e below (T0.setTop (mkF m 191 #[s0, .val (.int i1), s2, s3, s4, s5, s6, s7, s8, s9, s10, s11, s12, s13, s14] [(.int (i1 &&& (3 : Int32)))])) _
  refine XS.istore X0.here hx rfl (hb hby at_191) rfl (l' := #[s0, .val (.int i1), s2, s3, s4, s5, s6, s7, s8, s9, .val (.int (i1 &&& (3 : Int32))), s11, s12, s13, s14]) (os_s5_1_0_191 hs10) ?_
  show Steps p.tables e below (T0.setTop (mkF m 193 #[s0, .val (.int i1), s2, s3, s4, s5, s6, s7, s8, s9, .val (.int (i1 &&& (3 : Int32))), s11, s12, s13, s14] [])) _
  refine XS.iload X0.here hx rfl (hb hby at_193) rfl ?_
  show Steps p.tables e below (T0.setTop (mkF m 195 #[s0, .val (.int i1), s2, s3, s4, s5, s6, s7, s8, s9, .val (.int (i1 &&& (3 : Int32))), s11, s12, s13, s14] [(.int (i1 &&& (3 : Int32)))])) _
  refine XS.ifYes X0.here hx rfl (pc0 := 195) (pc' := 206) rfl (hb hby at_195) rfl ((if0 _ _).trans (feq hc195).2) (by decide) (by decide) ?_
  show Steps p.tables e below (T0.setTop (mkF m 206 #[s0, .val (.int i1), s2, s3, s4, s5, s6, s7, s8, s9, .val (.int (i1 &&& (3 : Int32))), s11, s12, s13, s14] [])) _
  refine XS.iload X0.here hx rfl (hb hby at_206) rfl ?_
  show Steps p.tables e below (T0.setTop (mkF m 208 #[s0, .val (.int i1), s2, s3, s4, s5, s6, s7, s8, s9, .val (.int (i1 &&& (3 : Int32))), s11, s12, s13, s14] [(.int (i1 &&& (3 : Int32)))])) _
  refine XS.iconst X0.here hx rfl (hb hby at_208) ?_
  show Steps p.tables e below (T0.setTop (mkF m 209 #[s0, .val (.int i1), s2, s3, s4, s5, s6, s7, s8, s9, .val (.int (i1 &&& (3 : Int32))), s11, s12, s13, s14] [(.int (1 : Int32)), (.int (i1 &&& (3 : Int32)))])) _
  refine XS.icmpNo X0.here hx rfl (hb hby at_209) rfl (teq hc209).2 ?_
  show Steps p.tables e below (T0.setTop (mkF m 212 #[s0, .val (.int i1), s2, s3, s4, s5, s6, s7, s8, s9, .val (.int (i1 &&& (3 : Int32))), s11, s12, s13, s14] [])) _
  refine st2 _ ?_
  show Steps p.tables e below (T2.setTop (mkF m 215 #[s0, .val (.int i1), s2, s3, s4, s5, s6, s7, s8, s9, .val (.int (i1 &&& (3 : Int32))), s11, s12, s13, s14] [(.ref w1)])) _
  refine XS.astore X2.here hx rfl (hb hby at_215) rfl rfl (l' := #[s0, .val (.int i1), s2, s3, s4, s5, s6, s7, s8, s9, .val (.int (i1 &&& (3 : Int32))), .val (.ref w1), s12, s13, s14]) (os_s5_1_0_215 hs11) ?_
  show Steps p.tables e below (T2.setTop (mkF m 217 #[s0, .val (.int i1), s2, s3, s4, s5, s6, s7, s8, s9, .val (.int (i1 &&& (3 : Int32))), .val (.ref w1), s12, s13, s14] [])) _
  refine XS.goto X2.here hx rfl (pc0 := 217) (pc' := 237) rfl (hb hby at_217) (by decide) (by decide) ?_
  exact kt

theorem os_s5_2_0_191 {s0 : Slot} {z1 : Value} {s2 : Slot} {s3 : Slot} {s4 : Slot} {s5 : Slot} {s6 : Slot} {s7 : Slot} {s8 : Slot} {s9 : Slot} {s10 : Slot} {s11 : Slot} {s12 : Slot} {s13 : Slot} {s14 : Slot} {v : Int32} (h : One s10) : storeLocals #[s0, .val z1, s2, s3, s4, s5, s6, s7, s8, s9, s10, s11, s12, s13, s14] 10 (.int v) = some #[s0, .val z1, s2, s3, s4, s5, s6, s7, s8, s9, .val (.int v), s11, s12, s13, s14] := by
  rcases h with rfl | ⟨w, rfl, hw⟩
  · rfl
  · cases w <;> first | rfl | (simp [Value.category] at hw)
theorem os_s5_2_0_229 {s0 : Slot} {z1 : Value} {s2 : Slot} {s3 : Slot} {s4 : Slot} {s5 : Slot} {s6 : Slot} {s7 : Slot} {s8 : Slot} {s9 : Slot} {z10 : Value} {s11 : Slot} {s12 : Slot} {s13 : Slot} {s14 : Slot} {v : Addr} (h : One s11) : storeLocals #[s0, .val z1, s2, s3, s4, s5, s6, s7, s8, s9, .val z10, s11, s12, s13, s14] 11 (.ref v) = some #[s0, .val z1, s2, s3, s4, s5, s6, s7, s8, s9, .val z10, .val (.ref v), s12, s13, s14] := by
  rcases h with rfl | ⟨w, rfl, hw⟩
  · rfl
  · cases w <;> first | rfl | (simp [Value.category] at hw)
set_option maxRecDepth 65536 in
set_option maxHeartbeats 40000000 in
theorem s5_2 {p : Program} {l : Launch} {e : Env} {s : State} {m : MethodId} {args : Array Value} {below : List Frame} {meth : Method} {c : Code} {T0 : State} {locs : List Loc} {Z : State} {a0 : Array Value} {h0 : Heap} {n0 : Nat} (s0 : Slot) (i1 : Int32) (s2 : Slot) (s3 : Slot) (s4 : Slot) (s5 : Slot) (s6 : Slot) (s7 : Slot) (s8 : Slot) (s9 : Slot) (s10 : Slot) (s11 : Slot) (s12 : Slot) (s13 : Slot) (s14 : Slot) (w1 : Addr) 
    (X0 : Stand p l e room_1 s m args below meth c T0 locs 12 74) (hx : p.tables.exec = Jvm.exec) (hZ : Z.Warmed39 s.vm) (hw : ∀ d ∈ tables_1, d.before a0 Z = true) (hby : c.code = code) (hml : c.maxLocals = 15) (hown : s.vm.findClass "com/example/bindspire/bindspire/ChoiceChosenPinLaw" = some m.cls) (e0 : T0.heap = h0) (N0 : Fr n0 locs) (Z0 : n0 ≤ h0.size) (Od0 : Old Z n0 h0) (hs10 : One s10) (S_VARIABLE_ARITY : Sta Z Z.heap "com/example/bindspire/bindspire/Overloads$Phase" "VARIABLE_ARITY" "Lcom/example/bindspire/bindspire/Overloads$Phase;" (.ref w1)) (hs11 : One s11)  (hc195 : ¬ ((i1 &&& (3 : Int32)) = (0 : Int32))) (hc209 : ¬ ((i1 &&& (3 : Int32)) = (1 : Int32))) (hc223 : (i1 &&& (3 : Int32)) = (2 : Int32)) :
    ∃ (T' : State) (L' : List Loc) (h' : Heap), Stand p l e room_1 s m args below meth c T' L' 12 74 ∧ Fr n0 L' ∧ T'.heap = h' ∧ h' = h0 ∧
      ∀ target, Steps p.tables e below (T'.setTop (mkF m 237 #[s0, .val (.int i1), s2, s3, s4, s5, s6, s7, s8, s9, .val (.int (i1 &&& (3 : Int32))), .val (.ref w1), s12, s13, s14] [])) target → Steps p.tables e below (T0.setTop (mkF m 188 #[s0, .val (.int i1), s2, s3, s4, s5, s6, s7, s8, s9, s10, s11, s12, s13, s14] [])) target := by
  obtain ⟨T2, X2, e2, st2⟩ := getS2 X0 hx hZ hown (host := "") (Or.inl (hw _ (List.mem_of_getElem? (i := 135) rfl))) Via.refl e0 (S_VARIABLE_ARITY.ext Od0.2) (g := (mkF m 226 #[s0, .val (.int i1), s2, s3, s4, s5, s6, s7, s8, s9, .val (.int (i1 &&& (3 : Int32))), s11, s12, s13, s14] [])) rfl (hb hby at_226)
  refine ⟨T2, _, _, X2, N0, e2, rfl, fun target kt => ?_⟩
  show Steps p.tables e below (T0.setTop (mkF m 188 #[s0, .val (.int i1), s2, s3, s4, s5, s6, s7, s8, s9, s10, s11, s12, s13, s14] [])) _
  refine XS.iloadN X0.here hx rfl (hb hby at_188) rfl ?_
  show Steps p.tables e below (T0.setTop (mkF m 189 #[s0, .val (.int i1), s2, s3, s4, s5, s6, s7, s8, s9, s10, s11, s12, s13, s14] [(.int i1)])) _
  refine XS.iconst X0.here hx rfl (hb hby at_189) ?_
  show Steps p.tables e below (T0.setTop (mkF m 190 #[s0, .val (.int i1), s2, s3, s4, s5, s6, s7, s8, s9, s10, s11, s12, s13, s14] [(.int (3 : Int32)), (.int i1)])) _
  refine XS.iand X0.here hx rfl (hb hby at_190) rfl ?_
  show Steps p.tables e below (T0.setTop (mkF m 191 #[s0, .val (.int i1), s2, s3, s4, s5, s6, s7, s8, s9, s10, s11, s12, s13, s14] [(.int (i1 &&& (3 : Int32)))])) _
  refine XS.istore X0.here hx rfl (hb hby at_191) rfl (l' := #[s0, .val (.int i1), s2, s3, s4, s5, s6, s7, s8, s9, .val (.int (i1 &&& (3 : Int32))), s11, s12, s13, s14]) (os_s5_2_0_191 hs10) ?_
  show Steps p.tables e below (T0.setTop (mkF m 193 #[s0, .val (.int i1), s2, s3, s4, s5, s6, s7, s8, s9, .val (.int (i1 &&& (3 : Int32))), s11, s12, s13, s14] [])) _
  refine XS.iload X0.here hx rfl (hb hby at_193) rfl ?_
  show Steps p.tables e below (T0.setTop (mkF m 195 #[s0, .val (.int i1), s2, s3, s4, s5, s6, s7, s8, s9, .val (.int (i1 &&& (3 : Int32))), s11, s12, s13, s14] [(.int (i1 &&& (3 : Int32)))])) _
  refine XS.ifYes X0.here hx rfl (pc0 := 195) (pc' := 206) rfl (hb hby at_195) rfl ((if0 _ _).trans (feq hc195).2) (by decide) (by decide) ?_
  show Steps p.tables e below (T0.setTop (mkF m 206 #[s0, .val (.int i1), s2, s3, s4, s5, s6, s7, s8, s9, .val (.int (i1 &&& (3 : Int32))), s11, s12, s13, s14] [])) _
  refine XS.iload X0.here hx rfl (hb hby at_206) rfl ?_
  show Steps p.tables e below (T0.setTop (mkF m 208 #[s0, .val (.int i1), s2, s3, s4, s5, s6, s7, s8, s9, .val (.int (i1 &&& (3 : Int32))), s11, s12, s13, s14] [(.int (i1 &&& (3 : Int32)))])) _
  refine XS.iconst X0.here hx rfl (hb hby at_208) ?_
  show Steps p.tables e below (T0.setTop (mkF m 209 #[s0, .val (.int i1), s2, s3, s4, s5, s6, s7, s8, s9, .val (.int (i1 &&& (3 : Int32))), s11, s12, s13, s14] [(.int (1 : Int32)), (.int (i1 &&& (3 : Int32)))])) _
  refine XS.icmpYes X0.here hx rfl (pc0 := 209) (pc' := 220) rfl (hb hby at_209) rfl (feq hc209).2 (by decide) (by decide) ?_
  show Steps p.tables e below (T0.setTop (mkF m 220 #[s0, .val (.int i1), s2, s3, s4, s5, s6, s7, s8, s9, .val (.int (i1 &&& (3 : Int32))), s11, s12, s13, s14] [])) _
  refine XS.iload X0.here hx rfl (hb hby at_220) rfl ?_
  show Steps p.tables e below (T0.setTop (mkF m 222 #[s0, .val (.int i1), s2, s3, s4, s5, s6, s7, s8, s9, .val (.int (i1 &&& (3 : Int32))), s11, s12, s13, s14] [(.int (i1 &&& (3 : Int32)))])) _
  refine XS.iconst X0.here hx rfl (hb hby at_222) ?_
  show Steps p.tables e below (T0.setTop (mkF m 223 #[s0, .val (.int i1), s2, s3, s4, s5, s6, s7, s8, s9, .val (.int (i1 &&& (3 : Int32))), s11, s12, s13, s14] [(.int (2 : Int32)), (.int (i1 &&& (3 : Int32)))])) _
  refine XS.icmpNo X0.here hx rfl (hb hby at_223) rfl (teq hc223).2 ?_
  show Steps p.tables e below (T0.setTop (mkF m 226 #[s0, .val (.int i1), s2, s3, s4, s5, s6, s7, s8, s9, .val (.int (i1 &&& (3 : Int32))), s11, s12, s13, s14] [])) _
  refine st2 _ ?_
  show Steps p.tables e below (T2.setTop (mkF m 229 #[s0, .val (.int i1), s2, s3, s4, s5, s6, s7, s8, s9, .val (.int (i1 &&& (3 : Int32))), s11, s12, s13, s14] [(.ref w1)])) _
  refine XS.astore X2.here hx rfl (hb hby at_229) rfl rfl (l' := #[s0, .val (.int i1), s2, s3, s4, s5, s6, s7, s8, s9, .val (.int (i1 &&& (3 : Int32))), .val (.ref w1), s12, s13, s14]) (os_s5_2_0_229 hs11) ?_
  show Steps p.tables e below (T2.setTop (mkF m 231 #[s0, .val (.int i1), s2, s3, s4, s5, s6, s7, s8, s9, .val (.int (i1 &&& (3 : Int32))), .val (.ref w1), s12, s13, s14] [])) _
  refine XS.goto X2.here hx rfl (pc0 := 231) (pc' := 237) rfl (hb hby at_231) (by decide) (by decide) ?_
  exact kt

theorem os_s5_3_0_191 {s0 : Slot} {z1 : Value} {s2 : Slot} {s3 : Slot} {s4 : Slot} {s5 : Slot} {s6 : Slot} {s7 : Slot} {s8 : Slot} {s9 : Slot} {s10 : Slot} {s11 : Slot} {s12 : Slot} {s13 : Slot} {s14 : Slot} {v : Int32} (h : One s10) : storeLocals #[s0, .val z1, s2, s3, s4, s5, s6, s7, s8, s9, s10, s11, s12, s13, s14] 10 (.int v) = some #[s0, .val z1, s2, s3, s4, s5, s6, s7, s8, s9, .val (.int v), s11, s12, s13, s14] := by
  rcases h with rfl | ⟨w, rfl, hw⟩
  · rfl
  · cases w <;> first | rfl | (simp [Value.category] at hw)
theorem os_s5_3_0_235 {s0 : Slot} {z1 : Value} {s2 : Slot} {s3 : Slot} {s4 : Slot} {s5 : Slot} {s6 : Slot} {s7 : Slot} {s8 : Slot} {s9 : Slot} {z10 : Value} {s11 : Slot} {s12 : Slot} {s13 : Slot} {s14 : Slot} (h : One s11) : storeLocals #[s0, .val z1, s2, s3, s4, s5, s6, s7, s8, s9, .val z10, s11, s12, s13, s14] 11 .null = some #[s0, .val z1, s2, s3, s4, s5, s6, s7, s8, s9, .val z10, .val .null, s12, s13, s14] := by
  rcases h with rfl | ⟨w, rfl, hw⟩
  · rfl
  · cases w <;> first | rfl | (simp [Value.category] at hw)
set_option maxRecDepth 65536 in
set_option maxHeartbeats 40000000 in
theorem s5_3 {p : Program} {l : Launch} {e : Env} {s : State} {m : MethodId} {args : Array Value} {below : List Frame} {meth : Method} {c : Code} {T0 : State} {locs : List Loc} {Z : State} {a0 : Array Value} {h0 : Heap} {n0 : Nat} (s0 : Slot) (i1 : Int32) (s2 : Slot) (s3 : Slot) (s4 : Slot) (s5 : Slot) (s6 : Slot) (s7 : Slot) (s8 : Slot) (s9 : Slot) (s10 : Slot) (s11 : Slot) (s12 : Slot) (s13 : Slot) (s14 : Slot) 
    (X0 : Stand p l e room_1 s m args below meth c T0 locs 12 74) (hx : p.tables.exec = Jvm.exec) (hZ : Z.Warmed39 s.vm) (hw : ∀ d ∈ tables_1, d.before a0 Z = true) (hby : c.code = code) (hml : c.maxLocals = 15) (hown : s.vm.findClass "com/example/bindspire/bindspire/ChoiceChosenPinLaw" = some m.cls) (e0 : T0.heap = h0) (N0 : Fr n0 locs) (Z0 : n0 ≤ h0.size) (Od0 : Old Z n0 h0) (hs10 : One s10) (hs11 : One s11)  (hc195 : ¬ ((i1 &&& (3 : Int32)) = (0 : Int32))) (hc209 : ¬ ((i1 &&& (3 : Int32)) = (1 : Int32))) (hc223 : ¬ ((i1 &&& (3 : Int32)) = (2 : Int32))) :
    ∃ (T' : State) (L' : List Loc) (h' : Heap), Stand p l e room_1 s m args below meth c T' L' 12 74 ∧ Fr n0 L' ∧ T'.heap = h' ∧ h' = h0 ∧
      ∀ target, Steps p.tables e below (T'.setTop (mkF m 237 #[s0, .val (.int i1), s2, s3, s4, s5, s6, s7, s8, s9, .val (.int (i1 &&& (3 : Int32))), .val .null, s12, s13, s14] [])) target → Steps p.tables e below (T0.setTop (mkF m 188 #[s0, .val (.int i1), s2, s3, s4, s5, s6, s7, s8, s9, s10, s11, s12, s13, s14] [])) target := by

  refine ⟨T0, _, _, X0, N0, e0, rfl, fun target kt => ?_⟩
  show Steps p.tables e below (T0.setTop (mkF m 188 #[s0, .val (.int i1), s2, s3, s4, s5, s6, s7, s8, s9, s10, s11, s12, s13, s14] [])) _
  refine XS.iloadN X0.here hx rfl (hb hby at_188) rfl ?_
  show Steps p.tables e below (T0.setTop (mkF m 189 #[s0, .val (.int i1), s2, s3, s4, s5, s6, s7, s8, s9, s10, s11, s12, s13, s14] [(.int i1)])) _
  refine XS.iconst X0.here hx rfl (hb hby at_189) ?_
  show Steps p.tables e below (T0.setTop (mkF m 190 #[s0, .val (.int i1), s2, s3, s4, s5, s6, s7, s8, s9, s10, s11, s12, s13, s14] [(.int (3 : Int32)), (.int i1)])) _
  refine XS.iand X0.here hx rfl (hb hby at_190) rfl ?_
  show Steps p.tables e below (T0.setTop (mkF m 191 #[s0, .val (.int i1), s2, s3, s4, s5, s6, s7, s8, s9, s10, s11, s12, s13, s14] [(.int (i1 &&& (3 : Int32)))])) _
  refine XS.istore X0.here hx rfl (hb hby at_191) rfl (l' := #[s0, .val (.int i1), s2, s3, s4, s5, s6, s7, s8, s9, .val (.int (i1 &&& (3 : Int32))), s11, s12, s13, s14]) (os_s5_3_0_191 hs10) ?_
  show Steps p.tables e below (T0.setTop (mkF m 193 #[s0, .val (.int i1), s2, s3, s4, s5, s6, s7, s8, s9, .val (.int (i1 &&& (3 : Int32))), s11, s12, s13, s14] [])) _
  refine XS.iload X0.here hx rfl (hb hby at_193) rfl ?_
  show Steps p.tables e below (T0.setTop (mkF m 195 #[s0, .val (.int i1), s2, s3, s4, s5, s6, s7, s8, s9, .val (.int (i1 &&& (3 : Int32))), s11, s12, s13, s14] [(.int (i1 &&& (3 : Int32)))])) _
  refine XS.ifYes X0.here hx rfl (pc0 := 195) (pc' := 206) rfl (hb hby at_195) rfl ((if0 _ _).trans (feq hc195).2) (by decide) (by decide) ?_
  show Steps p.tables e below (T0.setTop (mkF m 206 #[s0, .val (.int i1), s2, s3, s4, s5, s6, s7, s8, s9, .val (.int (i1 &&& (3 : Int32))), s11, s12, s13, s14] [])) _
  refine XS.iload X0.here hx rfl (hb hby at_206) rfl ?_
  show Steps p.tables e below (T0.setTop (mkF m 208 #[s0, .val (.int i1), s2, s3, s4, s5, s6, s7, s8, s9, .val (.int (i1 &&& (3 : Int32))), s11, s12, s13, s14] [(.int (i1 &&& (3 : Int32)))])) _
  refine XS.iconst X0.here hx rfl (hb hby at_208) ?_
  show Steps p.tables e below (T0.setTop (mkF m 209 #[s0, .val (.int i1), s2, s3, s4, s5, s6, s7, s8, s9, .val (.int (i1 &&& (3 : Int32))), s11, s12, s13, s14] [(.int (1 : Int32)), (.int (i1 &&& (3 : Int32)))])) _
  refine XS.icmpYes X0.here hx rfl (pc0 := 209) (pc' := 220) rfl (hb hby at_209) rfl (feq hc209).2 (by decide) (by decide) ?_
  show Steps p.tables e below (T0.setTop (mkF m 220 #[s0, .val (.int i1), s2, s3, s4, s5, s6, s7, s8, s9, .val (.int (i1 &&& (3 : Int32))), s11, s12, s13, s14] [])) _
  refine XS.iload X0.here hx rfl (hb hby at_220) rfl ?_
  show Steps p.tables e below (T0.setTop (mkF m 222 #[s0, .val (.int i1), s2, s3, s4, s5, s6, s7, s8, s9, .val (.int (i1 &&& (3 : Int32))), s11, s12, s13, s14] [(.int (i1 &&& (3 : Int32)))])) _
  refine XS.iconst X0.here hx rfl (hb hby at_222) ?_
  show Steps p.tables e below (T0.setTop (mkF m 223 #[s0, .val (.int i1), s2, s3, s4, s5, s6, s7, s8, s9, .val (.int (i1 &&& (3 : Int32))), s11, s12, s13, s14] [(.int (2 : Int32)), (.int (i1 &&& (3 : Int32)))])) _
  refine XS.icmpYes X0.here hx rfl (pc0 := 223) (pc' := 234) rfl (hb hby at_223) rfl (feq hc223).2 (by decide) (by decide) ?_
  show Steps p.tables e below (T0.setTop (mkF m 234 #[s0, .val (.int i1), s2, s3, s4, s5, s6, s7, s8, s9, .val (.int (i1 &&& (3 : Int32))), s11, s12, s13, s14] [])) _
  refine XS.aconstNull X0.here hx rfl (hb hby at_234) ?_
  show Steps p.tables e below (T0.setTop (mkF m 235 #[s0, .val (.int i1), s2, s3, s4, s5, s6, s7, s8, s9, .val (.int (i1 &&& (3 : Int32))), s11, s12, s13, s14] [.null])) _
  refine XS.astore X0.here hx rfl (hb hby at_235) rfl rfl (l' := #[s0, .val (.int i1), s2, s3, s4, s5, s6, s7, s8, s9, .val (.int (i1 &&& (3 : Int32))), .val .null, s12, s13, s14]) (os_s5_3_0_235 hs11) ?_
  exact kt

theorem pd_0_7 : parseMethodDescriptor "(Lcom/example/bindspire/bindspire/Overloads$Phase;Ljava/util/List;Ljava/util/List;)V" = some ⟨[(.object "com/example/bindspire/bindspire/Overloads$Phase"), (.object "java/util/List"), (.object "java/util/List")], none⟩ := by decide +kernel
theorem os_s6_r_0_250 {s0 : Slot} {s1 : Slot} {s2 : Slot} {s3 : Slot} {s4 : Slot} {s5 : Slot} {s6 : Slot} {s7 : Slot} {z8 : Value} {z9 : Value} {s10 : Slot} {z11 : Value} {s12 : Slot} {s13 : Slot} {s14 : Slot} {v : Addr} (h : One s12) : storeLocals #[s0, s1, s2, s3, s4, s5, s6, s7, .val z8, .val z9, s10, .val z11, s12, s13, s14] 12 (.ref v) = some #[s0, s1, s2, s3, s4, s5, s6, s7, .val z8, .val z9, s10, .val z11, .val (.ref v), s13, s14] := by
  rcases h with rfl | ⟨w, rfl, hw⟩
  · rfl
  · cases w <;> first | rfl | (simp [Value.category] at hw)
set_option maxRecDepth 65536 in
set_option maxHeartbeats 40000000 in
theorem s6_r {p : Program} {l : Launch} {e : Env} {s : State} {m : MethodId} {args : Array Value} {below : List Frame} {meth : Method} {c : Code} {T0 : State} {locs : List Loc} {Z : State} {a0 : Array Value} {h0 : Heap} {n0 : Nat} (s0 : Slot) (s1 : Slot) (s2 : Slot) (s3 : Slot) (s4 : Slot) (s5 : Slot) (s6 : Slot) (s7 : Slot) (o8 : Addr) (o9 : Addr) (s10 : Slot) (o11 : Addr) (s12 : Slot) (s13 : Slot) (s14 : Slot) 
    (X0 : Stand p l e room_1 s m args below meth c T0 locs 12 74) (hx : p.tables.exec = Jvm.exec) (hZ : Z.Warmed39 s.vm) (hw : ∀ d ∈ tables_1, d.before a0 Z = true) (hby : c.code = code) (hml : c.maxLocals = 15) (hown : s.vm.findClass "com/example/bindspire/bindspire/ChoiceChosenPinLaw" = some m.cls) (e0 : T0.heap = h0) (N0 : Fr n0 locs) (Z0 : n0 ≤ h0.size) (Od0 : Old Z n0 h0) (hs12 : One s12)  :
    ∃ (T' : State) (L' : List Loc) (h' : Heap) (ch : Addr), Stand p l e room_1 s m args below meth c T' L' 13 77 ∧ Fr n0 L' ∧ T'.heap = h' ∧ Old Z n0 h' ∧ Keep h0 h' [] ∧ Exa Z h' ch "com/example/bindspire/bindspire/Overloads$Choice" ∧ Fld Z h' ch "com/example/bindspire/bindspire/Overloads$Choice" "maximal" "Ljava/util/List;" (.ref o8) ∧
      ∀ target, Steps p.tables e below (T'.setTop (mkF m 252 #[s0, s1, s2, s3, s4, s5, s6, s7, .val (.ref o8), .val (.ref o9), s10, .val (.ref o11), .val (.ref ch), s13, s14] [])) target → Steps p.tables e below (T0.setTop (mkF m 237 #[s0, s1, s2, s3, s4, s5, s6, s7, .val (.ref o8), .val (.ref o9), s10, .val (.ref o11), s12, s13, s14] [])) target := by
  obtain ⟨T1, h1, X1, e1, E1, A1, D1, -, st1⟩ := newO X0 hx hZ hown (hw _ (List.mem_of_getElem? (i := 77) rfl)) (hw _ (List.mem_of_getElem? (i := 78) rfl)) (hw _ (List.mem_of_getElem? (i := 79) rfl)) e0 (g := (mkF m 237 #[s0, s1, s2, s3, s4, s5, s6, s7, .val (.ref o8), .val (.ref o9), s10, .val (.ref o11), s12, s13, s14] [])) rfl (hb hby at_237) (by decide) (by decide)
  obtain ⟨b1, g1⟩ : ∃ z, z = h0.size := ⟨_, rfl⟩
  rw [← g1] at A1 D1 st1
  have F_phase_b1 : Fld Z h1 b1 "com/example/bindspire/bindspire/Overloads$Choice" "phase" "Lcom/example/bindspire/bindspire/Overloads$Phase;" .null := D1 (Or.inr (hw _ (List.mem_of_getElem? (i := 85) rfl))) (ty := (.object "com/example/bindspire/bindspire/Overloads$Phase")) (by decide)
  have F_applicable_b1 : Fld Z h1 b1 "com/example/bindspire/bindspire/Overloads$Choice" "applicable" "Ljava/util/List;" .null := D1 (Or.inr (hw _ (List.mem_of_getElem? (i := 87) rfl))) (ty := (.object "java/util/List")) (by decide)
  have F_maximal_b1 : Fld Z h1 b1 "com/example/bindspire/bindspire/Overloads$Choice" "maximal" "Ljava/util/List;" .null := D1 (Or.inr (hw _ (List.mem_of_getElem? (i := 89) rfl))) (ty := (.object "java/util/List")) (by decide)
  have E_b1 := A1
  have g_b1 : n0 ≤ b1 := Nat.le_trans Z0 (Nat.le_of_eq g1.symm)
  have sz_b1 : h0.size ≤ b1 := (Nat.le_trans (Keep.refl h0 []).1 (Nat.le_of_eq g1.symm))
  have K1 : Keep h0 h1 [] := (Keep.refl h0 []).ext E1
  have Od1 := Old.ext Od0 E1
  obtain ⟨_, _, ⟨T2, L2, k2, n2⟩, -, X2, ⟨Lc2, hQ2, l2, y2, z2⟩, st2⟩ := X1.specialBack hx (y := (⟨"com/example/bindspire/bindspire/Overloads$Choice", "<init>", "(Lcom/example/bindspire/bindspire/Overloads$Phase;Ljava/util/List;Ljava/util/List;)V"⟩ : MethodName)) rfl hown (mvT hZ (hw _ (List.mem_of_getElem? (i := 80) rfl))) (mvT hZ (hw _ (List.mem_of_getElem? (i := 81) rfl))) (mvT hZ (hw _ (List.mem_of_getElem? (i := 82) rfl))) (by decide) (backOf (W := 1) (rm12_r l Z a0 hw [] b1 o11 o9 o8 .null .null .null h1 n0 (Nat.le_trans Z0 E1.1) E_b1 F_phase_b1 g_b1 F_applicable_b1 F_maximal_b1) hZ (hw _ (List.mem_of_getElem? (i := 82) rfl)) (hw _ (List.mem_of_getElem? (i := 79) rfl)) (by decide) (by decide)) (g := (mkF m 247 #[s0, s1, s2, s3, s4, s5, s6, s7, .val (.ref o8), .val (.ref o9), s10, .val (.ref o11), s12, s13, s14] [(.ref o8), (.ref o9), (.ref o11), (.ref b1), (.ref b1)])) rfl (by rw [hml]; rfl) (Steps.refl _) (a := b1) (argsL := [(.ref o11), (.ref o9), (.ref o8)]) (rest := [(.ref b1)]) (lenOf pd_0_7 rfl) rfl (by show 2 * 0 + _ ≤ _; exact Nat.le_of_eq rfl) (hb hby at_247) (fun _ _ => ⟨rfl, e1, (by decide : 13 + 0 ≤ _), (by decide : 77 + 0 ≤ _)⟩)
  dsimp only [Pt.U, Pt.locs, Pt.cells, Pt.slots] at X2 l2 y2 z2 st2 hQ2
  subst l2 y2 z2
  obtain ⟨rfl, N2q, K2, E2q, FM2⟩ := hQ2
  have N2 := Fr.app N0 N2q
  have KK2 : Keep h0 T2.heap [] := Keep.trans K1 K2 (allS (Or.inr sz_b1) all0)
  have Od2 := Old.keep Od1 K2 (allS (g_b1) all0)
  refine ⟨T2, _, _, b1, X2, N2, rfl, Od2, KK2, E2q, FM2, fun target kt => ?_⟩
  show Steps p.tables e below (T0.setTop (mkF m 237 #[s0, s1, s2, s3, s4, s5, s6, s7, .val (.ref o8), .val (.ref o9), s10, .val (.ref o11), s12, s13, s14] [])) _
  refine st1 _ ?_
  show Steps p.tables e below (T1.setTop (mkF m 240 #[s0, s1, s2, s3, s4, s5, s6, s7, .val (.ref o8), .val (.ref o9), s10, .val (.ref o11), s12, s13, s14] [(.ref b1)])) _
  refine XS.dup X1.here hx rfl (hb hby at_240) rfl rfl ?_
  show Steps p.tables e below (T1.setTop (mkF m 241 #[s0, s1, s2, s3, s4, s5, s6, s7, .val (.ref o8), .val (.ref o9), s10, .val (.ref o11), s12, s13, s14] [(.ref b1), (.ref b1)])) _
  refine XS.aload X1.here hx rfl (hb hby at_241) rfl rfl ?_
  show Steps p.tables e below (T1.setTop (mkF m 243 #[s0, s1, s2, s3, s4, s5, s6, s7, .val (.ref o8), .val (.ref o9), s10, .val (.ref o11), s12, s13, s14] [(.ref o11), (.ref b1), (.ref b1)])) _
  refine XS.aload X1.here hx rfl (hb hby at_243) rfl rfl ?_
  show Steps p.tables e below (T1.setTop (mkF m 245 #[s0, s1, s2, s3, s4, s5, s6, s7, .val (.ref o8), .val (.ref o9), s10, .val (.ref o11), s12, s13, s14] [(.ref o9), (.ref o11), (.ref b1), (.ref b1)])) _
  refine XS.aload X1.here hx rfl (hb hby at_245) rfl rfl ?_
  show Steps p.tables e below (T1.setTop (mkF m 247 #[s0, s1, s2, s3, s4, s5, s6, s7, .val (.ref o8), .val (.ref o9), s10, .val (.ref o11), s12, s13, s14] [(.ref o8), (.ref o9), (.ref o11), (.ref b1), (.ref b1)])) _
  refine st2.trans ?_
  show Steps p.tables e below (T2.setTop (mkF m 250 #[s0, s1, s2, s3, s4, s5, s6, s7, .val (.ref o8), .val (.ref o9), s10, .val (.ref o11), s12, s13, s14] [(.ref b1)])) _
  refine XS.astore X2.here hx rfl (hb hby at_250) rfl rfl (l' := #[s0, s1, s2, s3, s4, s5, s6, s7, .val (.ref o8), .val (.ref o9), s10, .val (.ref o11), .val (.ref b1), s13, s14]) (os_s6_r_0_250 hs12) ?_
  exact kt

theorem os_s6_n_0_250 {s0 : Slot} {s1 : Slot} {s2 : Slot} {s3 : Slot} {s4 : Slot} {s5 : Slot} {s6 : Slot} {s7 : Slot} {z8 : Value} {z9 : Value} {s10 : Slot} {z11 : Value} {s12 : Slot} {s13 : Slot} {s14 : Slot} {v : Addr} (h : One s12) : storeLocals #[s0, s1, s2, s3, s4, s5, s6, s7, .val z8, .val z9, s10, .val z11, s12, s13, s14] 12 (.ref v) = some #[s0, s1, s2, s3, s4, s5, s6, s7, .val z8, .val z9, s10, .val z11, .val (.ref v), s13, s14] := by
  rcases h with rfl | ⟨w, rfl, hw⟩
  · rfl
  · cases w <;> first | rfl | (simp [Value.category] at hw)
set_option maxRecDepth 65536 in
set_option maxHeartbeats 40000000 in
theorem s6_n {p : Program} {l : Launch} {e : Env} {s : State} {m : MethodId} {args : Array Value} {below : List Frame} {meth : Method} {c : Code} {T0 : State} {locs : List Loc} {Z : State} {a0 : Array Value} {h0 : Heap} {n0 : Nat} (s0 : Slot) (s1 : Slot) (s2 : Slot) (s3 : Slot) (s4 : Slot) (s5 : Slot) (s6 : Slot) (s7 : Slot) (o8 : Addr) (o9 : Addr) (s10 : Slot) (s12 : Slot) (s13 : Slot) (s14 : Slot) 
    (X0 : Stand p l e room_1 s m args below meth c T0 locs 12 74) (hx : p.tables.exec = Jvm.exec) (hZ : Z.Warmed39 s.vm) (hw : ∀ d ∈ tables_1, d.before a0 Z = true) (hby : c.code = code) (hml : c.maxLocals = 15) (hown : s.vm.findClass "com/example/bindspire/bindspire/ChoiceChosenPinLaw" = some m.cls) (e0 : T0.heap = h0) (N0 : Fr n0 locs) (Z0 : n0 ≤ h0.size) (Od0 : Old Z n0 h0) (hs12 : One s12)  :
    ∃ (T' : State) (L' : List Loc) (h' : Heap) (ch : Addr), Stand p l e room_1 s m args below meth c T' L' 13 77 ∧ Fr n0 L' ∧ T'.heap = h' ∧ Old Z n0 h' ∧ Keep h0 h' [] ∧ Exa Z h' ch "com/example/bindspire/bindspire/Overloads$Choice" ∧ Fld Z h' ch "com/example/bindspire/bindspire/Overloads$Choice" "maximal" "Ljava/util/List;" (.ref o8) ∧
      ∀ target, Steps p.tables e below (T'.setTop (mkF m 252 #[s0, s1, s2, s3, s4, s5, s6, s7, .val (.ref o8), .val (.ref o9), s10, .val .null, .val (.ref ch), s13, s14] [])) target → Steps p.tables e below (T0.setTop (mkF m 237 #[s0, s1, s2, s3, s4, s5, s6, s7, .val (.ref o8), .val (.ref o9), s10, .val .null, s12, s13, s14] [])) target := by
  obtain ⟨T1, h1, X1, e1, E1, A1, D1, -, st1⟩ := newO X0 hx hZ hown (hw _ (List.mem_of_getElem? (i := 77) rfl)) (hw _ (List.mem_of_getElem? (i := 78) rfl)) (hw _ (List.mem_of_getElem? (i := 79) rfl)) e0 (g := (mkF m 237 #[s0, s1, s2, s3, s4, s5, s6, s7, .val (.ref o8), .val (.ref o9), s10, .val .null, s12, s13, s14] [])) rfl (hb hby at_237) (by decide) (by decide)
  obtain ⟨b1, g1⟩ : ∃ z, z = h0.size := ⟨_, rfl⟩
  rw [← g1] at A1 D1 st1
  have F_phase_b1 : Fld Z h1 b1 "com/example/bindspire/bindspire/Overloads$Choice" "phase" "Lcom/example/bindspire/bindspire/Overloads$Phase;" .null := D1 (Or.inr (hw _ (List.mem_of_getElem? (i := 85) rfl))) (ty := (.object "com/example/bindspire/bindspire/Overloads$Phase")) (by decide)
  have F_applicable_b1 : Fld Z h1 b1 "com/example/bindspire/bindspire/Overloads$Choice" "applicable" "Ljava/util/List;" .null := D1 (Or.inr (hw _ (List.mem_of_getElem? (i := 87) rfl))) (ty := (.object "java/util/List")) (by decide)
  have F_maximal_b1 : Fld Z h1 b1 "com/example/bindspire/bindspire/Overloads$Choice" "maximal" "Ljava/util/List;" .null := D1 (Or.inr (hw _ (List.mem_of_getElem? (i := 89) rfl))) (ty := (.object "java/util/List")) (by decide)
  have E_b1 := A1
  have g_b1 : n0 ≤ b1 := Nat.le_trans Z0 (Nat.le_of_eq g1.symm)
  have sz_b1 : h0.size ≤ b1 := (Nat.le_trans (Keep.refl h0 []).1 (Nat.le_of_eq g1.symm))
  have K1 : Keep h0 h1 [] := (Keep.refl h0 []).ext E1
  have Od1 := Old.ext Od0 E1
  obtain ⟨_, _, ⟨T2, L2, k2, n2⟩, -, X2, ⟨Lc2, hQ2, l2, y2, z2⟩, st2⟩ := X1.specialBack hx (y := (⟨"com/example/bindspire/bindspire/Overloads$Choice", "<init>", "(Lcom/example/bindspire/bindspire/Overloads$Phase;Ljava/util/List;Ljava/util/List;)V"⟩ : MethodName)) rfl hown (mvT hZ (hw _ (List.mem_of_getElem? (i := 80) rfl))) (mvT hZ (hw _ (List.mem_of_getElem? (i := 81) rfl))) (mvT hZ (hw _ (List.mem_of_getElem? (i := 82) rfl))) (by decide) (backOf (W := 1) (rm12_n l Z a0 hw [] b1 o9 o8 .null .null .null h1 n0 (Nat.le_trans Z0 E1.1) E_b1 F_phase_b1 g_b1 F_applicable_b1 F_maximal_b1) hZ (hw _ (List.mem_of_getElem? (i := 82) rfl)) (hw _ (List.mem_of_getElem? (i := 79) rfl)) (by decide) (by decide)) (g := (mkF m 247 #[s0, s1, s2, s3, s4, s5, s6, s7, .val (.ref o8), .val (.ref o9), s10, .val .null, s12, s13, s14] [(.ref o8), (.ref o9), .null, (.ref b1), (.ref b1)])) rfl (by rw [hml]; rfl) (Steps.refl _) (a := b1) (argsL := [.null, (.ref o9), (.ref o8)]) (rest := [(.ref b1)]) (lenOf pd_0_7 rfl) rfl (by show 2 * 0 + _ ≤ _; exact Nat.le_of_eq rfl) (hb hby at_247) (fun _ _ => ⟨rfl, e1, (by decide : 13 + 0 ≤ _), (by decide : 77 + 0 ≤ _)⟩)
  dsimp only [Pt.U, Pt.locs, Pt.cells, Pt.slots] at X2 l2 y2 z2 st2 hQ2
  subst l2 y2 z2
  obtain ⟨rfl, N2q, K2, E2q, FM2⟩ := hQ2
  have N2 := Fr.app N0 N2q
  have KK2 : Keep h0 T2.heap [] := Keep.trans K1 K2 (allS (Or.inr sz_b1) all0)
  have Od2 := Old.keep Od1 K2 (allS (g_b1) all0)
  refine ⟨T2, _, _, b1, X2, N2, rfl, Od2, KK2, E2q, FM2, fun target kt => ?_⟩
  show Steps p.tables e below (T0.setTop (mkF m 237 #[s0, s1, s2, s3, s4, s5, s6, s7, .val (.ref o8), .val (.ref o9), s10, .val .null, s12, s13, s14] [])) _
  refine st1 _ ?_
  show Steps p.tables e below (T1.setTop (mkF m 240 #[s0, s1, s2, s3, s4, s5, s6, s7, .val (.ref o8), .val (.ref o9), s10, .val .null, s12, s13, s14] [(.ref b1)])) _
  refine XS.dup X1.here hx rfl (hb hby at_240) rfl rfl ?_
  show Steps p.tables e below (T1.setTop (mkF m 241 #[s0, s1, s2, s3, s4, s5, s6, s7, .val (.ref o8), .val (.ref o9), s10, .val .null, s12, s13, s14] [(.ref b1), (.ref b1)])) _
  refine XS.aload X1.here hx rfl (hb hby at_241) rfl rfl ?_
  show Steps p.tables e below (T1.setTop (mkF m 243 #[s0, s1, s2, s3, s4, s5, s6, s7, .val (.ref o8), .val (.ref o9), s10, .val .null, s12, s13, s14] [.null, (.ref b1), (.ref b1)])) _
  refine XS.aload X1.here hx rfl (hb hby at_243) rfl rfl ?_
  show Steps p.tables e below (T1.setTop (mkF m 245 #[s0, s1, s2, s3, s4, s5, s6, s7, .val (.ref o8), .val (.ref o9), s10, .val .null, s12, s13, s14] [(.ref o9), .null, (.ref b1), (.ref b1)])) _
  refine XS.aload X1.here hx rfl (hb hby at_245) rfl rfl ?_
  show Steps p.tables e below (T1.setTop (mkF m 247 #[s0, s1, s2, s3, s4, s5, s6, s7, .val (.ref o8), .val (.ref o9), s10, .val .null, s12, s13, s14] [(.ref o8), (.ref o9), .null, (.ref b1), (.ref b1)])) _
  refine st2.trans ?_
  show Steps p.tables e below (T2.setTop (mkF m 250 #[s0, s1, s2, s3, s4, s5, s6, s7, .val (.ref o8), .val (.ref o9), s10, .val .null, s12, s13, s14] [(.ref b1)])) _
  refine XS.astore X2.here hx rfl (hb hby at_250) rfl rfl (l' := #[s0, s1, s2, s3, s4, s5, s6, s7, .val (.ref o8), .val (.ref o9), s10, .val .null, .val (.ref b1), s13, s14]) (os_s6_n_0_250 hs12) ?_
  exact kt

theorem pd_0_8 : parseMethodDescriptor "()Lcom/example/bindspire/bindspire/Overloads$Candidate;" = some ⟨[], some (.object "com/example/bindspire/bindspire/Overloads$Candidate")⟩ := by decide +kernel
theorem pd_0_10 : parseMethodDescriptor "()Ljava/util/List;" = some ⟨[], some (.object "java/util/List")⟩ := by decide +kernel
theorem pd_0_9 : parseMethodDescriptor "()I" = some ⟨[], some .int⟩ := by decide +kernel
theorem os_s7_o_0_257 {s0 : Slot} {s1 : Slot} {s2 : Slot} {z3 : Value} {s4 : Slot} {s5 : Slot} {s6 : Slot} {s7 : Slot} {s8 : Slot} {s9 : Slot} {s10 : Slot} {s11 : Slot} {z12 : Value} {s13 : Slot} {s14 : Slot} (h : One s13) : storeLocals #[s0, s1, s2, .val z3, s4, s5, s6, s7, s8, s9, s10, s11, .val z12, s13, s14] 13 .null = some #[s0, s1, s2, .val z3, s4, s5, s6, s7, s8, s9, s10, s11, .val z12, .val .null, s14] := by
  rcases h with rfl | ⟨w, rfl, hw⟩
  · rfl
  · cases w <;> first | rfl | (simp [Value.category] at hw)
theorem os_s7_o_0_278 {s0 : Slot} {s1 : Slot} {s2 : Slot} {z3 : Value} {s4 : Slot} {s5 : Slot} {s6 : Slot} {s7 : Slot} {s8 : Slot} {s9 : Slot} {s10 : Slot} {s11 : Slot} {z12 : Value} {z13 : Value} {s14 : Slot} {v : Int32} (h : One s14) : storeLocals #[s0, s1, s2, .val z3, s4, s5, s6, s7, s8, s9, s10, s11, .val z12, .val z13, s14] 14 (.int v) = some #[s0, s1, s2, .val z3, s4, s5, s6, s7, s8, s9, s10, s11, .val z12, .val z13, .val (.int v)] := by
  rcases h with rfl | ⟨w, rfl, hw⟩
  · rfl
  · cases w <;> first | rfl | (simp [Value.category] at hw)
set_option maxRecDepth 65536 in
set_option maxHeartbeats 40000000 in
theorem s7_o {p : Program} {l : Launch} {e : Env} {s : State} {m : MethodId} {args : Array Value} {below : List Frame} {meth : Method} {c : Code} {T0 : State} {locs : List Loc} {Z : State} {a0 : Array Value} {h0 : Heap} {n0 : Nat} (s0 : Slot) (s1 : Slot) (s2 : Slot) (i3 : Int32) (s4 : Slot) (s5 : Slot) (s6 : Slot) (s7 : Slot) (s8 : Slot) (s9 : Slot) (s10 : Slot) (s11 : Slot) (o12 : Addr) (s13 : Slot) (s14 : Slot) (mx : Addr)
    (X0 : Stand p l e room_1 s m args below meth c T0 locs 13 77) (hx : p.tables.exec = Jvm.exec) (hZ : Z.Warmed39 s.vm) (hw : ∀ d ∈ tables_1, d.before a0 Z = true) (hby : c.code = code) (hml : c.maxLocals = 15) (hown : s.vm.findClass "com/example/bindspire/bindspire/ChoiceChosenPinLaw" = some m.cls) (e0 : T0.heap = h0) (N0 : Fr n0 locs) (Z0 : n0 ≤ h0.size) (E_o12 : Exa Z h0 o12 "com/example/bindspire/bindspire/Overloads$Choice") (E_mx : Exa Z h0 mx "java/util/ArrayList") (F_maximal_o12 : Fld Z h0 o12 "com/example/bindspire/bindspire/Overloads$Choice" "maximal" "Ljava/util/List;" (.ref mx)) (F_size_mx : Fld Z h0 mx "java/util/ArrayList" "size" "I" (.int i3)) (hs13 : One s13) (hs14 : One s14) (hn1 : ¬ (i3 = (1 : Int32))) (hc282 : ¬ (i3 = (1 : Int32))) (hc305 : ¬ ((1 : Int32) = (0 : Int32))) :
    ∃ (T' : State) (L' : List Loc) (h' : Heap), Stand p l e room_1 s m args below meth c T' L' 13 77 ∧ Fr n0 L' ∧ T'.heap = h' ∧ h' = h0 ∧
      ∀ target, Steps p.tables e below (T'.setTop (mkF m 318 #[s0, s1, s2, .val (.int i3), s4, s5, s6, s7, s8, s9, s10, s11, .val (.ref o12), .val .null, .val (.int (1 : Int32))] [(.int (1 : Int32))])) target → Steps p.tables e below (T0.setTop (mkF m 252 #[s0, s1, s2, .val (.int i3), s4, s5, s6, s7, s8, s9, s10, s11, .val (.ref o12), s13, s14] [])) target := by
  obtain ⟨cq1, kq1, q1a, q1b, q1c⟩ := isOf hZ e0 E_o12
  obtain ⟨_, _, ⟨T1, L1, k1, n1⟩, -, X1, ⟨Lc1, hQ1, l1, y1, z1⟩, st1⟩ := X0.virtualBack hx (y := (⟨"com/example/bindspire/bindspire/Overloads$Choice", "chosen", "()Lcom/example/bindspire/bindspire/Overloads$Candidate;"⟩ : MethodName)) (z := (⟨"com/example/bindspire/bindspire/Overloads$Choice", "chosen", "()Lcom/example/bindspire/bindspire/Overloads$Candidate;"⟩ : MethodName)) hown (mvT hZ (hw _ (List.mem_of_getElem? (i := 90) rfl))) (mvT hZ (hw _ (List.mem_of_getElem? (i := 91) rfl))) (notFace_of_selects (args := #[]) (mvT hZ (hw _ (List.mem_of_getElem? (i := 93) rfl)))) (mvT hZ (hw _ (List.mem_of_getElem? (i := 93) rfl))) (mvT hZ (hw _ (List.mem_of_getElem? (i := 92) rfl))) (by decide) (backOf (W := 0) (rm13_o l Z a0 hw [] o12 mx i3 h0 n0 Z0 E_mx F_maximal_o12 F_size_mx hn1) hZ (hw _ (List.mem_of_getElem? (i := 94) rfl)) (hw _ (List.mem_of_getElem? (i := 79) rfl)) (by decide) (by decide)) q1a q1c (g := (mkF m 254 #[s0, s1, s2, .val (.int i3), s4, s5, s6, s7, s8, s9, s10, s11, .val (.ref o12), s13, s14] [(.ref o12)])) rfl (by rw [hml]; rfl) (Steps.refl _) (argsL := []) (rest := []) (lenOf pd_0_8 rfl) rfl (by show 2 * 0 + _ ≤ _; exact Nat.le_of_eq rfl) (hb hby at_254) (fun _ _ => ⟨rfl, e0, (by decide : 13 + 0 ≤ _), (by decide : 77 + 0 ≤ _)⟩)
  dsimp only [Pt.U, Pt.locs, Pt.cells, Pt.slots] at X1 l1 y1 z1 st1 hQ1
  subst l1 y1 z1
  obtain ⟨rfl, N1q, e1⟩ := hQ1
  have N1 := Fr.app N0 N1q
  obtain ⟨cq2, kq2, q2a, q2b, q2c⟩ := isOf hZ e1 E_o12
  obtain ⟨_, _, ⟨T2, L2, k2, n2⟩, -, X2, ⟨Lc2, hQ2, l2, y2, z2⟩, st2⟩ := X1.virtualBack hx (y := (⟨"com/example/bindspire/bindspire/Overloads$Choice", "maximal", "()Ljava/util/List;"⟩ : MethodName)) (z := (⟨"com/example/bindspire/bindspire/Overloads$Choice", "maximal", "()Ljava/util/List;"⟩ : MethodName)) hown (mvT hZ (hw _ (List.mem_of_getElem? (i := 103) rfl))) (mvT hZ (hw _ (List.mem_of_getElem? (i := 104) rfl))) (notFace_of_selects (args := #[]) (mvT hZ (hw _ (List.mem_of_getElem? (i := 106) rfl)))) (mvT hZ (hw _ (List.mem_of_getElem? (i := 106) rfl))) (mvT hZ (hw _ (List.mem_of_getElem? (i := 105) rfl))) (by decide) (backOf (W := 0) (rm15 l Z a0 hw [] o12 mx h0 n0 Z0 F_maximal_o12) hZ (hw _ (List.mem_of_getElem? (i := 107) rfl)) (hw _ (List.mem_of_getElem? (i := 79) rfl)) (by decide) (by decide)) q2a q2c (g := (mkF m 261 #[s0, s1, s2, .val (.int i3), s4, s5, s6, s7, s8, s9, s10, s11, .val (.ref o12), .val .null, s14] [(.ref o12)])) rfl (by rw [hml]; rfl) (Steps.refl _) (argsL := []) (rest := []) (lenOf pd_0_10 rfl) rfl (by show 2 * 0 + _ ≤ _; exact Nat.le_of_eq rfl) (hb hby at_261) (fun _ _ => ⟨rfl, e1, (by decide : 13 + 0 ≤ _), (by decide : 77 + 0 ≤ _)⟩)
  dsimp only [Pt.U, Pt.locs, Pt.cells, Pt.slots] at X2 l2 y2 z2 st2 hQ2
  subst l2 y2 z2
  obtain ⟨rfl, N2q, e2⟩ := hQ2
  have N2 := Fr.app N1 N2q
  obtain ⟨cq3, kq3, q3a, q3b, q3c⟩ := isOf hZ e2 E_mx
  obtain ⟨_, _, ⟨T3, L3, k3, n3⟩, -, X3, ⟨Lc3, hQ3, l3, y3, z3⟩, st3⟩ := X2.interfaceBack hx (xi := (⟨"java/util/List", "size", "()I"⟩ : MethodName)) (y := (⟨"java/util/ArrayList", "size", "()I"⟩ : MethodName)) hown (mvT hZ (hw _ (List.mem_of_getElem? (i := 108) rfl))) (mvT hZ (hw _ (List.mem_of_getElem? (i := 96) rfl))) (mvT hZ (hw _ (List.mem_of_getElem? (i := 97) rfl))) (mvT hZ (hw _ (List.mem_of_getElem? (i := 98) rfl))) (mvT hZ (hw _ (List.mem_of_getElem? (i := 99) rfl))) (mvT hZ (hw _ (List.mem_of_getElem? (i := 100) rfl))) (mvT hZ (hw _ (List.mem_of_getElem? (i := 101) rfl))) (mvT hZ (hw _ (List.mem_of_getElem? (i := 49) rfl))) (by decide) (backOf (W := 0) (rm14 l Z a0 hw [] mx i3 h0 n0 Z0 F_size_mx) hZ (hw _ (List.mem_of_getElem? (i := 102) rfl)) (hw _ (List.mem_of_getElem? (i := 20) rfl)) (by decide) (by decide)) q3a q3b q3c (g := (mkF m 264 #[s0, s1, s2, .val (.int i3), s4, s5, s6, s7, s8, s9, s10, s11, .val (.ref o12), .val .null, s14] [(.ref mx)])) rfl (by rw [hml]; rfl) (Steps.refl _) (argsL := []) (rest := []) (lenOf pd_0_9 rfl) rfl (by show 2 * 0 + _ ≤ _; exact Nat.le_of_eq rfl) (hb hby at_264) (fun _ _ => ⟨rfl, e2, (by decide : 13 + 0 ≤ _), (by decide : 77 + 0 ≤ _)⟩)
  dsimp only [Pt.U, Pt.locs, Pt.cells, Pt.slots] at X3 l3 y3 z3 st3 hQ3
  subst l3 y3 z3
  obtain ⟨rfl, N3q, e3⟩ := hQ3
  have N3 := Fr.app N2 N3q
  refine ⟨T3, _, _, X3, N3, e3, rfl, fun target kt => ?_⟩
  show Steps p.tables e below (T0.setTop (mkF m 252 #[s0, s1, s2, .val (.int i3), s4, s5, s6, s7, s8, s9, s10, s11, .val (.ref o12), s13, s14] [])) _
  refine XS.aload X0.here hx rfl (hb hby at_252) rfl rfl ?_
  show Steps p.tables e below (T0.setTop (mkF m 254 #[s0, s1, s2, .val (.int i3), s4, s5, s6, s7, s8, s9, s10, s11, .val (.ref o12), s13, s14] [(.ref o12)])) _
  refine st1.trans ?_
  show Steps p.tables e below (T1.setTop (mkF m 257 #[s0, s1, s2, .val (.int i3), s4, s5, s6, s7, s8, s9, s10, s11, .val (.ref o12), s13, s14] [.null])) _
  refine XS.astore X1.here hx rfl (hb hby at_257) rfl rfl (l' := #[s0, s1, s2, .val (.int i3), s4, s5, s6, s7, s8, s9, s10, s11, .val (.ref o12), .val .null, s14]) (os_s7_o_0_257 hs13) ?_
  show Steps p.tables e below (T1.setTop (mkF m 259 #[s0, s1, s2, .val (.int i3), s4, s5, s6, s7, s8, s9, s10, s11, .val (.ref o12), .val .null, s14] [])) _
  refine XS.aload X1.here hx rfl (hb hby at_259) rfl rfl ?_
  show Steps p.tables e below (T1.setTop (mkF m 261 #[s0, s1, s2, .val (.int i3), s4, s5, s6, s7, s8, s9, s10, s11, .val (.ref o12), .val .null, s14] [(.ref o12)])) _
  refine st2.trans ?_
  show Steps p.tables e below (T2.setTop (mkF m 264 #[s0, s1, s2, .val (.int i3), s4, s5, s6, s7, s8, s9, s10, s11, .val (.ref o12), .val .null, s14] [(.ref mx)])) _
  refine st3.trans ?_
  show Steps p.tables e below (T3.setTop (mkF m 269 #[s0, s1, s2, .val (.int i3), s4, s5, s6, s7, s8, s9, s10, s11, .val (.ref o12), .val .null, s14] [(.int i3)])) _
  refine XS.iloadN X3.here hx rfl (hb hby at_269) rfl ?_
  show Steps p.tables e below (T3.setTop (mkF m 270 #[s0, s1, s2, .val (.int i3), s4, s5, s6, s7, s8, s9, s10, s11, .val (.ref o12), .val .null, s14] [(.int i3), (.int i3)])) _
  refine XS.icmpNo X3.here hx rfl (hb hby at_270) rfl (teq (rfl : i3 = i3)).2 ?_
  show Steps p.tables e below (T3.setTop (mkF m 273 #[s0, s1, s2, .val (.int i3), s4, s5, s6, s7, s8, s9, s10, s11, .val (.ref o12), .val .null, s14] [])) _
  refine XS.iconst X3.here hx rfl (hb hby at_273) ?_
  show Steps p.tables e below (T3.setTop (mkF m 274 #[s0, s1, s2, .val (.int i3), s4, s5, s6, s7, s8, s9, s10, s11, .val (.ref o12), .val .null, s14] [(.int (1 : Int32))])) _
  refine XS.goto X3.here hx rfl (pc0 := 274) (pc' := 278) rfl (hb hby at_274) (by decide) (by decide) ?_
  show Steps p.tables e below (T3.setTop (mkF m 278 #[s0, s1, s2, .val (.int i3), s4, s5, s6, s7, s8, s9, s10, s11, .val (.ref o12), .val .null, s14] [(.int (1 : Int32))])) _
  refine XS.istore X3.here hx rfl (hb hby at_278) rfl (l' := #[s0, s1, s2, .val (.int i3), s4, s5, s6, s7, s8, s9, s10, s11, .val (.ref o12), .val .null, .val (.int (1 : Int32))]) (os_s7_o_0_278 hs14) ?_
  show Steps p.tables e below (T3.setTop (mkF m 280 #[s0, s1, s2, .val (.int i3), s4, s5, s6, s7, s8, s9, s10, s11, .val (.ref o12), .val .null, .val (.int (1 : Int32))] [])) _
  refine XS.iloadN X3.here hx rfl (hb hby at_280) rfl ?_
  show Steps p.tables e below (T3.setTop (mkF m 281 #[s0, s1, s2, .val (.int i3), s4, s5, s6, s7, s8, s9, s10, s11, .val (.ref o12), .val .null, .val (.int (1 : Int32))] [(.int i3)])) _
  refine XS.iconst X3.here hx rfl (hb hby at_281) ?_
  show Steps p.tables e below (T3.setTop (mkF m 282 #[s0, s1, s2, .val (.int i3), s4, s5, s6, s7, s8, s9, s10, s11, .val (.ref o12), .val .null, .val (.int (1 : Int32))] [(.int (1 : Int32)), (.int i3)])) _
  refine XS.icmpYes X3.here hx rfl (pc0 := 282) (pc' := 303) rfl (hb hby at_282) rfl (feq hc282).2 (by decide) (by decide) ?_
  show Steps p.tables e below (T3.setTop (mkF m 303 #[s0, s1, s2, .val (.int i3), s4, s5, s6, s7, s8, s9, s10, s11, .val (.ref o12), .val .null, .val (.int (1 : Int32))] [])) _
  refine XS.iload X3.here hx rfl (hb hby at_303) rfl ?_
  show Steps p.tables e below (T3.setTop (mkF m 305 #[s0, s1, s2, .val (.int i3), s4, s5, s6, s7, s8, s9, s10, s11, .val (.ref o12), .val .null, .val (.int (1 : Int32))] [(.int (1 : Int32))])) _
  refine XS.ifNo X3.here hx rfl (hb hby at_305) rfl ((if0 _ _).trans (feq hc305).1) ?_
  show Steps p.tables e below (T3.setTop (mkF m 308 #[s0, s1, s2, .val (.int i3), s4, s5, s6, s7, s8, s9, s10, s11, .val (.ref o12), .val .null, .val (.int (1 : Int32))] [])) _
  refine XS.aload X3.here hx rfl (hb hby at_308) rfl rfl ?_
  show Steps p.tables e below (T3.setTop (mkF m 310 #[s0, s1, s2, .val (.int i3), s4, s5, s6, s7, s8, s9, s10, s11, .val (.ref o12), .val .null, .val (.int (1 : Int32))] [.null])) _
  refine XS.ifnonnullNo X3.here hx rfl (hb hby at_310) rfl ?_
  show Steps p.tables e below (T3.setTop (mkF m 313 #[s0, s1, s2, .val (.int i3), s4, s5, s6, s7, s8, s9, s10, s11, .val (.ref o12), .val .null, .val (.int (1 : Int32))] [])) _
  refine XS.iconst X3.here hx rfl (hb hby at_313) ?_
  show Steps p.tables e below (T3.setTop (mkF m 314 #[s0, s1, s2, .val (.int i3), s4, s5, s6, s7, s8, s9, s10, s11, .val (.ref o12), .val .null, .val (.int (1 : Int32))] [(.int (1 : Int32))])) _
  refine XS.goto X3.here hx rfl (pc0 := 314) (pc' := 318) rfl (hb hby at_314) (by decide) (by decide) ?_
  exact kt

theorem os_s7_y_0_257 {s0 : Slot} {s1 : Slot} {s2 : Slot} {z3 : Value} {z4 : Value} {s5 : Slot} {s6 : Slot} {s7 : Slot} {s8 : Slot} {s9 : Slot} {s10 : Slot} {s11 : Slot} {z12 : Value} {s13 : Slot} {s14 : Slot} {v : Addr} (h : One s13) : storeLocals #[s0, s1, s2, .val z3, .val z4, s5, s6, s7, s8, s9, s10, s11, .val z12, s13, s14] 13 (.ref v) = some #[s0, s1, s2, .val z3, .val z4, s5, s6, s7, s8, s9, s10, s11, .val z12, .val (.ref v), s14] := by
  rcases h with rfl | ⟨w, rfl, hw⟩
  · rfl
  · cases w <;> first | rfl | (simp [Value.category] at hw)
theorem os_s7_y_0_278 {s0 : Slot} {s1 : Slot} {s2 : Slot} {z3 : Value} {z4 : Value} {s5 : Slot} {s6 : Slot} {s7 : Slot} {s8 : Slot} {s9 : Slot} {s10 : Slot} {s11 : Slot} {z12 : Value} {z13 : Value} {s14 : Slot} {v : Int32} (h : One s14) : storeLocals #[s0, s1, s2, .val z3, .val z4, s5, s6, s7, s8, s9, s10, s11, .val z12, .val z13, s14] 14 (.int v) = some #[s0, s1, s2, .val z3, .val z4, s5, s6, s7, s8, s9, s10, s11, .val z12, .val z13, .val (.int v)] := by
  rcases h with rfl | ⟨w, rfl, hw⟩
  · rfl
  · cases w <;> first | rfl | (simp [Value.category] at hw)
set_option maxRecDepth 65536 in
set_option maxHeartbeats 40000000 in
theorem s7_y {p : Program} {l : Launch} {e : Env} {s : State} {m : MethodId} {args : Array Value} {below : List Frame} {meth : Method} {c : Code} {T0 : State} {locs : List Loc} {Z : State} {a0 : Array Value} {h0 : Heap} {n0 : Nat} (s0 : Slot) (s1 : Slot) (s2 : Slot) (i3 : Int32) (o4 : Addr) (s5 : Slot) (s6 : Slot) (s7 : Slot) (s8 : Slot) (s9 : Slot) (s10 : Slot) (s11 : Slot) (o12 : Addr) (s13 : Slot) (s14 : Slot) (kc : ClassId) (vs : List Value) (mx b : Addr)
    (X0 : Stand p l e room_1 s m args below meth c T0 locs 13 77) (hx : p.tables.exec = Jvm.exec) (hZ : Z.Warmed39 s.vm) (hw : ∀ d ∈ tables_1, d.before a0 Z = true) (hby : c.code = code) (hml : c.maxLocals = 15) (hown : s.vm.findClass "com/example/bindspire/bindspire/ChoiceChosenPinLaw" = some m.cls) (e0 : T0.heap = h0) (N0 : Fr n0 locs) (Z0 : n0 ≤ h0.size) (E_o12 : Exa Z h0 o12 "com/example/bindspire/bindspire/Overloads$Choice") (E_mx : Exa Z h0 mx "java/util/ArrayList") (E_o4 : Exa Z h0 o4 "com/example/bindspire/bindspire/Overloads$Candidate") (F_maximal_o12 : Fld Z h0 o12 "com/example/bindspire/bindspire/Overloads$Choice" "maximal" "Ljava/util/List;" (.ref mx)) (F_size_mx : Fld Z h0 mx "java/util/ArrayList" "size" "I" (.int i3)) (F_elementData_mx : Fld Z h0 mx "java/util/ArrayList" "elementData" "[Ljava/lang/Object;" (.ref b)) (V_b : Arv Z h0 b kc (.object "java/lang/Object") (10 : Int32) vs .null) (hs13 : One s13) (hs14 : One s14) (hn1 : i3 = (1 : Int32)) (hw0 : vs.getD ((0 : Int32)).toNatClampNeg .null = .ref o4) (hc282 : i3 = (1 : Int32)) (hc287 : ¬ ((1 : Int32) = (0 : Int32))) :
    ∃ (T' : State) (L' : List Loc) (h' : Heap), Stand p l e room_1 s m args below meth c T' L' 13 77 ∧ Fr n0 L' ∧ T'.heap = h' ∧ h' = h0 ∧
      ∀ target, Steps p.tables e below (T'.setTop (mkF m 302 #[s0, s1, s2, .val (.int i3), .val (.ref o4), s5, s6, s7, s8, s9, s10, s11, .val (.ref o12), .val (.ref o4), .val (.int (1 : Int32))] [(.int (1 : Int32))])) target → Steps p.tables e below (T0.setTop (mkF m 252 #[s0, s1, s2, .val (.int i3), .val (.ref o4), s5, s6, s7, s8, s9, s10, s11, .val (.ref o12), s13, s14] [])) target := by
  obtain ⟨cq1, kq1, q1a, q1b, q1c⟩ := isOf hZ e0 E_o12
  obtain ⟨_, _, ⟨T1, L1, k1, n1⟩, -, X1, ⟨Lc1, hQ1, l1, y1, z1⟩, st1⟩ := X0.virtualBack hx (y := (⟨"com/example/bindspire/bindspire/Overloads$Choice", "chosen", "()Lcom/example/bindspire/bindspire/Overloads$Candidate;"⟩ : MethodName)) (z := (⟨"com/example/bindspire/bindspire/Overloads$Choice", "chosen", "()Lcom/example/bindspire/bindspire/Overloads$Candidate;"⟩ : MethodName)) hown (mvT hZ (hw _ (List.mem_of_getElem? (i := 90) rfl))) (mvT hZ (hw _ (List.mem_of_getElem? (i := 91) rfl))) (notFace_of_selects (args := #[]) (mvT hZ (hw _ (List.mem_of_getElem? (i := 93) rfl)))) (mvT hZ (hw _ (List.mem_of_getElem? (i := 93) rfl))) (mvT hZ (hw _ (List.mem_of_getElem? (i := 92) rfl))) (by decide) (backOf (W := 0) (rm13_y l Z a0 hw [] o12 kc vs mx b o4 h0 n0 Z0 E_mx E_o4 F_maximal_o12 (by rw [← hn1]; exact F_size_mx) F_elementData_mx V_b hw0) hZ (hw _ (List.mem_of_getElem? (i := 94) rfl)) (hw _ (List.mem_of_getElem? (i := 79) rfl)) (by decide) (by decide)) q1a q1c (g := (mkF m 254 #[s0, s1, s2, .val (.int i3), .val (.ref o4), s5, s6, s7, s8, s9, s10, s11, .val (.ref o12), s13, s14] [(.ref o12)])) rfl (by rw [hml]; rfl) (Steps.refl _) (argsL := []) (rest := []) (lenOf pd_0_8 rfl) rfl (by show 2 * 0 + _ ≤ _; exact Nat.le_of_eq rfl) (hb hby at_254) (fun _ _ => ⟨rfl, e0, (by decide : 13 + 0 ≤ _), (by decide : 77 + 0 ≤ _)⟩)
  dsimp only [Pt.U, Pt.locs, Pt.cells, Pt.slots] at X1 l1 y1 z1 st1 hQ1
  subst l1 y1 z1
  obtain ⟨rfl, N1q, e1⟩ := hQ1
  have N1 := Fr.app N0 N1q
  obtain ⟨cq2, kq2, q2a, q2b, q2c⟩ := isOf hZ e1 E_o12
  obtain ⟨_, _, ⟨T2, L2, k2, n2⟩, -, X2, ⟨Lc2, hQ2, l2, y2, z2⟩, st2⟩ := X1.virtualBack hx (y := (⟨"com/example/bindspire/bindspire/Overloads$Choice", "maximal", "()Ljava/util/List;"⟩ : MethodName)) (z := (⟨"com/example/bindspire/bindspire/Overloads$Choice", "maximal", "()Ljava/util/List;"⟩ : MethodName)) hown (mvT hZ (hw _ (List.mem_of_getElem? (i := 103) rfl))) (mvT hZ (hw _ (List.mem_of_getElem? (i := 104) rfl))) (notFace_of_selects (args := #[]) (mvT hZ (hw _ (List.mem_of_getElem? (i := 106) rfl)))) (mvT hZ (hw _ (List.mem_of_getElem? (i := 106) rfl))) (mvT hZ (hw _ (List.mem_of_getElem? (i := 105) rfl))) (by decide) (backOf (W := 0) (rm15 l Z a0 hw [] o12 mx h0 n0 Z0 F_maximal_o12) hZ (hw _ (List.mem_of_getElem? (i := 107) rfl)) (hw _ (List.mem_of_getElem? (i := 79) rfl)) (by decide) (by decide)) q2a q2c (g := (mkF m 261 #[s0, s1, s2, .val (.int i3), .val (.ref o4), s5, s6, s7, s8, s9, s10, s11, .val (.ref o12), .val (.ref o4), s14] [(.ref o12)])) rfl (by rw [hml]; rfl) (Steps.refl _) (argsL := []) (rest := []) (lenOf pd_0_10 rfl) rfl (by show 2 * 0 + _ ≤ _; exact Nat.le_of_eq rfl) (hb hby at_261) (fun _ _ => ⟨rfl, e1, (by decide : 13 + 0 ≤ _), (by decide : 77 + 0 ≤ _)⟩)
  dsimp only [Pt.U, Pt.locs, Pt.cells, Pt.slots] at X2 l2 y2 z2 st2 hQ2
  subst l2 y2 z2
  obtain ⟨rfl, N2q, e2⟩ := hQ2
  have N2 := Fr.app N1 N2q
  obtain ⟨cq3, kq3, q3a, q3b, q3c⟩ := isOf hZ e2 E_mx
  obtain ⟨_, _, ⟨T3, L3, k3, n3⟩, -, X3, ⟨Lc3, hQ3, l3, y3, z3⟩, st3⟩ := X2.interfaceBack hx (xi := (⟨"java/util/List", "size", "()I"⟩ : MethodName)) (y := (⟨"java/util/ArrayList", "size", "()I"⟩ : MethodName)) hown (mvT hZ (hw _ (List.mem_of_getElem? (i := 108) rfl))) (mvT hZ (hw _ (List.mem_of_getElem? (i := 96) rfl))) (mvT hZ (hw _ (List.mem_of_getElem? (i := 97) rfl))) (mvT hZ (hw _ (List.mem_of_getElem? (i := 98) rfl))) (mvT hZ (hw _ (List.mem_of_getElem? (i := 99) rfl))) (mvT hZ (hw _ (List.mem_of_getElem? (i := 100) rfl))) (mvT hZ (hw _ (List.mem_of_getElem? (i := 101) rfl))) (mvT hZ (hw _ (List.mem_of_getElem? (i := 49) rfl))) (by decide) (backOf (W := 0) (rm14 l Z a0 hw [] mx i3 h0 n0 Z0 F_size_mx) hZ (hw _ (List.mem_of_getElem? (i := 102) rfl)) (hw _ (List.mem_of_getElem? (i := 20) rfl)) (by decide) (by decide)) q3a q3b q3c (g := (mkF m 264 #[s0, s1, s2, .val (.int i3), .val (.ref o4), s5, s6, s7, s8, s9, s10, s11, .val (.ref o12), .val (.ref o4), s14] [(.ref mx)])) rfl (by rw [hml]; rfl) (Steps.refl _) (argsL := []) (rest := []) (lenOf pd_0_9 rfl) rfl (by show 2 * 0 + _ ≤ _; exact Nat.le_of_eq rfl) (hb hby at_264) (fun _ _ => ⟨rfl, e2, (by decide : 13 + 0 ≤ _), (by decide : 77 + 0 ≤ _)⟩)
  dsimp only [Pt.U, Pt.locs, Pt.cells, Pt.slots] at X3 l3 y3 z3 st3 hQ3
  subst l3 y3 z3
  obtain ⟨rfl, N3q, e3⟩ := hQ3
  have N3 := Fr.app N2 N3q
  refine ⟨T3, _, _, X3, N3, e3, rfl, fun target kt => ?_⟩
  show Steps p.tables e below (T0.setTop (mkF m 252 #[s0, s1, s2, .val (.int i3), .val (.ref o4), s5, s6, s7, s8, s9, s10, s11, .val (.ref o12), s13, s14] [])) _
  refine XS.aload X0.here hx rfl (hb hby at_252) rfl rfl ?_
  show Steps p.tables e below (T0.setTop (mkF m 254 #[s0, s1, s2, .val (.int i3), .val (.ref o4), s5, s6, s7, s8, s9, s10, s11, .val (.ref o12), s13, s14] [(.ref o12)])) _
  refine st1.trans ?_
  show Steps p.tables e below (T1.setTop (mkF m 257 #[s0, s1, s2, .val (.int i3), .val (.ref o4), s5, s6, s7, s8, s9, s10, s11, .val (.ref o12), s13, s14] [(.ref o4)])) _
  refine XS.astore X1.here hx rfl (hb hby at_257) rfl rfl (l' := #[s0, s1, s2, .val (.int i3), .val (.ref o4), s5, s6, s7, s8, s9, s10, s11, .val (.ref o12), .val (.ref o4), s14]) (os_s7_y_0_257 hs13) ?_
  show Steps p.tables e below (T1.setTop (mkF m 259 #[s0, s1, s2, .val (.int i3), .val (.ref o4), s5, s6, s7, s8, s9, s10, s11, .val (.ref o12), .val (.ref o4), s14] [])) _
  refine XS.aload X1.here hx rfl (hb hby at_259) rfl rfl ?_
  show Steps p.tables e below (T1.setTop (mkF m 261 #[s0, s1, s2, .val (.int i3), .val (.ref o4), s5, s6, s7, s8, s9, s10, s11, .val (.ref o12), .val (.ref o4), s14] [(.ref o12)])) _
  refine st2.trans ?_
  show Steps p.tables e below (T2.setTop (mkF m 264 #[s0, s1, s2, .val (.int i3), .val (.ref o4), s5, s6, s7, s8, s9, s10, s11, .val (.ref o12), .val (.ref o4), s14] [(.ref mx)])) _
  refine st3.trans ?_
  show Steps p.tables e below (T3.setTop (mkF m 269 #[s0, s1, s2, .val (.int i3), .val (.ref o4), s5, s6, s7, s8, s9, s10, s11, .val (.ref o12), .val (.ref o4), s14] [(.int i3)])) _
  refine XS.iloadN X3.here hx rfl (hb hby at_269) rfl ?_
  show Steps p.tables e below (T3.setTop (mkF m 270 #[s0, s1, s2, .val (.int i3), .val (.ref o4), s5, s6, s7, s8, s9, s10, s11, .val (.ref o12), .val (.ref o4), s14] [(.int i3), (.int i3)])) _
  refine XS.icmpNo X3.here hx rfl (hb hby at_270) rfl (teq (rfl : i3 = i3)).2 ?_
  show Steps p.tables e below (T3.setTop (mkF m 273 #[s0, s1, s2, .val (.int i3), .val (.ref o4), s5, s6, s7, s8, s9, s10, s11, .val (.ref o12), .val (.ref o4), s14] [])) _
  refine XS.iconst X3.here hx rfl (hb hby at_273) ?_
  show Steps p.tables e below (T3.setTop (mkF m 274 #[s0, s1, s2, .val (.int i3), .val (.ref o4), s5, s6, s7, s8, s9, s10, s11, .val (.ref o12), .val (.ref o4), s14] [(.int (1 : Int32))])) _
  refine XS.goto X3.here hx rfl (pc0 := 274) (pc' := 278) rfl (hb hby at_274) (by decide) (by decide) ?_
  show Steps p.tables e below (T3.setTop (mkF m 278 #[s0, s1, s2, .val (.int i3), .val (.ref o4), s5, s6, s7, s8, s9, s10, s11, .val (.ref o12), .val (.ref o4), s14] [(.int (1 : Int32))])) _
  refine XS.istore X3.here hx rfl (hb hby at_278) rfl (l' := #[s0, s1, s2, .val (.int i3), .val (.ref o4), s5, s6, s7, s8, s9, s10, s11, .val (.ref o12), .val (.ref o4), .val (.int (1 : Int32))]) (os_s7_y_0_278 hs14) ?_
  show Steps p.tables e below (T3.setTop (mkF m 280 #[s0, s1, s2, .val (.int i3), .val (.ref o4), s5, s6, s7, s8, s9, s10, s11, .val (.ref o12), .val (.ref o4), .val (.int (1 : Int32))] [])) _
  refine XS.iloadN X3.here hx rfl (hb hby at_280) rfl ?_
  show Steps p.tables e below (T3.setTop (mkF m 281 #[s0, s1, s2, .val (.int i3), .val (.ref o4), s5, s6, s7, s8, s9, s10, s11, .val (.ref o12), .val (.ref o4), .val (.int (1 : Int32))] [(.int i3)])) _
  refine XS.iconst X3.here hx rfl (hb hby at_281) ?_
  show Steps p.tables e below (T3.setTop (mkF m 282 #[s0, s1, s2, .val (.int i3), .val (.ref o4), s5, s6, s7, s8, s9, s10, s11, .val (.ref o12), .val (.ref o4), .val (.int (1 : Int32))] [(.int (1 : Int32)), (.int i3)])) _
  refine XS.icmpNo X3.here hx rfl (hb hby at_282) rfl (teq hc282).2 ?_
  show Steps p.tables e below (T3.setTop (mkF m 285 #[s0, s1, s2, .val (.int i3), .val (.ref o4), s5, s6, s7, s8, s9, s10, s11, .val (.ref o12), .val (.ref o4), .val (.int (1 : Int32))] [])) _
  refine XS.iload X3.here hx rfl (hb hby at_285) rfl ?_
  show Steps p.tables e below (T3.setTop (mkF m 287 #[s0, s1, s2, .val (.int i3), .val (.ref o4), s5, s6, s7, s8, s9, s10, s11, .val (.ref o12), .val (.ref o4), .val (.int (1 : Int32))] [(.int (1 : Int32))])) _
  refine XS.ifNo X3.here hx rfl (hb hby at_287) rfl ((if0 _ _).trans (feq hc287).1) ?_
  show Steps p.tables e below (T3.setTop (mkF m 290 #[s0, s1, s2, .val (.int i3), .val (.ref o4), s5, s6, s7, s8, s9, s10, s11, .val (.ref o12), .val (.ref o4), .val (.int (1 : Int32))] [])) _
  refine XS.aload X3.here hx rfl (hb hby at_290) rfl rfl ?_
  show Steps p.tables e below (T3.setTop (mkF m 292 #[s0, s1, s2, .val (.int i3), .val (.ref o4), s5, s6, s7, s8, s9, s10, s11, .val (.ref o12), .val (.ref o4), .val (.int (1 : Int32))] [(.ref o4)])) _
  refine XS.aload X3.here hx rfl (hb hby at_292) rfl rfl ?_
  show Steps p.tables e below (T3.setTop (mkF m 294 #[s0, s1, s2, .val (.int i3), .val (.ref o4), s5, s6, s7, s8, s9, s10, s11, .val (.ref o12), .val (.ref o4), .val (.int (1 : Int32))] [(.ref o4), (.ref o4)])) _
  refine Jvm.RoadKit.acmp (g := (mkF m 294 #[s0, s1, s2, .val (.int i3), .val (.ref o4), s5, s6, s7, s8, s9, s10, s11, .val (.ref o12), .val (.ref o4), .val (.int (1 : Int32))] [(.ref o4), (.ref o4)])) X3 hx rfl rfl rfl (pc0 := 294) (pc' := 297) (same := true) rfl (hb hby at_294) rfl (decide_eq_true rfl) (by decide) (by decide) ?_
  show Steps p.tables e below (T3.setTop (mkF m 297 #[s0, s1, s2, .val (.int i3), .val (.ref o4), s5, s6, s7, s8, s9, s10, s11, .val (.ref o12), .val (.ref o4), .val (.int (1 : Int32))] [])) _
  refine XS.iconst X3.here hx rfl (hb hby at_297) ?_
  show Steps p.tables e below (T3.setTop (mkF m 298 #[s0, s1, s2, .val (.int i3), .val (.ref o4), s5, s6, s7, s8, s9, s10, s11, .val (.ref o12), .val (.ref o4), .val (.int (1 : Int32))] [(.int (1 : Int32))])) _
  refine XS.goto X3.here hx rfl (pc0 := 298) (pc' := 302) rfl (hb hby at_298) (by decide) (by decide) ?_
  exact kt

theorem own_cases {t : Int32} (h1 : 0 ≤ t.toInt) (h2 : t.toInt < 4) : t = (0 : Int32) ∨ t = (1 : Int32) ∨ t = (2 : Int32) ∨ t = (3 : Int32) := by
  have e : ∀ k : Int32, t.toInt = k.toInt → t = k := fun k q => Int32.toInt_inj.mp q
  rcases (by omega : t.toInt = 0 ∨ t.toInt = 1 ∨ t.toInt = 2 ∨ t.toInt = 3) with h | h | h | h
  · exact Or.inl (e 0 (h.trans (by decide)))
  · exact Or.inr (Or.inl (e 1 (h.trans (by decide))))
  · exact Or.inr (Or.inr (Or.inl (e 2 (h.trans (by decide)))))
  · exact Or.inr (Or.inr (Or.inr (e 3 (h.trans (by decide)))))
theorem own_oz {Z : State} {n0 : Nat} {h : Heap} (O : Old Z n0 h) : n0 ≤ h.size := Nat.le_trans (Nat.le_of_eq O.1.symm) O.2.1
set_option maxRecDepth 65536 in
theorem own_ph {p : Program} {l : Launch} {e : Env} {s : State} {m : MethodId} {args : Array Value} {below : List Frame} {meth : Method} {c : Code} {T0 : State} {locs : List Loc} {Z : State} {a0 : Array Value} {h0 : Heap} {n0 : Nat} (s0 : Slot) (i1 : Int32) (s2 s3 s4 s5 s6 s7 s8 s9 s10 s11 s12 s13 s14 : Slot) (wS wL wV : Addr) (X0 : Stand p l e room_1 s m args below meth c T0 locs 12 74) (hx : p.tables.exec = Jvm.exec) (hZ : Z.Warmed39 s.vm) (hw : ∀ d ∈ tables_1, d.before a0 Z = true) (hby : c.code = code) (hml : c.maxLocals = 15) (hown : s.vm.findClass "com/example/bindspire/bindspire/ChoiceChosenPinLaw" = some m.cls) (e0 : T0.heap = h0) (N0 : Fr n0 locs) (Z0 : n0 ≤ h0.size) (Od0 : Old Z n0 h0) (hs10 : One s10) (hs11 : One s11) (S_STRICT : Sta Z Z.heap "com/example/bindspire/bindspire/Overloads$Phase" "STRICT" "Lcom/example/bindspire/bindspire/Overloads$Phase;" (.ref wS)) (S_LOOSE : Sta Z Z.heap "com/example/bindspire/bindspire/Overloads$Phase" "LOOSE" "Lcom/example/bindspire/bindspire/Overloads$Phase;" (.ref wL)) (S_VARIABLE_ARITY : Sta Z Z.heap "com/example/bindspire/bindspire/Overloads$Phase" "VARIABLE_ARITY" "Lcom/example/bindspire/bindspire/Overloads$Phase;" (.ref wV)) :
    ∃ (ph : Value) (T' : State) (L' : List Loc), (ph = .null ∨ ∃ w, ph = .ref w) ∧ Stand p l e room_1 s m args below meth c T' L' 12 74 ∧ Fr n0 L' ∧ T'.heap = h0 ∧
      ∀ target, Steps p.tables e below (T'.setTop (mkF m 237 #[s0, .val (.int i1), s2, s3, s4, s5, s6, s7, s8, s9, .val (.int (i1 &&& (3 : Int32))), .val ph, s12, s13, s14] [])) target → Steps p.tables e below (T0.setTop (mkF m 188 #[s0, .val (.int i1), s2, s3, s4, s5, s6, s7, s8, s9, s10, s11, s12, s13, s14] [])) target := by
  by_cases q0 : (i1 &&& (3 : Int32)) = (0 : Int32)
  · obtain ⟨T', L', h', X', N', e', f', kk⟩ := s5_0 (s0 := s0) (i1 := i1) (s2 := s2) (s3 := s3) (s4 := s4) (s5 := s5) (s6 := s6) (s7 := s7) (s8 := s8) (s9 := s9) (s10 := s10) (s11 := s11) (s12 := s12) (s13 := s13) (s14 := s14) (w1 := wS) (X0 := X0) (hx := hx) (hZ := hZ) (hw := hw) (hby := hby) (hml := hml) (hown := hown) (e0 := e0) (N0 := N0) (Z0 := Z0) (Od0 := Od0) (hs10 := hs10) (S_STRICT := S_STRICT) (hs11 := hs11) (hc195 := q0)
    subst f'
    exact ⟨.ref wS, T', L', Or.inr ⟨_, rfl⟩, X', N', e', kk⟩
  by_cases q1 : (i1 &&& (3 : Int32)) = (1 : Int32)
  · obtain ⟨T', L', h', X', N', e', f', kk⟩ := s5_1 (s0 := s0) (i1 := i1) (s2 := s2) (s3 := s3) (s4 := s4) (s5 := s5) (s6 := s6) (s7 := s7) (s8 := s8) (s9 := s9) (s10 := s10) (s11 := s11) (s12 := s12) (s13 := s13) (s14 := s14) (w1 := wL) (X0 := X0) (hx := hx) (hZ := hZ) (hw := hw) (hby := hby) (hml := hml) (hown := hown) (e0 := e0) (N0 := N0) (Z0 := Z0) (Od0 := Od0) (hs10 := hs10) (S_LOOSE := S_LOOSE) (hs11 := hs11) (hc195 := q0) (hc209 := q1)
    subst f'
    exact ⟨.ref wL, T', L', Or.inr ⟨_, rfl⟩, X', N', e', kk⟩
  by_cases q2 : (i1 &&& (3 : Int32)) = (2 : Int32)
  · obtain ⟨T', L', h', X', N', e', f', kk⟩ := s5_2 (s0 := s0) (i1 := i1) (s2 := s2) (s3 := s3) (s4 := s4) (s5 := s5) (s6 := s6) (s7 := s7) (s8 := s8) (s9 := s9) (s10 := s10) (s11 := s11) (s12 := s12) (s13 := s13) (s14 := s14) (w1 := wV) (X0 := X0) (hx := hx) (hZ := hZ) (hw := hw) (hby := hby) (hml := hml) (hown := hown) (e0 := e0) (N0 := N0) (Z0 := Z0) (Od0 := Od0) (hs10 := hs10) (S_VARIABLE_ARITY := S_VARIABLE_ARITY) (hs11 := hs11) (hc195 := q0) (hc209 := q1) (hc223 := q2)
    subst f'
    exact ⟨.ref wV, T', L', Or.inr ⟨_, rfl⟩, X', N', e', kk⟩
  · obtain ⟨T', L', h', X', N', e', f', kk⟩ := s5_3 (s0 := s0) (i1 := i1) (s2 := s2) (s3 := s3) (s4 := s4) (s5 := s5) (s6 := s6) (s7 := s7) (s8 := s8) (s9 := s9) (s10 := s10) (s11 := s11) (s12 := s12) (s13 := s13) (s14 := s14) (X0 := X0) (hx := hx) (hZ := hZ) (hw := hw) (hby := hby) (hml := hml) (hown := hown) (e0 := e0) (N0 := N0) (Z0 := Z0) (Od0 := Od0) (hs10 := hs10) (hs11 := hs11) (hc195 := q0) (hc209 := q1) (hc223 := q2)
    subst f'
    exact ⟨.null, T', L', Or.inl rfl, X', N', e', kk⟩
set_option maxRecDepth 65536 in
theorem own_ch {p : Program} {l : Launch} {e : Env} {s : State} {m : MethodId} {args : Array Value} {below : List Frame} {meth : Method} {c : Code} {T0 : State} {locs : List Loc} {Z : State} {a0 : Array Value} {h0 : Heap} {n0 : Nat} (s0 s1 s2 s3 s4 s5 s6 s7 : Slot) (o8 o9 : Addr) (s10 : Slot) (ph : Value) (s12 s13 s14 : Slot) (X0 : Stand p l e room_1 s m args below meth c T0 locs 12 74) (hx : p.tables.exec = Jvm.exec) (hZ : Z.Warmed39 s.vm) (hw : ∀ d ∈ tables_1, d.before a0 Z = true) (hby : c.code = code) (hml : c.maxLocals = 15) (hown : s.vm.findClass "com/example/bindspire/bindspire/ChoiceChosenPinLaw" = some m.cls) (e0 : T0.heap = h0) (N0 : Fr n0 locs) (Z0 : n0 ≤ h0.size) (Od0 : Old Z n0 h0) (hs12 : One s12) (hph : ph = .null ∨ ∃ w, ph = .ref w) :
    ∃ (T' : State) (L' : List Loc) (h' : Heap) (ch : Addr), Stand p l e room_1 s m args below meth c T' L' 13 77 ∧ Fr n0 L' ∧ T'.heap = h' ∧ Old Z n0 h' ∧ Keep h0 h' [] ∧ Exa Z h' ch "com/example/bindspire/bindspire/Overloads$Choice" ∧ Fld Z h' ch "com/example/bindspire/bindspire/Overloads$Choice" "maximal" "Ljava/util/List;" (.ref o8) ∧
      ∀ target, Steps p.tables e below (T'.setTop (mkF m 252 #[s0, s1, s2, s3, s4, s5, s6, s7, .val (.ref o8), .val (.ref o9), s10, .val ph, .val (.ref ch), s13, s14] [])) target → Steps p.tables e below (T0.setTop (mkF m 237 #[s0, s1, s2, s3, s4, s5, s6, s7, .val (.ref o8), .val (.ref o9), s10, .val ph, s12, s13, s14] [])) target := by
  rcases hph with rfl | ⟨w, rfl⟩
  · obtain ⟨T', L', h', ch, X', N', e', O', K', E', F', kk⟩ := s6_n (s0 := s0) (s1 := s1) (s2 := s2) (s3 := s3) (s4 := s4) (s5 := s5) (s6 := s6) (s7 := s7) (o8 := o8) (o9 := o9) (s10 := s10) (s12 := s12) (s13 := s13) (s14 := s14) (X0 := X0) (hx := hx) (hZ := hZ) (hw := hw) (hby := hby) (hml := hml) (hown := hown) (e0 := e0) (N0 := N0) (Z0 := Z0) (Od0 := Od0) (hs12 := hs12)
    exact ⟨T', L', h', ch, X', N', e', O', K', E', F', kk⟩
  · obtain ⟨T', L', h', ch, X', N', e', O', K', E', F', kk⟩ := s6_r (s0 := s0) (s1 := s1) (s2 := s2) (s3 := s3) (s4 := s4) (s5 := s5) (s6 := s6) (s7 := s7) (o8 := o8) (o9 := o9) (s10 := s10) (o11 := w) (s12 := s12) (s13 := s13) (s14 := s14) (X0 := X0) (hx := hx) (hZ := hZ) (hw := hw) (hby := hby) (hml := hml) (hown := hown) (e0 := e0) (N0 := N0) (Z0 := Z0) (Od0 := Od0) (hs12 := hs12)
    exact ⟨T', L', h', ch, X', N', e', O', K', E', F', kk⟩
theorem pn_0 : plainName "com/example/bindspire/bindspire/ChoiceChosenPinLaw" = true := by first | (simp [plainName, overriddenIn]; done) | decide +kernel
theorem ef_0 (m : MethodId) (x0 : Int32) (x1 : Int32) (x2 : Int32) : entryFrame m #[(.int x0), (.int x1), (.int x2)] maxLocals = mkF m 0 #[.val (.int x0), .val (.int x1), .val (.int x2), .unset, .unset, .unset, .unset, .unset, .unset, .unset, .unset, .unset, .unset, .unset, .unset] [] := by first | (simp [entryFrame, mkF, argsToLocals, Value.category, maxLocals]; done) | rfl
set_option maxRecDepth 65536 in
set_option maxHeartbeats 40000000 in
theorem rm0 (l : Launch) (Z : State) (a0 : Array Value) (hw : ∀ d ∈ tables_1, d.before a0 Z = true) (ws : List Jvm.Cond) (p1 p2 p3 : Int32) (wD wS wL wV : Addr) (cl_wD : Cell) (h0 : Heap) (n0 : Nat) (Z0 : n0 ≤ h0.size) (Od0 : Old Z n0 h0) (S_D : Sta Z Z.heap "java/util/ArrayList" "DEFAULTCAPACITY_EMPTY_ELEMENTDATA" "[Ljava/lang/Object;" (.ref wD)) (Ar_wD : Arr Z Z.heap wD cl_wD (.object "java/lang/Object")) (S_wD : cl_wD.slots.size = (0 : Int32).toNatClampNeg) (SS : Sta Z Z.heap "com/example/bindspire/bindspire/Overloads$Phase" "STRICT" "Lcom/example/bindspire/bindspire/Overloads$Phase;" (.ref wS)) (SL : Sta Z Z.heap "com/example/bindspire/bindspire/Overloads$Phase" "LOOSE" "Lcom/example/bindspire/bindspire/Overloads$Phase;" (.ref wL)) (SV : Sta Z Z.heap "com/example/bindspire/bindspire/Overloads$Phase" "VARIABLE_ARITY" "Lcom/example/bindspire/bindspire/Overloads$Phase;" (.ref wV)) :
    MetFree l x (head1 (Jvm.Cond.code x code maxLocals ret :: ws) room_1) (fun a U => a = #[(.int p1), (.int p2), (.int p3)] ∧ Z.Warmed39 U.vm ∧ U.heap = h0) (fun _ _ _ _ _ => True) (fun _ U o U' => ∃ v L, o = .returned v ∧ own_Q n0 v U'.heap L ∧ FrameEnd U o U' L room_1.cells room_1.slots) := by
  refine MetFree.of_bodySF (plainFor_of_name pn_0) hisR ?_
  intro p e s m args below meth c s₁ Bd hml0 hP hK
  obtain ⟨rfl, hZ, hh⟩ := hP
  have hx := Bd.exec
  have hby := Bd.bytes
  have hml : c.maxLocals = 15 := hml0
  have hown : s.vm.findClass "com/example/bindspire/bindspire/ChoiceChosenPinLaw" = some m.cls := findClass_of_methodNamed Bd.named
  have hnm := (name_of_methodNamed Bd.named Bd.method).1
  have X0 : Stand p l e room_1 s m #[(.int p1), (.int p2), (.int p3)] below meth c s₁ [] 0 0 := Stand.of_body Bd
  have e0 : s₁.heap = h0 := by rw [← hh, Bd.state]; rfl
  have N0 := Fr.nil n0
  have pre0 : ∀ t, Steps p.tables e below (s₁.setTop (mkF m 0 #[.val (.int p1), .val (.int p2), .val (.int p3), .unset, .unset, .unset, .unset, .unset, .unset, .unset, .unset, .unset, .unset, .unset, .unset] [])) t → Steps p.tables e below (s₁.setTop (entryFrame m #[(.int p1), (.int p2), (.int p3)] maxLocals)) t := fun t k => castTop (ef_0 m p1 p2 p3) k
  obtain ⟨T1, L1, h1, c0, c1, c2, c3, ml, X1, N1, e1, O1, gm1, EA0, EA1, EA2, EA3, LL1, k1⟩ := s1 (i0 := p1) (s1 := .val (.int p2)) (s2 := .val (.int p3)) (s3 := .unset) (s4 := .unset) (s5 := .unset) (s6 := .unset) (s7 := .unset) (s8 := .unset) (s9 := .unset) (s10 := .unset) (s11 := .unset) (s12 := .unset) (s13 := .unset) (s14 := .unset) (wD := wD) (X0 := X0) (hx := hx) (hZ := hZ) (hw := hw) (hby := hby) (hml := hml) (hown := hown) (e0 := e0) (N0 := N0) (Z0 := Z0) (Od0 := Od0) (hs3 := One.u) (hs4 := One.u) (hs5 := One.u) (hs6 := One.u) (hs7 := One.u) (hs8 := One.u) (S_DEFAULTCAPACITY_EMPTY_ELEMENTDATA := S_D)
  have Z1 := own_oz O1
  have hnn := c_and p1 (3 : Int32) (by decide)
  have h3i : (3 : Int32).toInt = 3 := by decide
  obtain ⟨T2, L2, h2, X2, N2, e2, O2, K2, M2, k2⟩ : ∃ (T' : State) (L' : List Loc) (h' : Heap), Stand p l e room_1 s m #[(.int p1), (.int p2), (.int p3)] below meth c T' L' 6 21 ∧ Fr n0 L' ∧ T'.heap = h' ∧ Old Z n0 h' ∧ Keep h1 h' [ml] ∧ own_M Z h' ml c0 (p1 &&& (3 : Int32)) ∧ ∀ target, Steps p.tables e below (T'.setTop (mkF m 102 #[.val (.int p1), .val (.int p2), .val (.int p3), .val (.int (p1 &&& (3 : Int32))), .val (.ref c0), .val (.ref c1), .val (.ref c2), .val (.ref c3), .val (.ref ml), .unset, .unset, .unset, .unset, .unset, .unset] [])) target → Steps p.tables e below (T1.setTop (mkF m 57 #[.val (.int p1), .val (.int p2), .val (.int p3), .val (.int (p1 &&& (3 : Int32))), .val (.ref c0), .val (.ref c1), .val (.ref c2), .val (.ref c3), .val (.ref ml), .unset, .unset, .unset, .unset, .unset, .unset] [])) target := by
    obtain ⟨LE, ⟨mc, Fm⟩, Fs, Fe⟩ := LL1
    rcases own_cases hnn.1 (by omega) with h | h | h | h
    · obtain ⟨T', L', h', X', N', e', f', kk⟩ := s2_0 (s0 := .val (.int p1)) (s1 := .val (.int p2)) (s2 := .val (.int p3)) (i3 := (p1 &&& (3 : Int32))) (s4 := .val (.ref c0)) (s5 := .val (.ref c1)) (s6 := .val (.ref c2)) (s7 := .val (.ref c3)) (s8 := .val (.ref ml)) (s9 := .unset) (s10 := .unset) (s11 := .unset) (s12 := .unset) (s13 := .unset) (s14 := .unset) (X0 := X1) (hx := hx) (hZ := hZ) (hw := hw) (hby := hby) (hml := hml) (hown := hown) (e0 := e1) (N0 := N1) (Z0 := Z1) (hc59 := (by rw [h]; decide)) (hc74 := (by rw [h]; decide)) (hc89 := (by rw [h]; decide))
      subst f'
      exact ⟨T', L', h', X'.more (by decide) (by decide), N', e', O1, Keep.refl _ _, ⟨LE, by rw [h]; exact Fs, fun q => absurd (h.symm.trans q) (by decide)⟩, kk⟩
    · obtain ⟨T', L', h', X', N', e', O', K', M', kk⟩ := s2_1 (s0 := .val (.int p1)) (s1 := .val (.int p2)) (s2 := .val (.int p3)) (i3 := (p1 &&& (3 : Int32))) (o4 := c0) (s5 := .val (.ref c1)) (s6 := .val (.ref c2)) (s7 := .val (.ref c3)) (o8 := ml) (s9 := .unset) (s10 := .unset) (s11 := .unset) (s12 := .unset) (s13 := .unset) (s14 := .unset) (mc := mc) (wD := wD) (cl_wD := cl_wD) (X0 := X1) (hx := hx) (hZ := hZ) (hw := hw) (hby := hby) (hml := hml) (hown := hown) (e0 := e1) (N0 := N1) (Z0 := Z1) (Od0 := O1) (E_o8 := LE) (E_o4 := EA0) (F_modCount_o8 := Fm) (F_size_o8 := Fs) (F_elementData_o8 := Fe) (S_DEFAULTCAPACITY_EMPTY_ELEMENTDATA := S_D) (Ar_wD := Ar_wD) (S_wD := S_wD) (g_o8 := gm1) (hn3 := h) (hc59 := (by rw [h]; decide)) (hc74 := (by rw [h]; decide)) (hc89 := (by rw [h]; decide))
      exact ⟨T', L', h', X'.more (by decide) (by decide), N', e', O', K', M', kk⟩
    · obtain ⟨T', L', h', X', N', e', O', K', M', kk⟩ := s2_2 (s0 := .val (.int p1)) (s1 := .val (.int p2)) (s2 := .val (.int p3)) (i3 := (p1 &&& (3 : Int32))) (o4 := c0) (o5 := c1) (s6 := .val (.ref c2)) (s7 := .val (.ref c3)) (o8 := ml) (s9 := .unset) (s10 := .unset) (s11 := .unset) (s12 := .unset) (s13 := .unset) (s14 := .unset) (mc := mc) (wD := wD) (cl_wD := cl_wD) (X0 := X1) (hx := hx) (hZ := hZ) (hw := hw) (hby := hby) (hml := hml) (hown := hown) (e0 := e1) (N0 := N1) (Z0 := Z1) (Od0 := O1) (E_o8 := LE) (E_o4 := EA0) (E_o5 := EA1) (F_modCount_o8 := Fm) (F_size_o8 := Fs) (F_elementData_o8 := Fe) (S_DEFAULTCAPACITY_EMPTY_ELEMENTDATA := S_D) (Ar_wD := Ar_wD) (S_wD := S_wD) (g_o8 := gm1) (hn3 := h) (hc59 := (by rw [h]; decide)) (hc74 := (by rw [h]; decide)) (hc89 := (by rw [h]; decide))
      exact ⟨T', L', h', X'.more (by decide) (by decide), N', e', O', K', M', kk⟩
    · obtain ⟨T', L', h', X', N', e', O', K', M', kk⟩ := s2_3 (s0 := .val (.int p1)) (s1 := .val (.int p2)) (s2 := .val (.int p3)) (i3 := (p1 &&& (3 : Int32))) (o4 := c0) (o5 := c1) (o6 := c2) (s7 := .val (.ref c3)) (o8 := ml) (s9 := .unset) (s10 := .unset) (s11 := .unset) (s12 := .unset) (s13 := .unset) (s14 := .unset) (mc := mc) (wD := wD) (cl_wD := cl_wD) (X0 := X1) (hx := hx) (hZ := hZ) (hw := hw) (hby := hby) (hml := hml) (hown := hown) (e0 := e1) (N0 := N1) (Z0 := Z1) (Od0 := O1) (E_o8 := LE) (E_o4 := EA0) (E_o5 := EA1) (E_o6 := EA2) (F_modCount_o8 := Fm) (F_size_o8 := Fs) (F_elementData_o8 := Fe) (S_DEFAULTCAPACITY_EMPTY_ELEMENTDATA := S_D) (Ar_wD := Ar_wD) (S_wD := S_wD) (g_o8 := gm1) (hn3 := h) (hc59 := (by rw [h]; decide)) (hc74 := (by rw [h]; decide)) (hc89 := (by rw [h]; decide))
      exact ⟨T', L', h', X'.more (by decide) (by decide), N', e', O', K', M', kk⟩
  have Z2 := own_oz O2
  have EB0 := EA0.keep K2
  have EB1 := EA1.keep K2
  have EB2 := EA2.keep K2
  have EB3 := EA3.keep K2
  obtain ⟨T3, L3, h3, pl, X3, N3', e3, O3, gp, gpn, K3, LL3, k3⟩ := s3 (s0 := .val (.int p1)) (s1 := .val (.int p2)) (s2 := .val (.int p3)) (s3 := .val (.int (p1 &&& (3 : Int32)))) (s4 := .val (.ref c0)) (s5 := .val (.ref c1)) (s6 := .val (.ref c2)) (s7 := .val (.ref c3)) (s8 := .val (.ref ml)) (s9 := .unset) (s10 := .unset) (s11 := .unset) (s12 := .unset) (s13 := .unset) (s14 := .unset) (wD := wD) (X0 := X2) (hx := hx) (hZ := hZ) (hw := hw) (hby := hby) (hml := hml) (hown := hown) (e0 := e2) (N0 := N2) (Z0 := Z2) (Od0 := O2) (hs9 := One.u) (S_DEFAULTCAPACITY_EMPTY_ELEMENTDATA := S_D)
  have E3 := own_k0 K3
  have P3 : own_P Z wD h2 h3 pl 0 := Or.inl LL3
  obtain ⟨T4, L4, h4, X4, N4', e4, O4, E4, P4, k4⟩ := own_site0 (.val (.int p1)) (.val (.int p2)) p3 (p1 &&& (3 : Int32)) c0 c1 c2 c3 (.val (.ref ml)) pl .unset .unset .unset .unset .unset wD cl_wD h2 X3 hx hZ hw hby hml hown e3 N3' (own_oz O3) O3 E3 Z2 (EB3.ext E3) S_D Ar_wD S_wD gpn gp P3
  obtain ⟨T5, L5, h5, X5, N5', e5, O5, E5, P5, k5⟩ := own_site1 (.val (.int p1)) (.val (.int p2)) p3 (p1 &&& (3 : Int32)) c0 c1 c2 c3 (.val (.ref ml)) pl .unset .unset .unset .unset .unset wD cl_wD h2 X4 hx hZ hw hby hml hown e4 N4' (own_oz O4) O4 E4 Z2 (EB0.ext E4) S_D Ar_wD S_wD gpn gp P4
  obtain ⟨T6, L6, h6, X6, N6', e6, O6, E6, P6, k6⟩ := own_site2 (.val (.int p1)) (.val (.int p2)) p3 (p1 &&& (3 : Int32)) c0 c1 c2 c3 (.val (.ref ml)) pl .unset .unset .unset .unset .unset wD cl_wD h2 X5 hx hZ hw hby hml hown e5 N5' (own_oz O5) O5 E5 Z2 (EB1.ext E5) S_D Ar_wD S_wD gpn gp P5
  obtain ⟨T7, L7, h7, X7, N7', e7, O7, E7, P7, k7⟩ := own_site3 (.val (.int p1)) (.val (.int p2)) p3 (p1 &&& (3 : Int32)) c0 c1 c2 c3 (.val (.ref ml)) pl .unset .unset .unset .unset .unset wD cl_wD h2 X6 hx hZ hw hby hml hown e6 N6' (own_oz O6) O6 E6 Z2 (EB2.ext E6) S_D Ar_wD S_wD gpn gp P6
  obtain ⟨T8, L8, h8, X8, N8', e8, O8, E8, P8, k8⟩ := own_site4 (.val (.int p1)) (.val (.int p2)) p3 (p1 &&& (3 : Int32)) c0 c1 c2 c3 (.val (.ref ml)) pl .unset .unset .unset .unset .unset wD cl_wD h2 X7 hx hZ hw hby hml hown e7 N7' (own_oz O7) O7 E7 Z2 (EB3.ext E7) S_D Ar_wD S_wD gpn gp P7
  obtain ⟨ph, T9, L9, hph, X9, N9, e9, k9⟩ := own_ph (.val (.int p1)) p2 (.val (.int p3)) (.val (.int (p1 &&& (3 : Int32)))) (.val (.ref c0)) (.val (.ref c1)) (.val (.ref c2)) (.val (.ref c3)) (.val (.ref ml)) (.val (.ref pl)) (.unset) (.unset) (.unset) (.unset) (.unset) wS wL wV X8 hx hZ hw hby hml hown e8 N8' (own_oz O8) O8 One.u One.u SS SL SV
  obtain ⟨T10, L10, h10, ch, X10, N10, e10, O10, K10, EC, FC, k10⟩ := own_ch (.val (.int p1)) (.val (.int p2)) (.val (.int p3)) (.val (.int (p1 &&& (3 : Int32)))) (.val (.ref c0)) (.val (.ref c1)) (.val (.ref c2)) (.val (.ref c3)) ml pl (.val (.int (p2 &&& (3 : Int32)))) ph (.unset) (.unset) (.unset) X9 hx hZ hw hby hml hown e9 N9 (own_oz O8) O8 One.u hph
  have M10 := own_M_ext (own_k0 K10) (own_M_ext E8 M2)
  obtain ⟨ME, MF, MY⟩ := M10
  have EB10 := (EB0.ext E8).ext (own_k0 K10)
  by_cases h1n : (p1 &&& (3 : Int32)) = (1 : Int32)
  · obtain ⟨b, kc, vs, FE, VB, HW⟩ := MY h1n
    obtain ⟨T11, L11, h11, X11, N11, e11, f11, k11⟩ := s7_y (s0 := .val (.int p1)) (s1 := .val (.int p2)) (s2 := .val (.int p3)) (i3 := (p1 &&& (3 : Int32))) (o4 := c0) (s5 := .val (.ref c1)) (s6 := .val (.ref c2)) (s7 := .val (.ref c3)) (s8 := .val (.ref ml)) (s9 := .val (.ref pl)) (s10 := .val (.int (p2 &&& (3 : Int32)))) (s11 := .val ph) (o12 := ch) (s13 := .unset) (s14 := .unset) (kc := kc) (vs := vs) (mx := ml) (b := b) (X0 := X10) (hx := hx) (hZ := hZ) (hw := hw) (hby := hby) (hml := hml) (hown := hown) (e0 := e10) (N0 := N10) (Z0 := (own_oz O10)) (E_o12 := EC) (E_mx := ME) (E_o4 := EB10) (F_maximal_o12 := FC) (F_size_mx := MF) (F_elementData_mx := FE) (V_b := VB) (hs13 := One.u) (hs14 := One.u) (hn1 := h1n) (hw0 := HW) (hc282 := h1n) (hc287 := (by decide))
    obtain ⟨fs, hr, hrun, hended, hW, hsame⟩ := X11.leave (v := some (.int (1 : Int32))) (fun h => by rw [Bd.returns] at h; cases h)
    refine ⟨_, _, pre0 _ ?_, hrun, hended, _, _, rfl, (⟨rfl, N11⟩ : own_Q n0 _ T11.heap _), ⟨_, rfl⟩, hW, hsame.mono (by decide) (by decide)⟩
    refine k1 _ (k2 _ (k3 _ (k4 _ (k5 _ (k6 _ (k7 _ (k8 _ (k9 _ (k10 _ (k11 _ ?_))))))))))
    show Steps p.tables e below (T11.setTop (mkF m 302 #[.val (.int p1), .val (.int p2), .val (.int p3), .val (.int (p1 &&& (3 : Int32))), .val (.ref c0), .val (.ref c1), .val (.ref c2), .val (.ref c3), .val (.ref ml), .val (.ref pl), .val (.int (p2 &&& (3 : Int32))), .val ph, .val (.ref ch), .val (.ref c0), .val (.int (1 : Int32))] [(.int (1 : Int32))])) _
    exact retN X11 hx (t := .boolean) Bd.returns (by simp) (hb hby at_302) hr
  · obtain ⟨T11, L11, h11, X11, N11, e11, f11, k11⟩ := s7_o (s0 := .val (.int p1)) (s1 := .val (.int p2)) (s2 := .val (.int p3)) (i3 := (p1 &&& (3 : Int32))) (s4 := .val (.ref c0)) (s5 := .val (.ref c1)) (s6 := .val (.ref c2)) (s7 := .val (.ref c3)) (s8 := .val (.ref ml)) (s9 := .val (.ref pl)) (s10 := .val (.int (p2 &&& (3 : Int32)))) (s11 := .val ph) (o12 := ch) (s13 := .unset) (s14 := .unset) (mx := ml) (X0 := X10) (hx := hx) (hZ := hZ) (hw := hw) (hby := hby) (hml := hml) (hown := hown) (e0 := e10) (N0 := N10) (Z0 := (own_oz O10)) (E_o12 := EC) (E_mx := ME) (F_maximal_o12 := FC) (F_size_mx := MF) (hs13 := One.u) (hs14 := One.u) (hn1 := h1n) (hc282 := h1n) (hc305 := (by decide))
    obtain ⟨fs, hr, hrun, hended, hW, hsame⟩ := X11.leave (v := some (.int (1 : Int32))) (fun h => by rw [Bd.returns] at h; cases h)
    refine ⟨_, _, pre0 _ ?_, hrun, hended, _, _, rfl, (⟨rfl, N11⟩ : own_Q n0 _ T11.heap _), ⟨_, rfl⟩, hW, hsame.mono (by decide) (by decide)⟩
    refine k1 _ (k2 _ (k3 _ (k4 _ (k5 _ (k6 _ (k7 _ (k8 _ (k9 _ (k10 _ (k11 _ ?_))))))))))
    show Steps p.tables e below (T11.setTop (mkF m 318 #[.val (.int p1), .val (.int p2), .val (.int p3), .val (.int (p1 &&& (3 : Int32))), .val (.ref c0), .val (.ref c1), .val (.ref c2), .val (.ref c3), .val (.ref ml), .val (.ref pl), .val (.int (p2 &&& (3 : Int32))), .val ph, .val (.ref ch), .val .null, .val (.int (1 : Int32))] [(.int (1 : Int32))])) _
    exact retN X11 hx (t := .boolean) Bd.returns (by simp) (hb hby at_318) hr
theorem own_len0 {args : Array Value} {s : State} {t : Term} {a : Addr} {cl : Cell} {ty : FieldType} (ht : t.eval args s none [] s = some (.ref a)) (A : Arr s s.heap a cl ty)
    (h : (Jvm.Cond.eq (Jvm.Term.length t) (Jvm.Term.int (0 : Int32))).value args s none s [] = some true) : cl.slots.size = (0 : Int32).toNatClampNeg := by
  have e0 := Arr.fin (Vm.Alike.refl _) A
  by_cases hl : cl.slots.size < 2 ^ 31
  · have e1 : (Term.length t).eval args s none [] s = some (.int cl.slots.size.toInt32) := len_f ht e0 hl
    have e2 : (Term.int 0).eval args s none [] s = some (.int 0) := rfl
    simp only [Cond.value, e1, e2] at h
    have h' : cl.slots.size.toInt32 = 0 := by simpa using h
    have h3 : cl.slots.size.toInt32.toInt = (0 : Int32).toInt := by rw [h']
    rw [len_toInt hl] at h3
    have : (0 : Int32).toInt = 0 := by decide
    have h4 : (0 : Int32).toNatClampNeg = 0 := by decide
    omega
  · exfalso
    have e1 : (Term.length t).eval args s none [] s = none := by simp [Term.eval, ht, e0, hl]
    simp [Cond.value, e1] at h
set_option maxRecDepth 65536 in
set_option maxHeartbeats 40000000 in
theorem comes_1 {Post : Tables → Env → Array Value → State → Outcome → State → Prop} (hpost : ∀ tb e args s v u, (limb_1_1.after args s (.returned v) u = true ∧ limb_1_2.after args s (.returned v) u = true ∧ True) → FrameEnd s (.returned v) u (Jvm.fieldLocs frame_1_writes args s ++ Jvm.arrayLocs frame_1_arrays args s ++ Jvm.staticLocs frame_1_statics s) 32 192 → Post tb e args s (.returned v) u) :
    ArmFor flags0 classFile x code maxLocals ret World_1 tables_1 room_1 Calls_1 rest_1 Pre_1 Post := by
  intro l hfl _ _ p e ha hc hk s m args below hf hA hF happ hP
  obtain ⟨hcalls, hrest, hpre⟩ := hP
  obtain ⟨-, -, -, hnamed, -, -, -, hat⟩ := (Spec.applies_iff hf).mp happ
  obtain ⟨hg, hn⟩ := and_e (Cond.before_iff.mp (show (Jvm.Cond.and given_1 narrow_1).before args s = true from hpre))
  obtain ⟨g23, g24⟩ := and_e hg
  obtain ⟨g25, g26⟩ := and_e g24
  obtain ⟨g27, g28⟩ := and_e g26
  obtain ⟨w0, w1, w2, rfl⟩ : ∃ w0 w1 w2 : Value, args = #[w0, w1, w2] := by
    have hs : args.size = 3 := by simpa [Cond.value, given_1] using g23
    obtain ⟨L⟩ := args
    match L, hs with
    | [w0, w1, w2], _ => exact ⟨w0, w1, w2, rfl⟩
  have hw := fun d (hd : d ∈ tables_1) => atoms_spec (ws := Jvm.Cond.code x code maxLocals ret :: tables_1) hat d (List.mem_cons_of_mem _ hd)
  have hfit : Fit s := fun {y c} hc i hi => by
    obtain ⟨ha, rfl⟩ := Array.getElem?_eq_some_iff.mp hc
    have q := List.all_eq_true.mp ((Array.all_eq_true_iff_forall_mem.mp hF) _ (Array.getElem_mem ha)) i (List.mem_range.mpr hi)
    simpa [Array.getElem?_eq_getElem hi] using q
  obtain ⟨hsets, hown0⟩ := atoms_of _ (rest_1_c_eq ▸ (show rest_1_c.before _ s = true from hrest))
  have hr0 := Cond.before_iff.mp hown0
  obtain ⟨i0, ei0⟩ := is_v g25
  obtain rfl : w0 = (.int i0) := Option.some.inj ei0
  obtain ⟨i1, ei1⟩ := is_v g27
  obtain rfl : w1 = (.int i1) := Option.some.inj ei1
  obtain ⟨i2, ei2⟩ := is_v g28
  obtain rfl : w2 = (.int i2) := Option.some.inj ei2
  obtain ⟨n1, hn⟩ := and_e hn
  obtain ⟨n2, n3⟩ := and_e hn
  obtain ⟨wS, vS⟩ := exa_v n1
  obtain ⟨wV, vV⟩ := exa_v n2
  obtain ⟨wL, vL⟩ := exa_v n3
  have SS := Sta.start vS (Or.inr ⟨(hw _ (List.mem_of_getElem? (i := 110) rfl)), (hw _ (List.mem_of_getElem? (i := 111) rfl))⟩)
  have SV := Sta.start vV (Or.inr ⟨(hw _ (List.mem_of_getElem? (i := 110) rfl)), (hw _ (List.mem_of_getElem? (i := 136) rfl))⟩)
  have SL := Sta.start vL (Or.inr ⟨(hw _ (List.mem_of_getElem? (i := 110) rfl)), (hw _ (List.mem_of_getElem? (i := 138) rfl))⟩)
  have d6 := Cond.before_iff.mp (hsets _ (List.mem_of_getElem? (i := 6) rfl))
  have d8 := Cond.before_iff.mp (hsets _ (List.mem_of_getElem? (i := 8) rfl))
  obtain ⟨wD, vD⟩ := arr_v d6
  obtain ⟨cl, Ar⟩ := Arr.start vD d6
  have SD := Sta.start vD (Or.inr ⟨(hw _ (List.mem_of_getElem? (i := 20) rfl)), (hsets _ (List.mem_of_getElem? (i := 2) rfl))⟩)
  have hsz := own_len0 vD Ar d8
  have hall : MetFree l x (head1 (Jvm.Cond.code x code maxLocals ret :: tables_1) room_1) (fun a U => a = #[(.int i0), (.int i1), (.int i2)] ∧ s.Warmed39 U.vm ∧ U.heap = s.heap) (fun _ _ _ _ _ => True) (fun _ U o U' => ∃ v L, o = .returned v ∧ own_Q s.heap.size v U'.heap L ∧ FrameEnd U o U' L room_1.cells room_1.slots) := by
    exact rm0 l s _ hw tables_1 i0 i1 i2 wD wS wL wV cl s.heap s.heap.size (Nat.le_refl _) (Old.start s) SD Ar hsz SS SL SV
  obtain ⟨n, o, h1, h2, h3, _, L, rfl, ⟨rfl, N⟩, hq⟩ := hall p e ha hc hk s m _ below hf ((Spec.applies_iff_loose hf).mp happ).1 ⟨rfl, State.Warmed39.refl s, rfl⟩ trivial
  refine ⟨n, _, h1, h2, h3, hpost _ _ _ _ _ _ ⟨Cond.after_iff.mpr rfl, Cond.after_iff.mpr (eq_i res_at (Term.int_eval (1)) rfl), trivial⟩ ⟨hq.1, hq.2.1, (hq.2.2.sift fun y hy => Or.inr (N y hy)).mono (by decide) (by decide)⟩⟩
theorem main_1_1 : Claimed_1_1 := comes_1 fun _ _ _ _ _ _ h hF => ⟨h.1, hF⟩
theorem main_1_2 : Claimed_1_2 := comes_1 fun _ _ _ _ _ _ h hF => ⟨h.2.1, hF⟩

end Jvm.Pilot.@@N@@
namespace Jvm.Pilot.@@N@@
open Jvm Jvm.ClassFile Sem Op Lib Jvm.Free Jvm.Stand Jvm.Pilot.@@N@@.Jvm.D
/-! MADE BY PROGRAM (witnessworld.py) out of the Statement's table words and the real class files: 27 classes; the members and pool entries that the words name. The judged class is class 1, her method 1. -/
namespace start1
open Jvm.ClassFile
def u (s : String) : CpInfo := .utf8 (stringToUtf16 s)
/-- a pool by its gaps: so many unusable entries, then the entry; so many at the end -/
def gap : Nat → List CpInfo → List CpInfo
  | 0, r => r
  | n + 1, r => .unusable :: gap n r
def poolList (es : List (Nat × CpInfo)) (last : Nat) : List CpInfo := es.foldr (fun e r => gap e.1 (e.2 :: r)) (gap last [])
def pool (es : List (Nat × CpInfo)) (last : Nat) : Array CpInfo := ⟨poolList es last⟩
def fileOf (pool : Array CpInfo) (this : Nat) (attrs : Array Attribute := #[]) (ms : Array MethodInfo := #[]) (fl : Nat := 33) (sup : Nat := 0) (ifs : Array Nat := #[]) (fds : Array FieldInfo := #[]) : ClassFile where
  minorVersion := 0
  majorVersion := 65
  constantPool := pool
  accessFlags := fl
  thisClass := this
  superClass := sup
  interfaces := ifs
  fields := fds
  methods := ms
  attributes := attrs
def plain (name : String) (sup : Option ClassId) : Class where
  name := name
  kind := .ordinary
  loader := none
  accessFlags := 33
  super := sup
  interfaces := #[]
  cf := none
  fields := #[]
  methods := #[]
  instanceTypes := #[]
  staticTypes := #[]
  resolved := #[]
  callSites := []
  init := .initialized
  statics := none
  mirror := none

def pool0 : Array CpInfo := pool [(5, u "<init>"), (0, u "()V"), (1, .class_ 10), (1, u "java/lang/Object")] 113

def k0c0 : Code := { maxStack := 0, maxLocals := 1, code := object_method_1_code, exceptionTable := #[], attributes := #[] }
def k0m0 : Method := { name := "<init>", desc := "()V", sig := { parameters := [], returnType := none }, accessFlags := 1, code := some k0c0 }
/-- java/lang/Object -/
def k0 : Class := { plain "java/lang/Object" none with
  accessFlags := 33
  interfaces := #[]
  cf := some (fileOf pool0 8 #[] #[{ accessFlags := 1, nameIndex := 5, descriptorIndex := 6, attributes := #[] }] 33 0 #[] #[])
  fields := #[]
  methods := #[k0m0]
  instanceTypes := #[]
  staticTypes := #[]
  resolved := Array.replicate 124 none
  statics := none }

def pool1 : Array CpInfo := pool [(2, .class_ 4), (0, .nameAndType 5 6), (0, u "java/lang/Object"), (0, u "<init>"), (0, u "()V"), (0, .class_ 8), (0, u "com/example/bindspire/bindspire/Overloads$Candidate"), (0, .methodref 7 10), (0, .nameAndType 5 11), (0, u "(Ljava/lang/reflect/Executable;Ljava/util/List;)V"), (0, .class_ 13), (0, u "java/util/ArrayList"), (0, .methodref 12 3), (0, .interfaceMethodref 16 17), (0, .class_ 18), (0, .nameAndType 19 20), (0, u "java/util/List"), (0, u "add"), (0, u "(Ljava/lang/Object;)Z"), (0, .fieldref 22 23), (0, .class_ 24), (0, .nameAndType 25 26), (0, u "com/example/bindspire/bindspire/Overloads$Phase"), (0, u "STRICT"), (0, u "Lcom/example/bindspire/bindspire/Overloads$Phase;"), (0, .fieldref 22 28), (0, .nameAndType 29 26), (0, u "LOOSE"), (0, .fieldref 22 31), (0, .nameAndType 32 26), (0, u "VARIABLE_ARITY"), (0, .class_ 34), (0, u "com/example/bindspire/bindspire/Overloads$Choice"), (0, .methodref 33 36), (0, .nameAndType 5 37), (0, u "(Lcom/example/bindspire/bindspire/Overloads$Phase;Ljava/util/List;Ljava/util/List;)V"), (0, .methodref 33 39), (0, .nameAndType 40 41), (0, u "chosen"), (0, u "()Lcom/example/bindspire/bindspire/Overloads$Candidate;"), (0, .methodref 33 43), (0, .nameAndType 44 45), (0, u "maximal"), (0, u "()Ljava/util/List;"), (0, .interfaceMethodref 16 47), (0, .nameAndType 48 49), (0, u "size"), (0, u "()I"), (0, .class_ 51), (0, u "com/example/bindspire/bindspire/ChoiceChosenPinLaw"), (2, u "law"), (0, u "(III)Z")] 9

def k1m0 : Method := { name := "<init>", desc := "()V", sig := { parameters := [], returnType := none }, accessFlags := 1, code := none }
def k1c1 : Code := { maxStack := 5, maxLocals := 15, code := code, exceptionTable := #[], attributes := #[] }
def k1m1 : Method := { name := "law", desc := "(III)Z", sig := { parameters := [.int, .int, .int], returnType := some .boolean }, accessFlags := 9, code := some k1c1 }
/-- com/example/bindspire/bindspire/ChoiceChosenPinLaw -/
def k1 : Class := { plain "com/example/bindspire/bindspire/ChoiceChosenPinLaw" (some 0) with
  accessFlags := 49
  interfaces := #[]
  cf := some (fileOf pool1 50 #[] #[{ accessFlags := 1, nameIndex := 5, descriptorIndex := 6, attributes := #[] }, { accessFlags := 9, nameIndex := 54, descriptorIndex := 55, attributes := #[] }] 49 2 #[] #[])
  fields := #[]
  methods := #[k1m0, k1m1]
  instanceTypes := #[]
  staticTypes := #[]
  resolved := Array.replicate 65 none
  statics := none }

def pool2 : Array CpInfo := pool [(1, .methodref 2 3), (0, .class_ 4), (0, .nameAndType 5 6), (0, u "java/lang/Object"), (0, u "<init>"), (0, u "()V"), (0, .class_ 8), (0, u "java/lang/Record")] 13

def k2c0 : Code := { maxStack := 1, maxLocals := 1, code := jdk_30_method_1_code, exceptionTable := #[], attributes := #[] }
def k2m0 : Method := { name := "<init>", desc := "()V", sig := { parameters := [], returnType := none }, accessFlags := 4, code := some k2c0 }
/-- java/lang/Record -/
def k2 : Class := { plain "java/lang/Record" (some 0) with
  accessFlags := 1057
  interfaces := #[]
  cf := some (fileOf pool2 7 #[] #[{ accessFlags := 4, nameIndex := 5, descriptorIndex := 6, attributes := #[] }] 1057 2 #[] #[])
  fields := #[]
  methods := #[k2m0]
  instanceTypes := #[]
  staticTypes := #[]
  resolved := Array.replicate 22 none
  statics := none }

def pool3 : Array CpInfo := pool [(1, .methodref 2 3), (0, .class_ 4), (0, .nameAndType 5 6), (0, u "java/lang/Record"), (0, u "<init>"), (0, u "()V"), (0, .fieldref 8 9), (0, .class_ 10), (0, .nameAndType 11 12), (0, u "com/example/bindspire/bindspire/Overloads$Candidate"), (0, u "executable"), (0, u "Ljava/lang/reflect/Executable;"), (0, .fieldref 8 14), (0, .nameAndType 15 16), (0, u "parameterTypes"), (0, u "Ljava/util/List;"), (14, u "(Ljava/lang/reflect/Executable;Ljava/util/List;)V"), (13, .class_ 46), (0, u "com/example/bindspire/bindspire/Overloads")] 20

def k3c0 : Code := { maxStack := 2, maxLocals := 3, code := prog_26_method_1_code, exceptionTable := #[], attributes := #[] }
def k3m0 : Method := { name := "<init>", desc := "(Ljava/lang/reflect/Executable;Ljava/util/List;)V", sig := { parameters := [(.object "java/lang/reflect/Executable"), (.object "java/util/List")], returnType := none }, accessFlags := 0, code := some k3c0 }
/-- com/example/bindspire/bindspire/Overloads$Candidate -/
def k3 : Class := { plain "com/example/bindspire/bindspire/Overloads$Candidate" (some 2) with
  accessFlags := 48
  interfaces := #[]
  cf := some (fileOf pool3 8 #[.nestHost 45] #[{ accessFlags := 0, nameIndex := 5, descriptorIndex := 31, attributes := #[] }] 48 2 #[] #[{ accessFlags := 18, nameIndex := 11, descriptorIndex := 12, attributes := #[] }, { accessFlags := 18, nameIndex := 15, descriptorIndex := 16, attributes := #[] }])
  fields := #[{ name := "executable", type := (.object "java/lang/reflect/Executable"), accessFlags := 18, slot := 0, constantValue := 0 }, { name := "parameterTypes", type := (.object "java/util/List"), accessFlags := 18, slot := 1, constantValue := 0 }]
  methods := #[k3m0]
  instanceTypes := #[(.object "java/lang/reflect/Executable"), (.object "java/util/List")]
  staticTypes := #[]
  resolved := Array.replicate 67 none
  statics := none }

def pool4 : Array CpInfo := pool [(8, .class_ 10), (1, u "java/lang/Iterable"), (24, .class_ 36), (0, u "java/lang/Object")] 25

/-- java/lang/Iterable -/
def k4 : Class := { plain "java/lang/Iterable" (some 0) with
  accessFlags := 1537
  interfaces := #[]
  cf := some (fileOf pool4 8 #[] #[] 1537 35 #[] #[])
  fields := #[]
  methods := #[]
  instanceTypes := #[]
  staticTypes := #[]
  resolved := Array.replicate 62 none
  statics := none }

def pool5 : Array CpInfo := pool [(10, .class_ 12), (1, u "java/util/Collection"), (47, .class_ 61), (0, u "java/lang/Object"), (0, .class_ 63), (0, u "java/lang/Iterable")] 51

/-- java/util/Collection -/
def k5 : Class := { plain "java/util/Collection" (some 0) with
  accessFlags := 1537
  interfaces := #[4]
  cf := some (fileOf pool5 10 #[] #[] 1537 60 #[62] #[])
  fields := #[]
  methods := #[]
  instanceTypes := #[]
  staticTypes := #[]
  resolved := Array.replicate 115 none
  statics := none }

def pool6 : Array CpInfo := pool [(1, .methodref 2 3), (0, .class_ 4), (0, .nameAndType 5 6), (0, u "java/lang/Object"), (0, u "<init>"), (0, u "()V"), (1, .class_ 10), (1, u "java/util/AbstractCollection"), (66, .class_ 78), (0, u "java/util/Collection")] 81

def k6c0 : Code := { maxStack := 1, maxLocals := 1, code := jdk_22_method_1_code, exceptionTable := #[], attributes := #[] }
def k6m0 : Method := { name := "<init>", desc := "()V", sig := { parameters := [], returnType := none }, accessFlags := 4, code := some k6c0 }
/-- java/util/AbstractCollection -/
def k6 : Class := { plain "java/util/AbstractCollection" (some 0) with
  accessFlags := 1057
  interfaces := #[5]
  cf := some (fileOf pool6 8 #[] #[{ accessFlags := 4, nameIndex := 5, descriptorIndex := 6, attributes := #[] }] 1057 2 #[77] #[])
  fields := #[]
  methods := #[k6m0]
  instanceTypes := #[]
  staticTypes := #[]
  resolved := Array.replicate 160 none
  statics := none }

def pool7 : Array CpInfo := pool [(8, .class_ 10), (1, u "java/util/SequencedCollection"), (15, .class_ 27), (0, u "java/lang/Object"), (0, .class_ 29), (0, u "java/util/Collection")] 27

/-- java/util/SequencedCollection -/
def k7 : Class := { plain "java/util/SequencedCollection" (some 0) with
  accessFlags := 1537
  interfaces := #[5]
  cf := some (fileOf pool7 8 #[] #[] 1537 26 #[28] #[])
  fields := #[]
  methods := #[]
  instanceTypes := #[]
  staticTypes := #[]
  resolved := Array.replicate 57 none
  statics := none }

def pool8 : Array CpInfo := pool [(8, .class_ 10), (1, u "java/util/List"), (49, u "add"), (3, u "(Ljava/lang/Object;)Z"), (10, u "get"), (0, u "(I)Ljava/lang/Object;"), (2, u "size"), (0, u "()I"), (22, .class_ 104), (0, u "java/lang/Object"), (15, .class_ 121), (0, u "java/util/SequencedCollection")] 129

def k8m0 : Method := { name := "size", desc := "()I", sig := { parameters := [], returnType := some .int }, accessFlags := 1025, code := none }
def k8m1 : Method := { name := "add", desc := "(Ljava/lang/Object;)Z", sig := { parameters := [(.object "java/lang/Object")], returnType := some .boolean }, accessFlags := 1025, code := none }
def k8m2 : Method := { name := "get", desc := "(I)Ljava/lang/Object;", sig := { parameters := [.int], returnType := some (.object "java/lang/Object") }, accessFlags := 1025, code := none }
/-- java/util/List -/
def k8 : Class := { plain "java/util/List" (some 0) with
  accessFlags := 1537
  interfaces := #[7]
  cf := some (fileOf pool8 8 #[] #[{ accessFlags := 1025, nameIndex := 79, descriptorIndex := 80, attributes := #[] }, { accessFlags := 1025, nameIndex := 60, descriptorIndex := 64, attributes := #[] }, { accessFlags := 1025, nameIndex := 75, descriptorIndex := 76, attributes := #[] }] 1537 103 #[120] #[])
  fields := #[]
  methods := #[k8m0, k8m1, k8m2]
  instanceTypes := #[]
  staticTypes := #[]
  resolved := Array.replicate 251 none
  statics := none }

def pool9 : Array CpInfo := pool [(1, .methodref 2 3), (0, .class_ 4), (0, .nameAndType 5 6), (0, u "java/util/AbstractCollection"), (0, u "<init>"), (0, u "()V"), (0, .fieldref 8 9), (0, .class_ 10), (0, .nameAndType 11 12), (0, u "java/util/AbstractList"), (0, u "modCount"), (0, u "I"), (64, .class_ 78), (0, u "java/util/AbstractList$Itr"), (3, .class_ 83), (0, u "java/util/AbstractList$ListItr"), (9, .class_ 94), (0, u "java/util/AbstractList$RandomAccessSubList"), (3, .class_ 99), (0, u "java/util/AbstractList$SubList"), (33, .class_ 134), (0, u "java/util/List"), (73, .class_ 209), (0, u "java/util/AbstractList$SubList$1"), (0, .class_ 211), (0, u "java/util/AbstractList$RandomAccessSpliterator")] 6

def k9c0 : Code := { maxStack := 2, maxLocals := 1, code := jdk_39_method_1_code, exceptionTable := #[], attributes := #[] }
def k9m0 : Method := { name := "<init>", desc := "()V", sig := { parameters := [], returnType := none }, accessFlags := 4, code := some k9c0 }
/-- java/util/AbstractList -/
def k9 : Class := { plain "java/util/AbstractList" (some 6) with
  accessFlags := 1057
  interfaces := #[8]
  cf := some (fileOf pool9 8 #[.nestMembers #[93, 98, 208, 210, 82, 77]] #[{ accessFlags := 4, nameIndex := 5, descriptorIndex := 6, attributes := #[] }] 1057 2 #[133] #[{ accessFlags := 132, nameIndex := 11, descriptorIndex := 12, attributes := #[] }])
  fields := #[{ name := "modCount", type := .int, accessFlags := 132, slot := 0, constantValue := 0 }]
  methods := #[k9m0]
  instanceTypes := #[.int]
  staticTypes := #[]
  resolved := Array.replicate 218 none
  statics := none }

def pool10 : Array CpInfo := pool [(1, .class_ 2), (0, u "java/util/RandomAccess"), (0, .class_ 4), (0, u "java/lang/Object")] 2

/-- java/util/RandomAccess -/
def k10 : Class := { plain "java/util/RandomAccess" (some 0) with
  accessFlags := 1537
  interfaces := #[]
  cf := some (fileOf pool10 1 #[] #[] 1537 3 #[] #[])
  fields := #[]
  methods := #[]
  instanceTypes := #[]
  staticTypes := #[]
  resolved := Array.replicate 7 none
  statics := none }

def pool11 : Array CpInfo := pool [(1, .class_ 2), (0, u "java/lang/Cloneable"), (0, .class_ 4), (0, u "java/lang/Object")] 2

/-- java/lang/Cloneable -/
def k11 : Class := { plain "java/lang/Cloneable" (some 0) with
  accessFlags := 1537
  interfaces := #[]
  cf := some (fileOf pool11 1 #[] #[] 1537 3 #[] #[])
  fields := #[]
  methods := #[]
  instanceTypes := #[]
  staticTypes := #[]
  resolved := Array.replicate 7 none
  statics := none }

def pool12 : Array CpInfo := pool [(1, .class_ 2), (0, u "java/io/Serializable"), (0, .class_ 4), (0, u "java/lang/Object")] 2

/-- java/io/Serializable -/
def k12 : Class := { plain "java/io/Serializable" (some 0) with
  accessFlags := 1537
  interfaces := #[]
  cf := some (fileOf pool12 1 #[] #[] 1537 3 #[] #[])
  fields := #[]
  methods := #[]
  instanceTypes := #[]
  staticTypes := #[]
  resolved := Array.replicate 7 none
  statics := none }

def pool13 : Array CpInfo := pool [(1, .methodref 2 3), (0, .class_ 4), (0, .nameAndType 5 6), (0, u "java/util/AbstractList"), (0, u "<init>"), (0, u "()V"), (0, .class_ 8), (0, u "java/lang/Object"), (0, .fieldref 10 11), (0, .class_ 12), (0, .nameAndType 13 14), (0, u "java/util/ArrayList"), (0, u "elementData"), (0, u "[Ljava/lang/Object;"), (2, u "EMPTY_ELEMENTDATA"), (21, .fieldref 10 40), (0, .nameAndType 41 14), (0, u "DEFAULTCAPACITY_EMPTY_ELEMENTDATA"), (5, u "()[Ljava/lang/Object;"), (0, .fieldref 10 49), (0, .nameAndType 50 51), (0, u "size"), (0, u "I"), (11, .fieldref 10 64), (0, .nameAndType 65 51), (0, u "modCount"), (3, .methodref 10 70), (0, .nameAndType 71 72), (0, u "grow"), (0, u "(I)[Ljava/lang/Object;"), (6, .methodref 80 81), (0, .class_ 82), (0, .nameAndType 83 84), (0, u "java/lang/Math"), (0, u "max"), (0, u "(II)I"), (11, u "(Ljava/lang/Object;)Z"), (21, .methodref 119 120), (0, .class_ 121), (0, .nameAndType 122 84), (0, u "java/util/Objects"), (0, u "checkIndex"), (0, .methodref 10 124), (0, .nameAndType 13 125), (0, u "(I)Ljava/lang/Object;"), (3, .methodref 10 130), (0, .nameAndType 71 47), (0, .methodref 10 132), (0, .nameAndType 133 134), (0, u "add"), (0, u "(Ljava/lang/Object;[Ljava/lang/Object;I)V"), (13, .class_ 149), (0, u "java/util/List"), (36, u "()I"), (75, .class_ 263), (0, u "java/util/ArrayList$ListItr"), (3, .class_ 268), (0, u "java/util/ArrayList$Itr"), (7, .class_ 277), (0, u "java/util/ArrayList$SubList"), (12, .class_ 291), (0, u "java/util/ArrayList$ArrayListSpliterator"), (37, .class_ 330), (0, u "java/util/RandomAccess"), (0, .class_ 332), (0, u "java/lang/Cloneable"), (0, .class_ 334), (0, u "java/io/Serializable"), (0, u "serialVersionUID"), (0, u "J"), (3, u "DEFAULT_CAPACITY"), (40, u "get"), (118, .class_ 501), (0, u "java/util/ArrayList$SubList$2"), (0, .class_ 503), (0, u "java/util/ArrayList$SubList$1")] 5

def k13c0 : Code := { maxStack := 2, maxLocals := 1, code := jdk_38_method_2_code, exceptionTable := #[], attributes := #[] }
def k13m0 : Method := { name := "<init>", desc := "()V", sig := { parameters := [], returnType := none }, accessFlags := 1, code := some k13c0 }
def k13c1 : Code := { maxStack := 4, maxLocals := 4, code := jdk_38_method_6_code, exceptionTable := #[], attributes := #[] }
def k13m1 : Method := { name := "grow", desc := "(I)[Ljava/lang/Object;", sig := { parameters := [.int], returnType := some (.array (.object "java/lang/Object")) }, accessFlags := 2, code := some k13c1 }
def k13c2 : Code := { maxStack := 3, maxLocals := 1, code := jdk_38_method_7_code, exceptionTable := #[], attributes := #[] }
def k13m2 : Method := { name := "grow", desc := "()[Ljava/lang/Object;", sig := { parameters := [], returnType := some (.array (.object "java/lang/Object")) }, accessFlags := 2, code := some k13c2 }
def k13c3 : Code := { maxStack := 1, maxLocals := 1, code := jdk_38_method_8_code, exceptionTable := #[], attributes := #[] }
def k13m3 : Method := { name := "size", desc := "()I", sig := { parameters := [], returnType := some .int }, accessFlags := 1, code := some k13c3 }
def k13c4 : Code := { maxStack := 2, maxLocals := 2, code := jdk_38_method_18_code, exceptionTable := #[], attributes := #[] }
def k13m4 : Method := { name := "elementData", desc := "(I)Ljava/lang/Object;", sig := { parameters := [.int], returnType := some (.object "java/lang/Object") }, accessFlags := 0, code := some k13c4 }
def k13c5 : Code := { maxStack := 2, maxLocals := 2, code := jdk_38_method_20_code, exceptionTable := #[], attributes := #[] }
def k13m5 : Method := { name := "get", desc := "(I)Ljava/lang/Object;", sig := { parameters := [.int], returnType := some (.object "java/lang/Object") }, accessFlags := 1, code := some k13c5 }
def k13c6 : Code := { maxStack := 3, maxLocals := 4, code := jdk_38_method_24_code, exceptionTable := #[], attributes := #[] }
def k13m6 : Method := { name := "add", desc := "(Ljava/lang/Object;[Ljava/lang/Object;I)V", sig := { parameters := [(.object "java/lang/Object"), (.array (.object "java/lang/Object")), .int], returnType := none }, accessFlags := 2, code := some k13c6 }
def k13c7 : Code := { maxStack := 4, maxLocals := 2, code := jdk_38_method_25_code, exceptionTable := #[], attributes := #[] }
def k13m7 : Method := { name := "add", desc := "(Ljava/lang/Object;)Z", sig := { parameters := [(.object "java/lang/Object")], returnType := some .boolean }, accessFlags := 1, code := some k13c7 }
/-- java/util/ArrayList -/
def k13 : Class := { plain "java/util/ArrayList" (some 9) with
  accessFlags := 33
  interfaces := #[8, 10, 11, 12]
  cf := some (fileOf pool13 10 #[.nestMembers #[290, 276, 500, 502, 262, 267]] #[{ accessFlags := 1, nameIndex := 5, descriptorIndex := 6, attributes := #[] }, { accessFlags := 2, nameIndex := 71, descriptorIndex := 72, attributes := #[] }, { accessFlags := 2, nameIndex := 71, descriptorIndex := 47, attributes := #[] }, { accessFlags := 1, nameIndex := 50, descriptorIndex := 186, attributes := #[] }, { accessFlags := 0, nameIndex := 13, descriptorIndex := 125, attributes := #[] }, { accessFlags := 1, nameIndex := 381, descriptorIndex := 125, attributes := #[] }, { accessFlags := 2, nameIndex := 133, descriptorIndex := 134, attributes := #[] }, { accessFlags := 1, nameIndex := 133, descriptorIndex := 96, attributes := #[] }] 33 2 #[148, 329, 331, 333] #[{ accessFlags := 26, nameIndex := 335, descriptorIndex := 336, attributes := #[] }, { accessFlags := 26, nameIndex := 340, descriptorIndex := 51, attributes := #[] }, { accessFlags := 26, nameIndex := 17, descriptorIndex := 14, attributes := #[] }, { accessFlags := 26, nameIndex := 41, descriptorIndex := 14, attributes := #[] }, { accessFlags := 128, nameIndex := 13, descriptorIndex := 14, attributes := #[] }, { accessFlags := 2, nameIndex := 50, descriptorIndex := 51, attributes := #[] }])
  fields := #[{ name := "serialVersionUID", type := .long, accessFlags := 26, slot := 0, constantValue := 0 }, { name := "DEFAULT_CAPACITY", type := .int, accessFlags := 26, slot := 1, constantValue := 0 }, { name := "EMPTY_ELEMENTDATA", type := (.array (.object "java/lang/Object")), accessFlags := 26, slot := 2, constantValue := 0 }, { name := "DEFAULTCAPACITY_EMPTY_ELEMENTDATA", type := (.array (.object "java/lang/Object")), accessFlags := 26, slot := 3, constantValue := 0 }, { name := "elementData", type := (.array (.object "java/lang/Object")), accessFlags := 128, slot := 1, constantValue := 0 }, { name := "size", type := .int, accessFlags := 2, slot := 2, constantValue := 0 }]
  methods := #[k13m0, k13m1, k13m2, k13m3, k13m4, k13m5, k13m6, k13m7]
  instanceTypes := #[.int, (.array (.object "java/lang/Object")), .int]
  staticTypes := #[.long, .int, (.array (.object "java/lang/Object")), (.array (.object "java/lang/Object"))]
  resolved := Array.replicate 509 none
  statics := some 0 }

def pool14 : Array CpInfo := pool [(1, .class_ 2), (0, u "java/lang/Math"), (1, .class_ 6), (1, u "java/lang/Object"), (0, u "<init>"), (0, u "()V"), (89, .class_ 100), (1, u "java/lang/Math$RandomNumberGeneratorHolder"), (71, u "negativeZeroFloatBits"), (0, u "J"), (2, u "negativeZeroDoubleBits"), (21, u "max"), (46, u "$assertionsDisabled"), (0, u "Z"), (88, u "(II)I"), (2, u "twoToTheDoubleScaleDown"), (0, u "D"), (4, u "twoToTheDoubleScaleUp"), (9, u "E"), (3, u "PI"), (2, u "TAU"), (2, u "DEGREES_TO_RADIANS"), (0, u "RADIANS_TO_DEGREES")] 94

def k14m0 : Method := { name := "<init>", desc := "()V", sig := { parameters := [], returnType := none }, accessFlags := 2, code := none }
def k14c1 : Code := { maxStack := 2, maxLocals := 2, code := jdk_29_method_65_code, exceptionTable := #[], attributes := #[] }
def k14m1 : Method := { name := "max", desc := "(II)I", sig := { parameters := [.int, .int], returnType := some .int }, accessFlags := 9, code := some k14c1 }
/-- java/lang/Math -/
def k14 : Class := { plain "java/lang/Math" (some 0) with
  accessFlags := 49
  interfaces := #[]
  cf := some (fileOf pool14 1 #[.nestMembers #[98]] #[{ accessFlags := 2, nameIndex := 7, descriptorIndex := 8, attributes := #[] }, { accessFlags := 9, nameIndex := 198, descriptorIndex := 335, attributes := #[] }] 49 4 #[] #[{ accessFlags := 25, nameIndex := 354, descriptorIndex := 339, attributes := #[] }, { accessFlags := 25, nameIndex := 358, descriptorIndex := 339, attributes := #[] }, { accessFlags := 25, nameIndex := 361, descriptorIndex := 339, attributes := #[] }, { accessFlags := 26, nameIndex := 364, descriptorIndex := 339, attributes := #[] }, { accessFlags := 26, nameIndex := 365, descriptorIndex := 339, attributes := #[] }, { accessFlags := 26, nameIndex := 172, descriptorIndex := 173, attributes := #[] }, { accessFlags := 26, nameIndex := 176, descriptorIndex := 173, attributes := #[] }, { accessFlags := 8, nameIndex := 344, descriptorIndex := 339, attributes := #[] }, { accessFlags := 8, nameIndex := 338, descriptorIndex := 339, attributes := #[] }, { accessFlags := 4120, nameIndex := 245, descriptorIndex := 246, attributes := #[] }])
  fields := #[{ name := "E", type := .double, accessFlags := 25, slot := 0, constantValue := 0 }, { name := "PI", type := .double, accessFlags := 25, slot := 1, constantValue := 0 }, { name := "TAU", type := .double, accessFlags := 25, slot := 2, constantValue := 0 }, { name := "DEGREES_TO_RADIANS", type := .double, accessFlags := 26, slot := 3, constantValue := 0 }, { name := "RADIANS_TO_DEGREES", type := .double, accessFlags := 26, slot := 4, constantValue := 0 }, { name := "negativeZeroFloatBits", type := .long, accessFlags := 26, slot := 5, constantValue := 0 }, { name := "negativeZeroDoubleBits", type := .long, accessFlags := 26, slot := 6, constantValue := 0 }, { name := "twoToTheDoubleScaleUp", type := .double, accessFlags := 8, slot := 7, constantValue := 0 }, { name := "twoToTheDoubleScaleDown", type := .double, accessFlags := 8, slot := 8, constantValue := 0 }, { name := "$assertionsDisabled", type := .boolean, accessFlags := 4120, slot := 9, constantValue := 0 }]
  methods := #[k14m0, k14m1]
  instanceTypes := #[]
  staticTypes := #[.double, .double, .double, .double, .double, .long, .long, .double, .double, .boolean]
  resolved := Array.replicate 460 none
  statics := none }

def pool15 : Array CpInfo := pool [(1, .methodref 2 3), (0, .class_ 4), (0, .nameAndType 5 6), (0, u "java/lang/Record"), (0, u "<init>"), (0, u "()V"), (0, .fieldref 8 9), (0, .class_ 10), (0, .nameAndType 11 12), (0, u "com/example/bindspire/bindspire/Overloads$Choice"), (0, u "phase"), (0, u "Lcom/example/bindspire/bindspire/Overloads$Phase;"), (0, .fieldref 8 14), (0, .nameAndType 15 16), (0, u "applicable"), (0, u "Ljava/util/List;"), (0, .fieldref 8 18), (0, .nameAndType 19 16), (0, u "maximal"), (0, .interfaceMethodref 21 22), (0, .class_ 23), (0, .nameAndType 24 25), (0, u "java/util/List"), (0, u "size"), (0, u "()I"), (0, .interfaceMethodref 21 27), (0, .nameAndType 28 29), (0, u "get"), (0, u "(I)Ljava/lang/Object;"), (0, .class_ 31), (0, u "com/example/bindspire/bindspire/Overloads$Candidate"), (14, u "(Lcom/example/bindspire/bindspire/Overloads$Phase;Ljava/util/List;Ljava/util/List;)V"), (4, u "chosen"), (0, u "()Lcom/example/bindspire/bindspire/Overloads$Candidate;"), (4, u "()Ljava/util/List;"), (4, .class_ 63), (0, u "com/example/bindspire/bindspire/Overloads")] 25

def k15c0 : Code := { maxStack := 2, maxLocals := 4, code := prog_27_method_1_code, exceptionTable := #[], attributes := #[] }
def k15m0 : Method := { name := "<init>", desc := "(Lcom/example/bindspire/bindspire/Overloads$Phase;Ljava/util/List;Ljava/util/List;)V", sig := { parameters := [(.object "com/example/bindspire/bindspire/Overloads$Phase"), (.object "java/util/List"), (.object "java/util/List")], returnType := none }, accessFlags := 0, code := some k15c0 }
def k15c1 : Code := { maxStack := 2, maxLocals := 1, code := prog_27_method_2_code, exceptionTable := #[], attributes := #[] }
def k15m1 : Method := { name := "chosen", desc := "()Lcom/example/bindspire/bindspire/Overloads$Candidate;", sig := { parameters := [], returnType := some (.object "com/example/bindspire/bindspire/Overloads$Candidate") }, accessFlags := 0, code := some k15c1 }
def k15c2 : Code := { maxStack := 1, maxLocals := 1, code := prog_27_method_8_code, exceptionTable := #[], attributes := #[] }
def k15m2 : Method := { name := "maximal", desc := "()Ljava/util/List;", sig := { parameters := [], returnType := some (.object "java/util/List") }, accessFlags := 1, code := some k15c2 }
/-- com/example/bindspire/bindspire/Overloads$Choice -/
def k15 : Class := { plain "com/example/bindspire/bindspire/Overloads$Choice" (some 2) with
  accessFlags := 48
  interfaces := #[]
  cf := some (fileOf pool15 8 #[.nestHost 62] #[{ accessFlags := 0, nameIndex := 5, descriptorIndex := 46, attributes := #[] }, { accessFlags := 0, nameIndex := 51, descriptorIndex := 52, attributes := #[] }, { accessFlags := 1, nameIndex := 19, descriptorIndex := 57, attributes := #[] }] 48 2 #[] #[{ accessFlags := 18, nameIndex := 11, descriptorIndex := 12, attributes := #[] }, { accessFlags := 18, nameIndex := 15, descriptorIndex := 16, attributes := #[] }, { accessFlags := 18, nameIndex := 19, descriptorIndex := 16, attributes := #[] }])
  fields := #[{ name := "phase", type := (.object "com/example/bindspire/bindspire/Overloads$Phase"), accessFlags := 18, slot := 0, constantValue := 0 }, { name := "applicable", type := (.object "java/util/List"), accessFlags := 18, slot := 1, constantValue := 0 }, { name := "maximal", type := (.object "java/util/List"), accessFlags := 18, slot := 2, constantValue := 0 }]
  methods := #[k15m0, k15m1, k15m2]
  instanceTypes := #[(.object "com/example/bindspire/bindspire/Overloads$Phase"), (.object "java/util/List"), (.object "java/util/List")]
  staticTypes := #[]
  resolved := Array.replicate 89 none
  statics := none }

def pool16 : Array CpInfo := pool [(1, .class_ 2), (0, u "java/lang/constant/Constable"), (0, .class_ 4), (0, u "java/lang/Object")] 6

/-- java/lang/constant/Constable -/
def k16 : Class := { plain "java/lang/constant/Constable" (some 0) with
  accessFlags := 1537
  interfaces := #[]
  cf := some (fileOf pool16 1 #[] #[] 1537 3 #[] #[])
  fields := #[]
  methods := #[]
  instanceTypes := #[]
  staticTypes := #[]
  resolved := Array.replicate 11 none
  statics := none }

def pool17 : Array CpInfo := pool [(1, .class_ 2), (0, u "java/lang/Comparable"), (0, .class_ 4), (0, u "java/lang/Object")] 7

/-- java/lang/Comparable -/
def k17 : Class := { plain "java/lang/Comparable" (some 0) with
  accessFlags := 1537
  interfaces := #[]
  cf := some (fileOf pool17 1 #[] #[] 1537 3 #[] #[])
  fields := #[]
  methods := #[]
  instanceTypes := #[]
  staticTypes := #[]
  resolved := Array.replicate 12 none
  statics := none }

def pool18 : Array CpInfo := pool [(2, .class_ 4), (1, u "java/lang/Enum"), (0, u "name"), (0, u "Ljava/lang/String;"), (2, u "ordinal"), (0, u "I"), (1, .class_ 14), (1, u "java/lang/Object"), (4, u "hash"), (86, .class_ 108), (1, u "java/lang/Enum$EnumDesc"), (2, .class_ 112), (0, u "java/lang/constant/Constable"), (0, .class_ 114), (0, u "java/lang/Comparable"), (0, .class_ 116), (0, u "java/io/Serializable")] 87

/-- java/lang/Enum -/
def k18 : Class := { plain "java/lang/Enum" (some 0) with
  accessFlags := 1057
  interfaces := #[16, 17, 12]
  cf := some (fileOf pool18 2 #[.nestMembers #[106]] #[] 1057 12 #[111, 113, 115] #[{ accessFlags := 18, nameIndex := 5, descriptorIndex := 6, attributes := #[] }, { accessFlags := 18, nameIndex := 9, descriptorIndex := 10, attributes := #[] }, { accessFlags := 2, nameIndex := 19, descriptorIndex := 10, attributes := #[] }])
  fields := #[{ name := "name", type := (.object "java/lang/String"), accessFlags := 18, slot := 0, constantValue := 0 }, { name := "ordinal", type := .int, accessFlags := 18, slot := 1, constantValue := 0 }, { name := "hash", type := .int, accessFlags := 2, slot := 2, constantValue := 0 }]
  methods := #[]
  instanceTypes := #[(.object "java/lang/String"), .int, .int]
  staticTypes := #[]
  resolved := Array.replicate 204 none
  statics := none }

def pool19 : Array CpInfo := pool [(1, .class_ 2), (0, u "com/example/bindspire/bindspire/Overloads$Phase"), (2, u "STRICT"), (0, u "Lcom/example/bindspire/bindspire/Overloads$Phase;"), (2, u "LOOSE"), (2, u "VARIABLE_ARITY"), (2, u "$VALUES"), (0, u "[Lcom/example/bindspire/bindspire/Overloads$Phase;"), (6, .class_ 25), (1, u "java/lang/Enum"), (8, u "means"), (0, u "Ljava/lang/String;"), (29, .class_ 66), (0, u "com/example/bindspire/bindspire/Overloads")] 2

/-- com/example/bindspire/bindspire/Overloads$Phase -/
def k19 : Class := { plain "com/example/bindspire/bindspire/Overloads$Phase" (some 18) with
  accessFlags := 16432
  interfaces := #[]
  cf := some (fileOf pool19 1 #[.nestHost 65] #[] 16432 23 #[] #[{ accessFlags := 16409, nameIndex := 5, descriptorIndex := 6, attributes := #[] }, { accessFlags := 16409, nameIndex := 9, descriptorIndex := 6, attributes := #[] }, { accessFlags := 16409, nameIndex := 12, descriptorIndex := 6, attributes := #[] }, { accessFlags := 18, nameIndex := 34, descriptorIndex := 35, attributes := #[] }, { accessFlags := 4122, nameIndex := 15, descriptorIndex := 16, attributes := #[] }])
  fields := #[{ name := "STRICT", type := (.object "com/example/bindspire/bindspire/Overloads$Phase"), accessFlags := 16409, slot := 0, constantValue := 0 }, { name := "LOOSE", type := (.object "com/example/bindspire/bindspire/Overloads$Phase"), accessFlags := 16409, slot := 1, constantValue := 0 }, { name := "VARIABLE_ARITY", type := (.object "com/example/bindspire/bindspire/Overloads$Phase"), accessFlags := 16409, slot := 2, constantValue := 0 }, { name := "means", type := (.object "java/lang/String"), accessFlags := 18, slot := 3, constantValue := 0 }, { name := "$VALUES", type := (.array (.object "com/example/bindspire/bindspire/Overloads$Phase")), accessFlags := 4122, slot := 3, constantValue := 0 }]
  methods := #[]
  instanceTypes := #[(.object "java/lang/String"), .int, .int, (.object "java/lang/String")]
  staticTypes := #[(.object "com/example/bindspire/bindspire/Overloads$Phase"), (.object "com/example/bindspire/bindspire/Overloads$Phase"), (.object "com/example/bindspire/bindspire/Overloads$Phase"), (.array (.object "com/example/bindspire/bindspire/Overloads$Phase"))]
  resolved := Array.replicate 69 none
  statics := some 1 }

def pool20 : Array CpInfo := pool [(2, .class_ 4), (1, u "java/lang/Object"), (0, u "<init>"), (0, u "()V"), (35, .class_ 44), (1, u "java/util/Objects"), (60, .methodref 106 107), (0, .class_ 108), (0, .nameAndType 109 110), (0, u "jdk/internal/util/Preconditions"), (0, u "checkIndex"), (0, u "(IILjava/util/function/BiFunction;)I"), (60, u "(II)I")] 12

def k20m0 : Method := { name := "<init>", desc := "()V", sig := { parameters := [], returnType := none }, accessFlags := 2, code := none }
def k20c1 : Code := { maxStack := 3, maxLocals := 2, code := jdk_31_method_17_code, exceptionTable := #[], attributes := #[] }
def k20m1 : Method := { name := "checkIndex", desc := "(II)I", sig := { parameters := [.int, .int], returnType := some .int }, accessFlags := 9, code := some k20c1 }
/-- java/util/Objects -/
def k20 : Class := { plain "java/util/Objects" (some 0) with
  accessFlags := 49
  interfaces := #[]
  cf := some (fileOf pool20 42 #[] #[{ accessFlags := 2, nameIndex := 5, descriptorIndex := 6, attributes := #[] }, { accessFlags := 9, nameIndex := 109, descriptorIndex := 171, attributes := #[] }] 49 2 #[] #[])
  fields := #[]
  methods := #[k20m0, k20m1]
  instanceTypes := #[]
  staticTypes := #[]
  resolved := Array.replicate 184 none
  statics := none }

def pool21 : Array CpInfo := pool [(2, .class_ 4), (1, u "java/lang/Object"), (0, u "<init>"), (0, u "()V"), (17, .class_ 26), (1, u "jdk/internal/util/Preconditions"), (6, u "checkIndex"), (21, .class_ 56), (0, u "jdk/internal/util/Preconditions$4"), (57, .class_ 115), (0, u "jdk/internal/util/Preconditions$1"), (7, u "SIOOBE_FORMATTER"), (0, u "Ljava/util/function/BiFunction;"), (0, .class_ 126), (0, u "jdk/internal/util/Preconditions$2"), (3, u "AIOOBE_FORMATTER"), (0, .class_ 132), (0, u "jdk/internal/util/Preconditions$3"), (3, u "IOOBE_FORMATTER"), (41, u "(IILjava/util/function/BiFunction;)I")] 15

def k21m0 : Method := { name := "<init>", desc := "()V", sig := { parameters := [], returnType := none }, accessFlags := 1, code := none }
def k21c1 : Code := { maxStack := 3, maxLocals := 3, code := jdk_41_method_11_code, exceptionTable := #[], attributes := #[] }
def k21m1 : Method := { name := "checkIndex", desc := "(IILjava/util/function/BiFunction;)I", sig := { parameters := [.int, .int, (.object "java/util/function/BiFunction")], returnType := some .int }, accessFlags := 9, code := some k21c1 }
/-- jdk/internal/util/Preconditions -/
def k21 : Class := { plain "jdk/internal/util/Preconditions" (some 0) with
  accessFlags := 33
  interfaces := #[]
  cf := some (fileOf pool21 24 #[.nestMembers #[55, 131, 125, 114]] #[{ accessFlags := 1, nameIndex := 5, descriptorIndex := 6, attributes := #[] }, { accessFlags := 9, nameIndex := 33, descriptorIndex := 178, attributes := #[] }] 33 2 #[] #[{ accessFlags := 25, nameIndex := 123, descriptorIndex := 124, attributes := #[] }, { accessFlags := 25, nameIndex := 130, descriptorIndex := 124, attributes := #[] }, { accessFlags := 25, nameIndex := 136, descriptorIndex := 124, attributes := #[] }])
  fields := #[{ name := "SIOOBE_FORMATTER", type := (.object "java/util/function/BiFunction"), accessFlags := 25, slot := 0, constantValue := 0 }, { name := "AIOOBE_FORMATTER", type := (.object "java/util/function/BiFunction"), accessFlags := 25, slot := 1, constantValue := 0 }, { name := "IOOBE_FORMATTER", type := (.object "java/util/function/BiFunction"), accessFlags := 25, slot := 2, constantValue := 0 }]
  methods := #[k21m0, k21m1]
  instanceTypes := #[]
  staticTypes := #[(.object "java/util/function/BiFunction"), (.object "java/util/function/BiFunction"), (.object "java/util/function/BiFunction")]
  resolved := Array.replicate 194 none
  statics := none }

/-- the primitive byte -/
def k22 : Class := { plain "byte" none with kind := .primitive 'B', accessFlags := 0x411 }
/-- [B -/
def k23 : Class := { plain "[B" (some 0) with kind := .array 22 .byte, interfaces := #[11, 12], accessFlags := 1041 }

/-- the primitive int -/
def k24 : Class := { plain "int" none with kind := .primitive 'I', accessFlags := 0x411 }
/-- [I -/
def k25 : Class := { plain "[I" (some 0) with kind := .array 24 .int, interfaces := #[11, 12], accessFlags := 1041 }

/-- [Ljava/lang/Object; -/
def k26 : Class := { plain "[Ljava/lang/Object;" (some 0) with kind := .array 0 (.object "java/lang/Object"), interfaces := #[11, 12], accessFlags := 1041 }

def heap : Heap := #[{ cls := 13, slots := #[.long 0, .int 0, .ref 5, .ref 6], vm := .statics 13 },
  { cls := 19, slots := #[.ref 2, .ref 4, .ref 3, .null], vm := .statics 19 },
  { cls := 19, slots := #[.null, .int 0, .int 0, .null], vm := .none },
  { cls := 19, slots := #[.null, .int 1, .int 0, .null], vm := .none },
  { cls := 19, slots := #[.null, .int 2, .int 0, .null], vm := .none },
  { cls := 26, slots := #[], vm := .none },
  { cls := 26, slots := #[], vm := .none }]
def classes : Array Class := #[k0, k1, k2, k3, k4, k5, k6, k7, k8, k9, k10, k11, k12, k13, k14, k15, k16, k17, k18, k19, k20, k21, k22, k23, k24, k25, k26]
def interned : List (Array UInt16 × Addr) := []
def slotsUsed : Nat := 20
def theMethod : MethodId := ⟨1, 1⟩
def args0 : Array Value := #[.int 1, .int 2, .int 3]
def aboutOver (below : List Frame) : State where
  vm := { classes := classes, interned := interned.toArray }
  heap := heap
  slotsUsed := slotsUsed
  threads := #[{ frames := .invoking theMethod args0 :: below }]
def below0 : List Frame := [.native { method := ⟨0, 0⟩, args := #[] }]
def about1 : State := aboutOver below0
def p0 : Program := .bare "" "" ""
def e0 : Env := launch0.env 0 0 0
theorem w_frames : about1.frames = Frame.invoking theMethod args0 :: below0 := rfl
set_option maxRecDepth 65536 in
theorem w_args : argsFit about1.vm theMethod args0 = true := by decide +kernel
set_option maxRecDepth 65536 in
theorem w_heap : heapFits about1 = true := by decide +kernel
set_option maxRecDepth 65536 in
theorem w_runnable : about1.curStatus? = some .runnable := by decide +kernel
set_option maxRecDepth 65536 in
theorem w_alone : about1.alone = true := by decide +kernel
set_option maxRecDepth 65536 in
theorem w_named : about1.methodNamed? x = some theMethod := by decide +kernel
set_option maxRecDepth 65536 in
theorem w_hears : about1.hears theMethod below0 = true := by decide +kernel
set_option maxRecDepth 65536 in
theorem w_ripe : about1.ripe theMethod args0 below0 = true := by decide +kernel
theorem w_running : about1.status = .running := rfl
set_option maxRecDepth 65536 in
theorem w_room : about1.hasRoom e0.platform room_1 = true :=
  launch0.hasRoom_least _ room_1 (by decide +kernel) (by decide +kernel) (by decide +kernel) (by decide +kernel) (by decide +kernel) (by decide +kernel)
theorem allAtoms_all (ts : List Jvm.Cond) (a : Array Jvm.Value) (st : Jvm.State) : (allAtoms ts).before a st = ts.all (fun c => c.before a st) := by
  induction ts with
  | nil => rfl
  | cons c t ih =>
    show (Jvm.Cond.and c (allAtoms t)).before a st = _
    rw [Jvm.Cond.before_and, ih, List.all_cons]
def words1 : List Jvm.Cond := Jvm.Cond.code x code maxLocals ret :: tables_1
/-- a 'code' word, met by the world's own term for the bytes: nothing is compared byte by byte -/
theorem code_word {y : MethodName} {bytes : ByteArray} {mx : Nat} {rt : Option FieldType} {a : Array Value} {s : State} {m : MethodId} {meth : Method} {c : Code} (h1 : s.methodNamed? y = some m) (h2 : s.vm.method? m = some meth) (h3 : meth.code = some c) (h4 : c.code = bytes)
    (h5 : (c.maxLocals == mx && c.exceptionTable.isEmpty && decide (c.maxStack ≤ mostOperands) && decide (meth.sig.returnType = rt) && !meth.locks && decide (parseMethodDescriptor y.desc = some meth.sig)) = true) : (Jvm.Cond.code y bytes mx rt).before a s = true := by
  simp only [Bool.and_eq_true, beq_iff_eq, Bool.not_eq_true', decide_eq_true_eq] at h5
  obtain ⟨⟨⟨⟨⟨g1, g2⟩, g3⟩, g4⟩, g5⟩, g6⟩ := h5
  simp [Cond.before, Cond.holds, Cond.value, h1, h2, h3, h4, g1, g2, g3, g4, g5, g6]
def isCode : Jvm.Cond → Bool
  | .code _ _ _ _ => true
  | _ => false
theorem all_split {L : List Jvm.Cond} {P : Jvm.Cond → Bool} (h1 : L.all (fun c => isCode c || P c) = true) (h2 : ∀ c ∈ L.filter isCode, P c = true) : L.all P = true := by
  refine List.all_eq_true.mpr fun c hc => ?_
  have h := List.all_eq_true.mp h1 c hc
  rcases Bool.eq_false_or_eq_true (isCode c) with hi | hi
  · exact h2 c (List.mem_filter.mpr ⟨hc, hi⟩)
  · simpa [hi] using h
set_option maxRecDepth 65536 in
theorem w_c0 : (Jvm.Cond.code x code maxLocals ret).before args0 about1 = true := code_word (m := ⟨1, 1⟩) (meth := k1m1) (c := k1c1) (by decide +kernel) rfl rfl rfl (by decide +kernel)
set_option maxRecDepth 65536 in
theorem w_c1 : (Jvm.Cond.code ({ cls := "com/example/bindspire/bindspire/Overloads$Candidate", name := "<init>", desc := "(Ljava/lang/reflect/Executable;Ljava/util/List;)V" } : Jvm.MethodName) prog_26_method_1_code (3 : Nat) (Option.none : Option Jvm.ClassFile.FieldType)).before args0 about1 = true := code_word (m := ⟨3, 0⟩) (meth := k3m0) (c := k3c0) (by decide +kernel) rfl rfl rfl (by decide +kernel)
set_option maxRecDepth 65536 in
theorem w_c2 : (Jvm.Cond.code ({ cls := "java/lang/Record", name := "<init>", desc := "()V" } : Jvm.MethodName) jdk_30_method_1_code (1 : Nat) (Option.none : Option Jvm.ClassFile.FieldType)).before args0 about1 = true := code_word (m := ⟨2, 0⟩) (meth := k2m0) (c := k2c0) (by decide +kernel) rfl rfl rfl (by decide +kernel)
set_option maxRecDepth 65536 in
theorem w_c3 : (Jvm.Cond.code ({ cls := "java/lang/Object", name := "<init>", desc := "()V" } : Jvm.MethodName) object_method_1_code (1 : Nat) (Option.none : Option Jvm.ClassFile.FieldType)).before args0 about1 = true := code_word (m := ⟨0, 0⟩) (meth := k0m0) (c := k0c0) (by decide +kernel) rfl rfl rfl (by decide +kernel)
set_option maxRecDepth 65536 in
theorem w_c4 : (Jvm.Cond.code ({ cls := "java/util/ArrayList", name := "<init>", desc := "()V" } : Jvm.MethodName) jdk_38_method_2_code (1 : Nat) (Option.none : Option Jvm.ClassFile.FieldType)).before args0 about1 = true := code_word (m := ⟨13, 0⟩) (meth := k13m0) (c := k13c0) (by decide +kernel) rfl rfl rfl (by decide +kernel)
set_option maxRecDepth 65536 in
theorem w_c5 : (Jvm.Cond.code ({ cls := "java/util/AbstractList", name := "<init>", desc := "()V" } : Jvm.MethodName) jdk_39_method_1_code (1 : Nat) (Option.none : Option Jvm.ClassFile.FieldType)).before args0 about1 = true := code_word (m := ⟨9, 0⟩) (meth := k9m0) (c := k9c0) (by decide +kernel) rfl rfl rfl (by decide +kernel)
set_option maxRecDepth 65536 in
theorem w_c6 : (Jvm.Cond.code ({ cls := "java/util/AbstractCollection", name := "<init>", desc := "()V" } : Jvm.MethodName) jdk_22_method_1_code (1 : Nat) (Option.none : Option Jvm.ClassFile.FieldType)).before args0 about1 = true := code_word (m := ⟨6, 0⟩) (meth := k6m0) (c := k6c0) (by decide +kernel) rfl rfl rfl (by decide +kernel)
set_option maxRecDepth 65536 in
theorem w_c7 : (Jvm.Cond.code ({ cls := "java/util/ArrayList", name := "add", desc := "(Ljava/lang/Object;)Z" } : Jvm.MethodName) jdk_38_method_25_code (2 : Nat) (Option.some Jvm.ClassFile.FieldType.boolean)).before args0 about1 = true := code_word (m := ⟨13, 7⟩) (meth := k13m7) (c := k13c7) (by decide +kernel) rfl rfl rfl (by decide +kernel)
set_option maxRecDepth 65536 in
theorem w_c8 : (Jvm.Cond.code ({ cls := "java/util/ArrayList", name := "add", desc := "(Ljava/lang/Object;[Ljava/lang/Object;I)V" } : Jvm.MethodName) jdk_38_method_24_code (4 : Nat) (Option.none : Option Jvm.ClassFile.FieldType)).before args0 about1 = true := code_word (m := ⟨13, 6⟩) (meth := k13m6) (c := k13c6) (by decide +kernel) rfl rfl rfl (by decide +kernel)
set_option maxRecDepth 65536 in
theorem w_c9 : (Jvm.Cond.code ({ cls := "java/util/ArrayList", name := "grow", desc := "()[Ljava/lang/Object;" } : Jvm.MethodName) jdk_38_method_7_code (1 : Nat) (Option.some (Jvm.ClassFile.FieldType.array (Jvm.ClassFile.FieldType.object "java/lang/Object")))).before args0 about1 = true := code_word (m := ⟨13, 2⟩) (meth := k13m2) (c := k13c2) (by decide +kernel) rfl rfl rfl (by decide +kernel)
set_option maxRecDepth 65536 in
theorem w_c10 : (Jvm.Cond.code ({ cls := "java/util/ArrayList", name := "grow", desc := "(I)[Ljava/lang/Object;" } : Jvm.MethodName) jdk_38_method_6_code (4 : Nat) (Option.some (Jvm.ClassFile.FieldType.array (Jvm.ClassFile.FieldType.object "java/lang/Object")))).before args0 about1 = true := code_word (m := ⟨13, 1⟩) (meth := k13m1) (c := k13c1) (by decide +kernel) rfl rfl rfl (by decide +kernel)
set_option maxRecDepth 65536 in
theorem w_c11 : (Jvm.Cond.code ({ cls := "java/lang/Math", name := "max", desc := "(II)I" } : Jvm.MethodName) jdk_29_method_65_code (2 : Nat) (Option.some Jvm.ClassFile.FieldType.int)).before args0 about1 = true := code_word (m := ⟨14, 1⟩) (meth := k14m1) (c := k14c1) (by decide +kernel) rfl rfl rfl (by decide +kernel)
set_option maxRecDepth 65536 in
theorem w_c12 : (Jvm.Cond.code ({ cls := "com/example/bindspire/bindspire/Overloads$Choice", name := "<init>", desc := "(Lcom/example/bindspire/bindspire/Overloads$Phase;Ljava/util/List;Ljava/util/List;)V" } : Jvm.MethodName) prog_27_method_1_code (4 : Nat) (Option.none : Option Jvm.ClassFile.FieldType)).before args0 about1 = true := code_word (m := ⟨15, 0⟩) (meth := k15m0) (c := k15c0) (by decide +kernel) rfl rfl rfl (by decide +kernel)
set_option maxRecDepth 65536 in
theorem w_c13 : (Jvm.Cond.code ({ cls := "com/example/bindspire/bindspire/Overloads$Choice", name := "chosen", desc := "()Lcom/example/bindspire/bindspire/Overloads$Candidate;" } : Jvm.MethodName) prog_27_method_2_code (1 : Nat) (Option.some (Jvm.ClassFile.FieldType.object "com/example/bindspire/bindspire/Overloads$Candidate"))).before args0 about1 = true := code_word (m := ⟨15, 1⟩) (meth := k15m1) (c := k15c1) (by decide +kernel) rfl rfl rfl (by decide +kernel)
set_option maxRecDepth 65536 in
theorem w_c14 : (Jvm.Cond.code ({ cls := "java/util/ArrayList", name := "size", desc := "()I" } : Jvm.MethodName) jdk_38_method_8_code (1 : Nat) (Option.some Jvm.ClassFile.FieldType.int)).before args0 about1 = true := code_word (m := ⟨13, 3⟩) (meth := k13m3) (c := k13c3) (by decide +kernel) rfl rfl rfl (by decide +kernel)
set_option maxRecDepth 65536 in
theorem w_c15 : (Jvm.Cond.code ({ cls := "com/example/bindspire/bindspire/Overloads$Choice", name := "maximal", desc := "()Ljava/util/List;" } : Jvm.MethodName) prog_27_method_8_code (1 : Nat) (Option.some (Jvm.ClassFile.FieldType.object "java/util/List"))).before args0 about1 = true := code_word (m := ⟨15, 2⟩) (meth := k15m2) (c := k15c2) (by decide +kernel) rfl rfl rfl (by decide +kernel)
set_option maxRecDepth 65536 in
theorem w_c16 : (Jvm.Cond.code ({ cls := "java/util/ArrayList", name := "get", desc := "(I)Ljava/lang/Object;" } : Jvm.MethodName) jdk_38_method_20_code (2 : Nat) (Option.some (Jvm.ClassFile.FieldType.object "java/lang/Object"))).before args0 about1 = true := code_word (m := ⟨13, 5⟩) (meth := k13m5) (c := k13c5) (by decide +kernel) rfl rfl rfl (by decide +kernel)
set_option maxRecDepth 65536 in
theorem w_c17 : (Jvm.Cond.code ({ cls := "java/util/Objects", name := "checkIndex", desc := "(II)I" } : Jvm.MethodName) jdk_31_method_17_code (2 : Nat) (Option.some Jvm.ClassFile.FieldType.int)).before args0 about1 = true := code_word (m := ⟨20, 1⟩) (meth := k20m1) (c := k20c1) (by decide +kernel) rfl rfl rfl (by decide +kernel)
set_option maxRecDepth 65536 in
theorem w_c18 : (Jvm.Cond.code ({ cls := "jdk/internal/util/Preconditions", name := "checkIndex", desc := "(IILjava/util/function/BiFunction;)I" } : Jvm.MethodName) jdk_41_method_11_code (3 : Nat) (Option.some Jvm.ClassFile.FieldType.int)).before args0 about1 = true := code_word (m := ⟨21, 1⟩) (meth := k21m1) (c := k21c1) (by decide +kernel) rfl rfl rfl (by decide +kernel)
set_option maxRecDepth 65536 in
theorem w_c19 : (Jvm.Cond.code ({ cls := "java/util/ArrayList", name := "elementData", desc := "(I)Ljava/lang/Object;" } : Jvm.MethodName) jdk_38_method_18_code (2 : Nat) (Option.some (Jvm.ClassFile.FieldType.object "java/lang/Object"))).before args0 about1 = true := code_word (m := ⟨13, 4⟩) (meth := k13m4) (c := k13c4) (by decide +kernel) rfl rfl rfl (by decide +kernel)
def codes1 : List Jvm.Cond := [Jvm.Cond.code x code maxLocals ret, Jvm.Cond.code ({ cls := "com/example/bindspire/bindspire/Overloads$Candidate", name := "<init>", desc := "(Ljava/lang/reflect/Executable;Ljava/util/List;)V" } : Jvm.MethodName) prog_26_method_1_code (3 : Nat) (Option.none : Option Jvm.ClassFile.FieldType), Jvm.Cond.code ({ cls := "java/lang/Record", name := "<init>", desc := "()V" } : Jvm.MethodName) jdk_30_method_1_code (1 : Nat) (Option.none : Option Jvm.ClassFile.FieldType), Jvm.Cond.code ({ cls := "java/lang/Object", name := "<init>", desc := "()V" } : Jvm.MethodName) object_method_1_code (1 : Nat) (Option.none : Option Jvm.ClassFile.FieldType), Jvm.Cond.code ({ cls := "java/util/ArrayList", name := "<init>", desc := "()V" } : Jvm.MethodName) jdk_38_method_2_code (1 : Nat) (Option.none : Option Jvm.ClassFile.FieldType), Jvm.Cond.code ({ cls := "java/util/AbstractList", name := "<init>", desc := "()V" } : Jvm.MethodName) jdk_39_method_1_code (1 : Nat) (Option.none : Option Jvm.ClassFile.FieldType), Jvm.Cond.code ({ cls := "java/util/AbstractCollection", name := "<init>", desc := "()V" } : Jvm.MethodName) jdk_22_method_1_code (1 : Nat) (Option.none : Option Jvm.ClassFile.FieldType), Jvm.Cond.code ({ cls := "java/util/ArrayList", name := "add", desc := "(Ljava/lang/Object;)Z" } : Jvm.MethodName) jdk_38_method_25_code (2 : Nat) (Option.some Jvm.ClassFile.FieldType.boolean), Jvm.Cond.code ({ cls := "java/util/ArrayList", name := "add", desc := "(Ljava/lang/Object;[Ljava/lang/Object;I)V" } : Jvm.MethodName) jdk_38_method_24_code (4 : Nat) (Option.none : Option Jvm.ClassFile.FieldType), Jvm.Cond.code ({ cls := "java/util/ArrayList", name := "grow", desc := "()[Ljava/lang/Object;" } : Jvm.MethodName) jdk_38_method_7_code (1 : Nat) (Option.some (Jvm.ClassFile.FieldType.array (Jvm.ClassFile.FieldType.object "java/lang/Object"))), Jvm.Cond.code ({ cls := "java/util/ArrayList", name := "grow", desc := "(I)[Ljava/lang/Object;" } : Jvm.MethodName) jdk_38_method_6_code (4 : Nat) (Option.some (Jvm.ClassFile.FieldType.array (Jvm.ClassFile.FieldType.object "java/lang/Object"))), Jvm.Cond.code ({ cls := "java/lang/Math", name := "max", desc := "(II)I" } : Jvm.MethodName) jdk_29_method_65_code (2 : Nat) (Option.some Jvm.ClassFile.FieldType.int), Jvm.Cond.code ({ cls := "com/example/bindspire/bindspire/Overloads$Choice", name := "<init>", desc := "(Lcom/example/bindspire/bindspire/Overloads$Phase;Ljava/util/List;Ljava/util/List;)V" } : Jvm.MethodName) prog_27_method_1_code (4 : Nat) (Option.none : Option Jvm.ClassFile.FieldType), Jvm.Cond.code ({ cls := "com/example/bindspire/bindspire/Overloads$Choice", name := "chosen", desc := "()Lcom/example/bindspire/bindspire/Overloads$Candidate;" } : Jvm.MethodName) prog_27_method_2_code (1 : Nat) (Option.some (Jvm.ClassFile.FieldType.object "com/example/bindspire/bindspire/Overloads$Candidate")), Jvm.Cond.code ({ cls := "java/util/ArrayList", name := "size", desc := "()I" } : Jvm.MethodName) jdk_38_method_8_code (1 : Nat) (Option.some Jvm.ClassFile.FieldType.int), Jvm.Cond.code ({ cls := "com/example/bindspire/bindspire/Overloads$Choice", name := "maximal", desc := "()Ljava/util/List;" } : Jvm.MethodName) prog_27_method_8_code (1 : Nat) (Option.some (Jvm.ClassFile.FieldType.object "java/util/List")), Jvm.Cond.code ({ cls := "java/util/ArrayList", name := "get", desc := "(I)Ljava/lang/Object;" } : Jvm.MethodName) jdk_38_method_20_code (2 : Nat) (Option.some (Jvm.ClassFile.FieldType.object "java/lang/Object")), Jvm.Cond.code ({ cls := "java/util/Objects", name := "checkIndex", desc := "(II)I" } : Jvm.MethodName) jdk_31_method_17_code (2 : Nat) (Option.some Jvm.ClassFile.FieldType.int), Jvm.Cond.code ({ cls := "jdk/internal/util/Preconditions", name := "checkIndex", desc := "(IILjava/util/function/BiFunction;)I" } : Jvm.MethodName) jdk_41_method_11_code (3 : Nat) (Option.some Jvm.ClassFile.FieldType.int), Jvm.Cond.code ({ cls := "java/util/ArrayList", name := "elementData", desc := "(I)Ljava/lang/Object;" } : Jvm.MethodName) jdk_38_method_18_code (2 : Nat) (Option.some (Jvm.ClassFile.FieldType.object "java/lang/Object"))]
set_option maxRecDepth 65536 in
theorem codes_eq : words1.filter isCode = codes1 := rfl
theorem w_codes : ∀ c ∈ words1.filter isCode, c.before args0 about1 = true := by
  rw [codes_eq]
  intro c hc
  simp only [codes1, List.mem_cons, List.not_mem_nil, or_false] at hc
  rcases hc with rfl | rfl | rfl | rfl | rfl | rfl | rfl | rfl | rfl | rfl | rfl | rfl | rfl | rfl | rfl | rfl | rfl | rfl | rfl | rfl
  · exact w_c0
  · exact w_c1
  · exact w_c2
  · exact w_c3
  · exact w_c4
  · exact w_c5
  · exact w_c6
  · exact w_c7
  · exact w_c8
  · exact w_c9
  · exact w_c10
  · exact w_c11
  · exact w_c12
  · exact w_c13
  · exact w_c14
  · exact w_c15
  · exact w_c16
  · exact w_c17
  · exact w_c18
  · exact w_c19
set_option maxRecDepth 65536 in
theorem w_t1 : (words1.take 24).all (fun c => isCode c || c.before args0 about1) = true := by decide +kernel
set_option maxRecDepth 65536 in
theorem w_t2 : ((words1.drop 24).take 24).all (fun c => isCode c || c.before args0 about1) = true := by decide +kernel
set_option maxRecDepth 65536 in
theorem w_t3 : (((words1.drop 24).drop 24).take 24).all (fun c => isCode c || c.before args0 about1) = true := by decide +kernel
set_option maxRecDepth 65536 in
theorem w_t4 : ((((words1.drop 24).drop 24).drop 24).take 24).all (fun c => isCode c || c.before args0 about1) = true := by decide +kernel
set_option maxRecDepth 65536 in
theorem w_t5 : (((((words1.drop 24).drop 24).drop 24).drop 24).take 24).all (fun c => isCode c || c.before args0 about1) = true := by decide +kernel
set_option maxRecDepth 65536 in
theorem w_t6 : (((((words1.drop 24).drop 24).drop 24).drop 24).drop 24).all (fun c => isCode c || c.before args0 about1) = true := by decide +kernel
theorem w_tables : (allAtoms (Jvm.Cond.code x code maxLocals ret :: tables_1)).before args0 about1 = true := by
  rw [allAtoms_all]
  show words1.all (fun c => c.before args0 about1) = true
  refine all_split ?_ w_codes
  rw [← List.take_append_drop 24 words1, List.all_append, w_t1, ← List.take_append_drop 24 (words1.drop 24), List.all_append, w_t2, ← List.take_append_drop 24 ((words1.drop 24).drop 24), List.all_append, w_t3, ← List.take_append_drop 24 (((words1.drop 24).drop 24).drop 24), List.all_append, w_t4, ← List.take_append_drop 24 ((((words1.drop 24).drop 24).drop 24).drop 24), List.all_append, w_t5, w_t6]
  rfl
set_option maxRecDepth 65536 in
theorem w_rest : rest_1_c.before args0 about1 = true := by decide +kernel
set_option maxRecDepth 65536 in
theorem w_case : (Jvm.Cond.and given_1 narrow_1).before args0 about1 = true := by decide +kernel
theorem w_applies : (headSpec (Jvm.Cond.code x code maxLocals ret :: tables_1) room_1).applies x e0.platform about1 = true :=
  (Spec.applies_iff w_frames).mpr ⟨w_running, w_runnable, w_alone, w_named, w_hears, w_ripe, w_room, w_tables⟩
theorem atStart : AtStart classFile x code maxLocals ret World_1 tables_1 room_1 Calls_1 rest_1 Pre_1 launch0 p0 e0 about1 theMethod args0 below0 :=
  ⟨lists_1, trivial, launch0.admits_env _ _ _, launch0.least_env, fairChoices_fair.cas, fairChoices_fair.clock, w_frames, w_args, w_heap, w_applies, trivial, w_rest, w_case⟩
end start1
theorem witness_1 : WitnessClaimed_1 := ⟨start1.p0, start1.e0, start1.about1, start1.theMethod, start1.args0, start1.below0, start1.atStart⟩
end Jvm.Pilot.@@N@@
