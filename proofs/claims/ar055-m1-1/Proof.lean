import JvmDerived
import JvmDerived.Pilot.@@N@@Statement
import JvmDerived.Pilot.@@N@@Code
set_option linter.unusedVariables false
set_option linter.unusedSimpArgs false
namespace Jvm.RoadKit
open Sem ClassFile Op Lib Jvm.Stand Jvm.Free Jvm.LawKit
section New
variable {p : Program} {l : Launch} {e : Env} {R : Room} {s : State} {m : MethodId} {args : Array Value} {below : List Frame} {meth : Method} {c : Code} {T : State} {locs : List Loc} {cells slots : Nat}
theorem retI (X : Stand p l e R s m args below meth c T locs cells slots) (hx : p.tables.exec = Jvm.exec) {pc : Nat} {Ls : Array Slot} {z : Int32} {rest : List Value} (hret : meth.sig.returnType = some .int) (hd : decode c.code pc = .ok (.ireturn, 1)) {fs : List Frame}
    (hl : ∀ (f : JFrame) (acts : List Action), f.method = m → f.locked = none → f.entered = [] → (doReturn e (T.setTop f) acts (some (.int z))).1 = T.setFrames fs) : Steps p.tables e below (T.setTop (mkF m pc Ls (.int z :: rest))) (T.setFrames fs) := by
  have hm' : T.vm.method? m = some meth := X.method'
  have hn : narrow .int (.int z) = .int z := rfl
  show Steps p.tables e below (T.setTop { method := m, pc := pc, locals := Ls, stack := _ :: rest, locked := none }) _
  jvm_step X.here [X.here.top, hx, hd, hm', hret, hn]
  first | (intro acts; rw [hl _ acts rfl rfl rfl]) | rw [hl _ _ rfl rfl rfl]
  exact Steps.refl _
end New
end Jvm.RoadKit
namespace Jvm.Pilot.@@N@@
open Jvm Jvm.ClassFile Sem Op Lib Jvm.Free Jvm.Stand Jvm.LawKit Jvm.RoadKit Bundle Jvm.Pilot.@@N@@.Jvm.D

def own_Q (n0 : Nat) (v : Option Value) (h : Heap) (L : List Loc) : Prop := v = some (.int (1 : Int32)) ∧ Fr n0 L
def own_Q1 (w : Addr) (h0 : Heap) (n0 : Nat) (v : Option Value) (h : Heap) (L : List Loc) : Prop := v = some (.ref w) ∧ Fr n0 L ∧ h = h0
def own_sel (k : Int32) (wI wU wN wP wV : Addr) : Addr := if k = 401 then wU else if k = 404 then wN else if k = 413 then wP else if k < 500 then wV else wI
theorem own_miss1_1 {k : Int32} (h1 : ¬ (k = (401 : Int32))) (h2 : ¬ (k = (404 : Int32))) (h3 : ¬ (k = (413 : Int32))) : (#[((401 : Int), (35 : Int)), (404, 39), (413, 43)] : Array (Int × Int)).find? (·.1 == k.toInt) = none := by
  refine find_miss fun q hq => ?_
  simp only [List.mem_cons, List.not_mem_nil, or_false] at hq
  rcases hq with rfl | rfl | rfl
  · exact fun e => h1 (Int32.toInt_inj.mp (e.symm.trans (by decide)))
  · exact fun e => h2 (Int32.toInt_inj.mp (e.symm.trans (by decide)))
  · exact fun e => h3 (Int32.toInt_inj.mp (e.symm.trans (by decide)))
theorem d1_0 : decode prog_9_method_5_code 0 = .ok (.iload_n 0, 1) := by decide +kernel
theorem d1_1 : decode prog_9_method_5_code 1 = .ok (.lookupswitch 47 #[(401, 35), (404, 39), (413, 43)], 35) := by decide +kernel
theorem d1_36 : decode prog_9_method_5_code 36 = .ok (.getstatic 7, 3) := by decide +kernel
theorem d1_39 : decode prog_9_method_5_code 39 = .ok (.areturn, 1) := by decide +kernel
theorem pn_1 : plainName "com/example/tallyd/tallyd/api/ErrorType" = true := by first | (simp [plainName, overriddenIn]; done) | decide +kernel
theorem ef_1 (m : MethodId) (x0 : Int32) : entryFrame m #[(.int x0)] 1 = mkF m 0 #[.val (.int x0)] [] := by first | (simp [entryFrame, mkF, argsToLocals, Value.category]; done) | rfl
set_option maxRecDepth 65536 in
set_option maxHeartbeats 40000000 in
theorem rm1_u (l : Launch) (Z : State) (a0 : Array Value) (hw : ∀ d ∈ tables_1, d.before a0 Z = true) (ws : List Jvm.Cond) (p1 : Int32) (w2 : Addr) (h0 : Heap) (n0 : Nat) (Z0 : n0 ≤ h0.size) (S_UNAUTHORIZED : Sta Z h0 "com/example/tallyd/tallyd/api/ErrorType" "UNAUTHORIZED" "Lcom/example/tallyd/tallyd/api/ErrorType;" (.ref w2)) (hs1 : p1 = (401 : Int32)) :
    MetFree l (⟨"com/example/tallyd/tallyd/api/ErrorType", "forStatus", "(I)Lcom/example/tallyd/tallyd/api/ErrorType;"⟩ : MethodName) (head1 (Jvm.Cond.code (⟨"com/example/tallyd/tallyd/api/ErrorType", "forStatus", "(I)Lcom/example/tallyd/tallyd/api/ErrorType;"⟩ : MethodName) prog_9_method_5_code 1 (some (.object "com/example/tallyd/tallyd/api/ErrorType")) :: ws) ({ frames := 0, cells := 0, slots := 0, locals := 0 } : Room)) (fun a U => a = #[(.int p1)] ∧ Z.Warmed39 U.vm ∧ U.heap = h0) (fun _ _ _ _ _ => True) (fun _ U o U' => ∃ v L, o = .returned v ∧ own_Q1 w2 h0 n0 v U'.heap L ∧ FrameEnd U o U' L ({ frames := 0, cells := 0, slots := 0, locals := 0 } : Room).cells ({ frames := 0, cells := 0, slots := 0, locals := 0 } : Room).slots) := by
  refine MetFree.of_bodySF (plainFor_of_name pn_1) hisR ?_
  intro p e s m args below meth c s₁ Bd hml0 hP hK
  obtain ⟨rfl, hZ, hh⟩ := hP
  have hx := Bd.exec
  have hby := Bd.bytes
  have hml : c.maxLocals = 1 := hml0
  have hown : s.vm.findClass "com/example/tallyd/tallyd/api/ErrorType" = some m.cls := findClass_of_methodNamed Bd.named
  have hnm := (name_of_methodNamed Bd.named Bd.method).1
  have X0 : Stand p l e ({ frames := 0, cells := 0, slots := 0, locals := 0 } : Room) s m #[(.int p1)] below meth c s₁ [] 0 0 := Stand.of_body Bd
  have e0 : s₁.heap = h0 := by rw [← hh, Bd.state]; rfl
  have N0 := Fr.nil n0
  have pre0 : ∀ t, Steps p.tables e below (s₁.setTop (mkF m 0 #[.val (.int p1)] [])) t → Steps p.tables e below (s₁.setTop (entryFrame m #[(.int p1)] 1)) t := fun t k => castTop (ef_1 m p1) k
  obtain ⟨T3, X3, e3, st3⟩ := getS2 X0 hx hZ hown (host := "") (Or.inl (hw _ (List.mem_of_getElem? (i := 7) rfl))) Via.refl e0 S_UNAUTHORIZED (g := (mkF m 36 #[.val (.int p1)] [])) rfl (hb hby d1_36)
  obtain ⟨fs, hr, hrun, hended, hW, hsame⟩ := X3.leave (v := some (.ref w2)) (fun h => by rw [Bd.returns] at h; cases h)
  refine ⟨_, _, pre0 _ ?_, hrun, hended, _, _, rfl, ?_, ⟨_, rfl⟩, hW, hsame.mono (by decide) (by decide)⟩
  · show Steps p.tables e below (s₁.setTop (mkF m 0 #[.val (.int p1)] [])) _
    refine XS.iloadN X0.here hx rfl (hb hby d1_0) rfl ?_
    show Steps p.tables e below (s₁.setTop (mkF m 1 #[.val (.int p1)] [(.int p1)])) _
    refine X0.lookupswitchHit hx (g := (mkF m 1 #[.val (.int p1)] [(.int p1)])) rfl rfl (hb hby d1_1) (by decide) (a := 401) (off := 35) (by rw [hs1]; decide) (by show (0 : Int) ≤ ((1 : Nat) : Int) + (35); decide) _ ?_
    show Steps p.tables e below (s₁.setTop (mkF m 36 #[.val (.int p1)] [])) _
    refine st3 _ ?_
    show Steps p.tables e below (T3.setTop (mkF m 39 #[.val (.int p1)] [(.ref w2)])) _
    jvm_step X3.here [X3.here.top, hx, (hb hby d1_39), X3.method', Bd.returns, Value.isRef, FieldType.isReference]
    first | (intro acts; rw [hr _ acts rfl rfl rfl]) | rw [hr _ _ rfl rfl rfl]
    exact Steps.refl _
  · show own_Q1 w2 h0 n0 _ T3.heap _
    rw [e3]
    exact ⟨rfl, N0, rfl⟩

theorem d1_40 : decode prog_9_method_5_code 40 = .ok (.getstatic 10, 3) := by decide +kernel
theorem d1_43 : decode prog_9_method_5_code 43 = .ok (.areturn, 1) := by decide +kernel
set_option maxRecDepth 65536 in
set_option maxHeartbeats 40000000 in
theorem rm1_n (l : Launch) (Z : State) (a0 : Array Value) (hw : ∀ d ∈ tables_1, d.before a0 Z = true) (ws : List Jvm.Cond) (p1 : Int32) (w2 : Addr) (h0 : Heap) (n0 : Nat) (Z0 : n0 ≤ h0.size) (S_NOT_FOUND : Sta Z h0 "com/example/tallyd/tallyd/api/ErrorType" "NOT_FOUND" "Lcom/example/tallyd/tallyd/api/ErrorType;" (.ref w2)) (hs1 : p1 = (404 : Int32)) :
    MetFree l (⟨"com/example/tallyd/tallyd/api/ErrorType", "forStatus", "(I)Lcom/example/tallyd/tallyd/api/ErrorType;"⟩ : MethodName) (head1 (Jvm.Cond.code (⟨"com/example/tallyd/tallyd/api/ErrorType", "forStatus", "(I)Lcom/example/tallyd/tallyd/api/ErrorType;"⟩ : MethodName) prog_9_method_5_code 1 (some (.object "com/example/tallyd/tallyd/api/ErrorType")) :: ws) ({ frames := 0, cells := 0, slots := 0, locals := 0 } : Room)) (fun a U => a = #[(.int p1)] ∧ Z.Warmed39 U.vm ∧ U.heap = h0) (fun _ _ _ _ _ => True) (fun _ U o U' => ∃ v L, o = .returned v ∧ own_Q1 w2 h0 n0 v U'.heap L ∧ FrameEnd U o U' L ({ frames := 0, cells := 0, slots := 0, locals := 0 } : Room).cells ({ frames := 0, cells := 0, slots := 0, locals := 0 } : Room).slots) := by
  refine MetFree.of_bodySF (plainFor_of_name pn_1) hisR ?_
  intro p e s m args below meth c s₁ Bd hml0 hP hK
  obtain ⟨rfl, hZ, hh⟩ := hP
  have hx := Bd.exec
  have hby := Bd.bytes
  have hml : c.maxLocals = 1 := hml0
  have hown : s.vm.findClass "com/example/tallyd/tallyd/api/ErrorType" = some m.cls := findClass_of_methodNamed Bd.named
  have hnm := (name_of_methodNamed Bd.named Bd.method).1
  have X0 : Stand p l e ({ frames := 0, cells := 0, slots := 0, locals := 0 } : Room) s m #[(.int p1)] below meth c s₁ [] 0 0 := Stand.of_body Bd
  have e0 : s₁.heap = h0 := by rw [← hh, Bd.state]; rfl
  have N0 := Fr.nil n0
  have pre0 : ∀ t, Steps p.tables e below (s₁.setTop (mkF m 0 #[.val (.int p1)] [])) t → Steps p.tables e below (s₁.setTop (entryFrame m #[(.int p1)] 1)) t := fun t k => castTop (ef_1 m p1) k
  obtain ⟨T3, X3, e3, st3⟩ := getS2 X0 hx hZ hown (host := "") (Or.inl (hw _ (List.mem_of_getElem? (i := 17) rfl))) Via.refl e0 S_NOT_FOUND (g := (mkF m 40 #[.val (.int p1)] [])) rfl (hb hby d1_40)
  obtain ⟨fs, hr, hrun, hended, hW, hsame⟩ := X3.leave (v := some (.ref w2)) (fun h => by rw [Bd.returns] at h; cases h)
  refine ⟨_, _, pre0 _ ?_, hrun, hended, _, _, rfl, ?_, ⟨_, rfl⟩, hW, hsame.mono (by decide) (by decide)⟩
  · show Steps p.tables e below (s₁.setTop (mkF m 0 #[.val (.int p1)] [])) _
    refine XS.iloadN X0.here hx rfl (hb hby d1_0) rfl ?_
    show Steps p.tables e below (s₁.setTop (mkF m 1 #[.val (.int p1)] [(.int p1)])) _
    refine X0.lookupswitchHit hx (g := (mkF m 1 #[.val (.int p1)] [(.int p1)])) rfl rfl (hb hby d1_1) (by decide) (a := 404) (off := 39) (by rw [hs1]; decide) (by show (0 : Int) ≤ ((1 : Nat) : Int) + (39); decide) _ ?_
    show Steps p.tables e below (s₁.setTop (mkF m 40 #[.val (.int p1)] [])) _
    refine st3 _ ?_
    show Steps p.tables e below (T3.setTop (mkF m 43 #[.val (.int p1)] [(.ref w2)])) _
    jvm_step X3.here [X3.here.top, hx, (hb hby d1_43), X3.method', Bd.returns, Value.isRef, FieldType.isReference]
    first | (intro acts; rw [hr _ acts rfl rfl rfl]) | rw [hr _ _ rfl rfl rfl]
    exact Steps.refl _
  · show own_Q1 w2 h0 n0 _ T3.heap _
    rw [e3]
    exact ⟨rfl, N0, rfl⟩

theorem d1_44 : decode prog_9_method_5_code 44 = .ok (.getstatic 13, 3) := by decide +kernel
theorem d1_47 : decode prog_9_method_5_code 47 = .ok (.areturn, 1) := by decide +kernel
set_option maxRecDepth 65536 in
set_option maxHeartbeats 40000000 in
theorem rm1_p (l : Launch) (Z : State) (a0 : Array Value) (hw : ∀ d ∈ tables_1, d.before a0 Z = true) (ws : List Jvm.Cond) (p1 : Int32) (w2 : Addr) (h0 : Heap) (n0 : Nat) (Z0 : n0 ≤ h0.size) (S_PAYLOAD_TOO_LARGE : Sta Z h0 "com/example/tallyd/tallyd/api/ErrorType" "PAYLOAD_TOO_LARGE" "Lcom/example/tallyd/tallyd/api/ErrorType;" (.ref w2)) (hs1 : p1 = (413 : Int32)) :
    MetFree l (⟨"com/example/tallyd/tallyd/api/ErrorType", "forStatus", "(I)Lcom/example/tallyd/tallyd/api/ErrorType;"⟩ : MethodName) (head1 (Jvm.Cond.code (⟨"com/example/tallyd/tallyd/api/ErrorType", "forStatus", "(I)Lcom/example/tallyd/tallyd/api/ErrorType;"⟩ : MethodName) prog_9_method_5_code 1 (some (.object "com/example/tallyd/tallyd/api/ErrorType")) :: ws) ({ frames := 0, cells := 0, slots := 0, locals := 0 } : Room)) (fun a U => a = #[(.int p1)] ∧ Z.Warmed39 U.vm ∧ U.heap = h0) (fun _ _ _ _ _ => True) (fun _ U o U' => ∃ v L, o = .returned v ∧ own_Q1 w2 h0 n0 v U'.heap L ∧ FrameEnd U o U' L ({ frames := 0, cells := 0, slots := 0, locals := 0 } : Room).cells ({ frames := 0, cells := 0, slots := 0, locals := 0 } : Room).slots) := by
  refine MetFree.of_bodySF (plainFor_of_name pn_1) hisR ?_
  intro p e s m args below meth c s₁ Bd hml0 hP hK
  obtain ⟨rfl, hZ, hh⟩ := hP
  have hx := Bd.exec
  have hby := Bd.bytes
  have hml : c.maxLocals = 1 := hml0
  have hown : s.vm.findClass "com/example/tallyd/tallyd/api/ErrorType" = some m.cls := findClass_of_methodNamed Bd.named
  have hnm := (name_of_methodNamed Bd.named Bd.method).1
  have X0 : Stand p l e ({ frames := 0, cells := 0, slots := 0, locals := 0 } : Room) s m #[(.int p1)] below meth c s₁ [] 0 0 := Stand.of_body Bd
  have e0 : s₁.heap = h0 := by rw [← hh, Bd.state]; rfl
  have N0 := Fr.nil n0
  have pre0 : ∀ t, Steps p.tables e below (s₁.setTop (mkF m 0 #[.val (.int p1)] [])) t → Steps p.tables e below (s₁.setTop (entryFrame m #[(.int p1)] 1)) t := fun t k => castTop (ef_1 m p1) k
  obtain ⟨T3, X3, e3, st3⟩ := getS2 X0 hx hZ hown (host := "") (Or.inl (hw _ (List.mem_of_getElem? (i := 4) rfl))) Via.refl e0 S_PAYLOAD_TOO_LARGE (g := (mkF m 44 #[.val (.int p1)] [])) rfl (hb hby d1_44)
  obtain ⟨fs, hr, hrun, hended, hW, hsame⟩ := X3.leave (v := some (.ref w2)) (fun h => by rw [Bd.returns] at h; cases h)
  refine ⟨_, _, pre0 _ ?_, hrun, hended, _, _, rfl, ?_, ⟨_, rfl⟩, hW, hsame.mono (by decide) (by decide)⟩
  · show Steps p.tables e below (s₁.setTop (mkF m 0 #[.val (.int p1)] [])) _
    refine XS.iloadN X0.here hx rfl (hb hby d1_0) rfl ?_
    show Steps p.tables e below (s₁.setTop (mkF m 1 #[.val (.int p1)] [(.int p1)])) _
    refine X0.lookupswitchHit hx (g := (mkF m 1 #[.val (.int p1)] [(.int p1)])) rfl rfl (hb hby d1_1) (by decide) (a := 413) (off := 43) (by rw [hs1]; decide) (by show (0 : Int) ≤ ((1 : Nat) : Int) + (43); decide) _ ?_
    show Steps p.tables e below (s₁.setTop (mkF m 44 #[.val (.int p1)] [])) _
    refine st3 _ ?_
    show Steps p.tables e below (T3.setTop (mkF m 47 #[.val (.int p1)] [(.ref w2)])) _
    jvm_step X3.here [X3.here.top, hx, (hb hby d1_47), X3.method', Bd.returns, Value.isRef, FieldType.isReference]
    first | (intro acts; rw [hr _ acts rfl rfl rfl]) | rw [hr _ _ rfl rfl rfl]
    exact Steps.refl _
  · show own_Q1 w2 h0 n0 _ T3.heap _
    rw [e3]
    exact ⟨rfl, N0, rfl⟩

theorem d1_48 : decode prog_9_method_5_code 48 = .ok (.iload_n 0, 1) := by decide +kernel
theorem d1_49 : decode prog_9_method_5_code 49 = .ok (.sipush 500, 3) := by decide +kernel
theorem d1_52 : decode prog_9_method_5_code 52 = .ok (.if_icmp .ge 9, 3) := by decide +kernel
theorem d1_55 : decode prog_9_method_5_code 55 = .ok (.getstatic 3, 3) := by decide +kernel
theorem d1_58 : decode prog_9_method_5_code 58 = .ok (.goto 6, 3) := by decide +kernel
theorem d1_64 : decode prog_9_method_5_code 64 = .ok (.areturn, 1) := by decide +kernel
set_option maxRecDepth 65536 in
set_option maxHeartbeats 40000000 in
theorem rm1_v (l : Launch) (Z : State) (a0 : Array Value) (hw : ∀ d ∈ tables_1, d.before a0 Z = true) (ws : List Jvm.Cond) (p1 : Int32) (w2 : Addr) (h0 : Heap) (n0 : Nat) (Z0 : n0 ≤ h0.size) (S_VALIDATION_ERROR : Sta Z h0 "com/example/tallyd/tallyd/api/ErrorType" "VALIDATION_ERROR" "Lcom/example/tallyd/tallyd/api/ErrorType;" (.ref w2)) (hs1_401 : ¬ (p1 = (401 : Int32))) (hs1_404 : ¬ (p1 = (404 : Int32))) (hs1_413 : ¬ (p1 = (413 : Int32))) (hc52 : p1 < (500 : Int32)) :
    MetFree l (⟨"com/example/tallyd/tallyd/api/ErrorType", "forStatus", "(I)Lcom/example/tallyd/tallyd/api/ErrorType;"⟩ : MethodName) (head1 (Jvm.Cond.code (⟨"com/example/tallyd/tallyd/api/ErrorType", "forStatus", "(I)Lcom/example/tallyd/tallyd/api/ErrorType;"⟩ : MethodName) prog_9_method_5_code 1 (some (.object "com/example/tallyd/tallyd/api/ErrorType")) :: ws) ({ frames := 0, cells := 0, slots := 0, locals := 0 } : Room)) (fun a U => a = #[(.int p1)] ∧ Z.Warmed39 U.vm ∧ U.heap = h0) (fun _ _ _ _ _ => True) (fun _ U o U' => ∃ v L, o = .returned v ∧ own_Q1 w2 h0 n0 v U'.heap L ∧ FrameEnd U o U' L ({ frames := 0, cells := 0, slots := 0, locals := 0 } : Room).cells ({ frames := 0, cells := 0, slots := 0, locals := 0 } : Room).slots) := by
  refine MetFree.of_bodySF (plainFor_of_name pn_1) hisR ?_
  intro p e s m args below meth c s₁ Bd hml0 hP hK
  obtain ⟨rfl, hZ, hh⟩ := hP
  have hx := Bd.exec
  have hby := Bd.bytes
  have hml : c.maxLocals = 1 := hml0
  have hown : s.vm.findClass "com/example/tallyd/tallyd/api/ErrorType" = some m.cls := findClass_of_methodNamed Bd.named
  have hnm := (name_of_methodNamed Bd.named Bd.method).1
  have X0 : Stand p l e ({ frames := 0, cells := 0, slots := 0, locals := 0 } : Room) s m #[(.int p1)] below meth c s₁ [] 0 0 := Stand.of_body Bd
  have e0 : s₁.heap = h0 := by rw [← hh, Bd.state]; rfl
  have N0 := Fr.nil n0
  have pre0 : ∀ t, Steps p.tables e below (s₁.setTop (mkF m 0 #[.val (.int p1)] [])) t → Steps p.tables e below (s₁.setTop (entryFrame m #[(.int p1)] 1)) t := fun t k => castTop (ef_1 m p1) k
  obtain ⟨T3, X3, e3, st3⟩ := getS2 X0 hx hZ hown (host := "") (Or.inl (hw _ (List.mem_of_getElem? (i := 10) rfl))) Via.refl e0 S_VALIDATION_ERROR (g := (mkF m 55 #[.val (.int p1)] [])) rfl (hb hby d1_55)
  obtain ⟨fs, hr, hrun, hended, hW, hsame⟩ := X3.leave (v := some (.ref w2)) (fun h => by rw [Bd.returns] at h; cases h)
  refine ⟨_, _, pre0 _ ?_, hrun, hended, _, _, rfl, ?_, ⟨_, rfl⟩, hW, hsame.mono (by decide) (by decide)⟩
  · show Steps p.tables e below (s₁.setTop (mkF m 0 #[.val (.int p1)] [])) _
    refine XS.iloadN X0.here hx rfl (hb hby d1_0) rfl ?_
    show Steps p.tables e below (s₁.setTop (mkF m 1 #[.val (.int p1)] [(.int p1)])) _
    refine X0.lookupswitchMiss hx (g := (mkF m 1 #[.val (.int p1)] [(.int p1)])) rfl rfl (hb hby d1_1) (by decide) (own_miss1_1 hs1_401 hs1_404 hs1_413) (by show (0 : Int) ≤ ((1 : Nat) : Int) + (47); decide) _ ?_
    show Steps p.tables e below (s₁.setTop (mkF m 48 #[.val (.int p1)] [])) _
    refine XS.iloadN X0.here hx rfl (hb hby d1_48) rfl ?_
    show Steps p.tables e below (s₁.setTop (mkF m 49 #[.val (.int p1)] [(.int p1)])) _
    refine XS.sipush X0.here hx rfl (hb hby d1_49) ?_
    show Steps p.tables e below (s₁.setTop (mkF m 52 #[.val (.int p1)] [(.int (500 : Int32)), (.int p1)])) _
    refine XS.icmpNo X0.here hx rfl (hb hby d1_52) rfl (tlt hc52).2.1 ?_
    show Steps p.tables e below (s₁.setTop (mkF m 55 #[.val (.int p1)] [])) _
    refine st3 _ ?_
    show Steps p.tables e below (T3.setTop (mkF m 58 #[.val (.int p1)] [(.ref w2)])) _
    refine XS.goto X3.here hx rfl (pc0 := 58) (pc' := 64) rfl (hb hby d1_58) (by decide) (by decide) ?_
    show Steps p.tables e below (T3.setTop (mkF m 64 #[.val (.int p1)] [(.ref w2)])) _
    jvm_step X3.here [X3.here.top, hx, (hb hby d1_64), X3.method', Bd.returns, Value.isRef, FieldType.isReference]
    first | (intro acts; rw [hr _ acts rfl rfl rfl]) | rw [hr _ _ rfl rfl rfl]
    exact Steps.refl _
  · show own_Q1 w2 h0 n0 _ T3.heap _
    rw [e3]
    exact ⟨rfl, N0, rfl⟩

theorem d1_61 : decode prog_9_method_5_code 61 = .ok (.getstatic 22, 3) := by decide +kernel
set_option maxRecDepth 65536 in
set_option maxHeartbeats 40000000 in
theorem rm1_i (l : Launch) (Z : State) (a0 : Array Value) (hw : ∀ d ∈ tables_1, d.before a0 Z = true) (ws : List Jvm.Cond) (p1 : Int32) (w2 : Addr) (h0 : Heap) (n0 : Nat) (Z0 : n0 ≤ h0.size) (S_INTERNAL_ERROR : Sta Z h0 "com/example/tallyd/tallyd/api/ErrorType" "INTERNAL_ERROR" "Lcom/example/tallyd/tallyd/api/ErrorType;" (.ref w2)) (hs1_401 : ¬ (p1 = (401 : Int32))) (hs1_404 : ¬ (p1 = (404 : Int32))) (hs1_413 : ¬ (p1 = (413 : Int32))) (hc52 : ¬ (p1 < (500 : Int32))) :
    MetFree l (⟨"com/example/tallyd/tallyd/api/ErrorType", "forStatus", "(I)Lcom/example/tallyd/tallyd/api/ErrorType;"⟩ : MethodName) (head1 (Jvm.Cond.code (⟨"com/example/tallyd/tallyd/api/ErrorType", "forStatus", "(I)Lcom/example/tallyd/tallyd/api/ErrorType;"⟩ : MethodName) prog_9_method_5_code 1 (some (.object "com/example/tallyd/tallyd/api/ErrorType")) :: ws) ({ frames := 0, cells := 0, slots := 0, locals := 0 } : Room)) (fun a U => a = #[(.int p1)] ∧ Z.Warmed39 U.vm ∧ U.heap = h0) (fun _ _ _ _ _ => True) (fun _ U o U' => ∃ v L, o = .returned v ∧ own_Q1 w2 h0 n0 v U'.heap L ∧ FrameEnd U o U' L ({ frames := 0, cells := 0, slots := 0, locals := 0 } : Room).cells ({ frames := 0, cells := 0, slots := 0, locals := 0 } : Room).slots) := by
  refine MetFree.of_bodySF (plainFor_of_name pn_1) hisR ?_
  intro p e s m args below meth c s₁ Bd hml0 hP hK
  obtain ⟨rfl, hZ, hh⟩ := hP
  have hx := Bd.exec
  have hby := Bd.bytes
  have hml : c.maxLocals = 1 := hml0
  have hown : s.vm.findClass "com/example/tallyd/tallyd/api/ErrorType" = some m.cls := findClass_of_methodNamed Bd.named
  have hnm := (name_of_methodNamed Bd.named Bd.method).1
  have X0 : Stand p l e ({ frames := 0, cells := 0, slots := 0, locals := 0 } : Room) s m #[(.int p1)] below meth c s₁ [] 0 0 := Stand.of_body Bd
  have e0 : s₁.heap = h0 := by rw [← hh, Bd.state]; rfl
  have N0 := Fr.nil n0
  have pre0 : ∀ t, Steps p.tables e below (s₁.setTop (mkF m 0 #[.val (.int p1)] [])) t → Steps p.tables e below (s₁.setTop (entryFrame m #[(.int p1)] 1)) t := fun t k => castTop (ef_1 m p1) k
  obtain ⟨T3, X3, e3, st3⟩ := getS2 X0 hx hZ hown (host := "") (Or.inl (hw _ (List.mem_of_getElem? (i := 14) rfl))) Via.refl e0 S_INTERNAL_ERROR (g := (mkF m 61 #[.val (.int p1)] [])) rfl (hb hby d1_61)
  obtain ⟨fs, hr, hrun, hended, hW, hsame⟩ := X3.leave (v := some (.ref w2)) (fun h => by rw [Bd.returns] at h; cases h)
  refine ⟨_, _, pre0 _ ?_, hrun, hended, _, _, rfl, ?_, ⟨_, rfl⟩, hW, hsame.mono (by decide) (by decide)⟩
  · show Steps p.tables e below (s₁.setTop (mkF m 0 #[.val (.int p1)] [])) _
    refine XS.iloadN X0.here hx rfl (hb hby d1_0) rfl ?_
    show Steps p.tables e below (s₁.setTop (mkF m 1 #[.val (.int p1)] [(.int p1)])) _
    refine X0.lookupswitchMiss hx (g := (mkF m 1 #[.val (.int p1)] [(.int p1)])) rfl rfl (hb hby d1_1) (by decide) (own_miss1_1 hs1_401 hs1_404 hs1_413) (by show (0 : Int) ≤ ((1 : Nat) : Int) + (47); decide) _ ?_
    show Steps p.tables e below (s₁.setTop (mkF m 48 #[.val (.int p1)] [])) _
    refine XS.iloadN X0.here hx rfl (hb hby d1_48) rfl ?_
    show Steps p.tables e below (s₁.setTop (mkF m 49 #[.val (.int p1)] [(.int p1)])) _
    refine XS.sipush X0.here hx rfl (hb hby d1_49) ?_
    show Steps p.tables e below (s₁.setTop (mkF m 52 #[.val (.int p1)] [(.int (500 : Int32)), (.int p1)])) _
    refine XS.icmpYes X0.here hx rfl (pc0 := 52) (pc' := 61) rfl (hb hby d1_52) rfl (flt hc52).2.1 (by decide) (by decide) ?_
    show Steps p.tables e below (s₁.setTop (mkF m 61 #[.val (.int p1)] [])) _
    refine st3 _ ?_
    show Steps p.tables e below (T3.setTop (mkF m 64 #[.val (.int p1)] [(.ref w2)])) _
    jvm_step X3.here [X3.here.top, hx, (hb hby d1_64), X3.method', Bd.returns, Value.isRef, FieldType.isReference]
    first | (intro acts; rw [hr _ acts rfl rfl rfl]) | rw [hr _ _ rfl rfl rfl]
    exact Steps.refl _
  · show own_Q1 w2 h0 n0 _ T3.heap _
    rw [e3]
    exact ⟨rfl, N0, rfl⟩

theorem rm1 (l : Launch) (Z : State) (a0 : Array Value) (hw : ∀ d ∈ tables_1, d.before a0 Z = true) (ws : List Jvm.Cond) (p1 : Int32) (wI wU wN wP wV : Addr) (h0 : Heap) (n0 : Nat) (Z0 : n0 ≤ h0.size) (SI : Sta Z h0 "com/example/tallyd/tallyd/api/ErrorType" "INTERNAL_ERROR" "Lcom/example/tallyd/tallyd/api/ErrorType;" (.ref wI)) (SU : Sta Z h0 "com/example/tallyd/tallyd/api/ErrorType" "UNAUTHORIZED" "Lcom/example/tallyd/tallyd/api/ErrorType;" (.ref wU)) (SN : Sta Z h0 "com/example/tallyd/tallyd/api/ErrorType" "NOT_FOUND" "Lcom/example/tallyd/tallyd/api/ErrorType;" (.ref wN)) (SP : Sta Z h0 "com/example/tallyd/tallyd/api/ErrorType" "PAYLOAD_TOO_LARGE" "Lcom/example/tallyd/tallyd/api/ErrorType;" (.ref wP)) (SV : Sta Z h0 "com/example/tallyd/tallyd/api/ErrorType" "VALIDATION_ERROR" "Lcom/example/tallyd/tallyd/api/ErrorType;" (.ref wV)) :
    MetFree l (⟨"com/example/tallyd/tallyd/api/ErrorType", "forStatus", "(I)Lcom/example/tallyd/tallyd/api/ErrorType;"⟩ : MethodName) (head1 (Jvm.Cond.code (⟨"com/example/tallyd/tallyd/api/ErrorType", "forStatus", "(I)Lcom/example/tallyd/tallyd/api/ErrorType;"⟩ : MethodName) prog_9_method_5_code 1 (some (.object "com/example/tallyd/tallyd/api/ErrorType")) :: ws) ({ frames := 0, cells := 0, slots := 0, locals := 0 } : Room)) (fun a U => a = #[(.int p1)] ∧ Z.Warmed39 U.vm ∧ U.heap = h0) (fun _ _ _ _ _ => True) (fun _ U o U' => ∃ v L, o = .returned v ∧ own_Q1 (own_sel p1 wI wU wN wP wV) h0 n0 v U'.heap L ∧ FrameEnd U o U' L ({ frames := 0, cells := 0, slots := 0, locals := 0 } : Room).cells ({ frames := 0, cells := 0, slots := 0, locals := 0 } : Room).slots) := by
  by_cases q1 : p1 = (401 : Int32)
  · rw [show own_sel p1 wI wU wN wP wV = wU from by simp [own_sel, q1]]; exact rm1_u l Z a0 hw ws p1 wU h0 n0 Z0 SU q1
  by_cases q2 : p1 = (404 : Int32)
  · rw [show own_sel p1 wI wU wN wP wV = wN from by simp [own_sel, q2]]; exact rm1_n l Z a0 hw ws p1 wN h0 n0 Z0 SN q2
  by_cases q3 : p1 = (413 : Int32)
  · rw [show own_sel p1 wI wU wN wP wV = wP from by simp [own_sel, q3]]; exact rm1_p l Z a0 hw ws p1 wP h0 n0 Z0 SP q3
  by_cases q4 : p1 < (500 : Int32)
  · rw [show own_sel p1 wI wU wN wP wV = wV from by simp [own_sel, q1, q2, q3, q4]]; exact rm1_v l Z a0 hw ws p1 wV h0 n0 Z0 SV q1 q2 q3 q4
  · rw [show own_sel p1 wI wU wN wP wV = wI from by simp [own_sel, q1, q2, q3, q4]]; exact rm1_i l Z a0 hw ws p1 wI h0 n0 Z0 SI q1 q2 q3 q4
theorem os_sA0_0_4 {s0 : Slot} {z1 : Value} {s2 : Slot} {s3 : Slot} {s4 : Slot} {s5 : Slot} {v : Int32} (h : One s2) : storeLocals #[s0, .val z1, s2, s3, s4, s5] 2 (.int v) = some #[s0, .val z1, .val (.int v), s3, s4, s5] := by
  rcases h with rfl | ⟨w, rfl, hw⟩
  · rfl
  · cases w <;> first | rfl | (simp [Value.category] at hw)
theorem os_sA0_0_13 {s0 : Slot} {z1 : Value} {z2 : Value} {s3 : Slot} {s4 : Slot} {s5 : Slot} {v : Int32} (h : One s3) : storeLocals #[s0, .val z1, .val z2, s3, s4, s5] 3 (.int v) = some #[s0, .val z1, .val z2, .val (.int v), s4, s5] := by
  rcases h with rfl | ⟨w, rfl, hw⟩
  · rfl
  · cases w <;> first | rfl | (simp [Value.category] at hw)
set_option maxRecDepth 65536 in
set_option maxHeartbeats 40000000 in
theorem sA0 {p : Program} {l : Launch} {e : Env} {R : Room} {s : State} {m : MethodId} {args : Array Value} {below : List Frame} {meth : Method} {c : Code} {T0 : State} {locs : List Loc} {cells slots : Nat} {Z : State} {a0 : Array Value} {h0 : Heap} (s0 : Slot) (i1 : Int32) (s2 : Slot) (s3 : Slot) (s4 : Slot) (s5 : Slot)
    (X0 : Stand p l e R s m args below meth c T0 locs cells slots) (hx : p.tables.exec = Jvm.exec) (hZ : Z.Warmed39 s.vm) (hw : ∀ d ∈ tables_1, d.before a0 Z = true) (hby : c.code = code) (hml : c.maxLocals = 6) (hown : s.vm.findClass "com/example/tallyd/tallyd/api/ErrorTypeForStatusPinLaw" = some m.cls) (e0 : T0.heap = h0) (hs2 : One s2) (hs3 : One s3) (hc7 : (i1 &&& (7 : Int32)) = (1 : Int32)) :
    ∃ (T' : State), Stand p l e R s m args below meth c T' locs cells slots ∧ T'.heap = h0 ∧
      ∀ target, Steps p.tables e below (T'.setTop (mkF m 95 #[s0, .val (.int i1), .val (.int (i1 &&& (7 : Int32))), .val (.int (401 : Int32)), s4, s5] [])) target → Steps p.tables e below (T0.setTop (mkF m 0 #[s0, .val (.int i1), s2, s3, s4, s5] [])) target := by

  refine ⟨T0, X0, e0, fun target kt => ?_⟩
  show Steps p.tables e below (T0.setTop (mkF m 0 #[s0, .val (.int i1), s2, s3, s4, s5] [])) _
  refine XS.iloadN X0.here hx rfl (hb hby at_0) rfl ?_
  show Steps p.tables e below (T0.setTop (mkF m 1 #[s0, .val (.int i1), s2, s3, s4, s5] [(.int i1)])) _
  refine XS.bipush X0.here hx rfl (hb hby at_1) ?_
  show Steps p.tables e below (T0.setTop (mkF m 3 #[s0, .val (.int i1), s2, s3, s4, s5] [(.int (7 : Int32)), (.int i1)])) _
  refine XS.iand X0.here hx rfl (hb hby at_3) rfl ?_
  show Steps p.tables e below (T0.setTop (mkF m 4 #[s0, .val (.int i1), s2, s3, s4, s5] [(.int (i1 &&& (7 : Int32)))])) _
  refine XS.istoreN X0.here hx rfl (hb hby at_4) rfl (l' := #[s0, .val (.int i1), .val (.int (i1 &&& (7 : Int32))), s3, s4, s5]) (os_sA0_0_4 hs2) ?_
  show Steps p.tables e below (T0.setTop (mkF m 5 #[s0, .val (.int i1), .val (.int (i1 &&& (7 : Int32))), s3, s4, s5] [])) _
  refine XS.iloadN X0.here hx rfl (hb hby at_5) rfl ?_
  show Steps p.tables e below (T0.setTop (mkF m 6 #[s0, .val (.int i1), .val (.int (i1 &&& (7 : Int32))), s3, s4, s5] [(.int (i1 &&& (7 : Int32)))])) _
  refine XS.iconst X0.here hx rfl (hb hby at_6) ?_
  show Steps p.tables e below (T0.setTop (mkF m 7 #[s0, .val (.int i1), .val (.int (i1 &&& (7 : Int32))), s3, s4, s5] [(.int (1 : Int32)), (.int (i1 &&& (7 : Int32)))])) _
  refine XS.icmpNo X0.here hx rfl (hb hby at_7) rfl (teq hc7).2 ?_
  show Steps p.tables e below (T0.setTop (mkF m 10 #[s0, .val (.int i1), .val (.int (i1 &&& (7 : Int32))), s3, s4, s5] [])) _
  refine XS.sipush X0.here hx rfl (hb hby at_10) ?_
  show Steps p.tables e below (T0.setTop (mkF m 13 #[s0, .val (.int i1), .val (.int (i1 &&& (7 : Int32))), s3, s4, s5] [(.int (401 : Int32))])) _
  refine XS.istoreN X0.here hx rfl (hb hby at_13) rfl (l' := #[s0, .val (.int i1), .val (.int (i1 &&& (7 : Int32))), .val (.int (401 : Int32)), s4, s5]) (os_sA0_0_13 hs3) ?_
  show Steps p.tables e below (T0.setTop (mkF m 14 #[s0, .val (.int i1), .val (.int (i1 &&& (7 : Int32))), .val (.int (401 : Int32)), s4, s5] [])) _
  refine XS.goto X0.here hx rfl (pc0 := 14) (pc' := 95) rfl (hb hby at_14) (by decide) (by decide) ?_
  exact kt

theorem os_sA1_0_4 {s0 : Slot} {z1 : Value} {s2 : Slot} {s3 : Slot} {s4 : Slot} {s5 : Slot} {v : Int32} (h : One s2) : storeLocals #[s0, .val z1, s2, s3, s4, s5] 2 (.int v) = some #[s0, .val z1, .val (.int v), s3, s4, s5] := by
  rcases h with rfl | ⟨w, rfl, hw⟩
  · rfl
  · cases w <;> first | rfl | (simp [Value.category] at hw)
theorem os_sA1_0_25 {s0 : Slot} {z1 : Value} {z2 : Value} {s3 : Slot} {s4 : Slot} {s5 : Slot} {v : Int32} (h : One s3) : storeLocals #[s0, .val z1, .val z2, s3, s4, s5] 3 (.int v) = some #[s0, .val z1, .val z2, .val (.int v), s4, s5] := by
  rcases h with rfl | ⟨w, rfl, hw⟩
  · rfl
  · cases w <;> first | rfl | (simp [Value.category] at hw)
set_option maxRecDepth 65536 in
set_option maxHeartbeats 40000000 in
theorem sA1 {p : Program} {l : Launch} {e : Env} {R : Room} {s : State} {m : MethodId} {args : Array Value} {below : List Frame} {meth : Method} {c : Code} {T0 : State} {locs : List Loc} {cells slots : Nat} {Z : State} {a0 : Array Value} {h0 : Heap} (s0 : Slot) (i1 : Int32) (s2 : Slot) (s3 : Slot) (s4 : Slot) (s5 : Slot)
    (X0 : Stand p l e R s m args below meth c T0 locs cells slots) (hx : p.tables.exec = Jvm.exec) (hZ : Z.Warmed39 s.vm) (hw : ∀ d ∈ tables_1, d.before a0 Z = true) (hby : c.code = code) (hml : c.maxLocals = 6) (hown : s.vm.findClass "com/example/tallyd/tallyd/api/ErrorTypeForStatusPinLaw" = some m.cls) (e0 : T0.heap = h0) (hs2 : One s2) (hs3 : One s3) (hc7 : ¬ ((i1 &&& (7 : Int32)) = (1 : Int32))) (hc19 : (i1 &&& (7 : Int32)) = (2 : Int32)) :
    ∃ (T' : State), Stand p l e R s m args below meth c T' locs cells slots ∧ T'.heap = h0 ∧
      ∀ target, Steps p.tables e below (T'.setTop (mkF m 95 #[s0, .val (.int i1), .val (.int (i1 &&& (7 : Int32))), .val (.int (404 : Int32)), s4, s5] [])) target → Steps p.tables e below (T0.setTop (mkF m 0 #[s0, .val (.int i1), s2, s3, s4, s5] [])) target := by

  refine ⟨T0, X0, e0, fun target kt => ?_⟩
  show Steps p.tables e below (T0.setTop (mkF m 0 #[s0, .val (.int i1), s2, s3, s4, s5] [])) _
  refine XS.iloadN X0.here hx rfl (hb hby at_0) rfl ?_
  show Steps p.tables e below (T0.setTop (mkF m 1 #[s0, .val (.int i1), s2, s3, s4, s5] [(.int i1)])) _
  refine XS.bipush X0.here hx rfl (hb hby at_1) ?_
  show Steps p.tables e below (T0.setTop (mkF m 3 #[s0, .val (.int i1), s2, s3, s4, s5] [(.int (7 : Int32)), (.int i1)])) _
  refine XS.iand X0.here hx rfl (hb hby at_3) rfl ?_
  show Steps p.tables e below (T0.setTop (mkF m 4 #[s0, .val (.int i1), s2, s3, s4, s5] [(.int (i1 &&& (7 : Int32)))])) _
  refine XS.istoreN X0.here hx rfl (hb hby at_4) rfl (l' := #[s0, .val (.int i1), .val (.int (i1 &&& (7 : Int32))), s3, s4, s5]) (os_sA1_0_4 hs2) ?_
  show Steps p.tables e below (T0.setTop (mkF m 5 #[s0, .val (.int i1), .val (.int (i1 &&& (7 : Int32))), s3, s4, s5] [])) _
  refine XS.iloadN X0.here hx rfl (hb hby at_5) rfl ?_
  show Steps p.tables e below (T0.setTop (mkF m 6 #[s0, .val (.int i1), .val (.int (i1 &&& (7 : Int32))), s3, s4, s5] [(.int (i1 &&& (7 : Int32)))])) _
  refine XS.iconst X0.here hx rfl (hb hby at_6) ?_
  show Steps p.tables e below (T0.setTop (mkF m 7 #[s0, .val (.int i1), .val (.int (i1 &&& (7 : Int32))), s3, s4, s5] [(.int (1 : Int32)), (.int (i1 &&& (7 : Int32)))])) _
  refine XS.icmpYes X0.here hx rfl (pc0 := 7) (pc' := 17) rfl (hb hby at_7) rfl (feq hc7).2 (by decide) (by decide) ?_
  show Steps p.tables e below (T0.setTop (mkF m 17 #[s0, .val (.int i1), .val (.int (i1 &&& (7 : Int32))), s3, s4, s5] [])) _
  refine XS.iloadN X0.here hx rfl (hb hby at_17) rfl ?_
  show Steps p.tables e below (T0.setTop (mkF m 18 #[s0, .val (.int i1), .val (.int (i1 &&& (7 : Int32))), s3, s4, s5] [(.int (i1 &&& (7 : Int32)))])) _
  refine XS.iconst X0.here hx rfl (hb hby at_18) ?_
  show Steps p.tables e below (T0.setTop (mkF m 19 #[s0, .val (.int i1), .val (.int (i1 &&& (7 : Int32))), s3, s4, s5] [(.int (2 : Int32)), (.int (i1 &&& (7 : Int32)))])) _
  refine XS.icmpNo X0.here hx rfl (hb hby at_19) rfl (teq hc19).2 ?_
  show Steps p.tables e below (T0.setTop (mkF m 22 #[s0, .val (.int i1), .val (.int (i1 &&& (7 : Int32))), s3, s4, s5] [])) _
  refine XS.sipush X0.here hx rfl (hb hby at_22) ?_
  show Steps p.tables e below (T0.setTop (mkF m 25 #[s0, .val (.int i1), .val (.int (i1 &&& (7 : Int32))), s3, s4, s5] [(.int (404 : Int32))])) _
  refine XS.istoreN X0.here hx rfl (hb hby at_25) rfl (l' := #[s0, .val (.int i1), .val (.int (i1 &&& (7 : Int32))), .val (.int (404 : Int32)), s4, s5]) (os_sA1_0_25 hs3) ?_
  show Steps p.tables e below (T0.setTop (mkF m 26 #[s0, .val (.int i1), .val (.int (i1 &&& (7 : Int32))), .val (.int (404 : Int32)), s4, s5] [])) _
  refine XS.goto X0.here hx rfl (pc0 := 26) (pc' := 95) rfl (hb hby at_26) (by decide) (by decide) ?_
  exact kt

theorem os_sA2_0_4 {s0 : Slot} {z1 : Value} {s2 : Slot} {s3 : Slot} {s4 : Slot} {s5 : Slot} {v : Int32} (h : One s2) : storeLocals #[s0, .val z1, s2, s3, s4, s5] 2 (.int v) = some #[s0, .val z1, .val (.int v), s3, s4, s5] := by
  rcases h with rfl | ⟨w, rfl, hw⟩
  · rfl
  · cases w <;> first | rfl | (simp [Value.category] at hw)
theorem os_sA2_0_37 {s0 : Slot} {z1 : Value} {z2 : Value} {s3 : Slot} {s4 : Slot} {s5 : Slot} {v : Int32} (h : One s3) : storeLocals #[s0, .val z1, .val z2, s3, s4, s5] 3 (.int v) = some #[s0, .val z1, .val z2, .val (.int v), s4, s5] := by
  rcases h with rfl | ⟨w, rfl, hw⟩
  · rfl
  · cases w <;> first | rfl | (simp [Value.category] at hw)
set_option maxRecDepth 65536 in
set_option maxHeartbeats 40000000 in
theorem sA2 {p : Program} {l : Launch} {e : Env} {R : Room} {s : State} {m : MethodId} {args : Array Value} {below : List Frame} {meth : Method} {c : Code} {T0 : State} {locs : List Loc} {cells slots : Nat} {Z : State} {a0 : Array Value} {h0 : Heap} (s0 : Slot) (i1 : Int32) (s2 : Slot) (s3 : Slot) (s4 : Slot) (s5 : Slot)
    (X0 : Stand p l e R s m args below meth c T0 locs cells slots) (hx : p.tables.exec = Jvm.exec) (hZ : Z.Warmed39 s.vm) (hw : ∀ d ∈ tables_1, d.before a0 Z = true) (hby : c.code = code) (hml : c.maxLocals = 6) (hown : s.vm.findClass "com/example/tallyd/tallyd/api/ErrorTypeForStatusPinLaw" = some m.cls) (e0 : T0.heap = h0) (hs2 : One s2) (hs3 : One s3) (hc7 : ¬ ((i1 &&& (7 : Int32)) = (1 : Int32))) (hc19 : ¬ ((i1 &&& (7 : Int32)) = (2 : Int32))) (hc31 : (i1 &&& (7 : Int32)) = (3 : Int32)) :
    ∃ (T' : State), Stand p l e R s m args below meth c T' locs cells slots ∧ T'.heap = h0 ∧
      ∀ target, Steps p.tables e below (T'.setTop (mkF m 95 #[s0, .val (.int i1), .val (.int (i1 &&& (7 : Int32))), .val (.int (413 : Int32)), s4, s5] [])) target → Steps p.tables e below (T0.setTop (mkF m 0 #[s0, .val (.int i1), s2, s3, s4, s5] [])) target := by

  refine ⟨T0, X0, e0, fun target kt => ?_⟩
  show Steps p.tables e below (T0.setTop (mkF m 0 #[s0, .val (.int i1), s2, s3, s4, s5] [])) _
  refine XS.iloadN X0.here hx rfl (hb hby at_0) rfl ?_
  show Steps p.tables e below (T0.setTop (mkF m 1 #[s0, .val (.int i1), s2, s3, s4, s5] [(.int i1)])) _
  refine XS.bipush X0.here hx rfl (hb hby at_1) ?_
  show Steps p.tables e below (T0.setTop (mkF m 3 #[s0, .val (.int i1), s2, s3, s4, s5] [(.int (7 : Int32)), (.int i1)])) _
  refine XS.iand X0.here hx rfl (hb hby at_3) rfl ?_
  show Steps p.tables e below (T0.setTop (mkF m 4 #[s0, .val (.int i1), s2, s3, s4, s5] [(.int (i1 &&& (7 : Int32)))])) _
  refine XS.istoreN X0.here hx rfl (hb hby at_4) rfl (l' := #[s0, .val (.int i1), .val (.int (i1 &&& (7 : Int32))), s3, s4, s5]) (os_sA2_0_4 hs2) ?_
  show Steps p.tables e below (T0.setTop (mkF m 5 #[s0, .val (.int i1), .val (.int (i1 &&& (7 : Int32))), s3, s4, s5] [])) _
  refine XS.iloadN X0.here hx rfl (hb hby at_5) rfl ?_
  show Steps p.tables e below (T0.setTop (mkF m 6 #[s0, .val (.int i1), .val (.int (i1 &&& (7 : Int32))), s3, s4, s5] [(.int (i1 &&& (7 : Int32)))])) _
  refine XS.iconst X0.here hx rfl (hb hby at_6) ?_
  show Steps p.tables e below (T0.setTop (mkF m 7 #[s0, .val (.int i1), .val (.int (i1 &&& (7 : Int32))), s3, s4, s5] [(.int (1 : Int32)), (.int (i1 &&& (7 : Int32)))])) _
  refine XS.icmpYes X0.here hx rfl (pc0 := 7) (pc' := 17) rfl (hb hby at_7) rfl (feq hc7).2 (by decide) (by decide) ?_
  show Steps p.tables e below (T0.setTop (mkF m 17 #[s0, .val (.int i1), .val (.int (i1 &&& (7 : Int32))), s3, s4, s5] [])) _
  refine XS.iloadN X0.here hx rfl (hb hby at_17) rfl ?_
  show Steps p.tables e below (T0.setTop (mkF m 18 #[s0, .val (.int i1), .val (.int (i1 &&& (7 : Int32))), s3, s4, s5] [(.int (i1 &&& (7 : Int32)))])) _
  refine XS.iconst X0.here hx rfl (hb hby at_18) ?_
  show Steps p.tables e below (T0.setTop (mkF m 19 #[s0, .val (.int i1), .val (.int (i1 &&& (7 : Int32))), s3, s4, s5] [(.int (2 : Int32)), (.int (i1 &&& (7 : Int32)))])) _
  refine XS.icmpYes X0.here hx rfl (pc0 := 19) (pc' := 29) rfl (hb hby at_19) rfl (feq hc19).2 (by decide) (by decide) ?_
  show Steps p.tables e below (T0.setTop (mkF m 29 #[s0, .val (.int i1), .val (.int (i1 &&& (7 : Int32))), s3, s4, s5] [])) _
  refine XS.iloadN X0.here hx rfl (hb hby at_29) rfl ?_
  show Steps p.tables e below (T0.setTop (mkF m 30 #[s0, .val (.int i1), .val (.int (i1 &&& (7 : Int32))), s3, s4, s5] [(.int (i1 &&& (7 : Int32)))])) _
  refine XS.iconst X0.here hx rfl (hb hby at_30) ?_
  show Steps p.tables e below (T0.setTop (mkF m 31 #[s0, .val (.int i1), .val (.int (i1 &&& (7 : Int32))), s3, s4, s5] [(.int (3 : Int32)), (.int (i1 &&& (7 : Int32)))])) _
  refine XS.icmpNo X0.here hx rfl (hb hby at_31) rfl (teq hc31).2 ?_
  show Steps p.tables e below (T0.setTop (mkF m 34 #[s0, .val (.int i1), .val (.int (i1 &&& (7 : Int32))), s3, s4, s5] [])) _
  refine XS.sipush X0.here hx rfl (hb hby at_34) ?_
  show Steps p.tables e below (T0.setTop (mkF m 37 #[s0, .val (.int i1), .val (.int (i1 &&& (7 : Int32))), s3, s4, s5] [(.int (413 : Int32))])) _
  refine XS.istoreN X0.here hx rfl (hb hby at_37) rfl (l' := #[s0, .val (.int i1), .val (.int (i1 &&& (7 : Int32))), .val (.int (413 : Int32)), s4, s5]) (os_sA2_0_37 hs3) ?_
  show Steps p.tables e below (T0.setTop (mkF m 38 #[s0, .val (.int i1), .val (.int (i1 &&& (7 : Int32))), .val (.int (413 : Int32)), s4, s5] [])) _
  refine XS.goto X0.here hx rfl (pc0 := 38) (pc' := 95) rfl (hb hby at_38) (by decide) (by decide) ?_
  exact kt

theorem os_sA3_0_4 {z0 : Value} {z1 : Value} {s2 : Slot} {s3 : Slot} {s4 : Slot} {s5 : Slot} {v : Int32} (h : One s2) : storeLocals #[.val z0, .val z1, s2, s3, s4, s5] 2 (.int v) = some #[.val z0, .val z1, .val (.int v), s3, s4, s5] := by
  rcases h with rfl | ⟨w, rfl, hw⟩
  · rfl
  · cases w <;> first | rfl | (simp [Value.category] at hw)
theorem os_sA3_0_53 {z0 : Value} {z1 : Value} {z2 : Value} {s3 : Slot} {s4 : Slot} {s5 : Slot} {v : Int32} (h : One s3) : storeLocals #[.val z0, .val z1, .val z2, s3, s4, s5] 3 (.int v) = some #[.val z0, .val z1, .val z2, .val (.int v), s4, s5] := by
  rcases h with rfl | ⟨w, rfl, hw⟩
  · rfl
  · cases w <;> first | rfl | (simp [Value.category] at hw)
set_option maxRecDepth 65536 in
set_option maxHeartbeats 40000000 in
theorem sA3 {p : Program} {l : Launch} {e : Env} {R : Room} {s : State} {m : MethodId} {args : Array Value} {below : List Frame} {meth : Method} {c : Code} {T0 : State} {locs : List Loc} {cells slots : Nat} {Z : State} {a0 : Array Value} {h0 : Heap} (i0 : Int32) (i1 : Int32) (s2 : Slot) (s3 : Slot) (s4 : Slot) (s5 : Slot)
    (X0 : Stand p l e R s m args below meth c T0 locs cells slots) (hx : p.tables.exec = Jvm.exec) (hZ : Z.Warmed39 s.vm) (hw : ∀ d ∈ tables_1, d.before a0 Z = true) (hby : c.code = code) (hml : c.maxLocals = 6) (hown : s.vm.findClass "com/example/tallyd/tallyd/api/ErrorTypeForStatusPinLaw" = some m.cls) (e0 : T0.heap = h0) (hs2 : One s2) (hs3 : One s3) (hc7 : ¬ ((i1 &&& (7 : Int32)) = (1 : Int32))) (hc19 : ¬ ((i1 &&& (7 : Int32)) = (2 : Int32))) (hc31 : ¬ ((i1 &&& (7 : Int32)) = (3 : Int32))) (hc43 : (i1 &&& (7 : Int32)) = (4 : Int32)) :
    ∃ (T' : State), Stand p l e R s m args below meth c T' locs cells slots ∧ T'.heap = h0 ∧
      ∀ target, Steps p.tables e below (T'.setTop (mkF m 95 #[.val (.int i0), .val (.int i1), .val (.int (i1 &&& (7 : Int32))), .val (.int ((499 : Int32) + (i0 &&& (1 : Int32)))), s4, s5] [])) target → Steps p.tables e below (T0.setTop (mkF m 0 #[.val (.int i0), .val (.int i1), s2, s3, s4, s5] [])) target := by

  refine ⟨T0, X0, e0, fun target kt => ?_⟩
  show Steps p.tables e below (T0.setTop (mkF m 0 #[.val (.int i0), .val (.int i1), s2, s3, s4, s5] [])) _
  refine XS.iloadN X0.here hx rfl (hb hby at_0) rfl ?_
  show Steps p.tables e below (T0.setTop (mkF m 1 #[.val (.int i0), .val (.int i1), s2, s3, s4, s5] [(.int i1)])) _
  refine XS.bipush X0.here hx rfl (hb hby at_1) ?_
  show Steps p.tables e below (T0.setTop (mkF m 3 #[.val (.int i0), .val (.int i1), s2, s3, s4, s5] [(.int (7 : Int32)), (.int i1)])) _
  refine XS.iand X0.here hx rfl (hb hby at_3) rfl ?_
  show Steps p.tables e below (T0.setTop (mkF m 4 #[.val (.int i0), .val (.int i1), s2, s3, s4, s5] [(.int (i1 &&& (7 : Int32)))])) _
  refine XS.istoreN X0.here hx rfl (hb hby at_4) rfl (l' := #[.val (.int i0), .val (.int i1), .val (.int (i1 &&& (7 : Int32))), s3, s4, s5]) (os_sA3_0_4 hs2) ?_
  show Steps p.tables e below (T0.setTop (mkF m 5 #[.val (.int i0), .val (.int i1), .val (.int (i1 &&& (7 : Int32))), s3, s4, s5] [])) _
  refine XS.iloadN X0.here hx rfl (hb hby at_5) rfl ?_
  show Steps p.tables e below (T0.setTop (mkF m 6 #[.val (.int i0), .val (.int i1), .val (.int (i1 &&& (7 : Int32))), s3, s4, s5] [(.int (i1 &&& (7 : Int32)))])) _
  refine XS.iconst X0.here hx rfl (hb hby at_6) ?_
  show Steps p.tables e below (T0.setTop (mkF m 7 #[.val (.int i0), .val (.int i1), .val (.int (i1 &&& (7 : Int32))), s3, s4, s5] [(.int (1 : Int32)), (.int (i1 &&& (7 : Int32)))])) _
  refine XS.icmpYes X0.here hx rfl (pc0 := 7) (pc' := 17) rfl (hb hby at_7) rfl (feq hc7).2 (by decide) (by decide) ?_
  show Steps p.tables e below (T0.setTop (mkF m 17 #[.val (.int i0), .val (.int i1), .val (.int (i1 &&& (7 : Int32))), s3, s4, s5] [])) _
  refine XS.iloadN X0.here hx rfl (hb hby at_17) rfl ?_
  show Steps p.tables e below (T0.setTop (mkF m 18 #[.val (.int i0), .val (.int i1), .val (.int (i1 &&& (7 : Int32))), s3, s4, s5] [(.int (i1 &&& (7 : Int32)))])) _
  refine XS.iconst X0.here hx rfl (hb hby at_18) ?_
  show Steps p.tables e below (T0.setTop (mkF m 19 #[.val (.int i0), .val (.int i1), .val (.int (i1 &&& (7 : Int32))), s3, s4, s5] [(.int (2 : Int32)), (.int (i1 &&& (7 : Int32)))])) _
  refine XS.icmpYes X0.here hx rfl (pc0 := 19) (pc' := 29) rfl (hb hby at_19) rfl (feq hc19).2 (by decide) (by decide) ?_
  show Steps p.tables e below (T0.setTop (mkF m 29 #[.val (.int i0), .val (.int i1), .val (.int (i1 &&& (7 : Int32))), s3, s4, s5] [])) _
  refine XS.iloadN X0.here hx rfl (hb hby at_29) rfl ?_
  show Steps p.tables e below (T0.setTop (mkF m 30 #[.val (.int i0), .val (.int i1), .val (.int (i1 &&& (7 : Int32))), s3, s4, s5] [(.int (i1 &&& (7 : Int32)))])) _
  refine XS.iconst X0.here hx rfl (hb hby at_30) ?_
  show Steps p.tables e below (T0.setTop (mkF m 31 #[.val (.int i0), .val (.int i1), .val (.int (i1 &&& (7 : Int32))), s3, s4, s5] [(.int (3 : Int32)), (.int (i1 &&& (7 : Int32)))])) _
  refine XS.icmpYes X0.here hx rfl (pc0 := 31) (pc' := 41) rfl (hb hby at_31) rfl (feq hc31).2 (by decide) (by decide) ?_
  show Steps p.tables e below (T0.setTop (mkF m 41 #[.val (.int i0), .val (.int i1), .val (.int (i1 &&& (7 : Int32))), s3, s4, s5] [])) _
  refine XS.iloadN X0.here hx rfl (hb hby at_41) rfl ?_
  show Steps p.tables e below (T0.setTop (mkF m 42 #[.val (.int i0), .val (.int i1), .val (.int (i1 &&& (7 : Int32))), s3, s4, s5] [(.int (i1 &&& (7 : Int32)))])) _
  refine XS.iconst X0.here hx rfl (hb hby at_42) ?_
  show Steps p.tables e below (T0.setTop (mkF m 43 #[.val (.int i0), .val (.int i1), .val (.int (i1 &&& (7 : Int32))), s3, s4, s5] [(.int (4 : Int32)), (.int (i1 &&& (7 : Int32)))])) _
  refine XS.icmpNo X0.here hx rfl (hb hby at_43) rfl (teq hc43).2 ?_
  show Steps p.tables e below (T0.setTop (mkF m 46 #[.val (.int i0), .val (.int i1), .val (.int (i1 &&& (7 : Int32))), s3, s4, s5] [])) _
  refine XS.sipush X0.here hx rfl (hb hby at_46) ?_
  show Steps p.tables e below (T0.setTop (mkF m 49 #[.val (.int i0), .val (.int i1), .val (.int (i1 &&& (7 : Int32))), s3, s4, s5] [(.int (499 : Int32))])) _
  refine XS.iloadN X0.here hx rfl (hb hby at_49) rfl ?_
  show Steps p.tables e below (T0.setTop (mkF m 50 #[.val (.int i0), .val (.int i1), .val (.int (i1 &&& (7 : Int32))), s3, s4, s5] [(.int i0), (.int (499 : Int32))])) _
  refine XS.iconst X0.here hx rfl (hb hby at_50) ?_
  show Steps p.tables e below (T0.setTop (mkF m 51 #[.val (.int i0), .val (.int i1), .val (.int (i1 &&& (7 : Int32))), s3, s4, s5] [(.int (1 : Int32)), (.int i0), (.int (499 : Int32))])) _
  refine XS.iand X0.here hx rfl (hb hby at_51) rfl ?_
  show Steps p.tables e below (T0.setTop (mkF m 52 #[.val (.int i0), .val (.int i1), .val (.int (i1 &&& (7 : Int32))), s3, s4, s5] [(.int (i0 &&& (1 : Int32))), (.int (499 : Int32))])) _
  refine XS.iadd X0.here hx rfl (hb hby at_52) rfl ?_
  show Steps p.tables e below (T0.setTop (mkF m 53 #[.val (.int i0), .val (.int i1), .val (.int (i1 &&& (7 : Int32))), s3, s4, s5] [(.int ((499 : Int32) + (i0 &&& (1 : Int32))))])) _
  refine XS.istoreN X0.here hx rfl (hb hby at_53) rfl (l' := #[.val (.int i0), .val (.int i1), .val (.int (i1 &&& (7 : Int32))), .val (.int ((499 : Int32) + (i0 &&& (1 : Int32)))), s4, s5]) (os_sA3_0_53 hs3) ?_
  show Steps p.tables e below (T0.setTop (mkF m 54 #[.val (.int i0), .val (.int i1), .val (.int (i1 &&& (7 : Int32))), .val (.int ((499 : Int32) + (i0 &&& (1 : Int32)))), s4, s5] [])) _
  refine XS.goto X0.here hx rfl (pc0 := 54) (pc' := 95) rfl (hb hby at_54) (by decide) (by decide) ?_
  exact kt

theorem os_sA4_0_4 {z0 : Value} {z1 : Value} {s2 : Slot} {s3 : Slot} {s4 : Slot} {s5 : Slot} {v : Int32} (h : One s2) : storeLocals #[.val z0, .val z1, s2, s3, s4, s5] 2 (.int v) = some #[.val z0, .val z1, .val (.int v), s3, s4, s5] := by
  rcases h with rfl | ⟨w, rfl, hw⟩
  · rfl
  · cases w <;> first | rfl | (simp [Value.category] at hw)
theorem os_sA4_0_74 {z0 : Value} {z1 : Value} {z2 : Value} {s3 : Slot} {s4 : Slot} {s5 : Slot} {v : Int32} (h : One s3) : storeLocals #[.val z0, .val z1, .val z2, s3, s4, s5] 3 (.int v) = some #[.val z0, .val z1, .val z2, .val (.int v), s4, s5] := by
  rcases h with rfl | ⟨w, rfl, hw⟩
  · rfl
  · cases w <;> first | rfl | (simp [Value.category] at hw)
set_option maxRecDepth 65536 in
set_option maxHeartbeats 40000000 in
theorem sA4 {p : Program} {l : Launch} {e : Env} {R : Room} {s : State} {m : MethodId} {args : Array Value} {below : List Frame} {meth : Method} {c : Code} {T0 : State} {locs : List Loc} {cells slots : Nat} {Z : State} {a0 : Array Value} {h0 : Heap} (i0 : Int32) (i1 : Int32) (s2 : Slot) (s3 : Slot) (s4 : Slot) (s5 : Slot)
    (X0 : Stand p l e R s m args below meth c T0 locs cells slots) (hx : p.tables.exec = Jvm.exec) (hZ : Z.Warmed39 s.vm) (hw : ∀ d ∈ tables_1, d.before a0 Z = true) (hby : c.code = code) (hml : c.maxLocals = 6) (hown : s.vm.findClass "com/example/tallyd/tallyd/api/ErrorTypeForStatusPinLaw" = some m.cls) (e0 : T0.heap = h0) (hs2 : One s2) (hs3 : One s3) (hc7 : ¬ ((i1 &&& (7 : Int32)) = (1 : Int32))) (hc19 : ¬ ((i1 &&& (7 : Int32)) = (2 : Int32))) (hc31 : ¬ ((i1 &&& (7 : Int32)) = (3 : Int32))) (hc43 : ¬ ((i1 &&& (7 : Int32)) = (4 : Int32))) (hc59 : (i1 &&& (7 : Int32)) = (5 : Int32)) :
    ∃ (T' : State), Stand p l e R s m args below meth c T' locs cells slots ∧ T'.heap = h0 ∧
      ∀ target, Steps p.tables e below (T'.setTop (mkF m 95 #[.val (.int i0), .val (.int i1), .val (.int (i1 &&& (7 : Int32))), .val (.int ((400 : Int32) + ((i0 &&& (2147483647 : Int32)) % (200 : Int32)))), s4, s5] [])) target → Steps p.tables e below (T0.setTop (mkF m 0 #[.val (.int i0), .val (.int i1), s2, s3, s4, s5] [])) target := by

  refine ⟨T0, X0, e0, fun target kt => ?_⟩
  show Steps p.tables e below (T0.setTop (mkF m 0 #[.val (.int i0), .val (.int i1), s2, s3, s4, s5] [])) _
  refine XS.iloadN X0.here hx rfl (hb hby at_0) rfl ?_
  show Steps p.tables e below (T0.setTop (mkF m 1 #[.val (.int i0), .val (.int i1), s2, s3, s4, s5] [(.int i1)])) _
  refine XS.bipush X0.here hx rfl (hb hby at_1) ?_
  show Steps p.tables e below (T0.setTop (mkF m 3 #[.val (.int i0), .val (.int i1), s2, s3, s4, s5] [(.int (7 : Int32)), (.int i1)])) _
  refine XS.iand X0.here hx rfl (hb hby at_3) rfl ?_
  show Steps p.tables e below (T0.setTop (mkF m 4 #[.val (.int i0), .val (.int i1), s2, s3, s4, s5] [(.int (i1 &&& (7 : Int32)))])) _
  refine XS.istoreN X0.here hx rfl (hb hby at_4) rfl (l' := #[.val (.int i0), .val (.int i1), .val (.int (i1 &&& (7 : Int32))), s3, s4, s5]) (os_sA4_0_4 hs2) ?_
  show Steps p.tables e below (T0.setTop (mkF m 5 #[.val (.int i0), .val (.int i1), .val (.int (i1 &&& (7 : Int32))), s3, s4, s5] [])) _
  refine XS.iloadN X0.here hx rfl (hb hby at_5) rfl ?_
  show Steps p.tables e below (T0.setTop (mkF m 6 #[.val (.int i0), .val (.int i1), .val (.int (i1 &&& (7 : Int32))), s3, s4, s5] [(.int (i1 &&& (7 : Int32)))])) _
  refine XS.iconst X0.here hx rfl (hb hby at_6) ?_
  show Steps p.tables e below (T0.setTop (mkF m 7 #[.val (.int i0), .val (.int i1), .val (.int (i1 &&& (7 : Int32))), s3, s4, s5] [(.int (1 : Int32)), (.int (i1 &&& (7 : Int32)))])) _
  refine XS.icmpYes X0.here hx rfl (pc0 := 7) (pc' := 17) rfl (hb hby at_7) rfl (feq hc7).2 (by decide) (by decide) ?_
  show Steps p.tables e below (T0.setTop (mkF m 17 #[.val (.int i0), .val (.int i1), .val (.int (i1 &&& (7 : Int32))), s3, s4, s5] [])) _
  refine XS.iloadN X0.here hx rfl (hb hby at_17) rfl ?_
  show Steps p.tables e below (T0.setTop (mkF m 18 #[.val (.int i0), .val (.int i1), .val (.int (i1 &&& (7 : Int32))), s3, s4, s5] [(.int (i1 &&& (7 : Int32)))])) _
  refine XS.iconst X0.here hx rfl (hb hby at_18) ?_
  show Steps p.tables e below (T0.setTop (mkF m 19 #[.val (.int i0), .val (.int i1), .val (.int (i1 &&& (7 : Int32))), s3, s4, s5] [(.int (2 : Int32)), (.int (i1 &&& (7 : Int32)))])) _
  refine XS.icmpYes X0.here hx rfl (pc0 := 19) (pc' := 29) rfl (hb hby at_19) rfl (feq hc19).2 (by decide) (by decide) ?_
  show Steps p.tables e below (T0.setTop (mkF m 29 #[.val (.int i0), .val (.int i1), .val (.int (i1 &&& (7 : Int32))), s3, s4, s5] [])) _
  refine XS.iloadN X0.here hx rfl (hb hby at_29) rfl ?_
  show Steps p.tables e below (T0.setTop (mkF m 30 #[.val (.int i0), .val (.int i1), .val (.int (i1 &&& (7 : Int32))), s3, s4, s5] [(.int (i1 &&& (7 : Int32)))])) _
  refine XS.iconst X0.here hx rfl (hb hby at_30) ?_
  show Steps p.tables e below (T0.setTop (mkF m 31 #[.val (.int i0), .val (.int i1), .val (.int (i1 &&& (7 : Int32))), s3, s4, s5] [(.int (3 : Int32)), (.int (i1 &&& (7 : Int32)))])) _
  refine XS.icmpYes X0.here hx rfl (pc0 := 31) (pc' := 41) rfl (hb hby at_31) rfl (feq hc31).2 (by decide) (by decide) ?_
  show Steps p.tables e below (T0.setTop (mkF m 41 #[.val (.int i0), .val (.int i1), .val (.int (i1 &&& (7 : Int32))), s3, s4, s5] [])) _
  refine XS.iloadN X0.here hx rfl (hb hby at_41) rfl ?_
  show Steps p.tables e below (T0.setTop (mkF m 42 #[.val (.int i0), .val (.int i1), .val (.int (i1 &&& (7 : Int32))), s3, s4, s5] [(.int (i1 &&& (7 : Int32)))])) _
  refine XS.iconst X0.here hx rfl (hb hby at_42) ?_
  show Steps p.tables e below (T0.setTop (mkF m 43 #[.val (.int i0), .val (.int i1), .val (.int (i1 &&& (7 : Int32))), s3, s4, s5] [(.int (4 : Int32)), (.int (i1 &&& (7 : Int32)))])) _
  refine XS.icmpYes X0.here hx rfl (pc0 := 43) (pc' := 57) rfl (hb hby at_43) rfl (feq hc43).2 (by decide) (by decide) ?_
  show Steps p.tables e below (T0.setTop (mkF m 57 #[.val (.int i0), .val (.int i1), .val (.int (i1 &&& (7 : Int32))), s3, s4, s5] [])) _
  refine XS.iloadN X0.here hx rfl (hb hby at_57) rfl ?_
  show Steps p.tables e below (T0.setTop (mkF m 58 #[.val (.int i0), .val (.int i1), .val (.int (i1 &&& (7 : Int32))), s3, s4, s5] [(.int (i1 &&& (7 : Int32)))])) _
  refine XS.iconst X0.here hx rfl (hb hby at_58) ?_
  show Steps p.tables e below (T0.setTop (mkF m 59 #[.val (.int i0), .val (.int i1), .val (.int (i1 &&& (7 : Int32))), s3, s4, s5] [(.int (5 : Int32)), (.int (i1 &&& (7 : Int32)))])) _
  refine XS.icmpNo X0.here hx rfl (hb hby at_59) rfl (teq hc59).2 ?_
  show Steps p.tables e below (T0.setTop (mkF m 62 #[.val (.int i0), .val (.int i1), .val (.int (i1 &&& (7 : Int32))), s3, s4, s5] [])) _
  refine XS.sipush X0.here hx rfl (hb hby at_62) ?_
  show Steps p.tables e below (T0.setTop (mkF m 65 #[.val (.int i0), .val (.int i1), .val (.int (i1 &&& (7 : Int32))), s3, s4, s5] [(.int (400 : Int32))])) _
  refine XS.iloadN X0.here hx rfl (hb hby at_65) rfl ?_
  show Steps p.tables e below (T0.setTop (mkF m 66 #[.val (.int i0), .val (.int i1), .val (.int (i1 &&& (7 : Int32))), s3, s4, s5] [(.int i0), (.int (400 : Int32))])) _
  refine X0.ldcInt hx hown (mvT hZ (hw _ (List.mem_of_getElem? (i := 13) rfl))) (g := (mkF m 66 #[.val (.int i0), .val (.int i1), .val (.int (i1 &&& (7 : Int32))), s3, s4, s5] [(.int i0), (.int (400 : Int32))])) rfl (hb hby at_66) _ ?_
  show Steps p.tables e below (T0.setTop (mkF m 68 #[.val (.int i0), .val (.int i1), .val (.int (i1 &&& (7 : Int32))), s3, s4, s5] [(.int (2147483647 : Int32)), (.int i0), (.int (400 : Int32))])) _
  refine XS.iand X0.here hx rfl (hb hby at_68) rfl ?_
  show Steps p.tables e below (T0.setTop (mkF m 69 #[.val (.int i0), .val (.int i1), .val (.int (i1 &&& (7 : Int32))), s3, s4, s5] [(.int (i0 &&& (2147483647 : Int32))), (.int (400 : Int32))])) _
  refine XS.sipush X0.here hx rfl (hb hby at_69) ?_
  show Steps p.tables e below (T0.setTop (mkF m 72 #[.val (.int i0), .val (.int i1), .val (.int (i1 &&& (7 : Int32))), s3, s4, s5] [(.int (200 : Int32)), (.int (i0 &&& (2147483647 : Int32))), (.int (400 : Int32))])) _
  refine iremM X0 hx rfl (hb hby at_72) rfl (by decide) ?_
  show Steps p.tables e below (T0.setTop (mkF m 73 #[.val (.int i0), .val (.int i1), .val (.int (i1 &&& (7 : Int32))), s3, s4, s5] [(.int ((i0 &&& (2147483647 : Int32)) % (200 : Int32))), (.int (400 : Int32))])) _
  refine XS.iadd X0.here hx rfl (hb hby at_73) rfl ?_
  show Steps p.tables e below (T0.setTop (mkF m 74 #[.val (.int i0), .val (.int i1), .val (.int (i1 &&& (7 : Int32))), s3, s4, s5] [(.int ((400 : Int32) + ((i0 &&& (2147483647 : Int32)) % (200 : Int32))))])) _
  refine XS.istoreN X0.here hx rfl (hb hby at_74) rfl (l' := #[.val (.int i0), .val (.int i1), .val (.int (i1 &&& (7 : Int32))), .val (.int ((400 : Int32) + ((i0 &&& (2147483647 : Int32)) % (200 : Int32)))), s4, s5]) (os_sA4_0_74 hs3) ?_
  show Steps p.tables e below (T0.setTop (mkF m 75 #[.val (.int i0), .val (.int i1), .val (.int (i1 &&& (7 : Int32))), .val (.int ((400 : Int32) + ((i0 &&& (2147483647 : Int32)) % (200 : Int32)))), s4, s5] [])) _
  refine XS.goto X0.here hx rfl (pc0 := 75) (pc' := 95) rfl (hb hby at_75) (by decide) (by decide) ?_
  exact kt

theorem os_sA5_0_4 {z0 : Value} {z1 : Value} {s2 : Slot} {s3 : Slot} {s4 : Slot} {s5 : Slot} {v : Int32} (h : One s2) : storeLocals #[.val z0, .val z1, s2, s3, s4, s5] 2 (.int v) = some #[.val z0, .val z1, .val (.int v), s3, s4, s5] := by
  rcases h with rfl | ⟨w, rfl, hw⟩
  · rfl
  · cases w <;> first | rfl | (simp [Value.category] at hw)
theorem os_sA5_0_89 {z0 : Value} {z1 : Value} {z2 : Value} {s3 : Slot} {s4 : Slot} {s5 : Slot} {v : Int32} (h : One s3) : storeLocals #[.val z0, .val z1, .val z2, s3, s4, s5] 3 (.int v) = some #[.val z0, .val z1, .val z2, .val (.int v), s4, s5] := by
  rcases h with rfl | ⟨w, rfl, hw⟩
  · rfl
  · cases w <;> first | rfl | (simp [Value.category] at hw)
set_option maxRecDepth 65536 in
set_option maxHeartbeats 40000000 in
theorem sA5 {p : Program} {l : Launch} {e : Env} {R : Room} {s : State} {m : MethodId} {args : Array Value} {below : List Frame} {meth : Method} {c : Code} {T0 : State} {locs : List Loc} {cells slots : Nat} {Z : State} {a0 : Array Value} {h0 : Heap} (i0 : Int32) (i1 : Int32) (s2 : Slot) (s3 : Slot) (s4 : Slot) (s5 : Slot)
    (X0 : Stand p l e R s m args below meth c T0 locs cells slots) (hx : p.tables.exec = Jvm.exec) (hZ : Z.Warmed39 s.vm) (hw : ∀ d ∈ tables_1, d.before a0 Z = true) (hby : c.code = code) (hml : c.maxLocals = 6) (hown : s.vm.findClass "com/example/tallyd/tallyd/api/ErrorTypeForStatusPinLaw" = some m.cls) (e0 : T0.heap = h0) (hs2 : One s2) (hs3 : One s3) (hc7 : ¬ ((i1 &&& (7 : Int32)) = (1 : Int32))) (hc19 : ¬ ((i1 &&& (7 : Int32)) = (2 : Int32))) (hc31 : ¬ ((i1 &&& (7 : Int32)) = (3 : Int32))) (hc43 : ¬ ((i1 &&& (7 : Int32)) = (4 : Int32))) (hc59 : ¬ ((i1 &&& (7 : Int32)) = (5 : Int32))) (hc81 : (i1 &&& (7 : Int32)) = (6 : Int32)) :
    ∃ (T' : State), Stand p l e R s m args below meth c T' locs cells slots ∧ T'.heap = h0 ∧
      ∀ target, Steps p.tables e below (T'.setTop (mkF m 95 #[.val (.int i0), .val (.int i1), .val (.int (i1 &&& (7 : Int32))), .val (.int (i0 &&& (1023 : Int32))), s4, s5] [])) target → Steps p.tables e below (T0.setTop (mkF m 0 #[.val (.int i0), .val (.int i1), s2, s3, s4, s5] [])) target := by

  refine ⟨T0, X0, e0, fun target kt => ?_⟩
  show Steps p.tables e below (T0.setTop (mkF m 0 #[.val (.int i0), .val (.int i1), s2, s3, s4, s5] [])) _
  refine XS.iloadN X0.here hx rfl (hb hby at_0) rfl ?_
  show Steps p.tables e below (T0.setTop (mkF m 1 #[.val (.int i0), .val (.int i1), s2, s3, s4, s5] [(.int i1)])) _
  refine XS.bipush X0.here hx rfl (hb hby at_1) ?_
  show Steps p.tables e below (T0.setTop (mkF m 3 #[.val (.int i0), .val (.int i1), s2, s3, s4, s5] [(.int (7 : Int32)), (.int i1)])) _
  refine XS.iand X0.here hx rfl (hb hby at_3) rfl ?_
  show Steps p.tables e below (T0.setTop (mkF m 4 #[.val (.int i0), .val (.int i1), s2, s3, s4, s5] [(.int (i1 &&& (7 : Int32)))])) _
  refine XS.istoreN X0.here hx rfl (hb hby at_4) rfl (l' := #[.val (.int i0), .val (.int i1), .val (.int (i1 &&& (7 : Int32))), s3, s4, s5]) (os_sA5_0_4 hs2) ?_
  show Steps p.tables e below (T0.setTop (mkF m 5 #[.val (.int i0), .val (.int i1), .val (.int (i1 &&& (7 : Int32))), s3, s4, s5] [])) _
  refine XS.iloadN X0.here hx rfl (hb hby at_5) rfl ?_
  show Steps p.tables e below (T0.setTop (mkF m 6 #[.val (.int i0), .val (.int i1), .val (.int (i1 &&& (7 : Int32))), s3, s4, s5] [(.int (i1 &&& (7 : Int32)))])) _
  refine XS.iconst X0.here hx rfl (hb hby at_6) ?_
  show Steps p.tables e below (T0.setTop (mkF m 7 #[.val (.int i0), .val (.int i1), .val (.int (i1 &&& (7 : Int32))), s3, s4, s5] [(.int (1 : Int32)), (.int (i1 &&& (7 : Int32)))])) _
  refine XS.icmpYes X0.here hx rfl (pc0 := 7) (pc' := 17) rfl (hb hby at_7) rfl (feq hc7).2 (by decide) (by decide) ?_
  show Steps p.tables e below (T0.setTop (mkF m 17 #[.val (.int i0), .val (.int i1), .val (.int (i1 &&& (7 : Int32))), s3, s4, s5] [])) _
  refine XS.iloadN X0.here hx rfl (hb hby at_17) rfl ?_
  show Steps p.tables e below (T0.setTop (mkF m 18 #[.val (.int i0), .val (.int i1), .val (.int (i1 &&& (7 : Int32))), s3, s4, s5] [(.int (i1 &&& (7 : Int32)))])) _
  refine XS.iconst X0.here hx rfl (hb hby at_18) ?_
  show Steps p.tables e below (T0.setTop (mkF m 19 #[.val (.int i0), .val (.int i1), .val (.int (i1 &&& (7 : Int32))), s3, s4, s5] [(.int (2 : Int32)), (.int (i1 &&& (7 : Int32)))])) _
  refine XS.icmpYes X0.here hx rfl (pc0 := 19) (pc' := 29) rfl (hb hby at_19) rfl (feq hc19).2 (by decide) (by decide) ?_
  show Steps p.tables e below (T0.setTop (mkF m 29 #[.val (.int i0), .val (.int i1), .val (.int (i1 &&& (7 : Int32))), s3, s4, s5] [])) _
  refine XS.iloadN X0.here hx rfl (hb hby at_29) rfl ?_
  show Steps p.tables e below (T0.setTop (mkF m 30 #[.val (.int i0), .val (.int i1), .val (.int (i1 &&& (7 : Int32))), s3, s4, s5] [(.int (i1 &&& (7 : Int32)))])) _
  refine XS.iconst X0.here hx rfl (hb hby at_30) ?_
  show Steps p.tables e below (T0.setTop (mkF m 31 #[.val (.int i0), .val (.int i1), .val (.int (i1 &&& (7 : Int32))), s3, s4, s5] [(.int (3 : Int32)), (.int (i1 &&& (7 : Int32)))])) _
  refine XS.icmpYes X0.here hx rfl (pc0 := 31) (pc' := 41) rfl (hb hby at_31) rfl (feq hc31).2 (by decide) (by decide) ?_
  show Steps p.tables e below (T0.setTop (mkF m 41 #[.val (.int i0), .val (.int i1), .val (.int (i1 &&& (7 : Int32))), s3, s4, s5] [])) _
  refine XS.iloadN X0.here hx rfl (hb hby at_41) rfl ?_
  show Steps p.tables e below (T0.setTop (mkF m 42 #[.val (.int i0), .val (.int i1), .val (.int (i1 &&& (7 : Int32))), s3, s4, s5] [(.int (i1 &&& (7 : Int32)))])) _
  refine XS.iconst X0.here hx rfl (hb hby at_42) ?_
  show Steps p.tables e below (T0.setTop (mkF m 43 #[.val (.int i0), .val (.int i1), .val (.int (i1 &&& (7 : Int32))), s3, s4, s5] [(.int (4 : Int32)), (.int (i1 &&& (7 : Int32)))])) _
  refine XS.icmpYes X0.here hx rfl (pc0 := 43) (pc' := 57) rfl (hb hby at_43) rfl (feq hc43).2 (by decide) (by decide) ?_
  show Steps p.tables e below (T0.setTop (mkF m 57 #[.val (.int i0), .val (.int i1), .val (.int (i1 &&& (7 : Int32))), s3, s4, s5] [])) _
  refine XS.iloadN X0.here hx rfl (hb hby at_57) rfl ?_
  show Steps p.tables e below (T0.setTop (mkF m 58 #[.val (.int i0), .val (.int i1), .val (.int (i1 &&& (7 : Int32))), s3, s4, s5] [(.int (i1 &&& (7 : Int32)))])) _
  refine XS.iconst X0.here hx rfl (hb hby at_58) ?_
  show Steps p.tables e below (T0.setTop (mkF m 59 #[.val (.int i0), .val (.int i1), .val (.int (i1 &&& (7 : Int32))), s3, s4, s5] [(.int (5 : Int32)), (.int (i1 &&& (7 : Int32)))])) _
  refine XS.icmpYes X0.here hx rfl (pc0 := 59) (pc' := 78) rfl (hb hby at_59) rfl (feq hc59).2 (by decide) (by decide) ?_
  show Steps p.tables e below (T0.setTop (mkF m 78 #[.val (.int i0), .val (.int i1), .val (.int (i1 &&& (7 : Int32))), s3, s4, s5] [])) _
  refine XS.iloadN X0.here hx rfl (hb hby at_78) rfl ?_
  show Steps p.tables e below (T0.setTop (mkF m 79 #[.val (.int i0), .val (.int i1), .val (.int (i1 &&& (7 : Int32))), s3, s4, s5] [(.int (i1 &&& (7 : Int32)))])) _
  refine XS.bipush X0.here hx rfl (hb hby at_79) ?_
  show Steps p.tables e below (T0.setTop (mkF m 81 #[.val (.int i0), .val (.int i1), .val (.int (i1 &&& (7 : Int32))), s3, s4, s5] [(.int (6 : Int32)), (.int (i1 &&& (7 : Int32)))])) _
  refine XS.icmpNo X0.here hx rfl (hb hby at_81) rfl (teq hc81).2 ?_
  show Steps p.tables e below (T0.setTop (mkF m 84 #[.val (.int i0), .val (.int i1), .val (.int (i1 &&& (7 : Int32))), s3, s4, s5] [])) _
  refine XS.iloadN X0.here hx rfl (hb hby at_84) rfl ?_
  show Steps p.tables e below (T0.setTop (mkF m 85 #[.val (.int i0), .val (.int i1), .val (.int (i1 &&& (7 : Int32))), s3, s4, s5] [(.int i0)])) _
  refine XS.sipush X0.here hx rfl (hb hby at_85) ?_
  show Steps p.tables e below (T0.setTop (mkF m 88 #[.val (.int i0), .val (.int i1), .val (.int (i1 &&& (7 : Int32))), s3, s4, s5] [(.int (1023 : Int32)), (.int i0)])) _
  refine XS.iand X0.here hx rfl (hb hby at_88) rfl ?_
  show Steps p.tables e below (T0.setTop (mkF m 89 #[.val (.int i0), .val (.int i1), .val (.int (i1 &&& (7 : Int32))), s3, s4, s5] [(.int (i0 &&& (1023 : Int32)))])) _
  refine XS.istoreN X0.here hx rfl (hb hby at_89) rfl (l' := #[.val (.int i0), .val (.int i1), .val (.int (i1 &&& (7 : Int32))), .val (.int (i0 &&& (1023 : Int32))), s4, s5]) (os_sA5_0_89 hs3) ?_
  show Steps p.tables e below (T0.setTop (mkF m 90 #[.val (.int i0), .val (.int i1), .val (.int (i1 &&& (7 : Int32))), .val (.int (i0 &&& (1023 : Int32))), s4, s5] [])) _
  refine XS.goto X0.here hx rfl (pc0 := 90) (pc' := 95) rfl (hb hby at_90) (by decide) (by decide) ?_
  exact kt

theorem os_sA6_0_4 {z0 : Value} {z1 : Value} {s2 : Slot} {s3 : Slot} {s4 : Slot} {s5 : Slot} {v : Int32} (h : One s2) : storeLocals #[.val z0, .val z1, s2, s3, s4, s5] 2 (.int v) = some #[.val z0, .val z1, .val (.int v), s3, s4, s5] := by
  rcases h with rfl | ⟨w, rfl, hw⟩
  · rfl
  · cases w <;> first | rfl | (simp [Value.category] at hw)
theorem os_sA6_0_94 {z0 : Value} {z1 : Value} {z2 : Value} {s3 : Slot} {s4 : Slot} {s5 : Slot} {v : Int32} (h : One s3) : storeLocals #[.val z0, .val z1, .val z2, s3, s4, s5] 3 (.int v) = some #[.val z0, .val z1, .val z2, .val (.int v), s4, s5] := by
  rcases h with rfl | ⟨w, rfl, hw⟩
  · rfl
  · cases w <;> first | rfl | (simp [Value.category] at hw)
set_option maxRecDepth 65536 in
set_option maxHeartbeats 40000000 in
theorem sA6 {p : Program} {l : Launch} {e : Env} {R : Room} {s : State} {m : MethodId} {args : Array Value} {below : List Frame} {meth : Method} {c : Code} {T0 : State} {locs : List Loc} {cells slots : Nat} {Z : State} {a0 : Array Value} {h0 : Heap} (i0 : Int32) (i1 : Int32) (s2 : Slot) (s3 : Slot) (s4 : Slot) (s5 : Slot)
    (X0 : Stand p l e R s m args below meth c T0 locs cells slots) (hx : p.tables.exec = Jvm.exec) (hZ : Z.Warmed39 s.vm) (hw : ∀ d ∈ tables_1, d.before a0 Z = true) (hby : c.code = code) (hml : c.maxLocals = 6) (hown : s.vm.findClass "com/example/tallyd/tallyd/api/ErrorTypeForStatusPinLaw" = some m.cls) (e0 : T0.heap = h0) (hs2 : One s2) (hs3 : One s3) (hc7 : ¬ ((i1 &&& (7 : Int32)) = (1 : Int32))) (hc19 : ¬ ((i1 &&& (7 : Int32)) = (2 : Int32))) (hc31 : ¬ ((i1 &&& (7 : Int32)) = (3 : Int32))) (hc43 : ¬ ((i1 &&& (7 : Int32)) = (4 : Int32))) (hc59 : ¬ ((i1 &&& (7 : Int32)) = (5 : Int32))) (hc81 : ¬ ((i1 &&& (7 : Int32)) = (6 : Int32))) :
    ∃ (T' : State), Stand p l e R s m args below meth c T' locs cells slots ∧ T'.heap = h0 ∧
      ∀ target, Steps p.tables e below (T'.setTop (mkF m 95 #[.val (.int i0), .val (.int i1), .val (.int (i1 &&& (7 : Int32))), .val (.int i0), s4, s5] [])) target → Steps p.tables e below (T0.setTop (mkF m 0 #[.val (.int i0), .val (.int i1), s2, s3, s4, s5] [])) target := by

  refine ⟨T0, X0, e0, fun target kt => ?_⟩
  show Steps p.tables e below (T0.setTop (mkF m 0 #[.val (.int i0), .val (.int i1), s2, s3, s4, s5] [])) _
  refine XS.iloadN X0.here hx rfl (hb hby at_0) rfl ?_
  show Steps p.tables e below (T0.setTop (mkF m 1 #[.val (.int i0), .val (.int i1), s2, s3, s4, s5] [(.int i1)])) _
  refine XS.bipush X0.here hx rfl (hb hby at_1) ?_
  show Steps p.tables e below (T0.setTop (mkF m 3 #[.val (.int i0), .val (.int i1), s2, s3, s4, s5] [(.int (7 : Int32)), (.int i1)])) _
  refine XS.iand X0.here hx rfl (hb hby at_3) rfl ?_
  show Steps p.tables e below (T0.setTop (mkF m 4 #[.val (.int i0), .val (.int i1), s2, s3, s4, s5] [(.int (i1 &&& (7 : Int32)))])) _
  refine XS.istoreN X0.here hx rfl (hb hby at_4) rfl (l' := #[.val (.int i0), .val (.int i1), .val (.int (i1 &&& (7 : Int32))), s3, s4, s5]) (os_sA6_0_4 hs2) ?_
  show Steps p.tables e below (T0.setTop (mkF m 5 #[.val (.int i0), .val (.int i1), .val (.int (i1 &&& (7 : Int32))), s3, s4, s5] [])) _
  refine XS.iloadN X0.here hx rfl (hb hby at_5) rfl ?_
  show Steps p.tables e below (T0.setTop (mkF m 6 #[.val (.int i0), .val (.int i1), .val (.int (i1 &&& (7 : Int32))), s3, s4, s5] [(.int (i1 &&& (7 : Int32)))])) _
  refine XS.iconst X0.here hx rfl (hb hby at_6) ?_
  show Steps p.tables e below (T0.setTop (mkF m 7 #[.val (.int i0), .val (.int i1), .val (.int (i1 &&& (7 : Int32))), s3, s4, s5] [(.int (1 : Int32)), (.int (i1 &&& (7 : Int32)))])) _
  refine XS.icmpYes X0.here hx rfl (pc0 := 7) (pc' := 17) rfl (hb hby at_7) rfl (feq hc7).2 (by decide) (by decide) ?_
  show Steps p.tables e below (T0.setTop (mkF m 17 #[.val (.int i0), .val (.int i1), .val (.int (i1 &&& (7 : Int32))), s3, s4, s5] [])) _
  refine XS.iloadN X0.here hx rfl (hb hby at_17) rfl ?_
  show Steps p.tables e below (T0.setTop (mkF m 18 #[.val (.int i0), .val (.int i1), .val (.int (i1 &&& (7 : Int32))), s3, s4, s5] [(.int (i1 &&& (7 : Int32)))])) _
  refine XS.iconst X0.here hx rfl (hb hby at_18) ?_
  show Steps p.tables e below (T0.setTop (mkF m 19 #[.val (.int i0), .val (.int i1), .val (.int (i1 &&& (7 : Int32))), s3, s4, s5] [(.int (2 : Int32)), (.int (i1 &&& (7 : Int32)))])) _
  refine XS.icmpYes X0.here hx rfl (pc0 := 19) (pc' := 29) rfl (hb hby at_19) rfl (feq hc19).2 (by decide) (by decide) ?_
  show Steps p.tables e below (T0.setTop (mkF m 29 #[.val (.int i0), .val (.int i1), .val (.int (i1 &&& (7 : Int32))), s3, s4, s5] [])) _
  refine XS.iloadN X0.here hx rfl (hb hby at_29) rfl ?_
  show Steps p.tables e below (T0.setTop (mkF m 30 #[.val (.int i0), .val (.int i1), .val (.int (i1 &&& (7 : Int32))), s3, s4, s5] [(.int (i1 &&& (7 : Int32)))])) _
  refine XS.iconst X0.here hx rfl (hb hby at_30) ?_
  show Steps p.tables e below (T0.setTop (mkF m 31 #[.val (.int i0), .val (.int i1), .val (.int (i1 &&& (7 : Int32))), s3, s4, s5] [(.int (3 : Int32)), (.int (i1 &&& (7 : Int32)))])) _
  refine XS.icmpYes X0.here hx rfl (pc0 := 31) (pc' := 41) rfl (hb hby at_31) rfl (feq hc31).2 (by decide) (by decide) ?_
  show Steps p.tables e below (T0.setTop (mkF m 41 #[.val (.int i0), .val (.int i1), .val (.int (i1 &&& (7 : Int32))), s3, s4, s5] [])) _
  refine XS.iloadN X0.here hx rfl (hb hby at_41) rfl ?_
  show Steps p.tables e below (T0.setTop (mkF m 42 #[.val (.int i0), .val (.int i1), .val (.int (i1 &&& (7 : Int32))), s3, s4, s5] [(.int (i1 &&& (7 : Int32)))])) _
  refine XS.iconst X0.here hx rfl (hb hby at_42) ?_
  show Steps p.tables e below (T0.setTop (mkF m 43 #[.val (.int i0), .val (.int i1), .val (.int (i1 &&& (7 : Int32))), s3, s4, s5] [(.int (4 : Int32)), (.int (i1 &&& (7 : Int32)))])) _
  refine XS.icmpYes X0.here hx rfl (pc0 := 43) (pc' := 57) rfl (hb hby at_43) rfl (feq hc43).2 (by decide) (by decide) ?_
  show Steps p.tables e below (T0.setTop (mkF m 57 #[.val (.int i0), .val (.int i1), .val (.int (i1 &&& (7 : Int32))), s3, s4, s5] [])) _
  refine XS.iloadN X0.here hx rfl (hb hby at_57) rfl ?_
  show Steps p.tables e below (T0.setTop (mkF m 58 #[.val (.int i0), .val (.int i1), .val (.int (i1 &&& (7 : Int32))), s3, s4, s5] [(.int (i1 &&& (7 : Int32)))])) _
  refine XS.iconst X0.here hx rfl (hb hby at_58) ?_
  show Steps p.tables e below (T0.setTop (mkF m 59 #[.val (.int i0), .val (.int i1), .val (.int (i1 &&& (7 : Int32))), s3, s4, s5] [(.int (5 : Int32)), (.int (i1 &&& (7 : Int32)))])) _
  refine XS.icmpYes X0.here hx rfl (pc0 := 59) (pc' := 78) rfl (hb hby at_59) rfl (feq hc59).2 (by decide) (by decide) ?_
  show Steps p.tables e below (T0.setTop (mkF m 78 #[.val (.int i0), .val (.int i1), .val (.int (i1 &&& (7 : Int32))), s3, s4, s5] [])) _
  refine XS.iloadN X0.here hx rfl (hb hby at_78) rfl ?_
  show Steps p.tables e below (T0.setTop (mkF m 79 #[.val (.int i0), .val (.int i1), .val (.int (i1 &&& (7 : Int32))), s3, s4, s5] [(.int (i1 &&& (7 : Int32)))])) _
  refine XS.bipush X0.here hx rfl (hb hby at_79) ?_
  show Steps p.tables e below (T0.setTop (mkF m 81 #[.val (.int i0), .val (.int i1), .val (.int (i1 &&& (7 : Int32))), s3, s4, s5] [(.int (6 : Int32)), (.int (i1 &&& (7 : Int32)))])) _
  refine XS.icmpYes X0.here hx rfl (pc0 := 81) (pc' := 93) rfl (hb hby at_81) rfl (feq hc81).2 (by decide) (by decide) ?_
  show Steps p.tables e below (T0.setTop (mkF m 93 #[.val (.int i0), .val (.int i1), .val (.int (i1 &&& (7 : Int32))), s3, s4, s5] [])) _
  refine XS.iloadN X0.here hx rfl (hb hby at_93) rfl ?_
  show Steps p.tables e below (T0.setTop (mkF m 94 #[.val (.int i0), .val (.int i1), .val (.int (i1 &&& (7 : Int32))), s3, s4, s5] [(.int i0)])) _
  refine XS.istoreN X0.here hx rfl (hb hby at_94) rfl (l' := #[.val (.int i0), .val (.int i1), .val (.int (i1 &&& (7 : Int32))), .val (.int i0), s4, s5]) (os_sA6_0_94 hs3) ?_
  exact kt

theorem own_A {p : Program} {l : Launch} {e : Env} {R : Room} {s : State} {m : MethodId} {args : Array Value} {below : List Frame} {meth : Method} {c : Code} {T0 : State} {locs : List Loc} {cells slots : Nat} {Z : State} {a0 : Array Value} {h0 : Heap} (i0 i1 : Int32) (X0 : Stand p l e R s m args below meth c T0 locs cells slots) (hx : p.tables.exec = Jvm.exec) (hZ : Z.Warmed39 s.vm) (hw : ∀ d ∈ tables_1, d.before a0 Z = true) (hby : c.code = code) (hml : c.maxLocals = 6) (hown : s.vm.findClass "com/example/tallyd/tallyd/api/ErrorTypeForStatusPinLaw" = some m.cls) (e0 : T0.heap = h0) :
    ∃ (st : Int32) (T' : State), Stand p l e R s m args below meth c T' locs cells slots ∧ T'.heap = h0 ∧
      ∀ target, Steps p.tables e below (T'.setTop (mkF m 95 #[.val (.int i0), .val (.int i1), .val (.int (i1 &&& (7 : Int32))), .val (.int st), .unset, .unset] [])) target → Steps p.tables e below (T0.setTop (mkF m 0 #[.val (.int i0), .val (.int i1), .unset, .unset, .unset, .unset] [])) target := by
  by_cases q0 : (i1 &&& (7 : Int32)) = (1 : Int32)
  · obtain ⟨T', X', e', kk⟩ := sA0 (s0 := .val (.int i0)) (i1 := i1) (s2 := .unset) (s3 := .unset) (s4 := .unset) (s5 := .unset) (X0 := X0) (hx := hx) (hZ := hZ) (hw := hw) (hby := hby) (hml := hml) (hown := hown) (e0 := e0) (hs2 := One.u) (hs3 := One.u) (hc7 := q0)
    exact ⟨_, T', X', e', kk⟩
  by_cases q1 : (i1 &&& (7 : Int32)) = (2 : Int32)
  · obtain ⟨T', X', e', kk⟩ := sA1 (s0 := .val (.int i0)) (i1 := i1) (s2 := .unset) (s3 := .unset) (s4 := .unset) (s5 := .unset) (X0 := X0) (hx := hx) (hZ := hZ) (hw := hw) (hby := hby) (hml := hml) (hown := hown) (e0 := e0) (hs2 := One.u) (hs3 := One.u) (hc7 := q0) (hc19 := q1)
    exact ⟨_, T', X', e', kk⟩
  by_cases q2 : (i1 &&& (7 : Int32)) = (3 : Int32)
  · obtain ⟨T', X', e', kk⟩ := sA2 (s0 := .val (.int i0)) (i1 := i1) (s2 := .unset) (s3 := .unset) (s4 := .unset) (s5 := .unset) (X0 := X0) (hx := hx) (hZ := hZ) (hw := hw) (hby := hby) (hml := hml) (hown := hown) (e0 := e0) (hs2 := One.u) (hs3 := One.u) (hc7 := q0) (hc19 := q1) (hc31 := q2)
    exact ⟨_, T', X', e', kk⟩
  by_cases q3 : (i1 &&& (7 : Int32)) = (4 : Int32)
  · obtain ⟨T', X', e', kk⟩ := sA3 (i0 := i0) (i1 := i1) (s2 := .unset) (s3 := .unset) (s4 := .unset) (s5 := .unset) (X0 := X0) (hx := hx) (hZ := hZ) (hw := hw) (hby := hby) (hml := hml) (hown := hown) (e0 := e0) (hs2 := One.u) (hs3 := One.u) (hc7 := q0) (hc19 := q1) (hc31 := q2) (hc43 := q3)
    exact ⟨_, T', X', e', kk⟩
  by_cases q4 : (i1 &&& (7 : Int32)) = (5 : Int32)
  · obtain ⟨T', X', e', kk⟩ := sA4 (i0 := i0) (i1 := i1) (s2 := .unset) (s3 := .unset) (s4 := .unset) (s5 := .unset) (X0 := X0) (hx := hx) (hZ := hZ) (hw := hw) (hby := hby) (hml := hml) (hown := hown) (e0 := e0) (hs2 := One.u) (hs3 := One.u) (hc7 := q0) (hc19 := q1) (hc31 := q2) (hc43 := q3) (hc59 := q4)
    exact ⟨_, T', X', e', kk⟩
  by_cases q5 : (i1 &&& (7 : Int32)) = (6 : Int32)
  · obtain ⟨T', X', e', kk⟩ := sA5 (i0 := i0) (i1 := i1) (s2 := .unset) (s3 := .unset) (s4 := .unset) (s5 := .unset) (X0 := X0) (hx := hx) (hZ := hZ) (hw := hw) (hby := hby) (hml := hml) (hown := hown) (e0 := e0) (hs2 := One.u) (hs3 := One.u) (hc7 := q0) (hc19 := q1) (hc31 := q2) (hc43 := q3) (hc59 := q4) (hc81 := q5)
    exact ⟨_, T', X', e', kk⟩
  obtain ⟨T', X', e', kk⟩ := sA6 (i0 := i0) (i1 := i1) (s2 := .unset) (s3 := .unset) (s4 := .unset) (s5 := .unset) (X0 := X0) (hx := hx) (hZ := hZ) (hw := hw) (hby := hby) (hml := hml) (hown := hown) (e0 := e0) (hs2 := One.u) (hs3 := One.u) (hc7 := q0) (hc19 := q1) (hc31 := q2) (hc43 := q3) (hc59 := q4) (hc81 := q5)
  exact ⟨_, T', X', e', kk⟩
theorem os_sC0_0_111 {s0 : Slot} {s1 : Slot} {s2 : Slot} {z3 : Value} {z4 : Value} {s5 : Slot} {v : Addr} (h : One s5) : storeLocals #[s0, s1, s2, .val z3, .val z4, s5] 5 (.ref v) = some #[s0, s1, s2, .val z3, .val z4, .val (.ref v)] := by
  rcases h with rfl | ⟨w, rfl, hw⟩
  · rfl
  · cases w <;> first | rfl | (simp [Value.category] at hw)
set_option maxRecDepth 65536 in
set_option maxHeartbeats 40000000 in
theorem sC0 {p : Program} {l : Launch} {e : Env} {R : Room} {s : State} {m : MethodId} {args : Array Value} {below : List Frame} {meth : Method} {c : Code} {T0 : State} {locs : List Loc} {cells slots : Nat} {Z : State} {a0 : Array Value} {h0 : Heap} (s0 : Slot) (s1 : Slot) (s2 : Slot) (i3 : Int32) (o4 : Addr) (s5 : Slot) (w3 : Addr)
    (X0 : Stand p l e R s m args below meth c T0 locs cells slots) (hx : p.tables.exec = Jvm.exec) (hZ : Z.Warmed39 s.vm) (hw : ∀ d ∈ tables_1, d.before a0 Z = true) (hby : c.code = code) (hml : c.maxLocals = 6) (hown : s.vm.findClass "com/example/tallyd/tallyd/api/ErrorTypeForStatusPinLaw" = some m.cls) (e0 : T0.heap = h0) (S_INTERNAL_ERROR : Sta Z h0 "com/example/tallyd/tallyd/api/ErrorType" "INTERNAL_ERROR" "Lcom/example/tallyd/tallyd/api/ErrorType;" (.ref w3)) (hs5 : One s5) (hc105 : ¬ (i3 < (500 : Int32))) (ha170 : o4 = w3) :
    ∃ (T' : State), Stand p l e R s m args below meth c T' locs cells slots ∧ T'.heap = h0 ∧
      ∀ target, Steps p.tables e below (T'.setTop (mkF m 173 #[s0, s1, s2, .val (.int i3), .val (.ref o4), .val (.ref w3)] [])) target → Steps p.tables e below (T0.setTop (mkF m 101 #[s0, s1, s2, .val (.int i3), .val (.ref o4), s5] [])) target := by
  obtain ⟨T4, X4, e4, st4⟩ := getS2 X0 hx hZ hown (host := "") (Or.inl (hw _ (List.mem_of_getElem? (i := 16) rfl))) Via.refl e0 S_INTERNAL_ERROR (g := (mkF m 108 #[s0, s1, s2, .val (.int i3), .val (.ref o4), s5] [])) rfl (hb hby at_108)
  refine ⟨T4, X4, e4, fun target kt => ?_⟩
  show Steps p.tables e below (T0.setTop (mkF m 101 #[s0, s1, s2, .val (.int i3), .val (.ref o4), s5] [])) _
  refine XS.iloadN X0.here hx rfl (hb hby at_101) rfl ?_
  show Steps p.tables e below (T0.setTop (mkF m 102 #[s0, s1, s2, .val (.int i3), .val (.ref o4), s5] [(.int i3)])) _
  refine XS.sipush X0.here hx rfl (hb hby at_102) ?_
  show Steps p.tables e below (T0.setTop (mkF m 105 #[s0, s1, s2, .val (.int i3), .val (.ref o4), s5] [(.int (500 : Int32)), (.int i3)])) _
  refine XS.icmpNo X0.here hx rfl (hb hby at_105) rfl (flt hc105).1 ?_
  show Steps p.tables e below (T0.setTop (mkF m 108 #[s0, s1, s2, .val (.int i3), .val (.ref o4), s5] [])) _
  refine st4 _ ?_
  show Steps p.tables e below (T4.setTop (mkF m 111 #[s0, s1, s2, .val (.int i3), .val (.ref o4), s5] [(.ref w3)])) _
  refine XS.astore X4.here hx rfl (hb hby at_111) rfl rfl (l' := #[s0, s1, s2, .val (.int i3), .val (.ref o4), .val (.ref w3)]) (os_sC0_0_111 hs5) ?_
  show Steps p.tables e below (T4.setTop (mkF m 113 #[s0, s1, s2, .val (.int i3), .val (.ref o4), .val (.ref w3)] [])) _
  refine XS.goto X4.here hx rfl (pc0 := 113) (pc' := 166) rfl (hb hby at_113) (by decide) (by decide) ?_
  show Steps p.tables e below (T4.setTop (mkF m 166 #[s0, s1, s2, .val (.int i3), .val (.ref o4), .val (.ref w3)] [])) _
  refine XS.aload X4.here hx rfl (hb hby at_166) rfl rfl ?_
  show Steps p.tables e below (T4.setTop (mkF m 168 #[s0, s1, s2, .val (.int i3), .val (.ref o4), .val (.ref w3)] [(.ref o4)])) _
  refine XS.aload X4.here hx rfl (hb hby at_168) rfl rfl ?_
  show Steps p.tables e below (T4.setTop (mkF m 170 #[s0, s1, s2, .val (.int i3), .val (.ref o4), .val (.ref w3)] [(.ref w3), (.ref o4)])) _
  refine Jvm.RoadKit.acmp (g := (mkF m 170 #[s0, s1, s2, .val (.int i3), .val (.ref o4), .val (.ref w3)] [(.ref w3), (.ref o4)])) X4 hx rfl rfl rfl (pc0 := 170) (pc' := 173) (same := true) rfl (hb hby at_170) rfl (decide_eq_true (congrArg Value.ref ha170)) (by decide) (by decide) ?_
  exact kt

theorem os_sC1_0_126 {s0 : Slot} {s1 : Slot} {s2 : Slot} {z3 : Value} {z4 : Value} {s5 : Slot} {v : Addr} (h : One s5) : storeLocals #[s0, s1, s2, .val z3, .val z4, s5] 5 (.ref v) = some #[s0, s1, s2, .val z3, .val z4, .val (.ref v)] := by
  rcases h with rfl | ⟨w, rfl, hw⟩
  · rfl
  · cases w <;> first | rfl | (simp [Value.category] at hw)
set_option maxRecDepth 65536 in
set_option maxHeartbeats 40000000 in
theorem sC1 {p : Program} {l : Launch} {e : Env} {R : Room} {s : State} {m : MethodId} {args : Array Value} {below : List Frame} {meth : Method} {c : Code} {T0 : State} {locs : List Loc} {cells slots : Nat} {Z : State} {a0 : Array Value} {h0 : Heap} (s0 : Slot) (s1 : Slot) (s2 : Slot) (i3 : Int32) (o4 : Addr) (s5 : Slot) (w3 : Addr)
    (X0 : Stand p l e R s m args below meth c T0 locs cells slots) (hx : p.tables.exec = Jvm.exec) (hZ : Z.Warmed39 s.vm) (hw : ∀ d ∈ tables_1, d.before a0 Z = true) (hby : c.code = code) (hml : c.maxLocals = 6) (hown : s.vm.findClass "com/example/tallyd/tallyd/api/ErrorTypeForStatusPinLaw" = some m.cls) (e0 : T0.heap = h0) (S_UNAUTHORIZED : Sta Z h0 "com/example/tallyd/tallyd/api/ErrorType" "UNAUTHORIZED" "Lcom/example/tallyd/tallyd/api/ErrorType;" (.ref w3)) (hs5 : One s5) (hc105 : i3 < (500 : Int32)) (hc120 : i3 = (401 : Int32)) (ha170 : o4 = w3) :
    ∃ (T' : State), Stand p l e R s m args below meth c T' locs cells slots ∧ T'.heap = h0 ∧
      ∀ target, Steps p.tables e below (T'.setTop (mkF m 173 #[s0, s1, s2, .val (.int i3), .val (.ref o4), .val (.ref w3)] [])) target → Steps p.tables e below (T0.setTop (mkF m 101 #[s0, s1, s2, .val (.int i3), .val (.ref o4), s5] [])) target := by
  obtain ⟨T4, X4, e4, st4⟩ := getS2 X0 hx hZ hown (host := "") (Or.inl (hw _ (List.mem_of_getElem? (i := 9) rfl))) Via.refl e0 S_UNAUTHORIZED (g := (mkF m 123 #[s0, s1, s2, .val (.int i3), .val (.ref o4), s5] [])) rfl (hb hby at_123)
  refine ⟨T4, X4, e4, fun target kt => ?_⟩
  show Steps p.tables e below (T0.setTop (mkF m 101 #[s0, s1, s2, .val (.int i3), .val (.ref o4), s5] [])) _
  refine XS.iloadN X0.here hx rfl (hb hby at_101) rfl ?_
  show Steps p.tables e below (T0.setTop (mkF m 102 #[s0, s1, s2, .val (.int i3), .val (.ref o4), s5] [(.int i3)])) _
  refine XS.sipush X0.here hx rfl (hb hby at_102) ?_
  show Steps p.tables e below (T0.setTop (mkF m 105 #[s0, s1, s2, .val (.int i3), .val (.ref o4), s5] [(.int (500 : Int32)), (.int i3)])) _
  refine XS.icmpYes X0.here hx rfl (pc0 := 105) (pc' := 116) rfl (hb hby at_105) rfl (tlt hc105).1 (by decide) (by decide) ?_
  show Steps p.tables e below (T0.setTop (mkF m 116 #[s0, s1, s2, .val (.int i3), .val (.ref o4), s5] [])) _
  refine XS.iloadN X0.here hx rfl (hb hby at_116) rfl ?_
  show Steps p.tables e below (T0.setTop (mkF m 117 #[s0, s1, s2, .val (.int i3), .val (.ref o4), s5] [(.int i3)])) _
  refine XS.sipush X0.here hx rfl (hb hby at_117) ?_
  show Steps p.tables e below (T0.setTop (mkF m 120 #[s0, s1, s2, .val (.int i3), .val (.ref o4), s5] [(.int (401 : Int32)), (.int i3)])) _
  refine XS.icmpNo X0.here hx rfl (hb hby at_120) rfl (teq hc120).2 ?_
  show Steps p.tables e below (T0.setTop (mkF m 123 #[s0, s1, s2, .val (.int i3), .val (.ref o4), s5] [])) _
  refine st4 _ ?_
  show Steps p.tables e below (T4.setTop (mkF m 126 #[s0, s1, s2, .val (.int i3), .val (.ref o4), s5] [(.ref w3)])) _
  refine XS.astore X4.here hx rfl (hb hby at_126) rfl rfl (l' := #[s0, s1, s2, .val (.int i3), .val (.ref o4), .val (.ref w3)]) (os_sC1_0_126 hs5) ?_
  show Steps p.tables e below (T4.setTop (mkF m 128 #[s0, s1, s2, .val (.int i3), .val (.ref o4), .val (.ref w3)] [])) _
  refine XS.goto X4.here hx rfl (pc0 := 128) (pc' := 166) rfl (hb hby at_128) (by decide) (by decide) ?_
  show Steps p.tables e below (T4.setTop (mkF m 166 #[s0, s1, s2, .val (.int i3), .val (.ref o4), .val (.ref w3)] [])) _
  refine XS.aload X4.here hx rfl (hb hby at_166) rfl rfl ?_
  show Steps p.tables e below (T4.setTop (mkF m 168 #[s0, s1, s2, .val (.int i3), .val (.ref o4), .val (.ref w3)] [(.ref o4)])) _
  refine XS.aload X4.here hx rfl (hb hby at_168) rfl rfl ?_
  show Steps p.tables e below (T4.setTop (mkF m 170 #[s0, s1, s2, .val (.int i3), .val (.ref o4), .val (.ref w3)] [(.ref w3), (.ref o4)])) _
  refine Jvm.RoadKit.acmp (g := (mkF m 170 #[s0, s1, s2, .val (.int i3), .val (.ref o4), .val (.ref w3)] [(.ref w3), (.ref o4)])) X4 hx rfl rfl rfl (pc0 := 170) (pc' := 173) (same := true) rfl (hb hby at_170) rfl (decide_eq_true (congrArg Value.ref ha170)) (by decide) (by decide) ?_
  exact kt

theorem os_sC2_0_141 {s0 : Slot} {s1 : Slot} {s2 : Slot} {z3 : Value} {z4 : Value} {s5 : Slot} {v : Addr} (h : One s5) : storeLocals #[s0, s1, s2, .val z3, .val z4, s5] 5 (.ref v) = some #[s0, s1, s2, .val z3, .val z4, .val (.ref v)] := by
  rcases h with rfl | ⟨w, rfl, hw⟩
  · rfl
  · cases w <;> first | rfl | (simp [Value.category] at hw)
set_option maxRecDepth 65536 in
set_option maxHeartbeats 40000000 in
theorem sC2 {p : Program} {l : Launch} {e : Env} {R : Room} {s : State} {m : MethodId} {args : Array Value} {below : List Frame} {meth : Method} {c : Code} {T0 : State} {locs : List Loc} {cells slots : Nat} {Z : State} {a0 : Array Value} {h0 : Heap} (s0 : Slot) (s1 : Slot) (s2 : Slot) (i3 : Int32) (o4 : Addr) (s5 : Slot) (w3 : Addr)
    (X0 : Stand p l e R s m args below meth c T0 locs cells slots) (hx : p.tables.exec = Jvm.exec) (hZ : Z.Warmed39 s.vm) (hw : ∀ d ∈ tables_1, d.before a0 Z = true) (hby : c.code = code) (hml : c.maxLocals = 6) (hown : s.vm.findClass "com/example/tallyd/tallyd/api/ErrorTypeForStatusPinLaw" = some m.cls) (e0 : T0.heap = h0) (S_NOT_FOUND : Sta Z h0 "com/example/tallyd/tallyd/api/ErrorType" "NOT_FOUND" "Lcom/example/tallyd/tallyd/api/ErrorType;" (.ref w3)) (hs5 : One s5) (hc105 : i3 < (500 : Int32)) (hc120 : ¬ (i3 = (401 : Int32))) (hc135 : i3 = (404 : Int32)) (ha170 : o4 = w3) :
    ∃ (T' : State), Stand p l e R s m args below meth c T' locs cells slots ∧ T'.heap = h0 ∧
      ∀ target, Steps p.tables e below (T'.setTop (mkF m 173 #[s0, s1, s2, .val (.int i3), .val (.ref o4), .val (.ref w3)] [])) target → Steps p.tables e below (T0.setTop (mkF m 101 #[s0, s1, s2, .val (.int i3), .val (.ref o4), s5] [])) target := by
  obtain ⟨T4, X4, e4, st4⟩ := getS2 X0 hx hZ hown (host := "") (Or.inl (hw _ (List.mem_of_getElem? (i := 19) rfl))) Via.refl e0 S_NOT_FOUND (g := (mkF m 138 #[s0, s1, s2, .val (.int i3), .val (.ref o4), s5] [])) rfl (hb hby at_138)
  refine ⟨T4, X4, e4, fun target kt => ?_⟩
  show Steps p.tables e below (T0.setTop (mkF m 101 #[s0, s1, s2, .val (.int i3), .val (.ref o4), s5] [])) _
  refine XS.iloadN X0.here hx rfl (hb hby at_101) rfl ?_
  show Steps p.tables e below (T0.setTop (mkF m 102 #[s0, s1, s2, .val (.int i3), .val (.ref o4), s5] [(.int i3)])) _
  refine XS.sipush X0.here hx rfl (hb hby at_102) ?_
  show Steps p.tables e below (T0.setTop (mkF m 105 #[s0, s1, s2, .val (.int i3), .val (.ref o4), s5] [(.int (500 : Int32)), (.int i3)])) _
  refine XS.icmpYes X0.here hx rfl (pc0 := 105) (pc' := 116) rfl (hb hby at_105) rfl (tlt hc105).1 (by decide) (by decide) ?_
  show Steps p.tables e below (T0.setTop (mkF m 116 #[s0, s1, s2, .val (.int i3), .val (.ref o4), s5] [])) _
  refine XS.iloadN X0.here hx rfl (hb hby at_116) rfl ?_
  show Steps p.tables e below (T0.setTop (mkF m 117 #[s0, s1, s2, .val (.int i3), .val (.ref o4), s5] [(.int i3)])) _
  refine XS.sipush X0.here hx rfl (hb hby at_117) ?_
  show Steps p.tables e below (T0.setTop (mkF m 120 #[s0, s1, s2, .val (.int i3), .val (.ref o4), s5] [(.int (401 : Int32)), (.int i3)])) _
  refine XS.icmpYes X0.here hx rfl (pc0 := 120) (pc' := 131) rfl (hb hby at_120) rfl (feq hc120).2 (by decide) (by decide) ?_
  show Steps p.tables e below (T0.setTop (mkF m 131 #[s0, s1, s2, .val (.int i3), .val (.ref o4), s5] [])) _
  refine XS.iloadN X0.here hx rfl (hb hby at_131) rfl ?_
  show Steps p.tables e below (T0.setTop (mkF m 132 #[s0, s1, s2, .val (.int i3), .val (.ref o4), s5] [(.int i3)])) _
  refine XS.sipush X0.here hx rfl (hb hby at_132) ?_
  show Steps p.tables e below (T0.setTop (mkF m 135 #[s0, s1, s2, .val (.int i3), .val (.ref o4), s5] [(.int (404 : Int32)), (.int i3)])) _
  refine XS.icmpNo X0.here hx rfl (hb hby at_135) rfl (teq hc135).2 ?_
  show Steps p.tables e below (T0.setTop (mkF m 138 #[s0, s1, s2, .val (.int i3), .val (.ref o4), s5] [])) _
  refine st4 _ ?_
  show Steps p.tables e below (T4.setTop (mkF m 141 #[s0, s1, s2, .val (.int i3), .val (.ref o4), s5] [(.ref w3)])) _
  refine XS.astore X4.here hx rfl (hb hby at_141) rfl rfl (l' := #[s0, s1, s2, .val (.int i3), .val (.ref o4), .val (.ref w3)]) (os_sC2_0_141 hs5) ?_
  show Steps p.tables e below (T4.setTop (mkF m 143 #[s0, s1, s2, .val (.int i3), .val (.ref o4), .val (.ref w3)] [])) _
  refine XS.goto X4.here hx rfl (pc0 := 143) (pc' := 166) rfl (hb hby at_143) (by decide) (by decide) ?_
  show Steps p.tables e below (T4.setTop (mkF m 166 #[s0, s1, s2, .val (.int i3), .val (.ref o4), .val (.ref w3)] [])) _
  refine XS.aload X4.here hx rfl (hb hby at_166) rfl rfl ?_
  show Steps p.tables e below (T4.setTop (mkF m 168 #[s0, s1, s2, .val (.int i3), .val (.ref o4), .val (.ref w3)] [(.ref o4)])) _
  refine XS.aload X4.here hx rfl (hb hby at_168) rfl rfl ?_
  show Steps p.tables e below (T4.setTop (mkF m 170 #[s0, s1, s2, .val (.int i3), .val (.ref o4), .val (.ref w3)] [(.ref w3), (.ref o4)])) _
  refine Jvm.RoadKit.acmp (g := (mkF m 170 #[s0, s1, s2, .val (.int i3), .val (.ref o4), .val (.ref w3)] [(.ref w3), (.ref o4)])) X4 hx rfl rfl rfl (pc0 := 170) (pc' := 173) (same := true) rfl (hb hby at_170) rfl (decide_eq_true (congrArg Value.ref ha170)) (by decide) (by decide) ?_
  exact kt

theorem os_sC3_0_156 {s0 : Slot} {s1 : Slot} {s2 : Slot} {z3 : Value} {z4 : Value} {s5 : Slot} {v : Addr} (h : One s5) : storeLocals #[s0, s1, s2, .val z3, .val z4, s5] 5 (.ref v) = some #[s0, s1, s2, .val z3, .val z4, .val (.ref v)] := by
  rcases h with rfl | ⟨w, rfl, hw⟩
  · rfl
  · cases w <;> first | rfl | (simp [Value.category] at hw)
set_option maxRecDepth 65536 in
set_option maxHeartbeats 40000000 in
theorem sC3 {p : Program} {l : Launch} {e : Env} {R : Room} {s : State} {m : MethodId} {args : Array Value} {below : List Frame} {meth : Method} {c : Code} {T0 : State} {locs : List Loc} {cells slots : Nat} {Z : State} {a0 : Array Value} {h0 : Heap} (s0 : Slot) (s1 : Slot) (s2 : Slot) (i3 : Int32) (o4 : Addr) (s5 : Slot) (w3 : Addr)
    (X0 : Stand p l e R s m args below meth c T0 locs cells slots) (hx : p.tables.exec = Jvm.exec) (hZ : Z.Warmed39 s.vm) (hw : ∀ d ∈ tables_1, d.before a0 Z = true) (hby : c.code = code) (hml : c.maxLocals = 6) (hown : s.vm.findClass "com/example/tallyd/tallyd/api/ErrorTypeForStatusPinLaw" = some m.cls) (e0 : T0.heap = h0) (S_PAYLOAD_TOO_LARGE : Sta Z h0 "com/example/tallyd/tallyd/api/ErrorType" "PAYLOAD_TOO_LARGE" "Lcom/example/tallyd/tallyd/api/ErrorType;" (.ref w3)) (hs5 : One s5) (hc105 : i3 < (500 : Int32)) (hc120 : ¬ (i3 = (401 : Int32))) (hc135 : ¬ (i3 = (404 : Int32))) (hc150 : i3 = (413 : Int32)) (ha170 : o4 = w3) :
    ∃ (T' : State), Stand p l e R s m args below meth c T' locs cells slots ∧ T'.heap = h0 ∧
      ∀ target, Steps p.tables e below (T'.setTop (mkF m 173 #[s0, s1, s2, .val (.int i3), .val (.ref o4), .val (.ref w3)] [])) target → Steps p.tables e below (T0.setTop (mkF m 101 #[s0, s1, s2, .val (.int i3), .val (.ref o4), s5] [])) target := by
  obtain ⟨T4, X4, e4, st4⟩ := getS2 X0 hx hZ hown (host := "") (Or.inl (hw _ (List.mem_of_getElem? (i := 6) rfl))) Via.refl e0 S_PAYLOAD_TOO_LARGE (g := (mkF m 153 #[s0, s1, s2, .val (.int i3), .val (.ref o4), s5] [])) rfl (hb hby at_153)
  refine ⟨T4, X4, e4, fun target kt => ?_⟩
  show Steps p.tables e below (T0.setTop (mkF m 101 #[s0, s1, s2, .val (.int i3), .val (.ref o4), s5] [])) _
  refine XS.iloadN X0.here hx rfl (hb hby at_101) rfl ?_
  show Steps p.tables e below (T0.setTop (mkF m 102 #[s0, s1, s2, .val (.int i3), .val (.ref o4), s5] [(.int i3)])) _
  refine XS.sipush X0.here hx rfl (hb hby at_102) ?_
  show Steps p.tables e below (T0.setTop (mkF m 105 #[s0, s1, s2, .val (.int i3), .val (.ref o4), s5] [(.int (500 : Int32)), (.int i3)])) _
  refine XS.icmpYes X0.here hx rfl (pc0 := 105) (pc' := 116) rfl (hb hby at_105) rfl (tlt hc105).1 (by decide) (by decide) ?_
  show Steps p.tables e below (T0.setTop (mkF m 116 #[s0, s1, s2, .val (.int i3), .val (.ref o4), s5] [])) _
  refine XS.iloadN X0.here hx rfl (hb hby at_116) rfl ?_
  show Steps p.tables e below (T0.setTop (mkF m 117 #[s0, s1, s2, .val (.int i3), .val (.ref o4), s5] [(.int i3)])) _
  refine XS.sipush X0.here hx rfl (hb hby at_117) ?_
  show Steps p.tables e below (T0.setTop (mkF m 120 #[s0, s1, s2, .val (.int i3), .val (.ref o4), s5] [(.int (401 : Int32)), (.int i3)])) _
  refine XS.icmpYes X0.here hx rfl (pc0 := 120) (pc' := 131) rfl (hb hby at_120) rfl (feq hc120).2 (by decide) (by decide) ?_
  show Steps p.tables e below (T0.setTop (mkF m 131 #[s0, s1, s2, .val (.int i3), .val (.ref o4), s5] [])) _
  refine XS.iloadN X0.here hx rfl (hb hby at_131) rfl ?_
  show Steps p.tables e below (T0.setTop (mkF m 132 #[s0, s1, s2, .val (.int i3), .val (.ref o4), s5] [(.int i3)])) _
  refine XS.sipush X0.here hx rfl (hb hby at_132) ?_
  show Steps p.tables e below (T0.setTop (mkF m 135 #[s0, s1, s2, .val (.int i3), .val (.ref o4), s5] [(.int (404 : Int32)), (.int i3)])) _
  refine XS.icmpYes X0.here hx rfl (pc0 := 135) (pc' := 146) rfl (hb hby at_135) rfl (feq hc135).2 (by decide) (by decide) ?_
  show Steps p.tables e below (T0.setTop (mkF m 146 #[s0, s1, s2, .val (.int i3), .val (.ref o4), s5] [])) _
  refine XS.iloadN X0.here hx rfl (hb hby at_146) rfl ?_
  show Steps p.tables e below (T0.setTop (mkF m 147 #[s0, s1, s2, .val (.int i3), .val (.ref o4), s5] [(.int i3)])) _
  refine XS.sipush X0.here hx rfl (hb hby at_147) ?_
  show Steps p.tables e below (T0.setTop (mkF m 150 #[s0, s1, s2, .val (.int i3), .val (.ref o4), s5] [(.int (413 : Int32)), (.int i3)])) _
  refine XS.icmpNo X0.here hx rfl (hb hby at_150) rfl (teq hc150).2 ?_
  show Steps p.tables e below (T0.setTop (mkF m 153 #[s0, s1, s2, .val (.int i3), .val (.ref o4), s5] [])) _
  refine st4 _ ?_
  show Steps p.tables e below (T4.setTop (mkF m 156 #[s0, s1, s2, .val (.int i3), .val (.ref o4), s5] [(.ref w3)])) _
  refine XS.astore X4.here hx rfl (hb hby at_156) rfl rfl (l' := #[s0, s1, s2, .val (.int i3), .val (.ref o4), .val (.ref w3)]) (os_sC3_0_156 hs5) ?_
  show Steps p.tables e below (T4.setTop (mkF m 158 #[s0, s1, s2, .val (.int i3), .val (.ref o4), .val (.ref w3)] [])) _
  refine XS.goto X4.here hx rfl (pc0 := 158) (pc' := 166) rfl (hb hby at_158) (by decide) (by decide) ?_
  show Steps p.tables e below (T4.setTop (mkF m 166 #[s0, s1, s2, .val (.int i3), .val (.ref o4), .val (.ref w3)] [])) _
  refine XS.aload X4.here hx rfl (hb hby at_166) rfl rfl ?_
  show Steps p.tables e below (T4.setTop (mkF m 168 #[s0, s1, s2, .val (.int i3), .val (.ref o4), .val (.ref w3)] [(.ref o4)])) _
  refine XS.aload X4.here hx rfl (hb hby at_168) rfl rfl ?_
  show Steps p.tables e below (T4.setTop (mkF m 170 #[s0, s1, s2, .val (.int i3), .val (.ref o4), .val (.ref w3)] [(.ref w3), (.ref o4)])) _
  refine Jvm.RoadKit.acmp (g := (mkF m 170 #[s0, s1, s2, .val (.int i3), .val (.ref o4), .val (.ref w3)] [(.ref w3), (.ref o4)])) X4 hx rfl rfl rfl (pc0 := 170) (pc' := 173) (same := true) rfl (hb hby at_170) rfl (decide_eq_true (congrArg Value.ref ha170)) (by decide) (by decide) ?_
  exact kt

theorem os_sC4_0_164 {s0 : Slot} {s1 : Slot} {s2 : Slot} {z3 : Value} {z4 : Value} {s5 : Slot} {v : Addr} (h : One s5) : storeLocals #[s0, s1, s2, .val z3, .val z4, s5] 5 (.ref v) = some #[s0, s1, s2, .val z3, .val z4, .val (.ref v)] := by
  rcases h with rfl | ⟨w, rfl, hw⟩
  · rfl
  · cases w <;> first | rfl | (simp [Value.category] at hw)
set_option maxRecDepth 65536 in
set_option maxHeartbeats 40000000 in
theorem sC4 {p : Program} {l : Launch} {e : Env} {R : Room} {s : State} {m : MethodId} {args : Array Value} {below : List Frame} {meth : Method} {c : Code} {T0 : State} {locs : List Loc} {cells slots : Nat} {Z : State} {a0 : Array Value} {h0 : Heap} (s0 : Slot) (s1 : Slot) (s2 : Slot) (i3 : Int32) (o4 : Addr) (s5 : Slot) (w3 : Addr)
    (X0 : Stand p l e R s m args below meth c T0 locs cells slots) (hx : p.tables.exec = Jvm.exec) (hZ : Z.Warmed39 s.vm) (hw : ∀ d ∈ tables_1, d.before a0 Z = true) (hby : c.code = code) (hml : c.maxLocals = 6) (hown : s.vm.findClass "com/example/tallyd/tallyd/api/ErrorTypeForStatusPinLaw" = some m.cls) (e0 : T0.heap = h0) (S_VALIDATION_ERROR : Sta Z h0 "com/example/tallyd/tallyd/api/ErrorType" "VALIDATION_ERROR" "Lcom/example/tallyd/tallyd/api/ErrorType;" (.ref w3)) (hs5 : One s5) (hc105 : i3 < (500 : Int32)) (hc120 : ¬ (i3 = (401 : Int32))) (hc135 : ¬ (i3 = (404 : Int32))) (hc150 : ¬ (i3 = (413 : Int32))) (ha170 : o4 = w3) :
    ∃ (T' : State), Stand p l e R s m args below meth c T' locs cells slots ∧ T'.heap = h0 ∧
      ∀ target, Steps p.tables e below (T'.setTop (mkF m 173 #[s0, s1, s2, .val (.int i3), .val (.ref o4), .val (.ref w3)] [])) target → Steps p.tables e below (T0.setTop (mkF m 101 #[s0, s1, s2, .val (.int i3), .val (.ref o4), s5] [])) target := by
  obtain ⟨T4, X4, e4, st4⟩ := getS2 X0 hx hZ hown (host := "") (Or.inl (hw _ (List.mem_of_getElem? (i := 12) rfl))) Via.refl e0 S_VALIDATION_ERROR (g := (mkF m 161 #[s0, s1, s2, .val (.int i3), .val (.ref o4), s5] [])) rfl (hb hby at_161)
  refine ⟨T4, X4, e4, fun target kt => ?_⟩
  show Steps p.tables e below (T0.setTop (mkF m 101 #[s0, s1, s2, .val (.int i3), .val (.ref o4), s5] [])) _
  refine XS.iloadN X0.here hx rfl (hb hby at_101) rfl ?_
  show Steps p.tables e below (T0.setTop (mkF m 102 #[s0, s1, s2, .val (.int i3), .val (.ref o4), s5] [(.int i3)])) _
  refine XS.sipush X0.here hx rfl (hb hby at_102) ?_
  show Steps p.tables e below (T0.setTop (mkF m 105 #[s0, s1, s2, .val (.int i3), .val (.ref o4), s5] [(.int (500 : Int32)), (.int i3)])) _
  refine XS.icmpYes X0.here hx rfl (pc0 := 105) (pc' := 116) rfl (hb hby at_105) rfl (tlt hc105).1 (by decide) (by decide) ?_
  show Steps p.tables e below (T0.setTop (mkF m 116 #[s0, s1, s2, .val (.int i3), .val (.ref o4), s5] [])) _
  refine XS.iloadN X0.here hx rfl (hb hby at_116) rfl ?_
  show Steps p.tables e below (T0.setTop (mkF m 117 #[s0, s1, s2, .val (.int i3), .val (.ref o4), s5] [(.int i3)])) _
  refine XS.sipush X0.here hx rfl (hb hby at_117) ?_
  show Steps p.tables e below (T0.setTop (mkF m 120 #[s0, s1, s2, .val (.int i3), .val (.ref o4), s5] [(.int (401 : Int32)), (.int i3)])) _
  refine XS.icmpYes X0.here hx rfl (pc0 := 120) (pc' := 131) rfl (hb hby at_120) rfl (feq hc120).2 (by decide) (by decide) ?_
  show Steps p.tables e below (T0.setTop (mkF m 131 #[s0, s1, s2, .val (.int i3), .val (.ref o4), s5] [])) _
  refine XS.iloadN X0.here hx rfl (hb hby at_131) rfl ?_
  show Steps p.tables e below (T0.setTop (mkF m 132 #[s0, s1, s2, .val (.int i3), .val (.ref o4), s5] [(.int i3)])) _
  refine XS.sipush X0.here hx rfl (hb hby at_132) ?_
  show Steps p.tables e below (T0.setTop (mkF m 135 #[s0, s1, s2, .val (.int i3), .val (.ref o4), s5] [(.int (404 : Int32)), (.int i3)])) _
  refine XS.icmpYes X0.here hx rfl (pc0 := 135) (pc' := 146) rfl (hb hby at_135) rfl (feq hc135).2 (by decide) (by decide) ?_
  show Steps p.tables e below (T0.setTop (mkF m 146 #[s0, s1, s2, .val (.int i3), .val (.ref o4), s5] [])) _
  refine XS.iloadN X0.here hx rfl (hb hby at_146) rfl ?_
  show Steps p.tables e below (T0.setTop (mkF m 147 #[s0, s1, s2, .val (.int i3), .val (.ref o4), s5] [(.int i3)])) _
  refine XS.sipush X0.here hx rfl (hb hby at_147) ?_
  show Steps p.tables e below (T0.setTop (mkF m 150 #[s0, s1, s2, .val (.int i3), .val (.ref o4), s5] [(.int (413 : Int32)), (.int i3)])) _
  refine XS.icmpYes X0.here hx rfl (pc0 := 150) (pc' := 161) rfl (hb hby at_150) rfl (feq hc150).2 (by decide) (by decide) ?_
  show Steps p.tables e below (T0.setTop (mkF m 161 #[s0, s1, s2, .val (.int i3), .val (.ref o4), s5] [])) _
  refine st4 _ ?_
  show Steps p.tables e below (T4.setTop (mkF m 164 #[s0, s1, s2, .val (.int i3), .val (.ref o4), s5] [(.ref w3)])) _
  refine XS.astore X4.here hx rfl (hb hby at_164) rfl rfl (l' := #[s0, s1, s2, .val (.int i3), .val (.ref o4), .val (.ref w3)]) (os_sC4_0_164 hs5) ?_
  show Steps p.tables e below (T4.setTop (mkF m 166 #[s0, s1, s2, .val (.int i3), .val (.ref o4), .val (.ref w3)] [])) _
  refine XS.aload X4.here hx rfl (hb hby at_166) rfl rfl ?_
  show Steps p.tables e below (T4.setTop (mkF m 168 #[s0, s1, s2, .val (.int i3), .val (.ref o4), .val (.ref w3)] [(.ref o4)])) _
  refine XS.aload X4.here hx rfl (hb hby at_168) rfl rfl ?_
  show Steps p.tables e below (T4.setTop (mkF m 170 #[s0, s1, s2, .val (.int i3), .val (.ref o4), .val (.ref w3)] [(.ref w3), (.ref o4)])) _
  refine Jvm.RoadKit.acmp (g := (mkF m 170 #[s0, s1, s2, .val (.int i3), .val (.ref o4), .val (.ref w3)] [(.ref w3), (.ref o4)])) X4 hx rfl rfl rfl (pc0 := 170) (pc' := 173) (same := true) rfl (hb hby at_170) rfl (decide_eq_true (congrArg Value.ref ha170)) (by decide) (by decide) ?_
  exact kt

theorem own_C {p : Program} {l : Launch} {e : Env} {R : Room} {s : State} {m : MethodId} {args : Array Value} {below : List Frame} {meth : Method} {c : Code} {T0 : State} {locs : List Loc} {cells slots : Nat} {Z : State} {a0 : Array Value} {h0 : Heap} (s0 s1 s2 : Slot) (st : Int32) (wI wU wN wP wV : Addr) (X0 : Stand p l e R s m args below meth c T0 locs cells slots) (hx : p.tables.exec = Jvm.exec) (hZ : Z.Warmed39 s.vm) (hw : ∀ d ∈ tables_1, d.before a0 Z = true) (hby : c.code = code) (hml : c.maxLocals = 6) (hown : s.vm.findClass "com/example/tallyd/tallyd/api/ErrorTypeForStatusPinLaw" = some m.cls) (e0 : T0.heap = h0) (SI : Sta Z h0 "com/example/tallyd/tallyd/api/ErrorType" "INTERNAL_ERROR" "Lcom/example/tallyd/tallyd/api/ErrorType;" (.ref wI)) (SU : Sta Z h0 "com/example/tallyd/tallyd/api/ErrorType" "UNAUTHORIZED" "Lcom/example/tallyd/tallyd/api/ErrorType;" (.ref wU)) (SN : Sta Z h0 "com/example/tallyd/tallyd/api/ErrorType" "NOT_FOUND" "Lcom/example/tallyd/tallyd/api/ErrorType;" (.ref wN)) (SP : Sta Z h0 "com/example/tallyd/tallyd/api/ErrorType" "PAYLOAD_TOO_LARGE" "Lcom/example/tallyd/tallyd/api/ErrorType;" (.ref wP)) (SV : Sta Z h0 "com/example/tallyd/tallyd/api/ErrorType" "VALIDATION_ERROR" "Lcom/example/tallyd/tallyd/api/ErrorType;" (.ref wV)) :
    ∃ (w : Addr) (T' : State), Stand p l e R s m args below meth c T' locs cells slots ∧ T'.heap = h0 ∧
      ∀ target, Steps p.tables e below (T'.setTop (mkF m 173 #[s0, s1, s2, .val (.int st), .val (.ref (own_sel st wI wU wN wP wV)), .val (.ref w)] [])) target → Steps p.tables e below (T0.setTop (mkF m 101 #[s0, s1, s2, .val (.int st), .val (.ref (own_sel st wI wU wN wP wV)), .unset] [])) target := by
  by_cases q0 : st < (500 : Int32)
  rotate_left
  · have z : own_sel st wI wU wN wP wV = wI := by
      have n1 : ¬ st = 401 := fun e => q0 (by subst e; decide)
      have n2 : ¬ st = 404 := fun e => q0 (by subst e; decide)
      have n3 : ¬ st = 413 := fun e => q0 (by subst e; decide)
      simp [own_sel, q0, n1, n2, n3]
    obtain ⟨T', X', e', kk⟩ := sC0 (s0 := s0) (s1 := s1) (s2 := s2) (i3 := st) (o4 := (own_sel st wI wU wN wP wV)) (s5 := .unset) (w3 := wI) (X0 := X0) (hx := hx) (hZ := hZ) (hw := hw) (hby := hby) (hml := hml) (hown := hown) (e0 := e0) (S_INTERNAL_ERROR := SI) (hs5 := One.u) (hc105 := q0) (ha170 := z)
    exact ⟨_, T', X', e', kk⟩
  by_cases q1 : st = (401 : Int32)
  · have z : own_sel st wI wU wN wP wV = wU := by simp [own_sel, q1]
    obtain ⟨T', X', e', kk⟩ := sC1 (s0 := s0) (s1 := s1) (s2 := s2) (i3 := st) (o4 := (own_sel st wI wU wN wP wV)) (s5 := .unset) (w3 := wU) (X0 := X0) (hx := hx) (hZ := hZ) (hw := hw) (hby := hby) (hml := hml) (hown := hown) (e0 := e0) (S_UNAUTHORIZED := SU) (hs5 := One.u) (hc105 := q0) (hc120 := q1) (ha170 := z)
    exact ⟨_, T', X', e', kk⟩
  by_cases q2 : st = (404 : Int32)
  · have z : own_sel st wI wU wN wP wV = wN := by simp [own_sel, q2]
    obtain ⟨T', X', e', kk⟩ := sC2 (s0 := s0) (s1 := s1) (s2 := s2) (i3 := st) (o4 := (own_sel st wI wU wN wP wV)) (s5 := .unset) (w3 := wN) (X0 := X0) (hx := hx) (hZ := hZ) (hw := hw) (hby := hby) (hml := hml) (hown := hown) (e0 := e0) (S_NOT_FOUND := SN) (hs5 := One.u) (hc105 := q0) (hc120 := q1) (hc135 := q2) (ha170 := z)
    exact ⟨_, T', X', e', kk⟩
  by_cases q3 : st = (413 : Int32)
  · have z : own_sel st wI wU wN wP wV = wP := by simp [own_sel, q3]
    obtain ⟨T', X', e', kk⟩ := sC3 (s0 := s0) (s1 := s1) (s2 := s2) (i3 := st) (o4 := (own_sel st wI wU wN wP wV)) (s5 := .unset) (w3 := wP) (X0 := X0) (hx := hx) (hZ := hZ) (hw := hw) (hby := hby) (hml := hml) (hown := hown) (e0 := e0) (S_PAYLOAD_TOO_LARGE := SP) (hs5 := One.u) (hc105 := q0) (hc120 := q1) (hc135 := q2) (hc150 := q3) (ha170 := z)
    exact ⟨_, T', X', e', kk⟩
  · have z : own_sel st wI wU wN wP wV = wV := by simp [own_sel, q0, q1, q2, q3]
    obtain ⟨T', X', e', kk⟩ := sC4 (s0 := s0) (s1 := s1) (s2 := s2) (i3 := st) (o4 := (own_sel st wI wU wN wP wV)) (s5 := .unset) (w3 := wV) (X0 := X0) (hx := hx) (hZ := hZ) (hw := hw) (hby := hby) (hml := hml) (hown := hown) (e0 := e0) (S_VALIDATION_ERROR := SV) (hs5 := One.u) (hc105 := q0) (hc120 := q1) (hc135 := q2) (hc150 := q3) (ha170 := z)
    exact ⟨_, T', X', e', kk⟩
theorem pn_0 : plainName "com/example/tallyd/tallyd/api/ErrorTypeForStatusPinLaw" = true := by first | (simp [plainName, overriddenIn]; done) | decide +kernel
theorem pd_0_0 : parseMethodDescriptor "(I)Lcom/example/tallyd/tallyd/api/ErrorType;" = some ⟨[.int], some (.object "com/example/tallyd/tallyd/api/ErrorType")⟩ := by decide +kernel
theorem ef_0 (m : MethodId) (x0 : Int32) (x1 : Int32) : entryFrame m #[(.int x0), (.int x1)] maxLocals = mkF m 0 #[.val (.int x0), .val (.int x1), .unset, .unset, .unset, .unset] [] := by first | (simp [entryFrame, mkF, argsToLocals, Value.category, maxLocals]; done) | rfl
set_option maxRecDepth 65536 in
set_option maxHeartbeats 40000000 in
theorem rm0 (l : Launch) (Z : State) (a0 : Array Value) (hw : ∀ d ∈ tables_1, d.before a0 Z = true) (ws : List Jvm.Cond) (p1 p2 : Int32) (wI wU wN wP wV : Addr) (h0 : Heap) (n0 : Nat) (Z0 : n0 ≤ h0.size) (SI : Sta Z h0 "com/example/tallyd/tallyd/api/ErrorType" "INTERNAL_ERROR" "Lcom/example/tallyd/tallyd/api/ErrorType;" (.ref wI)) (SU : Sta Z h0 "com/example/tallyd/tallyd/api/ErrorType" "UNAUTHORIZED" "Lcom/example/tallyd/tallyd/api/ErrorType;" (.ref wU)) (SN : Sta Z h0 "com/example/tallyd/tallyd/api/ErrorType" "NOT_FOUND" "Lcom/example/tallyd/tallyd/api/ErrorType;" (.ref wN)) (SP : Sta Z h0 "com/example/tallyd/tallyd/api/ErrorType" "PAYLOAD_TOO_LARGE" "Lcom/example/tallyd/tallyd/api/ErrorType;" (.ref wP)) (SV : Sta Z h0 "com/example/tallyd/tallyd/api/ErrorType" "VALIDATION_ERROR" "Lcom/example/tallyd/tallyd/api/ErrorType;" (.ref wV)) :
    MetFree l x (head1 (Jvm.Cond.code x code maxLocals ret :: ws) room_1) (fun a U => a = #[(.int p1), (.int p2)] ∧ Z.Warmed39 U.vm ∧ U.heap = h0) (fun _ _ _ _ _ => True) (fun _ U o U' => ∃ v L, o = .returned v ∧ own_Q n0 v U'.heap L ∧ FrameEnd U o U' L room_1.cells room_1.slots) := by
  refine MetFree.of_bodySF (plainFor_of_name pn_0) hisR ?_
  intro p e s m args below meth c s₁ Bd hml0 hP hK
  obtain ⟨rfl, hZ, hh⟩ := hP
  have hx := Bd.exec
  have hby := Bd.bytes
  have hml : c.maxLocals = 6 := hml0
  have hown : s.vm.findClass "com/example/tallyd/tallyd/api/ErrorTypeForStatusPinLaw" = some m.cls := findClass_of_methodNamed Bd.named
  have hnm := (name_of_methodNamed Bd.named Bd.method).1
  have X0 : Stand p l e room_1 s m #[(.int p1), (.int p2)] below meth c s₁ [] 0 0 := Stand.of_body Bd
  have e0 : s₁.heap = h0 := by rw [← hh, Bd.state]; rfl
  have N0 := Fr.nil n0
  have pre0 : ∀ t, Steps p.tables e below (s₁.setTop (mkF m 0 #[.val (.int p1), .val (.int p2), .unset, .unset, .unset, .unset] [])) t → Steps p.tables e below (s₁.setTop (entryFrame m #[(.int p1), (.int p2)] maxLocals)) t := fun t k => castTop (ef_0 m p1 p2) k
  obtain ⟨st, T1, X1, e1, k1⟩ := own_A p1 p2 X0 hx hZ hw hby hml hown e0
  obtain ⟨_, _, ⟨T3, L3, k3, n3⟩, -, X3, ⟨Lc3, hQ3, l3, y3, z3⟩, st3⟩ := Jvm.LawKit.callS X1 hx (y := (⟨"com/example/tallyd/tallyd/api/ErrorType", "forStatus", "(I)Lcom/example/tallyd/tallyd/api/ErrorType;"⟩ : MethodName)) hown (mvT hZ (hw _ (List.mem_of_getElem? (i := 0) rfl))) (mvT hZ (hw _ (List.mem_of_getElem? (i := 1) rfl))) (mvT hZ (hw _ (List.mem_of_getElem? (i := 2) rfl))) (mvT hZ (hw _ (List.mem_of_getElem? (i := 3) rfl))) (by decide) (backOf (W := 0) (rm1 l Z a0 hw [] st wI wU wN wP wV h0 n0 Z0 SI SU SN SP SV) hZ (hw _ (List.mem_of_getElem? (i := 3) rfl)) (hw _ (List.mem_of_getElem? (i := 2) rfl)) (by decide) (by decide)) (g := (mkF m 96 #[.val (.int p1), .val (.int p2), .val (.int (p2 &&& (7 : Int32))), .val (.int st), .unset, .unset] [(.int st)])) rfl (by rw [hml]; rfl) (argsL := [(.int st)]) (rest := []) (lenOf pd_0_0 rfl) rfl (by show 2 * 0 + _ ≤ _; exact Nat.le_of_eq rfl) (hb hby at_96) (fun _ _ => ⟨rfl, e1, (by decide : 0 + 0 ≤ _), (by decide : 0 + 0 ≤ _)⟩)
  dsimp only [Pt.U, Pt.locs, Pt.cells, Pt.slots] at X3 l3 y3 z3 st3 hQ3
  subst l3 y3 z3
  obtain ⟨rfl, N3q, e3⟩ := hQ3
  have N3 := Fr.app N0 N3q
  obtain ⟨w, T5, X5, e5, k5⟩ := own_C (.val (.int p1)) (.val (.int p2)) (.val (.int (p2 &&& (7 : Int32)))) st wI wU wN wP wV X3 hx hZ hw hby hml hown e3 SI SU SN SP SV
  obtain ⟨fs, hr, hrun, hended, hW, hsame⟩ := X5.leave (v := some (.int (1 : Int32))) (fun h => by rw [Bd.returns] at h; cases h)
  refine ⟨_, _, pre0 _ ?_, hrun, hended, _, _, rfl, ?_, ⟨_, rfl⟩, hW, hsame.mono (by decide) (by decide)⟩
  · refine k1 _ ?_
    show Steps p.tables e below (T1.setTop (mkF m 95 #[.val (.int p1), .val (.int p2), .val (.int (p2 &&& (7 : Int32))), .val (.int st), .unset, .unset] [])) _
    refine XS.iloadN X1.here hx rfl (hb hby at_95) rfl ?_
    show Steps p.tables e below (T1.setTop (mkF m 96 #[.val (.int p1), .val (.int p2), .val (.int (p2 &&& (7 : Int32))), .val (.int st), .unset, .unset] [(.int st)])) _
    refine st3 _ ?_
    show Steps p.tables e below (T3.setTop (mkF m 99 #[.val (.int p1), .val (.int p2), .val (.int (p2 &&& (7 : Int32))), .val (.int st), .unset, .unset] [(.ref (own_sel st wI wU wN wP wV))])) _
    refine XS.astore X3.here hx rfl (hb hby at_99) rfl rfl (l' := #[.val (.int p1), .val (.int p2), .val (.int (p2 &&& (7 : Int32))), .val (.int st), .val (.ref (own_sel st wI wU wN wP wV)), .unset]) rfl ?_
    show Steps p.tables e below (T3.setTop (mkF m 101 #[.val (.int p1), .val (.int p2), .val (.int (p2 &&& (7 : Int32))), .val (.int st), .val (.ref (own_sel st wI wU wN wP wV)), .unset] [])) _
    refine k5 _ ?_
    show Steps p.tables e below (T5.setTop (mkF m 173 #[.val (.int p1), .val (.int p2), .val (.int (p2 &&& (7 : Int32))), .val (.int st), .val (.ref (own_sel st wI wU wN wP wV)), .val (.ref w)] [])) _
    refine XS.iconst X5.here hx rfl (hb hby at_173) ?_
    show Steps p.tables e below (T5.setTop (mkF m 174 #[.val (.int p1), .val (.int p2), .val (.int (p2 &&& (7 : Int32))), .val (.int st), .val (.ref (own_sel st wI wU wN wP wV)), .val (.ref w)] [(.int (1 : Int32))])) _
    refine XS.goto X5.here hx rfl (pc0 := 174) (pc' := 178) rfl (hb hby at_174) (by decide) (by decide) ?_
    show Steps p.tables e below (T5.setTop (mkF m 178 #[.val (.int p1), .val (.int p2), .val (.int (p2 &&& (7 : Int32))), .val (.int st), .val (.ref (own_sel st wI wU wN wP wV)), .val (.ref w)] [(.int (1 : Int32))])) _
    exact retN X5 hx (t := .boolean) Bd.returns (by simp) (hb hby at_178) hr
  · show own_Q n0 _ T5.heap _
    exact ⟨rfl, N3⟩
set_option maxRecDepth 65536 in
set_option maxHeartbeats 40000000 in
theorem comes_1 {Post : Tables → Env → Array Value → State → Outcome → State → Prop} (hpost : ∀ tb e args s v u, (limb_1_1.after args s (.returned v) u = true ∧ limb_1_2.after args s (.returned v) u = true ∧ True) → FrameEnd s (.returned v) u (Jvm.fieldLocs frame_1_writes args s ++ Jvm.arrayLocs frame_1_arrays args s ++ Jvm.staticLocs frame_1_statics s) 0 0 → Post tb e args s (.returned v) u) :
    ArmFor flags0 classFile x code maxLocals ret World_1 tables_1 room_1 Calls_1 rest_1 Pre_1 Post := by
  intro l hfl _ _ p e ha hc hk s m args below hf hA hF happ hP
  obtain ⟨hcalls, hrest, hpre⟩ := hP
  obtain ⟨-, -, -, hnamed, -, -, -, hat⟩ := (Spec.applies_iff hf).mp happ
  obtain ⟨hg, hn⟩ := and_e (Cond.before_iff.mp (show (Jvm.Cond.and given_1 narrow_1).before args s = true from hpre))
  obtain ⟨g6, g7⟩ := and_e hg
  obtain ⟨g8, g9⟩ := and_e g7
  obtain ⟨w0, w1, rfl⟩ : ∃ w0 w1 : Value, args = #[w0, w1] := by
    have hs : args.size = 2 := by simpa [Cond.value, given_1] using g6
    obtain ⟨L⟩ := args
    match L, hs with
    | [w0, w1], _ => exact ⟨w0, w1, rfl⟩
  have hw := fun d (hd : d ∈ tables_1) => atoms_spec (ws := Jvm.Cond.code x code maxLocals ret :: tables_1) hat d (List.mem_cons_of_mem _ hd)
  have hfit : Fit s := fun {y c} hc i hi => by
    obtain ⟨ha, rfl⟩ := Array.getElem?_eq_some_iff.mp hc
    have q := List.all_eq_true.mp ((Array.all_eq_true_iff_forall_mem.mp hF) _ (Array.getElem_mem ha)) i (List.mem_range.mpr hi)
    simpa [Array.getElem?_eq_getElem hi] using q
  obtain ⟨i0, ei0⟩ := is_v g8
  obtain rfl : w0 = (.int i0) := Option.some.inj ei0
  obtain ⟨i1, ei1⟩ := is_v g9
  obtain rfl : w1 = (.int i1) := Option.some.inj ei1
  obtain ⟨n1, hn⟩ := and_e hn
  obtain ⟨n2, hn⟩ := and_e hn
  obtain ⟨n3, hn⟩ := and_e hn
  obtain ⟨n4, n5⟩ := and_e hn
  obtain ⟨wP, vwP⟩ := exa_v n1
  have SP := Sta.start vwP (Or.inr ⟨(hw _ (List.mem_of_getElem? (i := 2) rfl)), (hw _ (List.mem_of_getElem? (i := 5) rfl))⟩)
  obtain ⟨wU, vwU⟩ := exa_v n2
  have SU := Sta.start vwU (Or.inr ⟨(hw _ (List.mem_of_getElem? (i := 2) rfl)), (hw _ (List.mem_of_getElem? (i := 8) rfl))⟩)
  obtain ⟨wV, vwV⟩ := exa_v n3
  have SV := Sta.start vwV (Or.inr ⟨(hw _ (List.mem_of_getElem? (i := 2) rfl)), (hw _ (List.mem_of_getElem? (i := 11) rfl))⟩)
  obtain ⟨wI, vwI⟩ := exa_v n4
  have SI := Sta.start vwI (Or.inr ⟨(hw _ (List.mem_of_getElem? (i := 2) rfl)), (hw _ (List.mem_of_getElem? (i := 15) rfl))⟩)
  obtain ⟨wN, vwN⟩ := exa_v n5
  have SN := Sta.start vwN (Or.inr ⟨(hw _ (List.mem_of_getElem? (i := 2) rfl)), (hw _ (List.mem_of_getElem? (i := 18) rfl))⟩)
  obtain ⟨n, o, h1, h2, h3, _, L, rfl, ⟨rfl, N⟩, hq⟩ := rm0 l s _ hw tables_1 i0 i1 wI wU wN wP wV s.heap s.heap.size (Nat.le_refl _) SI SU SN SP SV p e ha hc hk s m _ below hf ((Spec.applies_iff_loose hf).mp happ).1 ⟨rfl, State.Warmed39.refl s, rfl⟩ trivial
  refine ⟨n, _, h1, h2, h3, hpost _ _ _ _ _ _ ⟨Cond.after_iff.mpr rfl, Cond.after_iff.mpr (eq_i res_at (Term.int_eval (1)) rfl), trivial⟩ ⟨hq.1, hq.2.1, (hq.2.2.sift fun y hy => Or.inr (N y hy)).mono (by decide) (by decide)⟩⟩
theorem main_1_1 : Claimed_1_1 := comes_1 fun _ _ _ _ _ _ h hF => ⟨h.1, hF⟩
theorem main_1_2 : Claimed_1_2 := comes_1 fun _ _ _ _ _ _ h hF => ⟨h.2.1, hF⟩

end Jvm.Pilot.@@N@@
namespace Jvm.Pilot.@@N@@
open Jvm Jvm.ClassFile Sem Op Lib Jvm.Free Jvm.Stand Jvm.Pilot.@@N@@.Jvm.D
/-! MADE BY PROGRAM (witnessworld.py) out of the Statement's table words and the real class files: 12 classes; the members and pool entries that the words name. The judged class is class 1, her method 1. -/
namespace start1
open Jvm.ClassFile
def u (s : String) : CpInfo := .utf8 (stringToUtf16 s)
/-- a pool by its gaps: so many unusable entries, then the entry; so many at the end -/
def gap : Nat → List CpInfo → List CpInfo
  | 0, r => r
  | n + 1, r => .unusable :: gap n r
def poolList (es : List (Nat × CpInfo)) (last : Nat) : List CpInfo := es.foldr (fun e r => gap e.1 (e.2 :: r)) (gap last [])
def pool (es : List (Nat × CpInfo)) (last : Nat) : Array CpInfo := ⟨poolList es last⟩
def fileOf (pool : Array CpInfo) (this : Nat) (attrs : Array Attribute := #[]) (ms : Array MethodInfo := #[]) (fl : Nat := 33) (sup : Nat := 0) (ifs : Array Nat := #[]) (fds : Array FieldInfo := #[]) : ClassFile where
  minorVersion := 0
  majorVersion := 65
  constantPool := pool
  accessFlags := fl
  thisClass := this
  superClass := sup
  interfaces := ifs
  fields := fds
  methods := ms
  attributes := attrs
def plain (name : String) (sup : Option ClassId) : Class where
  name := name
  kind := .ordinary
  loader := none
  accessFlags := 33
  super := sup
  interfaces := #[]
  cf := none
  fields := #[]
  methods := #[]
  instanceTypes := #[]
  staticTypes := #[]
  resolved := #[]
  callSites := []
  init := .initialized
  statics := none
  mirror := none

def pool0 : Array CpInfo := pool [(5, u "<init>"), (0, u "()V"), (1, .class_ 10), (1, u "java/lang/Object")] 113

def k0m0 : Method := { name := "<init>", desc := "()V", sig := { parameters := [], returnType := none }, accessFlags := 1, code := none }
/-- java/lang/Object -/
def k0 : Class := { plain "java/lang/Object" none with
  accessFlags := 33
  interfaces := #[]
  cf := some (fileOf pool0 8 #[] #[{ accessFlags := 1, nameIndex := 5, descriptorIndex := 6, attributes := #[] }] 33 0 #[] #[])
  fields := #[]
  methods := #[k0m0]
  instanceTypes := #[]
  staticTypes := #[]
  resolved := Array.replicate 124 none
  statics := none }

def pool1 : Array CpInfo := pool [(2, .class_ 4), (1, u "java/lang/Object"), (0, u "<init>"), (0, u "()V"), (0, .integer 2147483647), (0, .methodref 9 10), (0, .class_ 11), (0, .nameAndType 12 13), (0, u "com/example/tallyd/tallyd/api/ErrorType"), (0, u "forStatus"), (0, u "(I)Lcom/example/tallyd/tallyd/api/ErrorType;"), (0, .fieldref 9 15), (0, .nameAndType 16 17), (0, u "INTERNAL_ERROR"), (0, u "Lcom/example/tallyd/tallyd/api/ErrorType;"), (0, .fieldref 9 19), (0, .nameAndType 20 17), (0, u "UNAUTHORIZED"), (0, .fieldref 9 22), (0, .nameAndType 23 17), (0, u "NOT_FOUND"), (0, .fieldref 9 25), (0, .nameAndType 26 17), (0, u "PAYLOAD_TOO_LARGE"), (0, .fieldref 9 28), (0, .nameAndType 29 17), (0, u "VALIDATION_ERROR"), (0, .class_ 31), (0, u "com/example/tallyd/tallyd/api/ErrorTypeForStatusPinLaw"), (2, u "law"), (0, u "(II)Z")] 3

def k1m0 : Method := { name := "<init>", desc := "()V", sig := { parameters := [], returnType := none }, accessFlags := 1, code := none }
def k1c1 : Code := { maxStack := 3, maxLocals := 6, code := code, exceptionTable := #[], attributes := #[] }
def k1m1 : Method := { name := "law", desc := "(II)Z", sig := { parameters := [.int, .int], returnType := some .boolean }, accessFlags := 9, code := some k1c1 }
/-- com/example/tallyd/tallyd/api/ErrorTypeForStatusPinLaw -/
def k1 : Class := { plain "com/example/tallyd/tallyd/api/ErrorTypeForStatusPinLaw" (some 0) with
  accessFlags := 49
  interfaces := #[]
  cf := some (fileOf pool1 30 #[] #[{ accessFlags := 1, nameIndex := 5, descriptorIndex := 6, attributes := #[] }, { accessFlags := 9, nameIndex := 34, descriptorIndex := 35, attributes := #[] }] 49 2 #[] #[])
  fields := #[]
  methods := #[k1m0, k1m1]
  instanceTypes := #[]
  staticTypes := #[]
  resolved := Array.replicate 39 none
  statics := none }

def pool2 : Array CpInfo := pool [(1, .class_ 2), (0, u "java/lang/constant/Constable"), (0, .class_ 4), (0, u "java/lang/Object")] 6

/-- java/lang/constant/Constable -/
def k2 : Class := { plain "java/lang/constant/Constable" (some 0) with
  accessFlags := 1537
  interfaces := #[]
  cf := some (fileOf pool2 1 #[] #[] 1537 3 #[] #[])
  fields := #[]
  methods := #[]
  instanceTypes := #[]
  staticTypes := #[]
  resolved := Array.replicate 11 none
  statics := none }

def pool3 : Array CpInfo := pool [(1, .class_ 2), (0, u "java/lang/Comparable"), (0, .class_ 4), (0, u "java/lang/Object")] 7

/-- java/lang/Comparable -/
def k3 : Class := { plain "java/lang/Comparable" (some 0) with
  accessFlags := 1537
  interfaces := #[]
  cf := some (fileOf pool3 1 #[] #[] 1537 3 #[] #[])
  fields := #[]
  methods := #[]
  instanceTypes := #[]
  staticTypes := #[]
  resolved := Array.replicate 12 none
  statics := none }

def pool4 : Array CpInfo := pool [(1, .class_ 2), (0, u "java/io/Serializable"), (0, .class_ 4), (0, u "java/lang/Object")] 2

/-- java/io/Serializable -/
def k4 : Class := { plain "java/io/Serializable" (some 0) with
  accessFlags := 1537
  interfaces := #[]
  cf := some (fileOf pool4 1 #[] #[] 1537 3 #[] #[])
  fields := #[]
  methods := #[]
  instanceTypes := #[]
  staticTypes := #[]
  resolved := Array.replicate 7 none
  statics := none }

def pool5 : Array CpInfo := pool [(2, .class_ 4), (1, u "java/lang/Enum"), (0, u "name"), (0, u "Ljava/lang/String;"), (2, u "ordinal"), (0, u "I"), (1, .class_ 14), (1, u "java/lang/Object"), (4, u "hash"), (86, .class_ 108), (1, u "java/lang/Enum$EnumDesc"), (2, .class_ 112), (0, u "java/lang/constant/Constable"), (0, .class_ 114), (0, u "java/lang/Comparable"), (0, .class_ 116), (0, u "java/io/Serializable")] 87

/-- java/lang/Enum -/
def k5 : Class := { plain "java/lang/Enum" (some 0) with
  accessFlags := 1057
  interfaces := #[2, 3, 4]
  cf := some (fileOf pool5 2 #[.nestMembers #[106]] #[] 1057 12 #[111, 113, 115] #[{ accessFlags := 18, nameIndex := 5, descriptorIndex := 6, attributes := #[] }, { accessFlags := 18, nameIndex := 9, descriptorIndex := 10, attributes := #[] }, { accessFlags := 2, nameIndex := 19, descriptorIndex := 10, attributes := #[] }])
  fields := #[{ name := "name", type := (.object "java/lang/String"), accessFlags := 18, slot := 0, constantValue := 0 }, { name := "ordinal", type := .int, accessFlags := 18, slot := 1, constantValue := 0 }, { name := "hash", type := .int, accessFlags := 2, slot := 2, constantValue := 0 }]
  methods := #[]
  instanceTypes := #[(.object "java/lang/String"), .int, .int]
  staticTypes := #[]
  resolved := Array.replicate 204 none
  statics := none }

def pool6 : Array CpInfo := pool [(1, .class_ 2), (0, u "com/example/tallyd/tallyd/api/ErrorType"), (0, .fieldref 1 4), (0, .nameAndType 5 6), (0, u "VALIDATION_ERROR"), (0, u "Lcom/example/tallyd/tallyd/api/ErrorType;"), (0, .fieldref 1 8), (0, .nameAndType 9 6), (0, u "UNAUTHORIZED"), (0, .fieldref 1 11), (0, .nameAndType 12 6), (0, u "NOT_FOUND"), (0, .fieldref 1 14), (0, .nameAndType 15 6), (0, u "PAYLOAD_TOO_LARGE"), (2, u "INVALID_UPLOAD"), (2, u "STORAGE_ERROR"), (0, .fieldref 1 23), (0, .nameAndType 24 6), (0, u "INTERNAL_ERROR"), (2, u "$VALUES"), (0, u "[Lcom/example/tallyd/tallyd/api/ErrorType;"), (6, .class_ 37), (1, u "java/lang/Enum"), (8, u "wireName"), (0, u "Ljava/lang/String;"), (36, u "forStatus"), (0, u "(I)Lcom/example/tallyd/tallyd/api/ErrorType;")] 6

def k6c0 : Code := { maxStack := 2, maxLocals := 1, code := prog_9_method_5_code, exceptionTable := #[], attributes := #[] }
def k6m0 : Method := { name := "forStatus", desc := "(I)Lcom/example/tallyd/tallyd/api/ErrorType;", sig := { parameters := [.int], returnType := some (.object "com/example/tallyd/tallyd/api/ErrorType") }, accessFlags := 9, code := some k6c0 }
/-- com/example/tallyd/tallyd/api/ErrorType -/
def k6 : Class := { plain "com/example/tallyd/tallyd/api/ErrorType" (some 5) with
  accessFlags := 16433
  interfaces := #[]
  cf := some (fileOf pool6 1 #[] #[{ accessFlags := 9, nameIndex := 84, descriptorIndex := 85, attributes := #[] }] 16433 35 #[] #[{ accessFlags := 16409, nameIndex := 5, descriptorIndex := 6, attributes := #[] }, { accessFlags := 16409, nameIndex := 9, descriptorIndex := 6, attributes := #[] }, { accessFlags := 16409, nameIndex := 12, descriptorIndex := 6, attributes := #[] }, { accessFlags := 16409, nameIndex := 15, descriptorIndex := 6, attributes := #[] }, { accessFlags := 16409, nameIndex := 18, descriptorIndex := 6, attributes := #[] }, { accessFlags := 16409, nameIndex := 21, descriptorIndex := 6, attributes := #[] }, { accessFlags := 16409, nameIndex := 24, descriptorIndex := 6, attributes := #[] }, { accessFlags := 18, nameIndex := 46, descriptorIndex := 47, attributes := #[] }, { accessFlags := 4122, nameIndex := 27, descriptorIndex := 28, attributes := #[] }])
  fields := #[{ name := "VALIDATION_ERROR", type := (.object "com/example/tallyd/tallyd/api/ErrorType"), accessFlags := 16409, slot := 0, constantValue := 0 }, { name := "UNAUTHORIZED", type := (.object "com/example/tallyd/tallyd/api/ErrorType"), accessFlags := 16409, slot := 1, constantValue := 0 }, { name := "NOT_FOUND", type := (.object "com/example/tallyd/tallyd/api/ErrorType"), accessFlags := 16409, slot := 2, constantValue := 0 }, { name := "PAYLOAD_TOO_LARGE", type := (.object "com/example/tallyd/tallyd/api/ErrorType"), accessFlags := 16409, slot := 3, constantValue := 0 }, { name := "INVALID_UPLOAD", type := (.object "com/example/tallyd/tallyd/api/ErrorType"), accessFlags := 16409, slot := 4, constantValue := 0 }, { name := "STORAGE_ERROR", type := (.object "com/example/tallyd/tallyd/api/ErrorType"), accessFlags := 16409, slot := 5, constantValue := 0 }, { name := "INTERNAL_ERROR", type := (.object "com/example/tallyd/tallyd/api/ErrorType"), accessFlags := 16409, slot := 6, constantValue := 0 }, { name := "wireName", type := (.object "java/lang/String"), accessFlags := 18, slot := 3, constantValue := 0 }, { name := "$VALUES", type := (.array (.object "com/example/tallyd/tallyd/api/ErrorType")), accessFlags := 4122, slot := 7, constantValue := 0 }]
  methods := #[k6m0]
  instanceTypes := #[(.object "java/lang/String"), .int, .int, (.object "java/lang/String")]
  staticTypes := #[(.object "com/example/tallyd/tallyd/api/ErrorType"), (.object "com/example/tallyd/tallyd/api/ErrorType"), (.object "com/example/tallyd/tallyd/api/ErrorType"), (.object "com/example/tallyd/tallyd/api/ErrorType"), (.object "com/example/tallyd/tallyd/api/ErrorType"), (.object "com/example/tallyd/tallyd/api/ErrorType"), (.object "com/example/tallyd/tallyd/api/ErrorType"), (.array (.object "com/example/tallyd/tallyd/api/ErrorType"))]
  resolved := Array.replicate 92 none
  statics := some 0 }

def pool7 : Array CpInfo := pool [(1, u "java/lang/Cloneable"), (0, .class_ 1), (0, u "java/lang/Object"), (0, .class_ 3)] 3

/-- java/lang/Cloneable -/
def k7 : Class := { plain "java/lang/Cloneable" (some 0) with
  accessFlags := 1537
  interfaces := #[]
  cf := some (fileOf pool7 2 #[] #[] 1537 4 #[] #[])
  fields := #[]
  methods := #[]
  instanceTypes := #[]
  staticTypes := #[]
  resolved := Array.replicate 8 none
  statics := none }

/-- the primitive byte -/
def k8 : Class := { plain "byte" none with kind := .primitive 'B', accessFlags := 0x411 }
/-- [B -/
def k9 : Class := { plain "[B" (some 0) with kind := .array 8 .byte, interfaces := #[7, 4], accessFlags := 1041 }

/-- the primitive int -/
def k10 : Class := { plain "int" none with kind := .primitive 'I', accessFlags := 0x411 }
/-- [I -/
def k11 : Class := { plain "[I" (some 0) with kind := .array 10 .int, interfaces := #[7, 4], accessFlags := 1041 }

def heap : Heap := #[{ cls := 6, slots := #[.ref 3, .ref 2, .ref 5, .ref 1, .null, .null, .ref 4, .null], vm := .statics 6 },
  { cls := 6, slots := #[.null, .int 0, .int 0, .null], vm := .none },
  { cls := 6, slots := #[.null, .int 1, .int 0, .null], vm := .none },
  { cls := 6, slots := #[.null, .int 2, .int 0, .null], vm := .none },
  { cls := 6, slots := #[.null, .int 3, .int 0, .null], vm := .none },
  { cls := 6, slots := #[.null, .int 4, .int 0, .null], vm := .none }]
def classes : Array Class := #[k0, k1, k2, k3, k4, k5, k6, k7, k8, k9, k10, k11]
def interned : List (Array UInt16 × Addr) := []
def slotsUsed : Nat := 28
def theMethod : MethodId := ⟨1, 1⟩
def args0 : Array Value := #[.int 5, .int 3]
def aboutOver (below : List Frame) : State where
  vm := { classes := classes, interned := interned.toArray }
  heap := heap
  slotsUsed := slotsUsed
  threads := #[{ frames := .invoking theMethod args0 :: below }]
def below0 : List Frame := [.native { method := ⟨0, 0⟩, args := #[] }]
def about1 : State := aboutOver below0
def p0 : Program := .bare "" "" ""
def e0 : Env := launch0.env 0 0 0
theorem w_frames : about1.frames = Frame.invoking theMethod args0 :: below0 := rfl
set_option maxRecDepth 65536 in
theorem w_args : argsFit about1.vm theMethod args0 = true := by decide +kernel
set_option maxRecDepth 65536 in
theorem w_heap : heapFits about1 = true := by decide +kernel
set_option maxRecDepth 65536 in
theorem w_runnable : about1.curStatus? = some .runnable := by decide +kernel
set_option maxRecDepth 65536 in
theorem w_alone : about1.alone = true := by decide +kernel
set_option maxRecDepth 65536 in
theorem w_named : about1.methodNamed? x = some theMethod := by decide +kernel
set_option maxRecDepth 65536 in
theorem w_hears : about1.hears theMethod below0 = true := by decide +kernel
set_option maxRecDepth 65536 in
theorem w_ripe : about1.ripe theMethod args0 below0 = true := by decide +kernel
theorem w_running : about1.status = .running := rfl
set_option maxRecDepth 65536 in
theorem w_room : about1.hasRoom e0.platform room_1 = true :=
  launch0.hasRoom_least _ room_1 (by decide +kernel) (by decide +kernel) (by decide +kernel) (by decide +kernel) (by decide +kernel) (by decide +kernel)
theorem allAtoms_all (ts : List Jvm.Cond) (a : Array Jvm.Value) (st : Jvm.State) : (allAtoms ts).before a st = ts.all (fun c => c.before a st) := by
  induction ts with
  | nil => rfl
  | cons c t ih =>
    show (Jvm.Cond.and c (allAtoms t)).before a st = _
    rw [Jvm.Cond.before_and, ih, List.all_cons]
def words1 : List Jvm.Cond := Jvm.Cond.code x code maxLocals ret :: tables_1
/-- a 'code' word, met by the world's own term for the bytes: nothing is compared byte by byte -/
theorem code_word {y : MethodName} {bytes : ByteArray} {mx : Nat} {rt : Option FieldType} {a : Array Value} {s : State} {m : MethodId} {meth : Method} {c : Code} (h1 : s.methodNamed? y = some m) (h2 : s.vm.method? m = some meth) (h3 : meth.code = some c) (h4 : c.code = bytes)
    (h5 : (c.maxLocals == mx && c.exceptionTable.isEmpty && decide (c.maxStack ≤ mostOperands) && decide (meth.sig.returnType = rt) && !meth.locks && decide (parseMethodDescriptor y.desc = some meth.sig)) = true) : (Jvm.Cond.code y bytes mx rt).before a s = true := by
  simp only [Bool.and_eq_true, beq_iff_eq, Bool.not_eq_true', decide_eq_true_eq] at h5
  obtain ⟨⟨⟨⟨⟨g1, g2⟩, g3⟩, g4⟩, g5⟩, g6⟩ := h5
  simp [Cond.before, Cond.holds, Cond.value, h1, h2, h3, h4, g1, g2, g3, g4, g5, g6]
def isCode : Jvm.Cond → Bool
  | .code _ _ _ _ => true
  | _ => false
theorem all_split {L : List Jvm.Cond} {P : Jvm.Cond → Bool} (h1 : L.all (fun c => isCode c || P c) = true) (h2 : ∀ c ∈ L.filter isCode, P c = true) : L.all P = true := by
  refine List.all_eq_true.mpr fun c hc => ?_
  have h := List.all_eq_true.mp h1 c hc
  rcases Bool.eq_false_or_eq_true (isCode c) with hi | hi
  · exact h2 c (List.mem_filter.mpr ⟨hc, hi⟩)
  · simpa [hi] using h
set_option maxRecDepth 65536 in
theorem w_c0 : (Jvm.Cond.code x code maxLocals ret).before args0 about1 = true := code_word (m := ⟨1, 1⟩) (meth := k1m1) (c := k1c1) (by decide +kernel) rfl rfl rfl (by decide +kernel)
set_option maxRecDepth 65536 in
theorem w_c1 : (Jvm.Cond.code ({ cls := "com/example/tallyd/tallyd/api/ErrorType", name := "forStatus", desc := "(I)Lcom/example/tallyd/tallyd/api/ErrorType;" } : Jvm.MethodName) prog_9_method_5_code (1 : Nat) (Option.some (Jvm.ClassFile.FieldType.object "com/example/tallyd/tallyd/api/ErrorType"))).before args0 about1 = true := code_word (m := ⟨6, 0⟩) (meth := k6m0) (c := k6c0) (by decide +kernel) rfl rfl rfl (by decide +kernel)
def codes1 : List Jvm.Cond := [Jvm.Cond.code x code maxLocals ret, Jvm.Cond.code ({ cls := "com/example/tallyd/tallyd/api/ErrorType", name := "forStatus", desc := "(I)Lcom/example/tallyd/tallyd/api/ErrorType;" } : Jvm.MethodName) prog_9_method_5_code (1 : Nat) (Option.some (Jvm.ClassFile.FieldType.object "com/example/tallyd/tallyd/api/ErrorType"))]
set_option maxRecDepth 65536 in
theorem codes_eq : words1.filter isCode = codes1 := rfl
theorem w_codes : ∀ c ∈ words1.filter isCode, c.before args0 about1 = true := by
  rw [codes_eq]
  intro c hc
  simp only [codes1, List.mem_cons, List.not_mem_nil, or_false] at hc
  rcases hc with rfl | rfl
  · exact w_c0
  · exact w_c1
set_option maxRecDepth 65536 in
theorem w_t1 : words1.all (fun c => isCode c || c.before args0 about1) = true := by decide +kernel
theorem w_tables : (allAtoms (Jvm.Cond.code x code maxLocals ret :: tables_1)).before args0 about1 = true := by
  rw [allAtoms_all]
  show words1.all (fun c => c.before args0 about1) = true
  refine all_split ?_ w_codes
  rw [w_t1]
set_option maxRecDepth 65536 in
theorem w_case : (Jvm.Cond.and given_1 narrow_1).before args0 about1 = true := by decide +kernel
theorem w_applies : (headSpec (Jvm.Cond.code x code maxLocals ret :: tables_1) room_1).applies x e0.platform about1 = true :=
  (Spec.applies_iff w_frames).mpr ⟨w_running, w_runnable, w_alone, w_named, w_hears, w_ripe, w_room, w_tables⟩
theorem atStart : AtStart classFile x code maxLocals ret World_1 tables_1 room_1 Calls_1 rest_1 Pre_1 launch0 p0 e0 about1 theMethod args0 below0 :=
  ⟨lists_1, trivial, launch0.admits_env _ _ _, launch0.least_env, fairChoices_fair.cas, fairChoices_fair.clock, w_frames, w_args, w_heap, w_applies, trivial, trivial, w_case⟩
end start1
theorem witness_1 : WitnessClaimed_1 := ⟨start1.p0, start1.e0, start1.about1, start1.theMethod, start1.args0, start1.below0, start1.atStart⟩
end Jvm.Pilot.@@N@@
