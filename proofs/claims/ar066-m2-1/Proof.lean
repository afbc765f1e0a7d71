import JvmDerived
import JvmDerived.Pilot.@@N@@Statement
import JvmDerived.Pilot.@@N@@Code
set_option linter.unusedVariables false
set_option linter.unusedSimpArgs false
namespace Jvm.RoadKit
open Sem ClassFile Op Lib Jvm.Stand Jvm.Free Jvm.LawKit
section New
variable {p : Program} {l : Launch} {e : Env} {R : Room} {s : State} {m : MethodId} {args : Array Value} {below : List Frame} {meth : Method} {c : Code} {T : State} {locs : List Loc} {cells slots : Nat}
theorem retI (X : Stand p l e R s m args below meth c T locs cells slots) (hx : p.tables.exec = Jvm.exec) {pc : Nat} {Ls : Array Slot} {z : Int32} {rest : List Value} (hret : meth.sig.returnType = some .int) (hd : decode c.code pc = .ok (.ireturn, 1)) {fs : List Frame}
    (hl : ∀ (f : JFrame) (acts : List Action), f.method = m → f.locked = none → f.entered = [] → (doReturn e (T.setTop f) acts (some (.int z))).1 = T.setFrames fs) : Steps p.tables e below (T.setTop (mkF m pc Ls (.int z :: rest))) (T.setFrames fs) := by
  have hm' : T.vm.method? m = some meth := X.method'
  have hn : narrow .int (.int z) = .int z := rfl
  show Steps p.tables e below (T.setTop { method := m, pc := pc, locals := Ls, stack := _ :: rest, locked := none }) _
  jvm_step X.here [X.here.top, hx, hd, hm', hret, hn]
  first | (intro acts; rw [hl _ acts rfl rfl rfl]) | rw [hl _ _ rfl rfl rfl]
  exact Steps.refl _
end New
end Jvm.RoadKit
namespace Jvm.Pilot.@@N@@
open Jvm Jvm.ClassFile Sem Op Lib Jvm.Free Jvm.Stand Jvm.LawKit Jvm.RoadKit Bundle Jvm.Pilot.@@N@@.Jvm.D

def own_Q (n0 : Nat) (v : Option Value) (h : Heap) (L : List Loc) : Prop := v = some (.int (1 : Int32)) ∧ Fr n0 L
theorem own_ne {args : Array Value} {s : State} {t u : Term} {a b : Addr} {C n d : String} {i j : Int32} (ht : t.eval args s none [] s = some (.ref a)) (hu : u.eval args s none [] s = some (.ref b))
    (h1 : (Jvm.Cond.eq (Jvm.Term.field t C n d) (Jvm.Term.int i)).value args s none s [] = some true) (h2 : (Jvm.Cond.eq (Jvm.Term.field u C n d) (Jvm.Term.int j)).value args s none s [] = some true) (hij : i ≠ j) : ¬ (a = b) := by
  rintro rfl
  have e1 : (Term.field t C n d).eval args s none [] s = s.fieldOf? a C n d := fld_at ht
  have e2 : (Term.field u C n d).eval args s none [] s = s.fieldOf? a C n d := fld_at hu
  have k1 : (Term.int i).eval args s none [] s = some (.int i) := rfl
  have k2 : (Term.int j).eval args s none [] s = some (.int j) := rfl
  simp only [Cond.value, e1, e2, k1, k2] at h1 h2
  cases hv : s.fieldOf? a C n d with
  | none => simp [hv] at h1
  | some v =>
    cases v <;> simp [hv] at h1 h2
    exact hij (h1.symm.trans h2)
def own_Qv (z : Int32) (h0 : Heap) (n0 : Nat) (v : Option Value) (h : Heap) (L : List Loc) : Prop := v = some (.int z) ∧ Fr n0 L ∧ h = h0
theorem own_k (x : Int32) : 0 ≤ ((x &&& (2147483647 : Int32)) % (7 : Int32)).toInt ∧ ((x &&& (2147483647 : Int32)) % (7 : Int32)).toInt < 7 := by
  have q := (c_iremV (x &&& (2147483647 : Int32)) (7 : Int32)).1 (c_and x (2147483647 : Int32) (by decide)).1 (by decide)
  exact ⟨q.1, q.2.1⟩
theorem own_cases {t : Int32} (h1 : 0 ≤ t.toInt) (h2 : t.toInt < 7) : t = (0 : Int32) ∨ t = (1 : Int32) ∨ t = (2 : Int32) ∨ t = (3 : Int32) ∨ t = (4 : Int32) ∨ t = (5 : Int32) ∨ t = (6 : Int32) := by
  have e : ∀ k : Int32, t.toInt = k.toInt → t = k := fun k q => Int32.toInt_inj.mp q
  rcases (by omega : t.toInt = 0 ∨ t.toInt = 1 ∨ t.toInt = 2 ∨ t.toInt = 3 ∨ t.toInt = 4 ∨ t.toInt = 5 ∨ t.toInt = 6) with h | h | h | h | h | h | h
  · exact Or.inl (e 0 (h.trans (by decide)))
  · exact Or.inr (Or.inl (e 1 (h.trans (by decide))))
  · exact Or.inr (Or.inr (Or.inl (e 2 (h.trans (by decide)))))
  · exact Or.inr (Or.inr (Or.inr (Or.inl (e 3 (h.trans (by decide))))))
  · exact Or.inr (Or.inr (Or.inr (Or.inr (Or.inl (e 4 (h.trans (by decide)))))))
  · exact Or.inr (Or.inr (Or.inr (Or.inr (Or.inr (Or.inl (e 5 (h.trans (by decide))))))))
  · exact Or.inr (Or.inr (Or.inr (Or.inr (Or.inr (Or.inr ((e 6 (h.trans (by decide)))))))))
theorem d1_0 : decode prog_29_method_8_code 0 = .ok (.aload_n 0, 1) := by decide +kernel
theorem d1_1 : decode prog_29_method_8_code 1 = .ok (.getstatic 16, 3) := by decide +kernel
theorem d1_4 : decode prog_29_method_8_code 4 = .ok (.if_acmp .eq 10, 3) := by decide +kernel
theorem d1_14 : decode prog_29_method_8_code 14 = .ok (.iconst 1, 1) := by decide +kernel
theorem d1_15 : decode prog_29_method_8_code 15 = .ok (.goto 4, 3) := by decide +kernel
theorem d1_19 : decode prog_29_method_8_code 19 = .ok (.ireturn, 1) := by decide +kernel
theorem pn_1 : plainName "com/example/lock2/lock2/mapping/VersionKind" = true := by first | (simp [plainName, overriddenIn]; done) | decide +kernel
theorem ef_1 (m : MethodId) (x0 : Addr) : entryFrame m #[(.ref x0)] 1 = mkF m 0 #[.val (.ref x0)] [] := by first | (simp [entryFrame, mkF, argsToLocals, Value.category]; done) | rfl
set_option maxRecDepth 65536 in
set_option maxHeartbeats 40000000 in
theorem rm1_d (l : Launch) (Z : State) (a0 : Array Value) (hw : ∀ d ∈ tables_1, d.before a0 Z = true) (ws : List Jvm.Cond) (a1 : Addr) (w2 : Addr) (h0 : Heap) (n0 : Nat) (Z0 : n0 ≤ h0.size) (S_DATABASE_CLOCK : Sta Z h0 "com/example/lock2/lock2/mapping/VersionKind" "DATABASE_CLOCK" "Lcom/example/lock2/lock2/mapping/VersionKind;" (.ref w2)) (ha4 : a1 = w2) :
    MetFree l (⟨"com/example/lock2/lock2/mapping/VersionKind", "isTimestampFromClock", "()Z"⟩ : MethodName) (head1 (Jvm.Cond.code (⟨"com/example/lock2/lock2/mapping/VersionKind", "isTimestampFromClock", "()Z"⟩ : MethodName) prog_29_method_8_code 1 (some .boolean) :: ws) ({ frames := 0, cells := 0, slots := 0, locals := 0 } : Room)) (fun a U => a = #[(.ref a1)] ∧ Z.Warmed39 U.vm ∧ U.heap = h0) (fun _ _ _ _ _ => True) (fun _ U o U' => ∃ v L, o = .returned v ∧ own_Qv (1 : Int32) h0 n0 v U'.heap L ∧ FrameEnd U o U' L ({ frames := 0, cells := 0, slots := 0, locals := 0 } : Room).cells ({ frames := 0, cells := 0, slots := 0, locals := 0 } : Room).slots) := by
  refine MetFree.of_bodySF (plainFor_of_name pn_1) hisR ?_
  intro p e s m args below meth c s₁ Bd hml0 hP hK
  obtain ⟨rfl, hZ, hh⟩ := hP
  have hx := Bd.exec
  have hby := Bd.bytes
  have hml : c.maxLocals = 1 := hml0
  have hown : s.vm.findClass "com/example/lock2/lock2/mapping/VersionKind" = some m.cls := findClass_of_methodNamed Bd.named
  have hnm := (name_of_methodNamed Bd.named Bd.method).1
  have X0 : Stand p l e ({ frames := 0, cells := 0, slots := 0, locals := 0 } : Room) s m #[(.ref a1)] below meth c s₁ [] 0 0 := Stand.of_body Bd
  have e0 : s₁.heap = h0 := by rw [← hh, Bd.state]; rfl
  have N0 := Fr.nil n0
  have pre0 : ∀ t, Steps p.tables e below (s₁.setTop (mkF m 0 #[.val (.ref a1)] [])) t → Steps p.tables e below (s₁.setTop (entryFrame m #[(.ref a1)] 1)) t := fun t k => castTop (ef_1 m a1) k
  obtain ⟨T3, X3, e3, st3⟩ := getS2 X0 hx hZ hown (host := "") (Or.inl (hw _ (List.mem_of_getElem? (i := 24) rfl))) Via.refl e0 S_DATABASE_CLOCK (g := (mkF m 1 #[.val (.ref a1)] [(.ref a1)])) rfl (hb hby d1_1)
  obtain ⟨fs, hr, hrun, hended, hW, hsame⟩ := X3.leave (v := some (.int (1 : Int32))) (fun h => by rw [Bd.returns] at h; cases h)
  refine ⟨_, _, pre0 _ ?_, hrun, hended, _, _, rfl, ?_, ⟨_, rfl⟩, hW, hsame.mono (by decide) (by decide)⟩
  · show Steps p.tables e below (s₁.setTop (mkF m 0 #[.val (.ref a1)] [])) _
    refine XS.aloadN X0.here hx rfl (hb hby d1_0) rfl rfl ?_
    show Steps p.tables e below (s₁.setTop (mkF m 1 #[.val (.ref a1)] [(.ref a1)])) _
    refine st3 _ ?_
    show Steps p.tables e below (T3.setTop (mkF m 4 #[.val (.ref a1)] [(.ref w2), (.ref a1)])) _
    refine Jvm.RoadKit.acmp (g := (mkF m 4 #[.val (.ref a1)] [(.ref w2), (.ref a1)])) X3 hx rfl rfl rfl (pc0 := 4) (pc' := 14) (same := true) rfl (hb hby d1_4) rfl (decide_eq_true (congrArg Value.ref ha4)) (by decide) (by decide) ?_
    show Steps p.tables e below (T3.setTop (mkF m 14 #[.val (.ref a1)] [])) _
    refine XS.iconst X3.here hx rfl (hb hby d1_14) ?_
    show Steps p.tables e below (T3.setTop (mkF m 15 #[.val (.ref a1)] [(.int (1 : Int32))])) _
    refine XS.goto X3.here hx rfl (pc0 := 15) (pc' := 19) rfl (hb hby d1_15) (by decide) (by decide) ?_
    show Steps p.tables e below (T3.setTop (mkF m 19 #[.val (.ref a1)] [(.int (1 : Int32))])) _
    exact retN X3 hx (t := .boolean) Bd.returns (by simp) (hb hby d1_19) hr
  · show own_Qv (1 : Int32) h0 n0 _ T3.heap _
    rw [e3]
    exact ⟨rfl, N0, rfl⟩

theorem d1_7 : decode prog_29_method_8_code 7 = .ok (.aload_n 0, 1) := by decide +kernel
theorem d1_8 : decode prog_29_method_8_code 8 = .ok (.getstatic 19, 3) := by decide +kernel
theorem d1_11 : decode prog_29_method_8_code 11 = .ok (.if_acmp .ne 7, 3) := by decide +kernel
set_option maxRecDepth 65536 in
set_option maxHeartbeats 40000000 in
theorem rm1_j (l : Launch) (Z : State) (a0 : Array Value) (hw : ∀ d ∈ tables_1, d.before a0 Z = true) (ws : List Jvm.Cond) (a1 : Addr) (w2 : Addr) (w4 : Addr) (h0 : Heap) (n0 : Nat) (Z0 : n0 ≤ h0.size) (S_DATABASE_CLOCK : Sta Z h0 "com/example/lock2/lock2/mapping/VersionKind" "DATABASE_CLOCK" "Lcom/example/lock2/lock2/mapping/VersionKind;" (.ref w2)) (S_JVM_CLOCK : Sta Z h0 "com/example/lock2/lock2/mapping/VersionKind" "JVM_CLOCK" "Lcom/example/lock2/lock2/mapping/VersionKind;" (.ref w4)) (ha4 : ¬ (a1 = w2)) (ha11 : a1 = w4) :
    MetFree l (⟨"com/example/lock2/lock2/mapping/VersionKind", "isTimestampFromClock", "()Z"⟩ : MethodName) (head1 (Jvm.Cond.code (⟨"com/example/lock2/lock2/mapping/VersionKind", "isTimestampFromClock", "()Z"⟩ : MethodName) prog_29_method_8_code 1 (some .boolean) :: ws) ({ frames := 0, cells := 0, slots := 0, locals := 0 } : Room)) (fun a U => a = #[(.ref a1)] ∧ Z.Warmed39 U.vm ∧ U.heap = h0) (fun _ _ _ _ _ => True) (fun _ U o U' => ∃ v L, o = .returned v ∧ own_Qv (1 : Int32) h0 n0 v U'.heap L ∧ FrameEnd U o U' L ({ frames := 0, cells := 0, slots := 0, locals := 0 } : Room).cells ({ frames := 0, cells := 0, slots := 0, locals := 0 } : Room).slots) := by
  refine MetFree.of_bodySF (plainFor_of_name pn_1) hisR ?_
  intro p e s m args below meth c s₁ Bd hml0 hP hK
  obtain ⟨rfl, hZ, hh⟩ := hP
  have hx := Bd.exec
  have hby := Bd.bytes
  have hml : c.maxLocals = 1 := hml0
  have hown : s.vm.findClass "com/example/lock2/lock2/mapping/VersionKind" = some m.cls := findClass_of_methodNamed Bd.named
  have hnm := (name_of_methodNamed Bd.named Bd.method).1
  have X0 : Stand p l e ({ frames := 0, cells := 0, slots := 0, locals := 0 } : Room) s m #[(.ref a1)] below meth c s₁ [] 0 0 := Stand.of_body Bd
  have e0 : s₁.heap = h0 := by rw [← hh, Bd.state]; rfl
  have N0 := Fr.nil n0
  have pre0 : ∀ t, Steps p.tables e below (s₁.setTop (mkF m 0 #[.val (.ref a1)] [])) t → Steps p.tables e below (s₁.setTop (entryFrame m #[(.ref a1)] 1)) t := fun t k => castTop (ef_1 m a1) k
  obtain ⟨T3, X3, e3, st3⟩ := getS2 X0 hx hZ hown (host := "") (Or.inl (hw _ (List.mem_of_getElem? (i := 24) rfl))) Via.refl e0 S_DATABASE_CLOCK (g := (mkF m 1 #[.val (.ref a1)] [(.ref a1)])) rfl (hb hby d1_1)
  obtain ⟨T5, X5, e5, st5⟩ := getS2 X3 hx hZ hown (host := "") (Or.inl (hw _ (List.mem_of_getElem? (i := 25) rfl))) Via.refl e3 S_JVM_CLOCK (g := (mkF m 8 #[.val (.ref a1)] [(.ref a1)])) rfl (hb hby d1_8)
  obtain ⟨fs, hr, hrun, hended, hW, hsame⟩ := X5.leave (v := some (.int (1 : Int32))) (fun h => by rw [Bd.returns] at h; cases h)
  refine ⟨_, _, pre0 _ ?_, hrun, hended, _, _, rfl, ?_, ⟨_, rfl⟩, hW, hsame.mono (by decide) (by decide)⟩
  · show Steps p.tables e below (s₁.setTop (mkF m 0 #[.val (.ref a1)] [])) _
    refine XS.aloadN X0.here hx rfl (hb hby d1_0) rfl rfl ?_
    show Steps p.tables e below (s₁.setTop (mkF m 1 #[.val (.ref a1)] [(.ref a1)])) _
    refine st3 _ ?_
    show Steps p.tables e below (T3.setTop (mkF m 4 #[.val (.ref a1)] [(.ref w2), (.ref a1)])) _
    refine Jvm.RoadKit.acmp (g := (mkF m 4 #[.val (.ref a1)] [(.ref w2), (.ref a1)])) X3 hx rfl rfl rfl (pc0 := 4) (pc' := 7) (same := false) rfl (hb hby d1_4) rfl (decide_eq_false fun q => ha4 (Value.ref.inj q)) (by decide) (by decide) ?_
    show Steps p.tables e below (T3.setTop (mkF m 7 #[.val (.ref a1)] [])) _
    refine XS.aloadN X3.here hx rfl (hb hby d1_7) rfl rfl ?_
    show Steps p.tables e below (T3.setTop (mkF m 8 #[.val (.ref a1)] [(.ref a1)])) _
    refine st5 _ ?_
    show Steps p.tables e below (T5.setTop (mkF m 11 #[.val (.ref a1)] [(.ref w4), (.ref a1)])) _
    refine Jvm.RoadKit.acmp (g := (mkF m 11 #[.val (.ref a1)] [(.ref w4), (.ref a1)])) X5 hx rfl rfl rfl (pc0 := 11) (pc' := 14) (same := true) rfl (hb hby d1_11) rfl (decide_eq_true (congrArg Value.ref ha11)) (by decide) (by decide) ?_
    show Steps p.tables e below (T5.setTop (mkF m 14 #[.val (.ref a1)] [])) _
    refine XS.iconst X5.here hx rfl (hb hby d1_14) ?_
    show Steps p.tables e below (T5.setTop (mkF m 15 #[.val (.ref a1)] [(.int (1 : Int32))])) _
    refine XS.goto X5.here hx rfl (pc0 := 15) (pc' := 19) rfl (hb hby d1_15) (by decide) (by decide) ?_
    show Steps p.tables e below (T5.setTop (mkF m 19 #[.val (.ref a1)] [(.int (1 : Int32))])) _
    exact retN X5 hx (t := .boolean) Bd.returns (by simp) (hb hby d1_19) hr
  · show own_Qv (1 : Int32) h0 n0 _ T5.heap _
    rw [e5]
    exact ⟨rfl, N0, rfl⟩

theorem d1_18 : decode prog_29_method_8_code 18 = .ok (.iconst 0, 1) := by decide +kernel
set_option maxRecDepth 65536 in
set_option maxHeartbeats 40000000 in
theorem rm1_o (l : Launch) (Z : State) (a0 : Array Value) (hw : ∀ d ∈ tables_1, d.before a0 Z = true) (ws : List Jvm.Cond) (a1 : Addr) (w2 : Addr) (w4 : Addr) (h0 : Heap) (n0 : Nat) (Z0 : n0 ≤ h0.size) (S_DATABASE_CLOCK : Sta Z h0 "com/example/lock2/lock2/mapping/VersionKind" "DATABASE_CLOCK" "Lcom/example/lock2/lock2/mapping/VersionKind;" (.ref w2)) (S_JVM_CLOCK : Sta Z h0 "com/example/lock2/lock2/mapping/VersionKind" "JVM_CLOCK" "Lcom/example/lock2/lock2/mapping/VersionKind;" (.ref w4)) (ha4 : ¬ (a1 = w2)) (ha11 : ¬ (a1 = w4)) :
    MetFree l (⟨"com/example/lock2/lock2/mapping/VersionKind", "isTimestampFromClock", "()Z"⟩ : MethodName) (head1 (Jvm.Cond.code (⟨"com/example/lock2/lock2/mapping/VersionKind", "isTimestampFromClock", "()Z"⟩ : MethodName) prog_29_method_8_code 1 (some .boolean) :: ws) ({ frames := 0, cells := 0, slots := 0, locals := 0 } : Room)) (fun a U => a = #[(.ref a1)] ∧ Z.Warmed39 U.vm ∧ U.heap = h0) (fun _ _ _ _ _ => True) (fun _ U o U' => ∃ v L, o = .returned v ∧ own_Qv (0 : Int32) h0 n0 v U'.heap L ∧ FrameEnd U o U' L ({ frames := 0, cells := 0, slots := 0, locals := 0 } : Room).cells ({ frames := 0, cells := 0, slots := 0, locals := 0 } : Room).slots) := by
  refine MetFree.of_bodySF (plainFor_of_name pn_1) hisR ?_
  intro p e s m args below meth c s₁ Bd hml0 hP hK
  obtain ⟨rfl, hZ, hh⟩ := hP
  have hx := Bd.exec
  have hby := Bd.bytes
  have hml : c.maxLocals = 1 := hml0
  have hown : s.vm.findClass "com/example/lock2/lock2/mapping/VersionKind" = some m.cls := findClass_of_methodNamed Bd.named
  have hnm := (name_of_methodNamed Bd.named Bd.method).1
  have X0 : Stand p l e ({ frames := 0, cells := 0, slots := 0, locals := 0 } : Room) s m #[(.ref a1)] below meth c s₁ [] 0 0 := Stand.of_body Bd
  have e0 : s₁.heap = h0 := by rw [← hh, Bd.state]; rfl
  have N0 := Fr.nil n0
  have pre0 : ∀ t, Steps p.tables e below (s₁.setTop (mkF m 0 #[.val (.ref a1)] [])) t → Steps p.tables e below (s₁.setTop (entryFrame m #[(.ref a1)] 1)) t := fun t k => castTop (ef_1 m a1) k
  obtain ⟨T3, X3, e3, st3⟩ := getS2 X0 hx hZ hown (host := "") (Or.inl (hw _ (List.mem_of_getElem? (i := 24) rfl))) Via.refl e0 S_DATABASE_CLOCK (g := (mkF m 1 #[.val (.ref a1)] [(.ref a1)])) rfl (hb hby d1_1)
  obtain ⟨T5, X5, e5, st5⟩ := getS2 X3 hx hZ hown (host := "") (Or.inl (hw _ (List.mem_of_getElem? (i := 25) rfl))) Via.refl e3 S_JVM_CLOCK (g := (mkF m 8 #[.val (.ref a1)] [(.ref a1)])) rfl (hb hby d1_8)
  obtain ⟨fs, hr, hrun, hended, hW, hsame⟩ := X5.leave (v := some (.int (0 : Int32))) (fun h => by rw [Bd.returns] at h; cases h)
  refine ⟨_, _, pre0 _ ?_, hrun, hended, _, _, rfl, ?_, ⟨_, rfl⟩, hW, hsame.mono (by decide) (by decide)⟩
  · show Steps p.tables e below (s₁.setTop (mkF m 0 #[.val (.ref a1)] [])) _
    refine XS.aloadN X0.here hx rfl (hb hby d1_0) rfl rfl ?_
    show Steps p.tables e below (s₁.setTop (mkF m 1 #[.val (.ref a1)] [(.ref a1)])) _
    refine st3 _ ?_
    show Steps p.tables e below (T3.setTop (mkF m 4 #[.val (.ref a1)] [(.ref w2), (.ref a1)])) _
    refine Jvm.RoadKit.acmp (g := (mkF m 4 #[.val (.ref a1)] [(.ref w2), (.ref a1)])) X3 hx rfl rfl rfl (pc0 := 4) (pc' := 7) (same := false) rfl (hb hby d1_4) rfl (decide_eq_false fun q => ha4 (Value.ref.inj q)) (by decide) (by decide) ?_
    show Steps p.tables e below (T3.setTop (mkF m 7 #[.val (.ref a1)] [])) _
    refine XS.aloadN X3.here hx rfl (hb hby d1_7) rfl rfl ?_
    show Steps p.tables e below (T3.setTop (mkF m 8 #[.val (.ref a1)] [(.ref a1)])) _
    refine st5 _ ?_
    show Steps p.tables e below (T5.setTop (mkF m 11 #[.val (.ref a1)] [(.ref w4), (.ref a1)])) _
    refine Jvm.RoadKit.acmp (g := (mkF m 11 #[.val (.ref a1)] [(.ref w4), (.ref a1)])) X5 hx rfl rfl rfl (pc0 := 11) (pc' := 18) (same := false) rfl (hb hby d1_11) rfl (decide_eq_false fun q => ha11 (Value.ref.inj q)) (by decide) (by decide) ?_
    show Steps p.tables e below (T5.setTop (mkF m 18 #[.val (.ref a1)] [])) _
    refine XS.iconst X5.here hx rfl (hb hby d1_18) ?_
    show Steps p.tables e below (T5.setTop (mkF m 19 #[.val (.ref a1)] [(.int (0 : Int32))])) _
    exact retN X5 hx (t := .boolean) Bd.returns (by simp) (hb hby d1_19) hr
  · show own_Qv (0 : Int32) h0 n0 _ T5.heap _
    rw [e5]
    exact ⟨rfl, N0, rfl⟩

theorem rm1_y (l : Launch) (Z : State) (a0 : Array Value) (hw : ∀ d ∈ tables_1, d.before a0 Z = true) (ws : List Jvm.Cond) (a1 w4 w5 : Addr) (h0 : Heap) (n0 : Nat) (Z0 : n0 ≤ h0.size) (S4 : Sta Z h0 "com/example/lock2/lock2/mapping/VersionKind" "DATABASE_CLOCK" "Lcom/example/lock2/lock2/mapping/VersionKind;" (.ref w4)) (S5 : Sta Z h0 "com/example/lock2/lock2/mapping/VersionKind" "JVM_CLOCK" "Lcom/example/lock2/lock2/mapping/VersionKind;" (.ref w5)) (hor : a1 = w4 ∨ a1 = w5) :
    MetFree l (⟨"com/example/lock2/lock2/mapping/VersionKind", "isTimestampFromClock", "()Z"⟩ : MethodName) (head1 (Jvm.Cond.code (⟨"com/example/lock2/lock2/mapping/VersionKind", "isTimestampFromClock", "()Z"⟩ : MethodName) prog_29_method_8_code 1 (some .boolean) :: ws) ({ frames := 0, cells := 0, slots := 0, locals := 0 } : Room)) (fun a U => a = #[(.ref a1)] ∧ Z.Warmed39 U.vm ∧ U.heap = h0) (fun _ _ _ _ _ => True) (fun _ U o U' => ∃ v L, o = .returned v ∧ own_Qv (1 : Int32) h0 n0 v U'.heap L ∧ FrameEnd U o U' L ({ frames := 0, cells := 0, slots := 0, locals := 0 } : Room).cells ({ frames := 0, cells := 0, slots := 0, locals := 0 } : Room).slots) := by
  by_cases q : a1 = w4
  · exact rm1_d l Z a0 hw ws a1 w4 h0 n0 Z0 S4 q
  · exact rm1_j l Z a0 hw ws a1 w4 w5 h0 n0 Z0 S4 S5 q (hor.resolve_left q)
theorem d2_0 : decode prog_29_method_4_code 0 = .ok (.aload_n 0, 1) := by decide +kernel
theorem d2_1 : decode prog_29_method_4_code 1 = .ok (.getstatic 13, 3) := by decide +kernel
theorem d2_4 : decode prog_29_method_4_code 4 = .ok (.if_acmp .eq 17, 3) := by decide +kernel
theorem d2_7 : decode prog_29_method_4_code 7 = .ok (.aload_n 0, 1) := by decide +kernel
theorem d2_8 : decode prog_29_method_4_code 8 = .ok (.getstatic 22, 3) := by decide +kernel
theorem d2_11 : decode prog_29_method_4_code 11 = .ok (.if_acmp .eq 10, 3) := by decide +kernel
theorem d2_14 : decode prog_29_method_4_code 14 = .ok (.aload_n 0, 1) := by decide +kernel
theorem d2_15 : decode prog_29_method_4_code 15 = .ok (.invokevirtual 44, 3) := by decide +kernel
theorem d2_18 : decode prog_29_method_4_code 18 = .ok (.ifCond .eq 7, 3) := by decide +kernel
theorem d2_21 : decode prog_29_method_4_code 21 = .ok (.iconst 1, 1) := by decide +kernel
theorem d2_22 : decode prog_29_method_4_code 22 = .ok (.goto 4, 3) := by decide +kernel
theorem d2_26 : decode prog_29_method_4_code 26 = .ok (.ireturn, 1) := by decide +kernel
theorem pn_2 : plainName "com/example/lock2/lock2/mapping/VersionKind" = true := by first | (simp [plainName, overriddenIn]; done) | decide +kernel
theorem pd_2_0 : parseMethodDescriptor "()Z" = some ⟨[], some .boolean⟩ := by decide +kernel
theorem ef_2 (m : MethodId) (x0 : Addr) : entryFrame m #[(.ref x0)] 1 = mkF m 0 #[.val (.ref x0)] [] := by first | (simp [entryFrame, mkF, argsToLocals, Value.category]; done) | rfl
set_option maxRecDepth 65536 in
set_option maxHeartbeats 40000000 in
theorem rm2 (l : Launch) (Z : State) (a0 : Array Value) (hw : ∀ d ∈ tables_1, d.before a0 Z = true) (ws : List Jvm.Cond) (a1 : Addr) (w2 : Addr) (w4 : Addr) (wD wJ : Addr) (h0 : Heap) (n0 : Nat) (Z0 : n0 ≤ h0.size) (S_COUNTED : Sta Z h0 "com/example/lock2/lock2/mapping/VersionKind" "COUNTED" "Lcom/example/lock2/lock2/mapping/VersionKind;" (.ref w2)) (S_GENERATED : Sta Z h0 "com/example/lock2/lock2/mapping/VersionKind" "GENERATED" "Lcom/example/lock2/lock2/mapping/VersionKind;" (.ref w4)) (E_a1 : Exa Z h0 a1 "com/example/lock2/lock2/mapping/VersionKind") (SD : Sta Z h0 "com/example/lock2/lock2/mapping/VersionKind" "DATABASE_CLOCK" "Lcom/example/lock2/lock2/mapping/VersionKind;" (.ref wD)) (SJ : Sta Z h0 "com/example/lock2/lock2/mapping/VersionKind" "JVM_CLOCK" "Lcom/example/lock2/lock2/mapping/VersionKind;" (.ref wJ)) (hor : a1 = wD ∨ a1 = wJ) (ha4 : ¬ (a1 = w2)) (ha11 : ¬ (a1 = w4)) (hc18 : ¬ ((1 : Int32) = (0 : Int32))) :
    MetFree l (⟨"com/example/lock2/lock2/mapping/VersionKind", "hasVersionColumn", "()Z"⟩ : MethodName) (head1 (Jvm.Cond.code (⟨"com/example/lock2/lock2/mapping/VersionKind", "hasVersionColumn", "()Z"⟩ : MethodName) prog_29_method_4_code 1 (some .boolean) :: ws) ({ frames := 1, cells := 0, slots := 0, locals := 12 } : Room)) (fun a U => a = #[(.ref a1)] ∧ Z.Warmed39 U.vm ∧ U.heap = h0) (fun _ _ _ _ _ => True) (fun _ U o U' => ∃ v L, o = .returned v ∧ own_Qv (1 : Int32) h0 n0 v U'.heap L ∧ FrameEnd U o U' L ({ frames := 1, cells := 0, slots := 0, locals := 12 } : Room).cells ({ frames := 1, cells := 0, slots := 0, locals := 12 } : Room).slots) := by
  refine MetFree.of_bodySF (plainFor_of_name pn_2) hisR ?_
  intro p e s m args below meth c s₁ Bd hml0 hP hK
  obtain ⟨rfl, hZ, hh⟩ := hP
  have hx := Bd.exec
  have hby := Bd.bytes
  have hml : c.maxLocals = 1 := hml0
  have hown : s.vm.findClass "com/example/lock2/lock2/mapping/VersionKind" = some m.cls := findClass_of_methodNamed Bd.named
  have hnm := (name_of_methodNamed Bd.named Bd.method).1
  have X0 : Stand p l e ({ frames := 1, cells := 0, slots := 0, locals := 12 } : Room) s m #[(.ref a1)] below meth c s₁ [] 0 0 := Stand.of_body Bd
  have e0 : s₁.heap = h0 := by rw [← hh, Bd.state]; rfl
  have N0 := Fr.nil n0
  have pre0 : ∀ t, Steps p.tables e below (s₁.setTop (mkF m 0 #[.val (.ref a1)] [])) t → Steps p.tables e below (s₁.setTop (entryFrame m #[(.ref a1)] 1)) t := fun t k => castTop (ef_2 m a1) k
  obtain ⟨T3, X3, e3, st3⟩ := getS2 X0 hx hZ hown (host := "") (Or.inl (hw _ (List.mem_of_getElem? (i := 31) rfl))) Via.refl e0 S_COUNTED (g := (mkF m 1 #[.val (.ref a1)] [(.ref a1)])) rfl (hb hby d2_1)
  obtain ⟨T5, X5, e5, st5⟩ := getS2 X3 hx hZ hown (host := "") (Or.inl (hw _ (List.mem_of_getElem? (i := 32) rfl))) Via.refl e3 S_GENERATED (g := (mkF m 8 #[.val (.ref a1)] [(.ref a1)])) rfl (hb hby d2_8)
  obtain ⟨cq6, kq6, q6a, q6b, q6c⟩ := isOf hZ e5 E_a1
  obtain ⟨_, _, ⟨T6, L6, k6, n6⟩, -, X6, ⟨Lc6, hQ6, l6, y6, z6⟩, st6⟩ := X5.virtualBack hx (y := (⟨"com/example/lock2/lock2/mapping/VersionKind", "isTimestampFromClock", "()Z"⟩ : MethodName)) (z := (⟨"com/example/lock2/lock2/mapping/VersionKind", "isTimestampFromClock", "()Z"⟩ : MethodName)) hown (mvT hZ (hw _ (List.mem_of_getElem? (i := 33) rfl))) (mvT hZ (hw _ (List.mem_of_getElem? (i := 20) rfl))) (notFace_of_selects (args := #[]) (mvT hZ (hw _ (List.mem_of_getElem? (i := 22) rfl)))) (mvT hZ (hw _ (List.mem_of_getElem? (i := 22) rfl))) (mvT hZ (hw _ (List.mem_of_getElem? (i := 21) rfl))) (by decide) (backOf (W := 0) (rm1_y l Z a0 hw [] a1 wD wJ h0 n0 Z0 SD SJ hor) hZ (hw _ (List.mem_of_getElem? (i := 23) rfl)) (hw _ (List.mem_of_getElem? (i := 4) rfl)) (by decide) (by decide)) q6a q6c (g := (mkF m 15 #[.val (.ref a1)] [(.ref a1)])) rfl (by rw [hml]; rfl) (Steps.refl _) (argsL := []) (rest := []) (lenOf pd_2_0 rfl) rfl (by show 2 * 0 + _ ≤ _; exact Nat.le_of_eq rfl) (hb hby d2_15) (fun _ _ => ⟨rfl, e5, (by decide : 0 + 0 ≤ _), (by decide : 0 + 0 ≤ _)⟩)
  dsimp only [Pt.U, Pt.locs, Pt.cells, Pt.slots] at X6 l6 y6 z6 st6 hQ6
  subst l6 y6 z6
  obtain ⟨rfl, N6q, e6⟩ := hQ6
  have N6 := Fr.app N0 N6q
  obtain ⟨fs, hr, hrun, hended, hW, hsame⟩ := X6.leave (v := some (.int (1 : Int32))) (fun h => by rw [Bd.returns] at h; cases h)
  refine ⟨_, _, pre0 _ ?_, hrun, hended, _, _, rfl, ?_, ⟨_, rfl⟩, hW, hsame.mono (by decide) (by decide)⟩
  · show Steps p.tables e below (s₁.setTop (mkF m 0 #[.val (.ref a1)] [])) _
    refine XS.aloadN X0.here hx rfl (hb hby d2_0) rfl rfl ?_
    show Steps p.tables e below (s₁.setTop (mkF m 1 #[.val (.ref a1)] [(.ref a1)])) _
    refine st3 _ ?_
    show Steps p.tables e below (T3.setTop (mkF m 4 #[.val (.ref a1)] [(.ref w2), (.ref a1)])) _
    refine Jvm.RoadKit.acmp (g := (mkF m 4 #[.val (.ref a1)] [(.ref w2), (.ref a1)])) X3 hx rfl rfl rfl (pc0 := 4) (pc' := 7) (same := false) rfl (hb hby d2_4) rfl (decide_eq_false fun q => ha4 (Value.ref.inj q)) (by decide) (by decide) ?_
    show Steps p.tables e below (T3.setTop (mkF m 7 #[.val (.ref a1)] [])) _
    refine XS.aloadN X3.here hx rfl (hb hby d2_7) rfl rfl ?_
    show Steps p.tables e below (T3.setTop (mkF m 8 #[.val (.ref a1)] [(.ref a1)])) _
    refine st5 _ ?_
    show Steps p.tables e below (T5.setTop (mkF m 11 #[.val (.ref a1)] [(.ref w4), (.ref a1)])) _
    refine Jvm.RoadKit.acmp (g := (mkF m 11 #[.val (.ref a1)] [(.ref w4), (.ref a1)])) X5 hx rfl rfl rfl (pc0 := 11) (pc' := 14) (same := false) rfl (hb hby d2_11) rfl (decide_eq_false fun q => ha11 (Value.ref.inj q)) (by decide) (by decide) ?_
    show Steps p.tables e below (T5.setTop (mkF m 14 #[.val (.ref a1)] [])) _
    refine XS.aloadN X5.here hx rfl (hb hby d2_14) rfl rfl ?_
    show Steps p.tables e below (T5.setTop (mkF m 15 #[.val (.ref a1)] [(.ref a1)])) _
    refine st6.trans ?_
    show Steps p.tables e below (T6.setTop (mkF m 18 #[.val (.ref a1)] [(.int (1 : Int32))])) _
    refine XS.ifNo X6.here hx rfl (hb hby d2_18) rfl ((if0 _ _).trans (feq hc18).1) ?_
    show Steps p.tables e below (T6.setTop (mkF m 21 #[.val (.ref a1)] [])) _
    refine XS.iconst X6.here hx rfl (hb hby d2_21) ?_
    show Steps p.tables e below (T6.setTop (mkF m 22 #[.val (.ref a1)] [(.int (1 : Int32))])) _
    refine XS.goto X6.here hx rfl (pc0 := 22) (pc' := 26) rfl (hb hby d2_22) (by decide) (by decide) ?_
    show Steps p.tables e below (T6.setTop (mkF m 26 #[.val (.ref a1)] [(.int (1 : Int32))])) _
    exact retN X6 hx (t := .boolean) Bd.returns (by simp) (hb hby d2_26) hr
  · show own_Qv (1 : Int32) h0 n0 _ T6.heap _
    rw [e6]
    exact ⟨rfl, N6, rfl⟩

theorem d3_0 : decode prog_29_method_6_code 0 = .ok (.aload_n 0, 1) := by decide +kernel
theorem d3_1 : decode prog_29_method_6_code 1 = .ok (.getstatic 13, 3) := by decide +kernel
theorem d3_4 : decode prog_29_method_6_code 4 = .ok (.if_acmp .eq 10, 3) := by decide +kernel
theorem d3_7 : decode prog_29_method_6_code 7 = .ok (.aload_n 0, 1) := by decide +kernel
theorem d3_8 : decode prog_29_method_6_code 8 = .ok (.invokevirtual 44, 3) := by decide +kernel
theorem d3_11 : decode prog_29_method_6_code 11 = .ok (.ifCond .eq 7, 3) := by decide +kernel
theorem d3_14 : decode prog_29_method_6_code 14 = .ok (.iconst 1, 1) := by decide +kernel
theorem d3_15 : decode prog_29_method_6_code 15 = .ok (.goto 4, 3) := by decide +kernel
theorem d3_19 : decode prog_29_method_6_code 19 = .ok (.ireturn, 1) := by decide +kernel
theorem pn_3 : plainName "com/example/lock2/lock2/mapping/VersionKind" = true := by first | (simp [plainName, overriddenIn]; done) | decide +kernel
theorem pd_3_0 : parseMethodDescriptor "()Z" = some ⟨[], some .boolean⟩ := by decide +kernel
theorem ef_3 (m : MethodId) (x0 : Addr) : entryFrame m #[(.ref x0)] 1 = mkF m 0 #[.val (.ref x0)] [] := by first | (simp [entryFrame, mkF, argsToLocals, Value.category]; done) | rfl
set_option maxRecDepth 65536 in
set_option maxHeartbeats 40000000 in
theorem rm3 (l : Launch) (Z : State) (a0 : Array Value) (hw : ∀ d ∈ tables_1, d.before a0 Z = true) (ws : List Jvm.Cond) (a1 : Addr) (w2 : Addr) (wD wJ : Addr) (h0 : Heap) (n0 : Nat) (Z0 : n0 ≤ h0.size) (S_COUNTED : Sta Z h0 "com/example/lock2/lock2/mapping/VersionKind" "COUNTED" "Lcom/example/lock2/lock2/mapping/VersionKind;" (.ref w2)) (E_a1 : Exa Z h0 a1 "com/example/lock2/lock2/mapping/VersionKind") (SD : Sta Z h0 "com/example/lock2/lock2/mapping/VersionKind" "DATABASE_CLOCK" "Lcom/example/lock2/lock2/mapping/VersionKind;" (.ref wD)) (SJ : Sta Z h0 "com/example/lock2/lock2/mapping/VersionKind" "JVM_CLOCK" "Lcom/example/lock2/lock2/mapping/VersionKind;" (.ref wJ)) (hor : a1 = wD ∨ a1 = wJ) (ha4 : ¬ (a1 = w2)) (hc11 : ¬ ((1 : Int32) = (0 : Int32))) :
    MetFree l (⟨"com/example/lock2/lock2/mapping/VersionKind", "isWrittenByLock2", "()Z"⟩ : MethodName) (head1 (Jvm.Cond.code (⟨"com/example/lock2/lock2/mapping/VersionKind", "isWrittenByLock2", "()Z"⟩ : MethodName) prog_29_method_6_code 1 (some .boolean) :: ws) ({ frames := 1, cells := 0, slots := 0, locals := 12 } : Room)) (fun a U => a = #[(.ref a1)] ∧ Z.Warmed39 U.vm ∧ U.heap = h0) (fun _ _ _ _ _ => True) (fun _ U o U' => ∃ v L, o = .returned v ∧ own_Qv (1 : Int32) h0 n0 v U'.heap L ∧ FrameEnd U o U' L ({ frames := 1, cells := 0, slots := 0, locals := 12 } : Room).cells ({ frames := 1, cells := 0, slots := 0, locals := 12 } : Room).slots) := by
  refine MetFree.of_bodySF (plainFor_of_name pn_3) hisR ?_
  intro p e s m args below meth c s₁ Bd hml0 hP hK
  obtain ⟨rfl, hZ, hh⟩ := hP
  have hx := Bd.exec
  have hby := Bd.bytes
  have hml : c.maxLocals = 1 := hml0
  have hown : s.vm.findClass "com/example/lock2/lock2/mapping/VersionKind" = some m.cls := findClass_of_methodNamed Bd.named
  have hnm := (name_of_methodNamed Bd.named Bd.method).1
  have X0 : Stand p l e ({ frames := 1, cells := 0, slots := 0, locals := 12 } : Room) s m #[(.ref a1)] below meth c s₁ [] 0 0 := Stand.of_body Bd
  have e0 : s₁.heap = h0 := by rw [← hh, Bd.state]; rfl
  have N0 := Fr.nil n0
  have pre0 : ∀ t, Steps p.tables e below (s₁.setTop (mkF m 0 #[.val (.ref a1)] [])) t → Steps p.tables e below (s₁.setTop (entryFrame m #[(.ref a1)] 1)) t := fun t k => castTop (ef_3 m a1) k
  obtain ⟨T3, X3, e3, st3⟩ := getS2 X0 hx hZ hown (host := "") (Or.inl (hw _ (List.mem_of_getElem? (i := 31) rfl))) Via.refl e0 S_COUNTED (g := (mkF m 1 #[.val (.ref a1)] [(.ref a1)])) rfl (hb hby d3_1)
  obtain ⟨cq4, kq4, q4a, q4b, q4c⟩ := isOf hZ e3 E_a1
  obtain ⟨_, _, ⟨T4, L4, k4, n4⟩, -, X4, ⟨Lc4, hQ4, l4, y4, z4⟩, st4⟩ := X3.virtualBack hx (y := (⟨"com/example/lock2/lock2/mapping/VersionKind", "isTimestampFromClock", "()Z"⟩ : MethodName)) (z := (⟨"com/example/lock2/lock2/mapping/VersionKind", "isTimestampFromClock", "()Z"⟩ : MethodName)) hown (mvT hZ (hw _ (List.mem_of_getElem? (i := 33) rfl))) (mvT hZ (hw _ (List.mem_of_getElem? (i := 20) rfl))) (notFace_of_selects (args := #[]) (mvT hZ (hw _ (List.mem_of_getElem? (i := 22) rfl)))) (mvT hZ (hw _ (List.mem_of_getElem? (i := 22) rfl))) (mvT hZ (hw _ (List.mem_of_getElem? (i := 21) rfl))) (by decide) (backOf (W := 0) (rm1_y l Z a0 hw [] a1 wD wJ h0 n0 Z0 SD SJ hor) hZ (hw _ (List.mem_of_getElem? (i := 23) rfl)) (hw _ (List.mem_of_getElem? (i := 4) rfl)) (by decide) (by decide)) q4a q4c (g := (mkF m 8 #[.val (.ref a1)] [(.ref a1)])) rfl (by rw [hml]; rfl) (Steps.refl _) (argsL := []) (rest := []) (lenOf pd_3_0 rfl) rfl (by show 2 * 0 + _ ≤ _; exact Nat.le_of_eq rfl) (hb hby d3_8) (fun _ _ => ⟨rfl, e3, (by decide : 0 + 0 ≤ _), (by decide : 0 + 0 ≤ _)⟩)
  dsimp only [Pt.U, Pt.locs, Pt.cells, Pt.slots] at X4 l4 y4 z4 st4 hQ4
  subst l4 y4 z4
  obtain ⟨rfl, N4q, e4⟩ := hQ4
  have N4 := Fr.app N0 N4q
  obtain ⟨fs, hr, hrun, hended, hW, hsame⟩ := X4.leave (v := some (.int (1 : Int32))) (fun h => by rw [Bd.returns] at h; cases h)
  refine ⟨_, _, pre0 _ ?_, hrun, hended, _, _, rfl, ?_, ⟨_, rfl⟩, hW, hsame.mono (by decide) (by decide)⟩
  · show Steps p.tables e below (s₁.setTop (mkF m 0 #[.val (.ref a1)] [])) _
    refine XS.aloadN X0.here hx rfl (hb hby d3_0) rfl rfl ?_
    show Steps p.tables e below (s₁.setTop (mkF m 1 #[.val (.ref a1)] [(.ref a1)])) _
    refine st3 _ ?_
    show Steps p.tables e below (T3.setTop (mkF m 4 #[.val (.ref a1)] [(.ref w2), (.ref a1)])) _
    refine Jvm.RoadKit.acmp (g := (mkF m 4 #[.val (.ref a1)] [(.ref w2), (.ref a1)])) X3 hx rfl rfl rfl (pc0 := 4) (pc' := 7) (same := false) rfl (hb hby d3_4) rfl (decide_eq_false fun q => ha4 (Value.ref.inj q)) (by decide) (by decide) ?_
    show Steps p.tables e below (T3.setTop (mkF m 7 #[.val (.ref a1)] [])) _
    refine XS.aloadN X3.here hx rfl (hb hby d3_7) rfl rfl ?_
    show Steps p.tables e below (T3.setTop (mkF m 8 #[.val (.ref a1)] [(.ref a1)])) _
    refine st4.trans ?_
    show Steps p.tables e below (T4.setTop (mkF m 11 #[.val (.ref a1)] [(.int (1 : Int32))])) _
    refine XS.ifNo X4.here hx rfl (hb hby d3_11) rfl ((if0 _ _).trans (feq hc11).1) ?_
    show Steps p.tables e below (T4.setTop (mkF m 14 #[.val (.ref a1)] [])) _
    refine XS.iconst X4.here hx rfl (hb hby d3_14) ?_
    show Steps p.tables e below (T4.setTop (mkF m 15 #[.val (.ref a1)] [(.int (1 : Int32))])) _
    refine XS.goto X4.here hx rfl (pc0 := 15) (pc' := 19) rfl (hb hby d3_15) (by decide) (by decide) ?_
    show Steps p.tables e below (T4.setTop (mkF m 19 #[.val (.ref a1)] [(.int (1 : Int32))])) _
    exact retN X4 hx (t := .boolean) Bd.returns (by simp) (hb hby d3_19) hr
  · show own_Qv (1 : Int32) h0 n0 _ T4.heap _
    rw [e4]
    exact ⟨rfl, N4, rfl⟩

theorem d4_0 : decode prog_29_method_7_code 0 = .ok (.aload_n 0, 1) := by decide +kernel
theorem d4_1 : decode prog_29_method_7_code 1 = .ok (.getstatic 22, 3) := by decide +kernel
theorem d4_4 : decode prog_29_method_7_code 4 = .ok (.if_acmp .ne 7, 3) := by decide +kernel
theorem d4_11 : decode prog_29_method_7_code 11 = .ok (.iconst 0, 1) := by decide +kernel
theorem d4_12 : decode prog_29_method_7_code 12 = .ok (.ireturn, 1) := by decide +kernel
theorem pn_4 : plainName "com/example/lock2/lock2/mapping/VersionKind" = true := by first | (simp [plainName, overriddenIn]; done) | decide +kernel
theorem ef_4 (m : MethodId) (x0 : Addr) : entryFrame m #[(.ref x0)] 1 = mkF m 0 #[.val (.ref x0)] [] := by first | (simp [entryFrame, mkF, argsToLocals, Value.category]; done) | rfl
set_option maxRecDepth 65536 in
set_option maxHeartbeats 40000000 in
theorem rm4 (l : Launch) (Z : State) (a0 : Array Value) (hw : ∀ d ∈ tables_1, d.before a0 Z = true) (ws : List Jvm.Cond) (a1 : Addr) (w2 : Addr) (h0 : Heap) (n0 : Nat) (Z0 : n0 ≤ h0.size) (S_GENERATED : Sta Z h0 "com/example/lock2/lock2/mapping/VersionKind" "GENERATED" "Lcom/example/lock2/lock2/mapping/VersionKind;" (.ref w2)) (ha4 : ¬ (a1 = w2)) :
    MetFree l (⟨"com/example/lock2/lock2/mapping/VersionKind", "isWrittenByDatabase", "()Z"⟩ : MethodName) (head1 (Jvm.Cond.code (⟨"com/example/lock2/lock2/mapping/VersionKind", "isWrittenByDatabase", "()Z"⟩ : MethodName) prog_29_method_7_code 1 (some .boolean) :: ws) ({ frames := 0, cells := 0, slots := 0, locals := 0 } : Room)) (fun a U => a = #[(.ref a1)] ∧ Z.Warmed39 U.vm ∧ U.heap = h0) (fun _ _ _ _ _ => True) (fun _ U o U' => ∃ v L, o = .returned v ∧ own_Qv (0 : Int32) h0 n0 v U'.heap L ∧ FrameEnd U o U' L ({ frames := 0, cells := 0, slots := 0, locals := 0 } : Room).cells ({ frames := 0, cells := 0, slots := 0, locals := 0 } : Room).slots) := by
  refine MetFree.of_bodySF (plainFor_of_name pn_4) hisR ?_
  intro p e s m args below meth c s₁ Bd hml0 hP hK
  obtain ⟨rfl, hZ, hh⟩ := hP
  have hx := Bd.exec
  have hby := Bd.bytes
  have hml : c.maxLocals = 1 := hml0
  have hown : s.vm.findClass "com/example/lock2/lock2/mapping/VersionKind" = some m.cls := findClass_of_methodNamed Bd.named
  have hnm := (name_of_methodNamed Bd.named Bd.method).1
  have X0 : Stand p l e ({ frames := 0, cells := 0, slots := 0, locals := 0 } : Room) s m #[(.ref a1)] below meth c s₁ [] 0 0 := Stand.of_body Bd
  have e0 : s₁.heap = h0 := by rw [← hh, Bd.state]; rfl
  have N0 := Fr.nil n0
  have pre0 : ∀ t, Steps p.tables e below (s₁.setTop (mkF m 0 #[.val (.ref a1)] [])) t → Steps p.tables e below (s₁.setTop (entryFrame m #[(.ref a1)] 1)) t := fun t k => castTop (ef_4 m a1) k
  obtain ⟨T3, X3, e3, st3⟩ := getS2 X0 hx hZ hown (host := "") (Or.inl (hw _ (List.mem_of_getElem? (i := 32) rfl))) Via.refl e0 S_GENERATED (g := (mkF m 1 #[.val (.ref a1)] [(.ref a1)])) rfl (hb hby d4_1)
  obtain ⟨fs, hr, hrun, hended, hW, hsame⟩ := X3.leave (v := some (.int (0 : Int32))) (fun h => by rw [Bd.returns] at h; cases h)
  refine ⟨_, _, pre0 _ ?_, hrun, hended, _, _, rfl, ?_, ⟨_, rfl⟩, hW, hsame.mono (by decide) (by decide)⟩
  · show Steps p.tables e below (s₁.setTop (mkF m 0 #[.val (.ref a1)] [])) _
    refine XS.aloadN X0.here hx rfl (hb hby d4_0) rfl rfl ?_
    show Steps p.tables e below (s₁.setTop (mkF m 1 #[.val (.ref a1)] [(.ref a1)])) _
    refine st3 _ ?_
    show Steps p.tables e below (T3.setTop (mkF m 4 #[.val (.ref a1)] [(.ref w2), (.ref a1)])) _
    refine Jvm.RoadKit.acmp (g := (mkF m 4 #[.val (.ref a1)] [(.ref w2), (.ref a1)])) X3 hx rfl rfl rfl (pc0 := 4) (pc' := 11) (same := false) rfl (hb hby d4_4) rfl (decide_eq_false fun q => ha4 (Value.ref.inj q)) (by decide) (by decide) ?_
    show Steps p.tables e below (T3.setTop (mkF m 11 #[.val (.ref a1)] [])) _
    refine XS.iconst X3.here hx rfl (hb hby d4_11) ?_
    show Steps p.tables e below (T3.setTop (mkF m 12 #[.val (.ref a1)] [(.int (0 : Int32))])) _
    exact retN X3 hx (t := .boolean) Bd.returns (by simp) (hb hby d4_12) hr
  · show own_Qv (0 : Int32) h0 n0 _ T3.heap _
    rw [e3]
    exact ⟨rfl, N0, rfl⟩

theorem d5_0 : decode prog_29_method_5_code 0 = .ok (.aload_n 0, 1) := by decide +kernel
theorem d5_1 : decode prog_29_method_5_code 1 = .ok (.getstatic 7, 3) := by decide +kernel
theorem d5_4 : decode prog_29_method_5_code 4 = .ok (.if_acmp .eq 10, 3) := by decide +kernel
theorem d5_7 : decode prog_29_method_5_code 7 = .ok (.aload_n 0, 1) := by decide +kernel
theorem d5_8 : decode prog_29_method_5_code 8 = .ok (.getstatic 10, 3) := by decide +kernel
theorem d5_11 : decode prog_29_method_5_code 11 = .ok (.if_acmp .ne 7, 3) := by decide +kernel
theorem d5_18 : decode prog_29_method_5_code 18 = .ok (.iconst 0, 1) := by decide +kernel
theorem d5_19 : decode prog_29_method_5_code 19 = .ok (.ireturn, 1) := by decide +kernel
theorem pn_5 : plainName "com/example/lock2/lock2/mapping/VersionKind" = true := by first | (simp [plainName, overriddenIn]; done) | decide +kernel
theorem ef_5 (m : MethodId) (x0 : Addr) : entryFrame m #[(.ref x0)] 1 = mkF m 0 #[.val (.ref x0)] [] := by first | (simp [entryFrame, mkF, argsToLocals, Value.category]; done) | rfl
set_option maxRecDepth 65536 in
set_option maxHeartbeats 40000000 in
theorem rm5 (l : Launch) (Z : State) (a0 : Array Value) (hw : ∀ d ∈ tables_1, d.before a0 Z = true) (ws : List Jvm.Cond) (a1 : Addr) (w2 : Addr) (w4 : Addr) (h0 : Heap) (n0 : Nat) (Z0 : n0 ≤ h0.size) (S_ALL_COLUMNS : Sta Z h0 "com/example/lock2/lock2/mapping/VersionKind" "ALL_COLUMNS" "Lcom/example/lock2/lock2/mapping/VersionKind;" (.ref w2)) (S_CHANGED_COLUMNS : Sta Z h0 "com/example/lock2/lock2/mapping/VersionKind" "CHANGED_COLUMNS" "Lcom/example/lock2/lock2/mapping/VersionKind;" (.ref w4)) (ha4 : ¬ (a1 = w2)) (ha11 : ¬ (a1 = w4)) :
    MetFree l (⟨"com/example/lock2/lock2/mapping/VersionKind", "comparesColumns", "()Z"⟩ : MethodName) (head1 (Jvm.Cond.code (⟨"com/example/lock2/lock2/mapping/VersionKind", "comparesColumns", "()Z"⟩ : MethodName) prog_29_method_5_code 1 (some .boolean) :: ws) ({ frames := 0, cells := 0, slots := 0, locals := 0 } : Room)) (fun a U => a = #[(.ref a1)] ∧ Z.Warmed39 U.vm ∧ U.heap = h0) (fun _ _ _ _ _ => True) (fun _ U o U' => ∃ v L, o = .returned v ∧ own_Qv (0 : Int32) h0 n0 v U'.heap L ∧ FrameEnd U o U' L ({ frames := 0, cells := 0, slots := 0, locals := 0 } : Room).cells ({ frames := 0, cells := 0, slots := 0, locals := 0 } : Room).slots) := by
  refine MetFree.of_bodySF (plainFor_of_name pn_5) hisR ?_
  intro p e s m args below meth c s₁ Bd hml0 hP hK
  obtain ⟨rfl, hZ, hh⟩ := hP
  have hx := Bd.exec
  have hby := Bd.bytes
  have hml : c.maxLocals = 1 := hml0
  have hown : s.vm.findClass "com/example/lock2/lock2/mapping/VersionKind" = some m.cls := findClass_of_methodNamed Bd.named
  have hnm := (name_of_methodNamed Bd.named Bd.method).1
  have X0 : Stand p l e ({ frames := 0, cells := 0, slots := 0, locals := 0 } : Room) s m #[(.ref a1)] below meth c s₁ [] 0 0 := Stand.of_body Bd
  have e0 : s₁.heap = h0 := by rw [← hh, Bd.state]; rfl
  have N0 := Fr.nil n0
  have pre0 : ∀ t, Steps p.tables e below (s₁.setTop (mkF m 0 #[.val (.ref a1)] [])) t → Steps p.tables e below (s₁.setTop (entryFrame m #[(.ref a1)] 1)) t := fun t k => castTop (ef_5 m a1) k
  obtain ⟨T3, X3, e3, st3⟩ := getS2 X0 hx hZ hown (host := "") (Or.inl (hw _ (List.mem_of_getElem? (i := 49) rfl))) Via.refl e0 S_ALL_COLUMNS (g := (mkF m 1 #[.val (.ref a1)] [(.ref a1)])) rfl (hb hby d5_1)
  obtain ⟨T5, X5, e5, st5⟩ := getS2 X3 hx hZ hown (host := "") (Or.inl (hw _ (List.mem_of_getElem? (i := 50) rfl))) Via.refl e3 S_CHANGED_COLUMNS (g := (mkF m 8 #[.val (.ref a1)] [(.ref a1)])) rfl (hb hby d5_8)
  obtain ⟨fs, hr, hrun, hended, hW, hsame⟩ := X5.leave (v := some (.int (0 : Int32))) (fun h => by rw [Bd.returns] at h; cases h)
  refine ⟨_, _, pre0 _ ?_, hrun, hended, _, _, rfl, ?_, ⟨_, rfl⟩, hW, hsame.mono (by decide) (by decide)⟩
  · show Steps p.tables e below (s₁.setTop (mkF m 0 #[.val (.ref a1)] [])) _
    refine XS.aloadN X0.here hx rfl (hb hby d5_0) rfl rfl ?_
    show Steps p.tables e below (s₁.setTop (mkF m 1 #[.val (.ref a1)] [(.ref a1)])) _
    refine st3 _ ?_
    show Steps p.tables e below (T3.setTop (mkF m 4 #[.val (.ref a1)] [(.ref w2), (.ref a1)])) _
    refine Jvm.RoadKit.acmp (g := (mkF m 4 #[.val (.ref a1)] [(.ref w2), (.ref a1)])) X3 hx rfl rfl rfl (pc0 := 4) (pc' := 7) (same := false) rfl (hb hby d5_4) rfl (decide_eq_false fun q => ha4 (Value.ref.inj q)) (by decide) (by decide) ?_
    show Steps p.tables e below (T3.setTop (mkF m 7 #[.val (.ref a1)] [])) _
    refine XS.aloadN X3.here hx rfl (hb hby d5_7) rfl rfl ?_
    show Steps p.tables e below (T3.setTop (mkF m 8 #[.val (.ref a1)] [(.ref a1)])) _
    refine st5 _ ?_
    show Steps p.tables e below (T5.setTop (mkF m 11 #[.val (.ref a1)] [(.ref w4), (.ref a1)])) _
    refine Jvm.RoadKit.acmp (g := (mkF m 11 #[.val (.ref a1)] [(.ref w4), (.ref a1)])) X5 hx rfl rfl rfl (pc0 := 11) (pc' := 18) (same := false) rfl (hb hby d5_11) rfl (decide_eq_false fun q => ha11 (Value.ref.inj q)) (by decide) (by decide) ?_
    show Steps p.tables e below (T5.setTop (mkF m 18 #[.val (.ref a1)] [])) _
    refine XS.iconst X5.here hx rfl (hb hby d5_18) ?_
    show Steps p.tables e below (T5.setTop (mkF m 19 #[.val (.ref a1)] [(.int (0 : Int32))])) _
    exact retN X5 hx (t := .boolean) Bd.returns (by simp) (hb hby d5_19) hr
  · show own_Qv (0 : Int32) h0 n0 _ T5.heap _
    rw [e5]
    exact ⟨rfl, N0, rfl⟩

theorem os_sA_0_7 {z0 : Value} {s1 : Slot} {s2 : Slot} {s3 : Slot} {s4 : Slot} {s5 : Slot} {v : Int32} (h : One s1) : storeLocals #[.val z0, s1, s2, s3, s4, s5] 1 (.int v) = some #[.val z0, .val (.int v), s2, s3, s4, s5] := by
  rcases h with rfl | ⟨w, rfl, hw⟩
  · rfl
  · cases w <;> first | rfl | (simp [Value.category] at hw)
theorem os_sA_0_56 {z0 : Value} {z1 : Value} {s2 : Slot} {s3 : Slot} {s4 : Slot} {s5 : Slot} {v : Addr} (h : One s2) : storeLocals #[.val z0, .val z1, s2, s3, s4, s5] 2 (.ref v) = some #[.val z0, .val z1, .val (.ref v), s3, s4, s5] := by
  rcases h with rfl | ⟨w, rfl, hw⟩
  · rfl
  · cases w <;> first | rfl | (simp [Value.category] at hw)
set_option maxRecDepth 65536 in
set_option maxHeartbeats 40000000 in
theorem sA {p : Program} {l : Launch} {e : Env} {s : State} {m : MethodId} {args : Array Value} {below : List Frame} {meth : Method} {c : Code} {T0 : State} {locs : List Loc} {Z : State} {a0 : Array Value} {h0 : Heap} {n0 : Nat} (i0 : Int32) (s1 : Slot) (s2 : Slot) (s3 : Slot) (s4 : Slot) (s5 : Slot) (w3 : Addr) (w6 : Addr) (w9 : Addr) (w12 : Addr) (w15 : Addr) (w18 : Addr) (w21 : Addr) 
    (X0 : Stand p l e room_1 s m args below meth c T0 locs 0 0) (hx : p.tables.exec = Jvm.exec) (hZ : Z.Warmed39 s.vm) (hw : ∀ d ∈ tables_1, d.before a0 Z = true) (hby : c.code = code) (hml : c.maxLocals = 6) (hown : s.vm.findClass "com/example/lock2/lock2/mapping/VersionKindIsTimestampFromClockPinLaw" = some m.cls) (e0 : T0.heap = h0) (N0 : Fr n0 locs) (Z0 : n0 ≤ h0.size) (Od0 : Old Z n0 h0) (hs1 : One s1) (S_NONE : Sta Z Z.heap "com/example/lock2/lock2/mapping/VersionKind" "NONE" "Lcom/example/lock2/lock2/mapping/VersionKind;" (.ref w3)) (E_w3 : Exa Z Z.heap w3 "com/example/lock2/lock2/mapping/VersionKind") (S_ALL_COLUMNS : Sta Z Z.heap "com/example/lock2/lock2/mapping/VersionKind" "ALL_COLUMNS" "Lcom/example/lock2/lock2/mapping/VersionKind;" (.ref w6)) (E_w6 : Exa Z Z.heap w6 "com/example/lock2/lock2/mapping/VersionKind") (S_CHANGED_COLUMNS : Sta Z Z.heap "com/example/lock2/lock2/mapping/VersionKind" "CHANGED_COLUMNS" "Lcom/example/lock2/lock2/mapping/VersionKind;" (.ref w9)) (E_w9 : Exa Z Z.heap w9 "com/example/lock2/lock2/mapping/VersionKind") (S_COUNTED : Sta Z Z.heap "com/example/lock2/lock2/mapping/VersionKind" "COUNTED" "Lcom/example/lock2/lock2/mapping/VersionKind;" (.ref w12)) (E_w12 : Exa Z Z.heap w12 "com/example/lock2/lock2/mapping/VersionKind") (S_DATABASE_CLOCK : Sta Z Z.heap "com/example/lock2/lock2/mapping/VersionKind" "DATABASE_CLOCK" "Lcom/example/lock2/lock2/mapping/VersionKind;" (.ref w15)) (E_w15 : Exa Z Z.heap w15 "com/example/lock2/lock2/mapping/VersionKind") (S_JVM_CLOCK : Sta Z Z.heap "com/example/lock2/lock2/mapping/VersionKind" "JVM_CLOCK" "Lcom/example/lock2/lock2/mapping/VersionKind;" (.ref w18)) (E_w18 : Exa Z Z.heap w18 "com/example/lock2/lock2/mapping/VersionKind") (S_GENERATED : Sta Z Z.heap "com/example/lock2/lock2/mapping/VersionKind" "GENERATED" "Lcom/example/lock2/lock2/mapping/VersionKind;" (.ref w21)) (E_w21 : Exa Z Z.heap w21 "com/example/lock2/lock2/mapping/VersionKind") (hs2 : One s2)  :
    ∃ (T' : State) (L' : List Loc) (h' : Heap) (b : Addr) (kc : ClassId), Stand p l e room_1 s m args below meth c T' L' 1 7 ∧ Fr n0 L' ∧ T'.heap = h' ∧ n0 ≤ b ∧ Old Z n0 h' ∧ Arv Z h' b kc (.object "com/example/lock2/lock2/mapping/VersionKind") (7 : Int32) [(.ref w3), (.ref w6), (.ref w9), (.ref w12), (.ref w15), (.ref w18), (.ref w21)] .null ∧
      ∀ target, Steps p.tables e below (T'.setTop (mkF m 57 #[.val (.int i0), .val (.int ((i0 &&& (2147483647 : Int32)) % (7 : Int32))), .val (.ref b), s3, s4, s5] [])) target → Steps p.tables e below (T0.setTop (mkF m 0 #[.val (.int i0), s1, s2, s3, s4, s5] [])) target := by
  obtain ⟨T2, h2, k2, X2, e2, E2, A2, O2, st2⟩ := newR X0 hx hZ hown (hw _ (List.mem_of_getElem? (i := 1) rfl)) (hw _ (List.mem_of_getElem? (i := 2) rfl)) e0 (g := (mkF m 10 #[.val (.int i0), .val (.int ((i0 &&& (2147483647 : Int32)) % (7 : Int32))), s2, s3, s4, s5] [(.int (7 : Int32))])) rfl (hb hby at_10) rfl (by decide) (cap := 7) (by decide) (by decide) (by decide) (by decide)
  obtain ⟨b2, g2⟩ : ∃ z, z = h0.size := ⟨_, rfl⟩
  rw [← g2] at A2 st2
  have V_b2 : Arv Z h2 b2 k2 (.object "com/example/lock2/lock2/mapping/VersionKind") (7 : Int32) [.null, .null, .null, .null, .null, .null, .null] .null := (Arv.new A2 (by decide)).pad (pad_rep [] .null 7)
  have g_b2 : n0 ≤ b2 := Nat.le_trans Z0 (Nat.le_of_eq g2.symm)
  have sz_b2 : h0.size ≤ b2 := (Nat.le_trans (Keep.refl h0 []).1 (Nat.le_of_eq g2.symm))
  have K2 : Keep h0 h2 [] := (Keep.refl h0 []).ext E2
  have Od2 := Old.ext Od0 E2
  obtain ⟨T4, X4, e4, st4⟩ := getS2 X2 hx hZ hown (host := "") (Or.inl (hw _ (List.mem_of_getElem? (i := 3) rfl))) Via.refl e2 (S_NONE.ext Od2.2) (g := (mkF m 15 #[.val (.int i0), .val (.int ((i0 &&& (2147483647 : Int32)) % (7 : Int32))), s2, s3, s4, s5] [(.int (0 : Int32)), (.ref b2), (.ref b2)])) rfl (hb hby at_15)
  have Vc18 := V_b2
  obtain ⟨cl_b2_18, Ar_b2_18, q_b2_18, S_b2_18, N_b2_18, H_b2_18, G_b2_18⟩ := Vc18
  have hin18 : ¬ ((0 : Int32) < 0 ∨ cl_b2_18.slots.size ≤ ((0 : Int32)).toNatClampNeg) := inb_of S_b2_18 ⟨by decide, by decide⟩
  obtain ⟨T5, h5, X5, e5, W5, st5⟩ := stR X4 hx hZ e4 Ar_b2_18 (j := (0 : Int32)) hin18 rfl (Sto.ofV Ar_b2_18 q_b2_18 O2 (Ins.self ((E_w3.ext Od0.2).ext E2))) (g := (mkF m 18 #[.val (.int i0), .val (.int ((i0 &&& (2147483647 : Int32)) % (7 : Int32))), s2, s3, s4, s5] [(.ref w3), (.int (0 : Int32)), (.ref b2), (.ref b2)])) rfl rfl (hb hby at_18)
  have V_b2_5 := Arv.set Ar_b2_18 q_b2_18 S_b2_18 N_b2_18 H_b2_18 G_b2_18 rfl W5 0 rfl (Nat.le_of_ble_eq_true rfl)
  have K5 : Keep h0 h5 [] := K2.wr W5 (Or.inr sz_b2)
  have Od5 := Old.wr Od2 W5 g_b2
  have N5 := Fr.snoc X5 N0 g_b2
  obtain ⟨T7, X7, e7, st7⟩ := getS2 X5 hx hZ hown (host := "") (Or.inl (hw _ (List.mem_of_getElem? (i := 7) rfl))) Via.refl e5 (S_ALL_COLUMNS.ext Od5.2) (g := (mkF m 21 #[.val (.int i0), .val (.int ((i0 &&& (2147483647 : Int32)) % (7 : Int32))), s2, s3, s4, s5] [(.int (1 : Int32)), (.ref b2), (.ref b2)])) rfl (hb hby at_21)
  have Vc24 := V_b2_5
  obtain ⟨cl_b2_24, Ar_b2_24, q_b2_24, S_b2_24, N_b2_24, H_b2_24, G_b2_24⟩ := Vc24
  have hin24 : ¬ ((1 : Int32) < 0 ∨ cl_b2_24.slots.size ≤ ((1 : Int32)).toNatClampNeg) := inb_of S_b2_24 ⟨by decide, by decide⟩
  obtain ⟨T8, h8, X8, e8, W8, st8⟩ := stR X7 hx hZ e7 Ar_b2_24 (j := (1 : Int32)) hin24 rfl (Sto.ofV Ar_b2_24 q_b2_24 O2 (Ins.self (((E_w6.ext Od0.2).ext E2).wr W5))) (g := (mkF m 24 #[.val (.int i0), .val (.int ((i0 &&& (2147483647 : Int32)) % (7 : Int32))), s2, s3, s4, s5] [(.ref w6), (.int (1 : Int32)), (.ref b2), (.ref b2)])) rfl rfl (hb hby at_24)
  have V_b2_8 := Arv.set Ar_b2_24 q_b2_24 S_b2_24 N_b2_24 H_b2_24 G_b2_24 rfl W8 1 rfl (Nat.le_of_ble_eq_true rfl)
  have K8 : Keep h0 h8 [] := K5.wr W8 (Or.inr sz_b2)
  have Od8 := Old.wr Od5 W8 g_b2
  have N8 := Fr.snoc X8 N5 g_b2
  obtain ⟨T10, X10, e10, st10⟩ := getS2 X8 hx hZ hown (host := "") (Or.inl (hw _ (List.mem_of_getElem? (i := 9) rfl))) Via.refl e8 (S_CHANGED_COLUMNS.ext Od8.2) (g := (mkF m 27 #[.val (.int i0), .val (.int ((i0 &&& (2147483647 : Int32)) % (7 : Int32))), s2, s3, s4, s5] [(.int (2 : Int32)), (.ref b2), (.ref b2)])) rfl (hb hby at_27)
  have Vc30 := V_b2_8
  obtain ⟨cl_b2_30, Ar_b2_30, q_b2_30, S_b2_30, N_b2_30, H_b2_30, G_b2_30⟩ := Vc30
  have hin30 : ¬ ((2 : Int32) < 0 ∨ cl_b2_30.slots.size ≤ ((2 : Int32)).toNatClampNeg) := inb_of S_b2_30 ⟨by decide, by decide⟩
  obtain ⟨T11, h11, X11, e11, W11, st11⟩ := stR X10 hx hZ e10 Ar_b2_30 (j := (2 : Int32)) hin30 rfl (Sto.ofV Ar_b2_30 q_b2_30 O2 (Ins.self ((((E_w9.ext Od0.2).ext E2).wr W5).wr W8))) (g := (mkF m 30 #[.val (.int i0), .val (.int ((i0 &&& (2147483647 : Int32)) % (7 : Int32))), s2, s3, s4, s5] [(.ref w9), (.int (2 : Int32)), (.ref b2), (.ref b2)])) rfl rfl (hb hby at_30)
  have V_b2_11 := Arv.set Ar_b2_30 q_b2_30 S_b2_30 N_b2_30 H_b2_30 G_b2_30 rfl W11 2 rfl (Nat.le_of_ble_eq_true rfl)
  have K11 : Keep h0 h11 [] := K8.wr W11 (Or.inr sz_b2)
  have Od11 := Old.wr Od8 W11 g_b2
  have N11 := Fr.snoc X11 N8 g_b2
  obtain ⟨T13, X13, e13, st13⟩ := getS2 X11 hx hZ hown (host := "") (Or.inl (hw _ (List.mem_of_getElem? (i := 11) rfl))) Via.refl e11 (S_COUNTED.ext Od11.2) (g := (mkF m 33 #[.val (.int i0), .val (.int ((i0 &&& (2147483647 : Int32)) % (7 : Int32))), s2, s3, s4, s5] [(.int (3 : Int32)), (.ref b2), (.ref b2)])) rfl (hb hby at_33)
  have Vc36 := V_b2_11
  obtain ⟨cl_b2_36, Ar_b2_36, q_b2_36, S_b2_36, N_b2_36, H_b2_36, G_b2_36⟩ := Vc36
  have hin36 : ¬ ((3 : Int32) < 0 ∨ cl_b2_36.slots.size ≤ ((3 : Int32)).toNatClampNeg) := inb_of S_b2_36 ⟨by decide, by decide⟩
  obtain ⟨T14, h14, X14, e14, W14, st14⟩ := stR X13 hx hZ e13 Ar_b2_36 (j := (3 : Int32)) hin36 rfl (Sto.ofV Ar_b2_36 q_b2_36 O2 (Ins.self (((((E_w12.ext Od0.2).ext E2).wr W5).wr W8).wr W11))) (g := (mkF m 36 #[.val (.int i0), .val (.int ((i0 &&& (2147483647 : Int32)) % (7 : Int32))), s2, s3, s4, s5] [(.ref w12), (.int (3 : Int32)), (.ref b2), (.ref b2)])) rfl rfl (hb hby at_36)
  have V_b2_14 := Arv.set Ar_b2_36 q_b2_36 S_b2_36 N_b2_36 H_b2_36 G_b2_36 rfl W14 3 rfl (Nat.le_of_ble_eq_true rfl)
  have K14 : Keep h0 h14 [] := K11.wr W14 (Or.inr sz_b2)
  have Od14 := Old.wr Od11 W14 g_b2
  have N14 := Fr.snoc X14 N11 g_b2
  obtain ⟨T16, X16, e16, st16⟩ := getS2 X14 hx hZ hown (host := "") (Or.inl (hw _ (List.mem_of_getElem? (i := 13) rfl))) Via.refl e14 (S_DATABASE_CLOCK.ext Od14.2) (g := (mkF m 39 #[.val (.int i0), .val (.int ((i0 &&& (2147483647 : Int32)) % (7 : Int32))), s2, s3, s4, s5] [(.int (4 : Int32)), (.ref b2), (.ref b2)])) rfl (hb hby at_39)
  have Vc42 := V_b2_14
  obtain ⟨cl_b2_42, Ar_b2_42, q_b2_42, S_b2_42, N_b2_42, H_b2_42, G_b2_42⟩ := Vc42
  have hin42 : ¬ ((4 : Int32) < 0 ∨ cl_b2_42.slots.size ≤ ((4 : Int32)).toNatClampNeg) := inb_of S_b2_42 ⟨by decide, by decide⟩
  obtain ⟨T17, h17, X17, e17, W17, st17⟩ := stR X16 hx hZ e16 Ar_b2_42 (j := (4 : Int32)) hin42 rfl (Sto.ofV Ar_b2_42 q_b2_42 O2 (Ins.self ((((((E_w15.ext Od0.2).ext E2).wr W5).wr W8).wr W11).wr W14))) (g := (mkF m 42 #[.val (.int i0), .val (.int ((i0 &&& (2147483647 : Int32)) % (7 : Int32))), s2, s3, s4, s5] [(.ref w15), (.int (4 : Int32)), (.ref b2), (.ref b2)])) rfl rfl (hb hby at_42)
  have V_b2_17 := Arv.set Ar_b2_42 q_b2_42 S_b2_42 N_b2_42 H_b2_42 G_b2_42 rfl W17 4 rfl (Nat.le_of_ble_eq_true rfl)
  have K17 : Keep h0 h17 [] := K14.wr W17 (Or.inr sz_b2)
  have Od17 := Old.wr Od14 W17 g_b2
  have N17 := Fr.snoc X17 N14 g_b2
  obtain ⟨T19, X19, e19, st19⟩ := getS2 X17 hx hZ hown (host := "") (Or.inl (hw _ (List.mem_of_getElem? (i := 15) rfl))) Via.refl e17 (S_JVM_CLOCK.ext Od17.2) (g := (mkF m 45 #[.val (.int i0), .val (.int ((i0 &&& (2147483647 : Int32)) % (7 : Int32))), s2, s3, s4, s5] [(.int (5 : Int32)), (.ref b2), (.ref b2)])) rfl (hb hby at_45)
  have Vc48 := V_b2_17
  obtain ⟨cl_b2_48, Ar_b2_48, q_b2_48, S_b2_48, N_b2_48, H_b2_48, G_b2_48⟩ := Vc48
  have hin48 : ¬ ((5 : Int32) < 0 ∨ cl_b2_48.slots.size ≤ ((5 : Int32)).toNatClampNeg) := inb_of S_b2_48 ⟨by decide, by decide⟩
  obtain ⟨T20, h20, X20, e20, W20, st20⟩ := stR X19 hx hZ e19 Ar_b2_48 (j := (5 : Int32)) hin48 rfl (Sto.ofV Ar_b2_48 q_b2_48 O2 (Ins.self (((((((E_w18.ext Od0.2).ext E2).wr W5).wr W8).wr W11).wr W14).wr W17))) (g := (mkF m 48 #[.val (.int i0), .val (.int ((i0 &&& (2147483647 : Int32)) % (7 : Int32))), s2, s3, s4, s5] [(.ref w18), (.int (5 : Int32)), (.ref b2), (.ref b2)])) rfl rfl (hb hby at_48)
  have V_b2_20 := Arv.set Ar_b2_48 q_b2_48 S_b2_48 N_b2_48 H_b2_48 G_b2_48 rfl W20 5 rfl (Nat.le_of_ble_eq_true rfl)
  have K20 : Keep h0 h20 [] := K17.wr W20 (Or.inr sz_b2)
  have Od20 := Old.wr Od17 W20 g_b2
  have N20 := Fr.snoc X20 N17 g_b2
  obtain ⟨T22, X22, e22, st22⟩ := getS2 X20 hx hZ hown (host := "") (Or.inl (hw _ (List.mem_of_getElem? (i := 17) rfl))) Via.refl e20 (S_GENERATED.ext Od20.2) (g := (mkF m 52 #[.val (.int i0), .val (.int ((i0 &&& (2147483647 : Int32)) % (7 : Int32))), s2, s3, s4, s5] [(.int (6 : Int32)), (.ref b2), (.ref b2)])) rfl (hb hby at_52)
  have Vc55 := V_b2_20
  obtain ⟨cl_b2_55, Ar_b2_55, q_b2_55, S_b2_55, N_b2_55, H_b2_55, G_b2_55⟩ := Vc55
  have hin55 : ¬ ((6 : Int32) < 0 ∨ cl_b2_55.slots.size ≤ ((6 : Int32)).toNatClampNeg) := inb_of S_b2_55 ⟨by decide, by decide⟩
  obtain ⟨T23, h23, X23, e23, W23, st23⟩ := stR X22 hx hZ e22 Ar_b2_55 (j := (6 : Int32)) hin55 rfl (Sto.ofV Ar_b2_55 q_b2_55 O2 (Ins.self ((((((((E_w21.ext Od0.2).ext E2).wr W5).wr W8).wr W11).wr W14).wr W17).wr W20))) (g := (mkF m 55 #[.val (.int i0), .val (.int ((i0 &&& (2147483647 : Int32)) % (7 : Int32))), s2, s3, s4, s5] [(.ref w21), (.int (6 : Int32)), (.ref b2), (.ref b2)])) rfl rfl (hb hby at_55)
  have V_b2_23 := Arv.set Ar_b2_55 q_b2_55 S_b2_55 N_b2_55 H_b2_55 G_b2_55 rfl W23 6 rfl (Nat.le_of_ble_eq_true rfl)
  have K23 : Keep h0 h23 [] := K20.wr W23 (Or.inr sz_b2)
  have Od23 := Old.wr Od20 W23 g_b2
  have N23 := Fr.snoc X23 N20 g_b2
  refine ⟨T23, _, _, b2, k2, X23, N23, e23, g_b2, Od23, V_b2_23, fun target kt => ?_⟩
  show Steps p.tables e below (T0.setTop (mkF m 0 #[.val (.int i0), s1, s2, s3, s4, s5] [])) _
  refine XS.iloadN X0.here hx rfl (hb hby at_0) rfl ?_
  show Steps p.tables e below (T0.setTop (mkF m 1 #[.val (.int i0), s1, s2, s3, s4, s5] [(.int i0)])) _
  refine X0.ldcInt hx hown (mvT hZ (hw _ (List.mem_of_getElem? (i := 0) rfl))) (g := (mkF m 1 #[.val (.int i0), s1, s2, s3, s4, s5] [(.int i0)])) rfl (hb hby at_1) _ ?_
  show Steps p.tables e below (T0.setTop (mkF m 3 #[.val (.int i0), s1, s2, s3, s4, s5] [(.int (2147483647 : Int32)), (.int i0)])) _
  refine XS.iand X0.here hx rfl (hb hby at_3) rfl ?_
  show Steps p.tables e below (T0.setTop (mkF m 4 #[.val (.int i0), s1, s2, s3, s4, s5] [(.int (i0 &&& (2147483647 : Int32)))])) _
  refine XS.bipush X0.here hx rfl (hb hby at_4) ?_
  show Steps p.tables e below (T0.setTop (mkF m 6 #[.val (.int i0), s1, s2, s3, s4, s5] [(.int (7 : Int32)), (.int (i0 &&& (2147483647 : Int32)))])) _
  refine iremM X0 hx rfl (hb hby at_6) rfl (by decide) ?_
  show Steps p.tables e below (T0.setTop (mkF m 7 #[.val (.int i0), s1, s2, s3, s4, s5] [(.int ((i0 &&& (2147483647 : Int32)) % (7 : Int32)))])) _
  refine XS.istoreN X0.here hx rfl (hb hby at_7) rfl (l' := #[.val (.int i0), .val (.int ((i0 &&& (2147483647 : Int32)) % (7 : Int32))), s2, s3, s4, s5]) (os_sA_0_7 hs1) ?_
  show Steps p.tables e below (T0.setTop (mkF m 8 #[.val (.int i0), .val (.int ((i0 &&& (2147483647 : Int32)) % (7 : Int32))), s2, s3, s4, s5] [])) _
  refine XS.bipush X0.here hx rfl (hb hby at_8) ?_
  show Steps p.tables e below (T0.setTop (mkF m 10 #[.val (.int i0), .val (.int ((i0 &&& (2147483647 : Int32)) % (7 : Int32))), s2, s3, s4, s5] [(.int (7 : Int32))])) _
  refine st2 _ ?_
  show Steps p.tables e below (T2.setTop (mkF m 13 #[.val (.int i0), .val (.int ((i0 &&& (2147483647 : Int32)) % (7 : Int32))), s2, s3, s4, s5] [(.ref b2)])) _
  refine XS.dup X2.here hx rfl (hb hby at_13) rfl rfl ?_
  show Steps p.tables e below (T2.setTop (mkF m 14 #[.val (.int i0), .val (.int ((i0 &&& (2147483647 : Int32)) % (7 : Int32))), s2, s3, s4, s5] [(.ref b2), (.ref b2)])) _
  refine XS.iconst X2.here hx rfl (hb hby at_14) ?_
  show Steps p.tables e below (T2.setTop (mkF m 15 #[.val (.int i0), .val (.int ((i0 &&& (2147483647 : Int32)) % (7 : Int32))), s2, s3, s4, s5] [(.int (0 : Int32)), (.ref b2), (.ref b2)])) _
  refine st4 _ ?_
  show Steps p.tables e below (T4.setTop (mkF m 18 #[.val (.int i0), .val (.int ((i0 &&& (2147483647 : Int32)) % (7 : Int32))), s2, s3, s4, s5] [(.ref w3), (.int (0 : Int32)), (.ref b2), (.ref b2)])) _
  refine st5 _ ?_
  show Steps p.tables e below (T5.setTop (mkF m 19 #[.val (.int i0), .val (.int ((i0 &&& (2147483647 : Int32)) % (7 : Int32))), s2, s3, s4, s5] [(.ref b2)])) _
  refine XS.dup X5.here hx rfl (hb hby at_19) rfl rfl ?_
  show Steps p.tables e below (T5.setTop (mkF m 20 #[.val (.int i0), .val (.int ((i0 &&& (2147483647 : Int32)) % (7 : Int32))), s2, s3, s4, s5] [(.ref b2), (.ref b2)])) _
  refine XS.iconst X5.here hx rfl (hb hby at_20) ?_
  show Steps p.tables e below (T5.setTop (mkF m 21 #[.val (.int i0), .val (.int ((i0 &&& (2147483647 : Int32)) % (7 : Int32))), s2, s3, s4, s5] [(.int (1 : Int32)), (.ref b2), (.ref b2)])) _
  refine st7 _ ?_
  show Steps p.tables e below (T7.setTop (mkF m 24 #[.val (.int i0), .val (.int ((i0 &&& (2147483647 : Int32)) % (7 : Int32))), s2, s3, s4, s5] [(.ref w6), (.int (1 : Int32)), (.ref b2), (.ref b2)])) _
  refine st8 _ ?_
  show Steps p.tables e below (T8.setTop (mkF m 25 #[.val (.int i0), .val (.int ((i0 &&& (2147483647 : Int32)) % (7 : Int32))), s2, s3, s4, s5] [(.ref b2)])) _
  refine XS.dup X8.here hx rfl (hb hby at_25) rfl rfl ?_
  show Steps p.tables e below (T8.setTop (mkF m 26 #[.val (.int i0), .val (.int ((i0 &&& (2147483647 : Int32)) % (7 : Int32))), s2, s3, s4, s5] [(.ref b2), (.ref b2)])) _
  refine XS.iconst X8.here hx rfl (hb hby at_26) ?_
  show Steps p.tables e below (T8.setTop (mkF m 27 #[.val (.int i0), .val (.int ((i0 &&& (2147483647 : Int32)) % (7 : Int32))), s2, s3, s4, s5] [(.int (2 : Int32)), (.ref b2), (.ref b2)])) _
  refine st10 _ ?_
  show Steps p.tables e below (T10.setTop (mkF m 30 #[.val (.int i0), .val (.int ((i0 &&& (2147483647 : Int32)) % (7 : Int32))), s2, s3, s4, s5] [(.ref w9), (.int (2 : Int32)), (.ref b2), (.ref b2)])) _
  refine st11 _ ?_
  show Steps p.tables e below (T11.setTop (mkF m 31 #[.val (.int i0), .val (.int ((i0 &&& (2147483647 : Int32)) % (7 : Int32))), s2, s3, s4, s5] [(.ref b2)])) _
  refine XS.dup X11.here hx rfl (hb hby at_31) rfl rfl ?_
  show Steps p.tables e below (T11.setTop (mkF m 32 #[.val (.int i0), .val (.int ((i0 &&& (2147483647 : Int32)) % (7 : Int32))), s2, s3, s4, s5] [(.ref b2), (.ref b2)])) _
  refine XS.iconst X11.here hx rfl (hb hby at_32) ?_
  show Steps p.tables e below (T11.setTop (mkF m 33 #[.val (.int i0), .val (.int ((i0 &&& (2147483647 : Int32)) % (7 : Int32))), s2, s3, s4, s5] [(.int (3 : Int32)), (.ref b2), (.ref b2)])) _
  refine st13 _ ?_
  show Steps p.tables e below (T13.setTop (mkF m 36 #[.val (.int i0), .val (.int ((i0 &&& (2147483647 : Int32)) % (7 : Int32))), s2, s3, s4, s5] [(.ref w12), (.int (3 : Int32)), (.ref b2), (.ref b2)])) _
  refine st14 _ ?_
  show Steps p.tables e below (T14.setTop (mkF m 37 #[.val (.int i0), .val (.int ((i0 &&& (2147483647 : Int32)) % (7 : Int32))), s2, s3, s4, s5] [(.ref b2)])) _
  refine XS.dup X14.here hx rfl (hb hby at_37) rfl rfl ?_
  show Steps p.tables e below (T14.setTop (mkF m 38 #[.val (.int i0), .val (.int ((i0 &&& (2147483647 : Int32)) % (7 : Int32))), s2, s3, s4, s5] [(.ref b2), (.ref b2)])) _
  refine XS.iconst X14.here hx rfl (hb hby at_38) ?_
  show Steps p.tables e below (T14.setTop (mkF m 39 #[.val (.int i0), .val (.int ((i0 &&& (2147483647 : Int32)) % (7 : Int32))), s2, s3, s4, s5] [(.int (4 : Int32)), (.ref b2), (.ref b2)])) _
  refine st16 _ ?_
  show Steps p.tables e below (T16.setTop (mkF m 42 #[.val (.int i0), .val (.int ((i0 &&& (2147483647 : Int32)) % (7 : Int32))), s2, s3, s4, s5] [(.ref w15), (.int (4 : Int32)), (.ref b2), (.ref b2)])) _
  refine st17 _ ?_
  show Steps p.tables e below (T17.setTop (mkF m 43 #[.val (.int i0), .val (.int ((i0 &&& (2147483647 : Int32)) % (7 : Int32))), s2, s3, s4, s5] [(.ref b2)])) _
  refine XS.dup X17.here hx rfl (hb hby at_43) rfl rfl ?_
  show Steps p.tables e below (T17.setTop (mkF m 44 #[.val (.int i0), .val (.int ((i0 &&& (2147483647 : Int32)) % (7 : Int32))), s2, s3, s4, s5] [(.ref b2), (.ref b2)])) _
  refine XS.iconst X17.here hx rfl (hb hby at_44) ?_
  show Steps p.tables e below (T17.setTop (mkF m 45 #[.val (.int i0), .val (.int ((i0 &&& (2147483647 : Int32)) % (7 : Int32))), s2, s3, s4, s5] [(.int (5 : Int32)), (.ref b2), (.ref b2)])) _
  refine st19 _ ?_
  show Steps p.tables e below (T19.setTop (mkF m 48 #[.val (.int i0), .val (.int ((i0 &&& (2147483647 : Int32)) % (7 : Int32))), s2, s3, s4, s5] [(.ref w18), (.int (5 : Int32)), (.ref b2), (.ref b2)])) _
  refine st20 _ ?_
  show Steps p.tables e below (T20.setTop (mkF m 49 #[.val (.int i0), .val (.int ((i0 &&& (2147483647 : Int32)) % (7 : Int32))), s2, s3, s4, s5] [(.ref b2)])) _
  refine XS.dup X20.here hx rfl (hb hby at_49) rfl rfl ?_
  show Steps p.tables e below (T20.setTop (mkF m 50 #[.val (.int i0), .val (.int ((i0 &&& (2147483647 : Int32)) % (7 : Int32))), s2, s3, s4, s5] [(.ref b2), (.ref b2)])) _
  refine XS.bipush X20.here hx rfl (hb hby at_50) ?_
  show Steps p.tables e below (T20.setTop (mkF m 52 #[.val (.int i0), .val (.int ((i0 &&& (2147483647 : Int32)) % (7 : Int32))), s2, s3, s4, s5] [(.int (6 : Int32)), (.ref b2), (.ref b2)])) _
  refine st22 _ ?_
  show Steps p.tables e below (T22.setTop (mkF m 55 #[.val (.int i0), .val (.int ((i0 &&& (2147483647 : Int32)) % (7 : Int32))), s2, s3, s4, s5] [(.ref w21), (.int (6 : Int32)), (.ref b2), (.ref b2)])) _
  refine st23 _ ?_
  show Steps p.tables e below (T23.setTop (mkF m 56 #[.val (.int i0), .val (.int ((i0 &&& (2147483647 : Int32)) % (7 : Int32))), s2, s3, s4, s5] [(.ref b2)])) _
  refine XS.astoreN X23.here hx rfl (hb hby at_56) rfl rfl (l' := #[.val (.int i0), .val (.int ((i0 &&& (2147483647 : Int32)) % (7 : Int32))), .val (.ref b2), s3, s4, s5]) (os_sA_0_56 hs2) ?_
  exact kt

theorem pd_0_0 : parseMethodDescriptor "()Z" = some ⟨[], some .boolean⟩ := by decide +kernel
theorem os_sB4_0_65 {s0 : Slot} {z1 : Value} {s2 : Slot} {z3 : Value} {s4 : Slot} {s5 : Slot} {v : Int32} (h : One s4) : storeLocals #[s0, .val z1, s2, .val z3, s4, s5] 4 (.int v) = some #[s0, .val z1, s2, .val z3, .val (.int v), s5] := by
  rcases h with rfl | ⟨w, rfl, hw⟩
  · rfl
  · cases w <;> first | rfl | (simp [Value.category] at hw)
theorem os_sB4_0_82 {s0 : Slot} {z1 : Value} {s2 : Slot} {z3 : Value} {z4 : Value} {s5 : Slot} {v : Int32} (h : One s5) : storeLocals #[s0, .val z1, s2, .val z3, .val z4, s5] 5 (.int v) = some #[s0, .val z1, s2, .val z3, .val z4, .val (.int v)] := by
  rcases h with rfl | ⟨w, rfl, hw⟩
  · rfl
  · cases w <;> first | rfl | (simp [Value.category] at hw)
set_option maxRecDepth 65536 in
set_option maxHeartbeats 40000000 in
theorem sB4 {p : Program} {l : Launch} {e : Env} {s : State} {m : MethodId} {args : Array Value} {below : List Frame} {meth : Method} {c : Code} {T0 : State} {locs : List Loc} {Z : State} {a0 : Array Value} {h0 : Heap} {n0 : Nat} (s0 : Slot) (i1 : Int32) (s2 : Slot) (o3 : Addr) (s4 : Slot) (s5 : Slot) (w1 w2 w4 w3 w5 w6 : Addr)
    (X0 : Stand p l e room_1 s m args below meth c T0 locs 1 7) (hx : p.tables.exec = Jvm.exec) (hZ : Z.Warmed39 s.vm) (hw : ∀ d ∈ tables_1, d.before a0 Z = true) (hby : c.code = code) (hml : c.maxLocals = 6) (hown : s.vm.findClass "com/example/lock2/lock2/mapping/VersionKindIsTimestampFromClockPinLaw" = some m.cls) (e0 : T0.heap = h0) (N0 : Fr n0 locs) (Z0 : n0 ≤ h0.size) (E_o3 : Exa Z h0 o3 "com/example/lock2/lock2/mapping/VersionKind") (hs4 : One s4) (hs5 : One s5) (S1 : Sta Z h0 "com/example/lock2/lock2/mapping/VersionKind" "ALL_COLUMNS" "Lcom/example/lock2/lock2/mapping/VersionKind;" (.ref w1)) (S2 : Sta Z h0 "com/example/lock2/lock2/mapping/VersionKind" "CHANGED_COLUMNS" "Lcom/example/lock2/lock2/mapping/VersionKind;" (.ref w2)) (S3 : Sta Z h0 "com/example/lock2/lock2/mapping/VersionKind" "COUNTED" "Lcom/example/lock2/lock2/mapping/VersionKind;" (.ref w3)) (S4 : Sta Z h0 "com/example/lock2/lock2/mapping/VersionKind" "DATABASE_CLOCK" "Lcom/example/lock2/lock2/mapping/VersionKind;" (.ref w4)) (S5 : Sta Z h0 "com/example/lock2/lock2/mapping/VersionKind" "JVM_CLOCK" "Lcom/example/lock2/lock2/mapping/VersionKind;" (.ref w5)) (S6 : Sta Z h0 "com/example/lock2/lock2/mapping/VersionKind" "GENERATED" "Lcom/example/lock2/lock2/mapping/VersionKind;" (.ref w6)) (hn1 : ¬ (o3 = w1)) (hn2 : ¬ (o3 = w2)) (hn3 : ¬ (o3 = w3)) (hn6 : ¬ (o3 = w6)) (hor : o3 = w4 ∨ o3 = w5) (hc69 : i1 = (4 : Int32)) (hc95 : ¬ ((1 : Int32) = (0 : Int32))) (hc102 : ¬ ((1 : Int32) = (0 : Int32))) (hc109 : ¬ ((1 : Int32) = (0 : Int32))) :
    ∃ (T' : State) (L' : List Loc) (h' : Heap), Stand p l e room_1 s m args below meth c T' L' 1 7 ∧ Fr n0 L' ∧ T'.heap = h' ∧ h' = h0 ∧
      ∀ target, Steps p.tables e below (T'.setTop (mkF m 131 #[s0, .val (.int i1), s2, .val (.ref o3), .val (.int (1 : Int32)), .val (.int (1 : Int32))] [(.int (1 : Int32))])) target → Steps p.tables e below (T0.setTop (mkF m 61 #[s0, .val (.int i1), s2, .val (.ref o3), s4, s5] [])) target := by
  obtain ⟨cq2, kq2, q2a, q2b, q2c⟩ := isOf hZ e0 E_o3
  obtain ⟨_, _, ⟨T2, L2, k2, n2⟩, -, X2, ⟨Lc2, hQ2, l2, y2, z2⟩, st2⟩ := X0.virtualBack hx (y := (⟨"com/example/lock2/lock2/mapping/VersionKind", "isTimestampFromClock", "()Z"⟩ : MethodName)) (z := (⟨"com/example/lock2/lock2/mapping/VersionKind", "isTimestampFromClock", "()Z"⟩ : MethodName)) hown (mvT hZ (hw _ (List.mem_of_getElem? (i := 19) rfl))) (mvT hZ (hw _ (List.mem_of_getElem? (i := 20) rfl))) (notFace_of_selects (args := #[]) (mvT hZ (hw _ (List.mem_of_getElem? (i := 22) rfl)))) (mvT hZ (hw _ (List.mem_of_getElem? (i := 22) rfl))) (mvT hZ (hw _ (List.mem_of_getElem? (i := 21) rfl))) (by decide) (backOf (W := 0) (rm1_y l Z a0 hw [] o3 w4 w5 h0 n0 Z0 S4 S5 hor) hZ (hw _ (List.mem_of_getElem? (i := 23) rfl)) (hw _ (List.mem_of_getElem? (i := 4) rfl)) (by decide) (by decide)) q2a q2c (g := (mkF m 62 #[s0, .val (.int i1), s2, .val (.ref o3), s4, s5] [(.ref o3)])) rfl (by rw [hml]; rfl) (Steps.refl _) (argsL := []) (rest := []) (lenOf pd_0_0 rfl) rfl (by show 2 * 0 + _ ≤ _; exact Nat.le_of_eq rfl) (hb hby at_62) (fun _ _ => ⟨rfl, e0, (by decide : 1 + 0 ≤ _), (by decide : 7 + 0 ≤ _)⟩)
  dsimp only [Pt.U, Pt.locs, Pt.cells, Pt.slots] at X2 l2 y2 z2 st2 hQ2
  subst l2 y2 z2
  obtain ⟨rfl, N2q, e2⟩ := hQ2
  have N2 := Fr.app N0 N2q
  obtain ⟨cq3, kq3, q3a, q3b, q3c⟩ := isOf hZ e2 E_o3
  obtain ⟨_, _, ⟨T3, L3, k3, n3⟩, -, X3, ⟨Lc3, hQ3, l3, y3, z3⟩, st3⟩ := X2.virtualBack hx (y := (⟨"com/example/lock2/lock2/mapping/VersionKind", "hasVersionColumn", "()Z"⟩ : MethodName)) (z := (⟨"com/example/lock2/lock2/mapping/VersionKind", "hasVersionColumn", "()Z"⟩ : MethodName)) hown (mvT hZ (hw _ (List.mem_of_getElem? (i := 26) rfl))) (mvT hZ (hw _ (List.mem_of_getElem? (i := 27) rfl))) (notFace_of_selects (args := #[]) (mvT hZ (hw _ (List.mem_of_getElem? (i := 29) rfl)))) (mvT hZ (hw _ (List.mem_of_getElem? (i := 29) rfl))) (mvT hZ (hw _ (List.mem_of_getElem? (i := 28) rfl))) (by decide) (backOf (W := 0) (rm2 l Z a0 hw [] o3 w3 w6 w4 w5 h0 n0 Z0 S3 S6 E_o3 S4 S5 hor hn3 hn6 (by decide)) hZ (hw _ (List.mem_of_getElem? (i := 30) rfl)) (hw _ (List.mem_of_getElem? (i := 4) rfl)) (by decide) (by decide)) q3a q3c (g := (mkF m 99 #[s0, .val (.int i1), s2, .val (.ref o3), .val (.int (1 : Int32)), .val (.int (1 : Int32))] [(.ref o3)])) rfl (by rw [hml]; rfl) (Steps.refl _) (argsL := []) (rest := []) (lenOf pd_0_0 rfl) rfl (by show 2 * 0 + _ ≤ _; exact Nat.le_of_eq rfl) (hb hby at_99) (fun _ _ => ⟨rfl, e2, (by decide : 1 + 0 ≤ _), (by decide : 7 + 0 ≤ _)⟩)
  dsimp only [Pt.U, Pt.locs, Pt.cells, Pt.slots] at X3 l3 y3 z3 st3 hQ3
  subst l3 y3 z3
  obtain ⟨rfl, N3q, e3⟩ := hQ3
  have N3 := Fr.app N2 N3q
  obtain ⟨cq4, kq4, q4a, q4b, q4c⟩ := isOf hZ e3 E_o3
  obtain ⟨_, _, ⟨T4, L4, k4, n4⟩, -, X4, ⟨Lc4, hQ4, l4, y4, z4⟩, st4⟩ := X3.virtualBack hx (y := (⟨"com/example/lock2/lock2/mapping/VersionKind", "isWrittenByLock2", "()Z"⟩ : MethodName)) (z := (⟨"com/example/lock2/lock2/mapping/VersionKind", "isWrittenByLock2", "()Z"⟩ : MethodName)) hown (mvT hZ (hw _ (List.mem_of_getElem? (i := 34) rfl))) (mvT hZ (hw _ (List.mem_of_getElem? (i := 35) rfl))) (notFace_of_selects (args := #[]) (mvT hZ (hw _ (List.mem_of_getElem? (i := 37) rfl)))) (mvT hZ (hw _ (List.mem_of_getElem? (i := 37) rfl))) (mvT hZ (hw _ (List.mem_of_getElem? (i := 36) rfl))) (by decide) (backOf (W := 0) (rm3 l Z a0 hw [] o3 w3 w4 w5 h0 n0 Z0 S3 E_o3 S4 S5 hor hn3 (by decide)) hZ (hw _ (List.mem_of_getElem? (i := 38) rfl)) (hw _ (List.mem_of_getElem? (i := 4) rfl)) (by decide) (by decide)) q4a q4c (g := (mkF m 106 #[s0, .val (.int i1), s2, .val (.ref o3), .val (.int (1 : Int32)), .val (.int (1 : Int32))] [(.ref o3)])) rfl (by rw [hml]; rfl) (Steps.refl _) (argsL := []) (rest := []) (lenOf pd_0_0 rfl) rfl (by show 2 * 0 + _ ≤ _; exact Nat.le_of_eq rfl) (hb hby at_106) (fun _ _ => ⟨rfl, e3, (by decide : 1 + 0 ≤ _), (by decide : 7 + 0 ≤ _)⟩)
  dsimp only [Pt.U, Pt.locs, Pt.cells, Pt.slots] at X4 l4 y4 z4 st4 hQ4
  subst l4 y4 z4
  obtain ⟨rfl, N4q, e4⟩ := hQ4
  have N4 := Fr.app N3 N4q
  obtain ⟨cq5, kq5, q5a, q5b, q5c⟩ := isOf hZ e4 E_o3
  obtain ⟨_, _, ⟨T5, L5, k5, n5⟩, -, X5, ⟨Lc5, hQ5, l5, y5, z5⟩, st5⟩ := X4.virtualBack hx (y := (⟨"com/example/lock2/lock2/mapping/VersionKind", "isWrittenByDatabase", "()Z"⟩ : MethodName)) (z := (⟨"com/example/lock2/lock2/mapping/VersionKind", "isWrittenByDatabase", "()Z"⟩ : MethodName)) hown (mvT hZ (hw _ (List.mem_of_getElem? (i := 39) rfl))) (mvT hZ (hw _ (List.mem_of_getElem? (i := 40) rfl))) (notFace_of_selects (args := #[]) (mvT hZ (hw _ (List.mem_of_getElem? (i := 42) rfl)))) (mvT hZ (hw _ (List.mem_of_getElem? (i := 42) rfl))) (mvT hZ (hw _ (List.mem_of_getElem? (i := 41) rfl))) (by decide) (backOf (W := 0) (rm4 l Z a0 hw [] o3 w6 h0 n0 Z0 S6 hn6) hZ (hw _ (List.mem_of_getElem? (i := 43) rfl)) (hw _ (List.mem_of_getElem? (i := 4) rfl)) (by decide) (by decide)) q5a q5c (g := (mkF m 113 #[s0, .val (.int i1), s2, .val (.ref o3), .val (.int (1 : Int32)), .val (.int (1 : Int32))] [(.ref o3)])) rfl (by rw [hml]; rfl) (Steps.refl _) (argsL := []) (rest := []) (lenOf pd_0_0 rfl) rfl (by show 2 * 0 + _ ≤ _; exact Nat.le_of_eq rfl) (hb hby at_113) (fun _ _ => ⟨rfl, e4, (by decide : 1 + 0 ≤ _), (by decide : 7 + 0 ≤ _)⟩)
  dsimp only [Pt.U, Pt.locs, Pt.cells, Pt.slots] at X5 l5 y5 z5 st5 hQ5
  subst l5 y5 z5
  obtain ⟨rfl, N5q, e5⟩ := hQ5
  have N5 := Fr.app N4 N5q
  obtain ⟨cq6, kq6, q6a, q6b, q6c⟩ := isOf hZ e5 E_o3
  obtain ⟨_, _, ⟨T6, L6, k6, n6⟩, -, X6, ⟨Lc6, hQ6, l6, y6, z6⟩, st6⟩ := X5.virtualBack hx (y := (⟨"com/example/lock2/lock2/mapping/VersionKind", "comparesColumns", "()Z"⟩ : MethodName)) (z := (⟨"com/example/lock2/lock2/mapping/VersionKind", "comparesColumns", "()Z"⟩ : MethodName)) hown (mvT hZ (hw _ (List.mem_of_getElem? (i := 44) rfl))) (mvT hZ (hw _ (List.mem_of_getElem? (i := 45) rfl))) (notFace_of_selects (args := #[]) (mvT hZ (hw _ (List.mem_of_getElem? (i := 47) rfl)))) (mvT hZ (hw _ (List.mem_of_getElem? (i := 47) rfl))) (mvT hZ (hw _ (List.mem_of_getElem? (i := 46) rfl))) (by decide) (backOf (W := 0) (rm5 l Z a0 hw [] o3 w1 w2 h0 n0 Z0 S1 S2 hn1 hn2) hZ (hw _ (List.mem_of_getElem? (i := 48) rfl)) (hw _ (List.mem_of_getElem? (i := 4) rfl)) (by decide) (by decide)) q6a q6c (g := (mkF m 120 #[s0, .val (.int i1), s2, .val (.ref o3), .val (.int (1 : Int32)), .val (.int (1 : Int32))] [(.ref o3)])) rfl (by rw [hml]; rfl) (Steps.refl _) (argsL := []) (rest := []) (lenOf pd_0_0 rfl) rfl (by show 2 * 0 + _ ≤ _; exact Nat.le_of_eq rfl) (hb hby at_120) (fun _ _ => ⟨rfl, e5, (by decide : 1 + 0 ≤ _), (by decide : 7 + 0 ≤ _)⟩)
  dsimp only [Pt.U, Pt.locs, Pt.cells, Pt.slots] at X6 l6 y6 z6 st6 hQ6
  subst l6 y6 z6
  obtain ⟨rfl, N6q, e6⟩ := hQ6
  have N6 := Fr.app N5 N6q
  refine ⟨T6, _, _, X6, N6, e6, rfl, fun target kt => ?_⟩
  show Steps p.tables e below (T0.setTop (mkF m 61 #[s0, .val (.int i1), s2, .val (.ref o3), s4, s5] [])) _
  refine XS.aloadN X0.here hx rfl (hb hby at_61) rfl rfl ?_
  show Steps p.tables e below (T0.setTop (mkF m 62 #[s0, .val (.int i1), s2, .val (.ref o3), s4, s5] [(.ref o3)])) _
  refine st2.trans ?_
  show Steps p.tables e below (T2.setTop (mkF m 65 #[s0, .val (.int i1), s2, .val (.ref o3), s4, s5] [(.int (1 : Int32))])) _
  refine XS.istore X2.here hx rfl (hb hby at_65) rfl (l' := #[s0, .val (.int i1), s2, .val (.ref o3), .val (.int (1 : Int32)), s5]) (os_sB4_0_65 hs4) ?_
  show Steps p.tables e below (T2.setTop (mkF m 67 #[s0, .val (.int i1), s2, .val (.ref o3), .val (.int (1 : Int32)), s5] [])) _
  refine XS.iloadN X2.here hx rfl (hb hby at_67) rfl ?_
  show Steps p.tables e below (T2.setTop (mkF m 68 #[s0, .val (.int i1), s2, .val (.ref o3), .val (.int (1 : Int32)), s5] [(.int i1)])) _
  refine XS.iconst X2.here hx rfl (hb hby at_68) ?_
  show Steps p.tables e below (T2.setTop (mkF m 69 #[s0, .val (.int i1), s2, .val (.ref o3), .val (.int (1 : Int32)), s5] [(.int (4 : Int32)), (.int i1)])) _
  refine XS.icmpYes X2.here hx rfl (pc0 := 69) (pc' := 77) rfl (hb hby at_69) rfl (teq hc69).1 (by decide) (by decide) ?_
  show Steps p.tables e below (T2.setTop (mkF m 77 #[s0, .val (.int i1), s2, .val (.ref o3), .val (.int (1 : Int32)), s5] [])) _
  refine XS.iconst X2.here hx rfl (hb hby at_77) ?_
  show Steps p.tables e below (T2.setTop (mkF m 78 #[s0, .val (.int i1), s2, .val (.ref o3), .val (.int (1 : Int32)), s5] [(.int (1 : Int32))])) _
  refine XS.goto X2.here hx rfl (pc0 := 78) (pc' := 82) rfl (hb hby at_78) (by decide) (by decide) ?_
  show Steps p.tables e below (T2.setTop (mkF m 82 #[s0, .val (.int i1), s2, .val (.ref o3), .val (.int (1 : Int32)), s5] [(.int (1 : Int32))])) _
  refine XS.istore X2.here hx rfl (hb hby at_82) rfl (l' := #[s0, .val (.int i1), s2, .val (.ref o3), .val (.int (1 : Int32)), .val (.int (1 : Int32))]) (os_sB4_0_82 hs5) ?_
  show Steps p.tables e below (T2.setTop (mkF m 84 #[s0, .val (.int i1), s2, .val (.ref o3), .val (.int (1 : Int32)), .val (.int (1 : Int32))] [])) _
  refine XS.iload X2.here hx rfl (hb hby at_84) rfl ?_
  show Steps p.tables e below (T2.setTop (mkF m 86 #[s0, .val (.int i1), s2, .val (.ref o3), .val (.int (1 : Int32)), .val (.int (1 : Int32))] [(.int (1 : Int32))])) _
  refine XS.iload X2.here hx rfl (hb hby at_86) rfl ?_
  show Steps p.tables e below (T2.setTop (mkF m 88 #[s0, .val (.int i1), s2, .val (.ref o3), .val (.int (1 : Int32)), .val (.int (1 : Int32))] [(.int (1 : Int32)), (.int (1 : Int32))])) _
  refine XS.icmpYes X2.here hx rfl (pc0 := 88) (pc' := 93) rfl (hb hby at_88) rfl (teq (rfl : (1 : Int32) = (1 : Int32))).1 (by decide) (by decide) ?_
  show Steps p.tables e below (T2.setTop (mkF m 93 #[s0, .val (.int i1), s2, .val (.ref o3), .val (.int (1 : Int32)), .val (.int (1 : Int32))] [])) _
  refine XS.iload X2.here hx rfl (hb hby at_93) rfl ?_
  show Steps p.tables e below (T2.setTop (mkF m 95 #[s0, .val (.int i1), s2, .val (.ref o3), .val (.int (1 : Int32)), .val (.int (1 : Int32))] [(.int (1 : Int32))])) _
  refine XS.ifNo X2.here hx rfl (hb hby at_95) rfl ((if0 _ _).trans (feq hc95).1) ?_
  show Steps p.tables e below (T2.setTop (mkF m 98 #[s0, .val (.int i1), s2, .val (.ref o3), .val (.int (1 : Int32)), .val (.int (1 : Int32))] [])) _
  refine XS.aloadN X2.here hx rfl (hb hby at_98) rfl rfl ?_
  show Steps p.tables e below (T2.setTop (mkF m 99 #[s0, .val (.int i1), s2, .val (.ref o3), .val (.int (1 : Int32)), .val (.int (1 : Int32))] [(.ref o3)])) _
  refine st3.trans ?_
  show Steps p.tables e below (T3.setTop (mkF m 102 #[s0, .val (.int i1), s2, .val (.ref o3), .val (.int (1 : Int32)), .val (.int (1 : Int32))] [(.int (1 : Int32))])) _
  refine XS.ifNo X3.here hx rfl (hb hby at_102) rfl ((if0 _ _).trans (feq hc102).1) ?_
  show Steps p.tables e below (T3.setTop (mkF m 105 #[s0, .val (.int i1), s2, .val (.ref o3), .val (.int (1 : Int32)), .val (.int (1 : Int32))] [])) _
  refine XS.aloadN X3.here hx rfl (hb hby at_105) rfl rfl ?_
  show Steps p.tables e below (T3.setTop (mkF m 106 #[s0, .val (.int i1), s2, .val (.ref o3), .val (.int (1 : Int32)), .val (.int (1 : Int32))] [(.ref o3)])) _
  refine st4.trans ?_
  show Steps p.tables e below (T4.setTop (mkF m 109 #[s0, .val (.int i1), s2, .val (.ref o3), .val (.int (1 : Int32)), .val (.int (1 : Int32))] [(.int (1 : Int32))])) _
  refine XS.ifNo X4.here hx rfl (hb hby at_109) rfl ((if0 _ _).trans (feq hc109).1) ?_
  show Steps p.tables e below (T4.setTop (mkF m 112 #[s0, .val (.int i1), s2, .val (.ref o3), .val (.int (1 : Int32)), .val (.int (1 : Int32))] [])) _
  refine XS.aloadN X4.here hx rfl (hb hby at_112) rfl rfl ?_
  show Steps p.tables e below (T4.setTop (mkF m 113 #[s0, .val (.int i1), s2, .val (.ref o3), .val (.int (1 : Int32)), .val (.int (1 : Int32))] [(.ref o3)])) _
  refine st5.trans ?_
  show Steps p.tables e below (T5.setTop (mkF m 116 #[s0, .val (.int i1), s2, .val (.ref o3), .val (.int (1 : Int32)), .val (.int (1 : Int32))] [(.int (0 : Int32))])) _
  refine XS.ifNo X5.here hx rfl (hb hby at_116) rfl ((if0 _ _).trans (teq (rfl : (0 : Int32) = (0 : Int32))).2) ?_
  show Steps p.tables e below (T5.setTop (mkF m 119 #[s0, .val (.int i1), s2, .val (.ref o3), .val (.int (1 : Int32)), .val (.int (1 : Int32))] [])) _
  refine XS.aloadN X5.here hx rfl (hb hby at_119) rfl rfl ?_
  show Steps p.tables e below (T5.setTop (mkF m 120 #[s0, .val (.int i1), s2, .val (.ref o3), .val (.int (1 : Int32)), .val (.int (1 : Int32))] [(.ref o3)])) _
  refine st6.trans ?_
  show Steps p.tables e below (T6.setTop (mkF m 123 #[s0, .val (.int i1), s2, .val (.ref o3), .val (.int (1 : Int32)), .val (.int (1 : Int32))] [(.int (0 : Int32))])) _
  refine XS.ifNo X6.here hx rfl (hb hby at_123) rfl ((if0 _ _).trans (teq (rfl : (0 : Int32) = (0 : Int32))).2) ?_
  show Steps p.tables e below (T6.setTop (mkF m 126 #[s0, .val (.int i1), s2, .val (.ref o3), .val (.int (1 : Int32)), .val (.int (1 : Int32))] [])) _
  refine XS.iconst X6.here hx rfl (hb hby at_126) ?_
  show Steps p.tables e below (T6.setTop (mkF m 127 #[s0, .val (.int i1), s2, .val (.ref o3), .val (.int (1 : Int32)), .val (.int (1 : Int32))] [(.int (1 : Int32))])) _
  refine XS.goto X6.here hx rfl (pc0 := 127) (pc' := 131) rfl (hb hby at_127) (by decide) (by decide) ?_
  exact kt

theorem os_sB5_0_65 {s0 : Slot} {z1 : Value} {s2 : Slot} {z3 : Value} {s4 : Slot} {s5 : Slot} {v : Int32} (h : One s4) : storeLocals #[s0, .val z1, s2, .val z3, s4, s5] 4 (.int v) = some #[s0, .val z1, s2, .val z3, .val (.int v), s5] := by
  rcases h with rfl | ⟨w, rfl, hw⟩
  · rfl
  · cases w <;> first | rfl | (simp [Value.category] at hw)
theorem os_sB5_0_82 {s0 : Slot} {z1 : Value} {s2 : Slot} {z3 : Value} {z4 : Value} {s5 : Slot} {v : Int32} (h : One s5) : storeLocals #[s0, .val z1, s2, .val z3, .val z4, s5] 5 (.int v) = some #[s0, .val z1, s2, .val z3, .val z4, .val (.int v)] := by
  rcases h with rfl | ⟨w, rfl, hw⟩
  · rfl
  · cases w <;> first | rfl | (simp [Value.category] at hw)
set_option maxRecDepth 65536 in
set_option maxHeartbeats 40000000 in
theorem sB5 {p : Program} {l : Launch} {e : Env} {s : State} {m : MethodId} {args : Array Value} {below : List Frame} {meth : Method} {c : Code} {T0 : State} {locs : List Loc} {Z : State} {a0 : Array Value} {h0 : Heap} {n0 : Nat} (s0 : Slot) (i1 : Int32) (s2 : Slot) (o3 : Addr) (s4 : Slot) (s5 : Slot) (w1 w2 w4 w3 w5 w6 : Addr)
    (X0 : Stand p l e room_1 s m args below meth c T0 locs 1 7) (hx : p.tables.exec = Jvm.exec) (hZ : Z.Warmed39 s.vm) (hw : ∀ d ∈ tables_1, d.before a0 Z = true) (hby : c.code = code) (hml : c.maxLocals = 6) (hown : s.vm.findClass "com/example/lock2/lock2/mapping/VersionKindIsTimestampFromClockPinLaw" = some m.cls) (e0 : T0.heap = h0) (N0 : Fr n0 locs) (Z0 : n0 ≤ h0.size) (E_o3 : Exa Z h0 o3 "com/example/lock2/lock2/mapping/VersionKind") (hs4 : One s4) (hs5 : One s5) (S1 : Sta Z h0 "com/example/lock2/lock2/mapping/VersionKind" "ALL_COLUMNS" "Lcom/example/lock2/lock2/mapping/VersionKind;" (.ref w1)) (S2 : Sta Z h0 "com/example/lock2/lock2/mapping/VersionKind" "CHANGED_COLUMNS" "Lcom/example/lock2/lock2/mapping/VersionKind;" (.ref w2)) (S3 : Sta Z h0 "com/example/lock2/lock2/mapping/VersionKind" "COUNTED" "Lcom/example/lock2/lock2/mapping/VersionKind;" (.ref w3)) (S4 : Sta Z h0 "com/example/lock2/lock2/mapping/VersionKind" "DATABASE_CLOCK" "Lcom/example/lock2/lock2/mapping/VersionKind;" (.ref w4)) (S5 : Sta Z h0 "com/example/lock2/lock2/mapping/VersionKind" "JVM_CLOCK" "Lcom/example/lock2/lock2/mapping/VersionKind;" (.ref w5)) (S6 : Sta Z h0 "com/example/lock2/lock2/mapping/VersionKind" "GENERATED" "Lcom/example/lock2/lock2/mapping/VersionKind;" (.ref w6)) (hn1 : ¬ (o3 = w1)) (hn2 : ¬ (o3 = w2)) (hn3 : ¬ (o3 = w3)) (hn6 : ¬ (o3 = w6)) (hor : o3 = w4 ∨ o3 = w5) (hc69 : ¬ (i1 = (4 : Int32))) (hc74 : i1 = (5 : Int32)) (hc95 : ¬ ((1 : Int32) = (0 : Int32))) (hc102 : ¬ ((1 : Int32) = (0 : Int32))) (hc109 : ¬ ((1 : Int32) = (0 : Int32))) :
    ∃ (T' : State) (L' : List Loc) (h' : Heap), Stand p l e room_1 s m args below meth c T' L' 1 7 ∧ Fr n0 L' ∧ T'.heap = h' ∧ h' = h0 ∧
      ∀ target, Steps p.tables e below (T'.setTop (mkF m 131 #[s0, .val (.int i1), s2, .val (.ref o3), .val (.int (1 : Int32)), .val (.int (1 : Int32))] [(.int (1 : Int32))])) target → Steps p.tables e below (T0.setTop (mkF m 61 #[s0, .val (.int i1), s2, .val (.ref o3), s4, s5] [])) target := by
  obtain ⟨cq2, kq2, q2a, q2b, q2c⟩ := isOf hZ e0 E_o3
  obtain ⟨_, _, ⟨T2, L2, k2, n2⟩, -, X2, ⟨Lc2, hQ2, l2, y2, z2⟩, st2⟩ := X0.virtualBack hx (y := (⟨"com/example/lock2/lock2/mapping/VersionKind", "isTimestampFromClock", "()Z"⟩ : MethodName)) (z := (⟨"com/example/lock2/lock2/mapping/VersionKind", "isTimestampFromClock", "()Z"⟩ : MethodName)) hown (mvT hZ (hw _ (List.mem_of_getElem? (i := 19) rfl))) (mvT hZ (hw _ (List.mem_of_getElem? (i := 20) rfl))) (notFace_of_selects (args := #[]) (mvT hZ (hw _ (List.mem_of_getElem? (i := 22) rfl)))) (mvT hZ (hw _ (List.mem_of_getElem? (i := 22) rfl))) (mvT hZ (hw _ (List.mem_of_getElem? (i := 21) rfl))) (by decide) (backOf (W := 0) (rm1_y l Z a0 hw [] o3 w4 w5 h0 n0 Z0 S4 S5 hor) hZ (hw _ (List.mem_of_getElem? (i := 23) rfl)) (hw _ (List.mem_of_getElem? (i := 4) rfl)) (by decide) (by decide)) q2a q2c (g := (mkF m 62 #[s0, .val (.int i1), s2, .val (.ref o3), s4, s5] [(.ref o3)])) rfl (by rw [hml]; rfl) (Steps.refl _) (argsL := []) (rest := []) (lenOf pd_0_0 rfl) rfl (by show 2 * 0 + _ ≤ _; exact Nat.le_of_eq rfl) (hb hby at_62) (fun _ _ => ⟨rfl, e0, (by decide : 1 + 0 ≤ _), (by decide : 7 + 0 ≤ _)⟩)
  dsimp only [Pt.U, Pt.locs, Pt.cells, Pt.slots] at X2 l2 y2 z2 st2 hQ2
  subst l2 y2 z2
  obtain ⟨rfl, N2q, e2⟩ := hQ2
  have N2 := Fr.app N0 N2q
  obtain ⟨cq3, kq3, q3a, q3b, q3c⟩ := isOf hZ e2 E_o3
  obtain ⟨_, _, ⟨T3, L3, k3, n3⟩, -, X3, ⟨Lc3, hQ3, l3, y3, z3⟩, st3⟩ := X2.virtualBack hx (y := (⟨"com/example/lock2/lock2/mapping/VersionKind", "hasVersionColumn", "()Z"⟩ : MethodName)) (z := (⟨"com/example/lock2/lock2/mapping/VersionKind", "hasVersionColumn", "()Z"⟩ : MethodName)) hown (mvT hZ (hw _ (List.mem_of_getElem? (i := 26) rfl))) (mvT hZ (hw _ (List.mem_of_getElem? (i := 27) rfl))) (notFace_of_selects (args := #[]) (mvT hZ (hw _ (List.mem_of_getElem? (i := 29) rfl)))) (mvT hZ (hw _ (List.mem_of_getElem? (i := 29) rfl))) (mvT hZ (hw _ (List.mem_of_getElem? (i := 28) rfl))) (by decide) (backOf (W := 0) (rm2 l Z a0 hw [] o3 w3 w6 w4 w5 h0 n0 Z0 S3 S6 E_o3 S4 S5 hor hn3 hn6 (by decide)) hZ (hw _ (List.mem_of_getElem? (i := 30) rfl)) (hw _ (List.mem_of_getElem? (i := 4) rfl)) (by decide) (by decide)) q3a q3c (g := (mkF m 99 #[s0, .val (.int i1), s2, .val (.ref o3), .val (.int (1 : Int32)), .val (.int (1 : Int32))] [(.ref o3)])) rfl (by rw [hml]; rfl) (Steps.refl _) (argsL := []) (rest := []) (lenOf pd_0_0 rfl) rfl (by show 2 * 0 + _ ≤ _; exact Nat.le_of_eq rfl) (hb hby at_99) (fun _ _ => ⟨rfl, e2, (by decide : 1 + 0 ≤ _), (by decide : 7 + 0 ≤ _)⟩)
  dsimp only [Pt.U, Pt.locs, Pt.cells, Pt.slots] at X3 l3 y3 z3 st3 hQ3
  subst l3 y3 z3
  obtain ⟨rfl, N3q, e3⟩ := hQ3
  have N3 := Fr.app N2 N3q
  obtain ⟨cq4, kq4, q4a, q4b, q4c⟩ := isOf hZ e3 E_o3
  obtain ⟨_, _, ⟨T4, L4, k4, n4⟩, -, X4, ⟨Lc4, hQ4, l4, y4, z4⟩, st4⟩ := X3.virtualBack hx (y := (⟨"com/example/lock2/lock2/mapping/VersionKind", "isWrittenByLock2", "()Z"⟩ : MethodName)) (z := (⟨"com/example/lock2/lock2/mapping/VersionKind", "isWrittenByLock2", "()Z"⟩ : MethodName)) hown (mvT hZ (hw _ (List.mem_of_getElem? (i := 34) rfl))) (mvT hZ (hw _ (List.mem_of_getElem? (i := 35) rfl))) (notFace_of_selects (args := #[]) (mvT hZ (hw _ (List.mem_of_getElem? (i := 37) rfl)))) (mvT hZ (hw _ (List.mem_of_getElem? (i := 37) rfl))) (mvT hZ (hw _ (List.mem_of_getElem? (i := 36) rfl))) (by decide) (backOf (W := 0) (rm3 l Z a0 hw [] o3 w3 w4 w5 h0 n0 Z0 S3 E_o3 S4 S5 hor hn3 (by decide)) hZ (hw _ (List.mem_of_getElem? (i := 38) rfl)) (hw _ (List.mem_of_getElem? (i := 4) rfl)) (by decide) (by decide)) q4a q4c (g := (mkF m 106 #[s0, .val (.int i1), s2, .val (.ref o3), .val (.int (1 : Int32)), .val (.int (1 : Int32))] [(.ref o3)])) rfl (by rw [hml]; rfl) (Steps.refl _) (argsL := []) (rest := []) (lenOf pd_0_0 rfl) rfl (by show 2 * 0 + _ ≤ _; exact Nat.le_of_eq rfl) (hb hby at_106) (fun _ _ => ⟨rfl, e3, (by decide : 1 + 0 ≤ _), (by decide : 7 + 0 ≤ _)⟩)
  dsimp only [Pt.U, Pt.locs, Pt.cells, Pt.slots] at X4 l4 y4 z4 st4 hQ4
  subst l4 y4 z4
  obtain ⟨rfl, N4q, e4⟩ := hQ4
  have N4 := Fr.app N3 N4q
  obtain ⟨cq5, kq5, q5a, q5b, q5c⟩ := isOf hZ e4 E_o3
  obtain ⟨_, _, ⟨T5, L5, k5, n5⟩, -, X5, ⟨Lc5, hQ5, l5, y5, z5⟩, st5⟩ := X4.virtualBack hx (y := (⟨"com/example/lock2/lock2/mapping/VersionKind", "isWrittenByDatabase", "()Z"⟩ : MethodName)) (z := (⟨"com/example/lock2/lock2/mapping/VersionKind", "isWrittenByDatabase", "()Z"⟩ : MethodName)) hown (mvT hZ (hw _ (List.mem_of_getElem? (i := 39) rfl))) (mvT hZ (hw _ (List.mem_of_getElem? (i := 40) rfl))) (notFace_of_selects (args := #[]) (mvT hZ (hw _ (List.mem_of_getElem? (i := 42) rfl)))) (mvT hZ (hw _ (List.mem_of_getElem? (i := 42) rfl))) (mvT hZ (hw _ (List.mem_of_getElem? (i := 41) rfl))) (by decide) (backOf (W := 0) (rm4 l Z a0 hw [] o3 w6 h0 n0 Z0 S6 hn6) hZ (hw _ (List.mem_of_getElem? (i := 43) rfl)) (hw _ (List.mem_of_getElem? (i := 4) rfl)) (by decide) (by decide)) q5a q5c (g := (mkF m 113 #[s0, .val (.int i1), s2, .val (.ref o3), .val (.int (1 : Int32)), .val (.int (1 : Int32))] [(.ref o3)])) rfl (by rw [hml]; rfl) (Steps.refl _) (argsL := []) (rest := []) (lenOf pd_0_0 rfl) rfl (by show 2 * 0 + _ ≤ _; exact Nat.le_of_eq rfl) (hb hby at_113) (fun _ _ => ⟨rfl, e4, (by decide : 1 + 0 ≤ _), (by decide : 7 + 0 ≤ _)⟩)
  dsimp only [Pt.U, Pt.locs, Pt.cells, Pt.slots] at X5 l5 y5 z5 st5 hQ5
  subst l5 y5 z5
  obtain ⟨rfl, N5q, e5⟩ := hQ5
  have N5 := Fr.app N4 N5q
  obtain ⟨cq6, kq6, q6a, q6b, q6c⟩ := isOf hZ e5 E_o3
  obtain ⟨_, _, ⟨T6, L6, k6, n6⟩, -, X6, ⟨Lc6, hQ6, l6, y6, z6⟩, st6⟩ := X5.virtualBack hx (y := (⟨"com/example/lock2/lock2/mapping/VersionKind", "comparesColumns", "()Z"⟩ : MethodName)) (z := (⟨"com/example/lock2/lock2/mapping/VersionKind", "comparesColumns", "()Z"⟩ : MethodName)) hown (mvT hZ (hw _ (List.mem_of_getElem? (i := 44) rfl))) (mvT hZ (hw _ (List.mem_of_getElem? (i := 45) rfl))) (notFace_of_selects (args := #[]) (mvT hZ (hw _ (List.mem_of_getElem? (i := 47) rfl)))) (mvT hZ (hw _ (List.mem_of_getElem? (i := 47) rfl))) (mvT hZ (hw _ (List.mem_of_getElem? (i := 46) rfl))) (by decide) (backOf (W := 0) (rm5 l Z a0 hw [] o3 w1 w2 h0 n0 Z0 S1 S2 hn1 hn2) hZ (hw _ (List.mem_of_getElem? (i := 48) rfl)) (hw _ (List.mem_of_getElem? (i := 4) rfl)) (by decide) (by decide)) q6a q6c (g := (mkF m 120 #[s0, .val (.int i1), s2, .val (.ref o3), .val (.int (1 : Int32)), .val (.int (1 : Int32))] [(.ref o3)])) rfl (by rw [hml]; rfl) (Steps.refl _) (argsL := []) (rest := []) (lenOf pd_0_0 rfl) rfl (by show 2 * 0 + _ ≤ _; exact Nat.le_of_eq rfl) (hb hby at_120) (fun _ _ => ⟨rfl, e5, (by decide : 1 + 0 ≤ _), (by decide : 7 + 0 ≤ _)⟩)
  dsimp only [Pt.U, Pt.locs, Pt.cells, Pt.slots] at X6 l6 y6 z6 st6 hQ6
  subst l6 y6 z6
  obtain ⟨rfl, N6q, e6⟩ := hQ6
  have N6 := Fr.app N5 N6q
  refine ⟨T6, _, _, X6, N6, e6, rfl, fun target kt => ?_⟩
  show Steps p.tables e below (T0.setTop (mkF m 61 #[s0, .val (.int i1), s2, .val (.ref o3), s4, s5] [])) _
  refine XS.aloadN X0.here hx rfl (hb hby at_61) rfl rfl ?_
  show Steps p.tables e below (T0.setTop (mkF m 62 #[s0, .val (.int i1), s2, .val (.ref o3), s4, s5] [(.ref o3)])) _
  refine st2.trans ?_
  show Steps p.tables e below (T2.setTop (mkF m 65 #[s0, .val (.int i1), s2, .val (.ref o3), s4, s5] [(.int (1 : Int32))])) _
  refine XS.istore X2.here hx rfl (hb hby at_65) rfl (l' := #[s0, .val (.int i1), s2, .val (.ref o3), .val (.int (1 : Int32)), s5]) (os_sB5_0_65 hs4) ?_
  show Steps p.tables e below (T2.setTop (mkF m 67 #[s0, .val (.int i1), s2, .val (.ref o3), .val (.int (1 : Int32)), s5] [])) _
  refine XS.iloadN X2.here hx rfl (hb hby at_67) rfl ?_
  show Steps p.tables e below (T2.setTop (mkF m 68 #[s0, .val (.int i1), s2, .val (.ref o3), .val (.int (1 : Int32)), s5] [(.int i1)])) _
  refine XS.iconst X2.here hx rfl (hb hby at_68) ?_
  show Steps p.tables e below (T2.setTop (mkF m 69 #[s0, .val (.int i1), s2, .val (.ref o3), .val (.int (1 : Int32)), s5] [(.int (4 : Int32)), (.int i1)])) _
  refine XS.icmpNo X2.here hx rfl (hb hby at_69) rfl (feq hc69).1 ?_
  show Steps p.tables e below (T2.setTop (mkF m 72 #[s0, .val (.int i1), s2, .val (.ref o3), .val (.int (1 : Int32)), s5] [])) _
  refine XS.iloadN X2.here hx rfl (hb hby at_72) rfl ?_
  show Steps p.tables e below (T2.setTop (mkF m 73 #[s0, .val (.int i1), s2, .val (.ref o3), .val (.int (1 : Int32)), s5] [(.int i1)])) _
  refine XS.iconst X2.here hx rfl (hb hby at_73) ?_
  show Steps p.tables e below (T2.setTop (mkF m 74 #[s0, .val (.int i1), s2, .val (.ref o3), .val (.int (1 : Int32)), s5] [(.int (5 : Int32)), (.int i1)])) _
  refine XS.icmpNo X2.here hx rfl (hb hby at_74) rfl (teq hc74).2 ?_
  show Steps p.tables e below (T2.setTop (mkF m 77 #[s0, .val (.int i1), s2, .val (.ref o3), .val (.int (1 : Int32)), s5] [])) _
  refine XS.iconst X2.here hx rfl (hb hby at_77) ?_
  show Steps p.tables e below (T2.setTop (mkF m 78 #[s0, .val (.int i1), s2, .val (.ref o3), .val (.int (1 : Int32)), s5] [(.int (1 : Int32))])) _
  refine XS.goto X2.here hx rfl (pc0 := 78) (pc' := 82) rfl (hb hby at_78) (by decide) (by decide) ?_
  show Steps p.tables e below (T2.setTop (mkF m 82 #[s0, .val (.int i1), s2, .val (.ref o3), .val (.int (1 : Int32)), s5] [(.int (1 : Int32))])) _
  refine XS.istore X2.here hx rfl (hb hby at_82) rfl (l' := #[s0, .val (.int i1), s2, .val (.ref o3), .val (.int (1 : Int32)), .val (.int (1 : Int32))]) (os_sB5_0_82 hs5) ?_
  show Steps p.tables e below (T2.setTop (mkF m 84 #[s0, .val (.int i1), s2, .val (.ref o3), .val (.int (1 : Int32)), .val (.int (1 : Int32))] [])) _
  refine XS.iload X2.here hx rfl (hb hby at_84) rfl ?_
  show Steps p.tables e below (T2.setTop (mkF m 86 #[s0, .val (.int i1), s2, .val (.ref o3), .val (.int (1 : Int32)), .val (.int (1 : Int32))] [(.int (1 : Int32))])) _
  refine XS.iload X2.here hx rfl (hb hby at_86) rfl ?_
  show Steps p.tables e below (T2.setTop (mkF m 88 #[s0, .val (.int i1), s2, .val (.ref o3), .val (.int (1 : Int32)), .val (.int (1 : Int32))] [(.int (1 : Int32)), (.int (1 : Int32))])) _
  refine XS.icmpYes X2.here hx rfl (pc0 := 88) (pc' := 93) rfl (hb hby at_88) rfl (teq (rfl : (1 : Int32) = (1 : Int32))).1 (by decide) (by decide) ?_
  show Steps p.tables e below (T2.setTop (mkF m 93 #[s0, .val (.int i1), s2, .val (.ref o3), .val (.int (1 : Int32)), .val (.int (1 : Int32))] [])) _
  refine XS.iload X2.here hx rfl (hb hby at_93) rfl ?_
  show Steps p.tables e below (T2.setTop (mkF m 95 #[s0, .val (.int i1), s2, .val (.ref o3), .val (.int (1 : Int32)), .val (.int (1 : Int32))] [(.int (1 : Int32))])) _
  refine XS.ifNo X2.here hx rfl (hb hby at_95) rfl ((if0 _ _).trans (feq hc95).1) ?_
  show Steps p.tables e below (T2.setTop (mkF m 98 #[s0, .val (.int i1), s2, .val (.ref o3), .val (.int (1 : Int32)), .val (.int (1 : Int32))] [])) _
  refine XS.aloadN X2.here hx rfl (hb hby at_98) rfl rfl ?_
  show Steps p.tables e below (T2.setTop (mkF m 99 #[s0, .val (.int i1), s2, .val (.ref o3), .val (.int (1 : Int32)), .val (.int (1 : Int32))] [(.ref o3)])) _
  refine st3.trans ?_
  show Steps p.tables e below (T3.setTop (mkF m 102 #[s0, .val (.int i1), s2, .val (.ref o3), .val (.int (1 : Int32)), .val (.int (1 : Int32))] [(.int (1 : Int32))])) _
  refine XS.ifNo X3.here hx rfl (hb hby at_102) rfl ((if0 _ _).trans (feq hc102).1) ?_
  show Steps p.tables e below (T3.setTop (mkF m 105 #[s0, .val (.int i1), s2, .val (.ref o3), .val (.int (1 : Int32)), .val (.int (1 : Int32))] [])) _
  refine XS.aloadN X3.here hx rfl (hb hby at_105) rfl rfl ?_
  show Steps p.tables e below (T3.setTop (mkF m 106 #[s0, .val (.int i1), s2, .val (.ref o3), .val (.int (1 : Int32)), .val (.int (1 : Int32))] [(.ref o3)])) _
  refine st4.trans ?_
  show Steps p.tables e below (T4.setTop (mkF m 109 #[s0, .val (.int i1), s2, .val (.ref o3), .val (.int (1 : Int32)), .val (.int (1 : Int32))] [(.int (1 : Int32))])) _
  refine XS.ifNo X4.here hx rfl (hb hby at_109) rfl ((if0 _ _).trans (feq hc109).1) ?_
  show Steps p.tables e below (T4.setTop (mkF m 112 #[s0, .val (.int i1), s2, .val (.ref o3), .val (.int (1 : Int32)), .val (.int (1 : Int32))] [])) _
  refine XS.aloadN X4.here hx rfl (hb hby at_112) rfl rfl ?_
  show Steps p.tables e below (T4.setTop (mkF m 113 #[s0, .val (.int i1), s2, .val (.ref o3), .val (.int (1 : Int32)), .val (.int (1 : Int32))] [(.ref o3)])) _
  refine st5.trans ?_
  show Steps p.tables e below (T5.setTop (mkF m 116 #[s0, .val (.int i1), s2, .val (.ref o3), .val (.int (1 : Int32)), .val (.int (1 : Int32))] [(.int (0 : Int32))])) _
  refine XS.ifNo X5.here hx rfl (hb hby at_116) rfl ((if0 _ _).trans (teq (rfl : (0 : Int32) = (0 : Int32))).2) ?_
  show Steps p.tables e below (T5.setTop (mkF m 119 #[s0, .val (.int i1), s2, .val (.ref o3), .val (.int (1 : Int32)), .val (.int (1 : Int32))] [])) _
  refine XS.aloadN X5.here hx rfl (hb hby at_119) rfl rfl ?_
  show Steps p.tables e below (T5.setTop (mkF m 120 #[s0, .val (.int i1), s2, .val (.ref o3), .val (.int (1 : Int32)), .val (.int (1 : Int32))] [(.ref o3)])) _
  refine st6.trans ?_
  show Steps p.tables e below (T6.setTop (mkF m 123 #[s0, .val (.int i1), s2, .val (.ref o3), .val (.int (1 : Int32)), .val (.int (1 : Int32))] [(.int (0 : Int32))])) _
  refine XS.ifNo X6.here hx rfl (hb hby at_123) rfl ((if0 _ _).trans (teq (rfl : (0 : Int32) = (0 : Int32))).2) ?_
  show Steps p.tables e below (T6.setTop (mkF m 126 #[s0, .val (.int i1), s2, .val (.ref o3), .val (.int (1 : Int32)), .val (.int (1 : Int32))] [])) _
  refine XS.iconst X6.here hx rfl (hb hby at_126) ?_
  show Steps p.tables e below (T6.setTop (mkF m 127 #[s0, .val (.int i1), s2, .val (.ref o3), .val (.int (1 : Int32)), .val (.int (1 : Int32))] [(.int (1 : Int32))])) _
  refine XS.goto X6.here hx rfl (pc0 := 127) (pc' := 131) rfl (hb hby at_127) (by decide) (by decide) ?_
  exact kt

theorem os_sBO_0_65 {s0 : Slot} {z1 : Value} {s2 : Slot} {z3 : Value} {s4 : Slot} {s5 : Slot} {v : Int32} (h : One s4) : storeLocals #[s0, .val z1, s2, .val z3, s4, s5] 4 (.int v) = some #[s0, .val z1, s2, .val z3, .val (.int v), s5] := by
  rcases h with rfl | ⟨w, rfl, hw⟩
  · rfl
  · cases w <;> first | rfl | (simp [Value.category] at hw)
theorem os_sBO_0_82 {s0 : Slot} {z1 : Value} {s2 : Slot} {z3 : Value} {z4 : Value} {s5 : Slot} {v : Int32} (h : One s5) : storeLocals #[s0, .val z1, s2, .val z3, .val z4, s5] 5 (.int v) = some #[s0, .val z1, s2, .val z3, .val z4, .val (.int v)] := by
  rcases h with rfl | ⟨w, rfl, hw⟩
  · rfl
  · cases w <;> first | rfl | (simp [Value.category] at hw)
set_option maxRecDepth 65536 in
set_option maxHeartbeats 40000000 in
theorem sBO {p : Program} {l : Launch} {e : Env} {s : State} {m : MethodId} {args : Array Value} {below : List Frame} {meth : Method} {c : Code} {T0 : State} {locs : List Loc} {Z : State} {a0 : Array Value} {h0 : Heap} {n0 : Nat} (s0 : Slot) (i1 : Int32) (s2 : Slot) (o3 : Addr) (s4 : Slot) (s5 : Slot) (w1 w2 w4 w3 w5 w6 : Addr)
    (X0 : Stand p l e room_1 s m args below meth c T0 locs 1 7) (hx : p.tables.exec = Jvm.exec) (hZ : Z.Warmed39 s.vm) (hw : ∀ d ∈ tables_1, d.before a0 Z = true) (hby : c.code = code) (hml : c.maxLocals = 6) (hown : s.vm.findClass "com/example/lock2/lock2/mapping/VersionKindIsTimestampFromClockPinLaw" = some m.cls) (e0 : T0.heap = h0) (N0 : Fr n0 locs) (Z0 : n0 ≤ h0.size) (E_o3 : Exa Z h0 o3 "com/example/lock2/lock2/mapping/VersionKind") (hs4 : One s4) (hs5 : One s5) (S1 : Sta Z h0 "com/example/lock2/lock2/mapping/VersionKind" "ALL_COLUMNS" "Lcom/example/lock2/lock2/mapping/VersionKind;" (.ref w1)) (S2 : Sta Z h0 "com/example/lock2/lock2/mapping/VersionKind" "CHANGED_COLUMNS" "Lcom/example/lock2/lock2/mapping/VersionKind;" (.ref w2)) (S3 : Sta Z h0 "com/example/lock2/lock2/mapping/VersionKind" "COUNTED" "Lcom/example/lock2/lock2/mapping/VersionKind;" (.ref w3)) (S4 : Sta Z h0 "com/example/lock2/lock2/mapping/VersionKind" "DATABASE_CLOCK" "Lcom/example/lock2/lock2/mapping/VersionKind;" (.ref w4)) (S5 : Sta Z h0 "com/example/lock2/lock2/mapping/VersionKind" "JVM_CLOCK" "Lcom/example/lock2/lock2/mapping/VersionKind;" (.ref w5)) (S6 : Sta Z h0 "com/example/lock2/lock2/mapping/VersionKind" "GENERATED" "Lcom/example/lock2/lock2/mapping/VersionKind;" (.ref w6)) (hn4 : ¬ (o3 = w4)) (hn5 : ¬ (o3 = w5)) (hc69 : ¬ (i1 = (4 : Int32))) (hc74 : ¬ (i1 = (5 : Int32))) :
    ∃ (T' : State) (L' : List Loc) (h' : Heap), Stand p l e room_1 s m args below meth c T' L' 1 7 ∧ Fr n0 L' ∧ T'.heap = h' ∧ h' = h0 ∧
      ∀ target, Steps p.tables e below (T'.setTop (mkF m 133 #[s0, .val (.int i1), s2, .val (.ref o3), .val (.int (0 : Int32)), .val (.int (0 : Int32))] [(.int (1 : Int32))])) target → Steps p.tables e below (T0.setTop (mkF m 61 #[s0, .val (.int i1), s2, .val (.ref o3), s4, s5] [])) target := by
  obtain ⟨cq2, kq2, q2a, q2b, q2c⟩ := isOf hZ e0 E_o3
  obtain ⟨_, _, ⟨T2, L2, k2, n2⟩, -, X2, ⟨Lc2, hQ2, l2, y2, z2⟩, st2⟩ := X0.virtualBack hx (y := (⟨"com/example/lock2/lock2/mapping/VersionKind", "isTimestampFromClock", "()Z"⟩ : MethodName)) (z := (⟨"com/example/lock2/lock2/mapping/VersionKind", "isTimestampFromClock", "()Z"⟩ : MethodName)) hown (mvT hZ (hw _ (List.mem_of_getElem? (i := 19) rfl))) (mvT hZ (hw _ (List.mem_of_getElem? (i := 20) rfl))) (notFace_of_selects (args := #[]) (mvT hZ (hw _ (List.mem_of_getElem? (i := 22) rfl)))) (mvT hZ (hw _ (List.mem_of_getElem? (i := 22) rfl))) (mvT hZ (hw _ (List.mem_of_getElem? (i := 21) rfl))) (by decide) (backOf (W := 0) (rm1_o l Z a0 hw [] o3 w4 w5 h0 n0 Z0 S4 S5 hn4 hn5) hZ (hw _ (List.mem_of_getElem? (i := 23) rfl)) (hw _ (List.mem_of_getElem? (i := 4) rfl)) (by decide) (by decide)) q2a q2c (g := (mkF m 62 #[s0, .val (.int i1), s2, .val (.ref o3), s4, s5] [(.ref o3)])) rfl (by rw [hml]; rfl) (Steps.refl _) (argsL := []) (rest := []) (lenOf pd_0_0 rfl) rfl (by show 2 * 0 + _ ≤ _; exact Nat.le_of_eq rfl) (hb hby at_62) (fun _ _ => ⟨rfl, e0, (by decide : 1 + 0 ≤ _), (by decide : 7 + 0 ≤ _)⟩)
  dsimp only [Pt.U, Pt.locs, Pt.cells, Pt.slots] at X2 l2 y2 z2 st2 hQ2
  subst l2 y2 z2
  obtain ⟨rfl, N2q, e2⟩ := hQ2
  have N2 := Fr.app N0 N2q
  refine ⟨T2, _, _, X2, N2, e2, rfl, fun target kt => ?_⟩
  show Steps p.tables e below (T0.setTop (mkF m 61 #[s0, .val (.int i1), s2, .val (.ref o3), s4, s5] [])) _
  refine XS.aloadN X0.here hx rfl (hb hby at_61) rfl rfl ?_
  show Steps p.tables e below (T0.setTop (mkF m 62 #[s0, .val (.int i1), s2, .val (.ref o3), s4, s5] [(.ref o3)])) _
  refine st2.trans ?_
  show Steps p.tables e below (T2.setTop (mkF m 65 #[s0, .val (.int i1), s2, .val (.ref o3), s4, s5] [(.int (0 : Int32))])) _
  refine XS.istore X2.here hx rfl (hb hby at_65) rfl (l' := #[s0, .val (.int i1), s2, .val (.ref o3), .val (.int (0 : Int32)), s5]) (os_sBO_0_65 hs4) ?_
  show Steps p.tables e below (T2.setTop (mkF m 67 #[s0, .val (.int i1), s2, .val (.ref o3), .val (.int (0 : Int32)), s5] [])) _
  refine XS.iloadN X2.here hx rfl (hb hby at_67) rfl ?_
  show Steps p.tables e below (T2.setTop (mkF m 68 #[s0, .val (.int i1), s2, .val (.ref o3), .val (.int (0 : Int32)), s5] [(.int i1)])) _
  refine XS.iconst X2.here hx rfl (hb hby at_68) ?_
  show Steps p.tables e below (T2.setTop (mkF m 69 #[s0, .val (.int i1), s2, .val (.ref o3), .val (.int (0 : Int32)), s5] [(.int (4 : Int32)), (.int i1)])) _
  refine XS.icmpNo X2.here hx rfl (hb hby at_69) rfl (feq hc69).1 ?_
  show Steps p.tables e below (T2.setTop (mkF m 72 #[s0, .val (.int i1), s2, .val (.ref o3), .val (.int (0 : Int32)), s5] [])) _
  refine XS.iloadN X2.here hx rfl (hb hby at_72) rfl ?_
  show Steps p.tables e below (T2.setTop (mkF m 73 #[s0, .val (.int i1), s2, .val (.ref o3), .val (.int (0 : Int32)), s5] [(.int i1)])) _
  refine XS.iconst X2.here hx rfl (hb hby at_73) ?_
  show Steps p.tables e below (T2.setTop (mkF m 74 #[s0, .val (.int i1), s2, .val (.ref o3), .val (.int (0 : Int32)), s5] [(.int (5 : Int32)), (.int i1)])) _
  refine XS.icmpYes X2.here hx rfl (pc0 := 74) (pc' := 81) rfl (hb hby at_74) rfl (feq hc74).2 (by decide) (by decide) ?_
  show Steps p.tables e below (T2.setTop (mkF m 81 #[s0, .val (.int i1), s2, .val (.ref o3), .val (.int (0 : Int32)), s5] [])) _
  refine XS.iconst X2.here hx rfl (hb hby at_81) ?_
  show Steps p.tables e below (T2.setTop (mkF m 82 #[s0, .val (.int i1), s2, .val (.ref o3), .val (.int (0 : Int32)), s5] [(.int (0 : Int32))])) _
  refine XS.istore X2.here hx rfl (hb hby at_82) rfl (l' := #[s0, .val (.int i1), s2, .val (.ref o3), .val (.int (0 : Int32)), .val (.int (0 : Int32))]) (os_sBO_0_82 hs5) ?_
  show Steps p.tables e below (T2.setTop (mkF m 84 #[s0, .val (.int i1), s2, .val (.ref o3), .val (.int (0 : Int32)), .val (.int (0 : Int32))] [])) _
  refine XS.iload X2.here hx rfl (hb hby at_84) rfl ?_
  show Steps p.tables e below (T2.setTop (mkF m 86 #[s0, .val (.int i1), s2, .val (.ref o3), .val (.int (0 : Int32)), .val (.int (0 : Int32))] [(.int (0 : Int32))])) _
  refine XS.iload X2.here hx rfl (hb hby at_86) rfl ?_
  show Steps p.tables e below (T2.setTop (mkF m 88 #[s0, .val (.int i1), s2, .val (.ref o3), .val (.int (0 : Int32)), .val (.int (0 : Int32))] [(.int (0 : Int32)), (.int (0 : Int32))])) _
  refine XS.icmpYes X2.here hx rfl (pc0 := 88) (pc' := 93) rfl (hb hby at_88) rfl (teq (rfl : (0 : Int32) = (0 : Int32))).1 (by decide) (by decide) ?_
  show Steps p.tables e below (T2.setTop (mkF m 93 #[s0, .val (.int i1), s2, .val (.ref o3), .val (.int (0 : Int32)), .val (.int (0 : Int32))] [])) _
  refine XS.iload X2.here hx rfl (hb hby at_93) rfl ?_
  show Steps p.tables e below (T2.setTop (mkF m 95 #[s0, .val (.int i1), s2, .val (.ref o3), .val (.int (0 : Int32)), .val (.int (0 : Int32))] [(.int (0 : Int32))])) _
  refine XS.ifYes X2.here hx rfl (pc0 := 95) (pc' := 132) rfl (hb hby at_95) rfl ((if0 _ _).trans (teq (rfl : (0 : Int32) = (0 : Int32))).1) (by decide) (by decide) ?_
  show Steps p.tables e below (T2.setTop (mkF m 132 #[s0, .val (.int i1), s2, .val (.ref o3), .val (.int (0 : Int32)), .val (.int (0 : Int32))] [])) _
  refine XS.iconst X2.here hx rfl (hb hby at_132) ?_
  exact kt

theorem pn_0 : plainName "com/example/lock2/lock2/mapping/VersionKindIsTimestampFromClockPinLaw" = true := by first | (simp [plainName, overriddenIn]; done) | decide +kernel
theorem ef_0 (m : MethodId) (x0 : Int32) : entryFrame m #[(.int x0)] maxLocals = mkF m 0 #[.val (.int x0), .unset, .unset, .unset, .unset, .unset] [] := by first | (simp [entryFrame, mkF, argsToLocals, Value.category, maxLocals]; done) | rfl
set_option maxRecDepth 65536 in
set_option maxHeartbeats 40000000 in
theorem rm0 (l : Launch) (Z : State) (a0 : Array Value) (hw : ∀ d ∈ tables_1, d.before a0 Z = true) (ws : List Jvm.Cond) (p1 : Int32) (w0 w1 w2 w3 w4 w5 w6 : Addr) (h0 : Heap) (n0 : Nat) (Z0 : n0 ≤ h0.size) (Od0 : Old Z n0 h0) (S0 : Sta Z Z.heap "com/example/lock2/lock2/mapping/VersionKind" "NONE" "Lcom/example/lock2/lock2/mapping/VersionKind;" (.ref w0)) (E0 : Exa Z Z.heap w0 "com/example/lock2/lock2/mapping/VersionKind") (S1 : Sta Z Z.heap "com/example/lock2/lock2/mapping/VersionKind" "ALL_COLUMNS" "Lcom/example/lock2/lock2/mapping/VersionKind;" (.ref w1)) (E1 : Exa Z Z.heap w1 "com/example/lock2/lock2/mapping/VersionKind") (S2 : Sta Z Z.heap "com/example/lock2/lock2/mapping/VersionKind" "CHANGED_COLUMNS" "Lcom/example/lock2/lock2/mapping/VersionKind;" (.ref w2)) (E2 : Exa Z Z.heap w2 "com/example/lock2/lock2/mapping/VersionKind") (S3 : Sta Z Z.heap "com/example/lock2/lock2/mapping/VersionKind" "COUNTED" "Lcom/example/lock2/lock2/mapping/VersionKind;" (.ref w3)) (E3 : Exa Z Z.heap w3 "com/example/lock2/lock2/mapping/VersionKind") (S4 : Sta Z Z.heap "com/example/lock2/lock2/mapping/VersionKind" "DATABASE_CLOCK" "Lcom/example/lock2/lock2/mapping/VersionKind;" (.ref w4)) (E4 : Exa Z Z.heap w4 "com/example/lock2/lock2/mapping/VersionKind") (S5 : Sta Z Z.heap "com/example/lock2/lock2/mapping/VersionKind" "JVM_CLOCK" "Lcom/example/lock2/lock2/mapping/VersionKind;" (.ref w5)) (E5 : Exa Z Z.heap w5 "com/example/lock2/lock2/mapping/VersionKind") (S6 : Sta Z Z.heap "com/example/lock2/lock2/mapping/VersionKind" "GENERATED" "Lcom/example/lock2/lock2/mapping/VersionKind;" (.ref w6)) (E6 : Exa Z Z.heap w6 "com/example/lock2/lock2/mapping/VersionKind") (n04 : ¬ (w0 = w4)) (n05 : ¬ (w0 = w5)) (n14 : ¬ (w1 = w4)) (n15 : ¬ (w1 = w5)) (n24 : ¬ (w2 = w4)) (n25 : ¬ (w2 = w5)) (n34 : ¬ (w3 = w4)) (n35 : ¬ (w3 = w5)) (n41 : ¬ (w4 = w1)) (n42 : ¬ (w4 = w2)) (n43 : ¬ (w4 = w3)) (n46 : ¬ (w4 = w6)) (n51 : ¬ (w5 = w1)) (n52 : ¬ (w5 = w2)) (n53 : ¬ (w5 = w3)) (n56 : ¬ (w5 = w6)) (n64 : ¬ (w6 = w4)) (n65 : ¬ (w6 = w5)) :
    MetFree l x (head1 (Jvm.Cond.code x code maxLocals ret :: ws) room_1) (fun a U => a = #[(.int p1)] ∧ Z.Warmed39 U.vm ∧ U.heap = h0) (fun _ _ _ _ _ => True) (fun _ U o U' => ∃ v L, o = .returned v ∧ own_Q n0 v U'.heap L ∧ FrameEnd U o U' L room_1.cells room_1.slots) := by
  refine MetFree.of_bodySF (plainFor_of_name pn_0) hisR ?_
  intro p e s m args below meth c s₁ Bd hml0 hP hK
  obtain ⟨rfl, hZ, hh⟩ := hP
  have hx := Bd.exec
  have hby := Bd.bytes
  have hml : c.maxLocals = 6 := hml0
  have hown : s.vm.findClass "com/example/lock2/lock2/mapping/VersionKindIsTimestampFromClockPinLaw" = some m.cls := findClass_of_methodNamed Bd.named
  have hnm := (name_of_methodNamed Bd.named Bd.method).1
  have X0 : Stand p l e room_1 s m #[(.int p1)] below meth c s₁ [] 0 0 := Stand.of_body Bd
  have e0 : s₁.heap = h0 := by rw [← hh, Bd.state]; rfl
  have N0 := Fr.nil n0
  have pre0 : ∀ t, Steps p.tables e below (s₁.setTop (mkF m 0 #[.val (.int p1), .unset, .unset, .unset, .unset, .unset] [])) t → Steps p.tables e below (s₁.setTop (entryFrame m #[(.int p1)] maxLocals)) t := fun t k => castTop (ef_0 m p1) k
  obtain ⟨T1, L1, h1, b, kc, X1, N1, e1, gb, O1, V1, k1⟩ := sA (i0 := p1) (s1 := .unset) (s2 := .unset) (s3 := .unset) (s4 := .unset) (s5 := .unset) (w3 := w0) (w6 := w1) (w9 := w2) (w12 := w3) (w15 := w4) (w18 := w5) (w21 := w6) (X0 := X0) (hx := hx) (hZ := hZ) (hw := hw) (hby := hby) (hml := hml) (hown := hown) (e0 := e0) (N0 := N0) (Z0 := Z0) (Od0 := Od0) (hs1 := One.u) (S_NONE := S0) (E_w3 := E0) (S_ALL_COLUMNS := S1) (E_w6 := E1) (S_CHANGED_COLUMNS := S2) (E_w9 := E2) (S_COUNTED := S3) (E_w12 := E3) (S_DATABASE_CLOCK := S4) (E_w15 := E4) (S_JVM_CLOCK := S5) (E_w18 := E5) (S_GENERATED := S6) (E_w21 := E6) (hs2 := One.u)
  have Z1 : n0 ≤ h1.size := Nat.le_trans (Nat.le_of_eq O1.1.symm) O1.2.1
  obtain ⟨cl, Ar, qc, SS, NN, HH, GG⟩ := V1
  have hin : ¬ (((p1 &&& (2147483647 : Int32)) % (7 : Int32)) < 0 ∨ cl.slots.size ≤ (((p1 &&& (2147483647 : Int32)) % (7 : Int32))).toNatClampNeg) := inb_of SS ⟨fun q => absurd (Int32.lt_iff_toInt_lt.mp q) (Int.not_lt.mpr (own_k p1).1), Int32.lt_iff_toInt_lt.mpr (own_k p1).2⟩
  rcases own_cases (own_k p1).1 (own_k p1).2 with h | h | h | h | h | h | h
  · have hat : cl.slots[(((p1 &&& (2147483647 : Int32)) % (7 : Int32))).toNatClampNeg]? = some (.ref w0) := HH.at hin (by rw [h]; rfl)
    obtain ⟨T5, L5, h5, X5, N5, e5, f5, kk⟩ := sBO (s0 := .val (.int p1)) (i1 := ((p1 &&& (2147483647 : Int32)) % (7 : Int32))) (s2 := .val (.ref b)) (o3 := w0) (s4 := .unset) (s5 := .unset) (w1 := w1) (w2 := w2) (w4 := w4) (w3 := w3) (w5 := w5) (w6 := w6) (X0 := X1) (hx := hx) (hZ := hZ) (hw := hw) (hby := hby) (hml := hml) (hown := hown) (e0 := e1) (N0 := N1) (Z0 := Z1) (E_o3 := (E0.ext O1.2)) (hs4 := One.u) (hs5 := One.u) (S1 := (S1.ext O1.2)) (S2 := (S2.ext O1.2)) (S3 := (S3.ext O1.2)) (S4 := (S4.ext O1.2)) (S5 := (S5.ext O1.2)) (S6 := (S6.ext O1.2)) (hn4 := n04) (hn5 := n05) (hc69 := (by rw [h]; decide)) (hc74 := (by rw [h]; decide))
    obtain ⟨fs, hr, hrun, hended, hW, hsame⟩ := X5.leave (v := some (.int (1 : Int32))) (fun h => by rw [Bd.returns] at h; cases h)
    refine ⟨_, _, pre0 _ ?_, hrun, hended, _, _, rfl, (⟨rfl, N5⟩ : own_Q n0 _ T5.heap _), ⟨_, rfl⟩, hW, hsame.mono (by decide) (by decide)⟩
    refine k1 _ ?_
    show Steps p.tables e below (T1.setTop (mkF m 57 #[.val (.int p1), .val (.int ((p1 &&& (2147483647 : Int32)) % (7 : Int32))), .val (.ref b), .unset, .unset, .unset] [])) _
    refine XS.aloadN X1.here hx rfl (hb hby at_57) rfl rfl ?_
    show Steps p.tables e below (T1.setTop (mkF m 58 #[.val (.int p1), .val (.int ((p1 &&& (2147483647 : Int32)) % (7 : Int32))), .val (.ref b), .unset, .unset, .unset] [(.ref b)])) _
    refine XS.iloadN X1.here hx rfl (hb hby at_58) rfl ?_
    show Steps p.tables e below (T1.setTop (mkF m 59 #[.val (.int p1), .val (.int ((p1 &&& (2147483647 : Int32)) % (7 : Int32))), .val (.ref b), .unset, .unset, .unset] [(.int ((p1 &&& (2147483647 : Int32)) % (7 : Int32))), (.ref b)])) _
    refine X1.aaload hx (j := ((p1 &&& (2147483647 : Int32)) % (7 : Int32))) (v := (.ref w0)) (by rw [e1]; exact Ar.1) (State.isArrayOf_alike hZ.alike Ar.2.1) rfl Ar.2.2 hin hat (g := (mkF m 59 #[.val (.int p1), .val (.int ((p1 &&& (2147483647 : Int32)) % (7 : Int32))), .val (.ref b), .unset, .unset, .unset] [(.int ((p1 &&& (2147483647 : Int32)) % (7 : Int32))), (.ref b)])) rfl rfl (hb hby at_59) _ ?_
    show Steps p.tables e below (T1.setTop (mkF m 60 #[.val (.int p1), .val (.int ((p1 &&& (2147483647 : Int32)) % (7 : Int32))), .val (.ref b), .unset, .unset, .unset] [(.ref w0)])) _
    refine XS.astoreN X1.here hx rfl (hb hby at_60) rfl rfl (l' := #[.val (.int p1), .val (.int ((p1 &&& (2147483647 : Int32)) % (7 : Int32))), .val (.ref b), .val (.ref w0), .unset, .unset]) rfl ?_
    show Steps p.tables e below (T1.setTop (mkF m 61 #[.val (.int p1), .val (.int ((p1 &&& (2147483647 : Int32)) % (7 : Int32))), .val (.ref b), .val (.ref w0), .unset, .unset] [])) _
    refine kk _ ?_
    show Steps p.tables e below (T5.setTop (mkF m 133 #[.val (.int p1), .val (.int ((p1 &&& (2147483647 : Int32)) % (7 : Int32))), .val (.ref b), .val (.ref w0), .val (.int (0 : Int32)), .val (.int (0 : Int32))] [(.int (1 : Int32))])) _
    exact retN X5 hx (t := .boolean) Bd.returns (by simp) (hb hby at_133) hr
  · have hat : cl.slots[(((p1 &&& (2147483647 : Int32)) % (7 : Int32))).toNatClampNeg]? = some (.ref w1) := HH.at hin (by rw [h]; rfl)
    obtain ⟨T5, L5, h5, X5, N5, e5, f5, kk⟩ := sBO (s0 := .val (.int p1)) (i1 := ((p1 &&& (2147483647 : Int32)) % (7 : Int32))) (s2 := .val (.ref b)) (o3 := w1) (s4 := .unset) (s5 := .unset) (w1 := w1) (w2 := w2) (w4 := w4) (w3 := w3) (w5 := w5) (w6 := w6) (X0 := X1) (hx := hx) (hZ := hZ) (hw := hw) (hby := hby) (hml := hml) (hown := hown) (e0 := e1) (N0 := N1) (Z0 := Z1) (E_o3 := (E1.ext O1.2)) (hs4 := One.u) (hs5 := One.u) (S1 := (S1.ext O1.2)) (S2 := (S2.ext O1.2)) (S3 := (S3.ext O1.2)) (S4 := (S4.ext O1.2)) (S5 := (S5.ext O1.2)) (S6 := (S6.ext O1.2)) (hn4 := n14) (hn5 := n15) (hc69 := (by rw [h]; decide)) (hc74 := (by rw [h]; decide))
    obtain ⟨fs, hr, hrun, hended, hW, hsame⟩ := X5.leave (v := some (.int (1 : Int32))) (fun h => by rw [Bd.returns] at h; cases h)
    refine ⟨_, _, pre0 _ ?_, hrun, hended, _, _, rfl, (⟨rfl, N5⟩ : own_Q n0 _ T5.heap _), ⟨_, rfl⟩, hW, hsame.mono (by decide) (by decide)⟩
    refine k1 _ ?_
    show Steps p.tables e below (T1.setTop (mkF m 57 #[.val (.int p1), .val (.int ((p1 &&& (2147483647 : Int32)) % (7 : Int32))), .val (.ref b), .unset, .unset, .unset] [])) _
    refine XS.aloadN X1.here hx rfl (hb hby at_57) rfl rfl ?_
    show Steps p.tables e below (T1.setTop (mkF m 58 #[.val (.int p1), .val (.int ((p1 &&& (2147483647 : Int32)) % (7 : Int32))), .val (.ref b), .unset, .unset, .unset] [(.ref b)])) _
    refine XS.iloadN X1.here hx rfl (hb hby at_58) rfl ?_
    show Steps p.tables e below (T1.setTop (mkF m 59 #[.val (.int p1), .val (.int ((p1 &&& (2147483647 : Int32)) % (7 : Int32))), .val (.ref b), .unset, .unset, .unset] [(.int ((p1 &&& (2147483647 : Int32)) % (7 : Int32))), (.ref b)])) _
    refine X1.aaload hx (j := ((p1 &&& (2147483647 : Int32)) % (7 : Int32))) (v := (.ref w1)) (by rw [e1]; exact Ar.1) (State.isArrayOf_alike hZ.alike Ar.2.1) rfl Ar.2.2 hin hat (g := (mkF m 59 #[.val (.int p1), .val (.int ((p1 &&& (2147483647 : Int32)) % (7 : Int32))), .val (.ref b), .unset, .unset, .unset] [(.int ((p1 &&& (2147483647 : Int32)) % (7 : Int32))), (.ref b)])) rfl rfl (hb hby at_59) _ ?_
    show Steps p.tables e below (T1.setTop (mkF m 60 #[.val (.int p1), .val (.int ((p1 &&& (2147483647 : Int32)) % (7 : Int32))), .val (.ref b), .unset, .unset, .unset] [(.ref w1)])) _
    refine XS.astoreN X1.here hx rfl (hb hby at_60) rfl rfl (l' := #[.val (.int p1), .val (.int ((p1 &&& (2147483647 : Int32)) % (7 : Int32))), .val (.ref b), .val (.ref w1), .unset, .unset]) rfl ?_
    show Steps p.tables e below (T1.setTop (mkF m 61 #[.val (.int p1), .val (.int ((p1 &&& (2147483647 : Int32)) % (7 : Int32))), .val (.ref b), .val (.ref w1), .unset, .unset] [])) _
    refine kk _ ?_
    show Steps p.tables e below (T5.setTop (mkF m 133 #[.val (.int p1), .val (.int ((p1 &&& (2147483647 : Int32)) % (7 : Int32))), .val (.ref b), .val (.ref w1), .val (.int (0 : Int32)), .val (.int (0 : Int32))] [(.int (1 : Int32))])) _
    exact retN X5 hx (t := .boolean) Bd.returns (by simp) (hb hby at_133) hr
  · have hat : cl.slots[(((p1 &&& (2147483647 : Int32)) % (7 : Int32))).toNatClampNeg]? = some (.ref w2) := HH.at hin (by rw [h]; rfl)
    obtain ⟨T5, L5, h5, X5, N5, e5, f5, kk⟩ := sBO (s0 := .val (.int p1)) (i1 := ((p1 &&& (2147483647 : Int32)) % (7 : Int32))) (s2 := .val (.ref b)) (o3 := w2) (s4 := .unset) (s5 := .unset) (w1 := w1) (w2 := w2) (w4 := w4) (w3 := w3) (w5 := w5) (w6 := w6) (X0 := X1) (hx := hx) (hZ := hZ) (hw := hw) (hby := hby) (hml := hml) (hown := hown) (e0 := e1) (N0 := N1) (Z0 := Z1) (E_o3 := (E2.ext O1.2)) (hs4 := One.u) (hs5 := One.u) (S1 := (S1.ext O1.2)) (S2 := (S2.ext O1.2)) (S3 := (S3.ext O1.2)) (S4 := (S4.ext O1.2)) (S5 := (S5.ext O1.2)) (S6 := (S6.ext O1.2)) (hn4 := n24) (hn5 := n25) (hc69 := (by rw [h]; decide)) (hc74 := (by rw [h]; decide))
    obtain ⟨fs, hr, hrun, hended, hW, hsame⟩ := X5.leave (v := some (.int (1 : Int32))) (fun h => by rw [Bd.returns] at h; cases h)
    refine ⟨_, _, pre0 _ ?_, hrun, hended, _, _, rfl, (⟨rfl, N5⟩ : own_Q n0 _ T5.heap _), ⟨_, rfl⟩, hW, hsame.mono (by decide) (by decide)⟩
    refine k1 _ ?_
    show Steps p.tables e below (T1.setTop (mkF m 57 #[.val (.int p1), .val (.int ((p1 &&& (2147483647 : Int32)) % (7 : Int32))), .val (.ref b), .unset, .unset, .unset] [])) _
    refine XS.aloadN X1.here hx rfl (hb hby at_57) rfl rfl ?_
    show Steps p.tables e below (T1.setTop (mkF m 58 #[.val (.int p1), .val (.int ((p1 &&& (2147483647 : Int32)) % (7 : Int32))), .val (.ref b), .unset, .unset, .unset] [(.ref b)])) _
    refine XS.iloadN X1.here hx rfl (hb hby at_58) rfl ?_
    show Steps p.tables e below (T1.setTop (mkF m 59 #[.val (.int p1), .val (.int ((p1 &&& (2147483647 : Int32)) % (7 : Int32))), .val (.ref b), .unset, .unset, .unset] [(.int ((p1 &&& (2147483647 : Int32)) % (7 : Int32))), (.ref b)])) _
    refine X1.aaload hx (j := ((p1 &&& (2147483647 : Int32)) % (7 : Int32))) (v := (.ref w2)) (by rw [e1]; exact Ar.1) (State.isArrayOf_alike hZ.alike Ar.2.1) rfl Ar.2.2 hin hat (g := (mkF m 59 #[.val (.int p1), .val (.int ((p1 &&& (2147483647 : Int32)) % (7 : Int32))), .val (.ref b), .unset, .unset, .unset] [(.int ((p1 &&& (2147483647 : Int32)) % (7 : Int32))), (.ref b)])) rfl rfl (hb hby at_59) _ ?_
    show Steps p.tables e below (T1.setTop (mkF m 60 #[.val (.int p1), .val (.int ((p1 &&& (2147483647 : Int32)) % (7 : Int32))), .val (.ref b), .unset, .unset, .unset] [(.ref w2)])) _
    refine XS.astoreN X1.here hx rfl (hb hby at_60) rfl rfl (l' := #[.val (.int p1), .val (.int ((p1 &&& (2147483647 : Int32)) % (7 : Int32))), .val (.ref b), .val (.ref w2), .unset, .unset]) rfl ?_
    show Steps p.tables e below (T1.setTop (mkF m 61 #[.val (.int p1), .val (.int ((p1 &&& (2147483647 : Int32)) % (7 : Int32))), .val (.ref b), .val (.ref w2), .unset, .unset] [])) _
    refine kk _ ?_
    show Steps p.tables e below (T5.setTop (mkF m 133 #[.val (.int p1), .val (.int ((p1 &&& (2147483647 : Int32)) % (7 : Int32))), .val (.ref b), .val (.ref w2), .val (.int (0 : Int32)), .val (.int (0 : Int32))] [(.int (1 : Int32))])) _
    exact retN X5 hx (t := .boolean) Bd.returns (by simp) (hb hby at_133) hr
  · have hat : cl.slots[(((p1 &&& (2147483647 : Int32)) % (7 : Int32))).toNatClampNeg]? = some (.ref w3) := HH.at hin (by rw [h]; rfl)
    obtain ⟨T5, L5, h5, X5, N5, e5, f5, kk⟩ := sBO (s0 := .val (.int p1)) (i1 := ((p1 &&& (2147483647 : Int32)) % (7 : Int32))) (s2 := .val (.ref b)) (o3 := w3) (s4 := .unset) (s5 := .unset) (w1 := w1) (w2 := w2) (w4 := w4) (w3 := w3) (w5 := w5) (w6 := w6) (X0 := X1) (hx := hx) (hZ := hZ) (hw := hw) (hby := hby) (hml := hml) (hown := hown) (e0 := e1) (N0 := N1) (Z0 := Z1) (E_o3 := (E3.ext O1.2)) (hs4 := One.u) (hs5 := One.u) (S1 := (S1.ext O1.2)) (S2 := (S2.ext O1.2)) (S3 := (S3.ext O1.2)) (S4 := (S4.ext O1.2)) (S5 := (S5.ext O1.2)) (S6 := (S6.ext O1.2)) (hn4 := n34) (hn5 := n35) (hc69 := (by rw [h]; decide)) (hc74 := (by rw [h]; decide))
    obtain ⟨fs, hr, hrun, hended, hW, hsame⟩ := X5.leave (v := some (.int (1 : Int32))) (fun h => by rw [Bd.returns] at h; cases h)
    refine ⟨_, _, pre0 _ ?_, hrun, hended, _, _, rfl, (⟨rfl, N5⟩ : own_Q n0 _ T5.heap _), ⟨_, rfl⟩, hW, hsame.mono (by decide) (by decide)⟩
    refine k1 _ ?_
    show Steps p.tables e below (T1.setTop (mkF m 57 #[.val (.int p1), .val (.int ((p1 &&& (2147483647 : Int32)) % (7 : Int32))), .val (.ref b), .unset, .unset, .unset] [])) _
    refine XS.aloadN X1.here hx rfl (hb hby at_57) rfl rfl ?_
    show Steps p.tables e below (T1.setTop (mkF m 58 #[.val (.int p1), .val (.int ((p1 &&& (2147483647 : Int32)) % (7 : Int32))), .val (.ref b), .unset, .unset, .unset] [(.ref b)])) _
    refine XS.iloadN X1.here hx rfl (hb hby at_58) rfl ?_
    show Steps p.tables e below (T1.setTop (mkF m 59 #[.val (.int p1), .val (.int ((p1 &&& (2147483647 : Int32)) % (7 : Int32))), .val (.ref b), .unset, .unset, .unset] [(.int ((p1 &&& (2147483647 : Int32)) % (7 : Int32))), (.ref b)])) _
    refine X1.aaload hx (j := ((p1 &&& (2147483647 : Int32)) % (7 : Int32))) (v := (.ref w3)) (by rw [e1]; exact Ar.1) (State.isArrayOf_alike hZ.alike Ar.2.1) rfl Ar.2.2 hin hat (g := (mkF m 59 #[.val (.int p1), .val (.int ((p1 &&& (2147483647 : Int32)) % (7 : Int32))), .val (.ref b), .unset, .unset, .unset] [(.int ((p1 &&& (2147483647 : Int32)) % (7 : Int32))), (.ref b)])) rfl rfl (hb hby at_59) _ ?_
    show Steps p.tables e below (T1.setTop (mkF m 60 #[.val (.int p1), .val (.int ((p1 &&& (2147483647 : Int32)) % (7 : Int32))), .val (.ref b), .unset, .unset, .unset] [(.ref w3)])) _
    refine XS.astoreN X1.here hx rfl (hb hby at_60) rfl rfl (l' := #[.val (.int p1), .val (.int ((p1 &&& (2147483647 : Int32)) % (7 : Int32))), .val (.ref b), .val (.ref w3), .unset, .unset]) rfl ?_
    show Steps p.tables e below (T1.setTop (mkF m 61 #[.val (.int p1), .val (.int ((p1 &&& (2147483647 : Int32)) % (7 : Int32))), .val (.ref b), .val (.ref w3), .unset, .unset] [])) _
    refine kk _ ?_
    show Steps p.tables e below (T5.setTop (mkF m 133 #[.val (.int p1), .val (.int ((p1 &&& (2147483647 : Int32)) % (7 : Int32))), .val (.ref b), .val (.ref w3), .val (.int (0 : Int32)), .val (.int (0 : Int32))] [(.int (1 : Int32))])) _
    exact retN X5 hx (t := .boolean) Bd.returns (by simp) (hb hby at_133) hr
  · have hat : cl.slots[(((p1 &&& (2147483647 : Int32)) % (7 : Int32))).toNatClampNeg]? = some (.ref w4) := HH.at hin (by rw [h]; rfl)
    obtain ⟨T5, L5, h5, X5, N5, e5, f5, kk⟩ := sB4 (s0 := .val (.int p1)) (i1 := ((p1 &&& (2147483647 : Int32)) % (7 : Int32))) (s2 := .val (.ref b)) (o3 := w4) (s4 := .unset) (s5 := .unset) (w1 := w1) (w2 := w2) (w4 := w4) (w3 := w3) (w5 := w5) (w6 := w6) (X0 := X1) (hx := hx) (hZ := hZ) (hw := hw) (hby := hby) (hml := hml) (hown := hown) (e0 := e1) (N0 := N1) (Z0 := Z1) (E_o3 := (E4.ext O1.2)) (hs4 := One.u) (hs5 := One.u) (S1 := (S1.ext O1.2)) (S2 := (S2.ext O1.2)) (S3 := (S3.ext O1.2)) (S4 := (S4.ext O1.2)) (S5 := (S5.ext O1.2)) (S6 := (S6.ext O1.2)) (hn1 := n41) (hn2 := n42) (hn3 := n43) (hn6 := n46) (hor := (Or.inl rfl)) (hc69 := h) (hc95 := (by decide)) (hc102 := (by decide)) (hc109 := (by decide))
    obtain ⟨fs, hr, hrun, hended, hW, hsame⟩ := X5.leave (v := some (.int (1 : Int32))) (fun h => by rw [Bd.returns] at h; cases h)
    refine ⟨_, _, pre0 _ ?_, hrun, hended, _, _, rfl, (⟨rfl, N5⟩ : own_Q n0 _ T5.heap _), ⟨_, rfl⟩, hW, hsame.mono (by decide) (by decide)⟩
    refine k1 _ ?_
    show Steps p.tables e below (T1.setTop (mkF m 57 #[.val (.int p1), .val (.int ((p1 &&& (2147483647 : Int32)) % (7 : Int32))), .val (.ref b), .unset, .unset, .unset] [])) _
    refine XS.aloadN X1.here hx rfl (hb hby at_57) rfl rfl ?_
    show Steps p.tables e below (T1.setTop (mkF m 58 #[.val (.int p1), .val (.int ((p1 &&& (2147483647 : Int32)) % (7 : Int32))), .val (.ref b), .unset, .unset, .unset] [(.ref b)])) _
    refine XS.iloadN X1.here hx rfl (hb hby at_58) rfl ?_
    show Steps p.tables e below (T1.setTop (mkF m 59 #[.val (.int p1), .val (.int ((p1 &&& (2147483647 : Int32)) % (7 : Int32))), .val (.ref b), .unset, .unset, .unset] [(.int ((p1 &&& (2147483647 : Int32)) % (7 : Int32))), (.ref b)])) _
    refine X1.aaload hx (j := ((p1 &&& (2147483647 : Int32)) % (7 : Int32))) (v := (.ref w4)) (by rw [e1]; exact Ar.1) (State.isArrayOf_alike hZ.alike Ar.2.1) rfl Ar.2.2 hin hat (g := (mkF m 59 #[.val (.int p1), .val (.int ((p1 &&& (2147483647 : Int32)) % (7 : Int32))), .val (.ref b), .unset, .unset, .unset] [(.int ((p1 &&& (2147483647 : Int32)) % (7 : Int32))), (.ref b)])) rfl rfl (hb hby at_59) _ ?_
    show Steps p.tables e below (T1.setTop (mkF m 60 #[.val (.int p1), .val (.int ((p1 &&& (2147483647 : Int32)) % (7 : Int32))), .val (.ref b), .unset, .unset, .unset] [(.ref w4)])) _
    refine XS.astoreN X1.here hx rfl (hb hby at_60) rfl rfl (l' := #[.val (.int p1), .val (.int ((p1 &&& (2147483647 : Int32)) % (7 : Int32))), .val (.ref b), .val (.ref w4), .unset, .unset]) rfl ?_
    show Steps p.tables e below (T1.setTop (mkF m 61 #[.val (.int p1), .val (.int ((p1 &&& (2147483647 : Int32)) % (7 : Int32))), .val (.ref b), .val (.ref w4), .unset, .unset] [])) _
    refine kk _ ?_
    show Steps p.tables e below (T5.setTop (mkF m 131 #[.val (.int p1), .val (.int ((p1 &&& (2147483647 : Int32)) % (7 : Int32))), .val (.ref b), .val (.ref w4), .val (.int (1 : Int32)), .val (.int (1 : Int32))] [(.int (1 : Int32))])) _
    exact retN X5 hx (t := .boolean) Bd.returns (by simp) (hb hby at_131) hr
  · have hat : cl.slots[(((p1 &&& (2147483647 : Int32)) % (7 : Int32))).toNatClampNeg]? = some (.ref w5) := HH.at hin (by rw [h]; rfl)
    obtain ⟨T5, L5, h5, X5, N5, e5, f5, kk⟩ := sB5 (s0 := .val (.int p1)) (i1 := ((p1 &&& (2147483647 : Int32)) % (7 : Int32))) (s2 := .val (.ref b)) (o3 := w5) (s4 := .unset) (s5 := .unset) (w1 := w1) (w2 := w2) (w4 := w4) (w3 := w3) (w5 := w5) (w6 := w6) (X0 := X1) (hx := hx) (hZ := hZ) (hw := hw) (hby := hby) (hml := hml) (hown := hown) (e0 := e1) (N0 := N1) (Z0 := Z1) (E_o3 := (E5.ext O1.2)) (hs4 := One.u) (hs5 := One.u) (S1 := (S1.ext O1.2)) (S2 := (S2.ext O1.2)) (S3 := (S3.ext O1.2)) (S4 := (S4.ext O1.2)) (S5 := (S5.ext O1.2)) (S6 := (S6.ext O1.2)) (hn1 := n51) (hn2 := n52) (hn3 := n53) (hn6 := n56) (hor := (Or.inr rfl)) (hc69 := (by rw [h]; decide)) (hc74 := h) (hc95 := (by decide)) (hc102 := (by decide)) (hc109 := (by decide))
    obtain ⟨fs, hr, hrun, hended, hW, hsame⟩ := X5.leave (v := some (.int (1 : Int32))) (fun h => by rw [Bd.returns] at h; cases h)
    refine ⟨_, _, pre0 _ ?_, hrun, hended, _, _, rfl, (⟨rfl, N5⟩ : own_Q n0 _ T5.heap _), ⟨_, rfl⟩, hW, hsame.mono (by decide) (by decide)⟩
    refine k1 _ ?_
    show Steps p.tables e below (T1.setTop (mkF m 57 #[.val (.int p1), .val (.int ((p1 &&& (2147483647 : Int32)) % (7 : Int32))), .val (.ref b), .unset, .unset, .unset] [])) _
    refine XS.aloadN X1.here hx rfl (hb hby at_57) rfl rfl ?_
    show Steps p.tables e below (T1.setTop (mkF m 58 #[.val (.int p1), .val (.int ((p1 &&& (2147483647 : Int32)) % (7 : Int32))), .val (.ref b), .unset, .unset, .unset] [(.ref b)])) _
    refine XS.iloadN X1.here hx rfl (hb hby at_58) rfl ?_
    show Steps p.tables e below (T1.setTop (mkF m 59 #[.val (.int p1), .val (.int ((p1 &&& (2147483647 : Int32)) % (7 : Int32))), .val (.ref b), .unset, .unset, .unset] [(.int ((p1 &&& (2147483647 : Int32)) % (7 : Int32))), (.ref b)])) _
    refine X1.aaload hx (j := ((p1 &&& (2147483647 : Int32)) % (7 : Int32))) (v := (.ref w5)) (by rw [e1]; exact Ar.1) (State.isArrayOf_alike hZ.alike Ar.2.1) rfl Ar.2.2 hin hat (g := (mkF m 59 #[.val (.int p1), .val (.int ((p1 &&& (2147483647 : Int32)) % (7 : Int32))), .val (.ref b), .unset, .unset, .unset] [(.int ((p1 &&& (2147483647 : Int32)) % (7 : Int32))), (.ref b)])) rfl rfl (hb hby at_59) _ ?_
    show Steps p.tables e below (T1.setTop (mkF m 60 #[.val (.int p1), .val (.int ((p1 &&& (2147483647 : Int32)) % (7 : Int32))), .val (.ref b), .unset, .unset, .unset] [(.ref w5)])) _
    refine XS.astoreN X1.here hx rfl (hb hby at_60) rfl rfl (l' := #[.val (.int p1), .val (.int ((p1 &&& (2147483647 : Int32)) % (7 : Int32))), .val (.ref b), .val (.ref w5), .unset, .unset]) rfl ?_
    show Steps p.tables e below (T1.setTop (mkF m 61 #[.val (.int p1), .val (.int ((p1 &&& (2147483647 : Int32)) % (7 : Int32))), .val (.ref b), .val (.ref w5), .unset, .unset] [])) _
    refine kk _ ?_
    show Steps p.tables e below (T5.setTop (mkF m 131 #[.val (.int p1), .val (.int ((p1 &&& (2147483647 : Int32)) % (7 : Int32))), .val (.ref b), .val (.ref w5), .val (.int (1 : Int32)), .val (.int (1 : Int32))] [(.int (1 : Int32))])) _
    exact retN X5 hx (t := .boolean) Bd.returns (by simp) (hb hby at_131) hr
  · have hat : cl.slots[(((p1 &&& (2147483647 : Int32)) % (7 : Int32))).toNatClampNeg]? = some (.ref w6) := HH.at hin (by rw [h]; rfl)
    obtain ⟨T5, L5, h5, X5, N5, e5, f5, kk⟩ := sBO (s0 := .val (.int p1)) (i1 := ((p1 &&& (2147483647 : Int32)) % (7 : Int32))) (s2 := .val (.ref b)) (o3 := w6) (s4 := .unset) (s5 := .unset) (w1 := w1) (w2 := w2) (w4 := w4) (w3 := w3) (w5 := w5) (w6 := w6) (X0 := X1) (hx := hx) (hZ := hZ) (hw := hw) (hby := hby) (hml := hml) (hown := hown) (e0 := e1) (N0 := N1) (Z0 := Z1) (E_o3 := (E6.ext O1.2)) (hs4 := One.u) (hs5 := One.u) (S1 := (S1.ext O1.2)) (S2 := (S2.ext O1.2)) (S3 := (S3.ext O1.2)) (S4 := (S4.ext O1.2)) (S5 := (S5.ext O1.2)) (S6 := (S6.ext O1.2)) (hn4 := n64) (hn5 := n65) (hc69 := (by rw [h]; decide)) (hc74 := (by rw [h]; decide))
    obtain ⟨fs, hr, hrun, hended, hW, hsame⟩ := X5.leave (v := some (.int (1 : Int32))) (fun h => by rw [Bd.returns] at h; cases h)
    refine ⟨_, _, pre0 _ ?_, hrun, hended, _, _, rfl, (⟨rfl, N5⟩ : own_Q n0 _ T5.heap _), ⟨_, rfl⟩, hW, hsame.mono (by decide) (by decide)⟩
    refine k1 _ ?_
    show Steps p.tables e below (T1.setTop (mkF m 57 #[.val (.int p1), .val (.int ((p1 &&& (2147483647 : Int32)) % (7 : Int32))), .val (.ref b), .unset, .unset, .unset] [])) _
    refine XS.aloadN X1.here hx rfl (hb hby at_57) rfl rfl ?_
    show Steps p.tables e below (T1.setTop (mkF m 58 #[.val (.int p1), .val (.int ((p1 &&& (2147483647 : Int32)) % (7 : Int32))), .val (.ref b), .unset, .unset, .unset] [(.ref b)])) _
    refine XS.iloadN X1.here hx rfl (hb hby at_58) rfl ?_
    show Steps p.tables e below (T1.setTop (mkF m 59 #[.val (.int p1), .val (.int ((p1 &&& (2147483647 : Int32)) % (7 : Int32))), .val (.ref b), .unset, .unset, .unset] [(.int ((p1 &&& (2147483647 : Int32)) % (7 : Int32))), (.ref b)])) _
    refine X1.aaload hx (j := ((p1 &&& (2147483647 : Int32)) % (7 : Int32))) (v := (.ref w6)) (by rw [e1]; exact Ar.1) (State.isArrayOf_alike hZ.alike Ar.2.1) rfl Ar.2.2 hin hat (g := (mkF m 59 #[.val (.int p1), .val (.int ((p1 &&& (2147483647 : Int32)) % (7 : Int32))), .val (.ref b), .unset, .unset, .unset] [(.int ((p1 &&& (2147483647 : Int32)) % (7 : Int32))), (.ref b)])) rfl rfl (hb hby at_59) _ ?_
    show Steps p.tables e below (T1.setTop (mkF m 60 #[.val (.int p1), .val (.int ((p1 &&& (2147483647 : Int32)) % (7 : Int32))), .val (.ref b), .unset, .unset, .unset] [(.ref w6)])) _
    refine XS.astoreN X1.here hx rfl (hb hby at_60) rfl rfl (l' := #[.val (.int p1), .val (.int ((p1 &&& (2147483647 : Int32)) % (7 : Int32))), .val (.ref b), .val (.ref w6), .unset, .unset]) rfl ?_
    show Steps p.tables e below (T1.setTop (mkF m 61 #[.val (.int p1), .val (.int ((p1 &&& (2147483647 : Int32)) % (7 : Int32))), .val (.ref b), .val (.ref w6), .unset, .unset] [])) _
    refine kk _ ?_
    show Steps p.tables e below (T5.setTop (mkF m 133 #[.val (.int p1), .val (.int ((p1 &&& (2147483647 : Int32)) % (7 : Int32))), .val (.ref b), .val (.ref w6), .val (.int (0 : Int32)), .val (.int (0 : Int32))] [(.int (1 : Int32))])) _
    exact retN X5 hx (t := .boolean) Bd.returns (by simp) (hb hby at_133) hr
set_option maxRecDepth 65536 in
set_option maxHeartbeats 40000000 in
theorem comes_1 {Post : Tables → Env → Array Value → State → Outcome → State → Prop} (hpost : ∀ tb e args s v u, (limb_1_1.after args s (.returned v) u = true ∧ limb_1_2.after args s (.returned v) u = true ∧ True) → FrameEnd s (.returned v) u (Jvm.fieldLocs frame_1_writes args s ++ Jvm.arrayLocs frame_1_arrays args s ++ Jvm.staticLocs frame_1_statics s) 16 128 → Post tb e args s (.returned v) u) :
    ArmFor flags0 classFile x code maxLocals ret World_1 tables_1 room_1 Calls_1 rest_1 Pre_1 Post := by
  intro l hfl _ _ p e ha hc hk s m args below hf hA hF happ hP
  obtain ⟨hcalls, hrest, hpre⟩ := hP
  obtain ⟨-, -, -, hnamed, -, -, -, hat⟩ := (Spec.applies_iff hf).mp happ
  obtain ⟨hg, hn⟩ := and_e (Cond.before_iff.mp (show (Jvm.Cond.and given_1 narrow_1).before args s = true from hpre))
  obtain ⟨g26, g27⟩ := and_e hg
  obtain ⟨w0, rfl⟩ : ∃ w0 : Value, args = #[w0] := by
    have hs : args.size = 1 := by simpa [Cond.value, given_1] using g26
    obtain ⟨L⟩ := args
    match L, hs with
    | [w0], _ => exact ⟨w0, rfl⟩
  have hw := fun d (hd : d ∈ tables_1) => atoms_spec (ws := Jvm.Cond.code x code maxLocals ret :: tables_1) hat d (List.mem_cons_of_mem _ hd)
  have hfit : Fit s := fun {y c} hc i hi => by
    obtain ⟨ha, rfl⟩ := Array.getElem?_eq_some_iff.mp hc
    have q := List.all_eq_true.mp ((Array.all_eq_true_iff_forall_mem.mp hF) _ (Array.getElem_mem ha)) i (List.mem_range.mpr hi)
    simpa [Array.getElem?_eq_getElem hi] using q
  obtain ⟨i0, ei0⟩ := is_v g27
  obtain rfl : w0 = (.int i0) := Option.some.inj ei0
  obtain ⟨n1, hn⟩ := and_e hn
  obtain ⟨n2, hn⟩ := and_e hn
  obtain ⟨n3, hn⟩ := and_e hn
  obtain ⟨n4, hn⟩ := and_e hn
  obtain ⟨n5, hn⟩ := and_e hn
  obtain ⟨n6, hn⟩ := and_e hn
  obtain ⟨n7, hn⟩ := and_e hn
  obtain ⟨n8, hn⟩ := and_e hn
  obtain ⟨n9, hn⟩ := and_e hn
  obtain ⟨n10, hn⟩ := and_e hn
  obtain ⟨n11, hn⟩ := and_e hn
  obtain ⟨n12, hn⟩ := and_e hn
  obtain ⟨n13, n14⟩ := and_e hn
  obtain ⟨w100, v0⟩ := exa_v n1
  have S0 := Sta.start v0 (Or.inr ⟨(hw _ (List.mem_of_getElem? (i := 4) rfl)), (hw _ (List.mem_of_getElem? (i := 5) rfl))⟩)
  obtain ⟨w101, v1⟩ := exa_v n2
  have S1 := Sta.start v1 (Or.inr ⟨(hw _ (List.mem_of_getElem? (i := 4) rfl)), (hw _ (List.mem_of_getElem? (i := 8) rfl))⟩)
  obtain ⟨w102, v2⟩ := exa_v n3
  have S2 := Sta.start v2 (Or.inr ⟨(hw _ (List.mem_of_getElem? (i := 4) rfl)), (hw _ (List.mem_of_getElem? (i := 10) rfl))⟩)
  obtain ⟨w103, v3⟩ := exa_v n4
  have S3 := Sta.start v3 (Or.inr ⟨(hw _ (List.mem_of_getElem? (i := 4) rfl)), (hw _ (List.mem_of_getElem? (i := 12) rfl))⟩)
  obtain ⟨w104, v4⟩ := exa_v n5
  have S4 := Sta.start v4 (Or.inr ⟨(hw _ (List.mem_of_getElem? (i := 4) rfl)), (hw _ (List.mem_of_getElem? (i := 14) rfl))⟩)
  obtain ⟨w105, v5⟩ := exa_v n6
  have S5 := Sta.start v5 (Or.inr ⟨(hw _ (List.mem_of_getElem? (i := 4) rfl)), (hw _ (List.mem_of_getElem? (i := 16) rfl))⟩)
  obtain ⟨w106, v6⟩ := exa_v n7
  have S6 := Sta.start v6 (Or.inr ⟨(hw _ (List.mem_of_getElem? (i := 4) rfl)), (hw _ (List.mem_of_getElem? (i := 18) rfl))⟩)
  have hall : MetFree l x (head1 (Jvm.Cond.code x code maxLocals ret :: tables_1) room_1) (fun a U => a = #[(.int i0)] ∧ s.Warmed39 U.vm ∧ U.heap = s.heap) (fun _ _ _ _ _ => True) (fun _ U o U' => ∃ v L, o = .returned v ∧ own_Q s.heap.size v U'.heap L ∧ FrameEnd U o U' L room_1.cells room_1.slots) := by
    exact rm0 l s _ hw tables_1 i0 w100 w101 w102 w103 w104 w105 w106 s.heap s.heap.size (Nat.le_refl _) (Old.start s) S0 (Exa.start v0 n1) S1 (Exa.start v1 n2) S2 (Exa.start v2 n3) S3 (Exa.start v3 n4) S4 (Exa.start v4 n5) S5 (Exa.start v5 n6) S6 (Exa.start v6 n7) (own_ne v0 v4 n8 n9 (by decide)) (own_ne v0 v5 n8 n10 (by decide)) (own_ne v1 v4 n13 n9 (by decide)) (own_ne v1 v5 n13 n10 (by decide)) (own_ne v2 v4 n14 n9 (by decide)) (own_ne v2 v5 n14 n10 (by decide)) (own_ne v3 v4 n11 n9 (by decide)) (own_ne v3 v5 n11 n10 (by decide)) (own_ne v4 v1 n9 n13 (by decide)) (own_ne v4 v2 n9 n14 (by decide)) (own_ne v4 v3 n9 n11 (by decide)) (own_ne v4 v6 n9 n12 (by decide)) (own_ne v5 v1 n10 n13 (by decide)) (own_ne v5 v2 n10 n14 (by decide)) (own_ne v5 v3 n10 n11 (by decide)) (own_ne v5 v6 n10 n12 (by decide)) (own_ne v6 v4 n12 n9 (by decide)) (own_ne v6 v5 n12 n10 (by decide))
  obtain ⟨n, o, h1, h2, h3, _, L, rfl, ⟨rfl, N⟩, hq⟩ := hall p e ha hc hk s m _ below hf ((Spec.applies_iff_loose hf).mp happ).1 ⟨rfl, State.Warmed39.refl s, rfl⟩ trivial
  refine ⟨n, _, h1, h2, h3, hpost _ _ _ _ _ _ ⟨Cond.after_iff.mpr rfl, Cond.after_iff.mpr (eq_i res_at (Term.int_eval (1)) rfl), trivial⟩ ⟨hq.1, hq.2.1, (hq.2.2.sift fun y hy => Or.inr (N y hy)).mono (by decide) (by decide)⟩⟩
theorem main_1_1 : Claimed_1_1 := comes_1 fun _ _ _ _ _ _ h hF => ⟨h.1, hF⟩
theorem main_1_2 : Claimed_1_2 := comes_1 fun _ _ _ _ _ _ h hF => ⟨h.2.1, hF⟩

end Jvm.Pilot.@@N@@
namespace Jvm.Pilot.@@N@@
open Jvm Jvm.ClassFile Sem Op Lib Jvm.Free Jvm.Stand Jvm.Pilot.@@N@@.Jvm.D
/-! MADE BY PROGRAM (witnessworld.py) out of the Statement's table words and the real class files: 13 classes; the members and pool entries that the words name. The judged class is class 1, her method 1. -/
namespace start1
open Jvm.ClassFile
def u (s : String) : CpInfo := .utf8 (stringToUtf16 s)
/-- a pool by its gaps: so many unusable entries, then the entry; so many at the end -/
def gap : Nat → List CpInfo → List CpInfo
  | 0, r => r
  | n + 1, r => .unusable :: gap n r
def poolList (es : List (Nat × CpInfo)) (last : Nat) : List CpInfo := es.foldr (fun e r => gap e.1 (e.2 :: r)) (gap last [])
def pool (es : List (Nat × CpInfo)) (last : Nat) : Array CpInfo := ⟨poolList es last⟩
def fileOf (pool : Array CpInfo) (this : Nat) (attrs : Array Attribute := #[]) (ms : Array MethodInfo := #[]) (fl : Nat := 33) (sup : Nat := 0) (ifs : Array Nat := #[]) (fds : Array FieldInfo := #[]) : ClassFile where
  minorVersion := 0
  majorVersion := 65
  constantPool := pool
  accessFlags := fl
  thisClass := this
  superClass := sup
  interfaces := ifs
  fields := fds
  methods := ms
  attributes := attrs
def plain (name : String) (sup : Option ClassId) : Class where
  name := name
  kind := .ordinary
  loader := none
  accessFlags := 33
  super := sup
  interfaces := #[]
  cf := none
  fields := #[]
  methods := #[]
  instanceTypes := #[]
  staticTypes := #[]
  resolved := #[]
  callSites := []
  init := .initialized
  statics := none
  mirror := none

def pool0 : Array CpInfo := pool [(5, u "<init>"), (0, u "()V"), (1, .class_ 10), (1, u "java/lang/Object")] 113

def k0m0 : Method := { name := "<init>", desc := "()V", sig := { parameters := [], returnType := none }, accessFlags := 1, code := none }
/-- java/lang/Object -/
def k0 : Class := { plain "java/lang/Object" none with
  accessFlags := 33
  interfaces := #[]
  cf := some (fileOf pool0 8 #[] #[{ accessFlags := 1, nameIndex := 5, descriptorIndex := 6, attributes := #[] }] 33 0 #[] #[])
  fields := #[]
  methods := #[k0m0]
  instanceTypes := #[]
  staticTypes := #[]
  resolved := Array.replicate 124 none
  statics := none }

def pool1 : Array CpInfo := pool [(2, .class_ 4), (1, u "java/lang/Object"), (0, u "<init>"), (0, u "()V"), (0, .integer 2147483647), (0, .class_ 9), (0, u "com/example/lock2/lock2/mapping/VersionKind"), (0, .fieldref 8 11), (0, .nameAndType 12 13), (0, u "NONE"), (0, u "Lcom/example/lock2/lock2/mapping/VersionKind;"), (0, .fieldref 8 15), (0, .nameAndType 16 13), (0, u "ALL_COLUMNS"), (0, .fieldref 8 18), (0, .nameAndType 19 13), (0, u "CHANGED_COLUMNS"), (0, .fieldref 8 21), (0, .nameAndType 22 13), (0, u "COUNTED"), (0, .fieldref 8 24), (0, .nameAndType 25 13), (0, u "DATABASE_CLOCK"), (0, .fieldref 8 27), (0, .nameAndType 28 13), (0, u "JVM_CLOCK"), (0, .fieldref 8 30), (0, .nameAndType 31 13), (0, u "GENERATED"), (0, .methodref 8 33), (0, .nameAndType 34 35), (0, u "isTimestampFromClock"), (0, u "()Z"), (0, .methodref 8 37), (0, .nameAndType 38 35), (0, u "hasVersionColumn"), (0, .methodref 8 40), (0, .nameAndType 41 35), (0, u "isWrittenByLock2"), (0, .methodref 8 43), (0, .nameAndType 44 35), (0, u "isWrittenByDatabase"), (0, .methodref 8 46), (0, .nameAndType 47 35), (0, u "comparesColumns"), (0, .class_ 49), (0, u "com/example/lock2/lock2/mapping/VersionKindIsTimestampFromClockPinLaw"), (2, u "law"), (0, u "(I)Z")] 5

def k1m0 : Method := { name := "<init>", desc := "()V", sig := { parameters := [], returnType := none }, accessFlags := 1, code := none }
def k1c1 : Code := { maxStack := 4, maxLocals := 6, code := code, exceptionTable := #[], attributes := #[] }
def k1m1 : Method := { name := "law", desc := "(I)Z", sig := { parameters := [.int], returnType := some .boolean }, accessFlags := 9, code := some k1c1 }
/-- com/example/lock2/lock2/mapping/VersionKindIsTimestampFromClockPinLaw -/
def k1 : Class := { plain "com/example/lock2/lock2/mapping/VersionKindIsTimestampFromClockPinLaw" (some 0) with
  accessFlags := 49
  interfaces := #[]
  cf := some (fileOf pool1 48 #[] #[{ accessFlags := 1, nameIndex := 5, descriptorIndex := 6, attributes := #[] }, { accessFlags := 9, nameIndex := 52, descriptorIndex := 53, attributes := #[] }] 49 2 #[] #[])
  fields := #[]
  methods := #[k1m0, k1m1]
  instanceTypes := #[]
  staticTypes := #[]
  resolved := Array.replicate 59 none
  statics := none }

def pool2 : Array CpInfo := pool [(1, .class_ 2), (0, u "java/lang/constant/Constable"), (0, .class_ 4), (0, u "java/lang/Object")] 6

/-- java/lang/constant/Constable -/
def k2 : Class := { plain "java/lang/constant/Constable" (some 0) with
  accessFlags := 1537
  interfaces := #[]
  cf := some (fileOf pool2 1 #[] #[] 1537 3 #[] #[])
  fields := #[]
  methods := #[]
  instanceTypes := #[]
  staticTypes := #[]
  resolved := Array.replicate 11 none
  statics := none }

def pool3 : Array CpInfo := pool [(1, .class_ 2), (0, u "java/lang/Comparable"), (0, .class_ 4), (0, u "java/lang/Object")] 7

/-- java/lang/Comparable -/
def k3 : Class := { plain "java/lang/Comparable" (some 0) with
  accessFlags := 1537
  interfaces := #[]
  cf := some (fileOf pool3 1 #[] #[] 1537 3 #[] #[])
  fields := #[]
  methods := #[]
  instanceTypes := #[]
  staticTypes := #[]
  resolved := Array.replicate 12 none
  statics := none }

def pool4 : Array CpInfo := pool [(1, .class_ 2), (0, u "java/io/Serializable"), (0, .class_ 4), (0, u "java/lang/Object")] 2

/-- java/io/Serializable -/
def k4 : Class := { plain "java/io/Serializable" (some 0) with
  accessFlags := 1537
  interfaces := #[]
  cf := some (fileOf pool4 1 #[] #[] 1537 3 #[] #[])
  fields := #[]
  methods := #[]
  instanceTypes := #[]
  staticTypes := #[]
  resolved := Array.replicate 7 none
  statics := none }

def pool5 : Array CpInfo := pool [(2, .class_ 4), (1, u "java/lang/Enum"), (0, u "name"), (0, u "Ljava/lang/String;"), (2, u "ordinal"), (0, u "I"), (1, .class_ 14), (1, u "java/lang/Object"), (4, u "hash"), (86, .class_ 108), (1, u "java/lang/Enum$EnumDesc"), (2, .class_ 112), (0, u "java/lang/constant/Constable"), (0, .class_ 114), (0, u "java/lang/Comparable"), (0, .class_ 116), (0, u "java/io/Serializable")] 87

/-- java/lang/Enum -/
def k5 : Class := { plain "java/lang/Enum" (some 0) with
  accessFlags := 1057
  interfaces := #[2, 3, 4]
  cf := some (fileOf pool5 2 #[.nestMembers #[106]] #[] 1057 12 #[111, 113, 115] #[{ accessFlags := 18, nameIndex := 5, descriptorIndex := 6, attributes := #[] }, { accessFlags := 18, nameIndex := 9, descriptorIndex := 10, attributes := #[] }, { accessFlags := 2, nameIndex := 19, descriptorIndex := 10, attributes := #[] }])
  fields := #[{ name := "name", type := (.object "java/lang/String"), accessFlags := 18, slot := 0, constantValue := 0 }, { name := "ordinal", type := .int, accessFlags := 18, slot := 1, constantValue := 0 }, { name := "hash", type := .int, accessFlags := 2, slot := 2, constantValue := 0 }]
  methods := #[]
  instanceTypes := #[(.object "java/lang/String"), .int, .int]
  staticTypes := #[]
  resolved := Array.replicate 204 none
  statics := none }

def pool6 : Array CpInfo := pool [(1, .class_ 2), (0, u "com/example/lock2/lock2/mapping/VersionKind"), (2, u "NONE"), (0, u "Lcom/example/lock2/lock2/mapping/VersionKind;"), (0, .fieldref 1 8), (0, .nameAndType 9 6), (0, u "ALL_COLUMNS"), (0, .fieldref 1 11), (0, .nameAndType 12 6), (0, u "CHANGED_COLUMNS"), (0, .fieldref 1 14), (0, .nameAndType 15 6), (0, u "COUNTED"), (0, .fieldref 1 17), (0, .nameAndType 18 6), (0, u "DATABASE_CLOCK"), (0, .fieldref 1 20), (0, .nameAndType 21 6), (0, u "JVM_CLOCK"), (0, .fieldref 1 23), (0, .nameAndType 24 6), (0, u "GENERATED"), (2, u "$VALUES"), (0, u "[Lcom/example/lock2/lock2/mapping/VersionKind;"), (6, .class_ 37), (1, u "java/lang/Enum"), (6, .methodref 1 45), (0, .nameAndType 46 47), (0, u "isTimestampFromClock"), (0, u "()Z"), (19, u "hasVersionColumn"), (1, u "comparesColumns"), (0, u "isWrittenByLock2"), (0, u "isWrittenByDatabase")] 4

def k6c0 : Code := { maxStack := 2, maxLocals := 1, code := prog_29_method_4_code, exceptionTable := #[], attributes := #[] }
def k6m0 : Method := { name := "hasVersionColumn", desc := "()Z", sig := { parameters := [], returnType := some .boolean }, accessFlags := 1, code := some k6c0 }
def k6c1 : Code := { maxStack := 2, maxLocals := 1, code := prog_29_method_5_code, exceptionTable := #[], attributes := #[] }
def k6m1 : Method := { name := "comparesColumns", desc := "()Z", sig := { parameters := [], returnType := some .boolean }, accessFlags := 1, code := some k6c1 }
def k6c2 : Code := { maxStack := 2, maxLocals := 1, code := prog_29_method_6_code, exceptionTable := #[], attributes := #[] }
def k6m2 : Method := { name := "isWrittenByLock2", desc := "()Z", sig := { parameters := [], returnType := some .boolean }, accessFlags := 1, code := some k6c2 }
def k6c3 : Code := { maxStack := 2, maxLocals := 1, code := prog_29_method_7_code, exceptionTable := #[], attributes := #[] }
def k6m3 : Method := { name := "isWrittenByDatabase", desc := "()Z", sig := { parameters := [], returnType := some .boolean }, accessFlags := 1, code := some k6c3 }
def k6c4 : Code := { maxStack := 2, maxLocals := 1, code := prog_29_method_8_code, exceptionTable := #[], attributes := #[] }
def k6m4 : Method := { name := "isTimestampFromClock", desc := "()Z", sig := { parameters := [], returnType := some .boolean }, accessFlags := 1, code := some k6c4 }
/-- com/example/lock2/lock2/mapping/VersionKind -/
def k6 : Class := { plain "com/example/lock2/lock2/mapping/VersionKind" (some 5) with
  accessFlags := 16433
  interfaces := #[]
  cf := some (fileOf pool6 1 #[] #[{ accessFlags := 1, nameIndex := 67, descriptorIndex := 47, attributes := #[] }, { accessFlags := 1, nameIndex := 69, descriptorIndex := 47, attributes := #[] }, { accessFlags := 1, nameIndex := 70, descriptorIndex := 47, attributes := #[] }, { accessFlags := 1, nameIndex := 71, descriptorIndex := 47, attributes := #[] }, { accessFlags := 1, nameIndex := 46, descriptorIndex := 47, attributes := #[] }] 16433 35 #[] #[{ accessFlags := 16409, nameIndex := 5, descriptorIndex := 6, attributes := #[] }, { accessFlags := 16409, nameIndex := 9, descriptorIndex := 6, attributes := #[] }, { accessFlags := 16409, nameIndex := 12, descriptorIndex := 6, attributes := #[] }, { accessFlags := 16409, nameIndex := 15, descriptorIndex := 6, attributes := #[] }, { accessFlags := 16409, nameIndex := 18, descriptorIndex := 6, attributes := #[] }, { accessFlags := 16409, nameIndex := 21, descriptorIndex := 6, attributes := #[] }, { accessFlags := 16409, nameIndex := 24, descriptorIndex := 6, attributes := #[] }, { accessFlags := 4122, nameIndex := 27, descriptorIndex := 28, attributes := #[] }])
  fields := #[{ name := "NONE", type := (.object "com/example/lock2/lock2/mapping/VersionKind"), accessFlags := 16409, slot := 0, constantValue := 0 }, { name := "ALL_COLUMNS", type := (.object "com/example/lock2/lock2/mapping/VersionKind"), accessFlags := 16409, slot := 1, constantValue := 0 }, { name := "CHANGED_COLUMNS", type := (.object "com/example/lock2/lock2/mapping/VersionKind"), accessFlags := 16409, slot := 2, constantValue := 0 }, { name := "COUNTED", type := (.object "com/example/lock2/lock2/mapping/VersionKind"), accessFlags := 16409, slot := 3, constantValue := 0 }, { name := "DATABASE_CLOCK", type := (.object "com/example/lock2/lock2/mapping/VersionKind"), accessFlags := 16409, slot := 4, constantValue := 0 }, { name := "JVM_CLOCK", type := (.object "com/example/lock2/lock2/mapping/VersionKind"), accessFlags := 16409, slot := 5, constantValue := 0 }, { name := "GENERATED", type := (.object "com/example/lock2/lock2/mapping/VersionKind"), accessFlags := 16409, slot := 6, constantValue := 0 }, { name := "$VALUES", type := (.array (.object "com/example/lock2/lock2/mapping/VersionKind")), accessFlags := 4122, slot := 7, constantValue := 0 }]
  methods := #[k6m0, k6m1, k6m2, k6m3, k6m4]
  instanceTypes := #[(.object "java/lang/String"), .int, .int]
  staticTypes := #[(.object "com/example/lock2/lock2/mapping/VersionKind"), (.object "com/example/lock2/lock2/mapping/VersionKind"), (.object "com/example/lock2/lock2/mapping/VersionKind"), (.object "com/example/lock2/lock2/mapping/VersionKind"), (.object "com/example/lock2/lock2/mapping/VersionKind"), (.object "com/example/lock2/lock2/mapping/VersionKind"), (.object "com/example/lock2/lock2/mapping/VersionKind"), (.array (.object "com/example/lock2/lock2/mapping/VersionKind"))]
  resolved := Array.replicate 76 none
  statics := some 0 }

def pool7 : Array CpInfo := pool [(1, u "java/lang/Cloneable"), (0, .class_ 1), (0, u "java/lang/Object"), (0, .class_ 3)] 3

/-- java/lang/Cloneable -/
def k7 : Class := { plain "java/lang/Cloneable" (some 0) with
  accessFlags := 1537
  interfaces := #[]
  cf := some (fileOf pool7 2 #[] #[] 1537 4 #[] #[])
  fields := #[]
  methods := #[]
  instanceTypes := #[]
  staticTypes := #[]
  resolved := Array.replicate 8 none
  statics := none }

/-- the primitive byte -/
def k8 : Class := { plain "byte" none with kind := .primitive 'B', accessFlags := 0x411 }
/-- [B -/
def k9 : Class := { plain "[B" (some 0) with kind := .array 8 .byte, interfaces := #[7, 4], accessFlags := 1041 }

/-- the primitive int -/
def k10 : Class := { plain "int" none with kind := .primitive 'I', accessFlags := 0x411 }
/-- [I -/
def k11 : Class := { plain "[I" (some 0) with kind := .array 10 .int, interfaces := #[7, 4], accessFlags := 1041 }

/-- [Lcom/example/lock2/lock2/mapping/VersionKind; -/
def k12 : Class := { plain "[Lcom/example/lock2/lock2/mapping/VersionKind;" (some 0) with kind := .array 6 (.object "com/example/lock2/lock2/mapping/VersionKind"), interfaces := #[7, 4], accessFlags := 1041 }

def heap : Heap := #[{ cls := 6, slots := #[.ref 1, .ref 2, .ref 3, .ref 4, .ref 5, .ref 6, .ref 7, .null], vm := .statics 6 },
  { cls := 6, slots := #[.null, .int 0, .int 0], vm := .none },
  { cls := 6, slots := #[.null, .int 1, .int 0], vm := .none },
  { cls := 6, slots := #[.null, .int 2, .int 0], vm := .none },
  { cls := 6, slots := #[.null, .int 3, .int 0], vm := .none },
  { cls := 6, slots := #[.null, .int 4, .int 0], vm := .none },
  { cls := 6, slots := #[.null, .int 5, .int 0], vm := .none },
  { cls := 6, slots := #[.null, .int 6, .int 0], vm := .none }]
def classes : Array Class := #[k0, k1, k2, k3, k4, k5, k6, k7, k8, k9, k10, k11, k12]
def interned : List (Array UInt16 × Addr) := []
def slotsUsed : Nat := 29
def theMethod : MethodId := ⟨1, 1⟩
def args0 : Array Value := #[.int 5]
def aboutOver (below : List Frame) : State where
  vm := { classes := classes, interned := interned.toArray }
  heap := heap
  slotsUsed := slotsUsed
  threads := #[{ frames := .invoking theMethod args0 :: below }]
def below0 : List Frame := [.native { method := ⟨0, 0⟩, args := #[] }]
def about1 : State := aboutOver below0
def p0 : Program := .bare "" "" ""
def e0 : Env := launch0.env 0 0 0
theorem w_frames : about1.frames = Frame.invoking theMethod args0 :: below0 := rfl
set_option maxRecDepth 65536 in
theorem w_args : argsFit about1.vm theMethod args0 = true := by decide +kernel
set_option maxRecDepth 65536 in
theorem w_heap : heapFits about1 = true := by decide +kernel
set_option maxRecDepth 65536 in
theorem w_runnable : about1.curStatus? = some .runnable := by decide +kernel
set_option maxRecDepth 65536 in
theorem w_alone : about1.alone = true := by decide +kernel
set_option maxRecDepth 65536 in
theorem w_named : about1.methodNamed? x = some theMethod := by decide +kernel
set_option maxRecDepth 65536 in
theorem w_hears : about1.hears theMethod below0 = true := by decide +kernel
set_option maxRecDepth 65536 in
theorem w_ripe : about1.ripe theMethod args0 below0 = true := by decide +kernel
theorem w_running : about1.status = .running := rfl
set_option maxRecDepth 65536 in
theorem w_room : about1.hasRoom e0.platform room_1 = true :=
  launch0.hasRoom_least _ room_1 (by decide +kernel) (by decide +kernel) (by decide +kernel) (by decide +kernel) (by decide +kernel) (by decide +kernel)
theorem allAtoms_all (ts : List Jvm.Cond) (a : Array Jvm.Value) (st : Jvm.State) : (allAtoms ts).before a st = ts.all (fun c => c.before a st) := by
  induction ts with
  | nil => rfl
  | cons c t ih =>
    show (Jvm.Cond.and c (allAtoms t)).before a st = _
    rw [Jvm.Cond.before_and, ih, List.all_cons]
def words1 : List Jvm.Cond := Jvm.Cond.code x code maxLocals ret :: tables_1
/-- a 'code' word, met by the world's own term for the bytes: nothing is compared byte by byte -/
theorem code_word {y : MethodName} {bytes : ByteArray} {mx : Nat} {rt : Option FieldType} {a : Array Value} {s : State} {m : MethodId} {meth : Method} {c : Code} (h1 : s.methodNamed? y = some m) (h2 : s.vm.method? m = some meth) (h3 : meth.code = some c) (h4 : c.code = bytes)
    (h5 : (c.maxLocals == mx && c.exceptionTable.isEmpty && decide (c.maxStack ≤ mostOperands) && decide (meth.sig.returnType = rt) && !meth.locks && decide (parseMethodDescriptor y.desc = some meth.sig)) = true) : (Jvm.Cond.code y bytes mx rt).before a s = true := by
  simp only [Bool.and_eq_true, beq_iff_eq, Bool.not_eq_true', decide_eq_true_eq] at h5
  obtain ⟨⟨⟨⟨⟨g1, g2⟩, g3⟩, g4⟩, g5⟩, g6⟩ := h5
  simp [Cond.before, Cond.holds, Cond.value, h1, h2, h3, h4, g1, g2, g3, g4, g5, g6]
def isCode : Jvm.Cond → Bool
  | .code _ _ _ _ => true
  | _ => false
theorem all_split {L : List Jvm.Cond} {P : Jvm.Cond → Bool} (h1 : L.all (fun c => isCode c || P c) = true) (h2 : ∀ c ∈ L.filter isCode, P c = true) : L.all P = true := by
  refine List.all_eq_true.mpr fun c hc => ?_
  have h := List.all_eq_true.mp h1 c hc
  rcases Bool.eq_false_or_eq_true (isCode c) with hi | hi
  · exact h2 c (List.mem_filter.mpr ⟨hc, hi⟩)
  · simpa [hi] using h
set_option maxRecDepth 65536 in
theorem w_c0 : (Jvm.Cond.code x code maxLocals ret).before args0 about1 = true := code_word (m := ⟨1, 1⟩) (meth := k1m1) (c := k1c1) (by decide +kernel) rfl rfl rfl (by decide +kernel)
set_option maxRecDepth 65536 in
theorem w_c1 : (Jvm.Cond.code ({ cls := "com/example/lock2/lock2/mapping/VersionKind", name := "isTimestampFromClock", desc := "()Z" } : Jvm.MethodName) prog_29_method_8_code (1 : Nat) (Option.some Jvm.ClassFile.FieldType.boolean)).before args0 about1 = true := code_word (m := ⟨6, 4⟩) (meth := k6m4) (c := k6c4) (by decide +kernel) rfl rfl rfl (by decide +kernel)
set_option maxRecDepth 65536 in
theorem w_c2 : (Jvm.Cond.code ({ cls := "com/example/lock2/lock2/mapping/VersionKind", name := "hasVersionColumn", desc := "()Z" } : Jvm.MethodName) prog_29_method_4_code (1 : Nat) (Option.some Jvm.ClassFile.FieldType.boolean)).before args0 about1 = true := code_word (m := ⟨6, 0⟩) (meth := k6m0) (c := k6c0) (by decide +kernel) rfl rfl rfl (by decide +kernel)
set_option maxRecDepth 65536 in
theorem w_c3 : (Jvm.Cond.code ({ cls := "com/example/lock2/lock2/mapping/VersionKind", name := "isWrittenByLock2", desc := "()Z" } : Jvm.MethodName) prog_29_method_6_code (1 : Nat) (Option.some Jvm.ClassFile.FieldType.boolean)).before args0 about1 = true := code_word (m := ⟨6, 2⟩) (meth := k6m2) (c := k6c2) (by decide +kernel) rfl rfl rfl (by decide +kernel)
set_option maxRecDepth 65536 in
theorem w_c4 : (Jvm.Cond.code ({ cls := "com/example/lock2/lock2/mapping/VersionKind", name := "isWrittenByDatabase", desc := "()Z" } : Jvm.MethodName) prog_29_method_7_code (1 : Nat) (Option.some Jvm.ClassFile.FieldType.boolean)).before args0 about1 = true := code_word (m := ⟨6, 3⟩) (meth := k6m3) (c := k6c3) (by decide +kernel) rfl rfl rfl (by decide +kernel)
set_option maxRecDepth 65536 in
theorem w_c5 : (Jvm.Cond.code ({ cls := "com/example/lock2/lock2/mapping/VersionKind", name := "comparesColumns", desc := "()Z" } : Jvm.MethodName) prog_29_method_5_code (1 : Nat) (Option.some Jvm.ClassFile.FieldType.boolean)).before args0 about1 = true := code_word (m := ⟨6, 1⟩) (meth := k6m1) (c := k6c1) (by decide +kernel) rfl rfl rfl (by decide +kernel)
def codes1 : List Jvm.Cond := [Jvm.Cond.code x code maxLocals ret, Jvm.Cond.code ({ cls := "com/example/lock2/lock2/mapping/VersionKind", name := "isTimestampFromClock", desc := "()Z" } : Jvm.MethodName) prog_29_method_8_code (1 : Nat) (Option.some Jvm.ClassFile.FieldType.boolean), Jvm.Cond.code ({ cls := "com/example/lock2/lock2/mapping/VersionKind", name := "hasVersionColumn", desc := "()Z" } : Jvm.MethodName) prog_29_method_4_code (1 : Nat) (Option.some Jvm.ClassFile.FieldType.boolean), Jvm.Cond.code ({ cls := "com/example/lock2/lock2/mapping/VersionKind", name := "isWrittenByLock2", desc := "()Z" } : Jvm.MethodName) prog_29_method_6_code (1 : Nat) (Option.some Jvm.ClassFile.FieldType.boolean), Jvm.Cond.code ({ cls := "com/example/lock2/lock2/mapping/VersionKind", name := "isWrittenByDatabase", desc := "()Z" } : Jvm.MethodName) prog_29_method_7_code (1 : Nat) (Option.some Jvm.ClassFile.FieldType.boolean), Jvm.Cond.code ({ cls := "com/example/lock2/lock2/mapping/VersionKind", name := "comparesColumns", desc := "()Z" } : Jvm.MethodName) prog_29_method_5_code (1 : Nat) (Option.some Jvm.ClassFile.FieldType.boolean)]
set_option maxRecDepth 65536 in
theorem codes_eq : words1.filter isCode = codes1 := rfl
theorem w_codes : ∀ c ∈ words1.filter isCode, c.before args0 about1 = true := by
  rw [codes_eq]
  intro c hc
  simp only [codes1, List.mem_cons, List.not_mem_nil, or_false] at hc
  rcases hc with rfl | rfl | rfl | rfl | rfl | rfl
  · exact w_c0
  · exact w_c1
  · exact w_c2
  · exact w_c3
  · exact w_c4
  · exact w_c5
set_option maxRecDepth 65536 in
theorem w_t1 : (words1.take 24).all (fun c => isCode c || c.before args0 about1) = true := by decide +kernel
set_option maxRecDepth 65536 in
theorem w_t2 : ((words1.drop 24).take 24).all (fun c => isCode c || c.before args0 about1) = true := by decide +kernel
set_option maxRecDepth 65536 in
theorem w_t3 : ((words1.drop 24).drop 24).all (fun c => isCode c || c.before args0 about1) = true := by decide +kernel
theorem w_tables : (allAtoms (Jvm.Cond.code x code maxLocals ret :: tables_1)).before args0 about1 = true := by
  rw [allAtoms_all]
  show words1.all (fun c => c.before args0 about1) = true
  refine all_split ?_ w_codes
  rw [← List.take_append_drop 24 words1, List.all_append, w_t1, ← List.take_append_drop 24 (words1.drop 24), List.all_append, w_t2, w_t3]
  rfl
set_option maxRecDepth 65536 in
theorem w_case : (Jvm.Cond.and given_1 narrow_1).before args0 about1 = true := by decide +kernel
theorem w_applies : (headSpec (Jvm.Cond.code x code maxLocals ret :: tables_1) room_1).applies x e0.platform about1 = true :=
  (Spec.applies_iff w_frames).mpr ⟨w_running, w_runnable, w_alone, w_named, w_hears, w_ripe, w_room, w_tables⟩
theorem atStart : AtStart classFile x code maxLocals ret World_1 tables_1 room_1 Calls_1 rest_1 Pre_1 launch0 p0 e0 about1 theMethod args0 below0 :=
  ⟨lists_1, trivial, launch0.admits_env _ _ _, launch0.least_env, fairChoices_fair.cas, fairChoices_fair.clock, w_frames, w_args, w_heap, w_applies, trivial, trivial, w_case⟩
end start1
theorem witness_1 : WitnessClaimed_1 := ⟨start1.p0, start1.e0, start1.about1, start1.theMethod, start1.args0, start1.below0, start1.atStart⟩
end Jvm.Pilot.@@N@@
