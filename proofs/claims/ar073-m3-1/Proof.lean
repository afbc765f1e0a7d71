import JvmDerived
import JvmDerived.Pilot.@@N@@Statement
import JvmDerived.Pilot.@@N@@Code
set_option linter.unusedVariables false
set_option linter.unusedSimpArgs false
namespace Jvm.RoadKit
open Sem ClassFile Op Lib Jvm.Stand Jvm.Free Jvm.LawKit
section New
variable {p : Program} {l : Launch} {e : Env} {R : Room} {s : State} {m : MethodId} {args : Array Value} {below : List Frame} {meth : Method} {c : Code} {T : State} {locs : List Loc} {cells slots : Nat}
theorem retI (X : Stand p l e R s m args below meth c T locs cells slots) (hx : p.tables.exec = Jvm.exec) {pc : Nat} {Ls : Array Slot} {z : Int32} {rest : List Value} (hret : meth.sig.returnType = some .int) (hd : decode c.code pc = .ok (.ireturn, 1)) {fs : List Frame}
    (hl : ∀ (f : JFrame) (acts : List Action), f.method = m → f.locked = none → f.entered = [] → (doReturn e (T.setTop f) acts (some (.int z))).1 = T.setFrames fs) : Steps p.tables e below (T.setTop (mkF m pc Ls (.int z :: rest))) (T.setFrames fs) := by
  have hm' : T.vm.method? m = some meth := X.method'
  have hn : narrow .int (.int z) = .int z := rfl
  show Steps p.tables e below (T.setTop { method := m, pc := pc, locals := Ls, stack := _ :: rest, locked := none }) _
  jvm_step X.here [X.here.top, hx, hd, hm', hret, hn]
  first | (intro acts; rw [hl _ acts rfl rfl rfl]) | rw [hl _ _ rfl rfl rfl]
  exact Steps.refl _
end New
end Jvm.RoadKit
namespace Jvm.Pilot.@@N@@
open Jvm Jvm.ClassFile Sem Op Lib Jvm.Free Jvm.Stand Jvm.LawKit Jvm.RoadKit Bundle Jvm.Pilot.@@N@@.Jvm.D

def own_Q (n0 : Nat) (v : Option Value) (h : Heap) (L : List Loc) : Prop := v = some (.int (1 : Int32)) ∧ Fr n0 L
theorem own_ne {args : Array Value} {s : State} {t u : Term} {a b : Addr} {C n d : String} {i j : Int32} (ht : t.eval args s none [] s = some (.ref a)) (hu : u.eval args s none [] s = some (.ref b))
    (h1 : (Jvm.Cond.eq (Jvm.Term.field t C n d) (Jvm.Term.int i)).value args s none s [] = some true) (h2 : (Jvm.Cond.eq (Jvm.Term.field u C n d) (Jvm.Term.int j)).value args s none s [] = some true) (hij : i ≠ j) : ¬ (a = b) := by
  rintro rfl
  have e1 : (Term.field t C n d).eval args s none [] s = s.fieldOf? a C n d := fld_at ht
  have e2 : (Term.field u C n d).eval args s none [] s = s.fieldOf? a C n d := fld_at hu
  have k1 : (Term.int i).eval args s none [] s = some (.int i) := rfl
  have k2 : (Term.int j).eval args s none [] s = some (.int j) := rfl
  simp only [Cond.value, e1, e2, k1, k2] at h1 h2
  cases hv : s.fieldOf? a C n d with
  | none => simp [hv] at h1
  | some v =>
    cases v <;> simp [hv] at h1 h2
    exact hij (h1.symm.trans h2)
theorem own_elem {args : Array Value} {s : State} {t u : Term} {a w : Addr} {cl : Cell} {ty : FieldType} {i : Int32} (ht : t.eval args s none [] s = some (.ref a)) (A : Arr s s.heap a cl ty) (hu : u.eval args s none [] s = some (.ref w))
    (h : (Jvm.Cond.eq (Jvm.Term.elem t (Jvm.Term.int i)) u).value args s none s [] = some true) (hi : ¬ i < 0) : cl.slots[i.toNatClampNeg]? = some (.ref w) := by
  have e1 : (Term.elem t (Term.int i)).eval args s none [] s = cl.slots[i.toNatClampNeg]? := elem_f ht rfl (Arr.fin (Vm.Alike.refl _) A) hi
  simp only [Cond.value, e1, hu] at h
  cases hv : cl.slots[i.toNatClampNeg]? with
  | none => simp [hv] at h
  | some v => cases v <;> simp [hv] at h ⊢ <;> exact h
theorem own_nul {args : Array Value} {s : State} {t : Term} {a : Addr} {cl : Cell} {ty : FieldType} {i : Int32} (ht : t.eval args s none [] s = some (.ref a)) (A : Arr s s.heap a cl ty)
    (h : (Jvm.Cond.eq (Jvm.Term.elem t (Jvm.Term.int i)) Jvm.Term.null).value args s none s [] = some true) (hi : ¬ i < 0) : cl.slots[i.toNatClampNeg]? = some .null := by
  have e1 : (Term.elem t (Term.int i)).eval args s none [] s = cl.slots[i.toNatClampNeg]? := elem_f ht rfl (Arr.fin (Vm.Alike.refl _) A) hi
  exact e1.symm.trans (null_v h)
theorem own_k (x : Int32) : 0 ≤ ((x &&& (2147483647 : Int32)) % (21 : Int32)).toInt ∧ ((x &&& (2147483647 : Int32)) % (21 : Int32)).toInt < 21 := by
  have q := (c_iremV (x &&& (2147483647 : Int32)) (21 : Int32)).1 (c_and x (2147483647 : Int32) (by decide)).1 (by decide)
  exact ⟨q.1, q.2.1⟩
theorem own_cases {t : Int32} (h1 : 0 ≤ t.toInt) (h2 : t.toInt < 21) : t = (0 : Int32) ∨ t = (1 : Int32) ∨ t = (2 : Int32) ∨ t = (3 : Int32) ∨ t = (4 : Int32) ∨ t = (5 : Int32) ∨ t = (6 : Int32) ∨ t = (7 : Int32) ∨ t = (8 : Int32) ∨ t = (9 : Int32) ∨ t = (10 : Int32) ∨ t = (11 : Int32) ∨ t = (12 : Int32) ∨ t = (13 : Int32) ∨ t = (14 : Int32) ∨ t = (15 : Int32) ∨ t = (16 : Int32) ∨ t = (17 : Int32) ∨ t = (18 : Int32) ∨ t = (19 : Int32) ∨ t = (20 : Int32) := by
  have e : ∀ k : Int32, t.toInt = k.toInt → t = k := fun k q => Int32.toInt_inj.mp q
  rcases (by omega : t.toInt = 0 ∨ t.toInt = 1 ∨ t.toInt = 2 ∨ t.toInt = 3 ∨ t.toInt = 4 ∨ t.toInt = 5 ∨ t.toInt = 6 ∨ t.toInt = 7 ∨ t.toInt = 8 ∨ t.toInt = 9 ∨ t.toInt = 10 ∨ t.toInt = 11 ∨ t.toInt = 12 ∨ t.toInt = 13 ∨ t.toInt = 14 ∨ t.toInt = 15 ∨ t.toInt = 16 ∨ t.toInt = 17 ∨ t.toInt = 18 ∨ t.toInt = 19 ∨ t.toInt = 20) with h | h | h | h | h | h | h | h | h | h | h | h | h | h | h | h | h | h | h | h | h
  · exact Or.inl (e 0 (h.trans (by decide)))
  · exact Or.inr (Or.inl (e 1 (h.trans (by decide))))
  · exact Or.inr (Or.inr (Or.inl (e 2 (h.trans (by decide)))))
  · exact Or.inr (Or.inr (Or.inr (Or.inl (e 3 (h.trans (by decide))))))
  · exact Or.inr (Or.inr (Or.inr (Or.inr (Or.inl (e 4 (h.trans (by decide)))))))
  · exact Or.inr (Or.inr (Or.inr (Or.inr (Or.inr (Or.inl (e 5 (h.trans (by decide))))))))
  · exact Or.inr (Or.inr (Or.inr (Or.inr (Or.inr (Or.inr (Or.inl (e 6 (h.trans (by decide)))))))))
  · exact Or.inr (Or.inr (Or.inr (Or.inr (Or.inr (Or.inr (Or.inr (Or.inl (e 7 (h.trans (by decide))))))))))
  · exact Or.inr (Or.inr (Or.inr (Or.inr (Or.inr (Or.inr (Or.inr (Or.inr (Or.inl (e 8 (h.trans (by decide)))))))))))
  · exact Or.inr (Or.inr (Or.inr (Or.inr (Or.inr (Or.inr (Or.inr (Or.inr (Or.inr (Or.inl (e 9 (h.trans (by decide))))))))))))
  · exact Or.inr (Or.inr (Or.inr (Or.inr (Or.inr (Or.inr (Or.inr (Or.inr (Or.inr (Or.inr (Or.inl (e 10 (h.trans (by decide)))))))))))))
  · exact Or.inr (Or.inr (Or.inr (Or.inr (Or.inr (Or.inr (Or.inr (Or.inr (Or.inr (Or.inr (Or.inr (Or.inl (e 11 (h.trans (by decide))))))))))))))
  · exact Or.inr (Or.inr (Or.inr (Or.inr (Or.inr (Or.inr (Or.inr (Or.inr (Or.inr (Or.inr (Or.inr (Or.inr (Or.inl (e 12 (h.trans (by decide)))))))))))))))
  · exact Or.inr (Or.inr (Or.inr (Or.inr (Or.inr (Or.inr (Or.inr (Or.inr (Or.inr (Or.inr (Or.inr (Or.inr (Or.inr (Or.inl (e 13 (h.trans (by decide))))))))))))))))
  · exact Or.inr (Or.inr (Or.inr (Or.inr (Or.inr (Or.inr (Or.inr (Or.inr (Or.inr (Or.inr (Or.inr (Or.inr (Or.inr (Or.inr (Or.inl (e 14 (h.trans (by decide)))))))))))))))))
  · exact Or.inr (Or.inr (Or.inr (Or.inr (Or.inr (Or.inr (Or.inr (Or.inr (Or.inr (Or.inr (Or.inr (Or.inr (Or.inr (Or.inr (Or.inr (Or.inl (e 15 (h.trans (by decide))))))))))))))))))
  · exact Or.inr (Or.inr (Or.inr (Or.inr (Or.inr (Or.inr (Or.inr (Or.inr (Or.inr (Or.inr (Or.inr (Or.inr (Or.inr (Or.inr (Or.inr (Or.inr (Or.inl (e 16 (h.trans (by decide)))))))))))))))))))
  · exact Or.inr (Or.inr (Or.inr (Or.inr (Or.inr (Or.inr (Or.inr (Or.inr (Or.inr (Or.inr (Or.inr (Or.inr (Or.inr (Or.inr (Or.inr (Or.inr (Or.inr (Or.inl (e 17 (h.trans (by decide))))))))))))))))))))
  · exact Or.inr (Or.inr (Or.inr (Or.inr (Or.inr (Or.inr (Or.inr (Or.inr (Or.inr (Or.inr (Or.inr (Or.inr (Or.inr (Or.inr (Or.inr (Or.inr (Or.inr (Or.inr (Or.inl (e 18 (h.trans (by decide)))))))))))))))))))))
  · exact Or.inr (Or.inr (Or.inr (Or.inr (Or.inr (Or.inr (Or.inr (Or.inr (Or.inr (Or.inr (Or.inr (Or.inr (Or.inr (Or.inr (Or.inr (Or.inr (Or.inr (Or.inr (Or.inr (Or.inl (e 19 (h.trans (by decide))))))))))))))))))))))
  · exact Or.inr (Or.inr (Or.inr (Or.inr (Or.inr (Or.inr (Or.inr (Or.inr (Or.inr (Or.inr (Or.inr (Or.inr (Or.inr (Or.inr (Or.inr (Or.inr (Or.inr (Or.inr (Or.inr (Or.inr ((e 20 (h.trans (by decide)))))))))))))))))))))))
theorem d1_0 : decode prog_27_method_4_code 0 = .ok (.iload_n 0, 1) := by decide +kernel
theorem d1_1 : decode prog_27_method_4_code 1 = .ok (.ifCond .lt 19, 3) := by decide +kernel
theorem d1_4 : decode prog_27_method_4_code 4 = .ok (.iload_n 0, 1) := by decide +kernel
theorem d1_5 : decode prog_27_method_4_code 5 = .ok (.getstatic 81, 3) := by decide +kernel
theorem d1_8 : decode prog_27_method_4_code 8 = .ok (.arraylength, 1) := by decide +kernel
theorem d1_9 : decode prog_27_method_4_code 9 = .ok (.if_icmp .ge 11, 3) := by decide +kernel
theorem d1_12 : decode prog_27_method_4_code 12 = .ok (.getstatic 81, 3) := by decide +kernel
theorem d1_15 : decode prog_27_method_4_code 15 = .ok (.iload_n 0, 1) := by decide +kernel
theorem d1_16 : decode prog_27_method_4_code 16 = .ok (.aaload, 1) := by decide +kernel
theorem d1_17 : decode prog_27_method_4_code 17 = .ok (.goto 4, 3) := by decide +kernel
theorem d1_21 : decode prog_27_method_4_code 21 = .ok (.areturn, 1) := by decide +kernel
theorem pn_1 : plainName "com/example/plumbline/plumbline/model/ConstantKind" = true := by first | (simp [plainName, overriddenIn]; done) | decide +kernel
theorem ef_1 (m : MethodId) (x0 : Int32) : entryFrame m #[(.int x0)] 1 = mkF m 0 #[.val (.int x0)] [] := by first | (simp [entryFrame, mkF, argsToLocals, Value.category]; done) | rfl
def Q1_r (Z : State) (p1 : Int32) (w2 : Addr) (cl_w2 : Cell) (z_w2 : Int32) (w5 : Addr) (h0 : Heap) (n0 : Nat) (v : Option Value) (h : Heap) (L : List Loc) : Prop := v = some (.ref w5) ∧ Fr n0 L ∧ h = h0
set_option maxRecDepth 65536 in
set_option maxHeartbeats 40000000 in
theorem rm1_r (l : Launch) (Z : State) (a0 : Array Value) (hw : ∀ d ∈ tables_1, d.before a0 Z = true) (ws : List Jvm.Cond) (p1 : Int32) (w2 : Addr) (cl_w2 : Cell) (z_w2 : Int32) (w5 : Addr) (h0 : Heap) (n0 : Nat) (Z0 : n0 ≤ h0.size) (S_BY_TAG : Sta Z h0 "com/example/plumbline/plumbline/model/ConstantKind" "BY_TAG" "[Lcom/example/plumbline/plumbline/model/ConstantKind;" (.ref w2)) (Ar_w2 : Arr Z h0 w2 cl_w2 (.object "com/example/plumbline/plumbline/model/ConstantKind")) (S_w2 : cl_w2.slots.size = z_w2.toNatClampNeg) (N_w2 : ¬ z_w2 < 0) (hin16 : ¬ (p1 < 0 ∨ cl_w2.slots.size ≤ (p1).toNatClampNeg)) (hat16 : cl_w2.slots[(p1).toNatClampNeg]? = some (.ref w5)) (hc1 : ¬ (p1 < (0 : Int32))) (hc9 : p1 < z_w2) :
    MetFree l (⟨"com/example/plumbline/plumbline/model/ConstantKind", "ofTag", "(I)Lcom/example/plumbline/plumbline/model/ConstantKind;"⟩ : MethodName) (head1 (Jvm.Cond.code (⟨"com/example/plumbline/plumbline/model/ConstantKind", "ofTag", "(I)Lcom/example/plumbline/plumbline/model/ConstantKind;"⟩ : MethodName) prog_27_method_4_code 1 (some (.object "com/example/plumbline/plumbline/model/ConstantKind")) :: ws) ({ frames := 0, cells := 0, slots := 0, locals := 0 } : Room)) (fun a U => a = #[(.int p1)] ∧ Z.Warmed39 U.vm ∧ U.heap = h0) (fun _ _ _ _ _ => True) (fun _ U o U' => ∃ v L, o = .returned v ∧ Q1_r Z p1 w2 cl_w2 z_w2 w5 h0 n0 v U'.heap L ∧ FrameEnd U o U' L ({ frames := 0, cells := 0, slots := 0, locals := 0 } : Room).cells ({ frames := 0, cells := 0, slots := 0, locals := 0 } : Room).slots) := by
  refine MetFree.of_bodySF (plainFor_of_name pn_1) hisR ?_
  intro p e s m args below meth c s₁ Bd hml0 hP hK
  obtain ⟨rfl, hZ, hh⟩ := hP
  have hx := Bd.exec
  have hby := Bd.bytes
  have hml : c.maxLocals = 1 := hml0
  have hown : s.vm.findClass "com/example/plumbline/plumbline/model/ConstantKind" = some m.cls := findClass_of_methodNamed Bd.named
  have hnm := (name_of_methodNamed Bd.named Bd.method).1
  have X0 : Stand p l e ({ frames := 0, cells := 0, slots := 0, locals := 0 } : Room) s m #[(.int p1)] below meth c s₁ [] 0 0 := Stand.of_body Bd
  have e0 : s₁.heap = h0 := by rw [← hh, Bd.state]; rfl
  have N0 := Fr.nil n0
  have pre0 : ∀ t, Steps p.tables e below (s₁.setTop (mkF m 0 #[.val (.int p1)] [])) t → Steps p.tables e below (s₁.setTop (entryFrame m #[(.int p1)] 1)) t := fun t k => castTop (ef_1 m p1) k
  obtain ⟨T3, X3, e3, st3⟩ := getS2 X0 hx hZ hown (host := "") (Or.inl (hw _ (List.mem_of_getElem? (i := 5) rfl))) Via.refl e0 S_BY_TAG (g := (mkF m 5 #[.val (.int p1)] [(.int p1)])) rfl (hb hby d1_5)
  obtain ⟨T4, X4, e4, st4⟩ := getS2 X3 hx hZ hown (host := "") (Or.inl (hw _ (List.mem_of_getElem? (i := 5) rfl))) Via.refl e3 S_BY_TAG (g := (mkF m 12 #[.val (.int p1)] [])) rfl (hb hby d1_12)
  obtain ⟨fs, hr, hrun, hended, hW, hsame⟩ := X4.leave (v := some (.ref w5)) (fun h => by rw [Bd.returns] at h; cases h)
  refine ⟨_, _, pre0 _ ?_, hrun, hended, _, _, rfl, ?_, ⟨_, rfl⟩, hW, hsame.mono (by decide) (by decide)⟩
  · show Steps p.tables e below (s₁.setTop (mkF m 0 #[.val (.int p1)] [])) _
    refine XS.iloadN X0.here hx rfl (hb hby d1_0) rfl ?_
    show Steps p.tables e below (s₁.setTop (mkF m 1 #[.val (.int p1)] [(.int p1)])) _
    refine XS.ifNo X0.here hx rfl (hb hby d1_1) rfl ((if0 _ _).trans (flt hc1).1) ?_
    show Steps p.tables e below (s₁.setTop (mkF m 4 #[.val (.int p1)] [])) _
    refine XS.iloadN X0.here hx rfl (hb hby d1_4) rfl ?_
    show Steps p.tables e below (s₁.setTop (mkF m 5 #[.val (.int p1)] [(.int p1)])) _
    refine st3 _ ?_
    show Steps p.tables e below (T3.setTop (mkF m 8 #[.val (.int p1)] [(.ref w2), (.int p1)])) _
    refine X3.arraylength hx (by rw [e3]; exact Ar_w2.1) (State.isArrayOf_alike hZ.alike Ar_w2.2.1) (g := (mkF m 8 #[.val (.int p1)] [(.ref w2), (.int p1)])) rfl rfl (hb hby d1_8) _ ?_
    rw [len_of S_w2 N_w2]
    show Steps p.tables e below (T3.setTop (mkF m 9 #[.val (.int p1)] [(.int z_w2), (.int p1)])) _
    refine XS.icmpNo X3.here hx rfl (hb hby d1_9) rfl (tlt hc9).2.1 ?_
    show Steps p.tables e below (T3.setTop (mkF m 12 #[.val (.int p1)] [])) _
    refine st4 _ ?_
    show Steps p.tables e below (T4.setTop (mkF m 15 #[.val (.int p1)] [(.ref w2)])) _
    refine XS.iloadN X4.here hx rfl (hb hby d1_15) rfl ?_
    show Steps p.tables e below (T4.setTop (mkF m 16 #[.val (.int p1)] [(.int p1), (.ref w2)])) _
    refine X4.aaload hx (j := p1) (v := (.ref w5)) (by rw [e4]; exact Ar_w2.1) (State.isArrayOf_alike hZ.alike Ar_w2.2.1) rfl Ar_w2.2.2 hin16 hat16 (g := (mkF m 16 #[.val (.int p1)] [(.int p1), (.ref w2)])) rfl rfl (hb hby d1_16) _ ?_
    show Steps p.tables e below (T4.setTop (mkF m 17 #[.val (.int p1)] [(.ref w5)])) _
    refine XS.goto X4.here hx rfl (pc0 := 17) (pc' := 21) rfl (hb hby d1_17) (by decide) (by decide) ?_
    show Steps p.tables e below (T4.setTop (mkF m 21 #[.val (.int p1)] [(.ref w5)])) _
    jvm_step X4.here [X4.here.top, hx, (hb hby d1_21), X4.method', Bd.returns, Value.isRef, FieldType.isReference]
    first | (intro acts; rw [hr _ acts rfl rfl rfl]) | rw [hr _ _ rfl rfl rfl]
    exact Steps.refl _
  · show Q1_r Z p1 w2 cl_w2 z_w2 w5 h0 n0 _ T4.heap _
    rw [e4]
    exact ⟨rfl, N0, rfl⟩

def Q1_n (Z : State) (p1 : Int32) (w2 : Addr) (cl_w2 : Cell) (z_w2 : Int32) (h0 : Heap) (n0 : Nat) (v : Option Value) (h : Heap) (L : List Loc) : Prop := v = some .null ∧ Fr n0 L ∧ h = h0
set_option maxRecDepth 65536 in
set_option maxHeartbeats 40000000 in
theorem rm1_n (l : Launch) (Z : State) (a0 : Array Value) (hw : ∀ d ∈ tables_1, d.before a0 Z = true) (ws : List Jvm.Cond) (p1 : Int32) (w2 : Addr) (cl_w2 : Cell) (z_w2 : Int32) (h0 : Heap) (n0 : Nat) (Z0 : n0 ≤ h0.size) (S_BY_TAG : Sta Z h0 "com/example/plumbline/plumbline/model/ConstantKind" "BY_TAG" "[Lcom/example/plumbline/plumbline/model/ConstantKind;" (.ref w2)) (Ar_w2 : Arr Z h0 w2 cl_w2 (.object "com/example/plumbline/plumbline/model/ConstantKind")) (S_w2 : cl_w2.slots.size = z_w2.toNatClampNeg) (N_w2 : ¬ z_w2 < 0) (hin16 : ¬ (p1 < 0 ∨ cl_w2.slots.size ≤ (p1).toNatClampNeg)) (hat16 : cl_w2.slots[(p1).toNatClampNeg]? = some .null) (hc1 : ¬ (p1 < (0 : Int32))) (hc9 : p1 < z_w2) :
    MetFree l (⟨"com/example/plumbline/plumbline/model/ConstantKind", "ofTag", "(I)Lcom/example/plumbline/plumbline/model/ConstantKind;"⟩ : MethodName) (head1 (Jvm.Cond.code (⟨"com/example/plumbline/plumbline/model/ConstantKind", "ofTag", "(I)Lcom/example/plumbline/plumbline/model/ConstantKind;"⟩ : MethodName) prog_27_method_4_code 1 (some (.object "com/example/plumbline/plumbline/model/ConstantKind")) :: ws) ({ frames := 0, cells := 0, slots := 0, locals := 0 } : Room)) (fun a U => a = #[(.int p1)] ∧ Z.Warmed39 U.vm ∧ U.heap = h0) (fun _ _ _ _ _ => True) (fun _ U o U' => ∃ v L, o = .returned v ∧ Q1_n Z p1 w2 cl_w2 z_w2 h0 n0 v U'.heap L ∧ FrameEnd U o U' L ({ frames := 0, cells := 0, slots := 0, locals := 0 } : Room).cells ({ frames := 0, cells := 0, slots := 0, locals := 0 } : Room).slots) := by
  refine MetFree.of_bodySF (plainFor_of_name pn_1) hisR ?_
  intro p e s m args below meth c s₁ Bd hml0 hP hK
  obtain ⟨rfl, hZ, hh⟩ := hP
  have hx := Bd.exec
  have hby := Bd.bytes
  have hml : c.maxLocals = 1 := hml0
  have hown : s.vm.findClass "com/example/plumbline/plumbline/model/ConstantKind" = some m.cls := findClass_of_methodNamed Bd.named
  have hnm := (name_of_methodNamed Bd.named Bd.method).1
  have X0 : Stand p l e ({ frames := 0, cells := 0, slots := 0, locals := 0 } : Room) s m #[(.int p1)] below meth c s₁ [] 0 0 := Stand.of_body Bd
  have e0 : s₁.heap = h0 := by rw [← hh, Bd.state]; rfl
  have N0 := Fr.nil n0
  have pre0 : ∀ t, Steps p.tables e below (s₁.setTop (mkF m 0 #[.val (.int p1)] [])) t → Steps p.tables e below (s₁.setTop (entryFrame m #[(.int p1)] 1)) t := fun t k => castTop (ef_1 m p1) k
  obtain ⟨T3, X3, e3, st3⟩ := getS2 X0 hx hZ hown (host := "") (Or.inl (hw _ (List.mem_of_getElem? (i := 5) rfl))) Via.refl e0 S_BY_TAG (g := (mkF m 5 #[.val (.int p1)] [(.int p1)])) rfl (hb hby d1_5)
  obtain ⟨T4, X4, e4, st4⟩ := getS2 X3 hx hZ hown (host := "") (Or.inl (hw _ (List.mem_of_getElem? (i := 5) rfl))) Via.refl e3 S_BY_TAG (g := (mkF m 12 #[.val (.int p1)] [])) rfl (hb hby d1_12)
  obtain ⟨fs, hr, hrun, hended, hW, hsame⟩ := X4.leave (v := some .null) (fun h => by rw [Bd.returns] at h; cases h)
  refine ⟨_, _, pre0 _ ?_, hrun, hended, _, _, rfl, ?_, ⟨_, rfl⟩, hW, hsame.mono (by decide) (by decide)⟩
  · show Steps p.tables e below (s₁.setTop (mkF m 0 #[.val (.int p1)] [])) _
    refine XS.iloadN X0.here hx rfl (hb hby d1_0) rfl ?_
    show Steps p.tables e below (s₁.setTop (mkF m 1 #[.val (.int p1)] [(.int p1)])) _
    refine XS.ifNo X0.here hx rfl (hb hby d1_1) rfl ((if0 _ _).trans (flt hc1).1) ?_
    show Steps p.tables e below (s₁.setTop (mkF m 4 #[.val (.int p1)] [])) _
    refine XS.iloadN X0.here hx rfl (hb hby d1_4) rfl ?_
    show Steps p.tables e below (s₁.setTop (mkF m 5 #[.val (.int p1)] [(.int p1)])) _
    refine st3 _ ?_
    show Steps p.tables e below (T3.setTop (mkF m 8 #[.val (.int p1)] [(.ref w2), (.int p1)])) _
    refine X3.arraylength hx (by rw [e3]; exact Ar_w2.1) (State.isArrayOf_alike hZ.alike Ar_w2.2.1) (g := (mkF m 8 #[.val (.int p1)] [(.ref w2), (.int p1)])) rfl rfl (hb hby d1_8) _ ?_
    rw [len_of S_w2 N_w2]
    show Steps p.tables e below (T3.setTop (mkF m 9 #[.val (.int p1)] [(.int z_w2), (.int p1)])) _
    refine XS.icmpNo X3.here hx rfl (hb hby d1_9) rfl (tlt hc9).2.1 ?_
    show Steps p.tables e below (T3.setTop (mkF m 12 #[.val (.int p1)] [])) _
    refine st4 _ ?_
    show Steps p.tables e below (T4.setTop (mkF m 15 #[.val (.int p1)] [(.ref w2)])) _
    refine XS.iloadN X4.here hx rfl (hb hby d1_15) rfl ?_
    show Steps p.tables e below (T4.setTop (mkF m 16 #[.val (.int p1)] [(.int p1), (.ref w2)])) _
    refine X4.aaload hx (j := p1) (v := .null) (by rw [e4]; exact Ar_w2.1) (State.isArrayOf_alike hZ.alike Ar_w2.2.1) rfl Ar_w2.2.2 hin16 hat16 (g := (mkF m 16 #[.val (.int p1)] [(.int p1), (.ref w2)])) rfl rfl (hb hby d1_16) _ ?_
    show Steps p.tables e below (T4.setTop (mkF m 17 #[.val (.int p1)] [.null])) _
    refine XS.goto X4.here hx rfl (pc0 := 17) (pc' := 21) rfl (hb hby d1_17) (by decide) (by decide) ?_
    show Steps p.tables e below (T4.setTop (mkF m 21 #[.val (.int p1)] [.null])) _
    jvm_step X4.here [X4.here.top, hx, (hb hby d1_21), X4.method', Bd.returns, Value.isRef, FieldType.isReference]
    first | (intro acts; rw [hr _ acts rfl rfl rfl]) | rw [hr _ _ rfl rfl rfl]
    exact Steps.refl _
  · show Q1_n Z p1 w2 cl_w2 z_w2 h0 n0 _ T4.heap _
    rw [e4]
    exact ⟨rfl, N0, rfl⟩

theorem d2_0 : decode prog_27_method_6_code 0 = .ok (.aload_n 0, 1) := by decide +kernel
theorem d2_1 : decode prog_27_method_6_code 1 = .ok (.getstatic 13, 3) := by decide +kernel
theorem d2_4 : decode prog_27_method_6_code 4 = .ok (.if_acmp .eq 10, 3) := by decide +kernel
theorem d2_14 : decode prog_27_method_6_code 14 = .ok (.iconst 2, 1) := by decide +kernel
theorem d2_15 : decode prog_27_method_6_code 15 = .ok (.goto 4, 3) := by decide +kernel
theorem d2_19 : decode prog_27_method_6_code 19 = .ok (.ireturn, 1) := by decide +kernel
theorem pn_2 : plainName "com/example/plumbline/plumbline/model/ConstantKind" = true := by first | (simp [plainName, overriddenIn]; done) | decide +kernel
theorem ef_2 (m : MethodId) (x0 : Addr) : entryFrame m #[(.ref x0)] 1 = mkF m 0 #[.val (.ref x0)] [] := by first | (simp [entryFrame, mkF, argsToLocals, Value.category]; done) | rfl
def Q2_l (Z : State) (a1 : Addr) (w2 : Addr) (h0 : Heap) (n0 : Nat) (v : Option Value) (h : Heap) (L : List Loc) : Prop := v = some (.int (2 : Int32)) ∧ Fr n0 L ∧ h = h0
set_option maxRecDepth 65536 in
set_option maxHeartbeats 40000000 in
theorem rm2_l (l : Launch) (Z : State) (a0 : Array Value) (hw : ∀ d ∈ tables_1, d.before a0 Z = true) (ws : List Jvm.Cond) (a1 : Addr) (w2 : Addr) (h0 : Heap) (n0 : Nat) (Z0 : n0 ≤ h0.size) (S_LONG : Sta Z h0 "com/example/plumbline/plumbline/model/ConstantKind" "LONG" "Lcom/example/plumbline/plumbline/model/ConstantKind;" (.ref w2)) (ha4 : a1 = w2) :
    MetFree l (⟨"com/example/plumbline/plumbline/model/ConstantKind", "slots", "()I"⟩ : MethodName) (head1 (Jvm.Cond.code (⟨"com/example/plumbline/plumbline/model/ConstantKind", "slots", "()I"⟩ : MethodName) prog_27_method_6_code 1 (some .int) :: ws) ({ frames := 0, cells := 0, slots := 0, locals := 0 } : Room)) (fun a U => a = #[(.ref a1)] ∧ Z.Warmed39 U.vm ∧ U.heap = h0) (fun _ _ _ _ _ => True) (fun _ U o U' => ∃ v L, o = .returned v ∧ Q2_l Z a1 w2 h0 n0 v U'.heap L ∧ FrameEnd U o U' L ({ frames := 0, cells := 0, slots := 0, locals := 0 } : Room).cells ({ frames := 0, cells := 0, slots := 0, locals := 0 } : Room).slots) := by
  refine MetFree.of_bodySF (plainFor_of_name pn_2) hisR ?_
  intro p e s m args below meth c s₁ Bd hml0 hP hK
  obtain ⟨rfl, hZ, hh⟩ := hP
  have hx := Bd.exec
  have hby := Bd.bytes
  have hml : c.maxLocals = 1 := hml0
  have hown : s.vm.findClass "com/example/plumbline/plumbline/model/ConstantKind" = some m.cls := findClass_of_methodNamed Bd.named
  have hnm := (name_of_methodNamed Bd.named Bd.method).1
  have X0 : Stand p l e ({ frames := 0, cells := 0, slots := 0, locals := 0 } : Room) s m #[(.ref a1)] below meth c s₁ [] 0 0 := Stand.of_body Bd
  have e0 : s₁.heap = h0 := by rw [← hh, Bd.state]; rfl
  have N0 := Fr.nil n0
  have pre0 : ∀ t, Steps p.tables e below (s₁.setTop (mkF m 0 #[.val (.ref a1)] [])) t → Steps p.tables e below (s₁.setTop (entryFrame m #[(.ref a1)] 1)) t := fun t k => castTop (ef_2 m a1) k
  obtain ⟨T3, X3, e3, st3⟩ := getS2 X0 hx hZ hown (host := "") (Or.inl (hw _ (List.mem_of_getElem? (i := 13) rfl))) Via.refl e0 S_LONG (g := (mkF m 1 #[.val (.ref a1)] [(.ref a1)])) rfl (hb hby d2_1)
  obtain ⟨fs, hr, hrun, hended, hW, hsame⟩ := X3.leave (v := some (.int (2 : Int32))) (fun h => by rw [Bd.returns] at h; cases h)
  refine ⟨_, _, pre0 _ ?_, hrun, hended, _, _, rfl, ?_, ⟨_, rfl⟩, hW, hsame.mono (by decide) (by decide)⟩
  · show Steps p.tables e below (s₁.setTop (mkF m 0 #[.val (.ref a1)] [])) _
    refine XS.aloadN X0.here hx rfl (hb hby d2_0) rfl rfl ?_
    show Steps p.tables e below (s₁.setTop (mkF m 1 #[.val (.ref a1)] [(.ref a1)])) _
    refine st3 _ ?_
    show Steps p.tables e below (T3.setTop (mkF m 4 #[.val (.ref a1)] [(.ref w2), (.ref a1)])) _
    refine Jvm.RoadKit.acmp (g := (mkF m 4 #[.val (.ref a1)] [(.ref w2), (.ref a1)])) X3 hx rfl rfl rfl (pc0 := 4) (pc' := 14) (same := true) rfl (hb hby d2_4) rfl (decide_eq_true (congrArg Value.ref ha4)) (by decide) (by decide) ?_
    show Steps p.tables e below (T3.setTop (mkF m 14 #[.val (.ref a1)] [])) _
    refine XS.iconst X3.here hx rfl (hb hby d2_14) ?_
    show Steps p.tables e below (T3.setTop (mkF m 15 #[.val (.ref a1)] [(.int (2 : Int32))])) _
    refine XS.goto X3.here hx rfl (pc0 := 15) (pc' := 19) rfl (hb hby d2_15) (by decide) (by decide) ?_
    show Steps p.tables e below (T3.setTop (mkF m 19 #[.val (.ref a1)] [(.int (2 : Int32))])) _
    exact retI X3 hx Bd.returns (hb hby d2_19) hr
  · show Q2_l Z a1 w2 h0 n0 _ T3.heap _
    rw [e3]
    exact ⟨rfl, N0, rfl⟩

theorem d2_7 : decode prog_27_method_6_code 7 = .ok (.aload_n 0, 1) := by decide +kernel
theorem d2_8 : decode prog_27_method_6_code 8 = .ok (.getstatic 16, 3) := by decide +kernel
theorem d2_11 : decode prog_27_method_6_code 11 = .ok (.if_acmp .ne 7, 3) := by decide +kernel
def Q2_d (Z : State) (a1 : Addr) (w2 : Addr) (w4 : Addr) (h0 : Heap) (n0 : Nat) (v : Option Value) (h : Heap) (L : List Loc) : Prop := v = some (.int (2 : Int32)) ∧ Fr n0 L ∧ h = h0
set_option maxRecDepth 65536 in
set_option maxHeartbeats 40000000 in
theorem rm2_d (l : Launch) (Z : State) (a0 : Array Value) (hw : ∀ d ∈ tables_1, d.before a0 Z = true) (ws : List Jvm.Cond) (a1 : Addr) (w2 : Addr) (w4 : Addr) (h0 : Heap) (n0 : Nat) (Z0 : n0 ≤ h0.size) (S_LONG : Sta Z h0 "com/example/plumbline/plumbline/model/ConstantKind" "LONG" "Lcom/example/plumbline/plumbline/model/ConstantKind;" (.ref w2)) (S_DOUBLE : Sta Z h0 "com/example/plumbline/plumbline/model/ConstantKind" "DOUBLE" "Lcom/example/plumbline/plumbline/model/ConstantKind;" (.ref w4)) (ha4 : ¬ (a1 = w2)) (ha11 : a1 = w4) :
    MetFree l (⟨"com/example/plumbline/plumbline/model/ConstantKind", "slots", "()I"⟩ : MethodName) (head1 (Jvm.Cond.code (⟨"com/example/plumbline/plumbline/model/ConstantKind", "slots", "()I"⟩ : MethodName) prog_27_method_6_code 1 (some .int) :: ws) ({ frames := 0, cells := 0, slots := 0, locals := 0 } : Room)) (fun a U => a = #[(.ref a1)] ∧ Z.Warmed39 U.vm ∧ U.heap = h0) (fun _ _ _ _ _ => True) (fun _ U o U' => ∃ v L, o = .returned v ∧ Q2_d Z a1 w2 w4 h0 n0 v U'.heap L ∧ FrameEnd U o U' L ({ frames := 0, cells := 0, slots := 0, locals := 0 } : Room).cells ({ frames := 0, cells := 0, slots := 0, locals := 0 } : Room).slots) := by
  refine MetFree.of_bodySF (plainFor_of_name pn_2) hisR ?_
  intro p e s m args below meth c s₁ Bd hml0 hP hK
  obtain ⟨rfl, hZ, hh⟩ := hP
  have hx := Bd.exec
  have hby := Bd.bytes
  have hml : c.maxLocals = 1 := hml0
  have hown : s.vm.findClass "com/example/plumbline/plumbline/model/ConstantKind" = some m.cls := findClass_of_methodNamed Bd.named
  have hnm := (name_of_methodNamed Bd.named Bd.method).1
  have X0 : Stand p l e ({ frames := 0, cells := 0, slots := 0, locals := 0 } : Room) s m #[(.ref a1)] below meth c s₁ [] 0 0 := Stand.of_body Bd
  have e0 : s₁.heap = h0 := by rw [← hh, Bd.state]; rfl
  have N0 := Fr.nil n0
  have pre0 : ∀ t, Steps p.tables e below (s₁.setTop (mkF m 0 #[.val (.ref a1)] [])) t → Steps p.tables e below (s₁.setTop (entryFrame m #[(.ref a1)] 1)) t := fun t k => castTop (ef_2 m a1) k
  obtain ⟨T3, X3, e3, st3⟩ := getS2 X0 hx hZ hown (host := "") (Or.inl (hw _ (List.mem_of_getElem? (i := 13) rfl))) Via.refl e0 S_LONG (g := (mkF m 1 #[.val (.ref a1)] [(.ref a1)])) rfl (hb hby d2_1)
  obtain ⟨T5, X5, e5, st5⟩ := getS2 X3 hx hZ hown (host := "") (Or.inl (hw _ (List.mem_of_getElem? (i := 15) rfl))) Via.refl e3 S_DOUBLE (g := (mkF m 8 #[.val (.ref a1)] [(.ref a1)])) rfl (hb hby d2_8)
  obtain ⟨fs, hr, hrun, hended, hW, hsame⟩ := X5.leave (v := some (.int (2 : Int32))) (fun h => by rw [Bd.returns] at h; cases h)
  refine ⟨_, _, pre0 _ ?_, hrun, hended, _, _, rfl, ?_, ⟨_, rfl⟩, hW, hsame.mono (by decide) (by decide)⟩
  · show Steps p.tables e below (s₁.setTop (mkF m 0 #[.val (.ref a1)] [])) _
    refine XS.aloadN X0.here hx rfl (hb hby d2_0) rfl rfl ?_
    show Steps p.tables e below (s₁.setTop (mkF m 1 #[.val (.ref a1)] [(.ref a1)])) _
    refine st3 _ ?_
    show Steps p.tables e below (T3.setTop (mkF m 4 #[.val (.ref a1)] [(.ref w2), (.ref a1)])) _
    refine Jvm.RoadKit.acmp (g := (mkF m 4 #[.val (.ref a1)] [(.ref w2), (.ref a1)])) X3 hx rfl rfl rfl (pc0 := 4) (pc' := 7) (same := false) rfl (hb hby d2_4) rfl (decide_eq_false fun q => ha4 (Value.ref.inj q)) (by decide) (by decide) ?_
    show Steps p.tables e below (T3.setTop (mkF m 7 #[.val (.ref a1)] [])) _
    refine XS.aloadN X3.here hx rfl (hb hby d2_7) rfl rfl ?_
    show Steps p.tables e below (T3.setTop (mkF m 8 #[.val (.ref a1)] [(.ref a1)])) _
    refine st5 _ ?_
    show Steps p.tables e below (T5.setTop (mkF m 11 #[.val (.ref a1)] [(.ref w4), (.ref a1)])) _
    refine Jvm.RoadKit.acmp (g := (mkF m 11 #[.val (.ref a1)] [(.ref w4), (.ref a1)])) X5 hx rfl rfl rfl (pc0 := 11) (pc' := 14) (same := true) rfl (hb hby d2_11) rfl (decide_eq_true (congrArg Value.ref ha11)) (by decide) (by decide) ?_
    show Steps p.tables e below (T5.setTop (mkF m 14 #[.val (.ref a1)] [])) _
    refine XS.iconst X5.here hx rfl (hb hby d2_14) ?_
    show Steps p.tables e below (T5.setTop (mkF m 15 #[.val (.ref a1)] [(.int (2 : Int32))])) _
    refine XS.goto X5.here hx rfl (pc0 := 15) (pc' := 19) rfl (hb hby d2_15) (by decide) (by decide) ?_
    show Steps p.tables e below (T5.setTop (mkF m 19 #[.val (.ref a1)] [(.int (2 : Int32))])) _
    exact retI X5 hx Bd.returns (hb hby d2_19) hr
  · show Q2_d Z a1 w2 w4 h0 n0 _ T5.heap _
    rw [e5]
    exact ⟨rfl, N0, rfl⟩

theorem d2_18 : decode prog_27_method_6_code 18 = .ok (.iconst 1, 1) := by decide +kernel
def Q2_o (Z : State) (a1 : Addr) (w2 : Addr) (w4 : Addr) (h0 : Heap) (n0 : Nat) (v : Option Value) (h : Heap) (L : List Loc) : Prop := v = some (.int (1 : Int32)) ∧ Fr n0 L ∧ h = h0
set_option maxRecDepth 65536 in
set_option maxHeartbeats 40000000 in
theorem rm2_o (l : Launch) (Z : State) (a0 : Array Value) (hw : ∀ d ∈ tables_1, d.before a0 Z = true) (ws : List Jvm.Cond) (a1 : Addr) (w2 : Addr) (w4 : Addr) (h0 : Heap) (n0 : Nat) (Z0 : n0 ≤ h0.size) (S_LONG : Sta Z h0 "com/example/plumbline/plumbline/model/ConstantKind" "LONG" "Lcom/example/plumbline/plumbline/model/ConstantKind;" (.ref w2)) (S_DOUBLE : Sta Z h0 "com/example/plumbline/plumbline/model/ConstantKind" "DOUBLE" "Lcom/example/plumbline/plumbline/model/ConstantKind;" (.ref w4)) (ha4 : ¬ (a1 = w2)) (ha11 : ¬ (a1 = w4)) :
    MetFree l (⟨"com/example/plumbline/plumbline/model/ConstantKind", "slots", "()I"⟩ : MethodName) (head1 (Jvm.Cond.code (⟨"com/example/plumbline/plumbline/model/ConstantKind", "slots", "()I"⟩ : MethodName) prog_27_method_6_code 1 (some .int) :: ws) ({ frames := 0, cells := 0, slots := 0, locals := 0 } : Room)) (fun a U => a = #[(.ref a1)] ∧ Z.Warmed39 U.vm ∧ U.heap = h0) (fun _ _ _ _ _ => True) (fun _ U o U' => ∃ v L, o = .returned v ∧ Q2_o Z a1 w2 w4 h0 n0 v U'.heap L ∧ FrameEnd U o U' L ({ frames := 0, cells := 0, slots := 0, locals := 0 } : Room).cells ({ frames := 0, cells := 0, slots := 0, locals := 0 } : Room).slots) := by
  refine MetFree.of_bodySF (plainFor_of_name pn_2) hisR ?_
  intro p e s m args below meth c s₁ Bd hml0 hP hK
  obtain ⟨rfl, hZ, hh⟩ := hP
  have hx := Bd.exec
  have hby := Bd.bytes
  have hml : c.maxLocals = 1 := hml0
  have hown : s.vm.findClass "com/example/plumbline/plumbline/model/ConstantKind" = some m.cls := findClass_of_methodNamed Bd.named
  have hnm := (name_of_methodNamed Bd.named Bd.method).1
  have X0 : Stand p l e ({ frames := 0, cells := 0, slots := 0, locals := 0 } : Room) s m #[(.ref a1)] below meth c s₁ [] 0 0 := Stand.of_body Bd
  have e0 : s₁.heap = h0 := by rw [← hh, Bd.state]; rfl
  have N0 := Fr.nil n0
  have pre0 : ∀ t, Steps p.tables e below (s₁.setTop (mkF m 0 #[.val (.ref a1)] [])) t → Steps p.tables e below (s₁.setTop (entryFrame m #[(.ref a1)] 1)) t := fun t k => castTop (ef_2 m a1) k
  obtain ⟨T3, X3, e3, st3⟩ := getS2 X0 hx hZ hown (host := "") (Or.inl (hw _ (List.mem_of_getElem? (i := 13) rfl))) Via.refl e0 S_LONG (g := (mkF m 1 #[.val (.ref a1)] [(.ref a1)])) rfl (hb hby d2_1)
  obtain ⟨T5, X5, e5, st5⟩ := getS2 X3 hx hZ hown (host := "") (Or.inl (hw _ (List.mem_of_getElem? (i := 15) rfl))) Via.refl e3 S_DOUBLE (g := (mkF m 8 #[.val (.ref a1)] [(.ref a1)])) rfl (hb hby d2_8)
  obtain ⟨fs, hr, hrun, hended, hW, hsame⟩ := X5.leave (v := some (.int (1 : Int32))) (fun h => by rw [Bd.returns] at h; cases h)
  refine ⟨_, _, pre0 _ ?_, hrun, hended, _, _, rfl, ?_, ⟨_, rfl⟩, hW, hsame.mono (by decide) (by decide)⟩
  · show Steps p.tables e below (s₁.setTop (mkF m 0 #[.val (.ref a1)] [])) _
    refine XS.aloadN X0.here hx rfl (hb hby d2_0) rfl rfl ?_
    show Steps p.tables e below (s₁.setTop (mkF m 1 #[.val (.ref a1)] [(.ref a1)])) _
    refine st3 _ ?_
    show Steps p.tables e below (T3.setTop (mkF m 4 #[.val (.ref a1)] [(.ref w2), (.ref a1)])) _
    refine Jvm.RoadKit.acmp (g := (mkF m 4 #[.val (.ref a1)] [(.ref w2), (.ref a1)])) X3 hx rfl rfl rfl (pc0 := 4) (pc' := 7) (same := false) rfl (hb hby d2_4) rfl (decide_eq_false fun q => ha4 (Value.ref.inj q)) (by decide) (by decide) ?_
    show Steps p.tables e below (T3.setTop (mkF m 7 #[.val (.ref a1)] [])) _
    refine XS.aloadN X3.here hx rfl (hb hby d2_7) rfl rfl ?_
    show Steps p.tables e below (T3.setTop (mkF m 8 #[.val (.ref a1)] [(.ref a1)])) _
    refine st5 _ ?_
    show Steps p.tables e below (T5.setTop (mkF m 11 #[.val (.ref a1)] [(.ref w4), (.ref a1)])) _
    refine Jvm.RoadKit.acmp (g := (mkF m 11 #[.val (.ref a1)] [(.ref w4), (.ref a1)])) X5 hx rfl rfl rfl (pc0 := 11) (pc' := 18) (same := false) rfl (hb hby d2_11) rfl (decide_eq_false fun q => ha11 (Value.ref.inj q)) (by decide) (by decide) ?_
    show Steps p.tables e below (T5.setTop (mkF m 18 #[.val (.ref a1)] [])) _
    refine XS.iconst X5.here hx rfl (hb hby d2_18) ?_
    show Steps p.tables e below (T5.setTop (mkF m 19 #[.val (.ref a1)] [(.int (1 : Int32))])) _
    exact retI X5 hx Bd.returns (hb hby d2_19) hr
  · show Q2_o Z a1 w2 w4 h0 n0 _ T5.heap _
    rw [e5]
    exact ⟨rfl, N0, rfl⟩

theorem pn_0 : plainName "com/example/plumbline/plumbline/model/ConstantKindSlotsPinLaw" = true := by first | (simp [plainName, overriddenIn]; done) | decide +kernel
theorem pd_0_0 : parseMethodDescriptor "(I)Lcom/example/plumbline/plumbline/model/ConstantKind;" = some ⟨[.int], some (.object "com/example/plumbline/plumbline/model/ConstantKind")⟩ := by decide +kernel
theorem ef_0 (m : MethodId) (x0 : Int32) : entryFrame m #[(.int x0)] maxLocals = mkF m 0 #[.val (.int x0), .unset, .unset, .unset] [] := by first | (simp [entryFrame, mkF, argsToLocals, Value.category, maxLocals]; done) | rfl
set_option maxRecDepth 65536 in
set_option maxHeartbeats 40000000 in
theorem rm0_n (l : Launch) (Z : State) (a0 : Array Value) (hw : ∀ d ∈ tables_1, d.before a0 Z = true) (ws : List Jvm.Cond) (p1 : Int32) (wT : Addr) (cl : Cell) (h0 : Heap) (n0 : Nat) (Z0 : n0 ≤ h0.size) (S_T : Sta Z h0 "com/example/plumbline/plumbline/model/ConstantKind" "BY_TAG" "[Lcom/example/plumbline/plumbline/model/ConstantKind;" (.ref wT)) (A : Arr Z h0 wT cl (.object "com/example/plumbline/plumbline/model/ConstantKind")) (hsz : cl.slots.size = (21 : Int32).toNatClampNeg) (hat : cl.slots[(((p1 &&& (2147483647 : Int32)) % (21 : Int32))).toNatClampNeg]? = some .null) :
    MetFree l x (head1 (Jvm.Cond.code x code maxLocals ret :: ws) room_1) (fun a U => a = #[(.int p1)] ∧ Z.Warmed39 U.vm ∧ U.heap = h0) (fun _ _ _ _ _ => True) (fun _ U o U' => ∃ v L, o = .returned v ∧ own_Q n0 v U'.heap L ∧ FrameEnd U o U' L room_1.cells room_1.slots) := by
  refine MetFree.of_bodySF (plainFor_of_name pn_0) hisR ?_
  intro p e s m args below meth c s₁ Bd hml0 hP hK
  obtain ⟨rfl, hZ, hh⟩ := hP
  have hx := Bd.exec
  have hby := Bd.bytes
  have hml : c.maxLocals = 4 := hml0
  have hown : s.vm.findClass "com/example/plumbline/plumbline/model/ConstantKindSlotsPinLaw" = some m.cls := findClass_of_methodNamed Bd.named
  have hnm := (name_of_methodNamed Bd.named Bd.method).1
  have X0 : Stand p l e room_1 s m #[(.int p1)] below meth c s₁ [] 0 0 := Stand.of_body Bd
  have e0 : s₁.heap = h0 := by rw [← hh, Bd.state]; rfl
  have hin : ¬ (((p1 &&& (2147483647 : Int32)) % (21 : Int32)) < 0 ∨ cl.slots.size ≤ (((p1 &&& (2147483647 : Int32)) % (21 : Int32))).toNatClampNeg) := inb_of hsz ⟨fun q => absurd (Int32.lt_iff_toInt_lt.mp q) (Int.not_lt.mpr (own_k p1).1), Int32.lt_iff_toInt_lt.mpr (own_k p1).2⟩
  have N0 := Fr.nil n0
  have pre0 : ∀ t, Steps p.tables e below (s₁.setTop (mkF m 0 #[.val (.int p1), .unset, .unset, .unset] [])) t → Steps p.tables e below (s₁.setTop (entryFrame m #[(.int p1)] maxLocals)) t := fun t k => castTop (ef_0 m p1) k
  obtain ⟨_, _, ⟨T2, L2, k2, n2⟩, -, X2, ⟨Lc2, hQ2, l2, y2, z2⟩, st2⟩ := Jvm.LawKit.callS X0 hx (y := (⟨"com/example/plumbline/plumbline/model/ConstantKind", "ofTag", "(I)Lcom/example/plumbline/plumbline/model/ConstantKind;"⟩ : MethodName)) hown (mvT hZ (hw _ (List.mem_of_getElem? (i := 1) rfl))) (mvT hZ (hw _ (List.mem_of_getElem? (i := 2) rfl))) (mvT hZ (hw _ (List.mem_of_getElem? (i := 3) rfl))) (mvT hZ (hw _ (List.mem_of_getElem? (i := 4) rfl))) (by decide) (backOf (W := 0) (rm1_n l Z a0 hw [] ((p1 &&& (2147483647 : Int32)) % (21 : Int32)) wT cl (21 : Int32) h0 n0 Z0 S_T A hsz (by decide) hin hat (fun q => absurd (Int32.lt_iff_toInt_lt.mp q) (Int.not_lt.mpr (own_k p1).1)) (Int32.lt_iff_toInt_lt.mpr (own_k p1).2)) hZ (hw _ (List.mem_of_getElem? (i := 4) rfl)) (hw _ (List.mem_of_getElem? (i := 3) rfl)) (by decide) (by decide)) (g := (mkF m 9 #[.val (.int p1), .val (.int ((p1 &&& (2147483647 : Int32)) % (21 : Int32))), .unset, .unset] [(.int ((p1 &&& (2147483647 : Int32)) % (21 : Int32)))])) rfl (by rw [hml]; rfl) (argsL := [(.int ((p1 &&& (2147483647 : Int32)) % (21 : Int32)))]) (rest := []) (lenOf pd_0_0 rfl) rfl (by show 2 * 0 + _ ≤ _; exact Nat.le_of_eq rfl) (hb hby at_9) (fun _ _ => ⟨rfl, e0, (by decide : 0 + 0 ≤ _), (by decide : 0 + 0 ≤ _)⟩)
  dsimp only [Pt.U, Pt.locs, Pt.cells, Pt.slots] at X2 l2 y2 z2 st2 hQ2
  subst l2 y2 z2
  obtain ⟨rfl, N2q, e2⟩ := hQ2
  have N2 := Fr.app N0 N2q
  obtain ⟨fs, hr, hrun, hended, hW, hsame⟩ := X2.leave (v := some (.int (1 : Int32))) (fun h => by rw [Bd.returns] at h; cases h)
  refine ⟨_, _, pre0 _ ?_, hrun, hended, _, _, rfl, ?_, ⟨_, rfl⟩, hW, hsame.mono (by decide) (by decide)⟩
  · show Steps p.tables e below (s₁.setTop (mkF m 0 #[.val (.int p1), .unset, .unset, .unset] [])) _
    refine XS.iloadN X0.here hx rfl (hb hby at_0) rfl ?_
    show Steps p.tables e below (s₁.setTop (mkF m 1 #[.val (.int p1), .unset, .unset, .unset] [(.int p1)])) _
    refine X0.ldcInt hx hown (mvT hZ (hw _ (List.mem_of_getElem? (i := 0) rfl))) (g := (mkF m 1 #[.val (.int p1), .unset, .unset, .unset] [(.int p1)])) rfl (hb hby at_1) _ ?_
    show Steps p.tables e below (s₁.setTop (mkF m 3 #[.val (.int p1), .unset, .unset, .unset] [(.int (2147483647 : Int32)), (.int p1)])) _
    refine XS.iand X0.here hx rfl (hb hby at_3) rfl ?_
    show Steps p.tables e below (s₁.setTop (mkF m 4 #[.val (.int p1), .unset, .unset, .unset] [(.int (p1 &&& (2147483647 : Int32)))])) _
    refine XS.bipush X0.here hx rfl (hb hby at_4) ?_
    show Steps p.tables e below (s₁.setTop (mkF m 6 #[.val (.int p1), .unset, .unset, .unset] [(.int (21 : Int32)), (.int (p1 &&& (2147483647 : Int32)))])) _
    refine iremM X0 hx rfl (hb hby at_6) rfl (by decide) ?_
    show Steps p.tables e below (s₁.setTop (mkF m 7 #[.val (.int p1), .unset, .unset, .unset] [(.int ((p1 &&& (2147483647 : Int32)) % (21 : Int32)))])) _
    refine XS.istoreN X0.here hx rfl (hb hby at_7) rfl (l' := #[.val (.int p1), .val (.int ((p1 &&& (2147483647 : Int32)) % (21 : Int32))), .unset, .unset]) rfl ?_
    show Steps p.tables e below (s₁.setTop (mkF m 8 #[.val (.int p1), .val (.int ((p1 &&& (2147483647 : Int32)) % (21 : Int32))), .unset, .unset] [])) _
    refine XS.iloadN X0.here hx rfl (hb hby at_8) rfl ?_
    show Steps p.tables e below (s₁.setTop (mkF m 9 #[.val (.int p1), .val (.int ((p1 &&& (2147483647 : Int32)) % (21 : Int32))), .unset, .unset] [(.int ((p1 &&& (2147483647 : Int32)) % (21 : Int32)))])) _
    refine st2 _ ?_
    show Steps p.tables e below (T2.setTop (mkF m 12 #[.val (.int p1), .val (.int ((p1 &&& (2147483647 : Int32)) % (21 : Int32))), .unset, .unset] [.null])) _
    refine XS.astoreN X2.here hx rfl (hb hby at_12) rfl rfl (l' := #[.val (.int p1), .val (.int ((p1 &&& (2147483647 : Int32)) % (21 : Int32))), .val .null, .unset]) rfl ?_
    show Steps p.tables e below (T2.setTop (mkF m 13 #[.val (.int p1), .val (.int ((p1 &&& (2147483647 : Int32)) % (21 : Int32))), .val .null, .unset] [])) _
    refine XS.aloadN X2.here hx rfl (hb hby at_13) rfl rfl ?_
    show Steps p.tables e below (T2.setTop (mkF m 14 #[.val (.int p1), .val (.int ((p1 &&& (2147483647 : Int32)) % (21 : Int32))), .val .null, .unset] [.null])) _
    refine XS.ifnonnullNo X2.here hx rfl (hb hby at_14) rfl ?_
    show Steps p.tables e below (T2.setTop (mkF m 17 #[.val (.int p1), .val (.int ((p1 &&& (2147483647 : Int32)) % (21 : Int32))), .val .null, .unset] [])) _
    refine XS.iconst X2.here hx rfl (hb hby at_17) ?_
    show Steps p.tables e below (T2.setTop (mkF m 18 #[.val (.int p1), .val (.int ((p1 &&& (2147483647 : Int32)) % (21 : Int32))), .val .null, .unset] [(.int (1 : Int32))])) _
    exact retN X2 hx (t := .boolean) Bd.returns (by simp) (hb hby at_18) hr
  · show own_Q n0 _ T2.heap _
    rw [e2]
    exact ⟨rfl, N2⟩
theorem pd_0_1 : parseMethodDescriptor "()I" = some ⟨[], some .int⟩ := by decide +kernel
set_option maxRecDepth 65536 in
set_option maxHeartbeats 40000000 in
theorem rm0_l (l : Launch) (Z : State) (a0 : Array Value) (hw : ∀ d ∈ tables_1, d.before a0 Z = true) (ws : List Jvm.Cond) (p1 : Int32) (wT wE wL wD : Addr) (cl : Cell) (h0 : Heap) (n0 : Nat) (Z0 : n0 ≤ h0.size) (E_wE : Exa Z h0 wE "com/example/plumbline/plumbline/model/ConstantKind") (S_T : Sta Z h0 "com/example/plumbline/plumbline/model/ConstantKind" "BY_TAG" "[Lcom/example/plumbline/plumbline/model/ConstantKind;" (.ref wT)) (A : Arr Z h0 wT cl (.object "com/example/plumbline/plumbline/model/ConstantKind")) (hsz : cl.slots.size = (21 : Int32).toNatClampNeg) (hat : cl.slots[(((p1 &&& (2147483647 : Int32)) % (21 : Int32))).toNatClampNeg]? = some (.ref wE)) (SL : Sta Z h0 "com/example/plumbline/plumbline/model/ConstantKind" "LONG" "Lcom/example/plumbline/plumbline/model/ConstantKind;" (.ref wL)) (SD : Sta Z h0 "com/example/plumbline/plumbline/model/ConstantKind" "DOUBLE" "Lcom/example/plumbline/plumbline/model/ConstantKind;" (.ref wD)) (ha : wE = wL) (hc21 : ((p1 &&& (2147483647 : Int32)) % (21 : Int32)) = (5 : Int32)) :
    MetFree l x (head1 (Jvm.Cond.code x code maxLocals ret :: ws) room_1) (fun a U => a = #[(.int p1)] ∧ Z.Warmed39 U.vm ∧ U.heap = h0) (fun _ _ _ _ _ => True) (fun _ U o U' => ∃ v L, o = .returned v ∧ own_Q n0 v U'.heap L ∧ FrameEnd U o U' L room_1.cells room_1.slots) := by
  refine MetFree.of_bodySF (plainFor_of_name pn_0) hisR ?_
  intro p e s m args below meth c s₁ Bd hml0 hP hK
  obtain ⟨rfl, hZ, hh⟩ := hP
  have hx := Bd.exec
  have hby := Bd.bytes
  have hml : c.maxLocals = 4 := hml0
  have hown : s.vm.findClass "com/example/plumbline/plumbline/model/ConstantKindSlotsPinLaw" = some m.cls := findClass_of_methodNamed Bd.named
  have hnm := (name_of_methodNamed Bd.named Bd.method).1
  have X0 : Stand p l e room_1 s m #[(.int p1)] below meth c s₁ [] 0 0 := Stand.of_body Bd
  have e0 : s₁.heap = h0 := by rw [← hh, Bd.state]; rfl
  have hin : ¬ (((p1 &&& (2147483647 : Int32)) % (21 : Int32)) < 0 ∨ cl.slots.size ≤ (((p1 &&& (2147483647 : Int32)) % (21 : Int32))).toNatClampNeg) := inb_of hsz ⟨fun q => absurd (Int32.lt_iff_toInt_lt.mp q) (Int.not_lt.mpr (own_k p1).1), Int32.lt_iff_toInt_lt.mpr (own_k p1).2⟩
  have N0 := Fr.nil n0
  have pre0 : ∀ t, Steps p.tables e below (s₁.setTop (mkF m 0 #[.val (.int p1), .unset, .unset, .unset] [])) t → Steps p.tables e below (s₁.setTop (entryFrame m #[(.int p1)] maxLocals)) t := fun t k => castTop (ef_0 m p1) k
  obtain ⟨_, _, ⟨T2, L2, k2, n2⟩, -, X2, ⟨Lc2, hQ2, l2, y2, z2⟩, st2⟩ := Jvm.LawKit.callS X0 hx (y := (⟨"com/example/plumbline/plumbline/model/ConstantKind", "ofTag", "(I)Lcom/example/plumbline/plumbline/model/ConstantKind;"⟩ : MethodName)) hown (mvT hZ (hw _ (List.mem_of_getElem? (i := 1) rfl))) (mvT hZ (hw _ (List.mem_of_getElem? (i := 2) rfl))) (mvT hZ (hw _ (List.mem_of_getElem? (i := 3) rfl))) (mvT hZ (hw _ (List.mem_of_getElem? (i := 4) rfl))) (by decide) (backOf (W := 0) (rm1_r l Z a0 hw [] ((p1 &&& (2147483647 : Int32)) % (21 : Int32)) wT cl (21 : Int32) wE h0 n0 Z0 S_T A hsz (by decide) hin hat (fun q => absurd (Int32.lt_iff_toInt_lt.mp q) (Int.not_lt.mpr (own_k p1).1)) (Int32.lt_iff_toInt_lt.mpr (own_k p1).2)) hZ (hw _ (List.mem_of_getElem? (i := 4) rfl)) (hw _ (List.mem_of_getElem? (i := 3) rfl)) (by decide) (by decide)) (g := (mkF m 9 #[.val (.int p1), .val (.int ((p1 &&& (2147483647 : Int32)) % (21 : Int32))), .unset, .unset] [(.int ((p1 &&& (2147483647 : Int32)) % (21 : Int32)))])) rfl (by rw [hml]; rfl) (argsL := [(.int ((p1 &&& (2147483647 : Int32)) % (21 : Int32)))]) (rest := []) (lenOf pd_0_0 rfl) rfl (by show 2 * 0 + _ ≤ _; exact Nat.le_of_eq rfl) (hb hby at_9) (fun _ _ => ⟨rfl, e0, (by decide : 0 + 0 ≤ _), (by decide : 0 + 0 ≤ _)⟩)
  dsimp only [Pt.U, Pt.locs, Pt.cells, Pt.slots] at X2 l2 y2 z2 st2 hQ2
  subst l2 y2 z2
  obtain ⟨rfl, N2q, e2⟩ := hQ2
  have N2 := Fr.app N0 N2q
  obtain ⟨cq3, kq3, q3a, q3b, q3c⟩ := isOf hZ e2 E_wE
  obtain ⟨_, _, ⟨T3, L3, k3, n3⟩, -, X3, ⟨Lc3, hQ3, l3, y3, z3⟩, st3⟩ := X2.virtualBack hx (y := (⟨"com/example/plumbline/plumbline/model/ConstantKind", "slots", "()I"⟩ : MethodName)) (z := (⟨"com/example/plumbline/plumbline/model/ConstantKind", "slots", "()I"⟩ : MethodName)) hown (mvT hZ (hw _ (List.mem_of_getElem? (i := 8) rfl))) (mvT hZ (hw _ (List.mem_of_getElem? (i := 9) rfl))) (notFace_of_selects (args := #[]) (mvT hZ (hw _ (List.mem_of_getElem? (i := 11) rfl)))) (mvT hZ (hw _ (List.mem_of_getElem? (i := 11) rfl))) (mvT hZ (hw _ (List.mem_of_getElem? (i := 10) rfl))) (by decide) (backOf (W := 0) (rm2_l l Z a0 hw [] wE wL h0 n0 Z0 SL ha) hZ (hw _ (List.mem_of_getElem? (i := 12) rfl)) (hw _ (List.mem_of_getElem? (i := 3) rfl)) (by decide) (by decide)) q3a q3c (g := (mkF m 38 #[.val (.int p1), .val (.int ((p1 &&& (2147483647 : Int32)) % (21 : Int32))), .val (.ref wE), .val (.int (2 : Int32))] [(.ref wE)])) rfl (by rw [hml]; rfl) (Steps.refl _) (argsL := []) (rest := []) (lenOf pd_0_1 rfl) rfl (by show 2 * 0 + _ ≤ _; exact Nat.le_of_eq rfl) (hb hby at_38) (fun _ _ => ⟨rfl, e2, (by decide : 0 + 0 ≤ _), (by decide : 0 + 0 ≤ _)⟩)
  dsimp only [Pt.U, Pt.locs, Pt.cells, Pt.slots] at X3 l3 y3 z3 st3 hQ3
  subst l3 y3 z3
  obtain ⟨rfl, N3q, e3⟩ := hQ3
  have N3 := Fr.app N2 N3q
  obtain ⟨fs, hr, hrun, hended, hW, hsame⟩ := X3.leave (v := some (.int (1 : Int32))) (fun h => by rw [Bd.returns] at h; cases h)
  refine ⟨_, _, pre0 _ ?_, hrun, hended, _, _, rfl, ?_, ⟨_, rfl⟩, hW, hsame.mono (by decide) (by decide)⟩
  · show Steps p.tables e below (s₁.setTop (mkF m 0 #[.val (.int p1), .unset, .unset, .unset] [])) _
    refine XS.iloadN X0.here hx rfl (hb hby at_0) rfl ?_
    show Steps p.tables e below (s₁.setTop (mkF m 1 #[.val (.int p1), .unset, .unset, .unset] [(.int p1)])) _
    refine X0.ldcInt hx hown (mvT hZ (hw _ (List.mem_of_getElem? (i := 0) rfl))) (g := (mkF m 1 #[.val (.int p1), .unset, .unset, .unset] [(.int p1)])) rfl (hb hby at_1) _ ?_
    show Steps p.tables e below (s₁.setTop (mkF m 3 #[.val (.int p1), .unset, .unset, .unset] [(.int (2147483647 : Int32)), (.int p1)])) _
    refine XS.iand X0.here hx rfl (hb hby at_3) rfl ?_
    show Steps p.tables e below (s₁.setTop (mkF m 4 #[.val (.int p1), .unset, .unset, .unset] [(.int (p1 &&& (2147483647 : Int32)))])) _
    refine XS.bipush X0.here hx rfl (hb hby at_4) ?_
    show Steps p.tables e below (s₁.setTop (mkF m 6 #[.val (.int p1), .unset, .unset, .unset] [(.int (21 : Int32)), (.int (p1 &&& (2147483647 : Int32)))])) _
    refine iremM X0 hx rfl (hb hby at_6) rfl (by decide) ?_
    show Steps p.tables e below (s₁.setTop (mkF m 7 #[.val (.int p1), .unset, .unset, .unset] [(.int ((p1 &&& (2147483647 : Int32)) % (21 : Int32)))])) _
    refine XS.istoreN X0.here hx rfl (hb hby at_7) rfl (l' := #[.val (.int p1), .val (.int ((p1 &&& (2147483647 : Int32)) % (21 : Int32))), .unset, .unset]) rfl ?_
    show Steps p.tables e below (s₁.setTop (mkF m 8 #[.val (.int p1), .val (.int ((p1 &&& (2147483647 : Int32)) % (21 : Int32))), .unset, .unset] [])) _
    refine XS.iloadN X0.here hx rfl (hb hby at_8) rfl ?_
    show Steps p.tables e below (s₁.setTop (mkF m 9 #[.val (.int p1), .val (.int ((p1 &&& (2147483647 : Int32)) % (21 : Int32))), .unset, .unset] [(.int ((p1 &&& (2147483647 : Int32)) % (21 : Int32)))])) _
    refine st2 _ ?_
    show Steps p.tables e below (T2.setTop (mkF m 12 #[.val (.int p1), .val (.int ((p1 &&& (2147483647 : Int32)) % (21 : Int32))), .unset, .unset] [(.ref wE)])) _
    refine XS.astoreN X2.here hx rfl (hb hby at_12) rfl rfl (l' := #[.val (.int p1), .val (.int ((p1 &&& (2147483647 : Int32)) % (21 : Int32))), .val (.ref wE), .unset]) rfl ?_
    show Steps p.tables e below (T2.setTop (mkF m 13 #[.val (.int p1), .val (.int ((p1 &&& (2147483647 : Int32)) % (21 : Int32))), .val (.ref wE), .unset] [])) _
    refine XS.aloadN X2.here hx rfl (hb hby at_13) rfl rfl ?_
    show Steps p.tables e below (T2.setTop (mkF m 14 #[.val (.int p1), .val (.int ((p1 &&& (2147483647 : Int32)) % (21 : Int32))), .val (.ref wE), .unset] [(.ref wE)])) _
    refine XS.ifnonnullYes X2.here hx rfl (pc0 := 14) (pc' := 19) rfl (hb hby at_14) rfl (by decide) (by decide) ?_
    show Steps p.tables e below (T2.setTop (mkF m 19 #[.val (.int p1), .val (.int ((p1 &&& (2147483647 : Int32)) % (21 : Int32))), .val (.ref wE), .unset] [])) _
    refine XS.iloadN X2.here hx rfl (hb hby at_19) rfl ?_
    show Steps p.tables e below (T2.setTop (mkF m 20 #[.val (.int p1), .val (.int ((p1 &&& (2147483647 : Int32)) % (21 : Int32))), .val (.ref wE), .unset] [(.int ((p1 &&& (2147483647 : Int32)) % (21 : Int32)))])) _
    refine XS.iconst X2.here hx rfl (hb hby at_20) ?_
    show Steps p.tables e below (T2.setTop (mkF m 21 #[.val (.int p1), .val (.int ((p1 &&& (2147483647 : Int32)) % (21 : Int32))), .val (.ref wE), .unset] [(.int (5 : Int32)), (.int ((p1 &&& (2147483647 : Int32)) % (21 : Int32)))])) _
    refine XS.icmpYes X2.here hx rfl (pc0 := 21) (pc' := 30) rfl (hb hby at_21) rfl (teq hc21).1 (by decide) (by decide) ?_
    show Steps p.tables e below (T2.setTop (mkF m 30 #[.val (.int p1), .val (.int ((p1 &&& (2147483647 : Int32)) % (21 : Int32))), .val (.ref wE), .unset] [])) _
    refine XS.iconst X2.here hx rfl (hb hby at_30) ?_
    show Steps p.tables e below (T2.setTop (mkF m 31 #[.val (.int p1), .val (.int ((p1 &&& (2147483647 : Int32)) % (21 : Int32))), .val (.ref wE), .unset] [(.int (2 : Int32))])) _
    refine XS.istoreN X2.here hx rfl (hb hby at_31) rfl (l' := #[.val (.int p1), .val (.int ((p1 &&& (2147483647 : Int32)) % (21 : Int32))), .val (.ref wE), .val (.int (2 : Int32))]) rfl ?_
    show Steps p.tables e below (T2.setTop (mkF m 32 #[.val (.int p1), .val (.int ((p1 &&& (2147483647 : Int32)) % (21 : Int32))), .val (.ref wE), .val (.int (2 : Int32))] [])) _
    refine XS.goto X2.here hx rfl (pc0 := 32) (pc' := 37) rfl (hb hby at_32) (by decide) (by decide) ?_
    show Steps p.tables e below (T2.setTop (mkF m 37 #[.val (.int p1), .val (.int ((p1 &&& (2147483647 : Int32)) % (21 : Int32))), .val (.ref wE), .val (.int (2 : Int32))] [])) _
    refine XS.aloadN X2.here hx rfl (hb hby at_37) rfl rfl ?_
    show Steps p.tables e below (T2.setTop (mkF m 38 #[.val (.int p1), .val (.int ((p1 &&& (2147483647 : Int32)) % (21 : Int32))), .val (.ref wE), .val (.int (2 : Int32))] [(.ref wE)])) _
    refine st3.trans ?_
    show Steps p.tables e below (T3.setTop (mkF m 41 #[.val (.int p1), .val (.int ((p1 &&& (2147483647 : Int32)) % (21 : Int32))), .val (.ref wE), .val (.int (2 : Int32))] [(.int (2 : Int32))])) _
    refine XS.iloadN X3.here hx rfl (hb hby at_41) rfl ?_
    show Steps p.tables e below (T3.setTop (mkF m 42 #[.val (.int p1), .val (.int ((p1 &&& (2147483647 : Int32)) % (21 : Int32))), .val (.ref wE), .val (.int (2 : Int32))] [(.int (2 : Int32)), (.int (2 : Int32))])) _
    refine XS.icmpNo X3.here hx rfl (hb hby at_42) rfl (teq (rfl : (2 : Int32) = (2 : Int32))).2 ?_
    show Steps p.tables e below (T3.setTop (mkF m 45 #[.val (.int p1), .val (.int ((p1 &&& (2147483647 : Int32)) % (21 : Int32))), .val (.ref wE), .val (.int (2 : Int32))] [])) _
    refine XS.iconst X3.here hx rfl (hb hby at_45) ?_
    show Steps p.tables e below (T3.setTop (mkF m 46 #[.val (.int p1), .val (.int ((p1 &&& (2147483647 : Int32)) % (21 : Int32))), .val (.ref wE), .val (.int (2 : Int32))] [(.int (1 : Int32))])) _
    refine XS.goto X3.here hx rfl (pc0 := 46) (pc' := 50) rfl (hb hby at_46) (by decide) (by decide) ?_
    show Steps p.tables e below (T3.setTop (mkF m 50 #[.val (.int p1), .val (.int ((p1 &&& (2147483647 : Int32)) % (21 : Int32))), .val (.ref wE), .val (.int (2 : Int32))] [(.int (1 : Int32))])) _
    exact retN X3 hx (t := .boolean) Bd.returns (by simp) (hb hby at_50) hr
  · show own_Q n0 _ T3.heap _
    rw [e3]
    exact ⟨rfl, N3⟩
set_option maxRecDepth 65536 in
set_option maxHeartbeats 40000000 in
theorem rm0_d (l : Launch) (Z : State) (a0 : Array Value) (hw : ∀ d ∈ tables_1, d.before a0 Z = true) (ws : List Jvm.Cond) (p1 : Int32) (wT wE wL wD : Addr) (cl : Cell) (h0 : Heap) (n0 : Nat) (Z0 : n0 ≤ h0.size) (E_wE : Exa Z h0 wE "com/example/plumbline/plumbline/model/ConstantKind") (S_T : Sta Z h0 "com/example/plumbline/plumbline/model/ConstantKind" "BY_TAG" "[Lcom/example/plumbline/plumbline/model/ConstantKind;" (.ref wT)) (A : Arr Z h0 wT cl (.object "com/example/plumbline/plumbline/model/ConstantKind")) (hsz : cl.slots.size = (21 : Int32).toNatClampNeg) (hat : cl.slots[(((p1 &&& (2147483647 : Int32)) % (21 : Int32))).toNatClampNeg]? = some (.ref wE)) (SL : Sta Z h0 "com/example/plumbline/plumbline/model/ConstantKind" "LONG" "Lcom/example/plumbline/plumbline/model/ConstantKind;" (.ref wL)) (SD : Sta Z h0 "com/example/plumbline/plumbline/model/ConstantKind" "DOUBLE" "Lcom/example/plumbline/plumbline/model/ConstantKind;" (.ref wD)) (hb1 : ¬ (wE = wL)) (hb2 : wE = wD) (hc21 : ¬ (((p1 &&& (2147483647 : Int32)) % (21 : Int32)) = (5 : Int32))) (hc27 : ((p1 &&& (2147483647 : Int32)) % (21 : Int32)) = (6 : Int32)) :
    MetFree l x (head1 (Jvm.Cond.code x code maxLocals ret :: ws) room_1) (fun a U => a = #[(.int p1)] ∧ Z.Warmed39 U.vm ∧ U.heap = h0) (fun _ _ _ _ _ => True) (fun _ U o U' => ∃ v L, o = .returned v ∧ own_Q n0 v U'.heap L ∧ FrameEnd U o U' L room_1.cells room_1.slots) := by
  refine MetFree.of_bodySF (plainFor_of_name pn_0) hisR ?_
  intro p e s m args below meth c s₁ Bd hml0 hP hK
  obtain ⟨rfl, hZ, hh⟩ := hP
  have hx := Bd.exec
  have hby := Bd.bytes
  have hml : c.maxLocals = 4 := hml0
  have hown : s.vm.findClass "com/example/plumbline/plumbline/model/ConstantKindSlotsPinLaw" = some m.cls := findClass_of_methodNamed Bd.named
  have hnm := (name_of_methodNamed Bd.named Bd.method).1
  have X0 : Stand p l e room_1 s m #[(.int p1)] below meth c s₁ [] 0 0 := Stand.of_body Bd
  have e0 : s₁.heap = h0 := by rw [← hh, Bd.state]; rfl
  have hin : ¬ (((p1 &&& (2147483647 : Int32)) % (21 : Int32)) < 0 ∨ cl.slots.size ≤ (((p1 &&& (2147483647 : Int32)) % (21 : Int32))).toNatClampNeg) := inb_of hsz ⟨fun q => absurd (Int32.lt_iff_toInt_lt.mp q) (Int.not_lt.mpr (own_k p1).1), Int32.lt_iff_toInt_lt.mpr (own_k p1).2⟩
  have N0 := Fr.nil n0
  have pre0 : ∀ t, Steps p.tables e below (s₁.setTop (mkF m 0 #[.val (.int p1), .unset, .unset, .unset] [])) t → Steps p.tables e below (s₁.setTop (entryFrame m #[(.int p1)] maxLocals)) t := fun t k => castTop (ef_0 m p1) k
  obtain ⟨_, _, ⟨T2, L2, k2, n2⟩, -, X2, ⟨Lc2, hQ2, l2, y2, z2⟩, st2⟩ := Jvm.LawKit.callS X0 hx (y := (⟨"com/example/plumbline/plumbline/model/ConstantKind", "ofTag", "(I)Lcom/example/plumbline/plumbline/model/ConstantKind;"⟩ : MethodName)) hown (mvT hZ (hw _ (List.mem_of_getElem? (i := 1) rfl))) (mvT hZ (hw _ (List.mem_of_getElem? (i := 2) rfl))) (mvT hZ (hw _ (List.mem_of_getElem? (i := 3) rfl))) (mvT hZ (hw _ (List.mem_of_getElem? (i := 4) rfl))) (by decide) (backOf (W := 0) (rm1_r l Z a0 hw [] ((p1 &&& (2147483647 : Int32)) % (21 : Int32)) wT cl (21 : Int32) wE h0 n0 Z0 S_T A hsz (by decide) hin hat (fun q => absurd (Int32.lt_iff_toInt_lt.mp q) (Int.not_lt.mpr (own_k p1).1)) (Int32.lt_iff_toInt_lt.mpr (own_k p1).2)) hZ (hw _ (List.mem_of_getElem? (i := 4) rfl)) (hw _ (List.mem_of_getElem? (i := 3) rfl)) (by decide) (by decide)) (g := (mkF m 9 #[.val (.int p1), .val (.int ((p1 &&& (2147483647 : Int32)) % (21 : Int32))), .unset, .unset] [(.int ((p1 &&& (2147483647 : Int32)) % (21 : Int32)))])) rfl (by rw [hml]; rfl) (argsL := [(.int ((p1 &&& (2147483647 : Int32)) % (21 : Int32)))]) (rest := []) (lenOf pd_0_0 rfl) rfl (by show 2 * 0 + _ ≤ _; exact Nat.le_of_eq rfl) (hb hby at_9) (fun _ _ => ⟨rfl, e0, (by decide : 0 + 0 ≤ _), (by decide : 0 + 0 ≤ _)⟩)
  dsimp only [Pt.U, Pt.locs, Pt.cells, Pt.slots] at X2 l2 y2 z2 st2 hQ2
  subst l2 y2 z2
  obtain ⟨rfl, N2q, e2⟩ := hQ2
  have N2 := Fr.app N0 N2q
  obtain ⟨cq3, kq3, q3a, q3b, q3c⟩ := isOf hZ e2 E_wE
  obtain ⟨_, _, ⟨T3, L3, k3, n3⟩, -, X3, ⟨Lc3, hQ3, l3, y3, z3⟩, st3⟩ := X2.virtualBack hx (y := (⟨"com/example/plumbline/plumbline/model/ConstantKind", "slots", "()I"⟩ : MethodName)) (z := (⟨"com/example/plumbline/plumbline/model/ConstantKind", "slots", "()I"⟩ : MethodName)) hown (mvT hZ (hw _ (List.mem_of_getElem? (i := 8) rfl))) (mvT hZ (hw _ (List.mem_of_getElem? (i := 9) rfl))) (notFace_of_selects (args := #[]) (mvT hZ (hw _ (List.mem_of_getElem? (i := 11) rfl)))) (mvT hZ (hw _ (List.mem_of_getElem? (i := 11) rfl))) (mvT hZ (hw _ (List.mem_of_getElem? (i := 10) rfl))) (by decide) (backOf (W := 0) (rm2_d l Z a0 hw [] wE wL wD h0 n0 Z0 SL SD hb1 hb2) hZ (hw _ (List.mem_of_getElem? (i := 12) rfl)) (hw _ (List.mem_of_getElem? (i := 3) rfl)) (by decide) (by decide)) q3a q3c (g := (mkF m 38 #[.val (.int p1), .val (.int ((p1 &&& (2147483647 : Int32)) % (21 : Int32))), .val (.ref wE), .val (.int (2 : Int32))] [(.ref wE)])) rfl (by rw [hml]; rfl) (Steps.refl _) (argsL := []) (rest := []) (lenOf pd_0_1 rfl) rfl (by show 2 * 0 + _ ≤ _; exact Nat.le_of_eq rfl) (hb hby at_38) (fun _ _ => ⟨rfl, e2, (by decide : 0 + 0 ≤ _), (by decide : 0 + 0 ≤ _)⟩)
  dsimp only [Pt.U, Pt.locs, Pt.cells, Pt.slots] at X3 l3 y3 z3 st3 hQ3
  subst l3 y3 z3
  obtain ⟨rfl, N3q, e3⟩ := hQ3
  have N3 := Fr.app N2 N3q
  obtain ⟨fs, hr, hrun, hended, hW, hsame⟩ := X3.leave (v := some (.int (1 : Int32))) (fun h => by rw [Bd.returns] at h; cases h)
  refine ⟨_, _, pre0 _ ?_, hrun, hended, _, _, rfl, ?_, ⟨_, rfl⟩, hW, hsame.mono (by decide) (by decide)⟩
  · show Steps p.tables e below (s₁.setTop (mkF m 0 #[.val (.int p1), .unset, .unset, .unset] [])) _
    refine XS.iloadN X0.here hx rfl (hb hby at_0) rfl ?_
    show Steps p.tables e below (s₁.setTop (mkF m 1 #[.val (.int p1), .unset, .unset, .unset] [(.int p1)])) _
    refine X0.ldcInt hx hown (mvT hZ (hw _ (List.mem_of_getElem? (i := 0) rfl))) (g := (mkF m 1 #[.val (.int p1), .unset, .unset, .unset] [(.int p1)])) rfl (hb hby at_1) _ ?_
    show Steps p.tables e below (s₁.setTop (mkF m 3 #[.val (.int p1), .unset, .unset, .unset] [(.int (2147483647 : Int32)), (.int p1)])) _
    refine XS.iand X0.here hx rfl (hb hby at_3) rfl ?_
    show Steps p.tables e below (s₁.setTop (mkF m 4 #[.val (.int p1), .unset, .unset, .unset] [(.int (p1 &&& (2147483647 : Int32)))])) _
    refine XS.bipush X0.here hx rfl (hb hby at_4) ?_
    show Steps p.tables e below (s₁.setTop (mkF m 6 #[.val (.int p1), .unset, .unset, .unset] [(.int (21 : Int32)), (.int (p1 &&& (2147483647 : Int32)))])) _
    refine iremM X0 hx rfl (hb hby at_6) rfl (by decide) ?_
    show Steps p.tables e below (s₁.setTop (mkF m 7 #[.val (.int p1), .unset, .unset, .unset] [(.int ((p1 &&& (2147483647 : Int32)) % (21 : Int32)))])) _
    refine XS.istoreN X0.here hx rfl (hb hby at_7) rfl (l' := #[.val (.int p1), .val (.int ((p1 &&& (2147483647 : Int32)) % (21 : Int32))), .unset, .unset]) rfl ?_
    show Steps p.tables e below (s₁.setTop (mkF m 8 #[.val (.int p1), .val (.int ((p1 &&& (2147483647 : Int32)) % (21 : Int32))), .unset, .unset] [])) _
    refine XS.iloadN X0.here hx rfl (hb hby at_8) rfl ?_
    show Steps p.tables e below (s₁.setTop (mkF m 9 #[.val (.int p1), .val (.int ((p1 &&& (2147483647 : Int32)) % (21 : Int32))), .unset, .unset] [(.int ((p1 &&& (2147483647 : Int32)) % (21 : Int32)))])) _
    refine st2 _ ?_
    show Steps p.tables e below (T2.setTop (mkF m 12 #[.val (.int p1), .val (.int ((p1 &&& (2147483647 : Int32)) % (21 : Int32))), .unset, .unset] [(.ref wE)])) _
    refine XS.astoreN X2.here hx rfl (hb hby at_12) rfl rfl (l' := #[.val (.int p1), .val (.int ((p1 &&& (2147483647 : Int32)) % (21 : Int32))), .val (.ref wE), .unset]) rfl ?_
    show Steps p.tables e below (T2.setTop (mkF m 13 #[.val (.int p1), .val (.int ((p1 &&& (2147483647 : Int32)) % (21 : Int32))), .val (.ref wE), .unset] [])) _
    refine XS.aloadN X2.here hx rfl (hb hby at_13) rfl rfl ?_
    show Steps p.tables e below (T2.setTop (mkF m 14 #[.val (.int p1), .val (.int ((p1 &&& (2147483647 : Int32)) % (21 : Int32))), .val (.ref wE), .unset] [(.ref wE)])) _
    refine XS.ifnonnullYes X2.here hx rfl (pc0 := 14) (pc' := 19) rfl (hb hby at_14) rfl (by decide) (by decide) ?_
    show Steps p.tables e below (T2.setTop (mkF m 19 #[.val (.int p1), .val (.int ((p1 &&& (2147483647 : Int32)) % (21 : Int32))), .val (.ref wE), .unset] [])) _
    refine XS.iloadN X2.here hx rfl (hb hby at_19) rfl ?_
    show Steps p.tables e below (T2.setTop (mkF m 20 #[.val (.int p1), .val (.int ((p1 &&& (2147483647 : Int32)) % (21 : Int32))), .val (.ref wE), .unset] [(.int ((p1 &&& (2147483647 : Int32)) % (21 : Int32)))])) _
    refine XS.iconst X2.here hx rfl (hb hby at_20) ?_
    show Steps p.tables e below (T2.setTop (mkF m 21 #[.val (.int p1), .val (.int ((p1 &&& (2147483647 : Int32)) % (21 : Int32))), .val (.ref wE), .unset] [(.int (5 : Int32)), (.int ((p1 &&& (2147483647 : Int32)) % (21 : Int32)))])) _
    refine XS.icmpNo X2.here hx rfl (hb hby at_21) rfl (feq hc21).1 ?_
    show Steps p.tables e below (T2.setTop (mkF m 24 #[.val (.int p1), .val (.int ((p1 &&& (2147483647 : Int32)) % (21 : Int32))), .val (.ref wE), .unset] [])) _
    refine XS.iloadN X2.here hx rfl (hb hby at_24) rfl ?_
    show Steps p.tables e below (T2.setTop (mkF m 25 #[.val (.int p1), .val (.int ((p1 &&& (2147483647 : Int32)) % (21 : Int32))), .val (.ref wE), .unset] [(.int ((p1 &&& (2147483647 : Int32)) % (21 : Int32)))])) _
    refine XS.bipush X2.here hx rfl (hb hby at_25) ?_
    show Steps p.tables e below (T2.setTop (mkF m 27 #[.val (.int p1), .val (.int ((p1 &&& (2147483647 : Int32)) % (21 : Int32))), .val (.ref wE), .unset] [(.int (6 : Int32)), (.int ((p1 &&& (2147483647 : Int32)) % (21 : Int32)))])) _
    refine XS.icmpNo X2.here hx rfl (hb hby at_27) rfl (teq hc27).2 ?_
    show Steps p.tables e below (T2.setTop (mkF m 30 #[.val (.int p1), .val (.int ((p1 &&& (2147483647 : Int32)) % (21 : Int32))), .val (.ref wE), .unset] [])) _
    refine XS.iconst X2.here hx rfl (hb hby at_30) ?_
    show Steps p.tables e below (T2.setTop (mkF m 31 #[.val (.int p1), .val (.int ((p1 &&& (2147483647 : Int32)) % (21 : Int32))), .val (.ref wE), .unset] [(.int (2 : Int32))])) _
    refine XS.istoreN X2.here hx rfl (hb hby at_31) rfl (l' := #[.val (.int p1), .val (.int ((p1 &&& (2147483647 : Int32)) % (21 : Int32))), .val (.ref wE), .val (.int (2 : Int32))]) rfl ?_
    show Steps p.tables e below (T2.setTop (mkF m 32 #[.val (.int p1), .val (.int ((p1 &&& (2147483647 : Int32)) % (21 : Int32))), .val (.ref wE), .val (.int (2 : Int32))] [])) _
    refine XS.goto X2.here hx rfl (pc0 := 32) (pc' := 37) rfl (hb hby at_32) (by decide) (by decide) ?_
    show Steps p.tables e below (T2.setTop (mkF m 37 #[.val (.int p1), .val (.int ((p1 &&& (2147483647 : Int32)) % (21 : Int32))), .val (.ref wE), .val (.int (2 : Int32))] [])) _
    refine XS.aloadN X2.here hx rfl (hb hby at_37) rfl rfl ?_
    show Steps p.tables e below (T2.setTop (mkF m 38 #[.val (.int p1), .val (.int ((p1 &&& (2147483647 : Int32)) % (21 : Int32))), .val (.ref wE), .val (.int (2 : Int32))] [(.ref wE)])) _
    refine st3.trans ?_
    show Steps p.tables e below (T3.setTop (mkF m 41 #[.val (.int p1), .val (.int ((p1 &&& (2147483647 : Int32)) % (21 : Int32))), .val (.ref wE), .val (.int (2 : Int32))] [(.int (2 : Int32))])) _
    refine XS.iloadN X3.here hx rfl (hb hby at_41) rfl ?_
    show Steps p.tables e below (T3.setTop (mkF m 42 #[.val (.int p1), .val (.int ((p1 &&& (2147483647 : Int32)) % (21 : Int32))), .val (.ref wE), .val (.int (2 : Int32))] [(.int (2 : Int32)), (.int (2 : Int32))])) _
    refine XS.icmpNo X3.here hx rfl (hb hby at_42) rfl (teq (rfl : (2 : Int32) = (2 : Int32))).2 ?_
    show Steps p.tables e below (T3.setTop (mkF m 45 #[.val (.int p1), .val (.int ((p1 &&& (2147483647 : Int32)) % (21 : Int32))), .val (.ref wE), .val (.int (2 : Int32))] [])) _
    refine XS.iconst X3.here hx rfl (hb hby at_45) ?_
    show Steps p.tables e below (T3.setTop (mkF m 46 #[.val (.int p1), .val (.int ((p1 &&& (2147483647 : Int32)) % (21 : Int32))), .val (.ref wE), .val (.int (2 : Int32))] [(.int (1 : Int32))])) _
    refine XS.goto X3.here hx rfl (pc0 := 46) (pc' := 50) rfl (hb hby at_46) (by decide) (by decide) ?_
    show Steps p.tables e below (T3.setTop (mkF m 50 #[.val (.int p1), .val (.int ((p1 &&& (2147483647 : Int32)) % (21 : Int32))), .val (.ref wE), .val (.int (2 : Int32))] [(.int (1 : Int32))])) _
    exact retN X3 hx (t := .boolean) Bd.returns (by simp) (hb hby at_50) hr
  · show own_Q n0 _ T3.heap _
    rw [e3]
    exact ⟨rfl, N3⟩
set_option maxRecDepth 65536 in
set_option maxHeartbeats 40000000 in
theorem rm0_o (l : Launch) (Z : State) (a0 : Array Value) (hw : ∀ d ∈ tables_1, d.before a0 Z = true) (ws : List Jvm.Cond) (p1 : Int32) (wT wE wL wD : Addr) (cl : Cell) (h0 : Heap) (n0 : Nat) (Z0 : n0 ≤ h0.size) (E_wE : Exa Z h0 wE "com/example/plumbline/plumbline/model/ConstantKind") (S_T : Sta Z h0 "com/example/plumbline/plumbline/model/ConstantKind" "BY_TAG" "[Lcom/example/plumbline/plumbline/model/ConstantKind;" (.ref wT)) (A : Arr Z h0 wT cl (.object "com/example/plumbline/plumbline/model/ConstantKind")) (hsz : cl.slots.size = (21 : Int32).toNatClampNeg) (hat : cl.slots[(((p1 &&& (2147483647 : Int32)) % (21 : Int32))).toNatClampNeg]? = some (.ref wE)) (SL : Sta Z h0 "com/example/plumbline/plumbline/model/ConstantKind" "LONG" "Lcom/example/plumbline/plumbline/model/ConstantKind;" (.ref wL)) (SD : Sta Z h0 "com/example/plumbline/plumbline/model/ConstantKind" "DOUBLE" "Lcom/example/plumbline/plumbline/model/ConstantKind;" (.ref wD)) (hb1 : ¬ (wE = wL)) (hb2 : ¬ (wE = wD)) (hc21 : ¬ (((p1 &&& (2147483647 : Int32)) % (21 : Int32)) = (5 : Int32))) (hc27 : ¬ (((p1 &&& (2147483647 : Int32)) % (21 : Int32)) = (6 : Int32))) :
    MetFree l x (head1 (Jvm.Cond.code x code maxLocals ret :: ws) room_1) (fun a U => a = #[(.int p1)] ∧ Z.Warmed39 U.vm ∧ U.heap = h0) (fun _ _ _ _ _ => True) (fun _ U o U' => ∃ v L, o = .returned v ∧ own_Q n0 v U'.heap L ∧ FrameEnd U o U' L room_1.cells room_1.slots) := by
  refine MetFree.of_bodySF (plainFor_of_name pn_0) hisR ?_
  intro p e s m args below meth c s₁ Bd hml0 hP hK
  obtain ⟨rfl, hZ, hh⟩ := hP
  have hx := Bd.exec
  have hby := Bd.bytes
  have hml : c.maxLocals = 4 := hml0
  have hown : s.vm.findClass "com/example/plumbline/plumbline/model/ConstantKindSlotsPinLaw" = some m.cls := findClass_of_methodNamed Bd.named
  have hnm := (name_of_methodNamed Bd.named Bd.method).1
  have X0 : Stand p l e room_1 s m #[(.int p1)] below meth c s₁ [] 0 0 := Stand.of_body Bd
  have e0 : s₁.heap = h0 := by rw [← hh, Bd.state]; rfl
  have hin : ¬ (((p1 &&& (2147483647 : Int32)) % (21 : Int32)) < 0 ∨ cl.slots.size ≤ (((p1 &&& (2147483647 : Int32)) % (21 : Int32))).toNatClampNeg) := inb_of hsz ⟨fun q => absurd (Int32.lt_iff_toInt_lt.mp q) (Int.not_lt.mpr (own_k p1).1), Int32.lt_iff_toInt_lt.mpr (own_k p1).2⟩
  have N0 := Fr.nil n0
  have pre0 : ∀ t, Steps p.tables e below (s₁.setTop (mkF m 0 #[.val (.int p1), .unset, .unset, .unset] [])) t → Steps p.tables e below (s₁.setTop (entryFrame m #[(.int p1)] maxLocals)) t := fun t k => castTop (ef_0 m p1) k
  obtain ⟨_, _, ⟨T2, L2, k2, n2⟩, -, X2, ⟨Lc2, hQ2, l2, y2, z2⟩, st2⟩ := Jvm.LawKit.callS X0 hx (y := (⟨"com/example/plumbline/plumbline/model/ConstantKind", "ofTag", "(I)Lcom/example/plumbline/plumbline/model/ConstantKind;"⟩ : MethodName)) hown (mvT hZ (hw _ (List.mem_of_getElem? (i := 1) rfl))) (mvT hZ (hw _ (List.mem_of_getElem? (i := 2) rfl))) (mvT hZ (hw _ (List.mem_of_getElem? (i := 3) rfl))) (mvT hZ (hw _ (List.mem_of_getElem? (i := 4) rfl))) (by decide) (backOf (W := 0) (rm1_r l Z a0 hw [] ((p1 &&& (2147483647 : Int32)) % (21 : Int32)) wT cl (21 : Int32) wE h0 n0 Z0 S_T A hsz (by decide) hin hat (fun q => absurd (Int32.lt_iff_toInt_lt.mp q) (Int.not_lt.mpr (own_k p1).1)) (Int32.lt_iff_toInt_lt.mpr (own_k p1).2)) hZ (hw _ (List.mem_of_getElem? (i := 4) rfl)) (hw _ (List.mem_of_getElem? (i := 3) rfl)) (by decide) (by decide)) (g := (mkF m 9 #[.val (.int p1), .val (.int ((p1 &&& (2147483647 : Int32)) % (21 : Int32))), .unset, .unset] [(.int ((p1 &&& (2147483647 : Int32)) % (21 : Int32)))])) rfl (by rw [hml]; rfl) (argsL := [(.int ((p1 &&& (2147483647 : Int32)) % (21 : Int32)))]) (rest := []) (lenOf pd_0_0 rfl) rfl (by show 2 * 0 + _ ≤ _; exact Nat.le_of_eq rfl) (hb hby at_9) (fun _ _ => ⟨rfl, e0, (by decide : 0 + 0 ≤ _), (by decide : 0 + 0 ≤ _)⟩)
  dsimp only [Pt.U, Pt.locs, Pt.cells, Pt.slots] at X2 l2 y2 z2 st2 hQ2
  subst l2 y2 z2
  obtain ⟨rfl, N2q, e2⟩ := hQ2
  have N2 := Fr.app N0 N2q
  obtain ⟨cq3, kq3, q3a, q3b, q3c⟩ := isOf hZ e2 E_wE
  obtain ⟨_, _, ⟨T3, L3, k3, n3⟩, -, X3, ⟨Lc3, hQ3, l3, y3, z3⟩, st3⟩ := X2.virtualBack hx (y := (⟨"com/example/plumbline/plumbline/model/ConstantKind", "slots", "()I"⟩ : MethodName)) (z := (⟨"com/example/plumbline/plumbline/model/ConstantKind", "slots", "()I"⟩ : MethodName)) hown (mvT hZ (hw _ (List.mem_of_getElem? (i := 8) rfl))) (mvT hZ (hw _ (List.mem_of_getElem? (i := 9) rfl))) (notFace_of_selects (args := #[]) (mvT hZ (hw _ (List.mem_of_getElem? (i := 11) rfl)))) (mvT hZ (hw _ (List.mem_of_getElem? (i := 11) rfl))) (mvT hZ (hw _ (List.mem_of_getElem? (i := 10) rfl))) (by decide) (backOf (W := 0) (rm2_o l Z a0 hw [] wE wL wD h0 n0 Z0 SL SD hb1 hb2) hZ (hw _ (List.mem_of_getElem? (i := 12) rfl)) (hw _ (List.mem_of_getElem? (i := 3) rfl)) (by decide) (by decide)) q3a q3c (g := (mkF m 38 #[.val (.int p1), .val (.int ((p1 &&& (2147483647 : Int32)) % (21 : Int32))), .val (.ref wE), .val (.int (1 : Int32))] [(.ref wE)])) rfl (by rw [hml]; rfl) (Steps.refl _) (argsL := []) (rest := []) (lenOf pd_0_1 rfl) rfl (by show 2 * 0 + _ ≤ _; exact Nat.le_of_eq rfl) (hb hby at_38) (fun _ _ => ⟨rfl, e2, (by decide : 0 + 0 ≤ _), (by decide : 0 + 0 ≤ _)⟩)
  dsimp only [Pt.U, Pt.locs, Pt.cells, Pt.slots] at X3 l3 y3 z3 st3 hQ3
  subst l3 y3 z3
  obtain ⟨rfl, N3q, e3⟩ := hQ3
  have N3 := Fr.app N2 N3q
  obtain ⟨fs, hr, hrun, hended, hW, hsame⟩ := X3.leave (v := some (.int (1 : Int32))) (fun h => by rw [Bd.returns] at h; cases h)
  refine ⟨_, _, pre0 _ ?_, hrun, hended, _, _, rfl, ?_, ⟨_, rfl⟩, hW, hsame.mono (by decide) (by decide)⟩
  · show Steps p.tables e below (s₁.setTop (mkF m 0 #[.val (.int p1), .unset, .unset, .unset] [])) _
    refine XS.iloadN X0.here hx rfl (hb hby at_0) rfl ?_
    show Steps p.tables e below (s₁.setTop (mkF m 1 #[.val (.int p1), .unset, .unset, .unset] [(.int p1)])) _
    refine X0.ldcInt hx hown (mvT hZ (hw _ (List.mem_of_getElem? (i := 0) rfl))) (g := (mkF m 1 #[.val (.int p1), .unset, .unset, .unset] [(.int p1)])) rfl (hb hby at_1) _ ?_
    show Steps p.tables e below (s₁.setTop (mkF m 3 #[.val (.int p1), .unset, .unset, .unset] [(.int (2147483647 : Int32)), (.int p1)])) _
    refine XS.iand X0.here hx rfl (hb hby at_3) rfl ?_
    show Steps p.tables e below (s₁.setTop (mkF m 4 #[.val (.int p1), .unset, .unset, .unset] [(.int (p1 &&& (2147483647 : Int32)))])) _
    refine XS.bipush X0.here hx rfl (hb hby at_4) ?_
    show Steps p.tables e below (s₁.setTop (mkF m 6 #[.val (.int p1), .unset, .unset, .unset] [(.int (21 : Int32)), (.int (p1 &&& (2147483647 : Int32)))])) _
    refine iremM X0 hx rfl (hb hby at_6) rfl (by decide) ?_
    show Steps p.tables e below (s₁.setTop (mkF m 7 #[.val (.int p1), .unset, .unset, .unset] [(.int ((p1 &&& (2147483647 : Int32)) % (21 : Int32)))])) _
    refine XS.istoreN X0.here hx rfl (hb hby at_7) rfl (l' := #[.val (.int p1), .val (.int ((p1 &&& (2147483647 : Int32)) % (21 : Int32))), .unset, .unset]) rfl ?_
    show Steps p.tables e below (s₁.setTop (mkF m 8 #[.val (.int p1), .val (.int ((p1 &&& (2147483647 : Int32)) % (21 : Int32))), .unset, .unset] [])) _
    refine XS.iloadN X0.here hx rfl (hb hby at_8) rfl ?_
    show Steps p.tables e below (s₁.setTop (mkF m 9 #[.val (.int p1), .val (.int ((p1 &&& (2147483647 : Int32)) % (21 : Int32))), .unset, .unset] [(.int ((p1 &&& (2147483647 : Int32)) % (21 : Int32)))])) _
    refine st2 _ ?_
    show Steps p.tables e below (T2.setTop (mkF m 12 #[.val (.int p1), .val (.int ((p1 &&& (2147483647 : Int32)) % (21 : Int32))), .unset, .unset] [(.ref wE)])) _
    refine XS.astoreN X2.here hx rfl (hb hby at_12) rfl rfl (l' := #[.val (.int p1), .val (.int ((p1 &&& (2147483647 : Int32)) % (21 : Int32))), .val (.ref wE), .unset]) rfl ?_
    show Steps p.tables e below (T2.setTop (mkF m 13 #[.val (.int p1), .val (.int ((p1 &&& (2147483647 : Int32)) % (21 : Int32))), .val (.ref wE), .unset] [])) _
    refine XS.aloadN X2.here hx rfl (hb hby at_13) rfl rfl ?_
    show Steps p.tables e below (T2.setTop (mkF m 14 #[.val (.int p1), .val (.int ((p1 &&& (2147483647 : Int32)) % (21 : Int32))), .val (.ref wE), .unset] [(.ref wE)])) _
    refine XS.ifnonnullYes X2.here hx rfl (pc0 := 14) (pc' := 19) rfl (hb hby at_14) rfl (by decide) (by decide) ?_
    show Steps p.tables e below (T2.setTop (mkF m 19 #[.val (.int p1), .val (.int ((p1 &&& (2147483647 : Int32)) % (21 : Int32))), .val (.ref wE), .unset] [])) _
    refine XS.iloadN X2.here hx rfl (hb hby at_19) rfl ?_
    show Steps p.tables e below (T2.setTop (mkF m 20 #[.val (.int p1), .val (.int ((p1 &&& (2147483647 : Int32)) % (21 : Int32))), .val (.ref wE), .unset] [(.int ((p1 &&& (2147483647 : Int32)) % (21 : Int32)))])) _
    refine XS.iconst X2.here hx rfl (hb hby at_20) ?_
    show Steps p.tables e below (T2.setTop (mkF m 21 #[.val (.int p1), .val (.int ((p1 &&& (2147483647 : Int32)) % (21 : Int32))), .val (.ref wE), .unset] [(.int (5 : Int32)), (.int ((p1 &&& (2147483647 : Int32)) % (21 : Int32)))])) _
    refine XS.icmpNo X2.here hx rfl (hb hby at_21) rfl (feq hc21).1 ?_
    show Steps p.tables e below (T2.setTop (mkF m 24 #[.val (.int p1), .val (.int ((p1 &&& (2147483647 : Int32)) % (21 : Int32))), .val (.ref wE), .unset] [])) _
    refine XS.iloadN X2.here hx rfl (hb hby at_24) rfl ?_
    show Steps p.tables e below (T2.setTop (mkF m 25 #[.val (.int p1), .val (.int ((p1 &&& (2147483647 : Int32)) % (21 : Int32))), .val (.ref wE), .unset] [(.int ((p1 &&& (2147483647 : Int32)) % (21 : Int32)))])) _
    refine XS.bipush X2.here hx rfl (hb hby at_25) ?_
    show Steps p.tables e below (T2.setTop (mkF m 27 #[.val (.int p1), .val (.int ((p1 &&& (2147483647 : Int32)) % (21 : Int32))), .val (.ref wE), .unset] [(.int (6 : Int32)), (.int ((p1 &&& (2147483647 : Int32)) % (21 : Int32)))])) _
    refine XS.icmpYes X2.here hx rfl (pc0 := 27) (pc' := 35) rfl (hb hby at_27) rfl (feq hc27).2 (by decide) (by decide) ?_
    show Steps p.tables e below (T2.setTop (mkF m 35 #[.val (.int p1), .val (.int ((p1 &&& (2147483647 : Int32)) % (21 : Int32))), .val (.ref wE), .unset] [])) _
    refine XS.iconst X2.here hx rfl (hb hby at_35) ?_
    show Steps p.tables e below (T2.setTop (mkF m 36 #[.val (.int p1), .val (.int ((p1 &&& (2147483647 : Int32)) % (21 : Int32))), .val (.ref wE), .unset] [(.int (1 : Int32))])) _
    refine XS.istoreN X2.here hx rfl (hb hby at_36) rfl (l' := #[.val (.int p1), .val (.int ((p1 &&& (2147483647 : Int32)) % (21 : Int32))), .val (.ref wE), .val (.int (1 : Int32))]) rfl ?_
    show Steps p.tables e below (T2.setTop (mkF m 37 #[.val (.int p1), .val (.int ((p1 &&& (2147483647 : Int32)) % (21 : Int32))), .val (.ref wE), .val (.int (1 : Int32))] [])) _
    refine XS.aloadN X2.here hx rfl (hb hby at_37) rfl rfl ?_
    show Steps p.tables e below (T2.setTop (mkF m 38 #[.val (.int p1), .val (.int ((p1 &&& (2147483647 : Int32)) % (21 : Int32))), .val (.ref wE), .val (.int (1 : Int32))] [(.ref wE)])) _
    refine st3.trans ?_
    show Steps p.tables e below (T3.setTop (mkF m 41 #[.val (.int p1), .val (.int ((p1 &&& (2147483647 : Int32)) % (21 : Int32))), .val (.ref wE), .val (.int (1 : Int32))] [(.int (1 : Int32))])) _
    refine XS.iloadN X3.here hx rfl (hb hby at_41) rfl ?_
    show Steps p.tables e below (T3.setTop (mkF m 42 #[.val (.int p1), .val (.int ((p1 &&& (2147483647 : Int32)) % (21 : Int32))), .val (.ref wE), .val (.int (1 : Int32))] [(.int (1 : Int32)), (.int (1 : Int32))])) _
    refine XS.icmpNo X3.here hx rfl (hb hby at_42) rfl (teq (rfl : (1 : Int32) = (1 : Int32))).2 ?_
    show Steps p.tables e below (T3.setTop (mkF m 45 #[.val (.int p1), .val (.int ((p1 &&& (2147483647 : Int32)) % (21 : Int32))), .val (.ref wE), .val (.int (1 : Int32))] [])) _
    refine XS.iconst X3.here hx rfl (hb hby at_45) ?_
    show Steps p.tables e below (T3.setTop (mkF m 46 #[.val (.int p1), .val (.int ((p1 &&& (2147483647 : Int32)) % (21 : Int32))), .val (.ref wE), .val (.int (1 : Int32))] [(.int (1 : Int32))])) _
    refine XS.goto X3.here hx rfl (pc0 := 46) (pc' := 50) rfl (hb hby at_46) (by decide) (by decide) ?_
    show Steps p.tables e below (T3.setTop (mkF m 50 #[.val (.int p1), .val (.int ((p1 &&& (2147483647 : Int32)) % (21 : Int32))), .val (.ref wE), .val (.int (1 : Int32))] [(.int (1 : Int32))])) _
    exact retN X3 hx (t := .boolean) Bd.returns (by simp) (hb hby at_50) hr
  · show own_Q n0 _ T3.heap _
    rw [e3]
    exact ⟨rfl, N3⟩
theorem own_len {args : Array Value} {s : State} {t : Term} {a : Addr} {cl : Cell} {ty : FieldType} (ht : t.eval args s none [] s = some (.ref a)) (A : Arr s s.heap a cl ty)
    (h : (Jvm.Cond.eq (Jvm.Term.length t) (Jvm.Term.int (21 : Int32))).value args s none s [] = some true) : cl.slots.size = (21 : Int32).toNatClampNeg := by
  have e0 := Arr.fin (Vm.Alike.refl _) A
  by_cases hl : cl.slots.size < 2 ^ 31
  · have e1 : (Term.length t).eval args s none [] s = some (.int cl.slots.size.toInt32) := len_f ht e0 hl
    have e2 : (Term.int 21).eval args s none [] s = some (.int 21) := rfl
    simp only [Cond.value, e1, e2] at h
    have h' : cl.slots.size.toInt32 = 21 := by simpa using h
    have h3 : cl.slots.size.toInt32.toInt = (21 : Int32).toInt := by rw [h']
    rw [len_toInt hl] at h3
    have : (21 : Int32).toInt = 21 := by decide
    have h4 : (21 : Int32).toNatClampNeg = 21 := by decide
    omega
  · exfalso
    have e1 : (Term.length t).eval args s none [] s = none := by simp [Term.eval, ht, e0, hl]
    simp [Cond.value, e1] at h
set_option maxRecDepth 65536 in
set_option maxHeartbeats 40000000 in
theorem comes_1 {Post : Tables → Env → Array Value → State → Outcome → State → Prop} (hpost : ∀ tb e args s v u, (limb_1_1.after args s (.returned v) u = true ∧ limb_1_2.after args s (.returned v) u = true ∧ True) → FrameEnd s (.returned v) u (Jvm.fieldLocs frame_1_writes args s ++ Jvm.arrayLocs frame_1_arrays args s ++ Jvm.staticLocs frame_1_statics s) 0 0 → Post tb e args s (.returned v) u) :
    ArmFor flags0 classFile x code maxLocals ret World_1 tables_1 room_1 Calls_1 rest_1 Pre_1 Post := by
  intro l hfl _ _ p e ha hc hk s m args below hf hA hF happ hP
  obtain ⟨hcalls, hrest, hpre⟩ := hP
  obtain ⟨-, -, -, hnamed, -, -, -, hat⟩ := (Spec.applies_iff hf).mp happ
  obtain ⟨hg, hn⟩ := and_e (Cond.before_iff.mp (show (Jvm.Cond.and given_1 narrow_1).before args s = true from hpre))
  obtain ⟨g3, g4⟩ := and_e hg
  obtain ⟨w0, rfl⟩ : ∃ w0 : Value, args = #[w0] := by
    have hs : args.size = 1 := by simpa [Cond.value, given_1] using g3
    obtain ⟨L⟩ := args
    match L, hs with
    | [w0], _ => exact ⟨w0, rfl⟩
  have hw := fun d (hd : d ∈ tables_1) => atoms_spec (ws := Jvm.Cond.code x code maxLocals ret :: tables_1) hat d (List.mem_cons_of_mem _ hd)
  have hfit : Fit s := fun {y c} hc i hi => by
    obtain ⟨ha, rfl⟩ := Array.getElem?_eq_some_iff.mp hc
    have q := List.all_eq_true.mp ((Array.all_eq_true_iff_forall_mem.mp hF) _ (Array.getElem_mem ha)) i (List.mem_range.mpr hi)
    simpa [Array.getElem?_eq_getElem hi] using q
  obtain ⟨i0, ei0⟩ := is_v g4
  obtain rfl : w0 = (.int i0) := Option.some.inj ei0
  obtain ⟨n1, hn⟩ := and_e hn
  obtain ⟨n2, hn⟩ := and_e hn
  obtain ⟨n3, hn⟩ := and_e hn
  obtain ⟨n4, hn⟩ := and_e hn
  obtain ⟨n5, hn⟩ := and_e hn
  obtain ⟨n6, hn⟩ := and_e hn
  obtain ⟨n7, hn⟩ := and_e hn
  obtain ⟨n8, hn⟩ := and_e hn
  obtain ⟨n9, hn⟩ := and_e hn
  obtain ⟨n10, hn⟩ := and_e hn
  obtain ⟨n11, hn⟩ := and_e hn
  obtain ⟨n12, hn⟩ := and_e hn
  obtain ⟨n13, hn⟩ := and_e hn
  obtain ⟨n14, hn⟩ := and_e hn
  obtain ⟨n15, hn⟩ := and_e hn
  obtain ⟨n16, hn⟩ := and_e hn
  obtain ⟨n17, hn⟩ := and_e hn
  obtain ⟨n18, hn⟩ := and_e hn
  obtain ⟨n19, hn⟩ := and_e hn
  obtain ⟨n20, hn⟩ := and_e hn
  obtain ⟨n21, hn⟩ := and_e hn
  obtain ⟨n22, hn⟩ := and_e hn
  obtain ⟨n23, hn⟩ := and_e hn
  obtain ⟨n24, hn⟩ := and_e hn
  obtain ⟨n25, hn⟩ := and_e hn
  obtain ⟨n26, hn⟩ := and_e hn
  obtain ⟨n27, hn⟩ := and_e hn
  obtain ⟨n28, hn⟩ := and_e hn
  obtain ⟨n29, hn⟩ := and_e hn
  obtain ⟨n30, hn⟩ := and_e hn
  obtain ⟨n31, hn⟩ := and_e hn
  obtain ⟨n32, hn⟩ := and_e hn
  obtain ⟨n33, hn⟩ := and_e hn
  obtain ⟨n34, hn⟩ := and_e hn
  obtain ⟨n35, hn⟩ := and_e hn
  obtain ⟨n36, hn⟩ := and_e hn
  obtain ⟨n37, hn⟩ := and_e hn
  obtain ⟨n38, hn⟩ := and_e hn
  obtain ⟨n39, hn⟩ := and_e hn
  obtain ⟨n40, hn⟩ := and_e hn
  obtain ⟨n41, hn⟩ := and_e hn
  obtain ⟨n42, hn⟩ := and_e hn
  obtain ⟨n43, hn⟩ := and_e hn
  obtain ⟨n44, hn⟩ := and_e hn
  obtain ⟨n45, hn⟩ := and_e hn
  obtain ⟨n46, hn⟩ := and_e hn
  obtain ⟨n47, hn⟩ := and_e hn
  obtain ⟨n48, hn⟩ := and_e hn
  obtain ⟨n49, hn⟩ := and_e hn
  obtain ⟨n50, hn⟩ := and_e hn
  obtain ⟨n51, hn⟩ := and_e hn
  obtain ⟨n52, hn⟩ := and_e hn
  obtain ⟨n53, hn⟩ := and_e hn
  obtain ⟨n54, hn⟩ := and_e hn
  obtain ⟨n55, hn⟩ := and_e hn
  obtain ⟨n56, n57⟩ := and_e hn
  obtain ⟨wT, vT⟩ := arr_v n1
  obtain ⟨cl, A⟩ := Arr.start vT n1
  have ST := Sta.start vT (Or.inr ⟨(hw _ (List.mem_of_getElem? (i := 3) rfl)), (hw _ (List.mem_of_getElem? (i := 6) rfl))⟩)
  have hsz : cl.slots.size = (21 : Int32).toNatClampNeg := own_len vT A n2
  obtain ⟨wINTEGER, vINTEGER⟩ := exa_v n4
  obtain ⟨wLONG, vLONG⟩ := exa_v n6
  obtain ⟨wDOUBLE, vDOUBLE⟩ := exa_v n9
  obtain ⟨wINTERFACE_METHODREF, vINTERFACE_METHODREF⟩ := exa_v n14
  obtain ⟨wCLASS, vCLASS⟩ := exa_v n17
  obtain ⟨wMETHODREF, vMETHODREF⟩ := exa_v n21
  obtain ⟨wSTRING, vSTRING⟩ := exa_v n24
  obtain ⟨wUTF8, vUTF8⟩ := exa_v n27
  obtain ⟨wMETHOD_HANDLE, vMETHOD_HANDLE⟩ := exa_v n31
  obtain ⟨wFIELDREF, vFIELDREF⟩ := exa_v n34
  obtain ⟨wMODULE, vMODULE⟩ := exa_v n37
  obtain ⟨wMETHOD_TYPE, vMETHOD_TYPE⟩ := exa_v n40
  obtain ⟨wDYNAMIC, vDYNAMIC⟩ := exa_v n43
  obtain ⟨wPACKAGE, vPACKAGE⟩ := exa_v n46
  obtain ⟨wFLOAT, vFLOAT⟩ := exa_v n49
  obtain ⟨wNAME_AND_TYPE, vNAME_AND_TYPE⟩ := exa_v n52
  obtain ⟨wINVOKE_DYNAMIC, vINVOKE_DYNAMIC⟩ := exa_v n55
  have SL := Sta.start vLONG (Or.inr ⟨(hw _ (List.mem_of_getElem? (i := 3) rfl)), (hw _ (List.mem_of_getElem? (i := 14) rfl))⟩)
  have SD := Sta.start vDOUBLE (Or.inr ⟨(hw _ (List.mem_of_getElem? (i := 3) rfl)), (hw _ (List.mem_of_getElem? (i := 16) rfl))⟩)
  have hall : MetFree l x (head1 (Jvm.Cond.code x code maxLocals ret :: tables_1) room_1) (fun a U => a = #[(.int i0)] ∧ s.Warmed39 U.vm ∧ U.heap = s.heap) (fun _ _ _ _ _ => True) (fun _ U o U' => ∃ v L, o = .returned v ∧ own_Q s.heap.size v U'.heap L ∧ FrameEnd U o U' L room_1.cells room_1.slots) := by
    rcases own_cases (own_k i0).1 (own_k i0).2 with h | h | h | h | h | h | h | h | h | h | h | h | h | h | h | h | h | h | h | h | h
    · exact rm0_n l s _ hw tables_1 i0 wT cl s.heap s.heap.size (Nat.le_refl _) ST A hsz (by rw [h]; exact own_nul vT A n3 (by decide))
    · exact rm0_o l s _ hw tables_1 i0 wT wUTF8 wLONG wDOUBLE cl s.heap s.heap.size (Nat.le_refl _) (Exa.start vUTF8 n27) ST A hsz (by rw [h]; exact own_elem vT A vUTF8 n28 (by decide)) SL SD (own_ne vUTF8 vLONG n29 n8 (by decide)) (own_ne vUTF8 vDOUBLE n29 n10 (by decide)) (by rw [h]; decide) (by rw [h]; decide)
    · exact rm0_n l s _ hw tables_1 i0 wT cl s.heap s.heap.size (Nat.le_refl _) ST A hsz (by rw [h]; exact own_nul vT A n20 (by decide))
    · exact rm0_o l s _ hw tables_1 i0 wT wINTEGER wLONG wDOUBLE cl s.heap s.heap.size (Nat.le_refl _) (Exa.start vINTEGER n4) ST A hsz (by rw [h]; exact own_elem vT A vINTEGER n5 (by decide)) SL SD (own_ne vINTEGER vLONG n7 n8 (by decide)) (own_ne vINTEGER vDOUBLE n7 n10 (by decide)) (by rw [h]; decide) (by rw [h]; decide)
    · exact rm0_o l s _ hw tables_1 i0 wT wFLOAT wLONG wDOUBLE cl s.heap s.heap.size (Nat.le_refl _) (Exa.start vFLOAT n49) ST A hsz (by rw [h]; exact own_elem vT A vFLOAT n50 (by decide)) SL SD (own_ne vFLOAT vLONG n51 n8 (by decide)) (own_ne vFLOAT vDOUBLE n51 n10 (by decide)) (by rw [h]; decide) (by rw [h]; decide)
    · exact rm0_l l s _ hw tables_1 i0 wT wLONG wLONG wDOUBLE cl s.heap s.heap.size (Nat.le_refl _) (Exa.start vLONG n6) ST A hsz (by rw [h]; exact own_elem vT A vLONG n11 (by decide)) SL SD rfl h
    · exact rm0_d l s _ hw tables_1 i0 wT wDOUBLE wLONG wDOUBLE cl s.heap s.heap.size (Nat.le_refl _) (Exa.start vDOUBLE n9) ST A hsz (by rw [h]; exact own_elem vT A vDOUBLE n13 (by decide)) SL SD (own_ne vDOUBLE vLONG n10 n8 (by decide)) rfl (by rw [h]; decide) h
    · exact rm0_o l s _ hw tables_1 i0 wT wCLASS wLONG wDOUBLE cl s.heap s.heap.size (Nat.le_refl _) (Exa.start vCLASS n17) ST A hsz (by rw [h]; exact own_elem vT A vCLASS n18 (by decide)) SL SD (own_ne vCLASS vLONG n19 n8 (by decide)) (own_ne vCLASS vDOUBLE n19 n10 (by decide)) (by rw [h]; decide) (by rw [h]; decide)
    · exact rm0_o l s _ hw tables_1 i0 wT wSTRING wLONG wDOUBLE cl s.heap s.heap.size (Nat.le_refl _) (Exa.start vSTRING n24) ST A hsz (by rw [h]; exact own_elem vT A vSTRING n25 (by decide)) SL SD (own_ne vSTRING vLONG n26 n8 (by decide)) (own_ne vSTRING vDOUBLE n26 n10 (by decide)) (by rw [h]; decide) (by rw [h]; decide)
    · exact rm0_o l s _ hw tables_1 i0 wT wFIELDREF wLONG wDOUBLE cl s.heap s.heap.size (Nat.le_refl _) (Exa.start vFIELDREF n34) ST A hsz (by rw [h]; exact own_elem vT A vFIELDREF n35 (by decide)) SL SD (own_ne vFIELDREF vLONG n36 n8 (by decide)) (own_ne vFIELDREF vDOUBLE n36 n10 (by decide)) (by rw [h]; decide) (by rw [h]; decide)
    · exact rm0_o l s _ hw tables_1 i0 wT wMETHODREF wLONG wDOUBLE cl s.heap s.heap.size (Nat.le_refl _) (Exa.start vMETHODREF n21) ST A hsz (by rw [h]; exact own_elem vT A vMETHODREF n22 (by decide)) SL SD (own_ne vMETHODREF vLONG n23 n8 (by decide)) (own_ne vMETHODREF vDOUBLE n23 n10 (by decide)) (by rw [h]; decide) (by rw [h]; decide)
    · exact rm0_o l s _ hw tables_1 i0 wT wINTERFACE_METHODREF wLONG wDOUBLE cl s.heap s.heap.size (Nat.le_refl _) (Exa.start vINTERFACE_METHODREF n14) ST A hsz (by rw [h]; exact own_elem vT A vINTERFACE_METHODREF n15 (by decide)) SL SD (own_ne vINTERFACE_METHODREF vLONG n16 n8 (by decide)) (own_ne vINTERFACE_METHODREF vDOUBLE n16 n10 (by decide)) (by rw [h]; decide) (by rw [h]; decide)
    · exact rm0_o l s _ hw tables_1 i0 wT wNAME_AND_TYPE wLONG wDOUBLE cl s.heap s.heap.size (Nat.le_refl _) (Exa.start vNAME_AND_TYPE n52) ST A hsz (by rw [h]; exact own_elem vT A vNAME_AND_TYPE n53 (by decide)) SL SD (own_ne vNAME_AND_TYPE vLONG n54 n8 (by decide)) (own_ne vNAME_AND_TYPE vDOUBLE n54 n10 (by decide)) (by rw [h]; decide) (by rw [h]; decide)
    · exact rm0_n l s _ hw tables_1 i0 wT cl s.heap s.heap.size (Nat.le_refl _) ST A hsz (by rw [h]; exact own_nul vT A n12 (by decide))
    · exact rm0_n l s _ hw tables_1 i0 wT cl s.heap s.heap.size (Nat.le_refl _) ST A hsz (by rw [h]; exact own_nul vT A n30 (by decide))
    · exact rm0_o l s _ hw tables_1 i0 wT wMETHOD_HANDLE wLONG wDOUBLE cl s.heap s.heap.size (Nat.le_refl _) (Exa.start vMETHOD_HANDLE n31) ST A hsz (by rw [h]; exact own_elem vT A vMETHOD_HANDLE n32 (by decide)) SL SD (own_ne vMETHOD_HANDLE vLONG n33 n8 (by decide)) (own_ne vMETHOD_HANDLE vDOUBLE n33 n10 (by decide)) (by rw [h]; decide) (by rw [h]; decide)
    · exact rm0_o l s _ hw tables_1 i0 wT wMETHOD_TYPE wLONG wDOUBLE cl s.heap s.heap.size (Nat.le_refl _) (Exa.start vMETHOD_TYPE n40) ST A hsz (by rw [h]; exact own_elem vT A vMETHOD_TYPE n41 (by decide)) SL SD (own_ne vMETHOD_TYPE vLONG n42 n8 (by decide)) (own_ne vMETHOD_TYPE vDOUBLE n42 n10 (by decide)) (by rw [h]; decide) (by rw [h]; decide)
    · exact rm0_o l s _ hw tables_1 i0 wT wDYNAMIC wLONG wDOUBLE cl s.heap s.heap.size (Nat.le_refl _) (Exa.start vDYNAMIC n43) ST A hsz (by rw [h]; exact own_elem vT A vDYNAMIC n44 (by decide)) SL SD (own_ne vDYNAMIC vLONG n45 n8 (by decide)) (own_ne vDYNAMIC vDOUBLE n45 n10 (by decide)) (by rw [h]; decide) (by rw [h]; decide)
    · exact rm0_o l s _ hw tables_1 i0 wT wINVOKE_DYNAMIC wLONG wDOUBLE cl s.heap s.heap.size (Nat.le_refl _) (Exa.start vINVOKE_DYNAMIC n55) ST A hsz (by rw [h]; exact own_elem vT A vINVOKE_DYNAMIC n56 (by decide)) SL SD (own_ne vINVOKE_DYNAMIC vLONG n57 n8 (by decide)) (own_ne vINVOKE_DYNAMIC vDOUBLE n57 n10 (by decide)) (by rw [h]; decide) (by rw [h]; decide)
    · exact rm0_o l s _ hw tables_1 i0 wT wMODULE wLONG wDOUBLE cl s.heap s.heap.size (Nat.le_refl _) (Exa.start vMODULE n37) ST A hsz (by rw [h]; exact own_elem vT A vMODULE n38 (by decide)) SL SD (own_ne vMODULE vLONG n39 n8 (by decide)) (own_ne vMODULE vDOUBLE n39 n10 (by decide)) (by rw [h]; decide) (by rw [h]; decide)
    · exact rm0_o l s _ hw tables_1 i0 wT wPACKAGE wLONG wDOUBLE cl s.heap s.heap.size (Nat.le_refl _) (Exa.start vPACKAGE n46) ST A hsz (by rw [h]; exact own_elem vT A vPACKAGE n47 (by decide)) SL SD (own_ne vPACKAGE vLONG n48 n8 (by decide)) (own_ne vPACKAGE vDOUBLE n48 n10 (by decide)) (by rw [h]; decide) (by rw [h]; decide)
  obtain ⟨n, o, h1, h2, h3, _, L, rfl, ⟨rfl, N⟩, hq⟩ := hall p e ha hc hk s m _ below hf ((Spec.applies_iff_loose hf).mp happ).1 ⟨rfl, State.Warmed39.refl s, rfl⟩ trivial
  refine ⟨n, _, h1, h2, h3, hpost _ _ _ _ _ _ ⟨Cond.after_iff.mpr rfl, Cond.after_iff.mpr (eq_i res_at (Term.int_eval (1)) rfl), trivial⟩ ⟨hq.1, hq.2.1, (hq.2.2.sift fun y hy => Or.inr (N y hy)).mono (by decide) (by decide)⟩⟩
theorem main_1_1 : Claimed_1_1 := comes_1 fun _ _ _ _ _ _ h hF => ⟨h.1, hF⟩
theorem main_1_2 : Claimed_1_2 := comes_1 fun _ _ _ _ _ _ h hF => ⟨h.2.1, hF⟩

end Jvm.Pilot.@@N@@
namespace Jvm.Pilot.@@N@@
open Jvm Jvm.ClassFile Sem Op Lib Jvm.Free Jvm.Stand Jvm.Pilot.@@N@@.Jvm.D
/-! MADE BY PROGRAM (witnessworld.py) out of the Statement's table words and the real class files: 13 classes; the members and pool entries that the words name. The judged class is class 1, her method 1. -/
namespace start1
open Jvm.ClassFile
def u (s : String) : CpInfo := .utf8 (stringToUtf16 s)
/-- a pool by its gaps: so many unusable entries, then the entry; so many at the end -/
def gap : Nat → List CpInfo → List CpInfo
  | 0, r => r
  | n + 1, r => .unusable :: gap n r
def poolList (es : List (Nat × CpInfo)) (last : Nat) : List CpInfo := es.foldr (fun e r => gap e.1 (e.2 :: r)) (gap last [])
def pool (es : List (Nat × CpInfo)) (last : Nat) : Array CpInfo := ⟨poolList es last⟩
def fileOf (pool : Array CpInfo) (this : Nat) (attrs : Array Attribute := #[]) (ms : Array MethodInfo := #[]) (fl : Nat := 33) (sup : Nat := 0) (ifs : Array Nat := #[]) (fds : Array FieldInfo := #[]) : ClassFile where
  minorVersion := 0
  majorVersion := 65
  constantPool := pool
  accessFlags := fl
  thisClass := this
  superClass := sup
  interfaces := ifs
  fields := fds
  methods := ms
  attributes := attrs
def plain (name : String) (sup : Option ClassId) : Class where
  name := name
  kind := .ordinary
  loader := none
  accessFlags := 33
  super := sup
  interfaces := #[]
  cf := none
  fields := #[]
  methods := #[]
  instanceTypes := #[]
  staticTypes := #[]
  resolved := #[]
  callSites := []
  init := .initialized
  statics := none
  mirror := none

def pool0 : Array CpInfo := pool [(5, u "<init>"), (0, u "()V"), (1, .class_ 10), (1, u "java/lang/Object")] 113

def k0m0 : Method := { name := "<init>", desc := "()V", sig := { parameters := [], returnType := none }, accessFlags := 1, code := none }
/-- java/lang/Object -/
def k0 : Class := { plain "java/lang/Object" none with
  accessFlags := 33
  interfaces := #[]
  cf := some (fileOf pool0 8 #[] #[{ accessFlags := 1, nameIndex := 5, descriptorIndex := 6, attributes := #[] }] 33 0 #[] #[])
  fields := #[]
  methods := #[k0m0]
  instanceTypes := #[]
  staticTypes := #[]
  resolved := Array.replicate 124 none
  statics := none }

def pool1 : Array CpInfo := pool [(2, .class_ 4), (1, u "java/lang/Object"), (0, u "<init>"), (0, u "()V"), (0, .integer 2147483647), (0, .methodref 9 10), (0, .class_ 11), (0, .nameAndType 12 13), (0, u "com/example/plumbline/plumbline/model/ConstantKind"), (0, u "ofTag"), (0, u "(I)Lcom/example/plumbline/plumbline/model/ConstantKind;"), (0, .methodref 9 15), (0, .nameAndType 16 17), (0, u "slots"), (0, u "()I"), (0, .class_ 19), (0, u "com/example/plumbline/plumbline/model/ConstantKindSlotsPinLaw"), (2, u "law"), (0, u "(I)Z")] 3

def k1m0 : Method := { name := "<init>", desc := "()V", sig := { parameters := [], returnType := none }, accessFlags := 2, code := none }
def k1c1 : Code := { maxStack := 2, maxLocals := 4, code := code, exceptionTable := #[], attributes := #[] }
def k1m1 : Method := { name := "law", desc := "(I)Z", sig := { parameters := [.int], returnType := some .boolean }, accessFlags := 9, code := some k1c1 }
/-- com/example/plumbline/plumbline/model/ConstantKindSlotsPinLaw -/
def k1 : Class := { plain "com/example/plumbline/plumbline/model/ConstantKindSlotsPinLaw" (some 0) with
  accessFlags := 49
  interfaces := #[]
  cf := some (fileOf pool1 18 #[] #[{ accessFlags := 2, nameIndex := 5, descriptorIndex := 6, attributes := #[] }, { accessFlags := 9, nameIndex := 22, descriptorIndex := 23, attributes := #[] }] 49 2 #[] #[])
  fields := #[]
  methods := #[k1m0, k1m1]
  instanceTypes := #[]
  staticTypes := #[]
  resolved := Array.replicate 27 none
  statics := none }

def pool2 : Array CpInfo := pool [(1, .class_ 2), (0, u "java/lang/constant/Constable"), (0, .class_ 4), (0, u "java/lang/Object")] 6

/-- java/lang/constant/Constable -/
def k2 : Class := { plain "java/lang/constant/Constable" (some 0) with
  accessFlags := 1537
  interfaces := #[]
  cf := some (fileOf pool2 1 #[] #[] 1537 3 #[] #[])
  fields := #[]
  methods := #[]
  instanceTypes := #[]
  staticTypes := #[]
  resolved := Array.replicate 11 none
  statics := none }

def pool3 : Array CpInfo := pool [(1, .class_ 2), (0, u "java/lang/Comparable"), (0, .class_ 4), (0, u "java/lang/Object")] 7

/-- java/lang/Comparable -/
def k3 : Class := { plain "java/lang/Comparable" (some 0) with
  accessFlags := 1537
  interfaces := #[]
  cf := some (fileOf pool3 1 #[] #[] 1537 3 #[] #[])
  fields := #[]
  methods := #[]
  instanceTypes := #[]
  staticTypes := #[]
  resolved := Array.replicate 12 none
  statics := none }

def pool4 : Array CpInfo := pool [(1, .class_ 2), (0, u "java/io/Serializable"), (0, .class_ 4), (0, u "java/lang/Object")] 2

/-- java/io/Serializable -/
def k4 : Class := { plain "java/io/Serializable" (some 0) with
  accessFlags := 1537
  interfaces := #[]
  cf := some (fileOf pool4 1 #[] #[] 1537 3 #[] #[])
  fields := #[]
  methods := #[]
  instanceTypes := #[]
  staticTypes := #[]
  resolved := Array.replicate 7 none
  statics := none }

def pool5 : Array CpInfo := pool [(2, .class_ 4), (1, u "java/lang/Enum"), (0, u "name"), (0, u "Ljava/lang/String;"), (2, u "ordinal"), (0, u "I"), (1, .class_ 14), (1, u "java/lang/Object"), (4, u "hash"), (86, .class_ 108), (1, u "java/lang/Enum$EnumDesc"), (2, .class_ 112), (0, u "java/lang/constant/Constable"), (0, .class_ 114), (0, u "java/lang/Comparable"), (0, .class_ 116), (0, u "java/io/Serializable")] 87

/-- java/lang/Enum -/
def k5 : Class := { plain "java/lang/Enum" (some 0) with
  accessFlags := 1057
  interfaces := #[2, 3, 4]
  cf := some (fileOf pool5 2 #[.nestMembers #[106]] #[] 1057 12 #[111, 113, 115] #[{ accessFlags := 18, nameIndex := 5, descriptorIndex := 6, attributes := #[] }, { accessFlags := 18, nameIndex := 9, descriptorIndex := 10, attributes := #[] }, { accessFlags := 2, nameIndex := 19, descriptorIndex := 10, attributes := #[] }])
  fields := #[{ name := "name", type := (.object "java/lang/String"), accessFlags := 18, slot := 0, constantValue := 0 }, { name := "ordinal", type := .int, accessFlags := 18, slot := 1, constantValue := 0 }, { name := "hash", type := .int, accessFlags := 2, slot := 2, constantValue := 0 }]
  methods := #[]
  instanceTypes := #[(.object "java/lang/String"), .int, .int]
  staticTypes := #[]
  resolved := Array.replicate 204 none
  statics := none }

def pool6 : Array CpInfo := pool [(1, .class_ 2), (0, u "com/example/plumbline/plumbline/model/ConstantKind"), (2, u "UTF8"), (0, u "Lcom/example/plumbline/plumbline/model/ConstantKind;"), (2, u "INTEGER"), (2, u "FLOAT"), (0, .fieldref 1 14), (0, .nameAndType 15 6), (0, u "LONG"), (0, .fieldref 1 17), (0, .nameAndType 18 6), (0, u "DOUBLE"), (2, u "CLASS"), (2, u "STRING"), (2, u "FIELDREF"), (2, u "METHODREF"), (2, u "INTERFACE_METHODREF"), (2, u "NAME_AND_TYPE"), (2, u "METHOD_HANDLE"), (2, u "METHOD_TYPE"), (2, u "DYNAMIC"), (2, u "INVOKE_DYNAMIC"), (2, u "MODULE"), (2, u "PACKAGE"), (2, u "$VALUES"), (0, u "[Lcom/example/plumbline/plumbline/model/ConstantKind;"), (6, .class_ 67), (1, u "java/lang/Enum"), (8, u "tag"), (0, u "I"), (2, u "sinceMajorVersion"), (0, .fieldref 1 82), (0, .nameAndType 83 58), (0, u "BY_TAG"), (3, u "()I"), (33, u "ofTag"), (0, u "(I)Lcom/example/plumbline/plumbline/model/ConstantKind;"), (1, u "slots")] 7

def k6c0 : Code := { maxStack := 2, maxLocals := 1, code := prog_27_method_4_code, exceptionTable := #[], attributes := #[] }
def k6m0 : Method := { name := "ofTag", desc := "(I)Lcom/example/plumbline/plumbline/model/ConstantKind;", sig := { parameters := [.int], returnType := some (.object "com/example/plumbline/plumbline/model/ConstantKind") }, accessFlags := 9, code := some k6c0 }
def k6c1 : Code := { maxStack := 2, maxLocals := 1, code := prog_27_method_6_code, exceptionTable := #[], attributes := #[] }
def k6m1 : Method := { name := "slots", desc := "()I", sig := { parameters := [], returnType := some .int }, accessFlags := 1, code := some k6c1 }
/-- com/example/plumbline/plumbline/model/ConstantKind -/
def k6 : Class := { plain "com/example/plumbline/plumbline/model/ConstantKind" (some 5) with
  accessFlags := 16433
  interfaces := #[]
  cf := some (fileOf pool6 1 #[] #[{ accessFlags := 9, nameIndex := 121, descriptorIndex := 122, attributes := #[] }, { accessFlags := 1, nameIndex := 124, descriptorIndex := 87, attributes := #[] }] 16433 65 #[] #[{ accessFlags := 16409, nameIndex := 5, descriptorIndex := 6, attributes := #[] }, { accessFlags := 16409, nameIndex := 9, descriptorIndex := 6, attributes := #[] }, { accessFlags := 16409, nameIndex := 12, descriptorIndex := 6, attributes := #[] }, { accessFlags := 16409, nameIndex := 15, descriptorIndex := 6, attributes := #[] }, { accessFlags := 16409, nameIndex := 18, descriptorIndex := 6, attributes := #[] }, { accessFlags := 16409, nameIndex := 21, descriptorIndex := 6, attributes := #[] }, { accessFlags := 16409, nameIndex := 24, descriptorIndex := 6, attributes := #[] }, { accessFlags := 16409, nameIndex := 27, descriptorIndex := 6, attributes := #[] }, { accessFlags := 16409, nameIndex := 30, descriptorIndex := 6, attributes := #[] }, { accessFlags := 16409, nameIndex := 33, descriptorIndex := 6, attributes := #[] }, { accessFlags := 16409, nameIndex := 36, descriptorIndex := 6, attributes := #[] }, { accessFlags := 16409, nameIndex := 39, descriptorIndex := 6, attributes := #[] }, { accessFlags := 16409, nameIndex := 42, descriptorIndex := 6, attributes := #[] }, { accessFlags := 16409, nameIndex := 45, descriptorIndex := 6, attributes := #[] }, { accessFlags := 16409, nameIndex := 48, descriptorIndex := 6, attributes := #[] }, { accessFlags := 16409, nameIndex := 51, descriptorIndex := 6, attributes := #[] }, { accessFlags := 16409, nameIndex := 54, descriptorIndex := 6, attributes := #[] }, { accessFlags := 18, nameIndex := 76, descriptorIndex := 77, attributes := #[] }, { accessFlags := 18, nameIndex := 80, descriptorIndex := 77, attributes := #[] }, { accessFlags := 26, nameIndex := 83, descriptorIndex := 58, attributes := #[] }, { accessFlags := 4122, nameIndex := 57, descriptorIndex := 58, attributes := #[] }])
  fields := #[{ name := "UTF8", type := (.object "com/example/plumbline/plumbline/model/ConstantKind"), accessFlags := 16409, slot := 0, constantValue := 0 }, { name := "INTEGER", type := (.object "com/example/plumbline/plumbline/model/ConstantKind"), accessFlags := 16409, slot := 1, constantValue := 0 }, { name := "FLOAT", type := (.object "com/example/plumbline/plumbline/model/ConstantKind"), accessFlags := 16409, slot := 2, constantValue := 0 }, { name := "LONG", type := (.object "com/example/plumbline/plumbline/model/ConstantKind"), accessFlags := 16409, slot := 3, constantValue := 0 }, { name := "DOUBLE", type := (.object "com/example/plumbline/plumbline/model/ConstantKind"), accessFlags := 16409, slot := 4, constantValue := 0 }, { name := "CLASS", type := (.object "com/example/plumbline/plumbline/model/ConstantKind"), accessFlags := 16409, slot := 5, constantValue := 0 }, { name := "STRING", type := (.object "com/example/plumbline/plumbline/model/ConstantKind"), accessFlags := 16409, slot := 6, constantValue := 0 }, { name := "FIELDREF", type := (.object "com/example/plumbline/plumbline/model/ConstantKind"), accessFlags := 16409, slot := 7, constantValue := 0 }, { name := "METHODREF", type := (.object "com/example/plumbline/plumbline/model/ConstantKind"), accessFlags := 16409, slot := 8, constantValue := 0 }, { name := "INTERFACE_METHODREF", type := (.object "com/example/plumbline/plumbline/model/ConstantKind"), accessFlags := 16409, slot := 9, constantValue := 0 }, { name := "NAME_AND_TYPE", type := (.object "com/example/plumbline/plumbline/model/ConstantKind"), accessFlags := 16409, slot := 10, constantValue := 0 }, { name := "METHOD_HANDLE", type := (.object "com/example/plumbline/plumbline/model/ConstantKind"), accessFlags := 16409, slot := 11, constantValue := 0 }, { name := "METHOD_TYPE", type := (.object "com/example/plumbline/plumbline/model/ConstantKind"), accessFlags := 16409, slot := 12, constantValue := 0 }, { name := "DYNAMIC", type := (.object "com/example/plumbline/plumbline/model/ConstantKind"), accessFlags := 16409, slot := 13, constantValue := 0 }, { name := "INVOKE_DYNAMIC", type := (.object "com/example/plumbline/plumbline/model/ConstantKind"), accessFlags := 16409, slot := 14, constantValue := 0 }, { name := "MODULE", type := (.object "com/example/plumbline/plumbline/model/ConstantKind"), accessFlags := 16409, slot := 15, constantValue := 0 }, { name := "PACKAGE", type := (.object "com/example/plumbline/plumbline/model/ConstantKind"), accessFlags := 16409, slot := 16, constantValue := 0 }, { name := "tag", type := .int, accessFlags := 18, slot := 3, constantValue := 0 }, { name := "sinceMajorVersion", type := .int, accessFlags := 18, slot := 4, constantValue := 0 }, { name := "BY_TAG", type := (.array (.object "com/example/plumbline/plumbline/model/ConstantKind")), accessFlags := 26, slot := 17, constantValue := 0 }, { name := "$VALUES", type := (.array (.object "com/example/plumbline/plumbline/model/ConstantKind")), accessFlags := 4122, slot := 18, constantValue := 0 }]
  methods := #[k6m0, k6m1]
  instanceTypes := #[(.object "java/lang/String"), .int, .int, .int, .int]
  staticTypes := #[(.object "com/example/plumbline/plumbline/model/ConstantKind"), (.object "com/example/plumbline/plumbline/model/ConstantKind"), (.object "com/example/plumbline/plumbline/model/ConstantKind"), (.object "com/example/plumbline/plumbline/model/ConstantKind"), (.object "com/example/plumbline/plumbline/model/ConstantKind"), (.object "com/example/plumbline/plumbline/model/ConstantKind"), (.object "com/example/plumbline/plumbline/model/ConstantKind"), (.object "com/example/plumbline/plumbline/model/ConstantKind"), (.object "com/example/plumbline/plumbline/model/ConstantKind"), (.object "com/example/plumbline/plumbline/model/ConstantKind"), (.object "com/example/plumbline/plumbline/model/ConstantKind"), (.object "com/example/plumbline/plumbline/model/ConstantKind"), (.object "com/example/plumbline/plumbline/model/ConstantKind"), (.object "com/example/plumbline/plumbline/model/ConstantKind"), (.object "com/example/plumbline/plumbline/model/ConstantKind"), (.object "com/example/plumbline/plumbline/model/ConstantKind"), (.object "com/example/plumbline/plumbline/model/ConstantKind"), (.array (.object "com/example/plumbline/plumbline/model/ConstantKind")), (.array (.object "com/example/plumbline/plumbline/model/ConstantKind"))]
  resolved := Array.replicate 132 none
  statics := some 0 }

def pool7 : Array CpInfo := pool [(1, u "java/lang/Cloneable"), (0, .class_ 1), (0, u "java/lang/Object"), (0, .class_ 3)] 3

/-- java/lang/Cloneable -/
def k7 : Class := { plain "java/lang/Cloneable" (some 0) with
  accessFlags := 1537
  interfaces := #[]
  cf := some (fileOf pool7 2 #[] #[] 1537 4 #[] #[])
  fields := #[]
  methods := #[]
  instanceTypes := #[]
  staticTypes := #[]
  resolved := Array.replicate 8 none
  statics := none }

/-- the primitive byte -/
def k8 : Class := { plain "byte" none with kind := .primitive 'B', accessFlags := 0x411 }
/-- [B -/
def k9 : Class := { plain "[B" (some 0) with kind := .array 8 .byte, interfaces := #[7, 4], accessFlags := 1041 }

/-- the primitive int -/
def k10 : Class := { plain "int" none with kind := .primitive 'I', accessFlags := 0x411 }
/-- [I -/
def k11 : Class := { plain "[I" (some 0) with kind := .array 10 .int, interfaces := #[7, 4], accessFlags := 1041 }

/-- [Lcom/example/plumbline/plumbline/model/ConstantKind; -/
def k12 : Class := { plain "[Lcom/example/plumbline/plumbline/model/ConstantKind;" (some 0) with kind := .array 6 (.object "com/example/plumbline/plumbline/model/ConstantKind"), interfaces := #[7, 4], accessFlags := 1041 }

def heap : Heap := #[{ cls := 6, slots := #[.ref 9, .ref 2, .ref 16, .ref 3, .ref 4, .ref 6, .ref 8, .ref 11, .ref 7, .ref 5, .ref 17, .ref 10, .ref 13, .ref 14, .ref 18, .ref 12, .ref 15, .ref 1, .null], vm := .statics 6 },
  { cls := 12, slots := #[.null, .ref 9, .null, .ref 2, .ref 16, .ref 3, .ref 4, .ref 6, .ref 8, .ref 11, .ref 7, .ref 5, .ref 17, .null, .null, .ref 10, .ref 13, .ref 14, .ref 18, .ref 12, .ref 15], vm := .none },
  { cls := 6, slots := #[.null, .int 1, .int 0, .int 0, .int 0], vm := .none },
  { cls := 6, slots := #[.null, .int 3, .int 0, .int 0, .int 0], vm := .none },
  { cls := 6, slots := #[.null, .int 4, .int 0, .int 0, .int 0], vm := .none },
  { cls := 6, slots := #[.null, .int 9, .int 0, .int 0, .int 0], vm := .none },
  { cls := 6, slots := #[.null, .int 5, .int 0, .int 0, .int 0], vm := .none },
  { cls := 6, slots := #[.null, .int 8, .int 0, .int 0, .int 0], vm := .none },
  { cls := 6, slots := #[.null, .int 6, .int 0, .int 0, .int 0], vm := .none },
  { cls := 6, slots := #[.null, .int 0, .int 0, .int 0, .int 0], vm := .none },
  { cls := 6, slots := #[.null, .int 11, .int 0, .int 0, .int 0], vm := .none },
  { cls := 6, slots := #[.null, .int 7, .int 0, .int 0, .int 0], vm := .none },
  { cls := 6, slots := #[.null, .int 15, .int 0, .int 0, .int 0], vm := .none },
  { cls := 6, slots := #[.null, .int 12, .int 0, .int 0, .int 0], vm := .none },
  { cls := 6, slots := #[.null, .int 13, .int 0, .int 0, .int 0], vm := .none },
  { cls := 6, slots := #[.null, .int 16, .int 0, .int 0, .int 0], vm := .none },
  { cls := 6, slots := #[.null, .int 2, .int 0, .int 0, .int 0], vm := .none },
  { cls := 6, slots := #[.null, .int 10, .int 0, .int 0, .int 0], vm := .none },
  { cls := 6, slots := #[.null, .int 14, .int 0, .int 0, .int 0], vm := .none }]
def classes : Array Class := #[k0, k1, k2, k3, k4, k5, k6, k7, k8, k9, k10, k11, k12]
def interned : List (Array UInt16 × Addr) := []
def slotsUsed : Nat := 125
def theMethod : MethodId := ⟨1, 1⟩
def args0 : Array Value := #[.int 5]
def aboutOver (below : List Frame) : State where
  vm := { classes := classes, interned := interned.toArray }
  heap := heap
  slotsUsed := slotsUsed
  threads := #[{ frames := .invoking theMethod args0 :: below }]
def below0 : List Frame := [.native { method := ⟨0, 0⟩, args := #[] }]
def about1 : State := aboutOver below0
def p0 : Program := .bare "" "" ""
def e0 : Env := launch0.env 0 0 0
theorem w_frames : about1.frames = Frame.invoking theMethod args0 :: below0 := rfl
set_option maxRecDepth 65536 in
theorem w_args : argsFit about1.vm theMethod args0 = true := by decide +kernel
set_option maxRecDepth 65536 in
theorem w_heap : heapFits about1 = true := by decide +kernel
set_option maxRecDepth 65536 in
theorem w_runnable : about1.curStatus? = some .runnable := by decide +kernel
set_option maxRecDepth 65536 in
theorem w_alone : about1.alone = true := by decide +kernel
set_option maxRecDepth 65536 in
theorem w_named : about1.methodNamed? x = some theMethod := by decide +kernel
set_option maxRecDepth 65536 in
theorem w_hears : about1.hears theMethod below0 = true := by decide +kernel
set_option maxRecDepth 65536 in
theorem w_ripe : about1.ripe theMethod args0 below0 = true := by decide +kernel
theorem w_running : about1.status = .running := rfl
set_option maxRecDepth 65536 in
theorem w_room : about1.hasRoom e0.platform room_1 = true :=
  launch0.hasRoom_least _ room_1 (by decide +kernel) (by decide +kernel) (by decide +kernel) (by decide +kernel) (by decide +kernel) (by decide +kernel)
theorem allAtoms_all (ts : List Jvm.Cond) (a : Array Jvm.Value) (st : Jvm.State) : (allAtoms ts).before a st = ts.all (fun c => c.before a st) := by
  induction ts with
  | nil => rfl
  | cons c t ih =>
    show (Jvm.Cond.and c (allAtoms t)).before a st = _
    rw [Jvm.Cond.before_and, ih, List.all_cons]
def words1 : List Jvm.Cond := Jvm.Cond.code x code maxLocals ret :: tables_1
/-- a 'code' word, met by the world's own term for the bytes: nothing is compared byte by byte -/
theorem code_word {y : MethodName} {bytes : ByteArray} {mx : Nat} {rt : Option FieldType} {a : Array Value} {s : State} {m : MethodId} {meth : Method} {c : Code} (h1 : s.methodNamed? y = some m) (h2 : s.vm.method? m = some meth) (h3 : meth.code = some c) (h4 : c.code = bytes)
    (h5 : (c.maxLocals == mx && c.exceptionTable.isEmpty && decide (c.maxStack ≤ mostOperands) && decide (meth.sig.returnType = rt) && !meth.locks && decide (parseMethodDescriptor y.desc = some meth.sig)) = true) : (Jvm.Cond.code y bytes mx rt).before a s = true := by
  simp only [Bool.and_eq_true, beq_iff_eq, Bool.not_eq_true', decide_eq_true_eq] at h5
  obtain ⟨⟨⟨⟨⟨g1, g2⟩, g3⟩, g4⟩, g5⟩, g6⟩ := h5
  simp [Cond.before, Cond.holds, Cond.value, h1, h2, h3, h4, g1, g2, g3, g4, g5, g6]
def isCode : Jvm.Cond → Bool
  | .code _ _ _ _ => true
  | _ => false
theorem all_split {L : List Jvm.Cond} {P : Jvm.Cond → Bool} (h1 : L.all (fun c => isCode c || P c) = true) (h2 : ∀ c ∈ L.filter isCode, P c = true) : L.all P = true := by
  refine List.all_eq_true.mpr fun c hc => ?_
  have h := List.all_eq_true.mp h1 c hc
  rcases Bool.eq_false_or_eq_true (isCode c) with hi | hi
  · exact h2 c (List.mem_filter.mpr ⟨hc, hi⟩)
  · simpa [hi] using h
set_option maxRecDepth 65536 in
theorem w_c0 : (Jvm.Cond.code x code maxLocals ret).before args0 about1 = true := code_word (m := ⟨1, 1⟩) (meth := k1m1) (c := k1c1) (by decide +kernel) rfl rfl rfl (by decide +kernel)
set_option maxRecDepth 65536 in
theorem w_c1 : (Jvm.Cond.code ({ cls := "com/example/plumbline/plumbline/model/ConstantKind", name := "ofTag", desc := "(I)Lcom/example/plumbline/plumbline/model/ConstantKind;" } : Jvm.MethodName) prog_27_method_4_code (1 : Nat) (Option.some (Jvm.ClassFile.FieldType.object "com/example/plumbline/plumbline/model/ConstantKind"))).before args0 about1 = true := code_word (m := ⟨6, 0⟩) (meth := k6m0) (c := k6c0) (by decide +kernel) rfl rfl rfl (by decide +kernel)
set_option maxRecDepth 65536 in
theorem w_c2 : (Jvm.Cond.code ({ cls := "com/example/plumbline/plumbline/model/ConstantKind", name := "slots", desc := "()I" } : Jvm.MethodName) prog_27_method_6_code (1 : Nat) (Option.some Jvm.ClassFile.FieldType.int)).before args0 about1 = true := code_word (m := ⟨6, 1⟩) (meth := k6m1) (c := k6c1) (by decide +kernel) rfl rfl rfl (by decide +kernel)
def codes1 : List Jvm.Cond := [Jvm.Cond.code x code maxLocals ret, Jvm.Cond.code ({ cls := "com/example/plumbline/plumbline/model/ConstantKind", name := "ofTag", desc := "(I)Lcom/example/plumbline/plumbline/model/ConstantKind;" } : Jvm.MethodName) prog_27_method_4_code (1 : Nat) (Option.some (Jvm.ClassFile.FieldType.object "com/example/plumbline/plumbline/model/ConstantKind")), Jvm.Cond.code ({ cls := "com/example/plumbline/plumbline/model/ConstantKind", name := "slots", desc := "()I" } : Jvm.MethodName) prog_27_method_6_code (1 : Nat) (Option.some Jvm.ClassFile.FieldType.int)]
set_option maxRecDepth 65536 in
theorem codes_eq : words1.filter isCode = codes1 := rfl
theorem w_codes : ∀ c ∈ words1.filter isCode, c.before args0 about1 = true := by
  rw [codes_eq]
  intro c hc
  simp only [codes1, List.mem_cons, List.not_mem_nil, or_false] at hc
  rcases hc with rfl | rfl | rfl
  · exact w_c0
  · exact w_c1
  · exact w_c2
set_option maxRecDepth 65536 in
theorem w_t1 : (words1.take 24).all (fun c => isCode c || c.before args0 about1) = true := by decide +kernel
set_option maxRecDepth 65536 in
theorem w_t2 : (words1.drop 24).all (fun c => isCode c || c.before args0 about1) = true := by decide +kernel
theorem w_tables : (allAtoms (Jvm.Cond.code x code maxLocals ret :: tables_1)).before args0 about1 = true := by
  rw [allAtoms_all]
  show words1.all (fun c => c.before args0 about1) = true
  refine all_split ?_ w_codes
  rw [← List.take_append_drop 24 words1, List.all_append, w_t1, w_t2]
  rfl
set_option maxRecDepth 65536 in
theorem w_case : (Jvm.Cond.and given_1 narrow_1).before args0 about1 = true := by decide +kernel
theorem w_applies : (headSpec (Jvm.Cond.code x code maxLocals ret :: tables_1) room_1).applies x e0.platform about1 = true :=
  (Spec.applies_iff w_frames).mpr ⟨w_running, w_runnable, w_alone, w_named, w_hears, w_ripe, w_room, w_tables⟩
theorem atStart : AtStart classFile x code maxLocals ret World_1 tables_1 room_1 Calls_1 rest_1 Pre_1 launch0 p0 e0 about1 theMethod args0 below0 :=
  ⟨lists_1, trivial, launch0.admits_env _ _ _, launch0.least_env, fairChoices_fair.cas, fairChoices_fair.clock, w_frames, w_args, w_heap, w_applies, trivial, trivial, w_case⟩
end start1
theorem witness_1 : WitnessClaimed_1 := ⟨start1.p0, start1.e0, start1.about1, start1.theMethod, start1.args0, start1.below0, start1.atStart⟩
end Jvm.Pilot.@@N@@
