import JvmDerived
import JvmDerived.Pilot.@@N@@Statement
import JvmDerived.Pilot.@@N@@Code
set_option linter.unusedVariables false
set_option linter.unusedSimpArgs false
namespace Jvm.RoadKit
open Sem ClassFile Op Lib Jvm.Stand Jvm.Free Jvm.LawKit
section New
variable {p : Program} {l : Launch} {e : Env} {R : Room} {s : State} {m : MethodId} {args : Array Value} {below : List Frame} {meth : Method} {c : Code} {T : State} {locs : List Loc} {cells slots : Nat}
theorem retI (X : Stand p l e R s m args below meth c T locs cells slots) (hx : p.tables.exec = Jvm.exec) {pc : Nat} {Ls : Array Slot} {z : Int32} {rest : List Value} (hret : meth.sig.returnType = some .int) (hd : decode c.code pc = .ok (.ireturn, 1)) {fs : List Frame}
    (hl : ∀ (f : JFrame) (acts : List Action), f.method = m → f.locked = none → f.entered = [] → (doReturn e (T.setTop f) acts (some (.int z))).1 = T.setFrames fs) : Steps p.tables e below (T.setTop (mkF m pc Ls (.int z :: rest))) (T.setFrames fs) := by
  have hm' : T.vm.method? m = some meth := X.method'
  have hn : narrow .int (.int z) = .int z := rfl
  show Steps p.tables e below (T.setTop { method := m, pc := pc, locals := Ls, stack := _ :: rest, locked := none }) _
  jvm_step X.here [X.here.top, hx, hd, hm', hret, hn]
  first | (intro acts; rw [hl _ acts rfl rfl rfl]) | rw [hl _ _ rfl rfl rfl]
  exact Steps.refl _
end New
end Jvm.RoadKit
namespace Jvm.Pilot.@@N@@
open Jvm Jvm.ClassFile Sem Op Lib Jvm.Free Jvm.Stand Jvm.LawKit Jvm.RoadKit Bundle Jvm.Pilot.@@N@@.Jvm.D
def own_hash (w1 w2 w3 : Int32) : Int32 := ((((31 : Int32) * w1) + w2) * (2 : Int32)) + (if w3 = (0 : Int32) then (0 : Int32) else (1 : Int32))
theorem own_nar (z : Int32) (h : z = 0 ∨ z = 1) : nar .boolean z = z := by rcases h with rfl | rfl <;> rfl
theorem own_nar0 : nar .boolean (0 : Int32) = 0 := rfl
theorem own_nar1 : nar .boolean (1 : Int32) = 1 := rfl
theorem d2_0 : decode jdk_30_method_1_code 0 = .ok (.aload_n 0, 1) := by decide +kernel
theorem d2_1 : decode jdk_30_method_1_code 1 = .ok (.invokespecial 1, 3) := by decide +kernel
theorem d2_4 : decode jdk_30_method_1_code 4 = .ok (.return_, 1) := by decide +kernel
theorem pn_2 : plainName "java/lang/Record" = true := by first | (simp [plainName, overriddenIn]; done) | decide +kernel
theorem ef_rm2 (m : MethodId) (p0 : Addr) : entryFrame m #[(.ref p0)] 1 = mkF m 0 #[.val (.ref p0)] [] := by first | (simp [entryFrame, mkF, argsToLocals, Value.category]; done) | rfl
def Q2 (Z : State) (p0 : Addr) (h0 : Heap) (n0 : Nat) (v : Option Value) (h : Heap) (L : List Loc) : Prop := v = none ∧ Fr n0 L ∧ h = h0
set_option maxRecDepth 65536 in
set_option maxHeartbeats 40000000 in
theorem rm2 (l : Launch) (Z : State) (a0 : Array Value) (hw : ∀ d ∈ tables_1, d.before a0 Z = true) (ws : List Jvm.Cond) (p0 : Addr) (h0 : Heap) (n0 : Nat) (O0 : Old Z n0 h0) :
    MetFree l (⟨"java/lang/Record", "<init>", "()V"⟩ : MethodName) (head1 (Jvm.Cond.code (⟨"java/lang/Record", "<init>", "()V"⟩ : MethodName) jdk_30_method_1_code 1 none :: ws) ({ frames := 1, cells := 0, slots := 0, locals := 12 } : Room)) (fun a U => a = #[(.ref p0)] ∧ Z.Warmed39 U.vm ∧ U.heap = h0) (fun _ _ _ _ _ => True) (fun _ U o U' => ∃ v L, o = .returned v ∧ Q2 Z p0 h0 n0 v U'.heap L ∧ FrameEnd U o U' L ({ frames := 1, cells := 0, slots := 0, locals := 12 } : Room).cells ({ frames := 1, cells := 0, slots := 0, locals := 12 } : Room).slots) := by
  refine MetFree.of_bodySF (plainFor_of_name pn_2) hisR ?_
  intro p e s m args below meth c s₁ Bd hml0 hP hK
  obtain ⟨rfl, hZ, hh⟩ := hP
  have hx := Bd.exec
  have hby := Bd.bytes
  have hml : c.maxLocals = 1 := hml0
  have hown : s.vm.findClass "java/lang/Record" = some m.cls := findClass_of_methodNamed Bd.named
  have hnm := (name_of_methodNamed Bd.named Bd.method).1
  have X0 : Stand p l e ({ frames := 1, cells := 0, slots := 0, locals := 12 } : Room) s m #[(.ref p0)] below meth c s₁ [] 0 0 := Stand.of_body Bd
  have e0 : s₁.heap = h0 := by rw [← hh, Bd.state]; rfl
  have N0 := Fr.nil n0
  have s0 : Steps p.tables e below (s₁.setTop (entryFrame m #[(.ref p0)] 1)) (s₁.setTop (mkF m 0 #[.val (.ref p0)] [])) := castTop (ef_rm2 m p0) (Steps.refl _)
  obtain ⟨T1, X1, e1, st1⟩ := initO X0 hx hZ hown (hw _ (List.mem_of_getElem? (i := 11) rfl)) (hw _ (List.mem_of_getElem? (i := 12) rfl)) (hw _ (List.mem_of_getElem? (i := 13) rfl)) e0 (g := (mkF m 1 #[.val (.ref p0)] [(.ref p0)])) rfl (by rw [hml]; rfl) rfl (hb hby d2_1) (by decide) (W := 0) (by show 2 * 0 + _ ≤ _; exact Nat.le_of_eq rfl) (by decide)
  have s2 : Steps p.tables e below (s₁.setTop (entryFrame m #[(.ref p0)] 1)) (T1.setTop (mkF m 4 #[.val (.ref p0)] [])) := by
    refine s0.trans ?_
    show Steps p.tables e below (s₁.setTop (mkF m 0 #[.val (.ref p0)] [])) _
    refine XS.aloadN X0.here hx rfl (hb hby d2_0) rfl rfl ?_
    show Steps p.tables e below (s₁.setTop (mkF m 1 #[.val (.ref p0)] [(.ref p0)])) _
    refine st1 _ ?_
    exact Steps.refl _
  obtain ⟨fs, hr, hrun, hended, hW, hsame⟩ := X1.leave (v := none) (fun _ => rfl)
  refine ⟨_, _, s2.trans ?_, hrun, hended, _, _, rfl, ?_, ⟨_, rfl⟩, hW, hsame.mono (by decide) (by decide)⟩
  · show Steps p.tables e below (T1.setTop (mkF m 4 #[.val (.ref p0)] [])) _
    exact X1.returnOut hx Bd.returns (hb hby d2_4) hr
  · show Q2 Z p0 h0 n0 _ T1.heap _
    rw [e1]
    exact ⟨rfl, N0, rfl⟩
theorem d1_0 : decode prog_32_method_1_code 0 = .ok (.aload_n 0, 1) := by decide +kernel
theorem d1_1 : decode prog_32_method_1_code 1 = .ok (.invokespecial 1, 3) := by decide +kernel
theorem d1_4 : decode prog_32_method_1_code 4 = .ok (.aload_n 0, 1) := by decide +kernel
theorem d1_5 : decode prog_32_method_1_code 5 = .ok (.iload_n 1, 1) := by decide +kernel
theorem d1_6 : decode prog_32_method_1_code 6 = .ok (.putfield 7, 3) := by decide +kernel
theorem d1_9 : decode prog_32_method_1_code 9 = .ok (.aload_n 0, 1) := by decide +kernel
theorem d1_10 : decode prog_32_method_1_code 10 = .ok (.iload_n 2, 1) := by decide +kernel
theorem d1_11 : decode prog_32_method_1_code 11 = .ok (.putfield 13, 3) := by decide +kernel
theorem d1_14 : decode prog_32_method_1_code 14 = .ok (.aload_n 0, 1) := by decide +kernel
theorem d1_15 : decode prog_32_method_1_code 15 = .ok (.iload_n 3, 1) := by decide +kernel
theorem d1_16 : decode prog_32_method_1_code 16 = .ok (.putfield 16, 3) := by decide +kernel
theorem d1_19 : decode prog_32_method_1_code 19 = .ok (.return_, 1) := by decide +kernel
theorem pn_1 : plainName "com/example/schemactl/schemactl/Unfinished" = true := by first | (simp [plainName, overriddenIn]; done) | decide +kernel
theorem pd_rm1_0 : parseMethodDescriptor "()V" = some ⟨[], none⟩ := by decide +kernel
theorem ef_rm1 (m : MethodId) (p0 : Addr) (p1 : Int32) (p2 : Int32) (p3 : Int32) : entryFrame m #[(.ref p0), (.int p1), (.int p2), (.int p3)] 4 = mkF m 0 #[.val (.ref p0), .val (.int p1), .val (.int p2), .val (.int p3)] [] := by first | (simp [entryFrame, mkF, argsToLocals, Value.category]; done) | rfl
def Q1 (Z : State) (p0 : Addr) (p1 : Int32) (p2 : Int32) (p3 : Int32) (h0 : Heap) (n0 : Nat) (v : Option Value) (h : Heap) (L : List Loc) : Prop := v = none ∧ Fr n0 L ∧ Keep h0 h [p0] ∧ (Exa Z h p0 "com/example/schemactl/schemactl/Unfinished") ∧ (Fld Z h p0 "com/example/schemactl/schemactl/Unfinished" "applied" "I" (.int p1)) ∧ (Fld Z h p0 "com/example/schemactl/schemactl/Unfinished" "uncertain" "I" (.int p2)) ∧ (Fld Z h p0 "com/example/schemactl/schemactl/Unfinished" "resumable" "Z" (.int (nar .boolean p3)))
set_option maxRecDepth 65536 in
set_option maxHeartbeats 40000000 in
theorem rm1 (l : Launch) (Z : State) (a0 : Array Value) (hw : ∀ d ∈ tables_1, d.before a0 Z = true) (ws : List Jvm.Cond) (p0 : Addr) (p1 : Int32) (p2 : Int32) (p3 : Int32) (h0 : Heap) (n0 : Nat) (O0 : Old Z n0 h0) (F0_ : Exa Z h0 p0 "com/example/schemactl/schemactl/Unfinished") (F1_ : Fld Z h0 p0 "com/example/schemactl/schemactl/Unfinished" "applied" "I" (.int (0 : Int32))) (F2_ : Fld Z h0 p0 "com/example/schemactl/schemactl/Unfinished" "uncertain" "I" (.int (0 : Int32))) (F3_ : Fld Z h0 p0 "com/example/schemactl/schemactl/Unfinished" "resumable" "Z" (.int (0 : Int32))) (F4_ : n0 ≤ p0) :
    MetFree l (⟨"com/example/schemactl/schemactl/Unfinished", "<init>", "(IIZ)V"⟩ : MethodName) (head1 (Jvm.Cond.code (⟨"com/example/schemactl/schemactl/Unfinished", "<init>", "(IIZ)V"⟩ : MethodName) prog_32_method_1_code 4 none :: ws) ({ frames := 2, cells := 0, slots := 0, locals := 24 } : Room)) (fun a U => a = #[(.ref p0), (.int p1), (.int p2), (.int p3)] ∧ Z.Warmed39 U.vm ∧ U.heap = h0) (fun _ _ _ _ _ => True) (fun _ U o U' => ∃ v L, o = .returned v ∧ Q1 Z p0 p1 p2 p3 h0 n0 v U'.heap L ∧ FrameEnd U o U' L ({ frames := 2, cells := 0, slots := 0, locals := 24 } : Room).cells ({ frames := 2, cells := 0, slots := 0, locals := 24 } : Room).slots) := by
  refine MetFree.of_bodySF (plainFor_of_name pn_1) hisR ?_
  intro p e s m args below meth c s₁ Bd hml0 hP hK
  obtain ⟨rfl, hZ, hh⟩ := hP
  have hx := Bd.exec
  have hby := Bd.bytes
  have hml : c.maxLocals = 4 := hml0
  have hown : s.vm.findClass "com/example/schemactl/schemactl/Unfinished" = some m.cls := findClass_of_methodNamed Bd.named
  have hnm := (name_of_methodNamed Bd.named Bd.method).1
  have X0 : Stand p l e ({ frames := 2, cells := 0, slots := 0, locals := 24 } : Room) s m #[(.ref p0), (.int p1), (.int p2), (.int p3)] below meth c s₁ [] 0 0 := Stand.of_body Bd
  have e0 : s₁.heap = h0 := by rw [← hh, Bd.state]; rfl
  have N0 := Fr.nil n0
  have s0 : Steps p.tables e below (s₁.setTop (entryFrame m #[(.ref p0), (.int p1), (.int p2), (.int p3)] 4)) (s₁.setTop (mkF m 0 #[.val (.ref p0), .val (.int p1), .val (.int p2), .val (.int p3)] [])) := castTop (ef_rm1 m p0 p1 p2 p3) (Steps.refl _)
  obtain ⟨_, _, ⟨T1, L1, k1, n1⟩, -, X1, ⟨Lc1, hQ1, l1, y1, z1⟩, st1⟩ := X0.specialBack hx (y := (⟨"java/lang/Record", "<init>", "()V"⟩ : MethodName)) rfl hown (mvT hZ (hw _ (List.mem_of_getElem? (i := 6) rfl))) (mvT hZ (hw _ (List.mem_of_getElem? (i := 7) rfl))) (mvT hZ (hw _ (List.mem_of_getElem? (i := 10) rfl))) (by decide) (backOf (W := 0) (rm2 l Z a0 hw [] p0 h0 n0 O0 ) hZ (hw _ (List.mem_of_getElem? (i := 10) rfl)) (hw _ (List.mem_of_getElem? (i := 9) rfl)) (by decide) (by decide)) (g := (mkF m 1 #[.val (.ref p0), .val (.int p1), .val (.int p2), .val (.int p3)] [(.ref p0)])) rfl (by rw [hml]; rfl) (Steps.refl _) (a := p0) (argsL := []) (rest := []) (lenOf pd_rm1_0 rfl) rfl (by show 2 * 0 + _ ≤ _; exact Nat.le_of_eq rfl) (hb hby d1_1) (fun _ _ => ⟨rfl, e0, (by decide : 0 + 0 ≤ _), (by decide : 0 + 0 ≤ _)⟩)
  dsimp only [Pt.U, Pt.locs, Pt.cells, Pt.slots] at X1 l1 y1 z1 st1 hQ1
  subst l1 y1 z1
  obtain ⟨rfl, Nq1, e1⟩ := hQ1
  have N1 := Fr.app N0 Nq1
  obtain ⟨T2, h2, X2, e2, W2, st2⟩ := putF X1 hx hZ hown (host := "") (Or.inl (hw _ (List.mem_of_getElem? (i := 14) rfl))) Via.refl e1 F1_ F0_ (Or.inr ⟨(hw _ (List.mem_of_getElem? (i := 15) rfl)), rfl, hnm⟩) (hw _ (List.mem_of_getElem? (i := 1) rfl)) (ty := .int) (by decide) rfl rfl (g := (mkF m 6 #[.val (.ref p0), .val (.int p1), .val (.int p2), .val (.int p3)] [(.int p1), (.ref p0)])) rfl rfl (hb hby d1_6)
  have Fw2 := F1_.same W2
  have O2 := O0.wr W2 F4_
  have K2 : Keep h0 h2 [p0] := (Keep.refl h0 [p0]).wr W2 (Or.inl (List.mem_of_getElem? (i := 0) rfl))
  have N2 := Fr.snoc X2 N1 F4_
  have c3 : Exa Z h2 p0 "com/example/schemactl/schemactl/Unfinished" := (F0_.wr W2)
  have c4 : Fld Z h2 p0 "com/example/schemactl/schemactl/Unfinished" "uncertain" "I" (.int (0 : Int32)) := (F2_.other W2 (Or.inr (slot_ne (Or.inr (hw _ (List.mem_of_getElem? (i := 17) rfl))) (Or.inr (hw _ (List.mem_of_getElem? (i := 15) rfl))) (by decide) (t := .int) (t' := .int) (by decide) (by decide))))
  obtain ⟨T5, h5, X5, e5, W5, st5⟩ := putF X2 hx hZ hown (host := "") (Or.inl (hw _ (List.mem_of_getElem? (i := 16) rfl))) Via.refl e2 c4 c3 (Or.inr ⟨(hw _ (List.mem_of_getElem? (i := 17) rfl)), rfl, hnm⟩) (hw _ (List.mem_of_getElem? (i := 1) rfl)) (ty := .int) (by decide) rfl rfl (g := (mkF m 11 #[.val (.ref p0), .val (.int p1), .val (.int p2), .val (.int p3)] [(.int p2), (.ref p0)])) rfl rfl (hb hby d1_11)
  have Fw5 := c4.same W5
  have O5 := O2.wr W5 F4_
  have K5 : Keep h0 h5 [p0] := K2.wr W5 (Or.inl (List.mem_of_getElem? (i := 0) rfl))
  have N5 := Fr.snoc X5 N2 F4_
  have c6 : Exa Z h5 p0 "com/example/schemactl/schemactl/Unfinished" := (c3.wr W5)
  have c7 : Fld Z h5 p0 "com/example/schemactl/schemactl/Unfinished" "resumable" "Z" (.int (0 : Int32)) := ((F3_.other W2 (Or.inr (slot_ne (Or.inr (hw _ (List.mem_of_getElem? (i := 19) rfl))) (Or.inr (hw _ (List.mem_of_getElem? (i := 15) rfl))) (by decide) (t := .boolean) (t' := .int) (by decide) (by decide)))).other W5 (Or.inr (slot_ne (Or.inr (hw _ (List.mem_of_getElem? (i := 19) rfl))) (Or.inr (hw _ (List.mem_of_getElem? (i := 17) rfl))) (by decide) (t := .boolean) (t' := .int) (by decide) (by decide))))
  obtain ⟨T8, h8, X8, e8, W8, st8⟩ := putFN X5 hx hZ hown (hw _ (List.mem_of_getElem? (i := 18) rfl)) Via.refl e5 c7 c6 (Or.inr ⟨(hw _ (List.mem_of_getElem? (i := 19) rfl)), rfl, hnm⟩) (hw _ (List.mem_of_getElem? (i := 1) rfl)) (ty := .boolean) (v' := (.int (nar .boolean p3))) (by decide) rfl (fits_nar_bool _) (g := (mkF m 16 #[.val (.ref p0), .val (.int p1), .val (.int p2), .val (.int p3)] [(.int p3), (.ref p0)])) rfl rfl (hb hby d1_16)
  have Fw8 := c7.same W8
  have O8 := O5.wr W8 F4_
  have K8 : Keep h0 h8 [p0] := K5.wr W8 (Or.inl (List.mem_of_getElem? (i := 0) rfl))
  have N8 := Fr.snoc X8 N5 F4_
  have s9 : Steps p.tables e below (s₁.setTop (entryFrame m #[(.ref p0), (.int p1), (.int p2), (.int p3)] 4)) (T8.setTop (mkF m 19 #[.val (.ref p0), .val (.int p1), .val (.int p2), .val (.int p3)] [])) := by
    refine s0.trans ?_
    show Steps p.tables e below (s₁.setTop (mkF m 0 #[.val (.ref p0), .val (.int p1), .val (.int p2), .val (.int p3)] [])) _
    refine XS.aloadN X0.here hx rfl (hb hby d1_0) rfl rfl ?_
    show Steps p.tables e below (s₁.setTop (mkF m 1 #[.val (.ref p0), .val (.int p1), .val (.int p2), .val (.int p3)] [(.ref p0)])) _
    refine st1.trans ?_
    show Steps p.tables e below (T1.setTop (mkF m 4 #[.val (.ref p0), .val (.int p1), .val (.int p2), .val (.int p3)] [])) _
    refine XS.aloadN X1.here hx rfl (hb hby d1_4) rfl rfl ?_
    show Steps p.tables e below (T1.setTop (mkF m 5 #[.val (.ref p0), .val (.int p1), .val (.int p2), .val (.int p3)] [(.ref p0)])) _
    refine XS.iloadN X1.here hx rfl (hb hby d1_5) rfl ?_
    show Steps p.tables e below (T1.setTop (mkF m 6 #[.val (.ref p0), .val (.int p1), .val (.int p2), .val (.int p3)] [(.int p1), (.ref p0)])) _
    refine st2 _ ?_
    show Steps p.tables e below (T2.setTop (mkF m 9 #[.val (.ref p0), .val (.int p1), .val (.int p2), .val (.int p3)] [])) _
    refine XS.aloadN X2.here hx rfl (hb hby d1_9) rfl rfl ?_
    show Steps p.tables e below (T2.setTop (mkF m 10 #[.val (.ref p0), .val (.int p1), .val (.int p2), .val (.int p3)] [(.ref p0)])) _
    refine XS.iloadN X2.here hx rfl (hb hby d1_10) rfl ?_
    show Steps p.tables e below (T2.setTop (mkF m 11 #[.val (.ref p0), .val (.int p1), .val (.int p2), .val (.int p3)] [(.int p2), (.ref p0)])) _
    refine st5 _ ?_
    show Steps p.tables e below (T5.setTop (mkF m 14 #[.val (.ref p0), .val (.int p1), .val (.int p2), .val (.int p3)] [])) _
    refine XS.aloadN X5.here hx rfl (hb hby d1_14) rfl rfl ?_
    show Steps p.tables e below (T5.setTop (mkF m 15 #[.val (.ref p0), .val (.int p1), .val (.int p2), .val (.int p3)] [(.ref p0)])) _
    refine XS.iloadN X5.here hx rfl (hb hby d1_15) rfl ?_
    show Steps p.tables e below (T5.setTop (mkF m 16 #[.val (.ref p0), .val (.int p1), .val (.int p2), .val (.int p3)] [(.int p3), (.ref p0)])) _
    refine st8 _ ?_
    exact Steps.refl _
  have c10 : Exa Z h8 p0 "com/example/schemactl/schemactl/Unfinished" := (c6.wr W8)
  have c11 : Fld Z h8 p0 "com/example/schemactl/schemactl/Unfinished" "applied" "I" (.int p1) := ((Fw2.other W5 (Or.inr (slot_ne (Or.inr (hw _ (List.mem_of_getElem? (i := 15) rfl))) (Or.inr (hw _ (List.mem_of_getElem? (i := 17) rfl))) (by decide) (t := .int) (t' := .int) (by decide) (by decide)))).other W8 (Or.inr (slot_ne (Or.inr (hw _ (List.mem_of_getElem? (i := 15) rfl))) (Or.inr (hw _ (List.mem_of_getElem? (i := 19) rfl))) (by decide) (t := .int) (t' := .boolean) (by decide) (by decide))))
  have c12 : Fld Z h8 p0 "com/example/schemactl/schemactl/Unfinished" "uncertain" "I" (.int p2) := (Fw5.other W8 (Or.inr (slot_ne (Or.inr (hw _ (List.mem_of_getElem? (i := 17) rfl))) (Or.inr (hw _ (List.mem_of_getElem? (i := 19) rfl))) (by decide) (t := .int) (t' := .boolean) (by decide) (by decide))))
  obtain ⟨fs, hr, hrun, hended, hW, hsame⟩ := X8.leave (v := none) (fun _ => rfl)
  refine ⟨_, _, s9.trans ?_, hrun, hended, _, _, rfl, ?_, ⟨_, rfl⟩, hW, hsame.mono (by decide) (by decide)⟩
  · show Steps p.tables e below (T8.setTop (mkF m 19 #[.val (.ref p0), .val (.int p1), .val (.int p2), .val (.int p3)] [])) _
    exact X8.returnOut hx Bd.returns (hb hby d1_19) hr
  · show Q1 Z p0 p1 p2 p3 h0 n0 _ T8.heap _
    rw [e8]
    exact ⟨rfl, N8, K8, c10, c11, c12, Fw8⟩
theorem d4_0 : decode prog_32_method_3_code 0 = .ok (.bipush 31, 2) := by decide +kernel
theorem d4_2 : decode prog_32_method_3_code 2 = .ok (.aload_n 0, 1) := by decide +kernel
theorem d4_3 : decode prog_32_method_3_code 3 = .ok (.getfield 7, 3) := by decide +kernel
theorem d4_6 : decode prog_32_method_3_code 6 = .ok (.imul, 1) := by decide +kernel
theorem d4_7 : decode prog_32_method_3_code 7 = .ok (.aload_n 0, 1) := by decide +kernel
theorem d4_8 : decode prog_32_method_3_code 8 = .ok (.getfield 13, 3) := by decide +kernel
theorem d4_11 : decode prog_32_method_3_code 11 = .ok (.iadd, 1) := by decide +kernel
theorem d4_12 : decode prog_32_method_3_code 12 = .ok (.iconst 2, 1) := by decide +kernel
theorem d4_13 : decode prog_32_method_3_code 13 = .ok (.imul, 1) := by decide +kernel
theorem d4_14 : decode prog_32_method_3_code 14 = .ok (.aload_n 0, 1) := by decide +kernel
theorem d4_15 : decode prog_32_method_3_code 15 = .ok (.getfield 16, 3) := by decide +kernel
theorem d4_18 : decode prog_32_method_3_code 18 = .ok (.ifCond .eq 7, 3) := by decide +kernel
theorem d4_21 : decode prog_32_method_3_code 21 = .ok (.iconst 1, 1) := by decide +kernel
theorem d4_22 : decode prog_32_method_3_code 22 = .ok (.goto 4, 3) := by decide +kernel
theorem d4_25 : decode prog_32_method_3_code 25 = .ok (.iconst 0, 1) := by decide +kernel
theorem d4_26 : decode prog_32_method_3_code 26 = .ok (.iadd, 1) := by decide +kernel
theorem d4_27 : decode prog_32_method_3_code 27 = .ok (.ireturn, 1) := by decide +kernel
theorem ef_rm4 (m : MethodId) (p0 : Addr) : entryFrame m #[(.ref p0)] 1 = mkF m 0 #[.val (.ref p0)] [] := by first | (simp [entryFrame, mkF, argsToLocals, Value.category]; done) | rfl
def Q4 (Z : State) (p0 : Addr) (w1 : Int32) (w2 : Int32) (w3 : Int32) (h0 : Heap) (n0 : Nat) (v : Option Value) (h : Heap) (L : List Loc) : Prop := v = some (.int (own_hash w1 w2 w3)) ∧ Fr n0 L ∧ h = h0
set_option maxRecDepth 65536 in
set_option maxHeartbeats 40000000 in
theorem rm4 (l : Launch) (Z : State) (a0 : Array Value) (hw : ∀ d ∈ tables_1, d.before a0 Z = true) (ws : List Jvm.Cond) (p0 : Addr) (w1 : Int32) (w2 : Int32) (w3 : Int32) (h0 : Heap) (n0 : Nat) (O0 : Old Z n0 h0) (F0_ : Fld Z h0 p0 "com/example/schemactl/schemactl/Unfinished" "applied" "I" (.int w1)) (F1_ : Fld Z h0 p0 "com/example/schemactl/schemactl/Unfinished" "uncertain" "I" (.int w2)) (F2_ : Fld Z h0 p0 "com/example/schemactl/schemactl/Unfinished" "resumable" "Z" (.int w3)) :
    MetFree l (⟨"com/example/schemactl/schemactl/Unfinished", "hashCode", "()I"⟩ : MethodName) (head1 (Jvm.Cond.code (⟨"com/example/schemactl/schemactl/Unfinished", "hashCode", "()I"⟩ : MethodName) prog_32_method_3_code 1 (some .int) :: ws) ({ frames := 0, cells := 0, slots := 0, locals := 0 } : Room)) (fun a U => a = #[(.ref p0)] ∧ Z.Warmed39 U.vm ∧ U.heap = h0) (fun _ _ _ _ _ => True) (fun _ U o U' => ∃ v L, o = .returned v ∧ Q4 Z p0 w1 w2 w3 h0 n0 v U'.heap L ∧ FrameEnd U o U' L ({ frames := 0, cells := 0, slots := 0, locals := 0 } : Room).cells ({ frames := 0, cells := 0, slots := 0, locals := 0 } : Room).slots) := by
  refine MetFree.of_bodySF (plainFor_of_name pn_1) hisR ?_
  intro p e s m args below meth c s₁ Bd hml0 hP hK
  obtain ⟨rfl, hZ, hh⟩ := hP
  have hx := Bd.exec
  have hby := Bd.bytes
  have hml : c.maxLocals = 1 := hml0
  have hown : s.vm.findClass "com/example/schemactl/schemactl/Unfinished" = some m.cls := findClass_of_methodNamed Bd.named
  have hnm := (name_of_methodNamed Bd.named Bd.method).1
  have X0 : Stand p l e ({ frames := 0, cells := 0, slots := 0, locals := 0 } : Room) s m #[(.ref p0)] below meth c s₁ [] 0 0 := Stand.of_body Bd
  have e0 : s₁.heap = h0 := by rw [← hh, Bd.state]; rfl
  have N0 := Fr.nil n0
  have s0 : Steps p.tables e below (s₁.setTop (entryFrame m #[(.ref p0)] 1)) (s₁.setTop (mkF m 0 #[.val (.ref p0)] [])) := castTop (ef_rm4 m p0) (Steps.refl _)
  obtain ⟨T1, X1, e1, st1⟩ := getF X0 hx hZ hown (host := "") (Or.inl (hw _ (List.mem_of_getElem? (i := 14) rfl))) Via.refl e0 F0_ (g := (mkF m 3 #[.val (.ref p0)] [(.ref p0), (.int (31 : Int32))])) rfl rfl (hb hby d4_3)
  obtain ⟨T2, X2, e2, st2⟩ := getF X1 hx hZ hown (host := "") (Or.inl (hw _ (List.mem_of_getElem? (i := 16) rfl))) Via.refl e1 F1_ (g := (mkF m 8 #[.val (.ref p0)] [(.ref p0), (.int ((31 : Int32) * w1))])) rfl rfl (hb hby d4_8)
  obtain ⟨T3, X3, e3, st3⟩ := getF X2 hx hZ hown (host := "") (Or.inl (hw _ (List.mem_of_getElem? (i := 18) rfl))) Via.refl e2 F2_ (g := (mkF m 15 #[.val (.ref p0)] [(.ref p0), (.int ((((31 : Int32) * w1) + w2) * (2 : Int32)))])) rfl rfl (hb hby d4_15)
  have s4 : Steps p.tables e below (s₁.setTop (entryFrame m #[(.ref p0)] 1)) (T3.setTop (mkF m 18 #[.val (.ref p0)] [(.int w3), (.int ((((31 : Int32) * w1) + w2) * (2 : Int32)))])) := by
    refine s0.trans ?_
    show Steps p.tables e below (s₁.setTop (mkF m 0 #[.val (.ref p0)] [])) _
    refine XS.bipush X0.here hx rfl (hb hby d4_0) ?_
    show Steps p.tables e below (s₁.setTop (mkF m 2 #[.val (.ref p0)] [(.int (31 : Int32))])) _
    refine XS.aloadN X0.here hx rfl (hb hby d4_2) rfl rfl ?_
    show Steps p.tables e below (s₁.setTop (mkF m 3 #[.val (.ref p0)] [(.ref p0), (.int (31 : Int32))])) _
    refine st1 _ ?_
    show Steps p.tables e below (T1.setTop (mkF m 6 #[.val (.ref p0)] [(.int w1), (.int (31 : Int32))])) _
    refine XS.imul X1.here hx rfl (hb hby d4_6) rfl ?_
    show Steps p.tables e below (T1.setTop (mkF m 7 #[.val (.ref p0)] [(.int ((31 : Int32) * w1))])) _
    refine XS.aloadN X1.here hx rfl (hb hby d4_7) rfl rfl ?_
    show Steps p.tables e below (T1.setTop (mkF m 8 #[.val (.ref p0)] [(.ref p0), (.int ((31 : Int32) * w1))])) _
    refine st2 _ ?_
    show Steps p.tables e below (T2.setTop (mkF m 11 #[.val (.ref p0)] [(.int w2), (.int ((31 : Int32) * w1))])) _
    refine XS.iadd X2.here hx rfl (hb hby d4_11) rfl ?_
    show Steps p.tables e below (T2.setTop (mkF m 12 #[.val (.ref p0)] [(.int (((31 : Int32) * w1) + w2))])) _
    refine XS.iconst X2.here hx rfl (hb hby d4_12) ?_
    show Steps p.tables e below (T2.setTop (mkF m 13 #[.val (.ref p0)] [(.int (2 : Int32)), (.int (((31 : Int32) * w1) + w2))])) _
    refine XS.imul X2.here hx rfl (hb hby d4_13) rfl ?_
    show Steps p.tables e below (T2.setTop (mkF m 14 #[.val (.ref p0)] [(.int ((((31 : Int32) * w1) + w2) * (2 : Int32)))])) _
    refine XS.aloadN X2.here hx rfl (hb hby d4_14) rfl rfl ?_
    show Steps p.tables e below (T2.setTop (mkF m 15 #[.val (.ref p0)] [(.ref p0), (.int ((((31 : Int32) * w1) + w2) * (2 : Int32)))])) _
    refine st3 _ ?_
    exact Steps.refl _
  have s6 : Steps p.tables e below (s₁.setTop (entryFrame m #[(.ref p0)] 1)) (T3.setTop (mkF m 26 #[.val (.ref p0)] [(.int (if w3 = (0 : Int32) then (0 : Int32) else (1 : Int32))), (.int ((((31 : Int32) * w1) + w2) * (2 : Int32)))])) := by
    by_cases hm5 : w3 = (0 : Int32)
    · simp only [if_pos hm5]
      refine s4.trans ?_
      show Steps p.tables e below (T3.setTop (mkF m 18 #[.val (.ref p0)] [(.int w3), (.int ((((31 : Int32) * w1) + w2) * (2 : Int32)))])) _
      refine XS.ifYes X3.here hx rfl (pc0 := 18) (pc' := 25) rfl (hb hby d4_18) rfl ((if0 _ _).trans (teq hm5).1) (by decide) (by decide) ?_
      show Steps p.tables e below (T3.setTop (mkF m 25 #[.val (.ref p0)] [(.int ((((31 : Int32) * w1) + w2) * (2 : Int32)))])) _
      refine XS.iconst X3.here hx rfl (hb hby d4_25) ?_
      exact Steps.refl _
    · simp only [if_neg hm5]
      refine s4.trans ?_
      show Steps p.tables e below (T3.setTop (mkF m 18 #[.val (.ref p0)] [(.int w3), (.int ((((31 : Int32) * w1) + w2) * (2 : Int32)))])) _
      refine XS.ifNo X3.here hx rfl (hb hby d4_18) rfl ((if0 _ _).trans (feq hm5).1) ?_
      show Steps p.tables e below (T3.setTop (mkF m 21 #[.val (.ref p0)] [(.int ((((31 : Int32) * w1) + w2) * (2 : Int32)))])) _
      refine XS.iconst X3.here hx rfl (hb hby d4_21) ?_
      show Steps p.tables e below (T3.setTop (mkF m 22 #[.val (.ref p0)] [(.int (1 : Int32)), (.int ((((31 : Int32) * w1) + w2) * (2 : Int32)))])) _
      refine XS.goto X3.here hx rfl (pc0 := 22) (pc' := 26) rfl (hb hby d4_22) (by decide) (by decide) ?_
      exact Steps.refl _
  obtain ⟨zz, hzz⟩ : ∃ z, z = (if w3 = (0 : Int32) then (0 : Int32) else (1 : Int32)) := ⟨_, rfl⟩
  rw [← hzz] at s6
  have s7 : Steps p.tables e below (s₁.setTop (entryFrame m #[(.ref p0)] 1)) (T3.setTop (mkF m 27 #[.val (.ref p0)] [(.int (((((31 : Int32) * w1) + w2) * (2 : Int32)) + zz))])) := by
    refine s6.trans ?_
    show Steps p.tables e below (T3.setTop (mkF m 26 #[.val (.ref p0)] [(.int zz), (.int ((((31 : Int32) * w1) + w2) * (2 : Int32)))])) _
    refine XS.iadd X3.here hx rfl (hb hby d4_26) rfl ?_
    exact Steps.refl _
  obtain ⟨fs, hr, hrun, hended, hW, hsame⟩ := X3.leave (v := some (.int (((((31 : Int32) * w1) + w2) * (2 : Int32)) + zz))) (fun h => by rw [Bd.returns] at h; cases h)
  refine ⟨_, _, s7.trans ?_, hrun, hended, _, _, rfl, ?_, ⟨_, rfl⟩, hW, hsame.mono (by decide) (by decide)⟩
  · show Steps p.tables e below (T3.setTop (mkF m 27 #[.val (.ref p0)] [(.int (((((31 : Int32) * w1) + w2) * (2 : Int32)) + zz))])) _
    exact retI X3 hx Bd.returns (hb hby d4_27) hr
  · show Q4 Z p0 w1 w2 w3 h0 n0 _ T3.heap _
    rw [e3]
    exact ⟨(by rw [hzz]; rfl), N0, rfl⟩
theorem own_rm0_1 (p0 : Int32) (p1 : Int32) (p2 : Int32) (z1 : Int32) (z2 : Int32) (hz1 : z1 = (if (p2 &&& (1 : Int32)) = (0 : Int32) then (0 : Int32) else (1 : Int32))) (hz2 : z2 = (if z1 = (0 : Int32) then (0 : Int32) else (1 : Int32))) : ((own_hash p0 p1 (nar .boolean z1)) - (own_hash p0 p1 (nar .boolean (0 : Int32)))) = z2 := by
  have hq : z1 = 0 ∨ z1 = 1 := by
    rw [hz1]; split
    · exact Or.inl rfl
    · exact Or.inr rfl
  subst hz2
  rcases hq with rfl | rfl
  all_goals simp only [own_hash, own_nar0, own_nar1]
  all_goals simp
  all_goals grind
theorem own_rm0_2 (p0 : Int32) (p1 : Int32) (p2 : Int32) (z1 : Int32) (hz1 : z1 = (if (p2 &&& (1 : Int32)) = (0 : Int32) then (0 : Int32) else (1 : Int32))) : ((own_hash p0 (p1 + (1 : Int32)) (nar .boolean z1)) - (own_hash p0 p1 (nar .boolean z1))) = (2 : Int32) := by
  have hq : z1 = 0 ∨ z1 = 1 := by
    rw [hz1]; split
    · exact Or.inl rfl
    · exact Or.inr rfl
  rcases hq with rfl | rfl
  all_goals simp only [own_hash, own_nar0, own_nar1]
  all_goals simp
  all_goals grind
theorem own_rm0_3 (p0 : Int32) (p1 : Int32) (p2 : Int32) (z1 : Int32) (hz1 : z1 = (if (p2 &&& (1 : Int32)) = (0 : Int32) then (0 : Int32) else (1 : Int32))) : ((own_hash (p0 + (1 : Int32)) p1 (nar .boolean z1)) - (own_hash p0 p1 (nar .boolean z1))) = (62 : Int32) := by
  have hq : z1 = 0 ∨ z1 = 1 := by
    rw [hz1]; split
    · exact Or.inl rfl
    · exact Or.inr rfl
  rcases hq with rfl | rfl
  all_goals simp only [own_hash, own_nar0, own_nar1]
  all_goals simp
  all_goals grind
theorem pn_0 : plainName "com/example/schemactl/schemactl/UnfinishedHashCodePinLaw" = true := by first | (simp [plainName, overriddenIn]; done) | decide +kernel
theorem pd_rm0_0 : parseMethodDescriptor "(IIZ)V" = some ⟨[.int, .int, .boolean], none⟩ := by decide +kernel
theorem pd_rm0_1 : parseMethodDescriptor "()I" = some ⟨[], some .int⟩ := by decide +kernel
theorem ef_rm0 (m : MethodId) (p0 : Int32) (p1 : Int32) (p2 : Int32) : entryFrame m #[(.int p0), (.int p1), (.int p2)] maxLocals = mkF m 0 #[.val (.int p0), .val (.int p1), .val (.int p2), .unset, .unset, .unset, .unset, .unset, .unset, .unset, .unset, .unset, .unset, .unset, .unset] [] := by first | (simp [entryFrame, mkF, argsToLocals, Value.category, maxLocals]; done) | rfl
def Q0 (Z : State) (p0 : Int32) (p1 : Int32) (p2 : Int32) (h0 : Heap) (n0 : Nat) (v : Option Value) (h : Heap) (L : List Loc) : Prop := v = some (.int (1 : Int32)) ∧ Fr n0 L
set_option maxRecDepth 65536 in
set_option maxHeartbeats 40000000 in
theorem rm0 (l : Launch) (Z : State) (a0 : Array Value) (hw : ∀ d ∈ tables_1, d.before a0 Z = true) (ws : List Jvm.Cond) (p0 : Int32) (p1 : Int32) (p2 : Int32) (h0 : Heap) (n0 : Nat) (O0 : Old Z n0 h0) :
    MetFree l x (head1 (Jvm.Cond.code x code maxLocals ret :: ws) room_1) (fun a U => a = #[(.int p0), (.int p1), (.int p2)] ∧ Z.Warmed39 U.vm ∧ U.heap = h0) (fun _ _ _ _ _ => True) (fun _ U o U' => ∃ v L, o = .returned v ∧ Q0 Z p0 p1 p2 h0 n0 v U'.heap L ∧ FrameEnd U o U' L room_1.cells room_1.slots) := by
  refine MetFree.of_bodySF (plainFor_of_name pn_0) hisR ?_
  intro p e s m args below meth c s₁ Bd hml0 hP hK
  obtain ⟨rfl, hZ, hh⟩ := hP
  have hx := Bd.exec
  have hby := Bd.bytes
  have hml : c.maxLocals = 15 := hml0
  have hown : s.vm.findClass "com/example/schemactl/schemactl/UnfinishedHashCodePinLaw" = some m.cls := findClass_of_methodNamed Bd.named
  have hnm := (name_of_methodNamed Bd.named Bd.method).1
  have X0 : Stand p l e room_1 s m #[(.int p0), (.int p1), (.int p2)] below meth c s₁ [] 0 0 := Stand.of_body Bd
  have e0 : s₁.heap = h0 := by rw [← hh, Bd.state]; rfl
  have N0 := Fr.nil n0
  have s0 : Steps p.tables e below (s₁.setTop (entryFrame m #[(.int p0), (.int p1), (.int p2)] maxLocals)) (s₁.setTop (mkF m 0 #[.val (.int p0), .val (.int p1), .val (.int p2), .unset, .unset, .unset, .unset, .unset, .unset, .unset, .unset, .unset, .unset, .unset, .unset] [])) := castTop (ef_rm0 m p0 p1 p2) (Steps.refl _)
  have s1 : Steps p.tables e below (s₁.setTop (entryFrame m #[(.int p0), (.int p1), (.int p2)] maxLocals)) (s₁.setTop (mkF m 3 #[.val (.int p0), .val (.int p1), .val (.int p2), .unset, .unset, .unset, .unset, .unset, .unset, .unset, .unset, .unset, .unset, .unset, .unset] [(.int (p2 &&& (1 : Int32)))])) := by
    refine s0.trans ?_
    show Steps p.tables e below (s₁.setTop (mkF m 0 #[.val (.int p0), .val (.int p1), .val (.int p2), .unset, .unset, .unset, .unset, .unset, .unset, .unset, .unset, .unset, .unset, .unset, .unset] [])) _
    refine XS.iloadN X0.here hx rfl (hb hby at_0) rfl ?_
    show Steps p.tables e below (s₁.setTop (mkF m 1 #[.val (.int p0), .val (.int p1), .val (.int p2), .unset, .unset, .unset, .unset, .unset, .unset, .unset, .unset, .unset, .unset, .unset, .unset] [(.int p2)])) _
    refine XS.iconst X0.here hx rfl (hb hby at_1) ?_
    show Steps p.tables e below (s₁.setTop (mkF m 2 #[.val (.int p0), .val (.int p1), .val (.int p2), .unset, .unset, .unset, .unset, .unset, .unset, .unset, .unset, .unset, .unset, .unset, .unset] [(.int (1 : Int32)), (.int p2)])) _
    refine XS.iand X0.here hx rfl (hb hby at_2) rfl ?_
    exact Steps.refl _
  have s3 : Steps p.tables e below (s₁.setTop (entryFrame m #[(.int p0), (.int p1), (.int p2)] maxLocals)) (s₁.setTop (mkF m 11 #[.val (.int p0), .val (.int p1), .val (.int p2), .unset, .unset, .unset, .unset, .unset, .unset, .unset, .unset, .unset, .unset, .unset, .unset] [(.int (if (p2 &&& (1 : Int32)) = (0 : Int32) then (0 : Int32) else (1 : Int32)))])) := by
    by_cases hm2 : (p2 &&& (1 : Int32)) = (0 : Int32)
    · simp only [if_pos hm2]
      refine s1.trans ?_
      show Steps p.tables e below (s₁.setTop (mkF m 3 #[.val (.int p0), .val (.int p1), .val (.int p2), .unset, .unset, .unset, .unset, .unset, .unset, .unset, .unset, .unset, .unset, .unset, .unset] [(.int (p2 &&& (1 : Int32)))])) _
      refine XS.ifYes X0.here hx rfl (pc0 := 3) (pc' := 10) rfl (hb hby at_3) rfl ((if0 _ _).trans (teq hm2).1) (by decide) (by decide) ?_
      show Steps p.tables e below (s₁.setTop (mkF m 10 #[.val (.int p0), .val (.int p1), .val (.int p2), .unset, .unset, .unset, .unset, .unset, .unset, .unset, .unset, .unset, .unset, .unset, .unset] [])) _
      refine XS.iconst X0.here hx rfl (hb hby at_10) ?_
      exact Steps.refl _
    · simp only [if_neg hm2]
      refine s1.trans ?_
      show Steps p.tables e below (s₁.setTop (mkF m 3 #[.val (.int p0), .val (.int p1), .val (.int p2), .unset, .unset, .unset, .unset, .unset, .unset, .unset, .unset, .unset, .unset, .unset, .unset] [(.int (p2 &&& (1 : Int32)))])) _
      refine XS.ifNo X0.here hx rfl (hb hby at_3) rfl ((if0 _ _).trans (feq hm2).1) ?_
      show Steps p.tables e below (s₁.setTop (mkF m 6 #[.val (.int p0), .val (.int p1), .val (.int p2), .unset, .unset, .unset, .unset, .unset, .unset, .unset, .unset, .unset, .unset, .unset, .unset] [])) _
      refine XS.iconst X0.here hx rfl (hb hby at_6) ?_
      show Steps p.tables e below (s₁.setTop (mkF m 7 #[.val (.int p0), .val (.int p1), .val (.int p2), .unset, .unset, .unset, .unset, .unset, .unset, .unset, .unset, .unset, .unset, .unset, .unset] [(.int (1 : Int32))])) _
      refine XS.goto X0.here hx rfl (pc0 := 7) (pc' := 11) rfl (hb hby at_7) (by decide) (by decide) ?_
      exact Steps.refl _
  obtain ⟨z1, hz1⟩ : ∃ z, z = (if (p2 &&& (1 : Int32)) = (0 : Int32) then (0 : Int32) else (1 : Int32)) := ⟨_, rfl⟩
  rw [← hz1] at s3
  obtain ⟨T4, h4, X4, e4, E4, A4, D4, -, st4⟩ := newO X0 hx hZ hown (hw _ (List.mem_of_getElem? (i := 0) rfl)) (hw _ (List.mem_of_getElem? (i := 1) rfl)) (hw _ (List.mem_of_getElem? (i := 2) rfl)) e0 (g := (mkF m 12 #[.val (.int p0), .val (.int p1), .val (.int p2), .val (.int z1), .unset, .unset, .unset, .unset, .unset, .unset, .unset, .unset, .unset, .unset, .unset] [])) rfl (hb hby at_12) (by decide) (by decide)
  obtain ⟨b4, g4⟩ : ∃ z, z = h0.size := ⟨_, rfl⟩
  rw [← g4] at A4 D4 st4
  have g_b4 : n0 ≤ b4 := Nat.le_trans (Nat.le_of_eq O0.1.symm) (Nat.le_trans O0.2.1 (Nat.le_of_eq g4.symm))
  have O4 := O0.ext E4
  have F4_applied : Fld Z h4 b4 "com/example/schemactl/schemactl/Unfinished" "applied" "I" (.int (0 : Int32)) := D4 (Or.inr (hw _ (List.mem_of_getElem? (i := 15) rfl))) (ty := .int) (by decide)
  have F4_uncertain : Fld Z h4 b4 "com/example/schemactl/schemactl/Unfinished" "uncertain" "I" (.int (0 : Int32)) := D4 (Or.inr (hw _ (List.mem_of_getElem? (i := 17) rfl))) (ty := .int) (by decide)
  have F4_resumable : Fld Z h4 b4 "com/example/schemactl/schemactl/Unfinished" "resumable" "Z" (.int (0 : Int32)) := D4 (Or.inr (hw _ (List.mem_of_getElem? (i := 19) rfl))) (ty := .boolean) (by decide)
  obtain ⟨_, _, ⟨T5, L5, k5, n5⟩, -, X5, ⟨Lc5, hQ5, l5, y5, z5⟩, st5⟩ := X4.specialBack hx (y := (⟨"com/example/schemactl/schemactl/Unfinished", "<init>", "(IIZ)V"⟩ : MethodName)) rfl hown (mvT hZ (hw _ (List.mem_of_getElem? (i := 3) rfl))) (mvT hZ (hw _ (List.mem_of_getElem? (i := 4) rfl))) (mvT hZ (hw _ (List.mem_of_getElem? (i := 5) rfl))) (by decide) (backOf (W := 1) (rm1 l Z a0 hw [] b4 p0 p1 z1 h4 n0 O4 A4 F4_applied F4_uncertain F4_resumable g_b4) hZ (hw _ (List.mem_of_getElem? (i := 5) rfl)) (hw _ (List.mem_of_getElem? (i := 2) rfl)) (by decide) (by decide)) (g := (mkF m 19 #[.val (.int p0), .val (.int p1), .val (.int p2), .val (.int z1), .unset, .unset, .unset, .unset, .unset, .unset, .unset, .unset, .unset, .unset, .unset] [(.int z1), (.int p1), (.int p0), (.ref b4), (.ref b4)])) rfl (by rw [hml]; rfl) (Steps.refl _) (a := b4) (argsL := [(.int p0), (.int p1), (.int z1)]) (rest := [(.ref b4)]) (lenOf pd_rm0_0 rfl) rfl (by show 2 * 0 + _ ≤ _; exact Nat.le_of_eq rfl) (hb hby at_19) (fun _ _ => ⟨rfl, e4, (by decide : 1 + 0 ≤ _), (by decide : 3 + 0 ≤ _)⟩)
  dsimp only [Pt.U, Pt.locs, Pt.cells, Pt.slots] at X5 l5 y5 z5 st5 hQ5
  subst l5 y5 z5
  obtain ⟨rfl, Nq5, Kc5, f5_0, f5_1, f5_2, f5_3⟩ := hQ5
  have N5 := Fr.app N0 Nq5
  have O5 := O4.keep Kc5 (allS g_b4 all0)
  obtain ⟨T6, h6, X6, e6, E6, A6, D6, -, st6⟩ := newO X5 hx hZ hown (hw _ (List.mem_of_getElem? (i := 0) rfl)) (hw _ (List.mem_of_getElem? (i := 1) rfl)) (hw _ (List.mem_of_getElem? (i := 2) rfl)) (rfl : T5.heap = T5.heap) (g := (mkF m 24 #[.val (.int p0), .val (.int p1), .val (.int p2), .val (.int z1), .val (.ref b4), .unset, .unset, .unset, .unset, .unset, .unset, .unset, .unset, .unset, .unset] [])) rfl (hb hby at_24) (by decide) (by decide)
  obtain ⟨b6, g6⟩ : ∃ z, z = T5.heap.size := ⟨_, rfl⟩
  rw [← g6] at A6 D6 st6
  have ne_b4_b6 : b4 ≠ b6 := Nat.ne_of_lt (Nat.lt_of_lt_of_le f5_0.lt (Nat.le_of_eq g6.symm))
  have g_b6 : n0 ≤ b6 := Nat.le_trans (Nat.le_of_eq O5.1.symm) (Nat.le_trans O5.2.1 (Nat.le_of_eq g6.symm))
  have O6 := O5.ext E6
  have F6_applied : Fld Z h6 b6 "com/example/schemactl/schemactl/Unfinished" "applied" "I" (.int (0 : Int32)) := D6 (Or.inr (hw _ (List.mem_of_getElem? (i := 15) rfl))) (ty := .int) (by decide)
  have F6_uncertain : Fld Z h6 b6 "com/example/schemactl/schemactl/Unfinished" "uncertain" "I" (.int (0 : Int32)) := D6 (Or.inr (hw _ (List.mem_of_getElem? (i := 17) rfl))) (ty := .int) (by decide)
  have F6_resumable : Fld Z h6 b6 "com/example/schemactl/schemactl/Unfinished" "resumable" "Z" (.int (0 : Int32)) := D6 (Or.inr (hw _ (List.mem_of_getElem? (i := 19) rfl))) (ty := .boolean) (by decide)
  obtain ⟨_, _, ⟨T7, L7, k7, n7⟩, -, X7, ⟨Lc7, hQ7, l7, y7, z7⟩, st7⟩ := X6.specialBack hx (y := (⟨"com/example/schemactl/schemactl/Unfinished", "<init>", "(IIZ)V"⟩ : MethodName)) rfl hown (mvT hZ (hw _ (List.mem_of_getElem? (i := 3) rfl))) (mvT hZ (hw _ (List.mem_of_getElem? (i := 4) rfl))) (mvT hZ (hw _ (List.mem_of_getElem? (i := 5) rfl))) (by decide) (backOf (W := 1) (rm1 l Z a0 hw [] b6 p0 p1 (0 : Int32) h6 n0 O6 A6 F6_applied F6_uncertain F6_resumable g_b6) hZ (hw _ (List.mem_of_getElem? (i := 5) rfl)) (hw _ (List.mem_of_getElem? (i := 2) rfl)) (by decide) (by decide)) (g := (mkF m 31 #[.val (.int p0), .val (.int p1), .val (.int p2), .val (.int z1), .val (.ref b4), .unset, .unset, .unset, .unset, .unset, .unset, .unset, .unset, .unset, .unset] [(.int (0 : Int32)), (.int p1), (.int p0), (.ref b6), (.ref b6)])) rfl (by rw [hml]; rfl) (Steps.refl _) (a := b6) (argsL := [(.int p0), (.int p1), (.int (0 : Int32))]) (rest := [(.ref b6)]) (lenOf pd_rm0_0 rfl) rfl (by show 2 * 0 + _ ≤ _; exact Nat.le_of_eq rfl) (hb hby at_31) (fun _ _ => ⟨rfl, e6, (by decide : 2 + 0 ≤ _), (by decide : 6 + 0 ≤ _)⟩)
  dsimp only [Pt.U, Pt.locs, Pt.cells, Pt.slots] at X7 l7 y7 z7 st7 hQ7
  subst l7 y7 z7
  obtain ⟨rfl, Nq7, Kc7, f7_0, f7_1, f7_2, f7_3⟩ := hQ7
  have N7 := Fr.app N5 Nq7
  have O7 := O6.keep Kc7 (allS g_b6 all0)
  obtain ⟨T8, h8, X8, e8, E8, A8, D8, -, st8⟩ := newO X7 hx hZ hown (hw _ (List.mem_of_getElem? (i := 0) rfl)) (hw _ (List.mem_of_getElem? (i := 1) rfl)) (hw _ (List.mem_of_getElem? (i := 2) rfl)) (rfl : T7.heap = T7.heap) (g := (mkF m 36 #[.val (.int p0), .val (.int p1), .val (.int p2), .val (.int z1), .val (.ref b4), .val (.ref b6), .unset, .unset, .unset, .unset, .unset, .unset, .unset, .unset, .unset] [])) rfl (hb hby at_36) (by decide) (by decide)
  obtain ⟨b8, g8⟩ : ∃ z, z = T7.heap.size := ⟨_, rfl⟩
  rw [← g8] at A8 D8 st8
  have c9 : Exa Z T7.heap b4 "com/example/schemactl/schemactl/Unfinished" := ((f5_0.ext E6).keep Kc7)
  have ne_b4_b8 : b4 ≠ b8 := Nat.ne_of_lt (Nat.lt_of_lt_of_le c9.lt (Nat.le_of_eq g8.symm))
  have ne_b6_b8 : b6 ≠ b8 := Nat.ne_of_lt (Nat.lt_of_lt_of_le f7_0.lt (Nat.le_of_eq g8.symm))
  have g_b8 : n0 ≤ b8 := Nat.le_trans (Nat.le_of_eq O7.1.symm) (Nat.le_trans O7.2.1 (Nat.le_of_eq g8.symm))
  have O8 := O7.ext E8
  have F8_applied : Fld Z h8 b8 "com/example/schemactl/schemactl/Unfinished" "applied" "I" (.int (0 : Int32)) := D8 (Or.inr (hw _ (List.mem_of_getElem? (i := 15) rfl))) (ty := .int) (by decide)
  have F8_uncertain : Fld Z h8 b8 "com/example/schemactl/schemactl/Unfinished" "uncertain" "I" (.int (0 : Int32)) := D8 (Or.inr (hw _ (List.mem_of_getElem? (i := 17) rfl))) (ty := .int) (by decide)
  have F8_resumable : Fld Z h8 b8 "com/example/schemactl/schemactl/Unfinished" "resumable" "Z" (.int (0 : Int32)) := D8 (Or.inr (hw _ (List.mem_of_getElem? (i := 19) rfl))) (ty := .boolean) (by decide)
  obtain ⟨_, _, ⟨T10, L10, k10, n10⟩, -, X10, ⟨Lc10, hQ10, l10, y10, z10⟩, st10⟩ := X8.specialBack hx (y := (⟨"com/example/schemactl/schemactl/Unfinished", "<init>", "(IIZ)V"⟩ : MethodName)) rfl hown (mvT hZ (hw _ (List.mem_of_getElem? (i := 3) rfl))) (mvT hZ (hw _ (List.mem_of_getElem? (i := 4) rfl))) (mvT hZ (hw _ (List.mem_of_getElem? (i := 5) rfl))) (by decide) (backOf (W := 1) (rm1 l Z a0 hw [] b8 p0 (p1 + (1 : Int32)) z1 h8 n0 O8 A8 F8_applied F8_uncertain F8_resumable g_b8) hZ (hw _ (List.mem_of_getElem? (i := 5) rfl)) (hw _ (List.mem_of_getElem? (i := 2) rfl)) (by decide) (by decide)) (g := (mkF m 45 #[.val (.int p0), .val (.int p1), .val (.int p2), .val (.int z1), .val (.ref b4), .val (.ref b6), .unset, .unset, .unset, .unset, .unset, .unset, .unset, .unset, .unset] [(.int z1), (.int (p1 + (1 : Int32))), (.int p0), (.ref b8), (.ref b8)])) rfl (by rw [hml]; rfl) (Steps.refl _) (a := b8) (argsL := [(.int p0), (.int (p1 + (1 : Int32))), (.int z1)]) (rest := [(.ref b8)]) (lenOf pd_rm0_0 rfl) rfl (by show 2 * 0 + _ ≤ _; exact Nat.le_of_eq rfl) (hb hby at_45) (fun _ _ => ⟨rfl, e8, (by decide : 3 + 0 ≤ _), (by decide : 9 + 0 ≤ _)⟩)
  dsimp only [Pt.U, Pt.locs, Pt.cells, Pt.slots] at X10 l10 y10 z10 st10 hQ10
  subst l10 y10 z10
  obtain ⟨rfl, Nq10, Kc10, f10_0, f10_1, f10_2, f10_3⟩ := hQ10
  have N10 := Fr.app N7 Nq10
  have O10 := O8.keep Kc10 (allS g_b8 all0)
  obtain ⟨T11, h11, X11, e11, E11, A11, D11, -, st11⟩ := newO X10 hx hZ hown (hw _ (List.mem_of_getElem? (i := 0) rfl)) (hw _ (List.mem_of_getElem? (i := 1) rfl)) (hw _ (List.mem_of_getElem? (i := 2) rfl)) (rfl : T10.heap = T10.heap) (g := (mkF m 50 #[.val (.int p0), .val (.int p1), .val (.int p2), .val (.int z1), .val (.ref b4), .val (.ref b6), .val (.ref b8), .unset, .unset, .unset, .unset, .unset, .unset, .unset, .unset] [])) rfl (hb hby at_50) (by decide) (by decide)
  obtain ⟨b11, g11⟩ : ∃ z, z = T10.heap.size := ⟨_, rfl⟩
  rw [← g11] at A11 D11 st11
  have c12 : Exa Z T10.heap b4 "com/example/schemactl/schemactl/Unfinished" := ((c9.ext E8).keep Kc10)
  have ne_b4_b11 : b4 ≠ b11 := Nat.ne_of_lt (Nat.lt_of_lt_of_le c12.lt (Nat.le_of_eq g11.symm))
  have c13 : Exa Z T10.heap b6 "com/example/schemactl/schemactl/Unfinished" := ((f7_0.ext E8).keep Kc10)
  have ne_b6_b11 : b6 ≠ b11 := Nat.ne_of_lt (Nat.lt_of_lt_of_le c13.lt (Nat.le_of_eq g11.symm))
  have ne_b8_b11 : b8 ≠ b11 := Nat.ne_of_lt (Nat.lt_of_lt_of_le f10_0.lt (Nat.le_of_eq g11.symm))
  have g_b11 : n0 ≤ b11 := Nat.le_trans (Nat.le_of_eq O10.1.symm) (Nat.le_trans O10.2.1 (Nat.le_of_eq g11.symm))
  have O11 := O10.ext E11
  have F11_applied : Fld Z h11 b11 "com/example/schemactl/schemactl/Unfinished" "applied" "I" (.int (0 : Int32)) := D11 (Or.inr (hw _ (List.mem_of_getElem? (i := 15) rfl))) (ty := .int) (by decide)
  have F11_uncertain : Fld Z h11 b11 "com/example/schemactl/schemactl/Unfinished" "uncertain" "I" (.int (0 : Int32)) := D11 (Or.inr (hw _ (List.mem_of_getElem? (i := 17) rfl))) (ty := .int) (by decide)
  have F11_resumable : Fld Z h11 b11 "com/example/schemactl/schemactl/Unfinished" "resumable" "Z" (.int (0 : Int32)) := D11 (Or.inr (hw _ (List.mem_of_getElem? (i := 19) rfl))) (ty := .boolean) (by decide)
  obtain ⟨_, _, ⟨T14, L14, k14, n14⟩, -, X14, ⟨Lc14, hQ14, l14, y14, z14⟩, st14⟩ := X11.specialBack hx (y := (⟨"com/example/schemactl/schemactl/Unfinished", "<init>", "(IIZ)V"⟩ : MethodName)) rfl hown (mvT hZ (hw _ (List.mem_of_getElem? (i := 3) rfl))) (mvT hZ (hw _ (List.mem_of_getElem? (i := 4) rfl))) (mvT hZ (hw _ (List.mem_of_getElem? (i := 5) rfl))) (by decide) (backOf (W := 1) (rm1 l Z a0 hw [] b11 (p0 + (1 : Int32)) p1 z1 h11 n0 O11 A11 F11_applied F11_uncertain F11_resumable g_b11) hZ (hw _ (List.mem_of_getElem? (i := 5) rfl)) (hw _ (List.mem_of_getElem? (i := 2) rfl)) (by decide) (by decide)) (g := (mkF m 59 #[.val (.int p0), .val (.int p1), .val (.int p2), .val (.int z1), .val (.ref b4), .val (.ref b6), .val (.ref b8), .unset, .unset, .unset, .unset, .unset, .unset, .unset, .unset] [(.int z1), (.int p1), (.int (p0 + (1 : Int32))), (.ref b11), (.ref b11)])) rfl (by rw [hml]; rfl) (Steps.refl _) (a := b11) (argsL := [(.int (p0 + (1 : Int32))), (.int p1), (.int z1)]) (rest := [(.ref b11)]) (lenOf pd_rm0_0 rfl) rfl (by show 2 * 0 + _ ≤ _; exact Nat.le_of_eq rfl) (hb hby at_59) (fun _ _ => ⟨rfl, e11, (by decide : 4 + 0 ≤ _), (by decide : 12 + 0 ≤ _)⟩)
  dsimp only [Pt.U, Pt.locs, Pt.cells, Pt.slots] at X14 l14 y14 z14 st14 hQ14
  subst l14 y14 z14
  obtain ⟨rfl, Nq14, Kc14, f14_0, f14_1, f14_2, f14_3⟩ := hQ14
  have N14 := Fr.app N10 Nq14
  have O14 := O11.keep Kc14 (allS g_b11 all0)
  obtain ⟨T15, h15, X15, e15, E15, A15, D15, -, st15⟩ := newO X14 hx hZ hown (hw _ (List.mem_of_getElem? (i := 0) rfl)) (hw _ (List.mem_of_getElem? (i := 1) rfl)) (hw _ (List.mem_of_getElem? (i := 2) rfl)) (rfl : T14.heap = T14.heap) (g := (mkF m 64 #[.val (.int p0), .val (.int p1), .val (.int p2), .val (.int z1), .val (.ref b4), .val (.ref b6), .val (.ref b8), .val (.ref b11), .unset, .unset, .unset, .unset, .unset, .unset, .unset] [])) rfl (hb hby at_64) (by decide) (by decide)
  obtain ⟨b15, g15⟩ : ∃ z, z = T14.heap.size := ⟨_, rfl⟩
  rw [← g15] at A15 D15 st15
  have c16 : Exa Z T14.heap b4 "com/example/schemactl/schemactl/Unfinished" := ((c12.ext E11).keep Kc14)
  have ne_b4_b15 : b4 ≠ b15 := Nat.ne_of_lt (Nat.lt_of_lt_of_le c16.lt (Nat.le_of_eq g15.symm))
  have c17 : Exa Z T14.heap b6 "com/example/schemactl/schemactl/Unfinished" := ((c13.ext E11).keep Kc14)
  have ne_b6_b15 : b6 ≠ b15 := Nat.ne_of_lt (Nat.lt_of_lt_of_le c17.lt (Nat.le_of_eq g15.symm))
  have c18 : Exa Z T14.heap b8 "com/example/schemactl/schemactl/Unfinished" := ((f10_0.ext E11).keep Kc14)
  have ne_b8_b15 : b8 ≠ b15 := Nat.ne_of_lt (Nat.lt_of_lt_of_le c18.lt (Nat.le_of_eq g15.symm))
  have ne_b11_b15 : b11 ≠ b15 := Nat.ne_of_lt (Nat.lt_of_lt_of_le f14_0.lt (Nat.le_of_eq g15.symm))
  have g_b15 : n0 ≤ b15 := Nat.le_trans (Nat.le_of_eq O14.1.symm) (Nat.le_trans O14.2.1 (Nat.le_of_eq g15.symm))
  have O15 := O14.ext E15
  have F15_applied : Fld Z h15 b15 "com/example/schemactl/schemactl/Unfinished" "applied" "I" (.int (0 : Int32)) := D15 (Or.inr (hw _ (List.mem_of_getElem? (i := 15) rfl))) (ty := .int) (by decide)
  have F15_uncertain : Fld Z h15 b15 "com/example/schemactl/schemactl/Unfinished" "uncertain" "I" (.int (0 : Int32)) := D15 (Or.inr (hw _ (List.mem_of_getElem? (i := 17) rfl))) (ty := .int) (by decide)
  have F15_resumable : Fld Z h15 b15 "com/example/schemactl/schemactl/Unfinished" "resumable" "Z" (.int (0 : Int32)) := D15 (Or.inr (hw _ (List.mem_of_getElem? (i := 19) rfl))) (ty := .boolean) (by decide)
  obtain ⟨_, _, ⟨T19, L19, k19, n19⟩, -, X19, ⟨Lc19, hQ19, l19, y19, z19⟩, st19⟩ := X15.specialBack hx (y := (⟨"com/example/schemactl/schemactl/Unfinished", "<init>", "(IIZ)V"⟩ : MethodName)) rfl hown (mvT hZ (hw _ (List.mem_of_getElem? (i := 3) rfl))) (mvT hZ (hw _ (List.mem_of_getElem? (i := 4) rfl))) (mvT hZ (hw _ (List.mem_of_getElem? (i := 5) rfl))) (by decide) (backOf (W := 1) (rm1 l Z a0 hw [] b15 (0 : Int32) (0 : Int32) (0 : Int32) h15 n0 O15 A15 F15_applied F15_uncertain F15_resumable g_b15) hZ (hw _ (List.mem_of_getElem? (i := 5) rfl)) (hw _ (List.mem_of_getElem? (i := 2) rfl)) (by decide) (by decide)) (g := (mkF m 71 #[.val (.int p0), .val (.int p1), .val (.int p2), .val (.int z1), .val (.ref b4), .val (.ref b6), .val (.ref b8), .val (.ref b11), .unset, .unset, .unset, .unset, .unset, .unset, .unset] [(.int (0 : Int32)), (.int (0 : Int32)), (.int (0 : Int32)), (.ref b15), (.ref b15)])) rfl (by rw [hml]; rfl) (Steps.refl _) (a := b15) (argsL := [(.int (0 : Int32)), (.int (0 : Int32)), (.int (0 : Int32))]) (rest := [(.ref b15)]) (lenOf pd_rm0_0 rfl) rfl (by show 2 * 0 + _ ≤ _; exact Nat.le_of_eq rfl) (hb hby at_71) (fun _ _ => ⟨rfl, e15, (by decide : 5 + 0 ≤ _), (by decide : 15 + 0 ≤ _)⟩)
  dsimp only [Pt.U, Pt.locs, Pt.cells, Pt.slots] at X19 l19 y19 z19 st19 hQ19
  subst l19 y19 z19
  obtain ⟨rfl, Nq19, Kc19, f19_0, f19_1, f19_2, f19_3⟩ := hQ19
  have N19 := Fr.app N14 Nq19
  have O19 := O15.keep Kc19 (allS g_b15 all0)
  have c20 : Fld Z T19.heap b4 "com/example/schemactl/schemactl/Unfinished" "applied" "I" (.int p0) := ((((((((f5_1.ext E6).keep Kc7 (ninS ne_b4_b6 nin0)).ext E8).keep Kc10 (ninS ne_b4_b8 nin0)).ext E11).keep Kc14 (ninS ne_b4_b11 nin0)).ext E15).keep Kc19 (ninS ne_b4_b15 nin0))
  have c21 : Fld Z T19.heap b4 "com/example/schemactl/schemactl/Unfinished" "uncertain" "I" (.int p1) := ((((((((f5_2.ext E6).keep Kc7 (ninS ne_b4_b6 nin0)).ext E8).keep Kc10 (ninS ne_b4_b8 nin0)).ext E11).keep Kc14 (ninS ne_b4_b11 nin0)).ext E15).keep Kc19 (ninS ne_b4_b15 nin0))
  have c22 : Fld Z T19.heap b4 "com/example/schemactl/schemactl/Unfinished" "resumable" "Z" (.int (nar .boolean z1)) := ((((((((f5_3.ext E6).keep Kc7 (ninS ne_b4_b6 nin0)).ext E8).keep Kc10 (ninS ne_b4_b8 nin0)).ext E11).keep Kc14 (ninS ne_b4_b11 nin0)).ext E15).keep Kc19 (ninS ne_b4_b15 nin0))
  have c24 : Exa Z T19.heap b4 "com/example/schemactl/schemactl/Unfinished" := ((c16.ext E15).keep Kc19)
  obtain ⟨cq23, kq23, q23a, q23b, q23c⟩ := isOf hZ (rfl : T19.heap = T19.heap) c24
  obtain ⟨_, _, ⟨T23, L23, k23, n23⟩, -, X23, ⟨Lc23, hQ23, l23, y23, z23⟩, st23⟩ := X19.virtualBack hx (y := (⟨"com/example/schemactl/schemactl/Unfinished", "hashCode", "()I"⟩ : MethodName)) (z := (⟨"com/example/schemactl/schemactl/Unfinished", "hashCode", "()I"⟩ : MethodName)) hown (mvT hZ (hw _ (List.mem_of_getElem? (i := 20) rfl))) (mvT hZ (hw _ (List.mem_of_getElem? (i := 21) rfl))) (notFace_of_selects (args := #[]) (mvT hZ (hw _ (List.mem_of_getElem? (i := 23) rfl)))) (mvT hZ (hw _ (List.mem_of_getElem? (i := 23) rfl))) (mvT hZ (hw _ (List.mem_of_getElem? (i := 22) rfl))) (by decide) (backOf (W := 0) (rm4 l Z a0 hw [] b4 p0 p1 (nar .boolean z1) T19.heap n0 O19 c20 c21 c22) hZ (hw _ (List.mem_of_getElem? (i := 24) rfl)) (hw _ (List.mem_of_getElem? (i := 2) rfl)) (by decide) (by decide)) q23a q23c (g := (mkF m 78 #[.val (.int p0), .val (.int p1), .val (.int p2), .val (.int z1), .val (.ref b4), .val (.ref b6), .val (.ref b8), .val (.ref b11), .val (.ref b15), .unset, .unset, .unset, .unset, .unset, .unset] [(.ref b4)])) rfl (by rw [hml]; rfl) (Steps.refl _) (argsL := []) (rest := []) (lenOf pd_rm0_1 rfl) rfl (by show 2 * 0 + _ ≤ _; exact Nat.le_of_eq rfl) (hb hby at_78) (fun _ _ => ⟨rfl, (rfl : T19.heap = T19.heap), (by decide : 5 + 0 ≤ _), (by decide : 15 + 0 ≤ _)⟩)
  dsimp only [Pt.U, Pt.locs, Pt.cells, Pt.slots] at X23 l23 y23 z23 st23 hQ23
  subst l23 y23 z23
  obtain ⟨rfl, Nq23, e23⟩ := hQ23
  have N23 := Fr.app N19 Nq23
  have c25 : Fld Z T19.heap b6 "com/example/schemactl/schemactl/Unfinished" "applied" "I" (.int p0) := ((((((f7_1.ext E8).keep Kc10 (ninS ne_b6_b8 nin0)).ext E11).keep Kc14 (ninS ne_b6_b11 nin0)).ext E15).keep Kc19 (ninS ne_b6_b15 nin0))
  have c26 : Fld Z T19.heap b6 "com/example/schemactl/schemactl/Unfinished" "uncertain" "I" (.int p1) := ((((((f7_2.ext E8).keep Kc10 (ninS ne_b6_b8 nin0)).ext E11).keep Kc14 (ninS ne_b6_b11 nin0)).ext E15).keep Kc19 (ninS ne_b6_b15 nin0))
  have c27 : Fld Z T19.heap b6 "com/example/schemactl/schemactl/Unfinished" "resumable" "Z" (.int (nar .boolean (0 : Int32))) := ((((((f7_3.ext E8).keep Kc10 (ninS ne_b6_b8 nin0)).ext E11).keep Kc14 (ninS ne_b6_b11 nin0)).ext E15).keep Kc19 (ninS ne_b6_b15 nin0))
  have c29 : Exa Z T19.heap b6 "com/example/schemactl/schemactl/Unfinished" := ((c17.ext E15).keep Kc19)
  obtain ⟨cq28, kq28, q28a, q28b, q28c⟩ := isOf hZ e23 c29
  obtain ⟨_, _, ⟨T28, L28, k28, n28⟩, -, X28, ⟨Lc28, hQ28, l28, y28, z28⟩, st28⟩ := X23.virtualBack hx (y := (⟨"com/example/schemactl/schemactl/Unfinished", "hashCode", "()I"⟩ : MethodName)) (z := (⟨"com/example/schemactl/schemactl/Unfinished", "hashCode", "()I"⟩ : MethodName)) hown (mvT hZ (hw _ (List.mem_of_getElem? (i := 20) rfl))) (mvT hZ (hw _ (List.mem_of_getElem? (i := 21) rfl))) (notFace_of_selects (args := #[]) (mvT hZ (hw _ (List.mem_of_getElem? (i := 23) rfl)))) (mvT hZ (hw _ (List.mem_of_getElem? (i := 23) rfl))) (mvT hZ (hw _ (List.mem_of_getElem? (i := 22) rfl))) (by decide) (backOf (W := 0) (rm4 l Z a0 hw [] b6 p0 p1 (nar .boolean (0 : Int32)) T19.heap n0 O19 c25 c26 c27) hZ (hw _ (List.mem_of_getElem? (i := 24) rfl)) (hw _ (List.mem_of_getElem? (i := 2) rfl)) (by decide) (by decide)) q28a q28c (g := (mkF m 85 #[.val (.int p0), .val (.int p1), .val (.int p2), .val (.int z1), .val (.ref b4), .val (.ref b6), .val (.ref b8), .val (.ref b11), .val (.ref b15), .val (.int (own_hash p0 p1 (nar .boolean z1))), .unset, .unset, .unset, .unset, .unset] [(.ref b6)])) rfl (by rw [hml]; rfl) (Steps.refl _) (argsL := []) (rest := []) (lenOf pd_rm0_1 rfl) rfl (by show 2 * 0 + _ ≤ _; exact Nat.le_of_eq rfl) (hb hby at_85) (fun _ _ => ⟨rfl, e23, (by decide : 5 + 0 ≤ _), (by decide : 15 + 0 ≤ _)⟩)
  dsimp only [Pt.U, Pt.locs, Pt.cells, Pt.slots] at X28 l28 y28 z28 st28 hQ28
  subst l28 y28 z28
  obtain ⟨rfl, Nq28, e28⟩ := hQ28
  have N28 := Fr.app N23 Nq28
  have c30 : Fld Z T19.heap b8 "com/example/schemactl/schemactl/Unfinished" "applied" "I" (.int p0) := ((((f10_1.ext E11).keep Kc14 (ninS ne_b8_b11 nin0)).ext E15).keep Kc19 (ninS ne_b8_b15 nin0))
  have c31 : Fld Z T19.heap b8 "com/example/schemactl/schemactl/Unfinished" "uncertain" "I" (.int (p1 + (1 : Int32))) := ((((f10_2.ext E11).keep Kc14 (ninS ne_b8_b11 nin0)).ext E15).keep Kc19 (ninS ne_b8_b15 nin0))
  have c32 : Fld Z T19.heap b8 "com/example/schemactl/schemactl/Unfinished" "resumable" "Z" (.int (nar .boolean z1)) := ((((f10_3.ext E11).keep Kc14 (ninS ne_b8_b11 nin0)).ext E15).keep Kc19 (ninS ne_b8_b15 nin0))
  have c34 : Exa Z T19.heap b8 "com/example/schemactl/schemactl/Unfinished" := ((c18.ext E15).keep Kc19)
  obtain ⟨cq33, kq33, q33a, q33b, q33c⟩ := isOf hZ e28 c34
  obtain ⟨_, _, ⟨T33, L33, k33, n33⟩, -, X33, ⟨Lc33, hQ33, l33, y33, z33⟩, st33⟩ := X28.virtualBack hx (y := (⟨"com/example/schemactl/schemactl/Unfinished", "hashCode", "()I"⟩ : MethodName)) (z := (⟨"com/example/schemactl/schemactl/Unfinished", "hashCode", "()I"⟩ : MethodName)) hown (mvT hZ (hw _ (List.mem_of_getElem? (i := 20) rfl))) (mvT hZ (hw _ (List.mem_of_getElem? (i := 21) rfl))) (notFace_of_selects (args := #[]) (mvT hZ (hw _ (List.mem_of_getElem? (i := 23) rfl)))) (mvT hZ (hw _ (List.mem_of_getElem? (i := 23) rfl))) (mvT hZ (hw _ (List.mem_of_getElem? (i := 22) rfl))) (by decide) (backOf (W := 0) (rm4 l Z a0 hw [] b8 p0 (p1 + (1 : Int32)) (nar .boolean z1) T19.heap n0 O19 c30 c31 c32) hZ (hw _ (List.mem_of_getElem? (i := 24) rfl)) (hw _ (List.mem_of_getElem? (i := 2) rfl)) (by decide) (by decide)) q33a q33c (g := (mkF m 92 #[.val (.int p0), .val (.int p1), .val (.int p2), .val (.int z1), .val (.ref b4), .val (.ref b6), .val (.ref b8), .val (.ref b11), .val (.ref b15), .val (.int (own_hash p0 p1 (nar .boolean z1))), .val (.int (own_hash p0 p1 (nar .boolean (0 : Int32)))), .unset, .unset, .unset, .unset] [(.ref b8)])) rfl (by rw [hml]; rfl) (Steps.refl _) (argsL := []) (rest := []) (lenOf pd_rm0_1 rfl) rfl (by show 2 * 0 + _ ≤ _; exact Nat.le_of_eq rfl) (hb hby at_92) (fun _ _ => ⟨rfl, e28, (by decide : 5 + 0 ≤ _), (by decide : 15 + 0 ≤ _)⟩)
  dsimp only [Pt.U, Pt.locs, Pt.cells, Pt.slots] at X33 l33 y33 z33 st33 hQ33
  subst l33 y33 z33
  obtain ⟨rfl, Nq33, e33⟩ := hQ33
  have N33 := Fr.app N28 Nq33
  have c35 : Fld Z T19.heap b11 "com/example/schemactl/schemactl/Unfinished" "applied" "I" (.int (p0 + (1 : Int32))) := ((f14_1.ext E15).keep Kc19 (ninS ne_b11_b15 nin0))
  have c36 : Fld Z T19.heap b11 "com/example/schemactl/schemactl/Unfinished" "uncertain" "I" (.int p1) := ((f14_2.ext E15).keep Kc19 (ninS ne_b11_b15 nin0))
  have c37 : Fld Z T19.heap b11 "com/example/schemactl/schemactl/Unfinished" "resumable" "Z" (.int (nar .boolean z1)) := ((f14_3.ext E15).keep Kc19 (ninS ne_b11_b15 nin0))
  have c39 : Exa Z T19.heap b11 "com/example/schemactl/schemactl/Unfinished" := ((f14_0.ext E15).keep Kc19)
  obtain ⟨cq38, kq38, q38a, q38b, q38c⟩ := isOf hZ e33 c39
  obtain ⟨_, _, ⟨T38, L38, k38, n38⟩, -, X38, ⟨Lc38, hQ38, l38, y38, z38⟩, st38⟩ := X33.virtualBack hx (y := (⟨"com/example/schemactl/schemactl/Unfinished", "hashCode", "()I"⟩ : MethodName)) (z := (⟨"com/example/schemactl/schemactl/Unfinished", "hashCode", "()I"⟩ : MethodName)) hown (mvT hZ (hw _ (List.mem_of_getElem? (i := 20) rfl))) (mvT hZ (hw _ (List.mem_of_getElem? (i := 21) rfl))) (notFace_of_selects (args := #[]) (mvT hZ (hw _ (List.mem_of_getElem? (i := 23) rfl)))) (mvT hZ (hw _ (List.mem_of_getElem? (i := 23) rfl))) (mvT hZ (hw _ (List.mem_of_getElem? (i := 22) rfl))) (by decide) (backOf (W := 0) (rm4 l Z a0 hw [] b11 (p0 + (1 : Int32)) p1 (nar .boolean z1) T19.heap n0 O19 c35 c36 c37) hZ (hw _ (List.mem_of_getElem? (i := 24) rfl)) (hw _ (List.mem_of_getElem? (i := 2) rfl)) (by decide) (by decide)) q38a q38c (g := (mkF m 99 #[.val (.int p0), .val (.int p1), .val (.int p2), .val (.int z1), .val (.ref b4), .val (.ref b6), .val (.ref b8), .val (.ref b11), .val (.ref b15), .val (.int (own_hash p0 p1 (nar .boolean z1))), .val (.int (own_hash p0 p1 (nar .boolean (0 : Int32)))), .val (.int (own_hash p0 (p1 + (1 : Int32)) (nar .boolean z1))), .unset, .unset, .unset] [(.ref b11)])) rfl (by rw [hml]; rfl) (Steps.refl _) (argsL := []) (rest := []) (lenOf pd_rm0_1 rfl) rfl (by show 2 * 0 + _ ≤ _; exact Nat.le_of_eq rfl) (hb hby at_99) (fun _ _ => ⟨rfl, e33, (by decide : 5 + 0 ≤ _), (by decide : 15 + 0 ≤ _)⟩)
  dsimp only [Pt.U, Pt.locs, Pt.cells, Pt.slots] at X38 l38 y38 z38 st38 hQ38
  subst l38 y38 z38
  obtain ⟨rfl, Nq38, e38⟩ := hQ38
  have N38 := Fr.app N33 Nq38
  obtain ⟨cq40, kq40, q40a, q40b, q40c⟩ := isOf hZ e38 f19_0
  obtain ⟨_, _, ⟨T40, L40, k40, n40⟩, -, X40, ⟨Lc40, hQ40, l40, y40, z40⟩, st40⟩ := X38.virtualBack hx (y := (⟨"com/example/schemactl/schemactl/Unfinished", "hashCode", "()I"⟩ : MethodName)) (z := (⟨"com/example/schemactl/schemactl/Unfinished", "hashCode", "()I"⟩ : MethodName)) hown (mvT hZ (hw _ (List.mem_of_getElem? (i := 20) rfl))) (mvT hZ (hw _ (List.mem_of_getElem? (i := 21) rfl))) (notFace_of_selects (args := #[]) (mvT hZ (hw _ (List.mem_of_getElem? (i := 23) rfl)))) (mvT hZ (hw _ (List.mem_of_getElem? (i := 23) rfl))) (mvT hZ (hw _ (List.mem_of_getElem? (i := 22) rfl))) (by decide) (backOf (W := 0) (rm4 l Z a0 hw [] b15 (0 : Int32) (0 : Int32) (nar .boolean (0 : Int32)) T19.heap n0 O19 f19_1 f19_2 f19_3) hZ (hw _ (List.mem_of_getElem? (i := 24) rfl)) (hw _ (List.mem_of_getElem? (i := 2) rfl)) (by decide) (by decide)) q40a q40c (g := (mkF m 106 #[.val (.int p0), .val (.int p1), .val (.int p2), .val (.int z1), .val (.ref b4), .val (.ref b6), .val (.ref b8), .val (.ref b11), .val (.ref b15), .val (.int (own_hash p0 p1 (nar .boolean z1))), .val (.int (own_hash p0 p1 (nar .boolean (0 : Int32)))), .val (.int (own_hash p0 (p1 + (1 : Int32)) (nar .boolean z1))), .val (.int (own_hash (p0 + (1 : Int32)) p1 (nar .boolean z1))), .unset, .unset] [(.ref b15)])) rfl (by rw [hml]; rfl) (Steps.refl _) (argsL := []) (rest := []) (lenOf pd_rm0_1 rfl) rfl (by show 2 * 0 + _ ≤ _; exact Nat.le_of_eq rfl) (hb hby at_106) (fun _ _ => ⟨rfl, e38, (by decide : 5 + 0 ≤ _), (by decide : 15 + 0 ≤ _)⟩)
  dsimp only [Pt.U, Pt.locs, Pt.cells, Pt.slots] at X40 l40 y40 z40 st40 hQ40
  subst l40 y40 z40
  obtain ⟨rfl, Nq40, e40⟩ := hQ40
  have N40 := Fr.app N38 Nq40
  have s41 : Steps p.tables e below (s₁.setTop (entryFrame m #[(.int p0), (.int p1), (.int p2)] maxLocals)) (T40.setTop (mkF m 112 #[.val (.int p0), .val (.int p1), .val (.int p2), .val (.int z1), .val (.ref b4), .val (.ref b6), .val (.ref b8), .val (.ref b11), .val (.ref b15), .val (.int (own_hash p0 p1 (nar .boolean z1))), .val (.int (own_hash p0 p1 (nar .boolean (0 : Int32)))), .val (.int (own_hash p0 (p1 + (1 : Int32)) (nar .boolean z1))), .val (.int (own_hash (p0 + (1 : Int32)) p1 (nar .boolean z1))), .val (.int (own_hash (0 : Int32) (0 : Int32) (nar .boolean (0 : Int32)))), .unset] [(.int z1)])) := by
    refine s3.trans ?_
    show Steps p.tables e below (s₁.setTop (mkF m 11 #[.val (.int p0), .val (.int p1), .val (.int p2), .unset, .unset, .unset, .unset, .unset, .unset, .unset, .unset, .unset, .unset, .unset, .unset] [(.int z1)])) _
    refine XS.istoreN X0.here hx rfl (hb hby at_11) rfl (l' := #[.val (.int p0), .val (.int p1), .val (.int p2), .val (.int z1), .unset, .unset, .unset, .unset, .unset, .unset, .unset, .unset, .unset, .unset, .unset]) rfl ?_
    show Steps p.tables e below (s₁.setTop (mkF m 12 #[.val (.int p0), .val (.int p1), .val (.int p2), .val (.int z1), .unset, .unset, .unset, .unset, .unset, .unset, .unset, .unset, .unset, .unset, .unset] [])) _
    refine st4 _ ?_
    show Steps p.tables e below (T4.setTop (mkF m 15 #[.val (.int p0), .val (.int p1), .val (.int p2), .val (.int z1), .unset, .unset, .unset, .unset, .unset, .unset, .unset, .unset, .unset, .unset, .unset] [(.ref b4)])) _
    refine XS.dup X4.here hx rfl (hb hby at_15) rfl rfl ?_
    show Steps p.tables e below (T4.setTop (mkF m 16 #[.val (.int p0), .val (.int p1), .val (.int p2), .val (.int z1), .unset, .unset, .unset, .unset, .unset, .unset, .unset, .unset, .unset, .unset, .unset] [(.ref b4), (.ref b4)])) _
    refine XS.iloadN X4.here hx rfl (hb hby at_16) rfl ?_
    show Steps p.tables e below (T4.setTop (mkF m 17 #[.val (.int p0), .val (.int p1), .val (.int p2), .val (.int z1), .unset, .unset, .unset, .unset, .unset, .unset, .unset, .unset, .unset, .unset, .unset] [(.int p0), (.ref b4), (.ref b4)])) _
    refine XS.iloadN X4.here hx rfl (hb hby at_17) rfl ?_
    show Steps p.tables e below (T4.setTop (mkF m 18 #[.val (.int p0), .val (.int p1), .val (.int p2), .val (.int z1), .unset, .unset, .unset, .unset, .unset, .unset, .unset, .unset, .unset, .unset, .unset] [(.int p1), (.int p0), (.ref b4), (.ref b4)])) _
    refine XS.iloadN X4.here hx rfl (hb hby at_18) rfl ?_
    show Steps p.tables e below (T4.setTop (mkF m 19 #[.val (.int p0), .val (.int p1), .val (.int p2), .val (.int z1), .unset, .unset, .unset, .unset, .unset, .unset, .unset, .unset, .unset, .unset, .unset] [(.int z1), (.int p1), (.int p0), (.ref b4), (.ref b4)])) _
    refine st5.trans ?_
    show Steps p.tables e below (T5.setTop (mkF m 22 #[.val (.int p0), .val (.int p1), .val (.int p2), .val (.int z1), .unset, .unset, .unset, .unset, .unset, .unset, .unset, .unset, .unset, .unset, .unset] [(.ref b4)])) _
    refine XS.astore X5.here hx rfl (hb hby at_22) rfl rfl (l' := #[.val (.int p0), .val (.int p1), .val (.int p2), .val (.int z1), .val (.ref b4), .unset, .unset, .unset, .unset, .unset, .unset, .unset, .unset, .unset, .unset]) rfl ?_
    show Steps p.tables e below (T5.setTop (mkF m 24 #[.val (.int p0), .val (.int p1), .val (.int p2), .val (.int z1), .val (.ref b4), .unset, .unset, .unset, .unset, .unset, .unset, .unset, .unset, .unset, .unset] [])) _
    refine st6 _ ?_
    show Steps p.tables e below (T6.setTop (mkF m 27 #[.val (.int p0), .val (.int p1), .val (.int p2), .val (.int z1), .val (.ref b4), .unset, .unset, .unset, .unset, .unset, .unset, .unset, .unset, .unset, .unset] [(.ref b6)])) _
    refine XS.dup X6.here hx rfl (hb hby at_27) rfl rfl ?_
    show Steps p.tables e below (T6.setTop (mkF m 28 #[.val (.int p0), .val (.int p1), .val (.int p2), .val (.int z1), .val (.ref b4), .unset, .unset, .unset, .unset, .unset, .unset, .unset, .unset, .unset, .unset] [(.ref b6), (.ref b6)])) _
    refine XS.iloadN X6.here hx rfl (hb hby at_28) rfl ?_
    show Steps p.tables e below (T6.setTop (mkF m 29 #[.val (.int p0), .val (.int p1), .val (.int p2), .val (.int z1), .val (.ref b4), .unset, .unset, .unset, .unset, .unset, .unset, .unset, .unset, .unset, .unset] [(.int p0), (.ref b6), (.ref b6)])) _
    refine XS.iloadN X6.here hx rfl (hb hby at_29) rfl ?_
    show Steps p.tables e below (T6.setTop (mkF m 30 #[.val (.int p0), .val (.int p1), .val (.int p2), .val (.int z1), .val (.ref b4), .unset, .unset, .unset, .unset, .unset, .unset, .unset, .unset, .unset, .unset] [(.int p1), (.int p0), (.ref b6), (.ref b6)])) _
    refine XS.iconst X6.here hx rfl (hb hby at_30) ?_
    show Steps p.tables e below (T6.setTop (mkF m 31 #[.val (.int p0), .val (.int p1), .val (.int p2), .val (.int z1), .val (.ref b4), .unset, .unset, .unset, .unset, .unset, .unset, .unset, .unset, .unset, .unset] [(.int (0 : Int32)), (.int p1), (.int p0), (.ref b6), (.ref b6)])) _
    refine st7.trans ?_
    show Steps p.tables e below (T7.setTop (mkF m 34 #[.val (.int p0), .val (.int p1), .val (.int p2), .val (.int z1), .val (.ref b4), .unset, .unset, .unset, .unset, .unset, .unset, .unset, .unset, .unset, .unset] [(.ref b6)])) _
    refine XS.astore X7.here hx rfl (hb hby at_34) rfl rfl (l' := #[.val (.int p0), .val (.int p1), .val (.int p2), .val (.int z1), .val (.ref b4), .val (.ref b6), .unset, .unset, .unset, .unset, .unset, .unset, .unset, .unset, .unset]) rfl ?_
    show Steps p.tables e below (T7.setTop (mkF m 36 #[.val (.int p0), .val (.int p1), .val (.int p2), .val (.int z1), .val (.ref b4), .val (.ref b6), .unset, .unset, .unset, .unset, .unset, .unset, .unset, .unset, .unset] [])) _
    refine st8 _ ?_
    show Steps p.tables e below (T8.setTop (mkF m 39 #[.val (.int p0), .val (.int p1), .val (.int p2), .val (.int z1), .val (.ref b4), .val (.ref b6), .unset, .unset, .unset, .unset, .unset, .unset, .unset, .unset, .unset] [(.ref b8)])) _
    refine XS.dup X8.here hx rfl (hb hby at_39) rfl rfl ?_
    show Steps p.tables e below (T8.setTop (mkF m 40 #[.val (.int p0), .val (.int p1), .val (.int p2), .val (.int z1), .val (.ref b4), .val (.ref b6), .unset, .unset, .unset, .unset, .unset, .unset, .unset, .unset, .unset] [(.ref b8), (.ref b8)])) _
    refine XS.iloadN X8.here hx rfl (hb hby at_40) rfl ?_
    show Steps p.tables e below (T8.setTop (mkF m 41 #[.val (.int p0), .val (.int p1), .val (.int p2), .val (.int z1), .val (.ref b4), .val (.ref b6), .unset, .unset, .unset, .unset, .unset, .unset, .unset, .unset, .unset] [(.int p0), (.ref b8), (.ref b8)])) _
    refine XS.iloadN X8.here hx rfl (hb hby at_41) rfl ?_
    show Steps p.tables e below (T8.setTop (mkF m 42 #[.val (.int p0), .val (.int p1), .val (.int p2), .val (.int z1), .val (.ref b4), .val (.ref b6), .unset, .unset, .unset, .unset, .unset, .unset, .unset, .unset, .unset] [(.int p1), (.int p0), (.ref b8), (.ref b8)])) _
    refine XS.iconst X8.here hx rfl (hb hby at_42) ?_
    show Steps p.tables e below (T8.setTop (mkF m 43 #[.val (.int p0), .val (.int p1), .val (.int p2), .val (.int z1), .val (.ref b4), .val (.ref b6), .unset, .unset, .unset, .unset, .unset, .unset, .unset, .unset, .unset] [(.int (1 : Int32)), (.int p1), (.int p0), (.ref b8), (.ref b8)])) _
    refine XS.iadd X8.here hx rfl (hb hby at_43) rfl ?_
    show Steps p.tables e below (T8.setTop (mkF m 44 #[.val (.int p0), .val (.int p1), .val (.int p2), .val (.int z1), .val (.ref b4), .val (.ref b6), .unset, .unset, .unset, .unset, .unset, .unset, .unset, .unset, .unset] [(.int (p1 + (1 : Int32))), (.int p0), (.ref b8), (.ref b8)])) _
    refine XS.iloadN X8.here hx rfl (hb hby at_44) rfl ?_
    show Steps p.tables e below (T8.setTop (mkF m 45 #[.val (.int p0), .val (.int p1), .val (.int p2), .val (.int z1), .val (.ref b4), .val (.ref b6), .unset, .unset, .unset, .unset, .unset, .unset, .unset, .unset, .unset] [(.int z1), (.int (p1 + (1 : Int32))), (.int p0), (.ref b8), (.ref b8)])) _
    refine st10.trans ?_
    show Steps p.tables e below (T10.setTop (mkF m 48 #[.val (.int p0), .val (.int p1), .val (.int p2), .val (.int z1), .val (.ref b4), .val (.ref b6), .unset, .unset, .unset, .unset, .unset, .unset, .unset, .unset, .unset] [(.ref b8)])) _
    refine XS.astore X10.here hx rfl (hb hby at_48) rfl rfl (l' := #[.val (.int p0), .val (.int p1), .val (.int p2), .val (.int z1), .val (.ref b4), .val (.ref b6), .val (.ref b8), .unset, .unset, .unset, .unset, .unset, .unset, .unset, .unset]) rfl ?_
    show Steps p.tables e below (T10.setTop (mkF m 50 #[.val (.int p0), .val (.int p1), .val (.int p2), .val (.int z1), .val (.ref b4), .val (.ref b6), .val (.ref b8), .unset, .unset, .unset, .unset, .unset, .unset, .unset, .unset] [])) _
    refine st11 _ ?_
    show Steps p.tables e below (T11.setTop (mkF m 53 #[.val (.int p0), .val (.int p1), .val (.int p2), .val (.int z1), .val (.ref b4), .val (.ref b6), .val (.ref b8), .unset, .unset, .unset, .unset, .unset, .unset, .unset, .unset] [(.ref b11)])) _
    refine XS.dup X11.here hx rfl (hb hby at_53) rfl rfl ?_
    show Steps p.tables e below (T11.setTop (mkF m 54 #[.val (.int p0), .val (.int p1), .val (.int p2), .val (.int z1), .val (.ref b4), .val (.ref b6), .val (.ref b8), .unset, .unset, .unset, .unset, .unset, .unset, .unset, .unset] [(.ref b11), (.ref b11)])) _
    refine XS.iloadN X11.here hx rfl (hb hby at_54) rfl ?_
    show Steps p.tables e below (T11.setTop (mkF m 55 #[.val (.int p0), .val (.int p1), .val (.int p2), .val (.int z1), .val (.ref b4), .val (.ref b6), .val (.ref b8), .unset, .unset, .unset, .unset, .unset, .unset, .unset, .unset] [(.int p0), (.ref b11), (.ref b11)])) _
    refine XS.iconst X11.here hx rfl (hb hby at_55) ?_
    show Steps p.tables e below (T11.setTop (mkF m 56 #[.val (.int p0), .val (.int p1), .val (.int p2), .val (.int z1), .val (.ref b4), .val (.ref b6), .val (.ref b8), .unset, .unset, .unset, .unset, .unset, .unset, .unset, .unset] [(.int (1 : Int32)), (.int p0), (.ref b11), (.ref b11)])) _
    refine XS.iadd X11.here hx rfl (hb hby at_56) rfl ?_
    show Steps p.tables e below (T11.setTop (mkF m 57 #[.val (.int p0), .val (.int p1), .val (.int p2), .val (.int z1), .val (.ref b4), .val (.ref b6), .val (.ref b8), .unset, .unset, .unset, .unset, .unset, .unset, .unset, .unset] [(.int (p0 + (1 : Int32))), (.ref b11), (.ref b11)])) _
    refine XS.iloadN X11.here hx rfl (hb hby at_57) rfl ?_
    show Steps p.tables e below (T11.setTop (mkF m 58 #[.val (.int p0), .val (.int p1), .val (.int p2), .val (.int z1), .val (.ref b4), .val (.ref b6), .val (.ref b8), .unset, .unset, .unset, .unset, .unset, .unset, .unset, .unset] [(.int p1), (.int (p0 + (1 : Int32))), (.ref b11), (.ref b11)])) _
    refine XS.iloadN X11.here hx rfl (hb hby at_58) rfl ?_
    show Steps p.tables e below (T11.setTop (mkF m 59 #[.val (.int p0), .val (.int p1), .val (.int p2), .val (.int z1), .val (.ref b4), .val (.ref b6), .val (.ref b8), .unset, .unset, .unset, .unset, .unset, .unset, .unset, .unset] [(.int z1), (.int p1), (.int (p0 + (1 : Int32))), (.ref b11), (.ref b11)])) _
    refine st14.trans ?_
    show Steps p.tables e below (T14.setTop (mkF m 62 #[.val (.int p0), .val (.int p1), .val (.int p2), .val (.int z1), .val (.ref b4), .val (.ref b6), .val (.ref b8), .unset, .unset, .unset, .unset, .unset, .unset, .unset, .unset] [(.ref b11)])) _
    refine XS.astore X14.here hx rfl (hb hby at_62) rfl rfl (l' := #[.val (.int p0), .val (.int p1), .val (.int p2), .val (.int z1), .val (.ref b4), .val (.ref b6), .val (.ref b8), .val (.ref b11), .unset, .unset, .unset, .unset, .unset, .unset, .unset]) rfl ?_
    show Steps p.tables e below (T14.setTop (mkF m 64 #[.val (.int p0), .val (.int p1), .val (.int p2), .val (.int z1), .val (.ref b4), .val (.ref b6), .val (.ref b8), .val (.ref b11), .unset, .unset, .unset, .unset, .unset, .unset, .unset] [])) _
    refine st15 _ ?_
    show Steps p.tables e below (T15.setTop (mkF m 67 #[.val (.int p0), .val (.int p1), .val (.int p2), .val (.int z1), .val (.ref b4), .val (.ref b6), .val (.ref b8), .val (.ref b11), .unset, .unset, .unset, .unset, .unset, .unset, .unset] [(.ref b15)])) _
    refine XS.dup X15.here hx rfl (hb hby at_67) rfl rfl ?_
    show Steps p.tables e below (T15.setTop (mkF m 68 #[.val (.int p0), .val (.int p1), .val (.int p2), .val (.int z1), .val (.ref b4), .val (.ref b6), .val (.ref b8), .val (.ref b11), .unset, .unset, .unset, .unset, .unset, .unset, .unset] [(.ref b15), (.ref b15)])) _
    refine XS.iconst X15.here hx rfl (hb hby at_68) ?_
    show Steps p.tables e below (T15.setTop (mkF m 69 #[.val (.int p0), .val (.int p1), .val (.int p2), .val (.int z1), .val (.ref b4), .val (.ref b6), .val (.ref b8), .val (.ref b11), .unset, .unset, .unset, .unset, .unset, .unset, .unset] [(.int (0 : Int32)), (.ref b15), (.ref b15)])) _
    refine XS.iconst X15.here hx rfl (hb hby at_69) ?_
    show Steps p.tables e below (T15.setTop (mkF m 70 #[.val (.int p0), .val (.int p1), .val (.int p2), .val (.int z1), .val (.ref b4), .val (.ref b6), .val (.ref b8), .val (.ref b11), .unset, .unset, .unset, .unset, .unset, .unset, .unset] [(.int (0 : Int32)), (.int (0 : Int32)), (.ref b15), (.ref b15)])) _
    refine XS.iconst X15.here hx rfl (hb hby at_70) ?_
    show Steps p.tables e below (T15.setTop (mkF m 71 #[.val (.int p0), .val (.int p1), .val (.int p2), .val (.int z1), .val (.ref b4), .val (.ref b6), .val (.ref b8), .val (.ref b11), .unset, .unset, .unset, .unset, .unset, .unset, .unset] [(.int (0 : Int32)), (.int (0 : Int32)), (.int (0 : Int32)), (.ref b15), (.ref b15)])) _
    refine st19.trans ?_
    show Steps p.tables e below (T19.setTop (mkF m 74 #[.val (.int p0), .val (.int p1), .val (.int p2), .val (.int z1), .val (.ref b4), .val (.ref b6), .val (.ref b8), .val (.ref b11), .unset, .unset, .unset, .unset, .unset, .unset, .unset] [(.ref b15)])) _
    refine XS.astore X19.here hx rfl (hb hby at_74) rfl rfl (l' := #[.val (.int p0), .val (.int p1), .val (.int p2), .val (.int z1), .val (.ref b4), .val (.ref b6), .val (.ref b8), .val (.ref b11), .val (.ref b15), .unset, .unset, .unset, .unset, .unset, .unset]) rfl ?_
    show Steps p.tables e below (T19.setTop (mkF m 76 #[.val (.int p0), .val (.int p1), .val (.int p2), .val (.int z1), .val (.ref b4), .val (.ref b6), .val (.ref b8), .val (.ref b11), .val (.ref b15), .unset, .unset, .unset, .unset, .unset, .unset] [])) _
    refine XS.aload X19.here hx rfl (hb hby at_76) rfl rfl ?_
    show Steps p.tables e below (T19.setTop (mkF m 78 #[.val (.int p0), .val (.int p1), .val (.int p2), .val (.int z1), .val (.ref b4), .val (.ref b6), .val (.ref b8), .val (.ref b11), .val (.ref b15), .unset, .unset, .unset, .unset, .unset, .unset] [(.ref b4)])) _
    refine st23.trans ?_
    show Steps p.tables e below (T23.setTop (mkF m 81 #[.val (.int p0), .val (.int p1), .val (.int p2), .val (.int z1), .val (.ref b4), .val (.ref b6), .val (.ref b8), .val (.ref b11), .val (.ref b15), .unset, .unset, .unset, .unset, .unset, .unset] [(.int (own_hash p0 p1 (nar .boolean z1)))])) _
    refine XS.istore X23.here hx rfl (hb hby at_81) rfl (l' := #[.val (.int p0), .val (.int p1), .val (.int p2), .val (.int z1), .val (.ref b4), .val (.ref b6), .val (.ref b8), .val (.ref b11), .val (.ref b15), .val (.int (own_hash p0 p1 (nar .boolean z1))), .unset, .unset, .unset, .unset, .unset]) rfl ?_
    show Steps p.tables e below (T23.setTop (mkF m 83 #[.val (.int p0), .val (.int p1), .val (.int p2), .val (.int z1), .val (.ref b4), .val (.ref b6), .val (.ref b8), .val (.ref b11), .val (.ref b15), .val (.int (own_hash p0 p1 (nar .boolean z1))), .unset, .unset, .unset, .unset, .unset] [])) _
    refine XS.aload X23.here hx rfl (hb hby at_83) rfl rfl ?_
    show Steps p.tables e below (T23.setTop (mkF m 85 #[.val (.int p0), .val (.int p1), .val (.int p2), .val (.int z1), .val (.ref b4), .val (.ref b6), .val (.ref b8), .val (.ref b11), .val (.ref b15), .val (.int (own_hash p0 p1 (nar .boolean z1))), .unset, .unset, .unset, .unset, .unset] [(.ref b6)])) _
    refine st28.trans ?_
    show Steps p.tables e below (T28.setTop (mkF m 88 #[.val (.int p0), .val (.int p1), .val (.int p2), .val (.int z1), .val (.ref b4), .val (.ref b6), .val (.ref b8), .val (.ref b11), .val (.ref b15), .val (.int (own_hash p0 p1 (nar .boolean z1))), .unset, .unset, .unset, .unset, .unset] [(.int (own_hash p0 p1 (nar .boolean (0 : Int32))))])) _
    refine XS.istore X28.here hx rfl (hb hby at_88) rfl (l' := #[.val (.int p0), .val (.int p1), .val (.int p2), .val (.int z1), .val (.ref b4), .val (.ref b6), .val (.ref b8), .val (.ref b11), .val (.ref b15), .val (.int (own_hash p0 p1 (nar .boolean z1))), .val (.int (own_hash p0 p1 (nar .boolean (0 : Int32)))), .unset, .unset, .unset, .unset]) rfl ?_
    show Steps p.tables e below (T28.setTop (mkF m 90 #[.val (.int p0), .val (.int p1), .val (.int p2), .val (.int z1), .val (.ref b4), .val (.ref b6), .val (.ref b8), .val (.ref b11), .val (.ref b15), .val (.int (own_hash p0 p1 (nar .boolean z1))), .val (.int (own_hash p0 p1 (nar .boolean (0 : Int32)))), .unset, .unset, .unset, .unset] [])) _
    refine XS.aload X28.here hx rfl (hb hby at_90) rfl rfl ?_
    show Steps p.tables e below (T28.setTop (mkF m 92 #[.val (.int p0), .val (.int p1), .val (.int p2), .val (.int z1), .val (.ref b4), .val (.ref b6), .val (.ref b8), .val (.ref b11), .val (.ref b15), .val (.int (own_hash p0 p1 (nar .boolean z1))), .val (.int (own_hash p0 p1 (nar .boolean (0 : Int32)))), .unset, .unset, .unset, .unset] [(.ref b8)])) _
    refine st33.trans ?_
    show Steps p.tables e below (T33.setTop (mkF m 95 #[.val (.int p0), .val (.int p1), .val (.int p2), .val (.int z1), .val (.ref b4), .val (.ref b6), .val (.ref b8), .val (.ref b11), .val (.ref b15), .val (.int (own_hash p0 p1 (nar .boolean z1))), .val (.int (own_hash p0 p1 (nar .boolean (0 : Int32)))), .unset, .unset, .unset, .unset] [(.int (own_hash p0 (p1 + (1 : Int32)) (nar .boolean z1)))])) _
    refine XS.istore X33.here hx rfl (hb hby at_95) rfl (l' := #[.val (.int p0), .val (.int p1), .val (.int p2), .val (.int z1), .val (.ref b4), .val (.ref b6), .val (.ref b8), .val (.ref b11), .val (.ref b15), .val (.int (own_hash p0 p1 (nar .boolean z1))), .val (.int (own_hash p0 p1 (nar .boolean (0 : Int32)))), .val (.int (own_hash p0 (p1 + (1 : Int32)) (nar .boolean z1))), .unset, .unset, .unset]) rfl ?_
    show Steps p.tables e below (T33.setTop (mkF m 97 #[.val (.int p0), .val (.int p1), .val (.int p2), .val (.int z1), .val (.ref b4), .val (.ref b6), .val (.ref b8), .val (.ref b11), .val (.ref b15), .val (.int (own_hash p0 p1 (nar .boolean z1))), .val (.int (own_hash p0 p1 (nar .boolean (0 : Int32)))), .val (.int (own_hash p0 (p1 + (1 : Int32)) (nar .boolean z1))), .unset, .unset, .unset] [])) _
    refine XS.aload X33.here hx rfl (hb hby at_97) rfl rfl ?_
    show Steps p.tables e below (T33.setTop (mkF m 99 #[.val (.int p0), .val (.int p1), .val (.int p2), .val (.int z1), .val (.ref b4), .val (.ref b6), .val (.ref b8), .val (.ref b11), .val (.ref b15), .val (.int (own_hash p0 p1 (nar .boolean z1))), .val (.int (own_hash p0 p1 (nar .boolean (0 : Int32)))), .val (.int (own_hash p0 (p1 + (1 : Int32)) (nar .boolean z1))), .unset, .unset, .unset] [(.ref b11)])) _
    refine st38.trans ?_
    show Steps p.tables e below (T38.setTop (mkF m 102 #[.val (.int p0), .val (.int p1), .val (.int p2), .val (.int z1), .val (.ref b4), .val (.ref b6), .val (.ref b8), .val (.ref b11), .val (.ref b15), .val (.int (own_hash p0 p1 (nar .boolean z1))), .val (.int (own_hash p0 p1 (nar .boolean (0 : Int32)))), .val (.int (own_hash p0 (p1 + (1 : Int32)) (nar .boolean z1))), .unset, .unset, .unset] [(.int (own_hash (p0 + (1 : Int32)) p1 (nar .boolean z1)))])) _
    refine XS.istore X38.here hx rfl (hb hby at_102) rfl (l' := #[.val (.int p0), .val (.int p1), .val (.int p2), .val (.int z1), .val (.ref b4), .val (.ref b6), .val (.ref b8), .val (.ref b11), .val (.ref b15), .val (.int (own_hash p0 p1 (nar .boolean z1))), .val (.int (own_hash p0 p1 (nar .boolean (0 : Int32)))), .val (.int (own_hash p0 (p1 + (1 : Int32)) (nar .boolean z1))), .val (.int (own_hash (p0 + (1 : Int32)) p1 (nar .boolean z1))), .unset, .unset]) rfl ?_
    show Steps p.tables e below (T38.setTop (mkF m 104 #[.val (.int p0), .val (.int p1), .val (.int p2), .val (.int z1), .val (.ref b4), .val (.ref b6), .val (.ref b8), .val (.ref b11), .val (.ref b15), .val (.int (own_hash p0 p1 (nar .boolean z1))), .val (.int (own_hash p0 p1 (nar .boolean (0 : Int32)))), .val (.int (own_hash p0 (p1 + (1 : Int32)) (nar .boolean z1))), .val (.int (own_hash (p0 + (1 : Int32)) p1 (nar .boolean z1))), .unset, .unset] [])) _
    refine XS.aload X38.here hx rfl (hb hby at_104) rfl rfl ?_
    show Steps p.tables e below (T38.setTop (mkF m 106 #[.val (.int p0), .val (.int p1), .val (.int p2), .val (.int z1), .val (.ref b4), .val (.ref b6), .val (.ref b8), .val (.ref b11), .val (.ref b15), .val (.int (own_hash p0 p1 (nar .boolean z1))), .val (.int (own_hash p0 p1 (nar .boolean (0 : Int32)))), .val (.int (own_hash p0 (p1 + (1 : Int32)) (nar .boolean z1))), .val (.int (own_hash (p0 + (1 : Int32)) p1 (nar .boolean z1))), .unset, .unset] [(.ref b15)])) _
    refine st40.trans ?_
    show Steps p.tables e below (T40.setTop (mkF m 109 #[.val (.int p0), .val (.int p1), .val (.int p2), .val (.int z1), .val (.ref b4), .val (.ref b6), .val (.ref b8), .val (.ref b11), .val (.ref b15), .val (.int (own_hash p0 p1 (nar .boolean z1))), .val (.int (own_hash p0 p1 (nar .boolean (0 : Int32)))), .val (.int (own_hash p0 (p1 + (1 : Int32)) (nar .boolean z1))), .val (.int (own_hash (p0 + (1 : Int32)) p1 (nar .boolean z1))), .unset, .unset] [(.int (own_hash (0 : Int32) (0 : Int32) (nar .boolean (0 : Int32))))])) _
    refine XS.istore X40.here hx rfl (hb hby at_109) rfl (l' := #[.val (.int p0), .val (.int p1), .val (.int p2), .val (.int z1), .val (.ref b4), .val (.ref b6), .val (.ref b8), .val (.ref b11), .val (.ref b15), .val (.int (own_hash p0 p1 (nar .boolean z1))), .val (.int (own_hash p0 p1 (nar .boolean (0 : Int32)))), .val (.int (own_hash p0 (p1 + (1 : Int32)) (nar .boolean z1))), .val (.int (own_hash (p0 + (1 : Int32)) p1 (nar .boolean z1))), .val (.int (own_hash (0 : Int32) (0 : Int32) (nar .boolean (0 : Int32)))), .unset]) rfl ?_
    show Steps p.tables e below (T40.setTop (mkF m 111 #[.val (.int p0), .val (.int p1), .val (.int p2), .val (.int z1), .val (.ref b4), .val (.ref b6), .val (.ref b8), .val (.ref b11), .val (.ref b15), .val (.int (own_hash p0 p1 (nar .boolean z1))), .val (.int (own_hash p0 p1 (nar .boolean (0 : Int32)))), .val (.int (own_hash p0 (p1 + (1 : Int32)) (nar .boolean z1))), .val (.int (own_hash (p0 + (1 : Int32)) p1 (nar .boolean z1))), .val (.int (own_hash (0 : Int32) (0 : Int32) (nar .boolean (0 : Int32)))), .unset] [])) _
    refine XS.iloadN X40.here hx rfl (hb hby at_111) rfl ?_
    exact Steps.refl _
  have s43 : Steps p.tables e below (s₁.setTop (entryFrame m #[(.int p0), (.int p1), (.int p2)] maxLocals)) (T40.setTop (mkF m 120 #[.val (.int p0), .val (.int p1), .val (.int p2), .val (.int z1), .val (.ref b4), .val (.ref b6), .val (.ref b8), .val (.ref b11), .val (.ref b15), .val (.int (own_hash p0 p1 (nar .boolean z1))), .val (.int (own_hash p0 p1 (nar .boolean (0 : Int32)))), .val (.int (own_hash p0 (p1 + (1 : Int32)) (nar .boolean z1))), .val (.int (own_hash (p0 + (1 : Int32)) p1 (nar .boolean z1))), .val (.int (own_hash (0 : Int32) (0 : Int32) (nar .boolean (0 : Int32)))), .unset] [(.int (if z1 = (0 : Int32) then (0 : Int32) else (1 : Int32)))])) := by
    by_cases hm42 : z1 = (0 : Int32)
    · simp only [if_pos hm42]
      refine s41.trans ?_
      show Steps p.tables e below (T40.setTop (mkF m 112 #[.val (.int p0), .val (.int p1), .val (.int p2), .val (.int z1), .val (.ref b4), .val (.ref b6), .val (.ref b8), .val (.ref b11), .val (.ref b15), .val (.int (own_hash p0 p1 (nar .boolean z1))), .val (.int (own_hash p0 p1 (nar .boolean (0 : Int32)))), .val (.int (own_hash p0 (p1 + (1 : Int32)) (nar .boolean z1))), .val (.int (own_hash (p0 + (1 : Int32)) p1 (nar .boolean z1))), .val (.int (own_hash (0 : Int32) (0 : Int32) (nar .boolean (0 : Int32)))), .unset] [(.int z1)])) _
      refine XS.ifYes X40.here hx rfl (pc0 := 112) (pc' := 119) rfl (hb hby at_112) rfl ((if0 _ _).trans (teq hm42).1) (by decide) (by decide) ?_
      show Steps p.tables e below (T40.setTop (mkF m 119 #[.val (.int p0), .val (.int p1), .val (.int p2), .val (.int z1), .val (.ref b4), .val (.ref b6), .val (.ref b8), .val (.ref b11), .val (.ref b15), .val (.int (own_hash p0 p1 (nar .boolean z1))), .val (.int (own_hash p0 p1 (nar .boolean (0 : Int32)))), .val (.int (own_hash p0 (p1 + (1 : Int32)) (nar .boolean z1))), .val (.int (own_hash (p0 + (1 : Int32)) p1 (nar .boolean z1))), .val (.int (own_hash (0 : Int32) (0 : Int32) (nar .boolean (0 : Int32)))), .unset] [])) _
      refine XS.iconst X40.here hx rfl (hb hby at_119) ?_
      exact Steps.refl _
    · simp only [if_neg hm42]
      refine s41.trans ?_
      show Steps p.tables e below (T40.setTop (mkF m 112 #[.val (.int p0), .val (.int p1), .val (.int p2), .val (.int z1), .val (.ref b4), .val (.ref b6), .val (.ref b8), .val (.ref b11), .val (.ref b15), .val (.int (own_hash p0 p1 (nar .boolean z1))), .val (.int (own_hash p0 p1 (nar .boolean (0 : Int32)))), .val (.int (own_hash p0 (p1 + (1 : Int32)) (nar .boolean z1))), .val (.int (own_hash (p0 + (1 : Int32)) p1 (nar .boolean z1))), .val (.int (own_hash (0 : Int32) (0 : Int32) (nar .boolean (0 : Int32)))), .unset] [(.int z1)])) _
      refine XS.ifNo X40.here hx rfl (hb hby at_112) rfl ((if0 _ _).trans (feq hm42).1) ?_
      show Steps p.tables e below (T40.setTop (mkF m 115 #[.val (.int p0), .val (.int p1), .val (.int p2), .val (.int z1), .val (.ref b4), .val (.ref b6), .val (.ref b8), .val (.ref b11), .val (.ref b15), .val (.int (own_hash p0 p1 (nar .boolean z1))), .val (.int (own_hash p0 p1 (nar .boolean (0 : Int32)))), .val (.int (own_hash p0 (p1 + (1 : Int32)) (nar .boolean z1))), .val (.int (own_hash (p0 + (1 : Int32)) p1 (nar .boolean z1))), .val (.int (own_hash (0 : Int32) (0 : Int32) (nar .boolean (0 : Int32)))), .unset] [])) _
      refine XS.iconst X40.here hx rfl (hb hby at_115) ?_
      show Steps p.tables e below (T40.setTop (mkF m 116 #[.val (.int p0), .val (.int p1), .val (.int p2), .val (.int z1), .val (.ref b4), .val (.ref b6), .val (.ref b8), .val (.ref b11), .val (.ref b15), .val (.int (own_hash p0 p1 (nar .boolean z1))), .val (.int (own_hash p0 p1 (nar .boolean (0 : Int32)))), .val (.int (own_hash p0 (p1 + (1 : Int32)) (nar .boolean z1))), .val (.int (own_hash (p0 + (1 : Int32)) p1 (nar .boolean z1))), .val (.int (own_hash (0 : Int32) (0 : Int32) (nar .boolean (0 : Int32)))), .unset] [(.int (1 : Int32))])) _
      refine XS.goto X40.here hx rfl (pc0 := 116) (pc' := 120) rfl (hb hby at_116) (by decide) (by decide) ?_
      exact Steps.refl _
  obtain ⟨z2, hz2⟩ : ∃ z, z = (if z1 = (0 : Int32) then (0 : Int32) else (1 : Int32)) := ⟨_, rfl⟩
  rw [← hz2] at s43
  have s44 : Steps p.tables e below (s₁.setTop (entryFrame m #[(.int p0), (.int p1), (.int p2)] maxLocals)) (T40.setTop (mkF m 161 #[.val (.int p0), .val (.int p1), .val (.int p2), .val (.int z1), .val (.ref b4), .val (.ref b6), .val (.ref b8), .val (.ref b11), .val (.ref b15), .val (.int (own_hash p0 p1 (nar .boolean z1))), .val (.int (own_hash p0 p1 (nar .boolean (0 : Int32)))), .val (.int (own_hash p0 (p1 + (1 : Int32)) (nar .boolean z1))), .val (.int (own_hash (p0 + (1 : Int32)) p1 (nar .boolean z1))), .val (.int (own_hash (0 : Int32) (0 : Int32) (nar .boolean (0 : Int32)))), .val (.int z2)] [(.int (1 : Int32))])) := by
    refine s43.trans ?_
    show Steps p.tables e below (T40.setTop (mkF m 120 #[.val (.int p0), .val (.int p1), .val (.int p2), .val (.int z1), .val (.ref b4), .val (.ref b6), .val (.ref b8), .val (.ref b11), .val (.ref b15), .val (.int (own_hash p0 p1 (nar .boolean z1))), .val (.int (own_hash p0 p1 (nar .boolean (0 : Int32)))), .val (.int (own_hash p0 (p1 + (1 : Int32)) (nar .boolean z1))), .val (.int (own_hash (p0 + (1 : Int32)) p1 (nar .boolean z1))), .val (.int (own_hash (0 : Int32) (0 : Int32) (nar .boolean (0 : Int32)))), .unset] [(.int z2)])) _
    refine XS.istore X40.here hx rfl (hb hby at_120) rfl (l' := #[.val (.int p0), .val (.int p1), .val (.int p2), .val (.int z1), .val (.ref b4), .val (.ref b6), .val (.ref b8), .val (.ref b11), .val (.ref b15), .val (.int (own_hash p0 p1 (nar .boolean z1))), .val (.int (own_hash p0 p1 (nar .boolean (0 : Int32)))), .val (.int (own_hash p0 (p1 + (1 : Int32)) (nar .boolean z1))), .val (.int (own_hash (p0 + (1 : Int32)) p1 (nar .boolean z1))), .val (.int (own_hash (0 : Int32) (0 : Int32) (nar .boolean (0 : Int32)))), .val (.int z2)]) rfl ?_
    show Steps p.tables e below (T40.setTop (mkF m 122 #[.val (.int p0), .val (.int p1), .val (.int p2), .val (.int z1), .val (.ref b4), .val (.ref b6), .val (.ref b8), .val (.ref b11), .val (.ref b15), .val (.int (own_hash p0 p1 (nar .boolean z1))), .val (.int (own_hash p0 p1 (nar .boolean (0 : Int32)))), .val (.int (own_hash p0 (p1 + (1 : Int32)) (nar .boolean z1))), .val (.int (own_hash (p0 + (1 : Int32)) p1 (nar .boolean z1))), .val (.int (own_hash (0 : Int32) (0 : Int32) (nar .boolean (0 : Int32)))), .val (.int z2)] [])) _
    refine XS.iload X40.here hx rfl (hb hby at_122) rfl ?_
    show Steps p.tables e below (T40.setTop (mkF m 124 #[.val (.int p0), .val (.int p1), .val (.int p2), .val (.int z1), .val (.ref b4), .val (.ref b6), .val (.ref b8), .val (.ref b11), .val (.ref b15), .val (.int (own_hash p0 p1 (nar .boolean z1))), .val (.int (own_hash p0 p1 (nar .boolean (0 : Int32)))), .val (.int (own_hash p0 (p1 + (1 : Int32)) (nar .boolean z1))), .val (.int (own_hash (p0 + (1 : Int32)) p1 (nar .boolean z1))), .val (.int (own_hash (0 : Int32) (0 : Int32) (nar .boolean (0 : Int32)))), .val (.int z2)] [(.int (own_hash (0 : Int32) (0 : Int32) (nar .boolean (0 : Int32))))])) _
    refine XS.ifNo X40.here hx rfl (hb hby at_124) rfl ((if0 _ _).trans (teq (by decide)).2) ?_
    show Steps p.tables e below (T40.setTop (mkF m 127 #[.val (.int p0), .val (.int p1), .val (.int p2), .val (.int z1), .val (.ref b4), .val (.ref b6), .val (.ref b8), .val (.ref b11), .val (.ref b15), .val (.int (own_hash p0 p1 (nar .boolean z1))), .val (.int (own_hash p0 p1 (nar .boolean (0 : Int32)))), .val (.int (own_hash p0 (p1 + (1 : Int32)) (nar .boolean z1))), .val (.int (own_hash (p0 + (1 : Int32)) p1 (nar .boolean z1))), .val (.int (own_hash (0 : Int32) (0 : Int32) (nar .boolean (0 : Int32)))), .val (.int z2)] [])) _
    refine XS.iload X40.here hx rfl (hb hby at_127) rfl ?_
    show Steps p.tables e below (T40.setTop (mkF m 129 #[.val (.int p0), .val (.int p1), .val (.int p2), .val (.int z1), .val (.ref b4), .val (.ref b6), .val (.ref b8), .val (.ref b11), .val (.ref b15), .val (.int (own_hash p0 p1 (nar .boolean z1))), .val (.int (own_hash p0 p1 (nar .boolean (0 : Int32)))), .val (.int (own_hash p0 (p1 + (1 : Int32)) (nar .boolean z1))), .val (.int (own_hash (p0 + (1 : Int32)) p1 (nar .boolean z1))), .val (.int (own_hash (0 : Int32) (0 : Int32) (nar .boolean (0 : Int32)))), .val (.int z2)] [(.int (own_hash p0 p1 (nar .boolean z1)))])) _
    refine XS.iload X40.here hx rfl (hb hby at_129) rfl ?_
    show Steps p.tables e below (T40.setTop (mkF m 131 #[.val (.int p0), .val (.int p1), .val (.int p2), .val (.int z1), .val (.ref b4), .val (.ref b6), .val (.ref b8), .val (.ref b11), .val (.ref b15), .val (.int (own_hash p0 p1 (nar .boolean z1))), .val (.int (own_hash p0 p1 (nar .boolean (0 : Int32)))), .val (.int (own_hash p0 (p1 + (1 : Int32)) (nar .boolean z1))), .val (.int (own_hash (p0 + (1 : Int32)) p1 (nar .boolean z1))), .val (.int (own_hash (0 : Int32) (0 : Int32) (nar .boolean (0 : Int32)))), .val (.int z2)] [(.int (own_hash p0 p1 (nar .boolean (0 : Int32)))), (.int (own_hash p0 p1 (nar .boolean z1)))])) _
    refine XS.isub X40.here hx rfl (hb hby at_131) rfl ?_
    show Steps p.tables e below (T40.setTop (mkF m 132 #[.val (.int p0), .val (.int p1), .val (.int p2), .val (.int z1), .val (.ref b4), .val (.ref b6), .val (.ref b8), .val (.ref b11), .val (.ref b15), .val (.int (own_hash p0 p1 (nar .boolean z1))), .val (.int (own_hash p0 p1 (nar .boolean (0 : Int32)))), .val (.int (own_hash p0 (p1 + (1 : Int32)) (nar .boolean z1))), .val (.int (own_hash (p0 + (1 : Int32)) p1 (nar .boolean z1))), .val (.int (own_hash (0 : Int32) (0 : Int32) (nar .boolean (0 : Int32)))), .val (.int z2)] [(.int ((own_hash p0 p1 (nar .boolean z1)) - (own_hash p0 p1 (nar .boolean (0 : Int32)))))])) _
    refine XS.iload X40.here hx rfl (hb hby at_132) rfl ?_
    show Steps p.tables e below (T40.setTop (mkF m 134 #[.val (.int p0), .val (.int p1), .val (.int p2), .val (.int z1), .val (.ref b4), .val (.ref b6), .val (.ref b8), .val (.ref b11), .val (.ref b15), .val (.int (own_hash p0 p1 (nar .boolean z1))), .val (.int (own_hash p0 p1 (nar .boolean (0 : Int32)))), .val (.int (own_hash p0 (p1 + (1 : Int32)) (nar .boolean z1))), .val (.int (own_hash (p0 + (1 : Int32)) p1 (nar .boolean z1))), .val (.int (own_hash (0 : Int32) (0 : Int32) (nar .boolean (0 : Int32)))), .val (.int z2)] [(.int z2), (.int ((own_hash p0 p1 (nar .boolean z1)) - (own_hash p0 p1 (nar .boolean (0 : Int32)))))])) _
    refine XS.icmpNo X40.here hx rfl (hb hby at_134) rfl (teq (own_rm0_1 p0 p1 p2 z1 z2 hz1 hz2)).2 ?_
    show Steps p.tables e below (T40.setTop (mkF m 137 #[.val (.int p0), .val (.int p1), .val (.int p2), .val (.int z1), .val (.ref b4), .val (.ref b6), .val (.ref b8), .val (.ref b11), .val (.ref b15), .val (.int (own_hash p0 p1 (nar .boolean z1))), .val (.int (own_hash p0 p1 (nar .boolean (0 : Int32)))), .val (.int (own_hash p0 (p1 + (1 : Int32)) (nar .boolean z1))), .val (.int (own_hash (p0 + (1 : Int32)) p1 (nar .boolean z1))), .val (.int (own_hash (0 : Int32) (0 : Int32) (nar .boolean (0 : Int32)))), .val (.int z2)] [])) _
    refine XS.iload X40.here hx rfl (hb hby at_137) rfl ?_
    show Steps p.tables e below (T40.setTop (mkF m 139 #[.val (.int p0), .val (.int p1), .val (.int p2), .val (.int z1), .val (.ref b4), .val (.ref b6), .val (.ref b8), .val (.ref b11), .val (.ref b15), .val (.int (own_hash p0 p1 (nar .boolean z1))), .val (.int (own_hash p0 p1 (nar .boolean (0 : Int32)))), .val (.int (own_hash p0 (p1 + (1 : Int32)) (nar .boolean z1))), .val (.int (own_hash (p0 + (1 : Int32)) p1 (nar .boolean z1))), .val (.int (own_hash (0 : Int32) (0 : Int32) (nar .boolean (0 : Int32)))), .val (.int z2)] [(.int (own_hash p0 (p1 + (1 : Int32)) (nar .boolean z1)))])) _
    refine XS.iload X40.here hx rfl (hb hby at_139) rfl ?_
    show Steps p.tables e below (T40.setTop (mkF m 141 #[.val (.int p0), .val (.int p1), .val (.int p2), .val (.int z1), .val (.ref b4), .val (.ref b6), .val (.ref b8), .val (.ref b11), .val (.ref b15), .val (.int (own_hash p0 p1 (nar .boolean z1))), .val (.int (own_hash p0 p1 (nar .boolean (0 : Int32)))), .val (.int (own_hash p0 (p1 + (1 : Int32)) (nar .boolean z1))), .val (.int (own_hash (p0 + (1 : Int32)) p1 (nar .boolean z1))), .val (.int (own_hash (0 : Int32) (0 : Int32) (nar .boolean (0 : Int32)))), .val (.int z2)] [(.int (own_hash p0 p1 (nar .boolean z1))), (.int (own_hash p0 (p1 + (1 : Int32)) (nar .boolean z1)))])) _
    refine XS.isub X40.here hx rfl (hb hby at_141) rfl ?_
    show Steps p.tables e below (T40.setTop (mkF m 142 #[.val (.int p0), .val (.int p1), .val (.int p2), .val (.int z1), .val (.ref b4), .val (.ref b6), .val (.ref b8), .val (.ref b11), .val (.ref b15), .val (.int (own_hash p0 p1 (nar .boolean z1))), .val (.int (own_hash p0 p1 (nar .boolean (0 : Int32)))), .val (.int (own_hash p0 (p1 + (1 : Int32)) (nar .boolean z1))), .val (.int (own_hash (p0 + (1 : Int32)) p1 (nar .boolean z1))), .val (.int (own_hash (0 : Int32) (0 : Int32) (nar .boolean (0 : Int32)))), .val (.int z2)] [(.int ((own_hash p0 (p1 + (1 : Int32)) (nar .boolean z1)) - (own_hash p0 p1 (nar .boolean z1))))])) _
    refine XS.iconst X40.here hx rfl (hb hby at_142) ?_
    show Steps p.tables e below (T40.setTop (mkF m 143 #[.val (.int p0), .val (.int p1), .val (.int p2), .val (.int z1), .val (.ref b4), .val (.ref b6), .val (.ref b8), .val (.ref b11), .val (.ref b15), .val (.int (own_hash p0 p1 (nar .boolean z1))), .val (.int (own_hash p0 p1 (nar .boolean (0 : Int32)))), .val (.int (own_hash p0 (p1 + (1 : Int32)) (nar .boolean z1))), .val (.int (own_hash (p0 + (1 : Int32)) p1 (nar .boolean z1))), .val (.int (own_hash (0 : Int32) (0 : Int32) (nar .boolean (0 : Int32)))), .val (.int z2)] [(.int (2 : Int32)), (.int ((own_hash p0 (p1 + (1 : Int32)) (nar .boolean z1)) - (own_hash p0 p1 (nar .boolean z1))))])) _
    refine XS.icmpNo X40.here hx rfl (hb hby at_143) rfl (teq (own_rm0_2 p0 p1 p2 z1 hz1)).2 ?_
    show Steps p.tables e below (T40.setTop (mkF m 146 #[.val (.int p0), .val (.int p1), .val (.int p2), .val (.int z1), .val (.ref b4), .val (.ref b6), .val (.ref b8), .val (.ref b11), .val (.ref b15), .val (.int (own_hash p0 p1 (nar .boolean z1))), .val (.int (own_hash p0 p1 (nar .boolean (0 : Int32)))), .val (.int (own_hash p0 (p1 + (1 : Int32)) (nar .boolean z1))), .val (.int (own_hash (p0 + (1 : Int32)) p1 (nar .boolean z1))), .val (.int (own_hash (0 : Int32) (0 : Int32) (nar .boolean (0 : Int32)))), .val (.int z2)] [])) _
    refine XS.iload X40.here hx rfl (hb hby at_146) rfl ?_
    show Steps p.tables e below (T40.setTop (mkF m 148 #[.val (.int p0), .val (.int p1), .val (.int p2), .val (.int z1), .val (.ref b4), .val (.ref b6), .val (.ref b8), .val (.ref b11), .val (.ref b15), .val (.int (own_hash p0 p1 (nar .boolean z1))), .val (.int (own_hash p0 p1 (nar .boolean (0 : Int32)))), .val (.int (own_hash p0 (p1 + (1 : Int32)) (nar .boolean z1))), .val (.int (own_hash (p0 + (1 : Int32)) p1 (nar .boolean z1))), .val (.int (own_hash (0 : Int32) (0 : Int32) (nar .boolean (0 : Int32)))), .val (.int z2)] [(.int (own_hash (p0 + (1 : Int32)) p1 (nar .boolean z1)))])) _
    refine XS.iload X40.here hx rfl (hb hby at_148) rfl ?_
    show Steps p.tables e below (T40.setTop (mkF m 150 #[.val (.int p0), .val (.int p1), .val (.int p2), .val (.int z1), .val (.ref b4), .val (.ref b6), .val (.ref b8), .val (.ref b11), .val (.ref b15), .val (.int (own_hash p0 p1 (nar .boolean z1))), .val (.int (own_hash p0 p1 (nar .boolean (0 : Int32)))), .val (.int (own_hash p0 (p1 + (1 : Int32)) (nar .boolean z1))), .val (.int (own_hash (p0 + (1 : Int32)) p1 (nar .boolean z1))), .val (.int (own_hash (0 : Int32) (0 : Int32) (nar .boolean (0 : Int32)))), .val (.int z2)] [(.int (own_hash p0 p1 (nar .boolean z1))), (.int (own_hash (p0 + (1 : Int32)) p1 (nar .boolean z1)))])) _
    refine XS.isub X40.here hx rfl (hb hby at_150) rfl ?_
    show Steps p.tables e below (T40.setTop (mkF m 151 #[.val (.int p0), .val (.int p1), .val (.int p2), .val (.int z1), .val (.ref b4), .val (.ref b6), .val (.ref b8), .val (.ref b11), .val (.ref b15), .val (.int (own_hash p0 p1 (nar .boolean z1))), .val (.int (own_hash p0 p1 (nar .boolean (0 : Int32)))), .val (.int (own_hash p0 (p1 + (1 : Int32)) (nar .boolean z1))), .val (.int (own_hash (p0 + (1 : Int32)) p1 (nar .boolean z1))), .val (.int (own_hash (0 : Int32) (0 : Int32) (nar .boolean (0 : Int32)))), .val (.int z2)] [(.int ((own_hash (p0 + (1 : Int32)) p1 (nar .boolean z1)) - (own_hash p0 p1 (nar .boolean z1))))])) _
    refine XS.bipush X40.here hx rfl (hb hby at_151) ?_
    show Steps p.tables e below (T40.setTop (mkF m 153 #[.val (.int p0), .val (.int p1), .val (.int p2), .val (.int z1), .val (.ref b4), .val (.ref b6), .val (.ref b8), .val (.ref b11), .val (.ref b15), .val (.int (own_hash p0 p1 (nar .boolean z1))), .val (.int (own_hash p0 p1 (nar .boolean (0 : Int32)))), .val (.int (own_hash p0 (p1 + (1 : Int32)) (nar .boolean z1))), .val (.int (own_hash (p0 + (1 : Int32)) p1 (nar .boolean z1))), .val (.int (own_hash (0 : Int32) (0 : Int32) (nar .boolean (0 : Int32)))), .val (.int z2)] [(.int (62 : Int32)), (.int ((own_hash (p0 + (1 : Int32)) p1 (nar .boolean z1)) - (own_hash p0 p1 (nar .boolean z1))))])) _
    refine XS.icmpNo X40.here hx rfl (hb hby at_153) rfl (teq (own_rm0_3 p0 p1 p2 z1 hz1)).2 ?_
    show Steps p.tables e below (T40.setTop (mkF m 156 #[.val (.int p0), .val (.int p1), .val (.int p2), .val (.int z1), .val (.ref b4), .val (.ref b6), .val (.ref b8), .val (.ref b11), .val (.ref b15), .val (.int (own_hash p0 p1 (nar .boolean z1))), .val (.int (own_hash p0 p1 (nar .boolean (0 : Int32)))), .val (.int (own_hash p0 (p1 + (1 : Int32)) (nar .boolean z1))), .val (.int (own_hash (p0 + (1 : Int32)) p1 (nar .boolean z1))), .val (.int (own_hash (0 : Int32) (0 : Int32) (nar .boolean (0 : Int32)))), .val (.int z2)] [])) _
    refine XS.iconst X40.here hx rfl (hb hby at_156) ?_
    show Steps p.tables e below (T40.setTop (mkF m 157 #[.val (.int p0), .val (.int p1), .val (.int p2), .val (.int z1), .val (.ref b4), .val (.ref b6), .val (.ref b8), .val (.ref b11), .val (.ref b15), .val (.int (own_hash p0 p1 (nar .boolean z1))), .val (.int (own_hash p0 p1 (nar .boolean (0 : Int32)))), .val (.int (own_hash p0 (p1 + (1 : Int32)) (nar .boolean z1))), .val (.int (own_hash (p0 + (1 : Int32)) p1 (nar .boolean z1))), .val (.int (own_hash (0 : Int32) (0 : Int32) (nar .boolean (0 : Int32)))), .val (.int z2)] [(.int (1 : Int32))])) _
    refine XS.goto X40.here hx rfl (pc0 := 157) (pc' := 161) rfl (hb hby at_157) (by decide) (by decide) ?_
    exact Steps.refl _
  obtain ⟨fs, hr, hrun, hended, hW, hsame⟩ := X40.leave (v := some (.int (1 : Int32))) (fun h => by rw [Bd.returns] at h; cases h)
  refine ⟨_, _, s44.trans ?_, hrun, hended, _, _, rfl, ?_, ⟨_, rfl⟩, hW, hsame.mono (by decide) (by decide)⟩
  · show Steps p.tables e below (T40.setTop (mkF m 161 #[.val (.int p0), .val (.int p1), .val (.int p2), .val (.int z1), .val (.ref b4), .val (.ref b6), .val (.ref b8), .val (.ref b11), .val (.ref b15), .val (.int (own_hash p0 p1 (nar .boolean z1))), .val (.int (own_hash p0 p1 (nar .boolean (0 : Int32)))), .val (.int (own_hash p0 (p1 + (1 : Int32)) (nar .boolean z1))), .val (.int (own_hash (p0 + (1 : Int32)) p1 (nar .boolean z1))), .val (.int (own_hash (0 : Int32) (0 : Int32) (nar .boolean (0 : Int32)))), .val (.int z2)] [(.int (1 : Int32))])) _
    exact retN X40 hx (t := .boolean) Bd.returns (by simp) (hb hby at_161) hr
  · show Q0 Z p0 p1 p2 h0 n0 _ T40.heap _
    rw [e40]
    exact ⟨rfl, N40⟩
set_option maxRecDepth 65536 in
set_option maxHeartbeats 40000000 in
theorem comes_1 {Post : Tables → Env → Array Value → State → Outcome → State → Prop} (hpost : ∀ tb e args s v u, (limb_1_1.after args s (.returned v) u = true ∧ limb_1_2.after args s (.returned v) u = true ∧ True) → FrameEnd s (.returned v) u (Jvm.fieldLocs frame_1_writes args s ++ Jvm.arrayLocs frame_1_arrays args s ++ Jvm.staticLocs frame_1_statics s) 24 128 → Post tb e args s (.returned v) u) :
    ArmFor flags0 classFile x code maxLocals ret World_1 tables_1 room_1 Calls_1 rest_1 Pre_1 Post := by
  intro l hfl _ _ p e ha hc hk s m args below hf hA hF happ hP
  obtain ⟨hcalls, hrest, hpre⟩ := hP
  obtain ⟨-, -, -, hnamed, -, -, -, hat⟩ := (Spec.applies_iff hf).mp happ
  obtain ⟨hg, hn⟩ := and_e (Cond.before_iff.mp (show (Jvm.Cond.and given_1 narrow_1).before args s = true from hpre))
  obtain ⟨gc, gk0⟩ := and_e hg
  obtain ⟨ga0, gk1⟩ := and_e gk0
  obtain ⟨ga1, gk2⟩ := and_e gk1
  obtain ⟨w0, w1, w2, rfl⟩ : ∃ w0 w1 w2 : Value, args = #[w0, w1, w2] := by
    have hs : args.size = 3 := by simpa [Cond.value, given_1] using gc
    obtain ⟨L⟩ := args
    match L, hs with
    | [w0, w1, w2], _ => exact ⟨w0, w1, w2, rfl⟩
  have hw := fun d (hd : d ∈ tables_1) => atoms_spec (ws := Jvm.Cond.code x code maxLocals ret :: tables_1) hat d (List.mem_cons_of_mem _ hd)
  have hfit : Fit s := fun {y c} hc i hi => by
    obtain ⟨ha, rfl⟩ := Array.getElem?_eq_some_iff.mp hc
    have q := List.all_eq_true.mp ((Array.all_eq_true_iff_forall_mem.mp hF) _ (Array.getElem_mem ha)) i (List.mem_range.mpr hi)
    simpa [Array.getElem?_eq_getElem hi] using q
  obtain ⟨i0, ei0⟩ := is_v ga0
  obtain rfl : w0 = (.int i0) := Option.some.inj ei0
  obtain ⟨i1, ei1⟩ := is_v ga1
  obtain rfl : w1 = (.int i1) := Option.some.inj ei1
  obtain ⟨i2, ei2⟩ := is_v gk2
  obtain rfl : w2 = (.int i2) := Option.some.inj ei2
  obtain ⟨n, o, h1, h2, h3, _, L, rfl, ⟨rfl, N⟩, hq⟩ := rm0 l s _ hw tables_1 i0 i1 i2 s.heap s.heap.size (Old.start s) p e ha hc hk s m _ below hf ((Spec.applies_iff_loose hf).mp happ).1 ⟨rfl, State.Warmed39.refl s, rfl⟩ trivial
  refine ⟨n, _, h1, h2, h3, hpost _ _ _ _ _ _ ⟨Cond.after_iff.mpr rfl, Cond.after_iff.mpr (eq_i res_at (Term.int_eval (1)) rfl), trivial⟩ ⟨hq.1, hq.2.1, (hq.2.2.sift fun y hy => Or.inr (N y hy)).mono (by decide) (by decide)⟩⟩
theorem main_1_1 : Claimed_1_1 := comes_1 fun _ _ _ _ _ _ h hF => ⟨h.1, hF⟩
theorem main_1_2 : Claimed_1_2 := comes_1 fun _ _ _ _ _ _ h hF => ⟨h.2.1, hF⟩
end Jvm.Pilot.@@N@@
namespace Jvm.Pilot.@@N@@
open Jvm Jvm.ClassFile Sem Op Lib Jvm.Free Jvm.Stand Jvm.Pilot.@@N@@.Jvm.D
/-! MADE BY PROGRAM (witnessworld.py) out of the Statement's table words and the real class files: 10 classes; the members and pool entries that the words name. The judged class is class 1, her method 1. -/
namespace start1
open Jvm.ClassFile
def u (s : String) : CpInfo := .utf8 (stringToUtf16 s)
/-- a pool by its gaps: so many unusable entries, then the entry; so many at the end -/
def gap : Nat → List CpInfo → List CpInfo
  | 0, r => r
  | n + 1, r => .unusable :: gap n r
def poolList (es : List (Nat × CpInfo)) (last : Nat) : List CpInfo := es.foldr (fun e r => gap e.1 (e.2 :: r)) (gap last [])
def pool (es : List (Nat × CpInfo)) (last : Nat) : Array CpInfo := ⟨poolList es last⟩
def fileOf (pool : Array CpInfo) (this : Nat) (attrs : Array Attribute := #[]) (ms : Array MethodInfo := #[]) (fl : Nat := 33) (sup : Nat := 0) (ifs : Array Nat := #[]) (fds : Array FieldInfo := #[]) : ClassFile where
  minorVersion := 0
  majorVersion := 65
  constantPool := pool
  accessFlags := fl
  thisClass := this
  superClass := sup
  interfaces := ifs
  fields := fds
  methods := ms
  attributes := attrs
def plain (name : String) (sup : Option ClassId) : Class where
  name := name
  kind := .ordinary
  loader := none
  accessFlags := 33
  super := sup
  interfaces := #[]
  cf := none
  fields := #[]
  methods := #[]
  instanceTypes := #[]
  staticTypes := #[]
  resolved := #[]
  callSites := []
  init := .initialized
  statics := none
  mirror := none

def pool0 : Array CpInfo := pool [(5, u "<init>"), (0, u "()V"), (1, .class_ 10), (1, u "java/lang/Object")] 113

def k0c0 : Code := { maxStack := 0, maxLocals := 1, code := object_method_1_code, exceptionTable := #[], attributes := #[] }
def k0m0 : Method := { name := "<init>", desc := "()V", sig := { parameters := [], returnType := none }, accessFlags := 1, code := some k0c0 }
/-- java/lang/Object -/
def k0 : Class := { plain "java/lang/Object" none with
  accessFlags := 33
  interfaces := #[]
  cf := some (fileOf pool0 8 #[] #[{ accessFlags := 1, nameIndex := 5, descriptorIndex := 6, attributes := #[] }] 33 0 #[] #[])
  fields := #[]
  methods := #[k0m0]
  instanceTypes := #[]
  staticTypes := #[]
  resolved := Array.replicate 124 none
  statics := none }

def pool1 : Array CpInfo := pool [(2, .class_ 4), (1, u "java/lang/Object"), (0, u "<init>"), (0, u "()V"), (0, .class_ 8), (0, u "com/example/schemactl/schemactl/Unfinished"), (0, .methodref 7 10), (0, .nameAndType 5 11), (0, u "(IIZ)V"), (0, .methodref 7 13), (0, .nameAndType 14 15), (0, u "hashCode"), (0, u "()I"), (0, .class_ 17), (0, u "com/example/schemactl/schemactl/UnfinishedHashCodePinLaw"), (2, u "law"), (0, u "(III)Z")] 3

def k1m0 : Method := { name := "<init>", desc := "()V", sig := { parameters := [], returnType := none }, accessFlags := 2, code := none }
def k1c1 : Code := { maxStack := 5, maxLocals := 15, code := code, exceptionTable := #[], attributes := #[] }
def k1m1 : Method := { name := "law", desc := "(III)Z", sig := { parameters := [.int, .int, .int], returnType := some .boolean }, accessFlags := 9, code := some k1c1 }
/-- com/example/schemactl/schemactl/UnfinishedHashCodePinLaw -/
def k1 : Class := { plain "com/example/schemactl/schemactl/UnfinishedHashCodePinLaw" (some 0) with
  accessFlags := 49
  interfaces := #[]
  cf := some (fileOf pool1 16 #[] #[{ accessFlags := 2, nameIndex := 5, descriptorIndex := 6, attributes := #[] }, { accessFlags := 9, nameIndex := 20, descriptorIndex := 21, attributes := #[] }] 49 2 #[] #[])
  fields := #[]
  methods := #[k1m0, k1m1]
  instanceTypes := #[]
  staticTypes := #[]
  resolved := Array.replicate 25 none
  statics := none }

def pool2 : Array CpInfo := pool [(1, .methodref 2 3), (0, .class_ 4), (0, .nameAndType 5 6), (0, u "java/lang/Object"), (0, u "<init>"), (0, u "()V"), (0, .class_ 8), (0, u "java/lang/Record")] 13

def k2c0 : Code := { maxStack := 1, maxLocals := 1, code := jdk_30_method_1_code, exceptionTable := #[], attributes := #[] }
def k2m0 : Method := { name := "<init>", desc := "()V", sig := { parameters := [], returnType := none }, accessFlags := 4, code := some k2c0 }
/-- java/lang/Record -/
def k2 : Class := { plain "java/lang/Record" (some 0) with
  accessFlags := 1057
  interfaces := #[]
  cf := some (fileOf pool2 7 #[] #[{ accessFlags := 4, nameIndex := 5, descriptorIndex := 6, attributes := #[] }] 1057 2 #[] #[])
  fields := #[]
  methods := #[k2m0]
  instanceTypes := #[]
  staticTypes := #[]
  resolved := Array.replicate 22 none
  statics := none }

def pool3 : Array CpInfo := pool [(1, .methodref 2 3), (0, .class_ 4), (0, .nameAndType 5 6), (0, u "java/lang/Record"), (0, u "<init>"), (0, u "()V"), (0, .fieldref 8 9), (0, .class_ 10), (0, .nameAndType 11 12), (0, u "com/example/schemactl/schemactl/Unfinished"), (0, u "applied"), (0, u "I"), (0, .fieldref 8 14), (0, .nameAndType 15 12), (0, u "uncertain"), (0, .fieldref 8 17), (0, .nameAndType 18 19), (0, u "resumable"), (0, u "Z"), (4, u "(IIZ)V"), (6, u "hashCode"), (0, u "()I")] 24

def k3c0 : Code := { maxStack := 2, maxLocals := 4, code := prog_32_method_1_code, exceptionTable := #[], attributes := #[] }
def k3m0 : Method := { name := "<init>", desc := "(IIZ)V", sig := { parameters := [.int, .int, .boolean], returnType := none }, accessFlags := 0, code := some k3c0 }
def k3c1 : Code := { maxStack := 2, maxLocals := 1, code := prog_32_method_3_code, exceptionTable := #[], attributes := #[] }
def k3m1 : Method := { name := "hashCode", desc := "()I", sig := { parameters := [], returnType := some .int }, accessFlags := 1, code := some k3c1 }
/-- com/example/schemactl/schemactl/Unfinished -/
def k3 : Class := { plain "com/example/schemactl/schemactl/Unfinished" (some 2) with
  accessFlags := 48
  interfaces := #[]
  cf := some (fileOf pool3 8 #[] #[{ accessFlags := 0, nameIndex := 5, descriptorIndex := 24, attributes := #[] }, { accessFlags := 1, nameIndex := 31, descriptorIndex := 32, attributes := #[] }] 48 2 #[] #[{ accessFlags := 18, nameIndex := 11, descriptorIndex := 12, attributes := #[] }, { accessFlags := 18, nameIndex := 15, descriptorIndex := 12, attributes := #[] }, { accessFlags := 18, nameIndex := 18, descriptorIndex := 19, attributes := #[] }])
  fields := #[{ name := "applied", type := .int, accessFlags := 18, slot := 0, constantValue := 0 }, { name := "uncertain", type := .int, accessFlags := 18, slot := 1, constantValue := 0 }, { name := "resumable", type := .boolean, accessFlags := 18, slot := 2, constantValue := 0 }]
  methods := #[k3m0, k3m1]
  instanceTypes := #[.int, .int, .boolean]
  staticTypes := #[]
  resolved := Array.replicate 57 none
  statics := none }

def pool4 : Array CpInfo := pool [(1, u "java/lang/Cloneable"), (0, .class_ 1), (0, u "java/lang/Object"), (0, .class_ 3)] 3

/-- java/lang/Cloneable -/
def k4 : Class := { plain "java/lang/Cloneable" (some 0) with
  accessFlags := 1537
  interfaces := #[]
  cf := some (fileOf pool4 2 #[] #[] 1537 4 #[] #[])
  fields := #[]
  methods := #[]
  instanceTypes := #[]
  staticTypes := #[]
  resolved := Array.replicate 8 none
  statics := none }

def pool5 : Array CpInfo := pool [(1, u "java/io/Serializable"), (0, .class_ 1), (0, u "java/lang/Object"), (0, .class_ 3)] 3

/-- java/io/Serializable -/
def k5 : Class := { plain "java/io/Serializable" (some 0) with
  accessFlags := 1537
  interfaces := #[]
  cf := some (fileOf pool5 2 #[] #[] 1537 4 #[] #[])
  fields := #[]
  methods := #[]
  instanceTypes := #[]
  staticTypes := #[]
  resolved := Array.replicate 8 none
  statics := none }

/-- the primitive byte -/
def k6 : Class := { plain "byte" none with kind := .primitive 'B', accessFlags := 0x411 }
/-- [B -/
def k7 : Class := { plain "[B" (some 0) with kind := .array 6 .byte, interfaces := #[4, 5], accessFlags := 1041 }

/-- the primitive int -/
def k8 : Class := { plain "int" none with kind := .primitive 'I', accessFlags := 0x411 }
/-- [I -/
def k9 : Class := { plain "[I" (some 0) with kind := .array 8 .int, interfaces := #[4, 5], accessFlags := 1041 }

def heap : Heap := #[]
def classes : Array Class := #[k0, k1, k2, k3, k4, k5, k6, k7, k8, k9]
def interned : List (Array UInt16 × Addr) := []
def slotsUsed : Nat := 0
def theMethod : MethodId := ⟨1, 1⟩
def args0 : Array Value := #[.int 5, .int 3, .int 1]
def aboutOver (below : List Frame) : State where
  vm := { classes := classes, interned := interned.toArray }
  heap := heap
  slotsUsed := slotsUsed
  threads := #[{ frames := .invoking theMethod args0 :: below }]
def below0 : List Frame := [.native { method := ⟨0, 0⟩, args := #[] }]
def about1 : State := aboutOver below0
def p0 : Program := .bare "" "" ""
def e0 : Env := launch0.env 0 0 0
theorem w_frames : about1.frames = Frame.invoking theMethod args0 :: below0 := rfl
set_option maxRecDepth 65536 in
theorem w_args : argsFit about1.vm theMethod args0 = true := by decide +kernel
set_option maxRecDepth 65536 in
theorem w_heap : heapFits about1 = true := by decide +kernel
set_option maxRecDepth 65536 in
theorem w_runnable : about1.curStatus? = some .runnable := by decide +kernel
set_option maxRecDepth 65536 in
theorem w_alone : about1.alone = true := by decide +kernel
set_option maxRecDepth 65536 in
theorem w_named : about1.methodNamed? x = some theMethod := by decide +kernel
set_option maxRecDepth 65536 in
theorem w_hears : about1.hears theMethod below0 = true := by decide +kernel
set_option maxRecDepth 65536 in
theorem w_ripe : about1.ripe theMethod args0 below0 = true := by decide +kernel
theorem w_running : about1.status = .running := rfl
set_option maxRecDepth 65536 in
theorem w_room : about1.hasRoom e0.platform room_1 = true :=
  launch0.hasRoom_least _ room_1 (by decide +kernel) (by decide +kernel) (by decide +kernel) (by decide +kernel) (by decide +kernel) (by decide +kernel)
theorem allAtoms_all (ts : List Jvm.Cond) (a : Array Jvm.Value) (st : Jvm.State) : (allAtoms ts).before a st = ts.all (fun c => c.before a st) := by
  induction ts with
  | nil => rfl
  | cons c t ih =>
    show (Jvm.Cond.and c (allAtoms t)).before a st = _
    rw [Jvm.Cond.before_and, ih, List.all_cons]
def words1 : List Jvm.Cond := Jvm.Cond.code x code maxLocals ret :: tables_1
/-- a 'code' word, met by the world's own term for the bytes: nothing is compared byte by byte -/
theorem code_word {y : MethodName} {bytes : ByteArray} {mx : Nat} {rt : Option FieldType} {a : Array Value} {s : State} {m : MethodId} {meth : Method} {c : Code} (h1 : s.methodNamed? y = some m) (h2 : s.vm.method? m = some meth) (h3 : meth.code = some c) (h4 : c.code = bytes)
    (h5 : (c.maxLocals == mx && c.exceptionTable.isEmpty && decide (c.maxStack ≤ mostOperands) && decide (meth.sig.returnType = rt) && !meth.locks && decide (parseMethodDescriptor y.desc = some meth.sig)) = true) : (Jvm.Cond.code y bytes mx rt).before a s = true := by
  simp only [Bool.and_eq_true, beq_iff_eq, Bool.not_eq_true', decide_eq_true_eq] at h5
  obtain ⟨⟨⟨⟨⟨g1, g2⟩, g3⟩, g4⟩, g5⟩, g6⟩ := h5
  simp [Cond.before, Cond.holds, Cond.value, h1, h2, h3, h4, g1, g2, g3, g4, g5, g6]
def isCode : Jvm.Cond → Bool
  | .code _ _ _ _ => true
  | _ => false
theorem all_split {L : List Jvm.Cond} {P : Jvm.Cond → Bool} (h1 : L.all (fun c => isCode c || P c) = true) (h2 : ∀ c ∈ L.filter isCode, P c = true) : L.all P = true := by
  refine List.all_eq_true.mpr fun c hc => ?_
  have h := List.all_eq_true.mp h1 c hc
  rcases Bool.eq_false_or_eq_true (isCode c) with hi | hi
  · exact h2 c (List.mem_filter.mpr ⟨hc, hi⟩)
  · simpa [hi] using h
set_option maxRecDepth 65536 in
theorem w_c0 : (Jvm.Cond.code x code maxLocals ret).before args0 about1 = true := code_word (m := ⟨1, 1⟩) (meth := k1m1) (c := k1c1) (by decide +kernel) rfl rfl rfl (by decide +kernel)
set_option maxRecDepth 65536 in
theorem w_c1 : (Jvm.Cond.code ({ cls := "com/example/schemactl/schemactl/Unfinished", name := "<init>", desc := "(IIZ)V" } : Jvm.MethodName) prog_32_method_1_code (4 : Nat) (Option.none : Option Jvm.ClassFile.FieldType)).before args0 about1 = true := code_word (m := ⟨3, 0⟩) (meth := k3m0) (c := k3c0) (by decide +kernel) rfl rfl rfl (by decide +kernel)
set_option maxRecDepth 65536 in
theorem w_c2 : (Jvm.Cond.code ({ cls := "java/lang/Record", name := "<init>", desc := "()V" } : Jvm.MethodName) jdk_30_method_1_code (1 : Nat) (Option.none : Option Jvm.ClassFile.FieldType)).before args0 about1 = true := code_word (m := ⟨2, 0⟩) (meth := k2m0) (c := k2c0) (by decide +kernel) rfl rfl rfl (by decide +kernel)
set_option maxRecDepth 65536 in
theorem w_c3 : (Jvm.Cond.code ({ cls := "java/lang/Object", name := "<init>", desc := "()V" } : Jvm.MethodName) object_method_1_code (1 : Nat) (Option.none : Option Jvm.ClassFile.FieldType)).before args0 about1 = true := code_word (m := ⟨0, 0⟩) (meth := k0m0) (c := k0c0) (by decide +kernel) rfl rfl rfl (by decide +kernel)
set_option maxRecDepth 65536 in
theorem w_c4 : (Jvm.Cond.code ({ cls := "com/example/schemactl/schemactl/Unfinished", name := "hashCode", desc := "()I" } : Jvm.MethodName) prog_32_method_3_code (1 : Nat) (Option.some Jvm.ClassFile.FieldType.int)).before args0 about1 = true := code_word (m := ⟨3, 1⟩) (meth := k3m1) (c := k3c1) (by decide +kernel) rfl rfl rfl (by decide +kernel)
def codes1 : List Jvm.Cond := [Jvm.Cond.code x code maxLocals ret, Jvm.Cond.code ({ cls := "com/example/schemactl/schemactl/Unfinished", name := "<init>", desc := "(IIZ)V" } : Jvm.MethodName) prog_32_method_1_code (4 : Nat) (Option.none : Option Jvm.ClassFile.FieldType), Jvm.Cond.code ({ cls := "java/lang/Record", name := "<init>", desc := "()V" } : Jvm.MethodName) jdk_30_method_1_code (1 : Nat) (Option.none : Option Jvm.ClassFile.FieldType), Jvm.Cond.code ({ cls := "java/lang/Object", name := "<init>", desc := "()V" } : Jvm.MethodName) object_method_1_code (1 : Nat) (Option.none : Option Jvm.ClassFile.FieldType), Jvm.Cond.code ({ cls := "com/example/schemactl/schemactl/Unfinished", name := "hashCode", desc := "()I" } : Jvm.MethodName) prog_32_method_3_code (1 : Nat) (Option.some Jvm.ClassFile.FieldType.int)]
set_option maxRecDepth 65536 in
theorem codes_eq : words1.filter isCode = codes1 := rfl
theorem w_codes : ∀ c ∈ words1.filter isCode, c.before args0 about1 = true := by
  rw [codes_eq]
  intro c hc
  simp only [codes1, List.mem_cons, List.not_mem_nil, or_false] at hc
  rcases hc with rfl | rfl | rfl | rfl | rfl
  · exact w_c0
  · exact w_c1
  · exact w_c2
  · exact w_c3
  · exact w_c4
set_option maxRecDepth 65536 in
theorem w_t1 : (words1.take 24).all (fun c => isCode c || c.before args0 about1) = true := by decide +kernel
set_option maxRecDepth 65536 in
theorem w_t2 : (words1.drop 24).all (fun c => isCode c || c.before args0 about1) = true := by decide +kernel
theorem w_tables : (allAtoms (Jvm.Cond.code x code maxLocals ret :: tables_1)).before args0 about1 = true := by
  rw [allAtoms_all]
  show words1.all (fun c => c.before args0 about1) = true
  refine all_split ?_ w_codes
  rw [← List.take_append_drop 24 words1, List.all_append, w_t1, w_t2]
  rfl
set_option maxRecDepth 65536 in
theorem w_case : (Jvm.Cond.and given_1 narrow_1).before args0 about1 = true := by decide +kernel
theorem w_applies : (headSpec (Jvm.Cond.code x code maxLocals ret :: tables_1) room_1).applies x e0.platform about1 = true :=
  (Spec.applies_iff w_frames).mpr ⟨w_running, w_runnable, w_alone, w_named, w_hears, w_ripe, w_room, w_tables⟩
theorem atStart : AtStart classFile x code maxLocals ret World_1 tables_1 room_1 Calls_1 rest_1 Pre_1 launch0 p0 e0 about1 theMethod args0 below0 :=
  ⟨lists_1, trivial, launch0.admits_env _ _ _, launch0.least_env, fairChoices_fair.cas, fairChoices_fair.clock, w_frames, w_args, w_heap, w_applies, trivial, trivial, w_case⟩
end start1
theorem witness_1 : WitnessClaimed_1 := ⟨start1.p0, start1.e0, start1.about1, start1.theMethod, start1.args0, start1.below0, start1.atStart⟩
end Jvm.Pilot.@@N@@
